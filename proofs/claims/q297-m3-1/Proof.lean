import JvmDerived
import JvmDerived.Pilot.@@N@@Statement
import JvmDerived.Pilot.@@N@@Code
set_option linter.unusedVariables false
set_option linter.unusedSimpArgs false
@@BLOCK:NumsL.lean.txt@@
namespace Jvm.RoadKit
open Sem ClassFile Op Lib Jvm.Stand Jvm.Free Jvm.LawKit
section New
variable {p : Program} {l : Launch} {e : Env} {R : Room} {s : State} {m : MethodId} {args : Array Value} {below : List Frame} {meth : Method} {c : Code} {T : State} {locs : List Loc} {cells slots : Nat}
theorem retI (X : Stand p l e R s m args below meth c T locs cells slots) (hx : p.tables.exec = Jvm.exec) {pc : Nat} {Ls : Array Slot} {z : Int32} {rest : List Value} (hret : meth.sig.returnType = some .int) (hd : decode c.code pc = .ok (.ireturn, 1)) {fs : List Frame}
    (hl : ∀ (f : JFrame) (acts : List Action), f.method = m → f.locked = none → f.entered = [] → (doReturn e (T.setTop f) acts (some (.int z))).1 = T.setFrames fs) : Steps p.tables e below (T.setTop (mkF m pc Ls (.int z :: rest))) (T.setFrames fs) := by
  have hm' : T.vm.method? m = some meth := X.method'
  have hn : narrow .int (.int z) = .int z := rfl
  show Steps p.tables e below (T.setTop { method := m, pc := pc, locals := Ls, stack := _ :: rest, locked := none }) _
  jvm_step X.here [X.here.top, hx, hd, hm', hret, hn]
  first | (intro acts; rw [hl _ acts rfl rfl rfl]) | rw [hl _ _ rfl rfl rfl]
  exact Steps.refl _
end New
end Jvm.RoadKit
namespace Jvm.Pilot.@@N@@
open Jvm Jvm.ClassFile Sem Op Lib Jvm.Free Jvm.Stand Jvm.LawKit Jvm.RoadKit Bundle Jvm.Pilot.@@N@@.Jvm.D
/-- from S0 the run comes to T with the frame g on top -/
abbrev Pth (p : Program) (e : Env) (below : List Frame) (S0 T : State) (g : JFrame) : Prop := ∀ t, Steps p.tables e below (T.setTop g) t → Steps p.tables e below S0 t
theorem ef_ini (m : MethodId) (x0 : Addr) (x1 : Int32) (x2 : Addr)  : entryFrame m #[(.ref x0), (.int x1), (.ref x2)] 6 = mkF m 0 #[.val (.ref x0), .val (.int x1), .val (.ref x2), .unset, .unset, .unset] [] := by first | (simp [entryFrame, mkF, argsToLocals, Value.category]; done) | rfl
theorem pn_com_example_parfactor_parfactor_model_PotentialTable : plainName "com/example/parfactor/parfactor/model/PotentialTable" = true := by first | (simp [plainName, overriddenIn]; done) | decide +kernel
theorem d_ini_0 : decode prog_61_method_1_code 0 = .ok (.aload_n 0, 1) := by decide +kernel
theorem d_ini_1 : decode prog_61_method_1_code 1 = .ok (.invokespecial 1, 3) := by decide +kernel
theorem d_ini_4 : decode prog_61_method_1_code 4 = .ok (.iload_n 1, 1) := by decide +kernel
theorem d_ini_5 : decode prog_61_method_1_code 5 = .ok (.ifCond .lt 9, 3) := by decide +kernel
theorem d_ini_8 : decode prog_61_method_1_code 8 = .ok (.iload_n 1, 1) := by decide +kernel
theorem d_ini_9 : decode prog_61_method_1_code 9 = .ok (.bipush 30, 2) := by decide +kernel
theorem d_ini_11 : decode prog_61_method_1_code 11 = .ok (.if_icmp .le 17, 3) := by decide +kernel
theorem d_ini_28 : decode prog_61_method_1_code 28 = .ok (.aload_n 2, 1) := by decide +kernel
theorem d_ini_29 : decode prog_61_method_1_code 29 = .ok (.invokevirtual 18, 3) := by decide +kernel
theorem d_ini_32 : decode prog_61_method_1_code 32 = .ok (.checkcast 19, 3) := by decide +kernel
theorem d_ini_35 : decode prog_61_method_1_code 35 = .ok (.astore_n 3, 1) := by decide +kernel
theorem d_ini_36 : decode prog_61_method_1_code 36 = .ok (.iconst 1, 1) := by decide +kernel
theorem d_ini_37 : decode prog_61_method_1_code 37 = .ok (.iload_n 1, 1) := by decide +kernel
theorem d_ini_38 : decode prog_61_method_1_code 38 = .ok (.ishl, 1) := by decide +kernel
theorem d_ini_39 : decode prog_61_method_1_code 39 = .ok (.istore 4, 2) := by decide +kernel
theorem d_ini_41 : decode prog_61_method_1_code 41 = .ok (.aload_n 3, 1) := by decide +kernel
theorem d_ini_42 : decode prog_61_method_1_code 42 = .ok (.arraylength, 1) := by decide +kernel
theorem d_ini_43 : decode prog_61_method_1_code 43 = .ok (.iload 4, 2) := by decide +kernel
theorem d_ini_45 : decode prog_61_method_1_code 45 = .ok (.if_icmp .eq 22, 3) := by decide +kernel
theorem d_ini_67 : decode prog_61_method_1_code 67 = .ok (.iconst 0, 1) := by decide +kernel
theorem d_ini_68 : decode prog_61_method_1_code 68 = .ok (.istore 5, 2) := by decide +kernel
theorem d_ini_70 : decode prog_61_method_1_code 70 = .ok (.iload 5, 2) := by decide +kernel
theorem d_ini_72 : decode prog_61_method_1_code 72 = .ok (.aload_n 3, 1) := by decide +kernel
theorem d_ini_73 : decode prog_61_method_1_code 73 = .ok (.arraylength, 1) := by decide +kernel
theorem d_ini_74 : decode prog_61_method_1_code 74 = .ok (.if_icmp .ge 50, 3) := by decide +kernel
theorem d_ini_77 : decode prog_61_method_1_code 77 = .ok (.aload_n 3, 1) := by decide +kernel
theorem d_ini_78 : decode prog_61_method_1_code 78 = .ok (.iload 5, 2) := by decide +kernel
theorem d_ini_80 : decode prog_61_method_1_code 80 = .ok (.daload, 1) := by decide +kernel
theorem d_ini_81 : decode prog_61_method_1_code 81 = .ok (.dconst 0, 1) := by decide +kernel
theorem d_ini_82 : decode prog_61_method_1_code 82 = .ok (.dcmp .l, 1) := by decide +kernel
theorem d_ini_83 : decode prog_61_method_1_code 83 = .ok (.ifCond .lt 14, 3) := by decide +kernel
theorem d_ini_86 : decode prog_61_method_1_code 86 = .ok (.aload_n 3, 1) := by decide +kernel
theorem d_ini_87 : decode prog_61_method_1_code 87 = .ok (.iload 5, 2) := by decide +kernel
theorem d_ini_89 : decode prog_61_method_1_code 89 = .ok (.daload, 1) := by decide +kernel
theorem d_ini_90 : decode prog_61_method_1_code 90 = .ok (.ldc2_w 29, 3) := by decide +kernel
theorem d_ini_93 : decode prog_61_method_1_code 93 = .ok (.dcmp .g, 1) := by decide +kernel
theorem d_ini_94 : decode prog_61_method_1_code 94 = .ok (.ifCond .lt 24, 3) := by decide +kernel
theorem d_ini_118 : decode prog_61_method_1_code 118 = .ok (.iinc 5 1, 3) := by decide +kernel
theorem d_ini_121 : decode prog_61_method_1_code 121 = .ok (.goto (-51), 3) := by decide +kernel
theorem d_ini_124 : decode prog_61_method_1_code 124 = .ok (.aload_n 0, 1) := by decide +kernel
theorem d_ini_125 : decode prog_61_method_1_code 125 = .ok (.iload_n 1, 1) := by decide +kernel
theorem d_ini_126 : decode prog_61_method_1_code 126 = .ok (.putfield 34, 3) := by decide +kernel
theorem d_ini_129 : decode prog_61_method_1_code 129 = .ok (.aload_n 0, 1) := by decide +kernel
theorem d_ini_130 : decode prog_61_method_1_code 130 = .ok (.aload_n 3, 1) := by decide +kernel
theorem d_ini_131 : decode prog_61_method_1_code 131 = .ok (.putfield 38, 3) := by decide +kernel
theorem d_ini_134 : decode prog_61_method_1_code 134 = .ok (.return_, 1) := by decide +kernel
theorem ef_ix (m : MethodId) (x0 : Addr) (x1 : Addr)  : entryFrame m #[(.ref x0), (.ref x1)] 7 = mkF m 0 #[.val (.ref x0), .val (.ref x1), .unset, .unset, .unset, .unset, .unset] [] := by first | (simp [entryFrame, mkF, argsToLocals, Value.category]; done) | rfl
theorem d_ix_0 : decode prog_61_method_6_code 0 = .ok (.aload_n 1, 1) := by decide +kernel
theorem d_ix_1 : decode prog_61_method_6_code 1 = .ok (.arraylength, 1) := by decide +kernel
theorem d_ix_2 : decode prog_61_method_6_code 2 = .ok (.aload_n 0, 1) := by decide +kernel
theorem d_ix_3 : decode prog_61_method_6_code 3 = .ok (.getfield 34, 3) := by decide +kernel
theorem d_ix_6 : decode prog_61_method_6_code 6 = .ok (.if_icmp .eq 26, 3) := by decide +kernel
theorem d_ix_32 : decode prog_61_method_6_code 32 = .ok (.iconst 0, 1) := by decide +kernel
theorem d_ix_33 : decode prog_61_method_6_code 33 = .ok (.istore_n 2, 1) := by decide +kernel
theorem d_ix_34 : decode prog_61_method_6_code 34 = .ok (.aload_n 1, 1) := by decide +kernel
theorem d_ix_35 : decode prog_61_method_6_code 35 = .ok (.astore_n 3, 1) := by decide +kernel
theorem d_ix_36 : decode prog_61_method_6_code 36 = .ok (.aload_n 3, 1) := by decide +kernel
theorem d_ix_37 : decode prog_61_method_6_code 37 = .ok (.arraylength, 1) := by decide +kernel
theorem d_ix_38 : decode prog_61_method_6_code 38 = .ok (.istore 4, 2) := by decide +kernel
theorem d_ix_40 : decode prog_61_method_6_code 40 = .ok (.iconst 0, 1) := by decide +kernel
theorem d_ix_41 : decode prog_61_method_6_code 41 = .ok (.istore 5, 2) := by decide +kernel
theorem d_ix_43 : decode prog_61_method_6_code 43 = .ok (.iload 5, 2) := by decide +kernel
theorem d_ix_45 : decode prog_61_method_6_code 45 = .ok (.iload 4, 2) := by decide +kernel
theorem d_ix_47 : decode prog_61_method_6_code 47 = .ok (.if_icmp .ge 30, 3) := by decide +kernel
theorem d_ix_50 : decode prog_61_method_6_code 50 = .ok (.aload_n 3, 1) := by decide +kernel
theorem d_ix_51 : decode prog_61_method_6_code 51 = .ok (.iload 5, 2) := by decide +kernel
theorem d_ix_53 : decode prog_61_method_6_code 53 = .ok (.baload, 1) := by decide +kernel
theorem d_ix_54 : decode prog_61_method_6_code 54 = .ok (.istore 6, 2) := by decide +kernel
theorem d_ix_56 : decode prog_61_method_6_code 56 = .ok (.iload_n 2, 1) := by decide +kernel
theorem d_ix_57 : decode prog_61_method_6_code 57 = .ok (.iconst 1, 1) := by decide +kernel
theorem d_ix_58 : decode prog_61_method_6_code 58 = .ok (.ishl, 1) := by decide +kernel
theorem d_ix_59 : decode prog_61_method_6_code 59 = .ok (.iload 6, 2) := by decide +kernel
theorem d_ix_61 : decode prog_61_method_6_code 61 = .ok (.ifCond .eq 7, 3) := by decide +kernel
theorem d_ix_68 : decode prog_61_method_6_code 68 = .ok (.iconst 1, 1) := by decide +kernel
theorem d_ix_64 : decode prog_61_method_6_code 64 = .ok (.iconst 0, 1) := by decide +kernel
theorem d_ix_65 : decode prog_61_method_6_code 65 = .ok (.goto 4, 3) := by decide +kernel
theorem d_ix_69 : decode prog_61_method_6_code 69 = .ok (.ior, 1) := by decide +kernel
theorem d_ix_70 : decode prog_61_method_6_code 70 = .ok (.istore_n 2, 1) := by decide +kernel
theorem d_ix_71 : decode prog_61_method_6_code 71 = .ok (.iinc 5 1, 3) := by decide +kernel
theorem d_ix_74 : decode prog_61_method_6_code 74 = .ok (.goto (-31), 3) := by decide +kernel
theorem d_ix_77 : decode prog_61_method_6_code 77 = .ok (.iload_n 2, 1) := by decide +kernel
theorem d_ix_78 : decode prog_61_method_6_code 78 = .ok (.ireturn, 1) := by decide +kernel
theorem ef_sz (m : MethodId) (x0 : Addr)  : entryFrame m #[(.ref x0)] 1 = mkF m 0 #[.val (.ref x0)] [] := by first | (simp [entryFrame, mkF, argsToLocals, Value.category]; done) | rfl
theorem d_sz_0 : decode prog_61_method_3_code 0 = .ok (.aload_n 0, 1) := by decide +kernel
theorem d_sz_1 : decode prog_61_method_3_code 1 = .ok (.getfield 38, 3) := by decide +kernel
theorem d_sz_4 : decode prog_61_method_3_code 4 = .ok (.arraylength, 1) := by decide +kernel
theorem d_sz_5 : decode prog_61_method_3_code 5 = .ok (.ireturn, 1) := by decide +kernel
theorem ef_law (m : MethodId) (x0 : Int32) (x1 : Int32)  : entryFrame m #[(.int x0), (.int x1)] maxLocals = mkF m 0 #[.val (.int x0), .val (.int x1), .unset, .unset, .unset, .unset, .unset, .unset, .unset, .unset, .unset] [] := by first | (simp [entryFrame, mkF, argsToLocals, Value.category, maxLocals]; done) | rfl
theorem pn_com_example_parfactor_parfactor_model_PotentialTableIndexOfPinLaw : plainName "com/example/parfactor/parfactor/model/PotentialTableIndexOfPinLaw" = true := by first | (simp [plainName, overriddenIn]; done) | decide +kernel
theorem pd__I_D_V : parseMethodDescriptor "(I[D)V" = some ⟨[.int, (.array .double)], none⟩ := by decide +kernel
theorem pd___Z_I : parseMethodDescriptor "([Z)I" = some ⟨[(.array .boolean)], some .int⟩ := by decide +kernel
theorem pd___I : parseMethodDescriptor "()I" = some ⟨[], some .int⟩ := by decide +kernel
/-- the array at a has n places, of kind ty, and holds f -/
def OFun (Z : State) (h : Heap) (a : Addr) (ty : FieldType) (n : Nat) (f : Nat → Value) : Prop := ∃ c : Cell, Arr Z h a c ty ∧ c.slots.size = n ∧ ∀ j, j < n → c.slots[j]? = some (f j)
theorem OFun.lt {Z : State} {h : Heap} {a : Addr} {ty : FieldType} {n : Nat} {f : Nat → Value} (F : OFun Z h a ty n f) : a < h.size := by obtain ⟨c, A, -⟩ := F; exact A.lt
theorem OFun.ext {Z : State} {h h' : Heap} {a : Addr} {ty : FieldType} {n : Nat} {f : Nat → Value} (F : OFun Z h a ty n f) (E : Ext h h') : OFun Z h' a ty n f := by obtain ⟨c, A, r⟩ := F; exact ⟨c, A.ext E, r⟩
theorem OFun.other {Z : State} {h h' : Heap} {a b : Addr} {ty : FieldType} {n sl : Nat} {v : Value} {f : Nat → Value} (F : OFun Z h a ty n f) (W : Wr h h' b sl v) (q : a ≠ b) : OFun Z h' a ty n f := by obtain ⟨c, A, r⟩ := F; exact ⟨c, A.other W q, r⟩
theorem OFun.keep {Z : State} {h h' : Heap} {a : Addr} {ty : FieldType} {n : Nat} {ws : List Addr} {f : Nat → Value} (F : OFun Z h a ty n f) (K : Keep h h' ws) (q : a ∉ ws) : OFun Z h' a ty n f := by obtain ⟨c, A, r⟩ := F; exact ⟨c, ⟨K.2.1 a c A.1 q, A.2⟩, r⟩
theorem OFun.congr {Z : State} {h : Heap} {a : Addr} {ty : FieldType} {n : Nat} {f g : Nat → Value} (F : OFun Z h a ty n f) (q : ∀ j, j < n → f j = g j) : OFun Z h a ty n g := by obtain ⟨c, A, r1, r2⟩ := F; exact ⟨c, A, r1, fun j hj => by rw [r2 j hj, q j hj]⟩
theorem OFun.new {Z : State} {h : Heap} {a : Addr} {ty : FieldType} {k : ClassId} {z : Int32} (A : Arr Z h a (newA k ty z) ty) : OFun Z h a ty z.toNatClampNeg (fun _ => defaultValue ty) := ⟨_, A, sz_new _ _ _, fun j hj => by simp [newA, hj]⟩
theorem OFun.set {Z : State} {h h' : Heap} {a : Addr} {ty : FieldType} {n i : Nat} {v : Value} {f : Nat → Value} (F : OFun Z h a ty n f) (W : Wr h h' a i v) : OFun Z h' a ty n (fun j => if j = i then v else f j) := by
  obtain ⟨c, A, r1, r2⟩ := F
  refine ⟨_, A.same W, by rw [sz_set]; exact r1, fun j hj => ?_⟩
  by_cases q : j = i
  · subst q
    simp [Cell.setSlot, r1, hj]
  · simp only [q, if_false]
    rw [← r2 j hj]
    simp [Cell.setSlot, Array.getElem?_setIfInBounds, Ne.symm q]
theorem own_ext_wr {h0 h h' : Heap} {a : Addr} {sl : Nat} {v : Value} (E : Ext h0 h) (W : Wr h h' a sl v) (q : h0.size ≤ a) : Ext h0 h' := by
  refine ⟨by rw [W.size]; exact E.1, fun x c hx => ?_⟩
  have hlt := (Array.getElem?_eq_some_iff.mp hx).1
  obtain ⟨c', e1, -, -, -, e5, -⟩ := wr_at W (E.2 x c hx)
  rw [e1, e5 (Nat.ne_of_lt (Nat.lt_of_lt_of_le hlt q))]
theorem own_ext_trans {h0 h h' : Heap} (E : Ext h0 h) (E' : Ext h h') : Ext h0 h' := ⟨Nat.le_trans E.1 E'.1, fun x c hx => E'.2 x c (E.2 x c hx)⟩
theorem own_ext_refl (h : Heap) : Ext h h := ⟨Nat.le_refl _, fun _ _ q => q⟩
theorem own_ext_keep {h0 h h' : Heap} {ws : List Addr} (E : Ext h0 h) (K : Keep h h' ws) (q : ∀ x ∈ ws, h0.size ≤ x) : Ext h0 h' := ⟨Nat.le_trans E.1 K.1, fun x c hx => K.2.1 x c (E.2 x c hx) fun z => by
  have hlt := (Array.getElem?_eq_some_iff.mp hx).1
  exact absurd hlt (Nat.not_lt.mpr (q x z))⟩
theorem own_keep_ext {h h' : Heap} (E : Ext h h') (ws : List Addr) : Keep h h' ws := (Keep.refl h ws).ext E
theorem own_in {j : Int32} {i n : Nat} (h0 : j.toInt = i) (h1 : i < n) : ¬ (j < 0 ∨ n ≤ j.toNatClampNeg) := by
  have e : j.toNatClampNeg = i := by
    show j.toInt.toNat = i
    omega
  rintro (q | q)
  · rw [Int32.lt_iff_toInt_lt] at q
    have z : (0 : Int32).toInt = 0 := rfl
    omega
  · omega
theorem own_cl {j : Int32} {i : Nat} (h0 : j.toInt = i) : j.toNatClampNeg = i := by
  show j.toInt.toNat = i
  omega
theorem own_ofN {n : Nat} (h : n < 2 ^ 31) : (Int32.ofNat n).toInt = n := Int32.toInt_ofNat_of_lt h
def OPT (Z : State) (h : Heap) (a : Addr) (ar : Int32) (r : Addr) (N : Nat) : Prop := Exa Z h a "com/example/parfactor/parfactor/model/PotentialTable" ∧ Fld Z h a "com/example/parfactor/parfactor/model/PotentialTable" "arity" "I" (.int ar) ∧ Fld Z h a "com/example/parfactor/parfactor/model/PotentialTable" "potentials" "[D" (.ref r) ∧ OFun Z h r .double N (fun _ => .double 0) ∧ a ≠ r
theorem OPT.ext {Z : State} {h h' : Heap} {a r : Addr} {ar : Int32} {N : Nat} (F : OPT Z h a ar r N) (E : Ext h h') : OPT Z h' a ar r N := ⟨F.1.ext E, F.2.1.ext E, F.2.2.1.ext E, F.2.2.2.1.ext E, F.2.2.2.2⟩
theorem OPT.other {Z : State} {h h' : Heap} {a r b : Addr} {sl : Nat} {v : Value} {ar : Int32} {N : Nat} (F : OPT Z h a ar r N) (W : Wr h h' b sl v) (q1 : a ≠ b) (q2 : r ≠ b) : OPT Z h' a ar r N := ⟨F.1.wr W, F.2.1.other W (Or.inl q1), F.2.2.1.other W (Or.inl q1), F.2.2.2.1.other W q2, F.2.2.2.2⟩
def own_one (s : Slot) : Prop := s = .unset ∨ ∃ z : Int32, s = .val (.int z)
theorem own_st6 {a b : Addr} {x2 x4 x5 x : Int32} {s : Slot} (h : own_one s) : storeLocals #[.val (.ref a), .val (.ref b), .val (.int x2), .val (.ref b), .val (.int x4), .val (.int x5), s] 6 (.int x) = some #[.val (.ref a), .val (.ref b), .val (.int x2), .val (.ref b), .val (.int x4), .val (.int x5), .val (.int x)] := by
  rcases h with rfl | ⟨z, rfl⟩ <;> rfl
def own_ixf (bf : Nat → Int32) : Nat → Int32
  | 0 => 0
  | n + 1 => ((own_ixf bf n <<< ((1 : Int32) &&& 31)) ||| (if bf n = 0 then 1 else 0))
def own_bf (v0 v1 v2 v3 : Int32) (j : Nat) : Int32 := match j with | 0 => v0 | 1 => v1 | 2 => v2 | _ => v3
theorem own_nneg {z : Int32} (h : 0 ≤ z.toInt) : ¬ z < 0 := by
  rw [Int32.lt_iff_toInt_lt]
  have : (0 : Int32).toInt = 0 := rfl
  omega
theorem own_n30 {z : Int32} (h : z.toInt ≤ 4) : ¬ (30 : Int32) < z := by
  rw [Int32.lt_iff_toInt_lt]
  have : (30 : Int32).toInt = 30 := rfl
  omega
theorem own_len {z : Int32} {N : Nat} (h : z.toInt = N) : N.toInt32 = z := by
  have q := (back32 (own_nneg (z := z) (by omega))).1
  rw [own_cl h] at q
  exact q
theorem own_lt {z : Int32} {N i : Nat} (h : z.toInt = N) (hN : N ≤ 16) (hi : i < N) : (Int32.ofNat i) < z := by
  rw [Int32.lt_iff_toInt_lt, own_ofN (by omega)]; omega
theorem own_ge {z : Int32} {N : Nat} (h : z.toInt = N) (hN : N ≤ 16) : ¬ (Int32.ofNat N) < z := by
  rw [Int32.lt_iff_toInt_lt, own_ofN (by omega)]; omega
theorem own_ar {x m : Int32} (h : m = (x &&& (2147483647 : Int32)) % (5 : Int32)) : 0 ≤ m.toInt ∧ m.toInt ≤ 4 := by
  have h0 : 0 ≤ (x &&& (2147483647 : Int32)).toInt := by rw [Jvm.Kit.i32_mask x 2147483647 (k := 31) (by decide) (by decide)]; omega
  have h3 : (5 : Int32).toInt = 5 := rfl
  rw [h, Jvm.Kit.i32_rem_nonneg h0, h3]; omega
theorem own_five {m : Int32} (h : 0 ≤ m.toInt ∧ m.toInt ≤ 4) : m = 0 ∨ m = 1 ∨ m = 2 ∨ m = 3 ∨ m = 4 := by
  have b : m.toInt = 0 ∨ m.toInt = 1 ∨ m.toInt = 2 ∨ m.toInt = 3 ∨ m.toInt = 4 := by omega
  rcases b with q | q | q | q | q
  · exact Or.inl (Int32.toInt_inj.mp q)
  · exact Or.inr (Or.inl (Int32.toInt_inj.mp q))
  · exact Or.inr (Or.inr (Or.inl (Int32.toInt_inj.mp q)))
  · exact Or.inr (Or.inr (Or.inr (Or.inl (Int32.toInt_inj.mp q))))
  · exact Or.inr (Or.inr (Or.inr (Or.inr (Int32.toInt_inj.mp q))))
theorem own_pw {m : Int32} (h : 0 ≤ m.toInt ∧ m.toInt ≤ 4) : ∃ N : Nat, ((1 : Int32) <<< (m &&& 31)).toInt = N ∧ N ≤ 16 ∧ 1 ≤ N := by
  rcases own_five h with rfl | rfl | rfl | rfl | rfl
  · exact ⟨1, by decide, by decide, by decide⟩
  · exact ⟨2, by decide, by decide, by decide⟩
  · exact ⟨4, by decide, by decide, by decide⟩
  · exact ⟨8, by decide, by decide, by decide⟩
  · exact ⟨16, by decide, by decide, by decide⟩
theorem own_cle {z : Int32} {N : Nat} (h : z.toInt = N) (hN : N ≤ 16) : z.toNatClampNeg ≤ 16 := by rw [own_cl h]; exact hN
theorem own_c4 {z : Int32} (h : 0 ≤ z.toInt ∧ z.toInt ≤ 4) : z.toNatClampNeg ≤ 4 := by
  show z.toInt.toNat ≤ 4
  omega
theorem own_M {m : Int32} (h : 0 ≤ m.toInt ∧ m.toInt ≤ 4) : ∃ M : Nat, m.toInt = M ∧ M ≤ 4 := ⟨m.toInt.toNat, by omega, by omega⟩
theorem own_r5 {m z : Int32} {M N : Nat} (h : 0 ≤ m.toInt ∧ m.toInt ≤ 4) (hM : m.toInt = M) (hN : z.toInt = N) (hz : z = ((1 : Int32) <<< (m &&& 31))) : (m = 0 ∧ M = 0 ∧ N = 1) ∨ (m = 1 ∧ M = 1 ∧ N = 2) ∨ (m = 2 ∧ M = 2 ∧ N = 4) ∨ (m = 3 ∧ M = 3 ∧ N = 8) ∨ (m = 4 ∧ M = 4 ∧ N = 16) := by
  have key : ∀ (k : Int32) (a b : Nat), m = k → k.toInt = a → ((1 : Int32) <<< (k &&& 31)).toInt = b → m = k ∧ M = a ∧ N = b := fun k a b e1 e2 e3 => ⟨e1, by rw [e1, e2] at hM; omega, by rw [hz, e1, e3] at hN; omega⟩
  rcases own_five h with e | e | e | e | e
  · exact Or.inl (key 0 0 1 e (by decide) (by decide))
  · exact Or.inr (Or.inl (key 1 1 2 e (by decide) (by decide)))
  · exact Or.inr (Or.inr (Or.inl (key 2 2 4 e (by decide) (by decide))))
  · exact Or.inr (Or.inr (Or.inr (Or.inl (key 3 3 8 e (by decide) (by decide)))))
  · exact Or.inr (Or.inr (Or.inr (Or.inr (key 4 4 16 e (by decide) (by decide)))))

def Q_ini (Z : State) (a1 : Addr) (ar : Int32) (dr : Addr) (N : Nat) (h1 : Heap) (h0 : Heap) (n0 : Nat) (v : Option Value) (h : Heap) (L : List Loc) : Prop := v = none ∧ Fr n0 L ∧ Ext h1 h ∧ ∃ r, OPT Z h a1 ar r N
set_option maxRecDepth 65536 in
set_option maxHeartbeats 40000000 in
theorem rm_ini (l : Launch) (Z : State) (a0 : Array Value) (hw : ∀ d ∈ tables_1, d.before a0 Z = true) (ws : List Jvm.Cond) (a1 : Addr) (ar : Int32) (dr : Addr) (N : Nat) (h1 : Heap) (h0 : Heap) (n0 : Nat) (Z0 : n0 ≤ h0.size) (ga : n0 ≤ a1) (g1 : h1.size ≤ a1) (x1 : Ext h1 h0) (hA : 0 ≤ ar.toInt ∧ ar.toInt ≤ 4) (hN : ((1 : Int32) <<< (ar &&& 31)).toInt = N ∧ N ≤ 16) (Ea : Exa Z h0 a1 "com/example/parfactor/parfactor/model/PotentialTable") (F1 : Fld Z h0 a1 "com/example/parfactor/parfactor/model/PotentialTable" "arity" "I" (.int 0)) (F2 : Fld Z h0 a1 "com/example/parfactor/parfactor/model/PotentialTable" "potentials" "[D" .null) (Fd : OFun Z h0 dr .double N (fun _ => .double 0)) (Ed : Exa Z h0 dr "[D") :
    MetFree l (⟨"com/example/parfactor/parfactor/model/PotentialTable", "<init>", "(I[D)V"⟩ : MethodName) (head1 (Jvm.Cond.code (⟨"com/example/parfactor/parfactor/model/PotentialTable", "<init>", "(I[D)V"⟩ : MethodName) prog_61_method_1_code 6 none :: ws) ({ frames := 1, cells := 1, slots := 16, locals := 20 } : Room)) (fun a U => a = #[(.ref a1), (.int ar), (.ref dr)] ∧ Z.Warmed39 U.vm ∧ U.heap = h0) (fun _ _ _ _ _ => True) (fun _ U o U' => ∃ v L, o = .returned v ∧ Q_ini Z a1 ar dr N h1 h0 n0 v U'.heap L ∧ FrameEnd U o U' L ({ frames := 1, cells := 1, slots := 16, locals := 20 } : Room).cells ({ frames := 1, cells := 1, slots := 16, locals := 20 } : Room).slots) := by
  refine MetFree.of_bodySF (plainFor_of_name pn_com_example_parfactor_parfactor_model_PotentialTable) hisR ?_
  intro p e s m args below meth c s₁ Bd hml0 hP hK
  obtain ⟨rfl, hZ, hh⟩ := hP
  have hx := Bd.exec
  have hby := Bd.bytes
  have hml : c.maxLocals = 6 := hml0
  have hown : s.vm.findClass "com/example/parfactor/parfactor/model/PotentialTable" = some m.cls := findClass_of_methodNamed Bd.named
  have hnm := (name_of_methodNamed Bd.named Bd.method).1
  have X0 : Stand p l e ({ frames := 1, cells := 1, slots := 16, locals := 20 } : Room) s m #[(.ref a1), (.int ar), (.ref dr)] below meth c s₁ [] 0 0 := Stand.of_body Bd
  have e0 : s₁.heap = h0 := by rw [← hh, Bd.state]; rfl
  have N0 := Fr.nil n0
  obtain ⟨S0, hS0⟩ : ∃ S0, S0 = s₁.setTop (entryFrame m #[(.ref a1), (.int ar), (.ref dr)] 6) := ⟨_, rfl⟩
  have pre : Pth p e below S0 s₁ (mkF m 0 #[.val (.ref a1), .val (.int ar), .val (.ref dr), .unset, .unset, .unset] []) := fun t k => by rw [hS0]; exact castTop (ef_ini m a1 ar dr) k
  replace pre : Pth p e below S0 s₁ (mkF m 1 #[.val (.ref a1), .val (.int ar), .val (.ref dr), .unset, .unset, .unset] [(.ref a1)]) := fun t k => pre t (by
    show Steps p.tables e below (s₁.setTop (mkF m 0 #[.val (.ref a1), .val (.int ar), .val (.ref dr), .unset, .unset, .unset] [])) t
    refine XS.aloadN X0.here hx rfl (hb hby d_ini_0) rfl rfl ?_
    show Steps p.tables e below (s₁.setTop (mkF m 1 #[.val (.ref a1), .val (.int ar), .val (.ref dr), .unset, .unset, .unset] [(.ref a1)])) t
    exact k)
  obtain ⟨T1, X1, e1, st1⟩ := initO X0 hx hZ hown (hw _ (List.mem_of_getElem? (i := 8) rfl)) (hw _ (List.mem_of_getElem? (i := 9) rfl)) (hw _ (List.mem_of_getElem? (i := 10) rfl)) e0 (g := (mkF m 1 #[.val (.ref a1), .val (.int ar), .val (.ref dr), .unset, .unset, .unset] [(.ref a1)])) rfl (by rw [hml]; rfl) rfl (hb hby d_ini_1) (by decide) (W := 0) (by show 2 * 0 + _ ≤ _; exact Nat.le_of_eq rfl) (by decide)
  replace pre : Pth p e below S0 T1 (mkF m 4 #[.val (.ref a1), .val (.int ar), .val (.ref dr), .unset, .unset, .unset] []) := fun t k => pre t (st1 _ k)
  replace pre : Pth p e below S0 T1 (mkF m 29 #[.val (.ref a1), .val (.int ar), .val (.ref dr), .unset, .unset, .unset] [(.ref dr)]) := fun t k => pre t (by
    show Steps p.tables e below (T1.setTop (mkF m 4 #[.val (.ref a1), .val (.int ar), .val (.ref dr), .unset, .unset, .unset] [])) t
    refine XS.iloadN X1.here hx rfl (hb hby d_ini_4) rfl ?_
    show Steps p.tables e below (T1.setTop (mkF m 5 #[.val (.ref a1), .val (.int ar), .val (.ref dr), .unset, .unset, .unset] [(.int ar)])) t
    refine XS.ifNo X1.here hx rfl (hb hby d_ini_5) rfl (XT.i0_lt_f (own_nneg hA.1)) ?_
    show Steps p.tables e below (T1.setTop (mkF m 8 #[.val (.ref a1), .val (.int ar), .val (.ref dr), .unset, .unset, .unset] [])) t
    refine XS.iloadN X1.here hx rfl (hb hby d_ini_8) rfl ?_
    show Steps p.tables e below (T1.setTop (mkF m 9 #[.val (.ref a1), .val (.int ar), .val (.ref dr), .unset, .unset, .unset] [(.int ar)])) t
    refine XS.bipush X1.here hx rfl (hb hby d_ini_9) ?_
    show Steps p.tables e below (T1.setTop (mkF m 11 #[.val (.ref a1), .val (.int ar), .val (.ref dr), .unset, .unset, .unset] [(.int (30 : Int32)), (.int ar)])) t
    refine XS.icmpYes X1.here hx rfl (pc0 := 11) (pc' := 28) rfl (hb hby d_ini_11) rfl (XT.ii_le_t (own_n30 hA.2)) (by decide) (by decide) ?_
    show Steps p.tables e below (T1.setTop (mkF m 28 #[.val (.ref a1), .val (.int ar), .val (.ref dr), .unset, .unset, .unset] [])) t
    refine XS.aloadN X1.here hx rfl (hb hby d_ini_28) rfl rfl ?_
    show Steps p.tables e below (T1.setTop (mkF m 29 #[.val (.ref a1), .val (.int ar), .val (.ref dr), .unset, .unset, .unset] [(.ref dr)])) t
    exact k)
  obtain ⟨cd, Ad, Sd, Gd⟩ := id Fd
  have FC : FitC Z cd := fitC_of Ad fun i hi v hv => by rw [Gd i (by rw [← Sd]; exact hi)] at hv; cases hv; rfl
  obtain ⟨T2, h2, X2, e2, E2, A2, Ex2, st2⟩ := cloneA X1 hx hZ hown (hw _ (List.mem_of_getElem? (i := 11) rfl)) (hw _ (List.mem_of_getElem? (i := 12) rfl)) (hw _ (List.mem_of_getElem? (i := 16) rfl)) (hw _ (List.mem_of_getElem? (i := 14) rfl)) (hw _ (List.mem_of_getElem? (i := 15) rfl)) (hw _ (List.mem_of_getElem? (i := 17) rfl)) e1 Ad Ed FC (g := (mkF m 29 #[.val (.ref a1), .val (.int ar), .val (.ref dr), .unset, .unset, .unset] [(.ref dr)])) rfl (by rw [hml]; rfl) rfl (hb hby d_ini_29) (by decide) (W := 0) (cap := 16) (by show 2 * 0 + _ ≤ _; exact Nat.le_of_eq rfl) (by decide) (by rw [Sd]; exact hN.2) (by decide) (by decide)
  obtain ⟨b2, g2⟩ : ∃ z, z = h0.size := ⟨_, rfl⟩
  rw [← g2] at A2 Ex2 st2
  have Fb : OFun Z h2 b2 .double N (fun _ => .double 0) := ⟨_, A2, Sd, Gd⟩
  replace pre : Pth p e below S0 T2 (mkF m 32 #[.val (.ref a1), .val (.int ar), .val (.ref dr), .unset, .unset, .unset] [(.ref b2)]) := fun t k => pre t (st2 _ k)
  obtain ⟨T3, X3, e3, st3⟩ := castY X2 hx hZ hown (hw _ (List.mem_of_getElem? (i := 18) rfl)) e2 (Ins.self Ex2) (g := (mkF m 32 #[.val (.ref a1), .val (.int ar), .val (.ref dr), .unset, .unset, .unset] [(.ref b2)])) rfl rfl (hb hby d_ini_32)
  replace pre : Pth p e below S0 T3 (mkF m 35 #[.val (.ref a1), .val (.int ar), .val (.ref dr), .unset, .unset, .unset] [(.ref b2)]) := fun t k => pre t (st3 _ k)
  replace pre : Pth p e below S0 T3 (mkF m 41 #[.val (.ref a1), .val (.int ar), .val (.ref dr), .val (.ref b2), .val (.int ((1 : Int32) <<< (ar &&& 31))), .unset] []) := fun t k => pre t (by
    show Steps p.tables e below (T3.setTop (mkF m 35 #[.val (.ref a1), .val (.int ar), .val (.ref dr), .unset, .unset, .unset] [(.ref b2)])) t
    refine XS.astoreN X3.here hx rfl (hb hby d_ini_35) rfl rfl (l' := #[.val (.ref a1), .val (.int ar), .val (.ref dr), .val (.ref b2), .unset, .unset]) rfl ?_
    show Steps p.tables e below (T3.setTop (mkF m 36 #[.val (.ref a1), .val (.int ar), .val (.ref dr), .val (.ref b2), .unset, .unset] [])) t
    refine XS.iconst X3.here hx rfl (hb hby d_ini_36) ?_
    show Steps p.tables e below (T3.setTop (mkF m 37 #[.val (.ref a1), .val (.int ar), .val (.ref dr), .val (.ref b2), .unset, .unset] [(.int (1 : Int32))])) t
    refine XS.iloadN X3.here hx rfl (hb hby d_ini_37) rfl ?_
    show Steps p.tables e below (T3.setTop (mkF m 38 #[.val (.ref a1), .val (.int ar), .val (.ref dr), .val (.ref b2), .unset, .unset] [(.int ar), (.int (1 : Int32))])) t
    refine XS.ishl X3.here hx rfl (hb hby d_ini_38) rfl ?_
    show Steps p.tables e below (T3.setTop (mkF m 39 #[.val (.ref a1), .val (.int ar), .val (.ref dr), .val (.ref b2), .unset, .unset] [(.int ((1 : Int32) <<< (ar &&& 31)))])) t
    refine XS.istore X3.here hx rfl (hb hby d_ini_39) rfl (l' := #[.val (.ref a1), .val (.int ar), .val (.ref dr), .val (.ref b2), .val (.int ((1 : Int32) <<< (ar &&& 31))), .unset]) rfl ?_
    show Steps p.tables e below (T3.setTop (mkF m 41 #[.val (.ref a1), .val (.int ar), .val (.ref dr), .val (.ref b2), .val (.int ((1 : Int32) <<< (ar &&& 31))), .unset] [])) t
    exact k)
  obtain ⟨sz, hsz⟩ : ∃ z : Int32, z = ((1 : Int32) <<< (ar &&& 31)) := ⟨_, rfl⟩
  rw [← hsz] at pre
  have hszI : sz.toInt = N := by rw [hsz]; exact hN.1
  have hlen : N.toInt32 = sz := own_len hszI
  replace pre : Pth p e below S0 T3 (mkF m 42 #[.val (.ref a1), .val (.int ar), .val (.ref dr), .val (.ref b2), .val (.int sz), .unset] [(.ref b2)]) := fun t k => pre t (by
    show Steps p.tables e below (T3.setTop (mkF m 41 #[.val (.ref a1), .val (.int ar), .val (.ref dr), .val (.ref b2), .val (.int sz), .unset] [])) t
    refine XS.aloadN X3.here hx rfl (hb hby d_ini_41) rfl rfl ?_
    show Steps p.tables e below (T3.setTop (mkF m 42 #[.val (.ref a1), .val (.int ar), .val (.ref dr), .val (.ref b2), .val (.int sz), .unset] [(.ref b2)])) t
    exact k)
  obtain ⟨cl4, Ar4, Sz4, -⟩ := id Fb
  have hln4 : cl4.slots.size.toInt32 = sz := (congrArg Nat.toInt32 Sz4).trans (hlen)
  replace pre : Pth p e below S0 T3 (mkF m 70 #[.val (.ref a1), .val (.int ar), .val (.ref dr), .val (.ref b2), .val (.int sz), .val (.int (0 : Int32))] []) := fun t k => pre t (by
    show Steps p.tables e below (T3.setTop (mkF m 42 #[.val (.ref a1), .val (.int ar), .val (.ref dr), .val (.ref b2), .val (.int sz), .unset] [(.ref b2)])) t
    refine X3.arraylength hx (by rw [e3]; exact Ar4.1) (State.isArrayOf_alike hZ.alike Ar4.2.1) (g := (mkF m 42 #[.val (.ref a1), .val (.int ar), .val (.ref dr), .val (.ref b2), .val (.int sz), .unset] [(.ref b2)])) rfl rfl (hb hby d_ini_42) _ ?_
    rw [hln4]
    show Steps p.tables e below (T3.setTop (mkF m 43 #[.val (.ref a1), .val (.int ar), .val (.ref dr), .val (.ref b2), .val (.int sz), .unset] [(.int sz)])) t
    refine XS.iload X3.here hx rfl (hb hby d_ini_43) rfl ?_
    show Steps p.tables e below (T3.setTop (mkF m 45 #[.val (.ref a1), .val (.int ar), .val (.ref dr), .val (.ref b2), .val (.int sz), .unset] [(.int sz), (.int sz)])) t
    refine XS.icmpYes X3.here hx rfl (pc0 := 45) (pc' := 67) rfl (hb hby d_ini_45) rfl (XT.ii_eq_t rfl) (by decide) (by decide) ?_
    show Steps p.tables e below (T3.setTop (mkF m 67 #[.val (.ref a1), .val (.int ar), .val (.ref dr), .val (.ref b2), .val (.int sz), .unset] [])) t
    refine XS.iconst X3.here hx rfl (hb hby d_ini_67) ?_
    show Steps p.tables e below (T3.setTop (mkF m 68 #[.val (.ref a1), .val (.int ar), .val (.ref dr), .val (.ref b2), .val (.int sz), .unset] [(.int (0 : Int32))])) t
    refine XS.istore X3.here hx rfl (hb hby d_ini_68) rfl (l' := #[.val (.ref a1), .val (.int ar), .val (.ref dr), .val (.ref b2), .val (.int sz), .val (.int (0 : Int32))]) rfl ?_
    show Steps p.tables e below (T3.setTop (mkF m 70 #[.val (.ref a1), .val (.int ar), .val (.ref dr), .val (.ref b2), .val (.int sz), .val (.int (0 : Int32))] [])) t
    exact k)
  have loop : ∀ (k i : Nat) (T : State), i + k = N → Stand p l e ({ frames := 1, cells := 1, slots := 16, locals := 20 } : Room) s m #[(.ref a1), (.int ar), (.ref dr)] below meth c T [] 1 16 → T.heap = h2 → Pth p e below S0 T (mkF m 70 #[.val (.ref a1), .val (.int ar), .val (.ref dr), .val (.ref b2), .val (.int sz), .val (.int (Int32.ofNat i))] []) → ∃ T' : State, Stand p l e ({ frames := 1, cells := 1, slots := 16, locals := 20 } : Room) s m #[(.ref a1), (.int ar), (.ref dr)] below meth c T' [] 1 16 ∧ T'.heap = h2 ∧ Pth p e below S0 T' (mkF m 124 #[.val (.ref a1), .val (.int ar), .val (.ref dr), .val (.ref b2), .val (.int sz), .val (.int (Int32.ofNat N))] []) := by
    intro k
    induction k with
    | zero =>
      intro i T hk X eT pre
      obtain rfl : i = N := by omega
      replace pre : Pth p e below S0 T (mkF m 73 #[.val (.ref a1), .val (.int ar), .val (.ref dr), .val (.ref b2), .val (.int sz), .val (.int (Int32.ofNat i))] [(.ref b2), (.int (Int32.ofNat i))]) := fun t k => pre t (by
        show Steps p.tables e below (T.setTop (mkF m 70 #[.val (.ref a1), .val (.int ar), .val (.ref dr), .val (.ref b2), .val (.int sz), .val (.int (Int32.ofNat i))] [])) t
        refine XS.iload X.here hx rfl (hb hby d_ini_70) rfl ?_
        show Steps p.tables e below (T.setTop (mkF m 72 #[.val (.ref a1), .val (.int ar), .val (.ref dr), .val (.ref b2), .val (.int sz), .val (.int (Int32.ofNat i))] [(.int (Int32.ofNat i))])) t
        refine XS.aloadN X.here hx rfl (hb hby d_ini_72) rfl rfl ?_
        show Steps p.tables e below (T.setTop (mkF m 73 #[.val (.ref a1), .val (.int ar), .val (.ref dr), .val (.ref b2), .val (.int sz), .val (.int (Int32.ofNat i))] [(.ref b2), (.int (Int32.ofNat i))])) t
        exact k)
      obtain ⟨cl5, Ar5, Sz5, -⟩ := id Fb
      have hln5 : cl5.slots.size.toInt32 = sz := (congrArg Nat.toInt32 Sz5).trans (hlen)
      replace pre : Pth p e below S0 T (mkF m 124 #[.val (.ref a1), .val (.int ar), .val (.ref dr), .val (.ref b2), .val (.int sz), .val (.int (Int32.ofNat i))] []) := fun t k => pre t (by
        show Steps p.tables e below (T.setTop (mkF m 73 #[.val (.ref a1), .val (.int ar), .val (.ref dr), .val (.ref b2), .val (.int sz), .val (.int (Int32.ofNat i))] [(.ref b2), (.int (Int32.ofNat i))])) t
        refine X.arraylength hx (by rw [eT]; exact Ar5.1) (State.isArrayOf_alike hZ.alike Ar5.2.1) (g := (mkF m 73 #[.val (.ref a1), .val (.int ar), .val (.ref dr), .val (.ref b2), .val (.int sz), .val (.int (Int32.ofNat i))] [(.ref b2), (.int (Int32.ofNat i))])) rfl rfl (hb hby d_ini_73) _ ?_
        rw [hln5]
        show Steps p.tables e below (T.setTop (mkF m 74 #[.val (.ref a1), .val (.int ar), .val (.ref dr), .val (.ref b2), .val (.int sz), .val (.int (Int32.ofNat i))] [(.int sz), (.int (Int32.ofNat i))])) t
        refine XS.icmpYes X.here hx rfl (pc0 := 74) (pc' := 124) rfl (hb hby d_ini_74) rfl (XT.ii_ge_t (own_ge hszI hN.2)) (by decide) (by decide) ?_
        show Steps p.tables e below (T.setTop (mkF m 124 #[.val (.ref a1), .val (.int ar), .val (.ref dr), .val (.ref b2), .val (.int sz), .val (.int (Int32.ofNat i))] [])) t
        exact k)
      exact ⟨_, X, eT, pre⟩
    | succ k ih =>
      intro i T hk X eT pre
      have hi : i < N := by omega
      have h16 := hN.2
      have hix : (Int32.ofNat i).toInt = i := own_ofN (by omega)
      replace pre : Pth p e below S0 T (mkF m 73 #[.val (.ref a1), .val (.int ar), .val (.ref dr), .val (.ref b2), .val (.int sz), .val (.int (Int32.ofNat i))] [(.ref b2), (.int (Int32.ofNat i))]) := fun t k => pre t (by
        show Steps p.tables e below (T.setTop (mkF m 70 #[.val (.ref a1), .val (.int ar), .val (.ref dr), .val (.ref b2), .val (.int sz), .val (.int (Int32.ofNat i))] [])) t
        refine XS.iload X.here hx rfl (hb hby d_ini_70) rfl ?_
        show Steps p.tables e below (T.setTop (mkF m 72 #[.val (.ref a1), .val (.int ar), .val (.ref dr), .val (.ref b2), .val (.int sz), .val (.int (Int32.ofNat i))] [(.int (Int32.ofNat i))])) t
        refine XS.aloadN X.here hx rfl (hb hby d_ini_72) rfl rfl ?_
        show Steps p.tables e below (T.setTop (mkF m 73 #[.val (.ref a1), .val (.int ar), .val (.ref dr), .val (.ref b2), .val (.int sz), .val (.int (Int32.ofNat i))] [(.ref b2), (.int (Int32.ofNat i))])) t
        exact k)
      obtain ⟨cl6, Ar6, Sz6, -⟩ := id Fb
      have hln6 : cl6.slots.size.toInt32 = sz := (congrArg Nat.toInt32 Sz6).trans (hlen)
      replace pre : Pth p e below S0 T (mkF m 80 #[.val (.ref a1), .val (.int ar), .val (.ref dr), .val (.ref b2), .val (.int sz), .val (.int (Int32.ofNat i))] [(.int (Int32.ofNat i)), (.ref b2)]) := fun t k => pre t (by
        show Steps p.tables e below (T.setTop (mkF m 73 #[.val (.ref a1), .val (.int ar), .val (.ref dr), .val (.ref b2), .val (.int sz), .val (.int (Int32.ofNat i))] [(.ref b2), (.int (Int32.ofNat i))])) t
        refine X.arraylength hx (by rw [eT]; exact Ar6.1) (State.isArrayOf_alike hZ.alike Ar6.2.1) (g := (mkF m 73 #[.val (.ref a1), .val (.int ar), .val (.ref dr), .val (.ref b2), .val (.int sz), .val (.int (Int32.ofNat i))] [(.ref b2), (.int (Int32.ofNat i))])) rfl rfl (hb hby d_ini_73) _ ?_
        rw [hln6]
        show Steps p.tables e below (T.setTop (mkF m 74 #[.val (.ref a1), .val (.int ar), .val (.ref dr), .val (.ref b2), .val (.int sz), .val (.int (Int32.ofNat i))] [(.int sz), (.int (Int32.ofNat i))])) t
        refine XS.icmpNo X.here hx rfl (hb hby d_ini_74) rfl (XT.ii_ge_f (own_lt hszI hN.2 hi)) ?_
        show Steps p.tables e below (T.setTop (mkF m 77 #[.val (.ref a1), .val (.int ar), .val (.ref dr), .val (.ref b2), .val (.int sz), .val (.int (Int32.ofNat i))] [])) t
        refine XS.aloadN X.here hx rfl (hb hby d_ini_77) rfl rfl ?_
        show Steps p.tables e below (T.setTop (mkF m 78 #[.val (.ref a1), .val (.int ar), .val (.ref dr), .val (.ref b2), .val (.int sz), .val (.int (Int32.ofNat i))] [(.ref b2)])) t
        refine XS.iload X.here hx rfl (hb hby d_ini_78) rfl ?_
        show Steps p.tables e below (T.setTop (mkF m 80 #[.val (.ref a1), .val (.int ar), .val (.ref dr), .val (.ref b2), .val (.int sz), .val (.int (Int32.ofNat i))] [(.int (Int32.ofNat i)), (.ref b2)])) t
        exact k)
      obtain ⟨cl7, Ar7, Sz7, Gt7⟩ := id Fb
      have hin7 : ¬ ((Int32.ofNat i) < 0 ∨ cl7.slots.size ≤ ((Int32.ofNat i)).toNatClampNeg) := by rw [Sz7]; exact (own_in hix hi)
      have hat7 : cl7.slots[((Int32.ofNat i)).toNatClampNeg]? = some (.double (0 : UInt64)) := (Gt7 _ (Nat.lt_of_lt_of_eq (Nat.lt_of_not_le fun q => hin7 (Or.inr q)) Sz7)).trans (congrArg some (rfl))
      replace pre : Pth p e below S0 T (mkF m 89 #[.val (.ref a1), .val (.int ar), .val (.ref dr), .val (.ref b2), .val (.int sz), .val (.int (Int32.ofNat i))] [(.int (Int32.ofNat i)), (.ref b2)]) := fun t k => pre t (by
        show Steps p.tables e below (T.setTop (mkF m 80 #[.val (.ref a1), .val (.int ar), .val (.ref dr), .val (.ref b2), .val (.int sz), .val (.int (Int32.ofNat i))] [(.int (Int32.ofNat i)), (.ref b2)])) t
        refine X.daload hx (j := (Int32.ofNat i)) (v := (.double (0 : UInt64))) (by rw [eT]; exact Ar7.1) (State.isArrayOf_alike hZ.alike Ar7.2.1) Ar7.2.2 hin7 hat7 (g := (mkF m 80 #[.val (.ref a1), .val (.int ar), .val (.ref dr), .val (.ref b2), .val (.int sz), .val (.int (Int32.ofNat i))] [(.int (Int32.ofNat i)), (.ref b2)])) rfl rfl (hb hby d_ini_80) _ ?_
        show Steps p.tables e below (T.setTop (mkF m 81 #[.val (.ref a1), .val (.int ar), .val (.ref dr), .val (.ref b2), .val (.int sz), .val (.int (Int32.ofNat i))] [(.double (0 : UInt64))])) t
        refine XS.dconst0 X.here hx rfl (hb hby d_ini_81) (v := FP.l2d 0) (by decide +kernel) ?_
        show Steps p.tables e below (T.setTop (mkF m 82 #[.val (.ref a1), .val (.int ar), .val (.ref dr), .val (.ref b2), .val (.int sz), .val (.int (Int32.ofNat i))] [(.double (FP.l2d 0)), (.double (0 : UInt64))])) t
        refine XS.dcmpS X.here hx rfl (hb hby d_ini_82) rfl (v := (0 : Int32)) (by decide +kernel) ?_
        show Steps p.tables e below (T.setTop (mkF m 83 #[.val (.ref a1), .val (.int ar), .val (.ref dr), .val (.ref b2), .val (.int sz), .val (.int (Int32.ofNat i))] [(.int (0 : Int32))])) t
        refine XS.ifNo X.here hx rfl (hb hby d_ini_83) rfl (XT.i0_lt_f (by decide)) ?_
        show Steps p.tables e below (T.setTop (mkF m 86 #[.val (.ref a1), .val (.int ar), .val (.ref dr), .val (.ref b2), .val (.int sz), .val (.int (Int32.ofNat i))] [])) t
        refine XS.aloadN X.here hx rfl (hb hby d_ini_86) rfl rfl ?_
        show Steps p.tables e below (T.setTop (mkF m 87 #[.val (.ref a1), .val (.int ar), .val (.ref dr), .val (.ref b2), .val (.int sz), .val (.int (Int32.ofNat i))] [(.ref b2)])) t
        refine XS.iload X.here hx rfl (hb hby d_ini_87) rfl ?_
        show Steps p.tables e below (T.setTop (mkF m 89 #[.val (.ref a1), .val (.int ar), .val (.ref dr), .val (.ref b2), .val (.int sz), .val (.int (Int32.ofNat i))] [(.int (Int32.ofNat i)), (.ref b2)])) t
        exact k)
      obtain ⟨cl8, Ar8, Sz8, Gt8⟩ := id Fb
      have hin8 : ¬ ((Int32.ofNat i) < 0 ∨ cl8.slots.size ≤ ((Int32.ofNat i)).toNatClampNeg) := by rw [Sz8]; exact (own_in hix hi)
      have hat8 : cl8.slots[((Int32.ofNat i)).toNatClampNeg]? = some (.double (0 : UInt64)) := (Gt8 _ (Nat.lt_of_lt_of_eq (Nat.lt_of_not_le fun q => hin8 (Or.inr q)) Sz8)).trans (congrArg some (rfl))
      replace pre : Pth p e below S0 T (mkF m 70 #[.val (.ref a1), .val (.int ar), .val (.ref dr), .val (.ref b2), .val (.int sz), .val (.int ((Int32.ofNat i) + (1 : Int32)))] []) := fun t k => pre t (by
        show Steps p.tables e below (T.setTop (mkF m 89 #[.val (.ref a1), .val (.int ar), .val (.ref dr), .val (.ref b2), .val (.int sz), .val (.int (Int32.ofNat i))] [(.int (Int32.ofNat i)), (.ref b2)])) t
        refine X.daload hx (j := (Int32.ofNat i)) (v := (.double (0 : UInt64))) (by rw [eT]; exact Ar8.1) (State.isArrayOf_alike hZ.alike Ar8.2.1) Ar8.2.2 hin8 hat8 (g := (mkF m 89 #[.val (.ref a1), .val (.int ar), .val (.ref dr), .val (.ref b2), .val (.int sz), .val (.int (Int32.ofNat i))] [(.int (Int32.ofNat i)), (.ref b2)])) rfl rfl (hb hby d_ini_89) _ ?_
        show Steps p.tables e below (T.setTop (mkF m 90 #[.val (.ref a1), .val (.int ar), .val (.ref dr), .val (.ref b2), .val (.int sz), .val (.int (Int32.ofNat i))] [(.double (0 : UInt64))])) t
        refine X.ldc2DoubleC hx hown (mvT hZ (hw _ (List.mem_of_getElem? (i := 20) rfl))) (g := (mkF m 90 #[.val (.ref a1), .val (.int ar), .val (.ref dr), .val (.ref b2), .val (.int sz), .val (.int (Int32.ofNat i))] [(.double (0 : UInt64))])) rfl (hb hby d_ini_90) _ ?_
        show Steps p.tables e below (T.setTop (mkF m 93 #[.val (.ref a1), .val (.int ar), .val (.ref dr), .val (.ref b2), .val (.int sz), .val (.int (Int32.ofNat i))] [(.double (9218868437227405312 : UInt64)), (.double (0 : UInt64))])) t
        refine XS.dcmpS X.here hx rfl (hb hby d_ini_93) rfl (v := (-1 : Int32)) (by decide +kernel) ?_
        show Steps p.tables e below (T.setTop (mkF m 94 #[.val (.ref a1), .val (.int ar), .val (.ref dr), .val (.ref b2), .val (.int sz), .val (.int (Int32.ofNat i))] [(.int (-1 : Int32))])) t
        refine XS.ifYes X.here hx rfl (pc0 := 94) (pc' := 118) rfl (hb hby d_ini_94) rfl (XT.i0_lt_t (by decide)) (by decide) (by decide) ?_
        show Steps p.tables e below (T.setTop (mkF m 118 #[.val (.ref a1), .val (.int ar), .val (.ref dr), .val (.ref b2), .val (.int sz), .val (.int (Int32.ofNat i))] [])) t
        refine XS.iinc X.here hx rfl (hb hby d_ini_118) rfl (l' := #[.val (.ref a1), .val (.int ar), .val (.ref dr), .val (.ref b2), .val (.int sz), .val (.int ((Int32.ofNat i) + (1 : Int32)))]) rfl ?_
        show Steps p.tables e below (T.setTop (mkF m 121 #[.val (.ref a1), .val (.int ar), .val (.ref dr), .val (.ref b2), .val (.int sz), .val (.int ((Int32.ofNat i) + (1 : Int32)))] [])) t
        refine XS.goto X.here hx rfl (pc0 := 121) (pc' := 70) rfl (hb hby d_ini_121) (by decide) (by decide) ?_
        show Steps p.tables e below (T.setTop (mkF m 70 #[.val (.ref a1), .val (.int ar), .val (.ref dr), .val (.ref b2), .val (.int sz), .val (.int ((Int32.ofNat i) + (1 : Int32)))] [])) t
        exact k)
      rw [← inc_ofNat] at pre
      exact ih (i + 1) _ (by omega) X eT pre
  obtain ⟨T, X, eT, pre⟩ := loop N 0 _ (Nat.zero_add _) X3 e3 pre
  have ltA := Ea.lt
  have ne1 : a1 ≠ b2 := by rw [g2]; exact Nat.ne_of_lt ltA
  replace pre : Pth p e below S0 T (mkF m 126 #[.val (.ref a1), .val (.int ar), .val (.ref dr), .val (.ref b2), .val (.int sz), .val (.int (Int32.ofNat N))] [(.int ar), (.ref a1)]) := fun t k => pre t (by
    show Steps p.tables e below (T.setTop (mkF m 124 #[.val (.ref a1), .val (.int ar), .val (.ref dr), .val (.ref b2), .val (.int sz), .val (.int (Int32.ofNat N))] [])) t
    refine XS.aloadN X.here hx rfl (hb hby d_ini_124) rfl rfl ?_
    show Steps p.tables e below (T.setTop (mkF m 125 #[.val (.ref a1), .val (.int ar), .val (.ref dr), .val (.ref b2), .val (.int sz), .val (.int (Int32.ofNat N))] [(.ref a1)])) t
    refine XS.iloadN X.here hx rfl (hb hby d_ini_125) rfl ?_
    show Steps p.tables e below (T.setTop (mkF m 126 #[.val (.ref a1), .val (.int ar), .val (.ref dr), .val (.ref b2), .val (.int sz), .val (.int (Int32.ofNat N))] [(.int ar), (.ref a1)])) t
    exact k)
  obtain ⟨T9, h9, X9, e9, W9, st9⟩ := putF X hx hZ hown (host := "") (Or.inl (hw _ (List.mem_of_getElem? (i := 21) rfl))) Via.refl eT (F1.ext E2) (Ea.ext E2) (Or.inr ⟨(hw _ (List.mem_of_getElem? (i := 22) rfl)), rfl, hnm⟩) (hw _ (List.mem_of_getElem? (i := 2) rfl)) (ty := .int) (by decide) rfl rfl (g := (mkF m 126 #[.val (.ref a1), .val (.int ar), .val (.ref dr), .val (.ref b2), .val (.int sz), .val (.int (Int32.ofNat N))] [(.int ar), (.ref a1)])) rfl rfl (hb hby d_ini_126)
  have N9 := Fr.snoc X9 N0 ga
  replace pre : Pth p e below S0 T9 (mkF m 129 #[.val (.ref a1), .val (.int ar), .val (.ref dr), .val (.ref b2), .val (.int sz), .val (.int (Int32.ofNat N))] []) := fun t k => pre t (st9 _ k)
  have F1b := (F1.ext E2).same W9
  have F2b := (F2.ext E2).other W9 (Or.inr (slot_ne (Or.inr (hw _ (List.mem_of_getElem? (i := 24) rfl))) (Or.inr (hw _ (List.mem_of_getElem? (i := 22) rfl))) (by decide) (t := (.array .double)) (t' := .int) (by decide) (by decide)))
  have Eb := (Ea.ext E2).wr W9
  replace pre : Pth p e below S0 T9 (mkF m 131 #[.val (.ref a1), .val (.int ar), .val (.ref dr), .val (.ref b2), .val (.int sz), .val (.int (Int32.ofNat N))] [(.ref b2), (.ref a1)]) := fun t k => pre t (by
    show Steps p.tables e below (T9.setTop (mkF m 129 #[.val (.ref a1), .val (.int ar), .val (.ref dr), .val (.ref b2), .val (.int sz), .val (.int (Int32.ofNat N))] [])) t
    refine XS.aloadN X9.here hx rfl (hb hby d_ini_129) rfl rfl ?_
    show Steps p.tables e below (T9.setTop (mkF m 130 #[.val (.ref a1), .val (.int ar), .val (.ref dr), .val (.ref b2), .val (.int sz), .val (.int (Int32.ofNat N))] [(.ref a1)])) t
    refine XS.aloadN X9.here hx rfl (hb hby d_ini_130) rfl rfl ?_
    show Steps p.tables e below (T9.setTop (mkF m 131 #[.val (.ref a1), .val (.int ar), .val (.ref dr), .val (.ref b2), .val (.int sz), .val (.int (Int32.ofNat N))] [(.ref b2), (.ref a1)])) t
    exact k)
  obtain ⟨T10, h10, X10, e10, W10, st10⟩ := putF X9 hx hZ hown (host := "") (Or.inl (hw _ (List.mem_of_getElem? (i := 23) rfl))) Via.refl e9 F2b Eb (Or.inr ⟨(hw _ (List.mem_of_getElem? (i := 24) rfl)), rfl, hnm⟩) (hw _ (List.mem_of_getElem? (i := 2) rfl)) (ty := (.array .double)) (by decide) rfl rfl (g := (mkF m 131 #[.val (.ref a1), .val (.int ar), .val (.ref dr), .val (.ref b2), .val (.int sz), .val (.int (Int32.ofNat N))] [(.ref b2), (.ref a1)])) rfl rfl (hb hby d_ini_131)
  have N10 := Fr.snoc X10 N9 ga
  replace pre : Pth p e below S0 T10 (mkF m 134 #[.val (.ref a1), .val (.int ar), .val (.ref dr), .val (.ref b2), .val (.int sz), .val (.int (Int32.ofNat N))] []) := fun t k => pre t (st10 _ k)
  obtain ⟨fs, hr, hrun, hended, hW, hsame⟩ := X10.leave (v := none) (fun _ => rfl)
  subst hS0
  refine ⟨_, _, pre _ ?_, hrun, hended, _, _, rfl, ?_, ⟨_, rfl⟩, hW, hsame.mono (by decide) (by decide)⟩
  · exact X10.returnOut hx Bd.returns (hb hby d_ini_134) hr
  · show Q_ini Z a1 ar dr N h1 h0 n0 _ T10.heap _
    rw [e10]
    exact ⟨rfl, N10, own_ext_wr (own_ext_wr (own_ext_trans x1 E2) W9 g1) W10 g1, b2, Eb.wr W10, F1b.other W10 (Or.inr (slot_ne (Or.inr (hw _ (List.mem_of_getElem? (i := 22) rfl))) (Or.inr (hw _ (List.mem_of_getElem? (i := 24) rfl))) (by decide) (t := .int) (t' := (.array .double)) (by decide) (by decide))), F2b.same W10, (Fb.other W9 ne1.symm).other W10 ne1.symm, ne1⟩
def Q_ix (Z : State) (a1 : Addr) (zr : Addr) (ar : Int32) (r : Addr) (N M : Nat) (bf : Nat → Int32) (h0 : Heap) (n0 : Nat) (v : Option Value) (h : Heap) (L : List Loc) : Prop := v = some (.int (own_ixf bf M)) ∧ Fr n0 L ∧ h = h0
set_option maxRecDepth 65536 in
set_option maxHeartbeats 40000000 in
theorem rm_ix (l : Launch) (Z : State) (a0 : Array Value) (hw : ∀ d ∈ tables_1, d.before a0 Z = true) (ws : List Jvm.Cond) (a1 : Addr) (zr : Addr) (ar : Int32) (r : Addr) (N M : Nat) (bf : Nat → Int32) (h0 : Heap) (n0 : Nat) (hO : OPT Z h0 a1 ar r N) (Fz : OFun Z h0 zr .boolean M (fun j => .int (bf j))) (hM : ar.toInt = M ∧ M ≤ 4) :
    MetFree l (⟨"com/example/parfactor/parfactor/model/PotentialTable", "indexOf", "([Z)I"⟩ : MethodName) (head1 (Jvm.Cond.code (⟨"com/example/parfactor/parfactor/model/PotentialTable", "indexOf", "([Z)I"⟩ : MethodName) prog_61_method_6_code 7 (some .int) :: ws) ({ frames := 0, cells := 0, slots := 0, locals := 0 } : Room)) (fun a U => a = #[(.ref a1), (.ref zr)] ∧ Z.Warmed39 U.vm ∧ U.heap = h0) (fun _ _ _ _ _ => True) (fun _ U o U' => ∃ v L, o = .returned v ∧ Q_ix Z a1 zr ar r N M bf h0 n0 v U'.heap L ∧ FrameEnd U o U' L ({ frames := 0, cells := 0, slots := 0, locals := 0 } : Room).cells ({ frames := 0, cells := 0, slots := 0, locals := 0 } : Room).slots) := by
  refine MetFree.of_bodySF (plainFor_of_name pn_com_example_parfactor_parfactor_model_PotentialTable) hisR ?_
  intro p e s m args below meth c s₁ Bd hml0 hP hK
  obtain ⟨rfl, hZ, hh⟩ := hP
  have hx := Bd.exec
  have hby := Bd.bytes
  have hml : c.maxLocals = 7 := hml0
  have hown : s.vm.findClass "com/example/parfactor/parfactor/model/PotentialTable" = some m.cls := findClass_of_methodNamed Bd.named
  have hnm := (name_of_methodNamed Bd.named Bd.method).1
  have X0 : Stand p l e ({ frames := 0, cells := 0, slots := 0, locals := 0 } : Room) s m #[(.ref a1), (.ref zr)] below meth c s₁ [] 0 0 := Stand.of_body Bd
  have e0 : s₁.heap = h0 := by rw [← hh, Bd.state]; rfl
  have N0 := Fr.nil n0
  obtain ⟨S0, hS0⟩ : ∃ S0, S0 = s₁.setTop (entryFrame m #[(.ref a1), (.ref zr)] 7) := ⟨_, rfl⟩
  have pre : Pth p e below S0 s₁ (mkF m 0 #[.val (.ref a1), .val (.ref zr), .unset, .unset, .unset, .unset, .unset] []) := fun t k => by rw [hS0]; exact castTop (ef_ix m a1 zr) k
  obtain ⟨Ea, F1, F2, Fd, ne1⟩ := hO
  have hlen : M.toInt32 = ar := own_len hM.1
  replace pre : Pth p e below S0 s₁ (mkF m 1 #[.val (.ref a1), .val (.ref zr), .unset, .unset, .unset, .unset, .unset] [(.ref zr)]) := fun t k => pre t (by
    show Steps p.tables e below (s₁.setTop (mkF m 0 #[.val (.ref a1), .val (.ref zr), .unset, .unset, .unset, .unset, .unset] [])) t
    refine XS.aloadN X0.here hx rfl (hb hby d_ix_0) rfl rfl ?_
    show Steps p.tables e below (s₁.setTop (mkF m 1 #[.val (.ref a1), .val (.ref zr), .unset, .unset, .unset, .unset, .unset] [(.ref zr)])) t
    exact k)
  obtain ⟨cl11, Ar11, Sz11, -⟩ := id Fz
  have hln11 : cl11.slots.size.toInt32 = ar := (congrArg Nat.toInt32 Sz11).trans (hlen)
  replace pre : Pth p e below S0 s₁ (mkF m 3 #[.val (.ref a1), .val (.ref zr), .unset, .unset, .unset, .unset, .unset] [(.ref a1), (.int ar)]) := fun t k => pre t (by
    show Steps p.tables e below (s₁.setTop (mkF m 1 #[.val (.ref a1), .val (.ref zr), .unset, .unset, .unset, .unset, .unset] [(.ref zr)])) t
    refine X0.arraylength hx (by rw [e0]; exact Ar11.1) (State.isArrayOf_alike hZ.alike Ar11.2.1) (g := (mkF m 1 #[.val (.ref a1), .val (.ref zr), .unset, .unset, .unset, .unset, .unset] [(.ref zr)])) rfl rfl (hb hby d_ix_1) _ ?_
    rw [hln11]
    show Steps p.tables e below (s₁.setTop (mkF m 2 #[.val (.ref a1), .val (.ref zr), .unset, .unset, .unset, .unset, .unset] [(.int ar)])) t
    refine XS.aloadN X0.here hx rfl (hb hby d_ix_2) rfl rfl ?_
    show Steps p.tables e below (s₁.setTop (mkF m 3 #[.val (.ref a1), .val (.ref zr), .unset, .unset, .unset, .unset, .unset] [(.ref a1), (.int ar)])) t
    exact k)
  obtain ⟨T12, X12, e12, st12⟩ := getF X0 hx hZ hown (host := "") (Or.inl (hw _ (List.mem_of_getElem? (i := 21) rfl))) Via.refl e0 F1 (g := (mkF m 3 #[.val (.ref a1), .val (.ref zr), .unset, .unset, .unset, .unset, .unset] [(.ref a1), (.int ar)])) rfl rfl (hb hby d_ix_3)
  replace pre : Pth p e below S0 T12 (mkF m 6 #[.val (.ref a1), .val (.ref zr), .unset, .unset, .unset, .unset, .unset] [(.int ar), (.int ar)]) := fun t k => pre t (st12 _ k)
  replace pre : Pth p e below S0 T12 (mkF m 37 #[.val (.ref a1), .val (.ref zr), .val (.int (0 : Int32)), .val (.ref zr), .unset, .unset, .unset] [(.ref zr)]) := fun t k => pre t (by
    show Steps p.tables e below (T12.setTop (mkF m 6 #[.val (.ref a1), .val (.ref zr), .unset, .unset, .unset, .unset, .unset] [(.int ar), (.int ar)])) t
    refine XS.icmpYes X12.here hx rfl (pc0 := 6) (pc' := 32) rfl (hb hby d_ix_6) rfl (XT.ii_eq_t rfl) (by decide) (by decide) ?_
    show Steps p.tables e below (T12.setTop (mkF m 32 #[.val (.ref a1), .val (.ref zr), .unset, .unset, .unset, .unset, .unset] [])) t
    refine XS.iconst X12.here hx rfl (hb hby d_ix_32) ?_
    show Steps p.tables e below (T12.setTop (mkF m 33 #[.val (.ref a1), .val (.ref zr), .unset, .unset, .unset, .unset, .unset] [(.int (0 : Int32))])) t
    refine XS.istoreN X12.here hx rfl (hb hby d_ix_33) rfl (l' := #[.val (.ref a1), .val (.ref zr), .val (.int (0 : Int32)), .unset, .unset, .unset, .unset]) rfl ?_
    show Steps p.tables e below (T12.setTop (mkF m 34 #[.val (.ref a1), .val (.ref zr), .val (.int (0 : Int32)), .unset, .unset, .unset, .unset] [])) t
    refine XS.aloadN X12.here hx rfl (hb hby d_ix_34) rfl rfl ?_
    show Steps p.tables e below (T12.setTop (mkF m 35 #[.val (.ref a1), .val (.ref zr), .val (.int (0 : Int32)), .unset, .unset, .unset, .unset] [(.ref zr)])) t
    refine XS.astoreN X12.here hx rfl (hb hby d_ix_35) rfl rfl (l' := #[.val (.ref a1), .val (.ref zr), .val (.int (0 : Int32)), .val (.ref zr), .unset, .unset, .unset]) rfl ?_
    show Steps p.tables e below (T12.setTop (mkF m 36 #[.val (.ref a1), .val (.ref zr), .val (.int (0 : Int32)), .val (.ref zr), .unset, .unset, .unset] [])) t
    refine XS.aloadN X12.here hx rfl (hb hby d_ix_36) rfl rfl ?_
    show Steps p.tables e below (T12.setTop (mkF m 37 #[.val (.ref a1), .val (.ref zr), .val (.int (0 : Int32)), .val (.ref zr), .unset, .unset, .unset] [(.ref zr)])) t
    exact k)
  obtain ⟨cl13, Ar13, Sz13, -⟩ := id Fz
  have hln13 : cl13.slots.size.toInt32 = ar := (congrArg Nat.toInt32 Sz13).trans (hlen)
  replace pre : Pth p e below S0 T12 (mkF m 43 #[.val (.ref a1), .val (.ref zr), .val (.int (0 : Int32)), .val (.ref zr), .val (.int ar), .val (.int (0 : Int32)), .unset] []) := fun t k => pre t (by
    show Steps p.tables e below (T12.setTop (mkF m 37 #[.val (.ref a1), .val (.ref zr), .val (.int (0 : Int32)), .val (.ref zr), .unset, .unset, .unset] [(.ref zr)])) t
    refine X12.arraylength hx (by rw [e12]; exact Ar13.1) (State.isArrayOf_alike hZ.alike Ar13.2.1) (g := (mkF m 37 #[.val (.ref a1), .val (.ref zr), .val (.int (0 : Int32)), .val (.ref zr), .unset, .unset, .unset] [(.ref zr)])) rfl rfl (hb hby d_ix_37) _ ?_
    rw [hln13]
    show Steps p.tables e below (T12.setTop (mkF m 38 #[.val (.ref a1), .val (.ref zr), .val (.int (0 : Int32)), .val (.ref zr), .unset, .unset, .unset] [(.int ar)])) t
    refine XS.istore X12.here hx rfl (hb hby d_ix_38) rfl (l' := #[.val (.ref a1), .val (.ref zr), .val (.int (0 : Int32)), .val (.ref zr), .val (.int ar), .unset, .unset]) rfl ?_
    show Steps p.tables e below (T12.setTop (mkF m 40 #[.val (.ref a1), .val (.ref zr), .val (.int (0 : Int32)), .val (.ref zr), .val (.int ar), .unset, .unset] [])) t
    refine XS.iconst X12.here hx rfl (hb hby d_ix_40) ?_
    show Steps p.tables e below (T12.setTop (mkF m 41 #[.val (.ref a1), .val (.ref zr), .val (.int (0 : Int32)), .val (.ref zr), .val (.int ar), .unset, .unset] [(.int (0 : Int32))])) t
    refine XS.istore X12.here hx rfl (hb hby d_ix_41) rfl (l' := #[.val (.ref a1), .val (.ref zr), .val (.int (0 : Int32)), .val (.ref zr), .val (.int ar), .val (.int (0 : Int32)), .unset]) rfl ?_
    show Steps p.tables e below (T12.setTop (mkF m 43 #[.val (.ref a1), .val (.ref zr), .val (.int (0 : Int32)), .val (.ref zr), .val (.int ar), .val (.int (0 : Int32)), .unset] [])) t
    exact k)
  have loop : ∀ (k i : Nat) (s6 : Slot), i + k = M → own_one s6 → Pth p e below S0 T12 (mkF m 43 #[.val (.ref a1), .val (.ref zr), .val (.int (own_ixf bf i)), .val (.ref zr), .val (.int ar), .val (.int (Int32.ofNat i)), s6] []) → ∃ s6' : Slot, Pth p e below S0 T12 (mkF m 77 #[.val (.ref a1), .val (.ref zr), .val (.int (own_ixf bf M)), .val (.ref zr), .val (.int ar), .val (.int (Int32.ofNat M)), s6'] []) := by
    intro k
    induction k with
    | zero =>
      intro i s6 hk hs pre
      obtain rfl : i = M := by omega
      replace pre : Pth p e below S0 T12 (mkF m 77 #[.val (.ref a1), .val (.ref zr), .val (.int (own_ixf bf i)), .val (.ref zr), .val (.int ar), .val (.int (Int32.ofNat i)), s6] []) := fun t k => pre t (by
        show Steps p.tables e below (T12.setTop (mkF m 43 #[.val (.ref a1), .val (.ref zr), .val (.int (own_ixf bf i)), .val (.ref zr), .val (.int ar), .val (.int (Int32.ofNat i)), s6] [])) t
        refine XS.iload X12.here hx rfl (hb hby d_ix_43) rfl ?_
        show Steps p.tables e below (T12.setTop (mkF m 45 #[.val (.ref a1), .val (.ref zr), .val (.int (own_ixf bf i)), .val (.ref zr), .val (.int ar), .val (.int (Int32.ofNat i)), s6] [(.int (Int32.ofNat i))])) t
        refine XS.iload X12.here hx rfl (hb hby d_ix_45) rfl ?_
        show Steps p.tables e below (T12.setTop (mkF m 47 #[.val (.ref a1), .val (.ref zr), .val (.int (own_ixf bf i)), .val (.ref zr), .val (.int ar), .val (.int (Int32.ofNat i)), s6] [(.int ar), (.int (Int32.ofNat i))])) t
        refine XS.icmpYes X12.here hx rfl (pc0 := 47) (pc' := 77) rfl (hb hby d_ix_47) rfl (XT.ii_ge_t (own_ge hM.1 (by omega))) (by decide) (by decide) ?_
        show Steps p.tables e below (T12.setTop (mkF m 77 #[.val (.ref a1), .val (.ref zr), .val (.int (own_ixf bf i)), .val (.ref zr), .val (.int ar), .val (.int (Int32.ofNat i)), s6] [])) t
        exact k)
      exact ⟨_, pre⟩
    | succ k ih =>
      intro i s6 hk hs pre
      have hi : i < M := by omega
      have h4 := hM.2
      have hix : (Int32.ofNat i).toInt = i := own_ofN (by omega)
      replace pre : Pth p e below S0 T12 (mkF m 53 #[.val (.ref a1), .val (.ref zr), .val (.int (own_ixf bf i)), .val (.ref zr), .val (.int ar), .val (.int (Int32.ofNat i)), s6] [(.int (Int32.ofNat i)), (.ref zr)]) := fun t k => pre t (by
        show Steps p.tables e below (T12.setTop (mkF m 43 #[.val (.ref a1), .val (.ref zr), .val (.int (own_ixf bf i)), .val (.ref zr), .val (.int ar), .val (.int (Int32.ofNat i)), s6] [])) t
        refine XS.iload X12.here hx rfl (hb hby d_ix_43) rfl ?_
        show Steps p.tables e below (T12.setTop (mkF m 45 #[.val (.ref a1), .val (.ref zr), .val (.int (own_ixf bf i)), .val (.ref zr), .val (.int ar), .val (.int (Int32.ofNat i)), s6] [(.int (Int32.ofNat i))])) t
        refine XS.iload X12.here hx rfl (hb hby d_ix_45) rfl ?_
        show Steps p.tables e below (T12.setTop (mkF m 47 #[.val (.ref a1), .val (.ref zr), .val (.int (own_ixf bf i)), .val (.ref zr), .val (.int ar), .val (.int (Int32.ofNat i)), s6] [(.int ar), (.int (Int32.ofNat i))])) t
        refine XS.icmpNo X12.here hx rfl (hb hby d_ix_47) rfl (XT.ii_ge_f (own_lt hM.1 (by omega) hi)) ?_
        show Steps p.tables e below (T12.setTop (mkF m 50 #[.val (.ref a1), .val (.ref zr), .val (.int (own_ixf bf i)), .val (.ref zr), .val (.int ar), .val (.int (Int32.ofNat i)), s6] [])) t
        refine XS.aloadN X12.here hx rfl (hb hby d_ix_50) rfl rfl ?_
        show Steps p.tables e below (T12.setTop (mkF m 51 #[.val (.ref a1), .val (.ref zr), .val (.int (own_ixf bf i)), .val (.ref zr), .val (.int ar), .val (.int (Int32.ofNat i)), s6] [(.ref zr)])) t
        refine XS.iload X12.here hx rfl (hb hby d_ix_51) rfl ?_
        show Steps p.tables e below (T12.setTop (mkF m 53 #[.val (.ref a1), .val (.ref zr), .val (.int (own_ixf bf i)), .val (.ref zr), .val (.int ar), .val (.int (Int32.ofNat i)), s6] [(.int (Int32.ofNat i)), (.ref zr)])) t
        exact k)
      obtain ⟨cl14, Ar14, Sz14, Gt14⟩ := id Fz
      have hin14 : ¬ ((Int32.ofNat i) < 0 ∨ cl14.slots.size ≤ ((Int32.ofNat i)).toNatClampNeg) := by rw [Sz14]; exact (own_in hix hi)
      have hat14 : cl14.slots[((Int32.ofNat i)).toNatClampNeg]? = some (.int (bf i)) := (Gt14 _ (Nat.lt_of_lt_of_eq (Nat.lt_of_not_le fun q => hin14 (Or.inr q)) Sz14)).trans (congrArg some (by rw [own_cl hix]))
      replace pre : Pth p e below S0 T12 (mkF m 61 #[.val (.ref a1), .val (.ref zr), .val (.int (own_ixf bf i)), .val (.ref zr), .val (.int ar), .val (.int (Int32.ofNat i)), .val (.int (bf i))] [(.int (bf i)), (.int ((own_ixf bf i) <<< ((1 : Int32) &&& 31)))]) := fun t k => pre t (by
        show Steps p.tables e below (T12.setTop (mkF m 53 #[.val (.ref a1), .val (.ref zr), .val (.int (own_ixf bf i)), .val (.ref zr), .val (.int ar), .val (.int (Int32.ofNat i)), s6] [(.int (Int32.ofNat i)), (.ref zr)])) t
        refine X12.baloadBooleans hx (j := (Int32.ofNat i)) (v := (.int (bf i))) (by rw [e12]; exact Ar14.1) (State.isArrayOf_alike hZ.alike Ar14.2.1) Ar14.2.2 hin14 hat14 (g := (mkF m 53 #[.val (.ref a1), .val (.ref zr), .val (.int (own_ixf bf i)), .val (.ref zr), .val (.int ar), .val (.int (Int32.ofNat i)), s6] [(.int (Int32.ofNat i)), (.ref zr)])) rfl rfl (hb hby d_ix_53) _ ?_
        show Steps p.tables e below (T12.setTop (mkF m 54 #[.val (.ref a1), .val (.ref zr), .val (.int (own_ixf bf i)), .val (.ref zr), .val (.int ar), .val (.int (Int32.ofNat i)), s6] [(.int (bf i))])) t
        refine XS.istore X12.here hx rfl (hb hby d_ix_54) rfl (l' := #[.val (.ref a1), .val (.ref zr), .val (.int (own_ixf bf i)), .val (.ref zr), .val (.int ar), .val (.int (Int32.ofNat i)), .val (.int (bf i))]) (own_st6 hs) ?_
        show Steps p.tables e below (T12.setTop (mkF m 56 #[.val (.ref a1), .val (.ref zr), .val (.int (own_ixf bf i)), .val (.ref zr), .val (.int ar), .val (.int (Int32.ofNat i)), .val (.int (bf i))] [])) t
        refine XS.iloadN X12.here hx rfl (hb hby d_ix_56) rfl ?_
        show Steps p.tables e below (T12.setTop (mkF m 57 #[.val (.ref a1), .val (.ref zr), .val (.int (own_ixf bf i)), .val (.ref zr), .val (.int ar), .val (.int (Int32.ofNat i)), .val (.int (bf i))] [(.int (own_ixf bf i))])) t
        refine XS.iconst X12.here hx rfl (hb hby d_ix_57) ?_
        show Steps p.tables e below (T12.setTop (mkF m 58 #[.val (.ref a1), .val (.ref zr), .val (.int (own_ixf bf i)), .val (.ref zr), .val (.int ar), .val (.int (Int32.ofNat i)), .val (.int (bf i))] [(.int (1 : Int32)), (.int (own_ixf bf i))])) t
        refine XS.ishl X12.here hx rfl (hb hby d_ix_58) rfl ?_
        show Steps p.tables e below (T12.setTop (mkF m 59 #[.val (.ref a1), .val (.ref zr), .val (.int (own_ixf bf i)), .val (.ref zr), .val (.int ar), .val (.int (Int32.ofNat i)), .val (.int (bf i))] [(.int ((own_ixf bf i) <<< ((1 : Int32) &&& 31)))])) t
        refine XS.iload X12.here hx rfl (hb hby d_ix_59) rfl ?_
        show Steps p.tables e below (T12.setTop (mkF m 61 #[.val (.ref a1), .val (.ref zr), .val (.int (own_ixf bf i)), .val (.ref zr), .val (.int ar), .val (.int (Int32.ofNat i)), .val (.int (bf i))] [(.int (bf i)), (.int ((own_ixf bf i) <<< ((1 : Int32) &&& 31)))])) t
        exact k)
      obtain ⟨x, hx', pre⟩ : ∃ x : Int32, x = (if bf i = 0 then 1 else 0) ∧ Pth p e below S0 T12 (mkF m 69 #[.val (.ref a1), .val (.ref zr), .val (.int (own_ixf bf i)), .val (.ref zr), .val (.int ar), .val (.int (Int32.ofNat i)), .val (.int (bf i))] [(.int x), (.int ((own_ixf bf i) <<< ((1 : Int32) &&& 31)))]) := by
        by_cases z1 : (bf i) = (0 : Int32)
        · replace pre : Pth p e below S0 T12 (mkF m 69 #[.val (.ref a1), .val (.ref zr), .val (.int (own_ixf bf i)), .val (.ref zr), .val (.int ar), .val (.int (Int32.ofNat i)), .val (.int (bf i))] [(.int (1 : Int32)), (.int ((own_ixf bf i) <<< ((1 : Int32) &&& 31)))]) := fun t k => pre t (by
            show Steps p.tables e below (T12.setTop (mkF m 61 #[.val (.ref a1), .val (.ref zr), .val (.int (own_ixf bf i)), .val (.ref zr), .val (.int ar), .val (.int (Int32.ofNat i)), .val (.int (bf i))] [(.int (bf i)), (.int ((own_ixf bf i) <<< ((1 : Int32) &&& 31)))])) t
            refine XS.ifYes X12.here hx rfl (pc0 := 61) (pc' := 68) rfl (hb hby d_ix_61) rfl (XT.i0_eq_t z1) (by decide) (by decide) ?_
            show Steps p.tables e below (T12.setTop (mkF m 68 #[.val (.ref a1), .val (.ref zr), .val (.int (own_ixf bf i)), .val (.ref zr), .val (.int ar), .val (.int (Int32.ofNat i)), .val (.int (bf i))] [(.int ((own_ixf bf i) <<< ((1 : Int32) &&& 31)))])) t
            refine XS.iconst X12.here hx rfl (hb hby d_ix_68) ?_
            show Steps p.tables e below (T12.setTop (mkF m 69 #[.val (.ref a1), .val (.ref zr), .val (.int (own_ixf bf i)), .val (.ref zr), .val (.int ar), .val (.int (Int32.ofNat i)), .val (.int (bf i))] [(.int (1 : Int32)), (.int ((own_ixf bf i) <<< ((1 : Int32) &&& 31)))])) t
            exact k)
          exact ⟨_, (if_pos z1).symm, pre⟩
        · replace pre : Pth p e below S0 T12 (mkF m 69 #[.val (.ref a1), .val (.ref zr), .val (.int (own_ixf bf i)), .val (.ref zr), .val (.int ar), .val (.int (Int32.ofNat i)), .val (.int (bf i))] [(.int (0 : Int32)), (.int ((own_ixf bf i) <<< ((1 : Int32) &&& 31)))]) := fun t k => pre t (by
            show Steps p.tables e below (T12.setTop (mkF m 61 #[.val (.ref a1), .val (.ref zr), .val (.int (own_ixf bf i)), .val (.ref zr), .val (.int ar), .val (.int (Int32.ofNat i)), .val (.int (bf i))] [(.int (bf i)), (.int ((own_ixf bf i) <<< ((1 : Int32) &&& 31)))])) t
            refine XS.ifNo X12.here hx rfl (hb hby d_ix_61) rfl (XT.i0_eq_f z1) ?_
            show Steps p.tables e below (T12.setTop (mkF m 64 #[.val (.ref a1), .val (.ref zr), .val (.int (own_ixf bf i)), .val (.ref zr), .val (.int ar), .val (.int (Int32.ofNat i)), .val (.int (bf i))] [(.int ((own_ixf bf i) <<< ((1 : Int32) &&& 31)))])) t
            refine XS.iconst X12.here hx rfl (hb hby d_ix_64) ?_
            show Steps p.tables e below (T12.setTop (mkF m 65 #[.val (.ref a1), .val (.ref zr), .val (.int (own_ixf bf i)), .val (.ref zr), .val (.int ar), .val (.int (Int32.ofNat i)), .val (.int (bf i))] [(.int (0 : Int32)), (.int ((own_ixf bf i) <<< ((1 : Int32) &&& 31)))])) t
            refine XS.goto X12.here hx rfl (pc0 := 65) (pc' := 69) rfl (hb hby d_ix_65) (by decide) (by decide) ?_
            show Steps p.tables e below (T12.setTop (mkF m 69 #[.val (.ref a1), .val (.ref zr), .val (.int (own_ixf bf i)), .val (.ref zr), .val (.int ar), .val (.int (Int32.ofNat i)), .val (.int (bf i))] [(.int (0 : Int32)), (.int ((own_ixf bf i) <<< ((1 : Int32) &&& 31)))])) t
            exact k)
          exact ⟨_, (if_neg z1).symm, pre⟩
      replace pre : Pth p e below S0 T12 (mkF m 43 #[.val (.ref a1), .val (.ref zr), .val (.int (((own_ixf bf i) <<< ((1 : Int32) &&& 31)) ||| x)), .val (.ref zr), .val (.int ar), .val (.int ((Int32.ofNat i) + (1 : Int32))), .val (.int (bf i))] []) := fun t k => pre t (by
        show Steps p.tables e below (T12.setTop (mkF m 69 #[.val (.ref a1), .val (.ref zr), .val (.int (own_ixf bf i)), .val (.ref zr), .val (.int ar), .val (.int (Int32.ofNat i)), .val (.int (bf i))] [(.int x), (.int ((own_ixf bf i) <<< ((1 : Int32) &&& 31)))])) t
        refine XS.ior X12.here hx rfl (hb hby d_ix_69) rfl ?_
        show Steps p.tables e below (T12.setTop (mkF m 70 #[.val (.ref a1), .val (.ref zr), .val (.int (own_ixf bf i)), .val (.ref zr), .val (.int ar), .val (.int (Int32.ofNat i)), .val (.int (bf i))] [(.int (((own_ixf bf i) <<< ((1 : Int32) &&& 31)) ||| x))])) t
        refine XS.istoreN X12.here hx rfl (hb hby d_ix_70) rfl (l' := #[.val (.ref a1), .val (.ref zr), .val (.int (((own_ixf bf i) <<< ((1 : Int32) &&& 31)) ||| x)), .val (.ref zr), .val (.int ar), .val (.int (Int32.ofNat i)), .val (.int (bf i))]) rfl ?_
        show Steps p.tables e below (T12.setTop (mkF m 71 #[.val (.ref a1), .val (.ref zr), .val (.int (((own_ixf bf i) <<< ((1 : Int32) &&& 31)) ||| x)), .val (.ref zr), .val (.int ar), .val (.int (Int32.ofNat i)), .val (.int (bf i))] [])) t
        refine XS.iinc X12.here hx rfl (hb hby d_ix_71) rfl (l' := #[.val (.ref a1), .val (.ref zr), .val (.int (((own_ixf bf i) <<< ((1 : Int32) &&& 31)) ||| x)), .val (.ref zr), .val (.int ar), .val (.int ((Int32.ofNat i) + (1 : Int32))), .val (.int (bf i))]) rfl ?_
        show Steps p.tables e below (T12.setTop (mkF m 74 #[.val (.ref a1), .val (.ref zr), .val (.int (((own_ixf bf i) <<< ((1 : Int32) &&& 31)) ||| x)), .val (.ref zr), .val (.int ar), .val (.int ((Int32.ofNat i) + (1 : Int32))), .val (.int (bf i))] [])) t
        refine XS.goto X12.here hx rfl (pc0 := 74) (pc' := 43) rfl (hb hby d_ix_74) (by decide) (by decide) ?_
        show Steps p.tables e below (T12.setTop (mkF m 43 #[.val (.ref a1), .val (.ref zr), .val (.int (((own_ixf bf i) <<< ((1 : Int32) &&& 31)) ||| x)), .val (.ref zr), .val (.int ar), .val (.int ((Int32.ofNat i) + (1 : Int32))), .val (.int (bf i))] [])) t
        exact k)
      rw [hx', ← inc_ofNat] at pre
      exact ih (i + 1) _ (by omega) (Or.inr ⟨_, rfl⟩) pre
  obtain ⟨s6', pre⟩ := loop M 0 _ (Nat.zero_add _) (Or.inl rfl) pre
  replace pre : Pth p e below S0 T12 (mkF m 78 #[.val (.ref a1), .val (.ref zr), .val (.int (own_ixf bf M)), .val (.ref zr), .val (.int ar), .val (.int (Int32.ofNat M)), s6'] [(.int (own_ixf bf M))]) := fun t k => pre t (by
    show Steps p.tables e below (T12.setTop (mkF m 77 #[.val (.ref a1), .val (.ref zr), .val (.int (own_ixf bf M)), .val (.ref zr), .val (.int ar), .val (.int (Int32.ofNat M)), s6'] [])) t
    refine XS.iloadN X12.here hx rfl (hb hby d_ix_77) rfl ?_
    show Steps p.tables e below (T12.setTop (mkF m 78 #[.val (.ref a1), .val (.ref zr), .val (.int (own_ixf bf M)), .val (.ref zr), .val (.int ar), .val (.int (Int32.ofNat M)), s6'] [(.int (own_ixf bf M))])) t
    exact k)
  obtain ⟨fs, hr, hrun, hended, hW, hsame⟩ := X12.leave (v := some (.int (own_ixf bf M))) (fun h => by rw [Bd.returns] at h; cases h)
  subst hS0
  refine ⟨_, _, pre _ ?_, hrun, hended, _, _, rfl, ?_, ⟨_, rfl⟩, hW, hsame.mono (by decide) (by decide)⟩
  · exact retI X12 hx Bd.returns (hb hby d_ix_78) hr
  · show Q_ix Z a1 zr ar r N M bf h0 n0 _ T12.heap _
    rw [e12]
    exact ⟨rfl, N0, rfl⟩
def Q_sz (Z : State) (a1 : Addr) (ar : Int32) (r : Addr) (N : Nat) (h0 : Heap) (n0 : Nat) (v : Option Value) (h : Heap) (L : List Loc) : Prop := v = some (.int N.toInt32) ∧ Fr n0 L ∧ h = h0
set_option maxRecDepth 65536 in
set_option maxHeartbeats 40000000 in
theorem rm_sz (l : Launch) (Z : State) (a0 : Array Value) (hw : ∀ d ∈ tables_1, d.before a0 Z = true) (ws : List Jvm.Cond) (a1 : Addr) (ar : Int32) (r : Addr) (N : Nat) (h0 : Heap) (n0 : Nat) (hO : OPT Z h0 a1 ar r N) :
    MetFree l (⟨"com/example/parfactor/parfactor/model/PotentialTable", "size", "()I"⟩ : MethodName) (head1 (Jvm.Cond.code (⟨"com/example/parfactor/parfactor/model/PotentialTable", "size", "()I"⟩ : MethodName) prog_61_method_3_code 1 (some .int) :: ws) ({ frames := 0, cells := 0, slots := 0, locals := 0 } : Room)) (fun a U => a = #[(.ref a1)] ∧ Z.Warmed39 U.vm ∧ U.heap = h0) (fun _ _ _ _ _ => True) (fun _ U o U' => ∃ v L, o = .returned v ∧ Q_sz Z a1 ar r N h0 n0 v U'.heap L ∧ FrameEnd U o U' L ({ frames := 0, cells := 0, slots := 0, locals := 0 } : Room).cells ({ frames := 0, cells := 0, slots := 0, locals := 0 } : Room).slots) := by
  refine MetFree.of_bodySF (plainFor_of_name pn_com_example_parfactor_parfactor_model_PotentialTable) hisR ?_
  intro p e s m args below meth c s₁ Bd hml0 hP hK
  obtain ⟨rfl, hZ, hh⟩ := hP
  have hx := Bd.exec
  have hby := Bd.bytes
  have hml : c.maxLocals = 1 := hml0
  have hown : s.vm.findClass "com/example/parfactor/parfactor/model/PotentialTable" = some m.cls := findClass_of_methodNamed Bd.named
  have hnm := (name_of_methodNamed Bd.named Bd.method).1
  have X0 : Stand p l e ({ frames := 0, cells := 0, slots := 0, locals := 0 } : Room) s m #[(.ref a1)] below meth c s₁ [] 0 0 := Stand.of_body Bd
  have e0 : s₁.heap = h0 := by rw [← hh, Bd.state]; rfl
  have N0 := Fr.nil n0
  obtain ⟨S0, hS0⟩ : ∃ S0, S0 = s₁.setTop (entryFrame m #[(.ref a1)] 1) := ⟨_, rfl⟩
  have pre : Pth p e below S0 s₁ (mkF m 0 #[.val (.ref a1)] []) := fun t k => by rw [hS0]; exact castTop (ef_sz m a1) k
  obtain ⟨Ea, F1, F2, Fd, ne1⟩ := hO
  replace pre : Pth p e below S0 s₁ (mkF m 1 #[.val (.ref a1)] [(.ref a1)]) := fun t k => pre t (by
    show Steps p.tables e below (s₁.setTop (mkF m 0 #[.val (.ref a1)] [])) t
    refine XS.aloadN X0.here hx rfl (hb hby d_sz_0) rfl rfl ?_
    show Steps p.tables e below (s₁.setTop (mkF m 1 #[.val (.ref a1)] [(.ref a1)])) t
    exact k)
  obtain ⟨T15, X15, e15, st15⟩ := getF X0 hx hZ hown (host := "") (Or.inl (hw _ (List.mem_of_getElem? (i := 23) rfl))) Via.refl e0 F2 (g := (mkF m 1 #[.val (.ref a1)] [(.ref a1)])) rfl rfl (hb hby d_sz_1)
  replace pre : Pth p e below S0 T15 (mkF m 4 #[.val (.ref a1)] [(.ref r)]) := fun t k => pre t (st15 _ k)
  obtain ⟨cl16, Ar16, Sz16, -⟩ := id Fd
  have hln16 : cl16.slots.size.toInt32 = (N.toInt32) := (congrArg Nat.toInt32 Sz16).trans (rfl)
  replace pre : Pth p e below S0 T15 (mkF m 5 #[.val (.ref a1)] [(.int (N.toInt32))]) := fun t k => pre t (by
    show Steps p.tables e below (T15.setTop (mkF m 4 #[.val (.ref a1)] [(.ref r)])) t
    refine X15.arraylength hx (by rw [e15]; exact Ar16.1) (State.isArrayOf_alike hZ.alike Ar16.2.1) (g := (mkF m 4 #[.val (.ref a1)] [(.ref r)])) rfl rfl (hb hby d_sz_4) _ ?_
    rw [hln16]
    show Steps p.tables e below (T15.setTop (mkF m 5 #[.val (.ref a1)] [(.int (N.toInt32))])) t
    exact k)
  obtain ⟨fs, hr, hrun, hended, hW, hsame⟩ := X15.leave (v := some (.int (N.toInt32))) (fun h => by rw [Bd.returns] at h; cases h)
  subst hS0
  refine ⟨_, _, pre _ ?_, hrun, hended, _, _, rfl, ?_, ⟨_, rfl⟩, hW, hsame.mono (by decide) (by decide)⟩
  · exact retI X15 hx Bd.returns (hb hby d_sz_5) hr
  · show Q_sz Z a1 ar r N h0 n0 _ T15.heap _
    rw [e15]
    exact ⟨rfl, N0, rfl⟩
def Q_law (Z : State) (p0 : Int32) (p1 : Int32) (h0 : Heap) (n0 : Nat) (v : Option Value) (h : Heap) (L : List Loc) : Prop := v = some (.int 1) ∧ Fr n0 L
set_option maxRecDepth 65536 in
set_option maxHeartbeats 40000000 in
theorem rm_law (l : Launch) (Z : State) (a0 : Array Value) (hw : ∀ d ∈ tables_1, d.before a0 Z = true) (ws : List Jvm.Cond) (p0 : Int32) (p1 : Int32) (h0 : Heap) (n0 : Nat) (Z0 : n0 ≤ h0.size)  :
    MetFree l x (head1 (Jvm.Cond.code x code maxLocals ret :: ws) room_1) (fun a U => a = #[(.int p0), (.int p1)] ∧ Z.Warmed39 U.vm ∧ U.heap = h0) (fun _ _ _ _ _ => True) (fun _ U o U' => ∃ v L, o = .returned v ∧ Q_law Z p0 p1 h0 n0 v U'.heap L ∧ FrameEnd U o U' L room_1.cells room_1.slots) := by
  refine MetFree.of_bodySF (plainFor_of_name pn_com_example_parfactor_parfactor_model_PotentialTableIndexOfPinLaw) hisR ?_
  intro p e s m args below meth c s₁ Bd hml0 hP hK
  obtain ⟨rfl, hZ, hh⟩ := hP
  have hx := Bd.exec
  have hby := Bd.bytes
  have hml : c.maxLocals = 11 := hml0
  have hown : s.vm.findClass "com/example/parfactor/parfactor/model/PotentialTableIndexOfPinLaw" = some m.cls := findClass_of_methodNamed Bd.named
  have hnm := (name_of_methodNamed Bd.named Bd.method).1
  have X0 : Stand p l e room_1 s m #[(.int p0), (.int p1)] below meth c s₁ [] 0 0 := Stand.of_body Bd
  have e0 : s₁.heap = h0 := by rw [← hh, Bd.state]; rfl
  have N0 := Fr.nil n0
  obtain ⟨S0, hS0⟩ : ∃ S0, S0 = s₁.setTop (entryFrame m #[(.int p0), (.int p1)] maxLocals) := ⟨_, rfl⟩
  have pre : Pth p e below S0 s₁ (mkF m 0 #[.val (.int p0), .val (.int p1), .unset, .unset, .unset, .unset, .unset, .unset, .unset, .unset, .unset] []) := fun t k => by rw [hS0]; exact castTop (ef_law m p0 p1) k
  replace pre : Pth p e below S0 s₁ (mkF m 7 #[.val (.int p0), .val (.int p1), .val (.int ((p0 &&& (2147483647 : Int32)) % (5 : Int32))), .unset, .unset, .unset, .unset, .unset, .unset, .unset, .unset] []) := fun t k => pre t (by
    show Steps p.tables e below (s₁.setTop (mkF m 0 #[.val (.int p0), .val (.int p1), .unset, .unset, .unset, .unset, .unset, .unset, .unset, .unset, .unset] [])) t
    refine XS.iloadN X0.here hx rfl (hb hby at_0) rfl ?_
    show Steps p.tables e below (s₁.setTop (mkF m 1 #[.val (.int p0), .val (.int p1), .unset, .unset, .unset, .unset, .unset, .unset, .unset, .unset, .unset] [(.int p0)])) t
    refine X0.ldcInt hx hown (mvT hZ (hw _ (List.mem_of_getElem? (i := 0) rfl))) (g := (mkF m 1 #[.val (.int p0), .val (.int p1), .unset, .unset, .unset, .unset, .unset, .unset, .unset, .unset, .unset] [(.int p0)])) rfl (hb hby at_1) _ ?_
    show Steps p.tables e below (s₁.setTop (mkF m 3 #[.val (.int p0), .val (.int p1), .unset, .unset, .unset, .unset, .unset, .unset, .unset, .unset, .unset] [(.int (2147483647 : Int32)), (.int p0)])) t
    refine XS.iand X0.here hx rfl (hb hby at_3) rfl ?_
    show Steps p.tables e below (s₁.setTop (mkF m 4 #[.val (.int p0), .val (.int p1), .unset, .unset, .unset, .unset, .unset, .unset, .unset, .unset, .unset] [(.int (p0 &&& (2147483647 : Int32)))])) t
    refine XS.iconst X0.here hx rfl (hb hby at_4) ?_
    show Steps p.tables e below (s₁.setTop (mkF m 5 #[.val (.int p0), .val (.int p1), .unset, .unset, .unset, .unset, .unset, .unset, .unset, .unset, .unset] [(.int (5 : Int32)), (.int (p0 &&& (2147483647 : Int32)))])) t
    refine iremM (g := (mkF m 5 #[.val (.int p0), .val (.int p1), .unset, .unset, .unset, .unset, .unset, .unset, .unset, .unset, .unset] [(.int (5 : Int32)), (.int (p0 &&& (2147483647 : Int32)))])) X0 hx rfl (hb hby at_5) rfl (by decide) ?_
    show Steps p.tables e below (s₁.setTop (mkF m 6 #[.val (.int p0), .val (.int p1), .unset, .unset, .unset, .unset, .unset, .unset, .unset, .unset, .unset] [(.int ((p0 &&& (2147483647 : Int32)) % (5 : Int32)))])) t
    refine XS.istoreN X0.here hx rfl (hb hby at_6) rfl (l' := #[.val (.int p0), .val (.int p1), .val (.int ((p0 &&& (2147483647 : Int32)) % (5 : Int32))), .unset, .unset, .unset, .unset, .unset, .unset, .unset, .unset]) rfl ?_
    show Steps p.tables e below (s₁.setTop (mkF m 7 #[.val (.int p0), .val (.int p1), .val (.int ((p0 &&& (2147483647 : Int32)) % (5 : Int32))), .unset, .unset, .unset, .unset, .unset, .unset, .unset, .unset] [])) t
    exact k)
  obtain ⟨ar, har⟩ : ∃ z : Int32, z = ((p0 &&& (2147483647 : Int32)) % (5 : Int32)) := ⟨_, rfl⟩
  rw [← har] at pre
  have hA := own_ar har
  obtain ⟨T17, h17, X17, e17, E17, A17, D17, -, st17⟩ := newO X0 hx hZ hown (hw _ (List.mem_of_getElem? (i := 1) rfl)) (hw _ (List.mem_of_getElem? (i := 2) rfl)) (hw _ (List.mem_of_getElem? (i := 3) rfl)) e0 (g := (mkF m 7 #[.val (.int p0), .val (.int p1), .val (.int ar), .unset, .unset, .unset, .unset, .unset, .unset, .unset, .unset] [])) rfl (hb hby at_7) (by decide) (by decide)
  obtain ⟨b17, g17⟩ : ∃ z, z = h0.size := ⟨_, rfl⟩
  rw [← g17] at A17 D17 st17
  replace pre : Pth p e below S0 T17 (mkF m 10 #[.val (.int p0), .val (.int p1), .val (.int ar), .unset, .unset, .unset, .unset, .unset, .unset, .unset, .unset] [(.ref b17)]) := fun t k => pre t (st17 _ k)
  have G_arity : Fld Z h17 b17 "com/example/parfactor/parfactor/model/PotentialTable" "arity" "I" (.int (0 : Int32)) := D17 (Or.inr (hw _ (List.mem_of_getElem? (i := 22) rfl))) (ty := .int) (by decide)
  have G_potentials : Fld Z h17 b17 "com/example/parfactor/parfactor/model/PotentialTable" "potentials" "[D" .null := D17 (Or.inr (hw _ (List.mem_of_getElem? (i := 24) rfl))) (ty := (.array .double)) (by decide)
  have gb : n0 ≤ b17 := by rw [g17]; exact Z0
  obtain ⟨N, hN1, hN2, hN3⟩ := own_pw hA
  replace pre : Pth p e below S0 T17 (mkF m 15 #[.val (.int p0), .val (.int p1), .val (.int ar), .unset, .unset, .unset, .unset, .unset, .unset, .unset, .unset] [(.int ((1 : Int32) <<< (ar &&& 31))), (.int ar), (.ref b17), (.ref b17)]) := fun t k => pre t (by
    show Steps p.tables e below (T17.setTop (mkF m 10 #[.val (.int p0), .val (.int p1), .val (.int ar), .unset, .unset, .unset, .unset, .unset, .unset, .unset, .unset] [(.ref b17)])) t
    refine XS.dup X17.here hx rfl (hb hby at_10) rfl rfl ?_
    show Steps p.tables e below (T17.setTop (mkF m 11 #[.val (.int p0), .val (.int p1), .val (.int ar), .unset, .unset, .unset, .unset, .unset, .unset, .unset, .unset] [(.ref b17), (.ref b17)])) t
    refine XS.iloadN X17.here hx rfl (hb hby at_11) rfl ?_
    show Steps p.tables e below (T17.setTop (mkF m 12 #[.val (.int p0), .val (.int p1), .val (.int ar), .unset, .unset, .unset, .unset, .unset, .unset, .unset, .unset] [(.int ar), (.ref b17), (.ref b17)])) t
    refine XS.iconst X17.here hx rfl (hb hby at_12) ?_
    show Steps p.tables e below (T17.setTop (mkF m 13 #[.val (.int p0), .val (.int p1), .val (.int ar), .unset, .unset, .unset, .unset, .unset, .unset, .unset, .unset] [(.int (1 : Int32)), (.int ar), (.ref b17), (.ref b17)])) t
    refine XS.iloadN X17.here hx rfl (hb hby at_13) rfl ?_
    show Steps p.tables e below (T17.setTop (mkF m 14 #[.val (.int p0), .val (.int p1), .val (.int ar), .unset, .unset, .unset, .unset, .unset, .unset, .unset, .unset] [(.int ar), (.int (1 : Int32)), (.int ar), (.ref b17), (.ref b17)])) t
    refine XS.ishl X17.here hx rfl (hb hby at_14) rfl ?_
    show Steps p.tables e below (T17.setTop (mkF m 15 #[.val (.int p0), .val (.int p1), .val (.int ar), .unset, .unset, .unset, .unset, .unset, .unset, .unset, .unset] [(.int ((1 : Int32) <<< (ar &&& 31))), (.int ar), (.ref b17), (.ref b17)])) t
    exact k)
  obtain ⟨sz, hsz⟩ : ∃ z : Int32, z = ((1 : Int32) <<< (ar &&& 31)) := ⟨_, rfl⟩
  rw [← hsz] at pre
  rw [← hsz] at hN1
  obtain ⟨T18, h18, k18, X18, e18, E18, A18, Ex18, st18⟩ := newPE X17 hx hZ (hw _ (List.mem_of_getElem? (i := 4) rfl)) e17 (g := (mkF m 15 #[.val (.int p0), .val (.int p1), .val (.int ar), .unset, .unset, .unset, .unset, .unset, .unset, .unset, .unset] [(.int sz), (.int ar), (.ref b17), (.ref b17)])) rfl (hb hby at_15) rfl (own_nneg (by omega)) (cap := 16) (own_cle hN1 hN2) (by decide) (by decide) (by decide) (ad := "[D") (by decide)
  obtain ⟨b18, g18⟩ : ∃ z, z = h17.size := ⟨_, rfl⟩
  rw [← g18] at A18 Ex18 st18
  have F18 := OFun.new A18
  replace pre : Pth p e below S0 T18 (mkF m 17 #[.val (.int p0), .val (.int p1), .val (.int ar), .unset, .unset, .unset, .unset, .unset, .unset, .unset, .unset] [(.ref b18), (.int ar), (.ref b17), (.ref b17)]) := fun t k => pre t (st18 _ k)
  rw [own_cl hN1] at F18
  obtain ⟨_, _, ⟨T19, L19, k19, n19⟩, -, X19, ⟨Lc19, hQ19, l19, y19, z19⟩, st19⟩ := X18.specialBack hx (y := (⟨"com/example/parfactor/parfactor/model/PotentialTable", "<init>", "(I[D)V"⟩ : MethodName)) rfl hown (mvT hZ (hw _ (List.mem_of_getElem? (i := 5) rfl))) (mvT hZ (hw _ (List.mem_of_getElem? (i := 6) rfl))) (mvT hZ (hw _ (List.mem_of_getElem? (i := 7) rfl))) (by decide) (backOf (W := 1) (rm_ini l Z a0 hw [] b17 ar b18 N h0 h18 n0 (Nat.le_trans (Nat.le_trans Z0 E17.1) E18.1) gb (Nat.le_of_eq g17.symm) (own_ext_trans E17 E18) hA ⟨by rw [← hsz]; exact hN1, hN2⟩ (A17.ext E18) (G_arity.ext E18) (G_potentials.ext E18) F18 Ex18) hZ (hw _ (List.mem_of_getElem? (i := 7) rfl)) (hw _ (List.mem_of_getElem? (i := 3) rfl)) (by decide) (by decide)) (g := (mkF m 17 #[.val (.int p0), .val (.int p1), .val (.int ar), .unset, .unset, .unset, .unset, .unset, .unset, .unset, .unset] [(.ref b18), (.int ar), (.ref b17), (.ref b17)])) rfl (by rw [hml]; rfl) (Steps.refl _) (a := b17) (argsL := [(.int ar), (.ref b18)]) (rest := [(.ref b17)]) (lenOf pd__I_D_V rfl) rfl (by show 2 * 0 + _ ≤ _; exact Nat.le_of_eq rfl) (hb hby at_17) (fun _ _ => ⟨rfl, e18, (by decide : 2 + 1 ≤ _), (by decide : 18 + 16 ≤ _)⟩)
  dsimp only [Pt.U, Pt.locs, Pt.cells, Pt.slots] at X19 l19 y19 z19 st19 hQ19
  subst l19 y19 z19
  obtain ⟨rfl, N19q, E19, pr, hO19⟩ := hQ19
  have N19 := Fr.app N0 N19q
  replace pre : Pth p e below S0 T19 (mkF m 20 #[.val (.int p0), .val (.int p1), .val (.int ar), .unset, .unset, .unset, .unset, .unset, .unset, .unset, .unset] [(.ref b17)]) := fun t k => pre t (st19.trans k)
  replace pre : Pth p e below S0 T19 (mkF m 24 #[.val (.int p0), .val (.int p1), .val (.int ar), .val (.ref b17), .unset, .unset, .unset, .unset, .unset, .unset, .unset] [(.int (p1 &&& (1 : Int32)))]) := fun t k => pre t (by
    show Steps p.tables e below (T19.setTop (mkF m 20 #[.val (.int p0), .val (.int p1), .val (.int ar), .unset, .unset, .unset, .unset, .unset, .unset, .unset, .unset] [(.ref b17)])) t
    refine XS.astoreN X19.here hx rfl (hb hby at_20) rfl rfl (l' := #[.val (.int p0), .val (.int p1), .val (.int ar), .val (.ref b17), .unset, .unset, .unset, .unset, .unset, .unset, .unset]) rfl ?_
    show Steps p.tables e below (T19.setTop (mkF m 21 #[.val (.int p0), .val (.int p1), .val (.int ar), .val (.ref b17), .unset, .unset, .unset, .unset, .unset, .unset, .unset] [])) t
    refine XS.iloadN X19.here hx rfl (hb hby at_21) rfl ?_
    show Steps p.tables e below (T19.setTop (mkF m 22 #[.val (.int p0), .val (.int p1), .val (.int ar), .val (.ref b17), .unset, .unset, .unset, .unset, .unset, .unset, .unset] [(.int p1)])) t
    refine XS.iconst X19.here hx rfl (hb hby at_22) ?_
    show Steps p.tables e below (T19.setTop (mkF m 23 #[.val (.int p0), .val (.int p1), .val (.int ar), .val (.ref b17), .unset, .unset, .unset, .unset, .unset, .unset, .unset] [(.int (1 : Int32)), (.int p1)])) t
    refine XS.iand X19.here hx rfl (hb hby at_23) rfl ?_
    show Steps p.tables e below (T19.setTop (mkF m 24 #[.val (.int p0), .val (.int p1), .val (.int ar), .val (.ref b17), .unset, .unset, .unset, .unset, .unset, .unset, .unset] [(.int (p1 &&& (1 : Int32)))])) t
    exact k)
  obtain ⟨v0, h_v0, pre⟩ : ∃ v0 : Int32, (v0 = 0 ∨ v0 = 1) ∧ Pth p e below S0 T19 (mkF m 32 #[.val (.int p0), .val (.int p1), .val (.int ar), .val (.ref b17), .unset, .unset, .unset, .unset, .unset, .unset, .unset] [(.int v0)]) := by
    by_cases z1 : (p1 &&& (1 : Int32)) = (0 : Int32)
    · replace pre : Pth p e below S0 T19 (mkF m 32 #[.val (.int p0), .val (.int p1), .val (.int ar), .val (.ref b17), .unset, .unset, .unset, .unset, .unset, .unset, .unset] [(.int (0 : Int32))]) := fun t k => pre t (by
        show Steps p.tables e below (T19.setTop (mkF m 24 #[.val (.int p0), .val (.int p1), .val (.int ar), .val (.ref b17), .unset, .unset, .unset, .unset, .unset, .unset, .unset] [(.int (p1 &&& (1 : Int32)))])) t
        refine XS.ifYes X19.here hx rfl (pc0 := 24) (pc' := 31) rfl (hb hby at_24) rfl (XT.i0_eq_t z1) (by decide) (by decide) ?_
        show Steps p.tables e below (T19.setTop (mkF m 31 #[.val (.int p0), .val (.int p1), .val (.int ar), .val (.ref b17), .unset, .unset, .unset, .unset, .unset, .unset, .unset] [])) t
        refine XS.iconst X19.here hx rfl (hb hby at_31) ?_
        show Steps p.tables e below (T19.setTop (mkF m 32 #[.val (.int p0), .val (.int p1), .val (.int ar), .val (.ref b17), .unset, .unset, .unset, .unset, .unset, .unset, .unset] [(.int (0 : Int32))])) t
        exact k)
      exact ⟨_, Or.inl rfl, pre⟩
    · replace pre : Pth p e below S0 T19 (mkF m 32 #[.val (.int p0), .val (.int p1), .val (.int ar), .val (.ref b17), .unset, .unset, .unset, .unset, .unset, .unset, .unset] [(.int (1 : Int32))]) := fun t k => pre t (by
        show Steps p.tables e below (T19.setTop (mkF m 24 #[.val (.int p0), .val (.int p1), .val (.int ar), .val (.ref b17), .unset, .unset, .unset, .unset, .unset, .unset, .unset] [(.int (p1 &&& (1 : Int32)))])) t
        refine XS.ifNo X19.here hx rfl (hb hby at_24) rfl (XT.i0_eq_f z1) ?_
        show Steps p.tables e below (T19.setTop (mkF m 27 #[.val (.int p0), .val (.int p1), .val (.int ar), .val (.ref b17), .unset, .unset, .unset, .unset, .unset, .unset, .unset] [])) t
        refine XS.iconst X19.here hx rfl (hb hby at_27) ?_
        show Steps p.tables e below (T19.setTop (mkF m 28 #[.val (.int p0), .val (.int p1), .val (.int ar), .val (.ref b17), .unset, .unset, .unset, .unset, .unset, .unset, .unset] [(.int (1 : Int32))])) t
        refine XS.goto X19.here hx rfl (pc0 := 28) (pc' := 32) rfl (hb hby at_28) (by decide) (by decide) ?_
        show Steps p.tables e below (T19.setTop (mkF m 32 #[.val (.int p0), .val (.int p1), .val (.int ar), .val (.ref b17), .unset, .unset, .unset, .unset, .unset, .unset, .unset] [(.int (1 : Int32))])) t
        exact k)
      exact ⟨_, Or.inr rfl, pre⟩
  replace pre : Pth p e below S0 T19 (mkF m 37 #[.val (.int p0), .val (.int p1), .val (.int ar), .val (.ref b17), .val (.int v0), .unset, .unset, .unset, .unset, .unset, .unset] [(.int (p1 &&& (2 : Int32)))]) := fun t k => pre t (by
    show Steps p.tables e below (T19.setTop (mkF m 32 #[.val (.int p0), .val (.int p1), .val (.int ar), .val (.ref b17), .unset, .unset, .unset, .unset, .unset, .unset, .unset] [(.int v0)])) t
    refine XS.istore X19.here hx rfl (hb hby at_32) rfl (l' := #[.val (.int p0), .val (.int p1), .val (.int ar), .val (.ref b17), .val (.int v0), .unset, .unset, .unset, .unset, .unset, .unset]) rfl ?_
    show Steps p.tables e below (T19.setTop (mkF m 34 #[.val (.int p0), .val (.int p1), .val (.int ar), .val (.ref b17), .val (.int v0), .unset, .unset, .unset, .unset, .unset, .unset] [])) t
    refine XS.iloadN X19.here hx rfl (hb hby at_34) rfl ?_
    show Steps p.tables e below (T19.setTop (mkF m 35 #[.val (.int p0), .val (.int p1), .val (.int ar), .val (.ref b17), .val (.int v0), .unset, .unset, .unset, .unset, .unset, .unset] [(.int p1)])) t
    refine XS.iconst X19.here hx rfl (hb hby at_35) ?_
    show Steps p.tables e below (T19.setTop (mkF m 36 #[.val (.int p0), .val (.int p1), .val (.int ar), .val (.ref b17), .val (.int v0), .unset, .unset, .unset, .unset, .unset, .unset] [(.int (2 : Int32)), (.int p1)])) t
    refine XS.iand X19.here hx rfl (hb hby at_36) rfl ?_
    show Steps p.tables e below (T19.setTop (mkF m 37 #[.val (.int p0), .val (.int p1), .val (.int ar), .val (.ref b17), .val (.int v0), .unset, .unset, .unset, .unset, .unset, .unset] [(.int (p1 &&& (2 : Int32)))])) t
    exact k)
  obtain ⟨v1, h_v1, pre⟩ : ∃ v1 : Int32, (v1 = 0 ∨ v1 = 1) ∧ Pth p e below S0 T19 (mkF m 45 #[.val (.int p0), .val (.int p1), .val (.int ar), .val (.ref b17), .val (.int v0), .unset, .unset, .unset, .unset, .unset, .unset] [(.int v1)]) := by
    by_cases z1 : (p1 &&& (2 : Int32)) = (0 : Int32)
    · replace pre : Pth p e below S0 T19 (mkF m 45 #[.val (.int p0), .val (.int p1), .val (.int ar), .val (.ref b17), .val (.int v0), .unset, .unset, .unset, .unset, .unset, .unset] [(.int (0 : Int32))]) := fun t k => pre t (by
        show Steps p.tables e below (T19.setTop (mkF m 37 #[.val (.int p0), .val (.int p1), .val (.int ar), .val (.ref b17), .val (.int v0), .unset, .unset, .unset, .unset, .unset, .unset] [(.int (p1 &&& (2 : Int32)))])) t
        refine XS.ifYes X19.here hx rfl (pc0 := 37) (pc' := 44) rfl (hb hby at_37) rfl (XT.i0_eq_t z1) (by decide) (by decide) ?_
        show Steps p.tables e below (T19.setTop (mkF m 44 #[.val (.int p0), .val (.int p1), .val (.int ar), .val (.ref b17), .val (.int v0), .unset, .unset, .unset, .unset, .unset, .unset] [])) t
        refine XS.iconst X19.here hx rfl (hb hby at_44) ?_
        show Steps p.tables e below (T19.setTop (mkF m 45 #[.val (.int p0), .val (.int p1), .val (.int ar), .val (.ref b17), .val (.int v0), .unset, .unset, .unset, .unset, .unset, .unset] [(.int (0 : Int32))])) t
        exact k)
      exact ⟨_, Or.inl rfl, pre⟩
    · replace pre : Pth p e below S0 T19 (mkF m 45 #[.val (.int p0), .val (.int p1), .val (.int ar), .val (.ref b17), .val (.int v0), .unset, .unset, .unset, .unset, .unset, .unset] [(.int (1 : Int32))]) := fun t k => pre t (by
        show Steps p.tables e below (T19.setTop (mkF m 37 #[.val (.int p0), .val (.int p1), .val (.int ar), .val (.ref b17), .val (.int v0), .unset, .unset, .unset, .unset, .unset, .unset] [(.int (p1 &&& (2 : Int32)))])) t
        refine XS.ifNo X19.here hx rfl (hb hby at_37) rfl (XT.i0_eq_f z1) ?_
        show Steps p.tables e below (T19.setTop (mkF m 40 #[.val (.int p0), .val (.int p1), .val (.int ar), .val (.ref b17), .val (.int v0), .unset, .unset, .unset, .unset, .unset, .unset] [])) t
        refine XS.iconst X19.here hx rfl (hb hby at_40) ?_
        show Steps p.tables e below (T19.setTop (mkF m 41 #[.val (.int p0), .val (.int p1), .val (.int ar), .val (.ref b17), .val (.int v0), .unset, .unset, .unset, .unset, .unset, .unset] [(.int (1 : Int32))])) t
        refine XS.goto X19.here hx rfl (pc0 := 41) (pc' := 45) rfl (hb hby at_41) (by decide) (by decide) ?_
        show Steps p.tables e below (T19.setTop (mkF m 45 #[.val (.int p0), .val (.int p1), .val (.int ar), .val (.ref b17), .val (.int v0), .unset, .unset, .unset, .unset, .unset, .unset] [(.int (1 : Int32))])) t
        exact k)
      exact ⟨_, Or.inr rfl, pre⟩
  replace pre : Pth p e below S0 T19 (mkF m 50 #[.val (.int p0), .val (.int p1), .val (.int ar), .val (.ref b17), .val (.int v0), .val (.int v1), .unset, .unset, .unset, .unset, .unset] [(.int (p1 &&& (4 : Int32)))]) := fun t k => pre t (by
    show Steps p.tables e below (T19.setTop (mkF m 45 #[.val (.int p0), .val (.int p1), .val (.int ar), .val (.ref b17), .val (.int v0), .unset, .unset, .unset, .unset, .unset, .unset] [(.int v1)])) t
    refine XS.istore X19.here hx rfl (hb hby at_45) rfl (l' := #[.val (.int p0), .val (.int p1), .val (.int ar), .val (.ref b17), .val (.int v0), .val (.int v1), .unset, .unset, .unset, .unset, .unset]) rfl ?_
    show Steps p.tables e below (T19.setTop (mkF m 47 #[.val (.int p0), .val (.int p1), .val (.int ar), .val (.ref b17), .val (.int v0), .val (.int v1), .unset, .unset, .unset, .unset, .unset] [])) t
    refine XS.iloadN X19.here hx rfl (hb hby at_47) rfl ?_
    show Steps p.tables e below (T19.setTop (mkF m 48 #[.val (.int p0), .val (.int p1), .val (.int ar), .val (.ref b17), .val (.int v0), .val (.int v1), .unset, .unset, .unset, .unset, .unset] [(.int p1)])) t
    refine XS.iconst X19.here hx rfl (hb hby at_48) ?_
    show Steps p.tables e below (T19.setTop (mkF m 49 #[.val (.int p0), .val (.int p1), .val (.int ar), .val (.ref b17), .val (.int v0), .val (.int v1), .unset, .unset, .unset, .unset, .unset] [(.int (4 : Int32)), (.int p1)])) t
    refine XS.iand X19.here hx rfl (hb hby at_49) rfl ?_
    show Steps p.tables e below (T19.setTop (mkF m 50 #[.val (.int p0), .val (.int p1), .val (.int ar), .val (.ref b17), .val (.int v0), .val (.int v1), .unset, .unset, .unset, .unset, .unset] [(.int (p1 &&& (4 : Int32)))])) t
    exact k)
  obtain ⟨v2, h_v2, pre⟩ : ∃ v2 : Int32, (v2 = 0 ∨ v2 = 1) ∧ Pth p e below S0 T19 (mkF m 58 #[.val (.int p0), .val (.int p1), .val (.int ar), .val (.ref b17), .val (.int v0), .val (.int v1), .unset, .unset, .unset, .unset, .unset] [(.int v2)]) := by
    by_cases z1 : (p1 &&& (4 : Int32)) = (0 : Int32)
    · replace pre : Pth p e below S0 T19 (mkF m 58 #[.val (.int p0), .val (.int p1), .val (.int ar), .val (.ref b17), .val (.int v0), .val (.int v1), .unset, .unset, .unset, .unset, .unset] [(.int (0 : Int32))]) := fun t k => pre t (by
        show Steps p.tables e below (T19.setTop (mkF m 50 #[.val (.int p0), .val (.int p1), .val (.int ar), .val (.ref b17), .val (.int v0), .val (.int v1), .unset, .unset, .unset, .unset, .unset] [(.int (p1 &&& (4 : Int32)))])) t
        refine XS.ifYes X19.here hx rfl (pc0 := 50) (pc' := 57) rfl (hb hby at_50) rfl (XT.i0_eq_t z1) (by decide) (by decide) ?_
        show Steps p.tables e below (T19.setTop (mkF m 57 #[.val (.int p0), .val (.int p1), .val (.int ar), .val (.ref b17), .val (.int v0), .val (.int v1), .unset, .unset, .unset, .unset, .unset] [])) t
        refine XS.iconst X19.here hx rfl (hb hby at_57) ?_
        show Steps p.tables e below (T19.setTop (mkF m 58 #[.val (.int p0), .val (.int p1), .val (.int ar), .val (.ref b17), .val (.int v0), .val (.int v1), .unset, .unset, .unset, .unset, .unset] [(.int (0 : Int32))])) t
        exact k)
      exact ⟨_, Or.inl rfl, pre⟩
    · replace pre : Pth p e below S0 T19 (mkF m 58 #[.val (.int p0), .val (.int p1), .val (.int ar), .val (.ref b17), .val (.int v0), .val (.int v1), .unset, .unset, .unset, .unset, .unset] [(.int (1 : Int32))]) := fun t k => pre t (by
        show Steps p.tables e below (T19.setTop (mkF m 50 #[.val (.int p0), .val (.int p1), .val (.int ar), .val (.ref b17), .val (.int v0), .val (.int v1), .unset, .unset, .unset, .unset, .unset] [(.int (p1 &&& (4 : Int32)))])) t
        refine XS.ifNo X19.here hx rfl (hb hby at_50) rfl (XT.i0_eq_f z1) ?_
        show Steps p.tables e below (T19.setTop (mkF m 53 #[.val (.int p0), .val (.int p1), .val (.int ar), .val (.ref b17), .val (.int v0), .val (.int v1), .unset, .unset, .unset, .unset, .unset] [])) t
        refine XS.iconst X19.here hx rfl (hb hby at_53) ?_
        show Steps p.tables e below (T19.setTop (mkF m 54 #[.val (.int p0), .val (.int p1), .val (.int ar), .val (.ref b17), .val (.int v0), .val (.int v1), .unset, .unset, .unset, .unset, .unset] [(.int (1 : Int32))])) t
        refine XS.goto X19.here hx rfl (pc0 := 54) (pc' := 58) rfl (hb hby at_54) (by decide) (by decide) ?_
        show Steps p.tables e below (T19.setTop (mkF m 58 #[.val (.int p0), .val (.int p1), .val (.int ar), .val (.ref b17), .val (.int v0), .val (.int v1), .unset, .unset, .unset, .unset, .unset] [(.int (1 : Int32))])) t
        exact k)
      exact ⟨_, Or.inr rfl, pre⟩
  replace pre : Pth p e below S0 T19 (mkF m 64 #[.val (.int p0), .val (.int p1), .val (.int ar), .val (.ref b17), .val (.int v0), .val (.int v1), .val (.int v2), .unset, .unset, .unset, .unset] [(.int (p1 &&& (8 : Int32)))]) := fun t k => pre t (by
    show Steps p.tables e below (T19.setTop (mkF m 58 #[.val (.int p0), .val (.int p1), .val (.int ar), .val (.ref b17), .val (.int v0), .val (.int v1), .unset, .unset, .unset, .unset, .unset] [(.int v2)])) t
    refine XS.istore X19.here hx rfl (hb hby at_58) rfl (l' := #[.val (.int p0), .val (.int p1), .val (.int ar), .val (.ref b17), .val (.int v0), .val (.int v1), .val (.int v2), .unset, .unset, .unset, .unset]) rfl ?_
    show Steps p.tables e below (T19.setTop (mkF m 60 #[.val (.int p0), .val (.int p1), .val (.int ar), .val (.ref b17), .val (.int v0), .val (.int v1), .val (.int v2), .unset, .unset, .unset, .unset] [])) t
    refine XS.iloadN X19.here hx rfl (hb hby at_60) rfl ?_
    show Steps p.tables e below (T19.setTop (mkF m 61 #[.val (.int p0), .val (.int p1), .val (.int ar), .val (.ref b17), .val (.int v0), .val (.int v1), .val (.int v2), .unset, .unset, .unset, .unset] [(.int p1)])) t
    refine XS.bipush X19.here hx rfl (hb hby at_61) ?_
    show Steps p.tables e below (T19.setTop (mkF m 63 #[.val (.int p0), .val (.int p1), .val (.int ar), .val (.ref b17), .val (.int v0), .val (.int v1), .val (.int v2), .unset, .unset, .unset, .unset] [(.int (8 : Int32)), (.int p1)])) t
    refine XS.iand X19.here hx rfl (hb hby at_63) rfl ?_
    show Steps p.tables e below (T19.setTop (mkF m 64 #[.val (.int p0), .val (.int p1), .val (.int ar), .val (.ref b17), .val (.int v0), .val (.int v1), .val (.int v2), .unset, .unset, .unset, .unset] [(.int (p1 &&& (8 : Int32)))])) t
    exact k)
  obtain ⟨v3, h_v3, pre⟩ : ∃ v3 : Int32, (v3 = 0 ∨ v3 = 1) ∧ Pth p e below S0 T19 (mkF m 72 #[.val (.int p0), .val (.int p1), .val (.int ar), .val (.ref b17), .val (.int v0), .val (.int v1), .val (.int v2), .unset, .unset, .unset, .unset] [(.int v3)]) := by
    by_cases z1 : (p1 &&& (8 : Int32)) = (0 : Int32)
    · replace pre : Pth p e below S0 T19 (mkF m 72 #[.val (.int p0), .val (.int p1), .val (.int ar), .val (.ref b17), .val (.int v0), .val (.int v1), .val (.int v2), .unset, .unset, .unset, .unset] [(.int (0 : Int32))]) := fun t k => pre t (by
        show Steps p.tables e below (T19.setTop (mkF m 64 #[.val (.int p0), .val (.int p1), .val (.int ar), .val (.ref b17), .val (.int v0), .val (.int v1), .val (.int v2), .unset, .unset, .unset, .unset] [(.int (p1 &&& (8 : Int32)))])) t
        refine XS.ifYes X19.here hx rfl (pc0 := 64) (pc' := 71) rfl (hb hby at_64) rfl (XT.i0_eq_t z1) (by decide) (by decide) ?_
        show Steps p.tables e below (T19.setTop (mkF m 71 #[.val (.int p0), .val (.int p1), .val (.int ar), .val (.ref b17), .val (.int v0), .val (.int v1), .val (.int v2), .unset, .unset, .unset, .unset] [])) t
        refine XS.iconst X19.here hx rfl (hb hby at_71) ?_
        show Steps p.tables e below (T19.setTop (mkF m 72 #[.val (.int p0), .val (.int p1), .val (.int ar), .val (.ref b17), .val (.int v0), .val (.int v1), .val (.int v2), .unset, .unset, .unset, .unset] [(.int (0 : Int32))])) t
        exact k)
      exact ⟨_, Or.inl rfl, pre⟩
    · replace pre : Pth p e below S0 T19 (mkF m 72 #[.val (.int p0), .val (.int p1), .val (.int ar), .val (.ref b17), .val (.int v0), .val (.int v1), .val (.int v2), .unset, .unset, .unset, .unset] [(.int (1 : Int32))]) := fun t k => pre t (by
        show Steps p.tables e below (T19.setTop (mkF m 64 #[.val (.int p0), .val (.int p1), .val (.int ar), .val (.ref b17), .val (.int v0), .val (.int v1), .val (.int v2), .unset, .unset, .unset, .unset] [(.int (p1 &&& (8 : Int32)))])) t
        refine XS.ifNo X19.here hx rfl (hb hby at_64) rfl (XT.i0_eq_f z1) ?_
        show Steps p.tables e below (T19.setTop (mkF m 67 #[.val (.int p0), .val (.int p1), .val (.int ar), .val (.ref b17), .val (.int v0), .val (.int v1), .val (.int v2), .unset, .unset, .unset, .unset] [])) t
        refine XS.iconst X19.here hx rfl (hb hby at_67) ?_
        show Steps p.tables e below (T19.setTop (mkF m 68 #[.val (.int p0), .val (.int p1), .val (.int ar), .val (.ref b17), .val (.int v0), .val (.int v1), .val (.int v2), .unset, .unset, .unset, .unset] [(.int (1 : Int32))])) t
        refine XS.goto X19.here hx rfl (pc0 := 68) (pc' := 72) rfl (hb hby at_68) (by decide) (by decide) ?_
        show Steps p.tables e below (T19.setTop (mkF m 72 #[.val (.int p0), .val (.int p1), .val (.int ar), .val (.ref b17), .val (.int v0), .val (.int v1), .val (.int v2), .unset, .unset, .unset, .unset] [(.int (1 : Int32))])) t
        exact k)
      exact ⟨_, Or.inr rfl, pre⟩
  replace pre : Pth p e below S0 T19 (mkF m 75 #[.val (.int p0), .val (.int p1), .val (.int ar), .val (.ref b17), .val (.int v0), .val (.int v1), .val (.int v2), .val (.int v3), .unset, .unset, .unset] [(.int ar)]) := fun t k => pre t (by
    show Steps p.tables e below (T19.setTop (mkF m 72 #[.val (.int p0), .val (.int p1), .val (.int ar), .val (.ref b17), .val (.int v0), .val (.int v1), .val (.int v2), .unset, .unset, .unset, .unset] [(.int v3)])) t
    refine XS.istore X19.here hx rfl (hb hby at_72) rfl (l' := #[.val (.int p0), .val (.int p1), .val (.int ar), .val (.ref b17), .val (.int v0), .val (.int v1), .val (.int v2), .val (.int v3), .unset, .unset, .unset]) rfl ?_
    show Steps p.tables e below (T19.setTop (mkF m 74 #[.val (.int p0), .val (.int p1), .val (.int ar), .val (.ref b17), .val (.int v0), .val (.int v1), .val (.int v2), .val (.int v3), .unset, .unset, .unset] [])) t
    refine XS.iloadN X19.here hx rfl (hb hby at_74) rfl ?_
    show Steps p.tables e below (T19.setTop (mkF m 75 #[.val (.int p0), .val (.int p1), .val (.int ar), .val (.ref b17), .val (.int v0), .val (.int v1), .val (.int v2), .val (.int v3), .unset, .unset, .unset] [(.int ar)])) t
    exact k)
  obtain ⟨T20, h20, k20, X20, e20, E20, A20, st20⟩ := newP X19 hx hZ (hw _ (List.mem_of_getElem? (i := 25) rfl)) rfl (g := (mkF m 75 #[.val (.int p0), .val (.int p1), .val (.int ar), .val (.ref b17), .val (.int v0), .val (.int v1), .val (.int v2), .val (.int v3), .unset, .unset, .unset] [(.int ar)])) rfl (hb hby at_75) rfl (own_nneg hA.1) (cap := 4) (own_c4 hA) (by decide) (by decide) (by decide)
  obtain ⟨b20, g20⟩ : ∃ z, z = T19.heap.size := ⟨_, rfl⟩
  rw [← g20] at A20 st20
  have F20 := OFun.new A20
  replace pre : Pth p e below S0 T20 (mkF m 77 #[.val (.int p0), .val (.int p1), .val (.int ar), .val (.ref b17), .val (.int v0), .val (.int v1), .val (.int v2), .val (.int v3), .unset, .unset, .unset] [(.ref b20)]) := fun t k => pre t (st20 _ k)
  obtain ⟨M, hM, hM4⟩ := own_M hA
  rw [own_cl hM] at F20
  have hO1 := hO19.ext E20
  have gz : n0 ≤ b20 := by rw [g20]; exact Nat.le_trans Z0 E19.1
  have nz1 : b17 ≠ b20 := by rw [g20]; exact Nat.ne_of_lt hO19.1.lt
  have nz2 : pr ≠ b20 := by rw [g20]; exact Nat.ne_of_lt hO19.2.2.2.1.lt
  replace pre : Pth p e below S0 T20 (mkF m 79 #[.val (.int p0), .val (.int p1), .val (.int ar), .val (.ref b17), .val (.int v0), .val (.int v1), .val (.int v2), .val (.int v3), .val (.ref b20), .unset, .unset] []) := fun t k => pre t (by
    show Steps p.tables e below (T20.setTop (mkF m 77 #[.val (.int p0), .val (.int p1), .val (.int ar), .val (.ref b17), .val (.int v0), .val (.int v1), .val (.int v2), .val (.int v3), .unset, .unset, .unset] [(.ref b20)])) t
    refine XS.astore X20.here hx rfl (hb hby at_77) rfl rfl (l' := #[.val (.int p0), .val (.int p1), .val (.int ar), .val (.ref b17), .val (.int v0), .val (.int v1), .val (.int v2), .val (.int v3), .val (.ref b20), .unset, .unset]) rfl ?_
    show Steps p.tables e below (T20.setTop (mkF m 79 #[.val (.int p0), .val (.int p1), .val (.int ar), .val (.ref b17), .val (.int v0), .val (.int v1), .val (.int v2), .val (.int v3), .val (.ref b20), .unset, .unset] [])) t
    exact k)
  rcases own_r5 hA hM hN1 hsz with ⟨rfl, rfl, rfl⟩ | ⟨rfl, rfl, rfl⟩ | ⟨rfl, rfl, rfl⟩ | ⟨rfl, rfl, rfl⟩ | ⟨rfl, rfl, rfl⟩
  · have Fz : OFun Z h20 b20 .boolean 0 (fun j => .int (own_bf v0 v1 v2 v3 j)) := F20.congr (fun j hj => by
      exact absurd hj (Nat.not_lt_zero _))
    replace pre : Pth p e below S0 T20 (mkF m 207 #[.val (.int p0), .val (.int p1), .val (.int (0 : Int32)), .val (.ref b17), .val (.int v0), .val (.int v1), .val (.int v2), .val (.int v3), .val (.ref b20), .val (.int (0 : Int32)), .unset] [(.ref b20), (.ref b17)]) := fun t k => pre t (by
      show Steps p.tables e below (T20.setTop (mkF m 79 #[.val (.int p0), .val (.int p1), .val (.int (0 : Int32)), .val (.ref b17), .val (.int v0), .val (.int v1), .val (.int v2), .val (.int v3), .val (.ref b20), .unset, .unset] [])) t
      refine XS.iloadN X20.here hx rfl (hb hby at_79) rfl ?_
      show Steps p.tables e below (T20.setTop (mkF m 80 #[.val (.int p0), .val (.int p1), .val (.int (0 : Int32)), .val (.ref b17), .val (.int v0), .val (.int v1), .val (.int v2), .val (.int v3), .val (.ref b20), .unset, .unset] [(.int (0 : Int32))])) t
      refine XS.ifYes X20.here hx rfl (pc0 := 80) (pc' := 89) rfl (hb hby at_80) rfl (XT.i0_le_t (by decide)) (by decide) (by decide) ?_
      show Steps p.tables e below (T20.setTop (mkF m 89 #[.val (.int p0), .val (.int p1), .val (.int (0 : Int32)), .val (.ref b17), .val (.int v0), .val (.int v1), .val (.int v2), .val (.int v3), .val (.ref b20), .unset, .unset] [])) t
      refine XS.iloadN X20.here hx rfl (hb hby at_89) rfl ?_
      show Steps p.tables e below (T20.setTop (mkF m 90 #[.val (.int p0), .val (.int p1), .val (.int (0 : Int32)), .val (.ref b17), .val (.int v0), .val (.int v1), .val (.int v2), .val (.int v3), .val (.ref b20), .unset, .unset] [(.int (0 : Int32))])) t
      refine XS.iconst X20.here hx rfl (hb hby at_90) ?_
      show Steps p.tables e below (T20.setTop (mkF m 91 #[.val (.int p0), .val (.int p1), .val (.int (0 : Int32)), .val (.ref b17), .val (.int v0), .val (.int v1), .val (.int v2), .val (.int v3), .val (.ref b20), .unset, .unset] [(.int (1 : Int32)), (.int (0 : Int32))])) t
      refine XS.icmpYes X20.here hx rfl (pc0 := 91) (pc' := 100) rfl (hb hby at_91) rfl (XT.ii_le_t (by decide)) (by decide) (by decide) ?_
      show Steps p.tables e below (T20.setTop (mkF m 100 #[.val (.int p0), .val (.int p1), .val (.int (0 : Int32)), .val (.ref b17), .val (.int v0), .val (.int v1), .val (.int v2), .val (.int v3), .val (.ref b20), .unset, .unset] [])) t
      refine XS.iloadN X20.here hx rfl (hb hby at_100) rfl ?_
      show Steps p.tables e below (T20.setTop (mkF m 101 #[.val (.int p0), .val (.int p1), .val (.int (0 : Int32)), .val (.ref b17), .val (.int v0), .val (.int v1), .val (.int v2), .val (.int v3), .val (.ref b20), .unset, .unset] [(.int (0 : Int32))])) t
      refine XS.iconst X20.here hx rfl (hb hby at_101) ?_
      show Steps p.tables e below (T20.setTop (mkF m 102 #[.val (.int p0), .val (.int p1), .val (.int (0 : Int32)), .val (.ref b17), .val (.int v0), .val (.int v1), .val (.int v2), .val (.int v3), .val (.ref b20), .unset, .unset] [(.int (2 : Int32)), (.int (0 : Int32))])) t
      refine XS.icmpYes X20.here hx rfl (pc0 := 102) (pc' := 111) rfl (hb hby at_102) rfl (XT.ii_le_t (by decide)) (by decide) (by decide) ?_
      show Steps p.tables e below (T20.setTop (mkF m 111 #[.val (.int p0), .val (.int p1), .val (.int (0 : Int32)), .val (.ref b17), .val (.int v0), .val (.int v1), .val (.int v2), .val (.int v3), .val (.ref b20), .unset, .unset] [])) t
      refine XS.iloadN X20.here hx rfl (hb hby at_111) rfl ?_
      show Steps p.tables e below (T20.setTop (mkF m 112 #[.val (.int p0), .val (.int p1), .val (.int (0 : Int32)), .val (.ref b17), .val (.int v0), .val (.int v1), .val (.int v2), .val (.int v3), .val (.ref b20), .unset, .unset] [(.int (0 : Int32))])) t
      refine XS.iconst X20.here hx rfl (hb hby at_112) ?_
      show Steps p.tables e below (T20.setTop (mkF m 113 #[.val (.int p0), .val (.int p1), .val (.int (0 : Int32)), .val (.ref b17), .val (.int v0), .val (.int v1), .val (.int v2), .val (.int v3), .val (.ref b20), .unset, .unset] [(.int (3 : Int32)), (.int (0 : Int32))])) t
      refine XS.icmpYes X20.here hx rfl (pc0 := 113) (pc' := 122) rfl (hb hby at_113) rfl (XT.ii_le_t (by decide)) (by decide) (by decide) ?_
      show Steps p.tables e below (T20.setTop (mkF m 122 #[.val (.int p0), .val (.int p1), .val (.int (0 : Int32)), .val (.ref b17), .val (.int v0), .val (.int v1), .val (.int v2), .val (.int v3), .val (.ref b20), .unset, .unset] [])) t
      refine XS.iconst X20.here hx rfl (hb hby at_122) ?_
      show Steps p.tables e below (T20.setTop (mkF m 123 #[.val (.int p0), .val (.int p1), .val (.int (0 : Int32)), .val (.ref b17), .val (.int v0), .val (.int v1), .val (.int v2), .val (.int v3), .val (.ref b20), .unset, .unset] [(.int (0 : Int32))])) t
      refine XS.istore X20.here hx rfl (hb hby at_123) rfl (l' := #[.val (.int p0), .val (.int p1), .val (.int (0 : Int32)), .val (.ref b17), .val (.int v0), .val (.int v1), .val (.int v2), .val (.int v3), .val (.ref b20), .val (.int (0 : Int32)), .unset]) rfl ?_
      show Steps p.tables e below (T20.setTop (mkF m 125 #[.val (.int p0), .val (.int p1), .val (.int (0 : Int32)), .val (.ref b17), .val (.int v0), .val (.int v1), .val (.int v2), .val (.int v3), .val (.ref b20), .val (.int (0 : Int32)), .unset] [])) t
      refine XS.iloadN X20.here hx rfl (hb hby at_125) rfl ?_
      show Steps p.tables e below (T20.setTop (mkF m 126 #[.val (.int p0), .val (.int p1), .val (.int (0 : Int32)), .val (.ref b17), .val (.int v0), .val (.int v1), .val (.int v2), .val (.int v3), .val (.ref b20), .val (.int (0 : Int32)), .unset] [(.int (0 : Int32))])) t
      refine XS.ifYes X20.here hx rfl (pc0 := 126) (pc' := 144) rfl (hb hby at_126) rfl (XT.i0_le_t (by decide)) (by decide) (by decide) ?_
      show Steps p.tables e below (T20.setTop (mkF m 144 #[.val (.int p0), .val (.int p1), .val (.int (0 : Int32)), .val (.ref b17), .val (.int v0), .val (.int v1), .val (.int v2), .val (.int v3), .val (.ref b20), .val (.int (0 : Int32)), .unset] [])) t
      refine XS.iloadN X20.here hx rfl (hb hby at_144) rfl ?_
      show Steps p.tables e below (T20.setTop (mkF m 145 #[.val (.int p0), .val (.int p1), .val (.int (0 : Int32)), .val (.ref b17), .val (.int v0), .val (.int v1), .val (.int v2), .val (.int v3), .val (.ref b20), .val (.int (0 : Int32)), .unset] [(.int (0 : Int32))])) t
      refine XS.iconst X20.here hx rfl (hb hby at_145) ?_
      show Steps p.tables e below (T20.setTop (mkF m 146 #[.val (.int p0), .val (.int p1), .val (.int (0 : Int32)), .val (.ref b17), .val (.int v0), .val (.int v1), .val (.int v2), .val (.int v3), .val (.ref b20), .val (.int (0 : Int32)), .unset] [(.int (1 : Int32)), (.int (0 : Int32))])) t
      refine XS.icmpYes X20.here hx rfl (pc0 := 146) (pc' := 164) rfl (hb hby at_146) rfl (XT.ii_le_t (by decide)) (by decide) (by decide) ?_
      show Steps p.tables e below (T20.setTop (mkF m 164 #[.val (.int p0), .val (.int p1), .val (.int (0 : Int32)), .val (.ref b17), .val (.int v0), .val (.int v1), .val (.int v2), .val (.int v3), .val (.ref b20), .val (.int (0 : Int32)), .unset] [])) t
      refine XS.iloadN X20.here hx rfl (hb hby at_164) rfl ?_
      show Steps p.tables e below (T20.setTop (mkF m 165 #[.val (.int p0), .val (.int p1), .val (.int (0 : Int32)), .val (.ref b17), .val (.int v0), .val (.int v1), .val (.int v2), .val (.int v3), .val (.ref b20), .val (.int (0 : Int32)), .unset] [(.int (0 : Int32))])) t
      refine XS.iconst X20.here hx rfl (hb hby at_165) ?_
      show Steps p.tables e below (T20.setTop (mkF m 166 #[.val (.int p0), .val (.int p1), .val (.int (0 : Int32)), .val (.ref b17), .val (.int v0), .val (.int v1), .val (.int v2), .val (.int v3), .val (.ref b20), .val (.int (0 : Int32)), .unset] [(.int (2 : Int32)), (.int (0 : Int32))])) t
      refine XS.icmpYes X20.here hx rfl (pc0 := 166) (pc' := 184) rfl (hb hby at_166) rfl (XT.ii_le_t (by decide)) (by decide) (by decide) ?_
      show Steps p.tables e below (T20.setTop (mkF m 184 #[.val (.int p0), .val (.int p1), .val (.int (0 : Int32)), .val (.ref b17), .val (.int v0), .val (.int v1), .val (.int v2), .val (.int v3), .val (.ref b20), .val (.int (0 : Int32)), .unset] [])) t
      refine XS.iloadN X20.here hx rfl (hb hby at_184) rfl ?_
      show Steps p.tables e below (T20.setTop (mkF m 185 #[.val (.int p0), .val (.int p1), .val (.int (0 : Int32)), .val (.ref b17), .val (.int v0), .val (.int v1), .val (.int v2), .val (.int v3), .val (.ref b20), .val (.int (0 : Int32)), .unset] [(.int (0 : Int32))])) t
      refine XS.iconst X20.here hx rfl (hb hby at_185) ?_
      show Steps p.tables e below (T20.setTop (mkF m 186 #[.val (.int p0), .val (.int p1), .val (.int (0 : Int32)), .val (.ref b17), .val (.int v0), .val (.int v1), .val (.int v2), .val (.int v3), .val (.ref b20), .val (.int (0 : Int32)), .unset] [(.int (3 : Int32)), (.int (0 : Int32))])) t
      refine XS.icmpYes X20.here hx rfl (pc0 := 186) (pc' := 204) rfl (hb hby at_186) rfl (XT.ii_le_t (by decide)) (by decide) (by decide) ?_
      show Steps p.tables e below (T20.setTop (mkF m 204 #[.val (.int p0), .val (.int p1), .val (.int (0 : Int32)), .val (.ref b17), .val (.int v0), .val (.int v1), .val (.int v2), .val (.int v3), .val (.ref b20), .val (.int (0 : Int32)), .unset] [])) t
      refine XS.aloadN X20.here hx rfl (hb hby at_204) rfl rfl ?_
      show Steps p.tables e below (T20.setTop (mkF m 205 #[.val (.int p0), .val (.int p1), .val (.int (0 : Int32)), .val (.ref b17), .val (.int v0), .val (.int v1), .val (.int v2), .val (.int v3), .val (.ref b20), .val (.int (0 : Int32)), .unset] [(.ref b17)])) t
      refine XS.aload X20.here hx rfl (hb hby at_205) rfl rfl ?_
      show Steps p.tables e below (T20.setTop (mkF m 207 #[.val (.int p0), .val (.int p1), .val (.int (0 : Int32)), .val (.ref b17), .val (.int v0), .val (.int v1), .val (.int v2), .val (.int v3), .val (.ref b20), .val (.int (0 : Int32)), .unset] [(.ref b20), (.ref b17)])) t
      exact k)
    obtain ⟨cq21, kq21, q21a, q21b, q21c⟩ := isOf hZ e20 hO1.1
    obtain ⟨_, _, ⟨T21, L21, k21, n21⟩, -, X21, ⟨Lc21, hQ21, l21, y21, z21⟩, st21⟩ := X20.virtualBack hx (y := (⟨"com/example/parfactor/parfactor/model/PotentialTable", "indexOf", "([Z)I"⟩ : MethodName)) (z := (⟨"com/example/parfactor/parfactor/model/PotentialTable", "indexOf", "([Z)I"⟩ : MethodName)) hown (mvT hZ (hw _ (List.mem_of_getElem? (i := 26) rfl))) (mvT hZ (hw _ (List.mem_of_getElem? (i := 27) rfl))) (notFace_of_selects (args := #[]) (mvT hZ (hw _ (List.mem_of_getElem? (i := 29) rfl)))) (mvT hZ (hw _ (List.mem_of_getElem? (i := 29) rfl))) (mvT hZ (hw _ (List.mem_of_getElem? (i := 28) rfl))) (by decide) (backOf (W := 0) (rm_ix l Z a0 hw [] b17 b20 (0 : Int32) pr 1 0 (own_bf v0 v1 v2 v3) _ n0 hO1 Fz ⟨rfl, by decide⟩) hZ (hw _ (List.mem_of_getElem? (i := 30) rfl)) (hw _ (List.mem_of_getElem? (i := 3) rfl)) (by decide) (by decide)) q21a q21c (g := (mkF m 207 #[.val (.int p0), .val (.int p1), .val (.int (0 : Int32)), .val (.ref b17), .val (.int v0), .val (.int v1), .val (.int v2), .val (.int v3), .val (.ref b20), .val (.int (0 : Int32)), .unset] [(.ref b20), (.ref b17)])) rfl (by rw [hml]; rfl) (Steps.refl _) (argsL := [(.ref b20)]) (rest := []) (lenOf pd___Z_I rfl) rfl (by show 2 * 0 + _ ≤ _; exact Nat.le_of_eq rfl) (hb hby at_207) (fun _ _ => ⟨rfl, e20, (by decide : 4 + 0 ≤ _), (by decide : 38 + 0 ≤ _)⟩)
    dsimp only [Pt.U, Pt.locs, Pt.cells, Pt.slots] at X21 l21 y21 z21 st21 hQ21
    subst l21 y21 z21
    obtain ⟨rfl, N21q, e21⟩ := hQ21
    have N21 := Fr.app N19 N21q
    replace pre : Pth p e below S0 T21 (mkF m 210 #[.val (.int p0), .val (.int p1), .val (.int (0 : Int32)), .val (.ref b17), .val (.int v0), .val (.int v1), .val (.int v2), .val (.int v3), .val (.ref b20), .val (.int (0 : Int32)), .unset] [(.int (own_ixf (own_bf v0 v1 v2 v3) 0))]) := fun t k => pre t (st21.trans k)
    replace pre : Pth p e below S0 T21 (mkF m 227 #[.val (.int p0), .val (.int p1), .val (.int (0 : Int32)), .val (.ref b17), .val (.int v0), .val (.int v1), .val (.int v2), .val (.int v3), .val (.ref b20), .val (.int (0 : Int32)), .val (.int (own_ixf (own_bf v0 v1 v2 v3) 0))] [(.ref b17), (.int (own_ixf (own_bf v0 v1 v2 v3) 0))]) := fun t k => pre t (by
      show Steps p.tables e below (T21.setTop (mkF m 210 #[.val (.int p0), .val (.int p1), .val (.int (0 : Int32)), .val (.ref b17), .val (.int v0), .val (.int v1), .val (.int v2), .val (.int v3), .val (.ref b20), .val (.int (0 : Int32)), .unset] [(.int (own_ixf (own_bf v0 v1 v2 v3) 0))])) t
      refine XS.istore X21.here hx rfl (hb hby at_210) rfl (l' := #[.val (.int p0), .val (.int p1), .val (.int (0 : Int32)), .val (.ref b17), .val (.int v0), .val (.int v1), .val (.int v2), .val (.int v3), .val (.ref b20), .val (.int (0 : Int32)), .val (.int (own_ixf (own_bf v0 v1 v2 v3) 0))]) rfl ?_
      show Steps p.tables e below (T21.setTop (mkF m 212 #[.val (.int p0), .val (.int p1), .val (.int (0 : Int32)), .val (.ref b17), .val (.int v0), .val (.int v1), .val (.int v2), .val (.int v3), .val (.ref b20), .val (.int (0 : Int32)), .val (.int (own_ixf (own_bf v0 v1 v2 v3) 0))] [])) t
      refine XS.iload X21.here hx rfl (hb hby at_212) rfl ?_
      show Steps p.tables e below (T21.setTop (mkF m 214 #[.val (.int p0), .val (.int p1), .val (.int (0 : Int32)), .val (.ref b17), .val (.int v0), .val (.int v1), .val (.int v2), .val (.int v3), .val (.ref b20), .val (.int (0 : Int32)), .val (.int (own_ixf (own_bf v0 v1 v2 v3) 0))] [(.int (own_ixf (own_bf v0 v1 v2 v3) 0))])) t
      refine XS.iload X21.here hx rfl (hb hby at_214) rfl ?_
      show Steps p.tables e below (T21.setTop (mkF m 216 #[.val (.int p0), .val (.int p1), .val (.int (0 : Int32)), .val (.ref b17), .val (.int v0), .val (.int v1), .val (.int v2), .val (.int v3), .val (.ref b20), .val (.int (0 : Int32)), .val (.int (own_ixf (own_bf v0 v1 v2 v3) 0))] [(.int (0 : Int32)), (.int (own_ixf (own_bf v0 v1 v2 v3) 0))])) t
      refine XS.icmpNo X21.here hx rfl (hb hby at_216) rfl (XT.ii_ne_f (by rcases h_v0 with rfl | rfl <;> rcases h_v1 with rfl | rfl <;> rcases h_v2 with rfl | rfl <;> rcases h_v3 with rfl | rfl <;> decide)) ?_
      show Steps p.tables e below (T21.setTop (mkF m 219 #[.val (.int p0), .val (.int p1), .val (.int (0 : Int32)), .val (.ref b17), .val (.int v0), .val (.int v1), .val (.int v2), .val (.int v3), .val (.ref b20), .val (.int (0 : Int32)), .val (.int (own_ixf (own_bf v0 v1 v2 v3) 0))] [])) t
      refine XS.iload X21.here hx rfl (hb hby at_219) rfl ?_
      show Steps p.tables e below (T21.setTop (mkF m 221 #[.val (.int p0), .val (.int p1), .val (.int (0 : Int32)), .val (.ref b17), .val (.int v0), .val (.int v1), .val (.int v2), .val (.int v3), .val (.ref b20), .val (.int (0 : Int32)), .val (.int (own_ixf (own_bf v0 v1 v2 v3) 0))] [(.int (own_ixf (own_bf v0 v1 v2 v3) 0))])) t
      refine XS.ifNo X21.here hx rfl (hb hby at_221) rfl (XT.i0_lt_f (by rcases h_v0 with rfl | rfl <;> rcases h_v1 with rfl | rfl <;> rcases h_v2 with rfl | rfl <;> rcases h_v3 with rfl | rfl <;> decide)) ?_
      show Steps p.tables e below (T21.setTop (mkF m 224 #[.val (.int p0), .val (.int p1), .val (.int (0 : Int32)), .val (.ref b17), .val (.int v0), .val (.int v1), .val (.int v2), .val (.int v3), .val (.ref b20), .val (.int (0 : Int32)), .val (.int (own_ixf (own_bf v0 v1 v2 v3) 0))] [])) t
      refine XS.iload X21.here hx rfl (hb hby at_224) rfl ?_
      show Steps p.tables e below (T21.setTop (mkF m 226 #[.val (.int p0), .val (.int p1), .val (.int (0 : Int32)), .val (.ref b17), .val (.int v0), .val (.int v1), .val (.int v2), .val (.int v3), .val (.ref b20), .val (.int (0 : Int32)), .val (.int (own_ixf (own_bf v0 v1 v2 v3) 0))] [(.int (own_ixf (own_bf v0 v1 v2 v3) 0))])) t
      refine XS.aloadN X21.here hx rfl (hb hby at_226) rfl rfl ?_
      show Steps p.tables e below (T21.setTop (mkF m 227 #[.val (.int p0), .val (.int p1), .val (.int (0 : Int32)), .val (.ref b17), .val (.int v0), .val (.int v1), .val (.int v2), .val (.int v3), .val (.ref b20), .val (.int (0 : Int32)), .val (.int (own_ixf (own_bf v0 v1 v2 v3) 0))] [(.ref b17), (.int (own_ixf (own_bf v0 v1 v2 v3) 0))])) t
      exact k)
    obtain ⟨cq22, kq22, q22a, q22b, q22c⟩ := isOf hZ e21 hO1.1
    obtain ⟨_, _, ⟨T22, L22, k22, n22⟩, -, X22, ⟨Lc22, hQ22, l22, y22, z22⟩, st22⟩ := X21.virtualBack hx (y := (⟨"com/example/parfactor/parfactor/model/PotentialTable", "size", "()I"⟩ : MethodName)) (z := (⟨"com/example/parfactor/parfactor/model/PotentialTable", "size", "()I"⟩ : MethodName)) hown (mvT hZ (hw _ (List.mem_of_getElem? (i := 31) rfl))) (mvT hZ (hw _ (List.mem_of_getElem? (i := 32) rfl))) (notFace_of_selects (args := #[]) (mvT hZ (hw _ (List.mem_of_getElem? (i := 34) rfl)))) (mvT hZ (hw _ (List.mem_of_getElem? (i := 34) rfl))) (mvT hZ (hw _ (List.mem_of_getElem? (i := 33) rfl))) (by decide) (backOf (W := 1) (rm_sz l Z a0 hw [] b17 (0 : Int32) pr 1 _ n0 hO1) hZ (hw _ (List.mem_of_getElem? (i := 35) rfl)) (hw _ (List.mem_of_getElem? (i := 3) rfl)) (by decide) (by decide)) q22a q22c (g := (mkF m 227 #[.val (.int p0), .val (.int p1), .val (.int (0 : Int32)), .val (.ref b17), .val (.int v0), .val (.int v1), .val (.int v2), .val (.int v3), .val (.ref b20), .val (.int (0 : Int32)), .val (.int (own_ixf (own_bf v0 v1 v2 v3) 0))] [(.ref b17), (.int (own_ixf (own_bf v0 v1 v2 v3) 0))])) rfl (by rw [hml]; rfl) (Steps.refl _) (argsL := []) (rest := [(.int (own_ixf (own_bf v0 v1 v2 v3) 0))]) (lenOf pd___I rfl) rfl (by show 2 * 0 + _ ≤ _; exact Nat.le_of_eq rfl) (hb hby at_227) (fun _ _ => ⟨rfl, e21, (by decide : 4 + 0 ≤ _), (by decide : 38 + 0 ≤ _)⟩)
    dsimp only [Pt.U, Pt.locs, Pt.cells, Pt.slots] at X22 l22 y22 z22 st22 hQ22
    subst l22 y22 z22
    obtain ⟨rfl, N22q, e22⟩ := hQ22
    have N22 := Fr.app N21 N22q
    replace pre : Pth p e below S0 T22 (mkF m 230 #[.val (.int p0), .val (.int p1), .val (.int (0 : Int32)), .val (.ref b17), .val (.int v0), .val (.int v1), .val (.int v2), .val (.int v3), .val (.ref b20), .val (.int (0 : Int32)), .val (.int (own_ixf (own_bf v0 v1 v2 v3) 0))] [(.int (1 : Nat).toInt32), (.int (own_ixf (own_bf v0 v1 v2 v3) 0))]) := fun t k => pre t (st22.trans k)
    replace pre : Pth p e below S0 T22 (mkF m 238 #[.val (.int p0), .val (.int p1), .val (.int (0 : Int32)), .val (.ref b17), .val (.int v0), .val (.int v1), .val (.int v2), .val (.int v3), .val (.ref b20), .val (.int (0 : Int32)), .val (.int (own_ixf (own_bf v0 v1 v2 v3) 0))] [(.int (1 : Int32))]) := fun t k => pre t (by
      show Steps p.tables e below (T22.setTop (mkF m 230 #[.val (.int p0), .val (.int p1), .val (.int (0 : Int32)), .val (.ref b17), .val (.int v0), .val (.int v1), .val (.int v2), .val (.int v3), .val (.ref b20), .val (.int (0 : Int32)), .val (.int (own_ixf (own_bf v0 v1 v2 v3) 0))] [(.int (1 : Nat).toInt32), (.int (own_ixf (own_bf v0 v1 v2 v3) 0))])) t
      refine XS.icmpNo X22.here hx rfl (hb hby at_230) rfl (XT.ii_ge_f (by rcases h_v0 with rfl | rfl <;> rcases h_v1 with rfl | rfl <;> rcases h_v2 with rfl | rfl <;> rcases h_v3 with rfl | rfl <;> decide)) ?_
      show Steps p.tables e below (T22.setTop (mkF m 233 #[.val (.int p0), .val (.int p1), .val (.int (0 : Int32)), .val (.ref b17), .val (.int v0), .val (.int v1), .val (.int v2), .val (.int v3), .val (.ref b20), .val (.int (0 : Int32)), .val (.int (own_ixf (own_bf v0 v1 v2 v3) 0))] [])) t
      refine XS.iconst X22.here hx rfl (hb hby at_233) ?_
      show Steps p.tables e below (T22.setTop (mkF m 234 #[.val (.int p0), .val (.int p1), .val (.int (0 : Int32)), .val (.ref b17), .val (.int v0), .val (.int v1), .val (.int v2), .val (.int v3), .val (.ref b20), .val (.int (0 : Int32)), .val (.int (own_ixf (own_bf v0 v1 v2 v3) 0))] [(.int (1 : Int32))])) t
      refine XS.goto X22.here hx rfl (pc0 := 234) (pc' := 238) rfl (hb hby at_234) (by decide) (by decide) ?_
      show Steps p.tables e below (T22.setTop (mkF m 238 #[.val (.int p0), .val (.int p1), .val (.int (0 : Int32)), .val (.ref b17), .val (.int v0), .val (.int v1), .val (.int v2), .val (.int v3), .val (.ref b20), .val (.int (0 : Int32)), .val (.int (own_ixf (own_bf v0 v1 v2 v3) 0))] [(.int (1 : Int32))])) t
      exact k)
    obtain ⟨fs, hr, hrun, hended, hW, hsame⟩ := X22.leave (v := some (.int (1 : Int32))) (fun h => by rw [Bd.returns] at h; cases h)
    subst hS0
    refine ⟨_, _, pre _ ?_, hrun, hended, _, _, rfl, ?_, ⟨_, rfl⟩, hW, hsame.mono (by decide) (by decide)⟩
    · exact retN X22 hx (t := .boolean) Bd.returns (by simp) (hb hby at_238) hr
    · show Q_law Z p0 p1 h0 n0 _ T22.heap _
      rw [e22]
      exact ⟨rfl, N22⟩
  · replace pre : Pth p e below S0 T20 (mkF m 88 #[.val (.int p0), .val (.int p1), .val (.int (1 : Int32)), .val (.ref b17), .val (.int v0), .val (.int v1), .val (.int v2), .val (.int v3), .val (.ref b20), .unset, .unset] [(.int v0), (.int (0 : Int32)), (.ref b20)]) := fun t k => pre t (by
      show Steps p.tables e below (T20.setTop (mkF m 79 #[.val (.int p0), .val (.int p1), .val (.int (1 : Int32)), .val (.ref b17), .val (.int v0), .val (.int v1), .val (.int v2), .val (.int v3), .val (.ref b20), .unset, .unset] [])) t
      refine XS.iloadN X20.here hx rfl (hb hby at_79) rfl ?_
      show Steps p.tables e below (T20.setTop (mkF m 80 #[.val (.int p0), .val (.int p1), .val (.int (1 : Int32)), .val (.ref b17), .val (.int v0), .val (.int v1), .val (.int v2), .val (.int v3), .val (.ref b20), .unset, .unset] [(.int (1 : Int32))])) t
      refine XS.ifNo X20.here hx rfl (hb hby at_80) rfl (XT.i0_le_f (by decide)) ?_
      show Steps p.tables e below (T20.setTop (mkF m 83 #[.val (.int p0), .val (.int p1), .val (.int (1 : Int32)), .val (.ref b17), .val (.int v0), .val (.int v1), .val (.int v2), .val (.int v3), .val (.ref b20), .unset, .unset] [])) t
      refine XS.aload X20.here hx rfl (hb hby at_83) rfl rfl ?_
      show Steps p.tables e below (T20.setTop (mkF m 85 #[.val (.int p0), .val (.int p1), .val (.int (1 : Int32)), .val (.ref b17), .val (.int v0), .val (.int v1), .val (.int v2), .val (.int v3), .val (.ref b20), .unset, .unset] [(.ref b20)])) t
      refine XS.iconst X20.here hx rfl (hb hby at_85) ?_
      show Steps p.tables e below (T20.setTop (mkF m 86 #[.val (.int p0), .val (.int p1), .val (.int (1 : Int32)), .val (.ref b17), .val (.int v0), .val (.int v1), .val (.int v2), .val (.int v3), .val (.ref b20), .unset, .unset] [(.int (0 : Int32)), (.ref b20)])) t
      refine XS.iload X20.here hx rfl (hb hby at_86) rfl ?_
      show Steps p.tables e below (T20.setTop (mkF m 88 #[.val (.int p0), .val (.int p1), .val (.int (1 : Int32)), .val (.ref b17), .val (.int v0), .val (.int v1), .val (.int v2), .val (.int v3), .val (.ref b20), .unset, .unset] [(.int v0), (.int (0 : Int32)), (.ref b20)])) t
      exact k)
    obtain ⟨cl23, Ar23, Sz23, -⟩ := id F20
    obtain ⟨T23, h23, X23, e23, W23, st23⟩ := stZ X20 hx hZ e20 Ar23 (j := (0 : Int32)) (by rw [Sz23]; exact (own_in (i := 0) (by decide) (by decide))) (g := (mkF m 88 #[.val (.int p0), .val (.int p1), .val (.int (1 : Int32)), .val (.ref b17), .val (.int v0), .val (.int v1), .val (.int v2), .val (.int v3), .val (.ref b20), .unset, .unset] [(.int v0), (.int (0 : Int32)), (.ref b20)])) rfl rfl (hb hby at_88)
    have F23 := OFun.set F20 W23
    have N23 := Fr.snoc X23 N19 gz
    replace pre : Pth p e below S0 T23 (mkF m 89 #[.val (.int p0), .val (.int p1), .val (.int (1 : Int32)), .val (.ref b17), .val (.int v0), .val (.int v1), .val (.int v2), .val (.int v3), .val (.ref b20), .unset, .unset] []) := fun t k => pre t (st23 _ k)
    have hP0 := hO1.other W23 nz1 nz2
    have Fz : OFun Z h23 b20 .boolean 1 (fun j => .int (own_bf v0 v1 v2 v3 j)) := F23.congr (fun j hj => by
      rcases h_v0 with rfl | rfl <;> rcases h_v1 with rfl | rfl <;> rcases h_v2 with rfl | rfl <;> rcases h_v3 with rfl | rfl <;> (match j, hj with
        | 0, _ => rfl
        ))
    replace pre : Pth p e below S0 T23 (mkF m 131 #[.val (.int p0), .val (.int p1), .val (.int (1 : Int32)), .val (.ref b17), .val (.int v0), .val (.int v1), .val (.int v2), .val (.int v3), .val (.ref b20), .val (.int (0 : Int32)), .unset] [(.int v0)]) := fun t k => pre t (by
      show Steps p.tables e below (T23.setTop (mkF m 89 #[.val (.int p0), .val (.int p1), .val (.int (1 : Int32)), .val (.ref b17), .val (.int v0), .val (.int v1), .val (.int v2), .val (.int v3), .val (.ref b20), .unset, .unset] [])) t
      refine XS.iloadN X23.here hx rfl (hb hby at_89) rfl ?_
      show Steps p.tables e below (T23.setTop (mkF m 90 #[.val (.int p0), .val (.int p1), .val (.int (1 : Int32)), .val (.ref b17), .val (.int v0), .val (.int v1), .val (.int v2), .val (.int v3), .val (.ref b20), .unset, .unset] [(.int (1 : Int32))])) t
      refine XS.iconst X23.here hx rfl (hb hby at_90) ?_
      show Steps p.tables e below (T23.setTop (mkF m 91 #[.val (.int p0), .val (.int p1), .val (.int (1 : Int32)), .val (.ref b17), .val (.int v0), .val (.int v1), .val (.int v2), .val (.int v3), .val (.ref b20), .unset, .unset] [(.int (1 : Int32)), (.int (1 : Int32))])) t
      refine XS.icmpYes X23.here hx rfl (pc0 := 91) (pc' := 100) rfl (hb hby at_91) rfl (XT.ii_le_t (by decide)) (by decide) (by decide) ?_
      show Steps p.tables e below (T23.setTop (mkF m 100 #[.val (.int p0), .val (.int p1), .val (.int (1 : Int32)), .val (.ref b17), .val (.int v0), .val (.int v1), .val (.int v2), .val (.int v3), .val (.ref b20), .unset, .unset] [])) t
      refine XS.iloadN X23.here hx rfl (hb hby at_100) rfl ?_
      show Steps p.tables e below (T23.setTop (mkF m 101 #[.val (.int p0), .val (.int p1), .val (.int (1 : Int32)), .val (.ref b17), .val (.int v0), .val (.int v1), .val (.int v2), .val (.int v3), .val (.ref b20), .unset, .unset] [(.int (1 : Int32))])) t
      refine XS.iconst X23.here hx rfl (hb hby at_101) ?_
      show Steps p.tables e below (T23.setTop (mkF m 102 #[.val (.int p0), .val (.int p1), .val (.int (1 : Int32)), .val (.ref b17), .val (.int v0), .val (.int v1), .val (.int v2), .val (.int v3), .val (.ref b20), .unset, .unset] [(.int (2 : Int32)), (.int (1 : Int32))])) t
      refine XS.icmpYes X23.here hx rfl (pc0 := 102) (pc' := 111) rfl (hb hby at_102) rfl (XT.ii_le_t (by decide)) (by decide) (by decide) ?_
      show Steps p.tables e below (T23.setTop (mkF m 111 #[.val (.int p0), .val (.int p1), .val (.int (1 : Int32)), .val (.ref b17), .val (.int v0), .val (.int v1), .val (.int v2), .val (.int v3), .val (.ref b20), .unset, .unset] [])) t
      refine XS.iloadN X23.here hx rfl (hb hby at_111) rfl ?_
      show Steps p.tables e below (T23.setTop (mkF m 112 #[.val (.int p0), .val (.int p1), .val (.int (1 : Int32)), .val (.ref b17), .val (.int v0), .val (.int v1), .val (.int v2), .val (.int v3), .val (.ref b20), .unset, .unset] [(.int (1 : Int32))])) t
      refine XS.iconst X23.here hx rfl (hb hby at_112) ?_
      show Steps p.tables e below (T23.setTop (mkF m 113 #[.val (.int p0), .val (.int p1), .val (.int (1 : Int32)), .val (.ref b17), .val (.int v0), .val (.int v1), .val (.int v2), .val (.int v3), .val (.ref b20), .unset, .unset] [(.int (3 : Int32)), (.int (1 : Int32))])) t
      refine XS.icmpYes X23.here hx rfl (pc0 := 113) (pc' := 122) rfl (hb hby at_113) rfl (XT.ii_le_t (by decide)) (by decide) (by decide) ?_
      show Steps p.tables e below (T23.setTop (mkF m 122 #[.val (.int p0), .val (.int p1), .val (.int (1 : Int32)), .val (.ref b17), .val (.int v0), .val (.int v1), .val (.int v2), .val (.int v3), .val (.ref b20), .unset, .unset] [])) t
      refine XS.iconst X23.here hx rfl (hb hby at_122) ?_
      show Steps p.tables e below (T23.setTop (mkF m 123 #[.val (.int p0), .val (.int p1), .val (.int (1 : Int32)), .val (.ref b17), .val (.int v0), .val (.int v1), .val (.int v2), .val (.int v3), .val (.ref b20), .unset, .unset] [(.int (0 : Int32))])) t
      refine XS.istore X23.here hx rfl (hb hby at_123) rfl (l' := #[.val (.int p0), .val (.int p1), .val (.int (1 : Int32)), .val (.ref b17), .val (.int v0), .val (.int v1), .val (.int v2), .val (.int v3), .val (.ref b20), .val (.int (0 : Int32)), .unset]) rfl ?_
      show Steps p.tables e below (T23.setTop (mkF m 125 #[.val (.int p0), .val (.int p1), .val (.int (1 : Int32)), .val (.ref b17), .val (.int v0), .val (.int v1), .val (.int v2), .val (.int v3), .val (.ref b20), .val (.int (0 : Int32)), .unset] [])) t
      refine XS.iloadN X23.here hx rfl (hb hby at_125) rfl ?_
      show Steps p.tables e below (T23.setTop (mkF m 126 #[.val (.int p0), .val (.int p1), .val (.int (1 : Int32)), .val (.ref b17), .val (.int v0), .val (.int v1), .val (.int v2), .val (.int v3), .val (.ref b20), .val (.int (0 : Int32)), .unset] [(.int (1 : Int32))])) t
      refine XS.ifNo X23.here hx rfl (hb hby at_126) rfl (XT.i0_le_f (by decide)) ?_
      show Steps p.tables e below (T23.setTop (mkF m 129 #[.val (.int p0), .val (.int p1), .val (.int (1 : Int32)), .val (.ref b17), .val (.int v0), .val (.int v1), .val (.int v2), .val (.int v3), .val (.ref b20), .val (.int (0 : Int32)), .unset] [])) t
      refine XS.iload X23.here hx rfl (hb hby at_129) rfl ?_
      show Steps p.tables e below (T23.setTop (mkF m 131 #[.val (.int p0), .val (.int p1), .val (.int (1 : Int32)), .val (.ref b17), .val (.int v0), .val (.int v1), .val (.int v2), .val (.int v3), .val (.ref b20), .val (.int (0 : Int32)), .unset] [(.int v0)])) t
      exact k)
    obtain ⟨x0, hx0, pre⟩ : ∃ x0 : Int32, x0 = (if v0 = 0 then (0 : Int32) + ((1 : Int32) <<< (((1 : Int32) - (1 : Int32)) &&& 31)) else (0 : Int32)) ∧ Pth p e below S0 T23 (mkF m 144 #[.val (.int p0), .val (.int p1), .val (.int (1 : Int32)), .val (.ref b17), .val (.int v0), .val (.int v1), .val (.int v2), .val (.int v3), .val (.ref b20), .val (.int x0), .unset] []) := by
      by_cases z1 : v0 = (0 : Int32)
      · replace pre : Pth p e below S0 T23 (mkF m 144 #[.val (.int p0), .val (.int p1), .val (.int (1 : Int32)), .val (.ref b17), .val (.int v0), .val (.int v1), .val (.int v2), .val (.int v3), .val (.ref b20), .val (.int ((0 : Int32) + ((1 : Int32) <<< (((1 : Int32) - (1 : Int32)) &&& 31)))), .unset] []) := fun t k => pre t (by
          show Steps p.tables e below (T23.setTop (mkF m 131 #[.val (.int p0), .val (.int p1), .val (.int (1 : Int32)), .val (.ref b17), .val (.int v0), .val (.int v1), .val (.int v2), .val (.int v3), .val (.ref b20), .val (.int (0 : Int32)), .unset] [(.int v0)])) t
          refine XS.ifNo X23.here hx rfl (hb hby at_131) rfl (XT.i0_ne_f z1) ?_
          show Steps p.tables e below (T23.setTop (mkF m 134 #[.val (.int p0), .val (.int p1), .val (.int (1 : Int32)), .val (.ref b17), .val (.int v0), .val (.int v1), .val (.int v2), .val (.int v3), .val (.ref b20), .val (.int (0 : Int32)), .unset] [])) t
          refine XS.iload X23.here hx rfl (hb hby at_134) rfl ?_
          show Steps p.tables e below (T23.setTop (mkF m 136 #[.val (.int p0), .val (.int p1), .val (.int (1 : Int32)), .val (.ref b17), .val (.int v0), .val (.int v1), .val (.int v2), .val (.int v3), .val (.ref b20), .val (.int (0 : Int32)), .unset] [(.int (0 : Int32))])) t
          refine XS.iconst X23.here hx rfl (hb hby at_136) ?_
          show Steps p.tables e below (T23.setTop (mkF m 137 #[.val (.int p0), .val (.int p1), .val (.int (1 : Int32)), .val (.ref b17), .val (.int v0), .val (.int v1), .val (.int v2), .val (.int v3), .val (.ref b20), .val (.int (0 : Int32)), .unset] [(.int (1 : Int32)), (.int (0 : Int32))])) t
          refine XS.iloadN X23.here hx rfl (hb hby at_137) rfl ?_
          show Steps p.tables e below (T23.setTop (mkF m 138 #[.val (.int p0), .val (.int p1), .val (.int (1 : Int32)), .val (.ref b17), .val (.int v0), .val (.int v1), .val (.int v2), .val (.int v3), .val (.ref b20), .val (.int (0 : Int32)), .unset] [(.int (1 : Int32)), (.int (1 : Int32)), (.int (0 : Int32))])) t
          refine XS.iconst X23.here hx rfl (hb hby at_138) ?_
          show Steps p.tables e below (T23.setTop (mkF m 139 #[.val (.int p0), .val (.int p1), .val (.int (1 : Int32)), .val (.ref b17), .val (.int v0), .val (.int v1), .val (.int v2), .val (.int v3), .val (.ref b20), .val (.int (0 : Int32)), .unset] [(.int (1 : Int32)), (.int (1 : Int32)), (.int (1 : Int32)), (.int (0 : Int32))])) t
          refine XS.isub X23.here hx rfl (hb hby at_139) rfl ?_
          show Steps p.tables e below (T23.setTop (mkF m 140 #[.val (.int p0), .val (.int p1), .val (.int (1 : Int32)), .val (.ref b17), .val (.int v0), .val (.int v1), .val (.int v2), .val (.int v3), .val (.ref b20), .val (.int (0 : Int32)), .unset] [(.int ((1 : Int32) - (1 : Int32))), (.int (1 : Int32)), (.int (0 : Int32))])) t
          refine XS.ishl X23.here hx rfl (hb hby at_140) rfl ?_
          show Steps p.tables e below (T23.setTop (mkF m 141 #[.val (.int p0), .val (.int p1), .val (.int (1 : Int32)), .val (.ref b17), .val (.int v0), .val (.int v1), .val (.int v2), .val (.int v3), .val (.ref b20), .val (.int (0 : Int32)), .unset] [(.int ((1 : Int32) <<< (((1 : Int32) - (1 : Int32)) &&& 31))), (.int (0 : Int32))])) t
          refine XS.iadd X23.here hx rfl (hb hby at_141) rfl ?_
          show Steps p.tables e below (T23.setTop (mkF m 142 #[.val (.int p0), .val (.int p1), .val (.int (1 : Int32)), .val (.ref b17), .val (.int v0), .val (.int v1), .val (.int v2), .val (.int v3), .val (.ref b20), .val (.int (0 : Int32)), .unset] [(.int ((0 : Int32) + ((1 : Int32) <<< (((1 : Int32) - (1 : Int32)) &&& 31))))])) t
          refine XS.istore X23.here hx rfl (hb hby at_142) rfl (l' := #[.val (.int p0), .val (.int p1), .val (.int (1 : Int32)), .val (.ref b17), .val (.int v0), .val (.int v1), .val (.int v2), .val (.int v3), .val (.ref b20), .val (.int ((0 : Int32) + ((1 : Int32) <<< (((1 : Int32) - (1 : Int32)) &&& 31)))), .unset]) rfl ?_
          show Steps p.tables e below (T23.setTop (mkF m 144 #[.val (.int p0), .val (.int p1), .val (.int (1 : Int32)), .val (.ref b17), .val (.int v0), .val (.int v1), .val (.int v2), .val (.int v3), .val (.ref b20), .val (.int ((0 : Int32) + ((1 : Int32) <<< (((1 : Int32) - (1 : Int32)) &&& 31)))), .unset] [])) t
          exact k)
        exact ⟨_, (if_pos z1).symm, pre⟩
      · replace pre : Pth p e below S0 T23 (mkF m 144 #[.val (.int p0), .val (.int p1), .val (.int (1 : Int32)), .val (.ref b17), .val (.int v0), .val (.int v1), .val (.int v2), .val (.int v3), .val (.ref b20), .val (.int (0 : Int32)), .unset] []) := fun t k => pre t (by
          show Steps p.tables e below (T23.setTop (mkF m 131 #[.val (.int p0), .val (.int p1), .val (.int (1 : Int32)), .val (.ref b17), .val (.int v0), .val (.int v1), .val (.int v2), .val (.int v3), .val (.ref b20), .val (.int (0 : Int32)), .unset] [(.int v0)])) t
          refine XS.ifYes X23.here hx rfl (pc0 := 131) (pc' := 144) rfl (hb hby at_131) rfl (XT.i0_ne_t z1) (by decide) (by decide) ?_
          show Steps p.tables e below (T23.setTop (mkF m 144 #[.val (.int p0), .val (.int p1), .val (.int (1 : Int32)), .val (.ref b17), .val (.int v0), .val (.int v1), .val (.int v2), .val (.int v3), .val (.ref b20), .val (.int (0 : Int32)), .unset] [])) t
          exact k)
        exact ⟨_, (if_neg z1).symm, pre⟩
    replace pre : Pth p e below S0 T23 (mkF m 207 #[.val (.int p0), .val (.int p1), .val (.int (1 : Int32)), .val (.ref b17), .val (.int v0), .val (.int v1), .val (.int v2), .val (.int v3), .val (.ref b20), .val (.int x0), .unset] [(.ref b20), (.ref b17)]) := fun t k => pre t (by
      show Steps p.tables e below (T23.setTop (mkF m 144 #[.val (.int p0), .val (.int p1), .val (.int (1 : Int32)), .val (.ref b17), .val (.int v0), .val (.int v1), .val (.int v2), .val (.int v3), .val (.ref b20), .val (.int x0), .unset] [])) t
      refine XS.iloadN X23.here hx rfl (hb hby at_144) rfl ?_
      show Steps p.tables e below (T23.setTop (mkF m 145 #[.val (.int p0), .val (.int p1), .val (.int (1 : Int32)), .val (.ref b17), .val (.int v0), .val (.int v1), .val (.int v2), .val (.int v3), .val (.ref b20), .val (.int x0), .unset] [(.int (1 : Int32))])) t
      refine XS.iconst X23.here hx rfl (hb hby at_145) ?_
      show Steps p.tables e below (T23.setTop (mkF m 146 #[.val (.int p0), .val (.int p1), .val (.int (1 : Int32)), .val (.ref b17), .val (.int v0), .val (.int v1), .val (.int v2), .val (.int v3), .val (.ref b20), .val (.int x0), .unset] [(.int (1 : Int32)), (.int (1 : Int32))])) t
      refine XS.icmpYes X23.here hx rfl (pc0 := 146) (pc' := 164) rfl (hb hby at_146) rfl (XT.ii_le_t (by decide)) (by decide) (by decide) ?_
      show Steps p.tables e below (T23.setTop (mkF m 164 #[.val (.int p0), .val (.int p1), .val (.int (1 : Int32)), .val (.ref b17), .val (.int v0), .val (.int v1), .val (.int v2), .val (.int v3), .val (.ref b20), .val (.int x0), .unset] [])) t
      refine XS.iloadN X23.here hx rfl (hb hby at_164) rfl ?_
      show Steps p.tables e below (T23.setTop (mkF m 165 #[.val (.int p0), .val (.int p1), .val (.int (1 : Int32)), .val (.ref b17), .val (.int v0), .val (.int v1), .val (.int v2), .val (.int v3), .val (.ref b20), .val (.int x0), .unset] [(.int (1 : Int32))])) t
      refine XS.iconst X23.here hx rfl (hb hby at_165) ?_
      show Steps p.tables e below (T23.setTop (mkF m 166 #[.val (.int p0), .val (.int p1), .val (.int (1 : Int32)), .val (.ref b17), .val (.int v0), .val (.int v1), .val (.int v2), .val (.int v3), .val (.ref b20), .val (.int x0), .unset] [(.int (2 : Int32)), (.int (1 : Int32))])) t
      refine XS.icmpYes X23.here hx rfl (pc0 := 166) (pc' := 184) rfl (hb hby at_166) rfl (XT.ii_le_t (by decide)) (by decide) (by decide) ?_
      show Steps p.tables e below (T23.setTop (mkF m 184 #[.val (.int p0), .val (.int p1), .val (.int (1 : Int32)), .val (.ref b17), .val (.int v0), .val (.int v1), .val (.int v2), .val (.int v3), .val (.ref b20), .val (.int x0), .unset] [])) t
      refine XS.iloadN X23.here hx rfl (hb hby at_184) rfl ?_
      show Steps p.tables e below (T23.setTop (mkF m 185 #[.val (.int p0), .val (.int p1), .val (.int (1 : Int32)), .val (.ref b17), .val (.int v0), .val (.int v1), .val (.int v2), .val (.int v3), .val (.ref b20), .val (.int x0), .unset] [(.int (1 : Int32))])) t
      refine XS.iconst X23.here hx rfl (hb hby at_185) ?_
      show Steps p.tables e below (T23.setTop (mkF m 186 #[.val (.int p0), .val (.int p1), .val (.int (1 : Int32)), .val (.ref b17), .val (.int v0), .val (.int v1), .val (.int v2), .val (.int v3), .val (.ref b20), .val (.int x0), .unset] [(.int (3 : Int32)), (.int (1 : Int32))])) t
      refine XS.icmpYes X23.here hx rfl (pc0 := 186) (pc' := 204) rfl (hb hby at_186) rfl (XT.ii_le_t (by decide)) (by decide) (by decide) ?_
      show Steps p.tables e below (T23.setTop (mkF m 204 #[.val (.int p0), .val (.int p1), .val (.int (1 : Int32)), .val (.ref b17), .val (.int v0), .val (.int v1), .val (.int v2), .val (.int v3), .val (.ref b20), .val (.int x0), .unset] [])) t
      refine XS.aloadN X23.here hx rfl (hb hby at_204) rfl rfl ?_
      show Steps p.tables e below (T23.setTop (mkF m 205 #[.val (.int p0), .val (.int p1), .val (.int (1 : Int32)), .val (.ref b17), .val (.int v0), .val (.int v1), .val (.int v2), .val (.int v3), .val (.ref b20), .val (.int x0), .unset] [(.ref b17)])) t
      refine XS.aload X23.here hx rfl (hb hby at_205) rfl rfl ?_
      show Steps p.tables e below (T23.setTop (mkF m 207 #[.val (.int p0), .val (.int p1), .val (.int (1 : Int32)), .val (.ref b17), .val (.int v0), .val (.int v1), .val (.int v2), .val (.int v3), .val (.ref b20), .val (.int x0), .unset] [(.ref b20), (.ref b17)])) t
      exact k)
    obtain ⟨cq24, kq24, q24a, q24b, q24c⟩ := isOf hZ e23 hP0.1
    obtain ⟨_, _, ⟨T24, L24, k24, n24⟩, -, X24, ⟨Lc24, hQ24, l24, y24, z24⟩, st24⟩ := X23.virtualBack hx (y := (⟨"com/example/parfactor/parfactor/model/PotentialTable", "indexOf", "([Z)I"⟩ : MethodName)) (z := (⟨"com/example/parfactor/parfactor/model/PotentialTable", "indexOf", "([Z)I"⟩ : MethodName)) hown (mvT hZ (hw _ (List.mem_of_getElem? (i := 26) rfl))) (mvT hZ (hw _ (List.mem_of_getElem? (i := 27) rfl))) (notFace_of_selects (args := #[]) (mvT hZ (hw _ (List.mem_of_getElem? (i := 29) rfl)))) (mvT hZ (hw _ (List.mem_of_getElem? (i := 29) rfl))) (mvT hZ (hw _ (List.mem_of_getElem? (i := 28) rfl))) (by decide) (backOf (W := 0) (rm_ix l Z a0 hw [] b17 b20 (1 : Int32) pr 2 1 (own_bf v0 v1 v2 v3) _ n0 hP0 Fz ⟨rfl, by decide⟩) hZ (hw _ (List.mem_of_getElem? (i := 30) rfl)) (hw _ (List.mem_of_getElem? (i := 3) rfl)) (by decide) (by decide)) q24a q24c (g := (mkF m 207 #[.val (.int p0), .val (.int p1), .val (.int (1 : Int32)), .val (.ref b17), .val (.int v0), .val (.int v1), .val (.int v2), .val (.int v3), .val (.ref b20), .val (.int x0), .unset] [(.ref b20), (.ref b17)])) rfl (by rw [hml]; rfl) (Steps.refl _) (argsL := [(.ref b20)]) (rest := []) (lenOf pd___Z_I rfl) rfl (by show 2 * 0 + _ ≤ _; exact Nat.le_of_eq rfl) (hb hby at_207) (fun _ _ => ⟨rfl, e23, (by decide : 4 + 0 ≤ _), (by decide : 38 + 0 ≤ _)⟩)
    dsimp only [Pt.U, Pt.locs, Pt.cells, Pt.slots] at X24 l24 y24 z24 st24 hQ24
    subst l24 y24 z24
    obtain ⟨rfl, N24q, e24⟩ := hQ24
    have N24 := Fr.app N23 N24q
    replace pre : Pth p e below S0 T24 (mkF m 210 #[.val (.int p0), .val (.int p1), .val (.int (1 : Int32)), .val (.ref b17), .val (.int v0), .val (.int v1), .val (.int v2), .val (.int v3), .val (.ref b20), .val (.int x0), .unset] [(.int (own_ixf (own_bf v0 v1 v2 v3) 1))]) := fun t k => pre t (st24.trans k)
    replace pre : Pth p e below S0 T24 (mkF m 227 #[.val (.int p0), .val (.int p1), .val (.int (1 : Int32)), .val (.ref b17), .val (.int v0), .val (.int v1), .val (.int v2), .val (.int v3), .val (.ref b20), .val (.int x0), .val (.int (own_ixf (own_bf v0 v1 v2 v3) 1))] [(.ref b17), (.int (own_ixf (own_bf v0 v1 v2 v3) 1))]) := fun t k => pre t (by
      show Steps p.tables e below (T24.setTop (mkF m 210 #[.val (.int p0), .val (.int p1), .val (.int (1 : Int32)), .val (.ref b17), .val (.int v0), .val (.int v1), .val (.int v2), .val (.int v3), .val (.ref b20), .val (.int x0), .unset] [(.int (own_ixf (own_bf v0 v1 v2 v3) 1))])) t
      refine XS.istore X24.here hx rfl (hb hby at_210) rfl (l' := #[.val (.int p0), .val (.int p1), .val (.int (1 : Int32)), .val (.ref b17), .val (.int v0), .val (.int v1), .val (.int v2), .val (.int v3), .val (.ref b20), .val (.int x0), .val (.int (own_ixf (own_bf v0 v1 v2 v3) 1))]) rfl ?_
      show Steps p.tables e below (T24.setTop (mkF m 212 #[.val (.int p0), .val (.int p1), .val (.int (1 : Int32)), .val (.ref b17), .val (.int v0), .val (.int v1), .val (.int v2), .val (.int v3), .val (.ref b20), .val (.int x0), .val (.int (own_ixf (own_bf v0 v1 v2 v3) 1))] [])) t
      refine XS.iload X24.here hx rfl (hb hby at_212) rfl ?_
      show Steps p.tables e below (T24.setTop (mkF m 214 #[.val (.int p0), .val (.int p1), .val (.int (1 : Int32)), .val (.ref b17), .val (.int v0), .val (.int v1), .val (.int v2), .val (.int v3), .val (.ref b20), .val (.int x0), .val (.int (own_ixf (own_bf v0 v1 v2 v3) 1))] [(.int (own_ixf (own_bf v0 v1 v2 v3) 1))])) t
      refine XS.iload X24.here hx rfl (hb hby at_214) rfl ?_
      show Steps p.tables e below (T24.setTop (mkF m 216 #[.val (.int p0), .val (.int p1), .val (.int (1 : Int32)), .val (.ref b17), .val (.int v0), .val (.int v1), .val (.int v2), .val (.int v3), .val (.ref b20), .val (.int x0), .val (.int (own_ixf (own_bf v0 v1 v2 v3) 1))] [(.int x0), (.int (own_ixf (own_bf v0 v1 v2 v3) 1))])) t
      refine XS.icmpNo X24.here hx rfl (hb hby at_216) rfl (XT.ii_ne_f (by subst hx0; rcases h_v0 with rfl | rfl <;> rcases h_v1 with rfl | rfl <;> rcases h_v2 with rfl | rfl <;> rcases h_v3 with rfl | rfl <;> decide)) ?_
      show Steps p.tables e below (T24.setTop (mkF m 219 #[.val (.int p0), .val (.int p1), .val (.int (1 : Int32)), .val (.ref b17), .val (.int v0), .val (.int v1), .val (.int v2), .val (.int v3), .val (.ref b20), .val (.int x0), .val (.int (own_ixf (own_bf v0 v1 v2 v3) 1))] [])) t
      refine XS.iload X24.here hx rfl (hb hby at_219) rfl ?_
      show Steps p.tables e below (T24.setTop (mkF m 221 #[.val (.int p0), .val (.int p1), .val (.int (1 : Int32)), .val (.ref b17), .val (.int v0), .val (.int v1), .val (.int v2), .val (.int v3), .val (.ref b20), .val (.int x0), .val (.int (own_ixf (own_bf v0 v1 v2 v3) 1))] [(.int (own_ixf (own_bf v0 v1 v2 v3) 1))])) t
      refine XS.ifNo X24.here hx rfl (hb hby at_221) rfl (XT.i0_lt_f (by rcases h_v0 with rfl | rfl <;> rcases h_v1 with rfl | rfl <;> rcases h_v2 with rfl | rfl <;> rcases h_v3 with rfl | rfl <;> decide)) ?_
      show Steps p.tables e below (T24.setTop (mkF m 224 #[.val (.int p0), .val (.int p1), .val (.int (1 : Int32)), .val (.ref b17), .val (.int v0), .val (.int v1), .val (.int v2), .val (.int v3), .val (.ref b20), .val (.int x0), .val (.int (own_ixf (own_bf v0 v1 v2 v3) 1))] [])) t
      refine XS.iload X24.here hx rfl (hb hby at_224) rfl ?_
      show Steps p.tables e below (T24.setTop (mkF m 226 #[.val (.int p0), .val (.int p1), .val (.int (1 : Int32)), .val (.ref b17), .val (.int v0), .val (.int v1), .val (.int v2), .val (.int v3), .val (.ref b20), .val (.int x0), .val (.int (own_ixf (own_bf v0 v1 v2 v3) 1))] [(.int (own_ixf (own_bf v0 v1 v2 v3) 1))])) t
      refine XS.aloadN X24.here hx rfl (hb hby at_226) rfl rfl ?_
      show Steps p.tables e below (T24.setTop (mkF m 227 #[.val (.int p0), .val (.int p1), .val (.int (1 : Int32)), .val (.ref b17), .val (.int v0), .val (.int v1), .val (.int v2), .val (.int v3), .val (.ref b20), .val (.int x0), .val (.int (own_ixf (own_bf v0 v1 v2 v3) 1))] [(.ref b17), (.int (own_ixf (own_bf v0 v1 v2 v3) 1))])) t
      exact k)
    obtain ⟨cq25, kq25, q25a, q25b, q25c⟩ := isOf hZ e24 hP0.1
    obtain ⟨_, _, ⟨T25, L25, k25, n25⟩, -, X25, ⟨Lc25, hQ25, l25, y25, z25⟩, st25⟩ := X24.virtualBack hx (y := (⟨"com/example/parfactor/parfactor/model/PotentialTable", "size", "()I"⟩ : MethodName)) (z := (⟨"com/example/parfactor/parfactor/model/PotentialTable", "size", "()I"⟩ : MethodName)) hown (mvT hZ (hw _ (List.mem_of_getElem? (i := 31) rfl))) (mvT hZ (hw _ (List.mem_of_getElem? (i := 32) rfl))) (notFace_of_selects (args := #[]) (mvT hZ (hw _ (List.mem_of_getElem? (i := 34) rfl)))) (mvT hZ (hw _ (List.mem_of_getElem? (i := 34) rfl))) (mvT hZ (hw _ (List.mem_of_getElem? (i := 33) rfl))) (by decide) (backOf (W := 1) (rm_sz l Z a0 hw [] b17 (1 : Int32) pr 2 _ n0 hP0) hZ (hw _ (List.mem_of_getElem? (i := 35) rfl)) (hw _ (List.mem_of_getElem? (i := 3) rfl)) (by decide) (by decide)) q25a q25c (g := (mkF m 227 #[.val (.int p0), .val (.int p1), .val (.int (1 : Int32)), .val (.ref b17), .val (.int v0), .val (.int v1), .val (.int v2), .val (.int v3), .val (.ref b20), .val (.int x0), .val (.int (own_ixf (own_bf v0 v1 v2 v3) 1))] [(.ref b17), (.int (own_ixf (own_bf v0 v1 v2 v3) 1))])) rfl (by rw [hml]; rfl) (Steps.refl _) (argsL := []) (rest := [(.int (own_ixf (own_bf v0 v1 v2 v3) 1))]) (lenOf pd___I rfl) rfl (by show 2 * 0 + _ ≤ _; exact Nat.le_of_eq rfl) (hb hby at_227) (fun _ _ => ⟨rfl, e24, (by decide : 4 + 0 ≤ _), (by decide : 38 + 0 ≤ _)⟩)
    dsimp only [Pt.U, Pt.locs, Pt.cells, Pt.slots] at X25 l25 y25 z25 st25 hQ25
    subst l25 y25 z25
    obtain ⟨rfl, N25q, e25⟩ := hQ25
    have N25 := Fr.app N24 N25q
    replace pre : Pth p e below S0 T25 (mkF m 230 #[.val (.int p0), .val (.int p1), .val (.int (1 : Int32)), .val (.ref b17), .val (.int v0), .val (.int v1), .val (.int v2), .val (.int v3), .val (.ref b20), .val (.int x0), .val (.int (own_ixf (own_bf v0 v1 v2 v3) 1))] [(.int (2 : Nat).toInt32), (.int (own_ixf (own_bf v0 v1 v2 v3) 1))]) := fun t k => pre t (st25.trans k)
    replace pre : Pth p e below S0 T25 (mkF m 238 #[.val (.int p0), .val (.int p1), .val (.int (1 : Int32)), .val (.ref b17), .val (.int v0), .val (.int v1), .val (.int v2), .val (.int v3), .val (.ref b20), .val (.int x0), .val (.int (own_ixf (own_bf v0 v1 v2 v3) 1))] [(.int (1 : Int32))]) := fun t k => pre t (by
      show Steps p.tables e below (T25.setTop (mkF m 230 #[.val (.int p0), .val (.int p1), .val (.int (1 : Int32)), .val (.ref b17), .val (.int v0), .val (.int v1), .val (.int v2), .val (.int v3), .val (.ref b20), .val (.int x0), .val (.int (own_ixf (own_bf v0 v1 v2 v3) 1))] [(.int (2 : Nat).toInt32), (.int (own_ixf (own_bf v0 v1 v2 v3) 1))])) t
      refine XS.icmpNo X25.here hx rfl (hb hby at_230) rfl (XT.ii_ge_f (by rcases h_v0 with rfl | rfl <;> rcases h_v1 with rfl | rfl <;> rcases h_v2 with rfl | rfl <;> rcases h_v3 with rfl | rfl <;> decide)) ?_
      show Steps p.tables e below (T25.setTop (mkF m 233 #[.val (.int p0), .val (.int p1), .val (.int (1 : Int32)), .val (.ref b17), .val (.int v0), .val (.int v1), .val (.int v2), .val (.int v3), .val (.ref b20), .val (.int x0), .val (.int (own_ixf (own_bf v0 v1 v2 v3) 1))] [])) t
      refine XS.iconst X25.here hx rfl (hb hby at_233) ?_
      show Steps p.tables e below (T25.setTop (mkF m 234 #[.val (.int p0), .val (.int p1), .val (.int (1 : Int32)), .val (.ref b17), .val (.int v0), .val (.int v1), .val (.int v2), .val (.int v3), .val (.ref b20), .val (.int x0), .val (.int (own_ixf (own_bf v0 v1 v2 v3) 1))] [(.int (1 : Int32))])) t
      refine XS.goto X25.here hx rfl (pc0 := 234) (pc' := 238) rfl (hb hby at_234) (by decide) (by decide) ?_
      show Steps p.tables e below (T25.setTop (mkF m 238 #[.val (.int p0), .val (.int p1), .val (.int (1 : Int32)), .val (.ref b17), .val (.int v0), .val (.int v1), .val (.int v2), .val (.int v3), .val (.ref b20), .val (.int x0), .val (.int (own_ixf (own_bf v0 v1 v2 v3) 1))] [(.int (1 : Int32))])) t
      exact k)
    obtain ⟨fs, hr, hrun, hended, hW, hsame⟩ := X25.leave (v := some (.int (1 : Int32))) (fun h => by rw [Bd.returns] at h; cases h)
    subst hS0
    refine ⟨_, _, pre _ ?_, hrun, hended, _, _, rfl, ?_, ⟨_, rfl⟩, hW, hsame.mono (by decide) (by decide)⟩
    · exact retN X25 hx (t := .boolean) Bd.returns (by simp) (hb hby at_238) hr
    · show Q_law Z p0 p1 h0 n0 _ T25.heap _
      rw [e25]
      exact ⟨rfl, N25⟩
  · replace pre : Pth p e below S0 T20 (mkF m 88 #[.val (.int p0), .val (.int p1), .val (.int (2 : Int32)), .val (.ref b17), .val (.int v0), .val (.int v1), .val (.int v2), .val (.int v3), .val (.ref b20), .unset, .unset] [(.int v0), (.int (0 : Int32)), (.ref b20)]) := fun t k => pre t (by
      show Steps p.tables e below (T20.setTop (mkF m 79 #[.val (.int p0), .val (.int p1), .val (.int (2 : Int32)), .val (.ref b17), .val (.int v0), .val (.int v1), .val (.int v2), .val (.int v3), .val (.ref b20), .unset, .unset] [])) t
      refine XS.iloadN X20.here hx rfl (hb hby at_79) rfl ?_
      show Steps p.tables e below (T20.setTop (mkF m 80 #[.val (.int p0), .val (.int p1), .val (.int (2 : Int32)), .val (.ref b17), .val (.int v0), .val (.int v1), .val (.int v2), .val (.int v3), .val (.ref b20), .unset, .unset] [(.int (2 : Int32))])) t
      refine XS.ifNo X20.here hx rfl (hb hby at_80) rfl (XT.i0_le_f (by decide)) ?_
      show Steps p.tables e below (T20.setTop (mkF m 83 #[.val (.int p0), .val (.int p1), .val (.int (2 : Int32)), .val (.ref b17), .val (.int v0), .val (.int v1), .val (.int v2), .val (.int v3), .val (.ref b20), .unset, .unset] [])) t
      refine XS.aload X20.here hx rfl (hb hby at_83) rfl rfl ?_
      show Steps p.tables e below (T20.setTop (mkF m 85 #[.val (.int p0), .val (.int p1), .val (.int (2 : Int32)), .val (.ref b17), .val (.int v0), .val (.int v1), .val (.int v2), .val (.int v3), .val (.ref b20), .unset, .unset] [(.ref b20)])) t
      refine XS.iconst X20.here hx rfl (hb hby at_85) ?_
      show Steps p.tables e below (T20.setTop (mkF m 86 #[.val (.int p0), .val (.int p1), .val (.int (2 : Int32)), .val (.ref b17), .val (.int v0), .val (.int v1), .val (.int v2), .val (.int v3), .val (.ref b20), .unset, .unset] [(.int (0 : Int32)), (.ref b20)])) t
      refine XS.iload X20.here hx rfl (hb hby at_86) rfl ?_
      show Steps p.tables e below (T20.setTop (mkF m 88 #[.val (.int p0), .val (.int p1), .val (.int (2 : Int32)), .val (.ref b17), .val (.int v0), .val (.int v1), .val (.int v2), .val (.int v3), .val (.ref b20), .unset, .unset] [(.int v0), (.int (0 : Int32)), (.ref b20)])) t
      exact k)
    obtain ⟨cl26, Ar26, Sz26, -⟩ := id F20
    obtain ⟨T26, h26, X26, e26, W26, st26⟩ := stZ X20 hx hZ e20 Ar26 (j := (0 : Int32)) (by rw [Sz26]; exact (own_in (i := 0) (by decide) (by decide))) (g := (mkF m 88 #[.val (.int p0), .val (.int p1), .val (.int (2 : Int32)), .val (.ref b17), .val (.int v0), .val (.int v1), .val (.int v2), .val (.int v3), .val (.ref b20), .unset, .unset] [(.int v0), (.int (0 : Int32)), (.ref b20)])) rfl rfl (hb hby at_88)
    have F26 := OFun.set F20 W26
    have N26 := Fr.snoc X26 N19 gz
    replace pre : Pth p e below S0 T26 (mkF m 89 #[.val (.int p0), .val (.int p1), .val (.int (2 : Int32)), .val (.ref b17), .val (.int v0), .val (.int v1), .val (.int v2), .val (.int v3), .val (.ref b20), .unset, .unset] []) := fun t k => pre t (st26 _ k)
    have hP0 := hO1.other W26 nz1 nz2
    replace pre : Pth p e below S0 T26 (mkF m 99 #[.val (.int p0), .val (.int p1), .val (.int (2 : Int32)), .val (.ref b17), .val (.int v0), .val (.int v1), .val (.int v2), .val (.int v3), .val (.ref b20), .unset, .unset] [(.int v1), (.int (1 : Int32)), (.ref b20)]) := fun t k => pre t (by
      show Steps p.tables e below (T26.setTop (mkF m 89 #[.val (.int p0), .val (.int p1), .val (.int (2 : Int32)), .val (.ref b17), .val (.int v0), .val (.int v1), .val (.int v2), .val (.int v3), .val (.ref b20), .unset, .unset] [])) t
      refine XS.iloadN X26.here hx rfl (hb hby at_89) rfl ?_
      show Steps p.tables e below (T26.setTop (mkF m 90 #[.val (.int p0), .val (.int p1), .val (.int (2 : Int32)), .val (.ref b17), .val (.int v0), .val (.int v1), .val (.int v2), .val (.int v3), .val (.ref b20), .unset, .unset] [(.int (2 : Int32))])) t
      refine XS.iconst X26.here hx rfl (hb hby at_90) ?_
      show Steps p.tables e below (T26.setTop (mkF m 91 #[.val (.int p0), .val (.int p1), .val (.int (2 : Int32)), .val (.ref b17), .val (.int v0), .val (.int v1), .val (.int v2), .val (.int v3), .val (.ref b20), .unset, .unset] [(.int (1 : Int32)), (.int (2 : Int32))])) t
      refine XS.icmpNo X26.here hx rfl (hb hby at_91) rfl (XT.ii_le_f (by decide)) ?_
      show Steps p.tables e below (T26.setTop (mkF m 94 #[.val (.int p0), .val (.int p1), .val (.int (2 : Int32)), .val (.ref b17), .val (.int v0), .val (.int v1), .val (.int v2), .val (.int v3), .val (.ref b20), .unset, .unset] [])) t
      refine XS.aload X26.here hx rfl (hb hby at_94) rfl rfl ?_
      show Steps p.tables e below (T26.setTop (mkF m 96 #[.val (.int p0), .val (.int p1), .val (.int (2 : Int32)), .val (.ref b17), .val (.int v0), .val (.int v1), .val (.int v2), .val (.int v3), .val (.ref b20), .unset, .unset] [(.ref b20)])) t
      refine XS.iconst X26.here hx rfl (hb hby at_96) ?_
      show Steps p.tables e below (T26.setTop (mkF m 97 #[.val (.int p0), .val (.int p1), .val (.int (2 : Int32)), .val (.ref b17), .val (.int v0), .val (.int v1), .val (.int v2), .val (.int v3), .val (.ref b20), .unset, .unset] [(.int (1 : Int32)), (.ref b20)])) t
      refine XS.iload X26.here hx rfl (hb hby at_97) rfl ?_
      show Steps p.tables e below (T26.setTop (mkF m 99 #[.val (.int p0), .val (.int p1), .val (.int (2 : Int32)), .val (.ref b17), .val (.int v0), .val (.int v1), .val (.int v2), .val (.int v3), .val (.ref b20), .unset, .unset] [(.int v1), (.int (1 : Int32)), (.ref b20)])) t
      exact k)
    obtain ⟨cl27, Ar27, Sz27, -⟩ := id F26
    obtain ⟨T27, h27, X27, e27, W27, st27⟩ := stZ X26 hx hZ e26 Ar27 (j := (1 : Int32)) (by rw [Sz27]; exact (own_in (i := 1) (by decide) (by decide))) (g := (mkF m 99 #[.val (.int p0), .val (.int p1), .val (.int (2 : Int32)), .val (.ref b17), .val (.int v0), .val (.int v1), .val (.int v2), .val (.int v3), .val (.ref b20), .unset, .unset] [(.int v1), (.int (1 : Int32)), (.ref b20)])) rfl rfl (hb hby at_99)
    have F27 := OFun.set F26 W27
    have N27 := Fr.snoc X27 N26 gz
    replace pre : Pth p e below S0 T27 (mkF m 100 #[.val (.int p0), .val (.int p1), .val (.int (2 : Int32)), .val (.ref b17), .val (.int v0), .val (.int v1), .val (.int v2), .val (.int v3), .val (.ref b20), .unset, .unset] []) := fun t k => pre t (st27 _ k)
    have hP1 := hP0.other W27 nz1 nz2
    have Fz : OFun Z h27 b20 .boolean 2 (fun j => .int (own_bf v0 v1 v2 v3 j)) := F27.congr (fun j hj => by
      rcases h_v0 with rfl | rfl <;> rcases h_v1 with rfl | rfl <;> rcases h_v2 with rfl | rfl <;> rcases h_v3 with rfl | rfl <;> (match j, hj with
        | 0, _ => rfl
        | 1, _ => rfl
        ))
    replace pre : Pth p e below S0 T27 (mkF m 131 #[.val (.int p0), .val (.int p1), .val (.int (2 : Int32)), .val (.ref b17), .val (.int v0), .val (.int v1), .val (.int v2), .val (.int v3), .val (.ref b20), .val (.int (0 : Int32)), .unset] [(.int v0)]) := fun t k => pre t (by
      show Steps p.tables e below (T27.setTop (mkF m 100 #[.val (.int p0), .val (.int p1), .val (.int (2 : Int32)), .val (.ref b17), .val (.int v0), .val (.int v1), .val (.int v2), .val (.int v3), .val (.ref b20), .unset, .unset] [])) t
      refine XS.iloadN X27.here hx rfl (hb hby at_100) rfl ?_
      show Steps p.tables e below (T27.setTop (mkF m 101 #[.val (.int p0), .val (.int p1), .val (.int (2 : Int32)), .val (.ref b17), .val (.int v0), .val (.int v1), .val (.int v2), .val (.int v3), .val (.ref b20), .unset, .unset] [(.int (2 : Int32))])) t
      refine XS.iconst X27.here hx rfl (hb hby at_101) ?_
      show Steps p.tables e below (T27.setTop (mkF m 102 #[.val (.int p0), .val (.int p1), .val (.int (2 : Int32)), .val (.ref b17), .val (.int v0), .val (.int v1), .val (.int v2), .val (.int v3), .val (.ref b20), .unset, .unset] [(.int (2 : Int32)), (.int (2 : Int32))])) t
      refine XS.icmpYes X27.here hx rfl (pc0 := 102) (pc' := 111) rfl (hb hby at_102) rfl (XT.ii_le_t (by decide)) (by decide) (by decide) ?_
      show Steps p.tables e below (T27.setTop (mkF m 111 #[.val (.int p0), .val (.int p1), .val (.int (2 : Int32)), .val (.ref b17), .val (.int v0), .val (.int v1), .val (.int v2), .val (.int v3), .val (.ref b20), .unset, .unset] [])) t
      refine XS.iloadN X27.here hx rfl (hb hby at_111) rfl ?_
      show Steps p.tables e below (T27.setTop (mkF m 112 #[.val (.int p0), .val (.int p1), .val (.int (2 : Int32)), .val (.ref b17), .val (.int v0), .val (.int v1), .val (.int v2), .val (.int v3), .val (.ref b20), .unset, .unset] [(.int (2 : Int32))])) t
      refine XS.iconst X27.here hx rfl (hb hby at_112) ?_
      show Steps p.tables e below (T27.setTop (mkF m 113 #[.val (.int p0), .val (.int p1), .val (.int (2 : Int32)), .val (.ref b17), .val (.int v0), .val (.int v1), .val (.int v2), .val (.int v3), .val (.ref b20), .unset, .unset] [(.int (3 : Int32)), (.int (2 : Int32))])) t
      refine XS.icmpYes X27.here hx rfl (pc0 := 113) (pc' := 122) rfl (hb hby at_113) rfl (XT.ii_le_t (by decide)) (by decide) (by decide) ?_
      show Steps p.tables e below (T27.setTop (mkF m 122 #[.val (.int p0), .val (.int p1), .val (.int (2 : Int32)), .val (.ref b17), .val (.int v0), .val (.int v1), .val (.int v2), .val (.int v3), .val (.ref b20), .unset, .unset] [])) t
      refine XS.iconst X27.here hx rfl (hb hby at_122) ?_
      show Steps p.tables e below (T27.setTop (mkF m 123 #[.val (.int p0), .val (.int p1), .val (.int (2 : Int32)), .val (.ref b17), .val (.int v0), .val (.int v1), .val (.int v2), .val (.int v3), .val (.ref b20), .unset, .unset] [(.int (0 : Int32))])) t
      refine XS.istore X27.here hx rfl (hb hby at_123) rfl (l' := #[.val (.int p0), .val (.int p1), .val (.int (2 : Int32)), .val (.ref b17), .val (.int v0), .val (.int v1), .val (.int v2), .val (.int v3), .val (.ref b20), .val (.int (0 : Int32)), .unset]) rfl ?_
      show Steps p.tables e below (T27.setTop (mkF m 125 #[.val (.int p0), .val (.int p1), .val (.int (2 : Int32)), .val (.ref b17), .val (.int v0), .val (.int v1), .val (.int v2), .val (.int v3), .val (.ref b20), .val (.int (0 : Int32)), .unset] [])) t
      refine XS.iloadN X27.here hx rfl (hb hby at_125) rfl ?_
      show Steps p.tables e below (T27.setTop (mkF m 126 #[.val (.int p0), .val (.int p1), .val (.int (2 : Int32)), .val (.ref b17), .val (.int v0), .val (.int v1), .val (.int v2), .val (.int v3), .val (.ref b20), .val (.int (0 : Int32)), .unset] [(.int (2 : Int32))])) t
      refine XS.ifNo X27.here hx rfl (hb hby at_126) rfl (XT.i0_le_f (by decide)) ?_
      show Steps p.tables e below (T27.setTop (mkF m 129 #[.val (.int p0), .val (.int p1), .val (.int (2 : Int32)), .val (.ref b17), .val (.int v0), .val (.int v1), .val (.int v2), .val (.int v3), .val (.ref b20), .val (.int (0 : Int32)), .unset] [])) t
      refine XS.iload X27.here hx rfl (hb hby at_129) rfl ?_
      show Steps p.tables e below (T27.setTop (mkF m 131 #[.val (.int p0), .val (.int p1), .val (.int (2 : Int32)), .val (.ref b17), .val (.int v0), .val (.int v1), .val (.int v2), .val (.int v3), .val (.ref b20), .val (.int (0 : Int32)), .unset] [(.int v0)])) t
      exact k)
    obtain ⟨x0, hx0, pre⟩ : ∃ x0 : Int32, x0 = (if v0 = 0 then (0 : Int32) + ((1 : Int32) <<< (((2 : Int32) - (1 : Int32)) &&& 31)) else (0 : Int32)) ∧ Pth p e below S0 T27 (mkF m 144 #[.val (.int p0), .val (.int p1), .val (.int (2 : Int32)), .val (.ref b17), .val (.int v0), .val (.int v1), .val (.int v2), .val (.int v3), .val (.ref b20), .val (.int x0), .unset] []) := by
      by_cases z1 : v0 = (0 : Int32)
      · replace pre : Pth p e below S0 T27 (mkF m 144 #[.val (.int p0), .val (.int p1), .val (.int (2 : Int32)), .val (.ref b17), .val (.int v0), .val (.int v1), .val (.int v2), .val (.int v3), .val (.ref b20), .val (.int ((0 : Int32) + ((1 : Int32) <<< (((2 : Int32) - (1 : Int32)) &&& 31)))), .unset] []) := fun t k => pre t (by
          show Steps p.tables e below (T27.setTop (mkF m 131 #[.val (.int p0), .val (.int p1), .val (.int (2 : Int32)), .val (.ref b17), .val (.int v0), .val (.int v1), .val (.int v2), .val (.int v3), .val (.ref b20), .val (.int (0 : Int32)), .unset] [(.int v0)])) t
          refine XS.ifNo X27.here hx rfl (hb hby at_131) rfl (XT.i0_ne_f z1) ?_
          show Steps p.tables e below (T27.setTop (mkF m 134 #[.val (.int p0), .val (.int p1), .val (.int (2 : Int32)), .val (.ref b17), .val (.int v0), .val (.int v1), .val (.int v2), .val (.int v3), .val (.ref b20), .val (.int (0 : Int32)), .unset] [])) t
          refine XS.iload X27.here hx rfl (hb hby at_134) rfl ?_
          show Steps p.tables e below (T27.setTop (mkF m 136 #[.val (.int p0), .val (.int p1), .val (.int (2 : Int32)), .val (.ref b17), .val (.int v0), .val (.int v1), .val (.int v2), .val (.int v3), .val (.ref b20), .val (.int (0 : Int32)), .unset] [(.int (0 : Int32))])) t
          refine XS.iconst X27.here hx rfl (hb hby at_136) ?_
          show Steps p.tables e below (T27.setTop (mkF m 137 #[.val (.int p0), .val (.int p1), .val (.int (2 : Int32)), .val (.ref b17), .val (.int v0), .val (.int v1), .val (.int v2), .val (.int v3), .val (.ref b20), .val (.int (0 : Int32)), .unset] [(.int (1 : Int32)), (.int (0 : Int32))])) t
          refine XS.iloadN X27.here hx rfl (hb hby at_137) rfl ?_
          show Steps p.tables e below (T27.setTop (mkF m 138 #[.val (.int p0), .val (.int p1), .val (.int (2 : Int32)), .val (.ref b17), .val (.int v0), .val (.int v1), .val (.int v2), .val (.int v3), .val (.ref b20), .val (.int (0 : Int32)), .unset] [(.int (2 : Int32)), (.int (1 : Int32)), (.int (0 : Int32))])) t
          refine XS.iconst X27.here hx rfl (hb hby at_138) ?_
          show Steps p.tables e below (T27.setTop (mkF m 139 #[.val (.int p0), .val (.int p1), .val (.int (2 : Int32)), .val (.ref b17), .val (.int v0), .val (.int v1), .val (.int v2), .val (.int v3), .val (.ref b20), .val (.int (0 : Int32)), .unset] [(.int (1 : Int32)), (.int (2 : Int32)), (.int (1 : Int32)), (.int (0 : Int32))])) t
          refine XS.isub X27.here hx rfl (hb hby at_139) rfl ?_
          show Steps p.tables e below (T27.setTop (mkF m 140 #[.val (.int p0), .val (.int p1), .val (.int (2 : Int32)), .val (.ref b17), .val (.int v0), .val (.int v1), .val (.int v2), .val (.int v3), .val (.ref b20), .val (.int (0 : Int32)), .unset] [(.int ((2 : Int32) - (1 : Int32))), (.int (1 : Int32)), (.int (0 : Int32))])) t
          refine XS.ishl X27.here hx rfl (hb hby at_140) rfl ?_
          show Steps p.tables e below (T27.setTop (mkF m 141 #[.val (.int p0), .val (.int p1), .val (.int (2 : Int32)), .val (.ref b17), .val (.int v0), .val (.int v1), .val (.int v2), .val (.int v3), .val (.ref b20), .val (.int (0 : Int32)), .unset] [(.int ((1 : Int32) <<< (((2 : Int32) - (1 : Int32)) &&& 31))), (.int (0 : Int32))])) t
          refine XS.iadd X27.here hx rfl (hb hby at_141) rfl ?_
          show Steps p.tables e below (T27.setTop (mkF m 142 #[.val (.int p0), .val (.int p1), .val (.int (2 : Int32)), .val (.ref b17), .val (.int v0), .val (.int v1), .val (.int v2), .val (.int v3), .val (.ref b20), .val (.int (0 : Int32)), .unset] [(.int ((0 : Int32) + ((1 : Int32) <<< (((2 : Int32) - (1 : Int32)) &&& 31))))])) t
          refine XS.istore X27.here hx rfl (hb hby at_142) rfl (l' := #[.val (.int p0), .val (.int p1), .val (.int (2 : Int32)), .val (.ref b17), .val (.int v0), .val (.int v1), .val (.int v2), .val (.int v3), .val (.ref b20), .val (.int ((0 : Int32) + ((1 : Int32) <<< (((2 : Int32) - (1 : Int32)) &&& 31)))), .unset]) rfl ?_
          show Steps p.tables e below (T27.setTop (mkF m 144 #[.val (.int p0), .val (.int p1), .val (.int (2 : Int32)), .val (.ref b17), .val (.int v0), .val (.int v1), .val (.int v2), .val (.int v3), .val (.ref b20), .val (.int ((0 : Int32) + ((1 : Int32) <<< (((2 : Int32) - (1 : Int32)) &&& 31)))), .unset] [])) t
          exact k)
        exact ⟨_, (if_pos z1).symm, pre⟩
      · replace pre : Pth p e below S0 T27 (mkF m 144 #[.val (.int p0), .val (.int p1), .val (.int (2 : Int32)), .val (.ref b17), .val (.int v0), .val (.int v1), .val (.int v2), .val (.int v3), .val (.ref b20), .val (.int (0 : Int32)), .unset] []) := fun t k => pre t (by
          show Steps p.tables e below (T27.setTop (mkF m 131 #[.val (.int p0), .val (.int p1), .val (.int (2 : Int32)), .val (.ref b17), .val (.int v0), .val (.int v1), .val (.int v2), .val (.int v3), .val (.ref b20), .val (.int (0 : Int32)), .unset] [(.int v0)])) t
          refine XS.ifYes X27.here hx rfl (pc0 := 131) (pc' := 144) rfl (hb hby at_131) rfl (XT.i0_ne_t z1) (by decide) (by decide) ?_
          show Steps p.tables e below (T27.setTop (mkF m 144 #[.val (.int p0), .val (.int p1), .val (.int (2 : Int32)), .val (.ref b17), .val (.int v0), .val (.int v1), .val (.int v2), .val (.int v3), .val (.ref b20), .val (.int (0 : Int32)), .unset] [])) t
          exact k)
        exact ⟨_, (if_neg z1).symm, pre⟩
    replace pre : Pth p e below S0 T27 (mkF m 151 #[.val (.int p0), .val (.int p1), .val (.int (2 : Int32)), .val (.ref b17), .val (.int v0), .val (.int v1), .val (.int v2), .val (.int v3), .val (.ref b20), .val (.int x0), .unset] [(.int v1)]) := fun t k => pre t (by
      show Steps p.tables e below (T27.setTop (mkF m 144 #[.val (.int p0), .val (.int p1), .val (.int (2 : Int32)), .val (.ref b17), .val (.int v0), .val (.int v1), .val (.int v2), .val (.int v3), .val (.ref b20), .val (.int x0), .unset] [])) t
      refine XS.iloadN X27.here hx rfl (hb hby at_144) rfl ?_
      show Steps p.tables e below (T27.setTop (mkF m 145 #[.val (.int p0), .val (.int p1), .val (.int (2 : Int32)), .val (.ref b17), .val (.int v0), .val (.int v1), .val (.int v2), .val (.int v3), .val (.ref b20), .val (.int x0), .unset] [(.int (2 : Int32))])) t
      refine XS.iconst X27.here hx rfl (hb hby at_145) ?_
      show Steps p.tables e below (T27.setTop (mkF m 146 #[.val (.int p0), .val (.int p1), .val (.int (2 : Int32)), .val (.ref b17), .val (.int v0), .val (.int v1), .val (.int v2), .val (.int v3), .val (.ref b20), .val (.int x0), .unset] [(.int (1 : Int32)), (.int (2 : Int32))])) t
      refine XS.icmpNo X27.here hx rfl (hb hby at_146) rfl (XT.ii_le_f (by decide)) ?_
      show Steps p.tables e below (T27.setTop (mkF m 149 #[.val (.int p0), .val (.int p1), .val (.int (2 : Int32)), .val (.ref b17), .val (.int v0), .val (.int v1), .val (.int v2), .val (.int v3), .val (.ref b20), .val (.int x0), .unset] [])) t
      refine XS.iload X27.here hx rfl (hb hby at_149) rfl ?_
      show Steps p.tables e below (T27.setTop (mkF m 151 #[.val (.int p0), .val (.int p1), .val (.int (2 : Int32)), .val (.ref b17), .val (.int v0), .val (.int v1), .val (.int v2), .val (.int v3), .val (.ref b20), .val (.int x0), .unset] [(.int v1)])) t
      exact k)
    obtain ⟨x1, hx1, pre⟩ : ∃ x1 : Int32, x1 = (if v1 = 0 then x0 + ((1 : Int32) <<< (((2 : Int32) - (2 : Int32)) &&& 31)) else x0) ∧ Pth p e below S0 T27 (mkF m 164 #[.val (.int p0), .val (.int p1), .val (.int (2 : Int32)), .val (.ref b17), .val (.int v0), .val (.int v1), .val (.int v2), .val (.int v3), .val (.ref b20), .val (.int x1), .unset] []) := by
      by_cases z1 : v1 = (0 : Int32)
      · replace pre : Pth p e below S0 T27 (mkF m 164 #[.val (.int p0), .val (.int p1), .val (.int (2 : Int32)), .val (.ref b17), .val (.int v0), .val (.int v1), .val (.int v2), .val (.int v3), .val (.ref b20), .val (.int (x0 + ((1 : Int32) <<< (((2 : Int32) - (2 : Int32)) &&& 31)))), .unset] []) := fun t k => pre t (by
          show Steps p.tables e below (T27.setTop (mkF m 151 #[.val (.int p0), .val (.int p1), .val (.int (2 : Int32)), .val (.ref b17), .val (.int v0), .val (.int v1), .val (.int v2), .val (.int v3), .val (.ref b20), .val (.int x0), .unset] [(.int v1)])) t
          refine XS.ifNo X27.here hx rfl (hb hby at_151) rfl (XT.i0_ne_f z1) ?_
          show Steps p.tables e below (T27.setTop (mkF m 154 #[.val (.int p0), .val (.int p1), .val (.int (2 : Int32)), .val (.ref b17), .val (.int v0), .val (.int v1), .val (.int v2), .val (.int v3), .val (.ref b20), .val (.int x0), .unset] [])) t
          refine XS.iload X27.here hx rfl (hb hby at_154) rfl ?_
          show Steps p.tables e below (T27.setTop (mkF m 156 #[.val (.int p0), .val (.int p1), .val (.int (2 : Int32)), .val (.ref b17), .val (.int v0), .val (.int v1), .val (.int v2), .val (.int v3), .val (.ref b20), .val (.int x0), .unset] [(.int x0)])) t
          refine XS.iconst X27.here hx rfl (hb hby at_156) ?_
          show Steps p.tables e below (T27.setTop (mkF m 157 #[.val (.int p0), .val (.int p1), .val (.int (2 : Int32)), .val (.ref b17), .val (.int v0), .val (.int v1), .val (.int v2), .val (.int v3), .val (.ref b20), .val (.int x0), .unset] [(.int (1 : Int32)), (.int x0)])) t
          refine XS.iloadN X27.here hx rfl (hb hby at_157) rfl ?_
          show Steps p.tables e below (T27.setTop (mkF m 158 #[.val (.int p0), .val (.int p1), .val (.int (2 : Int32)), .val (.ref b17), .val (.int v0), .val (.int v1), .val (.int v2), .val (.int v3), .val (.ref b20), .val (.int x0), .unset] [(.int (2 : Int32)), (.int (1 : Int32)), (.int x0)])) t
          refine XS.iconst X27.here hx rfl (hb hby at_158) ?_
          show Steps p.tables e below (T27.setTop (mkF m 159 #[.val (.int p0), .val (.int p1), .val (.int (2 : Int32)), .val (.ref b17), .val (.int v0), .val (.int v1), .val (.int v2), .val (.int v3), .val (.ref b20), .val (.int x0), .unset] [(.int (2 : Int32)), (.int (2 : Int32)), (.int (1 : Int32)), (.int x0)])) t
          refine XS.isub X27.here hx rfl (hb hby at_159) rfl ?_
          show Steps p.tables e below (T27.setTop (mkF m 160 #[.val (.int p0), .val (.int p1), .val (.int (2 : Int32)), .val (.ref b17), .val (.int v0), .val (.int v1), .val (.int v2), .val (.int v3), .val (.ref b20), .val (.int x0), .unset] [(.int ((2 : Int32) - (2 : Int32))), (.int (1 : Int32)), (.int x0)])) t
          refine XS.ishl X27.here hx rfl (hb hby at_160) rfl ?_
          show Steps p.tables e below (T27.setTop (mkF m 161 #[.val (.int p0), .val (.int p1), .val (.int (2 : Int32)), .val (.ref b17), .val (.int v0), .val (.int v1), .val (.int v2), .val (.int v3), .val (.ref b20), .val (.int x0), .unset] [(.int ((1 : Int32) <<< (((2 : Int32) - (2 : Int32)) &&& 31))), (.int x0)])) t
          refine XS.iadd X27.here hx rfl (hb hby at_161) rfl ?_
          show Steps p.tables e below (T27.setTop (mkF m 162 #[.val (.int p0), .val (.int p1), .val (.int (2 : Int32)), .val (.ref b17), .val (.int v0), .val (.int v1), .val (.int v2), .val (.int v3), .val (.ref b20), .val (.int x0), .unset] [(.int (x0 + ((1 : Int32) <<< (((2 : Int32) - (2 : Int32)) &&& 31))))])) t
          refine XS.istore X27.here hx rfl (hb hby at_162) rfl (l' := #[.val (.int p0), .val (.int p1), .val (.int (2 : Int32)), .val (.ref b17), .val (.int v0), .val (.int v1), .val (.int v2), .val (.int v3), .val (.ref b20), .val (.int (x0 + ((1 : Int32) <<< (((2 : Int32) - (2 : Int32)) &&& 31)))), .unset]) rfl ?_
          show Steps p.tables e below (T27.setTop (mkF m 164 #[.val (.int p0), .val (.int p1), .val (.int (2 : Int32)), .val (.ref b17), .val (.int v0), .val (.int v1), .val (.int v2), .val (.int v3), .val (.ref b20), .val (.int (x0 + ((1 : Int32) <<< (((2 : Int32) - (2 : Int32)) &&& 31)))), .unset] [])) t
          exact k)
        exact ⟨_, (if_pos z1).symm, pre⟩
      · replace pre : Pth p e below S0 T27 (mkF m 164 #[.val (.int p0), .val (.int p1), .val (.int (2 : Int32)), .val (.ref b17), .val (.int v0), .val (.int v1), .val (.int v2), .val (.int v3), .val (.ref b20), .val (.int x0), .unset] []) := fun t k => pre t (by
          show Steps p.tables e below (T27.setTop (mkF m 151 #[.val (.int p0), .val (.int p1), .val (.int (2 : Int32)), .val (.ref b17), .val (.int v0), .val (.int v1), .val (.int v2), .val (.int v3), .val (.ref b20), .val (.int x0), .unset] [(.int v1)])) t
          refine XS.ifYes X27.here hx rfl (pc0 := 151) (pc' := 164) rfl (hb hby at_151) rfl (XT.i0_ne_t z1) (by decide) (by decide) ?_
          show Steps p.tables e below (T27.setTop (mkF m 164 #[.val (.int p0), .val (.int p1), .val (.int (2 : Int32)), .val (.ref b17), .val (.int v0), .val (.int v1), .val (.int v2), .val (.int v3), .val (.ref b20), .val (.int x0), .unset] [])) t
          exact k)
        exact ⟨_, (if_neg z1).symm, pre⟩
    replace pre : Pth p e below S0 T27 (mkF m 207 #[.val (.int p0), .val (.int p1), .val (.int (2 : Int32)), .val (.ref b17), .val (.int v0), .val (.int v1), .val (.int v2), .val (.int v3), .val (.ref b20), .val (.int x1), .unset] [(.ref b20), (.ref b17)]) := fun t k => pre t (by
      show Steps p.tables e below (T27.setTop (mkF m 164 #[.val (.int p0), .val (.int p1), .val (.int (2 : Int32)), .val (.ref b17), .val (.int v0), .val (.int v1), .val (.int v2), .val (.int v3), .val (.ref b20), .val (.int x1), .unset] [])) t
      refine XS.iloadN X27.here hx rfl (hb hby at_164) rfl ?_
      show Steps p.tables e below (T27.setTop (mkF m 165 #[.val (.int p0), .val (.int p1), .val (.int (2 : Int32)), .val (.ref b17), .val (.int v0), .val (.int v1), .val (.int v2), .val (.int v3), .val (.ref b20), .val (.int x1), .unset] [(.int (2 : Int32))])) t
      refine XS.iconst X27.here hx rfl (hb hby at_165) ?_
      show Steps p.tables e below (T27.setTop (mkF m 166 #[.val (.int p0), .val (.int p1), .val (.int (2 : Int32)), .val (.ref b17), .val (.int v0), .val (.int v1), .val (.int v2), .val (.int v3), .val (.ref b20), .val (.int x1), .unset] [(.int (2 : Int32)), (.int (2 : Int32))])) t
      refine XS.icmpYes X27.here hx rfl (pc0 := 166) (pc' := 184) rfl (hb hby at_166) rfl (XT.ii_le_t (by decide)) (by decide) (by decide) ?_
      show Steps p.tables e below (T27.setTop (mkF m 184 #[.val (.int p0), .val (.int p1), .val (.int (2 : Int32)), .val (.ref b17), .val (.int v0), .val (.int v1), .val (.int v2), .val (.int v3), .val (.ref b20), .val (.int x1), .unset] [])) t
      refine XS.iloadN X27.here hx rfl (hb hby at_184) rfl ?_
      show Steps p.tables e below (T27.setTop (mkF m 185 #[.val (.int p0), .val (.int p1), .val (.int (2 : Int32)), .val (.ref b17), .val (.int v0), .val (.int v1), .val (.int v2), .val (.int v3), .val (.ref b20), .val (.int x1), .unset] [(.int (2 : Int32))])) t
      refine XS.iconst X27.here hx rfl (hb hby at_185) ?_
      show Steps p.tables e below (T27.setTop (mkF m 186 #[.val (.int p0), .val (.int p1), .val (.int (2 : Int32)), .val (.ref b17), .val (.int v0), .val (.int v1), .val (.int v2), .val (.int v3), .val (.ref b20), .val (.int x1), .unset] [(.int (3 : Int32)), (.int (2 : Int32))])) t
      refine XS.icmpYes X27.here hx rfl (pc0 := 186) (pc' := 204) rfl (hb hby at_186) rfl (XT.ii_le_t (by decide)) (by decide) (by decide) ?_
      show Steps p.tables e below (T27.setTop (mkF m 204 #[.val (.int p0), .val (.int p1), .val (.int (2 : Int32)), .val (.ref b17), .val (.int v0), .val (.int v1), .val (.int v2), .val (.int v3), .val (.ref b20), .val (.int x1), .unset] [])) t
      refine XS.aloadN X27.here hx rfl (hb hby at_204) rfl rfl ?_
      show Steps p.tables e below (T27.setTop (mkF m 205 #[.val (.int p0), .val (.int p1), .val (.int (2 : Int32)), .val (.ref b17), .val (.int v0), .val (.int v1), .val (.int v2), .val (.int v3), .val (.ref b20), .val (.int x1), .unset] [(.ref b17)])) t
      refine XS.aload X27.here hx rfl (hb hby at_205) rfl rfl ?_
      show Steps p.tables e below (T27.setTop (mkF m 207 #[.val (.int p0), .val (.int p1), .val (.int (2 : Int32)), .val (.ref b17), .val (.int v0), .val (.int v1), .val (.int v2), .val (.int v3), .val (.ref b20), .val (.int x1), .unset] [(.ref b20), (.ref b17)])) t
      exact k)
    obtain ⟨cq28, kq28, q28a, q28b, q28c⟩ := isOf hZ e27 hP1.1
    obtain ⟨_, _, ⟨T28, L28, k28, n28⟩, -, X28, ⟨Lc28, hQ28, l28, y28, z28⟩, st28⟩ := X27.virtualBack hx (y := (⟨"com/example/parfactor/parfactor/model/PotentialTable", "indexOf", "([Z)I"⟩ : MethodName)) (z := (⟨"com/example/parfactor/parfactor/model/PotentialTable", "indexOf", "([Z)I"⟩ : MethodName)) hown (mvT hZ (hw _ (List.mem_of_getElem? (i := 26) rfl))) (mvT hZ (hw _ (List.mem_of_getElem? (i := 27) rfl))) (notFace_of_selects (args := #[]) (mvT hZ (hw _ (List.mem_of_getElem? (i := 29) rfl)))) (mvT hZ (hw _ (List.mem_of_getElem? (i := 29) rfl))) (mvT hZ (hw _ (List.mem_of_getElem? (i := 28) rfl))) (by decide) (backOf (W := 0) (rm_ix l Z a0 hw [] b17 b20 (2 : Int32) pr 4 2 (own_bf v0 v1 v2 v3) _ n0 hP1 Fz ⟨rfl, by decide⟩) hZ (hw _ (List.mem_of_getElem? (i := 30) rfl)) (hw _ (List.mem_of_getElem? (i := 3) rfl)) (by decide) (by decide)) q28a q28c (g := (mkF m 207 #[.val (.int p0), .val (.int p1), .val (.int (2 : Int32)), .val (.ref b17), .val (.int v0), .val (.int v1), .val (.int v2), .val (.int v3), .val (.ref b20), .val (.int x1), .unset] [(.ref b20), (.ref b17)])) rfl (by rw [hml]; rfl) (Steps.refl _) (argsL := [(.ref b20)]) (rest := []) (lenOf pd___Z_I rfl) rfl (by show 2 * 0 + _ ≤ _; exact Nat.le_of_eq rfl) (hb hby at_207) (fun _ _ => ⟨rfl, e27, (by decide : 4 + 0 ≤ _), (by decide : 38 + 0 ≤ _)⟩)
    dsimp only [Pt.U, Pt.locs, Pt.cells, Pt.slots] at X28 l28 y28 z28 st28 hQ28
    subst l28 y28 z28
    obtain ⟨rfl, N28q, e28⟩ := hQ28
    have N28 := Fr.app N27 N28q
    replace pre : Pth p e below S0 T28 (mkF m 210 #[.val (.int p0), .val (.int p1), .val (.int (2 : Int32)), .val (.ref b17), .val (.int v0), .val (.int v1), .val (.int v2), .val (.int v3), .val (.ref b20), .val (.int x1), .unset] [(.int (own_ixf (own_bf v0 v1 v2 v3) 2))]) := fun t k => pre t (st28.trans k)
    replace pre : Pth p e below S0 T28 (mkF m 227 #[.val (.int p0), .val (.int p1), .val (.int (2 : Int32)), .val (.ref b17), .val (.int v0), .val (.int v1), .val (.int v2), .val (.int v3), .val (.ref b20), .val (.int x1), .val (.int (own_ixf (own_bf v0 v1 v2 v3) 2))] [(.ref b17), (.int (own_ixf (own_bf v0 v1 v2 v3) 2))]) := fun t k => pre t (by
      show Steps p.tables e below (T28.setTop (mkF m 210 #[.val (.int p0), .val (.int p1), .val (.int (2 : Int32)), .val (.ref b17), .val (.int v0), .val (.int v1), .val (.int v2), .val (.int v3), .val (.ref b20), .val (.int x1), .unset] [(.int (own_ixf (own_bf v0 v1 v2 v3) 2))])) t
      refine XS.istore X28.here hx rfl (hb hby at_210) rfl (l' := #[.val (.int p0), .val (.int p1), .val (.int (2 : Int32)), .val (.ref b17), .val (.int v0), .val (.int v1), .val (.int v2), .val (.int v3), .val (.ref b20), .val (.int x1), .val (.int (own_ixf (own_bf v0 v1 v2 v3) 2))]) rfl ?_
      show Steps p.tables e below (T28.setTop (mkF m 212 #[.val (.int p0), .val (.int p1), .val (.int (2 : Int32)), .val (.ref b17), .val (.int v0), .val (.int v1), .val (.int v2), .val (.int v3), .val (.ref b20), .val (.int x1), .val (.int (own_ixf (own_bf v0 v1 v2 v3) 2))] [])) t
      refine XS.iload X28.here hx rfl (hb hby at_212) rfl ?_
      show Steps p.tables e below (T28.setTop (mkF m 214 #[.val (.int p0), .val (.int p1), .val (.int (2 : Int32)), .val (.ref b17), .val (.int v0), .val (.int v1), .val (.int v2), .val (.int v3), .val (.ref b20), .val (.int x1), .val (.int (own_ixf (own_bf v0 v1 v2 v3) 2))] [(.int (own_ixf (own_bf v0 v1 v2 v3) 2))])) t
      refine XS.iload X28.here hx rfl (hb hby at_214) rfl ?_
      show Steps p.tables e below (T28.setTop (mkF m 216 #[.val (.int p0), .val (.int p1), .val (.int (2 : Int32)), .val (.ref b17), .val (.int v0), .val (.int v1), .val (.int v2), .val (.int v3), .val (.ref b20), .val (.int x1), .val (.int (own_ixf (own_bf v0 v1 v2 v3) 2))] [(.int x1), (.int (own_ixf (own_bf v0 v1 v2 v3) 2))])) t
      refine XS.icmpNo X28.here hx rfl (hb hby at_216) rfl (XT.ii_ne_f (by subst hx0 hx1; rcases h_v0 with rfl | rfl <;> rcases h_v1 with rfl | rfl <;> rcases h_v2 with rfl | rfl <;> rcases h_v3 with rfl | rfl <;> decide)) ?_
      show Steps p.tables e below (T28.setTop (mkF m 219 #[.val (.int p0), .val (.int p1), .val (.int (2 : Int32)), .val (.ref b17), .val (.int v0), .val (.int v1), .val (.int v2), .val (.int v3), .val (.ref b20), .val (.int x1), .val (.int (own_ixf (own_bf v0 v1 v2 v3) 2))] [])) t
      refine XS.iload X28.here hx rfl (hb hby at_219) rfl ?_
      show Steps p.tables e below (T28.setTop (mkF m 221 #[.val (.int p0), .val (.int p1), .val (.int (2 : Int32)), .val (.ref b17), .val (.int v0), .val (.int v1), .val (.int v2), .val (.int v3), .val (.ref b20), .val (.int x1), .val (.int (own_ixf (own_bf v0 v1 v2 v3) 2))] [(.int (own_ixf (own_bf v0 v1 v2 v3) 2))])) t
      refine XS.ifNo X28.here hx rfl (hb hby at_221) rfl (XT.i0_lt_f (by rcases h_v0 with rfl | rfl <;> rcases h_v1 with rfl | rfl <;> rcases h_v2 with rfl | rfl <;> rcases h_v3 with rfl | rfl <;> decide)) ?_
      show Steps p.tables e below (T28.setTop (mkF m 224 #[.val (.int p0), .val (.int p1), .val (.int (2 : Int32)), .val (.ref b17), .val (.int v0), .val (.int v1), .val (.int v2), .val (.int v3), .val (.ref b20), .val (.int x1), .val (.int (own_ixf (own_bf v0 v1 v2 v3) 2))] [])) t
      refine XS.iload X28.here hx rfl (hb hby at_224) rfl ?_
      show Steps p.tables e below (T28.setTop (mkF m 226 #[.val (.int p0), .val (.int p1), .val (.int (2 : Int32)), .val (.ref b17), .val (.int v0), .val (.int v1), .val (.int v2), .val (.int v3), .val (.ref b20), .val (.int x1), .val (.int (own_ixf (own_bf v0 v1 v2 v3) 2))] [(.int (own_ixf (own_bf v0 v1 v2 v3) 2))])) t
      refine XS.aloadN X28.here hx rfl (hb hby at_226) rfl rfl ?_
      show Steps p.tables e below (T28.setTop (mkF m 227 #[.val (.int p0), .val (.int p1), .val (.int (2 : Int32)), .val (.ref b17), .val (.int v0), .val (.int v1), .val (.int v2), .val (.int v3), .val (.ref b20), .val (.int x1), .val (.int (own_ixf (own_bf v0 v1 v2 v3) 2))] [(.ref b17), (.int (own_ixf (own_bf v0 v1 v2 v3) 2))])) t
      exact k)
    obtain ⟨cq29, kq29, q29a, q29b, q29c⟩ := isOf hZ e28 hP1.1
    obtain ⟨_, _, ⟨T29, L29, k29, n29⟩, -, X29, ⟨Lc29, hQ29, l29, y29, z29⟩, st29⟩ := X28.virtualBack hx (y := (⟨"com/example/parfactor/parfactor/model/PotentialTable", "size", "()I"⟩ : MethodName)) (z := (⟨"com/example/parfactor/parfactor/model/PotentialTable", "size", "()I"⟩ : MethodName)) hown (mvT hZ (hw _ (List.mem_of_getElem? (i := 31) rfl))) (mvT hZ (hw _ (List.mem_of_getElem? (i := 32) rfl))) (notFace_of_selects (args := #[]) (mvT hZ (hw _ (List.mem_of_getElem? (i := 34) rfl)))) (mvT hZ (hw _ (List.mem_of_getElem? (i := 34) rfl))) (mvT hZ (hw _ (List.mem_of_getElem? (i := 33) rfl))) (by decide) (backOf (W := 1) (rm_sz l Z a0 hw [] b17 (2 : Int32) pr 4 _ n0 hP1) hZ (hw _ (List.mem_of_getElem? (i := 35) rfl)) (hw _ (List.mem_of_getElem? (i := 3) rfl)) (by decide) (by decide)) q29a q29c (g := (mkF m 227 #[.val (.int p0), .val (.int p1), .val (.int (2 : Int32)), .val (.ref b17), .val (.int v0), .val (.int v1), .val (.int v2), .val (.int v3), .val (.ref b20), .val (.int x1), .val (.int (own_ixf (own_bf v0 v1 v2 v3) 2))] [(.ref b17), (.int (own_ixf (own_bf v0 v1 v2 v3) 2))])) rfl (by rw [hml]; rfl) (Steps.refl _) (argsL := []) (rest := [(.int (own_ixf (own_bf v0 v1 v2 v3) 2))]) (lenOf pd___I rfl) rfl (by show 2 * 0 + _ ≤ _; exact Nat.le_of_eq rfl) (hb hby at_227) (fun _ _ => ⟨rfl, e28, (by decide : 4 + 0 ≤ _), (by decide : 38 + 0 ≤ _)⟩)
    dsimp only [Pt.U, Pt.locs, Pt.cells, Pt.slots] at X29 l29 y29 z29 st29 hQ29
    subst l29 y29 z29
    obtain ⟨rfl, N29q, e29⟩ := hQ29
    have N29 := Fr.app N28 N29q
    replace pre : Pth p e below S0 T29 (mkF m 230 #[.val (.int p0), .val (.int p1), .val (.int (2 : Int32)), .val (.ref b17), .val (.int v0), .val (.int v1), .val (.int v2), .val (.int v3), .val (.ref b20), .val (.int x1), .val (.int (own_ixf (own_bf v0 v1 v2 v3) 2))] [(.int (4 : Nat).toInt32), (.int (own_ixf (own_bf v0 v1 v2 v3) 2))]) := fun t k => pre t (st29.trans k)
    replace pre : Pth p e below S0 T29 (mkF m 238 #[.val (.int p0), .val (.int p1), .val (.int (2 : Int32)), .val (.ref b17), .val (.int v0), .val (.int v1), .val (.int v2), .val (.int v3), .val (.ref b20), .val (.int x1), .val (.int (own_ixf (own_bf v0 v1 v2 v3) 2))] [(.int (1 : Int32))]) := fun t k => pre t (by
      show Steps p.tables e below (T29.setTop (mkF m 230 #[.val (.int p0), .val (.int p1), .val (.int (2 : Int32)), .val (.ref b17), .val (.int v0), .val (.int v1), .val (.int v2), .val (.int v3), .val (.ref b20), .val (.int x1), .val (.int (own_ixf (own_bf v0 v1 v2 v3) 2))] [(.int (4 : Nat).toInt32), (.int (own_ixf (own_bf v0 v1 v2 v3) 2))])) t
      refine XS.icmpNo X29.here hx rfl (hb hby at_230) rfl (XT.ii_ge_f (by rcases h_v0 with rfl | rfl <;> rcases h_v1 with rfl | rfl <;> rcases h_v2 with rfl | rfl <;> rcases h_v3 with rfl | rfl <;> decide)) ?_
      show Steps p.tables e below (T29.setTop (mkF m 233 #[.val (.int p0), .val (.int p1), .val (.int (2 : Int32)), .val (.ref b17), .val (.int v0), .val (.int v1), .val (.int v2), .val (.int v3), .val (.ref b20), .val (.int x1), .val (.int (own_ixf (own_bf v0 v1 v2 v3) 2))] [])) t
      refine XS.iconst X29.here hx rfl (hb hby at_233) ?_
      show Steps p.tables e below (T29.setTop (mkF m 234 #[.val (.int p0), .val (.int p1), .val (.int (2 : Int32)), .val (.ref b17), .val (.int v0), .val (.int v1), .val (.int v2), .val (.int v3), .val (.ref b20), .val (.int x1), .val (.int (own_ixf (own_bf v0 v1 v2 v3) 2))] [(.int (1 : Int32))])) t
      refine XS.goto X29.here hx rfl (pc0 := 234) (pc' := 238) rfl (hb hby at_234) (by decide) (by decide) ?_
      show Steps p.tables e below (T29.setTop (mkF m 238 #[.val (.int p0), .val (.int p1), .val (.int (2 : Int32)), .val (.ref b17), .val (.int v0), .val (.int v1), .val (.int v2), .val (.int v3), .val (.ref b20), .val (.int x1), .val (.int (own_ixf (own_bf v0 v1 v2 v3) 2))] [(.int (1 : Int32))])) t
      exact k)
    obtain ⟨fs, hr, hrun, hended, hW, hsame⟩ := X29.leave (v := some (.int (1 : Int32))) (fun h => by rw [Bd.returns] at h; cases h)
    subst hS0
    refine ⟨_, _, pre _ ?_, hrun, hended, _, _, rfl, ?_, ⟨_, rfl⟩, hW, hsame.mono (by decide) (by decide)⟩
    · exact retN X29 hx (t := .boolean) Bd.returns (by simp) (hb hby at_238) hr
    · show Q_law Z p0 p1 h0 n0 _ T29.heap _
      rw [e29]
      exact ⟨rfl, N29⟩
  · replace pre : Pth p e below S0 T20 (mkF m 88 #[.val (.int p0), .val (.int p1), .val (.int (3 : Int32)), .val (.ref b17), .val (.int v0), .val (.int v1), .val (.int v2), .val (.int v3), .val (.ref b20), .unset, .unset] [(.int v0), (.int (0 : Int32)), (.ref b20)]) := fun t k => pre t (by
      show Steps p.tables e below (T20.setTop (mkF m 79 #[.val (.int p0), .val (.int p1), .val (.int (3 : Int32)), .val (.ref b17), .val (.int v0), .val (.int v1), .val (.int v2), .val (.int v3), .val (.ref b20), .unset, .unset] [])) t
      refine XS.iloadN X20.here hx rfl (hb hby at_79) rfl ?_
      show Steps p.tables e below (T20.setTop (mkF m 80 #[.val (.int p0), .val (.int p1), .val (.int (3 : Int32)), .val (.ref b17), .val (.int v0), .val (.int v1), .val (.int v2), .val (.int v3), .val (.ref b20), .unset, .unset] [(.int (3 : Int32))])) t
      refine XS.ifNo X20.here hx rfl (hb hby at_80) rfl (XT.i0_le_f (by decide)) ?_
      show Steps p.tables e below (T20.setTop (mkF m 83 #[.val (.int p0), .val (.int p1), .val (.int (3 : Int32)), .val (.ref b17), .val (.int v0), .val (.int v1), .val (.int v2), .val (.int v3), .val (.ref b20), .unset, .unset] [])) t
      refine XS.aload X20.here hx rfl (hb hby at_83) rfl rfl ?_
      show Steps p.tables e below (T20.setTop (mkF m 85 #[.val (.int p0), .val (.int p1), .val (.int (3 : Int32)), .val (.ref b17), .val (.int v0), .val (.int v1), .val (.int v2), .val (.int v3), .val (.ref b20), .unset, .unset] [(.ref b20)])) t
      refine XS.iconst X20.here hx rfl (hb hby at_85) ?_
      show Steps p.tables e below (T20.setTop (mkF m 86 #[.val (.int p0), .val (.int p1), .val (.int (3 : Int32)), .val (.ref b17), .val (.int v0), .val (.int v1), .val (.int v2), .val (.int v3), .val (.ref b20), .unset, .unset] [(.int (0 : Int32)), (.ref b20)])) t
      refine XS.iload X20.here hx rfl (hb hby at_86) rfl ?_
      show Steps p.tables e below (T20.setTop (mkF m 88 #[.val (.int p0), .val (.int p1), .val (.int (3 : Int32)), .val (.ref b17), .val (.int v0), .val (.int v1), .val (.int v2), .val (.int v3), .val (.ref b20), .unset, .unset] [(.int v0), (.int (0 : Int32)), (.ref b20)])) t
      exact k)
    obtain ⟨cl30, Ar30, Sz30, -⟩ := id F20
    obtain ⟨T30, h30, X30, e30, W30, st30⟩ := stZ X20 hx hZ e20 Ar30 (j := (0 : Int32)) (by rw [Sz30]; exact (own_in (i := 0) (by decide) (by decide))) (g := (mkF m 88 #[.val (.int p0), .val (.int p1), .val (.int (3 : Int32)), .val (.ref b17), .val (.int v0), .val (.int v1), .val (.int v2), .val (.int v3), .val (.ref b20), .unset, .unset] [(.int v0), (.int (0 : Int32)), (.ref b20)])) rfl rfl (hb hby at_88)
    have F30 := OFun.set F20 W30
    have N30 := Fr.snoc X30 N19 gz
    replace pre : Pth p e below S0 T30 (mkF m 89 #[.val (.int p0), .val (.int p1), .val (.int (3 : Int32)), .val (.ref b17), .val (.int v0), .val (.int v1), .val (.int v2), .val (.int v3), .val (.ref b20), .unset, .unset] []) := fun t k => pre t (st30 _ k)
    have hP0 := hO1.other W30 nz1 nz2
    replace pre : Pth p e below S0 T30 (mkF m 99 #[.val (.int p0), .val (.int p1), .val (.int (3 : Int32)), .val (.ref b17), .val (.int v0), .val (.int v1), .val (.int v2), .val (.int v3), .val (.ref b20), .unset, .unset] [(.int v1), (.int (1 : Int32)), (.ref b20)]) := fun t k => pre t (by
      show Steps p.tables e below (T30.setTop (mkF m 89 #[.val (.int p0), .val (.int p1), .val (.int (3 : Int32)), .val (.ref b17), .val (.int v0), .val (.int v1), .val (.int v2), .val (.int v3), .val (.ref b20), .unset, .unset] [])) t
      refine XS.iloadN X30.here hx rfl (hb hby at_89) rfl ?_
      show Steps p.tables e below (T30.setTop (mkF m 90 #[.val (.int p0), .val (.int p1), .val (.int (3 : Int32)), .val (.ref b17), .val (.int v0), .val (.int v1), .val (.int v2), .val (.int v3), .val (.ref b20), .unset, .unset] [(.int (3 : Int32))])) t
      refine XS.iconst X30.here hx rfl (hb hby at_90) ?_
      show Steps p.tables e below (T30.setTop (mkF m 91 #[.val (.int p0), .val (.int p1), .val (.int (3 : Int32)), .val (.ref b17), .val (.int v0), .val (.int v1), .val (.int v2), .val (.int v3), .val (.ref b20), .unset, .unset] [(.int (1 : Int32)), (.int (3 : Int32))])) t
      refine XS.icmpNo X30.here hx rfl (hb hby at_91) rfl (XT.ii_le_f (by decide)) ?_
      show Steps p.tables e below (T30.setTop (mkF m 94 #[.val (.int p0), .val (.int p1), .val (.int (3 : Int32)), .val (.ref b17), .val (.int v0), .val (.int v1), .val (.int v2), .val (.int v3), .val (.ref b20), .unset, .unset] [])) t
      refine XS.aload X30.here hx rfl (hb hby at_94) rfl rfl ?_
      show Steps p.tables e below (T30.setTop (mkF m 96 #[.val (.int p0), .val (.int p1), .val (.int (3 : Int32)), .val (.ref b17), .val (.int v0), .val (.int v1), .val (.int v2), .val (.int v3), .val (.ref b20), .unset, .unset] [(.ref b20)])) t
      refine XS.iconst X30.here hx rfl (hb hby at_96) ?_
      show Steps p.tables e below (T30.setTop (mkF m 97 #[.val (.int p0), .val (.int p1), .val (.int (3 : Int32)), .val (.ref b17), .val (.int v0), .val (.int v1), .val (.int v2), .val (.int v3), .val (.ref b20), .unset, .unset] [(.int (1 : Int32)), (.ref b20)])) t
      refine XS.iload X30.here hx rfl (hb hby at_97) rfl ?_
      show Steps p.tables e below (T30.setTop (mkF m 99 #[.val (.int p0), .val (.int p1), .val (.int (3 : Int32)), .val (.ref b17), .val (.int v0), .val (.int v1), .val (.int v2), .val (.int v3), .val (.ref b20), .unset, .unset] [(.int v1), (.int (1 : Int32)), (.ref b20)])) t
      exact k)
    obtain ⟨cl31, Ar31, Sz31, -⟩ := id F30
    obtain ⟨T31, h31, X31, e31, W31, st31⟩ := stZ X30 hx hZ e30 Ar31 (j := (1 : Int32)) (by rw [Sz31]; exact (own_in (i := 1) (by decide) (by decide))) (g := (mkF m 99 #[.val (.int p0), .val (.int p1), .val (.int (3 : Int32)), .val (.ref b17), .val (.int v0), .val (.int v1), .val (.int v2), .val (.int v3), .val (.ref b20), .unset, .unset] [(.int v1), (.int (1 : Int32)), (.ref b20)])) rfl rfl (hb hby at_99)
    have F31 := OFun.set F30 W31
    have N31 := Fr.snoc X31 N30 gz
    replace pre : Pth p e below S0 T31 (mkF m 100 #[.val (.int p0), .val (.int p1), .val (.int (3 : Int32)), .val (.ref b17), .val (.int v0), .val (.int v1), .val (.int v2), .val (.int v3), .val (.ref b20), .unset, .unset] []) := fun t k => pre t (st31 _ k)
    have hP1 := hP0.other W31 nz1 nz2
    replace pre : Pth p e below S0 T31 (mkF m 110 #[.val (.int p0), .val (.int p1), .val (.int (3 : Int32)), .val (.ref b17), .val (.int v0), .val (.int v1), .val (.int v2), .val (.int v3), .val (.ref b20), .unset, .unset] [(.int v2), (.int (2 : Int32)), (.ref b20)]) := fun t k => pre t (by
      show Steps p.tables e below (T31.setTop (mkF m 100 #[.val (.int p0), .val (.int p1), .val (.int (3 : Int32)), .val (.ref b17), .val (.int v0), .val (.int v1), .val (.int v2), .val (.int v3), .val (.ref b20), .unset, .unset] [])) t
      refine XS.iloadN X31.here hx rfl (hb hby at_100) rfl ?_
      show Steps p.tables e below (T31.setTop (mkF m 101 #[.val (.int p0), .val (.int p1), .val (.int (3 : Int32)), .val (.ref b17), .val (.int v0), .val (.int v1), .val (.int v2), .val (.int v3), .val (.ref b20), .unset, .unset] [(.int (3 : Int32))])) t
      refine XS.iconst X31.here hx rfl (hb hby at_101) ?_
      show Steps p.tables e below (T31.setTop (mkF m 102 #[.val (.int p0), .val (.int p1), .val (.int (3 : Int32)), .val (.ref b17), .val (.int v0), .val (.int v1), .val (.int v2), .val (.int v3), .val (.ref b20), .unset, .unset] [(.int (2 : Int32)), (.int (3 : Int32))])) t
      refine XS.icmpNo X31.here hx rfl (hb hby at_102) rfl (XT.ii_le_f (by decide)) ?_
      show Steps p.tables e below (T31.setTop (mkF m 105 #[.val (.int p0), .val (.int p1), .val (.int (3 : Int32)), .val (.ref b17), .val (.int v0), .val (.int v1), .val (.int v2), .val (.int v3), .val (.ref b20), .unset, .unset] [])) t
      refine XS.aload X31.here hx rfl (hb hby at_105) rfl rfl ?_
      show Steps p.tables e below (T31.setTop (mkF m 107 #[.val (.int p0), .val (.int p1), .val (.int (3 : Int32)), .val (.ref b17), .val (.int v0), .val (.int v1), .val (.int v2), .val (.int v3), .val (.ref b20), .unset, .unset] [(.ref b20)])) t
      refine XS.iconst X31.here hx rfl (hb hby at_107) ?_
      show Steps p.tables e below (T31.setTop (mkF m 108 #[.val (.int p0), .val (.int p1), .val (.int (3 : Int32)), .val (.ref b17), .val (.int v0), .val (.int v1), .val (.int v2), .val (.int v3), .val (.ref b20), .unset, .unset] [(.int (2 : Int32)), (.ref b20)])) t
      refine XS.iload X31.here hx rfl (hb hby at_108) rfl ?_
      show Steps p.tables e below (T31.setTop (mkF m 110 #[.val (.int p0), .val (.int p1), .val (.int (3 : Int32)), .val (.ref b17), .val (.int v0), .val (.int v1), .val (.int v2), .val (.int v3), .val (.ref b20), .unset, .unset] [(.int v2), (.int (2 : Int32)), (.ref b20)])) t
      exact k)
    obtain ⟨cl32, Ar32, Sz32, -⟩ := id F31
    obtain ⟨T32, h32, X32, e32, W32, st32⟩ := stZ X31 hx hZ e31 Ar32 (j := (2 : Int32)) (by rw [Sz32]; exact (own_in (i := 2) (by decide) (by decide))) (g := (mkF m 110 #[.val (.int p0), .val (.int p1), .val (.int (3 : Int32)), .val (.ref b17), .val (.int v0), .val (.int v1), .val (.int v2), .val (.int v3), .val (.ref b20), .unset, .unset] [(.int v2), (.int (2 : Int32)), (.ref b20)])) rfl rfl (hb hby at_110)
    have F32 := OFun.set F31 W32
    have N32 := Fr.snoc X32 N31 gz
    replace pre : Pth p e below S0 T32 (mkF m 111 #[.val (.int p0), .val (.int p1), .val (.int (3 : Int32)), .val (.ref b17), .val (.int v0), .val (.int v1), .val (.int v2), .val (.int v3), .val (.ref b20), .unset, .unset] []) := fun t k => pre t (st32 _ k)
    have hP2 := hP1.other W32 nz1 nz2
    have Fz : OFun Z h32 b20 .boolean 3 (fun j => .int (own_bf v0 v1 v2 v3 j)) := F32.congr (fun j hj => by
      rcases h_v0 with rfl | rfl <;> rcases h_v1 with rfl | rfl <;> rcases h_v2 with rfl | rfl <;> rcases h_v3 with rfl | rfl <;> (match j, hj with
        | 0, _ => rfl
        | 1, _ => rfl
        | 2, _ => rfl
        ))
    replace pre : Pth p e below S0 T32 (mkF m 131 #[.val (.int p0), .val (.int p1), .val (.int (3 : Int32)), .val (.ref b17), .val (.int v0), .val (.int v1), .val (.int v2), .val (.int v3), .val (.ref b20), .val (.int (0 : Int32)), .unset] [(.int v0)]) := fun t k => pre t (by
      show Steps p.tables e below (T32.setTop (mkF m 111 #[.val (.int p0), .val (.int p1), .val (.int (3 : Int32)), .val (.ref b17), .val (.int v0), .val (.int v1), .val (.int v2), .val (.int v3), .val (.ref b20), .unset, .unset] [])) t
      refine XS.iloadN X32.here hx rfl (hb hby at_111) rfl ?_
      show Steps p.tables e below (T32.setTop (mkF m 112 #[.val (.int p0), .val (.int p1), .val (.int (3 : Int32)), .val (.ref b17), .val (.int v0), .val (.int v1), .val (.int v2), .val (.int v3), .val (.ref b20), .unset, .unset] [(.int (3 : Int32))])) t
      refine XS.iconst X32.here hx rfl (hb hby at_112) ?_
      show Steps p.tables e below (T32.setTop (mkF m 113 #[.val (.int p0), .val (.int p1), .val (.int (3 : Int32)), .val (.ref b17), .val (.int v0), .val (.int v1), .val (.int v2), .val (.int v3), .val (.ref b20), .unset, .unset] [(.int (3 : Int32)), (.int (3 : Int32))])) t
      refine XS.icmpYes X32.here hx rfl (pc0 := 113) (pc' := 122) rfl (hb hby at_113) rfl (XT.ii_le_t (by decide)) (by decide) (by decide) ?_
      show Steps p.tables e below (T32.setTop (mkF m 122 #[.val (.int p0), .val (.int p1), .val (.int (3 : Int32)), .val (.ref b17), .val (.int v0), .val (.int v1), .val (.int v2), .val (.int v3), .val (.ref b20), .unset, .unset] [])) t
      refine XS.iconst X32.here hx rfl (hb hby at_122) ?_
      show Steps p.tables e below (T32.setTop (mkF m 123 #[.val (.int p0), .val (.int p1), .val (.int (3 : Int32)), .val (.ref b17), .val (.int v0), .val (.int v1), .val (.int v2), .val (.int v3), .val (.ref b20), .unset, .unset] [(.int (0 : Int32))])) t
      refine XS.istore X32.here hx rfl (hb hby at_123) rfl (l' := #[.val (.int p0), .val (.int p1), .val (.int (3 : Int32)), .val (.ref b17), .val (.int v0), .val (.int v1), .val (.int v2), .val (.int v3), .val (.ref b20), .val (.int (0 : Int32)), .unset]) rfl ?_
      show Steps p.tables e below (T32.setTop (mkF m 125 #[.val (.int p0), .val (.int p1), .val (.int (3 : Int32)), .val (.ref b17), .val (.int v0), .val (.int v1), .val (.int v2), .val (.int v3), .val (.ref b20), .val (.int (0 : Int32)), .unset] [])) t
      refine XS.iloadN X32.here hx rfl (hb hby at_125) rfl ?_
      show Steps p.tables e below (T32.setTop (mkF m 126 #[.val (.int p0), .val (.int p1), .val (.int (3 : Int32)), .val (.ref b17), .val (.int v0), .val (.int v1), .val (.int v2), .val (.int v3), .val (.ref b20), .val (.int (0 : Int32)), .unset] [(.int (3 : Int32))])) t
      refine XS.ifNo X32.here hx rfl (hb hby at_126) rfl (XT.i0_le_f (by decide)) ?_
      show Steps p.tables e below (T32.setTop (mkF m 129 #[.val (.int p0), .val (.int p1), .val (.int (3 : Int32)), .val (.ref b17), .val (.int v0), .val (.int v1), .val (.int v2), .val (.int v3), .val (.ref b20), .val (.int (0 : Int32)), .unset] [])) t
      refine XS.iload X32.here hx rfl (hb hby at_129) rfl ?_
      show Steps p.tables e below (T32.setTop (mkF m 131 #[.val (.int p0), .val (.int p1), .val (.int (3 : Int32)), .val (.ref b17), .val (.int v0), .val (.int v1), .val (.int v2), .val (.int v3), .val (.ref b20), .val (.int (0 : Int32)), .unset] [(.int v0)])) t
      exact k)
    obtain ⟨x0, hx0, pre⟩ : ∃ x0 : Int32, x0 = (if v0 = 0 then (0 : Int32) + ((1 : Int32) <<< (((3 : Int32) - (1 : Int32)) &&& 31)) else (0 : Int32)) ∧ Pth p e below S0 T32 (mkF m 144 #[.val (.int p0), .val (.int p1), .val (.int (3 : Int32)), .val (.ref b17), .val (.int v0), .val (.int v1), .val (.int v2), .val (.int v3), .val (.ref b20), .val (.int x0), .unset] []) := by
      by_cases z1 : v0 = (0 : Int32)
      · replace pre : Pth p e below S0 T32 (mkF m 144 #[.val (.int p0), .val (.int p1), .val (.int (3 : Int32)), .val (.ref b17), .val (.int v0), .val (.int v1), .val (.int v2), .val (.int v3), .val (.ref b20), .val (.int ((0 : Int32) + ((1 : Int32) <<< (((3 : Int32) - (1 : Int32)) &&& 31)))), .unset] []) := fun t k => pre t (by
          show Steps p.tables e below (T32.setTop (mkF m 131 #[.val (.int p0), .val (.int p1), .val (.int (3 : Int32)), .val (.ref b17), .val (.int v0), .val (.int v1), .val (.int v2), .val (.int v3), .val (.ref b20), .val (.int (0 : Int32)), .unset] [(.int v0)])) t
          refine XS.ifNo X32.here hx rfl (hb hby at_131) rfl (XT.i0_ne_f z1) ?_
          show Steps p.tables e below (T32.setTop (mkF m 134 #[.val (.int p0), .val (.int p1), .val (.int (3 : Int32)), .val (.ref b17), .val (.int v0), .val (.int v1), .val (.int v2), .val (.int v3), .val (.ref b20), .val (.int (0 : Int32)), .unset] [])) t
          refine XS.iload X32.here hx rfl (hb hby at_134) rfl ?_
          show Steps p.tables e below (T32.setTop (mkF m 136 #[.val (.int p0), .val (.int p1), .val (.int (3 : Int32)), .val (.ref b17), .val (.int v0), .val (.int v1), .val (.int v2), .val (.int v3), .val (.ref b20), .val (.int (0 : Int32)), .unset] [(.int (0 : Int32))])) t
          refine XS.iconst X32.here hx rfl (hb hby at_136) ?_
          show Steps p.tables e below (T32.setTop (mkF m 137 #[.val (.int p0), .val (.int p1), .val (.int (3 : Int32)), .val (.ref b17), .val (.int v0), .val (.int v1), .val (.int v2), .val (.int v3), .val (.ref b20), .val (.int (0 : Int32)), .unset] [(.int (1 : Int32)), (.int (0 : Int32))])) t
          refine XS.iloadN X32.here hx rfl (hb hby at_137) rfl ?_
          show Steps p.tables e below (T32.setTop (mkF m 138 #[.val (.int p0), .val (.int p1), .val (.int (3 : Int32)), .val (.ref b17), .val (.int v0), .val (.int v1), .val (.int v2), .val (.int v3), .val (.ref b20), .val (.int (0 : Int32)), .unset] [(.int (3 : Int32)), (.int (1 : Int32)), (.int (0 : Int32))])) t
          refine XS.iconst X32.here hx rfl (hb hby at_138) ?_
          show Steps p.tables e below (T32.setTop (mkF m 139 #[.val (.int p0), .val (.int p1), .val (.int (3 : Int32)), .val (.ref b17), .val (.int v0), .val (.int v1), .val (.int v2), .val (.int v3), .val (.ref b20), .val (.int (0 : Int32)), .unset] [(.int (1 : Int32)), (.int (3 : Int32)), (.int (1 : Int32)), (.int (0 : Int32))])) t
          refine XS.isub X32.here hx rfl (hb hby at_139) rfl ?_
          show Steps p.tables e below (T32.setTop (mkF m 140 #[.val (.int p0), .val (.int p1), .val (.int (3 : Int32)), .val (.ref b17), .val (.int v0), .val (.int v1), .val (.int v2), .val (.int v3), .val (.ref b20), .val (.int (0 : Int32)), .unset] [(.int ((3 : Int32) - (1 : Int32))), (.int (1 : Int32)), (.int (0 : Int32))])) t
          refine XS.ishl X32.here hx rfl (hb hby at_140) rfl ?_
          show Steps p.tables e below (T32.setTop (mkF m 141 #[.val (.int p0), .val (.int p1), .val (.int (3 : Int32)), .val (.ref b17), .val (.int v0), .val (.int v1), .val (.int v2), .val (.int v3), .val (.ref b20), .val (.int (0 : Int32)), .unset] [(.int ((1 : Int32) <<< (((3 : Int32) - (1 : Int32)) &&& 31))), (.int (0 : Int32))])) t
          refine XS.iadd X32.here hx rfl (hb hby at_141) rfl ?_
          show Steps p.tables e below (T32.setTop (mkF m 142 #[.val (.int p0), .val (.int p1), .val (.int (3 : Int32)), .val (.ref b17), .val (.int v0), .val (.int v1), .val (.int v2), .val (.int v3), .val (.ref b20), .val (.int (0 : Int32)), .unset] [(.int ((0 : Int32) + ((1 : Int32) <<< (((3 : Int32) - (1 : Int32)) &&& 31))))])) t
          refine XS.istore X32.here hx rfl (hb hby at_142) rfl (l' := #[.val (.int p0), .val (.int p1), .val (.int (3 : Int32)), .val (.ref b17), .val (.int v0), .val (.int v1), .val (.int v2), .val (.int v3), .val (.ref b20), .val (.int ((0 : Int32) + ((1 : Int32) <<< (((3 : Int32) - (1 : Int32)) &&& 31)))), .unset]) rfl ?_
          show Steps p.tables e below (T32.setTop (mkF m 144 #[.val (.int p0), .val (.int p1), .val (.int (3 : Int32)), .val (.ref b17), .val (.int v0), .val (.int v1), .val (.int v2), .val (.int v3), .val (.ref b20), .val (.int ((0 : Int32) + ((1 : Int32) <<< (((3 : Int32) - (1 : Int32)) &&& 31)))), .unset] [])) t
          exact k)
        exact ⟨_, (if_pos z1).symm, pre⟩
      · replace pre : Pth p e below S0 T32 (mkF m 144 #[.val (.int p0), .val (.int p1), .val (.int (3 : Int32)), .val (.ref b17), .val (.int v0), .val (.int v1), .val (.int v2), .val (.int v3), .val (.ref b20), .val (.int (0 : Int32)), .unset] []) := fun t k => pre t (by
          show Steps p.tables e below (T32.setTop (mkF m 131 #[.val (.int p0), .val (.int p1), .val (.int (3 : Int32)), .val (.ref b17), .val (.int v0), .val (.int v1), .val (.int v2), .val (.int v3), .val (.ref b20), .val (.int (0 : Int32)), .unset] [(.int v0)])) t
          refine XS.ifYes X32.here hx rfl (pc0 := 131) (pc' := 144) rfl (hb hby at_131) rfl (XT.i0_ne_t z1) (by decide) (by decide) ?_
          show Steps p.tables e below (T32.setTop (mkF m 144 #[.val (.int p0), .val (.int p1), .val (.int (3 : Int32)), .val (.ref b17), .val (.int v0), .val (.int v1), .val (.int v2), .val (.int v3), .val (.ref b20), .val (.int (0 : Int32)), .unset] [])) t
          exact k)
        exact ⟨_, (if_neg z1).symm, pre⟩
    replace pre : Pth p e below S0 T32 (mkF m 151 #[.val (.int p0), .val (.int p1), .val (.int (3 : Int32)), .val (.ref b17), .val (.int v0), .val (.int v1), .val (.int v2), .val (.int v3), .val (.ref b20), .val (.int x0), .unset] [(.int v1)]) := fun t k => pre t (by
      show Steps p.tables e below (T32.setTop (mkF m 144 #[.val (.int p0), .val (.int p1), .val (.int (3 : Int32)), .val (.ref b17), .val (.int v0), .val (.int v1), .val (.int v2), .val (.int v3), .val (.ref b20), .val (.int x0), .unset] [])) t
      refine XS.iloadN X32.here hx rfl (hb hby at_144) rfl ?_
      show Steps p.tables e below (T32.setTop (mkF m 145 #[.val (.int p0), .val (.int p1), .val (.int (3 : Int32)), .val (.ref b17), .val (.int v0), .val (.int v1), .val (.int v2), .val (.int v3), .val (.ref b20), .val (.int x0), .unset] [(.int (3 : Int32))])) t
      refine XS.iconst X32.here hx rfl (hb hby at_145) ?_
      show Steps p.tables e below (T32.setTop (mkF m 146 #[.val (.int p0), .val (.int p1), .val (.int (3 : Int32)), .val (.ref b17), .val (.int v0), .val (.int v1), .val (.int v2), .val (.int v3), .val (.ref b20), .val (.int x0), .unset] [(.int (1 : Int32)), (.int (3 : Int32))])) t
      refine XS.icmpNo X32.here hx rfl (hb hby at_146) rfl (XT.ii_le_f (by decide)) ?_
      show Steps p.tables e below (T32.setTop (mkF m 149 #[.val (.int p0), .val (.int p1), .val (.int (3 : Int32)), .val (.ref b17), .val (.int v0), .val (.int v1), .val (.int v2), .val (.int v3), .val (.ref b20), .val (.int x0), .unset] [])) t
      refine XS.iload X32.here hx rfl (hb hby at_149) rfl ?_
      show Steps p.tables e below (T32.setTop (mkF m 151 #[.val (.int p0), .val (.int p1), .val (.int (3 : Int32)), .val (.ref b17), .val (.int v0), .val (.int v1), .val (.int v2), .val (.int v3), .val (.ref b20), .val (.int x0), .unset] [(.int v1)])) t
      exact k)
    obtain ⟨x1, hx1, pre⟩ : ∃ x1 : Int32, x1 = (if v1 = 0 then x0 + ((1 : Int32) <<< (((3 : Int32) - (2 : Int32)) &&& 31)) else x0) ∧ Pth p e below S0 T32 (mkF m 164 #[.val (.int p0), .val (.int p1), .val (.int (3 : Int32)), .val (.ref b17), .val (.int v0), .val (.int v1), .val (.int v2), .val (.int v3), .val (.ref b20), .val (.int x1), .unset] []) := by
      by_cases z1 : v1 = (0 : Int32)
      · replace pre : Pth p e below S0 T32 (mkF m 164 #[.val (.int p0), .val (.int p1), .val (.int (3 : Int32)), .val (.ref b17), .val (.int v0), .val (.int v1), .val (.int v2), .val (.int v3), .val (.ref b20), .val (.int (x0 + ((1 : Int32) <<< (((3 : Int32) - (2 : Int32)) &&& 31)))), .unset] []) := fun t k => pre t (by
          show Steps p.tables e below (T32.setTop (mkF m 151 #[.val (.int p0), .val (.int p1), .val (.int (3 : Int32)), .val (.ref b17), .val (.int v0), .val (.int v1), .val (.int v2), .val (.int v3), .val (.ref b20), .val (.int x0), .unset] [(.int v1)])) t
          refine XS.ifNo X32.here hx rfl (hb hby at_151) rfl (XT.i0_ne_f z1) ?_
          show Steps p.tables e below (T32.setTop (mkF m 154 #[.val (.int p0), .val (.int p1), .val (.int (3 : Int32)), .val (.ref b17), .val (.int v0), .val (.int v1), .val (.int v2), .val (.int v3), .val (.ref b20), .val (.int x0), .unset] [])) t
          refine XS.iload X32.here hx rfl (hb hby at_154) rfl ?_
          show Steps p.tables e below (T32.setTop (mkF m 156 #[.val (.int p0), .val (.int p1), .val (.int (3 : Int32)), .val (.ref b17), .val (.int v0), .val (.int v1), .val (.int v2), .val (.int v3), .val (.ref b20), .val (.int x0), .unset] [(.int x0)])) t
          refine XS.iconst X32.here hx rfl (hb hby at_156) ?_
          show Steps p.tables e below (T32.setTop (mkF m 157 #[.val (.int p0), .val (.int p1), .val (.int (3 : Int32)), .val (.ref b17), .val (.int v0), .val (.int v1), .val (.int v2), .val (.int v3), .val (.ref b20), .val (.int x0), .unset] [(.int (1 : Int32)), (.int x0)])) t
          refine XS.iloadN X32.here hx rfl (hb hby at_157) rfl ?_
          show Steps p.tables e below (T32.setTop (mkF m 158 #[.val (.int p0), .val (.int p1), .val (.int (3 : Int32)), .val (.ref b17), .val (.int v0), .val (.int v1), .val (.int v2), .val (.int v3), .val (.ref b20), .val (.int x0), .unset] [(.int (3 : Int32)), (.int (1 : Int32)), (.int x0)])) t
          refine XS.iconst X32.here hx rfl (hb hby at_158) ?_
          show Steps p.tables e below (T32.setTop (mkF m 159 #[.val (.int p0), .val (.int p1), .val (.int (3 : Int32)), .val (.ref b17), .val (.int v0), .val (.int v1), .val (.int v2), .val (.int v3), .val (.ref b20), .val (.int x0), .unset] [(.int (2 : Int32)), (.int (3 : Int32)), (.int (1 : Int32)), (.int x0)])) t
          refine XS.isub X32.here hx rfl (hb hby at_159) rfl ?_
          show Steps p.tables e below (T32.setTop (mkF m 160 #[.val (.int p0), .val (.int p1), .val (.int (3 : Int32)), .val (.ref b17), .val (.int v0), .val (.int v1), .val (.int v2), .val (.int v3), .val (.ref b20), .val (.int x0), .unset] [(.int ((3 : Int32) - (2 : Int32))), (.int (1 : Int32)), (.int x0)])) t
          refine XS.ishl X32.here hx rfl (hb hby at_160) rfl ?_
          show Steps p.tables e below (T32.setTop (mkF m 161 #[.val (.int p0), .val (.int p1), .val (.int (3 : Int32)), .val (.ref b17), .val (.int v0), .val (.int v1), .val (.int v2), .val (.int v3), .val (.ref b20), .val (.int x0), .unset] [(.int ((1 : Int32) <<< (((3 : Int32) - (2 : Int32)) &&& 31))), (.int x0)])) t
          refine XS.iadd X32.here hx rfl (hb hby at_161) rfl ?_
          show Steps p.tables e below (T32.setTop (mkF m 162 #[.val (.int p0), .val (.int p1), .val (.int (3 : Int32)), .val (.ref b17), .val (.int v0), .val (.int v1), .val (.int v2), .val (.int v3), .val (.ref b20), .val (.int x0), .unset] [(.int (x0 + ((1 : Int32) <<< (((3 : Int32) - (2 : Int32)) &&& 31))))])) t
          refine XS.istore X32.here hx rfl (hb hby at_162) rfl (l' := #[.val (.int p0), .val (.int p1), .val (.int (3 : Int32)), .val (.ref b17), .val (.int v0), .val (.int v1), .val (.int v2), .val (.int v3), .val (.ref b20), .val (.int (x0 + ((1 : Int32) <<< (((3 : Int32) - (2 : Int32)) &&& 31)))), .unset]) rfl ?_
          show Steps p.tables e below (T32.setTop (mkF m 164 #[.val (.int p0), .val (.int p1), .val (.int (3 : Int32)), .val (.ref b17), .val (.int v0), .val (.int v1), .val (.int v2), .val (.int v3), .val (.ref b20), .val (.int (x0 + ((1 : Int32) <<< (((3 : Int32) - (2 : Int32)) &&& 31)))), .unset] [])) t
          exact k)
        exact ⟨_, (if_pos z1).symm, pre⟩
      · replace pre : Pth p e below S0 T32 (mkF m 164 #[.val (.int p0), .val (.int p1), .val (.int (3 : Int32)), .val (.ref b17), .val (.int v0), .val (.int v1), .val (.int v2), .val (.int v3), .val (.ref b20), .val (.int x0), .unset] []) := fun t k => pre t (by
          show Steps p.tables e below (T32.setTop (mkF m 151 #[.val (.int p0), .val (.int p1), .val (.int (3 : Int32)), .val (.ref b17), .val (.int v0), .val (.int v1), .val (.int v2), .val (.int v3), .val (.ref b20), .val (.int x0), .unset] [(.int v1)])) t
          refine XS.ifYes X32.here hx rfl (pc0 := 151) (pc' := 164) rfl (hb hby at_151) rfl (XT.i0_ne_t z1) (by decide) (by decide) ?_
          show Steps p.tables e below (T32.setTop (mkF m 164 #[.val (.int p0), .val (.int p1), .val (.int (3 : Int32)), .val (.ref b17), .val (.int v0), .val (.int v1), .val (.int v2), .val (.int v3), .val (.ref b20), .val (.int x0), .unset] [])) t
          exact k)
        exact ⟨_, (if_neg z1).symm, pre⟩
    replace pre : Pth p e below S0 T32 (mkF m 171 #[.val (.int p0), .val (.int p1), .val (.int (3 : Int32)), .val (.ref b17), .val (.int v0), .val (.int v1), .val (.int v2), .val (.int v3), .val (.ref b20), .val (.int x1), .unset] [(.int v2)]) := fun t k => pre t (by
      show Steps p.tables e below (T32.setTop (mkF m 164 #[.val (.int p0), .val (.int p1), .val (.int (3 : Int32)), .val (.ref b17), .val (.int v0), .val (.int v1), .val (.int v2), .val (.int v3), .val (.ref b20), .val (.int x1), .unset] [])) t
      refine XS.iloadN X32.here hx rfl (hb hby at_164) rfl ?_
      show Steps p.tables e below (T32.setTop (mkF m 165 #[.val (.int p0), .val (.int p1), .val (.int (3 : Int32)), .val (.ref b17), .val (.int v0), .val (.int v1), .val (.int v2), .val (.int v3), .val (.ref b20), .val (.int x1), .unset] [(.int (3 : Int32))])) t
      refine XS.iconst X32.here hx rfl (hb hby at_165) ?_
      show Steps p.tables e below (T32.setTop (mkF m 166 #[.val (.int p0), .val (.int p1), .val (.int (3 : Int32)), .val (.ref b17), .val (.int v0), .val (.int v1), .val (.int v2), .val (.int v3), .val (.ref b20), .val (.int x1), .unset] [(.int (2 : Int32)), (.int (3 : Int32))])) t
      refine XS.icmpNo X32.here hx rfl (hb hby at_166) rfl (XT.ii_le_f (by decide)) ?_
      show Steps p.tables e below (T32.setTop (mkF m 169 #[.val (.int p0), .val (.int p1), .val (.int (3 : Int32)), .val (.ref b17), .val (.int v0), .val (.int v1), .val (.int v2), .val (.int v3), .val (.ref b20), .val (.int x1), .unset] [])) t
      refine XS.iload X32.here hx rfl (hb hby at_169) rfl ?_
      show Steps p.tables e below (T32.setTop (mkF m 171 #[.val (.int p0), .val (.int p1), .val (.int (3 : Int32)), .val (.ref b17), .val (.int v0), .val (.int v1), .val (.int v2), .val (.int v3), .val (.ref b20), .val (.int x1), .unset] [(.int v2)])) t
      exact k)
    obtain ⟨x2, hx2, pre⟩ : ∃ x2 : Int32, x2 = (if v2 = 0 then x1 + ((1 : Int32) <<< (((3 : Int32) - (3 : Int32)) &&& 31)) else x1) ∧ Pth p e below S0 T32 (mkF m 184 #[.val (.int p0), .val (.int p1), .val (.int (3 : Int32)), .val (.ref b17), .val (.int v0), .val (.int v1), .val (.int v2), .val (.int v3), .val (.ref b20), .val (.int x2), .unset] []) := by
      by_cases z1 : v2 = (0 : Int32)
      · replace pre : Pth p e below S0 T32 (mkF m 184 #[.val (.int p0), .val (.int p1), .val (.int (3 : Int32)), .val (.ref b17), .val (.int v0), .val (.int v1), .val (.int v2), .val (.int v3), .val (.ref b20), .val (.int (x1 + ((1 : Int32) <<< (((3 : Int32) - (3 : Int32)) &&& 31)))), .unset] []) := fun t k => pre t (by
          show Steps p.tables e below (T32.setTop (mkF m 171 #[.val (.int p0), .val (.int p1), .val (.int (3 : Int32)), .val (.ref b17), .val (.int v0), .val (.int v1), .val (.int v2), .val (.int v3), .val (.ref b20), .val (.int x1), .unset] [(.int v2)])) t
          refine XS.ifNo X32.here hx rfl (hb hby at_171) rfl (XT.i0_ne_f z1) ?_
          show Steps p.tables e below (T32.setTop (mkF m 174 #[.val (.int p0), .val (.int p1), .val (.int (3 : Int32)), .val (.ref b17), .val (.int v0), .val (.int v1), .val (.int v2), .val (.int v3), .val (.ref b20), .val (.int x1), .unset] [])) t
          refine XS.iload X32.here hx rfl (hb hby at_174) rfl ?_
          show Steps p.tables e below (T32.setTop (mkF m 176 #[.val (.int p0), .val (.int p1), .val (.int (3 : Int32)), .val (.ref b17), .val (.int v0), .val (.int v1), .val (.int v2), .val (.int v3), .val (.ref b20), .val (.int x1), .unset] [(.int x1)])) t
          refine XS.iconst X32.here hx rfl (hb hby at_176) ?_
          show Steps p.tables e below (T32.setTop (mkF m 177 #[.val (.int p0), .val (.int p1), .val (.int (3 : Int32)), .val (.ref b17), .val (.int v0), .val (.int v1), .val (.int v2), .val (.int v3), .val (.ref b20), .val (.int x1), .unset] [(.int (1 : Int32)), (.int x1)])) t
          refine XS.iloadN X32.here hx rfl (hb hby at_177) rfl ?_
          show Steps p.tables e below (T32.setTop (mkF m 178 #[.val (.int p0), .val (.int p1), .val (.int (3 : Int32)), .val (.ref b17), .val (.int v0), .val (.int v1), .val (.int v2), .val (.int v3), .val (.ref b20), .val (.int x1), .unset] [(.int (3 : Int32)), (.int (1 : Int32)), (.int x1)])) t
          refine XS.iconst X32.here hx rfl (hb hby at_178) ?_
          show Steps p.tables e below (T32.setTop (mkF m 179 #[.val (.int p0), .val (.int p1), .val (.int (3 : Int32)), .val (.ref b17), .val (.int v0), .val (.int v1), .val (.int v2), .val (.int v3), .val (.ref b20), .val (.int x1), .unset] [(.int (3 : Int32)), (.int (3 : Int32)), (.int (1 : Int32)), (.int x1)])) t
          refine XS.isub X32.here hx rfl (hb hby at_179) rfl ?_
          show Steps p.tables e below (T32.setTop (mkF m 180 #[.val (.int p0), .val (.int p1), .val (.int (3 : Int32)), .val (.ref b17), .val (.int v0), .val (.int v1), .val (.int v2), .val (.int v3), .val (.ref b20), .val (.int x1), .unset] [(.int ((3 : Int32) - (3 : Int32))), (.int (1 : Int32)), (.int x1)])) t
          refine XS.ishl X32.here hx rfl (hb hby at_180) rfl ?_
          show Steps p.tables e below (T32.setTop (mkF m 181 #[.val (.int p0), .val (.int p1), .val (.int (3 : Int32)), .val (.ref b17), .val (.int v0), .val (.int v1), .val (.int v2), .val (.int v3), .val (.ref b20), .val (.int x1), .unset] [(.int ((1 : Int32) <<< (((3 : Int32) - (3 : Int32)) &&& 31))), (.int x1)])) t
          refine XS.iadd X32.here hx rfl (hb hby at_181) rfl ?_
          show Steps p.tables e below (T32.setTop (mkF m 182 #[.val (.int p0), .val (.int p1), .val (.int (3 : Int32)), .val (.ref b17), .val (.int v0), .val (.int v1), .val (.int v2), .val (.int v3), .val (.ref b20), .val (.int x1), .unset] [(.int (x1 + ((1 : Int32) <<< (((3 : Int32) - (3 : Int32)) &&& 31))))])) t
          refine XS.istore X32.here hx rfl (hb hby at_182) rfl (l' := #[.val (.int p0), .val (.int p1), .val (.int (3 : Int32)), .val (.ref b17), .val (.int v0), .val (.int v1), .val (.int v2), .val (.int v3), .val (.ref b20), .val (.int (x1 + ((1 : Int32) <<< (((3 : Int32) - (3 : Int32)) &&& 31)))), .unset]) rfl ?_
          show Steps p.tables e below (T32.setTop (mkF m 184 #[.val (.int p0), .val (.int p1), .val (.int (3 : Int32)), .val (.ref b17), .val (.int v0), .val (.int v1), .val (.int v2), .val (.int v3), .val (.ref b20), .val (.int (x1 + ((1 : Int32) <<< (((3 : Int32) - (3 : Int32)) &&& 31)))), .unset] [])) t
          exact k)
        exact ⟨_, (if_pos z1).symm, pre⟩
      · replace pre : Pth p e below S0 T32 (mkF m 184 #[.val (.int p0), .val (.int p1), .val (.int (3 : Int32)), .val (.ref b17), .val (.int v0), .val (.int v1), .val (.int v2), .val (.int v3), .val (.ref b20), .val (.int x1), .unset] []) := fun t k => pre t (by
          show Steps p.tables e below (T32.setTop (mkF m 171 #[.val (.int p0), .val (.int p1), .val (.int (3 : Int32)), .val (.ref b17), .val (.int v0), .val (.int v1), .val (.int v2), .val (.int v3), .val (.ref b20), .val (.int x1), .unset] [(.int v2)])) t
          refine XS.ifYes X32.here hx rfl (pc0 := 171) (pc' := 184) rfl (hb hby at_171) rfl (XT.i0_ne_t z1) (by decide) (by decide) ?_
          show Steps p.tables e below (T32.setTop (mkF m 184 #[.val (.int p0), .val (.int p1), .val (.int (3 : Int32)), .val (.ref b17), .val (.int v0), .val (.int v1), .val (.int v2), .val (.int v3), .val (.ref b20), .val (.int x1), .unset] [])) t
          exact k)
        exact ⟨_, (if_neg z1).symm, pre⟩
    replace pre : Pth p e below S0 T32 (mkF m 207 #[.val (.int p0), .val (.int p1), .val (.int (3 : Int32)), .val (.ref b17), .val (.int v0), .val (.int v1), .val (.int v2), .val (.int v3), .val (.ref b20), .val (.int x2), .unset] [(.ref b20), (.ref b17)]) := fun t k => pre t (by
      show Steps p.tables e below (T32.setTop (mkF m 184 #[.val (.int p0), .val (.int p1), .val (.int (3 : Int32)), .val (.ref b17), .val (.int v0), .val (.int v1), .val (.int v2), .val (.int v3), .val (.ref b20), .val (.int x2), .unset] [])) t
      refine XS.iloadN X32.here hx rfl (hb hby at_184) rfl ?_
      show Steps p.tables e below (T32.setTop (mkF m 185 #[.val (.int p0), .val (.int p1), .val (.int (3 : Int32)), .val (.ref b17), .val (.int v0), .val (.int v1), .val (.int v2), .val (.int v3), .val (.ref b20), .val (.int x2), .unset] [(.int (3 : Int32))])) t
      refine XS.iconst X32.here hx rfl (hb hby at_185) ?_
      show Steps p.tables e below (T32.setTop (mkF m 186 #[.val (.int p0), .val (.int p1), .val (.int (3 : Int32)), .val (.ref b17), .val (.int v0), .val (.int v1), .val (.int v2), .val (.int v3), .val (.ref b20), .val (.int x2), .unset] [(.int (3 : Int32)), (.int (3 : Int32))])) t
      refine XS.icmpYes X32.here hx rfl (pc0 := 186) (pc' := 204) rfl (hb hby at_186) rfl (XT.ii_le_t (by decide)) (by decide) (by decide) ?_
      show Steps p.tables e below (T32.setTop (mkF m 204 #[.val (.int p0), .val (.int p1), .val (.int (3 : Int32)), .val (.ref b17), .val (.int v0), .val (.int v1), .val (.int v2), .val (.int v3), .val (.ref b20), .val (.int x2), .unset] [])) t
      refine XS.aloadN X32.here hx rfl (hb hby at_204) rfl rfl ?_
      show Steps p.tables e below (T32.setTop (mkF m 205 #[.val (.int p0), .val (.int p1), .val (.int (3 : Int32)), .val (.ref b17), .val (.int v0), .val (.int v1), .val (.int v2), .val (.int v3), .val (.ref b20), .val (.int x2), .unset] [(.ref b17)])) t
      refine XS.aload X32.here hx rfl (hb hby at_205) rfl rfl ?_
      show Steps p.tables e below (T32.setTop (mkF m 207 #[.val (.int p0), .val (.int p1), .val (.int (3 : Int32)), .val (.ref b17), .val (.int v0), .val (.int v1), .val (.int v2), .val (.int v3), .val (.ref b20), .val (.int x2), .unset] [(.ref b20), (.ref b17)])) t
      exact k)
    obtain ⟨cq33, kq33, q33a, q33b, q33c⟩ := isOf hZ e32 hP2.1
    obtain ⟨_, _, ⟨T33, L33, k33, n33⟩, -, X33, ⟨Lc33, hQ33, l33, y33, z33⟩, st33⟩ := X32.virtualBack hx (y := (⟨"com/example/parfactor/parfactor/model/PotentialTable", "indexOf", "([Z)I"⟩ : MethodName)) (z := (⟨"com/example/parfactor/parfactor/model/PotentialTable", "indexOf", "([Z)I"⟩ : MethodName)) hown (mvT hZ (hw _ (List.mem_of_getElem? (i := 26) rfl))) (mvT hZ (hw _ (List.mem_of_getElem? (i := 27) rfl))) (notFace_of_selects (args := #[]) (mvT hZ (hw _ (List.mem_of_getElem? (i := 29) rfl)))) (mvT hZ (hw _ (List.mem_of_getElem? (i := 29) rfl))) (mvT hZ (hw _ (List.mem_of_getElem? (i := 28) rfl))) (by decide) (backOf (W := 0) (rm_ix l Z a0 hw [] b17 b20 (3 : Int32) pr 8 3 (own_bf v0 v1 v2 v3) _ n0 hP2 Fz ⟨rfl, by decide⟩) hZ (hw _ (List.mem_of_getElem? (i := 30) rfl)) (hw _ (List.mem_of_getElem? (i := 3) rfl)) (by decide) (by decide)) q33a q33c (g := (mkF m 207 #[.val (.int p0), .val (.int p1), .val (.int (3 : Int32)), .val (.ref b17), .val (.int v0), .val (.int v1), .val (.int v2), .val (.int v3), .val (.ref b20), .val (.int x2), .unset] [(.ref b20), (.ref b17)])) rfl (by rw [hml]; rfl) (Steps.refl _) (argsL := [(.ref b20)]) (rest := []) (lenOf pd___Z_I rfl) rfl (by show 2 * 0 + _ ≤ _; exact Nat.le_of_eq rfl) (hb hby at_207) (fun _ _ => ⟨rfl, e32, (by decide : 4 + 0 ≤ _), (by decide : 38 + 0 ≤ _)⟩)
    dsimp only [Pt.U, Pt.locs, Pt.cells, Pt.slots] at X33 l33 y33 z33 st33 hQ33
    subst l33 y33 z33
    obtain ⟨rfl, N33q, e33⟩ := hQ33
    have N33 := Fr.app N32 N33q
    replace pre : Pth p e below S0 T33 (mkF m 210 #[.val (.int p0), .val (.int p1), .val (.int (3 : Int32)), .val (.ref b17), .val (.int v0), .val (.int v1), .val (.int v2), .val (.int v3), .val (.ref b20), .val (.int x2), .unset] [(.int (own_ixf (own_bf v0 v1 v2 v3) 3))]) := fun t k => pre t (st33.trans k)
    replace pre : Pth p e below S0 T33 (mkF m 227 #[.val (.int p0), .val (.int p1), .val (.int (3 : Int32)), .val (.ref b17), .val (.int v0), .val (.int v1), .val (.int v2), .val (.int v3), .val (.ref b20), .val (.int x2), .val (.int (own_ixf (own_bf v0 v1 v2 v3) 3))] [(.ref b17), (.int (own_ixf (own_bf v0 v1 v2 v3) 3))]) := fun t k => pre t (by
      show Steps p.tables e below (T33.setTop (mkF m 210 #[.val (.int p0), .val (.int p1), .val (.int (3 : Int32)), .val (.ref b17), .val (.int v0), .val (.int v1), .val (.int v2), .val (.int v3), .val (.ref b20), .val (.int x2), .unset] [(.int (own_ixf (own_bf v0 v1 v2 v3) 3))])) t
      refine XS.istore X33.here hx rfl (hb hby at_210) rfl (l' := #[.val (.int p0), .val (.int p1), .val (.int (3 : Int32)), .val (.ref b17), .val (.int v0), .val (.int v1), .val (.int v2), .val (.int v3), .val (.ref b20), .val (.int x2), .val (.int (own_ixf (own_bf v0 v1 v2 v3) 3))]) rfl ?_
      show Steps p.tables e below (T33.setTop (mkF m 212 #[.val (.int p0), .val (.int p1), .val (.int (3 : Int32)), .val (.ref b17), .val (.int v0), .val (.int v1), .val (.int v2), .val (.int v3), .val (.ref b20), .val (.int x2), .val (.int (own_ixf (own_bf v0 v1 v2 v3) 3))] [])) t
      refine XS.iload X33.here hx rfl (hb hby at_212) rfl ?_
      show Steps p.tables e below (T33.setTop (mkF m 214 #[.val (.int p0), .val (.int p1), .val (.int (3 : Int32)), .val (.ref b17), .val (.int v0), .val (.int v1), .val (.int v2), .val (.int v3), .val (.ref b20), .val (.int x2), .val (.int (own_ixf (own_bf v0 v1 v2 v3) 3))] [(.int (own_ixf (own_bf v0 v1 v2 v3) 3))])) t
      refine XS.iload X33.here hx rfl (hb hby at_214) rfl ?_
      show Steps p.tables e below (T33.setTop (mkF m 216 #[.val (.int p0), .val (.int p1), .val (.int (3 : Int32)), .val (.ref b17), .val (.int v0), .val (.int v1), .val (.int v2), .val (.int v3), .val (.ref b20), .val (.int x2), .val (.int (own_ixf (own_bf v0 v1 v2 v3) 3))] [(.int x2), (.int (own_ixf (own_bf v0 v1 v2 v3) 3))])) t
      refine XS.icmpNo X33.here hx rfl (hb hby at_216) rfl (XT.ii_ne_f (by subst hx0 hx1 hx2; rcases h_v0 with rfl | rfl <;> rcases h_v1 with rfl | rfl <;> rcases h_v2 with rfl | rfl <;> rcases h_v3 with rfl | rfl <;> decide)) ?_
      show Steps p.tables e below (T33.setTop (mkF m 219 #[.val (.int p0), .val (.int p1), .val (.int (3 : Int32)), .val (.ref b17), .val (.int v0), .val (.int v1), .val (.int v2), .val (.int v3), .val (.ref b20), .val (.int x2), .val (.int (own_ixf (own_bf v0 v1 v2 v3) 3))] [])) t
      refine XS.iload X33.here hx rfl (hb hby at_219) rfl ?_
      show Steps p.tables e below (T33.setTop (mkF m 221 #[.val (.int p0), .val (.int p1), .val (.int (3 : Int32)), .val (.ref b17), .val (.int v0), .val (.int v1), .val (.int v2), .val (.int v3), .val (.ref b20), .val (.int x2), .val (.int (own_ixf (own_bf v0 v1 v2 v3) 3))] [(.int (own_ixf (own_bf v0 v1 v2 v3) 3))])) t
      refine XS.ifNo X33.here hx rfl (hb hby at_221) rfl (XT.i0_lt_f (by rcases h_v0 with rfl | rfl <;> rcases h_v1 with rfl | rfl <;> rcases h_v2 with rfl | rfl <;> rcases h_v3 with rfl | rfl <;> decide)) ?_
      show Steps p.tables e below (T33.setTop (mkF m 224 #[.val (.int p0), .val (.int p1), .val (.int (3 : Int32)), .val (.ref b17), .val (.int v0), .val (.int v1), .val (.int v2), .val (.int v3), .val (.ref b20), .val (.int x2), .val (.int (own_ixf (own_bf v0 v1 v2 v3) 3))] [])) t
      refine XS.iload X33.here hx rfl (hb hby at_224) rfl ?_
      show Steps p.tables e below (T33.setTop (mkF m 226 #[.val (.int p0), .val (.int p1), .val (.int (3 : Int32)), .val (.ref b17), .val (.int v0), .val (.int v1), .val (.int v2), .val (.int v3), .val (.ref b20), .val (.int x2), .val (.int (own_ixf (own_bf v0 v1 v2 v3) 3))] [(.int (own_ixf (own_bf v0 v1 v2 v3) 3))])) t
      refine XS.aloadN X33.here hx rfl (hb hby at_226) rfl rfl ?_
      show Steps p.tables e below (T33.setTop (mkF m 227 #[.val (.int p0), .val (.int p1), .val (.int (3 : Int32)), .val (.ref b17), .val (.int v0), .val (.int v1), .val (.int v2), .val (.int v3), .val (.ref b20), .val (.int x2), .val (.int (own_ixf (own_bf v0 v1 v2 v3) 3))] [(.ref b17), (.int (own_ixf (own_bf v0 v1 v2 v3) 3))])) t
      exact k)
    obtain ⟨cq34, kq34, q34a, q34b, q34c⟩ := isOf hZ e33 hP2.1
    obtain ⟨_, _, ⟨T34, L34, k34, n34⟩, -, X34, ⟨Lc34, hQ34, l34, y34, z34⟩, st34⟩ := X33.virtualBack hx (y := (⟨"com/example/parfactor/parfactor/model/PotentialTable", "size", "()I"⟩ : MethodName)) (z := (⟨"com/example/parfactor/parfactor/model/PotentialTable", "size", "()I"⟩ : MethodName)) hown (mvT hZ (hw _ (List.mem_of_getElem? (i := 31) rfl))) (mvT hZ (hw _ (List.mem_of_getElem? (i := 32) rfl))) (notFace_of_selects (args := #[]) (mvT hZ (hw _ (List.mem_of_getElem? (i := 34) rfl)))) (mvT hZ (hw _ (List.mem_of_getElem? (i := 34) rfl))) (mvT hZ (hw _ (List.mem_of_getElem? (i := 33) rfl))) (by decide) (backOf (W := 1) (rm_sz l Z a0 hw [] b17 (3 : Int32) pr 8 _ n0 hP2) hZ (hw _ (List.mem_of_getElem? (i := 35) rfl)) (hw _ (List.mem_of_getElem? (i := 3) rfl)) (by decide) (by decide)) q34a q34c (g := (mkF m 227 #[.val (.int p0), .val (.int p1), .val (.int (3 : Int32)), .val (.ref b17), .val (.int v0), .val (.int v1), .val (.int v2), .val (.int v3), .val (.ref b20), .val (.int x2), .val (.int (own_ixf (own_bf v0 v1 v2 v3) 3))] [(.ref b17), (.int (own_ixf (own_bf v0 v1 v2 v3) 3))])) rfl (by rw [hml]; rfl) (Steps.refl _) (argsL := []) (rest := [(.int (own_ixf (own_bf v0 v1 v2 v3) 3))]) (lenOf pd___I rfl) rfl (by show 2 * 0 + _ ≤ _; exact Nat.le_of_eq rfl) (hb hby at_227) (fun _ _ => ⟨rfl, e33, (by decide : 4 + 0 ≤ _), (by decide : 38 + 0 ≤ _)⟩)
    dsimp only [Pt.U, Pt.locs, Pt.cells, Pt.slots] at X34 l34 y34 z34 st34 hQ34
    subst l34 y34 z34
    obtain ⟨rfl, N34q, e34⟩ := hQ34
    have N34 := Fr.app N33 N34q
    replace pre : Pth p e below S0 T34 (mkF m 230 #[.val (.int p0), .val (.int p1), .val (.int (3 : Int32)), .val (.ref b17), .val (.int v0), .val (.int v1), .val (.int v2), .val (.int v3), .val (.ref b20), .val (.int x2), .val (.int (own_ixf (own_bf v0 v1 v2 v3) 3))] [(.int (8 : Nat).toInt32), (.int (own_ixf (own_bf v0 v1 v2 v3) 3))]) := fun t k => pre t (st34.trans k)
    replace pre : Pth p e below S0 T34 (mkF m 238 #[.val (.int p0), .val (.int p1), .val (.int (3 : Int32)), .val (.ref b17), .val (.int v0), .val (.int v1), .val (.int v2), .val (.int v3), .val (.ref b20), .val (.int x2), .val (.int (own_ixf (own_bf v0 v1 v2 v3) 3))] [(.int (1 : Int32))]) := fun t k => pre t (by
      show Steps p.tables e below (T34.setTop (mkF m 230 #[.val (.int p0), .val (.int p1), .val (.int (3 : Int32)), .val (.ref b17), .val (.int v0), .val (.int v1), .val (.int v2), .val (.int v3), .val (.ref b20), .val (.int x2), .val (.int (own_ixf (own_bf v0 v1 v2 v3) 3))] [(.int (8 : Nat).toInt32), (.int (own_ixf (own_bf v0 v1 v2 v3) 3))])) t
      refine XS.icmpNo X34.here hx rfl (hb hby at_230) rfl (XT.ii_ge_f (by rcases h_v0 with rfl | rfl <;> rcases h_v1 with rfl | rfl <;> rcases h_v2 with rfl | rfl <;> rcases h_v3 with rfl | rfl <;> decide)) ?_
      show Steps p.tables e below (T34.setTop (mkF m 233 #[.val (.int p0), .val (.int p1), .val (.int (3 : Int32)), .val (.ref b17), .val (.int v0), .val (.int v1), .val (.int v2), .val (.int v3), .val (.ref b20), .val (.int x2), .val (.int (own_ixf (own_bf v0 v1 v2 v3) 3))] [])) t
      refine XS.iconst X34.here hx rfl (hb hby at_233) ?_
      show Steps p.tables e below (T34.setTop (mkF m 234 #[.val (.int p0), .val (.int p1), .val (.int (3 : Int32)), .val (.ref b17), .val (.int v0), .val (.int v1), .val (.int v2), .val (.int v3), .val (.ref b20), .val (.int x2), .val (.int (own_ixf (own_bf v0 v1 v2 v3) 3))] [(.int (1 : Int32))])) t
      refine XS.goto X34.here hx rfl (pc0 := 234) (pc' := 238) rfl (hb hby at_234) (by decide) (by decide) ?_
      show Steps p.tables e below (T34.setTop (mkF m 238 #[.val (.int p0), .val (.int p1), .val (.int (3 : Int32)), .val (.ref b17), .val (.int v0), .val (.int v1), .val (.int v2), .val (.int v3), .val (.ref b20), .val (.int x2), .val (.int (own_ixf (own_bf v0 v1 v2 v3) 3))] [(.int (1 : Int32))])) t
      exact k)
    obtain ⟨fs, hr, hrun, hended, hW, hsame⟩ := X34.leave (v := some (.int (1 : Int32))) (fun h => by rw [Bd.returns] at h; cases h)
    subst hS0
    refine ⟨_, _, pre _ ?_, hrun, hended, _, _, rfl, ?_, ⟨_, rfl⟩, hW, hsame.mono (by decide) (by decide)⟩
    · exact retN X34 hx (t := .boolean) Bd.returns (by simp) (hb hby at_238) hr
    · show Q_law Z p0 p1 h0 n0 _ T34.heap _
      rw [e34]
      exact ⟨rfl, N34⟩
  · replace pre : Pth p e below S0 T20 (mkF m 88 #[.val (.int p0), .val (.int p1), .val (.int (4 : Int32)), .val (.ref b17), .val (.int v0), .val (.int v1), .val (.int v2), .val (.int v3), .val (.ref b20), .unset, .unset] [(.int v0), (.int (0 : Int32)), (.ref b20)]) := fun t k => pre t (by
      show Steps p.tables e below (T20.setTop (mkF m 79 #[.val (.int p0), .val (.int p1), .val (.int (4 : Int32)), .val (.ref b17), .val (.int v0), .val (.int v1), .val (.int v2), .val (.int v3), .val (.ref b20), .unset, .unset] [])) t
      refine XS.iloadN X20.here hx rfl (hb hby at_79) rfl ?_
      show Steps p.tables e below (T20.setTop (mkF m 80 #[.val (.int p0), .val (.int p1), .val (.int (4 : Int32)), .val (.ref b17), .val (.int v0), .val (.int v1), .val (.int v2), .val (.int v3), .val (.ref b20), .unset, .unset] [(.int (4 : Int32))])) t
      refine XS.ifNo X20.here hx rfl (hb hby at_80) rfl (XT.i0_le_f (by decide)) ?_
      show Steps p.tables e below (T20.setTop (mkF m 83 #[.val (.int p0), .val (.int p1), .val (.int (4 : Int32)), .val (.ref b17), .val (.int v0), .val (.int v1), .val (.int v2), .val (.int v3), .val (.ref b20), .unset, .unset] [])) t
      refine XS.aload X20.here hx rfl (hb hby at_83) rfl rfl ?_
      show Steps p.tables e below (T20.setTop (mkF m 85 #[.val (.int p0), .val (.int p1), .val (.int (4 : Int32)), .val (.ref b17), .val (.int v0), .val (.int v1), .val (.int v2), .val (.int v3), .val (.ref b20), .unset, .unset] [(.ref b20)])) t
      refine XS.iconst X20.here hx rfl (hb hby at_85) ?_
      show Steps p.tables e below (T20.setTop (mkF m 86 #[.val (.int p0), .val (.int p1), .val (.int (4 : Int32)), .val (.ref b17), .val (.int v0), .val (.int v1), .val (.int v2), .val (.int v3), .val (.ref b20), .unset, .unset] [(.int (0 : Int32)), (.ref b20)])) t
      refine XS.iload X20.here hx rfl (hb hby at_86) rfl ?_
      show Steps p.tables e below (T20.setTop (mkF m 88 #[.val (.int p0), .val (.int p1), .val (.int (4 : Int32)), .val (.ref b17), .val (.int v0), .val (.int v1), .val (.int v2), .val (.int v3), .val (.ref b20), .unset, .unset] [(.int v0), (.int (0 : Int32)), (.ref b20)])) t
      exact k)
    obtain ⟨cl35, Ar35, Sz35, -⟩ := id F20
    obtain ⟨T35, h35, X35, e35, W35, st35⟩ := stZ X20 hx hZ e20 Ar35 (j := (0 : Int32)) (by rw [Sz35]; exact (own_in (i := 0) (by decide) (by decide))) (g := (mkF m 88 #[.val (.int p0), .val (.int p1), .val (.int (4 : Int32)), .val (.ref b17), .val (.int v0), .val (.int v1), .val (.int v2), .val (.int v3), .val (.ref b20), .unset, .unset] [(.int v0), (.int (0 : Int32)), (.ref b20)])) rfl rfl (hb hby at_88)
    have F35 := OFun.set F20 W35
    have N35 := Fr.snoc X35 N19 gz
    replace pre : Pth p e below S0 T35 (mkF m 89 #[.val (.int p0), .val (.int p1), .val (.int (4 : Int32)), .val (.ref b17), .val (.int v0), .val (.int v1), .val (.int v2), .val (.int v3), .val (.ref b20), .unset, .unset] []) := fun t k => pre t (st35 _ k)
    have hP0 := hO1.other W35 nz1 nz2
    replace pre : Pth p e below S0 T35 (mkF m 99 #[.val (.int p0), .val (.int p1), .val (.int (4 : Int32)), .val (.ref b17), .val (.int v0), .val (.int v1), .val (.int v2), .val (.int v3), .val (.ref b20), .unset, .unset] [(.int v1), (.int (1 : Int32)), (.ref b20)]) := fun t k => pre t (by
      show Steps p.tables e below (T35.setTop (mkF m 89 #[.val (.int p0), .val (.int p1), .val (.int (4 : Int32)), .val (.ref b17), .val (.int v0), .val (.int v1), .val (.int v2), .val (.int v3), .val (.ref b20), .unset, .unset] [])) t
      refine XS.iloadN X35.here hx rfl (hb hby at_89) rfl ?_
      show Steps p.tables e below (T35.setTop (mkF m 90 #[.val (.int p0), .val (.int p1), .val (.int (4 : Int32)), .val (.ref b17), .val (.int v0), .val (.int v1), .val (.int v2), .val (.int v3), .val (.ref b20), .unset, .unset] [(.int (4 : Int32))])) t
      refine XS.iconst X35.here hx rfl (hb hby at_90) ?_
      show Steps p.tables e below (T35.setTop (mkF m 91 #[.val (.int p0), .val (.int p1), .val (.int (4 : Int32)), .val (.ref b17), .val (.int v0), .val (.int v1), .val (.int v2), .val (.int v3), .val (.ref b20), .unset, .unset] [(.int (1 : Int32)), (.int (4 : Int32))])) t
      refine XS.icmpNo X35.here hx rfl (hb hby at_91) rfl (XT.ii_le_f (by decide)) ?_
      show Steps p.tables e below (T35.setTop (mkF m 94 #[.val (.int p0), .val (.int p1), .val (.int (4 : Int32)), .val (.ref b17), .val (.int v0), .val (.int v1), .val (.int v2), .val (.int v3), .val (.ref b20), .unset, .unset] [])) t
      refine XS.aload X35.here hx rfl (hb hby at_94) rfl rfl ?_
      show Steps p.tables e below (T35.setTop (mkF m 96 #[.val (.int p0), .val (.int p1), .val (.int (4 : Int32)), .val (.ref b17), .val (.int v0), .val (.int v1), .val (.int v2), .val (.int v3), .val (.ref b20), .unset, .unset] [(.ref b20)])) t
      refine XS.iconst X35.here hx rfl (hb hby at_96) ?_
      show Steps p.tables e below (T35.setTop (mkF m 97 #[.val (.int p0), .val (.int p1), .val (.int (4 : Int32)), .val (.ref b17), .val (.int v0), .val (.int v1), .val (.int v2), .val (.int v3), .val (.ref b20), .unset, .unset] [(.int (1 : Int32)), (.ref b20)])) t
      refine XS.iload X35.here hx rfl (hb hby at_97) rfl ?_
      show Steps p.tables e below (T35.setTop (mkF m 99 #[.val (.int p0), .val (.int p1), .val (.int (4 : Int32)), .val (.ref b17), .val (.int v0), .val (.int v1), .val (.int v2), .val (.int v3), .val (.ref b20), .unset, .unset] [(.int v1), (.int (1 : Int32)), (.ref b20)])) t
      exact k)
    obtain ⟨cl36, Ar36, Sz36, -⟩ := id F35
    obtain ⟨T36, h36, X36, e36, W36, st36⟩ := stZ X35 hx hZ e35 Ar36 (j := (1 : Int32)) (by rw [Sz36]; exact (own_in (i := 1) (by decide) (by decide))) (g := (mkF m 99 #[.val (.int p0), .val (.int p1), .val (.int (4 : Int32)), .val (.ref b17), .val (.int v0), .val (.int v1), .val (.int v2), .val (.int v3), .val (.ref b20), .unset, .unset] [(.int v1), (.int (1 : Int32)), (.ref b20)])) rfl rfl (hb hby at_99)
    have F36 := OFun.set F35 W36
    have N36 := Fr.snoc X36 N35 gz
    replace pre : Pth p e below S0 T36 (mkF m 100 #[.val (.int p0), .val (.int p1), .val (.int (4 : Int32)), .val (.ref b17), .val (.int v0), .val (.int v1), .val (.int v2), .val (.int v3), .val (.ref b20), .unset, .unset] []) := fun t k => pre t (st36 _ k)
    have hP1 := hP0.other W36 nz1 nz2
    replace pre : Pth p e below S0 T36 (mkF m 110 #[.val (.int p0), .val (.int p1), .val (.int (4 : Int32)), .val (.ref b17), .val (.int v0), .val (.int v1), .val (.int v2), .val (.int v3), .val (.ref b20), .unset, .unset] [(.int v2), (.int (2 : Int32)), (.ref b20)]) := fun t k => pre t (by
      show Steps p.tables e below (T36.setTop (mkF m 100 #[.val (.int p0), .val (.int p1), .val (.int (4 : Int32)), .val (.ref b17), .val (.int v0), .val (.int v1), .val (.int v2), .val (.int v3), .val (.ref b20), .unset, .unset] [])) t
      refine XS.iloadN X36.here hx rfl (hb hby at_100) rfl ?_
      show Steps p.tables e below (T36.setTop (mkF m 101 #[.val (.int p0), .val (.int p1), .val (.int (4 : Int32)), .val (.ref b17), .val (.int v0), .val (.int v1), .val (.int v2), .val (.int v3), .val (.ref b20), .unset, .unset] [(.int (4 : Int32))])) t
      refine XS.iconst X36.here hx rfl (hb hby at_101) ?_
      show Steps p.tables e below (T36.setTop (mkF m 102 #[.val (.int p0), .val (.int p1), .val (.int (4 : Int32)), .val (.ref b17), .val (.int v0), .val (.int v1), .val (.int v2), .val (.int v3), .val (.ref b20), .unset, .unset] [(.int (2 : Int32)), (.int (4 : Int32))])) t
      refine XS.icmpNo X36.here hx rfl (hb hby at_102) rfl (XT.ii_le_f (by decide)) ?_
      show Steps p.tables e below (T36.setTop (mkF m 105 #[.val (.int p0), .val (.int p1), .val (.int (4 : Int32)), .val (.ref b17), .val (.int v0), .val (.int v1), .val (.int v2), .val (.int v3), .val (.ref b20), .unset, .unset] [])) t
      refine XS.aload X36.here hx rfl (hb hby at_105) rfl rfl ?_
      show Steps p.tables e below (T36.setTop (mkF m 107 #[.val (.int p0), .val (.int p1), .val (.int (4 : Int32)), .val (.ref b17), .val (.int v0), .val (.int v1), .val (.int v2), .val (.int v3), .val (.ref b20), .unset, .unset] [(.ref b20)])) t
      refine XS.iconst X36.here hx rfl (hb hby at_107) ?_
      show Steps p.tables e below (T36.setTop (mkF m 108 #[.val (.int p0), .val (.int p1), .val (.int (4 : Int32)), .val (.ref b17), .val (.int v0), .val (.int v1), .val (.int v2), .val (.int v3), .val (.ref b20), .unset, .unset] [(.int (2 : Int32)), (.ref b20)])) t
      refine XS.iload X36.here hx rfl (hb hby at_108) rfl ?_
      show Steps p.tables e below (T36.setTop (mkF m 110 #[.val (.int p0), .val (.int p1), .val (.int (4 : Int32)), .val (.ref b17), .val (.int v0), .val (.int v1), .val (.int v2), .val (.int v3), .val (.ref b20), .unset, .unset] [(.int v2), (.int (2 : Int32)), (.ref b20)])) t
      exact k)
    obtain ⟨cl37, Ar37, Sz37, -⟩ := id F36
    obtain ⟨T37, h37, X37, e37, W37, st37⟩ := stZ X36 hx hZ e36 Ar37 (j := (2 : Int32)) (by rw [Sz37]; exact (own_in (i := 2) (by decide) (by decide))) (g := (mkF m 110 #[.val (.int p0), .val (.int p1), .val (.int (4 : Int32)), .val (.ref b17), .val (.int v0), .val (.int v1), .val (.int v2), .val (.int v3), .val (.ref b20), .unset, .unset] [(.int v2), (.int (2 : Int32)), (.ref b20)])) rfl rfl (hb hby at_110)
    have F37 := OFun.set F36 W37
    have N37 := Fr.snoc X37 N36 gz
    replace pre : Pth p e below S0 T37 (mkF m 111 #[.val (.int p0), .val (.int p1), .val (.int (4 : Int32)), .val (.ref b17), .val (.int v0), .val (.int v1), .val (.int v2), .val (.int v3), .val (.ref b20), .unset, .unset] []) := fun t k => pre t (st37 _ k)
    have hP2 := hP1.other W37 nz1 nz2
    replace pre : Pth p e below S0 T37 (mkF m 121 #[.val (.int p0), .val (.int p1), .val (.int (4 : Int32)), .val (.ref b17), .val (.int v0), .val (.int v1), .val (.int v2), .val (.int v3), .val (.ref b20), .unset, .unset] [(.int v3), (.int (3 : Int32)), (.ref b20)]) := fun t k => pre t (by
      show Steps p.tables e below (T37.setTop (mkF m 111 #[.val (.int p0), .val (.int p1), .val (.int (4 : Int32)), .val (.ref b17), .val (.int v0), .val (.int v1), .val (.int v2), .val (.int v3), .val (.ref b20), .unset, .unset] [])) t
      refine XS.iloadN X37.here hx rfl (hb hby at_111) rfl ?_
      show Steps p.tables e below (T37.setTop (mkF m 112 #[.val (.int p0), .val (.int p1), .val (.int (4 : Int32)), .val (.ref b17), .val (.int v0), .val (.int v1), .val (.int v2), .val (.int v3), .val (.ref b20), .unset, .unset] [(.int (4 : Int32))])) t
      refine XS.iconst X37.here hx rfl (hb hby at_112) ?_
      show Steps p.tables e below (T37.setTop (mkF m 113 #[.val (.int p0), .val (.int p1), .val (.int (4 : Int32)), .val (.ref b17), .val (.int v0), .val (.int v1), .val (.int v2), .val (.int v3), .val (.ref b20), .unset, .unset] [(.int (3 : Int32)), (.int (4 : Int32))])) t
      refine XS.icmpNo X37.here hx rfl (hb hby at_113) rfl (XT.ii_le_f (by decide)) ?_
      show Steps p.tables e below (T37.setTop (mkF m 116 #[.val (.int p0), .val (.int p1), .val (.int (4 : Int32)), .val (.ref b17), .val (.int v0), .val (.int v1), .val (.int v2), .val (.int v3), .val (.ref b20), .unset, .unset] [])) t
      refine XS.aload X37.here hx rfl (hb hby at_116) rfl rfl ?_
      show Steps p.tables e below (T37.setTop (mkF m 118 #[.val (.int p0), .val (.int p1), .val (.int (4 : Int32)), .val (.ref b17), .val (.int v0), .val (.int v1), .val (.int v2), .val (.int v3), .val (.ref b20), .unset, .unset] [(.ref b20)])) t
      refine XS.iconst X37.here hx rfl (hb hby at_118) ?_
      show Steps p.tables e below (T37.setTop (mkF m 119 #[.val (.int p0), .val (.int p1), .val (.int (4 : Int32)), .val (.ref b17), .val (.int v0), .val (.int v1), .val (.int v2), .val (.int v3), .val (.ref b20), .unset, .unset] [(.int (3 : Int32)), (.ref b20)])) t
      refine XS.iload X37.here hx rfl (hb hby at_119) rfl ?_
      show Steps p.tables e below (T37.setTop (mkF m 121 #[.val (.int p0), .val (.int p1), .val (.int (4 : Int32)), .val (.ref b17), .val (.int v0), .val (.int v1), .val (.int v2), .val (.int v3), .val (.ref b20), .unset, .unset] [(.int v3), (.int (3 : Int32)), (.ref b20)])) t
      exact k)
    obtain ⟨cl38, Ar38, Sz38, -⟩ := id F37
    obtain ⟨T38, h38, X38, e38, W38, st38⟩ := stZ X37 hx hZ e37 Ar38 (j := (3 : Int32)) (by rw [Sz38]; exact (own_in (i := 3) (by decide) (by decide))) (g := (mkF m 121 #[.val (.int p0), .val (.int p1), .val (.int (4 : Int32)), .val (.ref b17), .val (.int v0), .val (.int v1), .val (.int v2), .val (.int v3), .val (.ref b20), .unset, .unset] [(.int v3), (.int (3 : Int32)), (.ref b20)])) rfl rfl (hb hby at_121)
    have F38 := OFun.set F37 W38
    have N38 := Fr.snoc X38 N37 gz
    replace pre : Pth p e below S0 T38 (mkF m 122 #[.val (.int p0), .val (.int p1), .val (.int (4 : Int32)), .val (.ref b17), .val (.int v0), .val (.int v1), .val (.int v2), .val (.int v3), .val (.ref b20), .unset, .unset] []) := fun t k => pre t (st38 _ k)
    have hP3 := hP2.other W38 nz1 nz2
    have Fz : OFun Z h38 b20 .boolean 4 (fun j => .int (own_bf v0 v1 v2 v3 j)) := F38.congr (fun j hj => by
      rcases h_v0 with rfl | rfl <;> rcases h_v1 with rfl | rfl <;> rcases h_v2 with rfl | rfl <;> rcases h_v3 with rfl | rfl <;> (match j, hj with
        | 0, _ => rfl
        | 1, _ => rfl
        | 2, _ => rfl
        | 3, _ => rfl
        ))
    replace pre : Pth p e below S0 T38 (mkF m 131 #[.val (.int p0), .val (.int p1), .val (.int (4 : Int32)), .val (.ref b17), .val (.int v0), .val (.int v1), .val (.int v2), .val (.int v3), .val (.ref b20), .val (.int (0 : Int32)), .unset] [(.int v0)]) := fun t k => pre t (by
      show Steps p.tables e below (T38.setTop (mkF m 122 #[.val (.int p0), .val (.int p1), .val (.int (4 : Int32)), .val (.ref b17), .val (.int v0), .val (.int v1), .val (.int v2), .val (.int v3), .val (.ref b20), .unset, .unset] [])) t
      refine XS.iconst X38.here hx rfl (hb hby at_122) ?_
      show Steps p.tables e below (T38.setTop (mkF m 123 #[.val (.int p0), .val (.int p1), .val (.int (4 : Int32)), .val (.ref b17), .val (.int v0), .val (.int v1), .val (.int v2), .val (.int v3), .val (.ref b20), .unset, .unset] [(.int (0 : Int32))])) t
      refine XS.istore X38.here hx rfl (hb hby at_123) rfl (l' := #[.val (.int p0), .val (.int p1), .val (.int (4 : Int32)), .val (.ref b17), .val (.int v0), .val (.int v1), .val (.int v2), .val (.int v3), .val (.ref b20), .val (.int (0 : Int32)), .unset]) rfl ?_
      show Steps p.tables e below (T38.setTop (mkF m 125 #[.val (.int p0), .val (.int p1), .val (.int (4 : Int32)), .val (.ref b17), .val (.int v0), .val (.int v1), .val (.int v2), .val (.int v3), .val (.ref b20), .val (.int (0 : Int32)), .unset] [])) t
      refine XS.iloadN X38.here hx rfl (hb hby at_125) rfl ?_
      show Steps p.tables e below (T38.setTop (mkF m 126 #[.val (.int p0), .val (.int p1), .val (.int (4 : Int32)), .val (.ref b17), .val (.int v0), .val (.int v1), .val (.int v2), .val (.int v3), .val (.ref b20), .val (.int (0 : Int32)), .unset] [(.int (4 : Int32))])) t
      refine XS.ifNo X38.here hx rfl (hb hby at_126) rfl (XT.i0_le_f (by decide)) ?_
      show Steps p.tables e below (T38.setTop (mkF m 129 #[.val (.int p0), .val (.int p1), .val (.int (4 : Int32)), .val (.ref b17), .val (.int v0), .val (.int v1), .val (.int v2), .val (.int v3), .val (.ref b20), .val (.int (0 : Int32)), .unset] [])) t
      refine XS.iload X38.here hx rfl (hb hby at_129) rfl ?_
      show Steps p.tables e below (T38.setTop (mkF m 131 #[.val (.int p0), .val (.int p1), .val (.int (4 : Int32)), .val (.ref b17), .val (.int v0), .val (.int v1), .val (.int v2), .val (.int v3), .val (.ref b20), .val (.int (0 : Int32)), .unset] [(.int v0)])) t
      exact k)
    obtain ⟨x0, hx0, pre⟩ : ∃ x0 : Int32, x0 = (if v0 = 0 then (0 : Int32) + ((1 : Int32) <<< (((4 : Int32) - (1 : Int32)) &&& 31)) else (0 : Int32)) ∧ Pth p e below S0 T38 (mkF m 144 #[.val (.int p0), .val (.int p1), .val (.int (4 : Int32)), .val (.ref b17), .val (.int v0), .val (.int v1), .val (.int v2), .val (.int v3), .val (.ref b20), .val (.int x0), .unset] []) := by
      by_cases z1 : v0 = (0 : Int32)
      · replace pre : Pth p e below S0 T38 (mkF m 144 #[.val (.int p0), .val (.int p1), .val (.int (4 : Int32)), .val (.ref b17), .val (.int v0), .val (.int v1), .val (.int v2), .val (.int v3), .val (.ref b20), .val (.int ((0 : Int32) + ((1 : Int32) <<< (((4 : Int32) - (1 : Int32)) &&& 31)))), .unset] []) := fun t k => pre t (by
          show Steps p.tables e below (T38.setTop (mkF m 131 #[.val (.int p0), .val (.int p1), .val (.int (4 : Int32)), .val (.ref b17), .val (.int v0), .val (.int v1), .val (.int v2), .val (.int v3), .val (.ref b20), .val (.int (0 : Int32)), .unset] [(.int v0)])) t
          refine XS.ifNo X38.here hx rfl (hb hby at_131) rfl (XT.i0_ne_f z1) ?_
          show Steps p.tables e below (T38.setTop (mkF m 134 #[.val (.int p0), .val (.int p1), .val (.int (4 : Int32)), .val (.ref b17), .val (.int v0), .val (.int v1), .val (.int v2), .val (.int v3), .val (.ref b20), .val (.int (0 : Int32)), .unset] [])) t
          refine XS.iload X38.here hx rfl (hb hby at_134) rfl ?_
          show Steps p.tables e below (T38.setTop (mkF m 136 #[.val (.int p0), .val (.int p1), .val (.int (4 : Int32)), .val (.ref b17), .val (.int v0), .val (.int v1), .val (.int v2), .val (.int v3), .val (.ref b20), .val (.int (0 : Int32)), .unset] [(.int (0 : Int32))])) t
          refine XS.iconst X38.here hx rfl (hb hby at_136) ?_
          show Steps p.tables e below (T38.setTop (mkF m 137 #[.val (.int p0), .val (.int p1), .val (.int (4 : Int32)), .val (.ref b17), .val (.int v0), .val (.int v1), .val (.int v2), .val (.int v3), .val (.ref b20), .val (.int (0 : Int32)), .unset] [(.int (1 : Int32)), (.int (0 : Int32))])) t
          refine XS.iloadN X38.here hx rfl (hb hby at_137) rfl ?_
          show Steps p.tables e below (T38.setTop (mkF m 138 #[.val (.int p0), .val (.int p1), .val (.int (4 : Int32)), .val (.ref b17), .val (.int v0), .val (.int v1), .val (.int v2), .val (.int v3), .val (.ref b20), .val (.int (0 : Int32)), .unset] [(.int (4 : Int32)), (.int (1 : Int32)), (.int (0 : Int32))])) t
          refine XS.iconst X38.here hx rfl (hb hby at_138) ?_
          show Steps p.tables e below (T38.setTop (mkF m 139 #[.val (.int p0), .val (.int p1), .val (.int (4 : Int32)), .val (.ref b17), .val (.int v0), .val (.int v1), .val (.int v2), .val (.int v3), .val (.ref b20), .val (.int (0 : Int32)), .unset] [(.int (1 : Int32)), (.int (4 : Int32)), (.int (1 : Int32)), (.int (0 : Int32))])) t
          refine XS.isub X38.here hx rfl (hb hby at_139) rfl ?_
          show Steps p.tables e below (T38.setTop (mkF m 140 #[.val (.int p0), .val (.int p1), .val (.int (4 : Int32)), .val (.ref b17), .val (.int v0), .val (.int v1), .val (.int v2), .val (.int v3), .val (.ref b20), .val (.int (0 : Int32)), .unset] [(.int ((4 : Int32) - (1 : Int32))), (.int (1 : Int32)), (.int (0 : Int32))])) t
          refine XS.ishl X38.here hx rfl (hb hby at_140) rfl ?_
          show Steps p.tables e below (T38.setTop (mkF m 141 #[.val (.int p0), .val (.int p1), .val (.int (4 : Int32)), .val (.ref b17), .val (.int v0), .val (.int v1), .val (.int v2), .val (.int v3), .val (.ref b20), .val (.int (0 : Int32)), .unset] [(.int ((1 : Int32) <<< (((4 : Int32) - (1 : Int32)) &&& 31))), (.int (0 : Int32))])) t
          refine XS.iadd X38.here hx rfl (hb hby at_141) rfl ?_
          show Steps p.tables e below (T38.setTop (mkF m 142 #[.val (.int p0), .val (.int p1), .val (.int (4 : Int32)), .val (.ref b17), .val (.int v0), .val (.int v1), .val (.int v2), .val (.int v3), .val (.ref b20), .val (.int (0 : Int32)), .unset] [(.int ((0 : Int32) + ((1 : Int32) <<< (((4 : Int32) - (1 : Int32)) &&& 31))))])) t
          refine XS.istore X38.here hx rfl (hb hby at_142) rfl (l' := #[.val (.int p0), .val (.int p1), .val (.int (4 : Int32)), .val (.ref b17), .val (.int v0), .val (.int v1), .val (.int v2), .val (.int v3), .val (.ref b20), .val (.int ((0 : Int32) + ((1 : Int32) <<< (((4 : Int32) - (1 : Int32)) &&& 31)))), .unset]) rfl ?_
          show Steps p.tables e below (T38.setTop (mkF m 144 #[.val (.int p0), .val (.int p1), .val (.int (4 : Int32)), .val (.ref b17), .val (.int v0), .val (.int v1), .val (.int v2), .val (.int v3), .val (.ref b20), .val (.int ((0 : Int32) + ((1 : Int32) <<< (((4 : Int32) - (1 : Int32)) &&& 31)))), .unset] [])) t
          exact k)
        exact ⟨_, (if_pos z1).symm, pre⟩
      · replace pre : Pth p e below S0 T38 (mkF m 144 #[.val (.int p0), .val (.int p1), .val (.int (4 : Int32)), .val (.ref b17), .val (.int v0), .val (.int v1), .val (.int v2), .val (.int v3), .val (.ref b20), .val (.int (0 : Int32)), .unset] []) := fun t k => pre t (by
          show Steps p.tables e below (T38.setTop (mkF m 131 #[.val (.int p0), .val (.int p1), .val (.int (4 : Int32)), .val (.ref b17), .val (.int v0), .val (.int v1), .val (.int v2), .val (.int v3), .val (.ref b20), .val (.int (0 : Int32)), .unset] [(.int v0)])) t
          refine XS.ifYes X38.here hx rfl (pc0 := 131) (pc' := 144) rfl (hb hby at_131) rfl (XT.i0_ne_t z1) (by decide) (by decide) ?_
          show Steps p.tables e below (T38.setTop (mkF m 144 #[.val (.int p0), .val (.int p1), .val (.int (4 : Int32)), .val (.ref b17), .val (.int v0), .val (.int v1), .val (.int v2), .val (.int v3), .val (.ref b20), .val (.int (0 : Int32)), .unset] [])) t
          exact k)
        exact ⟨_, (if_neg z1).symm, pre⟩
    replace pre : Pth p e below S0 T38 (mkF m 151 #[.val (.int p0), .val (.int p1), .val (.int (4 : Int32)), .val (.ref b17), .val (.int v0), .val (.int v1), .val (.int v2), .val (.int v3), .val (.ref b20), .val (.int x0), .unset] [(.int v1)]) := fun t k => pre t (by
      show Steps p.tables e below (T38.setTop (mkF m 144 #[.val (.int p0), .val (.int p1), .val (.int (4 : Int32)), .val (.ref b17), .val (.int v0), .val (.int v1), .val (.int v2), .val (.int v3), .val (.ref b20), .val (.int x0), .unset] [])) t
      refine XS.iloadN X38.here hx rfl (hb hby at_144) rfl ?_
      show Steps p.tables e below (T38.setTop (mkF m 145 #[.val (.int p0), .val (.int p1), .val (.int (4 : Int32)), .val (.ref b17), .val (.int v0), .val (.int v1), .val (.int v2), .val (.int v3), .val (.ref b20), .val (.int x0), .unset] [(.int (4 : Int32))])) t
      refine XS.iconst X38.here hx rfl (hb hby at_145) ?_
      show Steps p.tables e below (T38.setTop (mkF m 146 #[.val (.int p0), .val (.int p1), .val (.int (4 : Int32)), .val (.ref b17), .val (.int v0), .val (.int v1), .val (.int v2), .val (.int v3), .val (.ref b20), .val (.int x0), .unset] [(.int (1 : Int32)), (.int (4 : Int32))])) t
      refine XS.icmpNo X38.here hx rfl (hb hby at_146) rfl (XT.ii_le_f (by decide)) ?_
      show Steps p.tables e below (T38.setTop (mkF m 149 #[.val (.int p0), .val (.int p1), .val (.int (4 : Int32)), .val (.ref b17), .val (.int v0), .val (.int v1), .val (.int v2), .val (.int v3), .val (.ref b20), .val (.int x0), .unset] [])) t
      refine XS.iload X38.here hx rfl (hb hby at_149) rfl ?_
      show Steps p.tables e below (T38.setTop (mkF m 151 #[.val (.int p0), .val (.int p1), .val (.int (4 : Int32)), .val (.ref b17), .val (.int v0), .val (.int v1), .val (.int v2), .val (.int v3), .val (.ref b20), .val (.int x0), .unset] [(.int v1)])) t
      exact k)
    obtain ⟨x1, hx1, pre⟩ : ∃ x1 : Int32, x1 = (if v1 = 0 then x0 + ((1 : Int32) <<< (((4 : Int32) - (2 : Int32)) &&& 31)) else x0) ∧ Pth p e below S0 T38 (mkF m 164 #[.val (.int p0), .val (.int p1), .val (.int (4 : Int32)), .val (.ref b17), .val (.int v0), .val (.int v1), .val (.int v2), .val (.int v3), .val (.ref b20), .val (.int x1), .unset] []) := by
      by_cases z1 : v1 = (0 : Int32)
      · replace pre : Pth p e below S0 T38 (mkF m 164 #[.val (.int p0), .val (.int p1), .val (.int (4 : Int32)), .val (.ref b17), .val (.int v0), .val (.int v1), .val (.int v2), .val (.int v3), .val (.ref b20), .val (.int (x0 + ((1 : Int32) <<< (((4 : Int32) - (2 : Int32)) &&& 31)))), .unset] []) := fun t k => pre t (by
          show Steps p.tables e below (T38.setTop (mkF m 151 #[.val (.int p0), .val (.int p1), .val (.int (4 : Int32)), .val (.ref b17), .val (.int v0), .val (.int v1), .val (.int v2), .val (.int v3), .val (.ref b20), .val (.int x0), .unset] [(.int v1)])) t
          refine XS.ifNo X38.here hx rfl (hb hby at_151) rfl (XT.i0_ne_f z1) ?_
          show Steps p.tables e below (T38.setTop (mkF m 154 #[.val (.int p0), .val (.int p1), .val (.int (4 : Int32)), .val (.ref b17), .val (.int v0), .val (.int v1), .val (.int v2), .val (.int v3), .val (.ref b20), .val (.int x0), .unset] [])) t
          refine XS.iload X38.here hx rfl (hb hby at_154) rfl ?_
          show Steps p.tables e below (T38.setTop (mkF m 156 #[.val (.int p0), .val (.int p1), .val (.int (4 : Int32)), .val (.ref b17), .val (.int v0), .val (.int v1), .val (.int v2), .val (.int v3), .val (.ref b20), .val (.int x0), .unset] [(.int x0)])) t
          refine XS.iconst X38.here hx rfl (hb hby at_156) ?_
          show Steps p.tables e below (T38.setTop (mkF m 157 #[.val (.int p0), .val (.int p1), .val (.int (4 : Int32)), .val (.ref b17), .val (.int v0), .val (.int v1), .val (.int v2), .val (.int v3), .val (.ref b20), .val (.int x0), .unset] [(.int (1 : Int32)), (.int x0)])) t
          refine XS.iloadN X38.here hx rfl (hb hby at_157) rfl ?_
          show Steps p.tables e below (T38.setTop (mkF m 158 #[.val (.int p0), .val (.int p1), .val (.int (4 : Int32)), .val (.ref b17), .val (.int v0), .val (.int v1), .val (.int v2), .val (.int v3), .val (.ref b20), .val (.int x0), .unset] [(.int (4 : Int32)), (.int (1 : Int32)), (.int x0)])) t
          refine XS.iconst X38.here hx rfl (hb hby at_158) ?_
          show Steps p.tables e below (T38.setTop (mkF m 159 #[.val (.int p0), .val (.int p1), .val (.int (4 : Int32)), .val (.ref b17), .val (.int v0), .val (.int v1), .val (.int v2), .val (.int v3), .val (.ref b20), .val (.int x0), .unset] [(.int (2 : Int32)), (.int (4 : Int32)), (.int (1 : Int32)), (.int x0)])) t
          refine XS.isub X38.here hx rfl (hb hby at_159) rfl ?_
          show Steps p.tables e below (T38.setTop (mkF m 160 #[.val (.int p0), .val (.int p1), .val (.int (4 : Int32)), .val (.ref b17), .val (.int v0), .val (.int v1), .val (.int v2), .val (.int v3), .val (.ref b20), .val (.int x0), .unset] [(.int ((4 : Int32) - (2 : Int32))), (.int (1 : Int32)), (.int x0)])) t
          refine XS.ishl X38.here hx rfl (hb hby at_160) rfl ?_
          show Steps p.tables e below (T38.setTop (mkF m 161 #[.val (.int p0), .val (.int p1), .val (.int (4 : Int32)), .val (.ref b17), .val (.int v0), .val (.int v1), .val (.int v2), .val (.int v3), .val (.ref b20), .val (.int x0), .unset] [(.int ((1 : Int32) <<< (((4 : Int32) - (2 : Int32)) &&& 31))), (.int x0)])) t
          refine XS.iadd X38.here hx rfl (hb hby at_161) rfl ?_
          show Steps p.tables e below (T38.setTop (mkF m 162 #[.val (.int p0), .val (.int p1), .val (.int (4 : Int32)), .val (.ref b17), .val (.int v0), .val (.int v1), .val (.int v2), .val (.int v3), .val (.ref b20), .val (.int x0), .unset] [(.int (x0 + ((1 : Int32) <<< (((4 : Int32) - (2 : Int32)) &&& 31))))])) t
          refine XS.istore X38.here hx rfl (hb hby at_162) rfl (l' := #[.val (.int p0), .val (.int p1), .val (.int (4 : Int32)), .val (.ref b17), .val (.int v0), .val (.int v1), .val (.int v2), .val (.int v3), .val (.ref b20), .val (.int (x0 + ((1 : Int32) <<< (((4 : Int32) - (2 : Int32)) &&& 31)))), .unset]) rfl ?_
          show Steps p.tables e below (T38.setTop (mkF m 164 #[.val (.int p0), .val (.int p1), .val (.int (4 : Int32)), .val (.ref b17), .val (.int v0), .val (.int v1), .val (.int v2), .val (.int v3), .val (.ref b20), .val (.int (x0 + ((1 : Int32) <<< (((4 : Int32) - (2 : Int32)) &&& 31)))), .unset] [])) t
          exact k)
        exact ⟨_, (if_pos z1).symm, pre⟩
      · replace pre : Pth p e below S0 T38 (mkF m 164 #[.val (.int p0), .val (.int p1), .val (.int (4 : Int32)), .val (.ref b17), .val (.int v0), .val (.int v1), .val (.int v2), .val (.int v3), .val (.ref b20), .val (.int x0), .unset] []) := fun t k => pre t (by
          show Steps p.tables e below (T38.setTop (mkF m 151 #[.val (.int p0), .val (.int p1), .val (.int (4 : Int32)), .val (.ref b17), .val (.int v0), .val (.int v1), .val (.int v2), .val (.int v3), .val (.ref b20), .val (.int x0), .unset] [(.int v1)])) t
          refine XS.ifYes X38.here hx rfl (pc0 := 151) (pc' := 164) rfl (hb hby at_151) rfl (XT.i0_ne_t z1) (by decide) (by decide) ?_
          show Steps p.tables e below (T38.setTop (mkF m 164 #[.val (.int p0), .val (.int p1), .val (.int (4 : Int32)), .val (.ref b17), .val (.int v0), .val (.int v1), .val (.int v2), .val (.int v3), .val (.ref b20), .val (.int x0), .unset] [])) t
          exact k)
        exact ⟨_, (if_neg z1).symm, pre⟩
    replace pre : Pth p e below S0 T38 (mkF m 171 #[.val (.int p0), .val (.int p1), .val (.int (4 : Int32)), .val (.ref b17), .val (.int v0), .val (.int v1), .val (.int v2), .val (.int v3), .val (.ref b20), .val (.int x1), .unset] [(.int v2)]) := fun t k => pre t (by
      show Steps p.tables e below (T38.setTop (mkF m 164 #[.val (.int p0), .val (.int p1), .val (.int (4 : Int32)), .val (.ref b17), .val (.int v0), .val (.int v1), .val (.int v2), .val (.int v3), .val (.ref b20), .val (.int x1), .unset] [])) t
      refine XS.iloadN X38.here hx rfl (hb hby at_164) rfl ?_
      show Steps p.tables e below (T38.setTop (mkF m 165 #[.val (.int p0), .val (.int p1), .val (.int (4 : Int32)), .val (.ref b17), .val (.int v0), .val (.int v1), .val (.int v2), .val (.int v3), .val (.ref b20), .val (.int x1), .unset] [(.int (4 : Int32))])) t
      refine XS.iconst X38.here hx rfl (hb hby at_165) ?_
      show Steps p.tables e below (T38.setTop (mkF m 166 #[.val (.int p0), .val (.int p1), .val (.int (4 : Int32)), .val (.ref b17), .val (.int v0), .val (.int v1), .val (.int v2), .val (.int v3), .val (.ref b20), .val (.int x1), .unset] [(.int (2 : Int32)), (.int (4 : Int32))])) t
      refine XS.icmpNo X38.here hx rfl (hb hby at_166) rfl (XT.ii_le_f (by decide)) ?_
      show Steps p.tables e below (T38.setTop (mkF m 169 #[.val (.int p0), .val (.int p1), .val (.int (4 : Int32)), .val (.ref b17), .val (.int v0), .val (.int v1), .val (.int v2), .val (.int v3), .val (.ref b20), .val (.int x1), .unset] [])) t
      refine XS.iload X38.here hx rfl (hb hby at_169) rfl ?_
      show Steps p.tables e below (T38.setTop (mkF m 171 #[.val (.int p0), .val (.int p1), .val (.int (4 : Int32)), .val (.ref b17), .val (.int v0), .val (.int v1), .val (.int v2), .val (.int v3), .val (.ref b20), .val (.int x1), .unset] [(.int v2)])) t
      exact k)
    obtain ⟨x2, hx2, pre⟩ : ∃ x2 : Int32, x2 = (if v2 = 0 then x1 + ((1 : Int32) <<< (((4 : Int32) - (3 : Int32)) &&& 31)) else x1) ∧ Pth p e below S0 T38 (mkF m 184 #[.val (.int p0), .val (.int p1), .val (.int (4 : Int32)), .val (.ref b17), .val (.int v0), .val (.int v1), .val (.int v2), .val (.int v3), .val (.ref b20), .val (.int x2), .unset] []) := by
      by_cases z1 : v2 = (0 : Int32)
      · replace pre : Pth p e below S0 T38 (mkF m 184 #[.val (.int p0), .val (.int p1), .val (.int (4 : Int32)), .val (.ref b17), .val (.int v0), .val (.int v1), .val (.int v2), .val (.int v3), .val (.ref b20), .val (.int (x1 + ((1 : Int32) <<< (((4 : Int32) - (3 : Int32)) &&& 31)))), .unset] []) := fun t k => pre t (by
          show Steps p.tables e below (T38.setTop (mkF m 171 #[.val (.int p0), .val (.int p1), .val (.int (4 : Int32)), .val (.ref b17), .val (.int v0), .val (.int v1), .val (.int v2), .val (.int v3), .val (.ref b20), .val (.int x1), .unset] [(.int v2)])) t
          refine XS.ifNo X38.here hx rfl (hb hby at_171) rfl (XT.i0_ne_f z1) ?_
          show Steps p.tables e below (T38.setTop (mkF m 174 #[.val (.int p0), .val (.int p1), .val (.int (4 : Int32)), .val (.ref b17), .val (.int v0), .val (.int v1), .val (.int v2), .val (.int v3), .val (.ref b20), .val (.int x1), .unset] [])) t
          refine XS.iload X38.here hx rfl (hb hby at_174) rfl ?_
          show Steps p.tables e below (T38.setTop (mkF m 176 #[.val (.int p0), .val (.int p1), .val (.int (4 : Int32)), .val (.ref b17), .val (.int v0), .val (.int v1), .val (.int v2), .val (.int v3), .val (.ref b20), .val (.int x1), .unset] [(.int x1)])) t
          refine XS.iconst X38.here hx rfl (hb hby at_176) ?_
          show Steps p.tables e below (T38.setTop (mkF m 177 #[.val (.int p0), .val (.int p1), .val (.int (4 : Int32)), .val (.ref b17), .val (.int v0), .val (.int v1), .val (.int v2), .val (.int v3), .val (.ref b20), .val (.int x1), .unset] [(.int (1 : Int32)), (.int x1)])) t
          refine XS.iloadN X38.here hx rfl (hb hby at_177) rfl ?_
          show Steps p.tables e below (T38.setTop (mkF m 178 #[.val (.int p0), .val (.int p1), .val (.int (4 : Int32)), .val (.ref b17), .val (.int v0), .val (.int v1), .val (.int v2), .val (.int v3), .val (.ref b20), .val (.int x1), .unset] [(.int (4 : Int32)), (.int (1 : Int32)), (.int x1)])) t
          refine XS.iconst X38.here hx rfl (hb hby at_178) ?_
          show Steps p.tables e below (T38.setTop (mkF m 179 #[.val (.int p0), .val (.int p1), .val (.int (4 : Int32)), .val (.ref b17), .val (.int v0), .val (.int v1), .val (.int v2), .val (.int v3), .val (.ref b20), .val (.int x1), .unset] [(.int (3 : Int32)), (.int (4 : Int32)), (.int (1 : Int32)), (.int x1)])) t
          refine XS.isub X38.here hx rfl (hb hby at_179) rfl ?_
          show Steps p.tables e below (T38.setTop (mkF m 180 #[.val (.int p0), .val (.int p1), .val (.int (4 : Int32)), .val (.ref b17), .val (.int v0), .val (.int v1), .val (.int v2), .val (.int v3), .val (.ref b20), .val (.int x1), .unset] [(.int ((4 : Int32) - (3 : Int32))), (.int (1 : Int32)), (.int x1)])) t
          refine XS.ishl X38.here hx rfl (hb hby at_180) rfl ?_
          show Steps p.tables e below (T38.setTop (mkF m 181 #[.val (.int p0), .val (.int p1), .val (.int (4 : Int32)), .val (.ref b17), .val (.int v0), .val (.int v1), .val (.int v2), .val (.int v3), .val (.ref b20), .val (.int x1), .unset] [(.int ((1 : Int32) <<< (((4 : Int32) - (3 : Int32)) &&& 31))), (.int x1)])) t
          refine XS.iadd X38.here hx rfl (hb hby at_181) rfl ?_
          show Steps p.tables e below (T38.setTop (mkF m 182 #[.val (.int p0), .val (.int p1), .val (.int (4 : Int32)), .val (.ref b17), .val (.int v0), .val (.int v1), .val (.int v2), .val (.int v3), .val (.ref b20), .val (.int x1), .unset] [(.int (x1 + ((1 : Int32) <<< (((4 : Int32) - (3 : Int32)) &&& 31))))])) t
          refine XS.istore X38.here hx rfl (hb hby at_182) rfl (l' := #[.val (.int p0), .val (.int p1), .val (.int (4 : Int32)), .val (.ref b17), .val (.int v0), .val (.int v1), .val (.int v2), .val (.int v3), .val (.ref b20), .val (.int (x1 + ((1 : Int32) <<< (((4 : Int32) - (3 : Int32)) &&& 31)))), .unset]) rfl ?_
          show Steps p.tables e below (T38.setTop (mkF m 184 #[.val (.int p0), .val (.int p1), .val (.int (4 : Int32)), .val (.ref b17), .val (.int v0), .val (.int v1), .val (.int v2), .val (.int v3), .val (.ref b20), .val (.int (x1 + ((1 : Int32) <<< (((4 : Int32) - (3 : Int32)) &&& 31)))), .unset] [])) t
          exact k)
        exact ⟨_, (if_pos z1).symm, pre⟩
      · replace pre : Pth p e below S0 T38 (mkF m 184 #[.val (.int p0), .val (.int p1), .val (.int (4 : Int32)), .val (.ref b17), .val (.int v0), .val (.int v1), .val (.int v2), .val (.int v3), .val (.ref b20), .val (.int x1), .unset] []) := fun t k => pre t (by
          show Steps p.tables e below (T38.setTop (mkF m 171 #[.val (.int p0), .val (.int p1), .val (.int (4 : Int32)), .val (.ref b17), .val (.int v0), .val (.int v1), .val (.int v2), .val (.int v3), .val (.ref b20), .val (.int x1), .unset] [(.int v2)])) t
          refine XS.ifYes X38.here hx rfl (pc0 := 171) (pc' := 184) rfl (hb hby at_171) rfl (XT.i0_ne_t z1) (by decide) (by decide) ?_
          show Steps p.tables e below (T38.setTop (mkF m 184 #[.val (.int p0), .val (.int p1), .val (.int (4 : Int32)), .val (.ref b17), .val (.int v0), .val (.int v1), .val (.int v2), .val (.int v3), .val (.ref b20), .val (.int x1), .unset] [])) t
          exact k)
        exact ⟨_, (if_neg z1).symm, pre⟩
    replace pre : Pth p e below S0 T38 (mkF m 191 #[.val (.int p0), .val (.int p1), .val (.int (4 : Int32)), .val (.ref b17), .val (.int v0), .val (.int v1), .val (.int v2), .val (.int v3), .val (.ref b20), .val (.int x2), .unset] [(.int v3)]) := fun t k => pre t (by
      show Steps p.tables e below (T38.setTop (mkF m 184 #[.val (.int p0), .val (.int p1), .val (.int (4 : Int32)), .val (.ref b17), .val (.int v0), .val (.int v1), .val (.int v2), .val (.int v3), .val (.ref b20), .val (.int x2), .unset] [])) t
      refine XS.iloadN X38.here hx rfl (hb hby at_184) rfl ?_
      show Steps p.tables e below (T38.setTop (mkF m 185 #[.val (.int p0), .val (.int p1), .val (.int (4 : Int32)), .val (.ref b17), .val (.int v0), .val (.int v1), .val (.int v2), .val (.int v3), .val (.ref b20), .val (.int x2), .unset] [(.int (4 : Int32))])) t
      refine XS.iconst X38.here hx rfl (hb hby at_185) ?_
      show Steps p.tables e below (T38.setTop (mkF m 186 #[.val (.int p0), .val (.int p1), .val (.int (4 : Int32)), .val (.ref b17), .val (.int v0), .val (.int v1), .val (.int v2), .val (.int v3), .val (.ref b20), .val (.int x2), .unset] [(.int (3 : Int32)), (.int (4 : Int32))])) t
      refine XS.icmpNo X38.here hx rfl (hb hby at_186) rfl (XT.ii_le_f (by decide)) ?_
      show Steps p.tables e below (T38.setTop (mkF m 189 #[.val (.int p0), .val (.int p1), .val (.int (4 : Int32)), .val (.ref b17), .val (.int v0), .val (.int v1), .val (.int v2), .val (.int v3), .val (.ref b20), .val (.int x2), .unset] [])) t
      refine XS.iload X38.here hx rfl (hb hby at_189) rfl ?_
      show Steps p.tables e below (T38.setTop (mkF m 191 #[.val (.int p0), .val (.int p1), .val (.int (4 : Int32)), .val (.ref b17), .val (.int v0), .val (.int v1), .val (.int v2), .val (.int v3), .val (.ref b20), .val (.int x2), .unset] [(.int v3)])) t
      exact k)
    obtain ⟨x3, hx3, pre⟩ : ∃ x3 : Int32, x3 = (if v3 = 0 then x2 + ((1 : Int32) <<< (((4 : Int32) - (4 : Int32)) &&& 31)) else x2) ∧ Pth p e below S0 T38 (mkF m 204 #[.val (.int p0), .val (.int p1), .val (.int (4 : Int32)), .val (.ref b17), .val (.int v0), .val (.int v1), .val (.int v2), .val (.int v3), .val (.ref b20), .val (.int x3), .unset] []) := by
      by_cases z1 : v3 = (0 : Int32)
      · replace pre : Pth p e below S0 T38 (mkF m 204 #[.val (.int p0), .val (.int p1), .val (.int (4 : Int32)), .val (.ref b17), .val (.int v0), .val (.int v1), .val (.int v2), .val (.int v3), .val (.ref b20), .val (.int (x2 + ((1 : Int32) <<< (((4 : Int32) - (4 : Int32)) &&& 31)))), .unset] []) := fun t k => pre t (by
          show Steps p.tables e below (T38.setTop (mkF m 191 #[.val (.int p0), .val (.int p1), .val (.int (4 : Int32)), .val (.ref b17), .val (.int v0), .val (.int v1), .val (.int v2), .val (.int v3), .val (.ref b20), .val (.int x2), .unset] [(.int v3)])) t
          refine XS.ifNo X38.here hx rfl (hb hby at_191) rfl (XT.i0_ne_f z1) ?_
          show Steps p.tables e below (T38.setTop (mkF m 194 #[.val (.int p0), .val (.int p1), .val (.int (4 : Int32)), .val (.ref b17), .val (.int v0), .val (.int v1), .val (.int v2), .val (.int v3), .val (.ref b20), .val (.int x2), .unset] [])) t
          refine XS.iload X38.here hx rfl (hb hby at_194) rfl ?_
          show Steps p.tables e below (T38.setTop (mkF m 196 #[.val (.int p0), .val (.int p1), .val (.int (4 : Int32)), .val (.ref b17), .val (.int v0), .val (.int v1), .val (.int v2), .val (.int v3), .val (.ref b20), .val (.int x2), .unset] [(.int x2)])) t
          refine XS.iconst X38.here hx rfl (hb hby at_196) ?_
          show Steps p.tables e below (T38.setTop (mkF m 197 #[.val (.int p0), .val (.int p1), .val (.int (4 : Int32)), .val (.ref b17), .val (.int v0), .val (.int v1), .val (.int v2), .val (.int v3), .val (.ref b20), .val (.int x2), .unset] [(.int (1 : Int32)), (.int x2)])) t
          refine XS.iloadN X38.here hx rfl (hb hby at_197) rfl ?_
          show Steps p.tables e below (T38.setTop (mkF m 198 #[.val (.int p0), .val (.int p1), .val (.int (4 : Int32)), .val (.ref b17), .val (.int v0), .val (.int v1), .val (.int v2), .val (.int v3), .val (.ref b20), .val (.int x2), .unset] [(.int (4 : Int32)), (.int (1 : Int32)), (.int x2)])) t
          refine XS.iconst X38.here hx rfl (hb hby at_198) ?_
          show Steps p.tables e below (T38.setTop (mkF m 199 #[.val (.int p0), .val (.int p1), .val (.int (4 : Int32)), .val (.ref b17), .val (.int v0), .val (.int v1), .val (.int v2), .val (.int v3), .val (.ref b20), .val (.int x2), .unset] [(.int (4 : Int32)), (.int (4 : Int32)), (.int (1 : Int32)), (.int x2)])) t
          refine XS.isub X38.here hx rfl (hb hby at_199) rfl ?_
          show Steps p.tables e below (T38.setTop (mkF m 200 #[.val (.int p0), .val (.int p1), .val (.int (4 : Int32)), .val (.ref b17), .val (.int v0), .val (.int v1), .val (.int v2), .val (.int v3), .val (.ref b20), .val (.int x2), .unset] [(.int ((4 : Int32) - (4 : Int32))), (.int (1 : Int32)), (.int x2)])) t
          refine XS.ishl X38.here hx rfl (hb hby at_200) rfl ?_
          show Steps p.tables e below (T38.setTop (mkF m 201 #[.val (.int p0), .val (.int p1), .val (.int (4 : Int32)), .val (.ref b17), .val (.int v0), .val (.int v1), .val (.int v2), .val (.int v3), .val (.ref b20), .val (.int x2), .unset] [(.int ((1 : Int32) <<< (((4 : Int32) - (4 : Int32)) &&& 31))), (.int x2)])) t
          refine XS.iadd X38.here hx rfl (hb hby at_201) rfl ?_
          show Steps p.tables e below (T38.setTop (mkF m 202 #[.val (.int p0), .val (.int p1), .val (.int (4 : Int32)), .val (.ref b17), .val (.int v0), .val (.int v1), .val (.int v2), .val (.int v3), .val (.ref b20), .val (.int x2), .unset] [(.int (x2 + ((1 : Int32) <<< (((4 : Int32) - (4 : Int32)) &&& 31))))])) t
          refine XS.istore X38.here hx rfl (hb hby at_202) rfl (l' := #[.val (.int p0), .val (.int p1), .val (.int (4 : Int32)), .val (.ref b17), .val (.int v0), .val (.int v1), .val (.int v2), .val (.int v3), .val (.ref b20), .val (.int (x2 + ((1 : Int32) <<< (((4 : Int32) - (4 : Int32)) &&& 31)))), .unset]) rfl ?_
          show Steps p.tables e below (T38.setTop (mkF m 204 #[.val (.int p0), .val (.int p1), .val (.int (4 : Int32)), .val (.ref b17), .val (.int v0), .val (.int v1), .val (.int v2), .val (.int v3), .val (.ref b20), .val (.int (x2 + ((1 : Int32) <<< (((4 : Int32) - (4 : Int32)) &&& 31)))), .unset] [])) t
          exact k)
        exact ⟨_, (if_pos z1).symm, pre⟩
      · replace pre : Pth p e below S0 T38 (mkF m 204 #[.val (.int p0), .val (.int p1), .val (.int (4 : Int32)), .val (.ref b17), .val (.int v0), .val (.int v1), .val (.int v2), .val (.int v3), .val (.ref b20), .val (.int x2), .unset] []) := fun t k => pre t (by
          show Steps p.tables e below (T38.setTop (mkF m 191 #[.val (.int p0), .val (.int p1), .val (.int (4 : Int32)), .val (.ref b17), .val (.int v0), .val (.int v1), .val (.int v2), .val (.int v3), .val (.ref b20), .val (.int x2), .unset] [(.int v3)])) t
          refine XS.ifYes X38.here hx rfl (pc0 := 191) (pc' := 204) rfl (hb hby at_191) rfl (XT.i0_ne_t z1) (by decide) (by decide) ?_
          show Steps p.tables e below (T38.setTop (mkF m 204 #[.val (.int p0), .val (.int p1), .val (.int (4 : Int32)), .val (.ref b17), .val (.int v0), .val (.int v1), .val (.int v2), .val (.int v3), .val (.ref b20), .val (.int x2), .unset] [])) t
          exact k)
        exact ⟨_, (if_neg z1).symm, pre⟩
    replace pre : Pth p e below S0 T38 (mkF m 207 #[.val (.int p0), .val (.int p1), .val (.int (4 : Int32)), .val (.ref b17), .val (.int v0), .val (.int v1), .val (.int v2), .val (.int v3), .val (.ref b20), .val (.int x3), .unset] [(.ref b20), (.ref b17)]) := fun t k => pre t (by
      show Steps p.tables e below (T38.setTop (mkF m 204 #[.val (.int p0), .val (.int p1), .val (.int (4 : Int32)), .val (.ref b17), .val (.int v0), .val (.int v1), .val (.int v2), .val (.int v3), .val (.ref b20), .val (.int x3), .unset] [])) t
      refine XS.aloadN X38.here hx rfl (hb hby at_204) rfl rfl ?_
      show Steps p.tables e below (T38.setTop (mkF m 205 #[.val (.int p0), .val (.int p1), .val (.int (4 : Int32)), .val (.ref b17), .val (.int v0), .val (.int v1), .val (.int v2), .val (.int v3), .val (.ref b20), .val (.int x3), .unset] [(.ref b17)])) t
      refine XS.aload X38.here hx rfl (hb hby at_205) rfl rfl ?_
      show Steps p.tables e below (T38.setTop (mkF m 207 #[.val (.int p0), .val (.int p1), .val (.int (4 : Int32)), .val (.ref b17), .val (.int v0), .val (.int v1), .val (.int v2), .val (.int v3), .val (.ref b20), .val (.int x3), .unset] [(.ref b20), (.ref b17)])) t
      exact k)
    obtain ⟨cq39, kq39, q39a, q39b, q39c⟩ := isOf hZ e38 hP3.1
    obtain ⟨_, _, ⟨T39, L39, k39, n39⟩, -, X39, ⟨Lc39, hQ39, l39, y39, z39⟩, st39⟩ := X38.virtualBack hx (y := (⟨"com/example/parfactor/parfactor/model/PotentialTable", "indexOf", "([Z)I"⟩ : MethodName)) (z := (⟨"com/example/parfactor/parfactor/model/PotentialTable", "indexOf", "([Z)I"⟩ : MethodName)) hown (mvT hZ (hw _ (List.mem_of_getElem? (i := 26) rfl))) (mvT hZ (hw _ (List.mem_of_getElem? (i := 27) rfl))) (notFace_of_selects (args := #[]) (mvT hZ (hw _ (List.mem_of_getElem? (i := 29) rfl)))) (mvT hZ (hw _ (List.mem_of_getElem? (i := 29) rfl))) (mvT hZ (hw _ (List.mem_of_getElem? (i := 28) rfl))) (by decide) (backOf (W := 0) (rm_ix l Z a0 hw [] b17 b20 (4 : Int32) pr 16 4 (own_bf v0 v1 v2 v3) _ n0 hP3 Fz ⟨rfl, by decide⟩) hZ (hw _ (List.mem_of_getElem? (i := 30) rfl)) (hw _ (List.mem_of_getElem? (i := 3) rfl)) (by decide) (by decide)) q39a q39c (g := (mkF m 207 #[.val (.int p0), .val (.int p1), .val (.int (4 : Int32)), .val (.ref b17), .val (.int v0), .val (.int v1), .val (.int v2), .val (.int v3), .val (.ref b20), .val (.int x3), .unset] [(.ref b20), (.ref b17)])) rfl (by rw [hml]; rfl) (Steps.refl _) (argsL := [(.ref b20)]) (rest := []) (lenOf pd___Z_I rfl) rfl (by show 2 * 0 + _ ≤ _; exact Nat.le_of_eq rfl) (hb hby at_207) (fun _ _ => ⟨rfl, e38, (by decide : 4 + 0 ≤ _), (by decide : 38 + 0 ≤ _)⟩)
    dsimp only [Pt.U, Pt.locs, Pt.cells, Pt.slots] at X39 l39 y39 z39 st39 hQ39
    subst l39 y39 z39
    obtain ⟨rfl, N39q, e39⟩ := hQ39
    have N39 := Fr.app N38 N39q
    replace pre : Pth p e below S0 T39 (mkF m 210 #[.val (.int p0), .val (.int p1), .val (.int (4 : Int32)), .val (.ref b17), .val (.int v0), .val (.int v1), .val (.int v2), .val (.int v3), .val (.ref b20), .val (.int x3), .unset] [(.int (own_ixf (own_bf v0 v1 v2 v3) 4))]) := fun t k => pre t (st39.trans k)
    replace pre : Pth p e below S0 T39 (mkF m 227 #[.val (.int p0), .val (.int p1), .val (.int (4 : Int32)), .val (.ref b17), .val (.int v0), .val (.int v1), .val (.int v2), .val (.int v3), .val (.ref b20), .val (.int x3), .val (.int (own_ixf (own_bf v0 v1 v2 v3) 4))] [(.ref b17), (.int (own_ixf (own_bf v0 v1 v2 v3) 4))]) := fun t k => pre t (by
      show Steps p.tables e below (T39.setTop (mkF m 210 #[.val (.int p0), .val (.int p1), .val (.int (4 : Int32)), .val (.ref b17), .val (.int v0), .val (.int v1), .val (.int v2), .val (.int v3), .val (.ref b20), .val (.int x3), .unset] [(.int (own_ixf (own_bf v0 v1 v2 v3) 4))])) t
      refine XS.istore X39.here hx rfl (hb hby at_210) rfl (l' := #[.val (.int p0), .val (.int p1), .val (.int (4 : Int32)), .val (.ref b17), .val (.int v0), .val (.int v1), .val (.int v2), .val (.int v3), .val (.ref b20), .val (.int x3), .val (.int (own_ixf (own_bf v0 v1 v2 v3) 4))]) rfl ?_
      show Steps p.tables e below (T39.setTop (mkF m 212 #[.val (.int p0), .val (.int p1), .val (.int (4 : Int32)), .val (.ref b17), .val (.int v0), .val (.int v1), .val (.int v2), .val (.int v3), .val (.ref b20), .val (.int x3), .val (.int (own_ixf (own_bf v0 v1 v2 v3) 4))] [])) t
      refine XS.iload X39.here hx rfl (hb hby at_212) rfl ?_
      show Steps p.tables e below (T39.setTop (mkF m 214 #[.val (.int p0), .val (.int p1), .val (.int (4 : Int32)), .val (.ref b17), .val (.int v0), .val (.int v1), .val (.int v2), .val (.int v3), .val (.ref b20), .val (.int x3), .val (.int (own_ixf (own_bf v0 v1 v2 v3) 4))] [(.int (own_ixf (own_bf v0 v1 v2 v3) 4))])) t
      refine XS.iload X39.here hx rfl (hb hby at_214) rfl ?_
      show Steps p.tables e below (T39.setTop (mkF m 216 #[.val (.int p0), .val (.int p1), .val (.int (4 : Int32)), .val (.ref b17), .val (.int v0), .val (.int v1), .val (.int v2), .val (.int v3), .val (.ref b20), .val (.int x3), .val (.int (own_ixf (own_bf v0 v1 v2 v3) 4))] [(.int x3), (.int (own_ixf (own_bf v0 v1 v2 v3) 4))])) t
      refine XS.icmpNo X39.here hx rfl (hb hby at_216) rfl (XT.ii_ne_f (by subst hx0 hx1 hx2 hx3; rcases h_v0 with rfl | rfl <;> rcases h_v1 with rfl | rfl <;> rcases h_v2 with rfl | rfl <;> rcases h_v3 with rfl | rfl <;> decide)) ?_
      show Steps p.tables e below (T39.setTop (mkF m 219 #[.val (.int p0), .val (.int p1), .val (.int (4 : Int32)), .val (.ref b17), .val (.int v0), .val (.int v1), .val (.int v2), .val (.int v3), .val (.ref b20), .val (.int x3), .val (.int (own_ixf (own_bf v0 v1 v2 v3) 4))] [])) t
      refine XS.iload X39.here hx rfl (hb hby at_219) rfl ?_
      show Steps p.tables e below (T39.setTop (mkF m 221 #[.val (.int p0), .val (.int p1), .val (.int (4 : Int32)), .val (.ref b17), .val (.int v0), .val (.int v1), .val (.int v2), .val (.int v3), .val (.ref b20), .val (.int x3), .val (.int (own_ixf (own_bf v0 v1 v2 v3) 4))] [(.int (own_ixf (own_bf v0 v1 v2 v3) 4))])) t
      refine XS.ifNo X39.here hx rfl (hb hby at_221) rfl (XT.i0_lt_f (by rcases h_v0 with rfl | rfl <;> rcases h_v1 with rfl | rfl <;> rcases h_v2 with rfl | rfl <;> rcases h_v3 with rfl | rfl <;> decide)) ?_
      show Steps p.tables e below (T39.setTop (mkF m 224 #[.val (.int p0), .val (.int p1), .val (.int (4 : Int32)), .val (.ref b17), .val (.int v0), .val (.int v1), .val (.int v2), .val (.int v3), .val (.ref b20), .val (.int x3), .val (.int (own_ixf (own_bf v0 v1 v2 v3) 4))] [])) t
      refine XS.iload X39.here hx rfl (hb hby at_224) rfl ?_
      show Steps p.tables e below (T39.setTop (mkF m 226 #[.val (.int p0), .val (.int p1), .val (.int (4 : Int32)), .val (.ref b17), .val (.int v0), .val (.int v1), .val (.int v2), .val (.int v3), .val (.ref b20), .val (.int x3), .val (.int (own_ixf (own_bf v0 v1 v2 v3) 4))] [(.int (own_ixf (own_bf v0 v1 v2 v3) 4))])) t
      refine XS.aloadN X39.here hx rfl (hb hby at_226) rfl rfl ?_
      show Steps p.tables e below (T39.setTop (mkF m 227 #[.val (.int p0), .val (.int p1), .val (.int (4 : Int32)), .val (.ref b17), .val (.int v0), .val (.int v1), .val (.int v2), .val (.int v3), .val (.ref b20), .val (.int x3), .val (.int (own_ixf (own_bf v0 v1 v2 v3) 4))] [(.ref b17), (.int (own_ixf (own_bf v0 v1 v2 v3) 4))])) t
      exact k)
    obtain ⟨cq40, kq40, q40a, q40b, q40c⟩ := isOf hZ e39 hP3.1
    obtain ⟨_, _, ⟨T40, L40, k40, n40⟩, -, X40, ⟨Lc40, hQ40, l40, y40, z40⟩, st40⟩ := X39.virtualBack hx (y := (⟨"com/example/parfactor/parfactor/model/PotentialTable", "size", "()I"⟩ : MethodName)) (z := (⟨"com/example/parfactor/parfactor/model/PotentialTable", "size", "()I"⟩ : MethodName)) hown (mvT hZ (hw _ (List.mem_of_getElem? (i := 31) rfl))) (mvT hZ (hw _ (List.mem_of_getElem? (i := 32) rfl))) (notFace_of_selects (args := #[]) (mvT hZ (hw _ (List.mem_of_getElem? (i := 34) rfl)))) (mvT hZ (hw _ (List.mem_of_getElem? (i := 34) rfl))) (mvT hZ (hw _ (List.mem_of_getElem? (i := 33) rfl))) (by decide) (backOf (W := 1) (rm_sz l Z a0 hw [] b17 (4 : Int32) pr 16 _ n0 hP3) hZ (hw _ (List.mem_of_getElem? (i := 35) rfl)) (hw _ (List.mem_of_getElem? (i := 3) rfl)) (by decide) (by decide)) q40a q40c (g := (mkF m 227 #[.val (.int p0), .val (.int p1), .val (.int (4 : Int32)), .val (.ref b17), .val (.int v0), .val (.int v1), .val (.int v2), .val (.int v3), .val (.ref b20), .val (.int x3), .val (.int (own_ixf (own_bf v0 v1 v2 v3) 4))] [(.ref b17), (.int (own_ixf (own_bf v0 v1 v2 v3) 4))])) rfl (by rw [hml]; rfl) (Steps.refl _) (argsL := []) (rest := [(.int (own_ixf (own_bf v0 v1 v2 v3) 4))]) (lenOf pd___I rfl) rfl (by show 2 * 0 + _ ≤ _; exact Nat.le_of_eq rfl) (hb hby at_227) (fun _ _ => ⟨rfl, e39, (by decide : 4 + 0 ≤ _), (by decide : 38 + 0 ≤ _)⟩)
    dsimp only [Pt.U, Pt.locs, Pt.cells, Pt.slots] at X40 l40 y40 z40 st40 hQ40
    subst l40 y40 z40
    obtain ⟨rfl, N40q, e40⟩ := hQ40
    have N40 := Fr.app N39 N40q
    replace pre : Pth p e below S0 T40 (mkF m 230 #[.val (.int p0), .val (.int p1), .val (.int (4 : Int32)), .val (.ref b17), .val (.int v0), .val (.int v1), .val (.int v2), .val (.int v3), .val (.ref b20), .val (.int x3), .val (.int (own_ixf (own_bf v0 v1 v2 v3) 4))] [(.int (16 : Nat).toInt32), (.int (own_ixf (own_bf v0 v1 v2 v3) 4))]) := fun t k => pre t (st40.trans k)
    replace pre : Pth p e below S0 T40 (mkF m 238 #[.val (.int p0), .val (.int p1), .val (.int (4 : Int32)), .val (.ref b17), .val (.int v0), .val (.int v1), .val (.int v2), .val (.int v3), .val (.ref b20), .val (.int x3), .val (.int (own_ixf (own_bf v0 v1 v2 v3) 4))] [(.int (1 : Int32))]) := fun t k => pre t (by
      show Steps p.tables e below (T40.setTop (mkF m 230 #[.val (.int p0), .val (.int p1), .val (.int (4 : Int32)), .val (.ref b17), .val (.int v0), .val (.int v1), .val (.int v2), .val (.int v3), .val (.ref b20), .val (.int x3), .val (.int (own_ixf (own_bf v0 v1 v2 v3) 4))] [(.int (16 : Nat).toInt32), (.int (own_ixf (own_bf v0 v1 v2 v3) 4))])) t
      refine XS.icmpNo X40.here hx rfl (hb hby at_230) rfl (XT.ii_ge_f (by rcases h_v0 with rfl | rfl <;> rcases h_v1 with rfl | rfl <;> rcases h_v2 with rfl | rfl <;> rcases h_v3 with rfl | rfl <;> decide)) ?_
      show Steps p.tables e below (T40.setTop (mkF m 233 #[.val (.int p0), .val (.int p1), .val (.int (4 : Int32)), .val (.ref b17), .val (.int v0), .val (.int v1), .val (.int v2), .val (.int v3), .val (.ref b20), .val (.int x3), .val (.int (own_ixf (own_bf v0 v1 v2 v3) 4))] [])) t
      refine XS.iconst X40.here hx rfl (hb hby at_233) ?_
      show Steps p.tables e below (T40.setTop (mkF m 234 #[.val (.int p0), .val (.int p1), .val (.int (4 : Int32)), .val (.ref b17), .val (.int v0), .val (.int v1), .val (.int v2), .val (.int v3), .val (.ref b20), .val (.int x3), .val (.int (own_ixf (own_bf v0 v1 v2 v3) 4))] [(.int (1 : Int32))])) t
      refine XS.goto X40.here hx rfl (pc0 := 234) (pc' := 238) rfl (hb hby at_234) (by decide) (by decide) ?_
      show Steps p.tables e below (T40.setTop (mkF m 238 #[.val (.int p0), .val (.int p1), .val (.int (4 : Int32)), .val (.ref b17), .val (.int v0), .val (.int v1), .val (.int v2), .val (.int v3), .val (.ref b20), .val (.int x3), .val (.int (own_ixf (own_bf v0 v1 v2 v3) 4))] [(.int (1 : Int32))])) t
      exact k)
    obtain ⟨fs, hr, hrun, hended, hW, hsame⟩ := X40.leave (v := some (.int (1 : Int32))) (fun h => by rw [Bd.returns] at h; cases h)
    subst hS0
    refine ⟨_, _, pre _ ?_, hrun, hended, _, _, rfl, ?_, ⟨_, rfl⟩, hW, hsame.mono (by decide) (by decide)⟩
    · exact retN X40 hx (t := .boolean) Bd.returns (by simp) (hb hby at_238) hr
    · show Q_law Z p0 p1 h0 n0 _ T40.heap _
      rw [e40]
      exact ⟨rfl, N40⟩
set_option maxRecDepth 65536 in
set_option maxHeartbeats 40000000 in
theorem comes_1 {Post : Tables → Env → Array Value → State → Outcome → State → Prop} (hpost : ∀ tb e args s v u, (limb_1_1.after args s (.returned v) u = true ∧ limb_1_2.after args s (.returned v) u = true ∧ True) → FrameEnd s (.returned v) u (Jvm.fieldLocs frame_1_writes args s ++ Jvm.arrayLocs frame_1_arrays args s ++ Jvm.staticLocs frame_1_statics s) 16 192 → Post tb e args s (.returned v) u) :
    ArmFor flags0 classFile x code maxLocals ret World_1 tables_1 room_1 Calls_1 rest_1 Pre_1 Post := by
  intro l hfl _ _ p e ha hc hk s m args below hf hA hF happ hP
  obtain ⟨hcalls, hrest, hpre⟩ := hP
  obtain ⟨-, -, -, hnamed, -, -, -, hat⟩ := (Spec.applies_iff hf).mp happ
  obtain ⟨hg, hn⟩ := and_e (Cond.before_iff.mp (show (Jvm.Cond.and given_1 narrow_1).before args s = true from hpre))
  obtain ⟨gv1a, gv1b⟩ := and_e hg
  obtain ⟨gv2a, gv2b⟩ := and_e gv1b
  obtain ⟨w0, w1, rfl⟩ : ∃ w0 w1 : Value, args = #[w0, w1] := by
    have hs : args.size = 2 := by simpa [Cond.value, given_1] using gv1a
    obtain ⟨L⟩ := args
    match L, hs with
    | [w0, w1], _ => exact ⟨w0, w1, rfl⟩
  have hw := fun d (hd : d ∈ tables_1) => atoms_spec (ws := Jvm.Cond.code x code maxLocals ret :: tables_1) hat d (List.mem_cons_of_mem _ hd)
  have hfit : Fit s := fun {y c} hc i hi => by
    obtain ⟨ha, rfl⟩ := Array.getElem?_eq_some_iff.mp hc
    have q := List.all_eq_true.mp ((Array.all_eq_true_iff_forall_mem.mp hF) _ (Array.getElem_mem ha)) i (List.mem_range.mpr hi)
    simpa [Array.getElem?_eq_getElem hi] using q
  obtain ⟨i0, ei0⟩ := is_v gv2a
  obtain rfl : w0 = (.int i0) := Option.some.inj ei0
  obtain ⟨i1, ei1⟩ := is_v gv2b
  obtain rfl : w1 = (.int i1) := Option.some.inj ei1
  obtain ⟨n, o, h1, h2, h3, _, L, rfl, ⟨rfl, N⟩, hq⟩ := rm_law l s _ hw tables_1 i0 i1 s.heap s.heap.size (Nat.le_refl _)  p e ha hc hk s m _ below hf ((Spec.applies_iff_loose hf).mp happ).1 ⟨rfl, State.Warmed39.refl s, rfl⟩ trivial
  refine ⟨n, _, h1, h2, h3, hpost _ _ _ _ _ _ ⟨Cond.after_iff.mpr rfl, Cond.after_iff.mpr (eq_i res_at (Term.int_eval (1)) rfl), trivial⟩ ⟨hq.1, hq.2.1, (hq.2.2.sift fun y hy => Or.inr (N y hy)).mono (by decide) (by decide)⟩⟩
theorem main_1_1 : Claimed_1_1 := comes_1 fun _ _ _ _ _ _ h hF => ⟨h.1, hF⟩
theorem main_1_2 : Claimed_1_2 := comes_1 fun _ _ _ _ _ _ h hF => ⟨h.2.1, hF⟩
end Jvm.Pilot.@@N@@
namespace Jvm.Pilot.@@N@@
open Jvm Jvm.ClassFile Sem Op Lib Jvm.Free Jvm.Stand Jvm.Pilot.@@N@@.Jvm.D
/-! MADE BY PROGRAM (witnessworld.py) out of the Statement's table words and the real class files: 13 classes; the members and pool entries that the words name. The judged class is class 1, her method 1. -/
namespace start1
open Jvm.ClassFile
def u (s : String) : CpInfo := .utf8 (stringToUtf16 s)
/-- a pool by its gaps: so many unusable entries, then the entry; so many at the end -/
def gap : Nat → List CpInfo → List CpInfo
  | 0, r => r
  | n + 1, r => .unusable :: gap n r
def poolList (es : List (Nat × CpInfo)) (last : Nat) : List CpInfo := es.foldr (fun e r => gap e.1 (e.2 :: r)) (gap last [])
def pool (es : List (Nat × CpInfo)) (last : Nat) : Array CpInfo := ⟨poolList es last⟩
def fileOf (pool : Array CpInfo) (this : Nat) (attrs : Array Attribute := #[]) (ms : Array MethodInfo := #[]) (fl : Nat := 33) (sup : Nat := 0) (ifs : Array Nat := #[]) (fds : Array FieldInfo := #[]) : ClassFile where
  minorVersion := 0
  majorVersion := 65
  constantPool := pool
  accessFlags := fl
  thisClass := this
  superClass := sup
  interfaces := ifs
  fields := fds
  methods := ms
  attributes := attrs
def plain (name : String) (sup : Option ClassId) : Class where
  name := name
  kind := .ordinary
  loader := none
  accessFlags := 33
  super := sup
  interfaces := #[]
  cf := none
  fields := #[]
  methods := #[]
  instanceTypes := #[]
  staticTypes := #[]
  resolved := #[]
  callSites := []
  init := .initialized
  statics := none
  mirror := none

def pool0 : Array CpInfo := pool [(5, u "<init>"), (0, u "()V"), (1, .class_ 10), (1, u "java/lang/Object"), (85, u "clone"), (0, u "()Ljava/lang/Object;")] 26

def k0c0 : Code := { maxStack := 0, maxLocals := 1, code := object_method_1_code, exceptionTable := #[], attributes := #[] }
def k0m0 : Method := { name := "<init>", desc := "()V", sig := { parameters := [], returnType := none }, accessFlags := 1, code := some k0c0 }
def k0m1 : Method := { name := "clone", desc := "()Ljava/lang/Object;", sig := { parameters := [], returnType := some (.object "java/lang/Object") }, accessFlags := 260, code := none }
/-- java/lang/Object -/
def k0 : Class := { plain "java/lang/Object" none with
  accessFlags := 33
  interfaces := #[]
  cf := some (fileOf pool0 8 #[] #[{ accessFlags := 1, nameIndex := 5, descriptorIndex := 6, attributes := #[] }, { accessFlags := 260, nameIndex := 96, descriptorIndex := 97, attributes := #[] }] 33 0 #[] #[])
  fields := #[]
  methods := #[k0m0, k0m1]
  instanceTypes := #[]
  staticTypes := #[]
  resolved := Array.replicate 124 none
  statics := none }

def pool1 : Array CpInfo := pool [(2, .class_ 4), (1, u "java/lang/Object"), (0, u "<init>"), (0, u "()V"), (0, .integer 2147483647), (0, .class_ 9), (0, u "com/example/parfactor/parfactor/model/PotentialTable"), (0, .methodref 8 11), (0, .nameAndType 5 12), (0, u "(I[D)V"), (0, .methodref 8 14), (0, .nameAndType 15 16), (0, u "indexOf"), (0, u "([Z)I"), (0, .methodref 8 18), (0, .nameAndType 19 20), (0, u "size"), (0, u "()I"), (0, .class_ 22), (0, u "com/example/parfactor/parfactor/model/PotentialTableIndexOfPinLaw"), (2, u "law"), (0, u "(II)Z")] 5

def k1m0 : Method := { name := "<init>", desc := "()V", sig := { parameters := [], returnType := none }, accessFlags := 1, code := none }
def k1c1 : Code := { maxStack := 5, maxLocals := 11, code := code, exceptionTable := #[], attributes := #[] }
def k1m1 : Method := { name := "law", desc := "(II)Z", sig := { parameters := [.int, .int], returnType := some .boolean }, accessFlags := 9, code := some k1c1 }
/-- com/example/parfactor/parfactor/model/PotentialTableIndexOfPinLaw -/
def k1 : Class := { plain "com/example/parfactor/parfactor/model/PotentialTableIndexOfPinLaw" (some 0) with
  accessFlags := 49
  interfaces := #[]
  cf := some (fileOf pool1 21 #[] #[{ accessFlags := 1, nameIndex := 5, descriptorIndex := 6, attributes := #[] }, { accessFlags := 9, nameIndex := 25, descriptorIndex := 26, attributes := #[] }] 49 2 #[] #[])
  fields := #[]
  methods := #[k1m0, k1m1]
  instanceTypes := #[]
  staticTypes := #[]
  resolved := Array.replicate 32 none
  statics := none }

def pool2 : Array CpInfo := pool [(1, .methodref 2 3), (0, .class_ 4), (0, .nameAndType 5 6), (0, u "java/lang/Object"), (0, u "<init>"), (0, u "()V"), (0, .class_ 8), (0, u "com/example/parfactor/parfactor/model/PotentialTable"), (9, .methodref 19 20), (0, .class_ 21), (0, .nameAndType 22 23), (0, u "[D"), (0, u "clone"), (0, u "()Ljava/lang/Object;"), (5, .double 9218868437227405312), (4, .fieldref 7 35), (0, .nameAndType 36 37), (0, u "arity"), (0, u "I"), (0, .fieldref 7 39), (0, .nameAndType 40 21), (0, u "potentials"), (2, u "indexOf"), (0, u "([Z)I"), (13, u "MAX_ARITY"), (2, u "(I[D)V"), (3, u "()I"), (0, u "size")] 30

def k2c0 : Code := { maxStack := 6, maxLocals := 6, code := prog_61_method_1_code, exceptionTable := #[], attributes := #[] }
def k2m0 : Method := { name := "<init>", desc := "(I[D)V", sig := { parameters := [.int, (.array .double)], returnType := none }, accessFlags := 129, code := some k2c0 }
def k2c1 : Code := { maxStack := 1, maxLocals := 1, code := prog_61_method_3_code, exceptionTable := #[], attributes := #[] }
def k2m1 : Method := { name := "size", desc := "()I", sig := { parameters := [], returnType := some .int }, accessFlags := 1, code := some k2c1 }
def k2c2 : Code := { maxStack := 5, maxLocals := 7, code := prog_61_method_6_code, exceptionTable := #[], attributes := #[] }
def k2m2 : Method := { name := "indexOf", desc := "([Z)I", sig := { parameters := [(.array .boolean)], returnType := some .int }, accessFlags := 129, code := some k2c2 }
/-- com/example/parfactor/parfactor/model/PotentialTable -/
def k2 : Class := { plain "com/example/parfactor/parfactor/model/PotentialTable" (some 0) with
  accessFlags := 49
  interfaces := #[]
  cf := some (fileOf pool2 7 #[] #[{ accessFlags := 129, nameIndex := 5, descriptorIndex := 61, attributes := #[] }, { accessFlags := 1, nameIndex := 66, descriptorIndex := 65, attributes := #[] }, { accessFlags := 129, nameIndex := 43, descriptorIndex := 44, attributes := #[] }] 49 2 #[] #[{ accessFlags := 25, nameIndex := 58, descriptorIndex := 37, attributes := #[] }, { accessFlags := 18, nameIndex := 36, descriptorIndex := 37, attributes := #[] }, { accessFlags := 18, nameIndex := 40, descriptorIndex := 21, attributes := #[] }])
  fields := #[{ name := "MAX_ARITY", type := .int, accessFlags := 25, slot := 0, constantValue := 0 }, { name := "arity", type := .int, accessFlags := 18, slot := 0, constantValue := 0 }, { name := "potentials", type := (.array .double), accessFlags := 18, slot := 1, constantValue := 0 }]
  methods := #[k2m0, k2m1, k2m2]
  instanceTypes := #[.int, (.array .double)]
  staticTypes := #[.int]
  resolved := Array.replicate 97 none
  statics := none }

def pool3 : Array CpInfo := pool [(1, .class_ 2), (0, u "java/lang/Cloneable"), (0, .class_ 4), (0, u "java/lang/Object")] 2

/-- java/lang/Cloneable -/
def k3 : Class := { plain "java/lang/Cloneable" (some 0) with
  accessFlags := 1537
  interfaces := #[]
  cf := some (fileOf pool3 1 #[] #[] 1537 3 #[] #[])
  fields := #[]
  methods := #[]
  instanceTypes := #[]
  staticTypes := #[]
  resolved := Array.replicate 7 none
  statics := none }

def pool4 : Array CpInfo := pool [(1, u "java/io/Serializable"), (0, .class_ 1), (0, u "java/lang/Object"), (0, .class_ 3)] 3

/-- java/io/Serializable -/
def k4 : Class := { plain "java/io/Serializable" (some 0) with
  accessFlags := 1537
  interfaces := #[]
  cf := some (fileOf pool4 2 #[] #[] 1537 4 #[] #[])
  fields := #[]
  methods := #[]
  instanceTypes := #[]
  staticTypes := #[]
  resolved := Array.replicate 8 none
  statics := none }

/-- the primitive boolean -/
def k5 : Class := { plain "boolean" none with kind := .primitive 'Z', accessFlags := 0x411 }
/-- [Z -/
def k6 : Class := { plain "[Z" (some 0) with kind := .array 5 .boolean, interfaces := #[3, 4], accessFlags := 1041 }

/-- the primitive byte -/
def k7 : Class := { plain "byte" none with kind := .primitive 'B', accessFlags := 0x411 }
/-- [B -/
def k8 : Class := { plain "[B" (some 0) with kind := .array 7 .byte, interfaces := #[3, 4], accessFlags := 1041 }

/-- the primitive double -/
def k9 : Class := { plain "double" none with kind := .primitive 'D', accessFlags := 0x411 }
/-- [D -/
def k10 : Class := { plain "[D" (some 0) with kind := .array 9 .double, interfaces := #[3, 4], accessFlags := 1041 }

/-- the primitive int -/
def k11 : Class := { plain "int" none with kind := .primitive 'I', accessFlags := 0x411 }
/-- [I -/
def k12 : Class := { plain "[I" (some 0) with kind := .array 11 .int, interfaces := #[3, 4], accessFlags := 1041 }

def heap : Heap := #[]
def classes : Array Class := #[k0, k1, k2, k3, k4, k5, k6, k7, k8, k9, k10, k11, k12]
def interned : List (Array UInt16 × Addr) := []
def slotsUsed : Nat := 0
def theMethod : MethodId := ⟨1, 1⟩
def args0 : Array Value := #[.int 3, .int 5]
def aboutOver (below : List Frame) : State where
  vm := { classes := classes, interned := interned.toArray }
  heap := heap
  slotsUsed := slotsUsed
  threads := #[{ frames := .invoking theMethod args0 :: below }]
def below0 : List Frame := [.native { method := ⟨0, 0⟩, args := #[] }]
def about1 : State := aboutOver below0
def p0 : Program := .bare "" "" ""
def e0 : Env := launch0.env 0 0 0
theorem w_frames : about1.frames = Frame.invoking theMethod args0 :: below0 := rfl
set_option maxRecDepth 65536 in
theorem w_args : argsFit about1.vm theMethod args0 = true := by decide +kernel
set_option maxRecDepth 65536 in
theorem w_heap : heapFits about1 = true := by decide +kernel
set_option maxRecDepth 65536 in
theorem w_runnable : about1.curStatus? = some .runnable := by decide +kernel
set_option maxRecDepth 65536 in
theorem w_alone : about1.alone = true := by decide +kernel
set_option maxRecDepth 65536 in
theorem w_named : about1.methodNamed? x = some theMethod := by decide +kernel
set_option maxRecDepth 65536 in
theorem w_hears : about1.hears theMethod below0 = true := by decide +kernel
set_option maxRecDepth 65536 in
theorem w_ripe : about1.ripe theMethod args0 below0 = true := by decide +kernel
theorem w_running : about1.status = .running := rfl
set_option maxRecDepth 65536 in
theorem w_room : about1.hasRoom e0.platform room_1 = true :=
  launch0.hasRoom_least _ room_1 (by decide +kernel) (by decide +kernel) (by decide +kernel) (by decide +kernel) (by decide +kernel) (by decide +kernel)
theorem allAtoms_all (ts : List Jvm.Cond) (a : Array Jvm.Value) (st : Jvm.State) : (allAtoms ts).before a st = ts.all (fun c => c.before a st) := by
  induction ts with
  | nil => rfl
  | cons c t ih =>
    show (Jvm.Cond.and c (allAtoms t)).before a st = _
    rw [Jvm.Cond.before_and, ih, List.all_cons]
def words1 : List Jvm.Cond := Jvm.Cond.code x code maxLocals ret :: tables_1
/-- a 'code' word, met by the world's own term for the bytes: nothing is compared byte by byte -/
theorem code_word {y : MethodName} {bytes : ByteArray} {mx : Nat} {rt : Option FieldType} {a : Array Value} {s : State} {m : MethodId} {meth : Method} {c : Code} (h1 : s.methodNamed? y = some m) (h2 : s.vm.method? m = some meth) (h3 : meth.code = some c) (h4 : c.code = bytes)
    (h5 : (c.maxLocals == mx && c.exceptionTable.isEmpty && decide (c.maxStack ≤ mostOperands) && decide (meth.sig.returnType = rt) && !meth.locks && decide (parseMethodDescriptor y.desc = some meth.sig)) = true) : (Jvm.Cond.code y bytes mx rt).before a s = true := by
  simp only [Bool.and_eq_true, beq_iff_eq, Bool.not_eq_true', decide_eq_true_eq] at h5
  obtain ⟨⟨⟨⟨⟨g1, g2⟩, g3⟩, g4⟩, g5⟩, g6⟩ := h5
  simp [Cond.before, Cond.holds, Cond.value, h1, h2, h3, h4, g1, g2, g3, g4, g5, g6]
def isCode : Jvm.Cond → Bool
  | .code _ _ _ _ => true
  | _ => false
theorem all_split {L : List Jvm.Cond} {P : Jvm.Cond → Bool} (h1 : L.all (fun c => isCode c || P c) = true) (h2 : ∀ c ∈ L.filter isCode, P c = true) : L.all P = true := by
  refine List.all_eq_true.mpr fun c hc => ?_
  have h := List.all_eq_true.mp h1 c hc
  rcases Bool.eq_false_or_eq_true (isCode c) with hi | hi
  · exact h2 c (List.mem_filter.mpr ⟨hc, hi⟩)
  · simpa [hi] using h
set_option maxRecDepth 65536 in
theorem w_c0 : (Jvm.Cond.code x code maxLocals ret).before args0 about1 = true := code_word (m := ⟨1, 1⟩) (meth := k1m1) (c := k1c1) (by decide +kernel) rfl rfl rfl (by decide +kernel)
set_option maxRecDepth 65536 in
theorem w_c1 : (Jvm.Cond.code ({ cls := "com/example/parfactor/parfactor/model/PotentialTable", name := "<init>", desc := "(I[D)V" } : Jvm.MethodName) prog_61_method_1_code (6 : Nat) (Option.none : Option Jvm.ClassFile.FieldType)).before args0 about1 = true := code_word (m := ⟨2, 0⟩) (meth := k2m0) (c := k2c0) (by decide +kernel) rfl rfl rfl (by decide +kernel)
set_option maxRecDepth 65536 in
theorem w_c2 : (Jvm.Cond.code ({ cls := "java/lang/Object", name := "<init>", desc := "()V" } : Jvm.MethodName) object_method_1_code (1 : Nat) (Option.none : Option Jvm.ClassFile.FieldType)).before args0 about1 = true := code_word (m := ⟨0, 0⟩) (meth := k0m0) (c := k0c0) (by decide +kernel) rfl rfl rfl (by decide +kernel)
set_option maxRecDepth 65536 in
theorem w_c3 : (Jvm.Cond.code ({ cls := "com/example/parfactor/parfactor/model/PotentialTable", name := "indexOf", desc := "([Z)I" } : Jvm.MethodName) prog_61_method_6_code (7 : Nat) (Option.some Jvm.ClassFile.FieldType.int)).before args0 about1 = true := code_word (m := ⟨2, 2⟩) (meth := k2m2) (c := k2c2) (by decide +kernel) rfl rfl rfl (by decide +kernel)
set_option maxRecDepth 65536 in
theorem w_c4 : (Jvm.Cond.code ({ cls := "com/example/parfactor/parfactor/model/PotentialTable", name := "size", desc := "()I" } : Jvm.MethodName) prog_61_method_3_code (1 : Nat) (Option.some Jvm.ClassFile.FieldType.int)).before args0 about1 = true := code_word (m := ⟨2, 1⟩) (meth := k2m1) (c := k2c1) (by decide +kernel) rfl rfl rfl (by decide +kernel)
def codes1 : List Jvm.Cond := [Jvm.Cond.code x code maxLocals ret, Jvm.Cond.code ({ cls := "com/example/parfactor/parfactor/model/PotentialTable", name := "<init>", desc := "(I[D)V" } : Jvm.MethodName) prog_61_method_1_code (6 : Nat) (Option.none : Option Jvm.ClassFile.FieldType), Jvm.Cond.code ({ cls := "java/lang/Object", name := "<init>", desc := "()V" } : Jvm.MethodName) object_method_1_code (1 : Nat) (Option.none : Option Jvm.ClassFile.FieldType), Jvm.Cond.code ({ cls := "com/example/parfactor/parfactor/model/PotentialTable", name := "indexOf", desc := "([Z)I" } : Jvm.MethodName) prog_61_method_6_code (7 : Nat) (Option.some Jvm.ClassFile.FieldType.int), Jvm.Cond.code ({ cls := "com/example/parfactor/parfactor/model/PotentialTable", name := "size", desc := "()I" } : Jvm.MethodName) prog_61_method_3_code (1 : Nat) (Option.some Jvm.ClassFile.FieldType.int)]
set_option maxRecDepth 65536 in
theorem codes_eq : words1.filter isCode = codes1 := rfl
theorem w_codes : ∀ c ∈ words1.filter isCode, c.before args0 about1 = true := by
  rw [codes_eq]
  intro c hc
  simp only [codes1, List.mem_cons, List.not_mem_nil, or_false] at hc
  rcases hc with rfl | rfl | rfl | rfl | rfl
  · exact w_c0
  · exact w_c1
  · exact w_c2
  · exact w_c3
  · exact w_c4
set_option maxRecDepth 65536 in
theorem w_t1 : (words1.take 24).all (fun c => isCode c || c.before args0 about1) = true := by decide +kernel
set_option maxRecDepth 65536 in
theorem w_t2 : (words1.drop 24).all (fun c => isCode c || c.before args0 about1) = true := by decide +kernel
theorem w_tables : (allAtoms (Jvm.Cond.code x code maxLocals ret :: tables_1)).before args0 about1 = true := by
  rw [allAtoms_all]
  show words1.all (fun c => c.before args0 about1) = true
  refine all_split ?_ w_codes
  rw [← List.take_append_drop 24 words1, List.all_append, w_t1, w_t2]
  rfl
set_option maxRecDepth 65536 in
theorem w_case : (Jvm.Cond.and given_1 narrow_1).before args0 about1 = true := by decide +kernel
theorem w_applies : (headSpec (Jvm.Cond.code x code maxLocals ret :: tables_1) room_1).applies x e0.platform about1 = true :=
  (Spec.applies_iff w_frames).mpr ⟨w_running, w_runnable, w_alone, w_named, w_hears, w_ripe, w_room, w_tables⟩
theorem atStart : AtStart classFile x code maxLocals ret World_1 tables_1 room_1 Calls_1 rest_1 Pre_1 launch0 p0 e0 about1 theMethod args0 below0 :=
  ⟨lists_1, trivial, launch0.admits_env _ _ _, launch0.least_env, fairChoices_fair.cas, fairChoices_fair.clock, w_frames, w_args, w_heap, w_applies, trivial, trivial, w_case⟩
end start1
theorem witness_1 : WitnessClaimed_1 := ⟨start1.p0, start1.e0, start1.about1, start1.theMethod, start1.args0, start1.below0, start1.atStart⟩
end Jvm.Pilot.@@N@@
