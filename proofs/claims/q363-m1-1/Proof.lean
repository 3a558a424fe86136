import JvmDerived
import JvmDerived.Pilot.@@N@@Statement
import JvmDerived.Pilot.@@N@@Code
set_option linter.unusedVariables false
set_option linter.unusedSimpArgs false

namespace Jvm.RoadKit
open Sem ClassFile Op Lib Jvm.Stand Jvm.Free Jvm.LawKit
section New
variable {p : Program} {l : Launch} {e : Env} {R : Room} {s : State} {m : MethodId} {args : Array Value} {below : List Frame} {meth : Method} {c : Code} {T : State} {locs : List Loc} {cells slots : Nat}
theorem retI (X : Stand p l e R s m args below meth c T locs cells slots) (hx : p.tables.exec = Jvm.exec) {pc : Nat} {Ls : Array Slot} {z : Int32} {rest : List Value} (hret : meth.sig.returnType = some .int) (hd : decode c.code pc = .ok (.ireturn, 1)) {fs : List Frame}
    (hl : ∀ (f : JFrame) (acts : List Action), f.method = m → f.locked = none → f.entered = [] → (doReturn e (T.setTop f) acts (some (.int z))).1 = T.setFrames fs) : Steps p.tables e below (T.setTop (mkF m pc Ls (.int z :: rest))) (T.setFrames fs) := by
  have hm' : T.vm.method? m = some meth := X.method'
  have hn : narrow .int (.int z) = .int z := rfl
  show Steps p.tables e below (T.setTop { method := m, pc := pc, locals := Ls, stack := _ :: rest, locked := none }) _
  jvm_step X.here [X.here.top, hx, hd, hm', hret, hn]
  first | (intro acts; rw [hl _ acts rfl rfl rfl]) | rw [hl _ _ rfl rfl rfl]
  exact Steps.refl _
end New
end Jvm.RoadKit
namespace Jvm.Pilot.@@N@@
open Jvm Jvm.ClassFile Sem Op Lib Jvm.Free Jvm.Stand Jvm.LawKit Jvm.RoadKit Bundle Jvm.Pilot.@@N@@.Jvm.D
/-- from S0 the run comes to T with the frame g on top -/
abbrev Pth (p : Program) (e : Env) (below : List Frame) (S0 T : State) (g : JFrame) : Prop := ∀ t, Steps p.tables e below (T.setTop g) t → Steps p.tables e below S0 t
theorem ef_ini (m : MethodId) (x0 : Addr) (x1 : Int32) (x2 : Int64) (x3 : Int64) (x4 : Int64) (x5 : Int64)  : entryFrame m #[(.ref x0), (.int x1), (.long x2), (.long x3), (.long x4), (.long x5)] 10 = mkF m 0 #[.val (.ref x0), .val (.int x1), .val (.long x2), .second, .val (.long x3), .second, .val (.long x4), .second, .val (.long x5), .second] [] := by first | (simp [entryFrame, mkF, argsToLocals, Value.category]; done) | rfl
theorem pn_com_example_inexact_limiter_inexactlimiter_algorithm_Decision : plainName "com/example/inexact_limiter/inexactlimiter/algorithm/Decision" = true := by first | (simp [plainName, overriddenIn]; done) | decide +kernel
theorem d_ini_0 : decode prog_1_method_1_code 0 = .ok (.aload_n 0, 1) := by decide +kernel
theorem d_ini_1 : decode prog_1_method_1_code 1 = .ok (.invokespecial 3, 3) := by decide +kernel
theorem d_ini_4 : decode prog_1_method_1_code 4 = .ok (.aload_n 0, 1) := by decide +kernel
theorem d_ini_5 : decode prog_1_method_1_code 5 = .ok (.iload_n 1, 1) := by decide +kernel
theorem d_ini_6 : decode prog_1_method_1_code 6 = .ok (.putfield 9, 3) := by decide +kernel
theorem d_ini_9 : decode prog_1_method_1_code 9 = .ok (.aload_n 0, 1) := by decide +kernel
theorem d_ini_10 : decode prog_1_method_1_code 10 = .ok (.lload_n 2, 1) := by decide +kernel
theorem d_ini_11 : decode prog_1_method_1_code 11 = .ok (.putfield 15, 3) := by decide +kernel
theorem d_ini_14 : decode prog_1_method_1_code 14 = .ok (.aload_n 0, 1) := by decide +kernel
theorem d_ini_15 : decode prog_1_method_1_code 15 = .ok (.lload 4, 2) := by decide +kernel
theorem d_ini_17 : decode prog_1_method_1_code 17 = .ok (.putfield 19, 3) := by decide +kernel
theorem d_ini_20 : decode prog_1_method_1_code 20 = .ok (.aload_n 0, 1) := by decide +kernel
theorem d_ini_21 : decode prog_1_method_1_code 21 = .ok (.lload 6, 2) := by decide +kernel
theorem d_ini_23 : decode prog_1_method_1_code 23 = .ok (.putfield 22, 3) := by decide +kernel
theorem d_ini_26 : decode prog_1_method_1_code 26 = .ok (.aload_n 0, 1) := by decide +kernel
theorem d_ini_27 : decode prog_1_method_1_code 27 = .ok (.lload 8, 2) := by decide +kernel
theorem d_ini_29 : decode prog_1_method_1_code 29 = .ok (.putfield 25, 3) := by decide +kernel
theorem d_ini_32 : decode prog_1_method_1_code 32 = .ok (.return_, 1) := by decide +kernel
theorem ef_eq (m : MethodId) (x0 : Addr) (x1 : Addr)  : entryFrame m #[(.ref x0), (.ref x1)] 3 = mkF m 0 #[.val (.ref x0), .val (.ref x1), .unset] [] := by first | (simp [entryFrame, mkF, argsToLocals, Value.category]; done) | rfl
theorem d_eq_0 : decode prog_1_method_7_code 0 = .ok (.aload_n 1, 1) := by decide +kernel
theorem d_eq_1 : decode prog_1_method_7_code 1 = .ok (.instanceof 10, 3) := by decide +kernel
theorem d_eq_4 : decode prog_1_method_7_code 4 = .ok (.ifCond .eq 11, 3) := by decide +kernel
theorem d_eq_7 : decode prog_1_method_7_code 7 = .ok (.aload_n 1, 1) := by decide +kernel
theorem d_eq_8 : decode prog_1_method_7_code 8 = .ok (.checkcast 10, 3) := by decide +kernel
theorem d_eq_11 : decode prog_1_method_7_code 11 = .ok (.astore_n 2, 1) := by decide +kernel
theorem d_eq_12 : decode prog_1_method_7_code 12 = .ok (.goto 5, 3) := by decide +kernel
theorem d_eq_17 : decode prog_1_method_7_code 17 = .ok (.aload_n 0, 1) := by decide +kernel
theorem d_eq_18 : decode prog_1_method_7_code 18 = .ok (.getfield 9, 3) := by decide +kernel
theorem d_eq_21 : decode prog_1_method_7_code 21 = .ok (.aload_n 2, 1) := by decide +kernel
theorem d_eq_22 : decode prog_1_method_7_code 22 = .ok (.getfield 9, 3) := by decide +kernel
theorem d_eq_25 : decode prog_1_method_7_code 25 = .ok (.if_icmp .ne 55, 3) := by decide +kernel
theorem d_eq_28 : decode prog_1_method_7_code 28 = .ok (.aload_n 0, 1) := by decide +kernel
theorem d_eq_29 : decode prog_1_method_7_code 29 = .ok (.getfield 15, 3) := by decide +kernel
theorem d_eq_32 : decode prog_1_method_7_code 32 = .ok (.aload_n 2, 1) := by decide +kernel
theorem d_eq_33 : decode prog_1_method_7_code 33 = .ok (.getfield 15, 3) := by decide +kernel
theorem d_eq_36 : decode prog_1_method_7_code 36 = .ok (.lcmp, 1) := by decide +kernel
theorem d_eq_37 : decode prog_1_method_7_code 37 = .ok (.ifCond .ne 43, 3) := by decide +kernel
theorem d_eq_40 : decode prog_1_method_7_code 40 = .ok (.aload_n 0, 1) := by decide +kernel
theorem d_eq_41 : decode prog_1_method_7_code 41 = .ok (.getfield 19, 3) := by decide +kernel
theorem d_eq_44 : decode prog_1_method_7_code 44 = .ok (.aload_n 2, 1) := by decide +kernel
theorem d_eq_45 : decode prog_1_method_7_code 45 = .ok (.getfield 19, 3) := by decide +kernel
theorem d_eq_48 : decode prog_1_method_7_code 48 = .ok (.lcmp, 1) := by decide +kernel
theorem d_eq_49 : decode prog_1_method_7_code 49 = .ok (.ifCond .ne 31, 3) := by decide +kernel
theorem d_eq_52 : decode prog_1_method_7_code 52 = .ok (.aload_n 0, 1) := by decide +kernel
theorem d_eq_53 : decode prog_1_method_7_code 53 = .ok (.getfield 22, 3) := by decide +kernel
theorem d_eq_56 : decode prog_1_method_7_code 56 = .ok (.aload_n 2, 1) := by decide +kernel
theorem d_eq_57 : decode prog_1_method_7_code 57 = .ok (.getfield 22, 3) := by decide +kernel
theorem d_eq_60 : decode prog_1_method_7_code 60 = .ok (.lcmp, 1) := by decide +kernel
theorem d_eq_61 : decode prog_1_method_7_code 61 = .ok (.ifCond .ne 19, 3) := by decide +kernel
theorem d_eq_64 : decode prog_1_method_7_code 64 = .ok (.aload_n 0, 1) := by decide +kernel
theorem d_eq_65 : decode prog_1_method_7_code 65 = .ok (.getfield 25, 3) := by decide +kernel
theorem d_eq_68 : decode prog_1_method_7_code 68 = .ok (.aload_n 2, 1) := by decide +kernel
theorem d_eq_69 : decode prog_1_method_7_code 69 = .ok (.getfield 25, 3) := by decide +kernel
theorem d_eq_72 : decode prog_1_method_7_code 72 = .ok (.lcmp, 1) := by decide +kernel
theorem d_eq_73 : decode prog_1_method_7_code 73 = .ok (.ifCond .ne 7, 3) := by decide +kernel
theorem d_eq_76 : decode prog_1_method_7_code 76 = .ok (.iconst 1, 1) := by decide +kernel
theorem d_eq_77 : decode prog_1_method_7_code 77 = .ok (.goto 4, 3) := by decide +kernel
theorem d_eq_81 : decode prog_1_method_7_code 81 = .ok (.ireturn, 1) := by decide +kernel
theorem d_eq_80 : decode prog_1_method_7_code 80 = .ok (.iconst 0, 1) := by decide +kernel
theorem ef_eqn (m : MethodId) (x0 : Addr)  : entryFrame m #[(.ref x0), .null] 3 = mkF m 0 #[.val (.ref x0), .val .null, .unset] [] := by first | (simp [entryFrame, mkF, argsToLocals, Value.category]; done) | rfl
theorem d_eqn_0 : decode prog_1_method_7_code 0 = .ok (.aload_n 1, 1) := by decide +kernel
theorem d_eqn_1 : decode prog_1_method_7_code 1 = .ok (.instanceof 10, 3) := by decide +kernel
theorem d_eqn_4 : decode prog_1_method_7_code 4 = .ok (.ifCond .eq 11, 3) := by decide +kernel
theorem d_eqn_15 : decode prog_1_method_7_code 15 = .ok (.iconst 0, 1) := by decide +kernel
theorem d_eqn_16 : decode prog_1_method_7_code 16 = .ok (.ireturn, 1) := by decide +kernel
theorem ef_eql (m : MethodId) (x0 : Addr) (x1 : Addr)  : entryFrame m #[(.ref x0), (.ref x1)] 3 = mkF m 0 #[.val (.ref x0), .val (.ref x1), .unset] [] := by first | (simp [entryFrame, mkF, argsToLocals, Value.category]; done) | rfl
theorem d_eql_0 : decode prog_1_method_7_code 0 = .ok (.aload_n 1, 1) := by decide +kernel
theorem d_eql_1 : decode prog_1_method_7_code 1 = .ok (.instanceof 10, 3) := by decide +kernel
theorem d_eql_4 : decode prog_1_method_7_code 4 = .ok (.ifCond .eq 11, 3) := by decide +kernel
theorem d_eql_15 : decode prog_1_method_7_code 15 = .ok (.iconst 0, 1) := by decide +kernel
theorem d_eql_16 : decode prog_1_method_7_code 16 = .ok (.ireturn, 1) := by decide +kernel
theorem ef_num (m : MethodId) (x0 : Addr)  : entryFrame m #[(.ref x0)] 1 = mkF m 0 #[.val (.ref x0)] [] := by first | (simp [entryFrame, mkF, argsToLocals, Value.category]; done) | rfl
theorem pn_java_lang_Number : plainName "java/lang/Number" = true := by first | (simp [plainName, overriddenIn]; done) | decide +kernel
theorem d_num_0 : decode jdk_18_method_1_code 0 = .ok (.aload_n 0, 1) := by decide +kernel
theorem d_num_1 : decode jdk_18_method_1_code 1 = .ok (.invokespecial 1, 3) := by decide +kernel
theorem d_num_4 : decode jdk_18_method_1_code 4 = .ok (.return_, 1) := by decide +kernel
theorem ef_lini (m : MethodId) (x0 : Addr) (x1 : Int64)  : entryFrame m #[(.ref x0), (.long x1)] 3 = mkF m 0 #[.val (.ref x0), .val (.long x1), .second] [] := by first | (simp [entryFrame, mkF, argsToLocals, Value.category]; done) | rfl
theorem pn_java_lang_Long : plainName "java/lang/Long" = true := by first | (simp [plainName, overriddenIn]; done) | decide +kernel
theorem d_lini_0 : decode jdk_35_method_26_code 0 = .ok (.aload_n 0, 1) := by decide +kernel
theorem d_lini_1 : decode jdk_35_method_26_code 1 = .ok (.invokespecial 270, 3) := by decide +kernel
theorem pd___V : parseMethodDescriptor "()V" = some ⟨[], none⟩ := by decide +kernel
theorem d_lini_4 : decode jdk_35_method_26_code 4 = .ok (.aload_n 0, 1) := by decide +kernel
theorem d_lini_5 : decode jdk_35_method_26_code 5 = .ok (.lload_n 1, 1) := by decide +kernel
theorem d_lini_6 : decode jdk_35_method_26_code 6 = .ok (.putfield 273, 3) := by decide +kernel
theorem d_lini_9 : decode jdk_35_method_26_code 9 = .ok (.return_, 1) := by decide +kernel
theorem ef_vof (m : MethodId) (x0 : Int64)  : entryFrame m #[(.long x0)] 3 = mkF m 0 #[.val (.long x0), .second, .unset] [] := by first | (simp [entryFrame, mkF, argsToLocals, Value.category]; done) | rfl
theorem d_vof_0 : decode jdk_35_method_24_code 0 = .ok (.sipush 128, 3) := by decide +kernel
theorem d_vof_3 : decode jdk_35_method_24_code 3 = .ok (.istore_n 2, 1) := by decide +kernel
theorem d_vof_4 : decode jdk_35_method_24_code 4 = .ok (.lload_n 0, 1) := by decide +kernel
theorem d_vof_5 : decode jdk_35_method_24_code 5 = .ok (.ldc2_w 230, 3) := by decide +kernel
theorem d_vof_8 : decode jdk_35_method_24_code 8 = .ok (.lcmp, 1) := by decide +kernel
theorem d_vof_9 : decode jdk_35_method_24_code 9 = .ok (.ifCond .lt 22, 3) := by decide +kernel
theorem d_vof_31 : decode jdk_35_method_24_code 31 = .ok (.new 1, 3) := by decide +kernel
theorem d_vof_34 : decode jdk_35_method_24_code 34 = .ok (.dup, 1) := by decide +kernel
theorem d_vof_35 : decode jdk_35_method_24_code 35 = .ok (.lload_n 0, 1) := by decide +kernel
theorem d_vof_36 : decode jdk_35_method_24_code 36 = .ok (.invokespecial 240, 3) := by decide +kernel
theorem pd__J_V : parseMethodDescriptor "(J)V" = some ⟨[.long], none⟩ := by decide +kernel
theorem d_vof_39 : decode jdk_35_method_24_code 39 = .ok (.areturn, 1) := by decide +kernel
theorem d_vof_12 : decode jdk_35_method_24_code 12 = .ok (.lload_n 0, 1) := by decide +kernel
theorem d_vof_13 : decode jdk_35_method_24_code 13 = .ok (.ldc2_w 232, 3) := by decide +kernel
theorem d_vof_16 : decode jdk_35_method_24_code 16 = .ok (.lcmp, 1) := by decide +kernel
theorem d_vof_17 : decode jdk_35_method_24_code 17 = .ok (.ifCond .gt 14, 3) := by decide +kernel
theorem d_vof_20 : decode jdk_35_method_24_code 20 = .ok (.getstatic 234, 3) := by decide +kernel
theorem d_vof_23 : decode jdk_35_method_24_code 23 = .ok (.lload_n 0, 1) := by decide +kernel
theorem d_vof_24 : decode jdk_35_method_24_code 24 = .ok (.l2i, 1) := by decide +kernel
theorem d_vof_25 : decode jdk_35_method_24_code 25 = .ok (.sipush 128, 3) := by decide +kernel
theorem d_vof_28 : decode jdk_35_method_24_code 28 = .ok (.iadd, 1) := by decide +kernel
theorem d_vof_29 : decode jdk_35_method_24_code 29 = .ok (.aaload, 1) := by decide +kernel
theorem d_vof_30 : decode jdk_35_method_24_code 30 = .ok (.areturn, 1) := by decide +kernel
theorem ef_law (m : MethodId) (x0 : Int32) (x1 : Int64) (x2 : Int64) (x3 : Int64) (x4 : Int64) (x5 : Int64)  : entryFrame m #[(.int x0), (.long x1), (.long x2), (.long x3), (.long x4), (.long x5)] maxLocals = mkF m 0 #[.val (.int x0), .val (.long x1), .second, .val (.long x2), .second, .val (.long x3), .second, .val (.long x4), .second, .val (.long x5), .second, .unset, .unset, .unset, .unset, .unset, .unset, .unset, .unset, .unset, .unset, .unset, .unset, .unset, .unset, .unset, .unset, .unset, .unset] [] := by first | (simp [entryFrame, mkF, argsToLocals, Value.category, maxLocals]; done) | rfl
theorem pn_com_example_inexact_limiter_inexactlimiter_algorithm_DecisionEqualsPinLaw : plainName "com/example/inexact_limiter/inexactlimiter/algorithm/DecisionEqualsPinLaw" = true := by first | (simp [plainName, overriddenIn]; done) | decide +kernel
theorem pd__ZJJJJ_V : parseMethodDescriptor "(ZJJJJ)V" = some ⟨[.boolean, .long, .long, .long, .long], none⟩ := by decide +kernel
theorem pd__J_Ljava_lang_Long_ : parseMethodDescriptor "(J)Ljava/lang/Long;" = some ⟨[.long], some (.object "java/lang/Long")⟩ := by decide +kernel
theorem pd__Ljava_lang_Object__Z : parseMethodDescriptor "(Ljava/lang/Object;)Z" = some ⟨[(.object "java/lang/Object")], some .boolean⟩ := by decide +kernel
/-- the array at a has n places, of kind ty, and holds f -/
def OFun (Z : State) (h : Heap) (a : Addr) (ty : FieldType) (n : Nat) (f : Nat → Value) : Prop := ∃ c : Cell, Arr Z h a c ty ∧ c.slots.size = n ∧ ∀ j, j < n → c.slots[j]? = some (f j)
theorem OFun.lt {Z : State} {h : Heap} {a : Addr} {ty : FieldType} {n : Nat} {f : Nat → Value} (F : OFun Z h a ty n f) : a < h.size := by obtain ⟨c, A, -⟩ := F; exact A.lt
theorem OFun.ext {Z : State} {h h' : Heap} {a : Addr} {ty : FieldType} {n : Nat} {f : Nat → Value} (F : OFun Z h a ty n f) (E : Ext h h') : OFun Z h' a ty n f := by obtain ⟨c, A, r⟩ := F; exact ⟨c, A.ext E, r⟩
theorem OFun.other {Z : State} {h h' : Heap} {a b : Addr} {ty : FieldType} {n sl : Nat} {v : Value} {f : Nat → Value} (F : OFun Z h a ty n f) (W : Wr h h' b sl v) (q : a ≠ b) : OFun Z h' a ty n f := by obtain ⟨c, A, r⟩ := F; exact ⟨c, A.other W q, r⟩
theorem OFun.keep {Z : State} {h h' : Heap} {a : Addr} {ty : FieldType} {n : Nat} {ws : List Addr} {f : Nat → Value} (F : OFun Z h a ty n f) (K : Keep h h' ws) (q : a ∉ ws) : OFun Z h' a ty n f := by obtain ⟨c, A, r⟩ := F; exact ⟨c, ⟨K.2.1 a c A.1 q, A.2⟩, r⟩
theorem OFun.congr {Z : State} {h : Heap} {a : Addr} {ty : FieldType} {n : Nat} {f g : Nat → Value} (F : OFun Z h a ty n f) (q : ∀ j, j < n → f j = g j) : OFun Z h a ty n g := by obtain ⟨c, A, r1, r2⟩ := F; exact ⟨c, A, r1, fun j hj => by rw [r2 j hj, q j hj]⟩
theorem OFun.new {Z : State} {h : Heap} {a : Addr} {ty : FieldType} {k : ClassId} {z : Int32} (A : Arr Z h a (newA k ty z) ty) : OFun Z h a ty z.toNatClampNeg (fun _ => defaultValue ty) := ⟨_, A, sz_new _ _ _, fun j hj => by simp [newA, hj]⟩
theorem OFun.set {Z : State} {h h' : Heap} {a : Addr} {ty : FieldType} {n i : Nat} {v : Value} {f : Nat → Value} (F : OFun Z h a ty n f) (W : Wr h h' a i v) : OFun Z h' a ty n (fun j => if j = i then v else f j) := by
  obtain ⟨c, A, r1, r2⟩ := F
  refine ⟨_, A.same W, by rw [sz_set]; exact r1, fun j hj => ?_⟩
  by_cases q : j = i
  · subst q
    simp [Cell.setSlot, r1, hj]
  · simp only [q, if_false]
    rw [← r2 j hj]
    simp [Cell.setSlot, Array.getElem?_setIfInBounds, Ne.symm q]
theorem own_ext_wr {h0 h h' : Heap} {a : Addr} {sl : Nat} {v : Value} (E : Ext h0 h) (W : Wr h h' a sl v) (q : h0.size ≤ a) : Ext h0 h' := by
  refine ⟨by rw [W.size]; exact E.1, fun x c hx => ?_⟩
  have hlt := (Array.getElem?_eq_some_iff.mp hx).1
  obtain ⟨c', e1, -, -, -, e5, -⟩ := wr_at W (E.2 x c hx)
  rw [e1, e5 (Nat.ne_of_lt (Nat.lt_of_lt_of_le hlt q))]
theorem own_ext_trans {h0 h h' : Heap} (E : Ext h0 h) (E' : Ext h h') : Ext h0 h' := ⟨Nat.le_trans E.1 E'.1, fun x c hx => E'.2 x c (E.2 x c hx)⟩
theorem own_ext_refl (h : Heap) : Ext h h := ⟨Nat.le_refl _, fun _ _ q => q⟩
theorem own_ext_keep {h0 h h' : Heap} {ws : List Addr} (E : Ext h0 h) (K : Keep h h' ws) (q : ∀ x ∈ ws, h0.size ≤ x) : Ext h0 h' := ⟨Nat.le_trans E.1 K.1, fun x c hx => K.2.1 x c (E.2 x c hx) fun z => by
  have hlt := (Array.getElem?_eq_some_iff.mp hx).1
  exact absurd hlt (Nat.not_lt.mpr (q x z))⟩
theorem own_keep_ext {h h' : Heap} (E : Ext h h') (ws : List Addr) : Keep h h' ws := (Keep.refl h ws).ext E
theorem own_in {j : Int32} {i n : Nat} (h0 : j.toInt = i) (h1 : i < n) : ¬ (j < 0 ∨ n ≤ j.toNatClampNeg) := by
  have e : j.toNatClampNeg = i := by
    show j.toInt.toNat = i
    omega
  rintro (q | q)
  · rw [Int32.lt_iff_toInt_lt] at q
    have z : (0 : Int32).toInt = 0 := rfl
    omega
  · omega
theorem own_cl {j : Int32} {i : Nat} (h0 : j.toInt = i) : j.toNatClampNeg = i := by
  show j.toInt.toNat = i
  omega
theorem own_ofN {n : Nat} (h : n < 2 ^ 31) : (Int32.ofNat n).toInt = n := Int32.toInt_ofNat_of_lt h
theorem own_root {Z : State} {a0 : Array Value} {O K : String} {n : Nat} (w : (Jvm.Cond.noSuperclass O).before a0 Z = true) (wk : (Jvm.Cond.instantiable K n).before a0 Z = true) (hn : O ≠ K) : NS Z O K := by
  obtain ⟨c, k, h1, h2, h3, -, -⟩ := Cond.noSuperclass_spec w
  obtain ⟨t, k2, g1, -⟩ := Cond.instantiable_spec wk
  have ne := ids_ne h1 g1 hn
  refine ⟨c, t, h1, g1, fun fuel => ?_⟩
  match fuel with
  | 0 => rfl
  | f + 1 => simp [Vm.isSubclassAux, ne, h2, h3]
theorem own_no {Z : State} {a0 : Array Value} {C S K : String} {n : Nat} (w : (Jvm.Cond.superclass C S).before a0 Z = true) (wk : (Jvm.Cond.instantiable K n).before a0 Z = true) (ns : NS Z C K) (hn : C ≠ K) : ∃ c t, Z.vm.findClass C = some c ∧ Z.vm.findClass K = some t ∧ Z.vm.assignable c t = false := by
  obtain ⟨c, t, h0, g0, n3⟩ := ns
  obtain ⟨p, k, kp, h1, h2, h3, h4, h5, -, h7⟩ := Cond.superclass_spec h0 w
  obtain ⟨q, k', g1, g2, g3, g4, -⟩ := Cond.instantiable_spec wk
  cases g0.symm.trans g1
  have ne := ids_ne h0 g0 hn
  have g5 := (Bool.or_eq_false_iff.mp g4).1
  refine ⟨c, t, h0, g0, ?_⟩
  show Z.vm.assignableAux (255 + 1) c t = false
  simp [Vm.assignableAux, ne, h2, g2, h5, g3, g5, Vm.isSubclass, n3]
def ODec (Z : State) (h : Heap) (a : Addr) (v0 : Int32) (v1 v2 v3 v4 : Int64) : Prop := Exa Z h a "com/example/inexact_limiter/inexactlimiter/algorithm/Decision" ∧ Fld Z h a "com/example/inexact_limiter/inexactlimiter/algorithm/Decision" "allowed" "Z" (.int v0) ∧ Fld Z h a "com/example/inexact_limiter/inexactlimiter/algorithm/Decision" "limit" "J" (.long v1) ∧ Fld Z h a "com/example/inexact_limiter/inexactlimiter/algorithm/Decision" "remaining" "J" (.long v2) ∧ Fld Z h a "com/example/inexact_limiter/inexactlimiter/algorithm/Decision" "resetMicros" "J" (.long v3) ∧ Fld Z h a "com/example/inexact_limiter/inexactlimiter/algorithm/Decision" "retryAfterMicros" "J" (.long v4)
theorem ODec.ext {Z : State} {h h' : Heap} {a : Addr} {v0 : Int32} {v1 v2 v3 v4 : Int64} (F : ODec Z h a v0 v1 v2 v3 v4) (E : Ext h h') : ODec Z h' a v0 v1 v2 v3 v4 := ⟨F.1.ext E, F.2.1.ext E, F.2.2.1.ext E, F.2.2.2.1.ext E, F.2.2.2.2.1.ext E, F.2.2.2.2.2.ext E⟩
theorem ODec.keep {Z : State} {h h' : Heap} {a : Addr} {ws : List Addr} {v0 : Int32} {v1 v2 v3 v4 : Int64} (F : ODec Z h a v0 v1 v2 v3 v4) (K : Keep h h' ws) (q : a ∉ ws) : ODec Z h' a v0 v1 v2 v3 v4 := ⟨F.1.keep K, F.2.1.keep K q, F.2.2.1.keep K q, F.2.2.2.1.keep K q, F.2.2.2.2.1.keep K q, F.2.2.2.2.2.keep K q⟩
def OCache (Z : State) (h : Heap) (ca : Addr) : Prop := ∃ cl : Cell, Arr Z h ca cl (.object "java/lang/Long") ∧ cl.slots.size = 256 ∧ ∀ i, i < 256 → ∃ b, cl.slots[i]? = some (.ref b) ∧ Exa Z h b "java/lang/Long"
theorem OCache.ext {Z : State} {h h' : Heap} {ca : Addr} (F : OCache Z h ca) (E : Ext h h') : OCache Z h' ca := by
  obtain ⟨cl, A, S, G⟩ := F
  exact ⟨cl, A.ext E, S, fun i hi => by obtain ⟨b, h1, h2⟩ := G i hi; exact ⟨b, h1, h2.ext E⟩⟩
theorem own_ci {x : Int64} (h1 : ¬ x < (-128 : Int64)) (h2 : ¬ (127 : Int64) < x) : ∃ i : Nat, i < 256 ∧ ((x.toInt32) + (128 : Int32)).toInt = i := by
  rw [Int64.lt_iff_toInt_lt] at h1 h2
  have z1 : (-128 : Int64).toInt = -128 := rfl
  have z2 : (127 : Int64).toInt = 127 := rfl
  have z3 : (128 : Int32).toInt = 128 := rfl
  have e : x.toInt32.toInt = x.toInt := XT.narrowInt (by constructor <;> omega)
  have e2 : ((x.toInt32) + (128 : Int32)).toInt = x.toInt + 128 := by rw [XT.add32 (by rw [e, z3]; constructor <;> omega), e, z3]
  exact ⟨(x.toInt + 128).toNat, by omega, by omega⟩
def own_eqd (x0 : Int32) (x1 x2 x3 x4 : Int64) (y0 : Int32) (y1 y2 y3 y4 : Int64) : Int32 := if x0 = y0 then (if x1 = y1 then (if x2 = y2 then (if x3 = y3 then (if x4 = y4 then 1 else 0) else 0) else 0) else 0) else 0
def own_expd (aA aB sL sR sS sT : Int32) (li re rs rt dl : Int64) : Int32 := if aA = aB then (if (sL = 0 ∨ dl = li) then (if (sR = 0 ∨ dl = re) then (if (sS = 0 ∨ dl = rs) then (if (sT = 0 ∨ dl = rt) then 1 else 0) else 0) else 0) else 0) else 0
theorem own_refl (x0 : Int32) (x1 x2 x3 x4 : Int64) : own_eqd x0 x1 x2 x3 x4 x0 x1 x2 x3 x4 = 1 := by simp [own_eqd]
theorem own_iff {s : Int32} {o d b : Int64} (h : b = if s = (0 : Int32) then o else d) : (o = b) = (s = 0 ∨ d = o) := by
  rw [h]
  by_cases q : s = 0
  · simp [q]
  · simp only [q, if_false, false_or]; exact propext ⟨Eq.symm, Eq.symm⟩
theorem own_same1 {aA aB sL sR sS sT : Int32} {li re rs rt dl lB rB xB tB : Int64} (h1 : lB = if sL = (0 : Int32) then li else dl) (h2 : rB = if sR = (0 : Int32) then re else dl) (h3 : xB = if sS = (0 : Int32) then rs else dl) (h4 : tB = if sT = (0 : Int32) then rt else dl) : own_eqd aA li re rs rt aB lB rB xB tB = own_expd aA aB sL sR sS sT li re rs rt dl := by
  unfold own_eqd own_expd
  simp only [own_iff h1, own_iff h2, own_iff h3, own_iff h4]
theorem own_same2 {aA aB sL sR sS sT : Int32} {li re rs rt dl lB rB xB tB : Int64} (h1 : lB = if sL = (0 : Int32) then li else dl) (h2 : rB = if sR = (0 : Int32) then re else dl) (h3 : xB = if sS = (0 : Int32) then rs else dl) (h4 : tB = if sT = (0 : Int32) then rt else dl) : own_eqd aB lB rB xB tB aA li re rs rt = own_expd aA aB sL sR sS sT li re rs rt dl := by
  rw [← own_same1 h1 h2 h3 h4]
  unfold own_eqd
  simp only [eq_comm]
theorem own_cache {args : Array Value} {s : State} {ca : Addr} (ev : (Jvm.Term.static "java/lang/Long$LongCache" "cache" "[Ljava/lang/Long;").eval args s none [] s = some (.ref ca)) (h2 : (Jvm.Cond.arrayOf (Jvm.Term.static "java/lang/Long$LongCache" "cache" "[Ljava/lang/Long;") (.object "java/lang/Long")).value args s none s [] = some true) (h4 : (Jvm.Cond.eq (.length (Jvm.Term.static "java/lang/Long$LongCache" "cache" "[Ljava/lang/Long;")) (.int 256)).value args s none s [] = some true)
    (h5 : (Jvm.Cond.all (Jvm.Term.static "java/lang/Long$LongCache" "cache" "[Ljava/lang/Long;") (.and (.exactly (.elem (Jvm.Term.static "java/lang/Long$LongCache" "cache" "[Ljava/lang/Long;") (.index 0)) "java/lang/Long") (.eq (.field (.elem (Jvm.Term.static "java/lang/Long$LongCache" "cache" "[Ljava/lang/Long;") (.index 0)) "java/lang/Long" "value" "J") (.op1 .i2l (.sub (.index 0) (.int 128)))))).value args s none s [] = some true) : OCache s s.heap ca := by
  obtain ⟨cl, A⟩ := Arr.start ev h2
  have ha := A.fin (Vm.Alike.refl s.vm)
  have hsz : cl.slots.size = 256 := by
    obtain ⟨x, y, e1, e2, k1, k2⟩ := cmp_v (Or.inl h4)
    rw [Term.int_eval] at e2
    cases e2
    obtain ⟨z, rfl⟩ := k2
    have q := gotT (Cond.eq_ints e1 (Term.int_eval 256)) h4
    subst q
    by_cases hl : cl.slots.size < 2 ^ 31
    · rw [len_f ev ha hl] at e1
      have e3 : cl.slots.size.toInt32 = 256 := Value.int.inj (Option.some.inj e1)
      have e4 := congrArg Int32.toInt e3
      rw [len_toInt hl] at e4
      have z : (256 : Int32).toInt = 256 := rfl
      omega
    · simp [Term.eval] at ev
      simp [Term.eval, ev, ha, hl] at e1
  refine ⟨cl, A, hsz, fun i hi => ?_⟩
  have hi' := Cond.all_elim ev ha h5 i (by omega)
  obtain ⟨q1, -⟩ := and_e hi'
  obtain ⟨b, eb⟩ := exa_v q1
  have E := exa_at eb q1
  have ev' : (Jvm.Term.static "java/lang/Long$LongCache" "cache" "[Ljava/lang/Long;").eval args s none [i] s = some (.ref ca) := by simp only [Term.eval] at ev ⊢; exact ev
  have hj : (Term.index 0).eval args s none [i] s = some (.int i.toInt32) := Term.index_eval _
  have q := (elem_in eb ev' hj A.1).2
  have e : i.toInt32.toNatClampNeg = i := own_cl (own_ofN (by omega))
  rw [e] at q
  exact ⟨b, q, E⟩

def Q_ini (Z : State) (a1 : Addr) (v0 : Int32) (v1 : Int64) (v2 : Int64) (v3 : Int64) (v4 : Int64) (h0 : Heap) (n0 : Nat) (v : Option Value) (h : Heap) (L : List Loc) : Prop := v = none ∧ Fr n0 L ∧ Keep h0 h [a1] ∧ ODec Z h a1 v0 v1 v2 v3 v4
set_option maxRecDepth 65536 in
set_option maxHeartbeats 40000000 in
theorem rm_ini (l : Launch) (Z : State) (a0 : Array Value) (hw : ∀ d ∈ tables_1, d.before a0 Z = true) (ws : List Jvm.Cond) (a1 : Addr) (v0 : Int32) (v1 : Int64) (v2 : Int64) (v3 : Int64) (v4 : Int64) (h0 : Heap) (n0 : Nat) (ga : n0 ≤ a1) (hv : v0 = 0 ∨ v0 = 1) (Ea : Exa Z h0 a1 "com/example/inexact_limiter/inexactlimiter/algorithm/Decision") (F0 : Fld Z h0 a1 "com/example/inexact_limiter/inexactlimiter/algorithm/Decision" "allowed" "Z" (.int 0)) (F1 : Fld Z h0 a1 "com/example/inexact_limiter/inexactlimiter/algorithm/Decision" "limit" "J" (.long 0)) (F2 : Fld Z h0 a1 "com/example/inexact_limiter/inexactlimiter/algorithm/Decision" "remaining" "J" (.long 0)) (F3 : Fld Z h0 a1 "com/example/inexact_limiter/inexactlimiter/algorithm/Decision" "resetMicros" "J" (.long 0)) (F4 : Fld Z h0 a1 "com/example/inexact_limiter/inexactlimiter/algorithm/Decision" "retryAfterMicros" "J" (.long 0)) :
    MetFree l (⟨"com/example/inexact_limiter/inexactlimiter/algorithm/Decision", "<init>", "(ZJJJJ)V"⟩ : MethodName) (head1 (Jvm.Cond.code (⟨"com/example/inexact_limiter/inexactlimiter/algorithm/Decision", "<init>", "(ZJJJJ)V"⟩ : MethodName) prog_1_method_1_code 10 none :: ws) ({ frames := 1, cells := 0, slots := 0, locals := 12 } : Room)) (fun a U => a = #[(.ref a1), (.int v0), (.long v1), (.long v2), (.long v3), (.long v4)] ∧ Z.Warmed39 U.vm ∧ U.heap = h0) (fun _ _ _ _ _ => True) (fun _ U o U' => ∃ v L, o = .returned v ∧ Q_ini Z a1 v0 v1 v2 v3 v4 h0 n0 v U'.heap L ∧ FrameEnd U o U' L ({ frames := 1, cells := 0, slots := 0, locals := 12 } : Room).cells ({ frames := 1, cells := 0, slots := 0, locals := 12 } : Room).slots) := by
  refine MetFree.of_bodySF (plainFor_of_name pn_com_example_inexact_limiter_inexactlimiter_algorithm_Decision) hisR ?_
  intro p e s m args below meth c s₁ Bd hml0 hP hK
  obtain ⟨rfl, hZ, hh⟩ := hP
  have hx := Bd.exec
  have hby := Bd.bytes
  have hml : c.maxLocals = 10 := hml0
  have hown : s.vm.findClass "com/example/inexact_limiter/inexactlimiter/algorithm/Decision" = some m.cls := findClass_of_methodNamed Bd.named
  have hnm := (name_of_methodNamed Bd.named Bd.method).1
  have X0 : Stand p l e ({ frames := 1, cells := 0, slots := 0, locals := 12 } : Room) s m #[(.ref a1), (.int v0), (.long v1), (.long v2), (.long v3), (.long v4)] below meth c s₁ [] 0 0 := Stand.of_body Bd
  have e0 : s₁.heap = h0 := by rw [← hh, Bd.state]; rfl
  have N0 := Fr.nil n0
  obtain ⟨S0, hS0⟩ : ∃ S0, S0 = s₁.setTop (entryFrame m #[(.ref a1), (.int v0), (.long v1), (.long v2), (.long v3), (.long v4)] 10) := ⟨_, rfl⟩
  have pre : Pth p e below S0 s₁ (mkF m 0 #[.val (.ref a1), .val (.int v0), .val (.long v1), .second, .val (.long v2), .second, .val (.long v3), .second, .val (.long v4), .second] []) := fun t k => by rw [hS0]; exact castTop (ef_ini m a1 v0 v1 v2 v3 v4) k
  replace pre : Pth p e below S0 s₁ (mkF m 1 #[.val (.ref a1), .val (.int v0), .val (.long v1), .second, .val (.long v2), .second, .val (.long v3), .second, .val (.long v4), .second] [(.ref a1)]) := fun t k => pre t (by
    show Steps p.tables e below (s₁.setTop (mkF m 0 #[.val (.ref a1), .val (.int v0), .val (.long v1), .second, .val (.long v2), .second, .val (.long v3), .second, .val (.long v4), .second] [])) t
    refine XS.aloadN X0.here hx rfl (hb hby d_ini_0) rfl rfl ?_
    show Steps p.tables e below (s₁.setTop (mkF m 1 #[.val (.ref a1), .val (.int v0), .val (.long v1), .second, .val (.long v2), .second, .val (.long v3), .second, .val (.long v4), .second] [(.ref a1)])) t
    exact k)
  obtain ⟨T1, X1, e1, st1⟩ := initO X0 hx hZ hown (hw _ (List.mem_of_getElem? (i := 6) rfl)) (hw _ (List.mem_of_getElem? (i := 7) rfl)) (hw _ (List.mem_of_getElem? (i := 8) rfl)) e0 (g := (mkF m 1 #[.val (.ref a1), .val (.int v0), .val (.long v1), .second, .val (.long v2), .second, .val (.long v3), .second, .val (.long v4), .second] [(.ref a1)])) rfl (by rw [hml]; rfl) rfl (hb hby d_ini_1) (by decide) (W := 0) (by show 2 * 0 + _ ≤ _; exact Nat.le_of_eq rfl) (by decide)
  replace pre : Pth p e below S0 T1 (mkF m 4 #[.val (.ref a1), .val (.int v0), .val (.long v1), .second, .val (.long v2), .second, .val (.long v3), .second, .val (.long v4), .second] []) := fun t k => pre t (st1 _ k)
  replace pre : Pth p e below S0 T1 (mkF m 6 #[.val (.ref a1), .val (.int v0), .val (.long v1), .second, .val (.long v2), .second, .val (.long v3), .second, .val (.long v4), .second] [(.int v0), (.ref a1)]) := fun t k => pre t (by
    show Steps p.tables e below (T1.setTop (mkF m 4 #[.val (.ref a1), .val (.int v0), .val (.long v1), .second, .val (.long v2), .second, .val (.long v3), .second, .val (.long v4), .second] [])) t
    refine XS.aloadN X1.here hx rfl (hb hby d_ini_4) rfl rfl ?_
    show Steps p.tables e below (T1.setTop (mkF m 5 #[.val (.ref a1), .val (.int v0), .val (.long v1), .second, .val (.long v2), .second, .val (.long v3), .second, .val (.long v4), .second] [(.ref a1)])) t
    refine XS.iloadN X1.here hx rfl (hb hby d_ini_5) rfl ?_
    show Steps p.tables e below (T1.setTop (mkF m 6 #[.val (.ref a1), .val (.int v0), .val (.long v1), .second, .val (.long v2), .second, .val (.long v3), .second, .val (.long v4), .second] [(.int v0), (.ref a1)])) t
    exact k)
  obtain ⟨T2, h2, X2, e2, W2, st2⟩ := putFN X1 hx hZ hown (hw _ (List.mem_of_getElem? (i := 9) rfl)) Via.refl e1 F0 Ea (Or.inr ⟨(hw _ (List.mem_of_getElem? (i := 10) rfl)), rfl, hnm⟩) (hw _ (List.mem_of_getElem? (i := 1) rfl)) (ty := .boolean) (v' := (.int v0)) (by decide) (by rcases hv with rfl | rfl <;> rfl) (by rcases hv with rfl | rfl <;> rfl) (g := (mkF m 6 #[.val (.ref a1), .val (.int v0), .val (.long v1), .second, .val (.long v2), .second, .val (.long v3), .second, .val (.long v4), .second] [(.int v0), (.ref a1)])) rfl rfl (hb hby d_ini_6)
  have N2 := Fr.snoc X2 N0 ga
  replace pre : Pth p e below S0 T2 (mkF m 9 #[.val (.ref a1), .val (.int v0), .val (.long v1), .second, .val (.long v2), .second, .val (.long v3), .second, .val (.long v4), .second] []) := fun t k => pre t (st2 _ k)
  have G0_0 := F0.same W2
  have G0_1 := F1.other W2 (Or.inr (slot_ne (Or.inr (hw _ (List.mem_of_getElem? (i := 12) rfl))) (Or.inr (hw _ (List.mem_of_getElem? (i := 10) rfl))) (by decide) (t := .long) (t' := .boolean) (by decide) (by decide)))
  have G0_2 := F2.other W2 (Or.inr (slot_ne (Or.inr (hw _ (List.mem_of_getElem? (i := 14) rfl))) (Or.inr (hw _ (List.mem_of_getElem? (i := 10) rfl))) (by decide) (t := .long) (t' := .boolean) (by decide) (by decide)))
  have G0_3 := F3.other W2 (Or.inr (slot_ne (Or.inr (hw _ (List.mem_of_getElem? (i := 16) rfl))) (Or.inr (hw _ (List.mem_of_getElem? (i := 10) rfl))) (by decide) (t := .long) (t' := .boolean) (by decide) (by decide)))
  have G0_4 := F4.other W2 (Or.inr (slot_ne (Or.inr (hw _ (List.mem_of_getElem? (i := 18) rfl))) (Or.inr (hw _ (List.mem_of_getElem? (i := 10) rfl))) (by decide) (t := .long) (t' := .boolean) (by decide) (by decide)))
  have E0' := Ea.wr W2
  have K0' := (Keep.refl h0 [a1]).wr W2 (Or.inl (List.mem_of_getElem? (i := 0) rfl))
  replace pre : Pth p e below S0 T2 (mkF m 11 #[.val (.ref a1), .val (.int v0), .val (.long v1), .second, .val (.long v2), .second, .val (.long v3), .second, .val (.long v4), .second] [(.long v1), (.ref a1)]) := fun t k => pre t (by
    show Steps p.tables e below (T2.setTop (mkF m 9 #[.val (.ref a1), .val (.int v0), .val (.long v1), .second, .val (.long v2), .second, .val (.long v3), .second, .val (.long v4), .second] [])) t
    refine XS.aloadN X2.here hx rfl (hb hby d_ini_9) rfl rfl ?_
    show Steps p.tables e below (T2.setTop (mkF m 10 #[.val (.ref a1), .val (.int v0), .val (.long v1), .second, .val (.long v2), .second, .val (.long v3), .second, .val (.long v4), .second] [(.ref a1)])) t
    refine XS.lloadN X2.here hx rfl (hb hby d_ini_10) rfl ?_
    show Steps p.tables e below (T2.setTop (mkF m 11 #[.val (.ref a1), .val (.int v0), .val (.long v1), .second, .val (.long v2), .second, .val (.long v3), .second, .val (.long v4), .second] [(.long v1), (.ref a1)])) t
    exact k)
  obtain ⟨T3, h3, X3, e3, W3, st3⟩ := putF X2 hx hZ hown (host := "") (Or.inl (hw _ (List.mem_of_getElem? (i := 11) rfl))) Via.refl e2 G0_1 E0' (Or.inr ⟨(hw _ (List.mem_of_getElem? (i := 12) rfl)), rfl, hnm⟩) (hw _ (List.mem_of_getElem? (i := 1) rfl)) (ty := .long) (by decide) rfl rfl (g := (mkF m 11 #[.val (.ref a1), .val (.int v0), .val (.long v1), .second, .val (.long v2), .second, .val (.long v3), .second, .val (.long v4), .second] [(.long v1), (.ref a1)])) rfl rfl (hb hby d_ini_11)
  have N3 := Fr.snoc X3 N2 ga
  replace pre : Pth p e below S0 T3 (mkF m 14 #[.val (.ref a1), .val (.int v0), .val (.long v1), .second, .val (.long v2), .second, .val (.long v3), .second, .val (.long v4), .second] []) := fun t k => pre t (st3 _ k)
  have G1_0 := G0_0.other W3 (Or.inr (slot_ne (Or.inr (hw _ (List.mem_of_getElem? (i := 10) rfl))) (Or.inr (hw _ (List.mem_of_getElem? (i := 12) rfl))) (by decide) (t := .boolean) (t' := .long) (by decide) (by decide)))
  have G1_1 := G0_1.same W3
  have G1_2 := G0_2.other W3 (Or.inr (slot_ne (Or.inr (hw _ (List.mem_of_getElem? (i := 14) rfl))) (Or.inr (hw _ (List.mem_of_getElem? (i := 12) rfl))) (by decide) (t := .long) (t' := .long) (by decide) (by decide)))
  have G1_3 := G0_3.other W3 (Or.inr (slot_ne (Or.inr (hw _ (List.mem_of_getElem? (i := 16) rfl))) (Or.inr (hw _ (List.mem_of_getElem? (i := 12) rfl))) (by decide) (t := .long) (t' := .long) (by decide) (by decide)))
  have G1_4 := G0_4.other W3 (Or.inr (slot_ne (Or.inr (hw _ (List.mem_of_getElem? (i := 18) rfl))) (Or.inr (hw _ (List.mem_of_getElem? (i := 12) rfl))) (by decide) (t := .long) (t' := .long) (by decide) (by decide)))
  have E1' := E0'.wr W3
  have K1' := K0'.wr W3 (Or.inl (List.mem_of_getElem? (i := 0) rfl))
  replace pre : Pth p e below S0 T3 (mkF m 17 #[.val (.ref a1), .val (.int v0), .val (.long v1), .second, .val (.long v2), .second, .val (.long v3), .second, .val (.long v4), .second] [(.long v2), (.ref a1)]) := fun t k => pre t (by
    show Steps p.tables e below (T3.setTop (mkF m 14 #[.val (.ref a1), .val (.int v0), .val (.long v1), .second, .val (.long v2), .second, .val (.long v3), .second, .val (.long v4), .second] [])) t
    refine XS.aloadN X3.here hx rfl (hb hby d_ini_14) rfl rfl ?_
    show Steps p.tables e below (T3.setTop (mkF m 15 #[.val (.ref a1), .val (.int v0), .val (.long v1), .second, .val (.long v2), .second, .val (.long v3), .second, .val (.long v4), .second] [(.ref a1)])) t
    refine XS.lload X3.here hx rfl (hb hby d_ini_15) rfl ?_
    show Steps p.tables e below (T3.setTop (mkF m 17 #[.val (.ref a1), .val (.int v0), .val (.long v1), .second, .val (.long v2), .second, .val (.long v3), .second, .val (.long v4), .second] [(.long v2), (.ref a1)])) t
    exact k)
  obtain ⟨T4, h4, X4, e4, W4, st4⟩ := putF X3 hx hZ hown (host := "") (Or.inl (hw _ (List.mem_of_getElem? (i := 13) rfl))) Via.refl e3 G1_2 E1' (Or.inr ⟨(hw _ (List.mem_of_getElem? (i := 14) rfl)), rfl, hnm⟩) (hw _ (List.mem_of_getElem? (i := 1) rfl)) (ty := .long) (by decide) rfl rfl (g := (mkF m 17 #[.val (.ref a1), .val (.int v0), .val (.long v1), .second, .val (.long v2), .second, .val (.long v3), .second, .val (.long v4), .second] [(.long v2), (.ref a1)])) rfl rfl (hb hby d_ini_17)
  have N4 := Fr.snoc X4 N3 ga
  replace pre : Pth p e below S0 T4 (mkF m 20 #[.val (.ref a1), .val (.int v0), .val (.long v1), .second, .val (.long v2), .second, .val (.long v3), .second, .val (.long v4), .second] []) := fun t k => pre t (st4 _ k)
  have G2_0 := G1_0.other W4 (Or.inr (slot_ne (Or.inr (hw _ (List.mem_of_getElem? (i := 10) rfl))) (Or.inr (hw _ (List.mem_of_getElem? (i := 14) rfl))) (by decide) (t := .boolean) (t' := .long) (by decide) (by decide)))
  have G2_1 := G1_1.other W4 (Or.inr (slot_ne (Or.inr (hw _ (List.mem_of_getElem? (i := 12) rfl))) (Or.inr (hw _ (List.mem_of_getElem? (i := 14) rfl))) (by decide) (t := .long) (t' := .long) (by decide) (by decide)))
  have G2_2 := G1_2.same W4
  have G2_3 := G1_3.other W4 (Or.inr (slot_ne (Or.inr (hw _ (List.mem_of_getElem? (i := 16) rfl))) (Or.inr (hw _ (List.mem_of_getElem? (i := 14) rfl))) (by decide) (t := .long) (t' := .long) (by decide) (by decide)))
  have G2_4 := G1_4.other W4 (Or.inr (slot_ne (Or.inr (hw _ (List.mem_of_getElem? (i := 18) rfl))) (Or.inr (hw _ (List.mem_of_getElem? (i := 14) rfl))) (by decide) (t := .long) (t' := .long) (by decide) (by decide)))
  have E2' := E1'.wr W4
  have K2' := K1'.wr W4 (Or.inl (List.mem_of_getElem? (i := 0) rfl))
  replace pre : Pth p e below S0 T4 (mkF m 23 #[.val (.ref a1), .val (.int v0), .val (.long v1), .second, .val (.long v2), .second, .val (.long v3), .second, .val (.long v4), .second] [(.long v3), (.ref a1)]) := fun t k => pre t (by
    show Steps p.tables e below (T4.setTop (mkF m 20 #[.val (.ref a1), .val (.int v0), .val (.long v1), .second, .val (.long v2), .second, .val (.long v3), .second, .val (.long v4), .second] [])) t
    refine XS.aloadN X4.here hx rfl (hb hby d_ini_20) rfl rfl ?_
    show Steps p.tables e below (T4.setTop (mkF m 21 #[.val (.ref a1), .val (.int v0), .val (.long v1), .second, .val (.long v2), .second, .val (.long v3), .second, .val (.long v4), .second] [(.ref a1)])) t
    refine XS.lload X4.here hx rfl (hb hby d_ini_21) rfl ?_
    show Steps p.tables e below (T4.setTop (mkF m 23 #[.val (.ref a1), .val (.int v0), .val (.long v1), .second, .val (.long v2), .second, .val (.long v3), .second, .val (.long v4), .second] [(.long v3), (.ref a1)])) t
    exact k)
  obtain ⟨T5, h5, X5, e5, W5, st5⟩ := putF X4 hx hZ hown (host := "") (Or.inl (hw _ (List.mem_of_getElem? (i := 15) rfl))) Via.refl e4 G2_3 E2' (Or.inr ⟨(hw _ (List.mem_of_getElem? (i := 16) rfl)), rfl, hnm⟩) (hw _ (List.mem_of_getElem? (i := 1) rfl)) (ty := .long) (by decide) rfl rfl (g := (mkF m 23 #[.val (.ref a1), .val (.int v0), .val (.long v1), .second, .val (.long v2), .second, .val (.long v3), .second, .val (.long v4), .second] [(.long v3), (.ref a1)])) rfl rfl (hb hby d_ini_23)
  have N5 := Fr.snoc X5 N4 ga
  replace pre : Pth p e below S0 T5 (mkF m 26 #[.val (.ref a1), .val (.int v0), .val (.long v1), .second, .val (.long v2), .second, .val (.long v3), .second, .val (.long v4), .second] []) := fun t k => pre t (st5 _ k)
  have G3_0 := G2_0.other W5 (Or.inr (slot_ne (Or.inr (hw _ (List.mem_of_getElem? (i := 10) rfl))) (Or.inr (hw _ (List.mem_of_getElem? (i := 16) rfl))) (by decide) (t := .boolean) (t' := .long) (by decide) (by decide)))
  have G3_1 := G2_1.other W5 (Or.inr (slot_ne (Or.inr (hw _ (List.mem_of_getElem? (i := 12) rfl))) (Or.inr (hw _ (List.mem_of_getElem? (i := 16) rfl))) (by decide) (t := .long) (t' := .long) (by decide) (by decide)))
  have G3_2 := G2_2.other W5 (Or.inr (slot_ne (Or.inr (hw _ (List.mem_of_getElem? (i := 14) rfl))) (Or.inr (hw _ (List.mem_of_getElem? (i := 16) rfl))) (by decide) (t := .long) (t' := .long) (by decide) (by decide)))
  have G3_3 := G2_3.same W5
  have G3_4 := G2_4.other W5 (Or.inr (slot_ne (Or.inr (hw _ (List.mem_of_getElem? (i := 18) rfl))) (Or.inr (hw _ (List.mem_of_getElem? (i := 16) rfl))) (by decide) (t := .long) (t' := .long) (by decide) (by decide)))
  have E3' := E2'.wr W5
  have K3' := K2'.wr W5 (Or.inl (List.mem_of_getElem? (i := 0) rfl))
  replace pre : Pth p e below S0 T5 (mkF m 29 #[.val (.ref a1), .val (.int v0), .val (.long v1), .second, .val (.long v2), .second, .val (.long v3), .second, .val (.long v4), .second] [(.long v4), (.ref a1)]) := fun t k => pre t (by
    show Steps p.tables e below (T5.setTop (mkF m 26 #[.val (.ref a1), .val (.int v0), .val (.long v1), .second, .val (.long v2), .second, .val (.long v3), .second, .val (.long v4), .second] [])) t
    refine XS.aloadN X5.here hx rfl (hb hby d_ini_26) rfl rfl ?_
    show Steps p.tables e below (T5.setTop (mkF m 27 #[.val (.ref a1), .val (.int v0), .val (.long v1), .second, .val (.long v2), .second, .val (.long v3), .second, .val (.long v4), .second] [(.ref a1)])) t
    refine XS.lload X5.here hx rfl (hb hby d_ini_27) rfl ?_
    show Steps p.tables e below (T5.setTop (mkF m 29 #[.val (.ref a1), .val (.int v0), .val (.long v1), .second, .val (.long v2), .second, .val (.long v3), .second, .val (.long v4), .second] [(.long v4), (.ref a1)])) t
    exact k)
  obtain ⟨T6, h6, X6, e6, W6, st6⟩ := putF X5 hx hZ hown (host := "") (Or.inl (hw _ (List.mem_of_getElem? (i := 17) rfl))) Via.refl e5 G3_4 E3' (Or.inr ⟨(hw _ (List.mem_of_getElem? (i := 18) rfl)), rfl, hnm⟩) (hw _ (List.mem_of_getElem? (i := 1) rfl)) (ty := .long) (by decide) rfl rfl (g := (mkF m 29 #[.val (.ref a1), .val (.int v0), .val (.long v1), .second, .val (.long v2), .second, .val (.long v3), .second, .val (.long v4), .second] [(.long v4), (.ref a1)])) rfl rfl (hb hby d_ini_29)
  have N6 := Fr.snoc X6 N5 ga
  replace pre : Pth p e below S0 T6 (mkF m 32 #[.val (.ref a1), .val (.int v0), .val (.long v1), .second, .val (.long v2), .second, .val (.long v3), .second, .val (.long v4), .second] []) := fun t k => pre t (st6 _ k)
  have G4_0 := G3_0.other W6 (Or.inr (slot_ne (Or.inr (hw _ (List.mem_of_getElem? (i := 10) rfl))) (Or.inr (hw _ (List.mem_of_getElem? (i := 18) rfl))) (by decide) (t := .boolean) (t' := .long) (by decide) (by decide)))
  have G4_1 := G3_1.other W6 (Or.inr (slot_ne (Or.inr (hw _ (List.mem_of_getElem? (i := 12) rfl))) (Or.inr (hw _ (List.mem_of_getElem? (i := 18) rfl))) (by decide) (t := .long) (t' := .long) (by decide) (by decide)))
  have G4_2 := G3_2.other W6 (Or.inr (slot_ne (Or.inr (hw _ (List.mem_of_getElem? (i := 14) rfl))) (Or.inr (hw _ (List.mem_of_getElem? (i := 18) rfl))) (by decide) (t := .long) (t' := .long) (by decide) (by decide)))
  have G4_3 := G3_3.other W6 (Or.inr (slot_ne (Or.inr (hw _ (List.mem_of_getElem? (i := 16) rfl))) (Or.inr (hw _ (List.mem_of_getElem? (i := 18) rfl))) (by decide) (t := .long) (t' := .long) (by decide) (by decide)))
  have G4_4 := G3_4.same W6
  have E4' := E3'.wr W6
  have K4' := K3'.wr W6 (Or.inl (List.mem_of_getElem? (i := 0) rfl))
  obtain ⟨fs, hr, hrun, hended, hW, hsame⟩ := X6.leave (v := none) (fun _ => rfl)
  subst hS0
  refine ⟨_, _, pre _ ?_, hrun, hended, _, _, rfl, ?_, ⟨_, rfl⟩, hW, hsame.mono (by decide) (by decide)⟩
  · exact X6.returnOut hx Bd.returns (hb hby d_ini_32) hr
  · show Q_ini Z a1 v0 v1 v2 v3 v4 h0 n0 _ T6.heap _
    rw [e6]
    exact ⟨rfl, N6, K4', E4', G4_0, G4_1, G4_2, G4_3, G4_4⟩
def Q_eq (Z : State) (a1 : Addr) (b1 : Addr) (x0 : Int32) (x1 x2 x3 x4 : Int64) (y0 : Int32) (y1 y2 y3 y4 : Int64) (h0 : Heap) (n0 : Nat) (v : Option Value) (h : Heap) (L : List Loc) : Prop := v = some (.int (own_eqd x0 x1 x2 x3 x4 y0 y1 y2 y3 y4)) ∧ Fr n0 L ∧ h = h0
set_option maxRecDepth 65536 in
set_option maxHeartbeats 40000000 in
theorem rm_eq (l : Launch) (Z : State) (a0 : Array Value) (hw : ∀ d ∈ tables_1, d.before a0 Z = true) (ws : List Jvm.Cond) (a1 : Addr) (b1 : Addr) (x0 : Int32) (x1 x2 x3 x4 : Int64) (y0 : Int32) (y1 y2 y3 y4 : Int64) (h0 : Heap) (n0 : Nat) (HA : ODec Z h0 a1 x0 x1 x2 x3 x4) (HB : ODec Z h0 b1 y0 y1 y2 y3 y4) :
    MetFree l (⟨"com/example/inexact_limiter/inexactlimiter/algorithm/Decision", "equals", "(Ljava/lang/Object;)Z"⟩ : MethodName) (head1 (Jvm.Cond.code (⟨"com/example/inexact_limiter/inexactlimiter/algorithm/Decision", "equals", "(Ljava/lang/Object;)Z"⟩ : MethodName) prog_1_method_7_code 3 (some .boolean) :: ws) ({ frames := 0, cells := 0, slots := 0, locals := 0 } : Room)) (fun a U => a = #[(.ref a1), (.ref b1)] ∧ Z.Warmed39 U.vm ∧ U.heap = h0) (fun _ _ _ _ _ => True) (fun _ U o U' => ∃ v L, o = .returned v ∧ Q_eq Z a1 b1 x0 x1 x2 x3 x4 y0 y1 y2 y3 y4 h0 n0 v U'.heap L ∧ FrameEnd U o U' L ({ frames := 0, cells := 0, slots := 0, locals := 0 } : Room).cells ({ frames := 0, cells := 0, slots := 0, locals := 0 } : Room).slots) := by
  refine MetFree.of_bodySF (plainFor_of_name pn_com_example_inexact_limiter_inexactlimiter_algorithm_Decision) hisR ?_
  intro p e s m args below meth c s₁ Bd hml0 hP hK
  obtain ⟨rfl, hZ, hh⟩ := hP
  have hx := Bd.exec
  have hby := Bd.bytes
  have hml : c.maxLocals = 3 := hml0
  have hown : s.vm.findClass "com/example/inexact_limiter/inexactlimiter/algorithm/Decision" = some m.cls := findClass_of_methodNamed Bd.named
  have hnm := (name_of_methodNamed Bd.named Bd.method).1
  have X0 : Stand p l e ({ frames := 0, cells := 0, slots := 0, locals := 0 } : Room) s m #[(.ref a1), (.ref b1)] below meth c s₁ [] 0 0 := Stand.of_body Bd
  have e0 : s₁.heap = h0 := by rw [← hh, Bd.state]; rfl
  have N0 := Fr.nil n0
  obtain ⟨S0, hS0⟩ : ∃ S0, S0 = s₁.setTop (entryFrame m #[(.ref a1), (.ref b1)] 3) := ⟨_, rfl⟩
  have pre : Pth p e below S0 s₁ (mkF m 0 #[.val (.ref a1), .val (.ref b1), .unset] []) := fun t k => by rw [hS0]; exact castTop (ef_eq m a1 b1) k
  obtain ⟨EA, A0, A1, A2, A3, A4⟩ := HA
  obtain ⟨EB, B0, B1, B2, B3, B4⟩ := HB
  replace pre : Pth p e below S0 s₁ (mkF m 1 #[.val (.ref a1), .val (.ref b1), .unset] [(.ref b1)]) := fun t k => pre t (by
    show Steps p.tables e below (s₁.setTop (mkF m 0 #[.val (.ref a1), .val (.ref b1), .unset] [])) t
    refine XS.aloadN X0.here hx rfl (hb hby d_eq_0) rfl rfl ?_
    show Steps p.tables e below (s₁.setTop (mkF m 1 #[.val (.ref a1), .val (.ref b1), .unset] [(.ref b1)])) t
    exact k)
  obtain ⟨T7, X7, e7, st7⟩ := instY X0 hx hZ hown (hw _ (List.mem_of_getElem? (i := 32) rfl)) e0 (Ins.self EB) (g := (mkF m 1 #[.val (.ref a1), .val (.ref b1), .unset] [(.ref b1)])) rfl rfl (hb hby d_eq_1)
  replace pre : Pth p e below S0 T7 (mkF m 4 #[.val (.ref a1), .val (.ref b1), .unset] [(.int (1 : Int32))]) := fun t k => pre t (st7 _ k)
  replace pre : Pth p e below S0 T7 (mkF m 8 #[.val (.ref a1), .val (.ref b1), .unset] [(.ref b1)]) := fun t k => pre t (by
    show Steps p.tables e below (T7.setTop (mkF m 4 #[.val (.ref a1), .val (.ref b1), .unset] [(.int (1 : Int32))])) t
    refine XS.ifNo X7.here hx rfl (hb hby d_eq_4) rfl (XT.i0_eq_f (by decide)) ?_
    show Steps p.tables e below (T7.setTop (mkF m 7 #[.val (.ref a1), .val (.ref b1), .unset] [])) t
    refine XS.aloadN X7.here hx rfl (hb hby d_eq_7) rfl rfl ?_
    show Steps p.tables e below (T7.setTop (mkF m 8 #[.val (.ref a1), .val (.ref b1), .unset] [(.ref b1)])) t
    exact k)
  obtain ⟨T8, X8, e8, st8⟩ := castY X7 hx hZ hown (hw _ (List.mem_of_getElem? (i := 32) rfl)) e7 (Ins.self EB) (g := (mkF m 8 #[.val (.ref a1), .val (.ref b1), .unset] [(.ref b1)])) rfl rfl (hb hby d_eq_8)
  replace pre : Pth p e below S0 T8 (mkF m 11 #[.val (.ref a1), .val (.ref b1), .unset] [(.ref b1)]) := fun t k => pre t (st8 _ k)
  replace pre : Pth p e below S0 T8 (mkF m 18 #[.val (.ref a1), .val (.ref b1), .val (.ref b1)] [(.ref a1)]) := fun t k => pre t (by
    show Steps p.tables e below (T8.setTop (mkF m 11 #[.val (.ref a1), .val (.ref b1), .unset] [(.ref b1)])) t
    refine XS.astoreN X8.here hx rfl (hb hby d_eq_11) rfl rfl (l' := #[.val (.ref a1), .val (.ref b1), .val (.ref b1)]) rfl ?_
    show Steps p.tables e below (T8.setTop (mkF m 12 #[.val (.ref a1), .val (.ref b1), .val (.ref b1)] [])) t
    refine XS.goto X8.here hx rfl (pc0 := 12) (pc' := 17) rfl (hb hby d_eq_12) (by decide) (by decide) ?_
    show Steps p.tables e below (T8.setTop (mkF m 17 #[.val (.ref a1), .val (.ref b1), .val (.ref b1)] [])) t
    refine XS.aloadN X8.here hx rfl (hb hby d_eq_17) rfl rfl ?_
    show Steps p.tables e below (T8.setTop (mkF m 18 #[.val (.ref a1), .val (.ref b1), .val (.ref b1)] [(.ref a1)])) t
    exact k)
  obtain ⟨T9, X9, e9, st9⟩ := getF X8 hx hZ hown (host := "") (Or.inl (hw _ (List.mem_of_getElem? (i := 9) rfl))) Via.refl e8 A0 (g := (mkF m 18 #[.val (.ref a1), .val (.ref b1), .val (.ref b1)] [(.ref a1)])) rfl rfl (hb hby d_eq_18)
  replace pre : Pth p e below S0 T9 (mkF m 21 #[.val (.ref a1), .val (.ref b1), .val (.ref b1)] [(.int x0)]) := fun t k => pre t (st9 _ k)
  replace pre : Pth p e below S0 T9 (mkF m 22 #[.val (.ref a1), .val (.ref b1), .val (.ref b1)] [(.ref b1), (.int x0)]) := fun t k => pre t (by
    show Steps p.tables e below (T9.setTop (mkF m 21 #[.val (.ref a1), .val (.ref b1), .val (.ref b1)] [(.int x0)])) t
    refine XS.aloadN X9.here hx rfl (hb hby d_eq_21) rfl rfl ?_
    show Steps p.tables e below (T9.setTop (mkF m 22 #[.val (.ref a1), .val (.ref b1), .val (.ref b1)] [(.ref b1), (.int x0)])) t
    exact k)
  obtain ⟨T10, X10, e10, st10⟩ := getF X9 hx hZ hown (host := "") (Or.inl (hw _ (List.mem_of_getElem? (i := 9) rfl))) Via.refl e9 B0 (g := (mkF m 22 #[.val (.ref a1), .val (.ref b1), .val (.ref b1)] [(.ref b1), (.int x0)])) rfl rfl (hb hby d_eq_22)
  replace pre : Pth p e below S0 T10 (mkF m 25 #[.val (.ref a1), .val (.ref b1), .val (.ref b1)] [(.int y0), (.int x0)]) := fun t k => pre t (st10 _ k)
  by_cases q0 : x0 = y0
  · replace pre : Pth p e below S0 T10 (mkF m 29 #[.val (.ref a1), .val (.ref b1), .val (.ref b1)] [(.ref a1)]) := fun t k => pre t (by
      show Steps p.tables e below (T10.setTop (mkF m 25 #[.val (.ref a1), .val (.ref b1), .val (.ref b1)] [(.int y0), (.int x0)])) t
      refine XS.icmpNo X10.here hx rfl (hb hby d_eq_25) rfl (XT.ii_ne_f q0) ?_
      show Steps p.tables e below (T10.setTop (mkF m 28 #[.val (.ref a1), .val (.ref b1), .val (.ref b1)] [])) t
      refine XS.aloadN X10.here hx rfl (hb hby d_eq_28) rfl rfl ?_
      show Steps p.tables e below (T10.setTop (mkF m 29 #[.val (.ref a1), .val (.ref b1), .val (.ref b1)] [(.ref a1)])) t
      exact k)
    obtain ⟨T11, X11, e11, st11⟩ := getF X10 hx hZ hown (host := "") (Or.inl (hw _ (List.mem_of_getElem? (i := 11) rfl))) Via.refl e10 A1 (g := (mkF m 29 #[.val (.ref a1), .val (.ref b1), .val (.ref b1)] [(.ref a1)])) rfl rfl (hb hby d_eq_29)
    replace pre : Pth p e below S0 T11 (mkF m 32 #[.val (.ref a1), .val (.ref b1), .val (.ref b1)] [(.long x1)]) := fun t k => pre t (st11 _ k)
    replace pre : Pth p e below S0 T11 (mkF m 33 #[.val (.ref a1), .val (.ref b1), .val (.ref b1)] [(.ref b1), (.long x1)]) := fun t k => pre t (by
      show Steps p.tables e below (T11.setTop (mkF m 32 #[.val (.ref a1), .val (.ref b1), .val (.ref b1)] [(.long x1)])) t
      refine XS.aloadN X11.here hx rfl (hb hby d_eq_32) rfl rfl ?_
      show Steps p.tables e below (T11.setTop (mkF m 33 #[.val (.ref a1), .val (.ref b1), .val (.ref b1)] [(.ref b1), (.long x1)])) t
      exact k)
    obtain ⟨T12, X12, e12, st12⟩ := getF X11 hx hZ hown (host := "") (Or.inl (hw _ (List.mem_of_getElem? (i := 11) rfl))) Via.refl e11 B1 (g := (mkF m 33 #[.val (.ref a1), .val (.ref b1), .val (.ref b1)] [(.ref b1), (.long x1)])) rfl rfl (hb hby d_eq_33)
    replace pre : Pth p e below S0 T12 (mkF m 36 #[.val (.ref a1), .val (.ref b1), .val (.ref b1)] [(.long y1), (.long x1)]) := fun t k => pre t (st12 _ k)
    replace pre : Pth p e below S0 T12 (mkF m 37 #[.val (.ref a1), .val (.ref b1), .val (.ref b1)] [(.int (XT.cmpL x1 y1))]) := fun t k => pre t (by
      show Steps p.tables e below (T12.setTop (mkF m 36 #[.val (.ref a1), .val (.ref b1), .val (.ref b1)] [(.long y1), (.long x1)])) t
      refine XT.lcmp X12.here hx rfl (hb hby d_eq_36) rfl ?_
      show Steps p.tables e below (T12.setTop (mkF m 37 #[.val (.ref a1), .val (.ref b1), .val (.ref b1)] [(.int (XT.cmpL x1 y1))])) t
      exact k)
    by_cases q1 : x1 = y1
    · replace pre : Pth p e below S0 T12 (mkF m 41 #[.val (.ref a1), .val (.ref b1), .val (.ref b1)] [(.ref a1)]) := fun t k => pre t (by
        show Steps p.tables e below (T12.setTop (mkF m 37 #[.val (.ref a1), .val (.ref b1), .val (.ref b1)] [(.int (XT.cmpL x1 y1))])) t
        refine XS.ifNo X12.here hx rfl (hb hby d_eq_37) rfl (XT.ll_ne_f q1) ?_
        show Steps p.tables e below (T12.setTop (mkF m 40 #[.val (.ref a1), .val (.ref b1), .val (.ref b1)] [])) t
        refine XS.aloadN X12.here hx rfl (hb hby d_eq_40) rfl rfl ?_
        show Steps p.tables e below (T12.setTop (mkF m 41 #[.val (.ref a1), .val (.ref b1), .val (.ref b1)] [(.ref a1)])) t
        exact k)
      obtain ⟨T13, X13, e13, st13⟩ := getF X12 hx hZ hown (host := "") (Or.inl (hw _ (List.mem_of_getElem? (i := 13) rfl))) Via.refl e12 A2 (g := (mkF m 41 #[.val (.ref a1), .val (.ref b1), .val (.ref b1)] [(.ref a1)])) rfl rfl (hb hby d_eq_41)
      replace pre : Pth p e below S0 T13 (mkF m 44 #[.val (.ref a1), .val (.ref b1), .val (.ref b1)] [(.long x2)]) := fun t k => pre t (st13 _ k)
      replace pre : Pth p e below S0 T13 (mkF m 45 #[.val (.ref a1), .val (.ref b1), .val (.ref b1)] [(.ref b1), (.long x2)]) := fun t k => pre t (by
        show Steps p.tables e below (T13.setTop (mkF m 44 #[.val (.ref a1), .val (.ref b1), .val (.ref b1)] [(.long x2)])) t
        refine XS.aloadN X13.here hx rfl (hb hby d_eq_44) rfl rfl ?_
        show Steps p.tables e below (T13.setTop (mkF m 45 #[.val (.ref a1), .val (.ref b1), .val (.ref b1)] [(.ref b1), (.long x2)])) t
        exact k)
      obtain ⟨T14, X14, e14, st14⟩ := getF X13 hx hZ hown (host := "") (Or.inl (hw _ (List.mem_of_getElem? (i := 13) rfl))) Via.refl e13 B2 (g := (mkF m 45 #[.val (.ref a1), .val (.ref b1), .val (.ref b1)] [(.ref b1), (.long x2)])) rfl rfl (hb hby d_eq_45)
      replace pre : Pth p e below S0 T14 (mkF m 48 #[.val (.ref a1), .val (.ref b1), .val (.ref b1)] [(.long y2), (.long x2)]) := fun t k => pre t (st14 _ k)
      replace pre : Pth p e below S0 T14 (mkF m 49 #[.val (.ref a1), .val (.ref b1), .val (.ref b1)] [(.int (XT.cmpL x2 y2))]) := fun t k => pre t (by
        show Steps p.tables e below (T14.setTop (mkF m 48 #[.val (.ref a1), .val (.ref b1), .val (.ref b1)] [(.long y2), (.long x2)])) t
        refine XT.lcmp X14.here hx rfl (hb hby d_eq_48) rfl ?_
        show Steps p.tables e below (T14.setTop (mkF m 49 #[.val (.ref a1), .val (.ref b1), .val (.ref b1)] [(.int (XT.cmpL x2 y2))])) t
        exact k)
      by_cases q2 : x2 = y2
      · replace pre : Pth p e below S0 T14 (mkF m 53 #[.val (.ref a1), .val (.ref b1), .val (.ref b1)] [(.ref a1)]) := fun t k => pre t (by
          show Steps p.tables e below (T14.setTop (mkF m 49 #[.val (.ref a1), .val (.ref b1), .val (.ref b1)] [(.int (XT.cmpL x2 y2))])) t
          refine XS.ifNo X14.here hx rfl (hb hby d_eq_49) rfl (XT.ll_ne_f q2) ?_
          show Steps p.tables e below (T14.setTop (mkF m 52 #[.val (.ref a1), .val (.ref b1), .val (.ref b1)] [])) t
          refine XS.aloadN X14.here hx rfl (hb hby d_eq_52) rfl rfl ?_
          show Steps p.tables e below (T14.setTop (mkF m 53 #[.val (.ref a1), .val (.ref b1), .val (.ref b1)] [(.ref a1)])) t
          exact k)
        obtain ⟨T15, X15, e15, st15⟩ := getF X14 hx hZ hown (host := "") (Or.inl (hw _ (List.mem_of_getElem? (i := 15) rfl))) Via.refl e14 A3 (g := (mkF m 53 #[.val (.ref a1), .val (.ref b1), .val (.ref b1)] [(.ref a1)])) rfl rfl (hb hby d_eq_53)
        replace pre : Pth p e below S0 T15 (mkF m 56 #[.val (.ref a1), .val (.ref b1), .val (.ref b1)] [(.long x3)]) := fun t k => pre t (st15 _ k)
        replace pre : Pth p e below S0 T15 (mkF m 57 #[.val (.ref a1), .val (.ref b1), .val (.ref b1)] [(.ref b1), (.long x3)]) := fun t k => pre t (by
          show Steps p.tables e below (T15.setTop (mkF m 56 #[.val (.ref a1), .val (.ref b1), .val (.ref b1)] [(.long x3)])) t
          refine XS.aloadN X15.here hx rfl (hb hby d_eq_56) rfl rfl ?_
          show Steps p.tables e below (T15.setTop (mkF m 57 #[.val (.ref a1), .val (.ref b1), .val (.ref b1)] [(.ref b1), (.long x3)])) t
          exact k)
        obtain ⟨T16, X16, e16, st16⟩ := getF X15 hx hZ hown (host := "") (Or.inl (hw _ (List.mem_of_getElem? (i := 15) rfl))) Via.refl e15 B3 (g := (mkF m 57 #[.val (.ref a1), .val (.ref b1), .val (.ref b1)] [(.ref b1), (.long x3)])) rfl rfl (hb hby d_eq_57)
        replace pre : Pth p e below S0 T16 (mkF m 60 #[.val (.ref a1), .val (.ref b1), .val (.ref b1)] [(.long y3), (.long x3)]) := fun t k => pre t (st16 _ k)
        replace pre : Pth p e below S0 T16 (mkF m 61 #[.val (.ref a1), .val (.ref b1), .val (.ref b1)] [(.int (XT.cmpL x3 y3))]) := fun t k => pre t (by
          show Steps p.tables e below (T16.setTop (mkF m 60 #[.val (.ref a1), .val (.ref b1), .val (.ref b1)] [(.long y3), (.long x3)])) t
          refine XT.lcmp X16.here hx rfl (hb hby d_eq_60) rfl ?_
          show Steps p.tables e below (T16.setTop (mkF m 61 #[.val (.ref a1), .val (.ref b1), .val (.ref b1)] [(.int (XT.cmpL x3 y3))])) t
          exact k)
        by_cases q3 : x3 = y3
        · replace pre : Pth p e below S0 T16 (mkF m 65 #[.val (.ref a1), .val (.ref b1), .val (.ref b1)] [(.ref a1)]) := fun t k => pre t (by
            show Steps p.tables e below (T16.setTop (mkF m 61 #[.val (.ref a1), .val (.ref b1), .val (.ref b1)] [(.int (XT.cmpL x3 y3))])) t
            refine XS.ifNo X16.here hx rfl (hb hby d_eq_61) rfl (XT.ll_ne_f q3) ?_
            show Steps p.tables e below (T16.setTop (mkF m 64 #[.val (.ref a1), .val (.ref b1), .val (.ref b1)] [])) t
            refine XS.aloadN X16.here hx rfl (hb hby d_eq_64) rfl rfl ?_
            show Steps p.tables e below (T16.setTop (mkF m 65 #[.val (.ref a1), .val (.ref b1), .val (.ref b1)] [(.ref a1)])) t
            exact k)
          obtain ⟨T17, X17, e17, st17⟩ := getF X16 hx hZ hown (host := "") (Or.inl (hw _ (List.mem_of_getElem? (i := 17) rfl))) Via.refl e16 A4 (g := (mkF m 65 #[.val (.ref a1), .val (.ref b1), .val (.ref b1)] [(.ref a1)])) rfl rfl (hb hby d_eq_65)
          replace pre : Pth p e below S0 T17 (mkF m 68 #[.val (.ref a1), .val (.ref b1), .val (.ref b1)] [(.long x4)]) := fun t k => pre t (st17 _ k)
          replace pre : Pth p e below S0 T17 (mkF m 69 #[.val (.ref a1), .val (.ref b1), .val (.ref b1)] [(.ref b1), (.long x4)]) := fun t k => pre t (by
            show Steps p.tables e below (T17.setTop (mkF m 68 #[.val (.ref a1), .val (.ref b1), .val (.ref b1)] [(.long x4)])) t
            refine XS.aloadN X17.here hx rfl (hb hby d_eq_68) rfl rfl ?_
            show Steps p.tables e below (T17.setTop (mkF m 69 #[.val (.ref a1), .val (.ref b1), .val (.ref b1)] [(.ref b1), (.long x4)])) t
            exact k)
          obtain ⟨T18, X18, e18, st18⟩ := getF X17 hx hZ hown (host := "") (Or.inl (hw _ (List.mem_of_getElem? (i := 17) rfl))) Via.refl e17 B4 (g := (mkF m 69 #[.val (.ref a1), .val (.ref b1), .val (.ref b1)] [(.ref b1), (.long x4)])) rfl rfl (hb hby d_eq_69)
          replace pre : Pth p e below S0 T18 (mkF m 72 #[.val (.ref a1), .val (.ref b1), .val (.ref b1)] [(.long y4), (.long x4)]) := fun t k => pre t (st18 _ k)
          replace pre : Pth p e below S0 T18 (mkF m 73 #[.val (.ref a1), .val (.ref b1), .val (.ref b1)] [(.int (XT.cmpL x4 y4))]) := fun t k => pre t (by
            show Steps p.tables e below (T18.setTop (mkF m 72 #[.val (.ref a1), .val (.ref b1), .val (.ref b1)] [(.long y4), (.long x4)])) t
            refine XT.lcmp X18.here hx rfl (hb hby d_eq_72) rfl ?_
            show Steps p.tables e below (T18.setTop (mkF m 73 #[.val (.ref a1), .val (.ref b1), .val (.ref b1)] [(.int (XT.cmpL x4 y4))])) t
            exact k)
          by_cases q4 : x4 = y4
          · replace pre : Pth p e below S0 T18 (mkF m 81 #[.val (.ref a1), .val (.ref b1), .val (.ref b1)] [(.int (1 : Int32))]) := fun t k => pre t (by
              show Steps p.tables e below (T18.setTop (mkF m 73 #[.val (.ref a1), .val (.ref b1), .val (.ref b1)] [(.int (XT.cmpL x4 y4))])) t
              refine XS.ifNo X18.here hx rfl (hb hby d_eq_73) rfl (XT.ll_ne_f q4) ?_
              show Steps p.tables e below (T18.setTop (mkF m 76 #[.val (.ref a1), .val (.ref b1), .val (.ref b1)] [])) t
              refine XS.iconst X18.here hx rfl (hb hby d_eq_76) ?_
              show Steps p.tables e below (T18.setTop (mkF m 77 #[.val (.ref a1), .val (.ref b1), .val (.ref b1)] [(.int (1 : Int32))])) t
              refine XS.goto X18.here hx rfl (pc0 := 77) (pc' := 81) rfl (hb hby d_eq_77) (by decide) (by decide) ?_
              show Steps p.tables e below (T18.setTop (mkF m 81 #[.val (.ref a1), .val (.ref b1), .val (.ref b1)] [(.int (1 : Int32))])) t
              exact k)
            obtain ⟨fs, hr, hrun, hended, hW, hsame⟩ := X18.leave (v := some (.int (1 : Int32))) (fun h => by rw [Bd.returns] at h; cases h)
            subst hS0
            refine ⟨_, _, pre _ ?_, hrun, hended, _, _, rfl, ?_, ⟨_, rfl⟩, hW, hsame.mono (by decide) (by decide)⟩
            · exact retN X18 hx (t := .boolean) Bd.returns (by simp) (hb hby d_eq_81) hr
            · show Q_eq Z a1 b1 x0 x1 x2 x3 x4 y0 y1 y2 y3 y4 h0 n0 _ T18.heap _
              rw [e18]
              exact ⟨by rw [own_eqd, if_pos q0, if_pos q1, if_pos q2, if_pos q3, if_pos q4], N0, rfl⟩
          · replace pre : Pth p e below S0 T18 (mkF m 81 #[.val (.ref a1), .val (.ref b1), .val (.ref b1)] [(.int (0 : Int32))]) := fun t k => pre t (by
              show Steps p.tables e below (T18.setTop (mkF m 73 #[.val (.ref a1), .val (.ref b1), .val (.ref b1)] [(.int (XT.cmpL x4 y4))])) t
              refine XS.ifYes X18.here hx rfl (pc0 := 73) (pc' := 80) rfl (hb hby d_eq_73) rfl (XT.ll_ne_t q4) (by decide) (by decide) ?_
              show Steps p.tables e below (T18.setTop (mkF m 80 #[.val (.ref a1), .val (.ref b1), .val (.ref b1)] [])) t
              refine XS.iconst X18.here hx rfl (hb hby d_eq_80) ?_
              show Steps p.tables e below (T18.setTop (mkF m 81 #[.val (.ref a1), .val (.ref b1), .val (.ref b1)] [(.int (0 : Int32))])) t
              exact k)
            obtain ⟨fs, hr, hrun, hended, hW, hsame⟩ := X18.leave (v := some (.int (0 : Int32))) (fun h => by rw [Bd.returns] at h; cases h)
            subst hS0
            refine ⟨_, _, pre _ ?_, hrun, hended, _, _, rfl, ?_, ⟨_, rfl⟩, hW, hsame.mono (by decide) (by decide)⟩
            · exact retN X18 hx (t := .boolean) Bd.returns (by simp) (hb hby d_eq_81) hr
            · show Q_eq Z a1 b1 x0 x1 x2 x3 x4 y0 y1 y2 y3 y4 h0 n0 _ T18.heap _
              rw [e18]
              exact ⟨by rw [own_eqd, if_pos q0, if_pos q1, if_pos q2, if_pos q3, if_neg q4], N0, rfl⟩
        · replace pre : Pth p e below S0 T16 (mkF m 81 #[.val (.ref a1), .val (.ref b1), .val (.ref b1)] [(.int (0 : Int32))]) := fun t k => pre t (by
            show Steps p.tables e below (T16.setTop (mkF m 61 #[.val (.ref a1), .val (.ref b1), .val (.ref b1)] [(.int (XT.cmpL x3 y3))])) t
            refine XS.ifYes X16.here hx rfl (pc0 := 61) (pc' := 80) rfl (hb hby d_eq_61) rfl (XT.ll_ne_t q3) (by decide) (by decide) ?_
            show Steps p.tables e below (T16.setTop (mkF m 80 #[.val (.ref a1), .val (.ref b1), .val (.ref b1)] [])) t
            refine XS.iconst X16.here hx rfl (hb hby d_eq_80) ?_
            show Steps p.tables e below (T16.setTop (mkF m 81 #[.val (.ref a1), .val (.ref b1), .val (.ref b1)] [(.int (0 : Int32))])) t
            exact k)
          obtain ⟨fs, hr, hrun, hended, hW, hsame⟩ := X16.leave (v := some (.int (0 : Int32))) (fun h => by rw [Bd.returns] at h; cases h)
          subst hS0
          refine ⟨_, _, pre _ ?_, hrun, hended, _, _, rfl, ?_, ⟨_, rfl⟩, hW, hsame.mono (by decide) (by decide)⟩
          · exact retN X16 hx (t := .boolean) Bd.returns (by simp) (hb hby d_eq_81) hr
          · show Q_eq Z a1 b1 x0 x1 x2 x3 x4 y0 y1 y2 y3 y4 h0 n0 _ T16.heap _
            rw [e16]
            exact ⟨by rw [own_eqd, if_pos q0, if_pos q1, if_pos q2, if_neg q3], N0, rfl⟩
      · replace pre : Pth p e below S0 T14 (mkF m 81 #[.val (.ref a1), .val (.ref b1), .val (.ref b1)] [(.int (0 : Int32))]) := fun t k => pre t (by
          show Steps p.tables e below (T14.setTop (mkF m 49 #[.val (.ref a1), .val (.ref b1), .val (.ref b1)] [(.int (XT.cmpL x2 y2))])) t
          refine XS.ifYes X14.here hx rfl (pc0 := 49) (pc' := 80) rfl (hb hby d_eq_49) rfl (XT.ll_ne_t q2) (by decide) (by decide) ?_
          show Steps p.tables e below (T14.setTop (mkF m 80 #[.val (.ref a1), .val (.ref b1), .val (.ref b1)] [])) t
          refine XS.iconst X14.here hx rfl (hb hby d_eq_80) ?_
          show Steps p.tables e below (T14.setTop (mkF m 81 #[.val (.ref a1), .val (.ref b1), .val (.ref b1)] [(.int (0 : Int32))])) t
          exact k)
        obtain ⟨fs, hr, hrun, hended, hW, hsame⟩ := X14.leave (v := some (.int (0 : Int32))) (fun h => by rw [Bd.returns] at h; cases h)
        subst hS0
        refine ⟨_, _, pre _ ?_, hrun, hended, _, _, rfl, ?_, ⟨_, rfl⟩, hW, hsame.mono (by decide) (by decide)⟩
        · exact retN X14 hx (t := .boolean) Bd.returns (by simp) (hb hby d_eq_81) hr
        · show Q_eq Z a1 b1 x0 x1 x2 x3 x4 y0 y1 y2 y3 y4 h0 n0 _ T14.heap _
          rw [e14]
          exact ⟨by rw [own_eqd, if_pos q0, if_pos q1, if_neg q2], N0, rfl⟩
    · replace pre : Pth p e below S0 T12 (mkF m 81 #[.val (.ref a1), .val (.ref b1), .val (.ref b1)] [(.int (0 : Int32))]) := fun t k => pre t (by
        show Steps p.tables e below (T12.setTop (mkF m 37 #[.val (.ref a1), .val (.ref b1), .val (.ref b1)] [(.int (XT.cmpL x1 y1))])) t
        refine XS.ifYes X12.here hx rfl (pc0 := 37) (pc' := 80) rfl (hb hby d_eq_37) rfl (XT.ll_ne_t q1) (by decide) (by decide) ?_
        show Steps p.tables e below (T12.setTop (mkF m 80 #[.val (.ref a1), .val (.ref b1), .val (.ref b1)] [])) t
        refine XS.iconst X12.here hx rfl (hb hby d_eq_80) ?_
        show Steps p.tables e below (T12.setTop (mkF m 81 #[.val (.ref a1), .val (.ref b1), .val (.ref b1)] [(.int (0 : Int32))])) t
        exact k)
      obtain ⟨fs, hr, hrun, hended, hW, hsame⟩ := X12.leave (v := some (.int (0 : Int32))) (fun h => by rw [Bd.returns] at h; cases h)
      subst hS0
      refine ⟨_, _, pre _ ?_, hrun, hended, _, _, rfl, ?_, ⟨_, rfl⟩, hW, hsame.mono (by decide) (by decide)⟩
      · exact retN X12 hx (t := .boolean) Bd.returns (by simp) (hb hby d_eq_81) hr
      · show Q_eq Z a1 b1 x0 x1 x2 x3 x4 y0 y1 y2 y3 y4 h0 n0 _ T12.heap _
        rw [e12]
        exact ⟨by rw [own_eqd, if_pos q0, if_neg q1], N0, rfl⟩
  · replace pre : Pth p e below S0 T10 (mkF m 81 #[.val (.ref a1), .val (.ref b1), .val (.ref b1)] [(.int (0 : Int32))]) := fun t k => pre t (by
      show Steps p.tables e below (T10.setTop (mkF m 25 #[.val (.ref a1), .val (.ref b1), .val (.ref b1)] [(.int y0), (.int x0)])) t
      refine XS.icmpYes X10.here hx rfl (pc0 := 25) (pc' := 80) rfl (hb hby d_eq_25) rfl (XT.ii_ne_t q0) (by decide) (by decide) ?_
      show Steps p.tables e below (T10.setTop (mkF m 80 #[.val (.ref a1), .val (.ref b1), .val (.ref b1)] [])) t
      refine XS.iconst X10.here hx rfl (hb hby d_eq_80) ?_
      show Steps p.tables e below (T10.setTop (mkF m 81 #[.val (.ref a1), .val (.ref b1), .val (.ref b1)] [(.int (0 : Int32))])) t
      exact k)
    obtain ⟨fs, hr, hrun, hended, hW, hsame⟩ := X10.leave (v := some (.int (0 : Int32))) (fun h => by rw [Bd.returns] at h; cases h)
    subst hS0
    refine ⟨_, _, pre _ ?_, hrun, hended, _, _, rfl, ?_, ⟨_, rfl⟩, hW, hsame.mono (by decide) (by decide)⟩
    · exact retN X10 hx (t := .boolean) Bd.returns (by simp) (hb hby d_eq_81) hr
    · show Q_eq Z a1 b1 x0 x1 x2 x3 x4 y0 y1 y2 y3 y4 h0 n0 _ T10.heap _
      rw [e10]
      exact ⟨by rw [own_eqd, if_neg q0], N0, rfl⟩
def Q_eqn (Z : State) (a1 : Addr) (h0 : Heap) (n0 : Nat) (v : Option Value) (h : Heap) (L : List Loc) : Prop := v = some (.int 0) ∧ Fr n0 L ∧ h = h0
set_option maxRecDepth 65536 in
set_option maxHeartbeats 40000000 in
theorem rm_eqn (l : Launch) (Z : State) (a0 : Array Value) (hw : ∀ d ∈ tables_1, d.before a0 Z = true) (ws : List Jvm.Cond) (a1 : Addr) (h0 : Heap) (n0 : Nat)  :
    MetFree l (⟨"com/example/inexact_limiter/inexactlimiter/algorithm/Decision", "equals", "(Ljava/lang/Object;)Z"⟩ : MethodName) (head1 (Jvm.Cond.code (⟨"com/example/inexact_limiter/inexactlimiter/algorithm/Decision", "equals", "(Ljava/lang/Object;)Z"⟩ : MethodName) prog_1_method_7_code 3 (some .boolean) :: ws) ({ frames := 0, cells := 0, slots := 0, locals := 0 } : Room)) (fun a U => a = #[(.ref a1), .null] ∧ Z.Warmed39 U.vm ∧ U.heap = h0) (fun _ _ _ _ _ => True) (fun _ U o U' => ∃ v L, o = .returned v ∧ Q_eqn Z a1 h0 n0 v U'.heap L ∧ FrameEnd U o U' L ({ frames := 0, cells := 0, slots := 0, locals := 0 } : Room).cells ({ frames := 0, cells := 0, slots := 0, locals := 0 } : Room).slots) := by
  refine MetFree.of_bodySF (plainFor_of_name pn_com_example_inexact_limiter_inexactlimiter_algorithm_Decision) hisR ?_
  intro p e s m args below meth c s₁ Bd hml0 hP hK
  obtain ⟨rfl, hZ, hh⟩ := hP
  have hx := Bd.exec
  have hby := Bd.bytes
  have hml : c.maxLocals = 3 := hml0
  have hown : s.vm.findClass "com/example/inexact_limiter/inexactlimiter/algorithm/Decision" = some m.cls := findClass_of_methodNamed Bd.named
  have hnm := (name_of_methodNamed Bd.named Bd.method).1
  have X0 : Stand p l e ({ frames := 0, cells := 0, slots := 0, locals := 0 } : Room) s m #[(.ref a1), .null] below meth c s₁ [] 0 0 := Stand.of_body Bd
  have e0 : s₁.heap = h0 := by rw [← hh, Bd.state]; rfl
  have N0 := Fr.nil n0
  obtain ⟨S0, hS0⟩ : ∃ S0, S0 = s₁.setTop (entryFrame m #[(.ref a1), .null] 3) := ⟨_, rfl⟩
  have pre : Pth p e below S0 s₁ (mkF m 0 #[.val (.ref a1), .val .null, .unset] []) := fun t k => by rw [hS0]; exact castTop (ef_eqn m a1) k
  replace pre : Pth p e below S0 s₁ (mkF m 16 #[.val (.ref a1), .val .null, .unset] [(.int (0 : Int32))]) := fun t k => pre t (by
    show Steps p.tables e below (s₁.setTop (mkF m 0 #[.val (.ref a1), .val .null, .unset] [])) t
    refine XS.aloadN X0.here hx rfl (hb hby d_eqn_0) rfl rfl ?_
    show Steps p.tables e below (s₁.setTop (mkF m 1 #[.val (.ref a1), .val .null, .unset] [.null])) t
    refine X0.instanceofNull hx (g := (mkF m 1 #[.val (.ref a1), .val .null, .unset] [.null])) rfl rfl (hb hby d_eqn_1) _ ?_
    show Steps p.tables e below (s₁.setTop (mkF m 4 #[.val (.ref a1), .val .null, .unset] [(.int (0 : Int32))])) t
    refine XS.ifYes X0.here hx rfl (pc0 := 4) (pc' := 15) rfl (hb hby d_eqn_4) rfl (XT.i0_eq_t rfl) (by decide) (by decide) ?_
    show Steps p.tables e below (s₁.setTop (mkF m 15 #[.val (.ref a1), .val .null, .unset] [])) t
    refine XS.iconst X0.here hx rfl (hb hby d_eqn_15) ?_
    show Steps p.tables e below (s₁.setTop (mkF m 16 #[.val (.ref a1), .val .null, .unset] [(.int (0 : Int32))])) t
    exact k)
  obtain ⟨fs, hr, hrun, hended, hW, hsame⟩ := X0.leave (v := some (.int (0 : Int32))) (fun h => by rw [Bd.returns] at h; cases h)
  subst hS0
  refine ⟨_, _, pre _ ?_, hrun, hended, _, _, rfl, ?_, ⟨_, rfl⟩, hW, hsame.mono (by decide) (by decide)⟩
  · exact retN X0 hx (t := .boolean) Bd.returns (by simp) (hb hby d_eqn_16) hr
  · show Q_eqn Z a1 h0 n0 _ s₁.heap _
    rw [e0]
    exact ⟨rfl, N0, rfl⟩
def Q_eql (Z : State) (a1 : Addr) (b1 : Addr) (h0 : Heap) (n0 : Nat) (v : Option Value) (h : Heap) (L : List Loc) : Prop := v = some (.int 0) ∧ Fr n0 L ∧ h = h0
set_option maxRecDepth 65536 in
set_option maxHeartbeats 40000000 in
theorem rm_eql (l : Launch) (Z : State) (a0 : Array Value) (hw : ∀ d ∈ tables_1, d.before a0 Z = true) (ws : List Jvm.Cond) (a1 : Addr) (b1 : Addr) (h0 : Heap) (n0 : Nat) (EB : Exa Z h0 b1 "java/lang/Long") :
    MetFree l (⟨"com/example/inexact_limiter/inexactlimiter/algorithm/Decision", "equals", "(Ljava/lang/Object;)Z"⟩ : MethodName) (head1 (Jvm.Cond.code (⟨"com/example/inexact_limiter/inexactlimiter/algorithm/Decision", "equals", "(Ljava/lang/Object;)Z"⟩ : MethodName) prog_1_method_7_code 3 (some .boolean) :: ws) ({ frames := 0, cells := 0, slots := 0, locals := 0 } : Room)) (fun a U => a = #[(.ref a1), (.ref b1)] ∧ Z.Warmed39 U.vm ∧ U.heap = h0) (fun _ _ _ _ _ => True) (fun _ U o U' => ∃ v L, o = .returned v ∧ Q_eql Z a1 b1 h0 n0 v U'.heap L ∧ FrameEnd U o U' L ({ frames := 0, cells := 0, slots := 0, locals := 0 } : Room).cells ({ frames := 0, cells := 0, slots := 0, locals := 0 } : Room).slots) := by
  refine MetFree.of_bodySF (plainFor_of_name pn_com_example_inexact_limiter_inexactlimiter_algorithm_Decision) hisR ?_
  intro p e s m args below meth c s₁ Bd hml0 hP hK
  obtain ⟨rfl, hZ, hh⟩ := hP
  have hx := Bd.exec
  have hby := Bd.bytes
  have hml : c.maxLocals = 3 := hml0
  have hown : s.vm.findClass "com/example/inexact_limiter/inexactlimiter/algorithm/Decision" = some m.cls := findClass_of_methodNamed Bd.named
  have hnm := (name_of_methodNamed Bd.named Bd.method).1
  have X0 : Stand p l e ({ frames := 0, cells := 0, slots := 0, locals := 0 } : Room) s m #[(.ref a1), (.ref b1)] below meth c s₁ [] 0 0 := Stand.of_body Bd
  have e0 : s₁.heap = h0 := by rw [← hh, Bd.state]; rfl
  have N0 := Fr.nil n0
  obtain ⟨S0, hS0⟩ : ∃ S0, S0 = s₁.setTop (entryFrame m #[(.ref a1), (.ref b1)] 3) := ⟨_, rfl⟩
  have pre : Pth p e below S0 s₁ (mkF m 0 #[.val (.ref a1), .val (.ref b1), .unset] []) := fun t k => by rw [hS0]; exact castTop (ef_eql m a1 b1) k
  have ns : NS Z "java/lang/Long" "com/example/inexact_limiter/inexactlimiter/algorithm/Decision" := NS.step (hw _ (List.mem_of_getElem? (i := 34) rfl)) (NS.step (hw _ (List.mem_of_getElem? (i := 35) rfl)) (own_root (hw _ (List.mem_of_getElem? (i := 36) rfl)) (hw _ (List.mem_of_getElem? (i := 1) rfl)) (by decide)) (by decide)) (by decide)
  replace pre : Pth p e below S0 s₁ (mkF m 1 #[.val (.ref a1), .val (.ref b1), .unset] [(.ref b1)]) := fun t k => pre t (by
    show Steps p.tables e below (s₁.setTop (mkF m 0 #[.val (.ref a1), .val (.ref b1), .unset] [])) t
    refine XS.aloadN X0.here hx rfl (hb hby d_eql_0) rfl rfl ?_
    show Steps p.tables e below (s₁.setTop (mkF m 1 #[.val (.ref a1), .val (.ref b1), .unset] [(.ref b1)])) t
    exact k)
  obtain ⟨T19, X19, e19, st19⟩ := instNo X0 hx hZ hown (hw _ (List.mem_of_getElem? (i := 32) rfl)) e0 EB (own_no (hw _ (List.mem_of_getElem? (i := 34) rfl)) (hw _ (List.mem_of_getElem? (i := 1) rfl)) ns (by decide)) (g := (mkF m 1 #[.val (.ref a1), .val (.ref b1), .unset] [(.ref b1)])) rfl rfl (hb hby d_eql_1)
  replace pre : Pth p e below S0 T19 (mkF m 4 #[.val (.ref a1), .val (.ref b1), .unset] [(.int (0 : Int32))]) := fun t k => pre t (st19 _ k)
  replace pre : Pth p e below S0 T19 (mkF m 16 #[.val (.ref a1), .val (.ref b1), .unset] [(.int (0 : Int32))]) := fun t k => pre t (by
    show Steps p.tables e below (T19.setTop (mkF m 4 #[.val (.ref a1), .val (.ref b1), .unset] [(.int (0 : Int32))])) t
    refine XS.ifYes X19.here hx rfl (pc0 := 4) (pc' := 15) rfl (hb hby d_eql_4) rfl (XT.i0_eq_t rfl) (by decide) (by decide) ?_
    show Steps p.tables e below (T19.setTop (mkF m 15 #[.val (.ref a1), .val (.ref b1), .unset] [])) t
    refine XS.iconst X19.here hx rfl (hb hby d_eql_15) ?_
    show Steps p.tables e below (T19.setTop (mkF m 16 #[.val (.ref a1), .val (.ref b1), .unset] [(.int (0 : Int32))])) t
    exact k)
  obtain ⟨fs, hr, hrun, hended, hW, hsame⟩ := X19.leave (v := some (.int (0 : Int32))) (fun h => by rw [Bd.returns] at h; cases h)
  subst hS0
  refine ⟨_, _, pre _ ?_, hrun, hended, _, _, rfl, ?_, ⟨_, rfl⟩, hW, hsame.mono (by decide) (by decide)⟩
  · exact retN X19 hx (t := .boolean) Bd.returns (by simp) (hb hby d_eql_16) hr
  · show Q_eql Z a1 b1 h0 n0 _ T19.heap _
    rw [e19]
    exact ⟨rfl, N0, rfl⟩
def Q_num (Z : State) (a1 : Addr) (h0 : Heap) (n0 : Nat) (v : Option Value) (h : Heap) (L : List Loc) : Prop := v = none ∧ Fr n0 L ∧ h = h0
set_option maxRecDepth 65536 in
set_option maxHeartbeats 40000000 in
theorem rm_num (l : Launch) (Z : State) (a0 : Array Value) (hw : ∀ d ∈ tables_1, d.before a0 Z = true) (ws : List Jvm.Cond) (a1 : Addr) (h0 : Heap) (n0 : Nat)  :
    MetFree l (⟨"java/lang/Number", "<init>", "()V"⟩ : MethodName) (head1 (Jvm.Cond.code (⟨"java/lang/Number", "<init>", "()V"⟩ : MethodName) jdk_18_method_1_code 1 none :: ws) ({ frames := 1, cells := 0, slots := 0, locals := 12 } : Room)) (fun a U => a = #[(.ref a1)] ∧ Z.Warmed39 U.vm ∧ U.heap = h0) (fun _ _ _ _ _ => True) (fun _ U o U' => ∃ v L, o = .returned v ∧ Q_num Z a1 h0 n0 v U'.heap L ∧ FrameEnd U o U' L ({ frames := 1, cells := 0, slots := 0, locals := 12 } : Room).cells ({ frames := 1, cells := 0, slots := 0, locals := 12 } : Room).slots) := by
  refine MetFree.of_bodySF (plainFor_of_name pn_java_lang_Number) hisR ?_
  intro p e s m args below meth c s₁ Bd hml0 hP hK
  obtain ⟨rfl, hZ, hh⟩ := hP
  have hx := Bd.exec
  have hby := Bd.bytes
  have hml : c.maxLocals = 1 := hml0
  have hown : s.vm.findClass "java/lang/Number" = some m.cls := findClass_of_methodNamed Bd.named
  have hnm := (name_of_methodNamed Bd.named Bd.method).1
  have X0 : Stand p l e ({ frames := 1, cells := 0, slots := 0, locals := 12 } : Room) s m #[(.ref a1)] below meth c s₁ [] 0 0 := Stand.of_body Bd
  have e0 : s₁.heap = h0 := by rw [← hh, Bd.state]; rfl
  have N0 := Fr.nil n0
  obtain ⟨S0, hS0⟩ : ∃ S0, S0 = s₁.setTop (entryFrame m #[(.ref a1)] 1) := ⟨_, rfl⟩
  have pre : Pth p e below S0 s₁ (mkF m 0 #[.val (.ref a1)] []) := fun t k => by rw [hS0]; exact castTop (ef_num m a1) k
  replace pre : Pth p e below S0 s₁ (mkF m 1 #[.val (.ref a1)] [(.ref a1)]) := fun t k => pre t (by
    show Steps p.tables e below (s₁.setTop (mkF m 0 #[.val (.ref a1)] [])) t
    refine XS.aloadN X0.here hx rfl (hb hby d_num_0) rfl rfl ?_
    show Steps p.tables e below (s₁.setTop (mkF m 1 #[.val (.ref a1)] [(.ref a1)])) t
    exact k)
  obtain ⟨T20, X20, e20, st20⟩ := initO X0 hx hZ hown (hw _ (List.mem_of_getElem? (i := 49) rfl)) (hw _ (List.mem_of_getElem? (i := 7) rfl)) (hw _ (List.mem_of_getElem? (i := 8) rfl)) e0 (g := (mkF m 1 #[.val (.ref a1)] [(.ref a1)])) rfl (by rw [hml]; rfl) rfl (hb hby d_num_1) (by decide) (W := 0) (by show 2 * 0 + _ ≤ _; exact Nat.le_of_eq rfl) (by decide)
  replace pre : Pth p e below S0 T20 (mkF m 4 #[.val (.ref a1)] []) := fun t k => pre t (st20 _ k)
  obtain ⟨fs, hr, hrun, hended, hW, hsame⟩ := X20.leave (v := none) (fun _ => rfl)
  subst hS0
  refine ⟨_, _, pre _ ?_, hrun, hended, _, _, rfl, ?_, ⟨_, rfl⟩, hW, hsame.mono (by decide) (by decide)⟩
  · exact X20.returnOut hx Bd.returns (hb hby d_num_4) hr
  · show Q_num Z a1 h0 n0 _ T20.heap _
    rw [e20]
    exact ⟨rfl, N0, rfl⟩
def Q_lini (Z : State) (a1 : Addr) (x1 : Int64) (h0 : Heap) (n0 : Nat) (v : Option Value) (h : Heap) (L : List Loc) : Prop := v = none ∧ Fr n0 L ∧ Keep h0 h [a1]
set_option maxRecDepth 65536 in
set_option maxHeartbeats 40000000 in
theorem rm_lini (l : Launch) (Z : State) (a0 : Array Value) (hw : ∀ d ∈ tables_1, d.before a0 Z = true) (ws : List Jvm.Cond) (a1 : Addr) (x1 : Int64) (h0 : Heap) (n0 : Nat) (ga : n0 ≤ a1) (Ea : Exa Z h0 a1 "java/lang/Long") (F0 : Fld Z h0 a1 "java/lang/Long" "value" "J" (.long 0)) :
    MetFree l (⟨"java/lang/Long", "<init>", "(J)V"⟩ : MethodName) (head1 (Jvm.Cond.code (⟨"java/lang/Long", "<init>", "(J)V"⟩ : MethodName) jdk_35_method_26_code 3 none :: ws) ({ frames := 2, cells := 0, slots := 0, locals := 24 } : Room)) (fun a U => a = #[(.ref a1), (.long x1)] ∧ Z.Warmed39 U.vm ∧ U.heap = h0) (fun _ _ _ _ _ => True) (fun _ U o U' => ∃ v L, o = .returned v ∧ Q_lini Z a1 x1 h0 n0 v U'.heap L ∧ FrameEnd U o U' L ({ frames := 2, cells := 0, slots := 0, locals := 24 } : Room).cells ({ frames := 2, cells := 0, slots := 0, locals := 24 } : Room).slots) := by
  refine MetFree.of_bodySF (plainFor_of_name pn_java_lang_Long) hisR ?_
  intro p e s m args below meth c s₁ Bd hml0 hP hK
  obtain ⟨rfl, hZ, hh⟩ := hP
  have hx := Bd.exec
  have hby := Bd.bytes
  have hml : c.maxLocals = 3 := hml0
  have hown : s.vm.findClass "java/lang/Long" = some m.cls := findClass_of_methodNamed Bd.named
  have hnm := (name_of_methodNamed Bd.named Bd.method).1
  have X0 : Stand p l e ({ frames := 2, cells := 0, slots := 0, locals := 24 } : Room) s m #[(.ref a1), (.long x1)] below meth c s₁ [] 0 0 := Stand.of_body Bd
  have e0 : s₁.heap = h0 := by rw [← hh, Bd.state]; rfl
  have N0 := Fr.nil n0
  obtain ⟨S0, hS0⟩ : ∃ S0, S0 = s₁.setTop (entryFrame m #[(.ref a1), (.long x1)] 3) := ⟨_, rfl⟩
  have pre : Pth p e below S0 s₁ (mkF m 0 #[.val (.ref a1), .val (.long x1), .second] []) := fun t k => by rw [hS0]; exact castTop (ef_lini m a1 x1) k
  replace pre : Pth p e below S0 s₁ (mkF m 1 #[.val (.ref a1), .val (.long x1), .second] [(.ref a1)]) := fun t k => pre t (by
    show Steps p.tables e below (s₁.setTop (mkF m 0 #[.val (.ref a1), .val (.long x1), .second] [])) t
    refine XS.aloadN X0.here hx rfl (hb hby d_lini_0) rfl rfl ?_
    show Steps p.tables e below (s₁.setTop (mkF m 1 #[.val (.ref a1), .val (.long x1), .second] [(.ref a1)])) t
    exact k)
  obtain ⟨_, _, ⟨T21, L21, k21, n21⟩, -, X21, ⟨Lc21, hQ21, l21, y21, z21⟩, st21⟩ := X0.specialBack hx (y := (⟨"java/lang/Number", "<init>", "()V"⟩ : MethodName)) rfl hown (mvT hZ (hw _ (List.mem_of_getElem? (i := 43) rfl))) (mvT hZ (hw _ (List.mem_of_getElem? (i := 44) rfl))) (mvT hZ (hw _ (List.mem_of_getElem? (i := 48) rfl))) (by decide) (backOf (W := 0) (rm_num l Z a0 hw [] a1 h0 n0) hZ (hw _ (List.mem_of_getElem? (i := 48) rfl)) (hw _ (List.mem_of_getElem? (i := 47) rfl)) (by decide) (by decide)) (g := (mkF m 1 #[.val (.ref a1), .val (.long x1), .second] [(.ref a1)])) rfl (by rw [hml]; rfl) (Steps.refl _) (a := a1) (argsL := []) (rest := []) (lenOf pd___V rfl) rfl (by show 2 * 0 + _ ≤ _; exact Nat.le_of_eq rfl) (hb hby d_lini_1) (fun _ _ => ⟨rfl, e0, (by decide : 0 + 0 ≤ _), (by decide : 0 + 0 ≤ _)⟩)
  dsimp only [Pt.U, Pt.locs, Pt.cells, Pt.slots] at X21 l21 y21 z21 st21 hQ21
  subst l21 y21 z21
  obtain ⟨rfl, N21q, e21⟩ := hQ21
  have N21 := Fr.app N0 N21q
  replace pre : Pth p e below S0 T21 (mkF m 4 #[.val (.ref a1), .val (.long x1), .second] []) := fun t k => pre t (st21.trans k)
  replace pre : Pth p e below S0 T21 (mkF m 6 #[.val (.ref a1), .val (.long x1), .second] [(.long x1), (.ref a1)]) := fun t k => pre t (by
    show Steps p.tables e below (T21.setTop (mkF m 4 #[.val (.ref a1), .val (.long x1), .second] [])) t
    refine XS.aloadN X21.here hx rfl (hb hby d_lini_4) rfl rfl ?_
    show Steps p.tables e below (T21.setTop (mkF m 5 #[.val (.ref a1), .val (.long x1), .second] [(.ref a1)])) t
    refine XS.lloadN X21.here hx rfl (hb hby d_lini_5) rfl ?_
    show Steps p.tables e below (T21.setTop (mkF m 6 #[.val (.ref a1), .val (.long x1), .second] [(.long x1), (.ref a1)])) t
    exact k)
  obtain ⟨T22, h22, X22, e22, W22, st22⟩ := putF X21 hx hZ hown (host := "") (Or.inl (hw _ (List.mem_of_getElem? (i := 50) rfl))) Via.refl e21 F0 Ea (Or.inr ⟨(hw _ (List.mem_of_getElem? (i := 51) rfl)), rfl, hnm⟩) (hw _ (List.mem_of_getElem? (i := 38) rfl)) (ty := .long) (by decide) rfl rfl (g := (mkF m 6 #[.val (.ref a1), .val (.long x1), .second] [(.long x1), (.ref a1)])) rfl rfl (hb hby d_lini_6)
  have N22 := Fr.snoc X22 N21 ga
  replace pre : Pth p e below S0 T22 (mkF m 9 #[.val (.ref a1), .val (.long x1), .second] []) := fun t k => pre t (st22 _ k)
  obtain ⟨fs, hr, hrun, hended, hW, hsame⟩ := X22.leave (v := none) (fun _ => rfl)
  subst hS0
  refine ⟨_, _, pre _ ?_, hrun, hended, _, _, rfl, ?_, ⟨_, rfl⟩, hW, hsame.mono (by decide) (by decide)⟩
  · exact X22.returnOut hx Bd.returns (hb hby d_lini_9) hr
  · show Q_lini Z a1 x1 h0 n0 _ T22.heap _
    rw [e22]
    exact ⟨rfl, N22, (Keep.refl h0 [a1]).wr W22 (Or.inl (List.mem_of_getElem? (i := 0) rfl))⟩
def Q_vof (Z : State) (x1 : Int64) (ca : Addr) (h0 : Heap) (n0 : Nat) (v : Option Value) (h : Heap) (L : List Loc) : Prop := ∃ b, v = some (.ref b) ∧ Fr n0 L ∧ Ext h0 h ∧ Exa Z h b "java/lang/Long"
set_option maxRecDepth 65536 in
set_option maxHeartbeats 40000000 in
theorem rm_vof (l : Launch) (Z : State) (a0 : Array Value) (hw : ∀ d ∈ tables_1, d.before a0 Z = true) (ws : List Jvm.Cond) (x1 : Int64) (ca : Addr) (h0 : Heap) (n0 : Nat) (Z0 : n0 ≤ h0.size) (S1 : Sta Z h0 "java/lang/Long$LongCache" "cache" "[Ljava/lang/Long;" (.ref ca)) (C1 : OCache Z h0 ca) :
    MetFree l (⟨"java/lang/Long", "valueOf", "(J)Ljava/lang/Long;"⟩ : MethodName) (head1 (Jvm.Cond.code (⟨"java/lang/Long", "valueOf", "(J)Ljava/lang/Long;"⟩ : MethodName) jdk_35_method_24_code 3 (some (.object "java/lang/Long")) :: ws) ({ frames := 3, cells := 1, slots := 1, locals := 40 } : Room)) (fun a U => a = #[(.long x1)] ∧ Z.Warmed39 U.vm ∧ U.heap = h0) (fun _ _ _ _ _ => True) (fun _ U o U' => ∃ v L, o = .returned v ∧ Q_vof Z x1 ca h0 n0 v U'.heap L ∧ FrameEnd U o U' L ({ frames := 3, cells := 1, slots := 1, locals := 40 } : Room).cells ({ frames := 3, cells := 1, slots := 1, locals := 40 } : Room).slots) := by
  refine MetFree.of_bodySF (plainFor_of_name pn_java_lang_Long) hisR ?_
  intro p e s m args below meth c s₁ Bd hml0 hP hK
  obtain ⟨rfl, hZ, hh⟩ := hP
  have hx := Bd.exec
  have hby := Bd.bytes
  have hml : c.maxLocals = 3 := hml0
  have hown : s.vm.findClass "java/lang/Long" = some m.cls := findClass_of_methodNamed Bd.named
  have hnm := (name_of_methodNamed Bd.named Bd.method).1
  have X0 : Stand p l e ({ frames := 3, cells := 1, slots := 1, locals := 40 } : Room) s m #[(.long x1)] below meth c s₁ [] 0 0 := Stand.of_body Bd
  have e0 : s₁.heap = h0 := by rw [← hh, Bd.state]; rfl
  have N0 := Fr.nil n0
  obtain ⟨S0, hS0⟩ : ∃ S0, S0 = s₁.setTop (entryFrame m #[(.long x1)] 3) := ⟨_, rfl⟩
  have pre : Pth p e below S0 s₁ (mkF m 0 #[.val (.long x1), .second, .unset] []) := fun t k => by rw [hS0]; exact castTop (ef_vof m x1) k
  replace pre : Pth p e below S0 s₁ (mkF m 9 #[.val (.long x1), .second, .val (.int (128 : Int32))] [(.int (XT.cmpL x1 (-128 : Int64)))]) := fun t k => pre t (by
    show Steps p.tables e below (s₁.setTop (mkF m 0 #[.val (.long x1), .second, .unset] [])) t
    refine XS.sipush X0.here hx rfl (hb hby d_vof_0) ?_
    show Steps p.tables e below (s₁.setTop (mkF m 3 #[.val (.long x1), .second, .unset] [(.int (128 : Int32))])) t
    refine XS.istoreN X0.here hx rfl (hb hby d_vof_3) rfl (l' := #[.val (.long x1), .second, .val (.int (128 : Int32))]) rfl ?_
    show Steps p.tables e below (s₁.setTop (mkF m 4 #[.val (.long x1), .second, .val (.int (128 : Int32))] [])) t
    refine XS.lloadN X0.here hx rfl (hb hby d_vof_4) rfl ?_
    show Steps p.tables e below (s₁.setTop (mkF m 5 #[.val (.long x1), .second, .val (.int (128 : Int32))] [(.long x1)])) t
    refine X0.ldc2Long hx hown (mvT hZ (hw _ (List.mem_of_getElem? (i := 23) rfl))) (g := (mkF m 5 #[.val (.long x1), .second, .val (.int (128 : Int32))] [(.long x1)])) rfl (hb hby d_vof_5) _ ?_
    show Steps p.tables e below (s₁.setTop (mkF m 8 #[.val (.long x1), .second, .val (.int (128 : Int32))] [(.long (-128 : Int64)), (.long x1)])) t
    refine XT.lcmp X0.here hx rfl (hb hby d_vof_8) rfl ?_
    show Steps p.tables e below (s₁.setTop (mkF m 9 #[.val (.long x1), .second, .val (.int (128 : Int32))] [(.int (XT.cmpL x1 (-128 : Int64)))])) t
    exact k)
  by_cases z1 : x1 < (-128 : Int64)
  · replace pre : Pth p e below S0 s₁ (mkF m 31 #[.val (.long x1), .second, .val (.int (128 : Int32))] []) := fun t k => pre t (by
      show Steps p.tables e below (s₁.setTop (mkF m 9 #[.val (.long x1), .second, .val (.int (128 : Int32))] [(.int (XT.cmpL x1 (-128 : Int64)))])) t
      refine XS.ifYes X0.here hx rfl (pc0 := 9) (pc' := 31) rfl (hb hby d_vof_9) rfl (XT.ll_lt_t z1) (by decide) (by decide) ?_
      show Steps p.tables e below (s₁.setTop (mkF m 31 #[.val (.long x1), .second, .val (.int (128 : Int32))] [])) t
      exact k)
    obtain ⟨T23, h23, X23, e23, E23, A23, D23, -, st23⟩ := newO X0 hx hZ hown (hw _ (List.mem_of_getElem? (i := 37) rfl)) (hw _ (List.mem_of_getElem? (i := 38) rfl)) (hw _ (List.mem_of_getElem? (i := 21) rfl)) e0 (g := (mkF m 31 #[.val (.long x1), .second, .val (.int (128 : Int32))] [])) rfl (hb hby d_vof_31) (by decide) (by decide)
    obtain ⟨b23, g23⟩ : ∃ z, z = h0.size := ⟨_, rfl⟩
    rw [← g23] at A23 D23 st23
    replace pre : Pth p e below S0 T23 (mkF m 34 #[.val (.long x1), .second, .val (.int (128 : Int32))] [(.ref b23)]) := fun t k => pre t (st23 _ k)
    have G0 : Fld Z h23 b23 "java/lang/Long" "value" "J" (.long (0 : Int64)) := D23 (Or.inr (hw _ (List.mem_of_getElem? (i := 51) rfl))) (ty := .long) (by decide)
    replace pre : Pth p e below S0 T23 (mkF m 36 #[.val (.long x1), .second, .val (.int (128 : Int32))] [(.long x1), (.ref b23), (.ref b23)]) := fun t k => pre t (by
      show Steps p.tables e below (T23.setTop (mkF m 34 #[.val (.long x1), .second, .val (.int (128 : Int32))] [(.ref b23)])) t
      refine XS.dup X23.here hx rfl (hb hby d_vof_34) rfl rfl ?_
      show Steps p.tables e below (T23.setTop (mkF m 35 #[.val (.long x1), .second, .val (.int (128 : Int32))] [(.ref b23), (.ref b23)])) t
      refine XS.lloadN X23.here hx rfl (hb hby d_vof_35) rfl ?_
      show Steps p.tables e below (T23.setTop (mkF m 36 #[.val (.long x1), .second, .val (.int (128 : Int32))] [(.long x1), (.ref b23), (.ref b23)])) t
      exact k)
    obtain ⟨_, _, ⟨T24, L24, k24, n24⟩, -, X24, ⟨Lc24, hQ24, l24, y24, z24⟩, st24⟩ := X23.specialBack hx (y := (⟨"java/lang/Long", "<init>", "(J)V"⟩ : MethodName)) rfl hown (mvT hZ (hw _ (List.mem_of_getElem? (i := 39) rfl))) (mvT hZ (hw _ (List.mem_of_getElem? (i := 40) rfl))) (mvT hZ (hw _ (List.mem_of_getElem? (i := 42) rfl))) (by decide) (backOf (W := 1) (rm_lini l Z a0 hw [] b23 x1 h23 n0 (by rw [g23]; exact Z0) A23 G0) hZ (hw _ (List.mem_of_getElem? (i := 42) rfl)) (hw _ (List.mem_of_getElem? (i := 21) rfl)) (by decide) (by decide)) (g := (mkF m 36 #[.val (.long x1), .second, .val (.int (128 : Int32))] [(.long x1), (.ref b23), (.ref b23)])) rfl (by rw [hml]; rfl) (Steps.refl _) (a := b23) (argsL := [(.long x1)]) (rest := [(.ref b23)]) (lenOf pd__J_V rfl) rfl (by show 2 * 0 + _ ≤ _; exact Nat.le_of_eq rfl) (hb hby d_vof_36) (fun _ _ => ⟨rfl, e23, (by decide : 1 + 0 ≤ _), (by decide : 1 + 0 ≤ _)⟩)
    dsimp only [Pt.U, Pt.locs, Pt.cells, Pt.slots] at X24 l24 y24 z24 st24 hQ24
    subst l24 y24 z24
    obtain ⟨rfl, N24q, K24⟩ := hQ24
    have N24 := Fr.app N0 N24q
    replace pre : Pth p e below S0 T24 (mkF m 39 #[.val (.long x1), .second, .val (.int (128 : Int32))] [(.ref b23)]) := fun t k => pre t (st24.trans k)
    obtain ⟨fs, hr, hrun, hended, hW, hsame⟩ := X24.leave (v := some (.ref b23)) (fun h => by rw [Bd.returns] at h; cases h)
    subst hS0
    refine ⟨_, _, pre _ ?_, hrun, hended, _, _, rfl, ?_, ⟨_, rfl⟩, hW, hsame.mono (by decide) (by decide)⟩
    · exact retOut X24 hx (t := (.object "java/lang/Long")) Bd.returns rfl (by simp [Value.isRef, FieldType.isReference]) (hb hby d_vof_39) hr
    · show Q_vof Z x1 ca h0 n0 _ T24.heap _
      exact ⟨b23, rfl, N24, own_ext_keep E23 K24 (fun z hz => by rw [List.mem_singleton.mp hz, g23]; exact Nat.le_refl _), A23.keep K24⟩
  · replace pre : Pth p e below S0 s₁ (mkF m 17 #[.val (.long x1), .second, .val (.int (128 : Int32))] [(.int (XT.cmpL x1 (127 : Int64)))]) := fun t k => pre t (by
      show Steps p.tables e below (s₁.setTop (mkF m 9 #[.val (.long x1), .second, .val (.int (128 : Int32))] [(.int (XT.cmpL x1 (-128 : Int64)))])) t
      refine XS.ifNo X0.here hx rfl (hb hby d_vof_9) rfl (XT.ll_lt_f z1) ?_
      show Steps p.tables e below (s₁.setTop (mkF m 12 #[.val (.long x1), .second, .val (.int (128 : Int32))] [])) t
      refine XS.lloadN X0.here hx rfl (hb hby d_vof_12) rfl ?_
      show Steps p.tables e below (s₁.setTop (mkF m 13 #[.val (.long x1), .second, .val (.int (128 : Int32))] [(.long x1)])) t
      refine X0.ldc2Long hx hown (mvT hZ (hw _ (List.mem_of_getElem? (i := 24) rfl))) (g := (mkF m 13 #[.val (.long x1), .second, .val (.int (128 : Int32))] [(.long x1)])) rfl (hb hby d_vof_13) _ ?_
      show Steps p.tables e below (s₁.setTop (mkF m 16 #[.val (.long x1), .second, .val (.int (128 : Int32))] [(.long (127 : Int64)), (.long x1)])) t
      refine XT.lcmp X0.here hx rfl (hb hby d_vof_16) rfl ?_
      show Steps p.tables e below (s₁.setTop (mkF m 17 #[.val (.long x1), .second, .val (.int (128 : Int32))] [(.int (XT.cmpL x1 (127 : Int64)))])) t
      exact k)
    by_cases z2 : (127 : Int64) < x1
    · replace pre : Pth p e below S0 s₁ (mkF m 31 #[.val (.long x1), .second, .val (.int (128 : Int32))] []) := fun t k => pre t (by
        show Steps p.tables e below (s₁.setTop (mkF m 17 #[.val (.long x1), .second, .val (.int (128 : Int32))] [(.int (XT.cmpL x1 (127 : Int64)))])) t
        refine XS.ifYes X0.here hx rfl (pc0 := 17) (pc' := 31) rfl (hb hby d_vof_17) rfl (XT.ll_gt_t z2) (by decide) (by decide) ?_
        show Steps p.tables e below (s₁.setTop (mkF m 31 #[.val (.long x1), .second, .val (.int (128 : Int32))] [])) t
        exact k)
      obtain ⟨T25, h25, X25, e25, E25, A25, D25, -, st25⟩ := newO X0 hx hZ hown (hw _ (List.mem_of_getElem? (i := 37) rfl)) (hw _ (List.mem_of_getElem? (i := 38) rfl)) (hw _ (List.mem_of_getElem? (i := 21) rfl)) e0 (g := (mkF m 31 #[.val (.long x1), .second, .val (.int (128 : Int32))] [])) rfl (hb hby d_vof_31) (by decide) (by decide)
      obtain ⟨b25, g25⟩ : ∃ z, z = h0.size := ⟨_, rfl⟩
      rw [← g25] at A25 D25 st25
      replace pre : Pth p e below S0 T25 (mkF m 34 #[.val (.long x1), .second, .val (.int (128 : Int32))] [(.ref b25)]) := fun t k => pre t (st25 _ k)
      have G0 : Fld Z h25 b25 "java/lang/Long" "value" "J" (.long (0 : Int64)) := D25 (Or.inr (hw _ (List.mem_of_getElem? (i := 51) rfl))) (ty := .long) (by decide)
      replace pre : Pth p e below S0 T25 (mkF m 36 #[.val (.long x1), .second, .val (.int (128 : Int32))] [(.long x1), (.ref b25), (.ref b25)]) := fun t k => pre t (by
        show Steps p.tables e below (T25.setTop (mkF m 34 #[.val (.long x1), .second, .val (.int (128 : Int32))] [(.ref b25)])) t
        refine XS.dup X25.here hx rfl (hb hby d_vof_34) rfl rfl ?_
        show Steps p.tables e below (T25.setTop (mkF m 35 #[.val (.long x1), .second, .val (.int (128 : Int32))] [(.ref b25), (.ref b25)])) t
        refine XS.lloadN X25.here hx rfl (hb hby d_vof_35) rfl ?_
        show Steps p.tables e below (T25.setTop (mkF m 36 #[.val (.long x1), .second, .val (.int (128 : Int32))] [(.long x1), (.ref b25), (.ref b25)])) t
        exact k)
      obtain ⟨_, _, ⟨T26, L26, k26, n26⟩, -, X26, ⟨Lc26, hQ26, l26, y26, z26⟩, st26⟩ := X25.specialBack hx (y := (⟨"java/lang/Long", "<init>", "(J)V"⟩ : MethodName)) rfl hown (mvT hZ (hw _ (List.mem_of_getElem? (i := 39) rfl))) (mvT hZ (hw _ (List.mem_of_getElem? (i := 40) rfl))) (mvT hZ (hw _ (List.mem_of_getElem? (i := 42) rfl))) (by decide) (backOf (W := 1) (rm_lini l Z a0 hw [] b25 x1 h25 n0 (by rw [g25]; exact Z0) A25 G0) hZ (hw _ (List.mem_of_getElem? (i := 42) rfl)) (hw _ (List.mem_of_getElem? (i := 21) rfl)) (by decide) (by decide)) (g := (mkF m 36 #[.val (.long x1), .second, .val (.int (128 : Int32))] [(.long x1), (.ref b25), (.ref b25)])) rfl (by rw [hml]; rfl) (Steps.refl _) (a := b25) (argsL := [(.long x1)]) (rest := [(.ref b25)]) (lenOf pd__J_V rfl) rfl (by show 2 * 0 + _ ≤ _; exact Nat.le_of_eq rfl) (hb hby d_vof_36) (fun _ _ => ⟨rfl, e25, (by decide : 1 + 0 ≤ _), (by decide : 1 + 0 ≤ _)⟩)
      dsimp only [Pt.U, Pt.locs, Pt.cells, Pt.slots] at X26 l26 y26 z26 st26 hQ26
      subst l26 y26 z26
      obtain ⟨rfl, N26q, K26⟩ := hQ26
      have N26 := Fr.app N0 N26q
      replace pre : Pth p e below S0 T26 (mkF m 39 #[.val (.long x1), .second, .val (.int (128 : Int32))] [(.ref b25)]) := fun t k => pre t (st26.trans k)
      obtain ⟨fs, hr, hrun, hended, hW, hsame⟩ := X26.leave (v := some (.ref b25)) (fun h => by rw [Bd.returns] at h; cases h)
      subst hS0
      refine ⟨_, _, pre _ ?_, hrun, hended, _, _, rfl, ?_, ⟨_, rfl⟩, hW, hsame.mono (by decide) (by decide)⟩
      · exact retOut X26 hx (t := (.object "java/lang/Long")) Bd.returns rfl (by simp [Value.isRef, FieldType.isReference]) (hb hby d_vof_39) hr
      · show Q_vof Z x1 ca h0 n0 _ T26.heap _
        exact ⟨b25, rfl, N26, own_ext_keep E25 K26 (fun z hz => by rw [List.mem_singleton.mp hz, g25]; exact Nat.le_refl _), A25.keep K26⟩
    · replace pre : Pth p e below S0 s₁ (mkF m 20 #[.val (.long x1), .second, .val (.int (128 : Int32))] []) := fun t k => pre t (by
        show Steps p.tables e below (s₁.setTop (mkF m 17 #[.val (.long x1), .second, .val (.int (128 : Int32))] [(.int (XT.cmpL x1 (127 : Int64)))])) t
        refine XS.ifNo X0.here hx rfl (hb hby d_vof_17) rfl (XT.ll_gt_f z2) ?_
        show Steps p.tables e below (s₁.setTop (mkF m 20 #[.val (.long x1), .second, .val (.int (128 : Int32))] [])) t
        exact k)
      obtain ⟨T27, X27, e27, st27⟩ := getS2 X0 hx hZ hown (host := "") (Or.inl (hw _ (List.mem_of_getElem? (i := 25) rfl))) Via.refl e0 S1 (g := (mkF m 20 #[.val (.long x1), .second, .val (.int (128 : Int32))] [])) rfl (hb hby d_vof_20)
      replace pre : Pth p e below S0 T27 (mkF m 23 #[.val (.long x1), .second, .val (.int (128 : Int32))] [(.ref ca)]) := fun t k => pre t (st27 _ k)
      replace pre : Pth p e below S0 T27 (mkF m 29 #[.val (.long x1), .second, .val (.int (128 : Int32))] [(.int ((x1.toInt32) + (128 : Int32))), (.ref ca)]) := fun t k => pre t (by
        show Steps p.tables e below (T27.setTop (mkF m 23 #[.val (.long x1), .second, .val (.int (128 : Int32))] [(.ref ca)])) t
        refine XS.lloadN X27.here hx rfl (hb hby d_vof_23) rfl ?_
        show Steps p.tables e below (T27.setTop (mkF m 24 #[.val (.long x1), .second, .val (.int (128 : Int32))] [(.long x1), (.ref ca)])) t
        refine XS.l2i X27.here hx rfl (hb hby d_vof_24) rfl ?_
        show Steps p.tables e below (T27.setTop (mkF m 25 #[.val (.long x1), .second, .val (.int (128 : Int32))] [(.int (x1.toInt32)), (.ref ca)])) t
        refine XS.sipush X27.here hx rfl (hb hby d_vof_25) ?_
        show Steps p.tables e below (T27.setTop (mkF m 28 #[.val (.long x1), .second, .val (.int (128 : Int32))] [(.int (128 : Int32)), (.int (x1.toInt32)), (.ref ca)])) t
        refine XS.iadd X27.here hx rfl (hb hby d_vof_28) rfl ?_
        show Steps p.tables e below (T27.setTop (mkF m 29 #[.val (.long x1), .second, .val (.int (128 : Int32))] [(.int ((x1.toInt32) + (128 : Int32))), (.ref ca)])) t
        exact k)
      obtain ⟨i, hi, hl⟩ := own_ci z1 z2
      obtain ⟨cl, ArC, SzC, GtC⟩ := C1
      obtain ⟨b, hb1, hb2⟩ := GtC i hi
      have hin : ¬ (((x1.toInt32) + (128 : Int32)) < 0 ∨ cl.slots.size ≤ (((x1.toInt32) + (128 : Int32))).toNatClampNeg) := by rw [SzC]; exact own_in hl hi
      have hat : cl.slots[(((x1.toInt32) + (128 : Int32))).toNatClampNeg]? = some (.ref b) := by rw [own_cl hl]; exact hb1
      replace pre : Pth p e below S0 T27 (mkF m 30 #[.val (.long x1), .second, .val (.int (128 : Int32))] [(.ref b)]) := fun t k => pre t (by
        show Steps p.tables e below (T27.setTop (mkF m 29 #[.val (.long x1), .second, .val (.int (128 : Int32))] [(.int ((x1.toInt32) + (128 : Int32))), (.ref ca)])) t
        refine X27.aaload hx (j := ((x1.toInt32) + (128 : Int32))) (v := (.ref b)) (by rw [e27]; exact ArC.1) (State.isArrayOf_alike hZ.alike ArC.2.1) rfl ArC.2.2 hin hat (g := (mkF m 29 #[.val (.long x1), .second, .val (.int (128 : Int32))] [(.int ((x1.toInt32) + (128 : Int32))), (.ref ca)])) rfl rfl (hb hby d_vof_29) _ ?_
        show Steps p.tables e below (T27.setTop (mkF m 30 #[.val (.long x1), .second, .val (.int (128 : Int32))] [(.ref b)])) t
        exact k)
      obtain ⟨fs, hr, hrun, hended, hW, hsame⟩ := X27.leave (v := some (.ref b)) (fun h => by rw [Bd.returns] at h; cases h)
      subst hS0
      refine ⟨_, _, pre _ ?_, hrun, hended, _, _, rfl, ?_, ⟨_, rfl⟩, hW, hsame.mono (by decide) (by decide)⟩
      · exact retOut X27 hx (t := (.object "java/lang/Long")) Bd.returns rfl (by simp [Value.isRef, FieldType.isReference]) (hb hby d_vof_30) hr
      · show Q_vof Z x1 ca h0 n0 _ T27.heap _
        rw [e27]
        exact ⟨b, rfl, N0, own_ext_refl _, hb2⟩
def Q_law (Z : State) (fl : Int32) (li : Int64) (re : Int64) (rs : Int64) (rt : Int64) (dl : Int64) (ca : Addr) (h0 : Heap) (n0 : Nat) (v : Option Value) (h : Heap) (L : List Loc) : Prop := v = some (.int 1) ∧ Fr n0 L
set_option maxRecDepth 65536 in
set_option maxHeartbeats 40000000 in
theorem rm_law (l : Launch) (Z : State) (a0 : Array Value) (hw : ∀ d ∈ tables_1, d.before a0 Z = true) (ws : List Jvm.Cond) (fl : Int32) (li : Int64) (re : Int64) (rs : Int64) (rt : Int64) (dl : Int64) (ca : Addr) (h0 : Heap) (n0 : Nat) (Z0 : n0 ≤ h0.size) (S1 : Sta Z h0 "java/lang/Long$LongCache" "cache" "[Ljava/lang/Long;" (.ref ca)) (C1 : OCache Z h0 ca) :
    MetFree l x (head1 (Jvm.Cond.code x code maxLocals ret :: ws) room_1) (fun a U => a = #[(.int fl), (.long li), (.long re), (.long rs), (.long rt), (.long dl)] ∧ Z.Warmed39 U.vm ∧ U.heap = h0) (fun _ _ _ _ _ => True) (fun _ U o U' => ∃ v L, o = .returned v ∧ Q_law Z fl li re rs rt dl ca h0 n0 v U'.heap L ∧ FrameEnd U o U' L room_1.cells room_1.slots) := by
  refine MetFree.of_bodySF (plainFor_of_name pn_com_example_inexact_limiter_inexactlimiter_algorithm_DecisionEqualsPinLaw) hisR ?_
  intro p e s m args below meth c s₁ Bd hml0 hP hK
  obtain ⟨rfl, hZ, hh⟩ := hP
  have hx := Bd.exec
  have hby := Bd.bytes
  have hml : c.maxLocals = 29 := hml0
  have hown : s.vm.findClass "com/example/inexact_limiter/inexactlimiter/algorithm/DecisionEqualsPinLaw" = some m.cls := findClass_of_methodNamed Bd.named
  have hnm := (name_of_methodNamed Bd.named Bd.method).1
  have X0 : Stand p l e room_1 s m #[(.int fl), (.long li), (.long re), (.long rs), (.long rt), (.long dl)] below meth c s₁ [] 0 0 := Stand.of_body Bd
  have e0 : s₁.heap = h0 := by rw [← hh, Bd.state]; rfl
  have N0 := Fr.nil n0
  obtain ⟨S0, hS0⟩ : ∃ S0, S0 = s₁.setTop (entryFrame m #[(.int fl), (.long li), (.long re), (.long rs), (.long rt), (.long dl)] maxLocals) := ⟨_, rfl⟩
  have pre : Pth p e below S0 s₁ (mkF m 0 #[.val (.int fl), .val (.long li), .second, .val (.long re), .second, .val (.long rs), .second, .val (.long rt), .second, .val (.long dl), .second, .unset, .unset, .unset, .unset, .unset, .unset, .unset, .unset, .unset, .unset, .unset, .unset, .unset, .unset, .unset, .unset, .unset, .unset] []) := fun t k => by rw [hS0]; exact castTop (ef_law m fl li re rs rt dl) k
  replace pre : Pth p e below S0 s₁ (mkF m 3 #[.val (.int fl), .val (.long li), .second, .val (.long re), .second, .val (.long rs), .second, .val (.long rt), .second, .val (.long dl), .second, .unset, .unset, .unset, .unset, .unset, .unset, .unset, .unset, .unset, .unset, .unset, .unset, .unset, .unset, .unset, .unset, .unset, .unset] [(.int (fl &&& (1 : Int32)))]) := fun t k => pre t (by
    show Steps p.tables e below (s₁.setTop (mkF m 0 #[.val (.int fl), .val (.long li), .second, .val (.long re), .second, .val (.long rs), .second, .val (.long rt), .second, .val (.long dl), .second, .unset, .unset, .unset, .unset, .unset, .unset, .unset, .unset, .unset, .unset, .unset, .unset, .unset, .unset, .unset, .unset, .unset, .unset] [])) t
    refine XS.iloadN X0.here hx rfl (hb hby at_0) rfl ?_
    show Steps p.tables e below (s₁.setTop (mkF m 1 #[.val (.int fl), .val (.long li), .second, .val (.long re), .second, .val (.long rs), .second, .val (.long rt), .second, .val (.long dl), .second, .unset, .unset, .unset, .unset, .unset, .unset, .unset, .unset, .unset, .unset, .unset, .unset, .unset, .unset, .unset, .unset, .unset, .unset] [(.int fl)])) t
    refine XS.iconst X0.here hx rfl (hb hby at_1) ?_
    show Steps p.tables e below (s₁.setTop (mkF m 2 #[.val (.int fl), .val (.long li), .second, .val (.long re), .second, .val (.long rs), .second, .val (.long rt), .second, .val (.long dl), .second, .unset, .unset, .unset, .unset, .unset, .unset, .unset, .unset, .unset, .unset, .unset, .unset, .unset, .unset, .unset, .unset, .unset, .unset] [(.int (1 : Int32)), (.int fl)])) t
    refine XS.iand X0.here hx rfl (hb hby at_2) rfl ?_
    show Steps p.tables e below (s₁.setTop (mkF m 3 #[.val (.int fl), .val (.long li), .second, .val (.long re), .second, .val (.long rs), .second, .val (.long rt), .second, .val (.long dl), .second, .unset, .unset, .unset, .unset, .unset, .unset, .unset, .unset, .unset, .unset, .unset, .unset, .unset, .unset, .unset, .unset, .unset, .unset] [(.int (fl &&& (1 : Int32)))])) t
    exact k)
  obtain ⟨aA, h_aA, pre⟩ : ∃ aA : Int32, (aA = 0 ∨ aA = 1) ∧ Pth p e below S0 s₁ (mkF m 11 #[.val (.int fl), .val (.long li), .second, .val (.long re), .second, .val (.long rs), .second, .val (.long rt), .second, .val (.long dl), .second, .unset, .unset, .unset, .unset, .unset, .unset, .unset, .unset, .unset, .unset, .unset, .unset, .unset, .unset, .unset, .unset, .unset, .unset] [(.int aA)]) := by
    by_cases z1 : (fl &&& (1 : Int32)) = (0 : Int32)
    · replace pre : Pth p e below S0 s₁ (mkF m 11 #[.val (.int fl), .val (.long li), .second, .val (.long re), .second, .val (.long rs), .second, .val (.long rt), .second, .val (.long dl), .second, .unset, .unset, .unset, .unset, .unset, .unset, .unset, .unset, .unset, .unset, .unset, .unset, .unset, .unset, .unset, .unset, .unset, .unset] [(.int (0 : Int32))]) := fun t k => pre t (by
        show Steps p.tables e below (s₁.setTop (mkF m 3 #[.val (.int fl), .val (.long li), .second, .val (.long re), .second, .val (.long rs), .second, .val (.long rt), .second, .val (.long dl), .second, .unset, .unset, .unset, .unset, .unset, .unset, .unset, .unset, .unset, .unset, .unset, .unset, .unset, .unset, .unset, .unset, .unset, .unset] [(.int (fl &&& (1 : Int32)))])) t
        refine XS.ifYes X0.here hx rfl (pc0 := 3) (pc' := 10) rfl (hb hby at_3) rfl (XT.i0_eq_t z1) (by decide) (by decide) ?_
        show Steps p.tables e below (s₁.setTop (mkF m 10 #[.val (.int fl), .val (.long li), .second, .val (.long re), .second, .val (.long rs), .second, .val (.long rt), .second, .val (.long dl), .second, .unset, .unset, .unset, .unset, .unset, .unset, .unset, .unset, .unset, .unset, .unset, .unset, .unset, .unset, .unset, .unset, .unset, .unset] [])) t
        refine XS.iconst X0.here hx rfl (hb hby at_10) ?_
        show Steps p.tables e below (s₁.setTop (mkF m 11 #[.val (.int fl), .val (.long li), .second, .val (.long re), .second, .val (.long rs), .second, .val (.long rt), .second, .val (.long dl), .second, .unset, .unset, .unset, .unset, .unset, .unset, .unset, .unset, .unset, .unset, .unset, .unset, .unset, .unset, .unset, .unset, .unset, .unset] [(.int (0 : Int32))])) t
        exact k)
      exact ⟨_, Or.inl rfl, pre⟩
    · replace pre : Pth p e below S0 s₁ (mkF m 11 #[.val (.int fl), .val (.long li), .second, .val (.long re), .second, .val (.long rs), .second, .val (.long rt), .second, .val (.long dl), .second, .unset, .unset, .unset, .unset, .unset, .unset, .unset, .unset, .unset, .unset, .unset, .unset, .unset, .unset, .unset, .unset, .unset, .unset] [(.int (1 : Int32))]) := fun t k => pre t (by
        show Steps p.tables e below (s₁.setTop (mkF m 3 #[.val (.int fl), .val (.long li), .second, .val (.long re), .second, .val (.long rs), .second, .val (.long rt), .second, .val (.long dl), .second, .unset, .unset, .unset, .unset, .unset, .unset, .unset, .unset, .unset, .unset, .unset, .unset, .unset, .unset, .unset, .unset, .unset, .unset] [(.int (fl &&& (1 : Int32)))])) t
        refine XS.ifNo X0.here hx rfl (hb hby at_3) rfl (XT.i0_eq_f z1) ?_
        show Steps p.tables e below (s₁.setTop (mkF m 6 #[.val (.int fl), .val (.long li), .second, .val (.long re), .second, .val (.long rs), .second, .val (.long rt), .second, .val (.long dl), .second, .unset, .unset, .unset, .unset, .unset, .unset, .unset, .unset, .unset, .unset, .unset, .unset, .unset, .unset, .unset, .unset, .unset, .unset] [])) t
        refine XS.iconst X0.here hx rfl (hb hby at_6) ?_
        show Steps p.tables e below (s₁.setTop (mkF m 7 #[.val (.int fl), .val (.long li), .second, .val (.long re), .second, .val (.long rs), .second, .val (.long rt), .second, .val (.long dl), .second, .unset, .unset, .unset, .unset, .unset, .unset, .unset, .unset, .unset, .unset, .unset, .unset, .unset, .unset, .unset, .unset, .unset, .unset] [(.int (1 : Int32))])) t
        refine XS.goto X0.here hx rfl (pc0 := 7) (pc' := 11) rfl (hb hby at_7) (by decide) (by decide) ?_
        show Steps p.tables e below (s₁.setTop (mkF m 11 #[.val (.int fl), .val (.long li), .second, .val (.long re), .second, .val (.long rs), .second, .val (.long rt), .second, .val (.long dl), .second, .unset, .unset, .unset, .unset, .unset, .unset, .unset, .unset, .unset, .unset, .unset, .unset, .unset, .unset, .unset, .unset, .unset, .unset] [(.int (1 : Int32))])) t
        exact k)
      exact ⟨_, Or.inr rfl, pre⟩
  replace pre : Pth p e below S0 s₁ (mkF m 16 #[.val (.int fl), .val (.long li), .second, .val (.long re), .second, .val (.long rs), .second, .val (.long rt), .second, .val (.long dl), .second, .val (.int aA), .unset, .unset, .unset, .unset, .unset, .unset, .unset, .unset, .unset, .unset, .unset, .unset, .unset, .unset, .unset, .unset, .unset] [(.int (fl &&& (2 : Int32)))]) := fun t k => pre t (by
    show Steps p.tables e below (s₁.setTop (mkF m 11 #[.val (.int fl), .val (.long li), .second, .val (.long re), .second, .val (.long rs), .second, .val (.long rt), .second, .val (.long dl), .second, .unset, .unset, .unset, .unset, .unset, .unset, .unset, .unset, .unset, .unset, .unset, .unset, .unset, .unset, .unset, .unset, .unset, .unset] [(.int aA)])) t
    refine XS.istore X0.here hx rfl (hb hby at_11) rfl (l' := #[.val (.int fl), .val (.long li), .second, .val (.long re), .second, .val (.long rs), .second, .val (.long rt), .second, .val (.long dl), .second, .val (.int aA), .unset, .unset, .unset, .unset, .unset, .unset, .unset, .unset, .unset, .unset, .unset, .unset, .unset, .unset, .unset, .unset, .unset]) rfl ?_
    show Steps p.tables e below (s₁.setTop (mkF m 13 #[.val (.int fl), .val (.long li), .second, .val (.long re), .second, .val (.long rs), .second, .val (.long rt), .second, .val (.long dl), .second, .val (.int aA), .unset, .unset, .unset, .unset, .unset, .unset, .unset, .unset, .unset, .unset, .unset, .unset, .unset, .unset, .unset, .unset, .unset] [])) t
    refine XS.iloadN X0.here hx rfl (hb hby at_13) rfl ?_
    show Steps p.tables e below (s₁.setTop (mkF m 14 #[.val (.int fl), .val (.long li), .second, .val (.long re), .second, .val (.long rs), .second, .val (.long rt), .second, .val (.long dl), .second, .val (.int aA), .unset, .unset, .unset, .unset, .unset, .unset, .unset, .unset, .unset, .unset, .unset, .unset, .unset, .unset, .unset, .unset, .unset] [(.int fl)])) t
    refine XS.iconst X0.here hx rfl (hb hby at_14) ?_
    show Steps p.tables e below (s₁.setTop (mkF m 15 #[.val (.int fl), .val (.long li), .second, .val (.long re), .second, .val (.long rs), .second, .val (.long rt), .second, .val (.long dl), .second, .val (.int aA), .unset, .unset, .unset, .unset, .unset, .unset, .unset, .unset, .unset, .unset, .unset, .unset, .unset, .unset, .unset, .unset, .unset] [(.int (2 : Int32)), (.int fl)])) t
    refine XS.iand X0.here hx rfl (hb hby at_15) rfl ?_
    show Steps p.tables e below (s₁.setTop (mkF m 16 #[.val (.int fl), .val (.long li), .second, .val (.long re), .second, .val (.long rs), .second, .val (.long rt), .second, .val (.long dl), .second, .val (.int aA), .unset, .unset, .unset, .unset, .unset, .unset, .unset, .unset, .unset, .unset, .unset, .unset, .unset, .unset, .unset, .unset, .unset] [(.int (fl &&& (2 : Int32)))])) t
    exact k)
  obtain ⟨aB, h_aB, pre⟩ : ∃ aB : Int32, (aB = 0 ∨ aB = 1) ∧ Pth p e below S0 s₁ (mkF m 24 #[.val (.int fl), .val (.long li), .second, .val (.long re), .second, .val (.long rs), .second, .val (.long rt), .second, .val (.long dl), .second, .val (.int aA), .unset, .unset, .unset, .unset, .unset, .unset, .unset, .unset, .unset, .unset, .unset, .unset, .unset, .unset, .unset, .unset, .unset] [(.int aB)]) := by
    by_cases z1 : (fl &&& (2 : Int32)) = (0 : Int32)
    · replace pre : Pth p e below S0 s₁ (mkF m 24 #[.val (.int fl), .val (.long li), .second, .val (.long re), .second, .val (.long rs), .second, .val (.long rt), .second, .val (.long dl), .second, .val (.int aA), .unset, .unset, .unset, .unset, .unset, .unset, .unset, .unset, .unset, .unset, .unset, .unset, .unset, .unset, .unset, .unset, .unset] [(.int (0 : Int32))]) := fun t k => pre t (by
        show Steps p.tables e below (s₁.setTop (mkF m 16 #[.val (.int fl), .val (.long li), .second, .val (.long re), .second, .val (.long rs), .second, .val (.long rt), .second, .val (.long dl), .second, .val (.int aA), .unset, .unset, .unset, .unset, .unset, .unset, .unset, .unset, .unset, .unset, .unset, .unset, .unset, .unset, .unset, .unset, .unset] [(.int (fl &&& (2 : Int32)))])) t
        refine XS.ifYes X0.here hx rfl (pc0 := 16) (pc' := 23) rfl (hb hby at_16) rfl (XT.i0_eq_t z1) (by decide) (by decide) ?_
        show Steps p.tables e below (s₁.setTop (mkF m 23 #[.val (.int fl), .val (.long li), .second, .val (.long re), .second, .val (.long rs), .second, .val (.long rt), .second, .val (.long dl), .second, .val (.int aA), .unset, .unset, .unset, .unset, .unset, .unset, .unset, .unset, .unset, .unset, .unset, .unset, .unset, .unset, .unset, .unset, .unset] [])) t
        refine XS.iconst X0.here hx rfl (hb hby at_23) ?_
        show Steps p.tables e below (s₁.setTop (mkF m 24 #[.val (.int fl), .val (.long li), .second, .val (.long re), .second, .val (.long rs), .second, .val (.long rt), .second, .val (.long dl), .second, .val (.int aA), .unset, .unset, .unset, .unset, .unset, .unset, .unset, .unset, .unset, .unset, .unset, .unset, .unset, .unset, .unset, .unset, .unset] [(.int (0 : Int32))])) t
        exact k)
      exact ⟨_, Or.inl rfl, pre⟩
    · replace pre : Pth p e below S0 s₁ (mkF m 24 #[.val (.int fl), .val (.long li), .second, .val (.long re), .second, .val (.long rs), .second, .val (.long rt), .second, .val (.long dl), .second, .val (.int aA), .unset, .unset, .unset, .unset, .unset, .unset, .unset, .unset, .unset, .unset, .unset, .unset, .unset, .unset, .unset, .unset, .unset] [(.int (1 : Int32))]) := fun t k => pre t (by
        show Steps p.tables e below (s₁.setTop (mkF m 16 #[.val (.int fl), .val (.long li), .second, .val (.long re), .second, .val (.long rs), .second, .val (.long rt), .second, .val (.long dl), .second, .val (.int aA), .unset, .unset, .unset, .unset, .unset, .unset, .unset, .unset, .unset, .unset, .unset, .unset, .unset, .unset, .unset, .unset, .unset] [(.int (fl &&& (2 : Int32)))])) t
        refine XS.ifNo X0.here hx rfl (hb hby at_16) rfl (XT.i0_eq_f z1) ?_
        show Steps p.tables e below (s₁.setTop (mkF m 19 #[.val (.int fl), .val (.long li), .second, .val (.long re), .second, .val (.long rs), .second, .val (.long rt), .second, .val (.long dl), .second, .val (.int aA), .unset, .unset, .unset, .unset, .unset, .unset, .unset, .unset, .unset, .unset, .unset, .unset, .unset, .unset, .unset, .unset, .unset] [])) t
        refine XS.iconst X0.here hx rfl (hb hby at_19) ?_
        show Steps p.tables e below (s₁.setTop (mkF m 20 #[.val (.int fl), .val (.long li), .second, .val (.long re), .second, .val (.long rs), .second, .val (.long rt), .second, .val (.long dl), .second, .val (.int aA), .unset, .unset, .unset, .unset, .unset, .unset, .unset, .unset, .unset, .unset, .unset, .unset, .unset, .unset, .unset, .unset, .unset] [(.int (1 : Int32))])) t
        refine XS.goto X0.here hx rfl (pc0 := 20) (pc' := 24) rfl (hb hby at_20) (by decide) (by decide) ?_
        show Steps p.tables e below (s₁.setTop (mkF m 24 #[.val (.int fl), .val (.long li), .second, .val (.long re), .second, .val (.long rs), .second, .val (.long rt), .second, .val (.long dl), .second, .val (.int aA), .unset, .unset, .unset, .unset, .unset, .unset, .unset, .unset, .unset, .unset, .unset, .unset, .unset, .unset, .unset, .unset, .unset] [(.int (1 : Int32))])) t
        exact k)
      exact ⟨_, Or.inr rfl, pre⟩
  replace pre : Pth p e below S0 s₁ (mkF m 29 #[.val (.int fl), .val (.long li), .second, .val (.long re), .second, .val (.long rs), .second, .val (.long rt), .second, .val (.long dl), .second, .val (.int aA), .val (.int aB), .unset, .unset, .unset, .unset, .unset, .unset, .unset, .unset, .unset, .unset, .unset, .unset, .unset, .unset, .unset, .unset] [(.int (fl &&& (4 : Int32)))]) := fun t k => pre t (by
    show Steps p.tables e below (s₁.setTop (mkF m 24 #[.val (.int fl), .val (.long li), .second, .val (.long re), .second, .val (.long rs), .second, .val (.long rt), .second, .val (.long dl), .second, .val (.int aA), .unset, .unset, .unset, .unset, .unset, .unset, .unset, .unset, .unset, .unset, .unset, .unset, .unset, .unset, .unset, .unset, .unset] [(.int aB)])) t
    refine XS.istore X0.here hx rfl (hb hby at_24) rfl (l' := #[.val (.int fl), .val (.long li), .second, .val (.long re), .second, .val (.long rs), .second, .val (.long rt), .second, .val (.long dl), .second, .val (.int aA), .val (.int aB), .unset, .unset, .unset, .unset, .unset, .unset, .unset, .unset, .unset, .unset, .unset, .unset, .unset, .unset, .unset, .unset]) rfl ?_
    show Steps p.tables e below (s₁.setTop (mkF m 26 #[.val (.int fl), .val (.long li), .second, .val (.long re), .second, .val (.long rs), .second, .val (.long rt), .second, .val (.long dl), .second, .val (.int aA), .val (.int aB), .unset, .unset, .unset, .unset, .unset, .unset, .unset, .unset, .unset, .unset, .unset, .unset, .unset, .unset, .unset, .unset] [])) t
    refine XS.iloadN X0.here hx rfl (hb hby at_26) rfl ?_
    show Steps p.tables e below (s₁.setTop (mkF m 27 #[.val (.int fl), .val (.long li), .second, .val (.long re), .second, .val (.long rs), .second, .val (.long rt), .second, .val (.long dl), .second, .val (.int aA), .val (.int aB), .unset, .unset, .unset, .unset, .unset, .unset, .unset, .unset, .unset, .unset, .unset, .unset, .unset, .unset, .unset, .unset] [(.int fl)])) t
    refine XS.iconst X0.here hx rfl (hb hby at_27) ?_
    show Steps p.tables e below (s₁.setTop (mkF m 28 #[.val (.int fl), .val (.long li), .second, .val (.long re), .second, .val (.long rs), .second, .val (.long rt), .second, .val (.long dl), .second, .val (.int aA), .val (.int aB), .unset, .unset, .unset, .unset, .unset, .unset, .unset, .unset, .unset, .unset, .unset, .unset, .unset, .unset, .unset, .unset] [(.int (4 : Int32)), (.int fl)])) t
    refine XS.iand X0.here hx rfl (hb hby at_28) rfl ?_
    show Steps p.tables e below (s₁.setTop (mkF m 29 #[.val (.int fl), .val (.long li), .second, .val (.long re), .second, .val (.long rs), .second, .val (.long rt), .second, .val (.long dl), .second, .val (.int aA), .val (.int aB), .unset, .unset, .unset, .unset, .unset, .unset, .unset, .unset, .unset, .unset, .unset, .unset, .unset, .unset, .unset, .unset] [(.int (fl &&& (4 : Int32)))])) t
    exact k)
  obtain ⟨sL, h_sL, pre⟩ : ∃ sL : Int32, (sL = 0 ∨ sL = 1) ∧ Pth p e below S0 s₁ (mkF m 37 #[.val (.int fl), .val (.long li), .second, .val (.long re), .second, .val (.long rs), .second, .val (.long rt), .second, .val (.long dl), .second, .val (.int aA), .val (.int aB), .unset, .unset, .unset, .unset, .unset, .unset, .unset, .unset, .unset, .unset, .unset, .unset, .unset, .unset, .unset, .unset] [(.int sL)]) := by
    by_cases z1 : (fl &&& (4 : Int32)) = (0 : Int32)
    · replace pre : Pth p e below S0 s₁ (mkF m 37 #[.val (.int fl), .val (.long li), .second, .val (.long re), .second, .val (.long rs), .second, .val (.long rt), .second, .val (.long dl), .second, .val (.int aA), .val (.int aB), .unset, .unset, .unset, .unset, .unset, .unset, .unset, .unset, .unset, .unset, .unset, .unset, .unset, .unset, .unset, .unset] [(.int (0 : Int32))]) := fun t k => pre t (by
        show Steps p.tables e below (s₁.setTop (mkF m 29 #[.val (.int fl), .val (.long li), .second, .val (.long re), .second, .val (.long rs), .second, .val (.long rt), .second, .val (.long dl), .second, .val (.int aA), .val (.int aB), .unset, .unset, .unset, .unset, .unset, .unset, .unset, .unset, .unset, .unset, .unset, .unset, .unset, .unset, .unset, .unset] [(.int (fl &&& (4 : Int32)))])) t
        refine XS.ifYes X0.here hx rfl (pc0 := 29) (pc' := 36) rfl (hb hby at_29) rfl (XT.i0_eq_t z1) (by decide) (by decide) ?_
        show Steps p.tables e below (s₁.setTop (mkF m 36 #[.val (.int fl), .val (.long li), .second, .val (.long re), .second, .val (.long rs), .second, .val (.long rt), .second, .val (.long dl), .second, .val (.int aA), .val (.int aB), .unset, .unset, .unset, .unset, .unset, .unset, .unset, .unset, .unset, .unset, .unset, .unset, .unset, .unset, .unset, .unset] [])) t
        refine XS.iconst X0.here hx rfl (hb hby at_36) ?_
        show Steps p.tables e below (s₁.setTop (mkF m 37 #[.val (.int fl), .val (.long li), .second, .val (.long re), .second, .val (.long rs), .second, .val (.long rt), .second, .val (.long dl), .second, .val (.int aA), .val (.int aB), .unset, .unset, .unset, .unset, .unset, .unset, .unset, .unset, .unset, .unset, .unset, .unset, .unset, .unset, .unset, .unset] [(.int (0 : Int32))])) t
        exact k)
      exact ⟨_, Or.inl rfl, pre⟩
    · replace pre : Pth p e below S0 s₁ (mkF m 37 #[.val (.int fl), .val (.long li), .second, .val (.long re), .second, .val (.long rs), .second, .val (.long rt), .second, .val (.long dl), .second, .val (.int aA), .val (.int aB), .unset, .unset, .unset, .unset, .unset, .unset, .unset, .unset, .unset, .unset, .unset, .unset, .unset, .unset, .unset, .unset] [(.int (1 : Int32))]) := fun t k => pre t (by
        show Steps p.tables e below (s₁.setTop (mkF m 29 #[.val (.int fl), .val (.long li), .second, .val (.long re), .second, .val (.long rs), .second, .val (.long rt), .second, .val (.long dl), .second, .val (.int aA), .val (.int aB), .unset, .unset, .unset, .unset, .unset, .unset, .unset, .unset, .unset, .unset, .unset, .unset, .unset, .unset, .unset, .unset] [(.int (fl &&& (4 : Int32)))])) t
        refine XS.ifNo X0.here hx rfl (hb hby at_29) rfl (XT.i0_eq_f z1) ?_
        show Steps p.tables e below (s₁.setTop (mkF m 32 #[.val (.int fl), .val (.long li), .second, .val (.long re), .second, .val (.long rs), .second, .val (.long rt), .second, .val (.long dl), .second, .val (.int aA), .val (.int aB), .unset, .unset, .unset, .unset, .unset, .unset, .unset, .unset, .unset, .unset, .unset, .unset, .unset, .unset, .unset, .unset] [])) t
        refine XS.iconst X0.here hx rfl (hb hby at_32) ?_
        show Steps p.tables e below (s₁.setTop (mkF m 33 #[.val (.int fl), .val (.long li), .second, .val (.long re), .second, .val (.long rs), .second, .val (.long rt), .second, .val (.long dl), .second, .val (.int aA), .val (.int aB), .unset, .unset, .unset, .unset, .unset, .unset, .unset, .unset, .unset, .unset, .unset, .unset, .unset, .unset, .unset, .unset] [(.int (1 : Int32))])) t
        refine XS.goto X0.here hx rfl (pc0 := 33) (pc' := 37) rfl (hb hby at_33) (by decide) (by decide) ?_
        show Steps p.tables e below (s₁.setTop (mkF m 37 #[.val (.int fl), .val (.long li), .second, .val (.long re), .second, .val (.long rs), .second, .val (.long rt), .second, .val (.long dl), .second, .val (.int aA), .val (.int aB), .unset, .unset, .unset, .unset, .unset, .unset, .unset, .unset, .unset, .unset, .unset, .unset, .unset, .unset, .unset, .unset] [(.int (1 : Int32))])) t
        exact k)
      exact ⟨_, Or.inr rfl, pre⟩
  replace pre : Pth p e below S0 s₁ (mkF m 43 #[.val (.int fl), .val (.long li), .second, .val (.long re), .second, .val (.long rs), .second, .val (.long rt), .second, .val (.long dl), .second, .val (.int aA), .val (.int aB), .val (.int sL), .unset, .unset, .unset, .unset, .unset, .unset, .unset, .unset, .unset, .unset, .unset, .unset, .unset, .unset, .unset] [(.int (fl &&& (8 : Int32)))]) := fun t k => pre t (by
    show Steps p.tables e below (s₁.setTop (mkF m 37 #[.val (.int fl), .val (.long li), .second, .val (.long re), .second, .val (.long rs), .second, .val (.long rt), .second, .val (.long dl), .second, .val (.int aA), .val (.int aB), .unset, .unset, .unset, .unset, .unset, .unset, .unset, .unset, .unset, .unset, .unset, .unset, .unset, .unset, .unset, .unset] [(.int sL)])) t
    refine XS.istore X0.here hx rfl (hb hby at_37) rfl (l' := #[.val (.int fl), .val (.long li), .second, .val (.long re), .second, .val (.long rs), .second, .val (.long rt), .second, .val (.long dl), .second, .val (.int aA), .val (.int aB), .val (.int sL), .unset, .unset, .unset, .unset, .unset, .unset, .unset, .unset, .unset, .unset, .unset, .unset, .unset, .unset, .unset]) rfl ?_
    show Steps p.tables e below (s₁.setTop (mkF m 39 #[.val (.int fl), .val (.long li), .second, .val (.long re), .second, .val (.long rs), .second, .val (.long rt), .second, .val (.long dl), .second, .val (.int aA), .val (.int aB), .val (.int sL), .unset, .unset, .unset, .unset, .unset, .unset, .unset, .unset, .unset, .unset, .unset, .unset, .unset, .unset, .unset] [])) t
    refine XS.iloadN X0.here hx rfl (hb hby at_39) rfl ?_
    show Steps p.tables e below (s₁.setTop (mkF m 40 #[.val (.int fl), .val (.long li), .second, .val (.long re), .second, .val (.long rs), .second, .val (.long rt), .second, .val (.long dl), .second, .val (.int aA), .val (.int aB), .val (.int sL), .unset, .unset, .unset, .unset, .unset, .unset, .unset, .unset, .unset, .unset, .unset, .unset, .unset, .unset, .unset] [(.int fl)])) t
    refine XS.bipush X0.here hx rfl (hb hby at_40) ?_
    show Steps p.tables e below (s₁.setTop (mkF m 42 #[.val (.int fl), .val (.long li), .second, .val (.long re), .second, .val (.long rs), .second, .val (.long rt), .second, .val (.long dl), .second, .val (.int aA), .val (.int aB), .val (.int sL), .unset, .unset, .unset, .unset, .unset, .unset, .unset, .unset, .unset, .unset, .unset, .unset, .unset, .unset, .unset] [(.int (8 : Int32)), (.int fl)])) t
    refine XS.iand X0.here hx rfl (hb hby at_42) rfl ?_
    show Steps p.tables e below (s₁.setTop (mkF m 43 #[.val (.int fl), .val (.long li), .second, .val (.long re), .second, .val (.long rs), .second, .val (.long rt), .second, .val (.long dl), .second, .val (.int aA), .val (.int aB), .val (.int sL), .unset, .unset, .unset, .unset, .unset, .unset, .unset, .unset, .unset, .unset, .unset, .unset, .unset, .unset, .unset] [(.int (fl &&& (8 : Int32)))])) t
    exact k)
  obtain ⟨sR, h_sR, pre⟩ : ∃ sR : Int32, (sR = 0 ∨ sR = 1) ∧ Pth p e below S0 s₁ (mkF m 51 #[.val (.int fl), .val (.long li), .second, .val (.long re), .second, .val (.long rs), .second, .val (.long rt), .second, .val (.long dl), .second, .val (.int aA), .val (.int aB), .val (.int sL), .unset, .unset, .unset, .unset, .unset, .unset, .unset, .unset, .unset, .unset, .unset, .unset, .unset, .unset, .unset] [(.int sR)]) := by
    by_cases z1 : (fl &&& (8 : Int32)) = (0 : Int32)
    · replace pre : Pth p e below S0 s₁ (mkF m 51 #[.val (.int fl), .val (.long li), .second, .val (.long re), .second, .val (.long rs), .second, .val (.long rt), .second, .val (.long dl), .second, .val (.int aA), .val (.int aB), .val (.int sL), .unset, .unset, .unset, .unset, .unset, .unset, .unset, .unset, .unset, .unset, .unset, .unset, .unset, .unset, .unset] [(.int (0 : Int32))]) := fun t k => pre t (by
        show Steps p.tables e below (s₁.setTop (mkF m 43 #[.val (.int fl), .val (.long li), .second, .val (.long re), .second, .val (.long rs), .second, .val (.long rt), .second, .val (.long dl), .second, .val (.int aA), .val (.int aB), .val (.int sL), .unset, .unset, .unset, .unset, .unset, .unset, .unset, .unset, .unset, .unset, .unset, .unset, .unset, .unset, .unset] [(.int (fl &&& (8 : Int32)))])) t
        refine XS.ifYes X0.here hx rfl (pc0 := 43) (pc' := 50) rfl (hb hby at_43) rfl (XT.i0_eq_t z1) (by decide) (by decide) ?_
        show Steps p.tables e below (s₁.setTop (mkF m 50 #[.val (.int fl), .val (.long li), .second, .val (.long re), .second, .val (.long rs), .second, .val (.long rt), .second, .val (.long dl), .second, .val (.int aA), .val (.int aB), .val (.int sL), .unset, .unset, .unset, .unset, .unset, .unset, .unset, .unset, .unset, .unset, .unset, .unset, .unset, .unset, .unset] [])) t
        refine XS.iconst X0.here hx rfl (hb hby at_50) ?_
        show Steps p.tables e below (s₁.setTop (mkF m 51 #[.val (.int fl), .val (.long li), .second, .val (.long re), .second, .val (.long rs), .second, .val (.long rt), .second, .val (.long dl), .second, .val (.int aA), .val (.int aB), .val (.int sL), .unset, .unset, .unset, .unset, .unset, .unset, .unset, .unset, .unset, .unset, .unset, .unset, .unset, .unset, .unset] [(.int (0 : Int32))])) t
        exact k)
      exact ⟨_, Or.inl rfl, pre⟩
    · replace pre : Pth p e below S0 s₁ (mkF m 51 #[.val (.int fl), .val (.long li), .second, .val (.long re), .second, .val (.long rs), .second, .val (.long rt), .second, .val (.long dl), .second, .val (.int aA), .val (.int aB), .val (.int sL), .unset, .unset, .unset, .unset, .unset, .unset, .unset, .unset, .unset, .unset, .unset, .unset, .unset, .unset, .unset] [(.int (1 : Int32))]) := fun t k => pre t (by
        show Steps p.tables e below (s₁.setTop (mkF m 43 #[.val (.int fl), .val (.long li), .second, .val (.long re), .second, .val (.long rs), .second, .val (.long rt), .second, .val (.long dl), .second, .val (.int aA), .val (.int aB), .val (.int sL), .unset, .unset, .unset, .unset, .unset, .unset, .unset, .unset, .unset, .unset, .unset, .unset, .unset, .unset, .unset] [(.int (fl &&& (8 : Int32)))])) t
        refine XS.ifNo X0.here hx rfl (hb hby at_43) rfl (XT.i0_eq_f z1) ?_
        show Steps p.tables e below (s₁.setTop (mkF m 46 #[.val (.int fl), .val (.long li), .second, .val (.long re), .second, .val (.long rs), .second, .val (.long rt), .second, .val (.long dl), .second, .val (.int aA), .val (.int aB), .val (.int sL), .unset, .unset, .unset, .unset, .unset, .unset, .unset, .unset, .unset, .unset, .unset, .unset, .unset, .unset, .unset] [])) t
        refine XS.iconst X0.here hx rfl (hb hby at_46) ?_
        show Steps p.tables e below (s₁.setTop (mkF m 47 #[.val (.int fl), .val (.long li), .second, .val (.long re), .second, .val (.long rs), .second, .val (.long rt), .second, .val (.long dl), .second, .val (.int aA), .val (.int aB), .val (.int sL), .unset, .unset, .unset, .unset, .unset, .unset, .unset, .unset, .unset, .unset, .unset, .unset, .unset, .unset, .unset] [(.int (1 : Int32))])) t
        refine XS.goto X0.here hx rfl (pc0 := 47) (pc' := 51) rfl (hb hby at_47) (by decide) (by decide) ?_
        show Steps p.tables e below (s₁.setTop (mkF m 51 #[.val (.int fl), .val (.long li), .second, .val (.long re), .second, .val (.long rs), .second, .val (.long rt), .second, .val (.long dl), .second, .val (.int aA), .val (.int aB), .val (.int sL), .unset, .unset, .unset, .unset, .unset, .unset, .unset, .unset, .unset, .unset, .unset, .unset, .unset, .unset, .unset] [(.int (1 : Int32))])) t
        exact k)
      exact ⟨_, Or.inr rfl, pre⟩
  replace pre : Pth p e below S0 s₁ (mkF m 57 #[.val (.int fl), .val (.long li), .second, .val (.long re), .second, .val (.long rs), .second, .val (.long rt), .second, .val (.long dl), .second, .val (.int aA), .val (.int aB), .val (.int sL), .val (.int sR), .unset, .unset, .unset, .unset, .unset, .unset, .unset, .unset, .unset, .unset, .unset, .unset, .unset, .unset] [(.int (fl &&& (16 : Int32)))]) := fun t k => pre t (by
    show Steps p.tables e below (s₁.setTop (mkF m 51 #[.val (.int fl), .val (.long li), .second, .val (.long re), .second, .val (.long rs), .second, .val (.long rt), .second, .val (.long dl), .second, .val (.int aA), .val (.int aB), .val (.int sL), .unset, .unset, .unset, .unset, .unset, .unset, .unset, .unset, .unset, .unset, .unset, .unset, .unset, .unset, .unset] [(.int sR)])) t
    refine XS.istore X0.here hx rfl (hb hby at_51) rfl (l' := #[.val (.int fl), .val (.long li), .second, .val (.long re), .second, .val (.long rs), .second, .val (.long rt), .second, .val (.long dl), .second, .val (.int aA), .val (.int aB), .val (.int sL), .val (.int sR), .unset, .unset, .unset, .unset, .unset, .unset, .unset, .unset, .unset, .unset, .unset, .unset, .unset, .unset]) rfl ?_
    show Steps p.tables e below (s₁.setTop (mkF m 53 #[.val (.int fl), .val (.long li), .second, .val (.long re), .second, .val (.long rs), .second, .val (.long rt), .second, .val (.long dl), .second, .val (.int aA), .val (.int aB), .val (.int sL), .val (.int sR), .unset, .unset, .unset, .unset, .unset, .unset, .unset, .unset, .unset, .unset, .unset, .unset, .unset, .unset] [])) t
    refine XS.iloadN X0.here hx rfl (hb hby at_53) rfl ?_
    show Steps p.tables e below (s₁.setTop (mkF m 54 #[.val (.int fl), .val (.long li), .second, .val (.long re), .second, .val (.long rs), .second, .val (.long rt), .second, .val (.long dl), .second, .val (.int aA), .val (.int aB), .val (.int sL), .val (.int sR), .unset, .unset, .unset, .unset, .unset, .unset, .unset, .unset, .unset, .unset, .unset, .unset, .unset, .unset] [(.int fl)])) t
    refine XS.bipush X0.here hx rfl (hb hby at_54) ?_
    show Steps p.tables e below (s₁.setTop (mkF m 56 #[.val (.int fl), .val (.long li), .second, .val (.long re), .second, .val (.long rs), .second, .val (.long rt), .second, .val (.long dl), .second, .val (.int aA), .val (.int aB), .val (.int sL), .val (.int sR), .unset, .unset, .unset, .unset, .unset, .unset, .unset, .unset, .unset, .unset, .unset, .unset, .unset, .unset] [(.int (16 : Int32)), (.int fl)])) t
    refine XS.iand X0.here hx rfl (hb hby at_56) rfl ?_
    show Steps p.tables e below (s₁.setTop (mkF m 57 #[.val (.int fl), .val (.long li), .second, .val (.long re), .second, .val (.long rs), .second, .val (.long rt), .second, .val (.long dl), .second, .val (.int aA), .val (.int aB), .val (.int sL), .val (.int sR), .unset, .unset, .unset, .unset, .unset, .unset, .unset, .unset, .unset, .unset, .unset, .unset, .unset, .unset] [(.int (fl &&& (16 : Int32)))])) t
    exact k)
  obtain ⟨sS, h_sS, pre⟩ : ∃ sS : Int32, (sS = 0 ∨ sS = 1) ∧ Pth p e below S0 s₁ (mkF m 65 #[.val (.int fl), .val (.long li), .second, .val (.long re), .second, .val (.long rs), .second, .val (.long rt), .second, .val (.long dl), .second, .val (.int aA), .val (.int aB), .val (.int sL), .val (.int sR), .unset, .unset, .unset, .unset, .unset, .unset, .unset, .unset, .unset, .unset, .unset, .unset, .unset, .unset] [(.int sS)]) := by
    by_cases z1 : (fl &&& (16 : Int32)) = (0 : Int32)
    · replace pre : Pth p e below S0 s₁ (mkF m 65 #[.val (.int fl), .val (.long li), .second, .val (.long re), .second, .val (.long rs), .second, .val (.long rt), .second, .val (.long dl), .second, .val (.int aA), .val (.int aB), .val (.int sL), .val (.int sR), .unset, .unset, .unset, .unset, .unset, .unset, .unset, .unset, .unset, .unset, .unset, .unset, .unset, .unset] [(.int (0 : Int32))]) := fun t k => pre t (by
        show Steps p.tables e below (s₁.setTop (mkF m 57 #[.val (.int fl), .val (.long li), .second, .val (.long re), .second, .val (.long rs), .second, .val (.long rt), .second, .val (.long dl), .second, .val (.int aA), .val (.int aB), .val (.int sL), .val (.int sR), .unset, .unset, .unset, .unset, .unset, .unset, .unset, .unset, .unset, .unset, .unset, .unset, .unset, .unset] [(.int (fl &&& (16 : Int32)))])) t
        refine XS.ifYes X0.here hx rfl (pc0 := 57) (pc' := 64) rfl (hb hby at_57) rfl (XT.i0_eq_t z1) (by decide) (by decide) ?_
        show Steps p.tables e below (s₁.setTop (mkF m 64 #[.val (.int fl), .val (.long li), .second, .val (.long re), .second, .val (.long rs), .second, .val (.long rt), .second, .val (.long dl), .second, .val (.int aA), .val (.int aB), .val (.int sL), .val (.int sR), .unset, .unset, .unset, .unset, .unset, .unset, .unset, .unset, .unset, .unset, .unset, .unset, .unset, .unset] [])) t
        refine XS.iconst X0.here hx rfl (hb hby at_64) ?_
        show Steps p.tables e below (s₁.setTop (mkF m 65 #[.val (.int fl), .val (.long li), .second, .val (.long re), .second, .val (.long rs), .second, .val (.long rt), .second, .val (.long dl), .second, .val (.int aA), .val (.int aB), .val (.int sL), .val (.int sR), .unset, .unset, .unset, .unset, .unset, .unset, .unset, .unset, .unset, .unset, .unset, .unset, .unset, .unset] [(.int (0 : Int32))])) t
        exact k)
      exact ⟨_, Or.inl rfl, pre⟩
    · replace pre : Pth p e below S0 s₁ (mkF m 65 #[.val (.int fl), .val (.long li), .second, .val (.long re), .second, .val (.long rs), .second, .val (.long rt), .second, .val (.long dl), .second, .val (.int aA), .val (.int aB), .val (.int sL), .val (.int sR), .unset, .unset, .unset, .unset, .unset, .unset, .unset, .unset, .unset, .unset, .unset, .unset, .unset, .unset] [(.int (1 : Int32))]) := fun t k => pre t (by
        show Steps p.tables e below (s₁.setTop (mkF m 57 #[.val (.int fl), .val (.long li), .second, .val (.long re), .second, .val (.long rs), .second, .val (.long rt), .second, .val (.long dl), .second, .val (.int aA), .val (.int aB), .val (.int sL), .val (.int sR), .unset, .unset, .unset, .unset, .unset, .unset, .unset, .unset, .unset, .unset, .unset, .unset, .unset, .unset] [(.int (fl &&& (16 : Int32)))])) t
        refine XS.ifNo X0.here hx rfl (hb hby at_57) rfl (XT.i0_eq_f z1) ?_
        show Steps p.tables e below (s₁.setTop (mkF m 60 #[.val (.int fl), .val (.long li), .second, .val (.long re), .second, .val (.long rs), .second, .val (.long rt), .second, .val (.long dl), .second, .val (.int aA), .val (.int aB), .val (.int sL), .val (.int sR), .unset, .unset, .unset, .unset, .unset, .unset, .unset, .unset, .unset, .unset, .unset, .unset, .unset, .unset] [])) t
        refine XS.iconst X0.here hx rfl (hb hby at_60) ?_
        show Steps p.tables e below (s₁.setTop (mkF m 61 #[.val (.int fl), .val (.long li), .second, .val (.long re), .second, .val (.long rs), .second, .val (.long rt), .second, .val (.long dl), .second, .val (.int aA), .val (.int aB), .val (.int sL), .val (.int sR), .unset, .unset, .unset, .unset, .unset, .unset, .unset, .unset, .unset, .unset, .unset, .unset, .unset, .unset] [(.int (1 : Int32))])) t
        refine XS.goto X0.here hx rfl (pc0 := 61) (pc' := 65) rfl (hb hby at_61) (by decide) (by decide) ?_
        show Steps p.tables e below (s₁.setTop (mkF m 65 #[.val (.int fl), .val (.long li), .second, .val (.long re), .second, .val (.long rs), .second, .val (.long rt), .second, .val (.long dl), .second, .val (.int aA), .val (.int aB), .val (.int sL), .val (.int sR), .unset, .unset, .unset, .unset, .unset, .unset, .unset, .unset, .unset, .unset, .unset, .unset, .unset, .unset] [(.int (1 : Int32))])) t
        exact k)
      exact ⟨_, Or.inr rfl, pre⟩
  replace pre : Pth p e below S0 s₁ (mkF m 71 #[.val (.int fl), .val (.long li), .second, .val (.long re), .second, .val (.long rs), .second, .val (.long rt), .second, .val (.long dl), .second, .val (.int aA), .val (.int aB), .val (.int sL), .val (.int sR), .val (.int sS), .unset, .unset, .unset, .unset, .unset, .unset, .unset, .unset, .unset, .unset, .unset, .unset, .unset] [(.int (fl &&& (32 : Int32)))]) := fun t k => pre t (by
    show Steps p.tables e below (s₁.setTop (mkF m 65 #[.val (.int fl), .val (.long li), .second, .val (.long re), .second, .val (.long rs), .second, .val (.long rt), .second, .val (.long dl), .second, .val (.int aA), .val (.int aB), .val (.int sL), .val (.int sR), .unset, .unset, .unset, .unset, .unset, .unset, .unset, .unset, .unset, .unset, .unset, .unset, .unset, .unset] [(.int sS)])) t
    refine XS.istore X0.here hx rfl (hb hby at_65) rfl (l' := #[.val (.int fl), .val (.long li), .second, .val (.long re), .second, .val (.long rs), .second, .val (.long rt), .second, .val (.long dl), .second, .val (.int aA), .val (.int aB), .val (.int sL), .val (.int sR), .val (.int sS), .unset, .unset, .unset, .unset, .unset, .unset, .unset, .unset, .unset, .unset, .unset, .unset, .unset]) rfl ?_
    show Steps p.tables e below (s₁.setTop (mkF m 67 #[.val (.int fl), .val (.long li), .second, .val (.long re), .second, .val (.long rs), .second, .val (.long rt), .second, .val (.long dl), .second, .val (.int aA), .val (.int aB), .val (.int sL), .val (.int sR), .val (.int sS), .unset, .unset, .unset, .unset, .unset, .unset, .unset, .unset, .unset, .unset, .unset, .unset, .unset] [])) t
    refine XS.iloadN X0.here hx rfl (hb hby at_67) rfl ?_
    show Steps p.tables e below (s₁.setTop (mkF m 68 #[.val (.int fl), .val (.long li), .second, .val (.long re), .second, .val (.long rs), .second, .val (.long rt), .second, .val (.long dl), .second, .val (.int aA), .val (.int aB), .val (.int sL), .val (.int sR), .val (.int sS), .unset, .unset, .unset, .unset, .unset, .unset, .unset, .unset, .unset, .unset, .unset, .unset, .unset] [(.int fl)])) t
    refine XS.bipush X0.here hx rfl (hb hby at_68) ?_
    show Steps p.tables e below (s₁.setTop (mkF m 70 #[.val (.int fl), .val (.long li), .second, .val (.long re), .second, .val (.long rs), .second, .val (.long rt), .second, .val (.long dl), .second, .val (.int aA), .val (.int aB), .val (.int sL), .val (.int sR), .val (.int sS), .unset, .unset, .unset, .unset, .unset, .unset, .unset, .unset, .unset, .unset, .unset, .unset, .unset] [(.int (32 : Int32)), (.int fl)])) t
    refine XS.iand X0.here hx rfl (hb hby at_70) rfl ?_
    show Steps p.tables e below (s₁.setTop (mkF m 71 #[.val (.int fl), .val (.long li), .second, .val (.long re), .second, .val (.long rs), .second, .val (.long rt), .second, .val (.long dl), .second, .val (.int aA), .val (.int aB), .val (.int sL), .val (.int sR), .val (.int sS), .unset, .unset, .unset, .unset, .unset, .unset, .unset, .unset, .unset, .unset, .unset, .unset, .unset] [(.int (fl &&& (32 : Int32)))])) t
    exact k)
  obtain ⟨sT, h_sT, pre⟩ : ∃ sT : Int32, (sT = 0 ∨ sT = 1) ∧ Pth p e below S0 s₁ (mkF m 79 #[.val (.int fl), .val (.long li), .second, .val (.long re), .second, .val (.long rs), .second, .val (.long rt), .second, .val (.long dl), .second, .val (.int aA), .val (.int aB), .val (.int sL), .val (.int sR), .val (.int sS), .unset, .unset, .unset, .unset, .unset, .unset, .unset, .unset, .unset, .unset, .unset, .unset, .unset] [(.int sT)]) := by
    by_cases z1 : (fl &&& (32 : Int32)) = (0 : Int32)
    · replace pre : Pth p e below S0 s₁ (mkF m 79 #[.val (.int fl), .val (.long li), .second, .val (.long re), .second, .val (.long rs), .second, .val (.long rt), .second, .val (.long dl), .second, .val (.int aA), .val (.int aB), .val (.int sL), .val (.int sR), .val (.int sS), .unset, .unset, .unset, .unset, .unset, .unset, .unset, .unset, .unset, .unset, .unset, .unset, .unset] [(.int (0 : Int32))]) := fun t k => pre t (by
        show Steps p.tables e below (s₁.setTop (mkF m 71 #[.val (.int fl), .val (.long li), .second, .val (.long re), .second, .val (.long rs), .second, .val (.long rt), .second, .val (.long dl), .second, .val (.int aA), .val (.int aB), .val (.int sL), .val (.int sR), .val (.int sS), .unset, .unset, .unset, .unset, .unset, .unset, .unset, .unset, .unset, .unset, .unset, .unset, .unset] [(.int (fl &&& (32 : Int32)))])) t
        refine XS.ifYes X0.here hx rfl (pc0 := 71) (pc' := 78) rfl (hb hby at_71) rfl (XT.i0_eq_t z1) (by decide) (by decide) ?_
        show Steps p.tables e below (s₁.setTop (mkF m 78 #[.val (.int fl), .val (.long li), .second, .val (.long re), .second, .val (.long rs), .second, .val (.long rt), .second, .val (.long dl), .second, .val (.int aA), .val (.int aB), .val (.int sL), .val (.int sR), .val (.int sS), .unset, .unset, .unset, .unset, .unset, .unset, .unset, .unset, .unset, .unset, .unset, .unset, .unset] [])) t
        refine XS.iconst X0.here hx rfl (hb hby at_78) ?_
        show Steps p.tables e below (s₁.setTop (mkF m 79 #[.val (.int fl), .val (.long li), .second, .val (.long re), .second, .val (.long rs), .second, .val (.long rt), .second, .val (.long dl), .second, .val (.int aA), .val (.int aB), .val (.int sL), .val (.int sR), .val (.int sS), .unset, .unset, .unset, .unset, .unset, .unset, .unset, .unset, .unset, .unset, .unset, .unset, .unset] [(.int (0 : Int32))])) t
        exact k)
      exact ⟨_, Or.inl rfl, pre⟩
    · replace pre : Pth p e below S0 s₁ (mkF m 79 #[.val (.int fl), .val (.long li), .second, .val (.long re), .second, .val (.long rs), .second, .val (.long rt), .second, .val (.long dl), .second, .val (.int aA), .val (.int aB), .val (.int sL), .val (.int sR), .val (.int sS), .unset, .unset, .unset, .unset, .unset, .unset, .unset, .unset, .unset, .unset, .unset, .unset, .unset] [(.int (1 : Int32))]) := fun t k => pre t (by
        show Steps p.tables e below (s₁.setTop (mkF m 71 #[.val (.int fl), .val (.long li), .second, .val (.long re), .second, .val (.long rs), .second, .val (.long rt), .second, .val (.long dl), .second, .val (.int aA), .val (.int aB), .val (.int sL), .val (.int sR), .val (.int sS), .unset, .unset, .unset, .unset, .unset, .unset, .unset, .unset, .unset, .unset, .unset, .unset, .unset] [(.int (fl &&& (32 : Int32)))])) t
        refine XS.ifNo X0.here hx rfl (hb hby at_71) rfl (XT.i0_eq_f z1) ?_
        show Steps p.tables e below (s₁.setTop (mkF m 74 #[.val (.int fl), .val (.long li), .second, .val (.long re), .second, .val (.long rs), .second, .val (.long rt), .second, .val (.long dl), .second, .val (.int aA), .val (.int aB), .val (.int sL), .val (.int sR), .val (.int sS), .unset, .unset, .unset, .unset, .unset, .unset, .unset, .unset, .unset, .unset, .unset, .unset, .unset] [])) t
        refine XS.iconst X0.here hx rfl (hb hby at_74) ?_
        show Steps p.tables e below (s₁.setTop (mkF m 75 #[.val (.int fl), .val (.long li), .second, .val (.long re), .second, .val (.long rs), .second, .val (.long rt), .second, .val (.long dl), .second, .val (.int aA), .val (.int aB), .val (.int sL), .val (.int sR), .val (.int sS), .unset, .unset, .unset, .unset, .unset, .unset, .unset, .unset, .unset, .unset, .unset, .unset, .unset] [(.int (1 : Int32))])) t
        refine XS.goto X0.here hx rfl (pc0 := 75) (pc' := 79) rfl (hb hby at_75) (by decide) (by decide) ?_
        show Steps p.tables e below (s₁.setTop (mkF m 79 #[.val (.int fl), .val (.long li), .second, .val (.long re), .second, .val (.long rs), .second, .val (.long rt), .second, .val (.long dl), .second, .val (.int aA), .val (.int aB), .val (.int sL), .val (.int sR), .val (.int sS), .unset, .unset, .unset, .unset, .unset, .unset, .unset, .unset, .unset, .unset, .unset, .unset, .unset] [(.int (1 : Int32))])) t
        exact k)
      exact ⟨_, Or.inr rfl, pre⟩
  replace pre : Pth p e below S0 s₁ (mkF m 83 #[.val (.int fl), .val (.long li), .second, .val (.long re), .second, .val (.long rs), .second, .val (.long rt), .second, .val (.long dl), .second, .val (.int aA), .val (.int aB), .val (.int sL), .val (.int sR), .val (.int sS), .val (.int sT), .unset, .unset, .unset, .unset, .unset, .unset, .unset, .unset, .unset, .unset, .unset, .unset] [(.int sL)]) := fun t k => pre t (by
    show Steps p.tables e below (s₁.setTop (mkF m 79 #[.val (.int fl), .val (.long li), .second, .val (.long re), .second, .val (.long rs), .second, .val (.long rt), .second, .val (.long dl), .second, .val (.int aA), .val (.int aB), .val (.int sL), .val (.int sR), .val (.int sS), .unset, .unset, .unset, .unset, .unset, .unset, .unset, .unset, .unset, .unset, .unset, .unset, .unset] [(.int sT)])) t
    refine XS.istore X0.here hx rfl (hb hby at_79) rfl (l' := #[.val (.int fl), .val (.long li), .second, .val (.long re), .second, .val (.long rs), .second, .val (.long rt), .second, .val (.long dl), .second, .val (.int aA), .val (.int aB), .val (.int sL), .val (.int sR), .val (.int sS), .val (.int sT), .unset, .unset, .unset, .unset, .unset, .unset, .unset, .unset, .unset, .unset, .unset, .unset]) rfl ?_
    show Steps p.tables e below (s₁.setTop (mkF m 81 #[.val (.int fl), .val (.long li), .second, .val (.long re), .second, .val (.long rs), .second, .val (.long rt), .second, .val (.long dl), .second, .val (.int aA), .val (.int aB), .val (.int sL), .val (.int sR), .val (.int sS), .val (.int sT), .unset, .unset, .unset, .unset, .unset, .unset, .unset, .unset, .unset, .unset, .unset, .unset] [])) t
    refine XS.iload X0.here hx rfl (hb hby at_81) rfl ?_
    show Steps p.tables e below (s₁.setTop (mkF m 83 #[.val (.int fl), .val (.long li), .second, .val (.long re), .second, .val (.long rs), .second, .val (.long rt), .second, .val (.long dl), .second, .val (.int aA), .val (.int aB), .val (.int sL), .val (.int sR), .val (.int sS), .val (.int sT), .unset, .unset, .unset, .unset, .unset, .unset, .unset, .unset, .unset, .unset, .unset, .unset] [(.int sL)])) t
    exact k)
  obtain ⟨lB, h_lB, pre⟩ : ∃ lB : Int64, lB = (if sL = (0 : Int32) then li else dl) ∧ Pth p e below S0 s₁ (mkF m 92 #[.val (.int fl), .val (.long li), .second, .val (.long re), .second, .val (.long rs), .second, .val (.long rt), .second, .val (.long dl), .second, .val (.int aA), .val (.int aB), .val (.int sL), .val (.int sR), .val (.int sS), .val (.int sT), .unset, .unset, .unset, .unset, .unset, .unset, .unset, .unset, .unset, .unset, .unset, .unset] [(.long lB)]) := by
    by_cases z1 : sL = (0 : Int32)
    · replace pre : Pth p e below S0 s₁ (mkF m 92 #[.val (.int fl), .val (.long li), .second, .val (.long re), .second, .val (.long rs), .second, .val (.long rt), .second, .val (.long dl), .second, .val (.int aA), .val (.int aB), .val (.int sL), .val (.int sR), .val (.int sS), .val (.int sT), .unset, .unset, .unset, .unset, .unset, .unset, .unset, .unset, .unset, .unset, .unset, .unset] [(.long li)]) := fun t k => pre t (by
        show Steps p.tables e below (s₁.setTop (mkF m 83 #[.val (.int fl), .val (.long li), .second, .val (.long re), .second, .val (.long rs), .second, .val (.long rt), .second, .val (.long dl), .second, .val (.int aA), .val (.int aB), .val (.int sL), .val (.int sR), .val (.int sS), .val (.int sT), .unset, .unset, .unset, .unset, .unset, .unset, .unset, .unset, .unset, .unset, .unset, .unset] [(.int sL)])) t
        refine XS.ifYes X0.here hx rfl (pc0 := 83) (pc' := 91) rfl (hb hby at_83) rfl (XT.i0_eq_t z1) (by decide) (by decide) ?_
        show Steps p.tables e below (s₁.setTop (mkF m 91 #[.val (.int fl), .val (.long li), .second, .val (.long re), .second, .val (.long rs), .second, .val (.long rt), .second, .val (.long dl), .second, .val (.int aA), .val (.int aB), .val (.int sL), .val (.int sR), .val (.int sS), .val (.int sT), .unset, .unset, .unset, .unset, .unset, .unset, .unset, .unset, .unset, .unset, .unset, .unset] [])) t
        refine XS.lloadN X0.here hx rfl (hb hby at_91) rfl ?_
        show Steps p.tables e below (s₁.setTop (mkF m 92 #[.val (.int fl), .val (.long li), .second, .val (.long re), .second, .val (.long rs), .second, .val (.long rt), .second, .val (.long dl), .second, .val (.int aA), .val (.int aB), .val (.int sL), .val (.int sR), .val (.int sS), .val (.int sT), .unset, .unset, .unset, .unset, .unset, .unset, .unset, .unset, .unset, .unset, .unset, .unset] [(.long li)])) t
        exact k)
      exact ⟨_, (if_pos z1).symm, pre⟩
    · replace pre : Pth p e below S0 s₁ (mkF m 92 #[.val (.int fl), .val (.long li), .second, .val (.long re), .second, .val (.long rs), .second, .val (.long rt), .second, .val (.long dl), .second, .val (.int aA), .val (.int aB), .val (.int sL), .val (.int sR), .val (.int sS), .val (.int sT), .unset, .unset, .unset, .unset, .unset, .unset, .unset, .unset, .unset, .unset, .unset, .unset] [(.long dl)]) := fun t k => pre t (by
        show Steps p.tables e below (s₁.setTop (mkF m 83 #[.val (.int fl), .val (.long li), .second, .val (.long re), .second, .val (.long rs), .second, .val (.long rt), .second, .val (.long dl), .second, .val (.int aA), .val (.int aB), .val (.int sL), .val (.int sR), .val (.int sS), .val (.int sT), .unset, .unset, .unset, .unset, .unset, .unset, .unset, .unset, .unset, .unset, .unset, .unset] [(.int sL)])) t
        refine XS.ifNo X0.here hx rfl (hb hby at_83) rfl (XT.i0_eq_f z1) ?_
        show Steps p.tables e below (s₁.setTop (mkF m 86 #[.val (.int fl), .val (.long li), .second, .val (.long re), .second, .val (.long rs), .second, .val (.long rt), .second, .val (.long dl), .second, .val (.int aA), .val (.int aB), .val (.int sL), .val (.int sR), .val (.int sS), .val (.int sT), .unset, .unset, .unset, .unset, .unset, .unset, .unset, .unset, .unset, .unset, .unset, .unset] [])) t
        refine XS.lload X0.here hx rfl (hb hby at_86) rfl ?_
        show Steps p.tables e below (s₁.setTop (mkF m 88 #[.val (.int fl), .val (.long li), .second, .val (.long re), .second, .val (.long rs), .second, .val (.long rt), .second, .val (.long dl), .second, .val (.int aA), .val (.int aB), .val (.int sL), .val (.int sR), .val (.int sS), .val (.int sT), .unset, .unset, .unset, .unset, .unset, .unset, .unset, .unset, .unset, .unset, .unset, .unset] [(.long dl)])) t
        refine XS.goto X0.here hx rfl (pc0 := 88) (pc' := 92) rfl (hb hby at_88) (by decide) (by decide) ?_
        show Steps p.tables e below (s₁.setTop (mkF m 92 #[.val (.int fl), .val (.long li), .second, .val (.long re), .second, .val (.long rs), .second, .val (.long rt), .second, .val (.long dl), .second, .val (.int aA), .val (.int aB), .val (.int sL), .val (.int sR), .val (.int sS), .val (.int sT), .unset, .unset, .unset, .unset, .unset, .unset, .unset, .unset, .unset, .unset, .unset, .unset] [(.long dl)])) t
        exact k)
      exact ⟨_, (if_neg z1).symm, pre⟩
  replace pre : Pth p e below S0 s₁ (mkF m 96 #[.val (.int fl), .val (.long li), .second, .val (.long re), .second, .val (.long rs), .second, .val (.long rt), .second, .val (.long dl), .second, .val (.int aA), .val (.int aB), .val (.int sL), .val (.int sR), .val (.int sS), .val (.int sT), .val (.long lB), .second, .unset, .unset, .unset, .unset, .unset, .unset, .unset, .unset, .unset, .unset] [(.int sR)]) := fun t k => pre t (by
    show Steps p.tables e below (s₁.setTop (mkF m 92 #[.val (.int fl), .val (.long li), .second, .val (.long re), .second, .val (.long rs), .second, .val (.long rt), .second, .val (.long dl), .second, .val (.int aA), .val (.int aB), .val (.int sL), .val (.int sR), .val (.int sS), .val (.int sT), .unset, .unset, .unset, .unset, .unset, .unset, .unset, .unset, .unset, .unset, .unset, .unset] [(.long lB)])) t
    refine XS.lstore X0.here hx rfl (hb hby at_92) rfl (l' := #[.val (.int fl), .val (.long li), .second, .val (.long re), .second, .val (.long rs), .second, .val (.long rt), .second, .val (.long dl), .second, .val (.int aA), .val (.int aB), .val (.int sL), .val (.int sR), .val (.int sS), .val (.int sT), .val (.long lB), .second, .unset, .unset, .unset, .unset, .unset, .unset, .unset, .unset, .unset, .unset]) rfl ?_
    show Steps p.tables e below (s₁.setTop (mkF m 94 #[.val (.int fl), .val (.long li), .second, .val (.long re), .second, .val (.long rs), .second, .val (.long rt), .second, .val (.long dl), .second, .val (.int aA), .val (.int aB), .val (.int sL), .val (.int sR), .val (.int sS), .val (.int sT), .val (.long lB), .second, .unset, .unset, .unset, .unset, .unset, .unset, .unset, .unset, .unset, .unset] [])) t
    refine XS.iload X0.here hx rfl (hb hby at_94) rfl ?_
    show Steps p.tables e below (s₁.setTop (mkF m 96 #[.val (.int fl), .val (.long li), .second, .val (.long re), .second, .val (.long rs), .second, .val (.long rt), .second, .val (.long dl), .second, .val (.int aA), .val (.int aB), .val (.int sL), .val (.int sR), .val (.int sS), .val (.int sT), .val (.long lB), .second, .unset, .unset, .unset, .unset, .unset, .unset, .unset, .unset, .unset, .unset] [(.int sR)])) t
    exact k)
  obtain ⟨rB, h_rB, pre⟩ : ∃ rB : Int64, rB = (if sR = (0 : Int32) then re else dl) ∧ Pth p e below S0 s₁ (mkF m 105 #[.val (.int fl), .val (.long li), .second, .val (.long re), .second, .val (.long rs), .second, .val (.long rt), .second, .val (.long dl), .second, .val (.int aA), .val (.int aB), .val (.int sL), .val (.int sR), .val (.int sS), .val (.int sT), .val (.long lB), .second, .unset, .unset, .unset, .unset, .unset, .unset, .unset, .unset, .unset, .unset] [(.long rB)]) := by
    by_cases z1 : sR = (0 : Int32)
    · replace pre : Pth p e below S0 s₁ (mkF m 105 #[.val (.int fl), .val (.long li), .second, .val (.long re), .second, .val (.long rs), .second, .val (.long rt), .second, .val (.long dl), .second, .val (.int aA), .val (.int aB), .val (.int sL), .val (.int sR), .val (.int sS), .val (.int sT), .val (.long lB), .second, .unset, .unset, .unset, .unset, .unset, .unset, .unset, .unset, .unset, .unset] [(.long re)]) := fun t k => pre t (by
        show Steps p.tables e below (s₁.setTop (mkF m 96 #[.val (.int fl), .val (.long li), .second, .val (.long re), .second, .val (.long rs), .second, .val (.long rt), .second, .val (.long dl), .second, .val (.int aA), .val (.int aB), .val (.int sL), .val (.int sR), .val (.int sS), .val (.int sT), .val (.long lB), .second, .unset, .unset, .unset, .unset, .unset, .unset, .unset, .unset, .unset, .unset] [(.int sR)])) t
        refine XS.ifYes X0.here hx rfl (pc0 := 96) (pc' := 104) rfl (hb hby at_96) rfl (XT.i0_eq_t z1) (by decide) (by decide) ?_
        show Steps p.tables e below (s₁.setTop (mkF m 104 #[.val (.int fl), .val (.long li), .second, .val (.long re), .second, .val (.long rs), .second, .val (.long rt), .second, .val (.long dl), .second, .val (.int aA), .val (.int aB), .val (.int sL), .val (.int sR), .val (.int sS), .val (.int sT), .val (.long lB), .second, .unset, .unset, .unset, .unset, .unset, .unset, .unset, .unset, .unset, .unset] [])) t
        refine XS.lloadN X0.here hx rfl (hb hby at_104) rfl ?_
        show Steps p.tables e below (s₁.setTop (mkF m 105 #[.val (.int fl), .val (.long li), .second, .val (.long re), .second, .val (.long rs), .second, .val (.long rt), .second, .val (.long dl), .second, .val (.int aA), .val (.int aB), .val (.int sL), .val (.int sR), .val (.int sS), .val (.int sT), .val (.long lB), .second, .unset, .unset, .unset, .unset, .unset, .unset, .unset, .unset, .unset, .unset] [(.long re)])) t
        exact k)
      exact ⟨_, (if_pos z1).symm, pre⟩
    · replace pre : Pth p e below S0 s₁ (mkF m 105 #[.val (.int fl), .val (.long li), .second, .val (.long re), .second, .val (.long rs), .second, .val (.long rt), .second, .val (.long dl), .second, .val (.int aA), .val (.int aB), .val (.int sL), .val (.int sR), .val (.int sS), .val (.int sT), .val (.long lB), .second, .unset, .unset, .unset, .unset, .unset, .unset, .unset, .unset, .unset, .unset] [(.long dl)]) := fun t k => pre t (by
        show Steps p.tables e below (s₁.setTop (mkF m 96 #[.val (.int fl), .val (.long li), .second, .val (.long re), .second, .val (.long rs), .second, .val (.long rt), .second, .val (.long dl), .second, .val (.int aA), .val (.int aB), .val (.int sL), .val (.int sR), .val (.int sS), .val (.int sT), .val (.long lB), .second, .unset, .unset, .unset, .unset, .unset, .unset, .unset, .unset, .unset, .unset] [(.int sR)])) t
        refine XS.ifNo X0.here hx rfl (hb hby at_96) rfl (XT.i0_eq_f z1) ?_
        show Steps p.tables e below (s₁.setTop (mkF m 99 #[.val (.int fl), .val (.long li), .second, .val (.long re), .second, .val (.long rs), .second, .val (.long rt), .second, .val (.long dl), .second, .val (.int aA), .val (.int aB), .val (.int sL), .val (.int sR), .val (.int sS), .val (.int sT), .val (.long lB), .second, .unset, .unset, .unset, .unset, .unset, .unset, .unset, .unset, .unset, .unset] [])) t
        refine XS.lload X0.here hx rfl (hb hby at_99) rfl ?_
        show Steps p.tables e below (s₁.setTop (mkF m 101 #[.val (.int fl), .val (.long li), .second, .val (.long re), .second, .val (.long rs), .second, .val (.long rt), .second, .val (.long dl), .second, .val (.int aA), .val (.int aB), .val (.int sL), .val (.int sR), .val (.int sS), .val (.int sT), .val (.long lB), .second, .unset, .unset, .unset, .unset, .unset, .unset, .unset, .unset, .unset, .unset] [(.long dl)])) t
        refine XS.goto X0.here hx rfl (pc0 := 101) (pc' := 105) rfl (hb hby at_101) (by decide) (by decide) ?_
        show Steps p.tables e below (s₁.setTop (mkF m 105 #[.val (.int fl), .val (.long li), .second, .val (.long re), .second, .val (.long rs), .second, .val (.long rt), .second, .val (.long dl), .second, .val (.int aA), .val (.int aB), .val (.int sL), .val (.int sR), .val (.int sS), .val (.int sT), .val (.long lB), .second, .unset, .unset, .unset, .unset, .unset, .unset, .unset, .unset, .unset, .unset] [(.long dl)])) t
        exact k)
      exact ⟨_, (if_neg z1).symm, pre⟩
  replace pre : Pth p e below S0 s₁ (mkF m 109 #[.val (.int fl), .val (.long li), .second, .val (.long re), .second, .val (.long rs), .second, .val (.long rt), .second, .val (.long dl), .second, .val (.int aA), .val (.int aB), .val (.int sL), .val (.int sR), .val (.int sS), .val (.int sT), .val (.long lB), .second, .val (.long rB), .second, .unset, .unset, .unset, .unset, .unset, .unset, .unset, .unset] [(.int sS)]) := fun t k => pre t (by
    show Steps p.tables e below (s₁.setTop (mkF m 105 #[.val (.int fl), .val (.long li), .second, .val (.long re), .second, .val (.long rs), .second, .val (.long rt), .second, .val (.long dl), .second, .val (.int aA), .val (.int aB), .val (.int sL), .val (.int sR), .val (.int sS), .val (.int sT), .val (.long lB), .second, .unset, .unset, .unset, .unset, .unset, .unset, .unset, .unset, .unset, .unset] [(.long rB)])) t
    refine XS.lstore X0.here hx rfl (hb hby at_105) rfl (l' := #[.val (.int fl), .val (.long li), .second, .val (.long re), .second, .val (.long rs), .second, .val (.long rt), .second, .val (.long dl), .second, .val (.int aA), .val (.int aB), .val (.int sL), .val (.int sR), .val (.int sS), .val (.int sT), .val (.long lB), .second, .val (.long rB), .second, .unset, .unset, .unset, .unset, .unset, .unset, .unset, .unset]) rfl ?_
    show Steps p.tables e below (s₁.setTop (mkF m 107 #[.val (.int fl), .val (.long li), .second, .val (.long re), .second, .val (.long rs), .second, .val (.long rt), .second, .val (.long dl), .second, .val (.int aA), .val (.int aB), .val (.int sL), .val (.int sR), .val (.int sS), .val (.int sT), .val (.long lB), .second, .val (.long rB), .second, .unset, .unset, .unset, .unset, .unset, .unset, .unset, .unset] [])) t
    refine XS.iload X0.here hx rfl (hb hby at_107) rfl ?_
    show Steps p.tables e below (s₁.setTop (mkF m 109 #[.val (.int fl), .val (.long li), .second, .val (.long re), .second, .val (.long rs), .second, .val (.long rt), .second, .val (.long dl), .second, .val (.int aA), .val (.int aB), .val (.int sL), .val (.int sR), .val (.int sS), .val (.int sT), .val (.long lB), .second, .val (.long rB), .second, .unset, .unset, .unset, .unset, .unset, .unset, .unset, .unset] [(.int sS)])) t
    exact k)
  obtain ⟨xB, h_xB, pre⟩ : ∃ xB : Int64, xB = (if sS = (0 : Int32) then rs else dl) ∧ Pth p e below S0 s₁ (mkF m 119 #[.val (.int fl), .val (.long li), .second, .val (.long re), .second, .val (.long rs), .second, .val (.long rt), .second, .val (.long dl), .second, .val (.int aA), .val (.int aB), .val (.int sL), .val (.int sR), .val (.int sS), .val (.int sT), .val (.long lB), .second, .val (.long rB), .second, .unset, .unset, .unset, .unset, .unset, .unset, .unset, .unset] [(.long xB)]) := by
    by_cases z1 : sS = (0 : Int32)
    · replace pre : Pth p e below S0 s₁ (mkF m 119 #[.val (.int fl), .val (.long li), .second, .val (.long re), .second, .val (.long rs), .second, .val (.long rt), .second, .val (.long dl), .second, .val (.int aA), .val (.int aB), .val (.int sL), .val (.int sR), .val (.int sS), .val (.int sT), .val (.long lB), .second, .val (.long rB), .second, .unset, .unset, .unset, .unset, .unset, .unset, .unset, .unset] [(.long rs)]) := fun t k => pre t (by
        show Steps p.tables e below (s₁.setTop (mkF m 109 #[.val (.int fl), .val (.long li), .second, .val (.long re), .second, .val (.long rs), .second, .val (.long rt), .second, .val (.long dl), .second, .val (.int aA), .val (.int aB), .val (.int sL), .val (.int sR), .val (.int sS), .val (.int sT), .val (.long lB), .second, .val (.long rB), .second, .unset, .unset, .unset, .unset, .unset, .unset, .unset, .unset] [(.int sS)])) t
        refine XS.ifYes X0.here hx rfl (pc0 := 109) (pc' := 117) rfl (hb hby at_109) rfl (XT.i0_eq_t z1) (by decide) (by decide) ?_
        show Steps p.tables e below (s₁.setTop (mkF m 117 #[.val (.int fl), .val (.long li), .second, .val (.long re), .second, .val (.long rs), .second, .val (.long rt), .second, .val (.long dl), .second, .val (.int aA), .val (.int aB), .val (.int sL), .val (.int sR), .val (.int sS), .val (.int sT), .val (.long lB), .second, .val (.long rB), .second, .unset, .unset, .unset, .unset, .unset, .unset, .unset, .unset] [])) t
        refine XS.lload X0.here hx rfl (hb hby at_117) rfl ?_
        show Steps p.tables e below (s₁.setTop (mkF m 119 #[.val (.int fl), .val (.long li), .second, .val (.long re), .second, .val (.long rs), .second, .val (.long rt), .second, .val (.long dl), .second, .val (.int aA), .val (.int aB), .val (.int sL), .val (.int sR), .val (.int sS), .val (.int sT), .val (.long lB), .second, .val (.long rB), .second, .unset, .unset, .unset, .unset, .unset, .unset, .unset, .unset] [(.long rs)])) t
        exact k)
      exact ⟨_, (if_pos z1).symm, pre⟩
    · replace pre : Pth p e below S0 s₁ (mkF m 119 #[.val (.int fl), .val (.long li), .second, .val (.long re), .second, .val (.long rs), .second, .val (.long rt), .second, .val (.long dl), .second, .val (.int aA), .val (.int aB), .val (.int sL), .val (.int sR), .val (.int sS), .val (.int sT), .val (.long lB), .second, .val (.long rB), .second, .unset, .unset, .unset, .unset, .unset, .unset, .unset, .unset] [(.long dl)]) := fun t k => pre t (by
        show Steps p.tables e below (s₁.setTop (mkF m 109 #[.val (.int fl), .val (.long li), .second, .val (.long re), .second, .val (.long rs), .second, .val (.long rt), .second, .val (.long dl), .second, .val (.int aA), .val (.int aB), .val (.int sL), .val (.int sR), .val (.int sS), .val (.int sT), .val (.long lB), .second, .val (.long rB), .second, .unset, .unset, .unset, .unset, .unset, .unset, .unset, .unset] [(.int sS)])) t
        refine XS.ifNo X0.here hx rfl (hb hby at_109) rfl (XT.i0_eq_f z1) ?_
        show Steps p.tables e below (s₁.setTop (mkF m 112 #[.val (.int fl), .val (.long li), .second, .val (.long re), .second, .val (.long rs), .second, .val (.long rt), .second, .val (.long dl), .second, .val (.int aA), .val (.int aB), .val (.int sL), .val (.int sR), .val (.int sS), .val (.int sT), .val (.long lB), .second, .val (.long rB), .second, .unset, .unset, .unset, .unset, .unset, .unset, .unset, .unset] [])) t
        refine XS.lload X0.here hx rfl (hb hby at_112) rfl ?_
        show Steps p.tables e below (s₁.setTop (mkF m 114 #[.val (.int fl), .val (.long li), .second, .val (.long re), .second, .val (.long rs), .second, .val (.long rt), .second, .val (.long dl), .second, .val (.int aA), .val (.int aB), .val (.int sL), .val (.int sR), .val (.int sS), .val (.int sT), .val (.long lB), .second, .val (.long rB), .second, .unset, .unset, .unset, .unset, .unset, .unset, .unset, .unset] [(.long dl)])) t
        refine XS.goto X0.here hx rfl (pc0 := 114) (pc' := 119) rfl (hb hby at_114) (by decide) (by decide) ?_
        show Steps p.tables e below (s₁.setTop (mkF m 119 #[.val (.int fl), .val (.long li), .second, .val (.long re), .second, .val (.long rs), .second, .val (.long rt), .second, .val (.long dl), .second, .val (.int aA), .val (.int aB), .val (.int sL), .val (.int sR), .val (.int sS), .val (.int sT), .val (.long lB), .second, .val (.long rB), .second, .unset, .unset, .unset, .unset, .unset, .unset, .unset, .unset] [(.long dl)])) t
        exact k)
      exact ⟨_, (if_neg z1).symm, pre⟩
  replace pre : Pth p e below S0 s₁ (mkF m 123 #[.val (.int fl), .val (.long li), .second, .val (.long re), .second, .val (.long rs), .second, .val (.long rt), .second, .val (.long dl), .second, .val (.int aA), .val (.int aB), .val (.int sL), .val (.int sR), .val (.int sS), .val (.int sT), .val (.long lB), .second, .val (.long rB), .second, .val (.long xB), .second, .unset, .unset, .unset, .unset, .unset, .unset] [(.int sT)]) := fun t k => pre t (by
    show Steps p.tables e below (s₁.setTop (mkF m 119 #[.val (.int fl), .val (.long li), .second, .val (.long re), .second, .val (.long rs), .second, .val (.long rt), .second, .val (.long dl), .second, .val (.int aA), .val (.int aB), .val (.int sL), .val (.int sR), .val (.int sS), .val (.int sT), .val (.long lB), .second, .val (.long rB), .second, .unset, .unset, .unset, .unset, .unset, .unset, .unset, .unset] [(.long xB)])) t
    refine XS.lstore X0.here hx rfl (hb hby at_119) rfl (l' := #[.val (.int fl), .val (.long li), .second, .val (.long re), .second, .val (.long rs), .second, .val (.long rt), .second, .val (.long dl), .second, .val (.int aA), .val (.int aB), .val (.int sL), .val (.int sR), .val (.int sS), .val (.int sT), .val (.long lB), .second, .val (.long rB), .second, .val (.long xB), .second, .unset, .unset, .unset, .unset, .unset, .unset]) rfl ?_
    show Steps p.tables e below (s₁.setTop (mkF m 121 #[.val (.int fl), .val (.long li), .second, .val (.long re), .second, .val (.long rs), .second, .val (.long rt), .second, .val (.long dl), .second, .val (.int aA), .val (.int aB), .val (.int sL), .val (.int sR), .val (.int sS), .val (.int sT), .val (.long lB), .second, .val (.long rB), .second, .val (.long xB), .second, .unset, .unset, .unset, .unset, .unset, .unset] [])) t
    refine XS.iload X0.here hx rfl (hb hby at_121) rfl ?_
    show Steps p.tables e below (s₁.setTop (mkF m 123 #[.val (.int fl), .val (.long li), .second, .val (.long re), .second, .val (.long rs), .second, .val (.long rt), .second, .val (.long dl), .second, .val (.int aA), .val (.int aB), .val (.int sL), .val (.int sR), .val (.int sS), .val (.int sT), .val (.long lB), .second, .val (.long rB), .second, .val (.long xB), .second, .unset, .unset, .unset, .unset, .unset, .unset] [(.int sT)])) t
    exact k)
  obtain ⟨tB, h_tB, pre⟩ : ∃ tB : Int64, tB = (if sT = (0 : Int32) then rt else dl) ∧ Pth p e below S0 s₁ (mkF m 133 #[.val (.int fl), .val (.long li), .second, .val (.long re), .second, .val (.long rs), .second, .val (.long rt), .second, .val (.long dl), .second, .val (.int aA), .val (.int aB), .val (.int sL), .val (.int sR), .val (.int sS), .val (.int sT), .val (.long lB), .second, .val (.long rB), .second, .val (.long xB), .second, .unset, .unset, .unset, .unset, .unset, .unset] [(.long tB)]) := by
    by_cases z1 : sT = (0 : Int32)
    · replace pre : Pth p e below S0 s₁ (mkF m 133 #[.val (.int fl), .val (.long li), .second, .val (.long re), .second, .val (.long rs), .second, .val (.long rt), .second, .val (.long dl), .second, .val (.int aA), .val (.int aB), .val (.int sL), .val (.int sR), .val (.int sS), .val (.int sT), .val (.long lB), .second, .val (.long rB), .second, .val (.long xB), .second, .unset, .unset, .unset, .unset, .unset, .unset] [(.long rt)]) := fun t k => pre t (by
        show Steps p.tables e below (s₁.setTop (mkF m 123 #[.val (.int fl), .val (.long li), .second, .val (.long re), .second, .val (.long rs), .second, .val (.long rt), .second, .val (.long dl), .second, .val (.int aA), .val (.int aB), .val (.int sL), .val (.int sR), .val (.int sS), .val (.int sT), .val (.long lB), .second, .val (.long rB), .second, .val (.long xB), .second, .unset, .unset, .unset, .unset, .unset, .unset] [(.int sT)])) t
        refine XS.ifYes X0.here hx rfl (pc0 := 123) (pc' := 131) rfl (hb hby at_123) rfl (XT.i0_eq_t z1) (by decide) (by decide) ?_
        show Steps p.tables e below (s₁.setTop (mkF m 131 #[.val (.int fl), .val (.long li), .second, .val (.long re), .second, .val (.long rs), .second, .val (.long rt), .second, .val (.long dl), .second, .val (.int aA), .val (.int aB), .val (.int sL), .val (.int sR), .val (.int sS), .val (.int sT), .val (.long lB), .second, .val (.long rB), .second, .val (.long xB), .second, .unset, .unset, .unset, .unset, .unset, .unset] [])) t
        refine XS.lload X0.here hx rfl (hb hby at_131) rfl ?_
        show Steps p.tables e below (s₁.setTop (mkF m 133 #[.val (.int fl), .val (.long li), .second, .val (.long re), .second, .val (.long rs), .second, .val (.long rt), .second, .val (.long dl), .second, .val (.int aA), .val (.int aB), .val (.int sL), .val (.int sR), .val (.int sS), .val (.int sT), .val (.long lB), .second, .val (.long rB), .second, .val (.long xB), .second, .unset, .unset, .unset, .unset, .unset, .unset] [(.long rt)])) t
        exact k)
      exact ⟨_, (if_pos z1).symm, pre⟩
    · replace pre : Pth p e below S0 s₁ (mkF m 133 #[.val (.int fl), .val (.long li), .second, .val (.long re), .second, .val (.long rs), .second, .val (.long rt), .second, .val (.long dl), .second, .val (.int aA), .val (.int aB), .val (.int sL), .val (.int sR), .val (.int sS), .val (.int sT), .val (.long lB), .second, .val (.long rB), .second, .val (.long xB), .second, .unset, .unset, .unset, .unset, .unset, .unset] [(.long dl)]) := fun t k => pre t (by
        show Steps p.tables e below (s₁.setTop (mkF m 123 #[.val (.int fl), .val (.long li), .second, .val (.long re), .second, .val (.long rs), .second, .val (.long rt), .second, .val (.long dl), .second, .val (.int aA), .val (.int aB), .val (.int sL), .val (.int sR), .val (.int sS), .val (.int sT), .val (.long lB), .second, .val (.long rB), .second, .val (.long xB), .second, .unset, .unset, .unset, .unset, .unset, .unset] [(.int sT)])) t
        refine XS.ifNo X0.here hx rfl (hb hby at_123) rfl (XT.i0_eq_f z1) ?_
        show Steps p.tables e below (s₁.setTop (mkF m 126 #[.val (.int fl), .val (.long li), .second, .val (.long re), .second, .val (.long rs), .second, .val (.long rt), .second, .val (.long dl), .second, .val (.int aA), .val (.int aB), .val (.int sL), .val (.int sR), .val (.int sS), .val (.int sT), .val (.long lB), .second, .val (.long rB), .second, .val (.long xB), .second, .unset, .unset, .unset, .unset, .unset, .unset] [])) t
        refine XS.lload X0.here hx rfl (hb hby at_126) rfl ?_
        show Steps p.tables e below (s₁.setTop (mkF m 128 #[.val (.int fl), .val (.long li), .second, .val (.long re), .second, .val (.long rs), .second, .val (.long rt), .second, .val (.long dl), .second, .val (.int aA), .val (.int aB), .val (.int sL), .val (.int sR), .val (.int sS), .val (.int sT), .val (.long lB), .second, .val (.long rB), .second, .val (.long xB), .second, .unset, .unset, .unset, .unset, .unset, .unset] [(.long dl)])) t
        refine XS.goto X0.here hx rfl (pc0 := 128) (pc' := 133) rfl (hb hby at_128) (by decide) (by decide) ?_
        show Steps p.tables e below (s₁.setTop (mkF m 133 #[.val (.int fl), .val (.long li), .second, .val (.long re), .second, .val (.long rs), .second, .val (.long rt), .second, .val (.long dl), .second, .val (.int aA), .val (.int aB), .val (.int sL), .val (.int sR), .val (.int sS), .val (.int sT), .val (.long lB), .second, .val (.long rB), .second, .val (.long xB), .second, .unset, .unset, .unset, .unset, .unset, .unset] [(.long dl)])) t
        exact k)
      exact ⟨_, (if_neg z1).symm, pre⟩
  replace pre : Pth p e below S0 s₁ (mkF m 135 #[.val (.int fl), .val (.long li), .second, .val (.long re), .second, .val (.long rs), .second, .val (.long rt), .second, .val (.long dl), .second, .val (.int aA), .val (.int aB), .val (.int sL), .val (.int sR), .val (.int sS), .val (.int sT), .val (.long lB), .second, .val (.long rB), .second, .val (.long xB), .second, .val (.long tB), .second, .unset, .unset, .unset, .unset] []) := fun t k => pre t (by
    show Steps p.tables e below (s₁.setTop (mkF m 133 #[.val (.int fl), .val (.long li), .second, .val (.long re), .second, .val (.long rs), .second, .val (.long rt), .second, .val (.long dl), .second, .val (.int aA), .val (.int aB), .val (.int sL), .val (.int sR), .val (.int sS), .val (.int sT), .val (.long lB), .second, .val (.long rB), .second, .val (.long xB), .second, .unset, .unset, .unset, .unset, .unset, .unset] [(.long tB)])) t
    refine XS.lstore X0.here hx rfl (hb hby at_133) rfl (l' := #[.val (.int fl), .val (.long li), .second, .val (.long re), .second, .val (.long rs), .second, .val (.long rt), .second, .val (.long dl), .second, .val (.int aA), .val (.int aB), .val (.int sL), .val (.int sR), .val (.int sS), .val (.int sT), .val (.long lB), .second, .val (.long rB), .second, .val (.long xB), .second, .val (.long tB), .second, .unset, .unset, .unset, .unset]) rfl ?_
    show Steps p.tables e below (s₁.setTop (mkF m 135 #[.val (.int fl), .val (.long li), .second, .val (.long re), .second, .val (.long rs), .second, .val (.long rt), .second, .val (.long dl), .second, .val (.int aA), .val (.int aB), .val (.int sL), .val (.int sR), .val (.int sS), .val (.int sT), .val (.long lB), .second, .val (.long rB), .second, .val (.long xB), .second, .val (.long tB), .second, .unset, .unset, .unset, .unset] [])) t
    exact k)
  obtain ⟨T28, h28, X28, e28, E28, A28, D28, -, st28⟩ := newO X0 hx hZ hown (hw _ (List.mem_of_getElem? (i := 0) rfl)) (hw _ (List.mem_of_getElem? (i := 1) rfl)) (hw _ (List.mem_of_getElem? (i := 2) rfl)) e0 (g := (mkF m 135 #[.val (.int fl), .val (.long li), .second, .val (.long re), .second, .val (.long rs), .second, .val (.long rt), .second, .val (.long dl), .second, .val (.int aA), .val (.int aB), .val (.int sL), .val (.int sR), .val (.int sS), .val (.int sT), .val (.long lB), .second, .val (.long rB), .second, .val (.long xB), .second, .val (.long tB), .second, .unset, .unset, .unset, .unset] [])) rfl (hb hby at_135) (by decide) (by decide)
  obtain ⟨b28, g28⟩ : ∃ z, z = h0.size := ⟨_, rfl⟩
  rw [← g28] at A28 D28 st28
  replace pre : Pth p e below S0 T28 (mkF m 138 #[.val (.int fl), .val (.long li), .second, .val (.long re), .second, .val (.long rs), .second, .val (.long rt), .second, .val (.long dl), .second, .val (.int aA), .val (.int aB), .val (.int sL), .val (.int sR), .val (.int sS), .val (.int sT), .val (.long lB), .second, .val (.long rB), .second, .val (.long xB), .second, .val (.long tB), .second, .unset, .unset, .unset, .unset] [(.ref b28)]) := fun t k => pre t (st28 _ k)
  have GA_allowed : Fld Z h28 b28 "com/example/inexact_limiter/inexactlimiter/algorithm/Decision" "allowed" "Z" (.int (0 : Int32)) := D28 (Or.inr (hw _ (List.mem_of_getElem? (i := 10) rfl))) (ty := .boolean) (by decide)
  have GA_limit : Fld Z h28 b28 "com/example/inexact_limiter/inexactlimiter/algorithm/Decision" "limit" "J" (.long (0 : Int64)) := D28 (Or.inr (hw _ (List.mem_of_getElem? (i := 12) rfl))) (ty := .long) (by decide)
  have GA_remaining : Fld Z h28 b28 "com/example/inexact_limiter/inexactlimiter/algorithm/Decision" "remaining" "J" (.long (0 : Int64)) := D28 (Or.inr (hw _ (List.mem_of_getElem? (i := 14) rfl))) (ty := .long) (by decide)
  have GA_resetMicros : Fld Z h28 b28 "com/example/inexact_limiter/inexactlimiter/algorithm/Decision" "resetMicros" "J" (.long (0 : Int64)) := D28 (Or.inr (hw _ (List.mem_of_getElem? (i := 16) rfl))) (ty := .long) (by decide)
  have GA_retryAfterMicros : Fld Z h28 b28 "com/example/inexact_limiter/inexactlimiter/algorithm/Decision" "retryAfterMicros" "J" (.long (0 : Int64)) := D28 (Or.inr (hw _ (List.mem_of_getElem? (i := 18) rfl))) (ty := .long) (by decide)
  have XA : Ext h0 h28 := own_ext_trans (own_ext_refl h0) E28
  have g_A : n0 ≤ b28 := by rw [g28]; exact Z0
  have s_A : h0.size ≤ b28 := by rw [g28]; exact (own_ext_refl h0).1
  replace pre : Pth p e below S0 T28 (mkF m 147 #[.val (.int fl), .val (.long li), .second, .val (.long re), .second, .val (.long rs), .second, .val (.long rt), .second, .val (.long dl), .second, .val (.int aA), .val (.int aB), .val (.int sL), .val (.int sR), .val (.int sS), .val (.int sT), .val (.long lB), .second, .val (.long rB), .second, .val (.long xB), .second, .val (.long tB), .second, .unset, .unset, .unset, .unset] [(.long rt), (.long rs), (.long re), (.long li), (.int aA), (.ref b28), (.ref b28)]) := fun t k => pre t (by
    show Steps p.tables e below (T28.setTop (mkF m 138 #[.val (.int fl), .val (.long li), .second, .val (.long re), .second, .val (.long rs), .second, .val (.long rt), .second, .val (.long dl), .second, .val (.int aA), .val (.int aB), .val (.int sL), .val (.int sR), .val (.int sS), .val (.int sT), .val (.long lB), .second, .val (.long rB), .second, .val (.long xB), .second, .val (.long tB), .second, .unset, .unset, .unset, .unset] [(.ref b28)])) t
    refine XS.dup X28.here hx rfl (hb hby at_138) rfl rfl ?_
    show Steps p.tables e below (T28.setTop (mkF m 139 #[.val (.int fl), .val (.long li), .second, .val (.long re), .second, .val (.long rs), .second, .val (.long rt), .second, .val (.long dl), .second, .val (.int aA), .val (.int aB), .val (.int sL), .val (.int sR), .val (.int sS), .val (.int sT), .val (.long lB), .second, .val (.long rB), .second, .val (.long xB), .second, .val (.long tB), .second, .unset, .unset, .unset, .unset] [(.ref b28), (.ref b28)])) t
    refine XS.iload X28.here hx rfl (hb hby at_139) rfl ?_
    show Steps p.tables e below (T28.setTop (mkF m 141 #[.val (.int fl), .val (.long li), .second, .val (.long re), .second, .val (.long rs), .second, .val (.long rt), .second, .val (.long dl), .second, .val (.int aA), .val (.int aB), .val (.int sL), .val (.int sR), .val (.int sS), .val (.int sT), .val (.long lB), .second, .val (.long rB), .second, .val (.long xB), .second, .val (.long tB), .second, .unset, .unset, .unset, .unset] [(.int aA), (.ref b28), (.ref b28)])) t
    refine XS.lloadN X28.here hx rfl (hb hby at_141) rfl ?_
    show Steps p.tables e below (T28.setTop (mkF m 142 #[.val (.int fl), .val (.long li), .second, .val (.long re), .second, .val (.long rs), .second, .val (.long rt), .second, .val (.long dl), .second, .val (.int aA), .val (.int aB), .val (.int sL), .val (.int sR), .val (.int sS), .val (.int sT), .val (.long lB), .second, .val (.long rB), .second, .val (.long xB), .second, .val (.long tB), .second, .unset, .unset, .unset, .unset] [(.long li), (.int aA), (.ref b28), (.ref b28)])) t
    refine XS.lloadN X28.here hx rfl (hb hby at_142) rfl ?_
    show Steps p.tables e below (T28.setTop (mkF m 143 #[.val (.int fl), .val (.long li), .second, .val (.long re), .second, .val (.long rs), .second, .val (.long rt), .second, .val (.long dl), .second, .val (.int aA), .val (.int aB), .val (.int sL), .val (.int sR), .val (.int sS), .val (.int sT), .val (.long lB), .second, .val (.long rB), .second, .val (.long xB), .second, .val (.long tB), .second, .unset, .unset, .unset, .unset] [(.long re), (.long li), (.int aA), (.ref b28), (.ref b28)])) t
    refine XS.lload X28.here hx rfl (hb hby at_143) rfl ?_
    show Steps p.tables e below (T28.setTop (mkF m 145 #[.val (.int fl), .val (.long li), .second, .val (.long re), .second, .val (.long rs), .second, .val (.long rt), .second, .val (.long dl), .second, .val (.int aA), .val (.int aB), .val (.int sL), .val (.int sR), .val (.int sS), .val (.int sT), .val (.long lB), .second, .val (.long rB), .second, .val (.long xB), .second, .val (.long tB), .second, .unset, .unset, .unset, .unset] [(.long rs), (.long re), (.long li), (.int aA), (.ref b28), (.ref b28)])) t
    refine XS.lload X28.here hx rfl (hb hby at_145) rfl ?_
    show Steps p.tables e below (T28.setTop (mkF m 147 #[.val (.int fl), .val (.long li), .second, .val (.long re), .second, .val (.long rs), .second, .val (.long rt), .second, .val (.long dl), .second, .val (.int aA), .val (.int aB), .val (.int sL), .val (.int sR), .val (.int sS), .val (.int sT), .val (.long lB), .second, .val (.long rB), .second, .val (.long xB), .second, .val (.long tB), .second, .unset, .unset, .unset, .unset] [(.long rt), (.long rs), (.long re), (.long li), (.int aA), (.ref b28), (.ref b28)])) t
    exact k)
  obtain ⟨_, _, ⟨T29, L29, k29, n29⟩, -, X29, ⟨Lc29, hQ29, l29, y29, z29⟩, st29⟩ := X28.specialBack hx (y := (⟨"com/example/inexact_limiter/inexactlimiter/algorithm/Decision", "<init>", "(ZJJJJ)V"⟩ : MethodName)) rfl hown (mvT hZ (hw _ (List.mem_of_getElem? (i := 3) rfl))) (mvT hZ (hw _ (List.mem_of_getElem? (i := 4) rfl))) (mvT hZ (hw _ (List.mem_of_getElem? (i := 5) rfl))) (by decide) (backOf (W := 1) (rm_ini l Z a0 hw [] b28 aA li re rs rt h28 n0 g_A h_aA A28 GA_allowed GA_limit GA_remaining GA_resetMicros GA_retryAfterMicros) hZ (hw _ (List.mem_of_getElem? (i := 5) rfl)) (hw _ (List.mem_of_getElem? (i := 2) rfl)) (by decide) (by decide)) (g := (mkF m 147 #[.val (.int fl), .val (.long li), .second, .val (.long re), .second, .val (.long rs), .second, .val (.long rt), .second, .val (.long dl), .second, .val (.int aA), .val (.int aB), .val (.int sL), .val (.int sR), .val (.int sS), .val (.int sT), .val (.long lB), .second, .val (.long rB), .second, .val (.long xB), .second, .val (.long tB), .second, .unset, .unset, .unset, .unset] [(.long rt), (.long rs), (.long re), (.long li), (.int aA), (.ref b28), (.ref b28)])) rfl (by rw [hml]; rfl) (Steps.refl _) (a := b28) (argsL := [(.int aA), (.long li), (.long re), (.long rs), (.long rt)]) (rest := [(.ref b28)]) (lenOf pd__ZJJJJ_V rfl) rfl (by show 2 * 0 + _ ≤ _; exact Nat.le_of_eq rfl) (hb hby at_147) (fun _ _ => ⟨rfl, e28, (by decide : 1 + 0 ≤ _), (by decide : 5 + 0 ≤ _)⟩)
  dsimp only [Pt.U, Pt.locs, Pt.cells, Pt.slots] at X29 l29 y29 z29 st29 hQ29
  subst l29 y29 z29
  obtain ⟨rfl, N29q, K29, OA⟩ := hQ29
  have N29 := Fr.app N0 N29q
  replace pre : Pth p e below S0 T29 (mkF m 150 #[.val (.int fl), .val (.long li), .second, .val (.long re), .second, .val (.long rs), .second, .val (.long rt), .second, .val (.long dl), .second, .val (.int aA), .val (.int aB), .val (.int sL), .val (.int sR), .val (.int sS), .val (.int sT), .val (.long lB), .second, .val (.long rB), .second, .val (.long xB), .second, .val (.long tB), .second, .unset, .unset, .unset, .unset] [(.ref b28)]) := fun t k => pre t (st29.trans k)
  have YA : Ext h0 T29.heap := own_ext_keep XA K29 (fun z hz => by rw [List.mem_singleton.mp hz]; exact s_A)
  replace pre : Pth p e below S0 T29 (mkF m 152 #[.val (.int fl), .val (.long li), .second, .val (.long re), .second, .val (.long rs), .second, .val (.long rt), .second, .val (.long dl), .second, .val (.int aA), .val (.int aB), .val (.int sL), .val (.int sR), .val (.int sS), .val (.int sT), .val (.long lB), .second, .val (.long rB), .second, .val (.long xB), .second, .val (.long tB), .second, .val (.ref b28), .unset, .unset, .unset] []) := fun t k => pre t (by
    show Steps p.tables e below (T29.setTop (mkF m 150 #[.val (.int fl), .val (.long li), .second, .val (.long re), .second, .val (.long rs), .second, .val (.long rt), .second, .val (.long dl), .second, .val (.int aA), .val (.int aB), .val (.int sL), .val (.int sR), .val (.int sS), .val (.int sT), .val (.long lB), .second, .val (.long rB), .second, .val (.long xB), .second, .val (.long tB), .second, .unset, .unset, .unset, .unset] [(.ref b28)])) t
    refine XS.astore X29.here hx rfl (hb hby at_150) rfl rfl (l' := #[.val (.int fl), .val (.long li), .second, .val (.long re), .second, .val (.long rs), .second, .val (.long rt), .second, .val (.long dl), .second, .val (.int aA), .val (.int aB), .val (.int sL), .val (.int sR), .val (.int sS), .val (.int sT), .val (.long lB), .second, .val (.long rB), .second, .val (.long xB), .second, .val (.long tB), .second, .val (.ref b28), .unset, .unset, .unset]) rfl ?_
    show Steps p.tables e below (T29.setTop (mkF m 152 #[.val (.int fl), .val (.long li), .second, .val (.long re), .second, .val (.long rs), .second, .val (.long rt), .second, .val (.long dl), .second, .val (.int aA), .val (.int aB), .val (.int sL), .val (.int sR), .val (.int sS), .val (.int sT), .val (.long lB), .second, .val (.long rB), .second, .val (.long xB), .second, .val (.long tB), .second, .val (.ref b28), .unset, .unset, .unset] [])) t
    exact k)
  obtain ⟨T30, h30, X30, e30, E30, A30, D30, -, st30⟩ := newO X29 hx hZ hown (hw _ (List.mem_of_getElem? (i := 0) rfl)) (hw _ (List.mem_of_getElem? (i := 1) rfl)) (hw _ (List.mem_of_getElem? (i := 2) rfl)) rfl (g := (mkF m 152 #[.val (.int fl), .val (.long li), .second, .val (.long re), .second, .val (.long rs), .second, .val (.long rt), .second, .val (.long dl), .second, .val (.int aA), .val (.int aB), .val (.int sL), .val (.int sR), .val (.int sS), .val (.int sT), .val (.long lB), .second, .val (.long rB), .second, .val (.long xB), .second, .val (.long tB), .second, .val (.ref b28), .unset, .unset, .unset] [])) rfl (hb hby at_152) (by decide) (by decide)
  obtain ⟨b30, g30⟩ : ∃ z, z = T29.heap.size := ⟨_, rfl⟩
  rw [← g30] at A30 D30 st30
  replace pre : Pth p e below S0 T30 (mkF m 155 #[.val (.int fl), .val (.long li), .second, .val (.long re), .second, .val (.long rs), .second, .val (.long rt), .second, .val (.long dl), .second, .val (.int aA), .val (.int aB), .val (.int sL), .val (.int sR), .val (.int sS), .val (.int sT), .val (.long lB), .second, .val (.long rB), .second, .val (.long xB), .second, .val (.long tB), .second, .val (.ref b28), .unset, .unset, .unset] [(.ref b30)]) := fun t k => pre t (st30 _ k)
  have GB_allowed : Fld Z h30 b30 "com/example/inexact_limiter/inexactlimiter/algorithm/Decision" "allowed" "Z" (.int (0 : Int32)) := D30 (Or.inr (hw _ (List.mem_of_getElem? (i := 10) rfl))) (ty := .boolean) (by decide)
  have GB_limit : Fld Z h30 b30 "com/example/inexact_limiter/inexactlimiter/algorithm/Decision" "limit" "J" (.long (0 : Int64)) := D30 (Or.inr (hw _ (List.mem_of_getElem? (i := 12) rfl))) (ty := .long) (by decide)
  have GB_remaining : Fld Z h30 b30 "com/example/inexact_limiter/inexactlimiter/algorithm/Decision" "remaining" "J" (.long (0 : Int64)) := D30 (Or.inr (hw _ (List.mem_of_getElem? (i := 14) rfl))) (ty := .long) (by decide)
  have GB_resetMicros : Fld Z h30 b30 "com/example/inexact_limiter/inexactlimiter/algorithm/Decision" "resetMicros" "J" (.long (0 : Int64)) := D30 (Or.inr (hw _ (List.mem_of_getElem? (i := 16) rfl))) (ty := .long) (by decide)
  have GB_retryAfterMicros : Fld Z h30 b30 "com/example/inexact_limiter/inexactlimiter/algorithm/Decision" "retryAfterMicros" "J" (.long (0 : Int64)) := D30 (Or.inr (hw _ (List.mem_of_getElem? (i := 18) rfl))) (ty := .long) (by decide)
  have XB : Ext h0 h30 := own_ext_trans YA E30
  have g_B : n0 ≤ b30 := by rw [g30]; exact (Nat.le_trans Z0 YA.1)
  have s_B : h0.size ≤ b30 := by rw [g30]; exact YA.1
  replace pre : Pth p e below S0 T30 (mkF m 166 #[.val (.int fl), .val (.long li), .second, .val (.long re), .second, .val (.long rs), .second, .val (.long rt), .second, .val (.long dl), .second, .val (.int aA), .val (.int aB), .val (.int sL), .val (.int sR), .val (.int sS), .val (.int sT), .val (.long lB), .second, .val (.long rB), .second, .val (.long xB), .second, .val (.long tB), .second, .val (.ref b28), .unset, .unset, .unset] [(.long tB), (.long xB), (.long rB), (.long lB), (.int aB), (.ref b30), (.ref b30)]) := fun t k => pre t (by
    show Steps p.tables e below (T30.setTop (mkF m 155 #[.val (.int fl), .val (.long li), .second, .val (.long re), .second, .val (.long rs), .second, .val (.long rt), .second, .val (.long dl), .second, .val (.int aA), .val (.int aB), .val (.int sL), .val (.int sR), .val (.int sS), .val (.int sT), .val (.long lB), .second, .val (.long rB), .second, .val (.long xB), .second, .val (.long tB), .second, .val (.ref b28), .unset, .unset, .unset] [(.ref b30)])) t
    refine XS.dup X30.here hx rfl (hb hby at_155) rfl rfl ?_
    show Steps p.tables e below (T30.setTop (mkF m 156 #[.val (.int fl), .val (.long li), .second, .val (.long re), .second, .val (.long rs), .second, .val (.long rt), .second, .val (.long dl), .second, .val (.int aA), .val (.int aB), .val (.int sL), .val (.int sR), .val (.int sS), .val (.int sT), .val (.long lB), .second, .val (.long rB), .second, .val (.long xB), .second, .val (.long tB), .second, .val (.ref b28), .unset, .unset, .unset] [(.ref b30), (.ref b30)])) t
    refine XS.iload X30.here hx rfl (hb hby at_156) rfl ?_
    show Steps p.tables e below (T30.setTop (mkF m 158 #[.val (.int fl), .val (.long li), .second, .val (.long re), .second, .val (.long rs), .second, .val (.long rt), .second, .val (.long dl), .second, .val (.int aA), .val (.int aB), .val (.int sL), .val (.int sR), .val (.int sS), .val (.int sT), .val (.long lB), .second, .val (.long rB), .second, .val (.long xB), .second, .val (.long tB), .second, .val (.ref b28), .unset, .unset, .unset] [(.int aB), (.ref b30), (.ref b30)])) t
    refine XS.lload X30.here hx rfl (hb hby at_158) rfl ?_
    show Steps p.tables e below (T30.setTop (mkF m 160 #[.val (.int fl), .val (.long li), .second, .val (.long re), .second, .val (.long rs), .second, .val (.long rt), .second, .val (.long dl), .second, .val (.int aA), .val (.int aB), .val (.int sL), .val (.int sR), .val (.int sS), .val (.int sT), .val (.long lB), .second, .val (.long rB), .second, .val (.long xB), .second, .val (.long tB), .second, .val (.ref b28), .unset, .unset, .unset] [(.long lB), (.int aB), (.ref b30), (.ref b30)])) t
    refine XS.lload X30.here hx rfl (hb hby at_160) rfl ?_
    show Steps p.tables e below (T30.setTop (mkF m 162 #[.val (.int fl), .val (.long li), .second, .val (.long re), .second, .val (.long rs), .second, .val (.long rt), .second, .val (.long dl), .second, .val (.int aA), .val (.int aB), .val (.int sL), .val (.int sR), .val (.int sS), .val (.int sT), .val (.long lB), .second, .val (.long rB), .second, .val (.long xB), .second, .val (.long tB), .second, .val (.ref b28), .unset, .unset, .unset] [(.long rB), (.long lB), (.int aB), (.ref b30), (.ref b30)])) t
    refine XS.lload X30.here hx rfl (hb hby at_162) rfl ?_
    show Steps p.tables e below (T30.setTop (mkF m 164 #[.val (.int fl), .val (.long li), .second, .val (.long re), .second, .val (.long rs), .second, .val (.long rt), .second, .val (.long dl), .second, .val (.int aA), .val (.int aB), .val (.int sL), .val (.int sR), .val (.int sS), .val (.int sT), .val (.long lB), .second, .val (.long rB), .second, .val (.long xB), .second, .val (.long tB), .second, .val (.ref b28), .unset, .unset, .unset] [(.long xB), (.long rB), (.long lB), (.int aB), (.ref b30), (.ref b30)])) t
    refine XS.lload X30.here hx rfl (hb hby at_164) rfl ?_
    show Steps p.tables e below (T30.setTop (mkF m 166 #[.val (.int fl), .val (.long li), .second, .val (.long re), .second, .val (.long rs), .second, .val (.long rt), .second, .val (.long dl), .second, .val (.int aA), .val (.int aB), .val (.int sL), .val (.int sR), .val (.int sS), .val (.int sT), .val (.long lB), .second, .val (.long rB), .second, .val (.long xB), .second, .val (.long tB), .second, .val (.ref b28), .unset, .unset, .unset] [(.long tB), (.long xB), (.long rB), (.long lB), (.int aB), (.ref b30), (.ref b30)])) t
    exact k)
  obtain ⟨_, _, ⟨T31, L31, k31, n31⟩, -, X31, ⟨Lc31, hQ31, l31, y31, z31⟩, st31⟩ := X30.specialBack hx (y := (⟨"com/example/inexact_limiter/inexactlimiter/algorithm/Decision", "<init>", "(ZJJJJ)V"⟩ : MethodName)) rfl hown (mvT hZ (hw _ (List.mem_of_getElem? (i := 3) rfl))) (mvT hZ (hw _ (List.mem_of_getElem? (i := 4) rfl))) (mvT hZ (hw _ (List.mem_of_getElem? (i := 5) rfl))) (by decide) (backOf (W := 1) (rm_ini l Z a0 hw [] b30 aB lB rB xB tB h30 n0 g_B h_aB A30 GB_allowed GB_limit GB_remaining GB_resetMicros GB_retryAfterMicros) hZ (hw _ (List.mem_of_getElem? (i := 5) rfl)) (hw _ (List.mem_of_getElem? (i := 2) rfl)) (by decide) (by decide)) (g := (mkF m 166 #[.val (.int fl), .val (.long li), .second, .val (.long re), .second, .val (.long rs), .second, .val (.long rt), .second, .val (.long dl), .second, .val (.int aA), .val (.int aB), .val (.int sL), .val (.int sR), .val (.int sS), .val (.int sT), .val (.long lB), .second, .val (.long rB), .second, .val (.long xB), .second, .val (.long tB), .second, .val (.ref b28), .unset, .unset, .unset] [(.long tB), (.long xB), (.long rB), (.long lB), (.int aB), (.ref b30), (.ref b30)])) rfl (by rw [hml]; rfl) (Steps.refl _) (a := b30) (argsL := [(.int aB), (.long lB), (.long rB), (.long xB), (.long tB)]) (rest := [(.ref b30)]) (lenOf pd__ZJJJJ_V rfl) rfl (by show 2 * 0 + _ ≤ _; exact Nat.le_of_eq rfl) (hb hby at_166) (fun _ _ => ⟨rfl, e30, (by decide : 2 + 0 ≤ _), (by decide : 10 + 0 ≤ _)⟩)
  dsimp only [Pt.U, Pt.locs, Pt.cells, Pt.slots] at X31 l31 y31 z31 st31 hQ31
  subst l31 y31 z31
  obtain ⟨rfl, N31q, K31, OB⟩ := hQ31
  have N31 := Fr.app N29 N31q
  replace pre : Pth p e below S0 T31 (mkF m 169 #[.val (.int fl), .val (.long li), .second, .val (.long re), .second, .val (.long rs), .second, .val (.long rt), .second, .val (.long dl), .second, .val (.int aA), .val (.int aB), .val (.int sL), .val (.int sR), .val (.int sS), .val (.int sT), .val (.long lB), .second, .val (.long rB), .second, .val (.long xB), .second, .val (.long tB), .second, .val (.ref b28), .unset, .unset, .unset] [(.ref b30)]) := fun t k => pre t (st31.trans k)
  have YB : Ext h0 T31.heap := own_ext_keep XB K31 (fun z hz => by rw [List.mem_singleton.mp hz]; exact s_B)
  have ltA : b28 < T29.heap.size := OA.1.lt
  have neAB : b28 ≠ b30 := by rw [g30]; exact Nat.ne_of_lt ltA
  have OA' := (OA.ext E30).keep K31 (ninS neAB nin0)
  replace pre : Pth p e below S0 T31 (mkF m 175 #[.val (.int fl), .val (.long li), .second, .val (.long re), .second, .val (.long rs), .second, .val (.long rt), .second, .val (.long dl), .second, .val (.int aA), .val (.int aB), .val (.int sL), .val (.int sR), .val (.int sS), .val (.int sT), .val (.long lB), .second, .val (.long rB), .second, .val (.long xB), .second, .val (.long tB), .second, .val (.ref b28), .val (.ref b30), .unset, .unset] [(.int aB), (.int aA)]) := fun t k => pre t (by
    show Steps p.tables e below (T31.setTop (mkF m 169 #[.val (.int fl), .val (.long li), .second, .val (.long re), .second, .val (.long rs), .second, .val (.long rt), .second, .val (.long dl), .second, .val (.int aA), .val (.int aB), .val (.int sL), .val (.int sR), .val (.int sS), .val (.int sT), .val (.long lB), .second, .val (.long rB), .second, .val (.long xB), .second, .val (.long tB), .second, .val (.ref b28), .unset, .unset, .unset] [(.ref b30)])) t
    refine XS.astore X31.here hx rfl (hb hby at_169) rfl rfl (l' := #[.val (.int fl), .val (.long li), .second, .val (.long re), .second, .val (.long rs), .second, .val (.long rt), .second, .val (.long dl), .second, .val (.int aA), .val (.int aB), .val (.int sL), .val (.int sR), .val (.int sS), .val (.int sT), .val (.long lB), .second, .val (.long rB), .second, .val (.long xB), .second, .val (.long tB), .second, .val (.ref b28), .val (.ref b30), .unset, .unset]) rfl ?_
    show Steps p.tables e below (T31.setTop (mkF m 171 #[.val (.int fl), .val (.long li), .second, .val (.long re), .second, .val (.long rs), .second, .val (.long rt), .second, .val (.long dl), .second, .val (.int aA), .val (.int aB), .val (.int sL), .val (.int sR), .val (.int sS), .val (.int sT), .val (.long lB), .second, .val (.long rB), .second, .val (.long xB), .second, .val (.long tB), .second, .val (.ref b28), .val (.ref b30), .unset, .unset] [])) t
    refine XS.iload X31.here hx rfl (hb hby at_171) rfl ?_
    show Steps p.tables e below (T31.setTop (mkF m 173 #[.val (.int fl), .val (.long li), .second, .val (.long re), .second, .val (.long rs), .second, .val (.long rt), .second, .val (.long dl), .second, .val (.int aA), .val (.int aB), .val (.int sL), .val (.int sR), .val (.int sS), .val (.int sT), .val (.long lB), .second, .val (.long rB), .second, .val (.long xB), .second, .val (.long tB), .second, .val (.ref b28), .val (.ref b30), .unset, .unset] [(.int aA)])) t
    refine XS.iload X31.here hx rfl (hb hby at_173) rfl ?_
    show Steps p.tables e below (T31.setTop (mkF m 175 #[.val (.int fl), .val (.long li), .second, .val (.long re), .second, .val (.long rs), .second, .val (.long rt), .second, .val (.long dl), .second, .val (.int aA), .val (.int aB), .val (.int sL), .val (.int sR), .val (.int sS), .val (.int sT), .val (.long lB), .second, .val (.long rB), .second, .val (.long xB), .second, .val (.long tB), .second, .val (.ref b28), .val (.ref b30), .unset, .unset] [(.int aB), (.int aA)])) t
    exact k)
  obtain ⟨ex, hex, pre⟩ : ∃ ex : Int32, ex = own_expd aA aB sL sR sS sT li re rs rt dl ∧ Pth p e below S0 T31 (mkF m 233 #[.val (.int fl), .val (.long li), .second, .val (.long re), .second, .val (.long rs), .second, .val (.long rt), .second, .val (.long dl), .second, .val (.int aA), .val (.int aB), .val (.int sL), .val (.int sR), .val (.int sS), .val (.int sT), .val (.long lB), .second, .val (.long rB), .second, .val (.long xB), .second, .val (.long tB), .second, .val (.ref b28), .val (.ref b30), .unset, .unset] [(.int ex)]) := by
    by_cases z0 : aA = aB
    · replace pre : Pth p e below S0 T31 (mkF m 180 #[.val (.int fl), .val (.long li), .second, .val (.long re), .second, .val (.long rs), .second, .val (.long rt), .second, .val (.long dl), .second, .val (.int aA), .val (.int aB), .val (.int sL), .val (.int sR), .val (.int sS), .val (.int sT), .val (.long lB), .second, .val (.long rB), .second, .val (.long xB), .second, .val (.long tB), .second, .val (.ref b28), .val (.ref b30), .unset, .unset] [(.int sL)]) := fun t k => pre t (by
        show Steps p.tables e below (T31.setTop (mkF m 175 #[.val (.int fl), .val (.long li), .second, .val (.long re), .second, .val (.long rs), .second, .val (.long rt), .second, .val (.long dl), .second, .val (.int aA), .val (.int aB), .val (.int sL), .val (.int sR), .val (.int sS), .val (.int sT), .val (.long lB), .second, .val (.long rB), .second, .val (.long xB), .second, .val (.long tB), .second, .val (.ref b28), .val (.ref b30), .unset, .unset] [(.int aB), (.int aA)])) t
        refine XS.icmpNo X31.here hx rfl (hb hby at_175) rfl (XT.ii_ne_f z0) ?_
        show Steps p.tables e below (T31.setTop (mkF m 178 #[.val (.int fl), .val (.long li), .second, .val (.long re), .second, .val (.long rs), .second, .val (.long rt), .second, .val (.long dl), .second, .val (.int aA), .val (.int aB), .val (.int sL), .val (.int sR), .val (.int sS), .val (.int sT), .val (.long lB), .second, .val (.long rB), .second, .val (.long xB), .second, .val (.long tB), .second, .val (.ref b28), .val (.ref b30), .unset, .unset] [])) t
        refine XS.iload X31.here hx rfl (hb hby at_178) rfl ?_
        show Steps p.tables e below (T31.setTop (mkF m 180 #[.val (.int fl), .val (.long li), .second, .val (.long re), .second, .val (.long rs), .second, .val (.long rt), .second, .val (.long dl), .second, .val (.int aA), .val (.int aB), .val (.int sL), .val (.int sR), .val (.int sS), .val (.int sT), .val (.long lB), .second, .val (.long rB), .second, .val (.long xB), .second, .val (.long tB), .second, .val (.ref b28), .val (.ref b30), .unset, .unset] [(.int sL)])) t
        exact k)
      by_cases c0 : sL = 0 ∨ dl = li
      · replace pre : Pth p e below S0 T31 (mkF m 190 #[.val (.int fl), .val (.long li), .second, .val (.long re), .second, .val (.long rs), .second, .val (.long rt), .second, .val (.long dl), .second, .val (.int aA), .val (.int aB), .val (.int sL), .val (.int sR), .val (.int sS), .val (.int sT), .val (.long lB), .second, .val (.long rB), .second, .val (.long xB), .second, .val (.long tB), .second, .val (.ref b28), .val (.ref b30), .unset, .unset] []) := by
          by_cases z1 : sL = (0 : Int32)
          · replace pre : Pth p e below S0 T31 (mkF m 190 #[.val (.int fl), .val (.long li), .second, .val (.long re), .second, .val (.long rs), .second, .val (.long rt), .second, .val (.long dl), .second, .val (.int aA), .val (.int aB), .val (.int sL), .val (.int sR), .val (.int sS), .val (.int sT), .val (.long lB), .second, .val (.long rB), .second, .val (.long xB), .second, .val (.long tB), .second, .val (.ref b28), .val (.ref b30), .unset, .unset] []) := fun t k => pre t (by
              show Steps p.tables e below (T31.setTop (mkF m 180 #[.val (.int fl), .val (.long li), .second, .val (.long re), .second, .val (.long rs), .second, .val (.long rt), .second, .val (.long dl), .second, .val (.int aA), .val (.int aB), .val (.int sL), .val (.int sR), .val (.int sS), .val (.int sT), .val (.long lB), .second, .val (.long rB), .second, .val (.long xB), .second, .val (.long tB), .second, .val (.ref b28), .val (.ref b30), .unset, .unset] [(.int sL)])) t
              refine XS.ifYes X31.here hx rfl (pc0 := 180) (pc' := 190) rfl (hb hby at_180) rfl (XT.i0_eq_t z1) (by decide) (by decide) ?_
              show Steps p.tables e below (T31.setTop (mkF m 190 #[.val (.int fl), .val (.long li), .second, .val (.long re), .second, .val (.long rs), .second, .val (.long rt), .second, .val (.long dl), .second, .val (.int aA), .val (.int aB), .val (.int sL), .val (.int sR), .val (.int sS), .val (.int sT), .val (.long lB), .second, .val (.long rB), .second, .val (.long xB), .second, .val (.long tB), .second, .val (.ref b28), .val (.ref b30), .unset, .unset] [])) t
              exact k)
            exact pre
          · replace pre : Pth p e below S0 T31 (mkF m 190 #[.val (.int fl), .val (.long li), .second, .val (.long re), .second, .val (.long rs), .second, .val (.long rt), .second, .val (.long dl), .second, .val (.int aA), .val (.int aB), .val (.int sL), .val (.int sR), .val (.int sS), .val (.int sT), .val (.long lB), .second, .val (.long rB), .second, .val (.long xB), .second, .val (.long tB), .second, .val (.ref b28), .val (.ref b30), .unset, .unset] []) := fun t k => pre t (by
              show Steps p.tables e below (T31.setTop (mkF m 180 #[.val (.int fl), .val (.long li), .second, .val (.long re), .second, .val (.long rs), .second, .val (.long rt), .second, .val (.long dl), .second, .val (.int aA), .val (.int aB), .val (.int sL), .val (.int sR), .val (.int sS), .val (.int sT), .val (.long lB), .second, .val (.long rB), .second, .val (.long xB), .second, .val (.long tB), .second, .val (.ref b28), .val (.ref b30), .unset, .unset] [(.int sL)])) t
              refine XS.ifNo X31.here hx rfl (hb hby at_180) rfl (XT.i0_eq_f z1) ?_
              show Steps p.tables e below (T31.setTop (mkF m 183 #[.val (.int fl), .val (.long li), .second, .val (.long re), .second, .val (.long rs), .second, .val (.long rt), .second, .val (.long dl), .second, .val (.int aA), .val (.int aB), .val (.int sL), .val (.int sR), .val (.int sS), .val (.int sT), .val (.long lB), .second, .val (.long rB), .second, .val (.long xB), .second, .val (.long tB), .second, .val (.ref b28), .val (.ref b30), .unset, .unset] [])) t
              refine XS.lload X31.here hx rfl (hb hby at_183) rfl ?_
              show Steps p.tables e below (T31.setTop (mkF m 185 #[.val (.int fl), .val (.long li), .second, .val (.long re), .second, .val (.long rs), .second, .val (.long rt), .second, .val (.long dl), .second, .val (.int aA), .val (.int aB), .val (.int sL), .val (.int sR), .val (.int sS), .val (.int sT), .val (.long lB), .second, .val (.long rB), .second, .val (.long xB), .second, .val (.long tB), .second, .val (.ref b28), .val (.ref b30), .unset, .unset] [(.long dl)])) t
              refine XS.lloadN X31.here hx rfl (hb hby at_185) rfl ?_
              show Steps p.tables e below (T31.setTop (mkF m 186 #[.val (.int fl), .val (.long li), .second, .val (.long re), .second, .val (.long rs), .second, .val (.long rt), .second, .val (.long dl), .second, .val (.int aA), .val (.int aB), .val (.int sL), .val (.int sR), .val (.int sS), .val (.int sT), .val (.long lB), .second, .val (.long rB), .second, .val (.long xB), .second, .val (.long tB), .second, .val (.ref b28), .val (.ref b30), .unset, .unset] [(.long li), (.long dl)])) t
              refine XT.lcmp X31.here hx rfl (hb hby at_186) rfl ?_
              show Steps p.tables e below (T31.setTop (mkF m 187 #[.val (.int fl), .val (.long li), .second, .val (.long re), .second, .val (.long rs), .second, .val (.long rt), .second, .val (.long dl), .second, .val (.int aA), .val (.int aB), .val (.int sL), .val (.int sR), .val (.int sS), .val (.int sT), .val (.long lB), .second, .val (.long rB), .second, .val (.long xB), .second, .val (.long tB), .second, .val (.ref b28), .val (.ref b30), .unset, .unset] [(.int (XT.cmpL dl li))])) t
              refine XS.ifNo X31.here hx rfl (hb hby at_187) rfl (XT.ll_ne_f (c0.resolve_left z1)) ?_
              show Steps p.tables e below (T31.setTop (mkF m 190 #[.val (.int fl), .val (.long li), .second, .val (.long re), .second, .val (.long rs), .second, .val (.long rt), .second, .val (.long dl), .second, .val (.int aA), .val (.int aB), .val (.int sL), .val (.int sR), .val (.int sS), .val (.int sT), .val (.long lB), .second, .val (.long rB), .second, .val (.long xB), .second, .val (.long tB), .second, .val (.ref b28), .val (.ref b30), .unset, .unset] [])) t
              exact k)
            exact pre
        replace pre : Pth p e below S0 T31 (mkF m 192 #[.val (.int fl), .val (.long li), .second, .val (.long re), .second, .val (.long rs), .second, .val (.long rt), .second, .val (.long dl), .second, .val (.int aA), .val (.int aB), .val (.int sL), .val (.int sR), .val (.int sS), .val (.int sT), .val (.long lB), .second, .val (.long rB), .second, .val (.long xB), .second, .val (.long tB), .second, .val (.ref b28), .val (.ref b30), .unset, .unset] [(.int sR)]) := fun t k => pre t (by
          show Steps p.tables e below (T31.setTop (mkF m 190 #[.val (.int fl), .val (.long li), .second, .val (.long re), .second, .val (.long rs), .second, .val (.long rt), .second, .val (.long dl), .second, .val (.int aA), .val (.int aB), .val (.int sL), .val (.int sR), .val (.int sS), .val (.int sT), .val (.long lB), .second, .val (.long rB), .second, .val (.long xB), .second, .val (.long tB), .second, .val (.ref b28), .val (.ref b30), .unset, .unset] [])) t
          refine XS.iload X31.here hx rfl (hb hby at_190) rfl ?_
          show Steps p.tables e below (T31.setTop (mkF m 192 #[.val (.int fl), .val (.long li), .second, .val (.long re), .second, .val (.long rs), .second, .val (.long rt), .second, .val (.long dl), .second, .val (.int aA), .val (.int aB), .val (.int sL), .val (.int sR), .val (.int sS), .val (.int sT), .val (.long lB), .second, .val (.long rB), .second, .val (.long xB), .second, .val (.long tB), .second, .val (.ref b28), .val (.ref b30), .unset, .unset] [(.int sR)])) t
          exact k)
        by_cases c1 : sR = 0 ∨ dl = re
        · replace pre : Pth p e below S0 T31 (mkF m 202 #[.val (.int fl), .val (.long li), .second, .val (.long re), .second, .val (.long rs), .second, .val (.long rt), .second, .val (.long dl), .second, .val (.int aA), .val (.int aB), .val (.int sL), .val (.int sR), .val (.int sS), .val (.int sT), .val (.long lB), .second, .val (.long rB), .second, .val (.long xB), .second, .val (.long tB), .second, .val (.ref b28), .val (.ref b30), .unset, .unset] []) := by
            by_cases z1 : sR = (0 : Int32)
            · replace pre : Pth p e below S0 T31 (mkF m 202 #[.val (.int fl), .val (.long li), .second, .val (.long re), .second, .val (.long rs), .second, .val (.long rt), .second, .val (.long dl), .second, .val (.int aA), .val (.int aB), .val (.int sL), .val (.int sR), .val (.int sS), .val (.int sT), .val (.long lB), .second, .val (.long rB), .second, .val (.long xB), .second, .val (.long tB), .second, .val (.ref b28), .val (.ref b30), .unset, .unset] []) := fun t k => pre t (by
                show Steps p.tables e below (T31.setTop (mkF m 192 #[.val (.int fl), .val (.long li), .second, .val (.long re), .second, .val (.long rs), .second, .val (.long rt), .second, .val (.long dl), .second, .val (.int aA), .val (.int aB), .val (.int sL), .val (.int sR), .val (.int sS), .val (.int sT), .val (.long lB), .second, .val (.long rB), .second, .val (.long xB), .second, .val (.long tB), .second, .val (.ref b28), .val (.ref b30), .unset, .unset] [(.int sR)])) t
                refine XS.ifYes X31.here hx rfl (pc0 := 192) (pc' := 202) rfl (hb hby at_192) rfl (XT.i0_eq_t z1) (by decide) (by decide) ?_
                show Steps p.tables e below (T31.setTop (mkF m 202 #[.val (.int fl), .val (.long li), .second, .val (.long re), .second, .val (.long rs), .second, .val (.long rt), .second, .val (.long dl), .second, .val (.int aA), .val (.int aB), .val (.int sL), .val (.int sR), .val (.int sS), .val (.int sT), .val (.long lB), .second, .val (.long rB), .second, .val (.long xB), .second, .val (.long tB), .second, .val (.ref b28), .val (.ref b30), .unset, .unset] [])) t
                exact k)
              exact pre
            · replace pre : Pth p e below S0 T31 (mkF m 202 #[.val (.int fl), .val (.long li), .second, .val (.long re), .second, .val (.long rs), .second, .val (.long rt), .second, .val (.long dl), .second, .val (.int aA), .val (.int aB), .val (.int sL), .val (.int sR), .val (.int sS), .val (.int sT), .val (.long lB), .second, .val (.long rB), .second, .val (.long xB), .second, .val (.long tB), .second, .val (.ref b28), .val (.ref b30), .unset, .unset] []) := fun t k => pre t (by
                show Steps p.tables e below (T31.setTop (mkF m 192 #[.val (.int fl), .val (.long li), .second, .val (.long re), .second, .val (.long rs), .second, .val (.long rt), .second, .val (.long dl), .second, .val (.int aA), .val (.int aB), .val (.int sL), .val (.int sR), .val (.int sS), .val (.int sT), .val (.long lB), .second, .val (.long rB), .second, .val (.long xB), .second, .val (.long tB), .second, .val (.ref b28), .val (.ref b30), .unset, .unset] [(.int sR)])) t
                refine XS.ifNo X31.here hx rfl (hb hby at_192) rfl (XT.i0_eq_f z1) ?_
                show Steps p.tables e below (T31.setTop (mkF m 195 #[.val (.int fl), .val (.long li), .second, .val (.long re), .second, .val (.long rs), .second, .val (.long rt), .second, .val (.long dl), .second, .val (.int aA), .val (.int aB), .val (.int sL), .val (.int sR), .val (.int sS), .val (.int sT), .val (.long lB), .second, .val (.long rB), .second, .val (.long xB), .second, .val (.long tB), .second, .val (.ref b28), .val (.ref b30), .unset, .unset] [])) t
                refine XS.lload X31.here hx rfl (hb hby at_195) rfl ?_
                show Steps p.tables e below (T31.setTop (mkF m 197 #[.val (.int fl), .val (.long li), .second, .val (.long re), .second, .val (.long rs), .second, .val (.long rt), .second, .val (.long dl), .second, .val (.int aA), .val (.int aB), .val (.int sL), .val (.int sR), .val (.int sS), .val (.int sT), .val (.long lB), .second, .val (.long rB), .second, .val (.long xB), .second, .val (.long tB), .second, .val (.ref b28), .val (.ref b30), .unset, .unset] [(.long dl)])) t
                refine XS.lloadN X31.here hx rfl (hb hby at_197) rfl ?_
                show Steps p.tables e below (T31.setTop (mkF m 198 #[.val (.int fl), .val (.long li), .second, .val (.long re), .second, .val (.long rs), .second, .val (.long rt), .second, .val (.long dl), .second, .val (.int aA), .val (.int aB), .val (.int sL), .val (.int sR), .val (.int sS), .val (.int sT), .val (.long lB), .second, .val (.long rB), .second, .val (.long xB), .second, .val (.long tB), .second, .val (.ref b28), .val (.ref b30), .unset, .unset] [(.long re), (.long dl)])) t
                refine XT.lcmp X31.here hx rfl (hb hby at_198) rfl ?_
                show Steps p.tables e below (T31.setTop (mkF m 199 #[.val (.int fl), .val (.long li), .second, .val (.long re), .second, .val (.long rs), .second, .val (.long rt), .second, .val (.long dl), .second, .val (.int aA), .val (.int aB), .val (.int sL), .val (.int sR), .val (.int sS), .val (.int sT), .val (.long lB), .second, .val (.long rB), .second, .val (.long xB), .second, .val (.long tB), .second, .val (.ref b28), .val (.ref b30), .unset, .unset] [(.int (XT.cmpL dl re))])) t
                refine XS.ifNo X31.here hx rfl (hb hby at_199) rfl (XT.ll_ne_f (c1.resolve_left z1)) ?_
                show Steps p.tables e below (T31.setTop (mkF m 202 #[.val (.int fl), .val (.long li), .second, .val (.long re), .second, .val (.long rs), .second, .val (.long rt), .second, .val (.long dl), .second, .val (.int aA), .val (.int aB), .val (.int sL), .val (.int sR), .val (.int sS), .val (.int sT), .val (.long lB), .second, .val (.long rB), .second, .val (.long xB), .second, .val (.long tB), .second, .val (.ref b28), .val (.ref b30), .unset, .unset] [])) t
                exact k)
              exact pre
          replace pre : Pth p e below S0 T31 (mkF m 204 #[.val (.int fl), .val (.long li), .second, .val (.long re), .second, .val (.long rs), .second, .val (.long rt), .second, .val (.long dl), .second, .val (.int aA), .val (.int aB), .val (.int sL), .val (.int sR), .val (.int sS), .val (.int sT), .val (.long lB), .second, .val (.long rB), .second, .val (.long xB), .second, .val (.long tB), .second, .val (.ref b28), .val (.ref b30), .unset, .unset] [(.int sS)]) := fun t k => pre t (by
            show Steps p.tables e below (T31.setTop (mkF m 202 #[.val (.int fl), .val (.long li), .second, .val (.long re), .second, .val (.long rs), .second, .val (.long rt), .second, .val (.long dl), .second, .val (.int aA), .val (.int aB), .val (.int sL), .val (.int sR), .val (.int sS), .val (.int sT), .val (.long lB), .second, .val (.long rB), .second, .val (.long xB), .second, .val (.long tB), .second, .val (.ref b28), .val (.ref b30), .unset, .unset] [])) t
            refine XS.iload X31.here hx rfl (hb hby at_202) rfl ?_
            show Steps p.tables e below (T31.setTop (mkF m 204 #[.val (.int fl), .val (.long li), .second, .val (.long re), .second, .val (.long rs), .second, .val (.long rt), .second, .val (.long dl), .second, .val (.int aA), .val (.int aB), .val (.int sL), .val (.int sR), .val (.int sS), .val (.int sT), .val (.long lB), .second, .val (.long rB), .second, .val (.long xB), .second, .val (.long tB), .second, .val (.ref b28), .val (.ref b30), .unset, .unset] [(.int sS)])) t
            exact k)
          by_cases c2 : sS = 0 ∨ dl = rs
          · replace pre : Pth p e below S0 T31 (mkF m 215 #[.val (.int fl), .val (.long li), .second, .val (.long re), .second, .val (.long rs), .second, .val (.long rt), .second, .val (.long dl), .second, .val (.int aA), .val (.int aB), .val (.int sL), .val (.int sR), .val (.int sS), .val (.int sT), .val (.long lB), .second, .val (.long rB), .second, .val (.long xB), .second, .val (.long tB), .second, .val (.ref b28), .val (.ref b30), .unset, .unset] []) := by
              by_cases z1 : sS = (0 : Int32)
              · replace pre : Pth p e below S0 T31 (mkF m 215 #[.val (.int fl), .val (.long li), .second, .val (.long re), .second, .val (.long rs), .second, .val (.long rt), .second, .val (.long dl), .second, .val (.int aA), .val (.int aB), .val (.int sL), .val (.int sR), .val (.int sS), .val (.int sT), .val (.long lB), .second, .val (.long rB), .second, .val (.long xB), .second, .val (.long tB), .second, .val (.ref b28), .val (.ref b30), .unset, .unset] []) := fun t k => pre t (by
                  show Steps p.tables e below (T31.setTop (mkF m 204 #[.val (.int fl), .val (.long li), .second, .val (.long re), .second, .val (.long rs), .second, .val (.long rt), .second, .val (.long dl), .second, .val (.int aA), .val (.int aB), .val (.int sL), .val (.int sR), .val (.int sS), .val (.int sT), .val (.long lB), .second, .val (.long rB), .second, .val (.long xB), .second, .val (.long tB), .second, .val (.ref b28), .val (.ref b30), .unset, .unset] [(.int sS)])) t
                  refine XS.ifYes X31.here hx rfl (pc0 := 204) (pc' := 215) rfl (hb hby at_204) rfl (XT.i0_eq_t z1) (by decide) (by decide) ?_
                  show Steps p.tables e below (T31.setTop (mkF m 215 #[.val (.int fl), .val (.long li), .second, .val (.long re), .second, .val (.long rs), .second, .val (.long rt), .second, .val (.long dl), .second, .val (.int aA), .val (.int aB), .val (.int sL), .val (.int sR), .val (.int sS), .val (.int sT), .val (.long lB), .second, .val (.long rB), .second, .val (.long xB), .second, .val (.long tB), .second, .val (.ref b28), .val (.ref b30), .unset, .unset] [])) t
                  exact k)
                exact pre
              · replace pre : Pth p e below S0 T31 (mkF m 215 #[.val (.int fl), .val (.long li), .second, .val (.long re), .second, .val (.long rs), .second, .val (.long rt), .second, .val (.long dl), .second, .val (.int aA), .val (.int aB), .val (.int sL), .val (.int sR), .val (.int sS), .val (.int sT), .val (.long lB), .second, .val (.long rB), .second, .val (.long xB), .second, .val (.long tB), .second, .val (.ref b28), .val (.ref b30), .unset, .unset] []) := fun t k => pre t (by
                  show Steps p.tables e below (T31.setTop (mkF m 204 #[.val (.int fl), .val (.long li), .second, .val (.long re), .second, .val (.long rs), .second, .val (.long rt), .second, .val (.long dl), .second, .val (.int aA), .val (.int aB), .val (.int sL), .val (.int sR), .val (.int sS), .val (.int sT), .val (.long lB), .second, .val (.long rB), .second, .val (.long xB), .second, .val (.long tB), .second, .val (.ref b28), .val (.ref b30), .unset, .unset] [(.int sS)])) t
                  refine XS.ifNo X31.here hx rfl (hb hby at_204) rfl (XT.i0_eq_f z1) ?_
                  show Steps p.tables e below (T31.setTop (mkF m 207 #[.val (.int fl), .val (.long li), .second, .val (.long re), .second, .val (.long rs), .second, .val (.long rt), .second, .val (.long dl), .second, .val (.int aA), .val (.int aB), .val (.int sL), .val (.int sR), .val (.int sS), .val (.int sT), .val (.long lB), .second, .val (.long rB), .second, .val (.long xB), .second, .val (.long tB), .second, .val (.ref b28), .val (.ref b30), .unset, .unset] [])) t
                  refine XS.lload X31.here hx rfl (hb hby at_207) rfl ?_
                  show Steps p.tables e below (T31.setTop (mkF m 209 #[.val (.int fl), .val (.long li), .second, .val (.long re), .second, .val (.long rs), .second, .val (.long rt), .second, .val (.long dl), .second, .val (.int aA), .val (.int aB), .val (.int sL), .val (.int sR), .val (.int sS), .val (.int sT), .val (.long lB), .second, .val (.long rB), .second, .val (.long xB), .second, .val (.long tB), .second, .val (.ref b28), .val (.ref b30), .unset, .unset] [(.long dl)])) t
                  refine XS.lload X31.here hx rfl (hb hby at_209) rfl ?_
                  show Steps p.tables e below (T31.setTop (mkF m 211 #[.val (.int fl), .val (.long li), .second, .val (.long re), .second, .val (.long rs), .second, .val (.long rt), .second, .val (.long dl), .second, .val (.int aA), .val (.int aB), .val (.int sL), .val (.int sR), .val (.int sS), .val (.int sT), .val (.long lB), .second, .val (.long rB), .second, .val (.long xB), .second, .val (.long tB), .second, .val (.ref b28), .val (.ref b30), .unset, .unset] [(.long rs), (.long dl)])) t
                  refine XT.lcmp X31.here hx rfl (hb hby at_211) rfl ?_
                  show Steps p.tables e below (T31.setTop (mkF m 212 #[.val (.int fl), .val (.long li), .second, .val (.long re), .second, .val (.long rs), .second, .val (.long rt), .second, .val (.long dl), .second, .val (.int aA), .val (.int aB), .val (.int sL), .val (.int sR), .val (.int sS), .val (.int sT), .val (.long lB), .second, .val (.long rB), .second, .val (.long xB), .second, .val (.long tB), .second, .val (.ref b28), .val (.ref b30), .unset, .unset] [(.int (XT.cmpL dl rs))])) t
                  refine XS.ifNo X31.here hx rfl (hb hby at_212) rfl (XT.ll_ne_f (c2.resolve_left z1)) ?_
                  show Steps p.tables e below (T31.setTop (mkF m 215 #[.val (.int fl), .val (.long li), .second, .val (.long re), .second, .val (.long rs), .second, .val (.long rt), .second, .val (.long dl), .second, .val (.int aA), .val (.int aB), .val (.int sL), .val (.int sR), .val (.int sS), .val (.int sT), .val (.long lB), .second, .val (.long rB), .second, .val (.long xB), .second, .val (.long tB), .second, .val (.ref b28), .val (.ref b30), .unset, .unset] [])) t
                  exact k)
                exact pre
            replace pre : Pth p e below S0 T31 (mkF m 217 #[.val (.int fl), .val (.long li), .second, .val (.long re), .second, .val (.long rs), .second, .val (.long rt), .second, .val (.long dl), .second, .val (.int aA), .val (.int aB), .val (.int sL), .val (.int sR), .val (.int sS), .val (.int sT), .val (.long lB), .second, .val (.long rB), .second, .val (.long xB), .second, .val (.long tB), .second, .val (.ref b28), .val (.ref b30), .unset, .unset] [(.int sT)]) := fun t k => pre t (by
              show Steps p.tables e below (T31.setTop (mkF m 215 #[.val (.int fl), .val (.long li), .second, .val (.long re), .second, .val (.long rs), .second, .val (.long rt), .second, .val (.long dl), .second, .val (.int aA), .val (.int aB), .val (.int sL), .val (.int sR), .val (.int sS), .val (.int sT), .val (.long lB), .second, .val (.long rB), .second, .val (.long xB), .second, .val (.long tB), .second, .val (.ref b28), .val (.ref b30), .unset, .unset] [])) t
              refine XS.iload X31.here hx rfl (hb hby at_215) rfl ?_
              show Steps p.tables e below (T31.setTop (mkF m 217 #[.val (.int fl), .val (.long li), .second, .val (.long re), .second, .val (.long rs), .second, .val (.long rt), .second, .val (.long dl), .second, .val (.int aA), .val (.int aB), .val (.int sL), .val (.int sR), .val (.int sS), .val (.int sT), .val (.long lB), .second, .val (.long rB), .second, .val (.long xB), .second, .val (.long tB), .second, .val (.ref b28), .val (.ref b30), .unset, .unset] [(.int sT)])) t
              exact k)
            by_cases c3 : sT = 0 ∨ dl = rt
            · replace pre : Pth p e below S0 T31 (mkF m 228 #[.val (.int fl), .val (.long li), .second, .val (.long re), .second, .val (.long rs), .second, .val (.long rt), .second, .val (.long dl), .second, .val (.int aA), .val (.int aB), .val (.int sL), .val (.int sR), .val (.int sS), .val (.int sT), .val (.long lB), .second, .val (.long rB), .second, .val (.long xB), .second, .val (.long tB), .second, .val (.ref b28), .val (.ref b30), .unset, .unset] []) := by
                by_cases z1 : sT = (0 : Int32)
                · replace pre : Pth p e below S0 T31 (mkF m 228 #[.val (.int fl), .val (.long li), .second, .val (.long re), .second, .val (.long rs), .second, .val (.long rt), .second, .val (.long dl), .second, .val (.int aA), .val (.int aB), .val (.int sL), .val (.int sR), .val (.int sS), .val (.int sT), .val (.long lB), .second, .val (.long rB), .second, .val (.long xB), .second, .val (.long tB), .second, .val (.ref b28), .val (.ref b30), .unset, .unset] []) := fun t k => pre t (by
                    show Steps p.tables e below (T31.setTop (mkF m 217 #[.val (.int fl), .val (.long li), .second, .val (.long re), .second, .val (.long rs), .second, .val (.long rt), .second, .val (.long dl), .second, .val (.int aA), .val (.int aB), .val (.int sL), .val (.int sR), .val (.int sS), .val (.int sT), .val (.long lB), .second, .val (.long rB), .second, .val (.long xB), .second, .val (.long tB), .second, .val (.ref b28), .val (.ref b30), .unset, .unset] [(.int sT)])) t
                    refine XS.ifYes X31.here hx rfl (pc0 := 217) (pc' := 228) rfl (hb hby at_217) rfl (XT.i0_eq_t z1) (by decide) (by decide) ?_
                    show Steps p.tables e below (T31.setTop (mkF m 228 #[.val (.int fl), .val (.long li), .second, .val (.long re), .second, .val (.long rs), .second, .val (.long rt), .second, .val (.long dl), .second, .val (.int aA), .val (.int aB), .val (.int sL), .val (.int sR), .val (.int sS), .val (.int sT), .val (.long lB), .second, .val (.long rB), .second, .val (.long xB), .second, .val (.long tB), .second, .val (.ref b28), .val (.ref b30), .unset, .unset] [])) t
                    exact k)
                  exact pre
                · replace pre : Pth p e below S0 T31 (mkF m 228 #[.val (.int fl), .val (.long li), .second, .val (.long re), .second, .val (.long rs), .second, .val (.long rt), .second, .val (.long dl), .second, .val (.int aA), .val (.int aB), .val (.int sL), .val (.int sR), .val (.int sS), .val (.int sT), .val (.long lB), .second, .val (.long rB), .second, .val (.long xB), .second, .val (.long tB), .second, .val (.ref b28), .val (.ref b30), .unset, .unset] []) := fun t k => pre t (by
                    show Steps p.tables e below (T31.setTop (mkF m 217 #[.val (.int fl), .val (.long li), .second, .val (.long re), .second, .val (.long rs), .second, .val (.long rt), .second, .val (.long dl), .second, .val (.int aA), .val (.int aB), .val (.int sL), .val (.int sR), .val (.int sS), .val (.int sT), .val (.long lB), .second, .val (.long rB), .second, .val (.long xB), .second, .val (.long tB), .second, .val (.ref b28), .val (.ref b30), .unset, .unset] [(.int sT)])) t
                    refine XS.ifNo X31.here hx rfl (hb hby at_217) rfl (XT.i0_eq_f z1) ?_
                    show Steps p.tables e below (T31.setTop (mkF m 220 #[.val (.int fl), .val (.long li), .second, .val (.long re), .second, .val (.long rs), .second, .val (.long rt), .second, .val (.long dl), .second, .val (.int aA), .val (.int aB), .val (.int sL), .val (.int sR), .val (.int sS), .val (.int sT), .val (.long lB), .second, .val (.long rB), .second, .val (.long xB), .second, .val (.long tB), .second, .val (.ref b28), .val (.ref b30), .unset, .unset] [])) t
                    refine XS.lload X31.here hx rfl (hb hby at_220) rfl ?_
                    show Steps p.tables e below (T31.setTop (mkF m 222 #[.val (.int fl), .val (.long li), .second, .val (.long re), .second, .val (.long rs), .second, .val (.long rt), .second, .val (.long dl), .second, .val (.int aA), .val (.int aB), .val (.int sL), .val (.int sR), .val (.int sS), .val (.int sT), .val (.long lB), .second, .val (.long rB), .second, .val (.long xB), .second, .val (.long tB), .second, .val (.ref b28), .val (.ref b30), .unset, .unset] [(.long dl)])) t
                    refine XS.lload X31.here hx rfl (hb hby at_222) rfl ?_
                    show Steps p.tables e below (T31.setTop (mkF m 224 #[.val (.int fl), .val (.long li), .second, .val (.long re), .second, .val (.long rs), .second, .val (.long rt), .second, .val (.long dl), .second, .val (.int aA), .val (.int aB), .val (.int sL), .val (.int sR), .val (.int sS), .val (.int sT), .val (.long lB), .second, .val (.long rB), .second, .val (.long xB), .second, .val (.long tB), .second, .val (.ref b28), .val (.ref b30), .unset, .unset] [(.long rt), (.long dl)])) t
                    refine XT.lcmp X31.here hx rfl (hb hby at_224) rfl ?_
                    show Steps p.tables e below (T31.setTop (mkF m 225 #[.val (.int fl), .val (.long li), .second, .val (.long re), .second, .val (.long rs), .second, .val (.long rt), .second, .val (.long dl), .second, .val (.int aA), .val (.int aB), .val (.int sL), .val (.int sR), .val (.int sS), .val (.int sT), .val (.long lB), .second, .val (.long rB), .second, .val (.long xB), .second, .val (.long tB), .second, .val (.ref b28), .val (.ref b30), .unset, .unset] [(.int (XT.cmpL dl rt))])) t
                    refine XS.ifNo X31.here hx rfl (hb hby at_225) rfl (XT.ll_ne_f (c3.resolve_left z1)) ?_
                    show Steps p.tables e below (T31.setTop (mkF m 228 #[.val (.int fl), .val (.long li), .second, .val (.long re), .second, .val (.long rs), .second, .val (.long rt), .second, .val (.long dl), .second, .val (.int aA), .val (.int aB), .val (.int sL), .val (.int sR), .val (.int sS), .val (.int sT), .val (.long lB), .second, .val (.long rB), .second, .val (.long xB), .second, .val (.long tB), .second, .val (.ref b28), .val (.ref b30), .unset, .unset] [])) t
                    exact k)
                  exact pre
              replace pre : Pth p e below S0 T31 (mkF m 233 #[.val (.int fl), .val (.long li), .second, .val (.long re), .second, .val (.long rs), .second, .val (.long rt), .second, .val (.long dl), .second, .val (.int aA), .val (.int aB), .val (.int sL), .val (.int sR), .val (.int sS), .val (.int sT), .val (.long lB), .second, .val (.long rB), .second, .val (.long xB), .second, .val (.long tB), .second, .val (.ref b28), .val (.ref b30), .unset, .unset] [(.int (1 : Int32))]) := fun t k => pre t (by
                show Steps p.tables e below (T31.setTop (mkF m 228 #[.val (.int fl), .val (.long li), .second, .val (.long re), .second, .val (.long rs), .second, .val (.long rt), .second, .val (.long dl), .second, .val (.int aA), .val (.int aB), .val (.int sL), .val (.int sR), .val (.int sS), .val (.int sT), .val (.long lB), .second, .val (.long rB), .second, .val (.long xB), .second, .val (.long tB), .second, .val (.ref b28), .val (.ref b30), .unset, .unset] [])) t
                refine XS.iconst X31.here hx rfl (hb hby at_228) ?_
                show Steps p.tables e below (T31.setTop (mkF m 229 #[.val (.int fl), .val (.long li), .second, .val (.long re), .second, .val (.long rs), .second, .val (.long rt), .second, .val (.long dl), .second, .val (.int aA), .val (.int aB), .val (.int sL), .val (.int sR), .val (.int sS), .val (.int sT), .val (.long lB), .second, .val (.long rB), .second, .val (.long xB), .second, .val (.long tB), .second, .val (.ref b28), .val (.ref b30), .unset, .unset] [(.int (1 : Int32))])) t
                refine XS.goto X31.here hx rfl (pc0 := 229) (pc' := 233) rfl (hb hby at_229) (by decide) (by decide) ?_
                show Steps p.tables e below (T31.setTop (mkF m 233 #[.val (.int fl), .val (.long li), .second, .val (.long re), .second, .val (.long rs), .second, .val (.long rt), .second, .val (.long dl), .second, .val (.int aA), .val (.int aB), .val (.int sL), .val (.int sR), .val (.int sS), .val (.int sT), .val (.long lB), .second, .val (.long rB), .second, .val (.long xB), .second, .val (.long tB), .second, .val (.ref b28), .val (.ref b30), .unset, .unset] [(.int (1 : Int32))])) t
                exact k)
              exact ⟨_, by rw [own_expd, if_pos z0, if_pos c0, if_pos c1, if_pos c2, if_pos c3], pre⟩
            · replace pre : Pth p e below S0 T31 (mkF m 233 #[.val (.int fl), .val (.long li), .second, .val (.long re), .second, .val (.long rs), .second, .val (.long rt), .second, .val (.long dl), .second, .val (.int aA), .val (.int aB), .val (.int sL), .val (.int sR), .val (.int sS), .val (.int sT), .val (.long lB), .second, .val (.long rB), .second, .val (.long xB), .second, .val (.long tB), .second, .val (.ref b28), .val (.ref b30), .unset, .unset] [(.int (0 : Int32))]) := fun t k => pre t (by
                show Steps p.tables e below (T31.setTop (mkF m 217 #[.val (.int fl), .val (.long li), .second, .val (.long re), .second, .val (.long rs), .second, .val (.long rt), .second, .val (.long dl), .second, .val (.int aA), .val (.int aB), .val (.int sL), .val (.int sR), .val (.int sS), .val (.int sT), .val (.long lB), .second, .val (.long rB), .second, .val (.long xB), .second, .val (.long tB), .second, .val (.ref b28), .val (.ref b30), .unset, .unset] [(.int sT)])) t
                refine XS.ifNo X31.here hx rfl (hb hby at_217) rfl (XT.i0_eq_f (fun r => c3 (Or.inl r))) ?_
                show Steps p.tables e below (T31.setTop (mkF m 220 #[.val (.int fl), .val (.long li), .second, .val (.long re), .second, .val (.long rs), .second, .val (.long rt), .second, .val (.long dl), .second, .val (.int aA), .val (.int aB), .val (.int sL), .val (.int sR), .val (.int sS), .val (.int sT), .val (.long lB), .second, .val (.long rB), .second, .val (.long xB), .second, .val (.long tB), .second, .val (.ref b28), .val (.ref b30), .unset, .unset] [])) t
                refine XS.lload X31.here hx rfl (hb hby at_220) rfl ?_
                show Steps p.tables e below (T31.setTop (mkF m 222 #[.val (.int fl), .val (.long li), .second, .val (.long re), .second, .val (.long rs), .second, .val (.long rt), .second, .val (.long dl), .second, .val (.int aA), .val (.int aB), .val (.int sL), .val (.int sR), .val (.int sS), .val (.int sT), .val (.long lB), .second, .val (.long rB), .second, .val (.long xB), .second, .val (.long tB), .second, .val (.ref b28), .val (.ref b30), .unset, .unset] [(.long dl)])) t
                refine XS.lload X31.here hx rfl (hb hby at_222) rfl ?_
                show Steps p.tables e below (T31.setTop (mkF m 224 #[.val (.int fl), .val (.long li), .second, .val (.long re), .second, .val (.long rs), .second, .val (.long rt), .second, .val (.long dl), .second, .val (.int aA), .val (.int aB), .val (.int sL), .val (.int sR), .val (.int sS), .val (.int sT), .val (.long lB), .second, .val (.long rB), .second, .val (.long xB), .second, .val (.long tB), .second, .val (.ref b28), .val (.ref b30), .unset, .unset] [(.long rt), (.long dl)])) t
                refine XT.lcmp X31.here hx rfl (hb hby at_224) rfl ?_
                show Steps p.tables e below (T31.setTop (mkF m 225 #[.val (.int fl), .val (.long li), .second, .val (.long re), .second, .val (.long rs), .second, .val (.long rt), .second, .val (.long dl), .second, .val (.int aA), .val (.int aB), .val (.int sL), .val (.int sR), .val (.int sS), .val (.int sT), .val (.long lB), .second, .val (.long rB), .second, .val (.long xB), .second, .val (.long tB), .second, .val (.ref b28), .val (.ref b30), .unset, .unset] [(.int (XT.cmpL dl rt))])) t
                refine XS.ifYes X31.here hx rfl (pc0 := 225) (pc' := 232) rfl (hb hby at_225) rfl (XT.ll_ne_t (fun r => c3 (Or.inr r))) (by decide) (by decide) ?_
                show Steps p.tables e below (T31.setTop (mkF m 232 #[.val (.int fl), .val (.long li), .second, .val (.long re), .second, .val (.long rs), .second, .val (.long rt), .second, .val (.long dl), .second, .val (.int aA), .val (.int aB), .val (.int sL), .val (.int sR), .val (.int sS), .val (.int sT), .val (.long lB), .second, .val (.long rB), .second, .val (.long xB), .second, .val (.long tB), .second, .val (.ref b28), .val (.ref b30), .unset, .unset] [])) t
                refine XS.iconst X31.here hx rfl (hb hby at_232) ?_
                show Steps p.tables e below (T31.setTop (mkF m 233 #[.val (.int fl), .val (.long li), .second, .val (.long re), .second, .val (.long rs), .second, .val (.long rt), .second, .val (.long dl), .second, .val (.int aA), .val (.int aB), .val (.int sL), .val (.int sR), .val (.int sS), .val (.int sT), .val (.long lB), .second, .val (.long rB), .second, .val (.long xB), .second, .val (.long tB), .second, .val (.ref b28), .val (.ref b30), .unset, .unset] [(.int (0 : Int32))])) t
                exact k)
              exact ⟨_, by rw [own_expd, if_pos z0, if_pos c0, if_pos c1, if_pos c2, if_neg c3], pre⟩
          · replace pre : Pth p e below S0 T31 (mkF m 233 #[.val (.int fl), .val (.long li), .second, .val (.long re), .second, .val (.long rs), .second, .val (.long rt), .second, .val (.long dl), .second, .val (.int aA), .val (.int aB), .val (.int sL), .val (.int sR), .val (.int sS), .val (.int sT), .val (.long lB), .second, .val (.long rB), .second, .val (.long xB), .second, .val (.long tB), .second, .val (.ref b28), .val (.ref b30), .unset, .unset] [(.int (0 : Int32))]) := fun t k => pre t (by
              show Steps p.tables e below (T31.setTop (mkF m 204 #[.val (.int fl), .val (.long li), .second, .val (.long re), .second, .val (.long rs), .second, .val (.long rt), .second, .val (.long dl), .second, .val (.int aA), .val (.int aB), .val (.int sL), .val (.int sR), .val (.int sS), .val (.int sT), .val (.long lB), .second, .val (.long rB), .second, .val (.long xB), .second, .val (.long tB), .second, .val (.ref b28), .val (.ref b30), .unset, .unset] [(.int sS)])) t
              refine XS.ifNo X31.here hx rfl (hb hby at_204) rfl (XT.i0_eq_f (fun r => c2 (Or.inl r))) ?_
              show Steps p.tables e below (T31.setTop (mkF m 207 #[.val (.int fl), .val (.long li), .second, .val (.long re), .second, .val (.long rs), .second, .val (.long rt), .second, .val (.long dl), .second, .val (.int aA), .val (.int aB), .val (.int sL), .val (.int sR), .val (.int sS), .val (.int sT), .val (.long lB), .second, .val (.long rB), .second, .val (.long xB), .second, .val (.long tB), .second, .val (.ref b28), .val (.ref b30), .unset, .unset] [])) t
              refine XS.lload X31.here hx rfl (hb hby at_207) rfl ?_
              show Steps p.tables e below (T31.setTop (mkF m 209 #[.val (.int fl), .val (.long li), .second, .val (.long re), .second, .val (.long rs), .second, .val (.long rt), .second, .val (.long dl), .second, .val (.int aA), .val (.int aB), .val (.int sL), .val (.int sR), .val (.int sS), .val (.int sT), .val (.long lB), .second, .val (.long rB), .second, .val (.long xB), .second, .val (.long tB), .second, .val (.ref b28), .val (.ref b30), .unset, .unset] [(.long dl)])) t
              refine XS.lload X31.here hx rfl (hb hby at_209) rfl ?_
              show Steps p.tables e below (T31.setTop (mkF m 211 #[.val (.int fl), .val (.long li), .second, .val (.long re), .second, .val (.long rs), .second, .val (.long rt), .second, .val (.long dl), .second, .val (.int aA), .val (.int aB), .val (.int sL), .val (.int sR), .val (.int sS), .val (.int sT), .val (.long lB), .second, .val (.long rB), .second, .val (.long xB), .second, .val (.long tB), .second, .val (.ref b28), .val (.ref b30), .unset, .unset] [(.long rs), (.long dl)])) t
              refine XT.lcmp X31.here hx rfl (hb hby at_211) rfl ?_
              show Steps p.tables e below (T31.setTop (mkF m 212 #[.val (.int fl), .val (.long li), .second, .val (.long re), .second, .val (.long rs), .second, .val (.long rt), .second, .val (.long dl), .second, .val (.int aA), .val (.int aB), .val (.int sL), .val (.int sR), .val (.int sS), .val (.int sT), .val (.long lB), .second, .val (.long rB), .second, .val (.long xB), .second, .val (.long tB), .second, .val (.ref b28), .val (.ref b30), .unset, .unset] [(.int (XT.cmpL dl rs))])) t
              refine XS.ifYes X31.here hx rfl (pc0 := 212) (pc' := 232) rfl (hb hby at_212) rfl (XT.ll_ne_t (fun r => c2 (Or.inr r))) (by decide) (by decide) ?_
              show Steps p.tables e below (T31.setTop (mkF m 232 #[.val (.int fl), .val (.long li), .second, .val (.long re), .second, .val (.long rs), .second, .val (.long rt), .second, .val (.long dl), .second, .val (.int aA), .val (.int aB), .val (.int sL), .val (.int sR), .val (.int sS), .val (.int sT), .val (.long lB), .second, .val (.long rB), .second, .val (.long xB), .second, .val (.long tB), .second, .val (.ref b28), .val (.ref b30), .unset, .unset] [])) t
              refine XS.iconst X31.here hx rfl (hb hby at_232) ?_
              show Steps p.tables e below (T31.setTop (mkF m 233 #[.val (.int fl), .val (.long li), .second, .val (.long re), .second, .val (.long rs), .second, .val (.long rt), .second, .val (.long dl), .second, .val (.int aA), .val (.int aB), .val (.int sL), .val (.int sR), .val (.int sS), .val (.int sT), .val (.long lB), .second, .val (.long rB), .second, .val (.long xB), .second, .val (.long tB), .second, .val (.ref b28), .val (.ref b30), .unset, .unset] [(.int (0 : Int32))])) t
              exact k)
            exact ⟨_, by rw [own_expd, if_pos z0, if_pos c0, if_pos c1, if_neg c2], pre⟩
        · replace pre : Pth p e below S0 T31 (mkF m 233 #[.val (.int fl), .val (.long li), .second, .val (.long re), .second, .val (.long rs), .second, .val (.long rt), .second, .val (.long dl), .second, .val (.int aA), .val (.int aB), .val (.int sL), .val (.int sR), .val (.int sS), .val (.int sT), .val (.long lB), .second, .val (.long rB), .second, .val (.long xB), .second, .val (.long tB), .second, .val (.ref b28), .val (.ref b30), .unset, .unset] [(.int (0 : Int32))]) := fun t k => pre t (by
            show Steps p.tables e below (T31.setTop (mkF m 192 #[.val (.int fl), .val (.long li), .second, .val (.long re), .second, .val (.long rs), .second, .val (.long rt), .second, .val (.long dl), .second, .val (.int aA), .val (.int aB), .val (.int sL), .val (.int sR), .val (.int sS), .val (.int sT), .val (.long lB), .second, .val (.long rB), .second, .val (.long xB), .second, .val (.long tB), .second, .val (.ref b28), .val (.ref b30), .unset, .unset] [(.int sR)])) t
            refine XS.ifNo X31.here hx rfl (hb hby at_192) rfl (XT.i0_eq_f (fun r => c1 (Or.inl r))) ?_
            show Steps p.tables e below (T31.setTop (mkF m 195 #[.val (.int fl), .val (.long li), .second, .val (.long re), .second, .val (.long rs), .second, .val (.long rt), .second, .val (.long dl), .second, .val (.int aA), .val (.int aB), .val (.int sL), .val (.int sR), .val (.int sS), .val (.int sT), .val (.long lB), .second, .val (.long rB), .second, .val (.long xB), .second, .val (.long tB), .second, .val (.ref b28), .val (.ref b30), .unset, .unset] [])) t
            refine XS.lload X31.here hx rfl (hb hby at_195) rfl ?_
            show Steps p.tables e below (T31.setTop (mkF m 197 #[.val (.int fl), .val (.long li), .second, .val (.long re), .second, .val (.long rs), .second, .val (.long rt), .second, .val (.long dl), .second, .val (.int aA), .val (.int aB), .val (.int sL), .val (.int sR), .val (.int sS), .val (.int sT), .val (.long lB), .second, .val (.long rB), .second, .val (.long xB), .second, .val (.long tB), .second, .val (.ref b28), .val (.ref b30), .unset, .unset] [(.long dl)])) t
            refine XS.lloadN X31.here hx rfl (hb hby at_197) rfl ?_
            show Steps p.tables e below (T31.setTop (mkF m 198 #[.val (.int fl), .val (.long li), .second, .val (.long re), .second, .val (.long rs), .second, .val (.long rt), .second, .val (.long dl), .second, .val (.int aA), .val (.int aB), .val (.int sL), .val (.int sR), .val (.int sS), .val (.int sT), .val (.long lB), .second, .val (.long rB), .second, .val (.long xB), .second, .val (.long tB), .second, .val (.ref b28), .val (.ref b30), .unset, .unset] [(.long re), (.long dl)])) t
            refine XT.lcmp X31.here hx rfl (hb hby at_198) rfl ?_
            show Steps p.tables e below (T31.setTop (mkF m 199 #[.val (.int fl), .val (.long li), .second, .val (.long re), .second, .val (.long rs), .second, .val (.long rt), .second, .val (.long dl), .second, .val (.int aA), .val (.int aB), .val (.int sL), .val (.int sR), .val (.int sS), .val (.int sT), .val (.long lB), .second, .val (.long rB), .second, .val (.long xB), .second, .val (.long tB), .second, .val (.ref b28), .val (.ref b30), .unset, .unset] [(.int (XT.cmpL dl re))])) t
            refine XS.ifYes X31.here hx rfl (pc0 := 199) (pc' := 232) rfl (hb hby at_199) rfl (XT.ll_ne_t (fun r => c1 (Or.inr r))) (by decide) (by decide) ?_
            show Steps p.tables e below (T31.setTop (mkF m 232 #[.val (.int fl), .val (.long li), .second, .val (.long re), .second, .val (.long rs), .second, .val (.long rt), .second, .val (.long dl), .second, .val (.int aA), .val (.int aB), .val (.int sL), .val (.int sR), .val (.int sS), .val (.int sT), .val (.long lB), .second, .val (.long rB), .second, .val (.long xB), .second, .val (.long tB), .second, .val (.ref b28), .val (.ref b30), .unset, .unset] [])) t
            refine XS.iconst X31.here hx rfl (hb hby at_232) ?_
            show Steps p.tables e below (T31.setTop (mkF m 233 #[.val (.int fl), .val (.long li), .second, .val (.long re), .second, .val (.long rs), .second, .val (.long rt), .second, .val (.long dl), .second, .val (.int aA), .val (.int aB), .val (.int sL), .val (.int sR), .val (.int sS), .val (.int sT), .val (.long lB), .second, .val (.long rB), .second, .val (.long xB), .second, .val (.long tB), .second, .val (.ref b28), .val (.ref b30), .unset, .unset] [(.int (0 : Int32))])) t
            exact k)
          exact ⟨_, by rw [own_expd, if_pos z0, if_pos c0, if_neg c1], pre⟩
      · replace pre : Pth p e below S0 T31 (mkF m 233 #[.val (.int fl), .val (.long li), .second, .val (.long re), .second, .val (.long rs), .second, .val (.long rt), .second, .val (.long dl), .second, .val (.int aA), .val (.int aB), .val (.int sL), .val (.int sR), .val (.int sS), .val (.int sT), .val (.long lB), .second, .val (.long rB), .second, .val (.long xB), .second, .val (.long tB), .second, .val (.ref b28), .val (.ref b30), .unset, .unset] [(.int (0 : Int32))]) := fun t k => pre t (by
          show Steps p.tables e below (T31.setTop (mkF m 180 #[.val (.int fl), .val (.long li), .second, .val (.long re), .second, .val (.long rs), .second, .val (.long rt), .second, .val (.long dl), .second, .val (.int aA), .val (.int aB), .val (.int sL), .val (.int sR), .val (.int sS), .val (.int sT), .val (.long lB), .second, .val (.long rB), .second, .val (.long xB), .second, .val (.long tB), .second, .val (.ref b28), .val (.ref b30), .unset, .unset] [(.int sL)])) t
          refine XS.ifNo X31.here hx rfl (hb hby at_180) rfl (XT.i0_eq_f (fun r => c0 (Or.inl r))) ?_
          show Steps p.tables e below (T31.setTop (mkF m 183 #[.val (.int fl), .val (.long li), .second, .val (.long re), .second, .val (.long rs), .second, .val (.long rt), .second, .val (.long dl), .second, .val (.int aA), .val (.int aB), .val (.int sL), .val (.int sR), .val (.int sS), .val (.int sT), .val (.long lB), .second, .val (.long rB), .second, .val (.long xB), .second, .val (.long tB), .second, .val (.ref b28), .val (.ref b30), .unset, .unset] [])) t
          refine XS.lload X31.here hx rfl (hb hby at_183) rfl ?_
          show Steps p.tables e below (T31.setTop (mkF m 185 #[.val (.int fl), .val (.long li), .second, .val (.long re), .second, .val (.long rs), .second, .val (.long rt), .second, .val (.long dl), .second, .val (.int aA), .val (.int aB), .val (.int sL), .val (.int sR), .val (.int sS), .val (.int sT), .val (.long lB), .second, .val (.long rB), .second, .val (.long xB), .second, .val (.long tB), .second, .val (.ref b28), .val (.ref b30), .unset, .unset] [(.long dl)])) t
          refine XS.lloadN X31.here hx rfl (hb hby at_185) rfl ?_
          show Steps p.tables e below (T31.setTop (mkF m 186 #[.val (.int fl), .val (.long li), .second, .val (.long re), .second, .val (.long rs), .second, .val (.long rt), .second, .val (.long dl), .second, .val (.int aA), .val (.int aB), .val (.int sL), .val (.int sR), .val (.int sS), .val (.int sT), .val (.long lB), .second, .val (.long rB), .second, .val (.long xB), .second, .val (.long tB), .second, .val (.ref b28), .val (.ref b30), .unset, .unset] [(.long li), (.long dl)])) t
          refine XT.lcmp X31.here hx rfl (hb hby at_186) rfl ?_
          show Steps p.tables e below (T31.setTop (mkF m 187 #[.val (.int fl), .val (.long li), .second, .val (.long re), .second, .val (.long rs), .second, .val (.long rt), .second, .val (.long dl), .second, .val (.int aA), .val (.int aB), .val (.int sL), .val (.int sR), .val (.int sS), .val (.int sT), .val (.long lB), .second, .val (.long rB), .second, .val (.long xB), .second, .val (.long tB), .second, .val (.ref b28), .val (.ref b30), .unset, .unset] [(.int (XT.cmpL dl li))])) t
          refine XS.ifYes X31.here hx rfl (pc0 := 187) (pc' := 232) rfl (hb hby at_187) rfl (XT.ll_ne_t (fun r => c0 (Or.inr r))) (by decide) (by decide) ?_
          show Steps p.tables e below (T31.setTop (mkF m 232 #[.val (.int fl), .val (.long li), .second, .val (.long re), .second, .val (.long rs), .second, .val (.long rt), .second, .val (.long dl), .second, .val (.int aA), .val (.int aB), .val (.int sL), .val (.int sR), .val (.int sS), .val (.int sT), .val (.long lB), .second, .val (.long rB), .second, .val (.long xB), .second, .val (.long tB), .second, .val (.ref b28), .val (.ref b30), .unset, .unset] [])) t
          refine XS.iconst X31.here hx rfl (hb hby at_232) ?_
          show Steps p.tables e below (T31.setTop (mkF m 233 #[.val (.int fl), .val (.long li), .second, .val (.long re), .second, .val (.long rs), .second, .val (.long rt), .second, .val (.long dl), .second, .val (.int aA), .val (.int aB), .val (.int sL), .val (.int sR), .val (.int sS), .val (.int sT), .val (.long lB), .second, .val (.long rB), .second, .val (.long xB), .second, .val (.long tB), .second, .val (.ref b28), .val (.ref b30), .unset, .unset] [(.int (0 : Int32))])) t
          exact k)
        exact ⟨_, by rw [own_expd, if_pos z0, if_neg c0], pre⟩
    · replace pre : Pth p e below S0 T31 (mkF m 233 #[.val (.int fl), .val (.long li), .second, .val (.long re), .second, .val (.long rs), .second, .val (.long rt), .second, .val (.long dl), .second, .val (.int aA), .val (.int aB), .val (.int sL), .val (.int sR), .val (.int sS), .val (.int sT), .val (.long lB), .second, .val (.long rB), .second, .val (.long xB), .second, .val (.long tB), .second, .val (.ref b28), .val (.ref b30), .unset, .unset] [(.int (0 : Int32))]) := fun t k => pre t (by
        show Steps p.tables e below (T31.setTop (mkF m 175 #[.val (.int fl), .val (.long li), .second, .val (.long re), .second, .val (.long rs), .second, .val (.long rt), .second, .val (.long dl), .second, .val (.int aA), .val (.int aB), .val (.int sL), .val (.int sR), .val (.int sS), .val (.int sT), .val (.long lB), .second, .val (.long rB), .second, .val (.long xB), .second, .val (.long tB), .second, .val (.ref b28), .val (.ref b30), .unset, .unset] [(.int aB), (.int aA)])) t
        refine XS.icmpYes X31.here hx rfl (pc0 := 175) (pc' := 232) rfl (hb hby at_175) rfl (XT.ii_ne_t z0) (by decide) (by decide) ?_
        show Steps p.tables e below (T31.setTop (mkF m 232 #[.val (.int fl), .val (.long li), .second, .val (.long re), .second, .val (.long rs), .second, .val (.long rt), .second, .val (.long dl), .second, .val (.int aA), .val (.int aB), .val (.int sL), .val (.int sR), .val (.int sS), .val (.int sT), .val (.long lB), .second, .val (.long rB), .second, .val (.long xB), .second, .val (.long tB), .second, .val (.ref b28), .val (.ref b30), .unset, .unset] [])) t
        refine XS.iconst X31.here hx rfl (hb hby at_232) ?_
        show Steps p.tables e below (T31.setTop (mkF m 233 #[.val (.int fl), .val (.long li), .second, .val (.long re), .second, .val (.long rs), .second, .val (.long rt), .second, .val (.long dl), .second, .val (.int aA), .val (.int aB), .val (.int sL), .val (.int sR), .val (.int sS), .val (.int sT), .val (.long lB), .second, .val (.long rB), .second, .val (.long xB), .second, .val (.long tB), .second, .val (.ref b28), .val (.ref b30), .unset, .unset] [(.int (0 : Int32))])) t
        exact k)
      exact ⟨_, by rw [own_expd, if_neg z0], pre⟩
  replace pre : Pth p e below S0 T31 (mkF m 236 #[.val (.int fl), .val (.long li), .second, .val (.long re), .second, .val (.long rs), .second, .val (.long rt), .second, .val (.long dl), .second, .val (.int aA), .val (.int aB), .val (.int sL), .val (.int sR), .val (.int sS), .val (.int sT), .val (.long lB), .second, .val (.long rB), .second, .val (.long xB), .second, .val (.long tB), .second, .val (.ref b28), .val (.ref b30), .val (.int ex), .unset] [(.long li)]) := fun t k => pre t (by
    show Steps p.tables e below (T31.setTop (mkF m 233 #[.val (.int fl), .val (.long li), .second, .val (.long re), .second, .val (.long rs), .second, .val (.long rt), .second, .val (.long dl), .second, .val (.int aA), .val (.int aB), .val (.int sL), .val (.int sR), .val (.int sS), .val (.int sT), .val (.long lB), .second, .val (.long rB), .second, .val (.long xB), .second, .val (.long tB), .second, .val (.ref b28), .val (.ref b30), .unset, .unset] [(.int ex)])) t
    refine XS.istore X31.here hx rfl (hb hby at_233) rfl (l' := #[.val (.int fl), .val (.long li), .second, .val (.long re), .second, .val (.long rs), .second, .val (.long rt), .second, .val (.long dl), .second, .val (.int aA), .val (.int aB), .val (.int sL), .val (.int sR), .val (.int sS), .val (.int sT), .val (.long lB), .second, .val (.long rB), .second, .val (.long xB), .second, .val (.long tB), .second, .val (.ref b28), .val (.ref b30), .val (.int ex), .unset]) rfl ?_
    show Steps p.tables e below (T31.setTop (mkF m 235 #[.val (.int fl), .val (.long li), .second, .val (.long re), .second, .val (.long rs), .second, .val (.long rt), .second, .val (.long dl), .second, .val (.int aA), .val (.int aB), .val (.int sL), .val (.int sR), .val (.int sS), .val (.int sT), .val (.long lB), .second, .val (.long rB), .second, .val (.long xB), .second, .val (.long tB), .second, .val (.ref b28), .val (.ref b30), .val (.int ex), .unset] [])) t
    refine XS.lloadN X31.here hx rfl (hb hby at_235) rfl ?_
    show Steps p.tables e below (T31.setTop (mkF m 236 #[.val (.int fl), .val (.long li), .second, .val (.long re), .second, .val (.long rs), .second, .val (.long rt), .second, .val (.long dl), .second, .val (.int aA), .val (.int aB), .val (.int sL), .val (.int sR), .val (.int sS), .val (.int sT), .val (.long lB), .second, .val (.long rB), .second, .val (.long xB), .second, .val (.long tB), .second, .val (.ref b28), .val (.ref b30), .val (.int ex), .unset] [(.long li)])) t
    exact k)
  have Zc : n0 ≤ T31.heap.size := Nat.le_trans Z0 YB.1
  obtain ⟨_, _, ⟨T32, L32, k32, n32⟩, -, X32, ⟨Lc32, hQ32, l32, y32, z32⟩, st32⟩ := Jvm.LawKit.callS X31 hx (y := (⟨"java/lang/Long", "valueOf", "(J)Ljava/lang/Long;"⟩ : MethodName)) hown (mvT hZ (hw _ (List.mem_of_getElem? (i := 19) rfl))) (mvT hZ (hw _ (List.mem_of_getElem? (i := 20) rfl))) (mvT hZ (hw _ (List.mem_of_getElem? (i := 21) rfl))) (mvT hZ (hw _ (List.mem_of_getElem? (i := 22) rfl))) (by decide) (backOf (W := 0) (rm_vof l Z a0 hw [] li ca T31.heap n0 Zc (S1.ext YB) (C1.ext YB)) hZ (hw _ (List.mem_of_getElem? (i := 22) rfl)) (hw _ (List.mem_of_getElem? (i := 21) rfl)) (by decide) (by decide)) (g := (mkF m 236 #[.val (.int fl), .val (.long li), .second, .val (.long re), .second, .val (.long rs), .second, .val (.long rt), .second, .val (.long dl), .second, .val (.int aA), .val (.int aB), .val (.int sL), .val (.int sR), .val (.int sS), .val (.int sT), .val (.long lB), .second, .val (.long rB), .second, .val (.long xB), .second, .val (.long tB), .second, .val (.ref b28), .val (.ref b30), .val (.int ex), .unset] [(.long li)])) rfl (by rw [hml]; rfl) (argsL := [(.long li)]) (rest := []) (lenOf pd__J_Ljava_lang_Long_ rfl) rfl (by show 2 * 0 + _ ≤ _; exact Nat.le_of_eq rfl) (hb hby at_236) (fun _ _ => ⟨rfl, rfl, (by decide : 2 + 1 ≤ _), (by decide : 10 + 1 ≤ _)⟩)
  dsimp only [Pt.U, Pt.locs, Pt.cells, Pt.slots] at X32 l32 y32 z32 st32 hQ32
  subst l32 y32 z32
  obtain ⟨ob, rfl, N32q, E32, EO⟩ := hQ32
  have N32 := Fr.app N31 N32q
  replace pre : Pth p e below S0 T32 (mkF m 239 #[.val (.int fl), .val (.long li), .second, .val (.long re), .second, .val (.long rs), .second, .val (.long rt), .second, .val (.long dl), .second, .val (.int aA), .val (.int aB), .val (.int sL), .val (.int sR), .val (.int sS), .val (.int sT), .val (.long lB), .second, .val (.long rB), .second, .val (.long xB), .second, .val (.long tB), .second, .val (.ref b28), .val (.ref b30), .val (.int ex), .unset] [(.ref ob)]) := fun t k => pre t (st32 _ k)
  have OA2 := OA'.ext E32
  have OB2 := OB.ext E32
  replace pre : Pth p e below S0 T32 (mkF m 245 #[.val (.int fl), .val (.long li), .second, .val (.long re), .second, .val (.long rs), .second, .val (.long rt), .second, .val (.long dl), .second, .val (.int aA), .val (.int aB), .val (.int sL), .val (.int sR), .val (.int sS), .val (.int sT), .val (.long lB), .second, .val (.long rB), .second, .val (.long xB), .second, .val (.long tB), .second, .val (.ref b28), .val (.ref b30), .val (.int ex), .val (.ref ob)] [(.ref b30), (.ref b28)]) := fun t k => pre t (by
    show Steps p.tables e below (T32.setTop (mkF m 239 #[.val (.int fl), .val (.long li), .second, .val (.long re), .second, .val (.long rs), .second, .val (.long rt), .second, .val (.long dl), .second, .val (.int aA), .val (.int aB), .val (.int sL), .val (.int sR), .val (.int sS), .val (.int sT), .val (.long lB), .second, .val (.long rB), .second, .val (.long xB), .second, .val (.long tB), .second, .val (.ref b28), .val (.ref b30), .val (.int ex), .unset] [(.ref ob)])) t
    refine XS.astore X32.here hx rfl (hb hby at_239) rfl rfl (l' := #[.val (.int fl), .val (.long li), .second, .val (.long re), .second, .val (.long rs), .second, .val (.long rt), .second, .val (.long dl), .second, .val (.int aA), .val (.int aB), .val (.int sL), .val (.int sR), .val (.int sS), .val (.int sT), .val (.long lB), .second, .val (.long rB), .second, .val (.long xB), .second, .val (.long tB), .second, .val (.ref b28), .val (.ref b30), .val (.int ex), .val (.ref ob)]) rfl ?_
    show Steps p.tables e below (T32.setTop (mkF m 241 #[.val (.int fl), .val (.long li), .second, .val (.long re), .second, .val (.long rs), .second, .val (.long rt), .second, .val (.long dl), .second, .val (.int aA), .val (.int aB), .val (.int sL), .val (.int sR), .val (.int sS), .val (.int sT), .val (.long lB), .second, .val (.long rB), .second, .val (.long xB), .second, .val (.long tB), .second, .val (.ref b28), .val (.ref b30), .val (.int ex), .val (.ref ob)] [])) t
    refine XS.aload X32.here hx rfl (hb hby at_241) rfl rfl ?_
    show Steps p.tables e below (T32.setTop (mkF m 243 #[.val (.int fl), .val (.long li), .second, .val (.long re), .second, .val (.long rs), .second, .val (.long rt), .second, .val (.long dl), .second, .val (.int aA), .val (.int aB), .val (.int sL), .val (.int sR), .val (.int sS), .val (.int sT), .val (.long lB), .second, .val (.long rB), .second, .val (.long xB), .second, .val (.long tB), .second, .val (.ref b28), .val (.ref b30), .val (.int ex), .val (.ref ob)] [(.ref b28)])) t
    refine XS.aload X32.here hx rfl (hb hby at_243) rfl rfl ?_
    show Steps p.tables e below (T32.setTop (mkF m 245 #[.val (.int fl), .val (.long li), .second, .val (.long re), .second, .val (.long rs), .second, .val (.long rt), .second, .val (.long dl), .second, .val (.int aA), .val (.int aB), .val (.int sL), .val (.int sR), .val (.int sS), .val (.int sT), .val (.long lB), .second, .val (.long rB), .second, .val (.long xB), .second, .val (.long tB), .second, .val (.ref b28), .val (.ref b30), .val (.int ex), .val (.ref ob)] [(.ref b30), (.ref b28)])) t
    exact k)
  obtain ⟨cq33, kq33, q33a, q33b, q33c⟩ := isOf hZ rfl OA2.1
  obtain ⟨_, _, ⟨T33, L33, k33, n33⟩, -, X33, ⟨Lc33, hQ33, l33, y33, z33⟩, st33⟩ := X32.virtualBack hx (y := (⟨"com/example/inexact_limiter/inexactlimiter/algorithm/Decision", "equals", "(Ljava/lang/Object;)Z"⟩ : MethodName)) (z := (⟨"com/example/inexact_limiter/inexactlimiter/algorithm/Decision", "equals", "(Ljava/lang/Object;)Z"⟩ : MethodName)) hown (mvT hZ (hw _ (List.mem_of_getElem? (i := 27) rfl))) (mvT hZ (hw _ (List.mem_of_getElem? (i := 28) rfl))) (notFace_of_selects (args := #[]) (mvT hZ (hw _ (List.mem_of_getElem? (i := 30) rfl)))) (mvT hZ (hw _ (List.mem_of_getElem? (i := 30) rfl))) (mvT hZ (hw _ (List.mem_of_getElem? (i := 29) rfl))) (by decide) (backOf (W := 0) (rm_eq l Z a0 hw [] b28 b30 aA li re rs rt aB lB rB xB tB _ n0 OA2 OB2) hZ (hw _ (List.mem_of_getElem? (i := 31) rfl)) (hw _ (List.mem_of_getElem? (i := 2) rfl)) (by decide) (by decide)) q33a q33c (g := (mkF m 245 #[.val (.int fl), .val (.long li), .second, .val (.long re), .second, .val (.long rs), .second, .val (.long rt), .second, .val (.long dl), .second, .val (.int aA), .val (.int aB), .val (.int sL), .val (.int sR), .val (.int sS), .val (.int sT), .val (.long lB), .second, .val (.long rB), .second, .val (.long xB), .second, .val (.long tB), .second, .val (.ref b28), .val (.ref b30), .val (.int ex), .val (.ref ob)] [(.ref b30), (.ref b28)])) rfl (by rw [hml]; rfl) (Steps.refl _) (argsL := [(.ref b30)]) (rest := []) (lenOf pd__Ljava_lang_Object__Z rfl) rfl (by show 2 * 0 + _ ≤ _; exact Nat.le_of_eq rfl) (hb hby at_245) (fun _ _ => ⟨rfl, rfl, (by decide : 3 + 0 ≤ _), (by decide : 11 + 0 ≤ _)⟩)
  dsimp only [Pt.U, Pt.locs, Pt.cells, Pt.slots] at X33 l33 y33 z33 st33 hQ33
  subst l33 y33 z33
  obtain ⟨rfl, N33q, e33⟩ := hQ33
  have N33 := Fr.app N32 N33q
  replace pre : Pth p e below S0 T33 (mkF m 248 #[.val (.int fl), .val (.long li), .second, .val (.long re), .second, .val (.long rs), .second, .val (.long rt), .second, .val (.long dl), .second, .val (.int aA), .val (.int aB), .val (.int sL), .val (.int sR), .val (.int sS), .val (.int sT), .val (.long lB), .second, .val (.long rB), .second, .val (.long xB), .second, .val (.long tB), .second, .val (.ref b28), .val (.ref b30), .val (.int ex), .val (.ref ob)] [(.int (own_eqd aA li re rs rt aB lB rB xB tB))]) := fun t k => pre t (st33.trans k)
  replace pre : Pth p e below S0 T33 (mkF m 257 #[.val (.int fl), .val (.long li), .second, .val (.long re), .second, .val (.long rs), .second, .val (.long rt), .second, .val (.long dl), .second, .val (.int aA), .val (.int aB), .val (.int sL), .val (.int sR), .val (.int sS), .val (.int sT), .val (.long lB), .second, .val (.long rB), .second, .val (.long xB), .second, .val (.long tB), .second, .val (.ref b28), .val (.ref b30), .val (.int ex), .val (.ref ob)] [(.ref b28), (.ref b30)]) := fun t k => pre t (by
    show Steps p.tables e below (T33.setTop (mkF m 248 #[.val (.int fl), .val (.long li), .second, .val (.long re), .second, .val (.long rs), .second, .val (.long rt), .second, .val (.long dl), .second, .val (.int aA), .val (.int aB), .val (.int sL), .val (.int sR), .val (.int sS), .val (.int sT), .val (.long lB), .second, .val (.long rB), .second, .val (.long xB), .second, .val (.long tB), .second, .val (.ref b28), .val (.ref b30), .val (.int ex), .val (.ref ob)] [(.int (own_eqd aA li re rs rt aB lB rB xB tB))])) t
    refine XS.iload X33.here hx rfl (hb hby at_248) rfl ?_
    show Steps p.tables e below (T33.setTop (mkF m 250 #[.val (.int fl), .val (.long li), .second, .val (.long re), .second, .val (.long rs), .second, .val (.long rt), .second, .val (.long dl), .second, .val (.int aA), .val (.int aB), .val (.int sL), .val (.int sR), .val (.int sS), .val (.int sT), .val (.long lB), .second, .val (.long rB), .second, .val (.long xB), .second, .val (.long tB), .second, .val (.ref b28), .val (.ref b30), .val (.int ex), .val (.ref ob)] [(.int ex), (.int (own_eqd aA li re rs rt aB lB rB xB tB))])) t
    refine XS.icmpNo X33.here hx rfl (hb hby at_250) rfl (XT.ii_ne_f (by rw [hex]; exact own_same1 h_lB h_rB h_xB h_tB)) ?_
    show Steps p.tables e below (T33.setTop (mkF m 253 #[.val (.int fl), .val (.long li), .second, .val (.long re), .second, .val (.long rs), .second, .val (.long rt), .second, .val (.long dl), .second, .val (.int aA), .val (.int aB), .val (.int sL), .val (.int sR), .val (.int sS), .val (.int sT), .val (.long lB), .second, .val (.long rB), .second, .val (.long xB), .second, .val (.long tB), .second, .val (.ref b28), .val (.ref b30), .val (.int ex), .val (.ref ob)] [])) t
    refine XS.aload X33.here hx rfl (hb hby at_253) rfl rfl ?_
    show Steps p.tables e below (T33.setTop (mkF m 255 #[.val (.int fl), .val (.long li), .second, .val (.long re), .second, .val (.long rs), .second, .val (.long rt), .second, .val (.long dl), .second, .val (.int aA), .val (.int aB), .val (.int sL), .val (.int sR), .val (.int sS), .val (.int sT), .val (.long lB), .second, .val (.long rB), .second, .val (.long xB), .second, .val (.long tB), .second, .val (.ref b28), .val (.ref b30), .val (.int ex), .val (.ref ob)] [(.ref b30)])) t
    refine XS.aload X33.here hx rfl (hb hby at_255) rfl rfl ?_
    show Steps p.tables e below (T33.setTop (mkF m 257 #[.val (.int fl), .val (.long li), .second, .val (.long re), .second, .val (.long rs), .second, .val (.long rt), .second, .val (.long dl), .second, .val (.int aA), .val (.int aB), .val (.int sL), .val (.int sR), .val (.int sS), .val (.int sT), .val (.long lB), .second, .val (.long rB), .second, .val (.long xB), .second, .val (.long tB), .second, .val (.ref b28), .val (.ref b30), .val (.int ex), .val (.ref ob)] [(.ref b28), (.ref b30)])) t
    exact k)
  obtain ⟨cq34, kq34, q34a, q34b, q34c⟩ := isOf hZ e33 OB2.1
  obtain ⟨_, _, ⟨T34, L34, k34, n34⟩, -, X34, ⟨Lc34, hQ34, l34, y34, z34⟩, st34⟩ := X33.virtualBack hx (y := (⟨"com/example/inexact_limiter/inexactlimiter/algorithm/Decision", "equals", "(Ljava/lang/Object;)Z"⟩ : MethodName)) (z := (⟨"com/example/inexact_limiter/inexactlimiter/algorithm/Decision", "equals", "(Ljava/lang/Object;)Z"⟩ : MethodName)) hown (mvT hZ (hw _ (List.mem_of_getElem? (i := 27) rfl))) (mvT hZ (hw _ (List.mem_of_getElem? (i := 28) rfl))) (notFace_of_selects (args := #[]) (mvT hZ (hw _ (List.mem_of_getElem? (i := 30) rfl)))) (mvT hZ (hw _ (List.mem_of_getElem? (i := 30) rfl))) (mvT hZ (hw _ (List.mem_of_getElem? (i := 29) rfl))) (by decide) (backOf (W := 0) (rm_eq l Z a0 hw [] b30 b28 aB lB rB xB tB aA li re rs rt _ n0 OB2 OA2) hZ (hw _ (List.mem_of_getElem? (i := 31) rfl)) (hw _ (List.mem_of_getElem? (i := 2) rfl)) (by decide) (by decide)) q34a q34c (g := (mkF m 257 #[.val (.int fl), .val (.long li), .second, .val (.long re), .second, .val (.long rs), .second, .val (.long rt), .second, .val (.long dl), .second, .val (.int aA), .val (.int aB), .val (.int sL), .val (.int sR), .val (.int sS), .val (.int sT), .val (.long lB), .second, .val (.long rB), .second, .val (.long xB), .second, .val (.long tB), .second, .val (.ref b28), .val (.ref b30), .val (.int ex), .val (.ref ob)] [(.ref b28), (.ref b30)])) rfl (by rw [hml]; rfl) (Steps.refl _) (argsL := [(.ref b28)]) (rest := []) (lenOf pd__Ljava_lang_Object__Z rfl) rfl (by show 2 * 0 + _ ≤ _; exact Nat.le_of_eq rfl) (hb hby at_257) (fun _ _ => ⟨rfl, e33, (by decide : 3 + 0 ≤ _), (by decide : 11 + 0 ≤ _)⟩)
  dsimp only [Pt.U, Pt.locs, Pt.cells, Pt.slots] at X34 l34 y34 z34 st34 hQ34
  subst l34 y34 z34
  obtain ⟨rfl, N34q, e34⟩ := hQ34
  have N34 := Fr.app N33 N34q
  replace pre : Pth p e below S0 T34 (mkF m 260 #[.val (.int fl), .val (.long li), .second, .val (.long re), .second, .val (.long rs), .second, .val (.long rt), .second, .val (.long dl), .second, .val (.int aA), .val (.int aB), .val (.int sL), .val (.int sR), .val (.int sS), .val (.int sT), .val (.long lB), .second, .val (.long rB), .second, .val (.long xB), .second, .val (.long tB), .second, .val (.ref b28), .val (.ref b30), .val (.int ex), .val (.ref ob)] [(.int (own_eqd aB lB rB xB tB aA li re rs rt))]) := fun t k => pre t (st34.trans k)
  replace pre : Pth p e below S0 T34 (mkF m 269 #[.val (.int fl), .val (.long li), .second, .val (.long re), .second, .val (.long rs), .second, .val (.long rt), .second, .val (.long dl), .second, .val (.int aA), .val (.int aB), .val (.int sL), .val (.int sR), .val (.int sS), .val (.int sT), .val (.long lB), .second, .val (.long rB), .second, .val (.long xB), .second, .val (.long tB), .second, .val (.ref b28), .val (.ref b30), .val (.int ex), .val (.ref ob)] [(.ref b28), (.ref b28)]) := fun t k => pre t (by
    show Steps p.tables e below (T34.setTop (mkF m 260 #[.val (.int fl), .val (.long li), .second, .val (.long re), .second, .val (.long rs), .second, .val (.long rt), .second, .val (.long dl), .second, .val (.int aA), .val (.int aB), .val (.int sL), .val (.int sR), .val (.int sS), .val (.int sT), .val (.long lB), .second, .val (.long rB), .second, .val (.long xB), .second, .val (.long tB), .second, .val (.ref b28), .val (.ref b30), .val (.int ex), .val (.ref ob)] [(.int (own_eqd aB lB rB xB tB aA li re rs rt))])) t
    refine XS.iload X34.here hx rfl (hb hby at_260) rfl ?_
    show Steps p.tables e below (T34.setTop (mkF m 262 #[.val (.int fl), .val (.long li), .second, .val (.long re), .second, .val (.long rs), .second, .val (.long rt), .second, .val (.long dl), .second, .val (.int aA), .val (.int aB), .val (.int sL), .val (.int sR), .val (.int sS), .val (.int sT), .val (.long lB), .second, .val (.long rB), .second, .val (.long xB), .second, .val (.long tB), .second, .val (.ref b28), .val (.ref b30), .val (.int ex), .val (.ref ob)] [(.int ex), (.int (own_eqd aB lB rB xB tB aA li re rs rt))])) t
    refine XS.icmpNo X34.here hx rfl (hb hby at_262) rfl (XT.ii_ne_f (by rw [hex]; exact own_same2 h_lB h_rB h_xB h_tB)) ?_
    show Steps p.tables e below (T34.setTop (mkF m 265 #[.val (.int fl), .val (.long li), .second, .val (.long re), .second, .val (.long rs), .second, .val (.long rt), .second, .val (.long dl), .second, .val (.int aA), .val (.int aB), .val (.int sL), .val (.int sR), .val (.int sS), .val (.int sT), .val (.long lB), .second, .val (.long rB), .second, .val (.long xB), .second, .val (.long tB), .second, .val (.ref b28), .val (.ref b30), .val (.int ex), .val (.ref ob)] [])) t
    refine XS.aload X34.here hx rfl (hb hby at_265) rfl rfl ?_
    show Steps p.tables e below (T34.setTop (mkF m 267 #[.val (.int fl), .val (.long li), .second, .val (.long re), .second, .val (.long rs), .second, .val (.long rt), .second, .val (.long dl), .second, .val (.int aA), .val (.int aB), .val (.int sL), .val (.int sR), .val (.int sS), .val (.int sT), .val (.long lB), .second, .val (.long rB), .second, .val (.long xB), .second, .val (.long tB), .second, .val (.ref b28), .val (.ref b30), .val (.int ex), .val (.ref ob)] [(.ref b28)])) t
    refine XS.aload X34.here hx rfl (hb hby at_267) rfl rfl ?_
    show Steps p.tables e below (T34.setTop (mkF m 269 #[.val (.int fl), .val (.long li), .second, .val (.long re), .second, .val (.long rs), .second, .val (.long rt), .second, .val (.long dl), .second, .val (.int aA), .val (.int aB), .val (.int sL), .val (.int sR), .val (.int sS), .val (.int sT), .val (.long lB), .second, .val (.long rB), .second, .val (.long xB), .second, .val (.long tB), .second, .val (.ref b28), .val (.ref b30), .val (.int ex), .val (.ref ob)] [(.ref b28), (.ref b28)])) t
    exact k)
  obtain ⟨cq35, kq35, q35a, q35b, q35c⟩ := isOf hZ e34 OA2.1
  obtain ⟨_, _, ⟨T35, L35, k35, n35⟩, -, X35, ⟨Lc35, hQ35, l35, y35, z35⟩, st35⟩ := X34.virtualBack hx (y := (⟨"com/example/inexact_limiter/inexactlimiter/algorithm/Decision", "equals", "(Ljava/lang/Object;)Z"⟩ : MethodName)) (z := (⟨"com/example/inexact_limiter/inexactlimiter/algorithm/Decision", "equals", "(Ljava/lang/Object;)Z"⟩ : MethodName)) hown (mvT hZ (hw _ (List.mem_of_getElem? (i := 27) rfl))) (mvT hZ (hw _ (List.mem_of_getElem? (i := 28) rfl))) (notFace_of_selects (args := #[]) (mvT hZ (hw _ (List.mem_of_getElem? (i := 30) rfl)))) (mvT hZ (hw _ (List.mem_of_getElem? (i := 30) rfl))) (mvT hZ (hw _ (List.mem_of_getElem? (i := 29) rfl))) (by decide) (backOf (W := 0) (rm_eq l Z a0 hw [] b28 b28 aA li re rs rt aA li re rs rt _ n0 OA2 OA2) hZ (hw _ (List.mem_of_getElem? (i := 31) rfl)) (hw _ (List.mem_of_getElem? (i := 2) rfl)) (by decide) (by decide)) q35a q35c (g := (mkF m 269 #[.val (.int fl), .val (.long li), .second, .val (.long re), .second, .val (.long rs), .second, .val (.long rt), .second, .val (.long dl), .second, .val (.int aA), .val (.int aB), .val (.int sL), .val (.int sR), .val (.int sS), .val (.int sT), .val (.long lB), .second, .val (.long rB), .second, .val (.long xB), .second, .val (.long tB), .second, .val (.ref b28), .val (.ref b30), .val (.int ex), .val (.ref ob)] [(.ref b28), (.ref b28)])) rfl (by rw [hml]; rfl) (Steps.refl _) (argsL := [(.ref b28)]) (rest := []) (lenOf pd__Ljava_lang_Object__Z rfl) rfl (by show 2 * 0 + _ ≤ _; exact Nat.le_of_eq rfl) (hb hby at_269) (fun _ _ => ⟨rfl, e34, (by decide : 3 + 0 ≤ _), (by decide : 11 + 0 ≤ _)⟩)
  dsimp only [Pt.U, Pt.locs, Pt.cells, Pt.slots] at X35 l35 y35 z35 st35 hQ35
  subst l35 y35 z35
  obtain ⟨rfl, N35q, e35⟩ := hQ35
  have N35 := Fr.app N34 N35q
  replace pre : Pth p e below S0 T35 (mkF m 272 #[.val (.int fl), .val (.long li), .second, .val (.long re), .second, .val (.long rs), .second, .val (.long rt), .second, .val (.long dl), .second, .val (.int aA), .val (.int aB), .val (.int sL), .val (.int sR), .val (.int sS), .val (.int sT), .val (.long lB), .second, .val (.long rB), .second, .val (.long xB), .second, .val (.long tB), .second, .val (.ref b28), .val (.ref b30), .val (.int ex), .val (.ref ob)] [(.int (own_eqd aA li re rs rt aA li re rs rt))]) := fun t k => pre t (st35.trans k)
  replace pre : Pth p e below S0 T35 (mkF m 278 #[.val (.int fl), .val (.long li), .second, .val (.long re), .second, .val (.long rs), .second, .val (.long rt), .second, .val (.long dl), .second, .val (.int aA), .val (.int aB), .val (.int sL), .val (.int sR), .val (.int sS), .val (.int sT), .val (.long lB), .second, .val (.long rB), .second, .val (.long xB), .second, .val (.long tB), .second, .val (.ref b28), .val (.ref b30), .val (.int ex), .val (.ref ob)] [.null, (.ref b28)]) := fun t k => pre t (by
    show Steps p.tables e below (T35.setTop (mkF m 272 #[.val (.int fl), .val (.long li), .second, .val (.long re), .second, .val (.long rs), .second, .val (.long rt), .second, .val (.long dl), .second, .val (.int aA), .val (.int aB), .val (.int sL), .val (.int sR), .val (.int sS), .val (.int sT), .val (.long lB), .second, .val (.long rB), .second, .val (.long xB), .second, .val (.long tB), .second, .val (.ref b28), .val (.ref b30), .val (.int ex), .val (.ref ob)] [(.int (own_eqd aA li re rs rt aA li re rs rt))])) t
    refine XS.ifNo X35.here hx rfl (hb hby at_272) rfl (XT.i0_eq_f (by rw [own_refl]; decide)) ?_
    show Steps p.tables e below (T35.setTop (mkF m 275 #[.val (.int fl), .val (.long li), .second, .val (.long re), .second, .val (.long rs), .second, .val (.long rt), .second, .val (.long dl), .second, .val (.int aA), .val (.int aB), .val (.int sL), .val (.int sR), .val (.int sS), .val (.int sT), .val (.long lB), .second, .val (.long rB), .second, .val (.long xB), .second, .val (.long tB), .second, .val (.ref b28), .val (.ref b30), .val (.int ex), .val (.ref ob)] [])) t
    refine XS.aload X35.here hx rfl (hb hby at_275) rfl rfl ?_
    show Steps p.tables e below (T35.setTop (mkF m 277 #[.val (.int fl), .val (.long li), .second, .val (.long re), .second, .val (.long rs), .second, .val (.long rt), .second, .val (.long dl), .second, .val (.int aA), .val (.int aB), .val (.int sL), .val (.int sR), .val (.int sS), .val (.int sT), .val (.long lB), .second, .val (.long rB), .second, .val (.long xB), .second, .val (.long tB), .second, .val (.ref b28), .val (.ref b30), .val (.int ex), .val (.ref ob)] [(.ref b28)])) t
    refine XS.aconstNull X35.here hx rfl (hb hby at_277) ?_
    show Steps p.tables e below (T35.setTop (mkF m 278 #[.val (.int fl), .val (.long li), .second, .val (.long re), .second, .val (.long rs), .second, .val (.long rt), .second, .val (.long dl), .second, .val (.int aA), .val (.int aB), .val (.int sL), .val (.int sR), .val (.int sS), .val (.int sT), .val (.long lB), .second, .val (.long rB), .second, .val (.long xB), .second, .val (.long tB), .second, .val (.ref b28), .val (.ref b30), .val (.int ex), .val (.ref ob)] [.null, (.ref b28)])) t
    exact k)
  obtain ⟨cq36, kq36, q36a, q36b, q36c⟩ := isOf hZ e35 OA2.1
  obtain ⟨_, _, ⟨T36, L36, k36, n36⟩, -, X36, ⟨Lc36, hQ36, l36, y36, z36⟩, st36⟩ := X35.virtualBack hx (y := (⟨"com/example/inexact_limiter/inexactlimiter/algorithm/Decision", "equals", "(Ljava/lang/Object;)Z"⟩ : MethodName)) (z := (⟨"com/example/inexact_limiter/inexactlimiter/algorithm/Decision", "equals", "(Ljava/lang/Object;)Z"⟩ : MethodName)) hown (mvT hZ (hw _ (List.mem_of_getElem? (i := 27) rfl))) (mvT hZ (hw _ (List.mem_of_getElem? (i := 28) rfl))) (notFace_of_selects (args := #[]) (mvT hZ (hw _ (List.mem_of_getElem? (i := 30) rfl)))) (mvT hZ (hw _ (List.mem_of_getElem? (i := 30) rfl))) (mvT hZ (hw _ (List.mem_of_getElem? (i := 29) rfl))) (by decide) (backOf (W := 0) (rm_eqn l Z a0 hw [] b28 _ n0) hZ (hw _ (List.mem_of_getElem? (i := 31) rfl)) (hw _ (List.mem_of_getElem? (i := 2) rfl)) (by decide) (by decide)) q36a q36c (g := (mkF m 278 #[.val (.int fl), .val (.long li), .second, .val (.long re), .second, .val (.long rs), .second, .val (.long rt), .second, .val (.long dl), .second, .val (.int aA), .val (.int aB), .val (.int sL), .val (.int sR), .val (.int sS), .val (.int sT), .val (.long lB), .second, .val (.long rB), .second, .val (.long xB), .second, .val (.long tB), .second, .val (.ref b28), .val (.ref b30), .val (.int ex), .val (.ref ob)] [.null, (.ref b28)])) rfl (by rw [hml]; rfl) (Steps.refl _) (argsL := [.null]) (rest := []) (lenOf pd__Ljava_lang_Object__Z rfl) rfl (by show 2 * 0 + _ ≤ _; exact Nat.le_of_eq rfl) (hb hby at_278) (fun _ _ => ⟨rfl, e35, (by decide : 3 + 0 ≤ _), (by decide : 11 + 0 ≤ _)⟩)
  dsimp only [Pt.U, Pt.locs, Pt.cells, Pt.slots] at X36 l36 y36 z36 st36 hQ36
  subst l36 y36 z36
  obtain ⟨rfl, N36q, e36⟩ := hQ36
  have N36 := Fr.app N35 N36q
  replace pre : Pth p e below S0 T36 (mkF m 281 #[.val (.int fl), .val (.long li), .second, .val (.long re), .second, .val (.long rs), .second, .val (.long rt), .second, .val (.long dl), .second, .val (.int aA), .val (.int aB), .val (.int sL), .val (.int sR), .val (.int sS), .val (.int sT), .val (.long lB), .second, .val (.long rB), .second, .val (.long xB), .second, .val (.long tB), .second, .val (.ref b28), .val (.ref b30), .val (.int ex), .val (.ref ob)] [(.int (0 : Int32))]) := fun t k => pre t (st36.trans k)
  replace pre : Pth p e below S0 T36 (mkF m 288 #[.val (.int fl), .val (.long li), .second, .val (.long re), .second, .val (.long rs), .second, .val (.long rt), .second, .val (.long dl), .second, .val (.int aA), .val (.int aB), .val (.int sL), .val (.int sR), .val (.int sS), .val (.int sT), .val (.long lB), .second, .val (.long rB), .second, .val (.long xB), .second, .val (.long tB), .second, .val (.ref b28), .val (.ref b30), .val (.int ex), .val (.ref ob)] [(.ref ob), (.ref b28)]) := fun t k => pre t (by
    show Steps p.tables e below (T36.setTop (mkF m 281 #[.val (.int fl), .val (.long li), .second, .val (.long re), .second, .val (.long rs), .second, .val (.long rt), .second, .val (.long dl), .second, .val (.int aA), .val (.int aB), .val (.int sL), .val (.int sR), .val (.int sS), .val (.int sT), .val (.long lB), .second, .val (.long rB), .second, .val (.long xB), .second, .val (.long tB), .second, .val (.ref b28), .val (.ref b30), .val (.int ex), .val (.ref ob)] [(.int (0 : Int32))])) t
    refine XS.ifNo X36.here hx rfl (hb hby at_281) rfl (XT.i0_ne_f rfl) ?_
    show Steps p.tables e below (T36.setTop (mkF m 284 #[.val (.int fl), .val (.long li), .second, .val (.long re), .second, .val (.long rs), .second, .val (.long rt), .second, .val (.long dl), .second, .val (.int aA), .val (.int aB), .val (.int sL), .val (.int sR), .val (.int sS), .val (.int sT), .val (.long lB), .second, .val (.long rB), .second, .val (.long xB), .second, .val (.long tB), .second, .val (.ref b28), .val (.ref b30), .val (.int ex), .val (.ref ob)] [])) t
    refine XS.aload X36.here hx rfl (hb hby at_284) rfl rfl ?_
    show Steps p.tables e below (T36.setTop (mkF m 286 #[.val (.int fl), .val (.long li), .second, .val (.long re), .second, .val (.long rs), .second, .val (.long rt), .second, .val (.long dl), .second, .val (.int aA), .val (.int aB), .val (.int sL), .val (.int sR), .val (.int sS), .val (.int sT), .val (.long lB), .second, .val (.long rB), .second, .val (.long xB), .second, .val (.long tB), .second, .val (.ref b28), .val (.ref b30), .val (.int ex), .val (.ref ob)] [(.ref b28)])) t
    refine XS.aload X36.here hx rfl (hb hby at_286) rfl rfl ?_
    show Steps p.tables e below (T36.setTop (mkF m 288 #[.val (.int fl), .val (.long li), .second, .val (.long re), .second, .val (.long rs), .second, .val (.long rt), .second, .val (.long dl), .second, .val (.int aA), .val (.int aB), .val (.int sL), .val (.int sR), .val (.int sS), .val (.int sT), .val (.long lB), .second, .val (.long rB), .second, .val (.long xB), .second, .val (.long tB), .second, .val (.ref b28), .val (.ref b30), .val (.int ex), .val (.ref ob)] [(.ref ob), (.ref b28)])) t
    exact k)
  obtain ⟨cq37, kq37, q37a, q37b, q37c⟩ := isOf hZ e36 OA2.1
  obtain ⟨_, _, ⟨T37, L37, k37, n37⟩, -, X37, ⟨Lc37, hQ37, l37, y37, z37⟩, st37⟩ := X36.virtualBack hx (y := (⟨"com/example/inexact_limiter/inexactlimiter/algorithm/Decision", "equals", "(Ljava/lang/Object;)Z"⟩ : MethodName)) (z := (⟨"com/example/inexact_limiter/inexactlimiter/algorithm/Decision", "equals", "(Ljava/lang/Object;)Z"⟩ : MethodName)) hown (mvT hZ (hw _ (List.mem_of_getElem? (i := 27) rfl))) (mvT hZ (hw _ (List.mem_of_getElem? (i := 28) rfl))) (notFace_of_selects (args := #[]) (mvT hZ (hw _ (List.mem_of_getElem? (i := 30) rfl)))) (mvT hZ (hw _ (List.mem_of_getElem? (i := 30) rfl))) (mvT hZ (hw _ (List.mem_of_getElem? (i := 29) rfl))) (by decide) (backOf (W := 0) (rm_eql l Z a0 hw [] b28 ob _ n0 EO) hZ (hw _ (List.mem_of_getElem? (i := 31) rfl)) (hw _ (List.mem_of_getElem? (i := 2) rfl)) (by decide) (by decide)) q37a q37c (g := (mkF m 288 #[.val (.int fl), .val (.long li), .second, .val (.long re), .second, .val (.long rs), .second, .val (.long rt), .second, .val (.long dl), .second, .val (.int aA), .val (.int aB), .val (.int sL), .val (.int sR), .val (.int sS), .val (.int sT), .val (.long lB), .second, .val (.long rB), .second, .val (.long xB), .second, .val (.long tB), .second, .val (.ref b28), .val (.ref b30), .val (.int ex), .val (.ref ob)] [(.ref ob), (.ref b28)])) rfl (by rw [hml]; rfl) (Steps.refl _) (argsL := [(.ref ob)]) (rest := []) (lenOf pd__Ljava_lang_Object__Z rfl) rfl (by show 2 * 0 + _ ≤ _; exact Nat.le_of_eq rfl) (hb hby at_288) (fun _ _ => ⟨rfl, e36, (by decide : 3 + 0 ≤ _), (by decide : 11 + 0 ≤ _)⟩)
  dsimp only [Pt.U, Pt.locs, Pt.cells, Pt.slots] at X37 l37 y37 z37 st37 hQ37
  subst l37 y37 z37
  obtain ⟨rfl, N37q, e37⟩ := hQ37
  have N37 := Fr.app N36 N37q
  replace pre : Pth p e below S0 T37 (mkF m 291 #[.val (.int fl), .val (.long li), .second, .val (.long re), .second, .val (.long rs), .second, .val (.long rt), .second, .val (.long dl), .second, .val (.int aA), .val (.int aB), .val (.int sL), .val (.int sR), .val (.int sS), .val (.int sT), .val (.long lB), .second, .val (.long rB), .second, .val (.long xB), .second, .val (.long tB), .second, .val (.ref b28), .val (.ref b30), .val (.int ex), .val (.ref ob)] [(.int (0 : Int32))]) := fun t k => pre t (st37.trans k)
  replace pre : Pth p e below S0 T37 (mkF m 299 #[.val (.int fl), .val (.long li), .second, .val (.long re), .second, .val (.long rs), .second, .val (.long rt), .second, .val (.long dl), .second, .val (.int aA), .val (.int aB), .val (.int sL), .val (.int sR), .val (.int sS), .val (.int sT), .val (.long lB), .second, .val (.long rB), .second, .val (.long xB), .second, .val (.long tB), .second, .val (.ref b28), .val (.ref b30), .val (.int ex), .val (.ref ob)] [(.int (1 : Int32))]) := fun t k => pre t (by
    show Steps p.tables e below (T37.setTop (mkF m 291 #[.val (.int fl), .val (.long li), .second, .val (.long re), .second, .val (.long rs), .second, .val (.long rt), .second, .val (.long dl), .second, .val (.int aA), .val (.int aB), .val (.int sL), .val (.int sR), .val (.int sS), .val (.int sT), .val (.long lB), .second, .val (.long rB), .second, .val (.long xB), .second, .val (.long tB), .second, .val (.ref b28), .val (.ref b30), .val (.int ex), .val (.ref ob)] [(.int (0 : Int32))])) t
    refine XS.ifNo X37.here hx rfl (hb hby at_291) rfl (XT.i0_ne_f rfl) ?_
    show Steps p.tables e below (T37.setTop (mkF m 294 #[.val (.int fl), .val (.long li), .second, .val (.long re), .second, .val (.long rs), .second, .val (.long rt), .second, .val (.long dl), .second, .val (.int aA), .val (.int aB), .val (.int sL), .val (.int sR), .val (.int sS), .val (.int sT), .val (.long lB), .second, .val (.long rB), .second, .val (.long xB), .second, .val (.long tB), .second, .val (.ref b28), .val (.ref b30), .val (.int ex), .val (.ref ob)] [])) t
    refine XS.iconst X37.here hx rfl (hb hby at_294) ?_
    show Steps p.tables e below (T37.setTop (mkF m 295 #[.val (.int fl), .val (.long li), .second, .val (.long re), .second, .val (.long rs), .second, .val (.long rt), .second, .val (.long dl), .second, .val (.int aA), .val (.int aB), .val (.int sL), .val (.int sR), .val (.int sS), .val (.int sT), .val (.long lB), .second, .val (.long rB), .second, .val (.long xB), .second, .val (.long tB), .second, .val (.ref b28), .val (.ref b30), .val (.int ex), .val (.ref ob)] [(.int (1 : Int32))])) t
    refine XS.goto X37.here hx rfl (pc0 := 295) (pc' := 299) rfl (hb hby at_295) (by decide) (by decide) ?_
    show Steps p.tables e below (T37.setTop (mkF m 299 #[.val (.int fl), .val (.long li), .second, .val (.long re), .second, .val (.long rs), .second, .val (.long rt), .second, .val (.long dl), .second, .val (.int aA), .val (.int aB), .val (.int sL), .val (.int sR), .val (.int sS), .val (.int sT), .val (.long lB), .second, .val (.long rB), .second, .val (.long xB), .second, .val (.long tB), .second, .val (.ref b28), .val (.ref b30), .val (.int ex), .val (.ref ob)] [(.int (1 : Int32))])) t
    exact k)
  obtain ⟨fs, hr, hrun, hended, hW, hsame⟩ := X37.leave (v := some (.int (1 : Int32))) (fun h => by rw [Bd.returns] at h; cases h)
  subst hS0
  refine ⟨_, _, pre _ ?_, hrun, hended, _, _, rfl, ?_, ⟨_, rfl⟩, hW, hsame.mono (by decide) (by decide)⟩
  · exact retN X37 hx (t := .boolean) Bd.returns (by simp) (hb hby at_299) hr
  · show Q_law Z fl li re rs rt dl ca h0 n0 _ T37.heap _
    rw [e37]
    exact ⟨rfl, N37⟩
set_option maxRecDepth 65536 in
set_option maxHeartbeats 40000000 in
theorem comes_1 {Post : Tables → Env → Array Value → State → Outcome → State → Prop} (hpost : ∀ tb e args s v u, (limb_1_1.after args s (.returned v) u = true ∧ limb_1_2.after args s (.returned v) u = true ∧ True) → FrameEnd s (.returned v) u (Jvm.fieldLocs frame_1_writes args s ++ Jvm.arrayLocs frame_1_arrays args s ++ Jvm.staticLocs frame_1_statics s) 16 128 → Post tb e args s (.returned v) u) :
    ArmFor flags0 classFile x code maxLocals ret World_1 tables_1 room_1 Calls_1 rest_1 Pre_1 Post := by
  intro l hfl _ _ p e ha hc hk s m args below hf hA hF happ hP
  obtain ⟨hcalls, hrest, hpre⟩ := hP
  obtain ⟨-, -, -, hnamed, -, -, -, hat⟩ := (Spec.applies_iff hf).mp happ
  obtain ⟨hg, hn⟩ := and_e (Cond.before_iff.mp (show (Jvm.Cond.and given_1 narrow_1).before args s = true from hpre))
  obtain ⟨gv1a, gv1b⟩ := and_e hg
  obtain ⟨gv2a, gv2b⟩ := and_e gv1b
  obtain ⟨gv3a, gv3b⟩ := and_e gv2b
  obtain ⟨gv4a, gv4b⟩ := and_e gv3b
  obtain ⟨gv5a, gv5b⟩ := and_e gv4b
  obtain ⟨gv6a, gv6b⟩ := and_e gv5b
  obtain ⟨w0, w1, w2, w3, w4, w5, rfl⟩ : ∃ w0 w1 w2 w3 w4 w5 : Value, args = #[w0, w1, w2, w3, w4, w5] := by
    have hs : args.size = 6 := by simpa [Cond.value, given_1] using gv1a
    obtain ⟨L⟩ := args
    match L, hs with
    | [w0, w1, w2, w3, w4, w5], _ => exact ⟨w0, w1, w2, w3, w4, w5, rfl⟩
  have hw := fun d (hd : d ∈ tables_1) => atoms_spec (ws := Jvm.Cond.code x code maxLocals ret :: tables_1) hat d (List.mem_cons_of_mem _ hd)
  have hfit : Fit s := fun {y c} hc i hi => by
    obtain ⟨ha, rfl⟩ := Array.getElem?_eq_some_iff.mp hc
    have q := List.all_eq_true.mp ((Array.all_eq_true_iff_forall_mem.mp hF) _ (Array.getElem_mem ha)) i (List.mem_range.mpr hi)
    simpa [Array.getElem?_eq_getElem hi] using q
  obtain ⟨hsets, hown0⟩ := atoms_of _ (rest_1_c_eq ▸ (show rest_1_c.before _ s = true from hrest))
  have hr0 := Cond.before_iff.mp hown0
  obtain ⟨i0, ei0⟩ := is_v gv2a
  obtain rfl : w0 = (.int i0) := Option.some.inj ei0
  obtain ⟨i1, ei1⟩ := isL_v gv3a
  obtain rfl : w1 = (.long i1) := Option.some.inj ei1
  obtain ⟨i2, ei2⟩ := isL_v gv4a
  obtain rfl : w2 = (.long i2) := Option.some.inj ei2
  obtain ⟨i3, ei3⟩ := isL_v gv5a
  obtain rfl : w3 = (.long i3) := Option.some.inj ei3
  obtain ⟨i4, ei4⟩ := isL_v gv6a
  obtain rfl : w4 = (.long i4) := Option.some.inj ei4
  obtain ⟨i5, ei5⟩ := isL_v gv6b
  obtain rfl : w5 = (.long i5) := Option.some.inj ei5
  have hS (k : Nat) (d : Jvm.Cond) (hk : jdkStatics_1[k]? = some d) : d.before _ s = true := hsets _ (List.mem_of_getElem? hk)
  have cx := hS 3 _ rfl
  obtain ⟨ca, evc⟩ := exa_v (Cond.before_iff.mp cx)
  have S1 := Sta.start evc (Or.inl (hS 1 _ rfl))
  have C1 : OCache s s.heap ca := own_cache evc (Cond.before_iff.mp (hS 2 _ rfl)) (Cond.before_iff.mp (hS 4 _ rfl)) (Cond.before_iff.mp (hS 5 _ rfl))
  obtain ⟨n, o, h1, h2, h3, _, L, rfl, ⟨rfl, N⟩, hq⟩ := rm_law l s _ hw tables_1 i0 i1 i2 i3 i4 i5 ca s.heap s.heap.size (Nat.le_refl _) S1 C1 p e ha hc hk s m _ below hf ((Spec.applies_iff_loose hf).mp happ).1 ⟨rfl, State.Warmed39.refl s, rfl⟩ trivial
  refine ⟨n, _, h1, h2, h3, hpost _ _ _ _ _ _ ⟨Cond.after_iff.mpr rfl, Cond.after_iff.mpr (eq_i res_at (Term.int_eval (1)) rfl), trivial⟩ ⟨hq.1, hq.2.1, (hq.2.2.sift fun y hy => Or.inr (N y hy)).mono (by decide) (by decide)⟩⟩
theorem main_1_1 : Claimed_1_1 := comes_1 fun _ _ _ _ _ _ h hF => ⟨h.1, hF⟩
theorem main_1_2 : Claimed_1_2 := comes_1 fun _ _ _ _ _ _ h hF => ⟨h.2.1, hF⟩
end Jvm.Pilot.@@N@@
namespace Jvm.Pilot.@@N@@
open Jvm Jvm.ClassFile Sem Op Lib Jvm.Free Jvm.Stand Jvm.Pilot.@@N@@.Jvm.D
/-! MADE BY PROGRAM (witnessworld.py) out of the Statement's table words and the real class files: 16 classes; the members and pool entries that the words name. The judged class is class 1, her method 1. -/
namespace start1
open Jvm.ClassFile
def u (s : String) : CpInfo := .utf8 (stringToUtf16 s)
/-- a pool by its gaps: so many unusable entries, then the entry; so many at the end -/
def gap : Nat → List CpInfo → List CpInfo
  | 0, r => r
  | n + 1, r => .unusable :: gap n r
def poolList (es : List (Nat × CpInfo)) (last : Nat) : List CpInfo := es.foldr (fun e r => gap e.1 (e.2 :: r)) (gap last [])
def pool (es : List (Nat × CpInfo)) (last : Nat) : Array CpInfo := ⟨poolList es last⟩
def fileOf (pool : Array CpInfo) (this : Nat) (attrs : Array Attribute := #[]) (ms : Array MethodInfo := #[]) (fl : Nat := 33) (sup : Nat := 0) (ifs : Array Nat := #[]) (fds : Array FieldInfo := #[]) : ClassFile where
  minorVersion := 0
  majorVersion := 65
  constantPool := pool
  accessFlags := fl
  thisClass := this
  superClass := sup
  interfaces := ifs
  fields := fds
  methods := ms
  attributes := attrs
def plain (name : String) (sup : Option ClassId) : Class where
  name := name
  kind := .ordinary
  loader := none
  accessFlags := 33
  super := sup
  interfaces := #[]
  cf := none
  fields := #[]
  methods := #[]
  instanceTypes := #[]
  staticTypes := #[]
  resolved := #[]
  callSites := []
  init := .initialized
  statics := none
  mirror := none

def pool0 : Array CpInfo := pool [(5, u "<init>"), (0, u "()V"), (1, .class_ 10), (1, u "java/lang/Object")] 113

def k0c0 : Code := { maxStack := 0, maxLocals := 1, code := object_method_1_code, exceptionTable := #[], attributes := #[] }
def k0m0 : Method := { name := "<init>", desc := "()V", sig := { parameters := [], returnType := none }, accessFlags := 1, code := some k0c0 }
/-- java/lang/Object -/
def k0 : Class := { plain "java/lang/Object" none with
  accessFlags := 33
  interfaces := #[]
  cf := some (fileOf pool0 8 #[] #[{ accessFlags := 1, nameIndex := 5, descriptorIndex := 6, attributes := #[] }] 33 0 #[] #[])
  fields := #[]
  methods := #[k0m0]
  instanceTypes := #[]
  staticTypes := #[]
  resolved := Array.replicate 124 none
  statics := none }

def pool1 : Array CpInfo := pool [(2, .class_ 4), (1, u "java/lang/Object"), (0, u "<init>"), (0, u "()V"), (0, .class_ 8), (0, u "com/example/inexact_limiter/inexactlimiter/algorithm/Decision"), (0, .methodref 7 10), (0, .nameAndType 5 11), (0, u "(ZJJJJ)V"), (0, .methodref 13 14), (0, .class_ 15), (0, .nameAndType 16 17), (0, u "java/lang/Long"), (0, u "valueOf"), (0, u "(J)Ljava/lang/Long;"), (0, .methodref 7 19), (0, .nameAndType 20 21), (0, u "equals"), (0, u "(Ljava/lang/Object;)Z"), (0, .class_ 23), (0, u "com/example/inexact_limiter/inexactlimiter/algorithm/DecisionEqualsPinLaw"), (2, u "law"), (0, u "(IJJJJJ)Z")] 3

def k1m0 : Method := { name := "<init>", desc := "()V", sig := { parameters := [], returnType := none }, accessFlags := 1, code := none }
def k1c1 : Code := { maxStack := 11, maxLocals := 29, code := code, exceptionTable := #[], attributes := #[] }
def k1m1 : Method := { name := "law", desc := "(IJJJJJ)Z", sig := { parameters := [.int, .long, .long, .long, .long, .long], returnType := some .boolean }, accessFlags := 9, code := some k1c1 }
/-- com/example/inexact_limiter/inexactlimiter/algorithm/DecisionEqualsPinLaw -/
def k1 : Class := { plain "com/example/inexact_limiter/inexactlimiter/algorithm/DecisionEqualsPinLaw" (some 0) with
  accessFlags := 49
  interfaces := #[]
  cf := some (fileOf pool1 22 #[] #[{ accessFlags := 1, nameIndex := 5, descriptorIndex := 6, attributes := #[] }, { accessFlags := 9, nameIndex := 26, descriptorIndex := 27, attributes := #[] }] 49 2 #[] #[])
  fields := #[]
  methods := #[k1m0, k1m1]
  instanceTypes := #[]
  staticTypes := #[]
  resolved := Array.replicate 31 none
  statics := none }

def pool2 : Array CpInfo := pool [(3, .methodref 4 5), (0, .class_ 6), (0, .nameAndType 7 8), (0, u "java/lang/Object"), (0, u "<init>"), (0, u "()V"), (0, .fieldref 10 11), (0, .class_ 12), (0, .nameAndType 13 14), (0, u "com/example/inexact_limiter/inexactlimiter/algorithm/Decision"), (0, u "allowed"), (0, u "Z"), (0, .fieldref 10 16), (0, .nameAndType 17 18), (0, u "limit"), (0, u "J"), (0, .fieldref 10 20), (0, .nameAndType 21 18), (0, u "remaining"), (0, .fieldref 10 23), (0, .nameAndType 24 18), (0, u "resetMicros"), (0, .fieldref 10 26), (0, .nameAndType 27 18), (0, u "retryAfterMicros"), (13, u "NEVER"), (3, u "(ZJJJJ)V"), (4, u "equals"), (0, u "(Ljava/lang/Object;)Z")] 21

def k2c0 : Code := { maxStack := 3, maxLocals := 10, code := prog_1_method_1_code, exceptionTable := #[], attributes := #[] }
def k2m0 : Method := { name := "<init>", desc := "(ZJJJJ)V", sig := { parameters := [.boolean, .long, .long, .long, .long], returnType := none }, accessFlags := 1, code := some k2c0 }
def k2c1 : Code := { maxStack := 4, maxLocals := 3, code := prog_1_method_7_code, exceptionTable := #[], attributes := #[] }
def k2m1 : Method := { name := "equals", desc := "(Ljava/lang/Object;)Z", sig := { parameters := [(.object "java/lang/Object")], returnType := some .boolean }, accessFlags := 1, code := some k2c1 }
/-- com/example/inexact_limiter/inexactlimiter/algorithm/Decision -/
def k2 : Class := { plain "com/example/inexact_limiter/inexactlimiter/algorithm/Decision" (some 0) with
  accessFlags := 49
  interfaces := #[]
  cf := some (fileOf pool2 10 #[] #[{ accessFlags := 1, nameIndex := 7, descriptorIndex := 45, attributes := #[] }, { accessFlags := 1, nameIndex := 50, descriptorIndex := 51, attributes := #[] }] 49 4 #[] #[{ accessFlags := 25, nameIndex := 41, descriptorIndex := 18, attributes := #[] }, { accessFlags := 18, nameIndex := 13, descriptorIndex := 14, attributes := #[] }, { accessFlags := 18, nameIndex := 17, descriptorIndex := 18, attributes := #[] }, { accessFlags := 18, nameIndex := 21, descriptorIndex := 18, attributes := #[] }, { accessFlags := 18, nameIndex := 24, descriptorIndex := 18, attributes := #[] }, { accessFlags := 18, nameIndex := 27, descriptorIndex := 18, attributes := #[] }])
  fields := #[{ name := "NEVER", type := .long, accessFlags := 25, slot := 0, constantValue := 0 }, { name := "allowed", type := .boolean, accessFlags := 18, slot := 0, constantValue := 0 }, { name := "limit", type := .long, accessFlags := 18, slot := 1, constantValue := 0 }, { name := "remaining", type := .long, accessFlags := 18, slot := 2, constantValue := 0 }, { name := "resetMicros", type := .long, accessFlags := 18, slot := 3, constantValue := 0 }, { name := "retryAfterMicros", type := .long, accessFlags := 18, slot := 4, constantValue := 0 }]
  methods := #[k2m0, k2m1]
  instanceTypes := #[.boolean, .long, .long, .long, .long]
  staticTypes := #[.long]
  resolved := Array.replicate 73 none
  statics := none }

def pool3 : Array CpInfo := pool [(1, .class_ 2), (0, u "java/io/Serializable"), (0, .class_ 4), (0, u "java/lang/Object")] 2

/-- java/io/Serializable -/
def k3 : Class := { plain "java/io/Serializable" (some 0) with
  accessFlags := 1537
  interfaces := #[]
  cf := some (fileOf pool3 1 #[] #[] 1537 3 #[] #[])
  fields := #[]
  methods := #[]
  instanceTypes := #[]
  staticTypes := #[]
  resolved := Array.replicate 7 none
  statics := none }

def pool4 : Array CpInfo := pool [(1, .methodref 2 3), (0, .class_ 4), (0, .nameAndType 5 6), (0, u "java/lang/Object"), (0, u "<init>"), (0, u "()V"), (1, .class_ 10), (1, u "java/lang/Number"), (2, .class_ 14), (0, u "java/io/Serializable"), (0, u "serialVersionUID"), (0, u "J")] 20

def k4c0 : Code := { maxStack := 1, maxLocals := 1, code := jdk_18_method_1_code, exceptionTable := #[], attributes := #[] }
def k4m0 : Method := { name := "<init>", desc := "()V", sig := { parameters := [], returnType := none }, accessFlags := 1, code := some k4c0 }
/-- java/lang/Number -/
def k4 : Class := { plain "java/lang/Number" (some 0) with
  accessFlags := 1057
  interfaces := #[3]
  cf := some (fileOf pool4 8 #[] #[{ accessFlags := 1, nameIndex := 5, descriptorIndex := 6, attributes := #[] }] 1057 2 #[13] #[{ accessFlags := 26, nameIndex := 15, descriptorIndex := 16, attributes := #[] }])
  fields := #[{ name := "serialVersionUID", type := .long, accessFlags := 26, slot := 0, constantValue := 0 }]
  methods := #[k4m0]
  instanceTypes := #[]
  staticTypes := #[.long]
  resolved := Array.replicate 37 none
  statics := none }

def pool5 : Array CpInfo := pool [(1, .class_ 2), (0, u "java/lang/Comparable"), (0, .class_ 4), (0, u "java/lang/Object")] 7

/-- java/lang/Comparable -/
def k5 : Class := { plain "java/lang/Comparable" (some 0) with
  accessFlags := 1537
  interfaces := #[]
  cf := some (fileOf pool5 1 #[] #[] 1537 3 #[] #[])
  fields := #[]
  methods := #[]
  instanceTypes := #[]
  staticTypes := #[]
  resolved := Array.replicate 12 none
  statics := none }

def pool6 : Array CpInfo := pool [(1, .class_ 2), (0, u "java/lang/constant/Constable"), (0, .class_ 4), (0, u "java/lang/Object")] 6

/-- java/lang/constant/Constable -/
def k6 : Class := { plain "java/lang/constant/Constable" (some 0) with
  accessFlags := 1537
  interfaces := #[]
  cf := some (fileOf pool6 1 #[] #[] 1537 3 #[] #[])
  fields := #[]
  methods := #[]
  instanceTypes := #[]
  staticTypes := #[]
  resolved := Array.replicate 11 none
  statics := none }

def pool7 : Array CpInfo := pool [(1, .class_ 2), (0, u "java/lang/constant/ConstantDesc"), (0, .class_ 4), (0, u "java/lang/Object")] 32

/-- java/lang/constant/ConstantDesc -/
def k7 : Class := { plain "java/lang/constant/ConstantDesc" (some 0) with
  accessFlags := 1537
  interfaces := #[]
  cf := some (fileOf pool7 1 #[] #[] 1537 3 #[] #[])
  fields := #[]
  methods := #[]
  instanceTypes := #[]
  staticTypes := #[]
  resolved := Array.replicate 37 none
  statics := none }

def pool8 : Array CpInfo := pool [(1, .class_ 2), (0, u "java/lang/Long"), (55, .nameAndType 59 60), (0, u "<init>"), (0, u "()V"), (24, u "valueOf"), (143, u "(J)Ljava/lang/Long;"), (0, .long 18446744073709551488), (1, .long 127), (1, .fieldref 235 236), (0, .class_ 237), (0, .nameAndType 238 239), (0, u "java/lang/Long$LongCache"), (0, u "cache"), (0, u "[Ljava/lang/Long;"), (0, .methodref 1 241), (0, .nameAndType 59 242), (0, u "(J)V"), (27, .methodref 271 58), (0, .class_ 272), (0, u "java/lang/Number"), (0, .fieldref 1 274), (0, .nameAndType 275 276), (0, u "value"), (0, u "J"), (84, u "TYPE"), (0, u "Ljava/lang/Class;"), (0, .class_ 364), (0, u "java/lang/Comparable"), (0, .class_ 366), (0, u "java/lang/constant/Constable"), (0, .class_ 368), (0, u "java/lang/constant/ConstantDesc"), (0, u "MIN_VALUE"), (1, u "MAX_VALUE"), (4, u "SIZE"), (0, u "I"), (1, u "BYTES"), (1, u "serialVersionUID")] 142

def k8c0 : Code := { maxStack := 4, maxLocals := 3, code := jdk_35_method_24_code, exceptionTable := #[], attributes := #[] }
def k8m0 : Method := { name := "valueOf", desc := "(J)Ljava/lang/Long;", sig := { parameters := [.long], returnType := some (.object "java/lang/Long") }, accessFlags := 9, code := some k8c0 }
def k8c1 : Code := { maxStack := 3, maxLocals := 3, code := jdk_35_method_26_code, exceptionTable := #[], attributes := #[] }
def k8m1 : Method := { name := "<init>", desc := "(J)V", sig := { parameters := [.long], returnType := none }, accessFlags := 1, code := some k8c1 }
/-- java/lang/Long -/
def k8 : Class := { plain "java/lang/Long" (some 4) with
  accessFlags := 49
  interfaces := #[5, 6, 7]
  cf := some (fileOf pool8 1 #[.nestMembers #[235]] #[{ accessFlags := 9, nameIndex := 85, descriptorIndex := 229, attributes := #[] }, { accessFlags := 1, nameIndex := 59, descriptorIndex := 242, attributes := #[] }] 49 271 #[363, 365, 367] #[{ accessFlags := 25, nameIndex := 369, descriptorIndex := 276, attributes := #[] }, { accessFlags := 25, nameIndex := 371, descriptorIndex := 276, attributes := #[] }, { accessFlags := 25, nameIndex := 361, descriptorIndex := 362, attributes := #[] }, { accessFlags := 18, nameIndex := 275, descriptorIndex := 276, attributes := #[] }, { accessFlags := 25, nameIndex := 376, descriptorIndex := 377, attributes := #[] }, { accessFlags := 25, nameIndex := 379, descriptorIndex := 377, attributes := #[] }, { accessFlags := 26, nameIndex := 381, descriptorIndex := 276, attributes := #[] }])
  fields := #[{ name := "MIN_VALUE", type := .long, accessFlags := 25, slot := 0, constantValue := 0 }, { name := "MAX_VALUE", type := .long, accessFlags := 25, slot := 1, constantValue := 0 }, { name := "TYPE", type := (.object "java/lang/Class"), accessFlags := 25, slot := 2, constantValue := 0 }, { name := "value", type := .long, accessFlags := 18, slot := 0, constantValue := 0 }, { name := "SIZE", type := .int, accessFlags := 25, slot := 3, constantValue := 0 }, { name := "BYTES", type := .int, accessFlags := 25, slot := 4, constantValue := 0 }, { name := "serialVersionUID", type := .long, accessFlags := 26, slot := 5, constantValue := 0 }]
  methods := #[k8m0, k8m1]
  instanceTypes := #[.long]
  staticTypes := #[.long, .long, (.object "java/lang/Class"), .int, .int, .long]
  resolved := Array.replicate 524 none
  statics := none }

def pool9 : Array CpInfo := pool [(2, .class_ 4), (1, u "java/lang/Object"), (0, u "<init>"), (0, u "()V"), (0, .class_ 8), (0, u "java/lang/Long"), (7, .class_ 18), (1, u "java/lang/Long$LongCache"), (0, u "$assertionsDisabled"), (0, u "Z"), (8, u "archivedCache"), (0, u "[Ljava/lang/Long;"), (7, u "cache")] 24

def k9m0 : Method := { name := "<init>", desc := "()V", sig := { parameters := [], returnType := none }, accessFlags := 2, code := none }
/-- java/lang/Long$LongCache -/
def k9 : Class := { plain "java/lang/Long$LongCache" (some 0) with
  accessFlags := 48
  interfaces := #[]
  cf := some (fileOf pool9 16 #[.nestHost 7] #[{ accessFlags := 2, nameIndex := 5, descriptorIndex := 6, attributes := #[] }] 48 2 #[] #[{ accessFlags := 24, nameIndex := 38, descriptorIndex := 30, attributes := #[] }, { accessFlags := 8, nameIndex := 29, descriptorIndex := 30, attributes := #[] }, { accessFlags := 4120, nameIndex := 19, descriptorIndex := 20, attributes := #[] }])
  fields := #[{ name := "cache", type := (.array (.object "java/lang/Long")), accessFlags := 24, slot := 0, constantValue := 0 }, { name := "archivedCache", type := (.array (.object "java/lang/Long")), accessFlags := 8, slot := 1, constantValue := 0 }, { name := "$assertionsDisabled", type := .boolean, accessFlags := 4120, slot := 2, constantValue := 0 }]
  methods := #[k9m0]
  instanceTypes := #[]
  staticTypes := #[(.array (.object "java/lang/Long")), (.array (.object "java/lang/Long")), .boolean]
  resolved := Array.replicate 63 none
  statics := some 0 }

def pool10 : Array CpInfo := pool [(1, u "java/lang/Cloneable"), (0, .class_ 1), (0, u "java/lang/Object"), (0, .class_ 3)] 3

/-- java/lang/Cloneable -/
def k10 : Class := { plain "java/lang/Cloneable" (some 0) with
  accessFlags := 1537
  interfaces := #[]
  cf := some (fileOf pool10 2 #[] #[] 1537 4 #[] #[])
  fields := #[]
  methods := #[]
  instanceTypes := #[]
  staticTypes := #[]
  resolved := Array.replicate 8 none
  statics := none }

/-- the primitive byte -/
def k11 : Class := { plain "byte" none with kind := .primitive 'B', accessFlags := 0x411 }
/-- [B -/
def k12 : Class := { plain "[B" (some 0) with kind := .array 11 .byte, interfaces := #[10, 3], accessFlags := 1041 }

/-- the primitive int -/
def k13 : Class := { plain "int" none with kind := .primitive 'I', accessFlags := 0x411 }
/-- [I -/
def k14 : Class := { plain "[I" (some 0) with kind := .array 13 .int, interfaces := #[10, 3], accessFlags := 1041 }

/-- [Ljava/lang/Long; -/
def k15 : Class := { plain "[Ljava/lang/Long;" (some 0) with kind := .array 8 (.object "java/lang/Long"), interfaces := #[10, 3], accessFlags := 1041 }

def heap : Heap := #[{ cls := 9, slots := #[.ref 1, .null, .int 0], vm := .statics 9 },
  { cls := 15, slots := #[.ref 2, .ref 3, .ref 4, .ref 5, .ref 6, .ref 7, .ref 8, .ref 9, .ref 10, .ref 11, .ref 12, .ref 13, .ref 14, .ref 15, .ref 16, .ref 17, .ref 18, .ref 19, .ref 20, .ref 21, .ref 22, .ref 23, .ref 24, .ref 25, .ref 26, .ref 27, .ref 28, .ref 29, .ref 30, .ref 31, .ref 32, .ref 33, .ref 34, .ref 35, .ref 36, .ref 37, .ref 38, .ref 39, .ref 40, .ref 41, .ref 42, .ref 43, .ref 44, .ref 45, .ref 46, .ref 47, .ref 48, .ref 49, .ref 50, .ref 51, .ref 52, .ref 53, .ref 54, .ref 55, .ref 56, .ref 57, .ref 58, .ref 59, .ref 60, .ref 61, .ref 62, .ref 63, .ref 64, .ref 65, .ref 66, .ref 67, .ref 68, .ref 69, .ref 70, .ref 71, .ref 72, .ref 73, .ref 74, .ref 75, .ref 76, .ref 77, .ref 78, .ref 79, .ref 80, .ref 81, .ref 82, .ref 83, .ref 84, .ref 85, .ref 86, .ref 87, .ref 88, .ref 89, .ref 90, .ref 91, .ref 92, .ref 93, .ref 94, .ref 95, .ref 96, .ref 97, .ref 98, .ref 99, .ref 100, .ref 101, .ref 102, .ref 103, .ref 104, .ref 105, .ref 106, .ref 107, .ref 108, .ref 109, .ref 110, .ref 111, .ref 112, .ref 113, .ref 114, .ref 115, .ref 116, .ref 117, .ref 118, .ref 119, .ref 120, .ref 121, .ref 122, .ref 123, .ref 124, .ref 125, .ref 126, .ref 127, .ref 128, .ref 129, .ref 130, .ref 131, .ref 132, .ref 133, .ref 134, .ref 135, .ref 136, .ref 137, .ref 138, .ref 139, .ref 140, .ref 141, .ref 142, .ref 143, .ref 144, .ref 145, .ref 146, .ref 147, .ref 148, .ref 149, .ref 150, .ref 151, .ref 152, .ref 153, .ref 154, .ref 155, .ref 156, .ref 157, .ref 158, .ref 159, .ref 160, .ref 161, .ref 162, .ref 163, .ref 164, .ref 165, .ref 166, .ref 167, .ref 168, .ref 169, .ref 170, .ref 171, .ref 172, .ref 173, .ref 174, .ref 175, .ref 176, .ref 177, .ref 178, .ref 179, .ref 180, .ref 181, .ref 182, .ref 183, .ref 184, .ref 185, .ref 186, .ref 187, .ref 188, .ref 189, .ref 190, .ref 191, .ref 192, .ref 193, .ref 194, .ref 195, .ref 196, .ref 197, .ref 198, .ref 199, .ref 200, .ref 201, .ref 202, .ref 203, .ref 204, .ref 205, .ref 206, .ref 207, .ref 208, .ref 209, .ref 210, .ref 211, .ref 212, .ref 213, .ref 214, .ref 215, .ref 216, .ref 217, .ref 218, .ref 219, .ref 220, .ref 221, .ref 222, .ref 223, .ref 224, .ref 225, .ref 226, .ref 227, .ref 228, .ref 229, .ref 230, .ref 231, .ref 232, .ref 233, .ref 234, .ref 235, .ref 236, .ref 237, .ref 238, .ref 239, .ref 240, .ref 241, .ref 242, .ref 243, .ref 244, .ref 245, .ref 246, .ref 247, .ref 248, .ref 249, .ref 250, .ref 251, .ref 252, .ref 253, .ref 254, .ref 255, .ref 256, .ref 257], vm := .none },
  { cls := 8, slots := #[.long (-128)], vm := .none },
  { cls := 8, slots := #[.long (-127)], vm := .none },
  { cls := 8, slots := #[.long (-126)], vm := .none },
  { cls := 8, slots := #[.long (-125)], vm := .none },
  { cls := 8, slots := #[.long (-124)], vm := .none },
  { cls := 8, slots := #[.long (-123)], vm := .none },
  { cls := 8, slots := #[.long (-122)], vm := .none },
  { cls := 8, slots := #[.long (-121)], vm := .none },
  { cls := 8, slots := #[.long (-120)], vm := .none },
  { cls := 8, slots := #[.long (-119)], vm := .none },
  { cls := 8, slots := #[.long (-118)], vm := .none },
  { cls := 8, slots := #[.long (-117)], vm := .none },
  { cls := 8, slots := #[.long (-116)], vm := .none },
  { cls := 8, slots := #[.long (-115)], vm := .none },
  { cls := 8, slots := #[.long (-114)], vm := .none },
  { cls := 8, slots := #[.long (-113)], vm := .none },
  { cls := 8, slots := #[.long (-112)], vm := .none },
  { cls := 8, slots := #[.long (-111)], vm := .none },
  { cls := 8, slots := #[.long (-110)], vm := .none },
  { cls := 8, slots := #[.long (-109)], vm := .none },
  { cls := 8, slots := #[.long (-108)], vm := .none },
  { cls := 8, slots := #[.long (-107)], vm := .none },
  { cls := 8, slots := #[.long (-106)], vm := .none },
  { cls := 8, slots := #[.long (-105)], vm := .none },
  { cls := 8, slots := #[.long (-104)], vm := .none },
  { cls := 8, slots := #[.long (-103)], vm := .none },
  { cls := 8, slots := #[.long (-102)], vm := .none },
  { cls := 8, slots := #[.long (-101)], vm := .none },
  { cls := 8, slots := #[.long (-100)], vm := .none },
  { cls := 8, slots := #[.long (-99)], vm := .none },
  { cls := 8, slots := #[.long (-98)], vm := .none },
  { cls := 8, slots := #[.long (-97)], vm := .none },
  { cls := 8, slots := #[.long (-96)], vm := .none },
  { cls := 8, slots := #[.long (-95)], vm := .none },
  { cls := 8, slots := #[.long (-94)], vm := .none },
  { cls := 8, slots := #[.long (-93)], vm := .none },
  { cls := 8, slots := #[.long (-92)], vm := .none },
  { cls := 8, slots := #[.long (-91)], vm := .none },
  { cls := 8, slots := #[.long (-90)], vm := .none },
  { cls := 8, slots := #[.long (-89)], vm := .none },
  { cls := 8, slots := #[.long (-88)], vm := .none },
  { cls := 8, slots := #[.long (-87)], vm := .none },
  { cls := 8, slots := #[.long (-86)], vm := .none },
  { cls := 8, slots := #[.long (-85)], vm := .none },
  { cls := 8, slots := #[.long (-84)], vm := .none },
  { cls := 8, slots := #[.long (-83)], vm := .none },
  { cls := 8, slots := #[.long (-82)], vm := .none },
  { cls := 8, slots := #[.long (-81)], vm := .none },
  { cls := 8, slots := #[.long (-80)], vm := .none },
  { cls := 8, slots := #[.long (-79)], vm := .none },
  { cls := 8, slots := #[.long (-78)], vm := .none },
  { cls := 8, slots := #[.long (-77)], vm := .none },
  { cls := 8, slots := #[.long (-76)], vm := .none },
  { cls := 8, slots := #[.long (-75)], vm := .none },
  { cls := 8, slots := #[.long (-74)], vm := .none },
  { cls := 8, slots := #[.long (-73)], vm := .none },
  { cls := 8, slots := #[.long (-72)], vm := .none },
  { cls := 8, slots := #[.long (-71)], vm := .none },
  { cls := 8, slots := #[.long (-70)], vm := .none },
  { cls := 8, slots := #[.long (-69)], vm := .none },
  { cls := 8, slots := #[.long (-68)], vm := .none },
  { cls := 8, slots := #[.long (-67)], vm := .none },
  { cls := 8, slots := #[.long (-66)], vm := .none },
  { cls := 8, slots := #[.long (-65)], vm := .none },
  { cls := 8, slots := #[.long (-64)], vm := .none },
  { cls := 8, slots := #[.long (-63)], vm := .none },
  { cls := 8, slots := #[.long (-62)], vm := .none },
  { cls := 8, slots := #[.long (-61)], vm := .none },
  { cls := 8, slots := #[.long (-60)], vm := .none },
  { cls := 8, slots := #[.long (-59)], vm := .none },
  { cls := 8, slots := #[.long (-58)], vm := .none },
  { cls := 8, slots := #[.long (-57)], vm := .none },
  { cls := 8, slots := #[.long (-56)], vm := .none },
  { cls := 8, slots := #[.long (-55)], vm := .none },
  { cls := 8, slots := #[.long (-54)], vm := .none },
  { cls := 8, slots := #[.long (-53)], vm := .none },
  { cls := 8, slots := #[.long (-52)], vm := .none },
  { cls := 8, slots := #[.long (-51)], vm := .none },
  { cls := 8, slots := #[.long (-50)], vm := .none },
  { cls := 8, slots := #[.long (-49)], vm := .none },
  { cls := 8, slots := #[.long (-48)], vm := .none },
  { cls := 8, slots := #[.long (-47)], vm := .none },
  { cls := 8, slots := #[.long (-46)], vm := .none },
  { cls := 8, slots := #[.long (-45)], vm := .none },
  { cls := 8, slots := #[.long (-44)], vm := .none },
  { cls := 8, slots := #[.long (-43)], vm := .none },
  { cls := 8, slots := #[.long (-42)], vm := .none },
  { cls := 8, slots := #[.long (-41)], vm := .none },
  { cls := 8, slots := #[.long (-40)], vm := .none },
  { cls := 8, slots := #[.long (-39)], vm := .none },
  { cls := 8, slots := #[.long (-38)], vm := .none },
  { cls := 8, slots := #[.long (-37)], vm := .none },
  { cls := 8, slots := #[.long (-36)], vm := .none },
  { cls := 8, slots := #[.long (-35)], vm := .none },
  { cls := 8, slots := #[.long (-34)], vm := .none },
  { cls := 8, slots := #[.long (-33)], vm := .none },
  { cls := 8, slots := #[.long (-32)], vm := .none },
  { cls := 8, slots := #[.long (-31)], vm := .none },
  { cls := 8, slots := #[.long (-30)], vm := .none },
  { cls := 8, slots := #[.long (-29)], vm := .none },
  { cls := 8, slots := #[.long (-28)], vm := .none },
  { cls := 8, slots := #[.long (-27)], vm := .none },
  { cls := 8, slots := #[.long (-26)], vm := .none },
  { cls := 8, slots := #[.long (-25)], vm := .none },
  { cls := 8, slots := #[.long (-24)], vm := .none },
  { cls := 8, slots := #[.long (-23)], vm := .none },
  { cls := 8, slots := #[.long (-22)], vm := .none },
  { cls := 8, slots := #[.long (-21)], vm := .none },
  { cls := 8, slots := #[.long (-20)], vm := .none },
  { cls := 8, slots := #[.long (-19)], vm := .none },
  { cls := 8, slots := #[.long (-18)], vm := .none },
  { cls := 8, slots := #[.long (-17)], vm := .none },
  { cls := 8, slots := #[.long (-16)], vm := .none },
  { cls := 8, slots := #[.long (-15)], vm := .none },
  { cls := 8, slots := #[.long (-14)], vm := .none },
  { cls := 8, slots := #[.long (-13)], vm := .none },
  { cls := 8, slots := #[.long (-12)], vm := .none },
  { cls := 8, slots := #[.long (-11)], vm := .none },
  { cls := 8, slots := #[.long (-10)], vm := .none },
  { cls := 8, slots := #[.long (-9)], vm := .none },
  { cls := 8, slots := #[.long (-8)], vm := .none },
  { cls := 8, slots := #[.long (-7)], vm := .none },
  { cls := 8, slots := #[.long (-6)], vm := .none },
  { cls := 8, slots := #[.long (-5)], vm := .none },
  { cls := 8, slots := #[.long (-4)], vm := .none },
  { cls := 8, slots := #[.long (-3)], vm := .none },
  { cls := 8, slots := #[.long (-2)], vm := .none },
  { cls := 8, slots := #[.long (-1)], vm := .none },
  { cls := 8, slots := #[.long (0)], vm := .none },
  { cls := 8, slots := #[.long (1)], vm := .none },
  { cls := 8, slots := #[.long (2)], vm := .none },
  { cls := 8, slots := #[.long (3)], vm := .none },
  { cls := 8, slots := #[.long (4)], vm := .none },
  { cls := 8, slots := #[.long (5)], vm := .none },
  { cls := 8, slots := #[.long (6)], vm := .none },
  { cls := 8, slots := #[.long (7)], vm := .none },
  { cls := 8, slots := #[.long (8)], vm := .none },
  { cls := 8, slots := #[.long (9)], vm := .none },
  { cls := 8, slots := #[.long (10)], vm := .none },
  { cls := 8, slots := #[.long (11)], vm := .none },
  { cls := 8, slots := #[.long (12)], vm := .none },
  { cls := 8, slots := #[.long (13)], vm := .none },
  { cls := 8, slots := #[.long (14)], vm := .none },
  { cls := 8, slots := #[.long (15)], vm := .none },
  { cls := 8, slots := #[.long (16)], vm := .none },
  { cls := 8, slots := #[.long (17)], vm := .none },
  { cls := 8, slots := #[.long (18)], vm := .none },
  { cls := 8, slots := #[.long (19)], vm := .none },
  { cls := 8, slots := #[.long (20)], vm := .none },
  { cls := 8, slots := #[.long (21)], vm := .none },
  { cls := 8, slots := #[.long (22)], vm := .none },
  { cls := 8, slots := #[.long (23)], vm := .none },
  { cls := 8, slots := #[.long (24)], vm := .none },
  { cls := 8, slots := #[.long (25)], vm := .none },
  { cls := 8, slots := #[.long (26)], vm := .none },
  { cls := 8, slots := #[.long (27)], vm := .none },
  { cls := 8, slots := #[.long (28)], vm := .none },
  { cls := 8, slots := #[.long (29)], vm := .none },
  { cls := 8, slots := #[.long (30)], vm := .none },
  { cls := 8, slots := #[.long (31)], vm := .none },
  { cls := 8, slots := #[.long (32)], vm := .none },
  { cls := 8, slots := #[.long (33)], vm := .none },
  { cls := 8, slots := #[.long (34)], vm := .none },
  { cls := 8, slots := #[.long (35)], vm := .none },
  { cls := 8, slots := #[.long (36)], vm := .none },
  { cls := 8, slots := #[.long (37)], vm := .none },
  { cls := 8, slots := #[.long (38)], vm := .none },
  { cls := 8, slots := #[.long (39)], vm := .none },
  { cls := 8, slots := #[.long (40)], vm := .none },
  { cls := 8, slots := #[.long (41)], vm := .none },
  { cls := 8, slots := #[.long (42)], vm := .none },
  { cls := 8, slots := #[.long (43)], vm := .none },
  { cls := 8, slots := #[.long (44)], vm := .none },
  { cls := 8, slots := #[.long (45)], vm := .none },
  { cls := 8, slots := #[.long (46)], vm := .none },
  { cls := 8, slots := #[.long (47)], vm := .none },
  { cls := 8, slots := #[.long (48)], vm := .none },
  { cls := 8, slots := #[.long (49)], vm := .none },
  { cls := 8, slots := #[.long (50)], vm := .none },
  { cls := 8, slots := #[.long (51)], vm := .none },
  { cls := 8, slots := #[.long (52)], vm := .none },
  { cls := 8, slots := #[.long (53)], vm := .none },
  { cls := 8, slots := #[.long (54)], vm := .none },
  { cls := 8, slots := #[.long (55)], vm := .none },
  { cls := 8, slots := #[.long (56)], vm := .none },
  { cls := 8, slots := #[.long (57)], vm := .none },
  { cls := 8, slots := #[.long (58)], vm := .none },
  { cls := 8, slots := #[.long (59)], vm := .none },
  { cls := 8, slots := #[.long (60)], vm := .none },
  { cls := 8, slots := #[.long (61)], vm := .none },
  { cls := 8, slots := #[.long (62)], vm := .none },
  { cls := 8, slots := #[.long (63)], vm := .none },
  { cls := 8, slots := #[.long (64)], vm := .none },
  { cls := 8, slots := #[.long (65)], vm := .none },
  { cls := 8, slots := #[.long (66)], vm := .none },
  { cls := 8, slots := #[.long (67)], vm := .none },
  { cls := 8, slots := #[.long (68)], vm := .none },
  { cls := 8, slots := #[.long (69)], vm := .none },
  { cls := 8, slots := #[.long (70)], vm := .none },
  { cls := 8, slots := #[.long (71)], vm := .none },
  { cls := 8, slots := #[.long (72)], vm := .none },
  { cls := 8, slots := #[.long (73)], vm := .none },
  { cls := 8, slots := #[.long (74)], vm := .none },
  { cls := 8, slots := #[.long (75)], vm := .none },
  { cls := 8, slots := #[.long (76)], vm := .none },
  { cls := 8, slots := #[.long (77)], vm := .none },
  { cls := 8, slots := #[.long (78)], vm := .none },
  { cls := 8, slots := #[.long (79)], vm := .none },
  { cls := 8, slots := #[.long (80)], vm := .none },
  { cls := 8, slots := #[.long (81)], vm := .none },
  { cls := 8, slots := #[.long (82)], vm := .none },
  { cls := 8, slots := #[.long (83)], vm := .none },
  { cls := 8, slots := #[.long (84)], vm := .none },
  { cls := 8, slots := #[.long (85)], vm := .none },
  { cls := 8, slots := #[.long (86)], vm := .none },
  { cls := 8, slots := #[.long (87)], vm := .none },
  { cls := 8, slots := #[.long (88)], vm := .none },
  { cls := 8, slots := #[.long (89)], vm := .none },
  { cls := 8, slots := #[.long (90)], vm := .none },
  { cls := 8, slots := #[.long (91)], vm := .none },
  { cls := 8, slots := #[.long (92)], vm := .none },
  { cls := 8, slots := #[.long (93)], vm := .none },
  { cls := 8, slots := #[.long (94)], vm := .none },
  { cls := 8, slots := #[.long (95)], vm := .none },
  { cls := 8, slots := #[.long (96)], vm := .none },
  { cls := 8, slots := #[.long (97)], vm := .none },
  { cls := 8, slots := #[.long (98)], vm := .none },
  { cls := 8, slots := #[.long (99)], vm := .none },
  { cls := 8, slots := #[.long (100)], vm := .none },
  { cls := 8, slots := #[.long (101)], vm := .none },
  { cls := 8, slots := #[.long (102)], vm := .none },
  { cls := 8, slots := #[.long (103)], vm := .none },
  { cls := 8, slots := #[.long (104)], vm := .none },
  { cls := 8, slots := #[.long (105)], vm := .none },
  { cls := 8, slots := #[.long (106)], vm := .none },
  { cls := 8, slots := #[.long (107)], vm := .none },
  { cls := 8, slots := #[.long (108)], vm := .none },
  { cls := 8, slots := #[.long (109)], vm := .none },
  { cls := 8, slots := #[.long (110)], vm := .none },
  { cls := 8, slots := #[.long (111)], vm := .none },
  { cls := 8, slots := #[.long (112)], vm := .none },
  { cls := 8, slots := #[.long (113)], vm := .none },
  { cls := 8, slots := #[.long (114)], vm := .none },
  { cls := 8, slots := #[.long (115)], vm := .none },
  { cls := 8, slots := #[.long (116)], vm := .none },
  { cls := 8, slots := #[.long (117)], vm := .none },
  { cls := 8, slots := #[.long (118)], vm := .none },
  { cls := 8, slots := #[.long (119)], vm := .none },
  { cls := 8, slots := #[.long (120)], vm := .none },
  { cls := 8, slots := #[.long (121)], vm := .none },
  { cls := 8, slots := #[.long (122)], vm := .none },
  { cls := 8, slots := #[.long (123)], vm := .none },
  { cls := 8, slots := #[.long (124)], vm := .none },
  { cls := 8, slots := #[.long (125)], vm := .none },
  { cls := 8, slots := #[.long (126)], vm := .none },
  { cls := 8, slots := #[.long (127)], vm := .none }]
def classes : Array Class := #[k0, k1, k2, k3, k4, k5, k6, k7, k8, k9, k10, k11, k12, k13, k14, k15]
def interned : List (Array UInt16 × Addr) := []
def slotsUsed : Nat := 515
def theMethod : MethodId := ⟨1, 1⟩
def args0 : Array Value := #[.int 5, .long 7, .long 8, .long 9, .long 10, .long 11]
def aboutOver (below : List Frame) : State where
  vm := { classes := classes, interned := interned.toArray }
  heap := heap
  slotsUsed := slotsUsed
  threads := #[{ frames := .invoking theMethod args0 :: below }]
def below0 : List Frame := [.native { method := ⟨0, 0⟩, args := #[] }]
def about1 : State := aboutOver below0
def p0 : Program := .bare "" "" ""
def e0 : Env := launch0.env 0 0 0
theorem w_frames : about1.frames = Frame.invoking theMethod args0 :: below0 := rfl
set_option maxRecDepth 65536 in
theorem w_args : argsFit about1.vm theMethod args0 = true := by decide +kernel
set_option maxRecDepth 65536 in
theorem w_heap : heapFits about1 = true := by decide +kernel
set_option maxRecDepth 65536 in
theorem w_runnable : about1.curStatus? = some .runnable := by decide +kernel
set_option maxRecDepth 65536 in
theorem w_alone : about1.alone = true := by decide +kernel
set_option maxRecDepth 65536 in
theorem w_named : about1.methodNamed? x = some theMethod := by decide +kernel
set_option maxRecDepth 65536 in
theorem w_hears : about1.hears theMethod below0 = true := by decide +kernel
set_option maxRecDepth 65536 in
theorem w_ripe : about1.ripe theMethod args0 below0 = true := by decide +kernel
theorem w_running : about1.status = .running := rfl
set_option maxRecDepth 65536 in
theorem w_room : about1.hasRoom e0.platform room_1 = true :=
  launch0.hasRoom_least _ room_1 (by decide +kernel) (by decide +kernel) (by decide +kernel) (by decide +kernel) (by decide +kernel) (by decide +kernel)
theorem allAtoms_all (ts : List Jvm.Cond) (a : Array Jvm.Value) (st : Jvm.State) : (allAtoms ts).before a st = ts.all (fun c => c.before a st) := by
  induction ts with
  | nil => rfl
  | cons c t ih =>
    show (Jvm.Cond.and c (allAtoms t)).before a st = _
    rw [Jvm.Cond.before_and, ih, List.all_cons]
def words1 : List Jvm.Cond := Jvm.Cond.code x code maxLocals ret :: tables_1
/-- a 'code' word, met by the world's own term for the bytes: nothing is compared byte by byte -/
theorem code_word {y : MethodName} {bytes : ByteArray} {mx : Nat} {rt : Option FieldType} {a : Array Value} {s : State} {m : MethodId} {meth : Method} {c : Code} (h1 : s.methodNamed? y = some m) (h2 : s.vm.method? m = some meth) (h3 : meth.code = some c) (h4 : c.code = bytes)
    (h5 : (c.maxLocals == mx && c.exceptionTable.isEmpty && decide (c.maxStack ≤ mostOperands) && decide (meth.sig.returnType = rt) && !meth.locks && decide (parseMethodDescriptor y.desc = some meth.sig)) = true) : (Jvm.Cond.code y bytes mx rt).before a s = true := by
  simp only [Bool.and_eq_true, beq_iff_eq, Bool.not_eq_true', decide_eq_true_eq] at h5
  obtain ⟨⟨⟨⟨⟨g1, g2⟩, g3⟩, g4⟩, g5⟩, g6⟩ := h5
  simp [Cond.before, Cond.holds, Cond.value, h1, h2, h3, h4, g1, g2, g3, g4, g5, g6]
def isCode : Jvm.Cond → Bool
  | .code _ _ _ _ => true
  | _ => false
theorem all_split {L : List Jvm.Cond} {P : Jvm.Cond → Bool} (h1 : L.all (fun c => isCode c || P c) = true) (h2 : ∀ c ∈ L.filter isCode, P c = true) : L.all P = true := by
  refine List.all_eq_true.mpr fun c hc => ?_
  have h := List.all_eq_true.mp h1 c hc
  rcases Bool.eq_false_or_eq_true (isCode c) with hi | hi
  · exact h2 c (List.mem_filter.mpr ⟨hc, hi⟩)
  · simpa [hi] using h
set_option maxRecDepth 65536 in
theorem w_c0 : (Jvm.Cond.code x code maxLocals ret).before args0 about1 = true := code_word (m := ⟨1, 1⟩) (meth := k1m1) (c := k1c1) (by decide +kernel) rfl rfl rfl (by decide +kernel)
set_option maxRecDepth 65536 in
theorem w_c1 : (Jvm.Cond.code ({ cls := "com/example/inexact_limiter/inexactlimiter/algorithm/Decision", name := "<init>", desc := "(ZJJJJ)V" } : Jvm.MethodName) prog_1_method_1_code (10 : Nat) (Option.none : Option Jvm.ClassFile.FieldType)).before args0 about1 = true := code_word (m := ⟨2, 0⟩) (meth := k2m0) (c := k2c0) (by decide +kernel) rfl rfl rfl (by decide +kernel)
set_option maxRecDepth 65536 in
theorem w_c2 : (Jvm.Cond.code ({ cls := "java/lang/Object", name := "<init>", desc := "()V" } : Jvm.MethodName) object_method_1_code (1 : Nat) (Option.none : Option Jvm.ClassFile.FieldType)).before args0 about1 = true := code_word (m := ⟨0, 0⟩) (meth := k0m0) (c := k0c0) (by decide +kernel) rfl rfl rfl (by decide +kernel)
set_option maxRecDepth 65536 in
theorem w_c3 : (Jvm.Cond.code ({ cls := "java/lang/Long", name := "valueOf", desc := "(J)Ljava/lang/Long;" } : Jvm.MethodName) jdk_35_method_24_code (3 : Nat) (Option.some (Jvm.ClassFile.FieldType.object "java/lang/Long"))).before args0 about1 = true := code_word (m := ⟨8, 0⟩) (meth := k8m0) (c := k8c0) (by decide +kernel) rfl rfl rfl (by decide +kernel)
set_option maxRecDepth 65536 in
theorem w_c4 : (Jvm.Cond.code ({ cls := "com/example/inexact_limiter/inexactlimiter/algorithm/Decision", name := "equals", desc := "(Ljava/lang/Object;)Z" } : Jvm.MethodName) prog_1_method_7_code (3 : Nat) (Option.some Jvm.ClassFile.FieldType.boolean)).before args0 about1 = true := code_word (m := ⟨2, 1⟩) (meth := k2m1) (c := k2c1) (by decide +kernel) rfl rfl rfl (by decide +kernel)
set_option maxRecDepth 65536 in
theorem w_c5 : (Jvm.Cond.code ({ cls := "java/lang/Long", name := "<init>", desc := "(J)V" } : Jvm.MethodName) jdk_35_method_26_code (3 : Nat) (Option.none : Option Jvm.ClassFile.FieldType)).before args0 about1 = true := code_word (m := ⟨8, 1⟩) (meth := k8m1) (c := k8c1) (by decide +kernel) rfl rfl rfl (by decide +kernel)
set_option maxRecDepth 65536 in
theorem w_c6 : (Jvm.Cond.code ({ cls := "java/lang/Number", name := "<init>", desc := "()V" } : Jvm.MethodName) jdk_18_method_1_code (1 : Nat) (Option.none : Option Jvm.ClassFile.FieldType)).before args0 about1 = true := code_word (m := ⟨4, 0⟩) (meth := k4m0) (c := k4c0) (by decide +kernel) rfl rfl rfl (by decide +kernel)
def codes1 : List Jvm.Cond := [Jvm.Cond.code x code maxLocals ret, Jvm.Cond.code ({ cls := "com/example/inexact_limiter/inexactlimiter/algorithm/Decision", name := "<init>", desc := "(ZJJJJ)V" } : Jvm.MethodName) prog_1_method_1_code (10 : Nat) (Option.none : Option Jvm.ClassFile.FieldType), Jvm.Cond.code ({ cls := "java/lang/Object", name := "<init>", desc := "()V" } : Jvm.MethodName) object_method_1_code (1 : Nat) (Option.none : Option Jvm.ClassFile.FieldType), Jvm.Cond.code ({ cls := "java/lang/Long", name := "valueOf", desc := "(J)Ljava/lang/Long;" } : Jvm.MethodName) jdk_35_method_24_code (3 : Nat) (Option.some (Jvm.ClassFile.FieldType.object "java/lang/Long")), Jvm.Cond.code ({ cls := "com/example/inexact_limiter/inexactlimiter/algorithm/Decision", name := "equals", desc := "(Ljava/lang/Object;)Z" } : Jvm.MethodName) prog_1_method_7_code (3 : Nat) (Option.some Jvm.ClassFile.FieldType.boolean), Jvm.Cond.code ({ cls := "java/lang/Long", name := "<init>", desc := "(J)V" } : Jvm.MethodName) jdk_35_method_26_code (3 : Nat) (Option.none : Option Jvm.ClassFile.FieldType), Jvm.Cond.code ({ cls := "java/lang/Number", name := "<init>", desc := "()V" } : Jvm.MethodName) jdk_18_method_1_code (1 : Nat) (Option.none : Option Jvm.ClassFile.FieldType)]
set_option maxRecDepth 65536 in
theorem codes_eq : words1.filter isCode = codes1 := rfl
theorem w_codes : ∀ c ∈ words1.filter isCode, c.before args0 about1 = true := by
  rw [codes_eq]
  intro c hc
  simp only [codes1, List.mem_cons, List.not_mem_nil, or_false] at hc
  rcases hc with rfl | rfl | rfl | rfl | rfl | rfl | rfl
  · exact w_c0
  · exact w_c1
  · exact w_c2
  · exact w_c3
  · exact w_c4
  · exact w_c5
  · exact w_c6
set_option maxRecDepth 65536 in
theorem w_t1 : (words1.take 24).all (fun c => isCode c || c.before args0 about1) = true := by decide +kernel
set_option maxRecDepth 65536 in
theorem w_t2 : ((words1.drop 24).take 24).all (fun c => isCode c || c.before args0 about1) = true := by decide +kernel
set_option maxRecDepth 65536 in
theorem w_t3 : ((words1.drop 24).drop 24).all (fun c => isCode c || c.before args0 about1) = true := by decide +kernel
theorem w_tables : (allAtoms (Jvm.Cond.code x code maxLocals ret :: tables_1)).before args0 about1 = true := by
  rw [allAtoms_all]
  show words1.all (fun c => c.before args0 about1) = true
  refine all_split ?_ w_codes
  rw [← List.take_append_drop 24 words1, List.all_append, w_t1, ← List.take_append_drop 24 (words1.drop 24), List.all_append, w_t2, w_t3]
  rfl
set_option maxRecDepth 65536 in
theorem w_rest : rest_1_c.before args0 about1 = true := by decide +kernel
set_option maxRecDepth 65536 in
theorem w_case : (Jvm.Cond.and given_1 narrow_1).before args0 about1 = true := by decide +kernel
theorem w_applies : (headSpec (Jvm.Cond.code x code maxLocals ret :: tables_1) room_1).applies x e0.platform about1 = true :=
  (Spec.applies_iff w_frames).mpr ⟨w_running, w_runnable, w_alone, w_named, w_hears, w_ripe, w_room, w_tables⟩
theorem atStart : AtStart classFile x code maxLocals ret World_1 tables_1 room_1 Calls_1 rest_1 Pre_1 launch0 p0 e0 about1 theMethod args0 below0 :=
  ⟨lists_1, trivial, launch0.admits_env _ _ _, launch0.least_env, fairChoices_fair.cas, fairChoices_fair.clock, w_frames, w_args, w_heap, w_applies, trivial, w_rest, w_case⟩
end start1
theorem witness_1 : WitnessClaimed_1 := ⟨start1.p0, start1.e0, start1.about1, start1.theMethod, start1.args0, start1.below0, start1.atStart⟩
end Jvm.Pilot.@@N@@
