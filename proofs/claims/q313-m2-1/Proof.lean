import JvmDerived
import JvmDerived.Pilot.@@N@@Statement
import JvmDerived.Pilot.@@N@@Code
set_option linter.unusedVariables false
set_option linter.unusedSimpArgs false
@@BLOCK:NumsL.lean.txt@@
namespace Jvm.RoadKit
open Sem ClassFile Op Lib Jvm.Stand Jvm.Free Jvm.LawKit
section New
variable {p : Program} {l : Launch} {e : Env} {R : Room} {s : State} {m : MethodId} {args : Array Value} {below : List Frame} {meth : Method} {c : Code} {T : State} {locs : List Loc} {cells slots : Nat}
theorem retI (X : Stand p l e R s m args below meth c T locs cells slots) (hx : p.tables.exec = Jvm.exec) {pc : Nat} {Ls : Array Slot} {z : Int32} {rest : List Value} (hret : meth.sig.returnType = some .int) (hd : decode c.code pc = .ok (.ireturn, 1)) {fs : List Frame}
    (hl : ∀ (f : JFrame) (acts : List Action), f.method = m → f.locked = none → f.entered = [] → (doReturn e (T.setTop f) acts (some (.int z))).1 = T.setFrames fs) : Steps p.tables e below (T.setTop (mkF m pc Ls (.int z :: rest))) (T.setFrames fs) := by
  have hm' : T.vm.method? m = some meth := X.method'
  have hn : narrow .int (.int z) = .int z := rfl
  show Steps p.tables e below (T.setTop { method := m, pc := pc, locals := Ls, stack := _ :: rest, locked := none }) _
  jvm_step X.here [X.here.top, hx, hd, hm', hret, hn]
  first | (intro acts; rw [hl _ acts rfl rfl rfl]) | rw [hl _ _ rfl rfl rfl]
  exact Steps.refl _
end New
end Jvm.RoadKit
namespace Jvm.Pilot.@@N@@
open Jvm Jvm.ClassFile Sem Op Lib Jvm.Free Jvm.Stand Jvm.LawKit Jvm.RoadKit Bundle Jvm.Pilot.@@N@@.Jvm.D
/-- from S0 the run comes to T with the frame g on top -/
abbrev Pth (p : Program) (e : Env) (below : List Frame) (S0 T : State) (g : JFrame) : Prop := ∀ t, Steps p.tables e below (T.setTop g) t → Steps p.tables e below S0 t
theorem ef_leq (m : MethodId) (x0 : Addr) (x1 : Addr)  : entryFrame m #[(.ref x0), (.ref x1)] 3 = mkF m 0 #[.val (.ref x0), .val (.ref x1), .unset] [] := by first | (simp [entryFrame, mkF, argsToLocals, Value.category]; done) | rfl
theorem pn_java_lang_StringLatin1 : plainName "java/lang/StringLatin1" = true := by first | (simp [plainName, overriddenIn]; done) | decide +kernel
theorem d_leq_0 : decode jdk_43_method_13_code 0 = .ok (.aload_n 0, 1) := by decide +kernel
theorem d_leq_1 : decode jdk_43_method_13_code 1 = .ok (.arraylength, 1) := by decide +kernel
theorem d_leq_2 : decode jdk_43_method_13_code 2 = .ok (.aload_n 1, 1) := by decide +kernel
theorem d_leq_3 : decode jdk_43_method_13_code 3 = .ok (.arraylength, 1) := by decide +kernel
theorem d_leq_4 : decode jdk_43_method_13_code 4 = .ok (.if_icmp .ne 30, 3) := by decide +kernel
theorem d_leq_7 : decode jdk_43_method_13_code 7 = .ok (.iconst 0, 1) := by decide +kernel
theorem d_leq_8 : decode jdk_43_method_13_code 8 = .ok (.istore_n 2, 1) := by decide +kernel
theorem d_leq_9 : decode jdk_43_method_13_code 9 = .ok (.iload_n 2, 1) := by decide +kernel
theorem d_leq_10 : decode jdk_43_method_13_code 10 = .ok (.aload_n 0, 1) := by decide +kernel
theorem d_leq_11 : decode jdk_43_method_13_code 11 = .ok (.arraylength, 1) := by decide +kernel
theorem d_leq_12 : decode jdk_43_method_13_code 12 = .ok (.if_icmp .ge 20, 3) := by decide +kernel
theorem d_leq_32 : decode jdk_43_method_13_code 32 = .ok (.iconst 1, 1) := by decide +kernel
theorem d_leq_15 : decode jdk_43_method_13_code 15 = .ok (.aload_n 0, 1) := by decide +kernel
theorem d_leq_16 : decode jdk_43_method_13_code 16 = .ok (.iload_n 2, 1) := by decide +kernel
theorem d_leq_17 : decode jdk_43_method_13_code 17 = .ok (.baload, 1) := by decide +kernel
theorem d_leq_18 : decode jdk_43_method_13_code 18 = .ok (.aload_n 1, 1) := by decide +kernel
theorem d_leq_19 : decode jdk_43_method_13_code 19 = .ok (.iload_n 2, 1) := by decide +kernel
theorem d_leq_20 : decode jdk_43_method_13_code 20 = .ok (.baload, 1) := by decide +kernel
theorem d_leq_21 : decode jdk_43_method_13_code 21 = .ok (.if_icmp .eq 5, 3) := by decide +kernel
theorem d_leq_26 : decode jdk_43_method_13_code 26 = .ok (.iinc 2 1, 3) := by decide +kernel
theorem d_leq_29 : decode jdk_43_method_13_code 29 = .ok (.goto (-20), 3) := by decide +kernel
theorem d_leq_24 : decode jdk_43_method_13_code 24 = .ok (.iconst 0, 1) := by decide +kernel
theorem d_leq_33 : decode jdk_43_method_13_code 33 = .ok (.ireturn, 1) := by decide +kernel
theorem d_leq_25 : decode jdk_43_method_13_code 25 = .ok (.ireturn, 1) := by decide +kernel
theorem d_leq_34 : decode jdk_43_method_13_code 34 = .ok (.iconst 0, 1) := by decide +kernel
theorem d_leq_35 : decode jdk_43_method_13_code 35 = .ok (.ireturn, 1) := by decide +kernel
theorem ef_seq (m : MethodId) (x0 : Addr) (x1 : Addr)  : entryFrame m #[(.ref x0), (.ref x1)] 3 = mkF m 0 #[.val (.ref x0), .val (.ref x1), .unset] [] := by first | (simp [entryFrame, mkF, argsToLocals, Value.category]; done) | rfl
theorem pn_java_lang_String : plainName "java/lang/String" = true := by first | (simp [plainName, overriddenIn]; done) | decide +kernel
theorem d_seq_0 : decode jdk_42_method_66_code 0 = .ok (.aload_n 0, 1) := by decide +kernel
theorem d_seq_1 : decode jdk_42_method_66_code 1 = .ok (.aload_n 1, 1) := by decide +kernel
theorem d_seq_2 : decode jdk_42_method_66_code 2 = .ok (.if_acmp .ne 5, 3) := by decide +kernel
theorem d_seq_5 : decode jdk_42_method_66_code 5 = .ok (.iconst 1, 1) := by decide +kernel
theorem d_seq_6 : decode jdk_42_method_66_code 6 = .ok (.ireturn, 1) := by decide +kernel
theorem d_seq_7 : decode jdk_42_method_66_code 7 = .ok (.aload_n 1, 1) := by decide +kernel
theorem d_seq_8 : decode jdk_42_method_66_code 8 = .ok (.instanceof 10, 3) := by decide +kernel
theorem d_seq_11 : decode jdk_42_method_66_code 11 = .ok (.ifCond .eq 43, 3) := by decide +kernel
theorem d_seq_14 : decode jdk_42_method_66_code 14 = .ok (.aload_n 1, 1) := by decide +kernel
theorem d_seq_15 : decode jdk_42_method_66_code 15 = .ok (.checkcast 10, 3) := by decide +kernel
theorem d_seq_18 : decode jdk_42_method_66_code 18 = .ok (.astore_n 2, 1) := by decide +kernel
theorem d_seq_19 : decode jdk_42_method_66_code 19 = .ok (.getstatic 38, 3) := by decide +kernel
theorem d_seq_22 : decode jdk_42_method_66_code 22 = .ok (.ifCond .eq 14, 3) := by decide +kernel
theorem d_seq_25 : decode jdk_42_method_66_code 25 = .ok (.aload_n 0, 1) := by decide +kernel
theorem d_seq_26 : decode jdk_42_method_66_code 26 = .ok (.getfield 15, 3) := by decide +kernel
theorem d_seq_29 : decode jdk_42_method_66_code 29 = .ok (.aload_n 2, 1) := by decide +kernel
theorem d_seq_30 : decode jdk_42_method_66_code 30 = .ok (.getfield 15, 3) := by decide +kernel
theorem d_seq_33 : decode jdk_42_method_66_code 33 = .ok (.if_icmp .ne 21, 3) := by decide +kernel
theorem d_seq_36 : decode jdk_42_method_66_code 36 = .ok (.aload_n 0, 1) := by decide +kernel
theorem d_seq_37 : decode jdk_42_method_66_code 37 = .ok (.getfield 9, 3) := by decide +kernel
theorem d_seq_40 : decode jdk_42_method_66_code 40 = .ok (.aload_n 2, 1) := by decide +kernel
theorem d_seq_41 : decode jdk_42_method_66_code 41 = .ok (.getfield 9, 3) := by decide +kernel
theorem d_seq_44 : decode jdk_42_method_66_code 44 = .ok (.invokestatic 541, 3) := by decide +kernel
theorem pd___B_B_Z : parseMethodDescriptor "([B[B)Z" = some ⟨[(.array .byte), (.array .byte)], some .boolean⟩ := by decide +kernel
theorem d_seq_47 : decode jdk_42_method_66_code 47 = .ok (.ifCond .eq 7, 3) := by decide +kernel
theorem d_seq_54 : decode jdk_42_method_66_code 54 = .ok (.iconst 0, 1) := by decide +kernel
theorem d_seq_55 : decode jdk_42_method_66_code 55 = .ok (.ireturn, 1) := by decide +kernel
theorem d_seq_50 : decode jdk_42_method_66_code 50 = .ok (.iconst 1, 1) := by decide +kernel
theorem d_seq_51 : decode jdk_42_method_66_code 51 = .ok (.goto 4, 3) := by decide +kernel
theorem ef_pick0 (m : MethodId) (x0 : Int32)  : entryFrame m #[(.int x0)] 1 = mkF m 0 #[.val (.int x0)] [] := by first | (simp [entryFrame, mkF, argsToLocals, Value.category]; done) | rfl
theorem pn_com_example_originlint_originlint_EmbedderPolicyIsCompatibleWithCrossOriginIsolationPinLaw : plainName "com/example/originlint/originlint/EmbedderPolicyIsCompatibleWithCrossOriginIsolationPinLaw" = true := by first | (simp [plainName, overriddenIn]; done) | decide +kernel
theorem d_pick0_0 : decode method_2_code 0 = .ok (.iload_n 0, 1) := by decide +kernel
theorem d_pick0_1 : decode method_2_code 1 = .ok (.ifCond .ne 7, 3) := by decide +kernel
theorem d_pick0_4 : decode method_2_code 4 = .ok (.getstatic 7, 3) := by decide +kernel
theorem d_pick0_7 : decode method_2_code 7 = .ok (.areturn, 1) := by decide +kernel
theorem ef_pick1 (m : MethodId) (x0 : Int32)  : entryFrame m #[(.int x0)] 1 = mkF m 0 #[.val (.int x0)] [] := by first | (simp [entryFrame, mkF, argsToLocals, Value.category]; done) | rfl
theorem d_pick1_0 : decode method_2_code 0 = .ok (.iload_n 0, 1) := by decide +kernel
theorem d_pick1_1 : decode method_2_code 1 = .ok (.ifCond .ne 7, 3) := by decide +kernel
theorem d_pick1_8 : decode method_2_code 8 = .ok (.iload_n 0, 1) := by decide +kernel
theorem d_pick1_9 : decode method_2_code 9 = .ok (.iconst 1, 1) := by decide +kernel
theorem d_pick1_10 : decode method_2_code 10 = .ok (.if_icmp .ne 7, 3) := by decide +kernel
theorem d_pick1_13 : decode method_2_code 13 = .ok (.getstatic 13, 3) := by decide +kernel
theorem d_pick1_16 : decode method_2_code 16 = .ok (.areturn, 1) := by decide +kernel
theorem ef_pick2 (m : MethodId) (x0 : Int32)  : entryFrame m #[(.int x0)] 1 = mkF m 0 #[.val (.int x0)] [] := by first | (simp [entryFrame, mkF, argsToLocals, Value.category]; done) | rfl
theorem d_pick2_0 : decode method_2_code 0 = .ok (.iload_n 0, 1) := by decide +kernel
theorem d_pick2_1 : decode method_2_code 1 = .ok (.ifCond .ne 7, 3) := by decide +kernel
theorem d_pick2_8 : decode method_2_code 8 = .ok (.iload_n 0, 1) := by decide +kernel
theorem d_pick2_9 : decode method_2_code 9 = .ok (.iconst 1, 1) := by decide +kernel
theorem d_pick2_10 : decode method_2_code 10 = .ok (.if_icmp .ne 7, 3) := by decide +kernel
theorem d_pick2_17 : decode method_2_code 17 = .ok (.getstatic 16, 3) := by decide +kernel
theorem d_pick2_20 : decode method_2_code 20 = .ok (.areturn, 1) := by decide +kernel
theorem ef_tok (m : MethodId) (x0 : Addr)  : entryFrame m #[(.ref x0)] 1 = mkF m 0 #[.val (.ref x0)] [] := by first | (simp [entryFrame, mkF, argsToLocals, Value.category]; done) | rfl
theorem pn_com_example_originlint_originlint_EmbedderPolicy : plainName "com/example/originlint/originlint/EmbedderPolicy" = true := by first | (simp [plainName, overriddenIn]; done) | decide +kernel
theorem d_tok_0 : decode prog_16_method_4_code 0 = .ok (.aload_n 0, 1) := by decide +kernel
theorem d_tok_1 : decode prog_16_method_4_code 1 = .ok (.getfield 32, 3) := by decide +kernel
theorem d_tok_4 : decode prog_16_method_4_code 4 = .ok (.areturn, 1) := by decide +kernel
theorem ef_icA (m : MethodId) (x0 : Addr)  : entryFrame m #[(.ref x0)] 1 = mkF m 0 #[.val (.ref x0)] [] := by first | (simp [entryFrame, mkF, argsToLocals, Value.category]; done) | rfl
theorem d_icA_0 : decode prog_16_method_5_code 0 = .ok (.aload_n 0, 1) := by decide +kernel
theorem d_icA_1 : decode prog_16_method_5_code 1 = .ok (.getstatic 3, 3) := by decide +kernel
theorem d_icA_4 : decode prog_16_method_5_code 4 = .ok (.if_acmp .eq 7, 3) := by decide +kernel
theorem d_icA_11 : decode prog_16_method_5_code 11 = .ok (.iconst 0, 1) := by decide +kernel
theorem d_icA_12 : decode prog_16_method_5_code 12 = .ok (.ireturn, 1) := by decide +kernel
theorem ef_icB (m : MethodId) (x0 : Addr)  : entryFrame m #[(.ref x0)] 1 = mkF m 0 #[.val (.ref x0)] [] := by first | (simp [entryFrame, mkF, argsToLocals, Value.category]; done) | rfl
theorem d_icB_0 : decode prog_16_method_5_code 0 = .ok (.aload_n 0, 1) := by decide +kernel
theorem d_icB_1 : decode prog_16_method_5_code 1 = .ok (.getstatic 3, 3) := by decide +kernel
theorem d_icB_4 : decode prog_16_method_5_code 4 = .ok (.if_acmp .eq 7, 3) := by decide +kernel
theorem d_icB_7 : decode prog_16_method_5_code 7 = .ok (.iconst 1, 1) := by decide +kernel
theorem d_icB_8 : decode prog_16_method_5_code 8 = .ok (.goto 4, 3) := by decide +kernel
theorem d_icB_12 : decode prog_16_method_5_code 12 = .ok (.ireturn, 1) := by decide +kernel
theorem ef_law (m : MethodId) (x0 : Int32)  : entryFrame m #[(.int x0)] maxLocals = mkF m 0 #[.val (.int x0), .unset, .unset, .unset, .unset, .unset, .unset] [] := by first | (simp [entryFrame, mkF, argsToLocals, Value.category, maxLocals]; done) | rfl
theorem pd__I_Lcom_example_originlint_originlint_EmbedderPolicy_ : parseMethodDescriptor "(I)Lcom/example/originlint/originlint/EmbedderPolicy;" = some ⟨[.int], some (.object "com/example/originlint/originlint/EmbedderPolicy")⟩ := by decide +kernel
theorem pd___Ljava_lang_String_ : parseMethodDescriptor "()Ljava/lang/String;" = some ⟨[], some (.object "java/lang/String")⟩ := by decide +kernel
theorem pd__Ljava_lang_Object__Z : parseMethodDescriptor "(Ljava/lang/Object;)Z" = some ⟨[(.object "java/lang/Object")], some .boolean⟩ := by decide +kernel
theorem pd___Z : parseMethodDescriptor "()Z" = some ⟨[], some .boolean⟩ := by decide +kernel
theorem own_rne {a b : Addr} (h : a ≠ b) : ¬ (Value.ref a = Value.ref b) := fun q => h (Value.ref.inj q)
theorem own_fldeq {args : Array Value} {s : State} {t : Term} {C n d : String} {a : Addr} {k : Int32} (ev : t.eval args s none [] s = some (.ref a)) (h : (Jvm.Cond.eq (.field t C n d) (.int k)).value args s none s [] = some true) : Fld s s.heap a C n d (.int k) := by
  obtain ⟨x, y, e1, e2, k1, k2⟩ := cmp_v (Or.inl h)
  rw [Term.int_eval] at e2
  cases e2
  obtain ⟨z, rfl⟩ := k2
  have q := gotT (Cond.eq_ints e1 (Term.int_eval k)) h
  rw [fld_at ev] at e1
  subst q
  exact Fld.start e1
/-- the array at a has n places, of kind ty, and holds f -/
def OFun (Z : State) (h : Heap) (a : Addr) (ty : FieldType) (n : Nat) (f : Nat → Value) : Prop := ∃ c : Cell, Arr Z h a c ty ∧ c.slots.size = n ∧ ∀ j, j < n → c.slots[j]? = some (f j)
theorem OFun.lt {Z : State} {h : Heap} {a : Addr} {ty : FieldType} {n : Nat} {f : Nat → Value} (F : OFun Z h a ty n f) : a < h.size := by obtain ⟨c, A, -⟩ := F; exact A.lt
theorem OFun.ext {Z : State} {h h' : Heap} {a : Addr} {ty : FieldType} {n : Nat} {f : Nat → Value} (F : OFun Z h a ty n f) (E : Ext h h') : OFun Z h' a ty n f := by obtain ⟨c, A, r⟩ := F; exact ⟨c, A.ext E, r⟩
theorem OFun.other {Z : State} {h h' : Heap} {a b : Addr} {ty : FieldType} {n sl : Nat} {v : Value} {f : Nat → Value} (F : OFun Z h a ty n f) (W : Wr h h' b sl v) (q : a ≠ b) : OFun Z h' a ty n f := by obtain ⟨c, A, r⟩ := F; exact ⟨c, A.other W q, r⟩
theorem OFun.keep {Z : State} {h h' : Heap} {a : Addr} {ty : FieldType} {n : Nat} {ws : List Addr} {f : Nat → Value} (F : OFun Z h a ty n f) (K : Keep h h' ws) (q : a ∉ ws) : OFun Z h' a ty n f := by obtain ⟨c, A, r⟩ := F; exact ⟨c, ⟨K.2.1 a c A.1 q, A.2⟩, r⟩
theorem OFun.congr {Z : State} {h : Heap} {a : Addr} {ty : FieldType} {n : Nat} {f g : Nat → Value} (F : OFun Z h a ty n f) (q : ∀ j, j < n → f j = g j) : OFun Z h a ty n g := by obtain ⟨c, A, r1, r2⟩ := F; exact ⟨c, A, r1, fun j hj => by rw [r2 j hj, q j hj]⟩
theorem OFun.new {Z : State} {h : Heap} {a : Addr} {ty : FieldType} {k : ClassId} {z : Int32} (A : Arr Z h a (newA k ty z) ty) : OFun Z h a ty z.toNatClampNeg (fun _ => defaultValue ty) := ⟨_, A, sz_new _ _ _, fun j hj => by simp [newA, hj]⟩
theorem OFun.set {Z : State} {h h' : Heap} {a : Addr} {ty : FieldType} {n i : Nat} {v : Value} {f : Nat → Value} (F : OFun Z h a ty n f) (W : Wr h h' a i v) : OFun Z h' a ty n (fun j => if j = i then v else f j) := by
  obtain ⟨c, A, r1, r2⟩ := F
  refine ⟨_, A.same W, by rw [sz_set]; exact r1, fun j hj => ?_⟩
  by_cases q : j = i
  · subst q
    simp [Cell.setSlot, r1, hj]
  · simp only [q, if_false]
    rw [← r2 j hj]
    simp [Cell.setSlot, Array.getElem?_setIfInBounds, Ne.symm q]
theorem own_ext_wr {h0 h h' : Heap} {a : Addr} {sl : Nat} {v : Value} (E : Ext h0 h) (W : Wr h h' a sl v) (q : h0.size ≤ a) : Ext h0 h' := by
  refine ⟨by rw [W.size]; exact E.1, fun x c hx => ?_⟩
  have hlt := (Array.getElem?_eq_some_iff.mp hx).1
  obtain ⟨c', e1, -, -, -, e5, -⟩ := wr_at W (E.2 x c hx)
  rw [e1, e5 (Nat.ne_of_lt (Nat.lt_of_lt_of_le hlt q))]
theorem own_ext_trans {h0 h h' : Heap} (E : Ext h0 h) (E' : Ext h h') : Ext h0 h' := ⟨Nat.le_trans E.1 E'.1, fun x c hx => E'.2 x c (E.2 x c hx)⟩
theorem own_ext_refl (h : Heap) : Ext h h := ⟨Nat.le_refl _, fun _ _ q => q⟩
theorem own_ext_keep {h0 h h' : Heap} {ws : List Addr} (E : Ext h0 h) (K : Keep h h' ws) (q : ∀ x ∈ ws, h0.size ≤ x) : Ext h0 h' := ⟨Nat.le_trans E.1 K.1, fun x c hx => K.2.1 x c (E.2 x c hx) fun z => by
  have hlt := (Array.getElem?_eq_some_iff.mp hx).1
  exact absurd hlt (Nat.not_lt.mpr (q x z))⟩
theorem own_keep_ext {h h' : Heap} (E : Ext h h') (ws : List Addr) : Keep h h' ws := (Keep.refl h ws).ext E
theorem own_in {j : Int32} {i n : Nat} (h0 : j.toInt = i) (h1 : i < n) : ¬ (j < 0 ∨ n ≤ j.toNatClampNeg) := by
  have e : j.toNatClampNeg = i := by
    show j.toInt.toNat = i
    omega
  rintro (q | q)
  · rw [Int32.lt_iff_toInt_lt] at q
    have z : (0 : Int32).toInt = 0 := rfl
    omega
  · omega
theorem own_cl {j : Int32} {i : Nat} (h0 : j.toInt = i) : j.toNatClampNeg = i := by
  show j.toInt.toNat = i
  omega
theorem own_ofN {n : Nat} (h : n < 2 ^ 31) : (Int32.ofNat n).toInt = n := Int32.toInt_ofNat_of_lt h
def own_U : List Int32 := [117, 110, 115, 97, 102, 101, 45, 110, 111, 110, 101]
def own_R : List Int32 := [114, 101, 113, 117, 105, 114, 101, 45, 99, 111, 114, 112]
def own_C : List Int32 := [99, 114, 101, 100, 101, 110, 116, 105, 97, 108, 108, 101, 115, 115]
def own_eq (xs ys : List Int32) : Int32 := if xs = ys then 1 else 0
theorem own_eq01 {xs ys : List Int32} (h : ¬ own_eq xs ys = 0) : own_eq xs ys = 1 := by
  by_cases q : xs = ys
  · rw [own_eq, if_pos q]
  · exact absurd (by rw [own_eq, if_neg q]) h
theorem own_leninj {n k : Nat} (hn : n < 2 ^ 31) (hk : k < 2 ^ 31) (h : Int32.ofNat n = Int32.ofNat k) : n = k := by
  have e := congrArg Int32.toInt h
  rw [own_ofN hn, own_ofN hk] at e
  omega
theorem own_nlt (n : Nat) : ¬ (Int32.ofNat n < Int32.ofNat n) := by rw [Int32.lt_iff_toInt_lt]; omega
theorem own_ltN {i n : Nat} (h : i < n) (hn : n < 2 ^ 31) : Int32.ofNat i < Int32.ofNat n := by rw [Int32.lt_iff_toInt_lt, own_ofN (by omega), own_ofN hn]; omega
theorem own_lists {xs ys : List Int32} (hl : xs.length = ys.length) (h : ∀ j, j < xs.length → xs.getD j 0 = ys.getD j 0) : xs = ys := by
  apply List.ext_getElem hl
  intro i h1 h2
  have q := h i h1
  simpa [List.getD_eq_getElem?_getD, h1, h2] using q
def OStr (Z : State) (h : Heap) (a p : Addr) (xs : List Int32) : Prop := Exa Z h a "java/lang/String" ∧ Fld Z h a "java/lang/String" "coder" "B" (.int 0) ∧ Fld Z h a "java/lang/String" "value" "[B" (.ref p) ∧ OFun Z h p .byte xs.length (fun j => .int (xs.getD j 0))
theorem OStr.ext {Z : State} {h h' : Heap} {a p : Addr} {xs : List Int32} (F : OStr Z h a p xs) (E : Ext h h') : OStr Z h' a p xs := ⟨F.1.ext E, F.2.1.ext E, F.2.2.1.ext E, F.2.2.2.ext E⟩
theorem own_samestr {Z : State} {h : Heap} {a b p q : Addr} {xs ys : List Int32} (F : OStr Z h a p xs) (G : OStr Z h b q ys) (e : a = b) : xs = ys := by
  subst e
  have e1 : p = q := Classical.byContradiction fun ne => Fld.ne F.2.2.1 G.2.2.1 (fun r => ne (Value.ref.inj r)) rfl
  subst e1
  obtain ⟨c1, A1, s1, g1⟩ := F.2.2.2
  obtain ⟨c2, A2, s2, g2⟩ := G.2.2.2
  cases A1.1.symm.trans A2.1
  have hl : xs.length = ys.length := s1.symm.trans s2
  exact own_lists hl fun j hj => Value.int.inj (Option.some.inj ((g1 j hj).symm.trans (g2 j (hl ▸ hj))))
theorem own_of_arv {Z : State} {h : Heap} {b : Addr} {k : ClassId} {z : Int32} {xs : List Int32} (F : Arv Z h b k .byte z (xs.map Value.int) (.int 0)) (hz : z.toNatClampNeg = xs.length) : OFun Z h b .byte xs.length (fun j => .int (xs.getD j 0)) := by
  obtain ⟨c, A, -, s, -, H, -⟩ := F
  refine ⟨c, A, s.trans hz, fun j hj => (H j (by rw [s, hz]; exact hj)).trans (congrArg some ?_)⟩
  simp [List.getD_eq_getElem?_getD, hj]
set_option maxRecDepth 100000 in
theorem own_atoms : ∀ w ∈ Bundle.stringAtoms, w ∈ tables_1 := by
  intro w hw
  simp only [Bundle.stringAtoms, List.mem_cons, List.not_mem_nil, or_false] at hw
  rcases hw with rfl | rfl | rfl | rfl | rfl | rfl | rfl
  · exact List.mem_of_getElem? (i := 16) rfl
  · exact List.mem_of_getElem? (i := 17) rfl
  · exact List.mem_of_getElem? (i := 18) rfl
  · exact List.mem_of_getElem? (i := 19) rfl
  · exact List.mem_of_getElem? (i := 20) rfl
  · exact List.mem_of_getElem? (i := 21) rfl
  · exact List.mem_of_getElem? (i := 22) rfl
theorem own_nonneg (x : Int32) : 0 ≤ (x &&& (2147483647 : Int32)).toInt := by
  rw [Jvm.Kit.i32_mask x 2147483647 (k := 31) (by decide) (by decide)]; omega
theorem own_k3 (x : Int32) : (x &&& (2147483647 : Int32)) % (3 : Int32) = 0 ∨ (x &&& (2147483647 : Int32)) % (3 : Int32) = 1 ∨ (x &&& (2147483647 : Int32)) % (3 : Int32) = 2 := by
  have h0 : 0 ≤ (x &&& (2147483647 : Int32)).toInt := own_nonneg x
  have e : ((x &&& (2147483647 : Int32)) % (3 : Int32)).toInt = (x &&& (2147483647 : Int32)).toInt % (3 : Int32).toInt := by rw [Jvm.Kit.i32_rem_nonneg h0]
  have e3 : (3 : Int32).toInt = 3 := rfl
  rw [e3] at e
  have r : ((x &&& (2147483647 : Int32)) % (3 : Int32)).toInt = 0 ∨ ((x &&& (2147483647 : Int32)) % (3 : Int32)).toInt = 1 ∨ ((x &&& (2147483647 : Int32)) % (3 : Int32)).toInt = 2 := by omega
  rcases r with r | r | r
  · exact Or.inl (Int32.toInt_inj.mp r)
  · exact Or.inr (Or.inl (Int32.toInt_inj.mp r))
  · exact Or.inr (Or.inr (Int32.toInt_inj.mp r))
def own_elems (args : Array Value) (s : State) (t : Term) : Nat → List Int32 → Prop
  | _, [] => True
  | i, b :: r => (Jvm.Cond.eq (.elem t (.int (Int32.ofNat i))) (.int b)).value args s none s [] = some true ∧ own_elems args s t (i + 1) r
theorem own_elems_at {args : Array Value} {s : State} {t : Term} : ∀ (xs : List Int32) (i j : Nat), own_elems args s t i xs → j < xs.length → (Jvm.Cond.eq (.elem t (.int (Int32.ofNat (i + j)))) (.int (xs.getD j 0))).value args s none s [] = some true
  | b :: r, i, 0, h, _ => h.1
  | b :: r, i, j + 1, h, hj => by
    have q := own_elems_at r (i + 1) j h.2 (by simpa using hj)
    rw [show i + (j + 1) = i + 1 + j by omega]
    simpa using q
theorem own_startstr {args : Array Value} {s : State} {t : Term} {p : Addr} {xs : List Int32} {n : Int32} (ev : t.eval args s none [] s = some (.ref p)) (h2 : (Jvm.Cond.arrayOf t .byte).value args s none s [] = some true) (h4 : (Jvm.Cond.eq (.length t) (.int n)).value args s none s [] = some true) (hn : n.toInt = xs.length) (h31 : xs.length < 2 ^ 31) (h5 : own_elems args s t 0 xs) : OFun s s.heap p .byte xs.length (fun j => .int (xs.getD j 0)) := by
  obtain ⟨cl, A⟩ := Arr.start ev h2
  have ha := A.fin (Vm.Alike.refl s.vm)
  have hsz : cl.slots.size = xs.length := by
    obtain ⟨x, y, e1, e2, k1, k2⟩ := cmp_v (Or.inl h4)
    rw [Term.int_eval] at e2
    cases e2
    obtain ⟨z, rfl⟩ := k2
    have q := gotT (Cond.eq_ints e1 (Term.int_eval n)) h4
    subst q
    by_cases hl : cl.slots.size < 2 ^ 31
    · rw [len_f ev ha hl] at e1
      have e3 : cl.slots.size.toInt32 = z := Value.int.inj (Option.some.inj e1)
      have e4 := congrArg Int32.toInt e3
      rw [len_toInt hl] at e4
      omega
    · simp [Term.eval, ev, ha, hl] at e1
  refine ⟨cl, A, hsz, fun j hj => ?_⟩
  have hi := own_elems_at xs 0 j h5 hj
  rw [Nat.zero_add] at hi
  obtain ⟨x, y, e1, e2, k1, k2⟩ := cmp_v (Or.inl hi)
  rw [Term.int_eval] at e2
  cases e2
  obtain ⟨z, rfl⟩ := k2
  have q := gotT (Cond.eq_ints e1 (Term.int_eval _)) hi
  subst q
  have r := (elem_in e1 ev (Term.int_eval _) A.1).2
  rw [own_cl (own_ofN (by omega))] at r
  exact r

def Q_leq (Z : State) (a1 : Addr) (b1 : Addr) (xs ys : List Int32) (h0 : Heap) (n0 : Nat) (v : Option Value) (h : Heap) (L : List Loc) : Prop := v = some (.int (own_eq xs ys)) ∧ Fr n0 L ∧ h = h0
set_option maxRecDepth 65536 in
set_option maxHeartbeats 40000000 in
theorem rm_leq (l : Launch) (Z : State) (a0 : Array Value) (hw : ∀ d ∈ tables_1, d.before a0 Z = true) (ws : List Jvm.Cond) (a1 : Addr) (b1 : Addr) (xs ys : List Int32) (h0 : Heap) (n0 : Nat) (F1 : OFun Z h0 a1 .byte xs.length (fun j => .int (xs.getD j 0))) (F2 : OFun Z h0 b1 .byte ys.length (fun j => .int (ys.getD j 0))) (lx : xs.length < 2 ^ 31) (ly : ys.length < 2 ^ 31) :
    MetFree l (⟨"java/lang/StringLatin1", "equals", "([B[B)Z"⟩ : MethodName) (head1 (Jvm.Cond.code (⟨"java/lang/StringLatin1", "equals", "([B[B)Z"⟩ : MethodName) jdk_43_method_13_code 3 (some .boolean) :: ws) ({ frames := 0, cells := 0, slots := 0, locals := 0 } : Room)) (fun a U => a = #[(.ref a1), (.ref b1)] ∧ Z.Warmed39 U.vm ∧ U.heap = h0) (fun _ _ _ _ _ => True) (fun _ U o U' => ∃ v L, o = .returned v ∧ Q_leq Z a1 b1 xs ys h0 n0 v U'.heap L ∧ FrameEnd U o U' L ({ frames := 0, cells := 0, slots := 0, locals := 0 } : Room).cells ({ frames := 0, cells := 0, slots := 0, locals := 0 } : Room).slots) := by
  refine MetFree.of_bodySF (plainFor_of_name pn_java_lang_StringLatin1) hisR ?_
  intro p e s m args below meth c s₁ Bd hml0 hP hK
  obtain ⟨rfl, hZ, hh⟩ := hP
  have hx := Bd.exec
  have hby := Bd.bytes
  have hml : c.maxLocals = 3 := hml0
  have hown : s.vm.findClass "java/lang/StringLatin1" = some m.cls := findClass_of_methodNamed Bd.named
  have hnm := (name_of_methodNamed Bd.named Bd.method).1
  have X0 : Stand p l e ({ frames := 0, cells := 0, slots := 0, locals := 0 } : Room) s m #[(.ref a1), (.ref b1)] below meth c s₁ [] 0 0 := Stand.of_body Bd
  have e0 : s₁.heap = h0 := by rw [← hh, Bd.state]; rfl
  have N0 := Fr.nil n0
  obtain ⟨S0, hS0⟩ : ∃ S0, S0 = s₁.setTop (entryFrame m #[(.ref a1), (.ref b1)] 3) := ⟨_, rfl⟩
  have pre : Pth p e below S0 s₁ (mkF m 0 #[.val (.ref a1), .val (.ref b1), .unset] []) := fun t k => by rw [hS0]; exact castTop (ef_leq m a1 b1) k
  replace pre : Pth p e below S0 s₁ (mkF m 1 #[.val (.ref a1), .val (.ref b1), .unset] [(.ref a1)]) := fun t k => pre t (by
    show Steps p.tables e below (s₁.setTop (mkF m 0 #[.val (.ref a1), .val (.ref b1), .unset] [])) t
    refine XS.aloadN X0.here hx rfl (hb hby d_leq_0) rfl rfl ?_
    show Steps p.tables e below (s₁.setTop (mkF m 1 #[.val (.ref a1), .val (.ref b1), .unset] [(.ref a1)])) t
    exact k)
  obtain ⟨cl1, Ar1, Sz1, -⟩ := id F1
  have hln1 : cl1.slots.size.toInt32 = (Int32.ofNat xs.length) := (congrArg Nat.toInt32 Sz1).trans (rfl)
  replace pre : Pth p e below S0 s₁ (mkF m 3 #[.val (.ref a1), .val (.ref b1), .unset] [(.ref b1), (.int (Int32.ofNat xs.length))]) := fun t k => pre t (by
    show Steps p.tables e below (s₁.setTop (mkF m 1 #[.val (.ref a1), .val (.ref b1), .unset] [(.ref a1)])) t
    refine X0.arraylength hx (by rw [e0]; exact Ar1.1) (State.isArrayOf_alike hZ.alike Ar1.2.1) (g := (mkF m 1 #[.val (.ref a1), .val (.ref b1), .unset] [(.ref a1)])) rfl rfl (hb hby d_leq_1) _ ?_
    rw [hln1]
    show Steps p.tables e below (s₁.setTop (mkF m 2 #[.val (.ref a1), .val (.ref b1), .unset] [(.int (Int32.ofNat xs.length))])) t
    refine XS.aloadN X0.here hx rfl (hb hby d_leq_2) rfl rfl ?_
    show Steps p.tables e below (s₁.setTop (mkF m 3 #[.val (.ref a1), .val (.ref b1), .unset] [(.ref b1), (.int (Int32.ofNat xs.length))])) t
    exact k)
  obtain ⟨cl2, Ar2, Sz2, -⟩ := id F2
  have hln2 : cl2.slots.size.toInt32 = (Int32.ofNat ys.length) := (congrArg Nat.toInt32 Sz2).trans (rfl)
  replace pre : Pth p e below S0 s₁ (mkF m 4 #[.val (.ref a1), .val (.ref b1), .unset] [(.int (Int32.ofNat ys.length)), (.int (Int32.ofNat xs.length))]) := fun t k => pre t (by
    show Steps p.tables e below (s₁.setTop (mkF m 3 #[.val (.ref a1), .val (.ref b1), .unset] [(.ref b1), (.int (Int32.ofNat xs.length))])) t
    refine X0.arraylength hx (by rw [e0]; exact Ar2.1) (State.isArrayOf_alike hZ.alike Ar2.2.1) (g := (mkF m 3 #[.val (.ref a1), .val (.ref b1), .unset] [(.ref b1), (.int (Int32.ofNat xs.length))])) rfl rfl (hb hby d_leq_3) _ ?_
    rw [hln2]
    show Steps p.tables e below (s₁.setTop (mkF m 4 #[.val (.ref a1), .val (.ref b1), .unset] [(.int (Int32.ofNat ys.length)), (.int (Int32.ofNat xs.length))])) t
    exact k)
  by_cases z0 : (Int32.ofNat xs.length) = (Int32.ofNat ys.length)
  · replace pre : Pth p e below S0 s₁ (mkF m 9 #[.val (.ref a1), .val (.ref b1), .val (.int (0 : Int32))] []) := fun t k => pre t (by
      show Steps p.tables e below (s₁.setTop (mkF m 4 #[.val (.ref a1), .val (.ref b1), .unset] [(.int (Int32.ofNat ys.length)), (.int (Int32.ofNat xs.length))])) t
      refine XS.icmpNo X0.here hx rfl (hb hby d_leq_4) rfl (XT.ii_ne_f z0) ?_
      show Steps p.tables e below (s₁.setTop (mkF m 7 #[.val (.ref a1), .val (.ref b1), .unset] [])) t
      refine XS.iconst X0.here hx rfl (hb hby d_leq_7) ?_
      show Steps p.tables e below (s₁.setTop (mkF m 8 #[.val (.ref a1), .val (.ref b1), .unset] [(.int (0 : Int32))])) t
      refine XS.istoreN X0.here hx rfl (hb hby d_leq_8) rfl (l' := #[.val (.ref a1), .val (.ref b1), .val (.int (0 : Int32))]) rfl ?_
      show Steps p.tables e below (s₁.setTop (mkF m 9 #[.val (.ref a1), .val (.ref b1), .val (.int (0 : Int32))] [])) t
      exact k)
    have hl : xs.length = ys.length := own_leninj lx ly z0
    have loop : ∀ (k i : Nat), i + k = xs.length → (∀ j, j < i → xs.getD j 0 = ys.getD j 0) → Pth p e below S0 s₁ (mkF m 9 #[.val (.ref a1), .val (.ref b1), .val (.int (Int32.ofNat i))] []) → (xs = ys ∧ Pth p e below S0 s₁ (mkF m 33 #[.val (.ref a1), .val (.ref b1), .val (.int (Int32.ofNat xs.length))] [(.int (1 : Int32))])) ∨ (xs ≠ ys ∧ ∃ i : Nat, Pth p e below S0 s₁ (mkF m 25 #[.val (.ref a1), .val (.ref b1), .val (.int (Int32.ofNat i))] [(.int (0 : Int32))])) := by
      intro k
      induction k with
      | zero =>
        intro i hk hj pre
        obtain rfl : i = xs.length := by omega
        replace pre : Pth p e below S0 s₁ (mkF m 11 #[.val (.ref a1), .val (.ref b1), .val (.int (Int32.ofNat xs.length))] [(.ref a1), (.int (Int32.ofNat xs.length))]) := fun t k => pre t (by
          show Steps p.tables e below (s₁.setTop (mkF m 9 #[.val (.ref a1), .val (.ref b1), .val (.int (Int32.ofNat xs.length))] [])) t
          refine XS.iloadN X0.here hx rfl (hb hby d_leq_9) rfl ?_
          show Steps p.tables e below (s₁.setTop (mkF m 10 #[.val (.ref a1), .val (.ref b1), .val (.int (Int32.ofNat xs.length))] [(.int (Int32.ofNat xs.length))])) t
          refine XS.aloadN X0.here hx rfl (hb hby d_leq_10) rfl rfl ?_
          show Steps p.tables e below (s₁.setTop (mkF m 11 #[.val (.ref a1), .val (.ref b1), .val (.int (Int32.ofNat xs.length))] [(.ref a1), (.int (Int32.ofNat xs.length))])) t
          exact k)
        obtain ⟨cl3, Ar3, Sz3, -⟩ := id F1
        have hln3 : cl3.slots.size.toInt32 = (Int32.ofNat xs.length) := (congrArg Nat.toInt32 Sz3).trans (rfl)
        replace pre : Pth p e below S0 s₁ (mkF m 33 #[.val (.ref a1), .val (.ref b1), .val (.int (Int32.ofNat xs.length))] [(.int (1 : Int32))]) := fun t k => pre t (by
          show Steps p.tables e below (s₁.setTop (mkF m 11 #[.val (.ref a1), .val (.ref b1), .val (.int (Int32.ofNat xs.length))] [(.ref a1), (.int (Int32.ofNat xs.length))])) t
          refine X0.arraylength hx (by rw [e0]; exact Ar3.1) (State.isArrayOf_alike hZ.alike Ar3.2.1) (g := (mkF m 11 #[.val (.ref a1), .val (.ref b1), .val (.int (Int32.ofNat xs.length))] [(.ref a1), (.int (Int32.ofNat xs.length))])) rfl rfl (hb hby d_leq_11) _ ?_
          rw [hln3]
          show Steps p.tables e below (s₁.setTop (mkF m 12 #[.val (.ref a1), .val (.ref b1), .val (.int (Int32.ofNat xs.length))] [(.int (Int32.ofNat xs.length)), (.int (Int32.ofNat xs.length))])) t
          refine XS.icmpYes X0.here hx rfl (pc0 := 12) (pc' := 32) rfl (hb hby d_leq_12) rfl (XT.ii_ge_t (own_nlt _)) (by decide) (by decide) ?_
          show Steps p.tables e below (s₁.setTop (mkF m 32 #[.val (.ref a1), .val (.ref b1), .val (.int (Int32.ofNat xs.length))] [])) t
          refine XS.iconst X0.here hx rfl (hb hby d_leq_32) ?_
          show Steps p.tables e below (s₁.setTop (mkF m 33 #[.val (.ref a1), .val (.ref b1), .val (.int (Int32.ofNat xs.length))] [(.int (1 : Int32))])) t
          exact k)
        exact Or.inl ⟨own_lists hl hj, pre⟩
      | succ k ih =>
        intro i hk hj pre
        have hi : i < xs.length := by omega
        have hi2 : i < ys.length := by omega
        have h31 : (Int32.ofNat i).toInt = i := own_ofN (by omega)
        replace pre : Pth p e below S0 s₁ (mkF m 11 #[.val (.ref a1), .val (.ref b1), .val (.int (Int32.ofNat i))] [(.ref a1), (.int (Int32.ofNat i))]) := fun t k => pre t (by
          show Steps p.tables e below (s₁.setTop (mkF m 9 #[.val (.ref a1), .val (.ref b1), .val (.int (Int32.ofNat i))] [])) t
          refine XS.iloadN X0.here hx rfl (hb hby d_leq_9) rfl ?_
          show Steps p.tables e below (s₁.setTop (mkF m 10 #[.val (.ref a1), .val (.ref b1), .val (.int (Int32.ofNat i))] [(.int (Int32.ofNat i))])) t
          refine XS.aloadN X0.here hx rfl (hb hby d_leq_10) rfl rfl ?_
          show Steps p.tables e below (s₁.setTop (mkF m 11 #[.val (.ref a1), .val (.ref b1), .val (.int (Int32.ofNat i))] [(.ref a1), (.int (Int32.ofNat i))])) t
          exact k)
        obtain ⟨cl4, Ar4, Sz4, -⟩ := id F1
        have hln4 : cl4.slots.size.toInt32 = (Int32.ofNat xs.length) := (congrArg Nat.toInt32 Sz4).trans (rfl)
        replace pre : Pth p e below S0 s₁ (mkF m 17 #[.val (.ref a1), .val (.ref b1), .val (.int (Int32.ofNat i))] [(.int (Int32.ofNat i)), (.ref a1)]) := fun t k => pre t (by
          show Steps p.tables e below (s₁.setTop (mkF m 11 #[.val (.ref a1), .val (.ref b1), .val (.int (Int32.ofNat i))] [(.ref a1), (.int (Int32.ofNat i))])) t
          refine X0.arraylength hx (by rw [e0]; exact Ar4.1) (State.isArrayOf_alike hZ.alike Ar4.2.1) (g := (mkF m 11 #[.val (.ref a1), .val (.ref b1), .val (.int (Int32.ofNat i))] [(.ref a1), (.int (Int32.ofNat i))])) rfl rfl (hb hby d_leq_11) _ ?_
          rw [hln4]
          show Steps p.tables e below (s₁.setTop (mkF m 12 #[.val (.ref a1), .val (.ref b1), .val (.int (Int32.ofNat i))] [(.int (Int32.ofNat xs.length)), (.int (Int32.ofNat i))])) t
          refine XS.icmpNo X0.here hx rfl (hb hby d_leq_12) rfl (XT.ii_ge_f (own_ltN hi lx)) ?_
          show Steps p.tables e below (s₁.setTop (mkF m 15 #[.val (.ref a1), .val (.ref b1), .val (.int (Int32.ofNat i))] [])) t
          refine XS.aloadN X0.here hx rfl (hb hby d_leq_15) rfl rfl ?_
          show Steps p.tables e below (s₁.setTop (mkF m 16 #[.val (.ref a1), .val (.ref b1), .val (.int (Int32.ofNat i))] [(.ref a1)])) t
          refine XS.iloadN X0.here hx rfl (hb hby d_leq_16) rfl ?_
          show Steps p.tables e below (s₁.setTop (mkF m 17 #[.val (.ref a1), .val (.ref b1), .val (.int (Int32.ofNat i))] [(.int (Int32.ofNat i)), (.ref a1)])) t
          exact k)
        obtain ⟨cl5, Ar5, Sz5, Gt5⟩ := id F1
        have hin5 : ¬ ((Int32.ofNat i) < 0 ∨ cl5.slots.size ≤ ((Int32.ofNat i)).toNatClampNeg) := by rw [Sz5]; exact (own_in h31 hi)
        have hat5 : cl5.slots[((Int32.ofNat i)).toNatClampNeg]? = some (.int (xs.getD i 0)) := (Gt5 _ (Nat.lt_of_lt_of_eq (Nat.lt_of_not_le fun q => hin5 (Or.inr q)) Sz5)).trans (congrArg some (congrArg (fun q => Value.int (xs.getD q 0)) (own_cl h31)))
        replace pre : Pth p e below S0 s₁ (mkF m 20 #[.val (.ref a1), .val (.ref b1), .val (.int (Int32.ofNat i))] [(.int (Int32.ofNat i)), (.ref b1), (.int (xs.getD i 0))]) := fun t k => pre t (by
          show Steps p.tables e below (s₁.setTop (mkF m 17 #[.val (.ref a1), .val (.ref b1), .val (.int (Int32.ofNat i))] [(.int (Int32.ofNat i)), (.ref a1)])) t
          refine X0.baloadBytes hx (j := (Int32.ofNat i)) (v := (.int (xs.getD i 0))) (by rw [e0]; exact Ar5.1) (State.isArrayOf_alike hZ.alike Ar5.2.1) Ar5.2.2 hin5 hat5 (g := (mkF m 17 #[.val (.ref a1), .val (.ref b1), .val (.int (Int32.ofNat i))] [(.int (Int32.ofNat i)), (.ref a1)])) rfl rfl (hb hby d_leq_17) _ ?_
          show Steps p.tables e below (s₁.setTop (mkF m 18 #[.val (.ref a1), .val (.ref b1), .val (.int (Int32.ofNat i))] [(.int (xs.getD i 0))])) t
          refine XS.aloadN X0.here hx rfl (hb hby d_leq_18) rfl rfl ?_
          show Steps p.tables e below (s₁.setTop (mkF m 19 #[.val (.ref a1), .val (.ref b1), .val (.int (Int32.ofNat i))] [(.ref b1), (.int (xs.getD i 0))])) t
          refine XS.iloadN X0.here hx rfl (hb hby d_leq_19) rfl ?_
          show Steps p.tables e below (s₁.setTop (mkF m 20 #[.val (.ref a1), .val (.ref b1), .val (.int (Int32.ofNat i))] [(.int (Int32.ofNat i)), (.ref b1), (.int (xs.getD i 0))])) t
          exact k)
        obtain ⟨cl6, Ar6, Sz6, Gt6⟩ := id F2
        have hin6 : ¬ ((Int32.ofNat i) < 0 ∨ cl6.slots.size ≤ ((Int32.ofNat i)).toNatClampNeg) := by rw [Sz6]; exact (own_in h31 hi2)
        have hat6 : cl6.slots[((Int32.ofNat i)).toNatClampNeg]? = some (.int (ys.getD i 0)) := (Gt6 _ (Nat.lt_of_lt_of_eq (Nat.lt_of_not_le fun q => hin6 (Or.inr q)) Sz6)).trans (congrArg some (congrArg (fun q => Value.int (ys.getD q 0)) (own_cl h31)))
        replace pre : Pth p e below S0 s₁ (mkF m 21 #[.val (.ref a1), .val (.ref b1), .val (.int (Int32.ofNat i))] [(.int (ys.getD i 0)), (.int (xs.getD i 0))]) := fun t k => pre t (by
          show Steps p.tables e below (s₁.setTop (mkF m 20 #[.val (.ref a1), .val (.ref b1), .val (.int (Int32.ofNat i))] [(.int (Int32.ofNat i)), (.ref b1), (.int (xs.getD i 0))])) t
          refine X0.baloadBytes hx (j := (Int32.ofNat i)) (v := (.int (ys.getD i 0))) (by rw [e0]; exact Ar6.1) (State.isArrayOf_alike hZ.alike Ar6.2.1) Ar6.2.2 hin6 hat6 (g := (mkF m 20 #[.val (.ref a1), .val (.ref b1), .val (.int (Int32.ofNat i))] [(.int (Int32.ofNat i)), (.ref b1), (.int (xs.getD i 0))])) rfl rfl (hb hby d_leq_20) _ ?_
          show Steps p.tables e below (s₁.setTop (mkF m 21 #[.val (.ref a1), .val (.ref b1), .val (.int (Int32.ofNat i))] [(.int (ys.getD i 0)), (.int (xs.getD i 0))])) t
          exact k)
        by_cases z1 : (xs.getD i 0) = (ys.getD i 0)
        · replace pre : Pth p e below S0 s₁ (mkF m 9 #[.val (.ref a1), .val (.ref b1), .val (.int ((Int32.ofNat i) + (1 : Int32)))] []) := fun t k => pre t (by
            show Steps p.tables e below (s₁.setTop (mkF m 21 #[.val (.ref a1), .val (.ref b1), .val (.int (Int32.ofNat i))] [(.int (ys.getD i 0)), (.int (xs.getD i 0))])) t
            refine XS.icmpYes X0.here hx rfl (pc0 := 21) (pc' := 26) rfl (hb hby d_leq_21) rfl (XT.ii_eq_t z1) (by decide) (by decide) ?_
            show Steps p.tables e below (s₁.setTop (mkF m 26 #[.val (.ref a1), .val (.ref b1), .val (.int (Int32.ofNat i))] [])) t
            refine XS.iinc X0.here hx rfl (hb hby d_leq_26) rfl (l' := #[.val (.ref a1), .val (.ref b1), .val (.int ((Int32.ofNat i) + (1 : Int32)))]) rfl ?_
            show Steps p.tables e below (s₁.setTop (mkF m 29 #[.val (.ref a1), .val (.ref b1), .val (.int ((Int32.ofNat i) + (1 : Int32)))] [])) t
            refine XS.goto X0.here hx rfl (pc0 := 29) (pc' := 9) rfl (hb hby d_leq_29) (by decide) (by decide) ?_
            show Steps p.tables e below (s₁.setTop (mkF m 9 #[.val (.ref a1), .val (.ref b1), .val (.int ((Int32.ofNat i) + (1 : Int32)))] [])) t
            exact k)
          rw [← inc_ofNat] at pre
          exact ih (i + 1) (by omega) (fun j q => by by_cases r : j = i; (subst r; exact z1); exact hj j (by omega)) pre
        · replace pre : Pth p e below S0 s₁ (mkF m 25 #[.val (.ref a1), .val (.ref b1), .val (.int (Int32.ofNat i))] [(.int (0 : Int32))]) := fun t k => pre t (by
            show Steps p.tables e below (s₁.setTop (mkF m 21 #[.val (.ref a1), .val (.ref b1), .val (.int (Int32.ofNat i))] [(.int (ys.getD i 0)), (.int (xs.getD i 0))])) t
            refine XS.icmpNo X0.here hx rfl (hb hby d_leq_21) rfl (XT.ii_eq_f z1) ?_
            show Steps p.tables e below (s₁.setTop (mkF m 24 #[.val (.ref a1), .val (.ref b1), .val (.int (Int32.ofNat i))] [])) t
            refine XS.iconst X0.here hx rfl (hb hby d_leq_24) ?_
            show Steps p.tables e below (s₁.setTop (mkF m 25 #[.val (.ref a1), .val (.ref b1), .val (.int (Int32.ofNat i))] [(.int (0 : Int32))])) t
            exact k)
          exact Or.inr ⟨fun q => z1 (by rw [q]), i, pre⟩
    rcases loop xs.length 0 (by omega) (fun j q => absurd q (Nat.not_lt_zero j)) pre with ⟨hq, pre⟩ | ⟨hq, i, pre⟩
    · obtain ⟨fs, hr, hrun, hended, hW, hsame⟩ := X0.leave (v := some (.int (1 : Int32))) (fun h => by rw [Bd.returns] at h; cases h)
      subst hS0
      refine ⟨_, _, pre _ ?_, hrun, hended, _, _, rfl, ?_, ⟨_, rfl⟩, hW, hsame.mono (by decide) (by decide)⟩
      · exact retN X0 hx (t := .boolean) Bd.returns (by simp) (hb hby d_leq_33) hr
      · show Q_leq Z a1 b1 xs ys h0 n0 _ s₁.heap _
        rw [e0]
        exact ⟨by rw [own_eq, if_pos hq], N0, rfl⟩
    · obtain ⟨fs, hr, hrun, hended, hW, hsame⟩ := X0.leave (v := some (.int (0 : Int32))) (fun h => by rw [Bd.returns] at h; cases h)
      subst hS0
      refine ⟨_, _, pre _ ?_, hrun, hended, _, _, rfl, ?_, ⟨_, rfl⟩, hW, hsame.mono (by decide) (by decide)⟩
      · exact retN X0 hx (t := .boolean) Bd.returns (by simp) (hb hby d_leq_25) hr
      · show Q_leq Z a1 b1 xs ys h0 n0 _ s₁.heap _
        rw [e0]
        exact ⟨by rw [own_eq, if_neg hq], N0, rfl⟩
  · replace pre : Pth p e below S0 s₁ (mkF m 35 #[.val (.ref a1), .val (.ref b1), .unset] [(.int (0 : Int32))]) := fun t k => pre t (by
      show Steps p.tables e below (s₁.setTop (mkF m 4 #[.val (.ref a1), .val (.ref b1), .unset] [(.int (Int32.ofNat ys.length)), (.int (Int32.ofNat xs.length))])) t
      refine XS.icmpYes X0.here hx rfl (pc0 := 4) (pc' := 34) rfl (hb hby d_leq_4) rfl (XT.ii_ne_t z0) (by decide) (by decide) ?_
      show Steps p.tables e below (s₁.setTop (mkF m 34 #[.val (.ref a1), .val (.ref b1), .unset] [])) t
      refine XS.iconst X0.here hx rfl (hb hby d_leq_34) ?_
      show Steps p.tables e below (s₁.setTop (mkF m 35 #[.val (.ref a1), .val (.ref b1), .unset] [(.int (0 : Int32))])) t
      exact k)
    obtain ⟨fs, hr, hrun, hended, hW, hsame⟩ := X0.leave (v := some (.int (0 : Int32))) (fun h => by rw [Bd.returns] at h; cases h)
    subst hS0
    refine ⟨_, _, pre _ ?_, hrun, hended, _, _, rfl, ?_, ⟨_, rfl⟩, hW, hsame.mono (by decide) (by decide)⟩
    · exact retN X0 hx (t := .boolean) Bd.returns (by simp) (hb hby d_leq_35) hr
    · show Q_leq Z a1 b1 xs ys h0 n0 _ s₁.heap _
      rw [e0]
      exact ⟨by rw [own_eq, if_neg (fun q => z0 (by rw [q]))], N0, rfl⟩
def Q_seq (Z : State) (a1 : Addr) (b1 : Addr) (p1 p2 : Addr) (xs ys : List Int32) (cz : Int32) (h0 : Heap) (n0 : Nat) (v : Option Value) (h : Heap) (L : List Loc) : Prop := v = some (.int (own_eq xs ys)) ∧ Fr n0 L ∧ h = h0
set_option maxRecDepth 65536 in
set_option maxHeartbeats 40000000 in
theorem rm_seq (l : Launch) (Z : State) (a0 : Array Value) (hw : ∀ d ∈ tables_1, d.before a0 Z = true) (ws : List Jvm.Cond) (a1 : Addr) (b1 : Addr) (p1 p2 : Addr) (xs ys : List Int32) (cz : Int32) (h0 : Heap) (n0 : Nat) (SA : OStr Z h0 a1 p1 xs) (SB : OStr Z h0 b1 p2 ys) (lx : xs.length < 2 ^ 31) (ly : ys.length < 2 ^ 31) (Scs : Sta Z h0 "java/lang/String" "COMPACT_STRINGS" "Z" (.int cz)) (hcz : ¬ cz = 0) :
    MetFree l (⟨"java/lang/String", "equals", "(Ljava/lang/Object;)Z"⟩ : MethodName) (head1 (Jvm.Cond.code (⟨"java/lang/String", "equals", "(Ljava/lang/Object;)Z"⟩ : MethodName) jdk_42_method_66_code 3 (some .boolean) :: ws) ({ frames := 1, cells := 0, slots := 0, locals := 14 } : Room)) (fun a U => a = #[(.ref a1), (.ref b1)] ∧ Z.Warmed39 U.vm ∧ U.heap = h0) (fun _ _ _ _ _ => True) (fun _ U o U' => ∃ v L, o = .returned v ∧ Q_seq Z a1 b1 p1 p2 xs ys cz h0 n0 v U'.heap L ∧ FrameEnd U o U' L ({ frames := 1, cells := 0, slots := 0, locals := 14 } : Room).cells ({ frames := 1, cells := 0, slots := 0, locals := 14 } : Room).slots) := by
  refine MetFree.of_bodySF (plainFor_of_name pn_java_lang_String) hisR ?_
  intro p e s m args below meth c s₁ Bd hml0 hP hK
  obtain ⟨rfl, hZ, hh⟩ := hP
  have hx := Bd.exec
  have hby := Bd.bytes
  have hml : c.maxLocals = 3 := hml0
  have hown : s.vm.findClass "java/lang/String" = some m.cls := findClass_of_methodNamed Bd.named
  have hnm := (name_of_methodNamed Bd.named Bd.method).1
  have X0 : Stand p l e ({ frames := 1, cells := 0, slots := 0, locals := 14 } : Room) s m #[(.ref a1), (.ref b1)] below meth c s₁ [] 0 0 := Stand.of_body Bd
  have e0 : s₁.heap = h0 := by rw [← hh, Bd.state]; rfl
  have N0 := Fr.nil n0
  obtain ⟨S0, hS0⟩ : ∃ S0, S0 = s₁.setTop (entryFrame m #[(.ref a1), (.ref b1)] 3) := ⟨_, rfl⟩
  have pre : Pth p e below S0 s₁ (mkF m 0 #[.val (.ref a1), .val (.ref b1), .unset] []) := fun t k => by rw [hS0]; exact castTop (ef_seq m a1 b1) k
  replace pre : Pth p e below S0 s₁ (mkF m 2 #[.val (.ref a1), .val (.ref b1), .unset] [(.ref b1), (.ref a1)]) := fun t k => pre t (by
    show Steps p.tables e below (s₁.setTop (mkF m 0 #[.val (.ref a1), .val (.ref b1), .unset] [])) t
    refine XS.aloadN X0.here hx rfl (hb hby d_seq_0) rfl rfl ?_
    show Steps p.tables e below (s₁.setTop (mkF m 1 #[.val (.ref a1), .val (.ref b1), .unset] [(.ref a1)])) t
    refine XS.aloadN X0.here hx rfl (hb hby d_seq_1) rfl rfl ?_
    show Steps p.tables e below (s₁.setTop (mkF m 2 #[.val (.ref a1), .val (.ref b1), .unset] [(.ref b1), (.ref a1)])) t
    exact k)
  by_cases z0 : ((.ref a1) : Value) = (.ref b1)
  · replace pre : Pth p e below S0 s₁ (mkF m 6 #[.val (.ref a1), .val (.ref b1), .unset] [(.int (1 : Int32))]) := fun t k => pre t (by
      show Steps p.tables e below (s₁.setTop (mkF m 2 #[.val (.ref a1), .val (.ref b1), .unset] [(.ref b1), (.ref a1)])) t
      refine Jvm.RoadKit.acmp (g := (mkF m 2 #[.val (.ref a1), .val (.ref b1), .unset] [(.ref b1), (.ref a1)])) X0 hx rfl rfl rfl (pc0 := 2) (pc' := 5) (same := true) rfl (hb hby d_seq_2) rfl (decide_eq_true z0) (by decide) (by decide) ?_
      show Steps p.tables e below (s₁.setTop (mkF m 5 #[.val (.ref a1), .val (.ref b1), .unset] [])) t
      refine XS.iconst X0.here hx rfl (hb hby d_seq_5) ?_
      show Steps p.tables e below (s₁.setTop (mkF m 6 #[.val (.ref a1), .val (.ref b1), .unset] [(.int (1 : Int32))])) t
      exact k)
    obtain ⟨fs, hr, hrun, hended, hW, hsame⟩ := X0.leave (v := some (.int (1 : Int32))) (fun h => by rw [Bd.returns] at h; cases h)
    subst hS0
    refine ⟨_, _, pre _ ?_, hrun, hended, _, _, rfl, ?_, ⟨_, rfl⟩, hW, hsame.mono (by decide) (by decide)⟩
    · exact retN X0 hx (t := .boolean) Bd.returns (by simp) (hb hby d_seq_6) hr
    · show Q_seq Z a1 b1 p1 p2 xs ys cz h0 n0 _ s₁.heap _
      rw [e0]
      exact ⟨by rw [own_eq, if_pos (own_samestr SA SB (Value.ref.inj z0))], N0, rfl⟩
  · replace pre : Pth p e below S0 s₁ (mkF m 8 #[.val (.ref a1), .val (.ref b1), .unset] [(.ref b1)]) := fun t k => pre t (by
      show Steps p.tables e below (s₁.setTop (mkF m 2 #[.val (.ref a1), .val (.ref b1), .unset] [(.ref b1), (.ref a1)])) t
      refine Jvm.RoadKit.acmp (g := (mkF m 2 #[.val (.ref a1), .val (.ref b1), .unset] [(.ref b1), (.ref a1)])) X0 hx rfl rfl rfl (pc0 := 2) (pc' := 7) (same := false) rfl (hb hby d_seq_2) rfl (decide_eq_false z0) (by decide) (by decide) ?_
      show Steps p.tables e below (s₁.setTop (mkF m 7 #[.val (.ref a1), .val (.ref b1), .unset] [])) t
      refine XS.aloadN X0.here hx rfl (hb hby d_seq_7) rfl rfl ?_
      show Steps p.tables e below (s₁.setTop (mkF m 8 #[.val (.ref a1), .val (.ref b1), .unset] [(.ref b1)])) t
      exact k)
    obtain ⟨T7, X7, e7, st7⟩ := instY X0 hx hZ hown (hw _ (List.mem_of_getElem? (i := 28) rfl)) e0 (Ins.self SB.1) (g := (mkF m 8 #[.val (.ref a1), .val (.ref b1), .unset] [(.ref b1)])) rfl rfl (hb hby d_seq_8)
    replace pre : Pth p e below S0 T7 (mkF m 11 #[.val (.ref a1), .val (.ref b1), .unset] [(.int (1 : Int32))]) := fun t k => pre t (st7 _ k)
    replace pre : Pth p e below S0 T7 (mkF m 15 #[.val (.ref a1), .val (.ref b1), .unset] [(.ref b1)]) := fun t k => pre t (by
      show Steps p.tables e below (T7.setTop (mkF m 11 #[.val (.ref a1), .val (.ref b1), .unset] [(.int (1 : Int32))])) t
      refine XS.ifNo X7.here hx rfl (hb hby d_seq_11) rfl (XT.i0_eq_f (by decide)) ?_
      show Steps p.tables e below (T7.setTop (mkF m 14 #[.val (.ref a1), .val (.ref b1), .unset] [])) t
      refine XS.aloadN X7.here hx rfl (hb hby d_seq_14) rfl rfl ?_
      show Steps p.tables e below (T7.setTop (mkF m 15 #[.val (.ref a1), .val (.ref b1), .unset] [(.ref b1)])) t
      exact k)
    obtain ⟨T8, X8, e8, st8⟩ := castY X7 hx hZ hown (hw _ (List.mem_of_getElem? (i := 28) rfl)) e7 (Ins.self SB.1) (g := (mkF m 15 #[.val (.ref a1), .val (.ref b1), .unset] [(.ref b1)])) rfl rfl (hb hby d_seq_15)
    replace pre : Pth p e below S0 T8 (mkF m 18 #[.val (.ref a1), .val (.ref b1), .unset] [(.ref b1)]) := fun t k => pre t (st8 _ k)
    replace pre : Pth p e below S0 T8 (mkF m 19 #[.val (.ref a1), .val (.ref b1), .val (.ref b1)] []) := fun t k => pre t (by
      show Steps p.tables e below (T8.setTop (mkF m 18 #[.val (.ref a1), .val (.ref b1), .unset] [(.ref b1)])) t
      refine XS.astoreN X8.here hx rfl (hb hby d_seq_18) rfl rfl (l' := #[.val (.ref a1), .val (.ref b1), .val (.ref b1)]) rfl ?_
      show Steps p.tables e below (T8.setTop (mkF m 19 #[.val (.ref a1), .val (.ref b1), .val (.ref b1)] [])) t
      exact k)
    obtain ⟨T9, X9, e9, st9⟩ := getS2 X8 hx hZ hown (host := "") (Or.inl (hw _ (List.mem_of_getElem? (i := 30) rfl))) Via.refl e8 Scs (g := (mkF m 19 #[.val (.ref a1), .val (.ref b1), .val (.ref b1)] [])) rfl (hb hby d_seq_19)
    replace pre : Pth p e below S0 T9 (mkF m 22 #[.val (.ref a1), .val (.ref b1), .val (.ref b1)] [(.int cz)]) := fun t k => pre t (st9 _ k)
    replace pre : Pth p e below S0 T9 (mkF m 26 #[.val (.ref a1), .val (.ref b1), .val (.ref b1)] [(.ref a1)]) := fun t k => pre t (by
      show Steps p.tables e below (T9.setTop (mkF m 22 #[.val (.ref a1), .val (.ref b1), .val (.ref b1)] [(.int cz)])) t
      refine XS.ifNo X9.here hx rfl (hb hby d_seq_22) rfl (XT.i0_eq_f hcz) ?_
      show Steps p.tables e below (T9.setTop (mkF m 25 #[.val (.ref a1), .val (.ref b1), .val (.ref b1)] [])) t
      refine XS.aloadN X9.here hx rfl (hb hby d_seq_25) rfl rfl ?_
      show Steps p.tables e below (T9.setTop (mkF m 26 #[.val (.ref a1), .val (.ref b1), .val (.ref b1)] [(.ref a1)])) t
      exact k)
    obtain ⟨T10, X10, e10, st10⟩ := getF X9 hx hZ hown (host := "") (Or.inl (hw _ (List.mem_of_getElem? (i := 31) rfl))) Via.refl e9 SA.2.1 (g := (mkF m 26 #[.val (.ref a1), .val (.ref b1), .val (.ref b1)] [(.ref a1)])) rfl rfl (hb hby d_seq_26)
    replace pre : Pth p e below S0 T10 (mkF m 29 #[.val (.ref a1), .val (.ref b1), .val (.ref b1)] [(.int (0 : Int32))]) := fun t k => pre t (st10 _ k)
    replace pre : Pth p e below S0 T10 (mkF m 30 #[.val (.ref a1), .val (.ref b1), .val (.ref b1)] [(.ref b1), (.int (0 : Int32))]) := fun t k => pre t (by
      show Steps p.tables e below (T10.setTop (mkF m 29 #[.val (.ref a1), .val (.ref b1), .val (.ref b1)] [(.int (0 : Int32))])) t
      refine XS.aloadN X10.here hx rfl (hb hby d_seq_29) rfl rfl ?_
      show Steps p.tables e below (T10.setTop (mkF m 30 #[.val (.ref a1), .val (.ref b1), .val (.ref b1)] [(.ref b1), (.int (0 : Int32))])) t
      exact k)
    obtain ⟨T11, X11, e11, st11⟩ := getF X10 hx hZ hown (host := "") (Or.inl (hw _ (List.mem_of_getElem? (i := 31) rfl))) Via.refl e10 SB.2.1 (g := (mkF m 30 #[.val (.ref a1), .val (.ref b1), .val (.ref b1)] [(.ref b1), (.int (0 : Int32))])) rfl rfl (hb hby d_seq_30)
    replace pre : Pth p e below S0 T11 (mkF m 33 #[.val (.ref a1), .val (.ref b1), .val (.ref b1)] [(.int (0 : Int32)), (.int (0 : Int32))]) := fun t k => pre t (st11 _ k)
    replace pre : Pth p e below S0 T11 (mkF m 37 #[.val (.ref a1), .val (.ref b1), .val (.ref b1)] [(.ref a1)]) := fun t k => pre t (by
      show Steps p.tables e below (T11.setTop (mkF m 33 #[.val (.ref a1), .val (.ref b1), .val (.ref b1)] [(.int (0 : Int32)), (.int (0 : Int32))])) t
      refine XS.icmpNo X11.here hx rfl (hb hby d_seq_33) rfl (XT.ii_ne_f rfl) ?_
      show Steps p.tables e below (T11.setTop (mkF m 36 #[.val (.ref a1), .val (.ref b1), .val (.ref b1)] [])) t
      refine XS.aloadN X11.here hx rfl (hb hby d_seq_36) rfl rfl ?_
      show Steps p.tables e below (T11.setTop (mkF m 37 #[.val (.ref a1), .val (.ref b1), .val (.ref b1)] [(.ref a1)])) t
      exact k)
    obtain ⟨T12, X12, e12, st12⟩ := getF X11 hx hZ hown (host := "") (Or.inl (hw _ (List.mem_of_getElem? (i := 32) rfl))) Via.refl e11 SA.2.2.1 (g := (mkF m 37 #[.val (.ref a1), .val (.ref b1), .val (.ref b1)] [(.ref a1)])) rfl rfl (hb hby d_seq_37)
    replace pre : Pth p e below S0 T12 (mkF m 40 #[.val (.ref a1), .val (.ref b1), .val (.ref b1)] [(.ref p1)]) := fun t k => pre t (st12 _ k)
    replace pre : Pth p e below S0 T12 (mkF m 41 #[.val (.ref a1), .val (.ref b1), .val (.ref b1)] [(.ref b1), (.ref p1)]) := fun t k => pre t (by
      show Steps p.tables e below (T12.setTop (mkF m 40 #[.val (.ref a1), .val (.ref b1), .val (.ref b1)] [(.ref p1)])) t
      refine XS.aloadN X12.here hx rfl (hb hby d_seq_40) rfl rfl ?_
      show Steps p.tables e below (T12.setTop (mkF m 41 #[.val (.ref a1), .val (.ref b1), .val (.ref b1)] [(.ref b1), (.ref p1)])) t
      exact k)
    obtain ⟨T13, X13, e13, st13⟩ := getF X12 hx hZ hown (host := "") (Or.inl (hw _ (List.mem_of_getElem? (i := 32) rfl))) Via.refl e12 SB.2.2.1 (g := (mkF m 41 #[.val (.ref a1), .val (.ref b1), .val (.ref b1)] [(.ref b1), (.ref p1)])) rfl rfl (hb hby d_seq_41)
    replace pre : Pth p e below S0 T13 (mkF m 44 #[.val (.ref a1), .val (.ref b1), .val (.ref b1)] [(.ref p2), (.ref p1)]) := fun t k => pre t (st13 _ k)
    obtain ⟨_, _, ⟨T14, L14, k14, n14⟩, -, X14, ⟨Lc14, hQ14, l14, y14, z14⟩, st14⟩ := Jvm.LawKit.callS X13 hx (y := (⟨"java/lang/StringLatin1", "equals", "([B[B)Z"⟩ : MethodName)) hown (mvT hZ (hw _ (List.mem_of_getElem? (i := 33) rfl))) (mvT hZ (hw _ (List.mem_of_getElem? (i := 34) rfl))) (mvT hZ (hw _ (List.mem_of_getElem? (i := 35) rfl))) (mvT hZ (hw _ (List.mem_of_getElem? (i := 36) rfl))) (by decide) (backOf (W := 0) (rm_leq l Z a0 hw [] p1 p2 xs ys h0 n0 SA.2.2.2 SB.2.2.2 lx ly) hZ (hw _ (List.mem_of_getElem? (i := 36) rfl)) (hw _ (List.mem_of_getElem? (i := 35) rfl)) (by decide) (by decide)) (g := (mkF m 44 #[.val (.ref a1), .val (.ref b1), .val (.ref b1)] [(.ref p2), (.ref p1)])) rfl (by rw [hml]; rfl) (argsL := [(.ref p1), (.ref p2)]) (rest := []) (lenOf pd___B_B_Z rfl) rfl (by show 2 * 0 + _ ≤ _; exact Nat.le_of_eq rfl) (hb hby d_seq_44) (fun _ _ => ⟨rfl, e13, (by decide : 0 + 0 ≤ _), (by decide : 0 + 0 ≤ _)⟩)
    dsimp only [Pt.U, Pt.locs, Pt.cells, Pt.slots] at X14 l14 y14 z14 st14 hQ14
    subst l14 y14 z14
    obtain ⟨rfl, N14q, e14⟩ := hQ14
    have N14 := Fr.app N0 N14q
    replace pre : Pth p e below S0 T14 (mkF m 47 #[.val (.ref a1), .val (.ref b1), .val (.ref b1)] [(.int (own_eq xs ys))]) := fun t k => pre t (st14 _ k)
    by_cases z1 : (own_eq xs ys) = (0 : Int32)
    · replace pre : Pth p e below S0 T14 (mkF m 55 #[.val (.ref a1), .val (.ref b1), .val (.ref b1)] [(.int (0 : Int32))]) := fun t k => pre t (by
        show Steps p.tables e below (T14.setTop (mkF m 47 #[.val (.ref a1), .val (.ref b1), .val (.ref b1)] [(.int (own_eq xs ys))])) t
        refine XS.ifYes X14.here hx rfl (pc0 := 47) (pc' := 54) rfl (hb hby d_seq_47) rfl (XT.i0_eq_t z1) (by decide) (by decide) ?_
        show Steps p.tables e below (T14.setTop (mkF m 54 #[.val (.ref a1), .val (.ref b1), .val (.ref b1)] [])) t
        refine XS.iconst X14.here hx rfl (hb hby d_seq_54) ?_
        show Steps p.tables e below (T14.setTop (mkF m 55 #[.val (.ref a1), .val (.ref b1), .val (.ref b1)] [(.int (0 : Int32))])) t
        exact k)
      obtain ⟨fs, hr, hrun, hended, hW, hsame⟩ := X14.leave (v := some (.int (0 : Int32))) (fun h => by rw [Bd.returns] at h; cases h)
      subst hS0
      refine ⟨_, _, pre _ ?_, hrun, hended, _, _, rfl, ?_, ⟨_, rfl⟩, hW, hsame.mono (by decide) (by decide)⟩
      · exact retN X14 hx (t := .boolean) Bd.returns (by simp) (hb hby d_seq_55) hr
      · show Q_seq Z a1 b1 p1 p2 xs ys cz h0 n0 _ T14.heap _
        rw [e14]
        exact ⟨by rw [z1], N14, rfl⟩
    · replace pre : Pth p e below S0 T14 (mkF m 55 #[.val (.ref a1), .val (.ref b1), .val (.ref b1)] [(.int (1 : Int32))]) := fun t k => pre t (by
        show Steps p.tables e below (T14.setTop (mkF m 47 #[.val (.ref a1), .val (.ref b1), .val (.ref b1)] [(.int (own_eq xs ys))])) t
        refine XS.ifNo X14.here hx rfl (hb hby d_seq_47) rfl (XT.i0_eq_f z1) ?_
        show Steps p.tables e below (T14.setTop (mkF m 50 #[.val (.ref a1), .val (.ref b1), .val (.ref b1)] [])) t
        refine XS.iconst X14.here hx rfl (hb hby d_seq_50) ?_
        show Steps p.tables e below (T14.setTop (mkF m 51 #[.val (.ref a1), .val (.ref b1), .val (.ref b1)] [(.int (1 : Int32))])) t
        refine XS.goto X14.here hx rfl (pc0 := 51) (pc' := 55) rfl (hb hby d_seq_51) (by decide) (by decide) ?_
        show Steps p.tables e below (T14.setTop (mkF m 55 #[.val (.ref a1), .val (.ref b1), .val (.ref b1)] [(.int (1 : Int32))])) t
        exact k)
      obtain ⟨fs, hr, hrun, hended, hW, hsame⟩ := X14.leave (v := some (.int (1 : Int32))) (fun h => by rw [Bd.returns] at h; cases h)
      subst hS0
      refine ⟨_, _, pre _ ?_, hrun, hended, _, _, rfl, ?_, ⟨_, rfl⟩, hW, hsame.mono (by decide) (by decide)⟩
      · exact retN X14 hx (t := .boolean) Bd.returns (by simp) (hb hby d_seq_55) hr
      · show Q_seq Z a1 b1 p1 p2 xs ys cz h0 n0 _ T14.heap _
        rw [e14]
        exact ⟨by rw [own_eq01 z1], N14, rfl⟩
def Q_pick0 (Z : State)  (a_U : Addr) (h0 : Heap) (n0 : Nat) (v : Option Value) (h : Heap) (L : List Loc) : Prop := v = some (.ref a_U) ∧ Fr n0 L ∧ h = h0
set_option maxRecDepth 65536 in
set_option maxHeartbeats 40000000 in
theorem rm_pick0 (l : Launch) (Z : State) (a0 : Array Value) (hw : ∀ d ∈ tables_1, d.before a0 Z = true) (ws : List Jvm.Cond)  (a_U : Addr) (h0 : Heap) (n0 : Nat) (S_U : Sta Z h0 "com/example/originlint/originlint/EmbedderPolicy" "UNSAFE_NONE" "Lcom/example/originlint/originlint/EmbedderPolicy;" (.ref a_U)) :
    MetFree l (⟨"com/example/originlint/originlint/EmbedderPolicyIsCompatibleWithCrossOriginIsolationPinLaw", "pick", "(I)Lcom/example/originlint/originlint/EmbedderPolicy;"⟩ : MethodName) (head1 (Jvm.Cond.code (⟨"com/example/originlint/originlint/EmbedderPolicyIsCompatibleWithCrossOriginIsolationPinLaw", "pick", "(I)Lcom/example/originlint/originlint/EmbedderPolicy;"⟩ : MethodName) method_2_code 1 (some (.object "com/example/originlint/originlint/EmbedderPolicy")) :: ws) ({ frames := 0, cells := 0, slots := 0, locals := 0 } : Room)) (fun a U => a = #[(.int (0 : Int32))] ∧ Z.Warmed39 U.vm ∧ U.heap = h0) (fun _ _ _ _ _ => True) (fun _ U o U' => ∃ v L, o = .returned v ∧ Q_pick0 Z  a_U h0 n0 v U'.heap L ∧ FrameEnd U o U' L ({ frames := 0, cells := 0, slots := 0, locals := 0 } : Room).cells ({ frames := 0, cells := 0, slots := 0, locals := 0 } : Room).slots) := by
  refine MetFree.of_bodySF (plainFor_of_name pn_com_example_originlint_originlint_EmbedderPolicyIsCompatibleWithCrossOriginIsolationPinLaw) hisR ?_
  intro p e s m args below meth c s₁ Bd hml0 hP hK
  obtain ⟨rfl, hZ, hh⟩ := hP
  have hx := Bd.exec
  have hby := Bd.bytes
  have hml : c.maxLocals = 1 := hml0
  have hown : s.vm.findClass "com/example/originlint/originlint/EmbedderPolicyIsCompatibleWithCrossOriginIsolationPinLaw" = some m.cls := findClass_of_methodNamed Bd.named
  have hnm := (name_of_methodNamed Bd.named Bd.method).1
  have X0 : Stand p l e ({ frames := 0, cells := 0, slots := 0, locals := 0 } : Room) s m #[(.int (0 : Int32))] below meth c s₁ [] 0 0 := Stand.of_body Bd
  have e0 : s₁.heap = h0 := by rw [← hh, Bd.state]; rfl
  have N0 := Fr.nil n0
  obtain ⟨S0, hS0⟩ : ∃ S0, S0 = s₁.setTop (entryFrame m #[(.int (0 : Int32))] 1) := ⟨_, rfl⟩
  have pre : Pth p e below S0 s₁ (mkF m 0 #[.val (.int (0 : Int32))] []) := fun t k => by rw [hS0]; exact castTop (ef_pick0 m (0 : Int32)) k
  replace pre : Pth p e below S0 s₁ (mkF m 4 #[.val (.int (0 : Int32))] []) := fun t k => pre t (by
    show Steps p.tables e below (s₁.setTop (mkF m 0 #[.val (.int (0 : Int32))] [])) t
    refine XS.iloadN X0.here hx rfl (hb hby d_pick0_0) rfl ?_
    show Steps p.tables e below (s₁.setTop (mkF m 1 #[.val (.int (0 : Int32))] [(.int (0 : Int32))])) t
    refine XS.ifNo X0.here hx rfl (hb hby d_pick0_1) rfl (XT.i0_ne_f rfl) ?_
    show Steps p.tables e below (s₁.setTop (mkF m 4 #[.val (.int (0 : Int32))] [])) t
    exact k)
  obtain ⟨T15, X15, e15, st15⟩ := getS2 X0 hx hZ hown (host := "") (Or.inl (hw _ (List.mem_of_getElem? (i := 5) rfl))) Via.refl e0 S_U (g := (mkF m 4 #[.val (.int (0 : Int32))] [])) rfl (hb hby d_pick0_4)
  replace pre : Pth p e below S0 T15 (mkF m 7 #[.val (.int (0 : Int32))] [(.ref a_U)]) := fun t k => pre t (st15 _ k)
  obtain ⟨fs, hr, hrun, hended, hW, hsame⟩ := X15.leave (v := some (.ref a_U)) (fun h => by rw [Bd.returns] at h; cases h)
  subst hS0
  refine ⟨_, _, pre _ ?_, hrun, hended, _, _, rfl, ?_, ⟨_, rfl⟩, hW, hsame.mono (by decide) (by decide)⟩
  · exact retOut X15 hx (t := (.object "com/example/originlint/originlint/EmbedderPolicy")) Bd.returns rfl (by simp [Value.isRef, FieldType.isReference]) (hb hby d_pick0_7) hr
  · show Q_pick0 Z  a_U h0 n0 _ T15.heap _
    rw [e15]
    exact ⟨rfl, N0, rfl⟩
def Q_pick1 (Z : State)  (a_R : Addr) (h0 : Heap) (n0 : Nat) (v : Option Value) (h : Heap) (L : List Loc) : Prop := v = some (.ref a_R) ∧ Fr n0 L ∧ h = h0
set_option maxRecDepth 65536 in
set_option maxHeartbeats 40000000 in
theorem rm_pick1 (l : Launch) (Z : State) (a0 : Array Value) (hw : ∀ d ∈ tables_1, d.before a0 Z = true) (ws : List Jvm.Cond)  (a_R : Addr) (h0 : Heap) (n0 : Nat) (S_R : Sta Z h0 "com/example/originlint/originlint/EmbedderPolicy" "REQUIRE_CORP" "Lcom/example/originlint/originlint/EmbedderPolicy;" (.ref a_R)) :
    MetFree l (⟨"com/example/originlint/originlint/EmbedderPolicyIsCompatibleWithCrossOriginIsolationPinLaw", "pick", "(I)Lcom/example/originlint/originlint/EmbedderPolicy;"⟩ : MethodName) (head1 (Jvm.Cond.code (⟨"com/example/originlint/originlint/EmbedderPolicyIsCompatibleWithCrossOriginIsolationPinLaw", "pick", "(I)Lcom/example/originlint/originlint/EmbedderPolicy;"⟩ : MethodName) method_2_code 1 (some (.object "com/example/originlint/originlint/EmbedderPolicy")) :: ws) ({ frames := 0, cells := 0, slots := 0, locals := 0 } : Room)) (fun a U => a = #[(.int (1 : Int32))] ∧ Z.Warmed39 U.vm ∧ U.heap = h0) (fun _ _ _ _ _ => True) (fun _ U o U' => ∃ v L, o = .returned v ∧ Q_pick1 Z  a_R h0 n0 v U'.heap L ∧ FrameEnd U o U' L ({ frames := 0, cells := 0, slots := 0, locals := 0 } : Room).cells ({ frames := 0, cells := 0, slots := 0, locals := 0 } : Room).slots) := by
  refine MetFree.of_bodySF (plainFor_of_name pn_com_example_originlint_originlint_EmbedderPolicyIsCompatibleWithCrossOriginIsolationPinLaw) hisR ?_
  intro p e s m args below meth c s₁ Bd hml0 hP hK
  obtain ⟨rfl, hZ, hh⟩ := hP
  have hx := Bd.exec
  have hby := Bd.bytes
  have hml : c.maxLocals = 1 := hml0
  have hown : s.vm.findClass "com/example/originlint/originlint/EmbedderPolicyIsCompatibleWithCrossOriginIsolationPinLaw" = some m.cls := findClass_of_methodNamed Bd.named
  have hnm := (name_of_methodNamed Bd.named Bd.method).1
  have X0 : Stand p l e ({ frames := 0, cells := 0, slots := 0, locals := 0 } : Room) s m #[(.int (1 : Int32))] below meth c s₁ [] 0 0 := Stand.of_body Bd
  have e0 : s₁.heap = h0 := by rw [← hh, Bd.state]; rfl
  have N0 := Fr.nil n0
  obtain ⟨S0, hS0⟩ : ∃ S0, S0 = s₁.setTop (entryFrame m #[(.int (1 : Int32))] 1) := ⟨_, rfl⟩
  have pre : Pth p e below S0 s₁ (mkF m 0 #[.val (.int (1 : Int32))] []) := fun t k => by rw [hS0]; exact castTop (ef_pick1 m (1 : Int32)) k
  replace pre : Pth p e below S0 s₁ (mkF m 13 #[.val (.int (1 : Int32))] []) := fun t k => pre t (by
    show Steps p.tables e below (s₁.setTop (mkF m 0 #[.val (.int (1 : Int32))] [])) t
    refine XS.iloadN X0.here hx rfl (hb hby d_pick1_0) rfl ?_
    show Steps p.tables e below (s₁.setTop (mkF m 1 #[.val (.int (1 : Int32))] [(.int (1 : Int32))])) t
    refine XS.ifYes X0.here hx rfl (pc0 := 1) (pc' := 8) rfl (hb hby d_pick1_1) rfl (XT.i0_ne_t (by decide)) (by decide) (by decide) ?_
    show Steps p.tables e below (s₁.setTop (mkF m 8 #[.val (.int (1 : Int32))] [])) t
    refine XS.iloadN X0.here hx rfl (hb hby d_pick1_8) rfl ?_
    show Steps p.tables e below (s₁.setTop (mkF m 9 #[.val (.int (1 : Int32))] [(.int (1 : Int32))])) t
    refine XS.iconst X0.here hx rfl (hb hby d_pick1_9) ?_
    show Steps p.tables e below (s₁.setTop (mkF m 10 #[.val (.int (1 : Int32))] [(.int (1 : Int32)), (.int (1 : Int32))])) t
    refine XS.icmpNo X0.here hx rfl (hb hby d_pick1_10) rfl (XT.ii_ne_f rfl) ?_
    show Steps p.tables e below (s₁.setTop (mkF m 13 #[.val (.int (1 : Int32))] [])) t
    exact k)
  obtain ⟨T16, X16, e16, st16⟩ := getS2 X0 hx hZ hown (host := "") (Or.inl (hw _ (List.mem_of_getElem? (i := 46) rfl))) Via.refl e0 S_R (g := (mkF m 13 #[.val (.int (1 : Int32))] [])) rfl (hb hby d_pick1_13)
  replace pre : Pth p e below S0 T16 (mkF m 16 #[.val (.int (1 : Int32))] [(.ref a_R)]) := fun t k => pre t (st16 _ k)
  obtain ⟨fs, hr, hrun, hended, hW, hsame⟩ := X16.leave (v := some (.ref a_R)) (fun h => by rw [Bd.returns] at h; cases h)
  subst hS0
  refine ⟨_, _, pre _ ?_, hrun, hended, _, _, rfl, ?_, ⟨_, rfl⟩, hW, hsame.mono (by decide) (by decide)⟩
  · exact retOut X16 hx (t := (.object "com/example/originlint/originlint/EmbedderPolicy")) Bd.returns rfl (by simp [Value.isRef, FieldType.isReference]) (hb hby d_pick1_16) hr
  · show Q_pick1 Z  a_R h0 n0 _ T16.heap _
    rw [e16]
    exact ⟨rfl, N0, rfl⟩
def Q_pick2 (Z : State)  (a_C : Addr) (h0 : Heap) (n0 : Nat) (v : Option Value) (h : Heap) (L : List Loc) : Prop := v = some (.ref a_C) ∧ Fr n0 L ∧ h = h0
set_option maxRecDepth 65536 in
set_option maxHeartbeats 40000000 in
theorem rm_pick2 (l : Launch) (Z : State) (a0 : Array Value) (hw : ∀ d ∈ tables_1, d.before a0 Z = true) (ws : List Jvm.Cond)  (a_C : Addr) (h0 : Heap) (n0 : Nat) (S_C : Sta Z h0 "com/example/originlint/originlint/EmbedderPolicy" "CREDENTIALLESS" "Lcom/example/originlint/originlint/EmbedderPolicy;" (.ref a_C)) :
    MetFree l (⟨"com/example/originlint/originlint/EmbedderPolicyIsCompatibleWithCrossOriginIsolationPinLaw", "pick", "(I)Lcom/example/originlint/originlint/EmbedderPolicy;"⟩ : MethodName) (head1 (Jvm.Cond.code (⟨"com/example/originlint/originlint/EmbedderPolicyIsCompatibleWithCrossOriginIsolationPinLaw", "pick", "(I)Lcom/example/originlint/originlint/EmbedderPolicy;"⟩ : MethodName) method_2_code 1 (some (.object "com/example/originlint/originlint/EmbedderPolicy")) :: ws) ({ frames := 0, cells := 0, slots := 0, locals := 0 } : Room)) (fun a U => a = #[(.int (2 : Int32))] ∧ Z.Warmed39 U.vm ∧ U.heap = h0) (fun _ _ _ _ _ => True) (fun _ U o U' => ∃ v L, o = .returned v ∧ Q_pick2 Z  a_C h0 n0 v U'.heap L ∧ FrameEnd U o U' L ({ frames := 0, cells := 0, slots := 0, locals := 0 } : Room).cells ({ frames := 0, cells := 0, slots := 0, locals := 0 } : Room).slots) := by
  refine MetFree.of_bodySF (plainFor_of_name pn_com_example_originlint_originlint_EmbedderPolicyIsCompatibleWithCrossOriginIsolationPinLaw) hisR ?_
  intro p e s m args below meth c s₁ Bd hml0 hP hK
  obtain ⟨rfl, hZ, hh⟩ := hP
  have hx := Bd.exec
  have hby := Bd.bytes
  have hml : c.maxLocals = 1 := hml0
  have hown : s.vm.findClass "com/example/originlint/originlint/EmbedderPolicyIsCompatibleWithCrossOriginIsolationPinLaw" = some m.cls := findClass_of_methodNamed Bd.named
  have hnm := (name_of_methodNamed Bd.named Bd.method).1
  have X0 : Stand p l e ({ frames := 0, cells := 0, slots := 0, locals := 0 } : Room) s m #[(.int (2 : Int32))] below meth c s₁ [] 0 0 := Stand.of_body Bd
  have e0 : s₁.heap = h0 := by rw [← hh, Bd.state]; rfl
  have N0 := Fr.nil n0
  obtain ⟨S0, hS0⟩ : ∃ S0, S0 = s₁.setTop (entryFrame m #[(.int (2 : Int32))] 1) := ⟨_, rfl⟩
  have pre : Pth p e below S0 s₁ (mkF m 0 #[.val (.int (2 : Int32))] []) := fun t k => by rw [hS0]; exact castTop (ef_pick2 m (2 : Int32)) k
  replace pre : Pth p e below S0 s₁ (mkF m 17 #[.val (.int (2 : Int32))] []) := fun t k => pre t (by
    show Steps p.tables e below (s₁.setTop (mkF m 0 #[.val (.int (2 : Int32))] [])) t
    refine XS.iloadN X0.here hx rfl (hb hby d_pick2_0) rfl ?_
    show Steps p.tables e below (s₁.setTop (mkF m 1 #[.val (.int (2 : Int32))] [(.int (2 : Int32))])) t
    refine XS.ifYes X0.here hx rfl (pc0 := 1) (pc' := 8) rfl (hb hby d_pick2_1) rfl (XT.i0_ne_t (by decide)) (by decide) (by decide) ?_
    show Steps p.tables e below (s₁.setTop (mkF m 8 #[.val (.int (2 : Int32))] [])) t
    refine XS.iloadN X0.here hx rfl (hb hby d_pick2_8) rfl ?_
    show Steps p.tables e below (s₁.setTop (mkF m 9 #[.val (.int (2 : Int32))] [(.int (2 : Int32))])) t
    refine XS.iconst X0.here hx rfl (hb hby d_pick2_9) ?_
    show Steps p.tables e below (s₁.setTop (mkF m 10 #[.val (.int (2 : Int32))] [(.int (1 : Int32)), (.int (2 : Int32))])) t
    refine XS.icmpYes X0.here hx rfl (pc0 := 10) (pc' := 17) rfl (hb hby d_pick2_10) rfl (XT.ii_ne_t (by decide)) (by decide) (by decide) ?_
    show Steps p.tables e below (s₁.setTop (mkF m 17 #[.val (.int (2 : Int32))] [])) t
    exact k)
  obtain ⟨T17, X17, e17, st17⟩ := getS2 X0 hx hZ hown (host := "") (Or.inl (hw _ (List.mem_of_getElem? (i := 44) rfl))) Via.refl e0 S_C (g := (mkF m 17 #[.val (.int (2 : Int32))] [])) rfl (hb hby d_pick2_17)
  replace pre : Pth p e below S0 T17 (mkF m 20 #[.val (.int (2 : Int32))] [(.ref a_C)]) := fun t k => pre t (st17 _ k)
  obtain ⟨fs, hr, hrun, hended, hW, hsame⟩ := X17.leave (v := some (.ref a_C)) (fun h => by rw [Bd.returns] at h; cases h)
  subst hS0
  refine ⟨_, _, pre _ ?_, hrun, hended, _, _, rfl, ?_, ⟨_, rfl⟩, hW, hsame.mono (by decide) (by decide)⟩
  · exact retOut X17 hx (t := (.object "com/example/originlint/originlint/EmbedderPolicy")) Bd.returns rfl (by simp [Value.isRef, FieldType.isReference]) (hb hby d_pick2_20) hr
  · show Q_pick2 Z  a_C h0 n0 _ T17.heap _
    rw [e17]
    exact ⟨rfl, N0, rfl⟩
def Q_tok (Z : State) (a1 : Addr) (t1 : Addr) (h0 : Heap) (n0 : Nat) (v : Option Value) (h : Heap) (L : List Loc) : Prop := v = some (.ref t1) ∧ Fr n0 L ∧ h = h0
set_option maxRecDepth 65536 in
set_option maxHeartbeats 40000000 in
theorem rm_tok (l : Launch) (Z : State) (a0 : Array Value) (hw : ∀ d ∈ tables_1, d.before a0 Z = true) (ws : List Jvm.Cond) (a1 : Addr) (t1 : Addr) (h0 : Heap) (n0 : Nat) (T1 : Fld Z h0 a1 "com/example/originlint/originlint/EmbedderPolicy" "token" "Ljava/lang/String;" (.ref t1)) :
    MetFree l (⟨"com/example/originlint/originlint/EmbedderPolicy", "token", "()Ljava/lang/String;"⟩ : MethodName) (head1 (Jvm.Cond.code (⟨"com/example/originlint/originlint/EmbedderPolicy", "token", "()Ljava/lang/String;"⟩ : MethodName) prog_16_method_4_code 1 (some (.object "java/lang/String")) :: ws) ({ frames := 0, cells := 0, slots := 0, locals := 0 } : Room)) (fun a U => a = #[(.ref a1)] ∧ Z.Warmed39 U.vm ∧ U.heap = h0) (fun _ _ _ _ _ => True) (fun _ U o U' => ∃ v L, o = .returned v ∧ Q_tok Z a1 t1 h0 n0 v U'.heap L ∧ FrameEnd U o U' L ({ frames := 0, cells := 0, slots := 0, locals := 0 } : Room).cells ({ frames := 0, cells := 0, slots := 0, locals := 0 } : Room).slots) := by
  refine MetFree.of_bodySF (plainFor_of_name pn_com_example_originlint_originlint_EmbedderPolicy) hisR ?_
  intro p e s m args below meth c s₁ Bd hml0 hP hK
  obtain ⟨rfl, hZ, hh⟩ := hP
  have hx := Bd.exec
  have hby := Bd.bytes
  have hml : c.maxLocals = 1 := hml0
  have hown : s.vm.findClass "com/example/originlint/originlint/EmbedderPolicy" = some m.cls := findClass_of_methodNamed Bd.named
  have hnm := (name_of_methodNamed Bd.named Bd.method).1
  have X0 : Stand p l e ({ frames := 0, cells := 0, slots := 0, locals := 0 } : Room) s m #[(.ref a1)] below meth c s₁ [] 0 0 := Stand.of_body Bd
  have e0 : s₁.heap = h0 := by rw [← hh, Bd.state]; rfl
  have N0 := Fr.nil n0
  obtain ⟨S0, hS0⟩ : ∃ S0, S0 = s₁.setTop (entryFrame m #[(.ref a1)] 1) := ⟨_, rfl⟩
  have pre : Pth p e below S0 s₁ (mkF m 0 #[.val (.ref a1)] []) := fun t k => by rw [hS0]; exact castTop (ef_tok m a1) k
  replace pre : Pth p e below S0 s₁ (mkF m 1 #[.val (.ref a1)] [(.ref a1)]) := fun t k => pre t (by
    show Steps p.tables e below (s₁.setTop (mkF m 0 #[.val (.ref a1)] [])) t
    refine XS.aloadN X0.here hx rfl (hb hby d_tok_0) rfl rfl ?_
    show Steps p.tables e below (s₁.setTop (mkF m 1 #[.val (.ref a1)] [(.ref a1)])) t
    exact k)
  obtain ⟨T18, X18, e18, st18⟩ := getF X0 hx hZ hown (host := "") (Or.inl (hw _ (List.mem_of_getElem? (i := 13) rfl))) Via.refl e0 T1 (g := (mkF m 1 #[.val (.ref a1)] [(.ref a1)])) rfl rfl (hb hby d_tok_1)
  replace pre : Pth p e below S0 T18 (mkF m 4 #[.val (.ref a1)] [(.ref t1)]) := fun t k => pre t (st18 _ k)
  obtain ⟨fs, hr, hrun, hended, hW, hsame⟩ := X18.leave (v := some (.ref t1)) (fun h => by rw [Bd.returns] at h; cases h)
  subst hS0
  refine ⟨_, _, pre _ ?_, hrun, hended, _, _, rfl, ?_, ⟨_, rfl⟩, hW, hsame.mono (by decide) (by decide)⟩
  · exact retOut X18 hx (t := (.object "java/lang/String")) Bd.returns rfl (by simp [Value.isRef, FieldType.isReference]) (hb hby d_tok_4) hr
  · show Q_tok Z a1 t1 h0 n0 _ T18.heap _
    rw [e18]
    exact ⟨rfl, N0, rfl⟩
def Q_icA (Z : State) (a_U : Addr) (h0 : Heap) (n0 : Nat) (v : Option Value) (h : Heap) (L : List Loc) : Prop := v = some (.int 0) ∧ Fr n0 L ∧ h = h0
set_option maxRecDepth 65536 in
set_option maxHeartbeats 40000000 in
theorem rm_icA (l : Launch) (Z : State) (a0 : Array Value) (hw : ∀ d ∈ tables_1, d.before a0 Z = true) (ws : List Jvm.Cond) (a_U : Addr) (h0 : Heap) (n0 : Nat) (S_U : Sta Z h0 "com/example/originlint/originlint/EmbedderPolicy" "UNSAFE_NONE" "Lcom/example/originlint/originlint/EmbedderPolicy;" (.ref a_U)) :
    MetFree l (⟨"com/example/originlint/originlint/EmbedderPolicy", "isCompatibleWithCrossOriginIsolation", "()Z"⟩ : MethodName) (head1 (Jvm.Cond.code (⟨"com/example/originlint/originlint/EmbedderPolicy", "isCompatibleWithCrossOriginIsolation", "()Z"⟩ : MethodName) prog_16_method_5_code 1 (some .boolean) :: ws) ({ frames := 0, cells := 0, slots := 0, locals := 0 } : Room)) (fun a U => a = #[(.ref a_U)] ∧ Z.Warmed39 U.vm ∧ U.heap = h0) (fun _ _ _ _ _ => True) (fun _ U o U' => ∃ v L, o = .returned v ∧ Q_icA Z a_U h0 n0 v U'.heap L ∧ FrameEnd U o U' L ({ frames := 0, cells := 0, slots := 0, locals := 0 } : Room).cells ({ frames := 0, cells := 0, slots := 0, locals := 0 } : Room).slots) := by
  refine MetFree.of_bodySF (plainFor_of_name pn_com_example_originlint_originlint_EmbedderPolicy) hisR ?_
  intro p e s m args below meth c s₁ Bd hml0 hP hK
  obtain ⟨rfl, hZ, hh⟩ := hP
  have hx := Bd.exec
  have hby := Bd.bytes
  have hml : c.maxLocals = 1 := hml0
  have hown : s.vm.findClass "com/example/originlint/originlint/EmbedderPolicy" = some m.cls := findClass_of_methodNamed Bd.named
  have hnm := (name_of_methodNamed Bd.named Bd.method).1
  have X0 : Stand p l e ({ frames := 0, cells := 0, slots := 0, locals := 0 } : Room) s m #[(.ref a_U)] below meth c s₁ [] 0 0 := Stand.of_body Bd
  have e0 : s₁.heap = h0 := by rw [← hh, Bd.state]; rfl
  have N0 := Fr.nil n0
  obtain ⟨S0, hS0⟩ : ∃ S0, S0 = s₁.setTop (entryFrame m #[(.ref a_U)] 1) := ⟨_, rfl⟩
  have pre : Pth p e below S0 s₁ (mkF m 0 #[.val (.ref a_U)] []) := fun t k => by rw [hS0]; exact castTop (ef_icA m a_U) k
  replace pre : Pth p e below S0 s₁ (mkF m 1 #[.val (.ref a_U)] [(.ref a_U)]) := fun t k => pre t (by
    show Steps p.tables e below (s₁.setTop (mkF m 0 #[.val (.ref a_U)] [])) t
    refine XS.aloadN X0.here hx rfl (hb hby d_icA_0) rfl rfl ?_
    show Steps p.tables e below (s₁.setTop (mkF m 1 #[.val (.ref a_U)] [(.ref a_U)])) t
    exact k)
  obtain ⟨T19, X19, e19, st19⟩ := getS2 X0 hx hZ hown (host := "") (Or.inl (hw _ (List.mem_of_getElem? (i := 43) rfl))) Via.refl e0 S_U (g := (mkF m 1 #[.val (.ref a_U)] [(.ref a_U)])) rfl (hb hby d_icA_1)
  replace pre : Pth p e below S0 T19 (mkF m 4 #[.val (.ref a_U)] [(.ref a_U), (.ref a_U)]) := fun t k => pre t (st19 _ k)
  replace pre : Pth p e below S0 T19 (mkF m 12 #[.val (.ref a_U)] [(.int (0 : Int32))]) := fun t k => pre t (by
    show Steps p.tables e below (T19.setTop (mkF m 4 #[.val (.ref a_U)] [(.ref a_U), (.ref a_U)])) t
    refine Jvm.RoadKit.acmp (g := (mkF m 4 #[.val (.ref a_U)] [(.ref a_U), (.ref a_U)])) X19 hx rfl rfl rfl (pc0 := 4) (pc' := 11) (same := true) rfl (hb hby d_icA_4) rfl (decide_eq_true rfl) (by decide) (by decide) ?_
    show Steps p.tables e below (T19.setTop (mkF m 11 #[.val (.ref a_U)] [])) t
    refine XS.iconst X19.here hx rfl (hb hby d_icA_11) ?_
    show Steps p.tables e below (T19.setTop (mkF m 12 #[.val (.ref a_U)] [(.int (0 : Int32))])) t
    exact k)
  obtain ⟨fs, hr, hrun, hended, hW, hsame⟩ := X19.leave (v := some (.int (0 : Int32))) (fun h => by rw [Bd.returns] at h; cases h)
  subst hS0
  refine ⟨_, _, pre _ ?_, hrun, hended, _, _, rfl, ?_, ⟨_, rfl⟩, hW, hsame.mono (by decide) (by decide)⟩
  · exact retN X19 hx (t := .boolean) Bd.returns (by simp) (hb hby d_icA_12) hr
  · show Q_icA Z a_U h0 n0 _ T19.heap _
    rw [e19]
    exact ⟨rfl, N0, rfl⟩
def Q_icB (Z : State) (a1 : Addr) (a_U : Addr) (h0 : Heap) (n0 : Nat) (v : Option Value) (h : Heap) (L : List Loc) : Prop := v = some (.int 1) ∧ Fr n0 L ∧ h = h0
set_option maxRecDepth 65536 in
set_option maxHeartbeats 40000000 in
theorem rm_icB (l : Launch) (Z : State) (a0 : Array Value) (hw : ∀ d ∈ tables_1, d.before a0 Z = true) (ws : List Jvm.Cond) (a1 : Addr) (a_U : Addr) (h0 : Heap) (n0 : Nat) (S_U : Sta Z h0 "com/example/originlint/originlint/EmbedderPolicy" "UNSAFE_NONE" "Lcom/example/originlint/originlint/EmbedderPolicy;" (.ref a_U)) (ne : a1 ≠ a_U) :
    MetFree l (⟨"com/example/originlint/originlint/EmbedderPolicy", "isCompatibleWithCrossOriginIsolation", "()Z"⟩ : MethodName) (head1 (Jvm.Cond.code (⟨"com/example/originlint/originlint/EmbedderPolicy", "isCompatibleWithCrossOriginIsolation", "()Z"⟩ : MethodName) prog_16_method_5_code 1 (some .boolean) :: ws) ({ frames := 0, cells := 0, slots := 0, locals := 0 } : Room)) (fun a U => a = #[(.ref a1)] ∧ Z.Warmed39 U.vm ∧ U.heap = h0) (fun _ _ _ _ _ => True) (fun _ U o U' => ∃ v L, o = .returned v ∧ Q_icB Z a1 a_U h0 n0 v U'.heap L ∧ FrameEnd U o U' L ({ frames := 0, cells := 0, slots := 0, locals := 0 } : Room).cells ({ frames := 0, cells := 0, slots := 0, locals := 0 } : Room).slots) := by
  refine MetFree.of_bodySF (plainFor_of_name pn_com_example_originlint_originlint_EmbedderPolicy) hisR ?_
  intro p e s m args below meth c s₁ Bd hml0 hP hK
  obtain ⟨rfl, hZ, hh⟩ := hP
  have hx := Bd.exec
  have hby := Bd.bytes
  have hml : c.maxLocals = 1 := hml0
  have hown : s.vm.findClass "com/example/originlint/originlint/EmbedderPolicy" = some m.cls := findClass_of_methodNamed Bd.named
  have hnm := (name_of_methodNamed Bd.named Bd.method).1
  have X0 : Stand p l e ({ frames := 0, cells := 0, slots := 0, locals := 0 } : Room) s m #[(.ref a1)] below meth c s₁ [] 0 0 := Stand.of_body Bd
  have e0 : s₁.heap = h0 := by rw [← hh, Bd.state]; rfl
  have N0 := Fr.nil n0
  obtain ⟨S0, hS0⟩ : ∃ S0, S0 = s₁.setTop (entryFrame m #[(.ref a1)] 1) := ⟨_, rfl⟩
  have pre : Pth p e below S0 s₁ (mkF m 0 #[.val (.ref a1)] []) := fun t k => by rw [hS0]; exact castTop (ef_icB m a1) k
  replace pre : Pth p e below S0 s₁ (mkF m 1 #[.val (.ref a1)] [(.ref a1)]) := fun t k => pre t (by
    show Steps p.tables e below (s₁.setTop (mkF m 0 #[.val (.ref a1)] [])) t
    refine XS.aloadN X0.here hx rfl (hb hby d_icB_0) rfl rfl ?_
    show Steps p.tables e below (s₁.setTop (mkF m 1 #[.val (.ref a1)] [(.ref a1)])) t
    exact k)
  obtain ⟨T20, X20, e20, st20⟩ := getS2 X0 hx hZ hown (host := "") (Or.inl (hw _ (List.mem_of_getElem? (i := 43) rfl))) Via.refl e0 S_U (g := (mkF m 1 #[.val (.ref a1)] [(.ref a1)])) rfl (hb hby d_icB_1)
  replace pre : Pth p e below S0 T20 (mkF m 4 #[.val (.ref a1)] [(.ref a_U), (.ref a1)]) := fun t k => pre t (st20 _ k)
  replace pre : Pth p e below S0 T20 (mkF m 12 #[.val (.ref a1)] [(.int (1 : Int32))]) := fun t k => pre t (by
    show Steps p.tables e below (T20.setTop (mkF m 4 #[.val (.ref a1)] [(.ref a_U), (.ref a1)])) t
    refine Jvm.RoadKit.acmp (g := (mkF m 4 #[.val (.ref a1)] [(.ref a_U), (.ref a1)])) X20 hx rfl rfl rfl (pc0 := 4) (pc' := 7) (same := false) rfl (hb hby d_icB_4) rfl (decide_eq_false (own_rne ne)) (by decide) (by decide) ?_
    show Steps p.tables e below (T20.setTop (mkF m 7 #[.val (.ref a1)] [])) t
    refine XS.iconst X20.here hx rfl (hb hby d_icB_7) ?_
    show Steps p.tables e below (T20.setTop (mkF m 8 #[.val (.ref a1)] [(.int (1 : Int32))])) t
    refine XS.goto X20.here hx rfl (pc0 := 8) (pc' := 12) rfl (hb hby d_icB_8) (by decide) (by decide) ?_
    show Steps p.tables e below (T20.setTop (mkF m 12 #[.val (.ref a1)] [(.int (1 : Int32))])) t
    exact k)
  obtain ⟨fs, hr, hrun, hended, hW, hsame⟩ := X20.leave (v := some (.int (1 : Int32))) (fun h => by rw [Bd.returns] at h; cases h)
  subst hS0
  refine ⟨_, _, pre _ ?_, hrun, hended, _, _, rfl, ?_, ⟨_, rfl⟩, hW, hsame.mono (by decide) (by decide)⟩
  · exact retN X20 hx (t := .boolean) Bd.returns (by simp) (hb hby d_icB_12) hr
  · show Q_icB Z a1 a_U h0 n0 _ T20.heap _
    rw [e20]
    exact ⟨rfl, N0, rfl⟩
def Q_law (Z : State) (p0 : Int32) (a_U t_U p_U a_R t_R p_R a_C t_C p_C : Addr) (cz : Int32) (h0 : Heap) (n0 : Nat) (v : Option Value) (h : Heap) (L : List Loc) : Prop := v = some (.int 1) ∧ Fr n0 L
set_option maxRecDepth 65536 in
set_option maxHeartbeats 40000000 in
theorem rm_law (l : Launch) (Z : State) (a0 : Array Value) (hw : ∀ d ∈ tables_1, d.before a0 Z = true) (ws : List Jvm.Cond) (p0 : Int32) (a_U t_U p_U a_R t_R p_R a_C t_C p_C : Addr) (cz : Int32) (h0 : Heap) (n0 : Nat) (Z0 : n0 ≤ h0.size) (S_U : Sta Z h0 "com/example/originlint/originlint/EmbedderPolicy" "UNSAFE_NONE" "Lcom/example/originlint/originlint/EmbedderPolicy;" (.ref a_U)) (E_U : Exa Z h0 a_U "com/example/originlint/originlint/EmbedderPolicy") (T_U : Fld Z h0 a_U "com/example/originlint/originlint/EmbedderPolicy" "token" "Ljava/lang/String;" (.ref t_U)) (Q_U : OStr Z h0 t_U p_U own_U) (S_R : Sta Z h0 "com/example/originlint/originlint/EmbedderPolicy" "REQUIRE_CORP" "Lcom/example/originlint/originlint/EmbedderPolicy;" (.ref a_R)) (E_R : Exa Z h0 a_R "com/example/originlint/originlint/EmbedderPolicy") (T_R : Fld Z h0 a_R "com/example/originlint/originlint/EmbedderPolicy" "token" "Ljava/lang/String;" (.ref t_R)) (Q_R : OStr Z h0 t_R p_R own_R) (S_C : Sta Z h0 "com/example/originlint/originlint/EmbedderPolicy" "CREDENTIALLESS" "Lcom/example/originlint/originlint/EmbedderPolicy;" (.ref a_C)) (E_C : Exa Z h0 a_C "com/example/originlint/originlint/EmbedderPolicy") (T_C : Fld Z h0 a_C "com/example/originlint/originlint/EmbedderPolicy" "token" "Ljava/lang/String;" (.ref t_C)) (Q_C : OStr Z h0 t_C p_C own_C) (ne_R : a_R ≠ a_U) (ne_C : a_C ≠ a_U) (Scs : Sta Z h0 "java/lang/String" "COMPACT_STRINGS" "Z" (.int cz)) (hcz : ¬ cz = 0) (hZh : Z.heap = h0) (hn0 : n0 = Z.heap.size) (hh30 : Jvm.Lit.constHeld Z "com/example/originlint/originlint/EmbedderPolicyIsCompatibleWithCrossOriginIsolationPinLaw" 30) (hh38 : Jvm.Lit.constHeld Z "com/example/originlint/originlint/EmbedderPolicyIsCompatibleWithCrossOriginIsolationPinLaw" 38) (hcw : Jvm.Lit.compactW.before a0 Z = true) :
    MetFree l x (head1 (Jvm.Cond.code x code maxLocals ret :: ws) room_1) (fun a U => a = #[(.int p0)] ∧ U = Z) (fun _ _ _ _ _ => True) (fun _ U o U' => ∃ v L, o = .returned v ∧ Q_law Z p0 a_U t_U p_U a_R t_R p_R a_C t_C p_C cz h0 n0 v U'.heap L ∧ ReturnedEndW U o U' L room_1.cells room_1.slots) := by
  refine MetFree.of_bodySF (plainFor_of_name pn_com_example_originlint_originlint_EmbedderPolicyIsCompatibleWithCrossOriginIsolationPinLaw) hisR ?_
  intro p e s m args below meth c s₁ Bd hml0 hP hK
  obtain ⟨rfl, hsZ⟩ := hP
  have hZ : Z.Warmed39 s.vm := by rw [hsZ]; exact State.Warmed39.refl Z
  have hh : s.heap = h0 := by rw [hsZ]; exact hZh
  have hkeep : ∀ (b : Addr) (cl : Cell), Z.heap[b]? = some cl → s.heap[b]? = some cl := fun b cl q => by rw [hsZ]; exact q
  have I0 : IB Z s.vm [] := by rw [hsZ]; exact IB.start
  have hSin := (State.WarmedH.refl s).since s.heap.size
  have hkin : s.heap.size ≤ h0.size := by rw [hh]; exact Nat.le_refl _
  have wS : ∀ a ∈ Bundle.stringAtoms, a.before a0 Z = true := fun d hd => hw d (own_atoms d hd)
  have hns : n0 = s.heap.size := by rw [hn0, hsZ]
  have hx := Bd.exec
  have hby := Bd.bytes
  have hml : c.maxLocals = 7 := hml0
  have hown : s.vm.findClass "com/example/originlint/originlint/EmbedderPolicyIsCompatibleWithCrossOriginIsolationPinLaw" = some m.cls := findClass_of_methodNamed Bd.named
  have hnm := (name_of_methodNamed Bd.named Bd.method).1
  have X0 : Stand p l e room_1 s m #[(.int p0)] below meth c s₁ [] 0 0 := Stand.of_body Bd
  have e0 : s₁.heap = h0 := by rw [← hh, Bd.state]; rfl
  have N0 := Fr.nil n0
  obtain ⟨S0, hS0⟩ : ∃ S0, S0 = s₁.setTop (entryFrame m #[(.int p0)] maxLocals) := ⟨_, rfl⟩
  have pre : Pth p e below S0 s₁ (mkF m 0 #[.val (.int p0), .unset, .unset, .unset, .unset, .unset, .unset] []) := fun t k => by rw [hS0]; exact castTop (ef_law m p0) k
  replace pre : Pth p e below S0 s₁ (mkF m 7 #[.val (.int p0), .val (.int ((p0 &&& (2147483647 : Int32)) % (3 : Int32))), .unset, .unset, .unset, .unset, .unset] []) := fun t k => pre t (by
    show Steps p.tables e below (s₁.setTop (mkF m 0 #[.val (.int p0), .unset, .unset, .unset, .unset, .unset, .unset] [])) t
    refine XS.iloadN X0.here hx rfl (hb hby at_0) rfl ?_
    show Steps p.tables e below (s₁.setTop (mkF m 1 #[.val (.int p0), .unset, .unset, .unset, .unset, .unset, .unset] [(.int p0)])) t
    refine X0.ldcInt hx hown (mvT hZ (hw _ (List.mem_of_getElem? (i := 0) rfl))) (g := (mkF m 1 #[.val (.int p0), .unset, .unset, .unset, .unset, .unset, .unset] [(.int p0)])) rfl (hb hby at_1) _ ?_
    show Steps p.tables e below (s₁.setTop (mkF m 3 #[.val (.int p0), .unset, .unset, .unset, .unset, .unset, .unset] [(.int (2147483647 : Int32)), (.int p0)])) t
    refine XS.iand X0.here hx rfl (hb hby at_3) rfl ?_
    show Steps p.tables e below (s₁.setTop (mkF m 4 #[.val (.int p0), .unset, .unset, .unset, .unset, .unset, .unset] [(.int (p0 &&& (2147483647 : Int32)))])) t
    refine XS.iconst X0.here hx rfl (hb hby at_4) ?_
    show Steps p.tables e below (s₁.setTop (mkF m 5 #[.val (.int p0), .unset, .unset, .unset, .unset, .unset, .unset] [(.int (3 : Int32)), (.int (p0 &&& (2147483647 : Int32)))])) t
    refine iremM (g := (mkF m 5 #[.val (.int p0), .unset, .unset, .unset, .unset, .unset, .unset] [(.int (3 : Int32)), (.int (p0 &&& (2147483647 : Int32)))])) X0 hx rfl (hb hby at_5) rfl (by decide) ?_
    show Steps p.tables e below (s₁.setTop (mkF m 6 #[.val (.int p0), .unset, .unset, .unset, .unset, .unset, .unset] [(.int ((p0 &&& (2147483647 : Int32)) % (3 : Int32)))])) t
    refine XS.istoreN X0.here hx rfl (hb hby at_6) rfl (l' := #[.val (.int p0), .val (.int ((p0 &&& (2147483647 : Int32)) % (3 : Int32))), .unset, .unset, .unset, .unset, .unset]) rfl ?_
    show Steps p.tables e below (s₁.setTop (mkF m 7 #[.val (.int p0), .val (.int ((p0 &&& (2147483647 : Int32)) % (3 : Int32))), .unset, .unset, .unset, .unset, .unset] [])) t
    exact k)
  rcases own_k3 p0 with hk | hk | hk
  · rw [hk] at pre
    replace pre : Pth p e below S0 s₁ (mkF m 8 #[.val (.int p0), .val (.int (0 : Int32)), .unset, .unset, .unset, .unset, .unset] [(.int (0 : Int32))]) := fun t k => pre t (by
      show Steps p.tables e below (s₁.setTop (mkF m 7 #[.val (.int p0), .val (.int (0 : Int32)), .unset, .unset, .unset, .unset, .unset] [])) t
      refine XS.iloadN X0.here hx rfl (hb hby at_7) rfl ?_
      show Steps p.tables e below (s₁.setTop (mkF m 8 #[.val (.int p0), .val (.int (0 : Int32)), .unset, .unset, .unset, .unset, .unset] [(.int (0 : Int32))])) t
      exact k)
    obtain ⟨_, _, ⟨T21, L21, k21, n21⟩, -, X21, ⟨Lc21, hQ21, l21, y21, z21⟩, st21⟩ := Jvm.LawKit.callS X0 hx (y := (⟨"com/example/originlint/originlint/EmbedderPolicyIsCompatibleWithCrossOriginIsolationPinLaw", "pick", "(I)Lcom/example/originlint/originlint/EmbedderPolicy;"⟩ : MethodName)) hown (mvT hZ (hw _ (List.mem_of_getElem? (i := 1) rfl))) (mvT hZ (hw _ (List.mem_of_getElem? (i := 2) rfl))) (mvT hZ (hw _ (List.mem_of_getElem? (i := 3) rfl))) (mvT hZ (hw _ (List.mem_of_getElem? (i := 4) rfl))) (by decide) (backOf (W := 0) (rm_pick0 l Z a0 hw [] a_U h0 n0 S_U) hZ (hw _ (List.mem_of_getElem? (i := 4) rfl)) (hw _ (List.mem_of_getElem? (i := 3) rfl)) (by decide) (by decide)) (g := (mkF m 8 #[.val (.int p0), .val (.int (0 : Int32)), .unset, .unset, .unset, .unset, .unset] [(.int (0 : Int32))])) rfl (by rw [hml]; rfl) (argsL := [(.int (0 : Int32))]) (rest := []) (lenOf pd__I_Lcom_example_originlint_originlint_EmbedderPolicy_ rfl) rfl (by show 2 * 0 + _ ≤ _; exact Nat.le_of_eq rfl) (hb hby at_8) (fun _ _ => ⟨rfl, e0, (by decide : 0 + 0 ≤ _), (by decide : 0 + 0 ≤ _)⟩)
    dsimp only [Pt.U, Pt.locs, Pt.cells, Pt.slots] at X21 l21 y21 z21 st21 hQ21
    subst l21 y21 z21
    obtain ⟨rfl, N21q, e21⟩ := hQ21
    have N21 := Fr.app N0 N21q
    replace pre : Pth p e below S0 T21 (mkF m 11 #[.val (.int p0), .val (.int (0 : Int32)), .unset, .unset, .unset, .unset, .unset] [(.ref a_U)]) := fun t k => pre t (st21 _ k)
    replace pre : Pth p e below S0 T21 (mkF m 29 #[.val (.int p0), .val (.int (0 : Int32)), .val (.ref a_U), .val (.int (0 : Int32)), .unset, .unset, .unset] [(.ref a_U)]) := fun t k => pre t (by
      show Steps p.tables e below (T21.setTop (mkF m 11 #[.val (.int p0), .val (.int (0 : Int32)), .unset, .unset, .unset, .unset, .unset] [(.ref a_U)])) t
      refine XS.astoreN X21.here hx rfl (hb hby at_11) rfl rfl (l' := #[.val (.int p0), .val (.int (0 : Int32)), .val (.ref a_U), .unset, .unset, .unset, .unset]) rfl ?_
      show Steps p.tables e below (T21.setTop (mkF m 12 #[.val (.int p0), .val (.int (0 : Int32)), .val (.ref a_U), .unset, .unset, .unset, .unset] [])) t
      refine XS.iloadN X21.here hx rfl (hb hby at_12) rfl ?_
      show Steps p.tables e below (T21.setTop (mkF m 13 #[.val (.int p0), .val (.int (0 : Int32)), .val (.ref a_U), .unset, .unset, .unset, .unset] [(.int (0 : Int32))])) t
      refine XS.iconst X21.here hx rfl (hb hby at_13) ?_
      show Steps p.tables e below (T21.setTop (mkF m 14 #[.val (.int p0), .val (.int (0 : Int32)), .val (.ref a_U), .unset, .unset, .unset, .unset] [(.int (1 : Int32)), (.int (0 : Int32))])) t
      refine XS.icmpNo X21.here hx rfl (hb hby at_14) rfl (XT.ii_eq_f (by decide)) ?_
      show Steps p.tables e below (T21.setTop (mkF m 17 #[.val (.int p0), .val (.int (0 : Int32)), .val (.ref a_U), .unset, .unset, .unset, .unset] [])) t
      refine XS.iloadN X21.here hx rfl (hb hby at_17) rfl ?_
      show Steps p.tables e below (T21.setTop (mkF m 18 #[.val (.int p0), .val (.int (0 : Int32)), .val (.ref a_U), .unset, .unset, .unset, .unset] [(.int (0 : Int32))])) t
      refine XS.iconst X21.here hx rfl (hb hby at_18) ?_
      show Steps p.tables e below (T21.setTop (mkF m 19 #[.val (.int p0), .val (.int (0 : Int32)), .val (.ref a_U), .unset, .unset, .unset, .unset] [(.int (2 : Int32)), (.int (0 : Int32))])) t
      refine XS.icmpYes X21.here hx rfl (pc0 := 19) (pc' := 26) rfl (hb hby at_19) rfl (XT.ii_ne_t (by decide)) (by decide) (by decide) ?_
      show Steps p.tables e below (T21.setTop (mkF m 26 #[.val (.int p0), .val (.int (0 : Int32)), .val (.ref a_U), .unset, .unset, .unset, .unset] [])) t
      refine XS.iconst X21.here hx rfl (hb hby at_26) ?_
      show Steps p.tables e below (T21.setTop (mkF m 27 #[.val (.int p0), .val (.int (0 : Int32)), .val (.ref a_U), .unset, .unset, .unset, .unset] [(.int (0 : Int32))])) t
      refine XS.istoreN X21.here hx rfl (hb hby at_27) rfl (l' := #[.val (.int p0), .val (.int (0 : Int32)), .val (.ref a_U), .val (.int (0 : Int32)), .unset, .unset, .unset]) rfl ?_
      show Steps p.tables e below (T21.setTop (mkF m 28 #[.val (.int p0), .val (.int (0 : Int32)), .val (.ref a_U), .val (.int (0 : Int32)), .unset, .unset, .unset] [])) t
      refine XS.aloadN X21.here hx rfl (hb hby at_28) rfl rfl ?_
      show Steps p.tables e below (T21.setTop (mkF m 29 #[.val (.int p0), .val (.int (0 : Int32)), .val (.ref a_U), .val (.int (0 : Int32)), .unset, .unset, .unset] [(.ref a_U)])) t
      exact k)
    obtain ⟨cq22, kq22, q22a, q22b, q22c⟩ := isOf hZ e21 E_U
    obtain ⟨_, _, ⟨T22, L22, k22, n22⟩, -, X22, ⟨Lc22, hQ22, l22, y22, z22⟩, st22⟩ := X21.virtualBack hx (y := (⟨"com/example/originlint/originlint/EmbedderPolicy", "token", "()Ljava/lang/String;"⟩ : MethodName)) (z := (⟨"com/example/originlint/originlint/EmbedderPolicy", "token", "()Ljava/lang/String;"⟩ : MethodName)) hown (mvT hZ (hw _ (List.mem_of_getElem? (i := 8) rfl))) (mvT hZ (hw _ (List.mem_of_getElem? (i := 9) rfl))) (notFace_of_selects (args := #[]) (mvT hZ (hw _ (List.mem_of_getElem? (i := 11) rfl)))) (mvT hZ (hw _ (List.mem_of_getElem? (i := 11) rfl))) (mvT hZ (hw _ (List.mem_of_getElem? (i := 10) rfl))) (by decide) (backOf (W := 0) (rm_tok l Z a0 hw [] a_U t_U h0 n0 T_U) hZ (hw _ (List.mem_of_getElem? (i := 12) rfl)) (hw _ (List.mem_of_getElem? (i := 6) rfl)) (by decide) (by decide)) q22a q22c (g := (mkF m 29 #[.val (.int p0), .val (.int (0 : Int32)), .val (.ref a_U), .val (.int (0 : Int32)), .unset, .unset, .unset] [(.ref a_U)])) rfl (by rw [hml]; rfl) (Steps.refl _) (argsL := []) (rest := []) (lenOf pd___Ljava_lang_String_ rfl) rfl (by show 2 * 0 + _ ≤ _; exact Nat.le_of_eq rfl) (hb hby at_29) (fun _ _ => ⟨rfl, e21, (by decide : 0 + 0 ≤ _), (by decide : 0 + 0 ≤ _)⟩)
    dsimp only [Pt.U, Pt.locs, Pt.cells, Pt.slots] at X22 l22 y22 z22 st22 hQ22
    subst l22 y22 z22
    obtain ⟨rfl, N22q, e22⟩ := hQ22
    have N22 := Fr.app N21 N22q
    replace pre : Pth p e below S0 T22 (mkF m 32 #[.val (.int p0), .val (.int (0 : Int32)), .val (.ref a_U), .val (.int (0 : Int32)), .unset, .unset, .unset] [(.ref t_U)]) := fun t k => pre t (st22.trans k)
    replace pre : Pth p e below S0 T22 (mkF m 34 #[.val (.int p0), .val (.int (0 : Int32)), .val (.ref a_U), .val (.int (0 : Int32)), .val (.ref t_U), .unset, .unset] []) := fun t k => pre t (by
      show Steps p.tables e below (T22.setTop (mkF m 32 #[.val (.int p0), .val (.int (0 : Int32)), .val (.ref a_U), .val (.int (0 : Int32)), .unset, .unset, .unset] [(.ref t_U)])) t
      refine XS.astore X22.here hx rfl (hb hby at_32) rfl rfl (l' := #[.val (.int p0), .val (.int (0 : Int32)), .val (.ref a_U), .val (.int (0 : Int32)), .val (.ref t_U), .unset, .unset]) rfl ?_
      show Steps p.tables e below (T22.setTop (mkF m 34 #[.val (.int p0), .val (.int (0 : Int32)), .val (.ref a_U), .val (.int (0 : Int32)), .val (.ref t_U), .unset, .unset] [])) t
      exact k)
    obtain ⟨a23, T23, h23, k23, b23, c23, X23, e23, E23, hSin, hkin, hZ, hown, EX23, FC23, FV23, AV23, -, -, I23, -, st23⟩ := ldcSVL (s := s) (vm0 := s.vm) (Ts := ([] : List String)) X22 hx hZ hown (hw _ (List.mem_of_getElem? (i := 15) rfl)) wS e22 hSin hkin (hns ▸ N22) hkeep I0 (by decide) hh30 hcw (vs := own_R.map Value.int) (z := 12) ⟨by decide +kernel, by decide +kernel⟩ (by decide) (by decide) (g := (mkF m 34 #[.val (.int p0), .val (.int (0 : Int32)), .val (.ref a_U), .val (.int (0 : Int32)), .val (.ref t_U), .unset, .unset] [])) rfl (hb hby at_34) (n := 48) (by decide +kernel) (by decide) (by decide) (by decide)
    have O23 : OStr Z h23 a23 b23 own_R := ⟨EX23, FC23, FV23, own_of_arv AV23 (by decide)⟩
    replace pre : Pth p e below S0 T23 (mkF m 36 #[.val (.int p0), .val (.int (0 : Int32)), .val (.ref a_U), .val (.int (0 : Int32)), .val (.ref t_U), .unset, .unset] [(.ref a23)]) := fun t k => pre t (st23 _ k)
    replace pre : Pth p e below S0 T23 (mkF m 38 #[.val (.int p0), .val (.int (0 : Int32)), .val (.ref a_U), .val (.int (0 : Int32)), .val (.ref t_U), .unset, .unset] [(.ref t_U), (.ref a23)]) := fun t k => pre t (by
      show Steps p.tables e below (T23.setTop (mkF m 36 #[.val (.int p0), .val (.int (0 : Int32)), .val (.ref a_U), .val (.int (0 : Int32)), .val (.ref t_U), .unset, .unset] [(.ref a23)])) t
      refine XS.aload X23.here hx rfl (hb hby at_36) rfl rfl ?_
      show Steps p.tables e below (T23.setTop (mkF m 38 #[.val (.int p0), .val (.int (0 : Int32)), .val (.ref a_U), .val (.int (0 : Int32)), .val (.ref t_U), .unset, .unset] [(.ref t_U), (.ref a23)])) t
      exact k)
    obtain ⟨cq24, kq24, q24a, q24b, q24c⟩ := isOf hZ e23 O23.1
    obtain ⟨_, _, ⟨T24, L24, k24, n24⟩, -, X24, ⟨Lc24, hQ24, l24, y24, z24⟩, st24⟩ := X23.virtualBack hx (y := (⟨"java/lang/String", "equals", "(Ljava/lang/Object;)Z"⟩ : MethodName)) (z := (⟨"java/lang/String", "equals", "(Ljava/lang/Object;)Z"⟩ : MethodName)) hown (mvT hZ (hw _ (List.mem_of_getElem? (i := 23) rfl))) (mvT hZ (hw _ (List.mem_of_getElem? (i := 24) rfl))) (notFace_of_selects (args := #[]) (mvT hZ (hw _ (List.mem_of_getElem? (i := 26) rfl)))) (mvT hZ (hw _ (List.mem_of_getElem? (i := 26) rfl))) (mvT hZ (hw _ (List.mem_of_getElem? (i := 25) rfl))) (by decide) (backOf (W := 0) (rm_seq l Z a0 hw [] a23 t_U b23 p_U own_R own_U cz h23 n0 O23 (Q_U.ext E23) (by decide) (by decide) (Scs.ext E23) hcz) hZ (hw _ (List.mem_of_getElem? (i := 27) rfl)) (hw _ (List.mem_of_getElem? (i := 16) rfl)) (by decide) (by decide)) q24a q24c (g := (mkF m 38 #[.val (.int p0), .val (.int (0 : Int32)), .val (.ref a_U), .val (.int (0 : Int32)), .val (.ref t_U), .unset, .unset] [(.ref t_U), (.ref a23)])) rfl (by rw [hml]; rfl) (Steps.refl _) (argsL := [(.ref t_U)]) (rest := []) (lenOf pd__Ljava_lang_Object__Z rfl) rfl (by show 2 * 0 + _ ≤ _; exact Nat.le_of_eq rfl) (hb hby at_38) (fun _ _ => ⟨rfl, e23, (by decide : 2 + 0 ≤ _), (by decide : 52 + 0 ≤ _)⟩)
    dsimp only [Pt.U, Pt.locs, Pt.cells, Pt.slots] at X24 l24 y24 z24 st24 hQ24
    subst l24 y24 z24
    obtain ⟨rfl, N24q, e24⟩ := hQ24
    have N24 := Fr.app N22 N24q
    replace pre : Pth p e below S0 T24 (mkF m 41 #[.val (.int p0), .val (.int (0 : Int32)), .val (.ref a_U), .val (.int (0 : Int32)), .val (.ref t_U), .unset, .unset] [(.int (own_eq own_R own_U))]) := fun t k => pre t (st24.trans k)
    replace pre : Pth p e below S0 T24 (mkF m 44 #[.val (.int p0), .val (.int (0 : Int32)), .val (.ref a_U), .val (.int (0 : Int32)), .val (.ref t_U), .unset, .unset] []) := fun t k => pre t (by
      show Steps p.tables e below (T24.setTop (mkF m 41 #[.val (.int p0), .val (.int (0 : Int32)), .val (.ref a_U), .val (.int (0 : Int32)), .val (.ref t_U), .unset, .unset] [(.int (own_eq own_R own_U))])) t
      refine XS.ifNo X24.here hx rfl (hb hby at_41) rfl (XT.i0_ne_f (by decide +kernel)) ?_
      show Steps p.tables e below (T24.setTop (mkF m 44 #[.val (.int p0), .val (.int (0 : Int32)), .val (.ref a_U), .val (.int (0 : Int32)), .val (.ref t_U), .unset, .unset] [])) t
      exact k)
    obtain ⟨a25, T25, h25, k25, b25, c25, X25, e25, E25, hSin, hkin, hZ, hown, EX25, FC25, FV25, AV25, -, -, I25, -, st25⟩ := ldcSVL (s := s) (vm0 := T23.vm) (Ts := ["require-corp"]) X24 hx hZ hown (hw _ (List.mem_of_getElem? (i := 37) rfl)) wS e24 hSin hkin (hns ▸ N24) hkeep I23 (by decide) hh38 hcw (vs := own_C.map Value.int) (z := 14) ⟨by decide +kernel, by decide +kernel⟩ (by decide) (by decide) (g := (mkF m 44 #[.val (.int p0), .val (.int (0 : Int32)), .val (.ref a_U), .val (.int (0 : Int32)), .val (.ref t_U), .unset, .unset] [])) rfl (hb hby at_44) (n := 56) (by decide +kernel) (by decide) (by decide) (by decide)
    have O25 : OStr Z h25 a25 b25 own_C := ⟨EX25, FC25, FV25, own_of_arv AV25 (by decide)⟩
    replace pre : Pth p e below S0 T25 (mkF m 46 #[.val (.int p0), .val (.int (0 : Int32)), .val (.ref a_U), .val (.int (0 : Int32)), .val (.ref t_U), .unset, .unset] [(.ref a25)]) := fun t k => pre t (st25 _ k)
    replace pre : Pth p e below S0 T25 (mkF m 48 #[.val (.int p0), .val (.int (0 : Int32)), .val (.ref a_U), .val (.int (0 : Int32)), .val (.ref t_U), .unset, .unset] [(.ref t_U), (.ref a25)]) := fun t k => pre t (by
      show Steps p.tables e below (T25.setTop (mkF m 46 #[.val (.int p0), .val (.int (0 : Int32)), .val (.ref a_U), .val (.int (0 : Int32)), .val (.ref t_U), .unset, .unset] [(.ref a25)])) t
      refine XS.aload X25.here hx rfl (hb hby at_46) rfl rfl ?_
      show Steps p.tables e below (T25.setTop (mkF m 48 #[.val (.int p0), .val (.int (0 : Int32)), .val (.ref a_U), .val (.int (0 : Int32)), .val (.ref t_U), .unset, .unset] [(.ref t_U), (.ref a25)])) t
      exact k)
    obtain ⟨cq26, kq26, q26a, q26b, q26c⟩ := isOf hZ e25 O25.1
    obtain ⟨_, _, ⟨T26, L26, k26, n26⟩, -, X26, ⟨Lc26, hQ26, l26, y26, z26⟩, st26⟩ := X25.virtualBack hx (y := (⟨"java/lang/String", "equals", "(Ljava/lang/Object;)Z"⟩ : MethodName)) (z := (⟨"java/lang/String", "equals", "(Ljava/lang/Object;)Z"⟩ : MethodName)) hown (mvT hZ (hw _ (List.mem_of_getElem? (i := 23) rfl))) (mvT hZ (hw _ (List.mem_of_getElem? (i := 24) rfl))) (notFace_of_selects (args := #[]) (mvT hZ (hw _ (List.mem_of_getElem? (i := 26) rfl)))) (mvT hZ (hw _ (List.mem_of_getElem? (i := 26) rfl))) (mvT hZ (hw _ (List.mem_of_getElem? (i := 25) rfl))) (by decide) (backOf (W := 0) (rm_seq l Z a0 hw [] a25 t_U b25 p_U own_C own_U cz h25 n0 O25 (Q_U.ext (own_ext_trans E23 E25)) (by decide) (by decide) (Scs.ext (own_ext_trans E23 E25)) hcz) hZ (hw _ (List.mem_of_getElem? (i := 27) rfl)) (hw _ (List.mem_of_getElem? (i := 16) rfl)) (by decide) (by decide)) q26a q26c (g := (mkF m 48 #[.val (.int p0), .val (.int (0 : Int32)), .val (.ref a_U), .val (.int (0 : Int32)), .val (.ref t_U), .unset, .unset] [(.ref t_U), (.ref a25)])) rfl (by rw [hml]; rfl) (Steps.refl _) (argsL := [(.ref t_U)]) (rest := []) (lenOf pd__Ljava_lang_Object__Z rfl) rfl (by show 2 * 0 + _ ≤ _; exact Nat.le_of_eq rfl) (hb hby at_48) (fun _ _ => ⟨rfl, e25, (by decide : 4 + 0 ≤ _), (by decide : 112 + 0 ≤ _)⟩)
    dsimp only [Pt.U, Pt.locs, Pt.cells, Pt.slots] at X26 l26 y26 z26 st26 hQ26
    subst l26 y26 z26
    obtain ⟨rfl, N26q, e26⟩ := hQ26
    have N26 := Fr.app N24 N26q
    replace pre : Pth p e below S0 T26 (mkF m 51 #[.val (.int p0), .val (.int (0 : Int32)), .val (.ref a_U), .val (.int (0 : Int32)), .val (.ref t_U), .unset, .unset] [(.int (own_eq own_C own_U))]) := fun t k => pre t (st26.trans k)
    replace pre : Pth p e below S0 T26 (mkF m 62 #[.val (.int p0), .val (.int (0 : Int32)), .val (.ref a_U), .val (.int (0 : Int32)), .val (.ref t_U), .val (.int (0 : Int32)), .unset] [(.ref a_U)]) := fun t k => pre t (by
      show Steps p.tables e below (T26.setTop (mkF m 51 #[.val (.int p0), .val (.int (0 : Int32)), .val (.ref a_U), .val (.int (0 : Int32)), .val (.ref t_U), .unset, .unset] [(.int (own_eq own_C own_U))])) t
      refine XS.ifYes X26.here hx rfl (pc0 := 51) (pc' := 58) rfl (hb hby at_51) rfl (XT.i0_eq_t (by decide +kernel)) (by decide) (by decide) ?_
      show Steps p.tables e below (T26.setTop (mkF m 58 #[.val (.int p0), .val (.int (0 : Int32)), .val (.ref a_U), .val (.int (0 : Int32)), .val (.ref t_U), .unset, .unset] [])) t
      refine XS.iconst X26.here hx rfl (hb hby at_58) ?_
      show Steps p.tables e below (T26.setTop (mkF m 59 #[.val (.int p0), .val (.int (0 : Int32)), .val (.ref a_U), .val (.int (0 : Int32)), .val (.ref t_U), .unset, .unset] [(.int (0 : Int32))])) t
      refine XS.istore X26.here hx rfl (hb hby at_59) rfl (l' := #[.val (.int p0), .val (.int (0 : Int32)), .val (.ref a_U), .val (.int (0 : Int32)), .val (.ref t_U), .val (.int (0 : Int32)), .unset]) rfl ?_
      show Steps p.tables e below (T26.setTop (mkF m 61 #[.val (.int p0), .val (.int (0 : Int32)), .val (.ref a_U), .val (.int (0 : Int32)), .val (.ref t_U), .val (.int (0 : Int32)), .unset] [])) t
      refine XS.aloadN X26.here hx rfl (hb hby at_61) rfl rfl ?_
      show Steps p.tables e below (T26.setTop (mkF m 62 #[.val (.int p0), .val (.int (0 : Int32)), .val (.ref a_U), .val (.int (0 : Int32)), .val (.ref t_U), .val (.int (0 : Int32)), .unset] [(.ref a_U)])) t
      exact k)
    obtain ⟨cq27, kq27, q27a, q27b, q27c⟩ := isOf hZ e26 (E_U.ext (own_ext_trans E23 E25))
    obtain ⟨_, _, ⟨T27, L27, k27, n27⟩, -, X27, ⟨Lc27, hQ27, l27, y27, z27⟩, st27⟩ := X26.virtualBack hx (y := (⟨"com/example/originlint/originlint/EmbedderPolicy", "isCompatibleWithCrossOriginIsolation", "()Z"⟩ : MethodName)) (z := (⟨"com/example/originlint/originlint/EmbedderPolicy", "isCompatibleWithCrossOriginIsolation", "()Z"⟩ : MethodName)) hown (mvT hZ (hw _ (List.mem_of_getElem? (i := 38) rfl))) (mvT hZ (hw _ (List.mem_of_getElem? (i := 39) rfl))) (notFace_of_selects (args := #[]) (mvT hZ (hw _ (List.mem_of_getElem? (i := 41) rfl)))) (mvT hZ (hw _ (List.mem_of_getElem? (i := 41) rfl))) (mvT hZ (hw _ (List.mem_of_getElem? (i := 40) rfl))) (by decide) (backOf (W := 0) (rm_icA l Z a0 hw [] a_U h25 n0 (S_U.ext (own_ext_trans E23 E25))) hZ (hw _ (List.mem_of_getElem? (i := 42) rfl)) (hw _ (List.mem_of_getElem? (i := 6) rfl)) (by decide) (by decide)) q27a q27c (g := (mkF m 62 #[.val (.int p0), .val (.int (0 : Int32)), .val (.ref a_U), .val (.int (0 : Int32)), .val (.ref t_U), .val (.int (0 : Int32)), .unset] [(.ref a_U)])) rfl (by rw [hml]; rfl) (Steps.refl _) (argsL := []) (rest := []) (lenOf pd___Z rfl) rfl (by show 2 * 0 + _ ≤ _; exact Nat.le_of_eq rfl) (hb hby at_62) (fun _ _ => ⟨rfl, e26, (by decide : 4 + 0 ≤ _), (by decide : 112 + 0 ≤ _)⟩)
    dsimp only [Pt.U, Pt.locs, Pt.cells, Pt.slots] at X27 l27 y27 z27 st27 hQ27
    subst l27 y27 z27
    obtain ⟨rfl, N27q, e27⟩ := hQ27
    have N27 := Fr.app N26 N27q
    replace pre : Pth p e below S0 T27 (mkF m 65 #[.val (.int p0), .val (.int (0 : Int32)), .val (.ref a_U), .val (.int (0 : Int32)), .val (.ref t_U), .val (.int (0 : Int32)), .unset] [(.int (0 : Int32))]) := fun t k => pre t (st27.trans k)
    replace pre : Pth p e below S0 T27 (mkF m 85 #[.val (.int p0), .val (.int (0 : Int32)), .val (.ref a_U), .val (.int (0 : Int32)), .val (.ref t_U), .val (.int (0 : Int32)), .val (.int (0 : Int32))] [(.int (1 : Int32))]) := fun t k => pre t (by
      show Steps p.tables e below (T27.setTop (mkF m 65 #[.val (.int p0), .val (.int (0 : Int32)), .val (.ref a_U), .val (.int (0 : Int32)), .val (.ref t_U), .val (.int (0 : Int32)), .unset] [(.int (0 : Int32))])) t
      refine XS.istore X27.here hx rfl (hb hby at_65) rfl (l' := #[.val (.int p0), .val (.int (0 : Int32)), .val (.ref a_U), .val (.int (0 : Int32)), .val (.ref t_U), .val (.int (0 : Int32)), .val (.int (0 : Int32))]) rfl ?_
      show Steps p.tables e below (T27.setTop (mkF m 67 #[.val (.int p0), .val (.int (0 : Int32)), .val (.ref a_U), .val (.int (0 : Int32)), .val (.ref t_U), .val (.int (0 : Int32)), .val (.int (0 : Int32))] [])) t
      refine XS.iload X27.here hx rfl (hb hby at_67) rfl ?_
      show Steps p.tables e below (T27.setTop (mkF m 69 #[.val (.int p0), .val (.int (0 : Int32)), .val (.ref a_U), .val (.int (0 : Int32)), .val (.ref t_U), .val (.int (0 : Int32)), .val (.int (0 : Int32))] [(.int (0 : Int32))])) t
      refine XS.iloadN X27.here hx rfl (hb hby at_69) rfl ?_
      show Steps p.tables e below (T27.setTop (mkF m 70 #[.val (.int p0), .val (.int (0 : Int32)), .val (.ref a_U), .val (.int (0 : Int32)), .val (.ref t_U), .val (.int (0 : Int32)), .val (.int (0 : Int32))] [(.int (0 : Int32)), (.int (0 : Int32))])) t
      refine XS.icmpNo X27.here hx rfl (hb hby at_70) rfl (XT.ii_ne_f rfl) ?_
      show Steps p.tables e below (T27.setTop (mkF m 73 #[.val (.int p0), .val (.int (0 : Int32)), .val (.ref a_U), .val (.int (0 : Int32)), .val (.ref t_U), .val (.int (0 : Int32)), .val (.int (0 : Int32))] [])) t
      refine XS.iload X27.here hx rfl (hb hby at_73) rfl ?_
      show Steps p.tables e below (T27.setTop (mkF m 75 #[.val (.int p0), .val (.int (0 : Int32)), .val (.ref a_U), .val (.int (0 : Int32)), .val (.ref t_U), .val (.int (0 : Int32)), .val (.int (0 : Int32))] [(.int (0 : Int32))])) t
      refine XS.iload X27.here hx rfl (hb hby at_75) rfl ?_
      show Steps p.tables e below (T27.setTop (mkF m 77 #[.val (.int p0), .val (.int (0 : Int32)), .val (.ref a_U), .val (.int (0 : Int32)), .val (.ref t_U), .val (.int (0 : Int32)), .val (.int (0 : Int32))] [(.int (0 : Int32)), (.int (0 : Int32))])) t
      refine XS.icmpNo X27.here hx rfl (hb hby at_77) rfl (XT.ii_ne_f rfl) ?_
      show Steps p.tables e below (T27.setTop (mkF m 80 #[.val (.int p0), .val (.int (0 : Int32)), .val (.ref a_U), .val (.int (0 : Int32)), .val (.ref t_U), .val (.int (0 : Int32)), .val (.int (0 : Int32))] [])) t
      refine XS.iconst X27.here hx rfl (hb hby at_80) ?_
      show Steps p.tables e below (T27.setTop (mkF m 81 #[.val (.int p0), .val (.int (0 : Int32)), .val (.ref a_U), .val (.int (0 : Int32)), .val (.ref t_U), .val (.int (0 : Int32)), .val (.int (0 : Int32))] [(.int (1 : Int32))])) t
      refine XS.goto X27.here hx rfl (pc0 := 81) (pc' := 85) rfl (hb hby at_81) (by decide) (by decide) ?_
      show Steps p.tables e below (T27.setTop (mkF m 85 #[.val (.int p0), .val (.int (0 : Int32)), .val (.ref a_U), .val (.int (0 : Int32)), .val (.ref t_U), .val (.int (0 : Int32)), .val (.int (0 : Int32))] [(.int (1 : Int32))])) t
      exact k)
    obtain ⟨fs, hr, hrun, hended, r1, r2, r3, r4⟩ := X27.leaveW hSin (by rw [e27]; exact hkin) (v := some (.int (1 : Int32))) (fun h => by rw [Bd.returns] at h; cases h)
    subst hS0
    refine ⟨_, _, pre _ ?_, hrun, hended, _, _, rfl, ?_, r1, r2, r3, r4.mono (by decide) (by decide)⟩
    · exact retN X27 hx (t := .boolean) Bd.returns (by simp) (hb hby at_85) hr
    · show Q_law Z p0 a_U t_U p_U a_R t_R p_R a_C t_C p_C cz h0 n0 _ T27.heap _
      rw [e27]
      exact ⟨rfl, N27⟩
  · rw [hk] at pre
    replace pre : Pth p e below S0 s₁ (mkF m 8 #[.val (.int p0), .val (.int (1 : Int32)), .unset, .unset, .unset, .unset, .unset] [(.int (1 : Int32))]) := fun t k => pre t (by
      show Steps p.tables e below (s₁.setTop (mkF m 7 #[.val (.int p0), .val (.int (1 : Int32)), .unset, .unset, .unset, .unset, .unset] [])) t
      refine XS.iloadN X0.here hx rfl (hb hby at_7) rfl ?_
      show Steps p.tables e below (s₁.setTop (mkF m 8 #[.val (.int p0), .val (.int (1 : Int32)), .unset, .unset, .unset, .unset, .unset] [(.int (1 : Int32))])) t
      exact k)
    obtain ⟨_, _, ⟨T28, L28, k28, n28⟩, -, X28, ⟨Lc28, hQ28, l28, y28, z28⟩, st28⟩ := Jvm.LawKit.callS X0 hx (y := (⟨"com/example/originlint/originlint/EmbedderPolicyIsCompatibleWithCrossOriginIsolationPinLaw", "pick", "(I)Lcom/example/originlint/originlint/EmbedderPolicy;"⟩ : MethodName)) hown (mvT hZ (hw _ (List.mem_of_getElem? (i := 1) rfl))) (mvT hZ (hw _ (List.mem_of_getElem? (i := 2) rfl))) (mvT hZ (hw _ (List.mem_of_getElem? (i := 3) rfl))) (mvT hZ (hw _ (List.mem_of_getElem? (i := 4) rfl))) (by decide) (backOf (W := 0) (rm_pick1 l Z a0 hw [] a_R h0 n0 S_R) hZ (hw _ (List.mem_of_getElem? (i := 4) rfl)) (hw _ (List.mem_of_getElem? (i := 3) rfl)) (by decide) (by decide)) (g := (mkF m 8 #[.val (.int p0), .val (.int (1 : Int32)), .unset, .unset, .unset, .unset, .unset] [(.int (1 : Int32))])) rfl (by rw [hml]; rfl) (argsL := [(.int (1 : Int32))]) (rest := []) (lenOf pd__I_Lcom_example_originlint_originlint_EmbedderPolicy_ rfl) rfl (by show 2 * 0 + _ ≤ _; exact Nat.le_of_eq rfl) (hb hby at_8) (fun _ _ => ⟨rfl, e0, (by decide : 0 + 0 ≤ _), (by decide : 0 + 0 ≤ _)⟩)
    dsimp only [Pt.U, Pt.locs, Pt.cells, Pt.slots] at X28 l28 y28 z28 st28 hQ28
    subst l28 y28 z28
    obtain ⟨rfl, N28q, e28⟩ := hQ28
    have N28 := Fr.app N0 N28q
    replace pre : Pth p e below S0 T28 (mkF m 11 #[.val (.int p0), .val (.int (1 : Int32)), .unset, .unset, .unset, .unset, .unset] [(.ref a_R)]) := fun t k => pre t (st28 _ k)
    replace pre : Pth p e below S0 T28 (mkF m 29 #[.val (.int p0), .val (.int (1 : Int32)), .val (.ref a_R), .val (.int (1 : Int32)), .unset, .unset, .unset] [(.ref a_R)]) := fun t k => pre t (by
      show Steps p.tables e below (T28.setTop (mkF m 11 #[.val (.int p0), .val (.int (1 : Int32)), .unset, .unset, .unset, .unset, .unset] [(.ref a_R)])) t
      refine XS.astoreN X28.here hx rfl (hb hby at_11) rfl rfl (l' := #[.val (.int p0), .val (.int (1 : Int32)), .val (.ref a_R), .unset, .unset, .unset, .unset]) rfl ?_
      show Steps p.tables e below (T28.setTop (mkF m 12 #[.val (.int p0), .val (.int (1 : Int32)), .val (.ref a_R), .unset, .unset, .unset, .unset] [])) t
      refine XS.iloadN X28.here hx rfl (hb hby at_12) rfl ?_
      show Steps p.tables e below (T28.setTop (mkF m 13 #[.val (.int p0), .val (.int (1 : Int32)), .val (.ref a_R), .unset, .unset, .unset, .unset] [(.int (1 : Int32))])) t
      refine XS.iconst X28.here hx rfl (hb hby at_13) ?_
      show Steps p.tables e below (T28.setTop (mkF m 14 #[.val (.int p0), .val (.int (1 : Int32)), .val (.ref a_R), .unset, .unset, .unset, .unset] [(.int (1 : Int32)), (.int (1 : Int32))])) t
      refine XS.icmpYes X28.here hx rfl (pc0 := 14) (pc' := 22) rfl (hb hby at_14) rfl (XT.ii_eq_t rfl) (by decide) (by decide) ?_
      show Steps p.tables e below (T28.setTop (mkF m 22 #[.val (.int p0), .val (.int (1 : Int32)), .val (.ref a_R), .unset, .unset, .unset, .unset] [])) t
      refine XS.iconst X28.here hx rfl (hb hby at_22) ?_
      show Steps p.tables e below (T28.setTop (mkF m 23 #[.val (.int p0), .val (.int (1 : Int32)), .val (.ref a_R), .unset, .unset, .unset, .unset] [(.int (1 : Int32))])) t
      refine XS.goto X28.here hx rfl (pc0 := 23) (pc' := 27) rfl (hb hby at_23) (by decide) (by decide) ?_
      show Steps p.tables e below (T28.setTop (mkF m 27 #[.val (.int p0), .val (.int (1 : Int32)), .val (.ref a_R), .unset, .unset, .unset, .unset] [(.int (1 : Int32))])) t
      refine XS.istoreN X28.here hx rfl (hb hby at_27) rfl (l' := #[.val (.int p0), .val (.int (1 : Int32)), .val (.ref a_R), .val (.int (1 : Int32)), .unset, .unset, .unset]) rfl ?_
      show Steps p.tables e below (T28.setTop (mkF m 28 #[.val (.int p0), .val (.int (1 : Int32)), .val (.ref a_R), .val (.int (1 : Int32)), .unset, .unset, .unset] [])) t
      refine XS.aloadN X28.here hx rfl (hb hby at_28) rfl rfl ?_
      show Steps p.tables e below (T28.setTop (mkF m 29 #[.val (.int p0), .val (.int (1 : Int32)), .val (.ref a_R), .val (.int (1 : Int32)), .unset, .unset, .unset] [(.ref a_R)])) t
      exact k)
    obtain ⟨cq29, kq29, q29a, q29b, q29c⟩ := isOf hZ e28 E_R
    obtain ⟨_, _, ⟨T29, L29, k29, n29⟩, -, X29, ⟨Lc29, hQ29, l29, y29, z29⟩, st29⟩ := X28.virtualBack hx (y := (⟨"com/example/originlint/originlint/EmbedderPolicy", "token", "()Ljava/lang/String;"⟩ : MethodName)) (z := (⟨"com/example/originlint/originlint/EmbedderPolicy", "token", "()Ljava/lang/String;"⟩ : MethodName)) hown (mvT hZ (hw _ (List.mem_of_getElem? (i := 8) rfl))) (mvT hZ (hw _ (List.mem_of_getElem? (i := 9) rfl))) (notFace_of_selects (args := #[]) (mvT hZ (hw _ (List.mem_of_getElem? (i := 11) rfl)))) (mvT hZ (hw _ (List.mem_of_getElem? (i := 11) rfl))) (mvT hZ (hw _ (List.mem_of_getElem? (i := 10) rfl))) (by decide) (backOf (W := 0) (rm_tok l Z a0 hw [] a_R t_R h0 n0 T_R) hZ (hw _ (List.mem_of_getElem? (i := 12) rfl)) (hw _ (List.mem_of_getElem? (i := 6) rfl)) (by decide) (by decide)) q29a q29c (g := (mkF m 29 #[.val (.int p0), .val (.int (1 : Int32)), .val (.ref a_R), .val (.int (1 : Int32)), .unset, .unset, .unset] [(.ref a_R)])) rfl (by rw [hml]; rfl) (Steps.refl _) (argsL := []) (rest := []) (lenOf pd___Ljava_lang_String_ rfl) rfl (by show 2 * 0 + _ ≤ _; exact Nat.le_of_eq rfl) (hb hby at_29) (fun _ _ => ⟨rfl, e28, (by decide : 0 + 0 ≤ _), (by decide : 0 + 0 ≤ _)⟩)
    dsimp only [Pt.U, Pt.locs, Pt.cells, Pt.slots] at X29 l29 y29 z29 st29 hQ29
    subst l29 y29 z29
    obtain ⟨rfl, N29q, e29⟩ := hQ29
    have N29 := Fr.app N28 N29q
    replace pre : Pth p e below S0 T29 (mkF m 32 #[.val (.int p0), .val (.int (1 : Int32)), .val (.ref a_R), .val (.int (1 : Int32)), .unset, .unset, .unset] [(.ref t_R)]) := fun t k => pre t (st29.trans k)
    replace pre : Pth p e below S0 T29 (mkF m 34 #[.val (.int p0), .val (.int (1 : Int32)), .val (.ref a_R), .val (.int (1 : Int32)), .val (.ref t_R), .unset, .unset] []) := fun t k => pre t (by
      show Steps p.tables e below (T29.setTop (mkF m 32 #[.val (.int p0), .val (.int (1 : Int32)), .val (.ref a_R), .val (.int (1 : Int32)), .unset, .unset, .unset] [(.ref t_R)])) t
      refine XS.astore X29.here hx rfl (hb hby at_32) rfl rfl (l' := #[.val (.int p0), .val (.int (1 : Int32)), .val (.ref a_R), .val (.int (1 : Int32)), .val (.ref t_R), .unset, .unset]) rfl ?_
      show Steps p.tables e below (T29.setTop (mkF m 34 #[.val (.int p0), .val (.int (1 : Int32)), .val (.ref a_R), .val (.int (1 : Int32)), .val (.ref t_R), .unset, .unset] [])) t
      exact k)
    obtain ⟨a30, T30, h30, k30, b30, c30, X30, e30, E30, hSin, hkin, hZ, hown, EX30, FC30, FV30, AV30, -, -, I30, -, st30⟩ := ldcSVL (s := s) (vm0 := s.vm) (Ts := ([] : List String)) X29 hx hZ hown (hw _ (List.mem_of_getElem? (i := 15) rfl)) wS e29 hSin hkin (hns ▸ N29) hkeep I0 (by decide) hh30 hcw (vs := own_R.map Value.int) (z := 12) ⟨by decide +kernel, by decide +kernel⟩ (by decide) (by decide) (g := (mkF m 34 #[.val (.int p0), .val (.int (1 : Int32)), .val (.ref a_R), .val (.int (1 : Int32)), .val (.ref t_R), .unset, .unset] [])) rfl (hb hby at_34) (n := 48) (by decide +kernel) (by decide) (by decide) (by decide)
    have O30 : OStr Z h30 a30 b30 own_R := ⟨EX30, FC30, FV30, own_of_arv AV30 (by decide)⟩
    replace pre : Pth p e below S0 T30 (mkF m 36 #[.val (.int p0), .val (.int (1 : Int32)), .val (.ref a_R), .val (.int (1 : Int32)), .val (.ref t_R), .unset, .unset] [(.ref a30)]) := fun t k => pre t (st30 _ k)
    replace pre : Pth p e below S0 T30 (mkF m 38 #[.val (.int p0), .val (.int (1 : Int32)), .val (.ref a_R), .val (.int (1 : Int32)), .val (.ref t_R), .unset, .unset] [(.ref t_R), (.ref a30)]) := fun t k => pre t (by
      show Steps p.tables e below (T30.setTop (mkF m 36 #[.val (.int p0), .val (.int (1 : Int32)), .val (.ref a_R), .val (.int (1 : Int32)), .val (.ref t_R), .unset, .unset] [(.ref a30)])) t
      refine XS.aload X30.here hx rfl (hb hby at_36) rfl rfl ?_
      show Steps p.tables e below (T30.setTop (mkF m 38 #[.val (.int p0), .val (.int (1 : Int32)), .val (.ref a_R), .val (.int (1 : Int32)), .val (.ref t_R), .unset, .unset] [(.ref t_R), (.ref a30)])) t
      exact k)
    obtain ⟨cq31, kq31, q31a, q31b, q31c⟩ := isOf hZ e30 O30.1
    obtain ⟨_, _, ⟨T31, L31, k31, n31⟩, -, X31, ⟨Lc31, hQ31, l31, y31, z31⟩, st31⟩ := X30.virtualBack hx (y := (⟨"java/lang/String", "equals", "(Ljava/lang/Object;)Z"⟩ : MethodName)) (z := (⟨"java/lang/String", "equals", "(Ljava/lang/Object;)Z"⟩ : MethodName)) hown (mvT hZ (hw _ (List.mem_of_getElem? (i := 23) rfl))) (mvT hZ (hw _ (List.mem_of_getElem? (i := 24) rfl))) (notFace_of_selects (args := #[]) (mvT hZ (hw _ (List.mem_of_getElem? (i := 26) rfl)))) (mvT hZ (hw _ (List.mem_of_getElem? (i := 26) rfl))) (mvT hZ (hw _ (List.mem_of_getElem? (i := 25) rfl))) (by decide) (backOf (W := 0) (rm_seq l Z a0 hw [] a30 t_R b30 p_R own_R own_R cz h30 n0 O30 (Q_R.ext E30) (by decide) (by decide) (Scs.ext E30) hcz) hZ (hw _ (List.mem_of_getElem? (i := 27) rfl)) (hw _ (List.mem_of_getElem? (i := 16) rfl)) (by decide) (by decide)) q31a q31c (g := (mkF m 38 #[.val (.int p0), .val (.int (1 : Int32)), .val (.ref a_R), .val (.int (1 : Int32)), .val (.ref t_R), .unset, .unset] [(.ref t_R), (.ref a30)])) rfl (by rw [hml]; rfl) (Steps.refl _) (argsL := [(.ref t_R)]) (rest := []) (lenOf pd__Ljava_lang_Object__Z rfl) rfl (by show 2 * 0 + _ ≤ _; exact Nat.le_of_eq rfl) (hb hby at_38) (fun _ _ => ⟨rfl, e30, (by decide : 2 + 0 ≤ _), (by decide : 52 + 0 ≤ _)⟩)
    dsimp only [Pt.U, Pt.locs, Pt.cells, Pt.slots] at X31 l31 y31 z31 st31 hQ31
    subst l31 y31 z31
    obtain ⟨rfl, N31q, e31⟩ := hQ31
    have N31 := Fr.app N29 N31q
    replace pre : Pth p e below S0 T31 (mkF m 41 #[.val (.int p0), .val (.int (1 : Int32)), .val (.ref a_R), .val (.int (1 : Int32)), .val (.ref t_R), .unset, .unset] [(.int (own_eq own_R own_R))]) := fun t k => pre t (st31.trans k)
    replace pre : Pth p e below S0 T31 (mkF m 62 #[.val (.int p0), .val (.int (1 : Int32)), .val (.ref a_R), .val (.int (1 : Int32)), .val (.ref t_R), .val (.int (1 : Int32)), .unset] [(.ref a_R)]) := fun t k => pre t (by
      show Steps p.tables e below (T31.setTop (mkF m 41 #[.val (.int p0), .val (.int (1 : Int32)), .val (.ref a_R), .val (.int (1 : Int32)), .val (.ref t_R), .unset, .unset] [(.int (own_eq own_R own_R))])) t
      refine XS.ifYes X31.here hx rfl (pc0 := 41) (pc' := 54) rfl (hb hby at_41) rfl (XT.i0_ne_t (by decide +kernel)) (by decide) (by decide) ?_
      show Steps p.tables e below (T31.setTop (mkF m 54 #[.val (.int p0), .val (.int (1 : Int32)), .val (.ref a_R), .val (.int (1 : Int32)), .val (.ref t_R), .unset, .unset] [])) t
      refine XS.iconst X31.here hx rfl (hb hby at_54) ?_
      show Steps p.tables e below (T31.setTop (mkF m 55 #[.val (.int p0), .val (.int (1 : Int32)), .val (.ref a_R), .val (.int (1 : Int32)), .val (.ref t_R), .unset, .unset] [(.int (1 : Int32))])) t
      refine XS.goto X31.here hx rfl (pc0 := 55) (pc' := 59) rfl (hb hby at_55) (by decide) (by decide) ?_
      show Steps p.tables e below (T31.setTop (mkF m 59 #[.val (.int p0), .val (.int (1 : Int32)), .val (.ref a_R), .val (.int (1 : Int32)), .val (.ref t_R), .unset, .unset] [(.int (1 : Int32))])) t
      refine XS.istore X31.here hx rfl (hb hby at_59) rfl (l' := #[.val (.int p0), .val (.int (1 : Int32)), .val (.ref a_R), .val (.int (1 : Int32)), .val (.ref t_R), .val (.int (1 : Int32)), .unset]) rfl ?_
      show Steps p.tables e below (T31.setTop (mkF m 61 #[.val (.int p0), .val (.int (1 : Int32)), .val (.ref a_R), .val (.int (1 : Int32)), .val (.ref t_R), .val (.int (1 : Int32)), .unset] [])) t
      refine XS.aloadN X31.here hx rfl (hb hby at_61) rfl rfl ?_
      show Steps p.tables e below (T31.setTop (mkF m 62 #[.val (.int p0), .val (.int (1 : Int32)), .val (.ref a_R), .val (.int (1 : Int32)), .val (.ref t_R), .val (.int (1 : Int32)), .unset] [(.ref a_R)])) t
      exact k)
    obtain ⟨cq32, kq32, q32a, q32b, q32c⟩ := isOf hZ e31 (E_R.ext E30)
    obtain ⟨_, _, ⟨T32, L32, k32, n32⟩, -, X32, ⟨Lc32, hQ32, l32, y32, z32⟩, st32⟩ := X31.virtualBack hx (y := (⟨"com/example/originlint/originlint/EmbedderPolicy", "isCompatibleWithCrossOriginIsolation", "()Z"⟩ : MethodName)) (z := (⟨"com/example/originlint/originlint/EmbedderPolicy", "isCompatibleWithCrossOriginIsolation", "()Z"⟩ : MethodName)) hown (mvT hZ (hw _ (List.mem_of_getElem? (i := 38) rfl))) (mvT hZ (hw _ (List.mem_of_getElem? (i := 39) rfl))) (notFace_of_selects (args := #[]) (mvT hZ (hw _ (List.mem_of_getElem? (i := 41) rfl)))) (mvT hZ (hw _ (List.mem_of_getElem? (i := 41) rfl))) (mvT hZ (hw _ (List.mem_of_getElem? (i := 40) rfl))) (by decide) (backOf (W := 0) (rm_icB l Z a0 hw [] a_R a_U h30 n0 (S_U.ext E30) ne_R) hZ (hw _ (List.mem_of_getElem? (i := 42) rfl)) (hw _ (List.mem_of_getElem? (i := 6) rfl)) (by decide) (by decide)) q32a q32c (g := (mkF m 62 #[.val (.int p0), .val (.int (1 : Int32)), .val (.ref a_R), .val (.int (1 : Int32)), .val (.ref t_R), .val (.int (1 : Int32)), .unset] [(.ref a_R)])) rfl (by rw [hml]; rfl) (Steps.refl _) (argsL := []) (rest := []) (lenOf pd___Z rfl) rfl (by show 2 * 0 + _ ≤ _; exact Nat.le_of_eq rfl) (hb hby at_62) (fun _ _ => ⟨rfl, e31, (by decide : 2 + 0 ≤ _), (by decide : 52 + 0 ≤ _)⟩)
    dsimp only [Pt.U, Pt.locs, Pt.cells, Pt.slots] at X32 l32 y32 z32 st32 hQ32
    subst l32 y32 z32
    obtain ⟨rfl, N32q, e32⟩ := hQ32
    have N32 := Fr.app N31 N32q
    replace pre : Pth p e below S0 T32 (mkF m 65 #[.val (.int p0), .val (.int (1 : Int32)), .val (.ref a_R), .val (.int (1 : Int32)), .val (.ref t_R), .val (.int (1 : Int32)), .unset] [(.int (1 : Int32))]) := fun t k => pre t (st32.trans k)
    replace pre : Pth p e below S0 T32 (mkF m 85 #[.val (.int p0), .val (.int (1 : Int32)), .val (.ref a_R), .val (.int (1 : Int32)), .val (.ref t_R), .val (.int (1 : Int32)), .val (.int (1 : Int32))] [(.int (1 : Int32))]) := fun t k => pre t (by
      show Steps p.tables e below (T32.setTop (mkF m 65 #[.val (.int p0), .val (.int (1 : Int32)), .val (.ref a_R), .val (.int (1 : Int32)), .val (.ref t_R), .val (.int (1 : Int32)), .unset] [(.int (1 : Int32))])) t
      refine XS.istore X32.here hx rfl (hb hby at_65) rfl (l' := #[.val (.int p0), .val (.int (1 : Int32)), .val (.ref a_R), .val (.int (1 : Int32)), .val (.ref t_R), .val (.int (1 : Int32)), .val (.int (1 : Int32))]) rfl ?_
      show Steps p.tables e below (T32.setTop (mkF m 67 #[.val (.int p0), .val (.int (1 : Int32)), .val (.ref a_R), .val (.int (1 : Int32)), .val (.ref t_R), .val (.int (1 : Int32)), .val (.int (1 : Int32))] [])) t
      refine XS.iload X32.here hx rfl (hb hby at_67) rfl ?_
      show Steps p.tables e below (T32.setTop (mkF m 69 #[.val (.int p0), .val (.int (1 : Int32)), .val (.ref a_R), .val (.int (1 : Int32)), .val (.ref t_R), .val (.int (1 : Int32)), .val (.int (1 : Int32))] [(.int (1 : Int32))])) t
      refine XS.iloadN X32.here hx rfl (hb hby at_69) rfl ?_
      show Steps p.tables e below (T32.setTop (mkF m 70 #[.val (.int p0), .val (.int (1 : Int32)), .val (.ref a_R), .val (.int (1 : Int32)), .val (.ref t_R), .val (.int (1 : Int32)), .val (.int (1 : Int32))] [(.int (1 : Int32)), (.int (1 : Int32))])) t
      refine XS.icmpNo X32.here hx rfl (hb hby at_70) rfl (XT.ii_ne_f rfl) ?_
      show Steps p.tables e below (T32.setTop (mkF m 73 #[.val (.int p0), .val (.int (1 : Int32)), .val (.ref a_R), .val (.int (1 : Int32)), .val (.ref t_R), .val (.int (1 : Int32)), .val (.int (1 : Int32))] [])) t
      refine XS.iload X32.here hx rfl (hb hby at_73) rfl ?_
      show Steps p.tables e below (T32.setTop (mkF m 75 #[.val (.int p0), .val (.int (1 : Int32)), .val (.ref a_R), .val (.int (1 : Int32)), .val (.ref t_R), .val (.int (1 : Int32)), .val (.int (1 : Int32))] [(.int (1 : Int32))])) t
      refine XS.iload X32.here hx rfl (hb hby at_75) rfl ?_
      show Steps p.tables e below (T32.setTop (mkF m 77 #[.val (.int p0), .val (.int (1 : Int32)), .val (.ref a_R), .val (.int (1 : Int32)), .val (.ref t_R), .val (.int (1 : Int32)), .val (.int (1 : Int32))] [(.int (1 : Int32)), (.int (1 : Int32))])) t
      refine XS.icmpNo X32.here hx rfl (hb hby at_77) rfl (XT.ii_ne_f rfl) ?_
      show Steps p.tables e below (T32.setTop (mkF m 80 #[.val (.int p0), .val (.int (1 : Int32)), .val (.ref a_R), .val (.int (1 : Int32)), .val (.ref t_R), .val (.int (1 : Int32)), .val (.int (1 : Int32))] [])) t
      refine XS.iconst X32.here hx rfl (hb hby at_80) ?_
      show Steps p.tables e below (T32.setTop (mkF m 81 #[.val (.int p0), .val (.int (1 : Int32)), .val (.ref a_R), .val (.int (1 : Int32)), .val (.ref t_R), .val (.int (1 : Int32)), .val (.int (1 : Int32))] [(.int (1 : Int32))])) t
      refine XS.goto X32.here hx rfl (pc0 := 81) (pc' := 85) rfl (hb hby at_81) (by decide) (by decide) ?_
      show Steps p.tables e below (T32.setTop (mkF m 85 #[.val (.int p0), .val (.int (1 : Int32)), .val (.ref a_R), .val (.int (1 : Int32)), .val (.ref t_R), .val (.int (1 : Int32)), .val (.int (1 : Int32))] [(.int (1 : Int32))])) t
      exact k)
    obtain ⟨fs, hr, hrun, hended, r1, r2, r3, r4⟩ := X32.leaveW hSin (by rw [e32]; exact hkin) (v := some (.int (1 : Int32))) (fun h => by rw [Bd.returns] at h; cases h)
    subst hS0
    refine ⟨_, _, pre _ ?_, hrun, hended, _, _, rfl, ?_, r1, r2, r3, r4.mono (by decide) (by decide)⟩
    · exact retN X32 hx (t := .boolean) Bd.returns (by simp) (hb hby at_85) hr
    · show Q_law Z p0 a_U t_U p_U a_R t_R p_R a_C t_C p_C cz h0 n0 _ T32.heap _
      rw [e32]
      exact ⟨rfl, N32⟩
  · rw [hk] at pre
    replace pre : Pth p e below S0 s₁ (mkF m 8 #[.val (.int p0), .val (.int (2 : Int32)), .unset, .unset, .unset, .unset, .unset] [(.int (2 : Int32))]) := fun t k => pre t (by
      show Steps p.tables e below (s₁.setTop (mkF m 7 #[.val (.int p0), .val (.int (2 : Int32)), .unset, .unset, .unset, .unset, .unset] [])) t
      refine XS.iloadN X0.here hx rfl (hb hby at_7) rfl ?_
      show Steps p.tables e below (s₁.setTop (mkF m 8 #[.val (.int p0), .val (.int (2 : Int32)), .unset, .unset, .unset, .unset, .unset] [(.int (2 : Int32))])) t
      exact k)
    obtain ⟨_, _, ⟨T33, L33, k33, n33⟩, -, X33, ⟨Lc33, hQ33, l33, y33, z33⟩, st33⟩ := Jvm.LawKit.callS X0 hx (y := (⟨"com/example/originlint/originlint/EmbedderPolicyIsCompatibleWithCrossOriginIsolationPinLaw", "pick", "(I)Lcom/example/originlint/originlint/EmbedderPolicy;"⟩ : MethodName)) hown (mvT hZ (hw _ (List.mem_of_getElem? (i := 1) rfl))) (mvT hZ (hw _ (List.mem_of_getElem? (i := 2) rfl))) (mvT hZ (hw _ (List.mem_of_getElem? (i := 3) rfl))) (mvT hZ (hw _ (List.mem_of_getElem? (i := 4) rfl))) (by decide) (backOf (W := 0) (rm_pick2 l Z a0 hw [] a_C h0 n0 S_C) hZ (hw _ (List.mem_of_getElem? (i := 4) rfl)) (hw _ (List.mem_of_getElem? (i := 3) rfl)) (by decide) (by decide)) (g := (mkF m 8 #[.val (.int p0), .val (.int (2 : Int32)), .unset, .unset, .unset, .unset, .unset] [(.int (2 : Int32))])) rfl (by rw [hml]; rfl) (argsL := [(.int (2 : Int32))]) (rest := []) (lenOf pd__I_Lcom_example_originlint_originlint_EmbedderPolicy_ rfl) rfl (by show 2 * 0 + _ ≤ _; exact Nat.le_of_eq rfl) (hb hby at_8) (fun _ _ => ⟨rfl, e0, (by decide : 0 + 0 ≤ _), (by decide : 0 + 0 ≤ _)⟩)
    dsimp only [Pt.U, Pt.locs, Pt.cells, Pt.slots] at X33 l33 y33 z33 st33 hQ33
    subst l33 y33 z33
    obtain ⟨rfl, N33q, e33⟩ := hQ33
    have N33 := Fr.app N0 N33q
    replace pre : Pth p e below S0 T33 (mkF m 11 #[.val (.int p0), .val (.int (2 : Int32)), .unset, .unset, .unset, .unset, .unset] [(.ref a_C)]) := fun t k => pre t (st33 _ k)
    replace pre : Pth p e below S0 T33 (mkF m 29 #[.val (.int p0), .val (.int (2 : Int32)), .val (.ref a_C), .val (.int (1 : Int32)), .unset, .unset, .unset] [(.ref a_C)]) := fun t k => pre t (by
      show Steps p.tables e below (T33.setTop (mkF m 11 #[.val (.int p0), .val (.int (2 : Int32)), .unset, .unset, .unset, .unset, .unset] [(.ref a_C)])) t
      refine XS.astoreN X33.here hx rfl (hb hby at_11) rfl rfl (l' := #[.val (.int p0), .val (.int (2 : Int32)), .val (.ref a_C), .unset, .unset, .unset, .unset]) rfl ?_
      show Steps p.tables e below (T33.setTop (mkF m 12 #[.val (.int p0), .val (.int (2 : Int32)), .val (.ref a_C), .unset, .unset, .unset, .unset] [])) t
      refine XS.iloadN X33.here hx rfl (hb hby at_12) rfl ?_
      show Steps p.tables e below (T33.setTop (mkF m 13 #[.val (.int p0), .val (.int (2 : Int32)), .val (.ref a_C), .unset, .unset, .unset, .unset] [(.int (2 : Int32))])) t
      refine XS.iconst X33.here hx rfl (hb hby at_13) ?_
      show Steps p.tables e below (T33.setTop (mkF m 14 #[.val (.int p0), .val (.int (2 : Int32)), .val (.ref a_C), .unset, .unset, .unset, .unset] [(.int (1 : Int32)), (.int (2 : Int32))])) t
      refine XS.icmpNo X33.here hx rfl (hb hby at_14) rfl (XT.ii_eq_f (by decide)) ?_
      show Steps p.tables e below (T33.setTop (mkF m 17 #[.val (.int p0), .val (.int (2 : Int32)), .val (.ref a_C), .unset, .unset, .unset, .unset] [])) t
      refine XS.iloadN X33.here hx rfl (hb hby at_17) rfl ?_
      show Steps p.tables e below (T33.setTop (mkF m 18 #[.val (.int p0), .val (.int (2 : Int32)), .val (.ref a_C), .unset, .unset, .unset, .unset] [(.int (2 : Int32))])) t
      refine XS.iconst X33.here hx rfl (hb hby at_18) ?_
      show Steps p.tables e below (T33.setTop (mkF m 19 #[.val (.int p0), .val (.int (2 : Int32)), .val (.ref a_C), .unset, .unset, .unset, .unset] [(.int (2 : Int32)), (.int (2 : Int32))])) t
      refine XS.icmpNo X33.here hx rfl (hb hby at_19) rfl (XT.ii_ne_f rfl) ?_
      show Steps p.tables e below (T33.setTop (mkF m 22 #[.val (.int p0), .val (.int (2 : Int32)), .val (.ref a_C), .unset, .unset, .unset, .unset] [])) t
      refine XS.iconst X33.here hx rfl (hb hby at_22) ?_
      show Steps p.tables e below (T33.setTop (mkF m 23 #[.val (.int p0), .val (.int (2 : Int32)), .val (.ref a_C), .unset, .unset, .unset, .unset] [(.int (1 : Int32))])) t
      refine XS.goto X33.here hx rfl (pc0 := 23) (pc' := 27) rfl (hb hby at_23) (by decide) (by decide) ?_
      show Steps p.tables e below (T33.setTop (mkF m 27 #[.val (.int p0), .val (.int (2 : Int32)), .val (.ref a_C), .unset, .unset, .unset, .unset] [(.int (1 : Int32))])) t
      refine XS.istoreN X33.here hx rfl (hb hby at_27) rfl (l' := #[.val (.int p0), .val (.int (2 : Int32)), .val (.ref a_C), .val (.int (1 : Int32)), .unset, .unset, .unset]) rfl ?_
      show Steps p.tables e below (T33.setTop (mkF m 28 #[.val (.int p0), .val (.int (2 : Int32)), .val (.ref a_C), .val (.int (1 : Int32)), .unset, .unset, .unset] [])) t
      refine XS.aloadN X33.here hx rfl (hb hby at_28) rfl rfl ?_
      show Steps p.tables e below (T33.setTop (mkF m 29 #[.val (.int p0), .val (.int (2 : Int32)), .val (.ref a_C), .val (.int (1 : Int32)), .unset, .unset, .unset] [(.ref a_C)])) t
      exact k)
    obtain ⟨cq34, kq34, q34a, q34b, q34c⟩ := isOf hZ e33 E_C
    obtain ⟨_, _, ⟨T34, L34, k34, n34⟩, -, X34, ⟨Lc34, hQ34, l34, y34, z34⟩, st34⟩ := X33.virtualBack hx (y := (⟨"com/example/originlint/originlint/EmbedderPolicy", "token", "()Ljava/lang/String;"⟩ : MethodName)) (z := (⟨"com/example/originlint/originlint/EmbedderPolicy", "token", "()Ljava/lang/String;"⟩ : MethodName)) hown (mvT hZ (hw _ (List.mem_of_getElem? (i := 8) rfl))) (mvT hZ (hw _ (List.mem_of_getElem? (i := 9) rfl))) (notFace_of_selects (args := #[]) (mvT hZ (hw _ (List.mem_of_getElem? (i := 11) rfl)))) (mvT hZ (hw _ (List.mem_of_getElem? (i := 11) rfl))) (mvT hZ (hw _ (List.mem_of_getElem? (i := 10) rfl))) (by decide) (backOf (W := 0) (rm_tok l Z a0 hw [] a_C t_C h0 n0 T_C) hZ (hw _ (List.mem_of_getElem? (i := 12) rfl)) (hw _ (List.mem_of_getElem? (i := 6) rfl)) (by decide) (by decide)) q34a q34c (g := (mkF m 29 #[.val (.int p0), .val (.int (2 : Int32)), .val (.ref a_C), .val (.int (1 : Int32)), .unset, .unset, .unset] [(.ref a_C)])) rfl (by rw [hml]; rfl) (Steps.refl _) (argsL := []) (rest := []) (lenOf pd___Ljava_lang_String_ rfl) rfl (by show 2 * 0 + _ ≤ _; exact Nat.le_of_eq rfl) (hb hby at_29) (fun _ _ => ⟨rfl, e33, (by decide : 0 + 0 ≤ _), (by decide : 0 + 0 ≤ _)⟩)
    dsimp only [Pt.U, Pt.locs, Pt.cells, Pt.slots] at X34 l34 y34 z34 st34 hQ34
    subst l34 y34 z34
    obtain ⟨rfl, N34q, e34⟩ := hQ34
    have N34 := Fr.app N33 N34q
    replace pre : Pth p e below S0 T34 (mkF m 32 #[.val (.int p0), .val (.int (2 : Int32)), .val (.ref a_C), .val (.int (1 : Int32)), .unset, .unset, .unset] [(.ref t_C)]) := fun t k => pre t (st34.trans k)
    replace pre : Pth p e below S0 T34 (mkF m 34 #[.val (.int p0), .val (.int (2 : Int32)), .val (.ref a_C), .val (.int (1 : Int32)), .val (.ref t_C), .unset, .unset] []) := fun t k => pre t (by
      show Steps p.tables e below (T34.setTop (mkF m 32 #[.val (.int p0), .val (.int (2 : Int32)), .val (.ref a_C), .val (.int (1 : Int32)), .unset, .unset, .unset] [(.ref t_C)])) t
      refine XS.astore X34.here hx rfl (hb hby at_32) rfl rfl (l' := #[.val (.int p0), .val (.int (2 : Int32)), .val (.ref a_C), .val (.int (1 : Int32)), .val (.ref t_C), .unset, .unset]) rfl ?_
      show Steps p.tables e below (T34.setTop (mkF m 34 #[.val (.int p0), .val (.int (2 : Int32)), .val (.ref a_C), .val (.int (1 : Int32)), .val (.ref t_C), .unset, .unset] [])) t
      exact k)
    obtain ⟨a35, T35, h35, k35, b35, c35, X35, e35, E35, hSin, hkin, hZ, hown, EX35, FC35, FV35, AV35, -, -, I35, -, st35⟩ := ldcSVL (s := s) (vm0 := s.vm) (Ts := ([] : List String)) X34 hx hZ hown (hw _ (List.mem_of_getElem? (i := 15) rfl)) wS e34 hSin hkin (hns ▸ N34) hkeep I0 (by decide) hh30 hcw (vs := own_R.map Value.int) (z := 12) ⟨by decide +kernel, by decide +kernel⟩ (by decide) (by decide) (g := (mkF m 34 #[.val (.int p0), .val (.int (2 : Int32)), .val (.ref a_C), .val (.int (1 : Int32)), .val (.ref t_C), .unset, .unset] [])) rfl (hb hby at_34) (n := 48) (by decide +kernel) (by decide) (by decide) (by decide)
    have O35 : OStr Z h35 a35 b35 own_R := ⟨EX35, FC35, FV35, own_of_arv AV35 (by decide)⟩
    replace pre : Pth p e below S0 T35 (mkF m 36 #[.val (.int p0), .val (.int (2 : Int32)), .val (.ref a_C), .val (.int (1 : Int32)), .val (.ref t_C), .unset, .unset] [(.ref a35)]) := fun t k => pre t (st35 _ k)
    replace pre : Pth p e below S0 T35 (mkF m 38 #[.val (.int p0), .val (.int (2 : Int32)), .val (.ref a_C), .val (.int (1 : Int32)), .val (.ref t_C), .unset, .unset] [(.ref t_C), (.ref a35)]) := fun t k => pre t (by
      show Steps p.tables e below (T35.setTop (mkF m 36 #[.val (.int p0), .val (.int (2 : Int32)), .val (.ref a_C), .val (.int (1 : Int32)), .val (.ref t_C), .unset, .unset] [(.ref a35)])) t
      refine XS.aload X35.here hx rfl (hb hby at_36) rfl rfl ?_
      show Steps p.tables e below (T35.setTop (mkF m 38 #[.val (.int p0), .val (.int (2 : Int32)), .val (.ref a_C), .val (.int (1 : Int32)), .val (.ref t_C), .unset, .unset] [(.ref t_C), (.ref a35)])) t
      exact k)
    obtain ⟨cq36, kq36, q36a, q36b, q36c⟩ := isOf hZ e35 O35.1
    obtain ⟨_, _, ⟨T36, L36, k36, n36⟩, -, X36, ⟨Lc36, hQ36, l36, y36, z36⟩, st36⟩ := X35.virtualBack hx (y := (⟨"java/lang/String", "equals", "(Ljava/lang/Object;)Z"⟩ : MethodName)) (z := (⟨"java/lang/String", "equals", "(Ljava/lang/Object;)Z"⟩ : MethodName)) hown (mvT hZ (hw _ (List.mem_of_getElem? (i := 23) rfl))) (mvT hZ (hw _ (List.mem_of_getElem? (i := 24) rfl))) (notFace_of_selects (args := #[]) (mvT hZ (hw _ (List.mem_of_getElem? (i := 26) rfl)))) (mvT hZ (hw _ (List.mem_of_getElem? (i := 26) rfl))) (mvT hZ (hw _ (List.mem_of_getElem? (i := 25) rfl))) (by decide) (backOf (W := 0) (rm_seq l Z a0 hw [] a35 t_C b35 p_C own_R own_C cz h35 n0 O35 (Q_C.ext E35) (by decide) (by decide) (Scs.ext E35) hcz) hZ (hw _ (List.mem_of_getElem? (i := 27) rfl)) (hw _ (List.mem_of_getElem? (i := 16) rfl)) (by decide) (by decide)) q36a q36c (g := (mkF m 38 #[.val (.int p0), .val (.int (2 : Int32)), .val (.ref a_C), .val (.int (1 : Int32)), .val (.ref t_C), .unset, .unset] [(.ref t_C), (.ref a35)])) rfl (by rw [hml]; rfl) (Steps.refl _) (argsL := [(.ref t_C)]) (rest := []) (lenOf pd__Ljava_lang_Object__Z rfl) rfl (by show 2 * 0 + _ ≤ _; exact Nat.le_of_eq rfl) (hb hby at_38) (fun _ _ => ⟨rfl, e35, (by decide : 2 + 0 ≤ _), (by decide : 52 + 0 ≤ _)⟩)
    dsimp only [Pt.U, Pt.locs, Pt.cells, Pt.slots] at X36 l36 y36 z36 st36 hQ36
    subst l36 y36 z36
    obtain ⟨rfl, N36q, e36⟩ := hQ36
    have N36 := Fr.app N34 N36q
    replace pre : Pth p e below S0 T36 (mkF m 41 #[.val (.int p0), .val (.int (2 : Int32)), .val (.ref a_C), .val (.int (1 : Int32)), .val (.ref t_C), .unset, .unset] [(.int (own_eq own_R own_C))]) := fun t k => pre t (st36.trans k)
    replace pre : Pth p e below S0 T36 (mkF m 44 #[.val (.int p0), .val (.int (2 : Int32)), .val (.ref a_C), .val (.int (1 : Int32)), .val (.ref t_C), .unset, .unset] []) := fun t k => pre t (by
      show Steps p.tables e below (T36.setTop (mkF m 41 #[.val (.int p0), .val (.int (2 : Int32)), .val (.ref a_C), .val (.int (1 : Int32)), .val (.ref t_C), .unset, .unset] [(.int (own_eq own_R own_C))])) t
      refine XS.ifNo X36.here hx rfl (hb hby at_41) rfl (XT.i0_ne_f (by decide +kernel)) ?_
      show Steps p.tables e below (T36.setTop (mkF m 44 #[.val (.int p0), .val (.int (2 : Int32)), .val (.ref a_C), .val (.int (1 : Int32)), .val (.ref t_C), .unset, .unset] [])) t
      exact k)
    obtain ⟨a37, T37, h37, k37, b37, c37, X37, e37, E37, hSin, hkin, hZ, hown, EX37, FC37, FV37, AV37, -, -, I37, -, st37⟩ := ldcSVL (s := s) (vm0 := T35.vm) (Ts := ["require-corp"]) X36 hx hZ hown (hw _ (List.mem_of_getElem? (i := 37) rfl)) wS e36 hSin hkin (hns ▸ N36) hkeep I35 (by decide) hh38 hcw (vs := own_C.map Value.int) (z := 14) ⟨by decide +kernel, by decide +kernel⟩ (by decide) (by decide) (g := (mkF m 44 #[.val (.int p0), .val (.int (2 : Int32)), .val (.ref a_C), .val (.int (1 : Int32)), .val (.ref t_C), .unset, .unset] [])) rfl (hb hby at_44) (n := 56) (by decide +kernel) (by decide) (by decide) (by decide)
    have O37 : OStr Z h37 a37 b37 own_C := ⟨EX37, FC37, FV37, own_of_arv AV37 (by decide)⟩
    replace pre : Pth p e below S0 T37 (mkF m 46 #[.val (.int p0), .val (.int (2 : Int32)), .val (.ref a_C), .val (.int (1 : Int32)), .val (.ref t_C), .unset, .unset] [(.ref a37)]) := fun t k => pre t (st37 _ k)
    replace pre : Pth p e below S0 T37 (mkF m 48 #[.val (.int p0), .val (.int (2 : Int32)), .val (.ref a_C), .val (.int (1 : Int32)), .val (.ref t_C), .unset, .unset] [(.ref t_C), (.ref a37)]) := fun t k => pre t (by
      show Steps p.tables e below (T37.setTop (mkF m 46 #[.val (.int p0), .val (.int (2 : Int32)), .val (.ref a_C), .val (.int (1 : Int32)), .val (.ref t_C), .unset, .unset] [(.ref a37)])) t
      refine XS.aload X37.here hx rfl (hb hby at_46) rfl rfl ?_
      show Steps p.tables e below (T37.setTop (mkF m 48 #[.val (.int p0), .val (.int (2 : Int32)), .val (.ref a_C), .val (.int (1 : Int32)), .val (.ref t_C), .unset, .unset] [(.ref t_C), (.ref a37)])) t
      exact k)
    obtain ⟨cq38, kq38, q38a, q38b, q38c⟩ := isOf hZ e37 O37.1
    obtain ⟨_, _, ⟨T38, L38, k38, n38⟩, -, X38, ⟨Lc38, hQ38, l38, y38, z38⟩, st38⟩ := X37.virtualBack hx (y := (⟨"java/lang/String", "equals", "(Ljava/lang/Object;)Z"⟩ : MethodName)) (z := (⟨"java/lang/String", "equals", "(Ljava/lang/Object;)Z"⟩ : MethodName)) hown (mvT hZ (hw _ (List.mem_of_getElem? (i := 23) rfl))) (mvT hZ (hw _ (List.mem_of_getElem? (i := 24) rfl))) (notFace_of_selects (args := #[]) (mvT hZ (hw _ (List.mem_of_getElem? (i := 26) rfl)))) (mvT hZ (hw _ (List.mem_of_getElem? (i := 26) rfl))) (mvT hZ (hw _ (List.mem_of_getElem? (i := 25) rfl))) (by decide) (backOf (W := 0) (rm_seq l Z a0 hw [] a37 t_C b37 p_C own_C own_C cz h37 n0 O37 (Q_C.ext (own_ext_trans E35 E37)) (by decide) (by decide) (Scs.ext (own_ext_trans E35 E37)) hcz) hZ (hw _ (List.mem_of_getElem? (i := 27) rfl)) (hw _ (List.mem_of_getElem? (i := 16) rfl)) (by decide) (by decide)) q38a q38c (g := (mkF m 48 #[.val (.int p0), .val (.int (2 : Int32)), .val (.ref a_C), .val (.int (1 : Int32)), .val (.ref t_C), .unset, .unset] [(.ref t_C), (.ref a37)])) rfl (by rw [hml]; rfl) (Steps.refl _) (argsL := [(.ref t_C)]) (rest := []) (lenOf pd__Ljava_lang_Object__Z rfl) rfl (by show 2 * 0 + _ ≤ _; exact Nat.le_of_eq rfl) (hb hby at_48) (fun _ _ => ⟨rfl, e37, (by decide : 4 + 0 ≤ _), (by decide : 112 + 0 ≤ _)⟩)
    dsimp only [Pt.U, Pt.locs, Pt.cells, Pt.slots] at X38 l38 y38 z38 st38 hQ38
    subst l38 y38 z38
    obtain ⟨rfl, N38q, e38⟩ := hQ38
    have N38 := Fr.app N36 N38q
    replace pre : Pth p e below S0 T38 (mkF m 51 #[.val (.int p0), .val (.int (2 : Int32)), .val (.ref a_C), .val (.int (1 : Int32)), .val (.ref t_C), .unset, .unset] [(.int (own_eq own_C own_C))]) := fun t k => pre t (st38.trans k)
    replace pre : Pth p e below S0 T38 (mkF m 62 #[.val (.int p0), .val (.int (2 : Int32)), .val (.ref a_C), .val (.int (1 : Int32)), .val (.ref t_C), .val (.int (1 : Int32)), .unset] [(.ref a_C)]) := fun t k => pre t (by
      show Steps p.tables e below (T38.setTop (mkF m 51 #[.val (.int p0), .val (.int (2 : Int32)), .val (.ref a_C), .val (.int (1 : Int32)), .val (.ref t_C), .unset, .unset] [(.int (own_eq own_C own_C))])) t
      refine XS.ifNo X38.here hx rfl (hb hby at_51) rfl (XT.i0_eq_f (by decide +kernel)) ?_
      show Steps p.tables e below (T38.setTop (mkF m 54 #[.val (.int p0), .val (.int (2 : Int32)), .val (.ref a_C), .val (.int (1 : Int32)), .val (.ref t_C), .unset, .unset] [])) t
      refine XS.iconst X38.here hx rfl (hb hby at_54) ?_
      show Steps p.tables e below (T38.setTop (mkF m 55 #[.val (.int p0), .val (.int (2 : Int32)), .val (.ref a_C), .val (.int (1 : Int32)), .val (.ref t_C), .unset, .unset] [(.int (1 : Int32))])) t
      refine XS.goto X38.here hx rfl (pc0 := 55) (pc' := 59) rfl (hb hby at_55) (by decide) (by decide) ?_
      show Steps p.tables e below (T38.setTop (mkF m 59 #[.val (.int p0), .val (.int (2 : Int32)), .val (.ref a_C), .val (.int (1 : Int32)), .val (.ref t_C), .unset, .unset] [(.int (1 : Int32))])) t
      refine XS.istore X38.here hx rfl (hb hby at_59) rfl (l' := #[.val (.int p0), .val (.int (2 : Int32)), .val (.ref a_C), .val (.int (1 : Int32)), .val (.ref t_C), .val (.int (1 : Int32)), .unset]) rfl ?_
      show Steps p.tables e below (T38.setTop (mkF m 61 #[.val (.int p0), .val (.int (2 : Int32)), .val (.ref a_C), .val (.int (1 : Int32)), .val (.ref t_C), .val (.int (1 : Int32)), .unset] [])) t
      refine XS.aloadN X38.here hx rfl (hb hby at_61) rfl rfl ?_
      show Steps p.tables e below (T38.setTop (mkF m 62 #[.val (.int p0), .val (.int (2 : Int32)), .val (.ref a_C), .val (.int (1 : Int32)), .val (.ref t_C), .val (.int (1 : Int32)), .unset] [(.ref a_C)])) t
      exact k)
    obtain ⟨cq39, kq39, q39a, q39b, q39c⟩ := isOf hZ e38 (E_C.ext (own_ext_trans E35 E37))
    obtain ⟨_, _, ⟨T39, L39, k39, n39⟩, -, X39, ⟨Lc39, hQ39, l39, y39, z39⟩, st39⟩ := X38.virtualBack hx (y := (⟨"com/example/originlint/originlint/EmbedderPolicy", "isCompatibleWithCrossOriginIsolation", "()Z"⟩ : MethodName)) (z := (⟨"com/example/originlint/originlint/EmbedderPolicy", "isCompatibleWithCrossOriginIsolation", "()Z"⟩ : MethodName)) hown (mvT hZ (hw _ (List.mem_of_getElem? (i := 38) rfl))) (mvT hZ (hw _ (List.mem_of_getElem? (i := 39) rfl))) (notFace_of_selects (args := #[]) (mvT hZ (hw _ (List.mem_of_getElem? (i := 41) rfl)))) (mvT hZ (hw _ (List.mem_of_getElem? (i := 41) rfl))) (mvT hZ (hw _ (List.mem_of_getElem? (i := 40) rfl))) (by decide) (backOf (W := 0) (rm_icB l Z a0 hw [] a_C a_U h37 n0 (S_U.ext (own_ext_trans E35 E37)) ne_C) hZ (hw _ (List.mem_of_getElem? (i := 42) rfl)) (hw _ (List.mem_of_getElem? (i := 6) rfl)) (by decide) (by decide)) q39a q39c (g := (mkF m 62 #[.val (.int p0), .val (.int (2 : Int32)), .val (.ref a_C), .val (.int (1 : Int32)), .val (.ref t_C), .val (.int (1 : Int32)), .unset] [(.ref a_C)])) rfl (by rw [hml]; rfl) (Steps.refl _) (argsL := []) (rest := []) (lenOf pd___Z rfl) rfl (by show 2 * 0 + _ ≤ _; exact Nat.le_of_eq rfl) (hb hby at_62) (fun _ _ => ⟨rfl, e38, (by decide : 4 + 0 ≤ _), (by decide : 112 + 0 ≤ _)⟩)
    dsimp only [Pt.U, Pt.locs, Pt.cells, Pt.slots] at X39 l39 y39 z39 st39 hQ39
    subst l39 y39 z39
    obtain ⟨rfl, N39q, e39⟩ := hQ39
    have N39 := Fr.app N38 N39q
    replace pre : Pth p e below S0 T39 (mkF m 65 #[.val (.int p0), .val (.int (2 : Int32)), .val (.ref a_C), .val (.int (1 : Int32)), .val (.ref t_C), .val (.int (1 : Int32)), .unset] [(.int (1 : Int32))]) := fun t k => pre t (st39.trans k)
    replace pre : Pth p e below S0 T39 (mkF m 85 #[.val (.int p0), .val (.int (2 : Int32)), .val (.ref a_C), .val (.int (1 : Int32)), .val (.ref t_C), .val (.int (1 : Int32)), .val (.int (1 : Int32))] [(.int (1 : Int32))]) := fun t k => pre t (by
      show Steps p.tables e below (T39.setTop (mkF m 65 #[.val (.int p0), .val (.int (2 : Int32)), .val (.ref a_C), .val (.int (1 : Int32)), .val (.ref t_C), .val (.int (1 : Int32)), .unset] [(.int (1 : Int32))])) t
      refine XS.istore X39.here hx rfl (hb hby at_65) rfl (l' := #[.val (.int p0), .val (.int (2 : Int32)), .val (.ref a_C), .val (.int (1 : Int32)), .val (.ref t_C), .val (.int (1 : Int32)), .val (.int (1 : Int32))]) rfl ?_
      show Steps p.tables e below (T39.setTop (mkF m 67 #[.val (.int p0), .val (.int (2 : Int32)), .val (.ref a_C), .val (.int (1 : Int32)), .val (.ref t_C), .val (.int (1 : Int32)), .val (.int (1 : Int32))] [])) t
      refine XS.iload X39.here hx rfl (hb hby at_67) rfl ?_
      show Steps p.tables e below (T39.setTop (mkF m 69 #[.val (.int p0), .val (.int (2 : Int32)), .val (.ref a_C), .val (.int (1 : Int32)), .val (.ref t_C), .val (.int (1 : Int32)), .val (.int (1 : Int32))] [(.int (1 : Int32))])) t
      refine XS.iloadN X39.here hx rfl (hb hby at_69) rfl ?_
      show Steps p.tables e below (T39.setTop (mkF m 70 #[.val (.int p0), .val (.int (2 : Int32)), .val (.ref a_C), .val (.int (1 : Int32)), .val (.ref t_C), .val (.int (1 : Int32)), .val (.int (1 : Int32))] [(.int (1 : Int32)), (.int (1 : Int32))])) t
      refine XS.icmpNo X39.here hx rfl (hb hby at_70) rfl (XT.ii_ne_f rfl) ?_
      show Steps p.tables e below (T39.setTop (mkF m 73 #[.val (.int p0), .val (.int (2 : Int32)), .val (.ref a_C), .val (.int (1 : Int32)), .val (.ref t_C), .val (.int (1 : Int32)), .val (.int (1 : Int32))] [])) t
      refine XS.iload X39.here hx rfl (hb hby at_73) rfl ?_
      show Steps p.tables e below (T39.setTop (mkF m 75 #[.val (.int p0), .val (.int (2 : Int32)), .val (.ref a_C), .val (.int (1 : Int32)), .val (.ref t_C), .val (.int (1 : Int32)), .val (.int (1 : Int32))] [(.int (1 : Int32))])) t
      refine XS.iload X39.here hx rfl (hb hby at_75) rfl ?_
      show Steps p.tables e below (T39.setTop (mkF m 77 #[.val (.int p0), .val (.int (2 : Int32)), .val (.ref a_C), .val (.int (1 : Int32)), .val (.ref t_C), .val (.int (1 : Int32)), .val (.int (1 : Int32))] [(.int (1 : Int32)), (.int (1 : Int32))])) t
      refine XS.icmpNo X39.here hx rfl (hb hby at_77) rfl (XT.ii_ne_f rfl) ?_
      show Steps p.tables e below (T39.setTop (mkF m 80 #[.val (.int p0), .val (.int (2 : Int32)), .val (.ref a_C), .val (.int (1 : Int32)), .val (.ref t_C), .val (.int (1 : Int32)), .val (.int (1 : Int32))] [])) t
      refine XS.iconst X39.here hx rfl (hb hby at_80) ?_
      show Steps p.tables e below (T39.setTop (mkF m 81 #[.val (.int p0), .val (.int (2 : Int32)), .val (.ref a_C), .val (.int (1 : Int32)), .val (.ref t_C), .val (.int (1 : Int32)), .val (.int (1 : Int32))] [(.int (1 : Int32))])) t
      refine XS.goto X39.here hx rfl (pc0 := 81) (pc' := 85) rfl (hb hby at_81) (by decide) (by decide) ?_
      show Steps p.tables e below (T39.setTop (mkF m 85 #[.val (.int p0), .val (.int (2 : Int32)), .val (.ref a_C), .val (.int (1 : Int32)), .val (.ref t_C), .val (.int (1 : Int32)), .val (.int (1 : Int32))] [(.int (1 : Int32))])) t
      exact k)
    obtain ⟨fs, hr, hrun, hended, r1, r2, r3, r4⟩ := X39.leaveW hSin (by rw [e39]; exact hkin) (v := some (.int (1 : Int32))) (fun h => by rw [Bd.returns] at h; cases h)
    subst hS0
    refine ⟨_, _, pre _ ?_, hrun, hended, _, _, rfl, ?_, r1, r2, r3, r4.mono (by decide) (by decide)⟩
    · exact retN X39 hx (t := .boolean) Bd.returns (by simp) (hb hby at_85) hr
    · show Q_law Z p0 a_U t_U p_U a_R t_R p_R a_C t_C p_C cz h0 n0 _ T39.heap _
      rw [e39]
      exact ⟨rfl, N39⟩
set_option maxRecDepth 65536 in
set_option maxHeartbeats 40000000 in
theorem comes_1 {Post : Tables → Env → Array Value → State → Outcome → State → Prop} (hpost : ∀ tb e args s v u, (limb_1_1.after args s (.returned v) u = true ∧ limb_1_2.after args s (.returned v) u = true ∧ True) → ReturnedEndW s (.returned v) u (Jvm.fieldLocs frame_1_writes args s ++ Jvm.arrayLocs frame_1_arrays args s ++ Jvm.staticLocs frame_1_statics s) 8 2112 → Post tb e args s (.returned v) u) :
    ArmFor flags0 classFile x code maxLocals ret World_1 tables_1 room_1 Calls_1 rest_1 Pre_1 Post := by
  intro l hfl _ _ p e ha hc hk s m args below hf hA hF happ hP
  obtain ⟨hcalls, hrest, hpre⟩ := hP
  obtain ⟨-, -, -, hnamed, -, -, -, hat⟩ := (Spec.applies_iff hf).mp happ
  obtain ⟨hg, hn⟩ := and_e (Cond.before_iff.mp (show (Jvm.Cond.and given_1 narrow_1).before args s = true from hpre))
  obtain ⟨gv1a, gv1b⟩ := and_e hg
  obtain ⟨w0, rfl⟩ : ∃ w0 : Value, args = #[w0] := by
    have hs : args.size = 1 := by simpa [Cond.value, given_1] using gv1a
    obtain ⟨L⟩ := args
    match L, hs with
    | [w0], _ => exact ⟨w0, rfl⟩
  have hw := fun d (hd : d ∈ tables_1) => atoms_spec (ws := Jvm.Cond.code x code maxLocals ret :: tables_1) hat d (List.mem_cons_of_mem _ hd)
  have hfit : Fit s := fun {y c} hc i hi => by
    obtain ⟨ha, rfl⟩ := Array.getElem?_eq_some_iff.mp hc
    have q := List.all_eq_true.mp ((Array.all_eq_true_iff_forall_mem.mp hF) _ (Array.getElem_mem ha)) i (List.mem_range.mpr hi)
    simpa [Array.getElem?_eq_getElem hi] using q
  obtain ⟨hsets, hown0⟩ := atoms_of _ (rest_1_c_eq ▸ (show rest_1_c.before _ s = true from hrest))
  have hr0 := Cond.before_iff.mp hown0
  obtain ⟨i0, ei0⟩ := is_v gv1b
  obtain rfl : w0 = (.int i0) := Option.some.inj ei0
  obtain ⟨d0_hx_U, e0_hx_U⟩ := and_e hn
  have hx_U := d0_hx_U
  obtain ⟨d2_hxt_U, e2_hxt_U⟩ := and_e e0_hx_U
  have hxt_U := d2_hxt_U
  obtain ⟨d4_hco_U, e4_hco_U⟩ := and_e e2_hxt_U
  have hco_U := d4_hco_U
  obtain ⟨d6_har_U, e6_har_U⟩ := and_e e4_hco_U
  have har_U := d6_har_U
  obtain ⟨d8_hle_U, e8_hle_U⟩ := and_e e6_har_U
  have hle_U := d8_hle_U
  obtain ⟨d10_hx_C, e10_hx_C⟩ := and_e e8_hle_U
  have hx_C := d10_hx_C
  obtain ⟨d12_hxt_C, e12_hxt_C⟩ := and_e e10_hx_C
  have hxt_C := d12_hxt_C
  obtain ⟨d14_hco_C, e14_hco_C⟩ := and_e e12_hxt_C
  have hco_C := d14_hco_C
  obtain ⟨d16_har_C, e16_har_C⟩ := and_e e14_hco_C
  have har_C := d16_har_C
  obtain ⟨d18_hle_C, e18_hle_C⟩ := and_e e16_har_C
  have hle_C := d18_hle_C
  obtain ⟨d20_ho_C, e20_ho_C⟩ := and_e e18_hle_C
  have ho_C := d20_ho_C
  obtain ⟨d22_ho_U, e22_ho_U⟩ := and_e e20_ho_C
  have ho_U := d22_ho_U
  obtain ⟨d24_hx_R, e24_hx_R⟩ := and_e e22_ho_U
  have hx_R := d24_hx_R
  obtain ⟨d26_hxt_R, e26_hxt_R⟩ := and_e e24_hx_R
  have hxt_R := d26_hxt_R
  obtain ⟨d28_hco_R, e28_hco_R⟩ := and_e e26_hxt_R
  have hco_R := d28_hco_R
  obtain ⟨d30_har_R, e30_har_R⟩ := and_e e28_hco_R
  have har_R := d30_har_R
  obtain ⟨d32_hle_R, e32_hle_R⟩ := and_e e30_har_R
  have hle_R := d32_hle_R
  obtain ⟨d34_ho_R, e34_ho_R⟩ := and_e e32_hle_R
  have ho_R := d34_ho_R
  obtain ⟨d36_hel_U_0, e36_hel_U_0⟩ := and_e e34_ho_R
  have hel_U_0 := d36_hel_U_0
  obtain ⟨d38_hel_U_1, e38_hel_U_1⟩ := and_e e36_hel_U_0
  have hel_U_1 := d38_hel_U_1
  obtain ⟨d40_hel_U_2, e40_hel_U_2⟩ := and_e e38_hel_U_1
  have hel_U_2 := d40_hel_U_2
  obtain ⟨d42_hel_U_3, e42_hel_U_3⟩ := and_e e40_hel_U_2
  have hel_U_3 := d42_hel_U_3
  obtain ⟨d44_hel_U_4, e44_hel_U_4⟩ := and_e e42_hel_U_3
  have hel_U_4 := d44_hel_U_4
  obtain ⟨d46_hel_U_5, e46_hel_U_5⟩ := and_e e44_hel_U_4
  have hel_U_5 := d46_hel_U_5
  obtain ⟨d48_hel_U_6, e48_hel_U_6⟩ := and_e e46_hel_U_5
  have hel_U_6 := d48_hel_U_6
  obtain ⟨d50_hel_U_7, e50_hel_U_7⟩ := and_e e48_hel_U_6
  have hel_U_7 := d50_hel_U_7
  obtain ⟨d52_hel_U_8, e52_hel_U_8⟩ := and_e e50_hel_U_7
  have hel_U_8 := d52_hel_U_8
  obtain ⟨d54_hel_U_9, e54_hel_U_9⟩ := and_e e52_hel_U_8
  have hel_U_9 := d54_hel_U_9
  obtain ⟨d56_hel_U_10, e56_hel_U_10⟩ := and_e e54_hel_U_9
  have hel_U_10 := d56_hel_U_10
  obtain ⟨d58_hel_C_0, e58_hel_C_0⟩ := and_e e56_hel_U_10
  have hel_C_0 := d58_hel_C_0
  obtain ⟨d60_hel_C_1, e60_hel_C_1⟩ := and_e e58_hel_C_0
  have hel_C_1 := d60_hel_C_1
  obtain ⟨d62_hel_C_2, e62_hel_C_2⟩ := and_e e60_hel_C_1
  have hel_C_2 := d62_hel_C_2
  obtain ⟨d64_hel_C_3, e64_hel_C_3⟩ := and_e e62_hel_C_2
  have hel_C_3 := d64_hel_C_3
  obtain ⟨d66_hel_C_4, e66_hel_C_4⟩ := and_e e64_hel_C_3
  have hel_C_4 := d66_hel_C_4
  obtain ⟨d68_hel_C_5, e68_hel_C_5⟩ := and_e e66_hel_C_4
  have hel_C_5 := d68_hel_C_5
  obtain ⟨d70_hel_C_6, e70_hel_C_6⟩ := and_e e68_hel_C_5
  have hel_C_6 := d70_hel_C_6
  obtain ⟨d72_hel_C_7, e72_hel_C_7⟩ := and_e e70_hel_C_6
  have hel_C_7 := d72_hel_C_7
  obtain ⟨d74_hel_C_8, e74_hel_C_8⟩ := and_e e72_hel_C_7
  have hel_C_8 := d74_hel_C_8
  obtain ⟨d76_hel_C_9, e76_hel_C_9⟩ := and_e e74_hel_C_8
  have hel_C_9 := d76_hel_C_9
  obtain ⟨d78_hel_C_10, e78_hel_C_10⟩ := and_e e76_hel_C_9
  have hel_C_10 := d78_hel_C_10
  obtain ⟨d80_hel_C_11, e80_hel_C_11⟩ := and_e e78_hel_C_10
  have hel_C_11 := d80_hel_C_11
  obtain ⟨d82_hel_C_12, e82_hel_C_12⟩ := and_e e80_hel_C_11
  have hel_C_12 := d82_hel_C_12
  obtain ⟨d84_hel_C_13, e84_hel_C_13⟩ := and_e e82_hel_C_12
  have hel_C_13 := d84_hel_C_13
  obtain ⟨d86_hel_R_0, e86_hel_R_0⟩ := and_e e84_hel_C_13
  have hel_R_0 := d86_hel_R_0
  obtain ⟨d88_hel_R_1, e88_hel_R_1⟩ := and_e e86_hel_R_0
  have hel_R_1 := d88_hel_R_1
  obtain ⟨d90_hel_R_2, e90_hel_R_2⟩ := and_e e88_hel_R_1
  have hel_R_2 := d90_hel_R_2
  obtain ⟨d92_hel_R_3, e92_hel_R_3⟩ := and_e e90_hel_R_2
  have hel_R_3 := d92_hel_R_3
  obtain ⟨d94_hel_R_4, e94_hel_R_4⟩ := and_e e92_hel_R_3
  have hel_R_4 := d94_hel_R_4
  obtain ⟨d96_hel_R_5, e96_hel_R_5⟩ := and_e e94_hel_R_4
  have hel_R_5 := d96_hel_R_5
  obtain ⟨d98_hel_R_6, e98_hel_R_6⟩ := and_e e96_hel_R_5
  have hel_R_6 := d98_hel_R_6
  obtain ⟨d100_hel_R_7, e100_hel_R_7⟩ := and_e e98_hel_R_6
  have hel_R_7 := d100_hel_R_7
  obtain ⟨d102_hel_R_8, e102_hel_R_8⟩ := and_e e100_hel_R_7
  have hel_R_8 := d102_hel_R_8
  obtain ⟨d104_hel_R_9, e104_hel_R_9⟩ := and_e e102_hel_R_8
  have hel_R_9 := d104_hel_R_9
  obtain ⟨d106_hel_R_10, e106_hel_R_10⟩ := and_e e104_hel_R_9
  have hel_R_10 := d106_hel_R_10
  have hel_R_11 := e106_hel_R_10
  obtain ⟨a_U, ev_U⟩ := exa_v hx_U
  have E_U := Exa.start ev_U hx_U
  have S_U := Sta.start ev_U (Or.inr ⟨(hw _ (List.mem_of_getElem? (i := 6) rfl)), (hw _ (List.mem_of_getElem? (i := 7) rfl))⟩)
  have O_U := own_fldeq ev_U ho_U
  obtain ⟨t_U, et_U⟩ := exa_v hxt_U
  have X_U := Exa.start et_U hxt_U
  have C_U := own_fldeq et_U hco_U
  obtain ⟨p_U, ep_U⟩ := arr_v har_U
  have T_U := Fld.start ((fld_at ev_U).symm.trans et_U)
  have V_U := Fld.start ((fld_at et_U).symm.trans ep_U)
  have Q_U : OStr s s.heap t_U p_U own_U := ⟨X_U, C_U, V_U, own_startstr ep_U har_U hle_U (by decide) (by decide) ⟨hel_U_0, hel_U_1, hel_U_2, hel_U_3, hel_U_4, hel_U_5, hel_U_6, hel_U_7, hel_U_8, hel_U_9, hel_U_10, trivial⟩⟩
  obtain ⟨a_R, ev_R⟩ := exa_v hx_R
  have E_R := Exa.start ev_R hx_R
  have S_R := Sta.start ev_R (Or.inr ⟨(hw _ (List.mem_of_getElem? (i := 6) rfl)), (hw _ (List.mem_of_getElem? (i := 47) rfl))⟩)
  have O_R := own_fldeq ev_R ho_R
  obtain ⟨t_R, et_R⟩ := exa_v hxt_R
  have X_R := Exa.start et_R hxt_R
  have C_R := own_fldeq et_R hco_R
  obtain ⟨p_R, ep_R⟩ := arr_v har_R
  have T_R := Fld.start ((fld_at ev_R).symm.trans et_R)
  have V_R := Fld.start ((fld_at et_R).symm.trans ep_R)
  have Q_R : OStr s s.heap t_R p_R own_R := ⟨X_R, C_R, V_R, own_startstr ep_R har_R hle_R (by decide) (by decide) ⟨hel_R_0, hel_R_1, hel_R_2, hel_R_3, hel_R_4, hel_R_5, hel_R_6, hel_R_7, hel_R_8, hel_R_9, hel_R_10, hel_R_11, trivial⟩⟩
  obtain ⟨a_C, ev_C⟩ := exa_v hx_C
  have E_C := Exa.start ev_C hx_C
  have S_C := Sta.start ev_C (Or.inr ⟨(hw _ (List.mem_of_getElem? (i := 6) rfl)), (hw _ (List.mem_of_getElem? (i := 45) rfl))⟩)
  have O_C := own_fldeq ev_C ho_C
  obtain ⟨t_C, et_C⟩ := exa_v hxt_C
  have X_C := Exa.start et_C hxt_C
  have C_C := own_fldeq et_C hco_C
  obtain ⟨p_C, ep_C⟩ := arr_v har_C
  have T_C := Fld.start ((fld_at ev_C).symm.trans et_C)
  have V_C := Fld.start ((fld_at et_C).symm.trans ep_C)
  have Q_C : OStr s s.heap t_C p_C own_C := ⟨X_C, C_C, V_C, own_startstr ep_C har_C hle_C (by decide) (by decide) ⟨hel_C_0, hel_C_1, hel_C_2, hel_C_3, hel_C_4, hel_C_5, hel_C_6, hel_C_7, hel_C_8, hel_C_9, hel_C_10, hel_C_11, hel_C_12, hel_C_13, trivial⟩⟩
  have ne_R : a_R ≠ a_U := Fld.ne O_R O_U (by decide)
  have ne_C : a_C ≠ a_U := Fld.ne O_C O_U (by decide)
  have hS (k : Nat) (d : Jvm.Cond) (hk : jdkStatics_1[k]? = some d) : d.before _ s = true := hsets _ (List.mem_of_getElem? hk)
  obtain ⟨cz, ecz⟩ := is_v (Cond.before_iff.mp (hS 1 _ rfl))
  have Scs := Sta.start ecz (Or.inl (hS 0 _ rfl))
  have hcz : ¬ cz = 0 := fun q => by
    have r := hS 2 _ rfl
    subst q
    simp only [Cond.before, Cond.holds, Cond.value, ecz, Term.int_eval] at r
    simp at r
  obtain ⟨n, o, h1, h2, h3, _, L, rfl, ⟨rfl, N⟩, hq⟩ := rm_law l s _ hw tables_1 i0 a_U t_U p_U a_R t_R p_R a_C t_C p_C cz s.heap s.heap.size (Nat.le_refl _) S_U E_U T_U Q_U S_R E_R T_R Q_R S_C E_C T_C Q_C ne_R ne_C Scs hcz rfl rfl (hcalls.1 (_, 30) (List.mem_of_getElem? (i := 0) rfl)) (hcalls.1 (_, 38) (List.mem_of_getElem? (i := 1) rfl)) (hS 2 _ rfl) p e ha hc hk s m _ below hf ((Spec.applies_iff_loose hf).mp happ).1 ⟨rfl, rfl⟩ trivial
  refine ⟨n, _, h1, h2, h3, hpost _ _ _ _ _ _ ⟨Cond.after_iff.mpr rfl, Cond.after_iff.mpr (eq_i res_at (Term.int_eval (1)) rfl), trivial⟩ ⟨hq.1, hq.2.1, hq.2.2.1, (hq.2.2.2.sift fun y hy => Or.inr (N y hy)).mono (by decide) (by decide)⟩⟩
theorem main_1_1 : Claimed_1_1 := comes_1 fun _ _ _ _ _ _ h hF => ⟨h.1, hF⟩
theorem main_1_2 : Claimed_1_2 := comes_1 fun _ _ _ _ _ _ h hF => ⟨h.2.1, hF⟩
end Jvm.Pilot.@@N@@
namespace Jvm.Pilot.@@N@@
open Jvm Jvm.ClassFile Sem Op Lib Jvm.Free Jvm.Stand Jvm.Pilot.@@N@@.Jvm.D
/-! MADE BY PROGRAM (witnessworld.py) out of the Statement's table words and the real class files: 19 classes; the members and pool entries that the words name. The judged class is class 1, her method 2. -/
namespace start1
open Jvm.ClassFile
def u (s : String) : CpInfo := .utf8 (stringToUtf16 s)
/-- a pool by its gaps: so many unusable entries, then the entry; so many at the end -/
def gap : Nat → List CpInfo → List CpInfo
  | 0, r => r
  | n + 1, r => .unusable :: gap n r
def poolList (es : List (Nat × CpInfo)) (last : Nat) : List CpInfo := es.foldr (fun e r => gap e.1 (e.2 :: r)) (gap last [])
def pool (es : List (Nat × CpInfo)) (last : Nat) : Array CpInfo := ⟨poolList es last⟩
def fileOf (pool : Array CpInfo) (this : Nat) (attrs : Array Attribute := #[]) (ms : Array MethodInfo := #[]) (fl : Nat := 33) (sup : Nat := 0) (ifs : Array Nat := #[]) (fds : Array FieldInfo := #[]) : ClassFile where
  minorVersion := 0
  majorVersion := 65
  constantPool := pool
  accessFlags := fl
  thisClass := this
  superClass := sup
  interfaces := ifs
  fields := fds
  methods := ms
  attributes := attrs
def plain (name : String) (sup : Option ClassId) : Class where
  name := name
  kind := .ordinary
  loader := none
  accessFlags := 33
  super := sup
  interfaces := #[]
  cf := none
  fields := #[]
  methods := #[]
  instanceTypes := #[]
  staticTypes := #[]
  resolved := #[]
  callSites := []
  init := .initialized
  statics := none
  mirror := none

def pool0 : Array CpInfo := pool [(5, u "<init>"), (0, u "()V"), (1, .class_ 10), (1, u "java/lang/Object")] 113

def k0m0 : Method := { name := "<init>", desc := "()V", sig := { parameters := [], returnType := none }, accessFlags := 1, code := none }
/-- java/lang/Object -/
def k0 : Class := { plain "java/lang/Object" none with
  accessFlags := 33
  interfaces := #[]
  cf := some (fileOf pool0 8 #[] #[{ accessFlags := 1, nameIndex := 5, descriptorIndex := 6, attributes := #[] }] 33 0 #[] #[])
  fields := #[]
  methods := #[k0m0]
  instanceTypes := #[]
  staticTypes := #[]
  resolved := Array.replicate 124 none
  statics := none }

def pool1 : Array CpInfo := pool [(2, .class_ 4), (1, u "java/lang/Object"), (0, u "<init>"), (0, u "()V"), (0, .fieldref 8 9), (0, .class_ 10), (0, .nameAndType 11 12), (0, u "com/example/originlint/originlint/EmbedderPolicy"), (0, u "UNSAFE_NONE"), (0, u "Lcom/example/originlint/originlint/EmbedderPolicy;"), (0, .fieldref 8 14), (0, .nameAndType 15 12), (0, u "REQUIRE_CORP"), (0, .fieldref 8 17), (0, .nameAndType 18 12), (0, u "CREDENTIALLESS"), (0, .integer 2147483647), (0, .methodref 21 22), (0, .class_ 23), (0, .nameAndType 24 25), (0, u "com/example/originlint/originlint/EmbedderPolicyIsCompatibleWithCrossOriginIsolationPinLaw"), (0, u "pick"), (0, u "(I)Lcom/example/originlint/originlint/EmbedderPolicy;"), (0, .methodref 8 27), (0, .nameAndType 28 29), (0, u "token"), (0, u "()Ljava/lang/String;"), (0, .string 31), (0, u "require-corp"), (0, .methodref 33 34), (0, .class_ 35), (0, .nameAndType 36 37), (0, u "java/lang/String"), (0, u "equals"), (0, u "(Ljava/lang/Object;)Z"), (0, .string 39), (0, u "credentialless"), (0, .methodref 8 41), (0, .nameAndType 42 43), (0, u "isCompatibleWithCrossOriginIsolation"), (0, u "()Z"), (3, u "law"), (0, u "(I)Z")] 2

def k1m0 : Method := { name := "<init>", desc := "()V", sig := { parameters := [], returnType := none }, accessFlags := 2, code := none }
def k1c1 : Code := { maxStack := 2, maxLocals := 1, code := method_2_code, exceptionTable := #[], attributes := #[] }
def k1m1 : Method := { name := "pick", desc := "(I)Lcom/example/originlint/originlint/EmbedderPolicy;", sig := { parameters := [.int], returnType := some (.object "com/example/originlint/originlint/EmbedderPolicy") }, accessFlags := 10, code := some k1c1 }
def k1c2 : Code := { maxStack := 2, maxLocals := 7, code := code, exceptionTable := #[], attributes := #[] }
def k1m2 : Method := { name := "law", desc := "(I)Z", sig := { parameters := [.int], returnType := some .boolean }, accessFlags := 9, code := some k1c2 }
/-- com/example/originlint/originlint/EmbedderPolicyIsCompatibleWithCrossOriginIsolationPinLaw -/
def k1 : Class := { plain "com/example/originlint/originlint/EmbedderPolicyIsCompatibleWithCrossOriginIsolationPinLaw" (some 0) with
  accessFlags := 49
  interfaces := #[]
  cf := some (fileOf pool1 21 #[] #[{ accessFlags := 2, nameIndex := 5, descriptorIndex := 6, attributes := #[] }, { accessFlags := 10, nameIndex := 24, descriptorIndex := 25, attributes := #[] }, { accessFlags := 9, nameIndex := 47, descriptorIndex := 48, attributes := #[] }] 49 2 #[] #[])
  fields := #[]
  methods := #[k1m0, k1m1, k1m2]
  instanceTypes := #[]
  staticTypes := #[]
  resolved := Array.replicate 51 none
  statics := none }

def pool2 : Array CpInfo := pool [(1, .class_ 2), (0, u "java/lang/constant/Constable"), (0, .class_ 4), (0, u "java/lang/Object")] 6

/-- java/lang/constant/Constable -/
def k2 : Class := { plain "java/lang/constant/Constable" (some 0) with
  accessFlags := 1537
  interfaces := #[]
  cf := some (fileOf pool2 1 #[] #[] 1537 3 #[] #[])
  fields := #[]
  methods := #[]
  instanceTypes := #[]
  staticTypes := #[]
  resolved := Array.replicate 11 none
  statics := none }

def pool3 : Array CpInfo := pool [(1, .class_ 2), (0, u "java/lang/Comparable"), (0, .class_ 4), (0, u "java/lang/Object")] 7

/-- java/lang/Comparable -/
def k3 : Class := { plain "java/lang/Comparable" (some 0) with
  accessFlags := 1537
  interfaces := #[]
  cf := some (fileOf pool3 1 #[] #[] 1537 3 #[] #[])
  fields := #[]
  methods := #[]
  instanceTypes := #[]
  staticTypes := #[]
  resolved := Array.replicate 12 none
  statics := none }

def pool4 : Array CpInfo := pool [(1, .class_ 2), (0, u "java/io/Serializable"), (0, .class_ 4), (0, u "java/lang/Object")] 2

/-- java/io/Serializable -/
def k4 : Class := { plain "java/io/Serializable" (some 0) with
  accessFlags := 1537
  interfaces := #[]
  cf := some (fileOf pool4 1 #[] #[] 1537 3 #[] #[])
  fields := #[]
  methods := #[]
  instanceTypes := #[]
  staticTypes := #[]
  resolved := Array.replicate 7 none
  statics := none }

def pool5 : Array CpInfo := pool [(2, .class_ 4), (1, u "java/lang/Enum"), (0, u "name"), (0, u "Ljava/lang/String;"), (2, u "ordinal"), (0, u "I"), (1, .class_ 14), (1, u "java/lang/Object"), (4, u "hash"), (86, .class_ 108), (1, u "java/lang/Enum$EnumDesc"), (2, .class_ 112), (0, u "java/lang/constant/Constable"), (0, .class_ 114), (0, u "java/lang/Comparable"), (0, .class_ 116), (0, u "java/io/Serializable")] 87

/-- java/lang/Enum -/
def k5 : Class := { plain "java/lang/Enum" (some 0) with
  accessFlags := 1057
  interfaces := #[2, 3, 4]
  cf := some (fileOf pool5 2 #[.nestMembers #[106]] #[] 1057 12 #[111, 113, 115] #[{ accessFlags := 18, nameIndex := 5, descriptorIndex := 6, attributes := #[] }, { accessFlags := 18, nameIndex := 9, descriptorIndex := 10, attributes := #[] }, { accessFlags := 2, nameIndex := 19, descriptorIndex := 10, attributes := #[] }])
  fields := #[{ name := "name", type := (.object "java/lang/String"), accessFlags := 18, slot := 0, constantValue := 0 }, { name := "ordinal", type := .int, accessFlags := 18, slot := 1, constantValue := 0 }, { name := "hash", type := .int, accessFlags := 2, slot := 2, constantValue := 0 }]
  methods := #[]
  instanceTypes := #[(.object "java/lang/String"), .int, .int]
  staticTypes := #[]
  resolved := Array.replicate 204 none
  statics := none }

def pool6 : Array CpInfo := pool [(9, .class_ 10), (0, u "com/example/originlint/originlint/PolicyValue"), (31, .class_ 43), (0, u "java/lang/Object")] 14

/-- com/example/originlint/originlint/PolicyValue -/
def k6 : Class := { plain "com/example/originlint/originlint/PolicyValue" (some 0) with
  accessFlags := 1537
  interfaces := #[]
  cf := some (fileOf pool6 9 #[] #[] 1537 42 #[] #[])
  fields := #[]
  methods := #[]
  instanceTypes := #[]
  staticTypes := #[]
  resolved := Array.replicate 58 none
  statics := none }

def pool7 : Array CpInfo := pool [(1, .class_ 2), (0, u "com/example/originlint/originlint/EmbedderPolicy"), (0, .fieldref 1 4), (0, .nameAndType 5 6), (0, u "UNSAFE_NONE"), (0, u "Lcom/example/originlint/originlint/EmbedderPolicy;"), (2, u "REQUIRE_CORP"), (2, u "CREDENTIALLESS"), (2, u "$VALUES"), (0, u "[Lcom/example/originlint/originlint/EmbedderPolicy;"), (6, .class_ 25), (1, u "java/lang/Enum"), (6, .fieldref 1 33), (0, .nameAndType 34 35), (0, u "token"), (0, u "Ljava/lang/String;"), (2, u "isCompatibleWithCrossOriginIsolation"), (0, u "()Z"), (16, .class_ 57), (0, u "com/example/originlint/originlint/PolicyValue"), (7, u "()Ljava/lang/String;")] 7

def k7c0 : Code := { maxStack := 1, maxLocals := 1, code := prog_16_method_4_code, exceptionTable := #[], attributes := #[] }
def k7m0 : Method := { name := "token", desc := "()Ljava/lang/String;", sig := { parameters := [], returnType := some (.object "java/lang/String") }, accessFlags := 1, code := some k7c0 }
def k7c1 : Code := { maxStack := 2, maxLocals := 1, code := prog_16_method_5_code, exceptionTable := #[], attributes := #[] }
def k7m1 : Method := { name := "isCompatibleWithCrossOriginIsolation", desc := "()Z", sig := { parameters := [], returnType := some .boolean }, accessFlags := 1, code := some k7c1 }
/-- com/example/originlint/originlint/EmbedderPolicy -/
def k7 : Class := { plain "com/example/originlint/originlint/EmbedderPolicy" (some 5) with
  accessFlags := 16433
  interfaces := #[6]
  cf := some (fileOf pool7 1 #[] #[{ accessFlags := 1, nameIndex := 34, descriptorIndex := 65, attributes := #[] }, { accessFlags := 1, nameIndex := 38, descriptorIndex := 39, attributes := #[] }] 16433 23 #[56] #[{ accessFlags := 16409, nameIndex := 5, descriptorIndex := 6, attributes := #[] }, { accessFlags := 16409, nameIndex := 9, descriptorIndex := 6, attributes := #[] }, { accessFlags := 16409, nameIndex := 12, descriptorIndex := 6, attributes := #[] }, { accessFlags := 18, nameIndex := 34, descriptorIndex := 35, attributes := #[] }, { accessFlags := 4122, nameIndex := 15, descriptorIndex := 16, attributes := #[] }])
  fields := #[{ name := "UNSAFE_NONE", type := (.object "com/example/originlint/originlint/EmbedderPolicy"), accessFlags := 16409, slot := 0, constantValue := 0 }, { name := "REQUIRE_CORP", type := (.object "com/example/originlint/originlint/EmbedderPolicy"), accessFlags := 16409, slot := 1, constantValue := 0 }, { name := "CREDENTIALLESS", type := (.object "com/example/originlint/originlint/EmbedderPolicy"), accessFlags := 16409, slot := 2, constantValue := 0 }, { name := "token", type := (.object "java/lang/String"), accessFlags := 18, slot := 3, constantValue := 0 }, { name := "$VALUES", type := (.array (.object "com/example/originlint/originlint/EmbedderPolicy")), accessFlags := 4122, slot := 3, constantValue := 0 }]
  methods := #[k7m0, k7m1]
  instanceTypes := #[(.object "java/lang/String"), .int, .int, (.object "java/lang/String")]
  staticTypes := #[(.object "com/example/originlint/originlint/EmbedderPolicy"), (.object "com/example/originlint/originlint/EmbedderPolicy"), (.object "com/example/originlint/originlint/EmbedderPolicy"), (.array (.object "com/example/originlint/originlint/EmbedderPolicy"))]
  resolved := Array.replicate 73 none
  statics := some 0 }

def pool8 : Array CpInfo := pool [(2, .class_ 4), (1, u "java/lang/CharSequence"), (42, .class_ 48), (0, u "java/lang/CharSequence$1CodePointIterator"), (10, .class_ 60), (0, u "java/lang/CharSequence$1CharIterator"), (5, .class_ 67), (0, u "java/lang/Object")] 63

/-- java/lang/CharSequence -/
def k8 : Class := { plain "java/lang/CharSequence" (some 0) with
  accessFlags := 1537
  interfaces := #[]
  cf := some (fileOf pool8 2 #[.nestMembers #[47, 59]] #[] 1537 66 #[] #[])
  fields := #[]
  methods := #[]
  instanceTypes := #[]
  staticTypes := #[]
  resolved := Array.replicate 131 none
  statics := none }

def pool9 : Array CpInfo := pool [(1, .class_ 2), (0, u "java/lang/constant/ConstantDesc"), (0, .class_ 4), (0, u "java/lang/Object")] 32

/-- java/lang/constant/ConstantDesc -/
def k9 : Class := { plain "java/lang/constant/ConstantDesc" (some 0) with
  accessFlags := 1537
  interfaces := #[]
  cf := some (fileOf pool9 1 #[] #[] 1537 3 #[] #[])
  fields := #[]
  methods := #[]
  instanceTypes := #[]
  staticTypes := #[]
  resolved := Array.replicate 37 none
  statics := none }

def pool10 : Array CpInfo := pool [(2, .class_ 4), (1, u "java/lang/Object"), (0, u "<init>"), (0, u "()V"), (2, .fieldref 10 11), (0, .class_ 12), (0, .nameAndType 13 14), (0, u "java/lang/String"), (0, u "value"), (0, u "[B"), (0, .fieldref 10 16), (0, .nameAndType 17 18), (0, u "coder"), (0, u "B"), (2, u "hash"), (0, u "I"), (2, u "hashIsZero"), (0, u "Z"), (11, .fieldref 10 39), (0, .nameAndType 40 26), (0, u "COMPACT_STRINGS"), (66, .class_ 109), (1, u "java/lang/StringLatin1"), (431, .methodref 107 542), (0, .nameAndType 543 544), (0, u "equals"), (0, u "([B[B)Z"), (28, u "(Ljava/lang/Object;)Z"), (1, .class_ 576), (0, u "java/lang/CharSequence"), (22, u "CASE_INSENSITIVE_ORDER"), (0, u "Ljava/util/Comparator;"), (500, u "serialPersistentFields"), (0, u "[Ljava/io/ObjectStreamField;"), (0, .class_ 1104), (0, u "java/lang/String$CaseInsensitiveComparator"), (1, .class_ 1107), (0, u "java/io/Serializable"), (0, .class_ 1109), (0, u "java/lang/Comparable"), (0, .class_ 1111), (0, u "java/lang/constant/Constable"), (0, .class_ 1113), (0, u "java/lang/constant/ConstantDesc"), (2, u "serialVersionUID"), (0, u "J"), (3, u "REPL"), (0, u "C"), (2, u "LATIN1"), (1, u "UTF16")] 323

def k10m0 : Method := { name := "<init>", desc := "()V", sig := { parameters := [], returnType := none }, accessFlags := 1, code := none }
def k10c1 : Code := { maxStack := 2, maxLocals := 3, code := jdk_42_method_66_code, exceptionTable := #[], attributes := #[] }
def k10m1 : Method := { name := "equals", desc := "(Ljava/lang/Object;)Z", sig := { parameters := [(.object "java/lang/Object")], returnType := some .boolean }, accessFlags := 1, code := some k10c1 }
/-- java/lang/String -/
def k10 : Class := { plain "java/lang/String" (some 0) with
  accessFlags := 49
  interfaces := #[4, 3, 8, 2, 9]
  cf := some (fileOf pool10 10 #[.nestMembers #[1103]] #[{ accessFlags := 1, nameIndex := 5, descriptorIndex := 6, attributes := #[] }, { accessFlags := 1, nameIndex := 543, descriptorIndex := 573, attributes := #[] }] 49 2 #[1106, 1108, 575, 1110, 1112] #[{ accessFlags := 18, nameIndex := 13, descriptorIndex := 14, attributes := #[] }, { accessFlags := 18, nameIndex := 17, descriptorIndex := 18, attributes := #[] }, { accessFlags := 2, nameIndex := 21, descriptorIndex := 22, attributes := #[] }, { accessFlags := 2, nameIndex := 25, descriptorIndex := 26, attributes := #[] }, { accessFlags := 26, nameIndex := 1116, descriptorIndex := 1117, attributes := #[] }, { accessFlags := 24, nameIndex := 40, descriptorIndex := 26, attributes := #[] }, { accessFlags := 26, nameIndex := 1101, descriptorIndex := 1102, attributes := #[] }, { accessFlags := 26, nameIndex := 1121, descriptorIndex := 1122, attributes := #[] }, { accessFlags := 25, nameIndex := 599, descriptorIndex := 600, attributes := #[] }, { accessFlags := 24, nameIndex := 1125, descriptorIndex := 18, attributes := #[] }, { accessFlags := 24, nameIndex := 1127, descriptorIndex := 18, attributes := #[] }])
  fields := #[{ name := "value", type := (.array .byte), accessFlags := 18, slot := 0, constantValue := 0 }, { name := "coder", type := .byte, accessFlags := 18, slot := 1, constantValue := 0 }, { name := "hash", type := .int, accessFlags := 2, slot := 2, constantValue := 0 }, { name := "hashIsZero", type := .boolean, accessFlags := 2, slot := 3, constantValue := 0 }, { name := "serialVersionUID", type := .long, accessFlags := 26, slot := 0, constantValue := 0 }, { name := "COMPACT_STRINGS", type := .boolean, accessFlags := 24, slot := 1, constantValue := 0 }, { name := "serialPersistentFields", type := (.array (.object "java/io/ObjectStreamField")), accessFlags := 26, slot := 2, constantValue := 0 }, { name := "REPL", type := .char, accessFlags := 26, slot := 3, constantValue := 0 }, { name := "CASE_INSENSITIVE_ORDER", type := (.object "java/util/Comparator"), accessFlags := 25, slot := 4, constantValue := 0 }, { name := "LATIN1", type := .byte, accessFlags := 24, slot := 5, constantValue := 0 }, { name := "UTF16", type := .byte, accessFlags := 24, slot := 6, constantValue := 0 }]
  methods := #[k10m0, k10m1]
  instanceTypes := #[(.array .byte), .byte, .int, .boolean]
  staticTypes := #[.long, .boolean, (.array (.object "java/io/ObjectStreamField")), .char, (.object "java/util/Comparator"), .byte, .byte]
  resolved := Array.replicate 1451 none
  statics := some 1 }

def pool11 : Array CpInfo := pool [(4, .class_ 6), (1, u "java/lang/Object"), (0, u "<init>"), (0, u "()V"), (5, .class_ 16), (1, u "java/lang/StringLatin1"), (104, u "$assertionsDisabled"), (0, u "Z"), (98, .class_ 223), (1, u "java/lang/StringLatin1$LinesSpliterator"), (57, u "equals"), (0, u "([B[B)Z"), (107, .class_ 391), (0, u "java/lang/StringLatin1$CharsSpliterator")] 3

def k11m0 : Method := { name := "<init>", desc := "()V", sig := { parameters := [], returnType := none }, accessFlags := 0, code := none }
def k11c1 : Code := { maxStack := 3, maxLocals := 3, code := jdk_43_method_13_code, exceptionTable := #[], attributes := #[] }
def k11m1 : Method := { name := "equals", desc := "([B[B)Z", sig := { parameters := [(.array .byte), (.array .byte)], returnType := some .boolean }, accessFlags := 9, code := some k11c1 }
/-- java/lang/StringLatin1 -/
def k11 : Class := { plain "java/lang/StringLatin1" (some 0) with
  accessFlags := 48
  interfaces := #[]
  cf := some (fileOf pool11 14 #[.nestMembers #[390, 221]] #[{ accessFlags := 0, nameIndex := 7, descriptorIndex := 8, attributes := #[] }, { accessFlags := 9, nameIndex := 281, descriptorIndex := 282, attributes := #[] }] 48 4 #[] #[{ accessFlags := 4120, nameIndex := 121, descriptorIndex := 122, attributes := #[] }])
  fields := #[{ name := "$assertionsDisabled", type := .boolean, accessFlags := 4120, slot := 0, constantValue := 0 }]
  methods := #[k11m0, k11m1]
  instanceTypes := #[]
  staticTypes := #[.boolean]
  resolved := Array.replicate 395 none
  statics := none }

def pool12 : Array CpInfo := pool [(2, .class_ 4), (1, u "java/lang/Object"), (0, u "<init>"), (0, u "()V"), (17, .class_ 26), (1, u "jdk/internal/util/Preconditions"), (28, .class_ 56), (0, u "jdk/internal/util/Preconditions$4"), (57, .class_ 115), (0, u "jdk/internal/util/Preconditions$1"), (7, u "SIOOBE_FORMATTER"), (0, u "Ljava/util/function/BiFunction;"), (0, .class_ 126), (0, u "jdk/internal/util/Preconditions$2"), (3, u "AIOOBE_FORMATTER"), (0, .class_ 132), (0, u "jdk/internal/util/Preconditions$3"), (3, u "IOOBE_FORMATTER")] 57

def k12m0 : Method := { name := "<init>", desc := "()V", sig := { parameters := [], returnType := none }, accessFlags := 1, code := none }
/-- jdk/internal/util/Preconditions -/
def k12 : Class := { plain "jdk/internal/util/Preconditions" (some 0) with
  accessFlags := 33
  interfaces := #[]
  cf := some (fileOf pool12 24 #[.nestMembers #[55, 131, 125, 114]] #[{ accessFlags := 1, nameIndex := 5, descriptorIndex := 6, attributes := #[] }] 33 2 #[] #[{ accessFlags := 25, nameIndex := 123, descriptorIndex := 124, attributes := #[] }, { accessFlags := 25, nameIndex := 130, descriptorIndex := 124, attributes := #[] }, { accessFlags := 25, nameIndex := 136, descriptorIndex := 124, attributes := #[] }])
  fields := #[{ name := "SIOOBE_FORMATTER", type := (.object "java/util/function/BiFunction"), accessFlags := 25, slot := 0, constantValue := 0 }, { name := "AIOOBE_FORMATTER", type := (.object "java/util/function/BiFunction"), accessFlags := 25, slot := 1, constantValue := 0 }, { name := "IOOBE_FORMATTER", type := (.object "java/util/function/BiFunction"), accessFlags := 25, slot := 2, constantValue := 0 }]
  methods := #[k12m0]
  instanceTypes := #[]
  staticTypes := #[(.object "java/util/function/BiFunction"), (.object "java/util/function/BiFunction"), (.object "java/util/function/BiFunction")]
  resolved := Array.replicate 194 none
  statics := some 2 }

def pool13 : Array CpInfo := pool [(9, u "<init>"), (6, .class_ 18), (1, u "java/lang/Object"), (0, u "()V"), (1, .class_ 23), (1, u "jdk/internal/util/ArraysSupport"), (0, u "LOG2_ARRAY_LONG_INDEX_SCALE"), (0, u "I"), (2, u "U"), (0, u "Ljdk/internal/misc/Unsafe;"), (8, u "BIG_ENDIAN"), (0, u "Z"), (8, u "LOG2_BYTE_BIT_SIZE"), (4, u "LOG2_ARRAY_INT_INDEX_SCALE"), (54, u "JLA"), (0, u "Ljdk/internal/access/JavaLangAccess;"), (11, u "LOG2_ARRAY_BOOLEAN_INDEX_SCALE"), (9, u "LOG2_ARRAY_BYTE_INDEX_SCALE"), (5, u "LOG2_ARRAY_CHAR_INDEX_SCALE"), (5, u "LOG2_ARRAY_SHORT_INDEX_SCALE"), (18, u "LOG2_ARRAY_FLOAT_INDEX_SCALE"), (24, u "LOG2_ARRAY_DOUBLE_INDEX_SCALE"), (89, u "T_BOOLEAN"), (2, u "T_CHAR"), (1, u "T_FLOAT"), (1, u "T_DOUBLE"), (1, u "T_BYTE"), (1, u "T_SHORT"), (1, u "T_INT"), (1, u "T_LONG"), (1, u "SOFT_MAX_ARRAY_LENGTH")] 83

def k13m0 : Method := { name := "<init>", desc := "()V", sig := { parameters := [], returnType := none }, accessFlags := 2, code := none }
/-- jdk/internal/util/ArraysSupport -/
def k13 : Class := { plain "jdk/internal/util/ArraysSupport" (some 0) with
  accessFlags := 33
  interfaces := #[]
  cf := some (fileOf pool13 21 #[] #[{ accessFlags := 2, nameIndex := 9, descriptorIndex := 19, attributes := #[] }] 33 16 #[] #[{ accessFlags := 24, nameIndex := 28, descriptorIndex := 29, attributes := #[] }, { accessFlags := 26, nameIndex := 38, descriptorIndex := 39, attributes := #[] }, { accessFlags := 25, nameIndex := 121, descriptorIndex := 25, attributes := #[] }, { accessFlags := 25, nameIndex := 131, descriptorIndex := 25, attributes := #[] }, { accessFlags := 25, nameIndex := 137, descriptorIndex := 25, attributes := #[] }, { accessFlags := 25, nameIndex := 143, descriptorIndex := 25, attributes := #[] }, { accessFlags := 25, nameIndex := 53, descriptorIndex := 25, attributes := #[] }, { accessFlags := 25, nameIndex := 24, descriptorIndex := 25, attributes := #[] }, { accessFlags := 25, nameIndex := 162, descriptorIndex := 25, attributes := #[] }, { accessFlags := 25, nameIndex := 187, descriptorIndex := 25, attributes := #[] }, { accessFlags := 26, nameIndex := 48, descriptorIndex := 25, attributes := #[] }, { accessFlags := 25, nameIndex := 277, descriptorIndex := 25, attributes := #[] }, { accessFlags := 25, nameIndex := 280, descriptorIndex := 25, attributes := #[] }, { accessFlags := 25, nameIndex := 282, descriptorIndex := 25, attributes := #[] }, { accessFlags := 25, nameIndex := 284, descriptorIndex := 25, attributes := #[] }, { accessFlags := 25, nameIndex := 286, descriptorIndex := 25, attributes := #[] }, { accessFlags := 25, nameIndex := 288, descriptorIndex := 25, attributes := #[] }, { accessFlags := 25, nameIndex := 290, descriptorIndex := 25, attributes := #[] }, { accessFlags := 25, nameIndex := 292, descriptorIndex := 25, attributes := #[] }, { accessFlags := 26, nameIndex := 108, descriptorIndex := 109, attributes := #[] }, { accessFlags := 25, nameIndex := 294, descriptorIndex := 25, attributes := #[] }])
  fields := #[{ name := "U", type := (.object "jdk/internal/misc/Unsafe"), accessFlags := 24, slot := 0, constantValue := 0 }, { name := "BIG_ENDIAN", type := .boolean, accessFlags := 26, slot := 1, constantValue := 0 }, { name := "LOG2_ARRAY_BOOLEAN_INDEX_SCALE", type := .int, accessFlags := 25, slot := 2, constantValue := 0 }, { name := "LOG2_ARRAY_BYTE_INDEX_SCALE", type := .int, accessFlags := 25, slot := 3, constantValue := 0 }, { name := "LOG2_ARRAY_CHAR_INDEX_SCALE", type := .int, accessFlags := 25, slot := 4, constantValue := 0 }, { name := "LOG2_ARRAY_SHORT_INDEX_SCALE", type := .int, accessFlags := 25, slot := 5, constantValue := 0 }, { name := "LOG2_ARRAY_INT_INDEX_SCALE", type := .int, accessFlags := 25, slot := 6, constantValue := 0 }, { name := "LOG2_ARRAY_LONG_INDEX_SCALE", type := .int, accessFlags := 25, slot := 7, constantValue := 0 }, { name := "LOG2_ARRAY_FLOAT_INDEX_SCALE", type := .int, accessFlags := 25, slot := 8, constantValue := 0 }, { name := "LOG2_ARRAY_DOUBLE_INDEX_SCALE", type := .int, accessFlags := 25, slot := 9, constantValue := 0 }, { name := "LOG2_BYTE_BIT_SIZE", type := .int, accessFlags := 26, slot := 10, constantValue := 0 }, { name := "T_BOOLEAN", type := .int, accessFlags := 25, slot := 11, constantValue := 0 }, { name := "T_CHAR", type := .int, accessFlags := 25, slot := 12, constantValue := 0 }, { name := "T_FLOAT", type := .int, accessFlags := 25, slot := 13, constantValue := 0 }, { name := "T_DOUBLE", type := .int, accessFlags := 25, slot := 14, constantValue := 0 }, { name := "T_BYTE", type := .int, accessFlags := 25, slot := 15, constantValue := 0 }, { name := "T_SHORT", type := .int, accessFlags := 25, slot := 16, constantValue := 0 }, { name := "T_INT", type := .int, accessFlags := 25, slot := 17, constantValue := 0 }, { name := "T_LONG", type := .int, accessFlags := 25, slot := 18, constantValue := 0 }, { name := "JLA", type := (.object "jdk/internal/access/JavaLangAccess"), accessFlags := 26, slot := 19, constantValue := 0 }, { name := "SOFT_MAX_ARRAY_LENGTH", type := .int, accessFlags := 25, slot := 20, constantValue := 0 }]
  methods := #[k13m0]
  instanceTypes := #[]
  staticTypes := #[(.object "jdk/internal/misc/Unsafe"), .boolean, .int, .int, .int, .int, .int, .int, .int, .int, .int, .int, .int, .int, .int, .int, .int, .int, .int, (.object "jdk/internal/access/JavaLangAccess"), .int]
  resolved := Array.replicate 378 none
  statics := none }

def pool14 : Array CpInfo := pool [(1, u "java/lang/Cloneable"), (0, .class_ 1), (0, u "java/lang/Object"), (0, .class_ 3)] 3

/-- java/lang/Cloneable -/
def k14 : Class := { plain "java/lang/Cloneable" (some 0) with
  accessFlags := 1537
  interfaces := #[]
  cf := some (fileOf pool14 2 #[] #[] 1537 4 #[] #[])
  fields := #[]
  methods := #[]
  instanceTypes := #[]
  staticTypes := #[]
  resolved := Array.replicate 8 none
  statics := none }

/-- the primitive byte -/
def k15 : Class := { plain "byte" none with kind := .primitive 'B', accessFlags := 0x411 }
/-- [B -/
def k16 : Class := { plain "[B" (some 0) with kind := .array 15 .byte, interfaces := #[14, 4], accessFlags := 1041 }

/-- the primitive int -/
def k17 : Class := { plain "int" none with kind := .primitive 'I', accessFlags := 0x411 }
/-- [I -/
def k18 : Class := { plain "[I" (some 0) with kind := .array 17 .int, interfaces := #[14, 4], accessFlags := 1041 }

def heap : Heap := #[{ cls := 7, slots := #[.ref 9, .ref 10, .ref 11, .null], vm := .statics 7 },
  { cls := 10, slots := #[.long 0, .int 1, .null, .int 0, .null, .int 0, .int 0], vm := .statics 10 },
  { cls := 12, slots := #[.null, .null, .null], vm := .statics 12 },
  { cls := 16, slots := #[.int 117, .int 110, .int 115, .int 97, .int 102, .int 101, .int 45, .int 110, .int 111, .int 110, .int 101], vm := .none },
  { cls := 16, slots := #[.int 114, .int 101, .int 113, .int 117, .int 105, .int 114, .int 101, .int 45, .int 99, .int 111, .int 114, .int 112], vm := .none },
  { cls := 16, slots := #[.int 99, .int 114, .int 101, .int 100, .int 101, .int 110, .int 116, .int 105, .int 97, .int 108, .int 108, .int 101, .int 115, .int 115], vm := .none },
  { cls := 10, slots := #[.ref 3, .int 0, .int 0, .int 0], vm := .none },
  { cls := 10, slots := #[.ref 4, .int 0, .int 0, .int 0], vm := .none },
  { cls := 10, slots := #[.ref 5, .int 0, .int 0, .int 0], vm := .none },
  { cls := 7, slots := #[.null, .int 0, .int 0, .ref 6], vm := .none },
  { cls := 7, slots := #[.null, .int 1, .int 0, .ref 7], vm := .none },
  { cls := 7, slots := #[.null, .int 2, .int 0, .ref 8], vm := .none }]
def classes : Array Class := #[k0, k1, k2, k3, k4, k5, k6, k7, k8, k9, k10, k11, k12, k13, k14, k15, k16, k17, k18]
def interned : List (Array UInt16 × Addr) := []
def slotsUsed : Nat := 75
def theMethod : MethodId := ⟨1, 2⟩
def args0 : Array Value := #[.int 5]
def aboutOver (below : List Frame) : State where
  vm := { classes := classes, interned := interned.toArray }
  heap := heap
  slotsUsed := slotsUsed
  threads := #[{ frames := .invoking theMethod args0 :: below }]
def below0 : List Frame := [.native { method := ⟨0, 0⟩, args := #[] }]
def about1 : State := aboutOver below0
def p0 : Program := .bare "" "" ""
def e0 : Env := launch0.env 0 0 0
theorem w_frames : about1.frames = Frame.invoking theMethod args0 :: below0 := rfl
set_option maxRecDepth 65536 in
theorem w_args : argsFit about1.vm theMethod args0 = true := by decide +kernel
set_option maxRecDepth 65536 in
theorem w_heap : heapFits about1 = true := by decide +kernel
set_option maxRecDepth 65536 in
theorem w_runnable : about1.curStatus? = some .runnable := by decide +kernel
set_option maxRecDepth 65536 in
theorem w_alone : about1.alone = true := by decide +kernel
set_option maxRecDepth 65536 in
theorem w_named : about1.methodNamed? x = some theMethod := by decide +kernel
set_option maxRecDepth 65536 in
theorem w_hears : about1.hears theMethod below0 = true := by decide +kernel
set_option maxRecDepth 65536 in
theorem w_ripe : about1.ripe theMethod args0 below0 = true := by decide +kernel
theorem w_running : about1.status = .running := rfl
set_option maxRecDepth 65536 in
theorem w_room : about1.hasRoom e0.platform room_1 = true :=
  launch0.hasRoom_least _ room_1 (by decide +kernel) (by decide +kernel) (by decide +kernel) (by decide +kernel) (by decide +kernel) (by decide +kernel)
theorem allAtoms_all (ts : List Jvm.Cond) (a : Array Jvm.Value) (st : Jvm.State) : (allAtoms ts).before a st = ts.all (fun c => c.before a st) := by
  induction ts with
  | nil => rfl
  | cons c t ih =>
    show (Jvm.Cond.and c (allAtoms t)).before a st = _
    rw [Jvm.Cond.before_and, ih, List.all_cons]
def words1 : List Jvm.Cond := Jvm.Cond.code x code maxLocals ret :: tables_1
/-- a 'code' word, met by the world's own term for the bytes: nothing is compared byte by byte -/
theorem code_word {y : MethodName} {bytes : ByteArray} {mx : Nat} {rt : Option FieldType} {a : Array Value} {s : State} {m : MethodId} {meth : Method} {c : Code} (h1 : s.methodNamed? y = some m) (h2 : s.vm.method? m = some meth) (h3 : meth.code = some c) (h4 : c.code = bytes)
    (h5 : (c.maxLocals == mx && c.exceptionTable.isEmpty && decide (c.maxStack ≤ mostOperands) && decide (meth.sig.returnType = rt) && !meth.locks && decide (parseMethodDescriptor y.desc = some meth.sig)) = true) : (Jvm.Cond.code y bytes mx rt).before a s = true := by
  simp only [Bool.and_eq_true, beq_iff_eq, Bool.not_eq_true', decide_eq_true_eq] at h5
  obtain ⟨⟨⟨⟨⟨g1, g2⟩, g3⟩, g4⟩, g5⟩, g6⟩ := h5
  simp [Cond.before, Cond.holds, Cond.value, h1, h2, h3, h4, g1, g2, g3, g4, g5, g6]
def isCode : Jvm.Cond → Bool
  | .code _ _ _ _ => true
  | _ => false
theorem all_split {L : List Jvm.Cond} {P : Jvm.Cond → Bool} (h1 : L.all (fun c => isCode c || P c) = true) (h2 : ∀ c ∈ L.filter isCode, P c = true) : L.all P = true := by
  refine List.all_eq_true.mpr fun c hc => ?_
  have h := List.all_eq_true.mp h1 c hc
  rcases Bool.eq_false_or_eq_true (isCode c) with hi | hi
  · exact h2 c (List.mem_filter.mpr ⟨hc, hi⟩)
  · simpa [hi] using h
set_option maxRecDepth 65536 in
theorem w_c0 : (Jvm.Cond.code x code maxLocals ret).before args0 about1 = true := code_word (m := ⟨1, 2⟩) (meth := k1m2) (c := k1c2) (by decide +kernel) rfl rfl rfl (by decide +kernel)
set_option maxRecDepth 65536 in
theorem w_c1 : (Jvm.Cond.code ({ cls := "com/example/originlint/originlint/EmbedderPolicyIsCompatibleWithCrossOriginIsolationPinLaw", name := "pick", desc := "(I)Lcom/example/originlint/originlint/EmbedderPolicy;" } : Jvm.MethodName) method_2_code (1 : Nat) (Option.some (Jvm.ClassFile.FieldType.object "com/example/originlint/originlint/EmbedderPolicy"))).before args0 about1 = true := code_word (m := ⟨1, 1⟩) (meth := k1m1) (c := k1c1) (by decide +kernel) rfl rfl rfl (by decide +kernel)
set_option maxRecDepth 65536 in
theorem w_c2 : (Jvm.Cond.code ({ cls := "com/example/originlint/originlint/EmbedderPolicy", name := "token", desc := "()Ljava/lang/String;" } : Jvm.MethodName) prog_16_method_4_code (1 : Nat) (Option.some (Jvm.ClassFile.FieldType.object "java/lang/String"))).before args0 about1 = true := code_word (m := ⟨7, 0⟩) (meth := k7m0) (c := k7c0) (by decide +kernel) rfl rfl rfl (by decide +kernel)
set_option maxRecDepth 65536 in
theorem w_c3 : (Jvm.Cond.code ({ cls := "java/lang/String", name := "equals", desc := "(Ljava/lang/Object;)Z" } : Jvm.MethodName) jdk_42_method_66_code (3 : Nat) (Option.some Jvm.ClassFile.FieldType.boolean)).before args0 about1 = true := code_word (m := ⟨10, 1⟩) (meth := k10m1) (c := k10c1) (by decide +kernel) rfl rfl rfl (by decide +kernel)
set_option maxRecDepth 65536 in
theorem w_c4 : (Jvm.Cond.code ({ cls := "java/lang/StringLatin1", name := "equals", desc := "([B[B)Z" } : Jvm.MethodName) jdk_43_method_13_code (3 : Nat) (Option.some Jvm.ClassFile.FieldType.boolean)).before args0 about1 = true := code_word (m := ⟨11, 1⟩) (meth := k11m1) (c := k11c1) (by decide +kernel) rfl rfl rfl (by decide +kernel)
set_option maxRecDepth 65536 in
theorem w_c5 : (Jvm.Cond.code ({ cls := "com/example/originlint/originlint/EmbedderPolicy", name := "isCompatibleWithCrossOriginIsolation", desc := "()Z" } : Jvm.MethodName) prog_16_method_5_code (1 : Nat) (Option.some Jvm.ClassFile.FieldType.boolean)).before args0 about1 = true := code_word (m := ⟨7, 1⟩) (meth := k7m1) (c := k7c1) (by decide +kernel) rfl rfl rfl (by decide +kernel)
def codes1 : List Jvm.Cond := [Jvm.Cond.code x code maxLocals ret, Jvm.Cond.code ({ cls := "com/example/originlint/originlint/EmbedderPolicyIsCompatibleWithCrossOriginIsolationPinLaw", name := "pick", desc := "(I)Lcom/example/originlint/originlint/EmbedderPolicy;" } : Jvm.MethodName) method_2_code (1 : Nat) (Option.some (Jvm.ClassFile.FieldType.object "com/example/originlint/originlint/EmbedderPolicy")), Jvm.Cond.code ({ cls := "com/example/originlint/originlint/EmbedderPolicy", name := "token", desc := "()Ljava/lang/String;" } : Jvm.MethodName) prog_16_method_4_code (1 : Nat) (Option.some (Jvm.ClassFile.FieldType.object "java/lang/String")), Jvm.Cond.code ({ cls := "java/lang/String", name := "equals", desc := "(Ljava/lang/Object;)Z" } : Jvm.MethodName) jdk_42_method_66_code (3 : Nat) (Option.some Jvm.ClassFile.FieldType.boolean), Jvm.Cond.code ({ cls := "java/lang/StringLatin1", name := "equals", desc := "([B[B)Z" } : Jvm.MethodName) jdk_43_method_13_code (3 : Nat) (Option.some Jvm.ClassFile.FieldType.boolean), Jvm.Cond.code ({ cls := "com/example/originlint/originlint/EmbedderPolicy", name := "isCompatibleWithCrossOriginIsolation", desc := "()Z" } : Jvm.MethodName) prog_16_method_5_code (1 : Nat) (Option.some Jvm.ClassFile.FieldType.boolean)]
set_option maxRecDepth 65536 in
theorem codes_eq : words1.filter isCode = codes1 := rfl
theorem w_codes : ∀ c ∈ words1.filter isCode, c.before args0 about1 = true := by
  rw [codes_eq]
  intro c hc
  simp only [codes1, List.mem_cons, List.not_mem_nil, or_false] at hc
  rcases hc with rfl | rfl | rfl | rfl | rfl | rfl
  · exact w_c0
  · exact w_c1
  · exact w_c2
  · exact w_c3
  · exact w_c4
  · exact w_c5
set_option maxRecDepth 65536 in
theorem w_t1 : (words1.take 24).all (fun c => isCode c || c.before args0 about1) = true := by decide +kernel
set_option maxRecDepth 65536 in
theorem w_t2 : ((words1.drop 24).take 24).all (fun c => isCode c || c.before args0 about1) = true := by decide +kernel
set_option maxRecDepth 65536 in
theorem w_t3 : ((words1.drop 24).drop 24).all (fun c => isCode c || c.before args0 about1) = true := by decide +kernel
theorem w_tables : (allAtoms (Jvm.Cond.code x code maxLocals ret :: tables_1)).before args0 about1 = true := by
  rw [allAtoms_all]
  show words1.all (fun c => c.before args0 about1) = true
  refine all_split ?_ w_codes
  rw [← List.take_append_drop 24 words1, List.all_append, w_t1, ← List.take_append_drop 24 (words1.drop 24), List.all_append, w_t2, w_t3]
  rfl
set_option maxRecDepth 65536 in
theorem w_rest : rest_1_c.before args0 about1 = true := by decide +kernel
set_option maxRecDepth 65536 in
theorem w_case : (Jvm.Cond.and given_1 narrow_1).before args0 about1 = true := by decide +kernel
set_option maxRecDepth 65536 in
theorem w_consts : constsHeld consts_1 about1 := Jvm.Lit.constsHeldB_iff.mp (by decide +kernel)
theorem w_applies : (headSpec (Jvm.Cond.code x code maxLocals ret :: tables_1) room_1).applies x e0.platform about1 = true :=
  (Spec.applies_iff w_frames).mpr ⟨w_running, w_runnable, w_alone, w_named, w_hears, w_ripe, w_room, w_tables⟩
theorem atStart : AtStart classFile x code maxLocals ret World_1 tables_1 room_1 Calls_1 rest_1 Pre_1 launch0 p0 e0 about1 theMethod args0 below0 :=
  ⟨lists_1, trivial, launch0.admits_env _ _ _, launch0.least_env, fairChoices_fair.cas, fairChoices_fair.clock, w_frames, w_args, w_heap, w_applies, ⟨w_consts, trivial⟩, w_rest, w_case⟩
end start1
theorem witness_1 : WitnessClaimed_1 := ⟨start1.p0, start1.e0, start1.about1, start1.theMethod, start1.args0, start1.below0, start1.atStart⟩
end Jvm.Pilot.@@N@@
