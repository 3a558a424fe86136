import JvmDerived
import JvmDerived.Pilot.@@N@@Statement
import JvmDerived.Pilot.@@N@@Code
set_option linter.unusedVariables false
set_option linter.unusedSimpArgs false
@@BLOCK:NumsL.lean.txt@@
namespace Jvm.RoadKit
open Sem ClassFile Op Lib Jvm.Stand Jvm.Free Jvm.LawKit
section New
variable {p : Program} {l : Launch} {e : Env} {R : Room} {s : State} {m : MethodId} {args : Array Value} {below : List Frame} {meth : Method} {c : Code} {T : State} {locs : List Loc} {cells slots : Nat}
theorem retI (X : Stand p l e R s m args below meth c T locs cells slots) (hx : p.tables.exec = Jvm.exec) {pc : Nat} {Ls : Array Slot} {z : Int32} {rest : List Value} (hret : meth.sig.returnType = some .int) (hd : decode c.code pc = .ok (.ireturn, 1)) {fs : List Frame}
    (hl : ∀ (f : JFrame) (acts : List Action), f.method = m → f.locked = none → f.entered = [] → (doReturn e (T.setTop f) acts (some (.int z))).1 = T.setFrames fs) : Steps p.tables e below (T.setTop (mkF m pc Ls (.int z :: rest))) (T.setFrames fs) := by
  have hm' : T.vm.method? m = some meth := X.method'
  have hn : narrow .int (.int z) = .int z := rfl
  show Steps p.tables e below (T.setTop { method := m, pc := pc, locals := Ls, stack := _ :: rest, locked := none }) _
  jvm_step X.here [X.here.top, hx, hd, hm', hret, hn]
  first | (intro acts; rw [hl _ acts rfl rfl rfl]) | rw [hl _ _ rfl rfl rfl]
  exact Steps.refl _
end New
end Jvm.RoadKit
namespace Jvm.Pilot.@@N@@
open Jvm Jvm.ClassFile Sem Op Lib Jvm.Free Jvm.Stand Jvm.LawKit Jvm.RoadKit Bundle Jvm.Pilot.@@N@@.Jvm.D
/-- from S0 the run comes to T with the frame g on top -/
abbrev Pth (p : Program) (e : Env) (below : List Frame) (S0 T : State) (g : JFrame) : Prop := ∀ t, Steps p.tables e below (T.setTop g) t → Steps p.tables e below S0 t
theorem ef_leq (m : MethodId) (x0 : Addr) (x1 : Addr)  : entryFrame m #[(.ref x0), (.ref x1)] 3 = mkF m 0 #[.val (.ref x0), .val (.ref x1), .unset] [] := by first | (simp [entryFrame, mkF, argsToLocals, Value.category]; done) | rfl
theorem pn_java_lang_StringLatin1 : plainName "java/lang/StringLatin1" = true := by first | (simp [plainName, overriddenIn]; done) | decide +kernel
theorem d_leq_0 : decode jdk_43_method_13_code 0 = .ok (.aload_n 0, 1) := by decide +kernel
theorem d_leq_1 : decode jdk_43_method_13_code 1 = .ok (.arraylength, 1) := by decide +kernel
theorem d_leq_2 : decode jdk_43_method_13_code 2 = .ok (.aload_n 1, 1) := by decide +kernel
theorem d_leq_3 : decode jdk_43_method_13_code 3 = .ok (.arraylength, 1) := by decide +kernel
theorem d_leq_4 : decode jdk_43_method_13_code 4 = .ok (.if_icmp .ne 30, 3) := by decide +kernel
theorem d_leq_7 : decode jdk_43_method_13_code 7 = .ok (.iconst 0, 1) := by decide +kernel
theorem d_leq_8 : decode jdk_43_method_13_code 8 = .ok (.istore_n 2, 1) := by decide +kernel
theorem d_leq_9 : decode jdk_43_method_13_code 9 = .ok (.iload_n 2, 1) := by decide +kernel
theorem d_leq_10 : decode jdk_43_method_13_code 10 = .ok (.aload_n 0, 1) := by decide +kernel
theorem d_leq_11 : decode jdk_43_method_13_code 11 = .ok (.arraylength, 1) := by decide +kernel
theorem d_leq_12 : decode jdk_43_method_13_code 12 = .ok (.if_icmp .ge 20, 3) := by decide +kernel
theorem d_leq_32 : decode jdk_43_method_13_code 32 = .ok (.iconst 1, 1) := by decide +kernel
theorem d_leq_15 : decode jdk_43_method_13_code 15 = .ok (.aload_n 0, 1) := by decide +kernel
theorem d_leq_16 : decode jdk_43_method_13_code 16 = .ok (.iload_n 2, 1) := by decide +kernel
theorem d_leq_17 : decode jdk_43_method_13_code 17 = .ok (.baload, 1) := by decide +kernel
theorem d_leq_18 : decode jdk_43_method_13_code 18 = .ok (.aload_n 1, 1) := by decide +kernel
theorem d_leq_19 : decode jdk_43_method_13_code 19 = .ok (.iload_n 2, 1) := by decide +kernel
theorem d_leq_20 : decode jdk_43_method_13_code 20 = .ok (.baload, 1) := by decide +kernel
theorem d_leq_21 : decode jdk_43_method_13_code 21 = .ok (.if_icmp .eq 5, 3) := by decide +kernel
theorem d_leq_26 : decode jdk_43_method_13_code 26 = .ok (.iinc 2 1, 3) := by decide +kernel
theorem d_leq_29 : decode jdk_43_method_13_code 29 = .ok (.goto (-20), 3) := by decide +kernel
theorem d_leq_24 : decode jdk_43_method_13_code 24 = .ok (.iconst 0, 1) := by decide +kernel
theorem d_leq_33 : decode jdk_43_method_13_code 33 = .ok (.ireturn, 1) := by decide +kernel
theorem d_leq_25 : decode jdk_43_method_13_code 25 = .ok (.ireturn, 1) := by decide +kernel
theorem d_leq_34 : decode jdk_43_method_13_code 34 = .ok (.iconst 0, 1) := by decide +kernel
theorem d_leq_35 : decode jdk_43_method_13_code 35 = .ok (.ireturn, 1) := by decide +kernel
theorem ef_seq (m : MethodId) (x0 : Addr) (x1 : Addr)  : entryFrame m #[(.ref x0), (.ref x1)] 3 = mkF m 0 #[.val (.ref x0), .val (.ref x1), .unset] [] := by first | (simp [entryFrame, mkF, argsToLocals, Value.category]; done) | rfl
theorem pn_java_lang_String : plainName "java/lang/String" = true := by first | (simp [plainName, overriddenIn]; done) | decide +kernel
theorem d_seq_0 : decode jdk_42_method_66_code 0 = .ok (.aload_n 0, 1) := by decide +kernel
theorem d_seq_1 : decode jdk_42_method_66_code 1 = .ok (.aload_n 1, 1) := by decide +kernel
theorem d_seq_2 : decode jdk_42_method_66_code 2 = .ok (.if_acmp .ne 5, 3) := by decide +kernel
theorem d_seq_5 : decode jdk_42_method_66_code 5 = .ok (.iconst 1, 1) := by decide +kernel
theorem d_seq_6 : decode jdk_42_method_66_code 6 = .ok (.ireturn, 1) := by decide +kernel
theorem d_seq_7 : decode jdk_42_method_66_code 7 = .ok (.aload_n 1, 1) := by decide +kernel
theorem d_seq_8 : decode jdk_42_method_66_code 8 = .ok (.instanceof 10, 3) := by decide +kernel
theorem d_seq_11 : decode jdk_42_method_66_code 11 = .ok (.ifCond .eq 43, 3) := by decide +kernel
theorem d_seq_14 : decode jdk_42_method_66_code 14 = .ok (.aload_n 1, 1) := by decide +kernel
theorem d_seq_15 : decode jdk_42_method_66_code 15 = .ok (.checkcast 10, 3) := by decide +kernel
theorem d_seq_18 : decode jdk_42_method_66_code 18 = .ok (.astore_n 2, 1) := by decide +kernel
theorem d_seq_19 : decode jdk_42_method_66_code 19 = .ok (.getstatic 38, 3) := by decide +kernel
theorem d_seq_22 : decode jdk_42_method_66_code 22 = .ok (.ifCond .eq 14, 3) := by decide +kernel
theorem d_seq_25 : decode jdk_42_method_66_code 25 = .ok (.aload_n 0, 1) := by decide +kernel
theorem d_seq_26 : decode jdk_42_method_66_code 26 = .ok (.getfield 15, 3) := by decide +kernel
theorem d_seq_29 : decode jdk_42_method_66_code 29 = .ok (.aload_n 2, 1) := by decide +kernel
theorem d_seq_30 : decode jdk_42_method_66_code 30 = .ok (.getfield 15, 3) := by decide +kernel
theorem d_seq_33 : decode jdk_42_method_66_code 33 = .ok (.if_icmp .ne 21, 3) := by decide +kernel
theorem d_seq_36 : decode jdk_42_method_66_code 36 = .ok (.aload_n 0, 1) := by decide +kernel
theorem d_seq_37 : decode jdk_42_method_66_code 37 = .ok (.getfield 9, 3) := by decide +kernel
theorem d_seq_40 : decode jdk_42_method_66_code 40 = .ok (.aload_n 2, 1) := by decide +kernel
theorem d_seq_41 : decode jdk_42_method_66_code 41 = .ok (.getfield 9, 3) := by decide +kernel
theorem d_seq_44 : decode jdk_42_method_66_code 44 = .ok (.invokestatic 541, 3) := by decide +kernel
theorem pd___B_B_Z : parseMethodDescriptor "([B[B)Z" = some ⟨[(.array .byte), (.array .byte)], some .boolean⟩ := by decide +kernel
theorem d_seq_47 : decode jdk_42_method_66_code 47 = .ok (.ifCond .eq 7, 3) := by decide +kernel
theorem d_seq_54 : decode jdk_42_method_66_code 54 = .ok (.iconst 0, 1) := by decide +kernel
theorem d_seq_55 : decode jdk_42_method_66_code 55 = .ok (.ireturn, 1) := by decide +kernel
theorem d_seq_50 : decode jdk_42_method_66_code 50 = .ok (.iconst 1, 1) := by decide +kernel
theorem d_seq_51 : decode jdk_42_method_66_code 51 = .ok (.goto 4, 3) := by decide +kernel
theorem ef_len (m : MethodId) (x0 : Int32)  : entryFrame m #[(.int x0)] 1 = mkF m 0 #[.val (.int x0)] [] := by first | (simp [entryFrame, mkF, argsToLocals, Value.category]; done) | rfl
theorem pn_com_example_originlint_originlint_OriginEqualsPinLaw : plainName "com/example/originlint/originlint/OriginEqualsPinLaw" = true := by first | (simp [plainName, overriddenIn]; done) | decide +kernel
theorem d_len_0 : decode method_2_code 0 = .ok (.iload_n 0, 1) := by decide +kernel
theorem d_len_1 : decode method_2_code 1 = .ok (.bipush 16, 2) := by decide +kernel
theorem d_len_3 : decode method_2_code 3 = .ok (.iushr, 1) := by decide +kernel
theorem d_len_4 : decode method_2_code 4 = .ok (.iconst 3, 1) := by decide +kernel
theorem d_len_5 : decode method_2_code 5 = .ok (.iand, 1) := by decide +kernel
theorem d_len_6 : decode method_2_code 6 = .ok (.iconst 3, 1) := by decide +kernel
theorem d_len_7 : decode method_2_code 7 = .ok (.irem, 1) := by decide +kernel
theorem d_len_8 : decode method_2_code 8 = .ok (.ireturn, 1) := by decide +kernel
theorem ef_same (m : MethodId) (x0 : Int32) (x1 : Int32)  : entryFrame m #[(.int x0), (.int x1)] 4 = mkF m 0 #[.val (.int x0), .val (.int x1), .unset, .unset] [] := by first | (simp [entryFrame, mkF, argsToLocals, Value.category]; done) | rfl
theorem d_same_0 : decode method_4_code 0 = .ok (.iload_n 0, 1) := by decide +kernel
theorem d_same_1 : decode method_4_code 1 = .ok (.invokestatic 7, 3) := by decide +kernel
theorem pd__I_I : parseMethodDescriptor "(I)I" = some ⟨[.int], some .int⟩ := by decide +kernel
theorem d_same_4 : decode method_4_code 4 = .ok (.istore_n 2, 1) := by decide +kernel
theorem d_same_5 : decode method_4_code 5 = .ok (.iload_n 1, 1) := by decide +kernel
theorem d_same_6 : decode method_4_code 6 = .ok (.invokestatic 7, 3) := by decide +kernel
theorem d_same_9 : decode method_4_code 9 = .ok (.istore_n 3, 1) := by decide +kernel
theorem d_same_10 : decode method_4_code 10 = .ok (.iload_n 2, 1) := by decide +kernel
theorem d_same_11 : decode method_4_code 11 = .ok (.iload_n 3, 1) := by decide +kernel
theorem d_same_12 : decode method_4_code 12 = .ok (.if_icmp .eq 5, 3) := by decide +kernel
theorem d_same_17 : decode method_4_code 17 = .ok (.iload_n 2, 1) := by decide +kernel
theorem d_same_18 : decode method_4_code 18 = .ok (.iconst 1, 1) := by decide +kernel
theorem d_same_19 : decode method_4_code 19 = .ok (.if_icmp .lt 18, 3) := by decide +kernel
theorem d_same_37 : decode method_4_code 37 = .ok (.iload_n 2, 1) := by decide +kernel
theorem d_same_38 : decode method_4_code 38 = .ok (.iconst 2, 1) := by decide +kernel
theorem d_same_39 : decode method_4_code 39 = .ok (.if_icmp .lt 24, 3) := by decide +kernel
theorem d_same_63 : decode method_4_code 63 = .ok (.iconst 1, 1) := by decide +kernel
theorem d_same_64 : decode method_4_code 64 = .ok (.ireturn, 1) := by decide +kernel
theorem d_same_42 : decode method_4_code 42 = .ok (.iload_n 0, 1) := by decide +kernel
theorem d_same_43 : decode method_4_code 43 = .ok (.bipush 8, 2) := by decide +kernel
theorem d_same_45 : decode method_4_code 45 = .ok (.iushr, 1) := by decide +kernel
theorem d_same_46 : decode method_4_code 46 = .ok (.sipush 255, 3) := by decide +kernel
theorem d_same_49 : decode method_4_code 49 = .ok (.iand, 1) := by decide +kernel
theorem d_same_50 : decode method_4_code 50 = .ok (.iload_n 1, 1) := by decide +kernel
theorem d_same_51 : decode method_4_code 51 = .ok (.bipush 8, 2) := by decide +kernel
theorem d_same_53 : decode method_4_code 53 = .ok (.iushr, 1) := by decide +kernel
theorem d_same_54 : decode method_4_code 54 = .ok (.sipush 255, 3) := by decide +kernel
theorem d_same_57 : decode method_4_code 57 = .ok (.iand, 1) := by decide +kernel
theorem d_same_58 : decode method_4_code 58 = .ok (.if_icmp .eq 5, 3) := by decide +kernel
theorem d_same_61 : decode method_4_code 61 = .ok (.iconst 0, 1) := by decide +kernel
theorem d_same_62 : decode method_4_code 62 = .ok (.ireturn, 1) := by decide +kernel
theorem d_same_22 : decode method_4_code 22 = .ok (.iload_n 0, 1) := by decide +kernel
theorem d_same_23 : decode method_4_code 23 = .ok (.sipush 255, 3) := by decide +kernel
theorem d_same_26 : decode method_4_code 26 = .ok (.iand, 1) := by decide +kernel
theorem d_same_27 : decode method_4_code 27 = .ok (.iload_n 1, 1) := by decide +kernel
theorem d_same_28 : decode method_4_code 28 = .ok (.sipush 255, 3) := by decide +kernel
theorem d_same_31 : decode method_4_code 31 = .ok (.iand, 1) := by decide +kernel
theorem d_same_32 : decode method_4_code 32 = .ok (.if_icmp .eq 5, 3) := by decide +kernel
theorem d_same_35 : decode method_4_code 35 = .ok (.iconst 0, 1) := by decide +kernel
theorem d_same_36 : decode method_4_code 36 = .ok (.ireturn, 1) := by decide +kernel
theorem d_same_15 : decode method_4_code 15 = .ok (.iconst 0, 1) := by decide +kernel
theorem d_same_16 : decode method_4_code 16 = .ok (.ireturn, 1) := by decide +kernel
theorem ef_cp2 (m : MethodId) (x0 : Addr) (x1 : Int32) (x2 : Addr) (x3 : Int32) (x4 : Int32)  : entryFrame m #[(.ref x0), (.int x1), (.ref x2), (.int x3), (.int x4)] 7 = mkF m 0 #[.val (.ref x0), .val (.int x1), .val (.ref x2), .val (.int x3), .val (.int x4), .unset, .unset] [] := by first | (simp [entryFrame, mkF, argsToLocals, Value.category]; done) | rfl
theorem pn_java_lang_StringUTF16 : plainName "java/lang/StringUTF16" = true := by first | (simp [plainName, overriddenIn]; done) | decide +kernel
theorem d_cp2_0 : decode jdk_52_method_21_code 0 = .ok (.iconst 0, 1) := by decide +kernel
theorem d_cp2_1 : decode jdk_52_method_21_code 1 = .ok (.istore 5, 2) := by decide +kernel
theorem d_cp2_3 : decode jdk_52_method_21_code 3 = .ok (.iload 5, 2) := by decide +kernel
theorem d_cp2_5 : decode jdk_52_method_21_code 5 = .ok (.iload 4, 2) := by decide +kernel
theorem d_cp2_7 : decode jdk_52_method_21_code 7 = .ok (.if_icmp .ge 37, 3) := by decide +kernel
theorem d_cp2_10 : decode jdk_52_method_21_code 10 = .ok (.aload_n 0, 1) := by decide +kernel
theorem d_cp2_11 : decode jdk_52_method_21_code 11 = .ok (.iload_n 1, 1) := by decide +kernel
theorem d_cp2_12 : decode jdk_52_method_21_code 12 = .ok (.caload, 1) := by decide +kernel
theorem d_cp2_13 : decode jdk_52_method_21_code 13 = .ok (.istore 6, 2) := by decide +kernel
theorem d_cp2_15 : decode jdk_52_method_21_code 15 = .ok (.iload 6, 2) := by decide +kernel
theorem d_cp2_17 : decode jdk_52_method_21_code 17 = .ok (.sipush 255, 3) := by decide +kernel
theorem d_cp2_20 : decode jdk_52_method_21_code 20 = .ok (.if_icmp .le 6, 3) := by decide +kernel
theorem d_cp2_26 : decode jdk_52_method_21_code 26 = .ok (.aload_n 2, 1) := by decide +kernel
theorem d_cp2_27 : decode jdk_52_method_21_code 27 = .ok (.iload_n 3, 1) := by decide +kernel
theorem d_cp2_28 : decode jdk_52_method_21_code 28 = .ok (.iload 6, 2) := by decide +kernel
theorem d_cp2_30 : decode jdk_52_method_21_code 30 = .ok (.i2b, 1) := by decide +kernel
theorem d_cp2_31 : decode jdk_52_method_21_code 31 = .ok (.bastore, 1) := by decide +kernel
theorem d_cp2_32 : decode jdk_52_method_21_code 32 = .ok (.iinc 1 1, 3) := by decide +kernel
theorem d_cp2_35 : decode jdk_52_method_21_code 35 = .ok (.iinc 3 1, 3) := by decide +kernel
theorem d_cp2_38 : decode jdk_52_method_21_code 38 = .ok (.iinc 5 1, 3) := by decide +kernel
theorem d_cp2_41 : decode jdk_52_method_21_code 41 = .ok (.goto (-38), 3) := by decide +kernel
theorem d_cp2_44 : decode jdk_52_method_21_code 44 = .ok (.iload 4, 2) := by decide +kernel
theorem d_cp2_46 : decode jdk_52_method_21_code 46 = .ok (.ireturn, 1) := by decide +kernel
theorem ef_cp1 (m : MethodId) (x0 : Addr) (x1 : Int32) (x2 : Int32)  : entryFrame m #[(.ref x0), (.int x1), (.int x2)] 6 = mkF m 0 #[.val (.ref x0), .val (.int x1), .val (.int x2), .unset, .unset, .unset] [] := by first | (simp [entryFrame, mkF, argsToLocals, Value.category]; done) | rfl
theorem d_cp1_0 : decode jdk_52_method_16_code 0 = .ok (.iload_n 2, 1) := by decide +kernel
theorem d_cp1_1 : decode jdk_52_method_16_code 1 = .ok (.newarray .byte, 2) := by decide +kernel
theorem d_cp1_3 : decode jdk_52_method_16_code 3 = .ok (.astore_n 3, 1) := by decide +kernel
theorem d_cp1_4 : decode jdk_52_method_16_code 4 = .ok (.aload_n 0, 1) := by decide +kernel
theorem d_cp1_5 : decode jdk_52_method_16_code 5 = .ok (.iload_n 1, 1) := by decide +kernel
theorem d_cp1_6 : decode jdk_52_method_16_code 6 = .ok (.aload_n 3, 1) := by decide +kernel
theorem d_cp1_7 : decode jdk_52_method_16_code 7 = .ok (.iconst 0, 1) := by decide +kernel
theorem d_cp1_8 : decode jdk_52_method_16_code 8 = .ok (.iload_n 2, 1) := by decide +kernel
theorem d_cp1_9 : decode jdk_52_method_16_code 9 = .ok (.invokestatic 115, 3) := by decide +kernel
theorem pd___CI_BII_I : parseMethodDescriptor "([CI[BII)I" = some ⟨[(.array .char), .int, (.array .byte), .int, .int], some .int⟩ := by decide +kernel
theorem d_cp1_12 : decode jdk_52_method_16_code 12 = .ok (.istore 4, 2) := by decide +kernel
theorem d_cp1_14 : decode jdk_52_method_16_code 14 = .ok (.iload 4, 2) := by decide +kernel
theorem d_cp1_16 : decode jdk_52_method_16_code 16 = .ok (.iload_n 2, 1) := by decide +kernel
theorem d_cp1_17 : decode jdk_52_method_16_code 17 = .ok (.if_icmp .eq 40, 3) := by decide +kernel
theorem d_cp1_57 : decode jdk_52_method_16_code 57 = .ok (.aload_n 3, 1) := by decide +kernel
theorem d_cp1_58 : decode jdk_52_method_16_code 58 = .ok (.areturn, 1) := by decide +kernel
theorem ef_cfa (m : MethodId) (x0 : Addr) (x1 : Int32)  : entryFrame m #[(.ref x0), (.int x1)] 2 = mkF m 0 #[.val (.ref x0), .val (.int x1)] [] := by first | (simp [entryFrame, mkF, argsToLocals, Value.category]; done) | rfl
theorem d_cfa_0 : decode jdk_52_method_15_code 0 = .ok (.iload_n 1, 1) := by decide +kernel
theorem d_cfa_1 : decode jdk_52_method_15_code 1 = .ok (.aload_n 0, 1) := by decide +kernel
theorem d_cfa_2 : decode jdk_52_method_15_code 2 = .ok (.arraylength, 1) := by decide +kernel
theorem d_cfa_3 : decode jdk_52_method_15_code 3 = .ok (.isub, 1) := by decide +kernel
theorem d_cfa_4 : decode jdk_52_method_15_code 4 = .ok (.bipush 31, 2) := by decide +kernel
theorem d_cfa_6 : decode jdk_52_method_15_code 6 = .ok (.iushr, 1) := by decide +kernel
theorem d_cfa_7 : decode jdk_52_method_15_code 7 = .ok (.i2b, 1) := by decide +kernel
theorem d_cfa_8 : decode jdk_52_method_15_code 8 = .ok (.ireturn, 1) := by decide +kernel
theorem ef_iv2 (m : MethodId) (x0 : Addr) (x1 : Addr) (x2 : Int32) (x3 : Int32)  : entryFrame m #[(.ref x0), (.ref x1), (.int x2), (.int x3), .null] 6 = mkF m 0 #[.val (.ref x0), .val (.ref x1), .val (.int x2), .val (.int x3), .val .null, .unset] [] := by first | (simp [entryFrame, mkF, argsToLocals, Value.category]; done) | rfl
theorem d_iv2_0 : decode jdk_42_method_149_code 0 = .ok (.aload_n 0, 1) := by decide +kernel
theorem d_iv2_1 : decode jdk_42_method_149_code 1 = .ok (.invokespecial 1, 3) := by decide +kernel
theorem d_iv2_4 : decode jdk_42_method_149_code 4 = .ok (.iload_n 3, 1) := by decide +kernel
theorem d_iv2_5 : decode jdk_42_method_149_code 5 = .ok (.ifCond .ne 22, 3) := by decide +kernel
theorem d_iv2_27 : decode jdk_42_method_149_code 27 = .ok (.getstatic 38, 3) := by decide +kernel
theorem d_iv2_30 : decode jdk_42_method_149_code 30 = .ok (.ifCond .eq 28, 3) := by decide +kernel
theorem d_iv2_33 : decode jdk_42_method_149_code 33 = .ok (.aload_n 1, 1) := by decide +kernel
theorem d_iv2_34 : decode jdk_42_method_149_code 34 = .ok (.iload_n 2, 1) := by decide +kernel
theorem d_iv2_35 : decode jdk_42_method_149_code 35 = .ok (.iload_n 3, 1) := by decide +kernel
theorem d_iv2_36 : decode jdk_42_method_149_code 36 = .ok (.invokestatic 177, 3) := by decide +kernel
theorem pd___CII__B : parseMethodDescriptor "([CII)[B" = some ⟨[(.array .char), .int, .int], some (.array .byte)⟩ := by decide +kernel
theorem d_iv2_39 : decode jdk_42_method_149_code 39 = .ok (.astore 5, 2) := by decide +kernel
theorem d_iv2_41 : decode jdk_42_method_149_code 41 = .ok (.aload_n 0, 1) := by decide +kernel
theorem d_iv2_42 : decode jdk_42_method_149_code 42 = .ok (.aload 5, 2) := by decide +kernel
theorem d_iv2_44 : decode jdk_42_method_149_code 44 = .ok (.iload_n 3, 1) := by decide +kernel
theorem d_iv2_45 : decode jdk_42_method_149_code 45 = .ok (.invokestatic 47, 3) := by decide +kernel
theorem pd___BI_B : parseMethodDescriptor "([BI)B" = some ⟨[(.array .byte), .int], some .byte⟩ := by decide +kernel
theorem d_iv2_48 : decode jdk_42_method_149_code 48 = .ok (.putfield 15, 3) := by decide +kernel
theorem d_iv2_51 : decode jdk_42_method_149_code 51 = .ok (.aload_n 0, 1) := by decide +kernel
theorem d_iv2_52 : decode jdk_42_method_149_code 52 = .ok (.aload 5, 2) := by decide +kernel
theorem d_iv2_54 : decode jdk_42_method_149_code 54 = .ok (.putfield 9, 3) := by decide +kernel
theorem d_iv2_57 : decode jdk_42_method_149_code 57 = .ok (.return_, 1) := by decide +kernel
theorem ef_ic2 (m : MethodId) (x0 : Addr) (x1 : Addr)  : entryFrame m #[(.ref x0), (.ref x1)] 2 = mkF m 0 #[.val (.ref x0), .val (.ref x1)] [] := by first | (simp [entryFrame, mkF, argsToLocals, Value.category]; done) | rfl
theorem d_ic2_0 : decode jdk_42_method_3_code 0 = .ok (.aload_n 0, 1) := by decide +kernel
theorem d_ic2_1 : decode jdk_42_method_3_code 1 = .ok (.aload_n 1, 1) := by decide +kernel
theorem d_ic2_2 : decode jdk_42_method_3_code 2 = .ok (.iconst 0, 1) := by decide +kernel
theorem d_ic2_3 : decode jdk_42_method_3_code 3 = .ok (.aload_n 1, 1) := by decide +kernel
theorem d_ic2_4 : decode jdk_42_method_3_code 4 = .ok (.arraylength, 1) := by decide +kernel
theorem d_ic2_5 : decode jdk_42_method_3_code 5 = .ok (.aconst_null, 1) := by decide +kernel
theorem d_ic2_6 : decode jdk_42_method_3_code 6 = .ok (.invokespecial 27, 3) := by decide +kernel
theorem pd___CIILjava_lang_Void__V : parseMethodDescriptor "([CIILjava/lang/Void;)V" = some ⟨[(.array .char), .int, .int, (.object "java/lang/Void")], none⟩ := by decide +kernel
theorem d_ic2_9 : decode jdk_42_method_3_code 9 = .ok (.return_, 1) := by decide +kernel
theorem ef_ib (m : MethodId) (x0 : Addr) (x1 : Addr) (x2 : Int32)  : entryFrame m #[(.ref x0), (.ref x1), (.int x2)] 3 = mkF m 0 #[.val (.ref x0), .val (.ref x1), .val (.int x2)] [] := by first | (simp [entryFrame, mkF, argsToLocals, Value.category]; done) | rfl
theorem d_ib_0 : decode jdk_42_method_151_code 0 = .ok (.aload_n 0, 1) := by decide +kernel
theorem d_ib_1 : decode jdk_42_method_151_code 1 = .ok (.invokespecial 1, 3) := by decide +kernel
theorem d_ib_4 : decode jdk_42_method_151_code 4 = .ok (.aload_n 0, 1) := by decide +kernel
theorem d_ib_5 : decode jdk_42_method_151_code 5 = .ok (.aload_n 1, 1) := by decide +kernel
theorem d_ib_6 : decode jdk_42_method_151_code 6 = .ok (.putfield 9, 3) := by decide +kernel
theorem d_ib_9 : decode jdk_42_method_151_code 9 = .ok (.aload_n 0, 1) := by decide +kernel
theorem d_ib_10 : decode jdk_42_method_151_code 10 = .ok (.iload_n 2, 1) := by decide +kernel
theorem d_ib_11 : decode jdk_42_method_151_code 11 = .ok (.putfield 15, 3) := by decide +kernel
theorem d_ib_14 : decode jdk_42_method_151_code 14 = .ok (.return_, 1) := by decide +kernel
theorem ef_cen (m : MethodId) (x0 : Int32)  : entryFrame m #[(.int x0)] 1 = mkF m 0 #[.val (.int x0)] [] := by first | (simp [entryFrame, mkF, argsToLocals, Value.category]; done) | rfl
theorem d_cen_0 : decode jdk_43_method_3_code 0 = .ok (.iload_n 0, 1) := by decide +kernel
theorem d_cen_1 : decode jdk_43_method_3_code 1 = .ok (.sipush 255, 3) := by decide +kernel
theorem d_cen_4 : decode jdk_43_method_3_code 4 = .ok (.if_icmp .gt 7, 3) := by decide +kernel
theorem d_cen_7 : decode jdk_43_method_3_code 7 = .ok (.iconst 1, 1) := by decide +kernel
theorem d_cen_8 : decode jdk_43_method_3_code 8 = .ok (.goto 4, 3) := by decide +kernel
theorem d_cen_12 : decode jdk_43_method_3_code 12 = .ok (.ireturn, 1) := by decide +kernel
theorem ef_tob (m : MethodId) (x0 : Int32)  : entryFrame m #[(.int x0)] 1 = mkF m 0 #[.val (.int x0)] [] := by first | (simp [entryFrame, mkF, argsToLocals, Value.category]; done) | rfl
theorem d_tob_0 : decode jdk_43_method_46_code 0 = .ok (.iconst 1, 1) := by decide +kernel
theorem d_tob_1 : decode jdk_43_method_46_code 1 = .ok (.newarray .byte, 2) := by decide +kernel
theorem d_tob_3 : decode jdk_43_method_46_code 3 = .ok (.dup, 1) := by decide +kernel
theorem d_tob_4 : decode jdk_43_method_46_code 4 = .ok (.iconst 0, 1) := by decide +kernel
theorem d_tob_5 : decode jdk_43_method_46_code 5 = .ok (.iload_n 0, 1) := by decide +kernel
theorem d_tob_6 : decode jdk_43_method_46_code 6 = .ok (.i2b, 1) := by decide +kernel
theorem d_tob_7 : decode jdk_43_method_46_code 7 = .ok (.bastore, 1) := by decide +kernel
theorem d_tob_8 : decode jdk_43_method_46_code 8 = .ok (.areturn, 1) := by decide +kernel
theorem ef_vof (m : MethodId) (x0 : Int32)  : entryFrame m #[(.int x0)] 1 = mkF m 0 #[.val (.int x0)] [] := by first | (simp [entryFrame, mkF, argsToLocals, Value.category]; done) | rfl
theorem d_vof_0 : decode jdk_42_method_139_code 0 = .ok (.getstatic 38, 3) := by decide +kernel
theorem d_vof_3 : decode jdk_42_method_139_code 3 = .ok (.ifCond .eq 23, 3) := by decide +kernel
theorem d_vof_6 : decode jdk_42_method_139_code 6 = .ok (.iload_n 0, 1) := by decide +kernel
theorem d_vof_7 : decode jdk_42_method_139_code 7 = .ok (.invokestatic 1015, 3) := by decide +kernel
theorem pd__C_Z : parseMethodDescriptor "(C)Z" = some ⟨[.char], some .boolean⟩ := by decide +kernel
theorem d_vof_10 : decode jdk_42_method_139_code 10 = .ok (.ifCond .eq 16, 3) := by decide +kernel
theorem d_vof_13 : decode jdk_42_method_139_code 13 = .ok (.new 10, 3) := by decide +kernel
theorem d_vof_16 : decode jdk_42_method_139_code 16 = .ok (.dup, 1) := by decide +kernel
theorem d_vof_17 : decode jdk_42_method_139_code 17 = .ok (.iload_n 0, 1) := by decide +kernel
theorem d_vof_18 : decode jdk_42_method_139_code 18 = .ok (.invokestatic 1018, 3) := by decide +kernel
theorem pd__C__B : parseMethodDescriptor "(C)[B" = some ⟨[.char], some (.array .byte)⟩ := by decide +kernel
theorem d_vof_21 : decode jdk_42_method_139_code 21 = .ok (.iconst 0, 1) := by decide +kernel
theorem d_vof_22 : decode jdk_42_method_139_code 22 = .ok (.invokespecial 209, 3) := by decide +kernel
theorem pd___BB_V : parseMethodDescriptor "([BB)V" = some ⟨[(.array .byte), .byte], none⟩ := by decide +kernel
theorem d_vof_25 : decode jdk_42_method_139_code 25 = .ok (.areturn, 1) := by decide +kernel
theorem ef_rec (m : MethodId) (x0 : Addr)  : entryFrame m #[(.ref x0)] 1 = mkF m 0 #[.val (.ref x0)] [] := by first | (simp [entryFrame, mkF, argsToLocals, Value.category]; done) | rfl
theorem pn_java_lang_Record : plainName "java/lang/Record" = true := by first | (simp [plainName, overriddenIn]; done) | decide +kernel
theorem d_rec_0 : decode jdk_30_method_1_code 0 = .ok (.aload_n 0, 1) := by decide +kernel
theorem d_rec_1 : decode jdk_30_method_1_code 1 = .ok (.invokespecial 1, 3) := by decide +kernel
theorem d_rec_4 : decode jdk_30_method_1_code 4 = .ok (.return_, 1) := by decide +kernel
theorem ef_oi (m : MethodId) (x0 : Addr) (x1 : Addr) (x2 : Addr) (x3 : Int32)  : entryFrame m #[(.ref x0), (.ref x1), (.ref x2), (.int x3)] 4 = mkF m 0 #[.val (.ref x0), .val (.ref x1), .val (.ref x2), .val (.int x3)] [] := by first | (simp [entryFrame, mkF, argsToLocals, Value.category]; done) | rfl
theorem pn_com_example_originlint_originlint_Origin : plainName "com/example/originlint/originlint/Origin" = true := by first | (simp [plainName, overriddenIn]; done) | decide +kernel
theorem d_oi_0 : decode prog_31_method_1_code 0 = .ok (.aload_n 0, 1) := by decide +kernel
theorem d_oi_1 : decode prog_31_method_1_code 1 = .ok (.invokespecial 1, 3) := by decide +kernel
theorem pd___V : parseMethodDescriptor "()V" = some ⟨[], none⟩ := by decide +kernel
theorem d_oi_4 : decode prog_31_method_1_code 4 = .ok (.aload_n 0, 1) := by decide +kernel
theorem d_oi_5 : decode prog_31_method_1_code 5 = .ok (.aload_n 1, 1) := by decide +kernel
theorem d_oi_6 : decode prog_31_method_1_code 6 = .ok (.putfield 7, 3) := by decide +kernel
theorem d_oi_9 : decode prog_31_method_1_code 9 = .ok (.aload_n 0, 1) := by decide +kernel
theorem d_oi_10 : decode prog_31_method_1_code 10 = .ok (.aload_n 2, 1) := by decide +kernel
theorem d_oi_11 : decode prog_31_method_1_code 11 = .ok (.putfield 13, 3) := by decide +kernel
theorem d_oi_14 : decode prog_31_method_1_code 14 = .ok (.aload_n 0, 1) := by decide +kernel
theorem d_oi_15 : decode prog_31_method_1_code 15 = .ok (.iload_n 3, 1) := by decide +kernel
theorem d_oi_16 : decode prog_31_method_1_code 16 = .ok (.putfield 16, 3) := by decide +kernel
theorem d_oi_19 : decode prog_31_method_1_code 19 = .ok (.return_, 1) := by decide +kernel
theorem ef_oeq (m : MethodId) (x0 : Addr) (x1 : Addr)  : entryFrame m #[(.ref x0), (.ref x1)] 3 = mkF m 0 #[.val (.ref x0), .val (.ref x1), .unset] [] := by first | (simp [entryFrame, mkF, argsToLocals, Value.category]; done) | rfl
theorem d_oeq_0 : decode prog_31_method_2_code 0 = .ok (.aload_n 1, 1) := by decide +kernel
theorem d_oeq_1 : decode prog_31_method_2_code 1 = .ok (.instanceof 8, 3) := by decide +kernel
theorem d_oeq_4 : decode prog_31_method_2_code 4 = .ok (.ifCond .eq 51, 3) := by decide +kernel
theorem d_oeq_7 : decode prog_31_method_2_code 7 = .ok (.aload_n 1, 1) := by decide +kernel
theorem d_oeq_8 : decode prog_31_method_2_code 8 = .ok (.checkcast 8, 3) := by decide +kernel
theorem d_oeq_11 : decode prog_31_method_2_code 11 = .ok (.astore_n 2, 1) := by decide +kernel
theorem d_oeq_12 : decode prog_31_method_2_code 12 = .ok (.aload_n 0, 1) := by decide +kernel
theorem d_oeq_13 : decode prog_31_method_2_code 13 = .ok (.getfield 16, 3) := by decide +kernel
theorem d_oeq_16 : decode prog_31_method_2_code 16 = .ok (.aload_n 2, 1) := by decide +kernel
theorem d_oeq_17 : decode prog_31_method_2_code 17 = .ok (.getfield 16, 3) := by decide +kernel
theorem d_oeq_20 : decode prog_31_method_2_code 20 = .ok (.if_icmp .ne 35, 3) := by decide +kernel
theorem d_oeq_23 : decode prog_31_method_2_code 23 = .ok (.aload_n 0, 1) := by decide +kernel
theorem d_oeq_24 : decode prog_31_method_2_code 24 = .ok (.getfield 7, 3) := by decide +kernel
theorem d_oeq_27 : decode prog_31_method_2_code 27 = .ok (.aload_n 2, 1) := by decide +kernel
theorem d_oeq_28 : decode prog_31_method_2_code 28 = .ok (.getfield 7, 3) := by decide +kernel
theorem d_oeq_31 : decode prog_31_method_2_code 31 = .ok (.invokevirtual 20, 3) := by decide +kernel
theorem pd__Ljava_lang_Object__Z : parseMethodDescriptor "(Ljava/lang/Object;)Z" = some ⟨[(.object "java/lang/Object")], some .boolean⟩ := by decide +kernel
theorem d_oeq_34 : decode prog_31_method_2_code 34 = .ok (.ifCond .eq 21, 3) := by decide +kernel
theorem d_oeq_55 : decode prog_31_method_2_code 55 = .ok (.iconst 0, 1) := by decide +kernel
theorem d_oeq_56 : decode prog_31_method_2_code 56 = .ok (.ireturn, 1) := by decide +kernel
theorem d_oeq_37 : decode prog_31_method_2_code 37 = .ok (.aload_n 0, 1) := by decide +kernel
theorem d_oeq_38 : decode prog_31_method_2_code 38 = .ok (.getfield 13, 3) := by decide +kernel
theorem d_oeq_41 : decode prog_31_method_2_code 41 = .ok (.aload_n 2, 1) := by decide +kernel
theorem d_oeq_42 : decode prog_31_method_2_code 42 = .ok (.getfield 13, 3) := by decide +kernel
theorem d_oeq_45 : decode prog_31_method_2_code 45 = .ok (.invokevirtual 20, 3) := by decide +kernel
theorem d_oeq_48 : decode prog_31_method_2_code 48 = .ok (.ifCond .eq 7, 3) := by decide +kernel
theorem d_oeq_51 : decode prog_31_method_2_code 51 = .ok (.iconst 1, 1) := by decide +kernel
theorem d_oeq_52 : decode prog_31_method_2_code 52 = .ok (.goto 4, 3) := by decide +kernel
theorem ef_oen (m : MethodId) (x0 : Addr)  : entryFrame m #[(.ref x0), .null] 3 = mkF m 0 #[.val (.ref x0), .val .null, .unset] [] := by first | (simp [entryFrame, mkF, argsToLocals, Value.category]; done) | rfl
theorem d_oen_0 : decode prog_31_method_2_code 0 = .ok (.aload_n 1, 1) := by decide +kernel
theorem d_oen_1 : decode prog_31_method_2_code 1 = .ok (.instanceof 8, 3) := by decide +kernel
theorem d_oen_4 : decode prog_31_method_2_code 4 = .ok (.ifCond .eq 51, 3) := by decide +kernel
theorem d_oen_55 : decode prog_31_method_2_code 55 = .ok (.iconst 0, 1) := by decide +kernel
theorem d_oen_56 : decode prog_31_method_2_code 56 = .ok (.ireturn, 1) := by decide +kernel
theorem ef_oes (m : MethodId) (x0 : Addr) (x1 : Addr)  : entryFrame m #[(.ref x0), (.ref x1)] 3 = mkF m 0 #[.val (.ref x0), .val (.ref x1), .unset] [] := by first | (simp [entryFrame, mkF, argsToLocals, Value.category]; done) | rfl
theorem d_oes_0 : decode prog_31_method_2_code 0 = .ok (.aload_n 1, 1) := by decide +kernel
theorem d_oes_1 : decode prog_31_method_2_code 1 = .ok (.instanceof 8, 3) := by decide +kernel
theorem d_oes_4 : decode prog_31_method_2_code 4 = .ok (.ifCond .eq 51, 3) := by decide +kernel
theorem d_oes_55 : decode prog_31_method_2_code 55 = .ok (.iconst 0, 1) := by decide +kernel
theorem d_oes_56 : decode prog_31_method_2_code 56 = .ok (.ireturn, 1) := by decide +kernel
theorem ef_iv0 (m : MethodId) (x0 : Addr) (x1 : Addr) (x2 : Int32) (x3 : Int32)  : entryFrame m #[(.ref x0), (.ref x1), (.int x2), (.int x3), .null] 6 = mkF m 0 #[.val (.ref x0), .val (.ref x1), .val (.int x2), .val (.int x3), .val .null, .unset] [] := by first | (simp [entryFrame, mkF, argsToLocals, Value.category]; done) | rfl
theorem d_iv0_0 : decode jdk_42_method_149_code 0 = .ok (.aload_n 0, 1) := by decide +kernel
theorem d_iv0_1 : decode jdk_42_method_149_code 1 = .ok (.invokespecial 1, 3) := by decide +kernel
theorem d_iv0_4 : decode jdk_42_method_149_code 4 = .ok (.iload_n 3, 1) := by decide +kernel
theorem d_iv0_5 : decode jdk_42_method_149_code 5 = .ok (.ifCond .ne 22, 3) := by decide +kernel
theorem d_iv0_8 : decode jdk_42_method_149_code 8 = .ok (.aload_n 0, 1) := by decide +kernel
theorem d_iv0_9 : decode jdk_42_method_149_code 9 = .ok (.ldc 7, 2) := by decide +kernel
theorem d_iv0_11 : decode jdk_42_method_149_code 11 = .ok (.getfield 9, 3) := by decide +kernel
theorem d_iv0_14 : decode jdk_42_method_149_code 14 = .ok (.putfield 9, 3) := by decide +kernel
theorem d_iv0_17 : decode jdk_42_method_149_code 17 = .ok (.aload_n 0, 1) := by decide +kernel
theorem d_iv0_18 : decode jdk_42_method_149_code 18 = .ok (.ldc 7, 2) := by decide +kernel
theorem d_iv0_20 : decode jdk_42_method_149_code 20 = .ok (.getfield 15, 3) := by decide +kernel
theorem d_iv0_23 : decode jdk_42_method_149_code 23 = .ok (.putfield 15, 3) := by decide +kernel
theorem d_iv0_26 : decode jdk_42_method_149_code 26 = .ok (.return_, 1) := by decide +kernel
theorem ef_ic0 (m : MethodId) (x0 : Addr) (x1 : Addr)  : entryFrame m #[(.ref x0), (.ref x1)] 2 = mkF m 0 #[.val (.ref x0), .val (.ref x1)] [] := by first | (simp [entryFrame, mkF, argsToLocals, Value.category]; done) | rfl
theorem d_ic0_0 : decode jdk_42_method_3_code 0 = .ok (.aload_n 0, 1) := by decide +kernel
theorem d_ic0_1 : decode jdk_42_method_3_code 1 = .ok (.aload_n 1, 1) := by decide +kernel
theorem d_ic0_2 : decode jdk_42_method_3_code 2 = .ok (.iconst 0, 1) := by decide +kernel
theorem d_ic0_3 : decode jdk_42_method_3_code 3 = .ok (.aload_n 1, 1) := by decide +kernel
theorem d_ic0_4 : decode jdk_42_method_3_code 4 = .ok (.arraylength, 1) := by decide +kernel
theorem d_ic0_5 : decode jdk_42_method_3_code 5 = .ok (.aconst_null, 1) := by decide +kernel
theorem d_ic0_6 : decode jdk_42_method_3_code 6 = .ok (.invokespecial 27, 3) := by decide +kernel
theorem d_ic0_9 : decode jdk_42_method_3_code 9 = .ok (.return_, 1) := by decide +kernel
theorem ef_str (m : MethodId) (x0 : Int32)  : entryFrame m #[(.int x0)] 4 = mkF m 0 #[.val (.int x0), .unset, .unset, .unset] [] := by first | (simp [entryFrame, mkF, argsToLocals, Value.category]; done) | rfl
theorem d_str_0 : decode method_3_code 0 = .ok (.iload_n 0, 1) := by decide +kernel
theorem d_str_1 : decode method_3_code 1 = .ok (.invokestatic 7, 3) := by decide +kernel
theorem d_str_4 : decode method_3_code 4 = .ok (.istore_n 1, 1) := by decide +kernel
theorem d_str_5 : decode method_3_code 5 = .ok (.iload_n 0, 1) := by decide +kernel
theorem d_str_6 : decode method_3_code 6 = .ok (.sipush 255, 3) := by decide +kernel
theorem d_str_9 : decode method_3_code 9 = .ok (.iand, 1) := by decide +kernel
theorem d_str_10 : decode method_3_code 10 = .ok (.i2c, 1) := by decide +kernel
theorem d_str_11 : decode method_3_code 11 = .ok (.istore_n 2, 1) := by decide +kernel
theorem d_str_12 : decode method_3_code 12 = .ok (.iload_n 0, 1) := by decide +kernel
theorem d_str_13 : decode method_3_code 13 = .ok (.bipush 8, 2) := by decide +kernel
theorem d_str_15 : decode method_3_code 15 = .ok (.iushr, 1) := by decide +kernel
theorem d_str_16 : decode method_3_code 16 = .ok (.sipush 255, 3) := by decide +kernel
theorem d_str_19 : decode method_3_code 19 = .ok (.iand, 1) := by decide +kernel
theorem d_str_20 : decode method_3_code 20 = .ok (.i2c, 1) := by decide +kernel
theorem d_str_21 : decode method_3_code 21 = .ok (.istore_n 3, 1) := by decide +kernel
theorem d_str_22 : decode method_3_code 22 = .ok (.iload_n 1, 1) := by decide +kernel
theorem d_str_23 : decode method_3_code 23 = .ok (.ifCond .ne 14, 3) := by decide +kernel
theorem d_str_26 : decode method_3_code 26 = .ok (.new 13, 3) := by decide +kernel
theorem d_str_29 : decode method_3_code 29 = .ok (.dup, 1) := by decide +kernel
theorem d_str_30 : decode method_3_code 30 = .ok (.iconst 0, 1) := by decide +kernel
theorem d_str_31 : decode method_3_code 31 = .ok (.newarray .char, 2) := by decide +kernel
theorem d_str_33 : decode method_3_code 33 = .ok (.invokespecial 15, 3) := by decide +kernel
theorem pd___C_V : parseMethodDescriptor "([C)V" = some ⟨[(.array .char)], none⟩ := by decide +kernel
theorem d_str_36 : decode method_3_code 36 = .ok (.areturn, 1) := by decide +kernel
theorem d_str_37 : decode method_3_code 37 = .ok (.iload_n 1, 1) := by decide +kernel
theorem d_str_38 : decode method_3_code 38 = .ok (.iconst 1, 1) := by decide +kernel
theorem d_str_39 : decode method_3_code 39 = .ok (.if_icmp .ne 8, 3) := by decide +kernel
theorem d_str_42 : decode method_3_code 42 = .ok (.iload_n 2, 1) := by decide +kernel
theorem d_str_43 : decode method_3_code 43 = .ok (.invokestatic 18, 3) := by decide +kernel
theorem pd__C_Ljava_lang_String_ : parseMethodDescriptor "(C)Ljava/lang/String;" = some ⟨[.char], some (.object "java/lang/String")⟩ := by decide +kernel
theorem d_str_46 : decode method_3_code 46 = .ok (.areturn, 1) := by decide +kernel
theorem d_str_47 : decode method_3_code 47 = .ok (.new 13, 3) := by decide +kernel
theorem d_str_50 : decode method_3_code 50 = .ok (.dup, 1) := by decide +kernel
theorem d_str_51 : decode method_3_code 51 = .ok (.iconst 2, 1) := by decide +kernel
theorem d_str_52 : decode method_3_code 52 = .ok (.newarray .char, 2) := by decide +kernel
theorem d_str_54 : decode method_3_code 54 = .ok (.dup, 1) := by decide +kernel
theorem d_str_55 : decode method_3_code 55 = .ok (.iconst 0, 1) := by decide +kernel
theorem d_str_56 : decode method_3_code 56 = .ok (.iload_n 2, 1) := by decide +kernel
theorem d_str_57 : decode method_3_code 57 = .ok (.castore, 1) := by decide +kernel
theorem d_str_58 : decode method_3_code 58 = .ok (.dup, 1) := by decide +kernel
theorem d_str_59 : decode method_3_code 59 = .ok (.iconst 1, 1) := by decide +kernel
theorem d_str_60 : decode method_3_code 60 = .ok (.iload_n 3, 1) := by decide +kernel
theorem d_str_61 : decode method_3_code 61 = .ok (.castore, 1) := by decide +kernel
theorem d_str_62 : decode method_3_code 62 = .ok (.invokespecial 15, 3) := by decide +kernel
theorem d_str_65 : decode method_3_code 65 = .ok (.areturn, 1) := by decide +kernel
theorem ef_law (m : MethodId) (x0 : Int64) (x1 : Int64) (x2 : Int32) (x3 : Int32) (x4 : Int32)  : entryFrame m #[(.long x0), (.long x1), (.int x2), (.int x3), (.int x4)] maxLocals = mkF m 0 #[.val (.long x0), .second, .val (.long x1), .second, .val (.int x2), .val (.int x3), .val (.int x4), .unset, .unset, .unset, .unset, .unset, .unset, .unset, .unset, .unset] [] := by first | (simp [entryFrame, mkF, argsToLocals, Value.category, maxLocals]; done) | rfl
theorem pd__I_Ljava_lang_String_ : parseMethodDescriptor "(I)Ljava/lang/String;" = some ⟨[.int], some (.object "java/lang/String")⟩ := by decide +kernel
theorem pd__Ljava_lang_String_Ljava_lang_String_I_V : parseMethodDescriptor "(Ljava/lang/String;Ljava/lang/String;I)V" = some ⟨[(.object "java/lang/String"), (.object "java/lang/String"), .int], none⟩ := by decide +kernel
theorem pd__II_Z : parseMethodDescriptor "(II)Z" = some ⟨[.int, .int], some .boolean⟩ := by decide +kernel
theorem own_rne {a b : Addr} (h : a ≠ b) : ¬ (Value.ref a = Value.ref b) := fun q => h (Value.ref.inj q)
theorem own_fldeq {args : Array Value} {s : State} {t : Term} {C n d : String} {a : Addr} {k : Int32} (ev : t.eval args s none [] s = some (.ref a)) (h : (Jvm.Cond.eq (.field t C n d) (.int k)).value args s none s [] = some true) : Fld s s.heap a C n d (.int k) := by
  obtain ⟨x, y, e1, e2, k1, k2⟩ := cmp_v (Or.inl h)
  rw [Term.int_eval] at e2
  cases e2
  obtain ⟨z, rfl⟩ := k2
  have q := gotT (Cond.eq_ints e1 (Term.int_eval k)) h
  rw [fld_at ev] at e1
  subst q
  exact Fld.start e1
/-- the array at a has n places, of kind ty, and holds f -/
def OFun (Z : State) (h : Heap) (a : Addr) (ty : FieldType) (n : Nat) (f : Nat → Value) : Prop := ∃ c : Cell, Arr Z h a c ty ∧ c.slots.size = n ∧ ∀ j, j < n → c.slots[j]? = some (f j)
theorem OFun.lt {Z : State} {h : Heap} {a : Addr} {ty : FieldType} {n : Nat} {f : Nat → Value} (F : OFun Z h a ty n f) : a < h.size := by obtain ⟨c, A, -⟩ := F; exact A.lt
theorem OFun.ext {Z : State} {h h' : Heap} {a : Addr} {ty : FieldType} {n : Nat} {f : Nat → Value} (F : OFun Z h a ty n f) (E : Ext h h') : OFun Z h' a ty n f := by obtain ⟨c, A, r⟩ := F; exact ⟨c, A.ext E, r⟩
theorem OFun.other {Z : State} {h h' : Heap} {a b : Addr} {ty : FieldType} {n sl : Nat} {v : Value} {f : Nat → Value} (F : OFun Z h a ty n f) (W : Wr h h' b sl v) (q : a ≠ b) : OFun Z h' a ty n f := by obtain ⟨c, A, r⟩ := F; exact ⟨c, A.other W q, r⟩
theorem OFun.keep {Z : State} {h h' : Heap} {a : Addr} {ty : FieldType} {n : Nat} {ws : List Addr} {f : Nat → Value} (F : OFun Z h a ty n f) (K : Keep h h' ws) (q : a ∉ ws) : OFun Z h' a ty n f := by obtain ⟨c, A, r⟩ := F; exact ⟨c, ⟨K.2.1 a c A.1 q, A.2⟩, r⟩
theorem OFun.congr {Z : State} {h : Heap} {a : Addr} {ty : FieldType} {n : Nat} {f g : Nat → Value} (F : OFun Z h a ty n f) (q : ∀ j, j < n → f j = g j) : OFun Z h a ty n g := by obtain ⟨c, A, r1, r2⟩ := F; exact ⟨c, A, r1, fun j hj => by rw [r2 j hj, q j hj]⟩
theorem OFun.new {Z : State} {h : Heap} {a : Addr} {ty : FieldType} {k : ClassId} {z : Int32} (A : Arr Z h a (newA k ty z) ty) : OFun Z h a ty z.toNatClampNeg (fun _ => defaultValue ty) := ⟨_, A, sz_new _ _ _, fun j hj => by simp [newA, hj]⟩
theorem OFun.set {Z : State} {h h' : Heap} {a : Addr} {ty : FieldType} {n i : Nat} {v : Value} {f : Nat → Value} (F : OFun Z h a ty n f) (W : Wr h h' a i v) : OFun Z h' a ty n (fun j => if j = i then v else f j) := by
  obtain ⟨c, A, r1, r2⟩ := F
  refine ⟨_, A.same W, by rw [sz_set]; exact r1, fun j hj => ?_⟩
  by_cases q : j = i
  · subst q
    simp [Cell.setSlot, r1, hj]
  · simp only [q, if_false]
    rw [← r2 j hj]
    simp [Cell.setSlot, Array.getElem?_setIfInBounds, Ne.symm q]
theorem own_ext_wr {h0 h h' : Heap} {a : Addr} {sl : Nat} {v : Value} (E : Ext h0 h) (W : Wr h h' a sl v) (q : h0.size ≤ a) : Ext h0 h' := by
  refine ⟨by rw [W.size]; exact E.1, fun x c hx => ?_⟩
  have hlt := (Array.getElem?_eq_some_iff.mp hx).1
  obtain ⟨c', e1, -, -, -, e5, -⟩ := wr_at W (E.2 x c hx)
  rw [e1, e5 (Nat.ne_of_lt (Nat.lt_of_lt_of_le hlt q))]
theorem own_ext_trans {h0 h h' : Heap} (E : Ext h0 h) (E' : Ext h h') : Ext h0 h' := ⟨Nat.le_trans E.1 E'.1, fun x c hx => E'.2 x c (E.2 x c hx)⟩
theorem own_ext_refl (h : Heap) : Ext h h := ⟨Nat.le_refl _, fun _ _ q => q⟩
theorem own_ext_keep {h0 h h' : Heap} {ws : List Addr} (E : Ext h0 h) (K : Keep h h' ws) (q : ∀ x ∈ ws, h0.size ≤ x) : Ext h0 h' := ⟨Nat.le_trans E.1 K.1, fun x c hx => K.2.1 x c (E.2 x c hx) fun z => by
  have hlt := (Array.getElem?_eq_some_iff.mp hx).1
  exact absurd hlt (Nat.not_lt.mpr (q x z))⟩
theorem own_keep_ext {h h' : Heap} (E : Ext h h') (ws : List Addr) : Keep h h' ws := (Keep.refl h ws).ext E
theorem own_in {j : Int32} {i n : Nat} (h0 : j.toInt = i) (h1 : i < n) : ¬ (j < 0 ∨ n ≤ j.toNatClampNeg) := by
  have e : j.toNatClampNeg = i := by
    show j.toInt.toNat = i
    omega
  rintro (q | q)
  · rw [Int32.lt_iff_toInt_lt] at q
    have z : (0 : Int32).toInt = 0 := rfl
    omega
  · omega
theorem own_cl {j : Int32} {i : Nat} (h0 : j.toInt = i) : j.toNatClampNeg = i := by
  show j.toInt.toNat = i
  omega
theorem own_ofN {n : Nat} (h : n < 2 ^ 31) : (Int32.ofNat n).toInt = n := Int32.toInt_ofNat_of_lt h
theorem own_root {Z : State} {a0 : Array Value} {O K : String} {n : Nat} (w : (Jvm.Cond.noSuperclass O).before a0 Z = true) (wk : (Jvm.Cond.instantiable K n).before a0 Z = true) (hn : O ≠ K) : NS Z O K := by
  obtain ⟨c, k, h1, h2, h3, -, -⟩ := Cond.noSuperclass_spec w
  obtain ⟨t, k2, g1, -⟩ := Cond.instantiable_spec wk
  have ne := ids_ne h1 g1 hn
  refine ⟨c, t, h1, g1, fun fuel => ?_⟩
  match fuel with
  | 0 => rfl
  | f + 1 => simp [Vm.isSubclassAux, ne, h2, h3]
theorem own_no {Z : State} {a0 : Array Value} {C S K : String} {n : Nat} (w : (Jvm.Cond.superclass C S).before a0 Z = true) (wk : (Jvm.Cond.instantiable K n).before a0 Z = true) (ns : NS Z C K) (hn : C ≠ K) : ∃ c t, Z.vm.findClass C = some c ∧ Z.vm.findClass K = some t ∧ Z.vm.assignable c t = false := by
  obtain ⟨c, t, h0, g0, n3⟩ := ns
  obtain ⟨p, k, kp, h1, h2, h3, h4, h5, -, h7⟩ := Cond.superclass_spec h0 w
  obtain ⟨q, k', g1, g2, g3, g4, -⟩ := Cond.instantiable_spec wk
  cases g0.symm.trans g1
  have ne := ids_ne h0 g0 hn
  have g5 := (Bool.or_eq_false_iff.mp g4).1
  refine ⟨c, t, h0, g0, ?_⟩
  show Z.vm.assignableAux (255 + 1) c t = false
  simp [Vm.assignableAux, ne, h2, g2, h5, g3, g5, Vm.isSubclass, n3]
def own_eq (xs ys : List Int32) : Int32 := if xs = ys then 1 else 0
theorem own_eq01 {xs ys : List Int32} (h : ¬ own_eq xs ys = 0) : own_eq xs ys = 1 := by
  by_cases q : xs = ys
  · rw [own_eq, if_pos q]
  · exact absurd (by rw [own_eq, if_neg q]) h
theorem own_leninj {n k : Nat} (hn : n < 2 ^ 31) (hk : k < 2 ^ 31) (h : Int32.ofNat n = Int32.ofNat k) : n = k := by
  have e := congrArg Int32.toInt h
  rw [own_ofN hn, own_ofN hk] at e
  omega
theorem own_nlt (n : Nat) : ¬ (Int32.ofNat n < Int32.ofNat n) := by rw [Int32.lt_iff_toInt_lt]; omega
theorem own_ltN {i n : Nat} (h : i < n) (hn : n < 2 ^ 31) : Int32.ofNat i < Int32.ofNat n := by rw [Int32.lt_iff_toInt_lt, own_ofN (by omega), own_ofN hn]; omega
theorem own_lists {xs ys : List Int32} (hl : xs.length = ys.length) (h : ∀ j, j < xs.length → xs.getD j 0 = ys.getD j 0) : xs = ys := by
  apply List.ext_getElem hl
  intro i h1 h2
  have q := h i h1
  simpa [List.getD_eq_getElem?_getD, h1, h2] using q
def OStr (Z : State) (h : Heap) (a p : Addr) (xs : List Int32) : Prop := Exa Z h a "java/lang/String" ∧ Fld Z h a "java/lang/String" "coder" "B" (.int 0) ∧ Fld Z h a "java/lang/String" "value" "[B" (.ref p) ∧ OFun Z h p .byte xs.length (fun j => .int (xs.getD j 0))
theorem OStr.ext {Z : State} {h h' : Heap} {a p : Addr} {xs : List Int32} (F : OStr Z h a p xs) (E : Ext h h') : OStr Z h' a p xs := ⟨F.1.ext E, F.2.1.ext E, F.2.2.1.ext E, F.2.2.2.ext E⟩
theorem own_samestr {Z : State} {h : Heap} {a b p q : Addr} {xs ys : List Int32} (F : OStr Z h a p xs) (G : OStr Z h b q ys) (e : a = b) : xs = ys := by
  subst e
  have e1 : p = q := Classical.byContradiction fun ne => Fld.ne F.2.2.1 G.2.2.1 (fun r => ne (Value.ref.inj r)) rfl
  subst e1
  obtain ⟨c1, A1, s1, g1⟩ := F.2.2.2
  obtain ⟨c2, A2, s2, g2⟩ := G.2.2.2
  cases A1.1.symm.trans A2.1
  have hl : xs.length = ys.length := s1.symm.trans s2
  exact own_lists hl fun j hj => Value.int.inj (Option.some.inj ((g1 j hj).symm.trans (g2 j (hl ▸ hj))))
theorem own_of_arv {Z : State} {h : Heap} {b : Addr} {k : ClassId} {z : Int32} {xs : List Int32} (F : Arv Z h b k .byte z (xs.map Value.int) (.int 0)) (hz : z.toNatClampNeg = xs.length) : OFun Z h b .byte xs.length (fun j => .int (xs.getD j 0)) := by
  obtain ⟨c, A, -, s, -, H, -⟩ := F
  refine ⟨c, A, s.trans hz, fun j hj => (H j (by rw [s, hz]; exact hj)).trans (congrArg some ?_)⟩
  simp [List.getD_eq_getElem?_getD, hj]
def own_len (x : Int32) : Int32 := (((x.toUInt32 >>> ((16 : Int32) &&& 31).toUInt32).toInt32) &&& (3 : Int32)) % (3 : Int32)
def own_b1 (x : Int32) : Int32 := ((x.toUInt32 >>> ((8 : Int32) &&& 31).toUInt32).toInt32) &&& (255 : Int32)
def own_same2 (x y : Int32) : Int32 := if own_len x < 2 then 1 else if own_b1 x = own_b1 y then 1 else 0
def own_same (x y : Int32) : Int32 := if own_len x = own_len y then (if own_len x < 1 then own_same2 x y else if x &&& (255 : Int32) = y &&& (255 : Int32) then own_same2 x y else 0) else 0
def own_two (x y : Int32) : Nat → Value := fun j => .int (([x, y] : List Int32).getD j 0)
def own_one (x : Int32) : Nat → Value := fun j => .int (([x] : List Int32).getD j 0)
def own_oe (q1 q2 : Int32) (xs us ys vs : List Int32) : Int32 := if q1 = q2 then (if own_eq xs us = 0 then 0 else if own_eq ys vs = 0 then 0 else 1) else 0
def OOr (Z : State) (h : Heap) (a t1 t2 : Addr) (q : Int32) : Prop := Exa Z h a "com/example/originlint/originlint/Origin" ∧ Fld Z h a "com/example/originlint/originlint/Origin" "scheme" "Ljava/lang/String;" (.ref t1) ∧ Fld Z h a "com/example/originlint/originlint/Origin" "host" "Ljava/lang/String;" (.ref t2) ∧ Fld Z h a "com/example/originlint/originlint/Origin" "port" "I" (.int q)
theorem OOr.ext {Z : State} {h h' : Heap} {a t1 t2 : Addr} {q : Int32} (F : OOr Z h a t1 t2 q) (E : Ext h h') : OOr Z h' a t1 t2 q := ⟨F.1.ext E, F.2.1.ext E, F.2.2.1.ext E, F.2.2.2.ext E⟩
abbrev own_EL : List (String × Nat) := [("java/lang/String", 7)]
def own_str (x : Int32) : List Int32 := if own_len x = 0 then [] else if own_len x = 1 then [(x &&& (255 : Int32)).toInt8.toInt32] else [(x &&& (255 : Int32)).toInt8.toInt32, (own_b1 x).toInt8.toInt32]
theorem own_strlen (x : Int32) : (own_str x).length < 2 ^ 31 := by
  unfold own_str
  split
  · exact (by decide : 0 < 2 ^ 31)
  · split
    · exact (by decide : 1 < 2 ^ 31)
    · exact (by decide : 2 < 2 ^ 31)
set_option maxRecDepth 100000 in
theorem own_atoms : ∀ w ∈ Bundle.stringAtoms, w ∈ tables_1 := by
  intro w hw
  simp only [Bundle.stringAtoms, List.mem_cons, List.not_mem_nil, or_false] at hw
  rcases hw with rfl | rfl | rfl | rfl | rfl | rfl | rfl
  · exact List.mem_of_getElem? (i := 12) rfl
  · exact List.mem_of_getElem? (i := 11) rfl
  · exact List.mem_of_getElem? (i := 25) rfl
  · exact List.mem_of_getElem? (i := 26) rfl
  · exact List.mem_of_getElem? (i := 27) rfl
  · exact List.mem_of_getElem? (i := 28) rfl
  · exact List.mem_of_getElem? (i := 29) rfl
theorem own_safe {Z : State} {EL : List (String × Nat)} {vm : Vm} {h : Heap} {x : Addr} (hal : Z.vm.Alike vm) (E : Exa Z h x "java/lang/String") (F : Fld Z h x "java/lang/String" "value" "[B" .null) : Safe Z EL vm h x := fun B => by
  obtain ⟨p, -, u, a, -, q, -, Fq, hy⟩ := B
  obtain ⟨cS, ⟨⟨s1, s2, s3, ⟨cv, kv, iv, s4, s4'⟩, s5, s6, s7, s8, s9, s10, s11⟩, hfS⟩, hk, hB, hbyt⟩ := Fq
  rcases hy with rfl | rfl
  · obtain ⟨kv', z4⟩ := ff_back (U := Wst Z vm h) hal s4
    obtain ⟨cell, cf, k, i, f, f1, f2, -, -, -, -, f7⟩ := F
    have e1 : cell = q.sC := Option.some.inj (f1.symm.trans s1)
    subst e1
    have e2 := f2.symm.trans z4
    simp only [Option.some.injEq, Prod.mk.injEq] at e2
    rw [e2.2.2.2, s8] at f7
    cases f7
  · obtain ⟨cell, k, e1, e2, -⟩ := E
    have e3 : cell = q.SA := Option.some.inj (e1.symm.trans s10)
    subst e3
    have hBZ : Z.vm.findClass "[B" = some q.SA.cls := by rw [← hal.findClass]; exact hB
    exact ids_ne e2 hBZ (by decide) rfl
theorem own_fin : ∀ k : Fin 256, (¬ (255 : Int32) < Int32.ofNat k.1) ∧ nar .byte ((Int32.ofNat k.1).toInt8.toInt32) = (Int32.ofNat k.1).toInt8.toInt32 ∧ nar .char (Int32.ofNat k.1) = Int32.ofNat k.1 ∧ ((Int32.ofNat k.1).toUInt32.toUInt16.toUInt32.toInt32) = Int32.ofNat k.1 ∧ (Int32.ofNat k.1).toInt8.toInt32 &&& (255 : Int32) = Int32.ofNat k.1 := by decide +kernel
theorem own_msk (x : Int32) : ∃ k : Fin 256, x &&& (255 : Int32) = Int32.ofNat k.1 := by
  have e := Jvm.Kit.i32_mask x 255 (k := 8) (by decide) (by decide)
  have h1 : 0 ≤ (x &&& (255 : Int32)).toInt ∧ (x &&& (255 : Int32)).toInt < 256 := by rw [e]; omega
  refine ⟨⟨(x &&& (255 : Int32)).toInt.toNat, by omega⟩, Int32.toInt_inj.mp ?_⟩
  rw [own_ofN (by show (x &&& (255 : Int32)).toInt.toNat < 2 ^ 31; omega)]
  show _ = (((x &&& (255 : Int32)).toInt.toNat : Nat) : Int)
  omega
theorem own_chr {x c : Int32} (h : c = ((x &&& (255 : Int32)).toUInt32.toUInt16.toUInt32.toInt32)) : c = x &&& (255 : Int32) ∧ (¬ (255 : Int32) < x &&& (255 : Int32)) ∧ nar .byte ((x &&& (255 : Int32)).toInt8.toInt32) = (x &&& (255 : Int32)).toInt8.toInt32 ∧ nar .char (x &&& (255 : Int32)) = x &&& (255 : Int32) := by
  obtain ⟨k, e⟩ := own_msk x
  obtain ⟨h1, h2, h3, h4, -⟩ := own_fin k
  rw [e] at h ⊢
  exact ⟨h.trans h4, h1, h2, h3⟩
theorem own_chr0 {x c : Int32} (h : c = ((x &&& (255 : Int32)).toUInt32.toUInt16.toUInt32.toInt32)) : c = x &&& (255 : Int32) ∧ (¬ (255 : Int32) < x &&& (255 : Int32)) ∧ nar .byte ((x &&& (255 : Int32)).toInt8.toInt32) = (x &&& (255 : Int32)).toInt8.toInt32 ∧ nar .char (x &&& (255 : Int32)) = x &&& (255 : Int32) := own_chr h
theorem own_chr1 {x c : Int32} (h : c = ((((x.toUInt32 >>> ((8 : Int32) &&& 31).toUInt32).toInt32) &&& (255 : Int32)).toUInt32.toUInt16.toUInt32.toInt32)) : c = own_b1 x ∧ (¬ (255 : Int32) < own_b1 x) ∧ nar .byte ((own_b1 x).toInt8.toInt32) = (own_b1 x).toInt8.toInt32 ∧ nar .char (own_b1 x) = own_b1 x := own_chr h
theorem own_inj {x y : Int32} (h : (x &&& (255 : Int32)).toInt8.toInt32 = (y &&& (255 : Int32)).toInt8.toInt32) : x &&& (255 : Int32) = y &&& (255 : Int32) := by
  obtain ⟨k, e⟩ := own_msk x
  obtain ⟨j, f⟩ := own_msk y
  have h1 := (own_fin k).2.2.2.2
  have h2 := (own_fin j).2.2.2.2
  rw [e, f] at h ⊢
  rw [← h1, ← h2, h]
theorem own_len3 (x : Int32) : own_len x = 0 ∨ own_len x = 1 ∨ own_len x = 2 := by
  unfold own_len
  have m := Jvm.Kit.i32_mask ((x.toUInt32 >>> ((16 : Int32) &&& 31).toUInt32).toInt32) 3 (k := 2) (by decide) (by decide)
  generalize hz : (x.toUInt32 >>> ((16 : Int32) &&& 31).toUInt32).toInt32 &&& (3 : Int32) = z at m ⊢
  have h0 : 0 ≤ z.toInt := by rw [m]; omega
  have e : (z % (3 : Int32)).toInt = z.toInt % (3 : Int32).toInt := by rw [Jvm.Kit.i32_rem_nonneg h0]
  have e3 : (3 : Int32).toInt = 3 := rfl
  rw [e3] at e
  have r : (z % (3 : Int32)).toInt = 0 ∨ (z % (3 : Int32)).toInt = 1 ∨ (z % (3 : Int32)).toInt = 2 := by omega
  rcases r with r | r | r
  · exact Or.inl (Int32.toInt_inj.mp r)
  · exact Or.inr (Or.inl (Int32.toInt_inj.mp r))
  · exact Or.inr (Or.inr (Int32.toInt_inj.mp r))
theorem own_same_eq (x y : Int32) : own_same x y = own_eq (own_str x) (own_str y) := by
  have ix : ∀ p q : Int32, (own_b1 p).toInt8.toInt32 = (own_b1 q).toInt8.toInt32 → own_b1 p = own_b1 q := fun p q h => own_inj h
  have d01 : ¬ (0 : Int32) = 1 := by decide
  have d02 : ¬ (0 : Int32) = 2 := by decide
  have d10 : ¬ (1 : Int32) = 0 := by decide
  have d12 : ¬ (1 : Int32) = 2 := by decide
  have d20 : ¬ (2 : Int32) = 0 := by decide
  have d21 : ¬ (2 : Int32) = 1 := by decide
  have l01 : (0 : Int32) < 1 := by decide
  have l02 : (0 : Int32) < 2 := by decide
  have l12 : (1 : Int32) < 2 := by decide
  have l11 : ¬ (1 : Int32) < 1 := by decide
  have l21 : ¬ (2 : Int32) < 1 := by decide
  have l22 : ¬ (2 : Int32) < 2 := by decide
  rcases own_len3 x with hx | hx | hx <;> rcases own_len3 y with hy | hy | hy <;> simp only [own_same, own_same2, own_eq, own_str, hx, hy, d01, d02, d10, d12, d20, d21, l01, l02, l12, l11, l21, l22, if_true, if_false]
  · simp
  · simp
  · simp
  · by_cases q : x &&& (255 : Int32) = y &&& (255 : Int32)
    · simp [q]
    · rw [if_neg q, if_neg (fun r => q (own_inj (List.cons.inj r).1))]
  · simp
  · simp
  · simp
  · by_cases q : x &&& (255 : Int32) = y &&& (255 : Int32)
    · rw [if_pos q, q]
      by_cases r : own_b1 x = own_b1 y
      · simp [r]
      · rw [if_neg r, if_neg (fun z => r (ix _ _ (List.cons.inj (List.cons.inj z).2).1))]
    · rw [if_neg q, if_neg (fun r => q (own_inj (List.cons.inj r).1))]
theorem OOr.keep {Z : State} {h h' : Heap} {a t1 t2 : Addr} {q : Int32} {ws : List Addr} (F : OOr Z h a t1 t2 q) (K : Keep h h' ws) (n : a ∉ ws) : OOr Z h' a t1 t2 q := ⟨F.1.keep K, F.2.1.keep K n, F.2.2.1.keep K n, F.2.2.2.keep K n⟩
theorem OStr.keep {Z : State} {h h' : Heap} {a p : Addr} {xs : List Int32} {ws : List Addr} (F : OStr Z h a p xs) (K : Keep h h' ws) (n : a ∉ ws) (n2 : p ∉ ws) : OStr Z h' a p xs := ⟨F.1.keep K, F.2.1.keep K n, F.2.2.1.keep K n, F.2.2.2.keep K n2⟩
theorem own_ne_es {Z : State} {h : Heap} {a b : Addr} (E : Exa Z h a "java/lang/String") (G : Exa Z h b "com/example/originlint/originlint/Origin") : a ≠ b := fun e => by
  subst e
  obtain ⟨c1, _, e1, e2, -⟩ := E
  obtain ⟨c2, _, g1, g2, -⟩ := G
  cases e1.symm.trans g1
  exact ids_ne e2 g2 (by decide) rfl
theorem own_ne_ea {Z : State} {h : Heap} {a b : Addr} {n j : Nat} {f : Nat → Value} {a0 : Array Value} (wi : (Jvm.Cond.instantiable "com/example/originlint/originlint/Origin" j).before a0 Z = true) (F : OFun Z h a .byte n f) (G : Exa Z h b "com/example/originlint/originlint/Origin") : a ≠ b := fun e => by
  subst e
  obtain ⟨c1, A, -⟩ := F
  obtain ⟨c2, k2, g1, g2, g3, -⟩ := G
  cases A.1.symm.trans g1
  obtain ⟨-, k, hk, comp, hkind⟩ := A.2.1
  cases hk.symm.trans g3
  obtain ⟨c3, k3, w1, w2, w3, -⟩ := Cond.instantiable_spec wi
  cases g2.symm.trans w1
  cases g3.symm.trans w2
  rw [w3] at hkind
  cases hkind

def Q_leq (Z : State) (a1 : Addr) (b1 : Addr) (xs ys : List Int32) (h0 : Heap) (n0 : Nat) (v : Option Value) (h : Heap) (L : List Loc) : Prop := v = some (.int (own_eq xs ys)) ∧ Fr n0 L ∧ h = h0
set_option maxRecDepth 65536 in
set_option maxHeartbeats 40000000 in
theorem rm_leq (l : Launch) (Z : State) (a0 : Array Value) (hw : ∀ d ∈ tables_1, d.before a0 Z = true) (ws : List Jvm.Cond) (a1 : Addr) (b1 : Addr) (xs ys : List Int32) (h0 : Heap) (n0 : Nat) (F1 : OFun Z h0 a1 .byte xs.length (fun j => .int (xs.getD j 0))) (F2 : OFun Z h0 b1 .byte ys.length (fun j => .int (ys.getD j 0))) (lx : xs.length < 2 ^ 31) (ly : ys.length < 2 ^ 31) :
    MetFree l (⟨"java/lang/StringLatin1", "equals", "([B[B)Z"⟩ : MethodName) (head1 (Jvm.Cond.code (⟨"java/lang/StringLatin1", "equals", "([B[B)Z"⟩ : MethodName) jdk_43_method_13_code 3 (some .boolean) :: ws) ({ frames := 0, cells := 0, slots := 0, locals := 0 } : Room)) (fun a U => a = #[(.ref a1), (.ref b1)] ∧ Z.Warmed39 U.vm ∧ U.heap = h0) (fun _ _ _ _ _ => True) (fun _ U o U' => ∃ v L, o = .returned v ∧ Q_leq Z a1 b1 xs ys h0 n0 v U'.heap L ∧ FrameEnd U o U' L ({ frames := 0, cells := 0, slots := 0, locals := 0 } : Room).cells ({ frames := 0, cells := 0, slots := 0, locals := 0 } : Room).slots) := by
  refine MetFree.of_bodySF (plainFor_of_name pn_java_lang_StringLatin1) hisR ?_
  intro p e s m args below meth c s₁ Bd hml0 hP hK
  obtain ⟨rfl, hZ, hh⟩ := hP
  have hx := Bd.exec
  have hby := Bd.bytes
  have hml : c.maxLocals = 3 := hml0
  have hown : s.vm.findClass "java/lang/StringLatin1" = some m.cls := findClass_of_methodNamed Bd.named
  have hnm := (name_of_methodNamed Bd.named Bd.method).1
  have X0 : Stand p l e ({ frames := 0, cells := 0, slots := 0, locals := 0 } : Room) s m #[(.ref a1), (.ref b1)] below meth c s₁ [] 0 0 := Stand.of_body Bd
  have e0 : s₁.heap = h0 := by rw [← hh, Bd.state]; rfl
  have N0 := Fr.nil n0
  obtain ⟨S0, hS0⟩ : ∃ S0, S0 = s₁.setTop (entryFrame m #[(.ref a1), (.ref b1)] 3) := ⟨_, rfl⟩
  have pre : Pth p e below S0 s₁ (mkF m 0 #[.val (.ref a1), .val (.ref b1), .unset] []) := fun t k => by rw [hS0]; exact castTop (ef_leq m a1 b1) k
  replace pre : Pth p e below S0 s₁ (mkF m 1 #[.val (.ref a1), .val (.ref b1), .unset] [(.ref a1)]) := fun t k => pre t (by
    show Steps p.tables e below (s₁.setTop (mkF m 0 #[.val (.ref a1), .val (.ref b1), .unset] [])) t
    refine XS.aloadN X0.here hx rfl (hb hby d_leq_0) rfl rfl ?_
    show Steps p.tables e below (s₁.setTop (mkF m 1 #[.val (.ref a1), .val (.ref b1), .unset] [(.ref a1)])) t
    exact k)
  obtain ⟨cl1, Ar1, Sz1, -⟩ := id F1
  have hln1 : cl1.slots.size.toInt32 = (Int32.ofNat xs.length) := (congrArg Nat.toInt32 Sz1).trans (rfl)
  replace pre : Pth p e below S0 s₁ (mkF m 3 #[.val (.ref a1), .val (.ref b1), .unset] [(.ref b1), (.int (Int32.ofNat xs.length))]) := fun t k => pre t (by
    show Steps p.tables e below (s₁.setTop (mkF m 1 #[.val (.ref a1), .val (.ref b1), .unset] [(.ref a1)])) t
    refine X0.arraylength hx (by rw [e0]; exact Ar1.1) (State.isArrayOf_alike hZ.alike Ar1.2.1) (g := (mkF m 1 #[.val (.ref a1), .val (.ref b1), .unset] [(.ref a1)])) rfl rfl (hb hby d_leq_1) _ ?_
    rw [hln1]
    show Steps p.tables e below (s₁.setTop (mkF m 2 #[.val (.ref a1), .val (.ref b1), .unset] [(.int (Int32.ofNat xs.length))])) t
    refine XS.aloadN X0.here hx rfl (hb hby d_leq_2) rfl rfl ?_
    show Steps p.tables e below (s₁.setTop (mkF m 3 #[.val (.ref a1), .val (.ref b1), .unset] [(.ref b1), (.int (Int32.ofNat xs.length))])) t
    exact k)
  obtain ⟨cl2, Ar2, Sz2, -⟩ := id F2
  have hln2 : cl2.slots.size.toInt32 = (Int32.ofNat ys.length) := (congrArg Nat.toInt32 Sz2).trans (rfl)
  replace pre : Pth p e below S0 s₁ (mkF m 4 #[.val (.ref a1), .val (.ref b1), .unset] [(.int (Int32.ofNat ys.length)), (.int (Int32.ofNat xs.length))]) := fun t k => pre t (by
    show Steps p.tables e below (s₁.setTop (mkF m 3 #[.val (.ref a1), .val (.ref b1), .unset] [(.ref b1), (.int (Int32.ofNat xs.length))])) t
    refine X0.arraylength hx (by rw [e0]; exact Ar2.1) (State.isArrayOf_alike hZ.alike Ar2.2.1) (g := (mkF m 3 #[.val (.ref a1), .val (.ref b1), .unset] [(.ref b1), (.int (Int32.ofNat xs.length))])) rfl rfl (hb hby d_leq_3) _ ?_
    rw [hln2]
    show Steps p.tables e below (s₁.setTop (mkF m 4 #[.val (.ref a1), .val (.ref b1), .unset] [(.int (Int32.ofNat ys.length)), (.int (Int32.ofNat xs.length))])) t
    exact k)
  by_cases z0 : (Int32.ofNat xs.length) = (Int32.ofNat ys.length)
  · replace pre : Pth p e below S0 s₁ (mkF m 9 #[.val (.ref a1), .val (.ref b1), .val (.int (0 : Int32))] []) := fun t k => pre t (by
      show Steps p.tables e below (s₁.setTop (mkF m 4 #[.val (.ref a1), .val (.ref b1), .unset] [(.int (Int32.ofNat ys.length)), (.int (Int32.ofNat xs.length))])) t
      refine XS.icmpNo X0.here hx rfl (hb hby d_leq_4) rfl (XT.ii_ne_f z0) ?_
      show Steps p.tables e below (s₁.setTop (mkF m 7 #[.val (.ref a1), .val (.ref b1), .unset] [])) t
      refine XS.iconst X0.here hx rfl (hb hby d_leq_7) ?_
      show Steps p.tables e below (s₁.setTop (mkF m 8 #[.val (.ref a1), .val (.ref b1), .unset] [(.int (0 : Int32))])) t
      refine XS.istoreN X0.here hx rfl (hb hby d_leq_8) rfl (l' := #[.val (.ref a1), .val (.ref b1), .val (.int (0 : Int32))]) rfl ?_
      show Steps p.tables e below (s₁.setTop (mkF m 9 #[.val (.ref a1), .val (.ref b1), .val (.int (0 : Int32))] [])) t
      exact k)
    have hl : xs.length = ys.length := own_leninj lx ly z0
    have loop : ∀ (k i : Nat), i + k = xs.length → (∀ j, j < i → xs.getD j 0 = ys.getD j 0) → Pth p e below S0 s₁ (mkF m 9 #[.val (.ref a1), .val (.ref b1), .val (.int (Int32.ofNat i))] []) → (xs = ys ∧ Pth p e below S0 s₁ (mkF m 33 #[.val (.ref a1), .val (.ref b1), .val (.int (Int32.ofNat xs.length))] [(.int (1 : Int32))])) ∨ (xs ≠ ys ∧ ∃ i : Nat, Pth p e below S0 s₁ (mkF m 25 #[.val (.ref a1), .val (.ref b1), .val (.int (Int32.ofNat i))] [(.int (0 : Int32))])) := by
      intro k
      induction k with
      | zero =>
        intro i hk hj pre
        obtain rfl : i = xs.length := by omega
        replace pre : Pth p e below S0 s₁ (mkF m 11 #[.val (.ref a1), .val (.ref b1), .val (.int (Int32.ofNat xs.length))] [(.ref a1), (.int (Int32.ofNat xs.length))]) := fun t k => pre t (by
          show Steps p.tables e below (s₁.setTop (mkF m 9 #[.val (.ref a1), .val (.ref b1), .val (.int (Int32.ofNat xs.length))] [])) t
          refine XS.iloadN X0.here hx rfl (hb hby d_leq_9) rfl ?_
          show Steps p.tables e below (s₁.setTop (mkF m 10 #[.val (.ref a1), .val (.ref b1), .val (.int (Int32.ofNat xs.length))] [(.int (Int32.ofNat xs.length))])) t
          refine XS.aloadN X0.here hx rfl (hb hby d_leq_10) rfl rfl ?_
          show Steps p.tables e below (s₁.setTop (mkF m 11 #[.val (.ref a1), .val (.ref b1), .val (.int (Int32.ofNat xs.length))] [(.ref a1), (.int (Int32.ofNat xs.length))])) t
          exact k)
        obtain ⟨cl3, Ar3, Sz3, -⟩ := id F1
        have hln3 : cl3.slots.size.toInt32 = (Int32.ofNat xs.length) := (congrArg Nat.toInt32 Sz3).trans (rfl)
        replace pre : Pth p e below S0 s₁ (mkF m 33 #[.val (.ref a1), .val (.ref b1), .val (.int (Int32.ofNat xs.length))] [(.int (1 : Int32))]) := fun t k => pre t (by
          show Steps p.tables e below (s₁.setTop (mkF m 11 #[.val (.ref a1), .val (.ref b1), .val (.int (Int32.ofNat xs.length))] [(.ref a1), (.int (Int32.ofNat xs.length))])) t
          refine X0.arraylength hx (by rw [e0]; exact Ar3.1) (State.isArrayOf_alike hZ.alike Ar3.2.1) (g := (mkF m 11 #[.val (.ref a1), .val (.ref b1), .val (.int (Int32.ofNat xs.length))] [(.ref a1), (.int (Int32.ofNat xs.length))])) rfl rfl (hb hby d_leq_11) _ ?_
          rw [hln3]
          show Steps p.tables e below (s₁.setTop (mkF m 12 #[.val (.ref a1), .val (.ref b1), .val (.int (Int32.ofNat xs.length))] [(.int (Int32.ofNat xs.length)), (.int (Int32.ofNat xs.length))])) t
          refine XS.icmpYes X0.here hx rfl (pc0 := 12) (pc' := 32) rfl (hb hby d_leq_12) rfl (XT.ii_ge_t (own_nlt _)) (by decide) (by decide) ?_
          show Steps p.tables e below (s₁.setTop (mkF m 32 #[.val (.ref a1), .val (.ref b1), .val (.int (Int32.ofNat xs.length))] [])) t
          refine XS.iconst X0.here hx rfl (hb hby d_leq_32) ?_
          show Steps p.tables e below (s₁.setTop (mkF m 33 #[.val (.ref a1), .val (.ref b1), .val (.int (Int32.ofNat xs.length))] [(.int (1 : Int32))])) t
          exact k)
        exact Or.inl ⟨own_lists hl hj, pre⟩
      | succ k ih =>
        intro i hk hj pre
        have hi : i < xs.length := by omega
        have hi2 : i < ys.length := by omega
        have h31 : (Int32.ofNat i).toInt = i := own_ofN (by omega)
        replace pre : Pth p e below S0 s₁ (mkF m 11 #[.val (.ref a1), .val (.ref b1), .val (.int (Int32.ofNat i))] [(.ref a1), (.int (Int32.ofNat i))]) := fun t k => pre t (by
          show Steps p.tables e below (s₁.setTop (mkF m 9 #[.val (.ref a1), .val (.ref b1), .val (.int (Int32.ofNat i))] [])) t
          refine XS.iloadN X0.here hx rfl (hb hby d_leq_9) rfl ?_
          show Steps p.tables e below (s₁.setTop (mkF m 10 #[.val (.ref a1), .val (.ref b1), .val (.int (Int32.ofNat i))] [(.int (Int32.ofNat i))])) t
          refine XS.aloadN X0.here hx rfl (hb hby d_leq_10) rfl rfl ?_
          show Steps p.tables e below (s₁.setTop (mkF m 11 #[.val (.ref a1), .val (.ref b1), .val (.int (Int32.ofNat i))] [(.ref a1), (.int (Int32.ofNat i))])) t
          exact k)
        obtain ⟨cl4, Ar4, Sz4, -⟩ := id F1
        have hln4 : cl4.slots.size.toInt32 = (Int32.ofNat xs.length) := (congrArg Nat.toInt32 Sz4).trans (rfl)
        replace pre : Pth p e below S0 s₁ (mkF m 17 #[.val (.ref a1), .val (.ref b1), .val (.int (Int32.ofNat i))] [(.int (Int32.ofNat i)), (.ref a1)]) := fun t k => pre t (by
          show Steps p.tables e below (s₁.setTop (mkF m 11 #[.val (.ref a1), .val (.ref b1), .val (.int (Int32.ofNat i))] [(.ref a1), (.int (Int32.ofNat i))])) t
          refine X0.arraylength hx (by rw [e0]; exact Ar4.1) (State.isArrayOf_alike hZ.alike Ar4.2.1) (g := (mkF m 11 #[.val (.ref a1), .val (.ref b1), .val (.int (Int32.ofNat i))] [(.ref a1), (.int (Int32.ofNat i))])) rfl rfl (hb hby d_leq_11) _ ?_
          rw [hln4]
          show Steps p.tables e below (s₁.setTop (mkF m 12 #[.val (.ref a1), .val (.ref b1), .val (.int (Int32.ofNat i))] [(.int (Int32.ofNat xs.length)), (.int (Int32.ofNat i))])) t
          refine XS.icmpNo X0.here hx rfl (hb hby d_leq_12) rfl (XT.ii_ge_f (own_ltN hi lx)) ?_
          show Steps p.tables e below (s₁.setTop (mkF m 15 #[.val (.ref a1), .val (.ref b1), .val (.int (Int32.ofNat i))] [])) t
          refine XS.aloadN X0.here hx rfl (hb hby d_leq_15) rfl rfl ?_
          show Steps p.tables e below (s₁.setTop (mkF m 16 #[.val (.ref a1), .val (.ref b1), .val (.int (Int32.ofNat i))] [(.ref a1)])) t
          refine XS.iloadN X0.here hx rfl (hb hby d_leq_16) rfl ?_
          show Steps p.tables e below (s₁.setTop (mkF m 17 #[.val (.ref a1), .val (.ref b1), .val (.int (Int32.ofNat i))] [(.int (Int32.ofNat i)), (.ref a1)])) t
          exact k)
        obtain ⟨cl5, Ar5, Sz5, Gt5⟩ := id F1
        have hin5 : ¬ ((Int32.ofNat i) < 0 ∨ cl5.slots.size ≤ ((Int32.ofNat i)).toNatClampNeg) := by rw [Sz5]; exact (own_in h31 hi)
        have hat5 : cl5.slots[((Int32.ofNat i)).toNatClampNeg]? = some (.int (xs.getD i 0)) := (Gt5 _ (Nat.lt_of_lt_of_eq (Nat.lt_of_not_le fun q => hin5 (Or.inr q)) Sz5)).trans (congrArg some (congrArg (fun q => Value.int (xs.getD q 0)) (own_cl h31)))
        replace pre : Pth p e below S0 s₁ (mkF m 20 #[.val (.ref a1), .val (.ref b1), .val (.int (Int32.ofNat i))] [(.int (Int32.ofNat i)), (.ref b1), (.int (xs.getD i 0))]) := fun t k => pre t (by
          show Steps p.tables e below (s₁.setTop (mkF m 17 #[.val (.ref a1), .val (.ref b1), .val (.int (Int32.ofNat i))] [(.int (Int32.ofNat i)), (.ref a1)])) t
          refine X0.baloadBytes hx (j := (Int32.ofNat i)) (v := (.int (xs.getD i 0))) (by rw [e0]; exact Ar5.1) (State.isArrayOf_alike hZ.alike Ar5.2.1) Ar5.2.2 hin5 hat5 (g := (mkF m 17 #[.val (.ref a1), .val (.ref b1), .val (.int (Int32.ofNat i))] [(.int (Int32.ofNat i)), (.ref a1)])) rfl rfl (hb hby d_leq_17) _ ?_
          show Steps p.tables e below (s₁.setTop (mkF m 18 #[.val (.ref a1), .val (.ref b1), .val (.int (Int32.ofNat i))] [(.int (xs.getD i 0))])) t
          refine XS.aloadN X0.here hx rfl (hb hby d_leq_18) rfl rfl ?_
          show Steps p.tables e below (s₁.setTop (mkF m 19 #[.val (.ref a1), .val (.ref b1), .val (.int (Int32.ofNat i))] [(.ref b1), (.int (xs.getD i 0))])) t
          refine XS.iloadN X0.here hx rfl (hb hby d_leq_19) rfl ?_
          show Steps p.tables e below (s₁.setTop (mkF m 20 #[.val (.ref a1), .val (.ref b1), .val (.int (Int32.ofNat i))] [(.int (Int32.ofNat i)), (.ref b1), (.int (xs.getD i 0))])) t
          exact k)
        obtain ⟨cl6, Ar6, Sz6, Gt6⟩ := id F2
        have hin6 : ¬ ((Int32.ofNat i) < 0 ∨ cl6.slots.size ≤ ((Int32.ofNat i)).toNatClampNeg) := by rw [Sz6]; exact (own_in h31 hi2)
        have hat6 : cl6.slots[((Int32.ofNat i)).toNatClampNeg]? = some (.int (ys.getD i 0)) := (Gt6 _ (Nat.lt_of_lt_of_eq (Nat.lt_of_not_le fun q => hin6 (Or.inr q)) Sz6)).trans (congrArg some (congrArg (fun q => Value.int (ys.getD q 0)) (own_cl h31)))
        replace pre : Pth p e below S0 s₁ (mkF m 21 #[.val (.ref a1), .val (.ref b1), .val (.int (Int32.ofNat i))] [(.int (ys.getD i 0)), (.int (xs.getD i 0))]) := fun t k => pre t (by
          show Steps p.tables e below (s₁.setTop (mkF m 20 #[.val (.ref a1), .val (.ref b1), .val (.int (Int32.ofNat i))] [(.int (Int32.ofNat i)), (.ref b1), (.int (xs.getD i 0))])) t
          refine X0.baloadBytes hx (j := (Int32.ofNat i)) (v := (.int (ys.getD i 0))) (by rw [e0]; exact Ar6.1) (State.isArrayOf_alike hZ.alike Ar6.2.1) Ar6.2.2 hin6 hat6 (g := (mkF m 20 #[.val (.ref a1), .val (.ref b1), .val (.int (Int32.ofNat i))] [(.int (Int32.ofNat i)), (.ref b1), (.int (xs.getD i 0))])) rfl rfl (hb hby d_leq_20) _ ?_
          show Steps p.tables e below (s₁.setTop (mkF m 21 #[.val (.ref a1), .val (.ref b1), .val (.int (Int32.ofNat i))] [(.int (ys.getD i 0)), (.int (xs.getD i 0))])) t
          exact k)
        by_cases z1 : (xs.getD i 0) = (ys.getD i 0)
        · replace pre : Pth p e below S0 s₁ (mkF m 9 #[.val (.ref a1), .val (.ref b1), .val (.int ((Int32.ofNat i) + (1 : Int32)))] []) := fun t k => pre t (by
            show Steps p.tables e below (s₁.setTop (mkF m 21 #[.val (.ref a1), .val (.ref b1), .val (.int (Int32.ofNat i))] [(.int (ys.getD i 0)), (.int (xs.getD i 0))])) t
            refine XS.icmpYes X0.here hx rfl (pc0 := 21) (pc' := 26) rfl (hb hby d_leq_21) rfl (XT.ii_eq_t z1) (by decide) (by decide) ?_
            show Steps p.tables e below (s₁.setTop (mkF m 26 #[.val (.ref a1), .val (.ref b1), .val (.int (Int32.ofNat i))] [])) t
            refine XS.iinc X0.here hx rfl (hb hby d_leq_26) rfl (l' := #[.val (.ref a1), .val (.ref b1), .val (.int ((Int32.ofNat i) + (1 : Int32)))]) rfl ?_
            show Steps p.tables e below (s₁.setTop (mkF m 29 #[.val (.ref a1), .val (.ref b1), .val (.int ((Int32.ofNat i) + (1 : Int32)))] [])) t
            refine XS.goto X0.here hx rfl (pc0 := 29) (pc' := 9) rfl (hb hby d_leq_29) (by decide) (by decide) ?_
            show Steps p.tables e below (s₁.setTop (mkF m 9 #[.val (.ref a1), .val (.ref b1), .val (.int ((Int32.ofNat i) + (1 : Int32)))] [])) t
            exact k)
          rw [← inc_ofNat] at pre
          exact ih (i + 1) (by omega) (fun j q => by by_cases r : j = i; (subst r; exact z1); exact hj j (by omega)) pre
        · replace pre : Pth p e below S0 s₁ (mkF m 25 #[.val (.ref a1), .val (.ref b1), .val (.int (Int32.ofNat i))] [(.int (0 : Int32))]) := fun t k => pre t (by
            show Steps p.tables e below (s₁.setTop (mkF m 21 #[.val (.ref a1), .val (.ref b1), .val (.int (Int32.ofNat i))] [(.int (ys.getD i 0)), (.int (xs.getD i 0))])) t
            refine XS.icmpNo X0.here hx rfl (hb hby d_leq_21) rfl (XT.ii_eq_f z1) ?_
            show Steps p.tables e below (s₁.setTop (mkF m 24 #[.val (.ref a1), .val (.ref b1), .val (.int (Int32.ofNat i))] [])) t
            refine XS.iconst X0.here hx rfl (hb hby d_leq_24) ?_
            show Steps p.tables e below (s₁.setTop (mkF m 25 #[.val (.ref a1), .val (.ref b1), .val (.int (Int32.ofNat i))] [(.int (0 : Int32))])) t
            exact k)
          exact Or.inr ⟨fun q => z1 (by rw [q]), i, pre⟩
    rcases loop xs.length 0 (by omega) (fun j q => absurd q (Nat.not_lt_zero j)) pre with ⟨hq, pre⟩ | ⟨hq, i, pre⟩
    · obtain ⟨fs, hr, hrun, hended, hW, hsame⟩ := X0.leave (v := some (.int (1 : Int32))) (fun h => by rw [Bd.returns] at h; cases h)
      subst hS0
      refine ⟨_, _, pre _ ?_, hrun, hended, _, _, rfl, ?_, ⟨_, rfl⟩, hW, hsame.mono (by decide) (by decide)⟩
      · exact retN X0 hx (t := .boolean) Bd.returns (by simp) (hb hby d_leq_33) hr
      · show Q_leq Z a1 b1 xs ys h0 n0 _ s₁.heap _
        rw [e0]
        exact ⟨by rw [own_eq, if_pos hq], N0, rfl⟩
    · obtain ⟨fs, hr, hrun, hended, hW, hsame⟩ := X0.leave (v := some (.int (0 : Int32))) (fun h => by rw [Bd.returns] at h; cases h)
      subst hS0
      refine ⟨_, _, pre _ ?_, hrun, hended, _, _, rfl, ?_, ⟨_, rfl⟩, hW, hsame.mono (by decide) (by decide)⟩
      · exact retN X0 hx (t := .boolean) Bd.returns (by simp) (hb hby d_leq_25) hr
      · show Q_leq Z a1 b1 xs ys h0 n0 _ s₁.heap _
        rw [e0]
        exact ⟨by rw [own_eq, if_neg hq], N0, rfl⟩
  · replace pre : Pth p e below S0 s₁ (mkF m 35 #[.val (.ref a1), .val (.ref b1), .unset] [(.int (0 : Int32))]) := fun t k => pre t (by
      show Steps p.tables e below (s₁.setTop (mkF m 4 #[.val (.ref a1), .val (.ref b1), .unset] [(.int (Int32.ofNat ys.length)), (.int (Int32.ofNat xs.length))])) t
      refine XS.icmpYes X0.here hx rfl (pc0 := 4) (pc' := 34) rfl (hb hby d_leq_4) rfl (XT.ii_ne_t z0) (by decide) (by decide) ?_
      show Steps p.tables e below (s₁.setTop (mkF m 34 #[.val (.ref a1), .val (.ref b1), .unset] [])) t
      refine XS.iconst X0.here hx rfl (hb hby d_leq_34) ?_
      show Steps p.tables e below (s₁.setTop (mkF m 35 #[.val (.ref a1), .val (.ref b1), .unset] [(.int (0 : Int32))])) t
      exact k)
    obtain ⟨fs, hr, hrun, hended, hW, hsame⟩ := X0.leave (v := some (.int (0 : Int32))) (fun h => by rw [Bd.returns] at h; cases h)
    subst hS0
    refine ⟨_, _, pre _ ?_, hrun, hended, _, _, rfl, ?_, ⟨_, rfl⟩, hW, hsame.mono (by decide) (by decide)⟩
    · exact retN X0 hx (t := .boolean) Bd.returns (by simp) (hb hby d_leq_35) hr
    · show Q_leq Z a1 b1 xs ys h0 n0 _ s₁.heap _
      rw [e0]
      exact ⟨by rw [own_eq, if_neg (fun q => z0 (by rw [q]))], N0, rfl⟩
def Q_seq (Z : State) (a1 : Addr) (b1 : Addr) (p1 p2 : Addr) (xs ys : List Int32) (cz : Int32) (h0 : Heap) (n0 : Nat) (v : Option Value) (h : Heap) (L : List Loc) : Prop := v = some (.int (own_eq xs ys)) ∧ Fr n0 L ∧ h = h0
set_option maxRecDepth 65536 in
set_option maxHeartbeats 40000000 in
theorem rm_seq (l : Launch) (Z : State) (a0 : Array Value) (hw : ∀ d ∈ tables_1, d.before a0 Z = true) (ws : List Jvm.Cond) (a1 : Addr) (b1 : Addr) (p1 p2 : Addr) (xs ys : List Int32) (cz : Int32) (h0 : Heap) (n0 : Nat) (SA : OStr Z h0 a1 p1 xs) (SB : OStr Z h0 b1 p2 ys) (lx : xs.length < 2 ^ 31) (ly : ys.length < 2 ^ 31) (Scs : Sta Z h0 "java/lang/String" "COMPACT_STRINGS" "Z" (.int cz)) (hcz : ¬ cz = 0) :
    MetFree l (⟨"java/lang/String", "equals", "(Ljava/lang/Object;)Z"⟩ : MethodName) (head1 (Jvm.Cond.code (⟨"java/lang/String", "equals", "(Ljava/lang/Object;)Z"⟩ : MethodName) jdk_42_method_66_code 3 (some .boolean) :: ws) ({ frames := 1, cells := 0, slots := 0, locals := 14 } : Room)) (fun a U => a = #[(.ref a1), (.ref b1)] ∧ Z.Warmed39 U.vm ∧ U.heap = h0) (fun _ _ _ _ _ => True) (fun _ U o U' => ∃ v L, o = .returned v ∧ Q_seq Z a1 b1 p1 p2 xs ys cz h0 n0 v U'.heap L ∧ FrameEnd U o U' L ({ frames := 1, cells := 0, slots := 0, locals := 14 } : Room).cells ({ frames := 1, cells := 0, slots := 0, locals := 14 } : Room).slots) := by
  refine MetFree.of_bodySF (plainFor_of_name pn_java_lang_String) hisR ?_
  intro p e s m args below meth c s₁ Bd hml0 hP hK
  obtain ⟨rfl, hZ, hh⟩ := hP
  have hx := Bd.exec
  have hby := Bd.bytes
  have hml : c.maxLocals = 3 := hml0
  have hown : s.vm.findClass "java/lang/String" = some m.cls := findClass_of_methodNamed Bd.named
  have hnm := (name_of_methodNamed Bd.named Bd.method).1
  have X0 : Stand p l e ({ frames := 1, cells := 0, slots := 0, locals := 14 } : Room) s m #[(.ref a1), (.ref b1)] below meth c s₁ [] 0 0 := Stand.of_body Bd
  have e0 : s₁.heap = h0 := by rw [← hh, Bd.state]; rfl
  have N0 := Fr.nil n0
  obtain ⟨S0, hS0⟩ : ∃ S0, S0 = s₁.setTop (entryFrame m #[(.ref a1), (.ref b1)] 3) := ⟨_, rfl⟩
  have pre : Pth p e below S0 s₁ (mkF m 0 #[.val (.ref a1), .val (.ref b1), .unset] []) := fun t k => by rw [hS0]; exact castTop (ef_seq m a1 b1) k
  replace pre : Pth p e below S0 s₁ (mkF m 2 #[.val (.ref a1), .val (.ref b1), .unset] [(.ref b1), (.ref a1)]) := fun t k => pre t (by
    show Steps p.tables e below (s₁.setTop (mkF m 0 #[.val (.ref a1), .val (.ref b1), .unset] [])) t
    refine XS.aloadN X0.here hx rfl (hb hby d_seq_0) rfl rfl ?_
    show Steps p.tables e below (s₁.setTop (mkF m 1 #[.val (.ref a1), .val (.ref b1), .unset] [(.ref a1)])) t
    refine XS.aloadN X0.here hx rfl (hb hby d_seq_1) rfl rfl ?_
    show Steps p.tables e below (s₁.setTop (mkF m 2 #[.val (.ref a1), .val (.ref b1), .unset] [(.ref b1), (.ref a1)])) t
    exact k)
  by_cases z0 : ((.ref a1) : Value) = (.ref b1)
  · replace pre : Pth p e below S0 s₁ (mkF m 6 #[.val (.ref a1), .val (.ref b1), .unset] [(.int (1 : Int32))]) := fun t k => pre t (by
      show Steps p.tables e below (s₁.setTop (mkF m 2 #[.val (.ref a1), .val (.ref b1), .unset] [(.ref b1), (.ref a1)])) t
      refine Jvm.RoadKit.acmp (g := (mkF m 2 #[.val (.ref a1), .val (.ref b1), .unset] [(.ref b1), (.ref a1)])) X0 hx rfl rfl rfl (pc0 := 2) (pc' := 5) (same := true) rfl (hb hby d_seq_2) rfl (decide_eq_true z0) (by decide) (by decide) ?_
      show Steps p.tables e below (s₁.setTop (mkF m 5 #[.val (.ref a1), .val (.ref b1), .unset] [])) t
      refine XS.iconst X0.here hx rfl (hb hby d_seq_5) ?_
      show Steps p.tables e below (s₁.setTop (mkF m 6 #[.val (.ref a1), .val (.ref b1), .unset] [(.int (1 : Int32))])) t
      exact k)
    obtain ⟨fs, hr, hrun, hended, hW, hsame⟩ := X0.leave (v := some (.int (1 : Int32))) (fun h => by rw [Bd.returns] at h; cases h)
    subst hS0
    refine ⟨_, _, pre _ ?_, hrun, hended, _, _, rfl, ?_, ⟨_, rfl⟩, hW, hsame.mono (by decide) (by decide)⟩
    · exact retN X0 hx (t := .boolean) Bd.returns (by simp) (hb hby d_seq_6) hr
    · show Q_seq Z a1 b1 p1 p2 xs ys cz h0 n0 _ s₁.heap _
      rw [e0]
      exact ⟨by rw [own_eq, if_pos (own_samestr SA SB (Value.ref.inj z0))], N0, rfl⟩
  · replace pre : Pth p e below S0 s₁ (mkF m 8 #[.val (.ref a1), .val (.ref b1), .unset] [(.ref b1)]) := fun t k => pre t (by
      show Steps p.tables e below (s₁.setTop (mkF m 2 #[.val (.ref a1), .val (.ref b1), .unset] [(.ref b1), (.ref a1)])) t
      refine Jvm.RoadKit.acmp (g := (mkF m 2 #[.val (.ref a1), .val (.ref b1), .unset] [(.ref b1), (.ref a1)])) X0 hx rfl rfl rfl (pc0 := 2) (pc' := 7) (same := false) rfl (hb hby d_seq_2) rfl (decide_eq_false z0) (by decide) (by decide) ?_
      show Steps p.tables e below (s₁.setTop (mkF m 7 #[.val (.ref a1), .val (.ref b1), .unset] [])) t
      refine XS.aloadN X0.here hx rfl (hb hby d_seq_7) rfl rfl ?_
      show Steps p.tables e below (s₁.setTop (mkF m 8 #[.val (.ref a1), .val (.ref b1), .unset] [(.ref b1)])) t
      exact k)
    obtain ⟨T7, X7, e7, st7⟩ := instY X0 hx hZ hown (hw _ (List.mem_of_getElem? (i := 75) rfl)) e0 (Ins.self SB.1) (g := (mkF m 8 #[.val (.ref a1), .val (.ref b1), .unset] [(.ref b1)])) rfl rfl (hb hby d_seq_8)
    replace pre : Pth p e below S0 T7 (mkF m 11 #[.val (.ref a1), .val (.ref b1), .unset] [(.int (1 : Int32))]) := fun t k => pre t (st7 _ k)
    replace pre : Pth p e below S0 T7 (mkF m 15 #[.val (.ref a1), .val (.ref b1), .unset] [(.ref b1)]) := fun t k => pre t (by
      show Steps p.tables e below (T7.setTop (mkF m 11 #[.val (.ref a1), .val (.ref b1), .unset] [(.int (1 : Int32))])) t
      refine XS.ifNo X7.here hx rfl (hb hby d_seq_11) rfl (XT.i0_eq_f (by decide)) ?_
      show Steps p.tables e below (T7.setTop (mkF m 14 #[.val (.ref a1), .val (.ref b1), .unset] [])) t
      refine XS.aloadN X7.here hx rfl (hb hby d_seq_14) rfl rfl ?_
      show Steps p.tables e below (T7.setTop (mkF m 15 #[.val (.ref a1), .val (.ref b1), .unset] [(.ref b1)])) t
      exact k)
    obtain ⟨T8, X8, e8, st8⟩ := castY X7 hx hZ hown (hw _ (List.mem_of_getElem? (i := 75) rfl)) e7 (Ins.self SB.1) (g := (mkF m 15 #[.val (.ref a1), .val (.ref b1), .unset] [(.ref b1)])) rfl rfl (hb hby d_seq_15)
    replace pre : Pth p e below S0 T8 (mkF m 18 #[.val (.ref a1), .val (.ref b1), .unset] [(.ref b1)]) := fun t k => pre t (st8 _ k)
    replace pre : Pth p e below S0 T8 (mkF m 19 #[.val (.ref a1), .val (.ref b1), .val (.ref b1)] []) := fun t k => pre t (by
      show Steps p.tables e below (T8.setTop (mkF m 18 #[.val (.ref a1), .val (.ref b1), .unset] [(.ref b1)])) t
      refine XS.astoreN X8.here hx rfl (hb hby d_seq_18) rfl rfl (l' := #[.val (.ref a1), .val (.ref b1), .val (.ref b1)]) rfl ?_
      show Steps p.tables e below (T8.setTop (mkF m 19 #[.val (.ref a1), .val (.ref b1), .val (.ref b1)] [])) t
      exact k)
    obtain ⟨T9, X9, e9, st9⟩ := getS2 X8 hx hZ hown (host := "") (Or.inl (hw _ (List.mem_of_getElem? (i := 54) rfl))) Via.refl e8 Scs (g := (mkF m 19 #[.val (.ref a1), .val (.ref b1), .val (.ref b1)] [])) rfl (hb hby d_seq_19)
    replace pre : Pth p e below S0 T9 (mkF m 22 #[.val (.ref a1), .val (.ref b1), .val (.ref b1)] [(.int cz)]) := fun t k => pre t (st9 _ k)
    replace pre : Pth p e below S0 T9 (mkF m 26 #[.val (.ref a1), .val (.ref b1), .val (.ref b1)] [(.ref a1)]) := fun t k => pre t (by
      show Steps p.tables e below (T9.setTop (mkF m 22 #[.val (.ref a1), .val (.ref b1), .val (.ref b1)] [(.int cz)])) t
      refine XS.ifNo X9.here hx rfl (hb hby d_seq_22) rfl (XT.i0_eq_f hcz) ?_
      show Steps p.tables e below (T9.setTop (mkF m 25 #[.val (.ref a1), .val (.ref b1), .val (.ref b1)] [])) t
      refine XS.aloadN X9.here hx rfl (hb hby d_seq_25) rfl rfl ?_
      show Steps p.tables e below (T9.setTop (mkF m 26 #[.val (.ref a1), .val (.ref b1), .val (.ref b1)] [(.ref a1)])) t
      exact k)
    obtain ⟨T10, X10, e10, st10⟩ := getF X9 hx hZ hown (host := "") (Or.inl (hw _ (List.mem_of_getElem? (i := 31) rfl))) Via.refl e9 SA.2.1 (g := (mkF m 26 #[.val (.ref a1), .val (.ref b1), .val (.ref b1)] [(.ref a1)])) rfl rfl (hb hby d_seq_26)
    replace pre : Pth p e below S0 T10 (mkF m 29 #[.val (.ref a1), .val (.ref b1), .val (.ref b1)] [(.int (0 : Int32))]) := fun t k => pre t (st10 _ k)
    replace pre : Pth p e below S0 T10 (mkF m 30 #[.val (.ref a1), .val (.ref b1), .val (.ref b1)] [(.ref b1), (.int (0 : Int32))]) := fun t k => pre t (by
      show Steps p.tables e below (T10.setTop (mkF m 29 #[.val (.ref a1), .val (.ref b1), .val (.ref b1)] [(.int (0 : Int32))])) t
      refine XS.aloadN X10.here hx rfl (hb hby d_seq_29) rfl rfl ?_
      show Steps p.tables e below (T10.setTop (mkF m 30 #[.val (.ref a1), .val (.ref b1), .val (.ref b1)] [(.ref b1), (.int (0 : Int32))])) t
      exact k)
    obtain ⟨T11, X11, e11, st11⟩ := getF X10 hx hZ hown (host := "") (Or.inl (hw _ (List.mem_of_getElem? (i := 31) rfl))) Via.refl e10 SB.2.1 (g := (mkF m 30 #[.val (.ref a1), .val (.ref b1), .val (.ref b1)] [(.ref b1), (.int (0 : Int32))])) rfl rfl (hb hby d_seq_30)
    replace pre : Pth p e below S0 T11 (mkF m 33 #[.val (.ref a1), .val (.ref b1), .val (.ref b1)] [(.int (0 : Int32)), (.int (0 : Int32))]) := fun t k => pre t (st11 _ k)
    replace pre : Pth p e below S0 T11 (mkF m 37 #[.val (.ref a1), .val (.ref b1), .val (.ref b1)] [(.ref a1)]) := fun t k => pre t (by
      show Steps p.tables e below (T11.setTop (mkF m 33 #[.val (.ref a1), .val (.ref b1), .val (.ref b1)] [(.int (0 : Int32)), (.int (0 : Int32))])) t
      refine XS.icmpNo X11.here hx rfl (hb hby d_seq_33) rfl (XT.ii_ne_f rfl) ?_
      show Steps p.tables e below (T11.setTop (mkF m 36 #[.val (.ref a1), .val (.ref b1), .val (.ref b1)] [])) t
      refine XS.aloadN X11.here hx rfl (hb hby d_seq_36) rfl rfl ?_
      show Steps p.tables e below (T11.setTop (mkF m 37 #[.val (.ref a1), .val (.ref b1), .val (.ref b1)] [(.ref a1)])) t
      exact k)
    obtain ⟨T12, X12, e12, st12⟩ := getF X11 hx hZ hown (host := "") (Or.inl (hw _ (List.mem_of_getElem? (i := 30) rfl))) Via.refl e11 SA.2.2.1 (g := (mkF m 37 #[.val (.ref a1), .val (.ref b1), .val (.ref b1)] [(.ref a1)])) rfl rfl (hb hby d_seq_37)
    replace pre : Pth p e below S0 T12 (mkF m 40 #[.val (.ref a1), .val (.ref b1), .val (.ref b1)] [(.ref p1)]) := fun t k => pre t (st12 _ k)
    replace pre : Pth p e below S0 T12 (mkF m 41 #[.val (.ref a1), .val (.ref b1), .val (.ref b1)] [(.ref b1), (.ref p1)]) := fun t k => pre t (by
      show Steps p.tables e below (T12.setTop (mkF m 40 #[.val (.ref a1), .val (.ref b1), .val (.ref b1)] [(.ref p1)])) t
      refine XS.aloadN X12.here hx rfl (hb hby d_seq_40) rfl rfl ?_
      show Steps p.tables e below (T12.setTop (mkF m 41 #[.val (.ref a1), .val (.ref b1), .val (.ref b1)] [(.ref b1), (.ref p1)])) t
      exact k)
    obtain ⟨T13, X13, e13, st13⟩ := getF X12 hx hZ hown (host := "") (Or.inl (hw _ (List.mem_of_getElem? (i := 30) rfl))) Via.refl e12 SB.2.2.1 (g := (mkF m 41 #[.val (.ref a1), .val (.ref b1), .val (.ref b1)] [(.ref b1), (.ref p1)])) rfl rfl (hb hby d_seq_41)
    replace pre : Pth p e below S0 T13 (mkF m 44 #[.val (.ref a1), .val (.ref b1), .val (.ref b1)] [(.ref p2), (.ref p1)]) := fun t k => pre t (st13 _ k)
    obtain ⟨_, _, ⟨T14, L14, k14, n14⟩, -, X14, ⟨Lc14, hQ14, l14, y14, z14⟩, st14⟩ := Jvm.LawKit.callS X13 hx (y := (⟨"java/lang/StringLatin1", "equals", "([B[B)Z"⟩ : MethodName)) hown (mvT hZ (hw _ (List.mem_of_getElem? (i := 76) rfl))) (mvT hZ (hw _ (List.mem_of_getElem? (i := 77) rfl))) (mvT hZ (hw _ (List.mem_of_getElem? (i := 78) rfl))) (mvT hZ (hw _ (List.mem_of_getElem? (i := 79) rfl))) (by decide) (backOf (W := 0) (rm_leq l Z a0 hw [] p1 p2 xs ys h0 n0 SA.2.2.2 SB.2.2.2 lx ly) hZ (hw _ (List.mem_of_getElem? (i := 79) rfl)) (hw _ (List.mem_of_getElem? (i := 78) rfl)) (by decide) (by decide)) (g := (mkF m 44 #[.val (.ref a1), .val (.ref b1), .val (.ref b1)] [(.ref p2), (.ref p1)])) rfl (by rw [hml]; rfl) (argsL := [(.ref p1), (.ref p2)]) (rest := []) (lenOf pd___B_B_Z rfl) rfl (by show 2 * 0 + _ ≤ _; exact Nat.le_of_eq rfl) (hb hby d_seq_44) (fun _ _ => ⟨rfl, e13, (by decide : 0 + 0 ≤ _), (by decide : 0 + 0 ≤ _)⟩)
    dsimp only [Pt.U, Pt.locs, Pt.cells, Pt.slots] at X14 l14 y14 z14 st14 hQ14
    subst l14 y14 z14
    obtain ⟨rfl, N14q, e14⟩ := hQ14
    have N14 := Fr.app N0 N14q
    replace pre : Pth p e below S0 T14 (mkF m 47 #[.val (.ref a1), .val (.ref b1), .val (.ref b1)] [(.int (own_eq xs ys))]) := fun t k => pre t (st14 _ k)
    by_cases z1 : (own_eq xs ys) = (0 : Int32)
    · replace pre : Pth p e below S0 T14 (mkF m 55 #[.val (.ref a1), .val (.ref b1), .val (.ref b1)] [(.int (0 : Int32))]) := fun t k => pre t (by
        show Steps p.tables e below (T14.setTop (mkF m 47 #[.val (.ref a1), .val (.ref b1), .val (.ref b1)] [(.int (own_eq xs ys))])) t
        refine XS.ifYes X14.here hx rfl (pc0 := 47) (pc' := 54) rfl (hb hby d_seq_47) rfl (XT.i0_eq_t z1) (by decide) (by decide) ?_
        show Steps p.tables e below (T14.setTop (mkF m 54 #[.val (.ref a1), .val (.ref b1), .val (.ref b1)] [])) t
        refine XS.iconst X14.here hx rfl (hb hby d_seq_54) ?_
        show Steps p.tables e below (T14.setTop (mkF m 55 #[.val (.ref a1), .val (.ref b1), .val (.ref b1)] [(.int (0 : Int32))])) t
        exact k)
      obtain ⟨fs, hr, hrun, hended, hW, hsame⟩ := X14.leave (v := some (.int (0 : Int32))) (fun h => by rw [Bd.returns] at h; cases h)
      subst hS0
      refine ⟨_, _, pre _ ?_, hrun, hended, _, _, rfl, ?_, ⟨_, rfl⟩, hW, hsame.mono (by decide) (by decide)⟩
      · exact retN X14 hx (t := .boolean) Bd.returns (by simp) (hb hby d_seq_55) hr
      · show Q_seq Z a1 b1 p1 p2 xs ys cz h0 n0 _ T14.heap _
        rw [e14]
        exact ⟨by rw [z1], N14, rfl⟩
    · replace pre : Pth p e below S0 T14 (mkF m 55 #[.val (.ref a1), .val (.ref b1), .val (.ref b1)] [(.int (1 : Int32))]) := fun t k => pre t (by
        show Steps p.tables e below (T14.setTop (mkF m 47 #[.val (.ref a1), .val (.ref b1), .val (.ref b1)] [(.int (own_eq xs ys))])) t
        refine XS.ifNo X14.here hx rfl (hb hby d_seq_47) rfl (XT.i0_eq_f z1) ?_
        show Steps p.tables e below (T14.setTop (mkF m 50 #[.val (.ref a1), .val (.ref b1), .val (.ref b1)] [])) t
        refine XS.iconst X14.here hx rfl (hb hby d_seq_50) ?_
        show Steps p.tables e below (T14.setTop (mkF m 51 #[.val (.ref a1), .val (.ref b1), .val (.ref b1)] [(.int (1 : Int32))])) t
        refine XS.goto X14.here hx rfl (pc0 := 51) (pc' := 55) rfl (hb hby d_seq_51) (by decide) (by decide) ?_
        show Steps p.tables e below (T14.setTop (mkF m 55 #[.val (.ref a1), .val (.ref b1), .val (.ref b1)] [(.int (1 : Int32))])) t
        exact k)
      obtain ⟨fs, hr, hrun, hended, hW, hsame⟩ := X14.leave (v := some (.int (1 : Int32))) (fun h => by rw [Bd.returns] at h; cases h)
      subst hS0
      refine ⟨_, _, pre _ ?_, hrun, hended, _, _, rfl, ?_, ⟨_, rfl⟩, hW, hsame.mono (by decide) (by decide)⟩
      · exact retN X14 hx (t := .boolean) Bd.returns (by simp) (hb hby d_seq_55) hr
      · show Q_seq Z a1 b1 p1 p2 xs ys cz h0 n0 _ T14.heap _
        rw [e14]
        exact ⟨by rw [own_eq01 z1], N14, rfl⟩
def Q_len (Z : State) (x1 : Int32) (h0 : Heap) (n0 : Nat) (v : Option Value) (h : Heap) (L : List Loc) : Prop := v = some (.int (own_len x1)) ∧ Fr n0 L ∧ h = h0
set_option maxRecDepth 65536 in
set_option maxHeartbeats 40000000 in
theorem rm_len (l : Launch) (Z : State) (a0 : Array Value) (hw : ∀ d ∈ tables_1, d.before a0 Z = true) (ws : List Jvm.Cond) (x1 : Int32) (h0 : Heap) (n0 : Nat)  :
    MetFree l (⟨"com/example/originlint/originlint/OriginEqualsPinLaw", "len", "(I)I"⟩ : MethodName) (head1 (Jvm.Cond.code (⟨"com/example/originlint/originlint/OriginEqualsPinLaw", "len", "(I)I"⟩ : MethodName) method_2_code 1 (some .int) :: ws) ({ frames := 0, cells := 0, slots := 0, locals := 0 } : Room)) (fun a U => a = #[(.int x1)] ∧ Z.Warmed39 U.vm ∧ U.heap = h0) (fun _ _ _ _ _ => True) (fun _ U o U' => ∃ v L, o = .returned v ∧ Q_len Z x1 h0 n0 v U'.heap L ∧ FrameEnd U o U' L ({ frames := 0, cells := 0, slots := 0, locals := 0 } : Room).cells ({ frames := 0, cells := 0, slots := 0, locals := 0 } : Room).slots) := by
  refine MetFree.of_bodySF (plainFor_of_name pn_com_example_originlint_originlint_OriginEqualsPinLaw) hisR ?_
  intro p e s m args below meth c s₁ Bd hml0 hP hK
  obtain ⟨rfl, hZ, hh⟩ := hP
  have hx := Bd.exec
  have hby := Bd.bytes
  have hml : c.maxLocals = 1 := hml0
  have hown : s.vm.findClass "com/example/originlint/originlint/OriginEqualsPinLaw" = some m.cls := findClass_of_methodNamed Bd.named
  have hnm := (name_of_methodNamed Bd.named Bd.method).1
  have X0 : Stand p l e ({ frames := 0, cells := 0, slots := 0, locals := 0 } : Room) s m #[(.int x1)] below meth c s₁ [] 0 0 := Stand.of_body Bd
  have e0 : s₁.heap = h0 := by rw [← hh, Bd.state]; rfl
  have N0 := Fr.nil n0
  obtain ⟨S0, hS0⟩ : ∃ S0, S0 = s₁.setTop (entryFrame m #[(.int x1)] 1) := ⟨_, rfl⟩
  have pre : Pth p e below S0 s₁ (mkF m 0 #[.val (.int x1)] []) := fun t k => by rw [hS0]; exact castTop (ef_len m x1) k
  replace pre : Pth p e below S0 s₁ (mkF m 8 #[.val (.int x1)] [(.int ((((x1.toUInt32 >>> ((16 : Int32) &&& 31).toUInt32).toInt32) &&& (3 : Int32)) % (3 : Int32)))]) := fun t k => pre t (by
    show Steps p.tables e below (s₁.setTop (mkF m 0 #[.val (.int x1)] [])) t
    refine XS.iloadN X0.here hx rfl (hb hby d_len_0) rfl ?_
    show Steps p.tables e below (s₁.setTop (mkF m 1 #[.val (.int x1)] [(.int x1)])) t
    refine XS.bipush X0.here hx rfl (hb hby d_len_1) ?_
    show Steps p.tables e below (s₁.setTop (mkF m 3 #[.val (.int x1)] [(.int (16 : Int32)), (.int x1)])) t
    refine XS.iushr X0.here hx rfl (hb hby d_len_3) rfl ?_
    show Steps p.tables e below (s₁.setTop (mkF m 4 #[.val (.int x1)] [(.int ((x1.toUInt32 >>> ((16 : Int32) &&& 31).toUInt32).toInt32))])) t
    refine XS.iconst X0.here hx rfl (hb hby d_len_4) ?_
    show Steps p.tables e below (s₁.setTop (mkF m 5 #[.val (.int x1)] [(.int (3 : Int32)), (.int ((x1.toUInt32 >>> ((16 : Int32) &&& 31).toUInt32).toInt32))])) t
    refine XS.iand X0.here hx rfl (hb hby d_len_5) rfl ?_
    show Steps p.tables e below (s₁.setTop (mkF m 6 #[.val (.int x1)] [(.int (((x1.toUInt32 >>> ((16 : Int32) &&& 31).toUInt32).toInt32) &&& (3 : Int32)))])) t
    refine XS.iconst X0.here hx rfl (hb hby d_len_6) ?_
    show Steps p.tables e below (s₁.setTop (mkF m 7 #[.val (.int x1)] [(.int (3 : Int32)), (.int (((x1.toUInt32 >>> ((16 : Int32) &&& 31).toUInt32).toInt32) &&& (3 : Int32)))])) t
    refine iremM (g := (mkF m 7 #[.val (.int x1)] [(.int (3 : Int32)), (.int (((x1.toUInt32 >>> ((16 : Int32) &&& 31).toUInt32).toInt32) &&& (3 : Int32)))])) X0 hx rfl (hb hby d_len_7) rfl (by decide) ?_
    show Steps p.tables e below (s₁.setTop (mkF m 8 #[.val (.int x1)] [(.int ((((x1.toUInt32 >>> ((16 : Int32) &&& 31).toUInt32).toInt32) &&& (3 : Int32)) % (3 : Int32)))])) t
    exact k)
  obtain ⟨fs, hr, hrun, hended, hW, hsame⟩ := X0.leave (v := some (.int ((((x1.toUInt32 >>> ((16 : Int32) &&& 31).toUInt32).toInt32) &&& (3 : Int32)) % (3 : Int32)))) (fun h => by rw [Bd.returns] at h; cases h)
  subst hS0
  refine ⟨_, _, pre _ ?_, hrun, hended, _, _, rfl, ?_, ⟨_, rfl⟩, hW, hsame.mono (by decide) (by decide)⟩
  · exact retI X0 hx Bd.returns (hb hby d_len_8) hr
  · show Q_len Z x1 h0 n0 _ s₁.heap _
    rw [e0]
    exact ⟨rfl, N0, rfl⟩
def Q_same (Z : State) (x1 : Int32) (y1 : Int32) (h0 : Heap) (n0 : Nat) (v : Option Value) (h : Heap) (L : List Loc) : Prop := v = some (.int (own_same x1 y1)) ∧ Fr n0 L ∧ h = h0
set_option maxRecDepth 65536 in
set_option maxHeartbeats 40000000 in
theorem rm_same (l : Launch) (Z : State) (a0 : Array Value) (hw : ∀ d ∈ tables_1, d.before a0 Z = true) (ws : List Jvm.Cond) (x1 : Int32) (y1 : Int32) (h0 : Heap) (n0 : Nat)  :
    MetFree l (⟨"com/example/originlint/originlint/OriginEqualsPinLaw", "same", "(II)Z"⟩ : MethodName) (head1 (Jvm.Cond.code (⟨"com/example/originlint/originlint/OriginEqualsPinLaw", "same", "(II)Z"⟩ : MethodName) method_4_code 4 (some .boolean) :: ws) ({ frames := 1, cells := 0, slots := 0, locals := 13 } : Room)) (fun a U => a = #[(.int x1), (.int y1)] ∧ Z.Warmed39 U.vm ∧ U.heap = h0) (fun _ _ _ _ _ => True) (fun _ U o U' => ∃ v L, o = .returned v ∧ Q_same Z x1 y1 h0 n0 v U'.heap L ∧ FrameEnd U o U' L ({ frames := 1, cells := 0, slots := 0, locals := 13 } : Room).cells ({ frames := 1, cells := 0, slots := 0, locals := 13 } : Room).slots) := by
  refine MetFree.of_bodySF (plainFor_of_name pn_com_example_originlint_originlint_OriginEqualsPinLaw) hisR ?_
  intro p e s m args below meth c s₁ Bd hml0 hP hK
  obtain ⟨rfl, hZ, hh⟩ := hP
  have hx := Bd.exec
  have hby := Bd.bytes
  have hml : c.maxLocals = 4 := hml0
  have hown : s.vm.findClass "com/example/originlint/originlint/OriginEqualsPinLaw" = some m.cls := findClass_of_methodNamed Bd.named
  have hnm := (name_of_methodNamed Bd.named Bd.method).1
  have X0 : Stand p l e ({ frames := 1, cells := 0, slots := 0, locals := 13 } : Room) s m #[(.int x1), (.int y1)] below meth c s₁ [] 0 0 := Stand.of_body Bd
  have e0 : s₁.heap = h0 := by rw [← hh, Bd.state]; rfl
  have N0 := Fr.nil n0
  obtain ⟨S0, hS0⟩ : ∃ S0, S0 = s₁.setTop (entryFrame m #[(.int x1), (.int y1)] 4) := ⟨_, rfl⟩
  have pre : Pth p e below S0 s₁ (mkF m 0 #[.val (.int x1), .val (.int y1), .unset, .unset] []) := fun t k => by rw [hS0]; exact castTop (ef_same m x1 y1) k
  replace pre : Pth p e below S0 s₁ (mkF m 1 #[.val (.int x1), .val (.int y1), .unset, .unset] [(.int x1)]) := fun t k => pre t (by
    show Steps p.tables e below (s₁.setTop (mkF m 0 #[.val (.int x1), .val (.int y1), .unset, .unset] [])) t
    refine XS.iloadN X0.here hx rfl (hb hby d_same_0) rfl ?_
    show Steps p.tables e below (s₁.setTop (mkF m 1 #[.val (.int x1), .val (.int y1), .unset, .unset] [(.int x1)])) t
    exact k)
  obtain ⟨_, _, ⟨T15, L15, k15, n15⟩, -, X15, ⟨Lc15, hQ15, l15, y15, z15⟩, st15⟩ := Jvm.LawKit.callS X0 hx (y := (⟨"com/example/originlint/originlint/OriginEqualsPinLaw", "len", "(I)I"⟩ : MethodName)) hown (mvT hZ (hw _ (List.mem_of_getElem? (i := 7) rfl))) (mvT hZ (hw _ (List.mem_of_getElem? (i := 8) rfl))) (mvT hZ (hw _ (List.mem_of_getElem? (i := 5) rfl))) (mvT hZ (hw _ (List.mem_of_getElem? (i := 9) rfl))) (by decide) (backOf (W := 0) (rm_len l Z a0 hw [] x1 h0 n0) hZ (hw _ (List.mem_of_getElem? (i := 9) rfl)) (hw _ (List.mem_of_getElem? (i := 5) rfl)) (by decide) (by decide)) (g := (mkF m 1 #[.val (.int x1), .val (.int y1), .unset, .unset] [(.int x1)])) rfl (by rw [hml]; rfl) (argsL := [(.int x1)]) (rest := []) (lenOf pd__I_I rfl) rfl (by show 2 * 0 + _ ≤ _; exact Nat.le_of_eq rfl) (hb hby d_same_1) (fun _ _ => ⟨rfl, e0, (by decide : 0 + 0 ≤ _), (by decide : 0 + 0 ≤ _)⟩)
  dsimp only [Pt.U, Pt.locs, Pt.cells, Pt.slots] at X15 l15 y15 z15 st15 hQ15
  subst l15 y15 z15
  obtain ⟨rfl, N15q, e15⟩ := hQ15
  have N15 := Fr.app N0 N15q
  replace pre : Pth p e below S0 T15 (mkF m 4 #[.val (.int x1), .val (.int y1), .unset, .unset] [(.int (own_len x1))]) := fun t k => pre t (st15 _ k)
  replace pre : Pth p e below S0 T15 (mkF m 6 #[.val (.int x1), .val (.int y1), .val (.int (own_len x1)), .unset] [(.int y1)]) := fun t k => pre t (by
    show Steps p.tables e below (T15.setTop (mkF m 4 #[.val (.int x1), .val (.int y1), .unset, .unset] [(.int (own_len x1))])) t
    refine XS.istoreN X15.here hx rfl (hb hby d_same_4) rfl (l' := #[.val (.int x1), .val (.int y1), .val (.int (own_len x1)), .unset]) rfl ?_
    show Steps p.tables e below (T15.setTop (mkF m 5 #[.val (.int x1), .val (.int y1), .val (.int (own_len x1)), .unset] [])) t
    refine XS.iloadN X15.here hx rfl (hb hby d_same_5) rfl ?_
    show Steps p.tables e below (T15.setTop (mkF m 6 #[.val (.int x1), .val (.int y1), .val (.int (own_len x1)), .unset] [(.int y1)])) t
    exact k)
  obtain ⟨_, _, ⟨T16, L16, k16, n16⟩, -, X16, ⟨Lc16, hQ16, l16, y16, z16⟩, st16⟩ := Jvm.LawKit.callS X15 hx (y := (⟨"com/example/originlint/originlint/OriginEqualsPinLaw", "len", "(I)I"⟩ : MethodName)) hown (mvT hZ (hw _ (List.mem_of_getElem? (i := 7) rfl))) (mvT hZ (hw _ (List.mem_of_getElem? (i := 8) rfl))) (mvT hZ (hw _ (List.mem_of_getElem? (i := 5) rfl))) (mvT hZ (hw _ (List.mem_of_getElem? (i := 9) rfl))) (by decide) (backOf (W := 0) (rm_len l Z a0 hw [] y1 h0 n0) hZ (hw _ (List.mem_of_getElem? (i := 9) rfl)) (hw _ (List.mem_of_getElem? (i := 5) rfl)) (by decide) (by decide)) (g := (mkF m 6 #[.val (.int x1), .val (.int y1), .val (.int (own_len x1)), .unset] [(.int y1)])) rfl (by rw [hml]; rfl) (argsL := [(.int y1)]) (rest := []) (lenOf pd__I_I rfl) rfl (by show 2 * 0 + _ ≤ _; exact Nat.le_of_eq rfl) (hb hby d_same_6) (fun _ _ => ⟨rfl, e15, (by decide : 0 + 0 ≤ _), (by decide : 0 + 0 ≤ _)⟩)
  dsimp only [Pt.U, Pt.locs, Pt.cells, Pt.slots] at X16 l16 y16 z16 st16 hQ16
  subst l16 y16 z16
  obtain ⟨rfl, N16q, e16⟩ := hQ16
  have N16 := Fr.app N15 N16q
  replace pre : Pth p e below S0 T16 (mkF m 9 #[.val (.int x1), .val (.int y1), .val (.int (own_len x1)), .unset] [(.int (own_len y1))]) := fun t k => pre t (st16 _ k)
  replace pre : Pth p e below S0 T16 (mkF m 12 #[.val (.int x1), .val (.int y1), .val (.int (own_len x1)), .val (.int (own_len y1))] [(.int (own_len y1)), (.int (own_len x1))]) := fun t k => pre t (by
    show Steps p.tables e below (T16.setTop (mkF m 9 #[.val (.int x1), .val (.int y1), .val (.int (own_len x1)), .unset] [(.int (own_len y1))])) t
    refine XS.istoreN X16.here hx rfl (hb hby d_same_9) rfl (l' := #[.val (.int x1), .val (.int y1), .val (.int (own_len x1)), .val (.int (own_len y1))]) rfl ?_
    show Steps p.tables e below (T16.setTop (mkF m 10 #[.val (.int x1), .val (.int y1), .val (.int (own_len x1)), .val (.int (own_len y1))] [])) t
    refine XS.iloadN X16.here hx rfl (hb hby d_same_10) rfl ?_
    show Steps p.tables e below (T16.setTop (mkF m 11 #[.val (.int x1), .val (.int y1), .val (.int (own_len x1)), .val (.int (own_len y1))] [(.int (own_len x1))])) t
    refine XS.iloadN X16.here hx rfl (hb hby d_same_11) rfl ?_
    show Steps p.tables e below (T16.setTop (mkF m 12 #[.val (.int x1), .val (.int y1), .val (.int (own_len x1)), .val (.int (own_len y1))] [(.int (own_len y1)), (.int (own_len x1))])) t
    exact k)
  by_cases z0 : (own_len x1) = (own_len y1)
  · replace pre : Pth p e below S0 T16 (mkF m 19 #[.val (.int x1), .val (.int y1), .val (.int (own_len x1)), .val (.int (own_len y1))] [(.int (1 : Int32)), (.int (own_len x1))]) := fun t k => pre t (by
      show Steps p.tables e below (T16.setTop (mkF m 12 #[.val (.int x1), .val (.int y1), .val (.int (own_len x1)), .val (.int (own_len y1))] [(.int (own_len y1)), (.int (own_len x1))])) t
      refine XS.icmpYes X16.here hx rfl (pc0 := 12) (pc' := 17) rfl (hb hby d_same_12) rfl (XT.ii_eq_t z0) (by decide) (by decide) ?_
      show Steps p.tables e below (T16.setTop (mkF m 17 #[.val (.int x1), .val (.int y1), .val (.int (own_len x1)), .val (.int (own_len y1))] [])) t
      refine XS.iloadN X16.here hx rfl (hb hby d_same_17) rfl ?_
      show Steps p.tables e below (T16.setTop (mkF m 18 #[.val (.int x1), .val (.int y1), .val (.int (own_len x1)), .val (.int (own_len y1))] [(.int (own_len x1))])) t
      refine XS.iconst X16.here hx rfl (hb hby d_same_18) ?_
      show Steps p.tables e below (T16.setTop (mkF m 19 #[.val (.int x1), .val (.int y1), .val (.int (own_len x1)), .val (.int (own_len y1))] [(.int (1 : Int32)), (.int (own_len x1))])) t
      exact k)
    by_cases z1 : (own_len x1) < (1 : Int32)
    · replace pre : Pth p e below S0 T16 (mkF m 39 #[.val (.int x1), .val (.int y1), .val (.int (own_len x1)), .val (.int (own_len y1))] [(.int (2 : Int32)), (.int (own_len x1))]) := fun t k => pre t (by
        show Steps p.tables e below (T16.setTop (mkF m 19 #[.val (.int x1), .val (.int y1), .val (.int (own_len x1)), .val (.int (own_len y1))] [(.int (1 : Int32)), (.int (own_len x1))])) t
        refine XS.icmpYes X16.here hx rfl (pc0 := 19) (pc' := 37) rfl (hb hby d_same_19) rfl (XT.ii_lt_t z1) (by decide) (by decide) ?_
        show Steps p.tables e below (T16.setTop (mkF m 37 #[.val (.int x1), .val (.int y1), .val (.int (own_len x1)), .val (.int (own_len y1))] [])) t
        refine XS.iloadN X16.here hx rfl (hb hby d_same_37) rfl ?_
        show Steps p.tables e below (T16.setTop (mkF m 38 #[.val (.int x1), .val (.int y1), .val (.int (own_len x1)), .val (.int (own_len y1))] [(.int (own_len x1))])) t
        refine XS.iconst X16.here hx rfl (hb hby d_same_38) ?_
        show Steps p.tables e below (T16.setTop (mkF m 39 #[.val (.int x1), .val (.int y1), .val (.int (own_len x1)), .val (.int (own_len y1))] [(.int (2 : Int32)), (.int (own_len x1))])) t
        exact k)
      by_cases z3 : (own_len x1) < (2 : Int32)
      · replace pre : Pth p e below S0 T16 (mkF m 64 #[.val (.int x1), .val (.int y1), .val (.int (own_len x1)), .val (.int (own_len y1))] [(.int (1 : Int32))]) := fun t k => pre t (by
          show Steps p.tables e below (T16.setTop (mkF m 39 #[.val (.int x1), .val (.int y1), .val (.int (own_len x1)), .val (.int (own_len y1))] [(.int (2 : Int32)), (.int (own_len x1))])) t
          refine XS.icmpYes X16.here hx rfl (pc0 := 39) (pc' := 63) rfl (hb hby d_same_39) rfl (XT.ii_lt_t z3) (by decide) (by decide) ?_
          show Steps p.tables e below (T16.setTop (mkF m 63 #[.val (.int x1), .val (.int y1), .val (.int (own_len x1)), .val (.int (own_len y1))] [])) t
          refine XS.iconst X16.here hx rfl (hb hby d_same_63) ?_
          show Steps p.tables e below (T16.setTop (mkF m 64 #[.val (.int x1), .val (.int y1), .val (.int (own_len x1)), .val (.int (own_len y1))] [(.int (1 : Int32))])) t
          exact k)
        obtain ⟨fs, hr, hrun, hended, hW, hsame⟩ := X16.leave (v := some (.int (1 : Int32))) (fun h => by rw [Bd.returns] at h; cases h)
        subst hS0
        refine ⟨_, _, pre _ ?_, hrun, hended, _, _, rfl, ?_, ⟨_, rfl⟩, hW, hsame.mono (by decide) (by decide)⟩
        · exact retN X16 hx (t := .boolean) Bd.returns (by simp) (hb hby d_same_64) hr
        · show Q_same Z x1 y1 h0 n0 _ T16.heap _
          rw [e16]
          exact ⟨by rw [own_same, if_pos z0, if_pos z1, own_same2, if_pos z3], N16, rfl⟩
      · replace pre : Pth p e below S0 T16 (mkF m 58 #[.val (.int x1), .val (.int y1), .val (.int (own_len x1)), .val (.int (own_len y1))] [(.int (((y1.toUInt32 >>> ((8 : Int32) &&& 31).toUInt32).toInt32) &&& (255 : Int32))), (.int (((x1.toUInt32 >>> ((8 : Int32) &&& 31).toUInt32).toInt32) &&& (255 : Int32)))]) := fun t k => pre t (by
          show Steps p.tables e below (T16.setTop (mkF m 39 #[.val (.int x1), .val (.int y1), .val (.int (own_len x1)), .val (.int (own_len y1))] [(.int (2 : Int32)), (.int (own_len x1))])) t
          refine XS.icmpNo X16.here hx rfl (hb hby d_same_39) rfl (XT.ii_lt_f z3) ?_
          show Steps p.tables e below (T16.setTop (mkF m 42 #[.val (.int x1), .val (.int y1), .val (.int (own_len x1)), .val (.int (own_len y1))] [])) t
          refine XS.iloadN X16.here hx rfl (hb hby d_same_42) rfl ?_
          show Steps p.tables e below (T16.setTop (mkF m 43 #[.val (.int x1), .val (.int y1), .val (.int (own_len x1)), .val (.int (own_len y1))] [(.int x1)])) t
          refine XS.bipush X16.here hx rfl (hb hby d_same_43) ?_
          show Steps p.tables e below (T16.setTop (mkF m 45 #[.val (.int x1), .val (.int y1), .val (.int (own_len x1)), .val (.int (own_len y1))] [(.int (8 : Int32)), (.int x1)])) t
          refine XS.iushr X16.here hx rfl (hb hby d_same_45) rfl ?_
          show Steps p.tables e below (T16.setTop (mkF m 46 #[.val (.int x1), .val (.int y1), .val (.int (own_len x1)), .val (.int (own_len y1))] [(.int ((x1.toUInt32 >>> ((8 : Int32) &&& 31).toUInt32).toInt32))])) t
          refine XS.sipush X16.here hx rfl (hb hby d_same_46) ?_
          show Steps p.tables e below (T16.setTop (mkF m 49 #[.val (.int x1), .val (.int y1), .val (.int (own_len x1)), .val (.int (own_len y1))] [(.int (255 : Int32)), (.int ((x1.toUInt32 >>> ((8 : Int32) &&& 31).toUInt32).toInt32))])) t
          refine XS.iand X16.here hx rfl (hb hby d_same_49) rfl ?_
          show Steps p.tables e below (T16.setTop (mkF m 50 #[.val (.int x1), .val (.int y1), .val (.int (own_len x1)), .val (.int (own_len y1))] [(.int (((x1.toUInt32 >>> ((8 : Int32) &&& 31).toUInt32).toInt32) &&& (255 : Int32)))])) t
          refine XS.iloadN X16.here hx rfl (hb hby d_same_50) rfl ?_
          show Steps p.tables e below (T16.setTop (mkF m 51 #[.val (.int x1), .val (.int y1), .val (.int (own_len x1)), .val (.int (own_len y1))] [(.int y1), (.int (((x1.toUInt32 >>> ((8 : Int32) &&& 31).toUInt32).toInt32) &&& (255 : Int32)))])) t
          refine XS.bipush X16.here hx rfl (hb hby d_same_51) ?_
          show Steps p.tables e below (T16.setTop (mkF m 53 #[.val (.int x1), .val (.int y1), .val (.int (own_len x1)), .val (.int (own_len y1))] [(.int (8 : Int32)), (.int y1), (.int (((x1.toUInt32 >>> ((8 : Int32) &&& 31).toUInt32).toInt32) &&& (255 : Int32)))])) t
          refine XS.iushr X16.here hx rfl (hb hby d_same_53) rfl ?_
          show Steps p.tables e below (T16.setTop (mkF m 54 #[.val (.int x1), .val (.int y1), .val (.int (own_len x1)), .val (.int (own_len y1))] [(.int ((y1.toUInt32 >>> ((8 : Int32) &&& 31).toUInt32).toInt32)), (.int (((x1.toUInt32 >>> ((8 : Int32) &&& 31).toUInt32).toInt32) &&& (255 : Int32)))])) t
          refine XS.sipush X16.here hx rfl (hb hby d_same_54) ?_
          show Steps p.tables e below (T16.setTop (mkF m 57 #[.val (.int x1), .val (.int y1), .val (.int (own_len x1)), .val (.int (own_len y1))] [(.int (255 : Int32)), (.int ((y1.toUInt32 >>> ((8 : Int32) &&& 31).toUInt32).toInt32)), (.int (((x1.toUInt32 >>> ((8 : Int32) &&& 31).toUInt32).toInt32) &&& (255 : Int32)))])) t
          refine XS.iand X16.here hx rfl (hb hby d_same_57) rfl ?_
          show Steps p.tables e below (T16.setTop (mkF m 58 #[.val (.int x1), .val (.int y1), .val (.int (own_len x1)), .val (.int (own_len y1))] [(.int (((y1.toUInt32 >>> ((8 : Int32) &&& 31).toUInt32).toInt32) &&& (255 : Int32))), (.int (((x1.toUInt32 >>> ((8 : Int32) &&& 31).toUInt32).toInt32) &&& (255 : Int32)))])) t
          exact k)
        by_cases z4 : (((x1.toUInt32 >>> ((8 : Int32) &&& 31).toUInt32).toInt32) &&& (255 : Int32)) = (((y1.toUInt32 >>> ((8 : Int32) &&& 31).toUInt32).toInt32) &&& (255 : Int32))
        · replace pre : Pth p e below S0 T16 (mkF m 64 #[.val (.int x1), .val (.int y1), .val (.int (own_len x1)), .val (.int (own_len y1))] [(.int (1 : Int32))]) := fun t k => pre t (by
            show Steps p.tables e below (T16.setTop (mkF m 58 #[.val (.int x1), .val (.int y1), .val (.int (own_len x1)), .val (.int (own_len y1))] [(.int (((y1.toUInt32 >>> ((8 : Int32) &&& 31).toUInt32).toInt32) &&& (255 : Int32))), (.int (((x1.toUInt32 >>> ((8 : Int32) &&& 31).toUInt32).toInt32) &&& (255 : Int32)))])) t
            refine XS.icmpYes X16.here hx rfl (pc0 := 58) (pc' := 63) rfl (hb hby d_same_58) rfl (XT.ii_eq_t z4) (by decide) (by decide) ?_
            show Steps p.tables e below (T16.setTop (mkF m 63 #[.val (.int x1), .val (.int y1), .val (.int (own_len x1)), .val (.int (own_len y1))] [])) t
            refine XS.iconst X16.here hx rfl (hb hby d_same_63) ?_
            show Steps p.tables e below (T16.setTop (mkF m 64 #[.val (.int x1), .val (.int y1), .val (.int (own_len x1)), .val (.int (own_len y1))] [(.int (1 : Int32))])) t
            exact k)
          obtain ⟨fs, hr, hrun, hended, hW, hsame⟩ := X16.leave (v := some (.int (1 : Int32))) (fun h => by rw [Bd.returns] at h; cases h)
          subst hS0
          refine ⟨_, _, pre _ ?_, hrun, hended, _, _, rfl, ?_, ⟨_, rfl⟩, hW, hsame.mono (by decide) (by decide)⟩
          · exact retN X16 hx (t := .boolean) Bd.returns (by simp) (hb hby d_same_64) hr
          · show Q_same Z x1 y1 h0 n0 _ T16.heap _
            rw [e16]
            exact ⟨by rw [own_same, if_pos z0, if_pos z1, own_same2, if_neg z3, if_pos (show own_b1 x1 = own_b1 y1 from z4)], N16, rfl⟩
        · replace pre : Pth p e below S0 T16 (mkF m 62 #[.val (.int x1), .val (.int y1), .val (.int (own_len x1)), .val (.int (own_len y1))] [(.int (0 : Int32))]) := fun t k => pre t (by
            show Steps p.tables e below (T16.setTop (mkF m 58 #[.val (.int x1), .val (.int y1), .val (.int (own_len x1)), .val (.int (own_len y1))] [(.int (((y1.toUInt32 >>> ((8 : Int32) &&& 31).toUInt32).toInt32) &&& (255 : Int32))), (.int (((x1.toUInt32 >>> ((8 : Int32) &&& 31).toUInt32).toInt32) &&& (255 : Int32)))])) t
            refine XS.icmpNo X16.here hx rfl (hb hby d_same_58) rfl (XT.ii_eq_f z4) ?_
            show Steps p.tables e below (T16.setTop (mkF m 61 #[.val (.int x1), .val (.int y1), .val (.int (own_len x1)), .val (.int (own_len y1))] [])) t
            refine XS.iconst X16.here hx rfl (hb hby d_same_61) ?_
            show Steps p.tables e below (T16.setTop (mkF m 62 #[.val (.int x1), .val (.int y1), .val (.int (own_len x1)), .val (.int (own_len y1))] [(.int (0 : Int32))])) t
            exact k)
          obtain ⟨fs, hr, hrun, hended, hW, hsame⟩ := X16.leave (v := some (.int (0 : Int32))) (fun h => by rw [Bd.returns] at h; cases h)
          subst hS0
          refine ⟨_, _, pre _ ?_, hrun, hended, _, _, rfl, ?_, ⟨_, rfl⟩, hW, hsame.mono (by decide) (by decide)⟩
          · exact retN X16 hx (t := .boolean) Bd.returns (by simp) (hb hby d_same_62) hr
          · show Q_same Z x1 y1 h0 n0 _ T16.heap _
            rw [e16]
            exact ⟨by rw [own_same, if_pos z0, if_pos z1, own_same2, if_neg z3, if_neg (show ¬ own_b1 x1 = own_b1 y1 from z4)], N16, rfl⟩
    · replace pre : Pth p e below S0 T16 (mkF m 32 #[.val (.int x1), .val (.int y1), .val (.int (own_len x1)), .val (.int (own_len y1))] [(.int (y1 &&& (255 : Int32))), (.int (x1 &&& (255 : Int32)))]) := fun t k => pre t (by
        show Steps p.tables e below (T16.setTop (mkF m 19 #[.val (.int x1), .val (.int y1), .val (.int (own_len x1)), .val (.int (own_len y1))] [(.int (1 : Int32)), (.int (own_len x1))])) t
        refine XS.icmpNo X16.here hx rfl (hb hby d_same_19) rfl (XT.ii_lt_f z1) ?_
        show Steps p.tables e below (T16.setTop (mkF m 22 #[.val (.int x1), .val (.int y1), .val (.int (own_len x1)), .val (.int (own_len y1))] [])) t
        refine XS.iloadN X16.here hx rfl (hb hby d_same_22) rfl ?_
        show Steps p.tables e below (T16.setTop (mkF m 23 #[.val (.int x1), .val (.int y1), .val (.int (own_len x1)), .val (.int (own_len y1))] [(.int x1)])) t
        refine XS.sipush X16.here hx rfl (hb hby d_same_23) ?_
        show Steps p.tables e below (T16.setTop (mkF m 26 #[.val (.int x1), .val (.int y1), .val (.int (own_len x1)), .val (.int (own_len y1))] [(.int (255 : Int32)), (.int x1)])) t
        refine XS.iand X16.here hx rfl (hb hby d_same_26) rfl ?_
        show Steps p.tables e below (T16.setTop (mkF m 27 #[.val (.int x1), .val (.int y1), .val (.int (own_len x1)), .val (.int (own_len y1))] [(.int (x1 &&& (255 : Int32)))])) t
        refine XS.iloadN X16.here hx rfl (hb hby d_same_27) rfl ?_
        show Steps p.tables e below (T16.setTop (mkF m 28 #[.val (.int x1), .val (.int y1), .val (.int (own_len x1)), .val (.int (own_len y1))] [(.int y1), (.int (x1 &&& (255 : Int32)))])) t
        refine XS.sipush X16.here hx rfl (hb hby d_same_28) ?_
        show Steps p.tables e below (T16.setTop (mkF m 31 #[.val (.int x1), .val (.int y1), .val (.int (own_len x1)), .val (.int (own_len y1))] [(.int (255 : Int32)), (.int y1), (.int (x1 &&& (255 : Int32)))])) t
        refine XS.iand X16.here hx rfl (hb hby d_same_31) rfl ?_
        show Steps p.tables e below (T16.setTop (mkF m 32 #[.val (.int x1), .val (.int y1), .val (.int (own_len x1)), .val (.int (own_len y1))] [(.int (y1 &&& (255 : Int32))), (.int (x1 &&& (255 : Int32)))])) t
        exact k)
      by_cases z2 : (x1 &&& (255 : Int32)) = (y1 &&& (255 : Int32))
      · replace pre : Pth p e below S0 T16 (mkF m 39 #[.val (.int x1), .val (.int y1), .val (.int (own_len x1)), .val (.int (own_len y1))] [(.int (2 : Int32)), (.int (own_len x1))]) := fun t k => pre t (by
          show Steps p.tables e below (T16.setTop (mkF m 32 #[.val (.int x1), .val (.int y1), .val (.int (own_len x1)), .val (.int (own_len y1))] [(.int (y1 &&& (255 : Int32))), (.int (x1 &&& (255 : Int32)))])) t
          refine XS.icmpYes X16.here hx rfl (pc0 := 32) (pc' := 37) rfl (hb hby d_same_32) rfl (XT.ii_eq_t z2) (by decide) (by decide) ?_
          show Steps p.tables e below (T16.setTop (mkF m 37 #[.val (.int x1), .val (.int y1), .val (.int (own_len x1)), .val (.int (own_len y1))] [])) t
          refine XS.iloadN X16.here hx rfl (hb hby d_same_37) rfl ?_
          show Steps p.tables e below (T16.setTop (mkF m 38 #[.val (.int x1), .val (.int y1), .val (.int (own_len x1)), .val (.int (own_len y1))] [(.int (own_len x1))])) t
          refine XS.iconst X16.here hx rfl (hb hby d_same_38) ?_
          show Steps p.tables e below (T16.setTop (mkF m 39 #[.val (.int x1), .val (.int y1), .val (.int (own_len x1)), .val (.int (own_len y1))] [(.int (2 : Int32)), (.int (own_len x1))])) t
          exact k)
        by_cases z3 : (own_len x1) < (2 : Int32)
        · replace pre : Pth p e below S0 T16 (mkF m 64 #[.val (.int x1), .val (.int y1), .val (.int (own_len x1)), .val (.int (own_len y1))] [(.int (1 : Int32))]) := fun t k => pre t (by
            show Steps p.tables e below (T16.setTop (mkF m 39 #[.val (.int x1), .val (.int y1), .val (.int (own_len x1)), .val (.int (own_len y1))] [(.int (2 : Int32)), (.int (own_len x1))])) t
            refine XS.icmpYes X16.here hx rfl (pc0 := 39) (pc' := 63) rfl (hb hby d_same_39) rfl (XT.ii_lt_t z3) (by decide) (by decide) ?_
            show Steps p.tables e below (T16.setTop (mkF m 63 #[.val (.int x1), .val (.int y1), .val (.int (own_len x1)), .val (.int (own_len y1))] [])) t
            refine XS.iconst X16.here hx rfl (hb hby d_same_63) ?_
            show Steps p.tables e below (T16.setTop (mkF m 64 #[.val (.int x1), .val (.int y1), .val (.int (own_len x1)), .val (.int (own_len y1))] [(.int (1 : Int32))])) t
            exact k)
          obtain ⟨fs, hr, hrun, hended, hW, hsame⟩ := X16.leave (v := some (.int (1 : Int32))) (fun h => by rw [Bd.returns] at h; cases h)
          subst hS0
          refine ⟨_, _, pre _ ?_, hrun, hended, _, _, rfl, ?_, ⟨_, rfl⟩, hW, hsame.mono (by decide) (by decide)⟩
          · exact retN X16 hx (t := .boolean) Bd.returns (by simp) (hb hby d_same_64) hr
          · show Q_same Z x1 y1 h0 n0 _ T16.heap _
            rw [e16]
            exact ⟨by rw [own_same, if_pos z0, if_neg z1, if_pos z2, own_same2, if_pos z3], N16, rfl⟩
        · replace pre : Pth p e below S0 T16 (mkF m 58 #[.val (.int x1), .val (.int y1), .val (.int (own_len x1)), .val (.int (own_len y1))] [(.int (((y1.toUInt32 >>> ((8 : Int32) &&& 31).toUInt32).toInt32) &&& (255 : Int32))), (.int (((x1.toUInt32 >>> ((8 : Int32) &&& 31).toUInt32).toInt32) &&& (255 : Int32)))]) := fun t k => pre t (by
            show Steps p.tables e below (T16.setTop (mkF m 39 #[.val (.int x1), .val (.int y1), .val (.int (own_len x1)), .val (.int (own_len y1))] [(.int (2 : Int32)), (.int (own_len x1))])) t
            refine XS.icmpNo X16.here hx rfl (hb hby d_same_39) rfl (XT.ii_lt_f z3) ?_
            show Steps p.tables e below (T16.setTop (mkF m 42 #[.val (.int x1), .val (.int y1), .val (.int (own_len x1)), .val (.int (own_len y1))] [])) t
            refine XS.iloadN X16.here hx rfl (hb hby d_same_42) rfl ?_
            show Steps p.tables e below (T16.setTop (mkF m 43 #[.val (.int x1), .val (.int y1), .val (.int (own_len x1)), .val (.int (own_len y1))] [(.int x1)])) t
            refine XS.bipush X16.here hx rfl (hb hby d_same_43) ?_
            show Steps p.tables e below (T16.setTop (mkF m 45 #[.val (.int x1), .val (.int y1), .val (.int (own_len x1)), .val (.int (own_len y1))] [(.int (8 : Int32)), (.int x1)])) t
            refine XS.iushr X16.here hx rfl (hb hby d_same_45) rfl ?_
            show Steps p.tables e below (T16.setTop (mkF m 46 #[.val (.int x1), .val (.int y1), .val (.int (own_len x1)), .val (.int (own_len y1))] [(.int ((x1.toUInt32 >>> ((8 : Int32) &&& 31).toUInt32).toInt32))])) t
            refine XS.sipush X16.here hx rfl (hb hby d_same_46) ?_
            show Steps p.tables e below (T16.setTop (mkF m 49 #[.val (.int x1), .val (.int y1), .val (.int (own_len x1)), .val (.int (own_len y1))] [(.int (255 : Int32)), (.int ((x1.toUInt32 >>> ((8 : Int32) &&& 31).toUInt32).toInt32))])) t
            refine XS.iand X16.here hx rfl (hb hby d_same_49) rfl ?_
            show Steps p.tables e below (T16.setTop (mkF m 50 #[.val (.int x1), .val (.int y1), .val (.int (own_len x1)), .val (.int (own_len y1))] [(.int (((x1.toUInt32 >>> ((8 : Int32) &&& 31).toUInt32).toInt32) &&& (255 : Int32)))])) t
            refine XS.iloadN X16.here hx rfl (hb hby d_same_50) rfl ?_
            show Steps p.tables e below (T16.setTop (mkF m 51 #[.val (.int x1), .val (.int y1), .val (.int (own_len x1)), .val (.int (own_len y1))] [(.int y1), (.int (((x1.toUInt32 >>> ((8 : Int32) &&& 31).toUInt32).toInt32) &&& (255 : Int32)))])) t
            refine XS.bipush X16.here hx rfl (hb hby d_same_51) ?_
            show Steps p.tables e below (T16.setTop (mkF m 53 #[.val (.int x1), .val (.int y1), .val (.int (own_len x1)), .val (.int (own_len y1))] [(.int (8 : Int32)), (.int y1), (.int (((x1.toUInt32 >>> ((8 : Int32) &&& 31).toUInt32).toInt32) &&& (255 : Int32)))])) t
            refine XS.iushr X16.here hx rfl (hb hby d_same_53) rfl ?_
            show Steps p.tables e below (T16.setTop (mkF m 54 #[.val (.int x1), .val (.int y1), .val (.int (own_len x1)), .val (.int (own_len y1))] [(.int ((y1.toUInt32 >>> ((8 : Int32) &&& 31).toUInt32).toInt32)), (.int (((x1.toUInt32 >>> ((8 : Int32) &&& 31).toUInt32).toInt32) &&& (255 : Int32)))])) t
            refine XS.sipush X16.here hx rfl (hb hby d_same_54) ?_
            show Steps p.tables e below (T16.setTop (mkF m 57 #[.val (.int x1), .val (.int y1), .val (.int (own_len x1)), .val (.int (own_len y1))] [(.int (255 : Int32)), (.int ((y1.toUInt32 >>> ((8 : Int32) &&& 31).toUInt32).toInt32)), (.int (((x1.toUInt32 >>> ((8 : Int32) &&& 31).toUInt32).toInt32) &&& (255 : Int32)))])) t
            refine XS.iand X16.here hx rfl (hb hby d_same_57) rfl ?_
            show Steps p.tables e below (T16.setTop (mkF m 58 #[.val (.int x1), .val (.int y1), .val (.int (own_len x1)), .val (.int (own_len y1))] [(.int (((y1.toUInt32 >>> ((8 : Int32) &&& 31).toUInt32).toInt32) &&& (255 : Int32))), (.int (((x1.toUInt32 >>> ((8 : Int32) &&& 31).toUInt32).toInt32) &&& (255 : Int32)))])) t
            exact k)
          by_cases z4 : (((x1.toUInt32 >>> ((8 : Int32) &&& 31).toUInt32).toInt32) &&& (255 : Int32)) = (((y1.toUInt32 >>> ((8 : Int32) &&& 31).toUInt32).toInt32) &&& (255 : Int32))
          · replace pre : Pth p e below S0 T16 (mkF m 64 #[.val (.int x1), .val (.int y1), .val (.int (own_len x1)), .val (.int (own_len y1))] [(.int (1 : Int32))]) := fun t k => pre t (by
              show Steps p.tables e below (T16.setTop (mkF m 58 #[.val (.int x1), .val (.int y1), .val (.int (own_len x1)), .val (.int (own_len y1))] [(.int (((y1.toUInt32 >>> ((8 : Int32) &&& 31).toUInt32).toInt32) &&& (255 : Int32))), (.int (((x1.toUInt32 >>> ((8 : Int32) &&& 31).toUInt32).toInt32) &&& (255 : Int32)))])) t
              refine XS.icmpYes X16.here hx rfl (pc0 := 58) (pc' := 63) rfl (hb hby d_same_58) rfl (XT.ii_eq_t z4) (by decide) (by decide) ?_
              show Steps p.tables e below (T16.setTop (mkF m 63 #[.val (.int x1), .val (.int y1), .val (.int (own_len x1)), .val (.int (own_len y1))] [])) t
              refine XS.iconst X16.here hx rfl (hb hby d_same_63) ?_
              show Steps p.tables e below (T16.setTop (mkF m 64 #[.val (.int x1), .val (.int y1), .val (.int (own_len x1)), .val (.int (own_len y1))] [(.int (1 : Int32))])) t
              exact k)
            obtain ⟨fs, hr, hrun, hended, hW, hsame⟩ := X16.leave (v := some (.int (1 : Int32))) (fun h => by rw [Bd.returns] at h; cases h)
            subst hS0
            refine ⟨_, _, pre _ ?_, hrun, hended, _, _, rfl, ?_, ⟨_, rfl⟩, hW, hsame.mono (by decide) (by decide)⟩
            · exact retN X16 hx (t := .boolean) Bd.returns (by simp) (hb hby d_same_64) hr
            · show Q_same Z x1 y1 h0 n0 _ T16.heap _
              rw [e16]
              exact ⟨by rw [own_same, if_pos z0, if_neg z1, if_pos z2, own_same2, if_neg z3, if_pos (show own_b1 x1 = own_b1 y1 from z4)], N16, rfl⟩
          · replace pre : Pth p e below S0 T16 (mkF m 62 #[.val (.int x1), .val (.int y1), .val (.int (own_len x1)), .val (.int (own_len y1))] [(.int (0 : Int32))]) := fun t k => pre t (by
              show Steps p.tables e below (T16.setTop (mkF m 58 #[.val (.int x1), .val (.int y1), .val (.int (own_len x1)), .val (.int (own_len y1))] [(.int (((y1.toUInt32 >>> ((8 : Int32) &&& 31).toUInt32).toInt32) &&& (255 : Int32))), (.int (((x1.toUInt32 >>> ((8 : Int32) &&& 31).toUInt32).toInt32) &&& (255 : Int32)))])) t
              refine XS.icmpNo X16.here hx rfl (hb hby d_same_58) rfl (XT.ii_eq_f z4) ?_
              show Steps p.tables e below (T16.setTop (mkF m 61 #[.val (.int x1), .val (.int y1), .val (.int (own_len x1)), .val (.int (own_len y1))] [])) t
              refine XS.iconst X16.here hx rfl (hb hby d_same_61) ?_
              show Steps p.tables e below (T16.setTop (mkF m 62 #[.val (.int x1), .val (.int y1), .val (.int (own_len x1)), .val (.int (own_len y1))] [(.int (0 : Int32))])) t
              exact k)
            obtain ⟨fs, hr, hrun, hended, hW, hsame⟩ := X16.leave (v := some (.int (0 : Int32))) (fun h => by rw [Bd.returns] at h; cases h)
            subst hS0
            refine ⟨_, _, pre _ ?_, hrun, hended, _, _, rfl, ?_, ⟨_, rfl⟩, hW, hsame.mono (by decide) (by decide)⟩
            · exact retN X16 hx (t := .boolean) Bd.returns (by simp) (hb hby d_same_62) hr
            · show Q_same Z x1 y1 h0 n0 _ T16.heap _
              rw [e16]
              exact ⟨by rw [own_same, if_pos z0, if_neg z1, if_pos z2, own_same2, if_neg z3, if_neg (show ¬ own_b1 x1 = own_b1 y1 from z4)], N16, rfl⟩
      · replace pre : Pth p e below S0 T16 (mkF m 36 #[.val (.int x1), .val (.int y1), .val (.int (own_len x1)), .val (.int (own_len y1))] [(.int (0 : Int32))]) := fun t k => pre t (by
          show Steps p.tables e below (T16.setTop (mkF m 32 #[.val (.int x1), .val (.int y1), .val (.int (own_len x1)), .val (.int (own_len y1))] [(.int (y1 &&& (255 : Int32))), (.int (x1 &&& (255 : Int32)))])) t
          refine XS.icmpNo X16.here hx rfl (hb hby d_same_32) rfl (XT.ii_eq_f z2) ?_
          show Steps p.tables e below (T16.setTop (mkF m 35 #[.val (.int x1), .val (.int y1), .val (.int (own_len x1)), .val (.int (own_len y1))] [])) t
          refine XS.iconst X16.here hx rfl (hb hby d_same_35) ?_
          show Steps p.tables e below (T16.setTop (mkF m 36 #[.val (.int x1), .val (.int y1), .val (.int (own_len x1)), .val (.int (own_len y1))] [(.int (0 : Int32))])) t
          exact k)
        obtain ⟨fs, hr, hrun, hended, hW, hsame⟩ := X16.leave (v := some (.int (0 : Int32))) (fun h => by rw [Bd.returns] at h; cases h)
        subst hS0
        refine ⟨_, _, pre _ ?_, hrun, hended, _, _, rfl, ?_, ⟨_, rfl⟩, hW, hsame.mono (by decide) (by decide)⟩
        · exact retN X16 hx (t := .boolean) Bd.returns (by simp) (hb hby d_same_36) hr
        · show Q_same Z x1 y1 h0 n0 _ T16.heap _
          rw [e16]
          exact ⟨by rw [own_same, if_pos z0, if_neg z1, if_neg z2], N16, rfl⟩
  · replace pre : Pth p e below S0 T16 (mkF m 16 #[.val (.int x1), .val (.int y1), .val (.int (own_len x1)), .val (.int (own_len y1))] [(.int (0 : Int32))]) := fun t k => pre t (by
      show Steps p.tables e below (T16.setTop (mkF m 12 #[.val (.int x1), .val (.int y1), .val (.int (own_len x1)), .val (.int (own_len y1))] [(.int (own_len y1)), (.int (own_len x1))])) t
      refine XS.icmpNo X16.here hx rfl (hb hby d_same_12) rfl (XT.ii_eq_f z0) ?_
      show Steps p.tables e below (T16.setTop (mkF m 15 #[.val (.int x1), .val (.int y1), .val (.int (own_len x1)), .val (.int (own_len y1))] [])) t
      refine XS.iconst X16.here hx rfl (hb hby d_same_15) ?_
      show Steps p.tables e below (T16.setTop (mkF m 16 #[.val (.int x1), .val (.int y1), .val (.int (own_len x1)), .val (.int (own_len y1))] [(.int (0 : Int32))])) t
      exact k)
    obtain ⟨fs, hr, hrun, hended, hW, hsame⟩ := X16.leave (v := some (.int (0 : Int32))) (fun h => by rw [Bd.returns] at h; cases h)
    subst hS0
    refine ⟨_, _, pre _ ?_, hrun, hended, _, _, rfl, ?_, ⟨_, rfl⟩, hW, hsame.mono (by decide) (by decide)⟩
    · exact retN X16 hx (t := .boolean) Bd.returns (by simp) (hb hby d_same_16) hr
    · show Q_same Z x1 y1 h0 n0 _ T16.heap _
      rw [e16]
      exact ⟨by rw [own_same, if_neg z0], N16, rfl⟩
def Q_cp2 (Z : State) (a1 : Addr) (b1 : Addr) (x y : Int32) (f : Nat → Value) (h0 : Heap) (n0 : Nat) (v : Option Value) (h : Heap) (L : List Loc) : Prop := v = some (.int 2) ∧ Fr n0 L ∧ Keep h0 h [b1] ∧ OFun Z h b1 .byte 2 (own_two (x.toInt8.toInt32) (y.toInt8.toInt32))
set_option maxRecDepth 65536 in
set_option maxHeartbeats 40000000 in
theorem rm_cp2 (l : Launch) (Z : State) (a0 : Array Value) (hw : ∀ d ∈ tables_1, d.before a0 Z = true) (ws : List Jvm.Cond) (a1 : Addr) (b1 : Addr) (x y : Int32) (f : Nat → Value) (h0 : Heap) (n0 : Nat) (gb : n0 ≤ b1) (ne : a1 ≠ b1) (Fa : OFun Z h0 a1 .char 2 (own_two x y)) (Fb : OFun Z h0 b1 .byte 2 f) (hx0 : ¬ (255 : Int32) < x) (hy0 : ¬ (255 : Int32) < y) (nx : nar .byte (x.toInt8.toInt32) = x.toInt8.toInt32) (ny : nar .byte (y.toInt8.toInt32) = y.toInt8.toInt32) :
    MetFree l (⟨"java/lang/StringUTF16", "compress", "([CI[BII)I"⟩ : MethodName) (head1 (Jvm.Cond.code (⟨"java/lang/StringUTF16", "compress", "([CI[BII)I"⟩ : MethodName) jdk_52_method_21_code 7 (some .int) :: ws) ({ frames := 0, cells := 0, slots := 0, locals := 0 } : Room)) (fun a U => a = #[(.ref a1), (.int (0 : Int32)), (.ref b1), (.int (0 : Int32)), (.int (2 : Int32))] ∧ Z.Warmed39 U.vm ∧ U.heap = h0) (fun _ _ _ _ _ => True) (fun _ U o U' => ∃ v L, o = .returned v ∧ Q_cp2 Z a1 b1 x y f h0 n0 v U'.heap L ∧ FrameEnd U o U' L ({ frames := 0, cells := 0, slots := 0, locals := 0 } : Room).cells ({ frames := 0, cells := 0, slots := 0, locals := 0 } : Room).slots) := by
  refine MetFree.of_bodySF (plainFor_of_name pn_java_lang_StringUTF16) hisR ?_
  intro p e s m args below meth c s₁ Bd hml0 hP hK
  obtain ⟨rfl, hZ, hh⟩ := hP
  have hx := Bd.exec
  have hby := Bd.bytes
  have hml : c.maxLocals = 7 := hml0
  have hown : s.vm.findClass "java/lang/StringUTF16" = some m.cls := findClass_of_methodNamed Bd.named
  have hnm := (name_of_methodNamed Bd.named Bd.method).1
  have X0 : Stand p l e ({ frames := 0, cells := 0, slots := 0, locals := 0 } : Room) s m #[(.ref a1), (.int (0 : Int32)), (.ref b1), (.int (0 : Int32)), (.int (2 : Int32))] below meth c s₁ [] 0 0 := Stand.of_body Bd
  have e0 : s₁.heap = h0 := by rw [← hh, Bd.state]; rfl
  have N0 := Fr.nil n0
  obtain ⟨S0, hS0⟩ : ∃ S0, S0 = s₁.setTop (entryFrame m #[(.ref a1), (.int (0 : Int32)), (.ref b1), (.int (0 : Int32)), (.int (2 : Int32))] 7) := ⟨_, rfl⟩
  have pre : Pth p e below S0 s₁ (mkF m 0 #[.val (.ref a1), .val (.int (0 : Int32)), .val (.ref b1), .val (.int (0 : Int32)), .val (.int (2 : Int32)), .unset, .unset] []) := fun t k => by rw [hS0]; exact castTop (ef_cp2 m a1 (0 : Int32) b1 (0 : Int32) (2 : Int32)) k
  replace pre : Pth p e below S0 s₁ (mkF m 12 #[.val (.ref a1), .val (.int (0 : Int32)), .val (.ref b1), .val (.int (0 : Int32)), .val (.int (2 : Int32)), .val (.int (0 : Int32)), .unset] [(.int (0 : Int32)), (.ref a1)]) := fun t k => pre t (by
    show Steps p.tables e below (s₁.setTop (mkF m 0 #[.val (.ref a1), .val (.int (0 : Int32)), .val (.ref b1), .val (.int (0 : Int32)), .val (.int (2 : Int32)), .unset, .unset] [])) t
    refine XS.iconst X0.here hx rfl (hb hby d_cp2_0) ?_
    show Steps p.tables e below (s₁.setTop (mkF m 1 #[.val (.ref a1), .val (.int (0 : Int32)), .val (.ref b1), .val (.int (0 : Int32)), .val (.int (2 : Int32)), .unset, .unset] [(.int (0 : Int32))])) t
    refine XS.istore X0.here hx rfl (hb hby d_cp2_1) rfl (l' := #[.val (.ref a1), .val (.int (0 : Int32)), .val (.ref b1), .val (.int (0 : Int32)), .val (.int (2 : Int32)), .val (.int (0 : Int32)), .unset]) rfl ?_
    show Steps p.tables e below (s₁.setTop (mkF m 3 #[.val (.ref a1), .val (.int (0 : Int32)), .val (.ref b1), .val (.int (0 : Int32)), .val (.int (2 : Int32)), .val (.int (0 : Int32)), .unset] [])) t
    refine XS.iload X0.here hx rfl (hb hby d_cp2_3) rfl ?_
    show Steps p.tables e below (s₁.setTop (mkF m 5 #[.val (.ref a1), .val (.int (0 : Int32)), .val (.ref b1), .val (.int (0 : Int32)), .val (.int (2 : Int32)), .val (.int (0 : Int32)), .unset] [(.int (0 : Int32))])) t
    refine XS.iload X0.here hx rfl (hb hby d_cp2_5) rfl ?_
    show Steps p.tables e below (s₁.setTop (mkF m 7 #[.val (.ref a1), .val (.int (0 : Int32)), .val (.ref b1), .val (.int (0 : Int32)), .val (.int (2 : Int32)), .val (.int (0 : Int32)), .unset] [(.int (2 : Int32)), (.int (0 : Int32))])) t
    refine XS.icmpNo X0.here hx rfl (hb hby d_cp2_7) rfl (XT.ii_ge_f (by decide)) ?_
    show Steps p.tables e below (s₁.setTop (mkF m 10 #[.val (.ref a1), .val (.int (0 : Int32)), .val (.ref b1), .val (.int (0 : Int32)), .val (.int (2 : Int32)), .val (.int (0 : Int32)), .unset] [])) t
    refine XS.aloadN X0.here hx rfl (hb hby d_cp2_10) rfl rfl ?_
    show Steps p.tables e below (s₁.setTop (mkF m 11 #[.val (.ref a1), .val (.int (0 : Int32)), .val (.ref b1), .val (.int (0 : Int32)), .val (.int (2 : Int32)), .val (.int (0 : Int32)), .unset] [(.ref a1)])) t
    refine XS.iloadN X0.here hx rfl (hb hby d_cp2_11) rfl ?_
    show Steps p.tables e below (s₁.setTop (mkF m 12 #[.val (.ref a1), .val (.int (0 : Int32)), .val (.ref b1), .val (.int (0 : Int32)), .val (.int (2 : Int32)), .val (.int (0 : Int32)), .unset] [(.int (0 : Int32)), (.ref a1)])) t
    exact k)
  obtain ⟨cl17, Ar17, Sz17, Gt17⟩ := id Fa
  have hin17 : ¬ ((0 : Int32) < 0 ∨ cl17.slots.size ≤ ((0 : Int32)).toNatClampNeg) := by rw [Sz17]; exact (by decide)
  have hat17 : cl17.slots[((0 : Int32)).toNatClampNeg]? = some (.int x) := (Gt17 _ (Nat.lt_of_lt_of_eq (Nat.lt_of_not_le fun q => hin17 (Or.inr q)) Sz17)).trans (congrArg some (rfl))
  replace pre : Pth p e below S0 s₁ (mkF m 31 #[.val (.ref a1), .val (.int (0 : Int32)), .val (.ref b1), .val (.int (0 : Int32)), .val (.int (2 : Int32)), .val (.int (0 : Int32)), .val (.int x)] [(.int (x.toInt8.toInt32)), (.int (0 : Int32)), (.ref b1)]) := fun t k => pre t (by
    show Steps p.tables e below (s₁.setTop (mkF m 12 #[.val (.ref a1), .val (.int (0 : Int32)), .val (.ref b1), .val (.int (0 : Int32)), .val (.int (2 : Int32)), .val (.int (0 : Int32)), .unset] [(.int (0 : Int32)), (.ref a1)])) t
    refine X0.caload hx (j := (0 : Int32)) (v := (.int x)) (by rw [e0]; exact Ar17.1) (State.isArrayOf_alike hZ.alike Ar17.2.1) Ar17.2.2 hin17 hat17 (g := (mkF m 12 #[.val (.ref a1), .val (.int (0 : Int32)), .val (.ref b1), .val (.int (0 : Int32)), .val (.int (2 : Int32)), .val (.int (0 : Int32)), .unset] [(.int (0 : Int32)), (.ref a1)])) rfl rfl (hb hby d_cp2_12) _ ?_
    show Steps p.tables e below (s₁.setTop (mkF m 13 #[.val (.ref a1), .val (.int (0 : Int32)), .val (.ref b1), .val (.int (0 : Int32)), .val (.int (2 : Int32)), .val (.int (0 : Int32)), .unset] [(.int x)])) t
    refine XS.istore X0.here hx rfl (hb hby d_cp2_13) rfl (l' := #[.val (.ref a1), .val (.int (0 : Int32)), .val (.ref b1), .val (.int (0 : Int32)), .val (.int (2 : Int32)), .val (.int (0 : Int32)), .val (.int x)]) rfl ?_
    show Steps p.tables e below (s₁.setTop (mkF m 15 #[.val (.ref a1), .val (.int (0 : Int32)), .val (.ref b1), .val (.int (0 : Int32)), .val (.int (2 : Int32)), .val (.int (0 : Int32)), .val (.int x)] [])) t
    refine XS.iload X0.here hx rfl (hb hby d_cp2_15) rfl ?_
    show Steps p.tables e below (s₁.setTop (mkF m 17 #[.val (.ref a1), .val (.int (0 : Int32)), .val (.ref b1), .val (.int (0 : Int32)), .val (.int (2 : Int32)), .val (.int (0 : Int32)), .val (.int x)] [(.int x)])) t
    refine XS.sipush X0.here hx rfl (hb hby d_cp2_17) ?_
    show Steps p.tables e below (s₁.setTop (mkF m 20 #[.val (.ref a1), .val (.int (0 : Int32)), .val (.ref b1), .val (.int (0 : Int32)), .val (.int (2 : Int32)), .val (.int (0 : Int32)), .val (.int x)] [(.int (255 : Int32)), (.int x)])) t
    refine XS.icmpYes X0.here hx rfl (pc0 := 20) (pc' := 26) rfl (hb hby d_cp2_20) rfl (XT.ii_le_t hx0) (by decide) (by decide) ?_
    show Steps p.tables e below (s₁.setTop (mkF m 26 #[.val (.ref a1), .val (.int (0 : Int32)), .val (.ref b1), .val (.int (0 : Int32)), .val (.int (2 : Int32)), .val (.int (0 : Int32)), .val (.int x)] [])) t
    refine XS.aloadN X0.here hx rfl (hb hby d_cp2_26) rfl rfl ?_
    show Steps p.tables e below (s₁.setTop (mkF m 27 #[.val (.ref a1), .val (.int (0 : Int32)), .val (.ref b1), .val (.int (0 : Int32)), .val (.int (2 : Int32)), .val (.int (0 : Int32)), .val (.int x)] [(.ref b1)])) t
    refine XS.iloadN X0.here hx rfl (hb hby d_cp2_27) rfl ?_
    show Steps p.tables e below (s₁.setTop (mkF m 28 #[.val (.ref a1), .val (.int (0 : Int32)), .val (.ref b1), .val (.int (0 : Int32)), .val (.int (2 : Int32)), .val (.int (0 : Int32)), .val (.int x)] [(.int (0 : Int32)), (.ref b1)])) t
    refine XS.iload X0.here hx rfl (hb hby d_cp2_28) rfl ?_
    show Steps p.tables e below (s₁.setTop (mkF m 30 #[.val (.ref a1), .val (.int (0 : Int32)), .val (.ref b1), .val (.int (0 : Int32)), .val (.int (2 : Int32)), .val (.int (0 : Int32)), .val (.int x)] [(.int x), (.int (0 : Int32)), (.ref b1)])) t
    refine XS.i2b X0.here hx rfl (hb hby d_cp2_30) rfl ?_
    show Steps p.tables e below (s₁.setTop (mkF m 31 #[.val (.ref a1), .val (.int (0 : Int32)), .val (.ref b1), .val (.int (0 : Int32)), .val (.int (2 : Int32)), .val (.int (0 : Int32)), .val (.int x)] [(.int (x.toInt8.toInt32)), (.int (0 : Int32)), (.ref b1)])) t
    exact k)
  obtain ⟨cl18, Ar18, Sz18, -⟩ := id Fb
  obtain ⟨T18, h18, X18, e18, W18, st18⟩ := stB X0 hx hZ e0 Ar18 (j := (0 : Int32)) (by rw [Sz18]; exact (by decide)) (g := (mkF m 31 #[.val (.ref a1), .val (.int (0 : Int32)), .val (.ref b1), .val (.int (0 : Int32)), .val (.int (2 : Int32)), .val (.int (0 : Int32)), .val (.int x)] [(.int (x.toInt8.toInt32)), (.int (0 : Int32)), (.ref b1)])) rfl rfl (hb hby d_cp2_31)
  have F18 := OFun.set Fb W18
  have N18 := Fr.snoc X18 N0 gb
  replace pre : Pth p e below S0 T18 (mkF m 32 #[.val (.ref a1), .val (.int (0 : Int32)), .val (.ref b1), .val (.int (0 : Int32)), .val (.int (2 : Int32)), .val (.int (0 : Int32)), .val (.int x)] []) := fun t k => pre t (st18 _ k)
  have FA0 := Fa.other W18 ne
  replace pre : Pth p e below S0 T18 (mkF m 12 #[.val (.ref a1), .val (.int ((0 : Int32) + (1 : Int32))), .val (.ref b1), .val (.int ((0 : Int32) + (1 : Int32))), .val (.int (2 : Int32)), .val (.int ((0 : Int32) + (1 : Int32))), .val (.int x)] [(.int ((0 : Int32) + (1 : Int32))), (.ref a1)]) := fun t k => pre t (by
    show Steps p.tables e below (T18.setTop (mkF m 32 #[.val (.ref a1), .val (.int (0 : Int32)), .val (.ref b1), .val (.int (0 : Int32)), .val (.int (2 : Int32)), .val (.int (0 : Int32)), .val (.int x)] [])) t
    refine XS.iinc X18.here hx rfl (hb hby d_cp2_32) rfl (l' := #[.val (.ref a1), .val (.int ((0 : Int32) + (1 : Int32))), .val (.ref b1), .val (.int (0 : Int32)), .val (.int (2 : Int32)), .val (.int (0 : Int32)), .val (.int x)]) rfl ?_
    show Steps p.tables e below (T18.setTop (mkF m 35 #[.val (.ref a1), .val (.int ((0 : Int32) + (1 : Int32))), .val (.ref b1), .val (.int (0 : Int32)), .val (.int (2 : Int32)), .val (.int (0 : Int32)), .val (.int x)] [])) t
    refine XS.iinc X18.here hx rfl (hb hby d_cp2_35) rfl (l' := #[.val (.ref a1), .val (.int ((0 : Int32) + (1 : Int32))), .val (.ref b1), .val (.int ((0 : Int32) + (1 : Int32))), .val (.int (2 : Int32)), .val (.int (0 : Int32)), .val (.int x)]) rfl ?_
    show Steps p.tables e below (T18.setTop (mkF m 38 #[.val (.ref a1), .val (.int ((0 : Int32) + (1 : Int32))), .val (.ref b1), .val (.int ((0 : Int32) + (1 : Int32))), .val (.int (2 : Int32)), .val (.int (0 : Int32)), .val (.int x)] [])) t
    refine XS.iinc X18.here hx rfl (hb hby d_cp2_38) rfl (l' := #[.val (.ref a1), .val (.int ((0 : Int32) + (1 : Int32))), .val (.ref b1), .val (.int ((0 : Int32) + (1 : Int32))), .val (.int (2 : Int32)), .val (.int ((0 : Int32) + (1 : Int32))), .val (.int x)]) rfl ?_
    show Steps p.tables e below (T18.setTop (mkF m 41 #[.val (.ref a1), .val (.int ((0 : Int32) + (1 : Int32))), .val (.ref b1), .val (.int ((0 : Int32) + (1 : Int32))), .val (.int (2 : Int32)), .val (.int ((0 : Int32) + (1 : Int32))), .val (.int x)] [])) t
    refine XS.goto X18.here hx rfl (pc0 := 41) (pc' := 3) rfl (hb hby d_cp2_41) (by decide) (by decide) ?_
    show Steps p.tables e below (T18.setTop (mkF m 3 #[.val (.ref a1), .val (.int ((0 : Int32) + (1 : Int32))), .val (.ref b1), .val (.int ((0 : Int32) + (1 : Int32))), .val (.int (2 : Int32)), .val (.int ((0 : Int32) + (1 : Int32))), .val (.int x)] [])) t
    refine XS.iload X18.here hx rfl (hb hby d_cp2_3) rfl ?_
    show Steps p.tables e below (T18.setTop (mkF m 5 #[.val (.ref a1), .val (.int ((0 : Int32) + (1 : Int32))), .val (.ref b1), .val (.int ((0 : Int32) + (1 : Int32))), .val (.int (2 : Int32)), .val (.int ((0 : Int32) + (1 : Int32))), .val (.int x)] [(.int ((0 : Int32) + (1 : Int32)))])) t
    refine XS.iload X18.here hx rfl (hb hby d_cp2_5) rfl ?_
    show Steps p.tables e below (T18.setTop (mkF m 7 #[.val (.ref a1), .val (.int ((0 : Int32) + (1 : Int32))), .val (.ref b1), .val (.int ((0 : Int32) + (1 : Int32))), .val (.int (2 : Int32)), .val (.int ((0 : Int32) + (1 : Int32))), .val (.int x)] [(.int (2 : Int32)), (.int ((0 : Int32) + (1 : Int32)))])) t
    refine XS.icmpNo X18.here hx rfl (hb hby d_cp2_7) rfl (XT.ii_ge_f (by decide)) ?_
    show Steps p.tables e below (T18.setTop (mkF m 10 #[.val (.ref a1), .val (.int ((0 : Int32) + (1 : Int32))), .val (.ref b1), .val (.int ((0 : Int32) + (1 : Int32))), .val (.int (2 : Int32)), .val (.int ((0 : Int32) + (1 : Int32))), .val (.int x)] [])) t
    refine XS.aloadN X18.here hx rfl (hb hby d_cp2_10) rfl rfl ?_
    show Steps p.tables e below (T18.setTop (mkF m 11 #[.val (.ref a1), .val (.int ((0 : Int32) + (1 : Int32))), .val (.ref b1), .val (.int ((0 : Int32) + (1 : Int32))), .val (.int (2 : Int32)), .val (.int ((0 : Int32) + (1 : Int32))), .val (.int x)] [(.ref a1)])) t
    refine XS.iloadN X18.here hx rfl (hb hby d_cp2_11) rfl ?_
    show Steps p.tables e below (T18.setTop (mkF m 12 #[.val (.ref a1), .val (.int ((0 : Int32) + (1 : Int32))), .val (.ref b1), .val (.int ((0 : Int32) + (1 : Int32))), .val (.int (2 : Int32)), .val (.int ((0 : Int32) + (1 : Int32))), .val (.int x)] [(.int ((0 : Int32) + (1 : Int32))), (.ref a1)])) t
    exact k)
  obtain ⟨cl19, Ar19, Sz19, Gt19⟩ := id FA0
  have hin19 : ¬ (((0 : Int32) + (1 : Int32)) < 0 ∨ cl19.slots.size ≤ (((0 : Int32) + (1 : Int32))).toNatClampNeg) := by rw [Sz19]; exact (by decide)
  have hat19 : cl19.slots[(((0 : Int32) + (1 : Int32))).toNatClampNeg]? = some (.int y) := (Gt19 _ (Nat.lt_of_lt_of_eq (Nat.lt_of_not_le fun q => hin19 (Or.inr q)) Sz19)).trans (congrArg some (rfl))
  replace pre : Pth p e below S0 T18 (mkF m 31 #[.val (.ref a1), .val (.int ((0 : Int32) + (1 : Int32))), .val (.ref b1), .val (.int ((0 : Int32) + (1 : Int32))), .val (.int (2 : Int32)), .val (.int ((0 : Int32) + (1 : Int32))), .val (.int y)] [(.int (y.toInt8.toInt32)), (.int ((0 : Int32) + (1 : Int32))), (.ref b1)]) := fun t k => pre t (by
    show Steps p.tables e below (T18.setTop (mkF m 12 #[.val (.ref a1), .val (.int ((0 : Int32) + (1 : Int32))), .val (.ref b1), .val (.int ((0 : Int32) + (1 : Int32))), .val (.int (2 : Int32)), .val (.int ((0 : Int32) + (1 : Int32))), .val (.int x)] [(.int ((0 : Int32) + (1 : Int32))), (.ref a1)])) t
    refine X18.caload hx (j := ((0 : Int32) + (1 : Int32))) (v := (.int y)) (by rw [e18]; exact Ar19.1) (State.isArrayOf_alike hZ.alike Ar19.2.1) Ar19.2.2 hin19 hat19 (g := (mkF m 12 #[.val (.ref a1), .val (.int ((0 : Int32) + (1 : Int32))), .val (.ref b1), .val (.int ((0 : Int32) + (1 : Int32))), .val (.int (2 : Int32)), .val (.int ((0 : Int32) + (1 : Int32))), .val (.int x)] [(.int ((0 : Int32) + (1 : Int32))), (.ref a1)])) rfl rfl (hb hby d_cp2_12) _ ?_
    show Steps p.tables e below (T18.setTop (mkF m 13 #[.val (.ref a1), .val (.int ((0 : Int32) + (1 : Int32))), .val (.ref b1), .val (.int ((0 : Int32) + (1 : Int32))), .val (.int (2 : Int32)), .val (.int ((0 : Int32) + (1 : Int32))), .val (.int x)] [(.int y)])) t
    refine XS.istore X18.here hx rfl (hb hby d_cp2_13) rfl (l' := #[.val (.ref a1), .val (.int ((0 : Int32) + (1 : Int32))), .val (.ref b1), .val (.int ((0 : Int32) + (1 : Int32))), .val (.int (2 : Int32)), .val (.int ((0 : Int32) + (1 : Int32))), .val (.int y)]) rfl ?_
    show Steps p.tables e below (T18.setTop (mkF m 15 #[.val (.ref a1), .val (.int ((0 : Int32) + (1 : Int32))), .val (.ref b1), .val (.int ((0 : Int32) + (1 : Int32))), .val (.int (2 : Int32)), .val (.int ((0 : Int32) + (1 : Int32))), .val (.int y)] [])) t
    refine XS.iload X18.here hx rfl (hb hby d_cp2_15) rfl ?_
    show Steps p.tables e below (T18.setTop (mkF m 17 #[.val (.ref a1), .val (.int ((0 : Int32) + (1 : Int32))), .val (.ref b1), .val (.int ((0 : Int32) + (1 : Int32))), .val (.int (2 : Int32)), .val (.int ((0 : Int32) + (1 : Int32))), .val (.int y)] [(.int y)])) t
    refine XS.sipush X18.here hx rfl (hb hby d_cp2_17) ?_
    show Steps p.tables e below (T18.setTop (mkF m 20 #[.val (.ref a1), .val (.int ((0 : Int32) + (1 : Int32))), .val (.ref b1), .val (.int ((0 : Int32) + (1 : Int32))), .val (.int (2 : Int32)), .val (.int ((0 : Int32) + (1 : Int32))), .val (.int y)] [(.int (255 : Int32)), (.int y)])) t
    refine XS.icmpYes X18.here hx rfl (pc0 := 20) (pc' := 26) rfl (hb hby d_cp2_20) rfl (XT.ii_le_t hy0) (by decide) (by decide) ?_
    show Steps p.tables e below (T18.setTop (mkF m 26 #[.val (.ref a1), .val (.int ((0 : Int32) + (1 : Int32))), .val (.ref b1), .val (.int ((0 : Int32) + (1 : Int32))), .val (.int (2 : Int32)), .val (.int ((0 : Int32) + (1 : Int32))), .val (.int y)] [])) t
    refine XS.aloadN X18.here hx rfl (hb hby d_cp2_26) rfl rfl ?_
    show Steps p.tables e below (T18.setTop (mkF m 27 #[.val (.ref a1), .val (.int ((0 : Int32) + (1 : Int32))), .val (.ref b1), .val (.int ((0 : Int32) + (1 : Int32))), .val (.int (2 : Int32)), .val (.int ((0 : Int32) + (1 : Int32))), .val (.int y)] [(.ref b1)])) t
    refine XS.iloadN X18.here hx rfl (hb hby d_cp2_27) rfl ?_
    show Steps p.tables e below (T18.setTop (mkF m 28 #[.val (.ref a1), .val (.int ((0 : Int32) + (1 : Int32))), .val (.ref b1), .val (.int ((0 : Int32) + (1 : Int32))), .val (.int (2 : Int32)), .val (.int ((0 : Int32) + (1 : Int32))), .val (.int y)] [(.int ((0 : Int32) + (1 : Int32))), (.ref b1)])) t
    refine XS.iload X18.here hx rfl (hb hby d_cp2_28) rfl ?_
    show Steps p.tables e below (T18.setTop (mkF m 30 #[.val (.ref a1), .val (.int ((0 : Int32) + (1 : Int32))), .val (.ref b1), .val (.int ((0 : Int32) + (1 : Int32))), .val (.int (2 : Int32)), .val (.int ((0 : Int32) + (1 : Int32))), .val (.int y)] [(.int y), (.int ((0 : Int32) + (1 : Int32))), (.ref b1)])) t
    refine XS.i2b X18.here hx rfl (hb hby d_cp2_30) rfl ?_
    show Steps p.tables e below (T18.setTop (mkF m 31 #[.val (.ref a1), .val (.int ((0 : Int32) + (1 : Int32))), .val (.ref b1), .val (.int ((0 : Int32) + (1 : Int32))), .val (.int (2 : Int32)), .val (.int ((0 : Int32) + (1 : Int32))), .val (.int y)] [(.int (y.toInt8.toInt32)), (.int ((0 : Int32) + (1 : Int32))), (.ref b1)])) t
    exact k)
  obtain ⟨cl20, Ar20, Sz20, -⟩ := id F18
  obtain ⟨T20, h20, X20, e20, W20, st20⟩ := stB X18 hx hZ e18 Ar20 (j := ((0 : Int32) + (1 : Int32))) (by rw [Sz20]; exact (by decide)) (g := (mkF m 31 #[.val (.ref a1), .val (.int ((0 : Int32) + (1 : Int32))), .val (.ref b1), .val (.int ((0 : Int32) + (1 : Int32))), .val (.int (2 : Int32)), .val (.int ((0 : Int32) + (1 : Int32))), .val (.int y)] [(.int (y.toInt8.toInt32)), (.int ((0 : Int32) + (1 : Int32))), (.ref b1)])) rfl rfl (hb hby d_cp2_31)
  have F20 := OFun.set F18 W20
  have N20 := Fr.snoc X20 N18 gb
  replace pre : Pth p e below S0 T20 (mkF m 32 #[.val (.ref a1), .val (.int ((0 : Int32) + (1 : Int32))), .val (.ref b1), .val (.int ((0 : Int32) + (1 : Int32))), .val (.int (2 : Int32)), .val (.int ((0 : Int32) + (1 : Int32))), .val (.int y)] []) := fun t k => pre t (st20 _ k)
  have FA1 := FA0.other W20 ne
  replace pre : Pth p e below S0 T20 (mkF m 46 #[.val (.ref a1), .val (.int (((0 : Int32) + (1 : Int32)) + (1 : Int32))), .val (.ref b1), .val (.int (((0 : Int32) + (1 : Int32)) + (1 : Int32))), .val (.int (2 : Int32)), .val (.int (((0 : Int32) + (1 : Int32)) + (1 : Int32))), .val (.int y)] [(.int (2 : Int32))]) := fun t k => pre t (by
    show Steps p.tables e below (T20.setTop (mkF m 32 #[.val (.ref a1), .val (.int ((0 : Int32) + (1 : Int32))), .val (.ref b1), .val (.int ((0 : Int32) + (1 : Int32))), .val (.int (2 : Int32)), .val (.int ((0 : Int32) + (1 : Int32))), .val (.int y)] [])) t
    refine XS.iinc X20.here hx rfl (hb hby d_cp2_32) rfl (l' := #[.val (.ref a1), .val (.int (((0 : Int32) + (1 : Int32)) + (1 : Int32))), .val (.ref b1), .val (.int ((0 : Int32) + (1 : Int32))), .val (.int (2 : Int32)), .val (.int ((0 : Int32) + (1 : Int32))), .val (.int y)]) rfl ?_
    show Steps p.tables e below (T20.setTop (mkF m 35 #[.val (.ref a1), .val (.int (((0 : Int32) + (1 : Int32)) + (1 : Int32))), .val (.ref b1), .val (.int ((0 : Int32) + (1 : Int32))), .val (.int (2 : Int32)), .val (.int ((0 : Int32) + (1 : Int32))), .val (.int y)] [])) t
    refine XS.iinc X20.here hx rfl (hb hby d_cp2_35) rfl (l' := #[.val (.ref a1), .val (.int (((0 : Int32) + (1 : Int32)) + (1 : Int32))), .val (.ref b1), .val (.int (((0 : Int32) + (1 : Int32)) + (1 : Int32))), .val (.int (2 : Int32)), .val (.int ((0 : Int32) + (1 : Int32))), .val (.int y)]) rfl ?_
    show Steps p.tables e below (T20.setTop (mkF m 38 #[.val (.ref a1), .val (.int (((0 : Int32) + (1 : Int32)) + (1 : Int32))), .val (.ref b1), .val (.int (((0 : Int32) + (1 : Int32)) + (1 : Int32))), .val (.int (2 : Int32)), .val (.int ((0 : Int32) + (1 : Int32))), .val (.int y)] [])) t
    refine XS.iinc X20.here hx rfl (hb hby d_cp2_38) rfl (l' := #[.val (.ref a1), .val (.int (((0 : Int32) + (1 : Int32)) + (1 : Int32))), .val (.ref b1), .val (.int (((0 : Int32) + (1 : Int32)) + (1 : Int32))), .val (.int (2 : Int32)), .val (.int (((0 : Int32) + (1 : Int32)) + (1 : Int32))), .val (.int y)]) rfl ?_
    show Steps p.tables e below (T20.setTop (mkF m 41 #[.val (.ref a1), .val (.int (((0 : Int32) + (1 : Int32)) + (1 : Int32))), .val (.ref b1), .val (.int (((0 : Int32) + (1 : Int32)) + (1 : Int32))), .val (.int (2 : Int32)), .val (.int (((0 : Int32) + (1 : Int32)) + (1 : Int32))), .val (.int y)] [])) t
    refine XS.goto X20.here hx rfl (pc0 := 41) (pc' := 3) rfl (hb hby d_cp2_41) (by decide) (by decide) ?_
    show Steps p.tables e below (T20.setTop (mkF m 3 #[.val (.ref a1), .val (.int (((0 : Int32) + (1 : Int32)) + (1 : Int32))), .val (.ref b1), .val (.int (((0 : Int32) + (1 : Int32)) + (1 : Int32))), .val (.int (2 : Int32)), .val (.int (((0 : Int32) + (1 : Int32)) + (1 : Int32))), .val (.int y)] [])) t
    refine XS.iload X20.here hx rfl (hb hby d_cp2_3) rfl ?_
    show Steps p.tables e below (T20.setTop (mkF m 5 #[.val (.ref a1), .val (.int (((0 : Int32) + (1 : Int32)) + (1 : Int32))), .val (.ref b1), .val (.int (((0 : Int32) + (1 : Int32)) + (1 : Int32))), .val (.int (2 : Int32)), .val (.int (((0 : Int32) + (1 : Int32)) + (1 : Int32))), .val (.int y)] [(.int (((0 : Int32) + (1 : Int32)) + (1 : Int32)))])) t
    refine XS.iload X20.here hx rfl (hb hby d_cp2_5) rfl ?_
    show Steps p.tables e below (T20.setTop (mkF m 7 #[.val (.ref a1), .val (.int (((0 : Int32) + (1 : Int32)) + (1 : Int32))), .val (.ref b1), .val (.int (((0 : Int32) + (1 : Int32)) + (1 : Int32))), .val (.int (2 : Int32)), .val (.int (((0 : Int32) + (1 : Int32)) + (1 : Int32))), .val (.int y)] [(.int (2 : Int32)), (.int (((0 : Int32) + (1 : Int32)) + (1 : Int32)))])) t
    refine XS.icmpYes X20.here hx rfl (pc0 := 7) (pc' := 44) rfl (hb hby d_cp2_7) rfl (XT.ii_ge_t (by decide)) (by decide) (by decide) ?_
    show Steps p.tables e below (T20.setTop (mkF m 44 #[.val (.ref a1), .val (.int (((0 : Int32) + (1 : Int32)) + (1 : Int32))), .val (.ref b1), .val (.int (((0 : Int32) + (1 : Int32)) + (1 : Int32))), .val (.int (2 : Int32)), .val (.int (((0 : Int32) + (1 : Int32)) + (1 : Int32))), .val (.int y)] [])) t
    refine XS.iload X20.here hx rfl (hb hby d_cp2_44) rfl ?_
    show Steps p.tables e below (T20.setTop (mkF m 46 #[.val (.ref a1), .val (.int (((0 : Int32) + (1 : Int32)) + (1 : Int32))), .val (.ref b1), .val (.int (((0 : Int32) + (1 : Int32)) + (1 : Int32))), .val (.int (2 : Int32)), .val (.int (((0 : Int32) + (1 : Int32)) + (1 : Int32))), .val (.int y)] [(.int (2 : Int32))])) t
    exact k)
  obtain ⟨fs, hr, hrun, hended, hW, hsame⟩ := X20.leave (v := some (.int (2 : Int32))) (fun h => by rw [Bd.returns] at h; cases h)
  subst hS0
  refine ⟨_, _, pre _ ?_, hrun, hended, _, _, rfl, ?_, ⟨_, rfl⟩, hW, hsame.mono (by decide) (by decide)⟩
  · exact retI X20 hx Bd.returns (hb hby d_cp2_46) hr
  · show Q_cp2 Z a1 b1 x y f h0 n0 _ T20.heap _
    rw [e20]
    refine ⟨rfl, N20, (((Keep.refl h0 [b1]).wr W18 (Or.inl (List.mem_of_getElem? (i := 0) rfl))).wr W20 (Or.inl (List.mem_of_getElem? (i := 0) rfl))), F20.congr fun j hj => ?_⟩
    rw [nx, ny]
    match j, hj with
    | 0, _ => rfl
    | 1, _ => rfl
def Q_cp1 (Z : State) (a1 : Addr) (x y : Int32) (h0 : Heap) (n0 : Nat) (v : Option Value) (h : Heap) (L : List Loc) : Prop := ∃ b, v = some (.ref b) ∧ Fr n0 L ∧ Ext h0 h ∧ h0.size ≤ b ∧ OFun Z h b .byte 2 (own_two (x.toInt8.toInt32) (y.toInt8.toInt32))
set_option maxRecDepth 65536 in
set_option maxHeartbeats 40000000 in
theorem rm_cp1 (l : Launch) (Z : State) (a0 : Array Value) (hw : ∀ d ∈ tables_1, d.before a0 Z = true) (ws : List Jvm.Cond) (a1 : Addr) (x y : Int32) (h0 : Heap) (n0 : Nat) (Z0 : n0 ≤ h0.size) (Fa : OFun Z h0 a1 .char 2 (own_two x y)) (hx0 : ¬ (255 : Int32) < x) (hy0 : ¬ (255 : Int32) < y) (nx : nar .byte (x.toInt8.toInt32) = x.toInt8.toInt32) (ny : nar .byte (y.toInt8.toInt32) = y.toInt8.toInt32) :
    MetFree l (⟨"java/lang/StringUTF16", "compress", "([CII)[B"⟩ : MethodName) (head1 (Jvm.Cond.code (⟨"java/lang/StringUTF16", "compress", "([CII)[B"⟩ : MethodName) jdk_52_method_16_code 6 (some (.array .byte)) :: ws) ({ frames := 1, cells := 1, slots := 2, locals := 18 } : Room)) (fun a U => a = #[(.ref a1), (.int (0 : Int32)), (.int (2 : Int32))] ∧ Z.Warmed39 U.vm ∧ U.heap = h0) (fun _ _ _ _ _ => True) (fun _ U o U' => ∃ v L, o = .returned v ∧ Q_cp1 Z a1 x y h0 n0 v U'.heap L ∧ FrameEnd U o U' L ({ frames := 1, cells := 1, slots := 2, locals := 18 } : Room).cells ({ frames := 1, cells := 1, slots := 2, locals := 18 } : Room).slots) := by
  refine MetFree.of_bodySF (plainFor_of_name pn_java_lang_StringUTF16) hisR ?_
  intro p e s m args below meth c s₁ Bd hml0 hP hK
  obtain ⟨rfl, hZ, hh⟩ := hP
  have hx := Bd.exec
  have hby := Bd.bytes
  have hml : c.maxLocals = 6 := hml0
  have hown : s.vm.findClass "java/lang/StringUTF16" = some m.cls := findClass_of_methodNamed Bd.named
  have hnm := (name_of_methodNamed Bd.named Bd.method).1
  have X0 : Stand p l e ({ frames := 1, cells := 1, slots := 2, locals := 18 } : Room) s m #[(.ref a1), (.int (0 : Int32)), (.int (2 : Int32))] below meth c s₁ [] 0 0 := Stand.of_body Bd
  have e0 : s₁.heap = h0 := by rw [← hh, Bd.state]; rfl
  have N0 := Fr.nil n0
  obtain ⟨S0, hS0⟩ : ∃ S0, S0 = s₁.setTop (entryFrame m #[(.ref a1), (.int (0 : Int32)), (.int (2 : Int32))] 6) := ⟨_, rfl⟩
  have pre : Pth p e below S0 s₁ (mkF m 0 #[.val (.ref a1), .val (.int (0 : Int32)), .val (.int (2 : Int32)), .unset, .unset, .unset] []) := fun t k => by rw [hS0]; exact castTop (ef_cp1 m a1 (0 : Int32) (2 : Int32)) k
  replace pre : Pth p e below S0 s₁ (mkF m 1 #[.val (.ref a1), .val (.int (0 : Int32)), .val (.int (2 : Int32)), .unset, .unset, .unset] [(.int (2 : Int32))]) := fun t k => pre t (by
    show Steps p.tables e below (s₁.setTop (mkF m 0 #[.val (.ref a1), .val (.int (0 : Int32)), .val (.int (2 : Int32)), .unset, .unset, .unset] [])) t
    refine XS.iloadN X0.here hx rfl (hb hby d_cp1_0) rfl ?_
    show Steps p.tables e below (s₁.setTop (mkF m 1 #[.val (.ref a1), .val (.int (0 : Int32)), .val (.int (2 : Int32)), .unset, .unset, .unset] [(.int (2 : Int32))])) t
    exact k)
  obtain ⟨T21, h21, k21, X21, e21, E21, A21, st21⟩ := newP X0 hx hZ (hw _ (List.mem_of_getElem? (i := 25) rfl)) e0 (g := (mkF m 1 #[.val (.ref a1), .val (.int (0 : Int32)), .val (.int (2 : Int32)), .unset, .unset, .unset] [(.int (2 : Int32))])) rfl (hb hby d_cp1_1) rfl (by decide) (cap := 2) (by decide) (by decide) (by decide) (by decide)
  obtain ⟨b21, g21⟩ : ∃ z, z = h0.size := ⟨_, rfl⟩
  rw [← g21] at A21 st21
  have F21 := OFun.new A21
  replace pre : Pth p e below S0 T21 (mkF m 3 #[.val (.ref a1), .val (.int (0 : Int32)), .val (.int (2 : Int32)), .unset, .unset, .unset] [(.ref b21)]) := fun t k => pre t (st21 _ k)
  have Fb : OFun Z h21 b21 .byte 2 _ := F21
  have ne : a1 ≠ b21 := by rw [g21]; exact Nat.ne_of_lt Fa.lt
  have gb : n0 ≤ b21 := by rw [g21]; exact Z0
  replace pre : Pth p e below S0 T21 (mkF m 9 #[.val (.ref a1), .val (.int (0 : Int32)), .val (.int (2 : Int32)), .val (.ref b21), .unset, .unset] [(.int (2 : Int32)), (.int (0 : Int32)), (.ref b21), (.int (0 : Int32)), (.ref a1)]) := fun t k => pre t (by
    show Steps p.tables e below (T21.setTop (mkF m 3 #[.val (.ref a1), .val (.int (0 : Int32)), .val (.int (2 : Int32)), .unset, .unset, .unset] [(.ref b21)])) t
    refine XS.astoreN X21.here hx rfl (hb hby d_cp1_3) rfl rfl (l' := #[.val (.ref a1), .val (.int (0 : Int32)), .val (.int (2 : Int32)), .val (.ref b21), .unset, .unset]) rfl ?_
    show Steps p.tables e below (T21.setTop (mkF m 4 #[.val (.ref a1), .val (.int (0 : Int32)), .val (.int (2 : Int32)), .val (.ref b21), .unset, .unset] [])) t
    refine XS.aloadN X21.here hx rfl (hb hby d_cp1_4) rfl rfl ?_
    show Steps p.tables e below (T21.setTop (mkF m 5 #[.val (.ref a1), .val (.int (0 : Int32)), .val (.int (2 : Int32)), .val (.ref b21), .unset, .unset] [(.ref a1)])) t
    refine XS.iloadN X21.here hx rfl (hb hby d_cp1_5) rfl ?_
    show Steps p.tables e below (T21.setTop (mkF m 6 #[.val (.ref a1), .val (.int (0 : Int32)), .val (.int (2 : Int32)), .val (.ref b21), .unset, .unset] [(.int (0 : Int32)), (.ref a1)])) t
    refine XS.aloadN X21.here hx rfl (hb hby d_cp1_6) rfl rfl ?_
    show Steps p.tables e below (T21.setTop (mkF m 7 #[.val (.ref a1), .val (.int (0 : Int32)), .val (.int (2 : Int32)), .val (.ref b21), .unset, .unset] [(.ref b21), (.int (0 : Int32)), (.ref a1)])) t
    refine XS.iconst X21.here hx rfl (hb hby d_cp1_7) ?_
    show Steps p.tables e below (T21.setTop (mkF m 8 #[.val (.ref a1), .val (.int (0 : Int32)), .val (.int (2 : Int32)), .val (.ref b21), .unset, .unset] [(.int (0 : Int32)), (.ref b21), (.int (0 : Int32)), (.ref a1)])) t
    refine XS.iloadN X21.here hx rfl (hb hby d_cp1_8) rfl ?_
    show Steps p.tables e below (T21.setTop (mkF m 9 #[.val (.ref a1), .val (.int (0 : Int32)), .val (.int (2 : Int32)), .val (.ref b21), .unset, .unset] [(.int (2 : Int32)), (.int (0 : Int32)), (.ref b21), (.int (0 : Int32)), (.ref a1)])) t
    exact k)
  obtain ⟨_, _, ⟨T22, L22, k22, n22⟩, -, X22, ⟨Lc22, hQ22, l22, y22, z22⟩, st22⟩ := Jvm.LawKit.callS X21 hx (y := (⟨"java/lang/StringUTF16", "compress", "([CI[BII)I"⟩ : MethodName)) hown (mvT hZ (hw _ (List.mem_of_getElem? (i := 59) rfl))) (mvT hZ (hw _ (List.mem_of_getElem? (i := 60) rfl))) (mvT hZ (hw _ (List.mem_of_getElem? (i := 57) rfl))) (mvT hZ (hw _ (List.mem_of_getElem? (i := 61) rfl))) (by decide) (backOf (W := 0) (rm_cp2 l Z a0 hw [] a1 b21 x y _ h21 n0 gb ne (Fa.ext E21) Fb hx0 hy0 nx ny) hZ (hw _ (List.mem_of_getElem? (i := 61) rfl)) (hw _ (List.mem_of_getElem? (i := 57) rfl)) (by decide) (by decide)) (g := (mkF m 9 #[.val (.ref a1), .val (.int (0 : Int32)), .val (.int (2 : Int32)), .val (.ref b21), .unset, .unset] [(.int (2 : Int32)), (.int (0 : Int32)), (.ref b21), (.int (0 : Int32)), (.ref a1)])) rfl (by rw [hml]; rfl) (argsL := [(.ref a1), (.int (0 : Int32)), (.ref b21), (.int (0 : Int32)), (.int (2 : Int32))]) (rest := []) (lenOf pd___CI_BII_I rfl) rfl (by show 2 * 0 + _ ≤ _; exact Nat.le_of_eq rfl) (hb hby d_cp1_9) (fun _ _ => ⟨rfl, e21, (by decide : 1 + 0 ≤ _), (by decide : 2 + 0 ≤ _)⟩)
  dsimp only [Pt.U, Pt.locs, Pt.cells, Pt.slots] at X22 l22 y22 z22 st22 hQ22
  subst l22 y22 z22
  obtain ⟨rfl, N22q, K22, O22⟩ := hQ22
  have N22 := Fr.app N0 N22q
  replace pre : Pth p e below S0 T22 (mkF m 12 #[.val (.ref a1), .val (.int (0 : Int32)), .val (.int (2 : Int32)), .val (.ref b21), .unset, .unset] [(.int (2 : Int32))]) := fun t k => pre t (st22 _ k)
  replace pre : Pth p e below S0 T22 (mkF m 58 #[.val (.ref a1), .val (.int (0 : Int32)), .val (.int (2 : Int32)), .val (.ref b21), .val (.int (2 : Int32)), .unset] [(.ref b21)]) := fun t k => pre t (by
    show Steps p.tables e below (T22.setTop (mkF m 12 #[.val (.ref a1), .val (.int (0 : Int32)), .val (.int (2 : Int32)), .val (.ref b21), .unset, .unset] [(.int (2 : Int32))])) t
    refine XS.istore X22.here hx rfl (hb hby d_cp1_12) rfl (l' := #[.val (.ref a1), .val (.int (0 : Int32)), .val (.int (2 : Int32)), .val (.ref b21), .val (.int (2 : Int32)), .unset]) rfl ?_
    show Steps p.tables e below (T22.setTop (mkF m 14 #[.val (.ref a1), .val (.int (0 : Int32)), .val (.int (2 : Int32)), .val (.ref b21), .val (.int (2 : Int32)), .unset] [])) t
    refine XS.iload X22.here hx rfl (hb hby d_cp1_14) rfl ?_
    show Steps p.tables e below (T22.setTop (mkF m 16 #[.val (.ref a1), .val (.int (0 : Int32)), .val (.int (2 : Int32)), .val (.ref b21), .val (.int (2 : Int32)), .unset] [(.int (2 : Int32))])) t
    refine XS.iloadN X22.here hx rfl (hb hby d_cp1_16) rfl ?_
    show Steps p.tables e below (T22.setTop (mkF m 17 #[.val (.ref a1), .val (.int (0 : Int32)), .val (.int (2 : Int32)), .val (.ref b21), .val (.int (2 : Int32)), .unset] [(.int (2 : Int32)), (.int (2 : Int32))])) t
    refine XS.icmpYes X22.here hx rfl (pc0 := 17) (pc' := 57) rfl (hb hby d_cp1_17) rfl (XT.ii_eq_t rfl) (by decide) (by decide) ?_
    show Steps p.tables e below (T22.setTop (mkF m 57 #[.val (.ref a1), .val (.int (0 : Int32)), .val (.int (2 : Int32)), .val (.ref b21), .val (.int (2 : Int32)), .unset] [])) t
    refine XS.aloadN X22.here hx rfl (hb hby d_cp1_57) rfl rfl ?_
    show Steps p.tables e below (T22.setTop (mkF m 58 #[.val (.ref a1), .val (.int (0 : Int32)), .val (.int (2 : Int32)), .val (.ref b21), .val (.int (2 : Int32)), .unset] [(.ref b21)])) t
    exact k)
  obtain ⟨fs, hr, hrun, hended, hW, hsame⟩ := X22.leave (v := some (.ref b21)) (fun h => by rw [Bd.returns] at h; cases h)
  subst hS0
  refine ⟨_, _, pre _ ?_, hrun, hended, _, _, rfl, ?_, ⟨_, rfl⟩, hW, hsame.mono (by decide) (by decide)⟩
  · exact retOut X22 hx (t := (.array .byte)) Bd.returns rfl (by simp [Value.isRef, FieldType.isReference]) (hb hby d_cp1_58) hr
  · show Q_cp1 Z a1 x y h0 n0 _ T22.heap _
    exact ⟨b21, rfl, N22, own_ext_keep E21 K22 (fun z hz => by rw [List.mem_singleton.mp hz, g21]; exact Nat.le_refl _), by rw [g21]; exact Nat.le_refl _, O22⟩
def Q_cfa (Z : State) (a1 : Addr) (f : Nat → Value) (h0 : Heap) (n0 : Nat) (v : Option Value) (h : Heap) (L : List Loc) : Prop := v = some (.int 0) ∧ Fr n0 L ∧ h = h0
set_option maxRecDepth 65536 in
set_option maxHeartbeats 40000000 in
theorem rm_cfa (l : Launch) (Z : State) (a0 : Array Value) (hw : ∀ d ∈ tables_1, d.before a0 Z = true) (ws : List Jvm.Cond) (a1 : Addr) (f : Nat → Value) (h0 : Heap) (n0 : Nat) (Fa : OFun Z h0 a1 .byte 2 f) :
    MetFree l (⟨"java/lang/StringUTF16", "coderFromArrayLen", "([BI)B"⟩ : MethodName) (head1 (Jvm.Cond.code (⟨"java/lang/StringUTF16", "coderFromArrayLen", "([BI)B"⟩ : MethodName) jdk_52_method_15_code 2 (some .byte) :: ws) ({ frames := 0, cells := 0, slots := 0, locals := 0 } : Room)) (fun a U => a = #[(.ref a1), (.int (2 : Int32))] ∧ Z.Warmed39 U.vm ∧ U.heap = h0) (fun _ _ _ _ _ => True) (fun _ U o U' => ∃ v L, o = .returned v ∧ Q_cfa Z a1 f h0 n0 v U'.heap L ∧ FrameEnd U o U' L ({ frames := 0, cells := 0, slots := 0, locals := 0 } : Room).cells ({ frames := 0, cells := 0, slots := 0, locals := 0 } : Room).slots) := by
  refine MetFree.of_bodySF (plainFor_of_name pn_java_lang_StringUTF16) hisR ?_
  intro p e s m args below meth c s₁ Bd hml0 hP hK
  obtain ⟨rfl, hZ, hh⟩ := hP
  have hx := Bd.exec
  have hby := Bd.bytes
  have hml : c.maxLocals = 2 := hml0
  have hown : s.vm.findClass "java/lang/StringUTF16" = some m.cls := findClass_of_methodNamed Bd.named
  have hnm := (name_of_methodNamed Bd.named Bd.method).1
  have X0 : Stand p l e ({ frames := 0, cells := 0, slots := 0, locals := 0 } : Room) s m #[(.ref a1), (.int (2 : Int32))] below meth c s₁ [] 0 0 := Stand.of_body Bd
  have e0 : s₁.heap = h0 := by rw [← hh, Bd.state]; rfl
  have N0 := Fr.nil n0
  obtain ⟨S0, hS0⟩ : ∃ S0, S0 = s₁.setTop (entryFrame m #[(.ref a1), (.int (2 : Int32))] 2) := ⟨_, rfl⟩
  have pre : Pth p e below S0 s₁ (mkF m 0 #[.val (.ref a1), .val (.int (2 : Int32))] []) := fun t k => by rw [hS0]; exact castTop (ef_cfa m a1 (2 : Int32)) k
  replace pre : Pth p e below S0 s₁ (mkF m 2 #[.val (.ref a1), .val (.int (2 : Int32))] [(.ref a1), (.int (2 : Int32))]) := fun t k => pre t (by
    show Steps p.tables e below (s₁.setTop (mkF m 0 #[.val (.ref a1), .val (.int (2 : Int32))] [])) t
    refine XS.iloadN X0.here hx rfl (hb hby d_cfa_0) rfl ?_
    show Steps p.tables e below (s₁.setTop (mkF m 1 #[.val (.ref a1), .val (.int (2 : Int32))] [(.int (2 : Int32))])) t
    refine XS.aloadN X0.here hx rfl (hb hby d_cfa_1) rfl rfl ?_
    show Steps p.tables e below (s₁.setTop (mkF m 2 #[.val (.ref a1), .val (.int (2 : Int32))] [(.ref a1), (.int (2 : Int32))])) t
    exact k)
  obtain ⟨cl23, Ar23, Sz23, -⟩ := id Fa
  have hln23 : cl23.slots.size.toInt32 = (2 : Int32) := (congrArg Nat.toInt32 Sz23).trans (rfl)
  replace pre : Pth p e below S0 s₁ (mkF m 8 #[.val (.ref a1), .val (.int (2 : Int32))] [(.int (((((2 : Int32) - (2 : Int32)).toUInt32 >>> ((31 : Int32) &&& 31).toUInt32).toInt32).toInt8.toInt32))]) := fun t k => pre t (by
    show Steps p.tables e below (s₁.setTop (mkF m 2 #[.val (.ref a1), .val (.int (2 : Int32))] [(.ref a1), (.int (2 : Int32))])) t
    refine X0.arraylength hx (by rw [e0]; exact Ar23.1) (State.isArrayOf_alike hZ.alike Ar23.2.1) (g := (mkF m 2 #[.val (.ref a1), .val (.int (2 : Int32))] [(.ref a1), (.int (2 : Int32))])) rfl rfl (hb hby d_cfa_2) _ ?_
    rw [hln23]
    show Steps p.tables e below (s₁.setTop (mkF m 3 #[.val (.ref a1), .val (.int (2 : Int32))] [(.int (2 : Int32)), (.int (2 : Int32))])) t
    refine XS.isub X0.here hx rfl (hb hby d_cfa_3) rfl ?_
    show Steps p.tables e below (s₁.setTop (mkF m 4 #[.val (.ref a1), .val (.int (2 : Int32))] [(.int ((2 : Int32) - (2 : Int32)))])) t
    refine XS.bipush X0.here hx rfl (hb hby d_cfa_4) ?_
    show Steps p.tables e below (s₁.setTop (mkF m 6 #[.val (.ref a1), .val (.int (2 : Int32))] [(.int (31 : Int32)), (.int ((2 : Int32) - (2 : Int32)))])) t
    refine XS.iushr X0.here hx rfl (hb hby d_cfa_6) rfl ?_
    show Steps p.tables e below (s₁.setTop (mkF m 7 #[.val (.ref a1), .val (.int (2 : Int32))] [(.int ((((2 : Int32) - (2 : Int32)).toUInt32 >>> ((31 : Int32) &&& 31).toUInt32).toInt32))])) t
    refine XS.i2b X0.here hx rfl (hb hby d_cfa_7) rfl ?_
    show Steps p.tables e below (s₁.setTop (mkF m 8 #[.val (.ref a1), .val (.int (2 : Int32))] [(.int (((((2 : Int32) - (2 : Int32)).toUInt32 >>> ((31 : Int32) &&& 31).toUInt32).toInt32).toInt8.toInt32))])) t
    exact k)
  obtain ⟨fs, hr, hrun, hended, hW, hsame⟩ := X0.leave (v := some (.int (nar .byte (((((2 : Int32) - (2 : Int32)).toUInt32 >>> ((31 : Int32) &&& 31).toUInt32).toInt32).toInt8.toInt32)))) (fun h => by rw [Bd.returns] at h; cases h)
  subst hS0
  refine ⟨_, _, pre _ ?_, hrun, hended, _, _, rfl, ?_, ⟨_, rfl⟩, hW, hsame.mono (by decide) (by decide)⟩
  · exact retN X0 hx (t := .byte) Bd.returns (by simp) (hb hby d_cfa_8) hr
  · show Q_cfa Z a1 f h0 n0 _ s₁.heap _
    rw [e0]
    exact ⟨by decide +kernel, N0, rfl⟩
def Q_iv2 (Z : State) (a1 : Addr) (b1 : Addr) (x y : Int32) (cz : Int32) (h0 : Heap) (n0 : Nat) (v : Option Value) (h : Heap) (L : List Loc) : Prop := v = none ∧ Fr n0 L ∧ Keep h0 h [a1] ∧ ∃ p, OStr Z h a1 p [x.toInt8.toInt32, y.toInt8.toInt32]
set_option maxRecDepth 65536 in
set_option maxHeartbeats 40000000 in
theorem rm_iv2 (l : Launch) (Z : State) (a0 : Array Value) (hw : ∀ d ∈ tables_1, d.before a0 Z = true) (ws : List Jvm.Cond) (a1 : Addr) (b1 : Addr) (x y : Int32) (cz : Int32) (h0 : Heap) (n0 : Nat) (Z0 : n0 ≤ h0.size) (ga : n0 ≤ a1) (Ea : Exa Z h0 a1 "java/lang/String") (F1 : Fld Z h0 a1 "java/lang/String" "value" "[B" .null) (F2 : Fld Z h0 a1 "java/lang/String" "coder" "B" (.int 0)) (Fa : OFun Z h0 b1 .char 2 (own_two x y)) (hx0 : ¬ (255 : Int32) < x) (hy0 : ¬ (255 : Int32) < y) (nx : nar .byte (x.toInt8.toInt32) = x.toInt8.toInt32) (ny : nar .byte (y.toInt8.toInt32) = y.toInt8.toInt32) (Scs : Sta Z h0 "java/lang/String" "COMPACT_STRINGS" "Z" (.int cz)) (hcz : ¬ cz = 0) :
    MetFree l (⟨"java/lang/String", "<init>", "([CIILjava/lang/Void;)V"⟩ : MethodName) (head1 (Jvm.Cond.code (⟨"java/lang/String", "<init>", "([CIILjava/lang/Void;)V"⟩ : MethodName) jdk_42_method_149_code 6 none :: ws) ({ frames := 2, cells := 1, slots := 2, locals := 35 } : Room)) (fun a U => a = #[(.ref a1), (.ref b1), (.int (0 : Int32)), (.int (2 : Int32)), .null] ∧ Z.Warmed39 U.vm ∧ U.heap = h0) (fun _ _ _ _ _ => True) (fun _ U o U' => ∃ v L, o = .returned v ∧ Q_iv2 Z a1 b1 x y cz h0 n0 v U'.heap L ∧ FrameEnd U o U' L ({ frames := 2, cells := 1, slots := 2, locals := 35 } : Room).cells ({ frames := 2, cells := 1, slots := 2, locals := 35 } : Room).slots) := by
  refine MetFree.of_bodySF (plainFor_of_name pn_java_lang_String) hisR ?_
  intro p e s m args below meth c s₁ Bd hml0 hP hK
  obtain ⟨rfl, hZ, hh⟩ := hP
  have hx := Bd.exec
  have hby := Bd.bytes
  have hml : c.maxLocals = 6 := hml0
  have hown : s.vm.findClass "java/lang/String" = some m.cls := findClass_of_methodNamed Bd.named
  have hnm := (name_of_methodNamed Bd.named Bd.method).1
  have X0 : Stand p l e ({ frames := 2, cells := 1, slots := 2, locals := 35 } : Room) s m #[(.ref a1), (.ref b1), (.int (0 : Int32)), (.int (2 : Int32)), .null] below meth c s₁ [] 0 0 := Stand.of_body Bd
  have e0 : s₁.heap = h0 := by rw [← hh, Bd.state]; rfl
  have N0 := Fr.nil n0
  obtain ⟨S0, hS0⟩ : ∃ S0, S0 = s₁.setTop (entryFrame m #[(.ref a1), (.ref b1), (.int (0 : Int32)), (.int (2 : Int32)), .null] 6) := ⟨_, rfl⟩
  have pre : Pth p e below S0 s₁ (mkF m 0 #[.val (.ref a1), .val (.ref b1), .val (.int (0 : Int32)), .val (.int (2 : Int32)), .val .null, .unset] []) := fun t k => by rw [hS0]; exact castTop (ef_iv2 m a1 b1 (0 : Int32) (2 : Int32)) k
  replace pre : Pth p e below S0 s₁ (mkF m 1 #[.val (.ref a1), .val (.ref b1), .val (.int (0 : Int32)), .val (.int (2 : Int32)), .val .null, .unset] [(.ref a1)]) := fun t k => pre t (by
    show Steps p.tables e below (s₁.setTop (mkF m 0 #[.val (.ref a1), .val (.ref b1), .val (.int (0 : Int32)), .val (.int (2 : Int32)), .val .null, .unset] [])) t
    refine XS.aloadN X0.here hx rfl (hb hby d_iv2_0) rfl rfl ?_
    show Steps p.tables e below (s₁.setTop (mkF m 1 #[.val (.ref a1), .val (.ref b1), .val (.int (0 : Int32)), .val (.int (2 : Int32)), .val .null, .unset] [(.ref a1)])) t
    exact k)
  obtain ⟨T24, X24, e24, st24⟩ := initO X0 hx hZ hown (hw _ (List.mem_of_getElem? (i := 21) rfl)) (hw _ (List.mem_of_getElem? (i := 22) rfl)) (hw _ (List.mem_of_getElem? (i := 23) rfl)) e0 (g := (mkF m 1 #[.val (.ref a1), .val (.ref b1), .val (.int (0 : Int32)), .val (.int (2 : Int32)), .val .null, .unset] [(.ref a1)])) rfl (by rw [hml]; rfl) rfl (hb hby d_iv2_1) (by decide) (W := 0) (by show 2 * 0 + _ ≤ _; exact Nat.le_of_eq rfl) (by decide)
  replace pre : Pth p e below S0 T24 (mkF m 4 #[.val (.ref a1), .val (.ref b1), .val (.int (0 : Int32)), .val (.int (2 : Int32)), .val .null, .unset] []) := fun t k => pre t (st24 _ k)
  replace pre : Pth p e below S0 T24 (mkF m 27 #[.val (.ref a1), .val (.ref b1), .val (.int (0 : Int32)), .val (.int (2 : Int32)), .val .null, .unset] []) := fun t k => pre t (by
    show Steps p.tables e below (T24.setTop (mkF m 4 #[.val (.ref a1), .val (.ref b1), .val (.int (0 : Int32)), .val (.int (2 : Int32)), .val .null, .unset] [])) t
    refine XS.iloadN X24.here hx rfl (hb hby d_iv2_4) rfl ?_
    show Steps p.tables e below (T24.setTop (mkF m 5 #[.val (.ref a1), .val (.ref b1), .val (.int (0 : Int32)), .val (.int (2 : Int32)), .val .null, .unset] [(.int (2 : Int32))])) t
    refine XS.ifYes X24.here hx rfl (pc0 := 5) (pc' := 27) rfl (hb hby d_iv2_5) rfl (XT.i0_ne_t (by decide)) (by decide) (by decide) ?_
    show Steps p.tables e below (T24.setTop (mkF m 27 #[.val (.ref a1), .val (.ref b1), .val (.int (0 : Int32)), .val (.int (2 : Int32)), .val .null, .unset] [])) t
    exact k)
  obtain ⟨T25, X25, e25, st25⟩ := getS2 X24 hx hZ hown (host := "") (Or.inl (hw _ (List.mem_of_getElem? (i := 54) rfl))) Via.refl e24 Scs (g := (mkF m 27 #[.val (.ref a1), .val (.ref b1), .val (.int (0 : Int32)), .val (.int (2 : Int32)), .val .null, .unset] [])) rfl (hb hby d_iv2_27)
  replace pre : Pth p e below S0 T25 (mkF m 30 #[.val (.ref a1), .val (.ref b1), .val (.int (0 : Int32)), .val (.int (2 : Int32)), .val .null, .unset] [(.int cz)]) := fun t k => pre t (st25 _ k)
  replace pre : Pth p e below S0 T25 (mkF m 36 #[.val (.ref a1), .val (.ref b1), .val (.int (0 : Int32)), .val (.int (2 : Int32)), .val .null, .unset] [(.int (2 : Int32)), (.int (0 : Int32)), (.ref b1)]) := fun t k => pre t (by
    show Steps p.tables e below (T25.setTop (mkF m 30 #[.val (.ref a1), .val (.ref b1), .val (.int (0 : Int32)), .val (.int (2 : Int32)), .val .null, .unset] [(.int cz)])) t
    refine XS.ifNo X25.here hx rfl (hb hby d_iv2_30) rfl (XT.i0_eq_f hcz) ?_
    show Steps p.tables e below (T25.setTop (mkF m 33 #[.val (.ref a1), .val (.ref b1), .val (.int (0 : Int32)), .val (.int (2 : Int32)), .val .null, .unset] [])) t
    refine XS.aloadN X25.here hx rfl (hb hby d_iv2_33) rfl rfl ?_
    show Steps p.tables e below (T25.setTop (mkF m 34 #[.val (.ref a1), .val (.ref b1), .val (.int (0 : Int32)), .val (.int (2 : Int32)), .val .null, .unset] [(.ref b1)])) t
    refine XS.iloadN X25.here hx rfl (hb hby d_iv2_34) rfl ?_
    show Steps p.tables e below (T25.setTop (mkF m 35 #[.val (.ref a1), .val (.ref b1), .val (.int (0 : Int32)), .val (.int (2 : Int32)), .val .null, .unset] [(.int (0 : Int32)), (.ref b1)])) t
    refine XS.iloadN X25.here hx rfl (hb hby d_iv2_35) rfl ?_
    show Steps p.tables e below (T25.setTop (mkF m 36 #[.val (.ref a1), .val (.ref b1), .val (.int (0 : Int32)), .val (.int (2 : Int32)), .val .null, .unset] [(.int (2 : Int32)), (.int (0 : Int32)), (.ref b1)])) t
    exact k)
  obtain ⟨_, _, ⟨T26, L26, k26, n26⟩, -, X26, ⟨Lc26, hQ26, l26, y26, z26⟩, st26⟩ := Jvm.LawKit.callS X25 hx (y := (⟨"java/lang/StringUTF16", "compress", "([CII)[B"⟩ : MethodName)) hown (mvT hZ (hw _ (List.mem_of_getElem? (i := 55) rfl))) (mvT hZ (hw _ (List.mem_of_getElem? (i := 56) rfl))) (mvT hZ (hw _ (List.mem_of_getElem? (i := 57) rfl))) (mvT hZ (hw _ (List.mem_of_getElem? (i := 58) rfl))) (by decide) (backOf (W := 0) (rm_cp1 l Z a0 hw [] b1 x y h0 n0 Z0 Fa hx0 hy0 nx ny) hZ (hw _ (List.mem_of_getElem? (i := 58) rfl)) (hw _ (List.mem_of_getElem? (i := 57) rfl)) (by decide) (by decide)) (g := (mkF m 36 #[.val (.ref a1), .val (.ref b1), .val (.int (0 : Int32)), .val (.int (2 : Int32)), .val .null, .unset] [(.int (2 : Int32)), (.int (0 : Int32)), (.ref b1)])) rfl (by rw [hml]; rfl) (argsL := [(.ref b1), (.int (0 : Int32)), (.int (2 : Int32))]) (rest := []) (lenOf pd___CII__B rfl) rfl (by show 2 * 0 + _ ≤ _; exact Nat.le_of_eq rfl) (hb hby d_iv2_36) (fun _ _ => ⟨rfl, e25, (by decide : 0 + 1 ≤ _), (by decide : 0 + 2 ≤ _)⟩)
  dsimp only [Pt.U, Pt.locs, Pt.cells, Pt.slots] at X26 l26 y26 z26 st26 hQ26
  subst l26 y26 z26
  obtain ⟨bb, rfl, N26q, E26, gB, O26⟩ := hQ26
  have N26 := Fr.app N0 N26q
  replace pre : Pth p e below S0 T26 (mkF m 39 #[.val (.ref a1), .val (.ref b1), .val (.int (0 : Int32)), .val (.int (2 : Int32)), .val .null, .unset] [(.ref bb)]) := fun t k => pre t (st26 _ k)
  replace pre : Pth p e below S0 T26 (mkF m 45 #[.val (.ref a1), .val (.ref b1), .val (.int (0 : Int32)), .val (.int (2 : Int32)), .val .null, .val (.ref bb)] [(.int (2 : Int32)), (.ref bb), (.ref a1)]) := fun t k => pre t (by
    show Steps p.tables e below (T26.setTop (mkF m 39 #[.val (.ref a1), .val (.ref b1), .val (.int (0 : Int32)), .val (.int (2 : Int32)), .val .null, .unset] [(.ref bb)])) t
    refine XS.astore X26.here hx rfl (hb hby d_iv2_39) rfl rfl (l' := #[.val (.ref a1), .val (.ref b1), .val (.int (0 : Int32)), .val (.int (2 : Int32)), .val .null, .val (.ref bb)]) rfl ?_
    show Steps p.tables e below (T26.setTop (mkF m 41 #[.val (.ref a1), .val (.ref b1), .val (.int (0 : Int32)), .val (.int (2 : Int32)), .val .null, .val (.ref bb)] [])) t
    refine XS.aloadN X26.here hx rfl (hb hby d_iv2_41) rfl rfl ?_
    show Steps p.tables e below (T26.setTop (mkF m 42 #[.val (.ref a1), .val (.ref b1), .val (.int (0 : Int32)), .val (.int (2 : Int32)), .val .null, .val (.ref bb)] [(.ref a1)])) t
    refine XS.aload X26.here hx rfl (hb hby d_iv2_42) rfl rfl ?_
    show Steps p.tables e below (T26.setTop (mkF m 44 #[.val (.ref a1), .val (.ref b1), .val (.int (0 : Int32)), .val (.int (2 : Int32)), .val .null, .val (.ref bb)] [(.ref bb), (.ref a1)])) t
    refine XS.iloadN X26.here hx rfl (hb hby d_iv2_44) rfl ?_
    show Steps p.tables e below (T26.setTop (mkF m 45 #[.val (.ref a1), .val (.ref b1), .val (.int (0 : Int32)), .val (.int (2 : Int32)), .val .null, .val (.ref bb)] [(.int (2 : Int32)), (.ref bb), (.ref a1)])) t
    exact k)
  obtain ⟨_, _, ⟨T27, L27, k27, n27⟩, -, X27, ⟨Lc27, hQ27, l27, y27, z27⟩, st27⟩ := Jvm.LawKit.callS X26 hx (y := (⟨"java/lang/StringUTF16", "coderFromArrayLen", "([BI)B"⟩ : MethodName)) hown (mvT hZ (hw _ (List.mem_of_getElem? (i := 62) rfl))) (mvT hZ (hw _ (List.mem_of_getElem? (i := 63) rfl))) (mvT hZ (hw _ (List.mem_of_getElem? (i := 57) rfl))) (mvT hZ (hw _ (List.mem_of_getElem? (i := 64) rfl))) (by decide) (backOf (W := 1) (rm_cfa l Z a0 hw [] bb _ T26.heap n0 O26) hZ (hw _ (List.mem_of_getElem? (i := 64) rfl)) (hw _ (List.mem_of_getElem? (i := 57) rfl)) (by decide) (by decide)) (g := (mkF m 45 #[.val (.ref a1), .val (.ref b1), .val (.int (0 : Int32)), .val (.int (2 : Int32)), .val .null, .val (.ref bb)] [(.int (2 : Int32)), (.ref bb), (.ref a1)])) rfl (by rw [hml]; rfl) (argsL := [(.ref bb), (.int (2 : Int32))]) (rest := [(.ref a1)]) (lenOf pd___BI_B rfl) rfl (by show 2 * 0 + _ ≤ _; exact Nat.le_of_eq rfl) (hb hby d_iv2_45) (fun _ _ => ⟨rfl, rfl, (by decide : 1 + 0 ≤ _), (by decide : 2 + 0 ≤ _)⟩)
  dsimp only [Pt.U, Pt.locs, Pt.cells, Pt.slots] at X27 l27 y27 z27 st27 hQ27
  subst l27 y27 z27
  obtain ⟨rfl, N27q, e27⟩ := hQ27
  have N27 := Fr.app N26 N27q
  replace pre : Pth p e below S0 T27 (mkF m 48 #[.val (.ref a1), .val (.ref b1), .val (.int (0 : Int32)), .val (.int (2 : Int32)), .val .null, .val (.ref bb)] [(.int (0 : Int32)), (.ref a1)]) := fun t k => pre t (st27 _ k)
  have ltA : a1 < h0.size := Ea.lt
  have neB : bb ≠ a1 := fun z => Nat.lt_irrefl _ (Nat.lt_of_lt_of_le ltA (z ▸ gB))
  obtain ⟨T28, h28, X28, e28, W28, st28⟩ := putFN X27 hx hZ hown (hw _ (List.mem_of_getElem? (i := 31) rfl)) Via.refl e27 (F2.ext E26) (Ea.ext E26) (Or.inr ⟨(hw _ (List.mem_of_getElem? (i := 27) rfl)), rfl, hnm⟩) (hw _ (List.mem_of_getElem? (i := 11) rfl)) (ty := .byte) (v' := (.int (0 : Int32))) (by decide) rfl rfl (g := (mkF m 48 #[.val (.ref a1), .val (.ref b1), .val (.int (0 : Int32)), .val (.int (2 : Int32)), .val .null, .val (.ref bb)] [(.int (0 : Int32)), (.ref a1)])) rfl rfl (hb hby d_iv2_48)
  have N28 := Fr.snoc X28 N27 ga
  replace pre : Pth p e below S0 T28 (mkF m 51 #[.val (.ref a1), .val (.ref b1), .val (.int (0 : Int32)), .val (.int (2 : Int32)), .val .null, .val (.ref bb)] []) := fun t k => pre t (st28 _ k)
  have F1b := (F1.ext E26).other W28 (Or.inr (slot_ne (Or.inr (hw _ (List.mem_of_getElem? (i := 26) rfl))) (Or.inr (hw _ (List.mem_of_getElem? (i := 27) rfl))) (by decide) (t := (.array .byte)) (t' := .byte) (by decide) (by decide)))
  have F2b := (F2.ext E26).same W28
  have Eb := (Ea.ext E26).wr W28
  have Ob := O26.other W28 neB
  replace pre : Pth p e below S0 T28 (mkF m 54 #[.val (.ref a1), .val (.ref b1), .val (.int (0 : Int32)), .val (.int (2 : Int32)), .val .null, .val (.ref bb)] [(.ref bb), (.ref a1)]) := fun t k => pre t (by
    show Steps p.tables e below (T28.setTop (mkF m 51 #[.val (.ref a1), .val (.ref b1), .val (.int (0 : Int32)), .val (.int (2 : Int32)), .val .null, .val (.ref bb)] [])) t
    refine XS.aloadN X28.here hx rfl (hb hby d_iv2_51) rfl rfl ?_
    show Steps p.tables e below (T28.setTop (mkF m 52 #[.val (.ref a1), .val (.ref b1), .val (.int (0 : Int32)), .val (.int (2 : Int32)), .val .null, .val (.ref bb)] [(.ref a1)])) t
    refine XS.aload X28.here hx rfl (hb hby d_iv2_52) rfl rfl ?_
    show Steps p.tables e below (T28.setTop (mkF m 54 #[.val (.ref a1), .val (.ref b1), .val (.int (0 : Int32)), .val (.int (2 : Int32)), .val .null, .val (.ref bb)] [(.ref bb), (.ref a1)])) t
    exact k)
  obtain ⟨T29, h29, X29, e29, W29, st29⟩ := putF X28 hx hZ hown (host := "") (Or.inl (hw _ (List.mem_of_getElem? (i := 30) rfl))) Via.refl e28 F1b Eb (Or.inr ⟨(hw _ (List.mem_of_getElem? (i := 26) rfl)), rfl, hnm⟩) (hw _ (List.mem_of_getElem? (i := 11) rfl)) (ty := (.array .byte)) (by decide) rfl rfl (g := (mkF m 54 #[.val (.ref a1), .val (.ref b1), .val (.int (0 : Int32)), .val (.int (2 : Int32)), .val .null, .val (.ref bb)] [(.ref bb), (.ref a1)])) rfl rfl (hb hby d_iv2_54)
  have N29 := Fr.snoc X29 N28 ga
  replace pre : Pth p e below S0 T29 (mkF m 57 #[.val (.ref a1), .val (.ref b1), .val (.int (0 : Int32)), .val (.int (2 : Int32)), .val .null, .val (.ref bb)] []) := fun t k => pre t (st29 _ k)
  obtain ⟨fs, hr, hrun, hended, hW, hsame⟩ := X29.leave (v := none) (fun _ => rfl)
  subst hS0
  refine ⟨_, _, pre _ ?_, hrun, hended, _, _, rfl, ?_, ⟨_, rfl⟩, hW, hsame.mono (by decide) (by decide)⟩
  · exact X29.returnOut hx Bd.returns (hb hby d_iv2_57) hr
  · show Q_iv2 Z a1 b1 x y cz h0 n0 _ T29.heap _
    rw [e29]
    exact ⟨rfl, N29, ((own_keep_ext E26 [a1]).wr W28 (Or.inl (List.mem_of_getElem? (i := 0) rfl))).wr W29 (Or.inl (List.mem_of_getElem? (i := 0) rfl)), bb, Eb.wr W29, F2b.other W29 (Or.inr (slot_ne (Or.inr (hw _ (List.mem_of_getElem? (i := 27) rfl))) (Or.inr (hw _ (List.mem_of_getElem? (i := 26) rfl))) (by decide) (t := .byte) (t' := (.array .byte)) (by decide) (by decide))), F1b.same W29, Ob.other W29 neB⟩
def Q_ic2 (Z : State) (a1 : Addr) (b1 : Addr) (x y : Int32) (cz : Int32) (h0 : Heap) (n0 : Nat) (v : Option Value) (h : Heap) (L : List Loc) : Prop := v = none ∧ Fr n0 L ∧ Keep h0 h [a1] ∧ ∃ p, OStr Z h a1 p [x.toInt8.toInt32, y.toInt8.toInt32]
set_option maxRecDepth 65536 in
set_option maxHeartbeats 40000000 in
theorem rm_ic2 (l : Launch) (Z : State) (a0 : Array Value) (hw : ∀ d ∈ tables_1, d.before a0 Z = true) (ws : List Jvm.Cond) (a1 : Addr) (b1 : Addr) (x y : Int32) (cz : Int32) (h0 : Heap) (n0 : Nat) (Z0 : n0 ≤ h0.size) (ga : n0 ≤ a1) (Ea : Exa Z h0 a1 "java/lang/String") (F1 : Fld Z h0 a1 "java/lang/String" "value" "[B" .null) (F2 : Fld Z h0 a1 "java/lang/String" "coder" "B" (.int 0)) (Fa : OFun Z h0 b1 .char 2 (own_two x y)) (hx0 : ¬ (255 : Int32) < x) (hy0 : ¬ (255 : Int32) < y) (nx : nar .byte (x.toInt8.toInt32) = x.toInt8.toInt32) (ny : nar .byte (y.toInt8.toInt32) = y.toInt8.toInt32) (Scs : Sta Z h0 "java/lang/String" "COMPACT_STRINGS" "Z" (.int cz)) (hcz : ¬ cz = 0) :
    MetFree l (⟨"java/lang/String", "<init>", "([C)V"⟩ : MethodName) (head1 (Jvm.Cond.code (⟨"java/lang/String", "<init>", "([C)V"⟩ : MethodName) jdk_42_method_3_code 2 none :: ws) ({ frames := 3, cells := 1, slots := 2, locals := 52 } : Room)) (fun a U => a = #[(.ref a1), (.ref b1)] ∧ Z.Warmed39 U.vm ∧ U.heap = h0) (fun _ _ _ _ _ => True) (fun _ U o U' => ∃ v L, o = .returned v ∧ Q_ic2 Z a1 b1 x y cz h0 n0 v U'.heap L ∧ FrameEnd U o U' L ({ frames := 3, cells := 1, slots := 2, locals := 52 } : Room).cells ({ frames := 3, cells := 1, slots := 2, locals := 52 } : Room).slots) := by
  refine MetFree.of_bodySF (plainFor_of_name pn_java_lang_String) hisR ?_
  intro p e s m args below meth c s₁ Bd hml0 hP hK
  obtain ⟨rfl, hZ, hh⟩ := hP
  have hx := Bd.exec
  have hby := Bd.bytes
  have hml : c.maxLocals = 2 := hml0
  have hown : s.vm.findClass "java/lang/String" = some m.cls := findClass_of_methodNamed Bd.named
  have hnm := (name_of_methodNamed Bd.named Bd.method).1
  have X0 : Stand p l e ({ frames := 3, cells := 1, slots := 2, locals := 52 } : Room) s m #[(.ref a1), (.ref b1)] below meth c s₁ [] 0 0 := Stand.of_body Bd
  have e0 : s₁.heap = h0 := by rw [← hh, Bd.state]; rfl
  have N0 := Fr.nil n0
  obtain ⟨S0, hS0⟩ : ∃ S0, S0 = s₁.setTop (entryFrame m #[(.ref a1), (.ref b1)] 2) := ⟨_, rfl⟩
  have pre : Pth p e below S0 s₁ (mkF m 0 #[.val (.ref a1), .val (.ref b1)] []) := fun t k => by rw [hS0]; exact castTop (ef_ic2 m a1 b1) k
  replace pre : Pth p e below S0 s₁ (mkF m 4 #[.val (.ref a1), .val (.ref b1)] [(.ref b1), (.int (0 : Int32)), (.ref b1), (.ref a1)]) := fun t k => pre t (by
    show Steps p.tables e below (s₁.setTop (mkF m 0 #[.val (.ref a1), .val (.ref b1)] [])) t
    refine XS.aloadN X0.here hx rfl (hb hby d_ic2_0) rfl rfl ?_
    show Steps p.tables e below (s₁.setTop (mkF m 1 #[.val (.ref a1), .val (.ref b1)] [(.ref a1)])) t
    refine XS.aloadN X0.here hx rfl (hb hby d_ic2_1) rfl rfl ?_
    show Steps p.tables e below (s₁.setTop (mkF m 2 #[.val (.ref a1), .val (.ref b1)] [(.ref b1), (.ref a1)])) t
    refine XS.iconst X0.here hx rfl (hb hby d_ic2_2) ?_
    show Steps p.tables e below (s₁.setTop (mkF m 3 #[.val (.ref a1), .val (.ref b1)] [(.int (0 : Int32)), (.ref b1), (.ref a1)])) t
    refine XS.aloadN X0.here hx rfl (hb hby d_ic2_3) rfl rfl ?_
    show Steps p.tables e below (s₁.setTop (mkF m 4 #[.val (.ref a1), .val (.ref b1)] [(.ref b1), (.int (0 : Int32)), (.ref b1), (.ref a1)])) t
    exact k)
  obtain ⟨cl30, Ar30, Sz30, -⟩ := id Fa
  have hln30 : cl30.slots.size.toInt32 = (2 : Int32) := (congrArg Nat.toInt32 Sz30).trans (rfl)
  replace pre : Pth p e below S0 s₁ (mkF m 6 #[.val (.ref a1), .val (.ref b1)] [.null, (.int (2 : Int32)), (.int (0 : Int32)), (.ref b1), (.ref a1)]) := fun t k => pre t (by
    show Steps p.tables e below (s₁.setTop (mkF m 4 #[.val (.ref a1), .val (.ref b1)] [(.ref b1), (.int (0 : Int32)), (.ref b1), (.ref a1)])) t
    refine X0.arraylength hx (by rw [e0]; exact Ar30.1) (State.isArrayOf_alike hZ.alike Ar30.2.1) (g := (mkF m 4 #[.val (.ref a1), .val (.ref b1)] [(.ref b1), (.int (0 : Int32)), (.ref b1), (.ref a1)])) rfl rfl (hb hby d_ic2_4) _ ?_
    rw [hln30]
    show Steps p.tables e below (s₁.setTop (mkF m 5 #[.val (.ref a1), .val (.ref b1)] [(.int (2 : Int32)), (.int (0 : Int32)), (.ref b1), (.ref a1)])) t
    refine XS.aconstNull X0.here hx rfl (hb hby d_ic2_5) ?_
    show Steps p.tables e below (s₁.setTop (mkF m 6 #[.val (.ref a1), .val (.ref b1)] [.null, (.int (2 : Int32)), (.int (0 : Int32)), (.ref b1), (.ref a1)])) t
    exact k)
  obtain ⟨_, _, ⟨T31, L31, k31, n31⟩, -, X31, ⟨Lc31, hQ31, l31, y31, z31⟩, st31⟩ := X0.specialBack hx (y := (⟨"java/lang/String", "<init>", "([CIILjava/lang/Void;)V"⟩ : MethodName)) rfl hown (mvT hZ (hw _ (List.mem_of_getElem? (i := 17) rfl))) (mvT hZ (hw _ (List.mem_of_getElem? (i := 18) rfl))) (mvT hZ (hw _ (List.mem_of_getElem? (i := 20) rfl))) (by decide) (backOf (W := 0) (rm_iv2 l Z a0 hw [] a1 b1 x y cz h0 n0 Z0 ga Ea F1 F2 Fa hx0 hy0 nx ny Scs hcz) hZ (hw _ (List.mem_of_getElem? (i := 20) rfl)) (hw _ (List.mem_of_getElem? (i := 12) rfl)) (by decide) (by decide)) (g := (mkF m 6 #[.val (.ref a1), .val (.ref b1)] [.null, (.int (2 : Int32)), (.int (0 : Int32)), (.ref b1), (.ref a1)])) rfl (by rw [hml]; rfl) (Steps.refl _) (a := a1) (argsL := [(.ref b1), (.int (0 : Int32)), (.int (2 : Int32)), .null]) (rest := []) (lenOf pd___CIILjava_lang_Void__V rfl) rfl (by show 2 * 0 + _ ≤ _; exact Nat.le_of_eq rfl) (hb hby d_ic2_6) (fun _ _ => ⟨rfl, e0, (by decide : 0 + 1 ≤ _), (by decide : 0 + 2 ≤ _)⟩)
  dsimp only [Pt.U, Pt.locs, Pt.cells, Pt.slots] at X31 l31 y31 z31 st31 hQ31
  subst l31 y31 z31
  obtain ⟨rfl, N31q, K31, pp, O31⟩ := hQ31
  have N31 := Fr.app N0 N31q
  replace pre : Pth p e below S0 T31 (mkF m 9 #[.val (.ref a1), .val (.ref b1)] []) := fun t k => pre t (st31.trans k)
  obtain ⟨fs, hr, hrun, hended, hW, hsame⟩ := X31.leave (v := none) (fun _ => rfl)
  subst hS0
  refine ⟨_, _, pre _ ?_, hrun, hended, _, _, rfl, ?_, ⟨_, rfl⟩, hW, hsame.mono (by decide) (by decide)⟩
  · exact X31.returnOut hx Bd.returns (hb hby d_ic2_9) hr
  · show Q_ic2 Z a1 b1 x y cz h0 n0 _ T31.heap _
    exact ⟨rfl, N31, K31, pp, O31⟩
def Q_ib (Z : State) (a1 : Addr) (b1 : Addr) (xs : List Int32) (h0 : Heap) (n0 : Nat) (v : Option Value) (h : Heap) (L : List Loc) : Prop := v = none ∧ Fr n0 L ∧ Keep h0 h [a1] ∧ OStr Z h a1 b1 xs
set_option maxRecDepth 65536 in
set_option maxHeartbeats 40000000 in
theorem rm_ib (l : Launch) (Z : State) (a0 : Array Value) (hw : ∀ d ∈ tables_1, d.before a0 Z = true) (ws : List Jvm.Cond) (a1 : Addr) (b1 : Addr) (xs : List Int32) (h0 : Heap) (n0 : Nat) (ga : n0 ≤ a1) (Ea : Exa Z h0 a1 "java/lang/String") (F1 : Fld Z h0 a1 "java/lang/String" "value" "[B" .null) (F2 : Fld Z h0 a1 "java/lang/String" "coder" "B" (.int 0)) (neB : b1 ≠ a1) (Fa : OFun Z h0 b1 .byte xs.length (fun j => .int (xs.getD j 0))) :
    MetFree l (⟨"java/lang/String", "<init>", "([BB)V"⟩ : MethodName) (head1 (Jvm.Cond.code (⟨"java/lang/String", "<init>", "([BB)V"⟩ : MethodName) jdk_42_method_151_code 3 none :: ws) ({ frames := 1, cells := 0, slots := 0, locals := 12 } : Room)) (fun a U => a = #[(.ref a1), (.ref b1), (.int (0 : Int32))] ∧ Z.Warmed39 U.vm ∧ U.heap = h0) (fun _ _ _ _ _ => True) (fun _ U o U' => ∃ v L, o = .returned v ∧ Q_ib Z a1 b1 xs h0 n0 v U'.heap L ∧ FrameEnd U o U' L ({ frames := 1, cells := 0, slots := 0, locals := 12 } : Room).cells ({ frames := 1, cells := 0, slots := 0, locals := 12 } : Room).slots) := by
  refine MetFree.of_bodySF (plainFor_of_name pn_java_lang_String) hisR ?_
  intro p e s m args below meth c s₁ Bd hml0 hP hK
  obtain ⟨rfl, hZ, hh⟩ := hP
  have hx := Bd.exec
  have hby := Bd.bytes
  have hml : c.maxLocals = 3 := hml0
  have hown : s.vm.findClass "java/lang/String" = some m.cls := findClass_of_methodNamed Bd.named
  have hnm := (name_of_methodNamed Bd.named Bd.method).1
  have X0 : Stand p l e ({ frames := 1, cells := 0, slots := 0, locals := 12 } : Room) s m #[(.ref a1), (.ref b1), (.int (0 : Int32))] below meth c s₁ [] 0 0 := Stand.of_body Bd
  have e0 : s₁.heap = h0 := by rw [← hh, Bd.state]; rfl
  have N0 := Fr.nil n0
  obtain ⟨S0, hS0⟩ : ∃ S0, S0 = s₁.setTop (entryFrame m #[(.ref a1), (.ref b1), (.int (0 : Int32))] 3) := ⟨_, rfl⟩
  have pre : Pth p e below S0 s₁ (mkF m 0 #[.val (.ref a1), .val (.ref b1), .val (.int (0 : Int32))] []) := fun t k => by rw [hS0]; exact castTop (ef_ib m a1 b1 (0 : Int32)) k
  replace pre : Pth p e below S0 s₁ (mkF m 1 #[.val (.ref a1), .val (.ref b1), .val (.int (0 : Int32))] [(.ref a1)]) := fun t k => pre t (by
    show Steps p.tables e below (s₁.setTop (mkF m 0 #[.val (.ref a1), .val (.ref b1), .val (.int (0 : Int32))] [])) t
    refine XS.aloadN X0.here hx rfl (hb hby d_ib_0) rfl rfl ?_
    show Steps p.tables e below (s₁.setTop (mkF m 1 #[.val (.ref a1), .val (.ref b1), .val (.int (0 : Int32))] [(.ref a1)])) t
    exact k)
  obtain ⟨T32, X32, e32, st32⟩ := initO X0 hx hZ hown (hw _ (List.mem_of_getElem? (i := 21) rfl)) (hw _ (List.mem_of_getElem? (i := 22) rfl)) (hw _ (List.mem_of_getElem? (i := 23) rfl)) e0 (g := (mkF m 1 #[.val (.ref a1), .val (.ref b1), .val (.int (0 : Int32))] [(.ref a1)])) rfl (by rw [hml]; rfl) rfl (hb hby d_ib_1) (by decide) (W := 0) (by show 2 * 0 + _ ≤ _; exact Nat.le_of_eq rfl) (by decide)
  replace pre : Pth p e below S0 T32 (mkF m 4 #[.val (.ref a1), .val (.ref b1), .val (.int (0 : Int32))] []) := fun t k => pre t (st32 _ k)
  replace pre : Pth p e below S0 T32 (mkF m 6 #[.val (.ref a1), .val (.ref b1), .val (.int (0 : Int32))] [(.ref b1), (.ref a1)]) := fun t k => pre t (by
    show Steps p.tables e below (T32.setTop (mkF m 4 #[.val (.ref a1), .val (.ref b1), .val (.int (0 : Int32))] [])) t
    refine XS.aloadN X32.here hx rfl (hb hby d_ib_4) rfl rfl ?_
    show Steps p.tables e below (T32.setTop (mkF m 5 #[.val (.ref a1), .val (.ref b1), .val (.int (0 : Int32))] [(.ref a1)])) t
    refine XS.aloadN X32.here hx rfl (hb hby d_ib_5) rfl rfl ?_
    show Steps p.tables e below (T32.setTop (mkF m 6 #[.val (.ref a1), .val (.ref b1), .val (.int (0 : Int32))] [(.ref b1), (.ref a1)])) t
    exact k)
  obtain ⟨T33, h33, X33, e33, W33, st33⟩ := putF X32 hx hZ hown (host := "") (Or.inl (hw _ (List.mem_of_getElem? (i := 30) rfl))) Via.refl e32 F1 Ea (Or.inr ⟨(hw _ (List.mem_of_getElem? (i := 26) rfl)), rfl, hnm⟩) (hw _ (List.mem_of_getElem? (i := 11) rfl)) (ty := (.array .byte)) (by decide) rfl rfl (g := (mkF m 6 #[.val (.ref a1), .val (.ref b1), .val (.int (0 : Int32))] [(.ref b1), (.ref a1)])) rfl rfl (hb hby d_ib_6)
  have N33 := Fr.snoc X33 N0 ga
  replace pre : Pth p e below S0 T33 (mkF m 9 #[.val (.ref a1), .val (.ref b1), .val (.int (0 : Int32))] []) := fun t k => pre t (st33 _ k)
  have F1b := F1.same W33
  have F2b := F2.other W33 (Or.inr (slot_ne (Or.inr (hw _ (List.mem_of_getElem? (i := 27) rfl))) (Or.inr (hw _ (List.mem_of_getElem? (i := 26) rfl))) (by decide) (t := .byte) (t' := (.array .byte)) (by decide) (by decide)))
  have Eb := Ea.wr W33
  have Ob := Fa.other W33 neB
  replace pre : Pth p e below S0 T33 (mkF m 11 #[.val (.ref a1), .val (.ref b1), .val (.int (0 : Int32))] [(.int (0 : Int32)), (.ref a1)]) := fun t k => pre t (by
    show Steps p.tables e below (T33.setTop (mkF m 9 #[.val (.ref a1), .val (.ref b1), .val (.int (0 : Int32))] [])) t
    refine XS.aloadN X33.here hx rfl (hb hby d_ib_9) rfl rfl ?_
    show Steps p.tables e below (T33.setTop (mkF m 10 #[.val (.ref a1), .val (.ref b1), .val (.int (0 : Int32))] [(.ref a1)])) t
    refine XS.iloadN X33.here hx rfl (hb hby d_ib_10) rfl ?_
    show Steps p.tables e below (T33.setTop (mkF m 11 #[.val (.ref a1), .val (.ref b1), .val (.int (0 : Int32))] [(.int (0 : Int32)), (.ref a1)])) t
    exact k)
  obtain ⟨T34, h34, X34, e34, W34, st34⟩ := putFN X33 hx hZ hown (hw _ (List.mem_of_getElem? (i := 31) rfl)) Via.refl e33 F2b Eb (Or.inr ⟨(hw _ (List.mem_of_getElem? (i := 27) rfl)), rfl, hnm⟩) (hw _ (List.mem_of_getElem? (i := 11) rfl)) (ty := .byte) (v' := (.int (0 : Int32))) (by decide) rfl rfl (g := (mkF m 11 #[.val (.ref a1), .val (.ref b1), .val (.int (0 : Int32))] [(.int (0 : Int32)), (.ref a1)])) rfl rfl (hb hby d_ib_11)
  have N34 := Fr.snoc X34 N33 ga
  replace pre : Pth p e below S0 T34 (mkF m 14 #[.val (.ref a1), .val (.ref b1), .val (.int (0 : Int32))] []) := fun t k => pre t (st34 _ k)
  obtain ⟨fs, hr, hrun, hended, hW, hsame⟩ := X34.leave (v := none) (fun _ => rfl)
  subst hS0
  refine ⟨_, _, pre _ ?_, hrun, hended, _, _, rfl, ?_, ⟨_, rfl⟩, hW, hsame.mono (by decide) (by decide)⟩
  · exact X34.returnOut hx Bd.returns (hb hby d_ib_14) hr
  · show Q_ib Z a1 b1 xs h0 n0 _ T34.heap _
    rw [e34]
    exact ⟨rfl, N34, ((Keep.refl h0 [a1]).wr W33 (Or.inl (List.mem_of_getElem? (i := 0) rfl))).wr W34 (Or.inl (List.mem_of_getElem? (i := 0) rfl)), Eb.wr W34, F2b.same W34, F1b.other W34 (Or.inr (slot_ne (Or.inr (hw _ (List.mem_of_getElem? (i := 26) rfl))) (Or.inr (hw _ (List.mem_of_getElem? (i := 27) rfl))) (by decide) (t := (.array .byte)) (t' := .byte) (by decide) (by decide))), Ob.other W34 neB⟩
def Q_cen (Z : State) (x : Int32) (h0 : Heap) (n0 : Nat) (v : Option Value) (h : Heap) (L : List Loc) : Prop := v = some (.int 1) ∧ Fr n0 L ∧ h = h0
set_option maxRecDepth 65536 in
set_option maxHeartbeats 40000000 in
theorem rm_cen (l : Launch) (Z : State) (a0 : Array Value) (hw : ∀ d ∈ tables_1, d.before a0 Z = true) (ws : List Jvm.Cond) (x : Int32) (h0 : Heap) (n0 : Nat) (hx0 : ¬ (255 : Int32) < x) :
    MetFree l (⟨"java/lang/StringLatin1", "canEncode", "(C)Z"⟩ : MethodName) (head1 (Jvm.Cond.code (⟨"java/lang/StringLatin1", "canEncode", "(C)Z"⟩ : MethodName) jdk_43_method_3_code 1 (some .boolean) :: ws) ({ frames := 0, cells := 0, slots := 0, locals := 0 } : Room)) (fun a U => a = #[(.int x)] ∧ Z.Warmed39 U.vm ∧ U.heap = h0) (fun _ _ _ _ _ => True) (fun _ U o U' => ∃ v L, o = .returned v ∧ Q_cen Z x h0 n0 v U'.heap L ∧ FrameEnd U o U' L ({ frames := 0, cells := 0, slots := 0, locals := 0 } : Room).cells ({ frames := 0, cells := 0, slots := 0, locals := 0 } : Room).slots) := by
  refine MetFree.of_bodySF (plainFor_of_name pn_java_lang_StringLatin1) hisR ?_
  intro p e s m args below meth c s₁ Bd hml0 hP hK
  obtain ⟨rfl, hZ, hh⟩ := hP
  have hx := Bd.exec
  have hby := Bd.bytes
  have hml : c.maxLocals = 1 := hml0
  have hown : s.vm.findClass "java/lang/StringLatin1" = some m.cls := findClass_of_methodNamed Bd.named
  have hnm := (name_of_methodNamed Bd.named Bd.method).1
  have X0 : Stand p l e ({ frames := 0, cells := 0, slots := 0, locals := 0 } : Room) s m #[(.int x)] below meth c s₁ [] 0 0 := Stand.of_body Bd
  have e0 : s₁.heap = h0 := by rw [← hh, Bd.state]; rfl
  have N0 := Fr.nil n0
  obtain ⟨S0, hS0⟩ : ∃ S0, S0 = s₁.setTop (entryFrame m #[(.int x)] 1) := ⟨_, rfl⟩
  have pre : Pth p e below S0 s₁ (mkF m 0 #[.val (.int x)] []) := fun t k => by rw [hS0]; exact castTop (ef_cen m x) k
  replace pre : Pth p e below S0 s₁ (mkF m 12 #[.val (.int x)] [(.int (1 : Int32))]) := fun t k => pre t (by
    show Steps p.tables e below (s₁.setTop (mkF m 0 #[.val (.int x)] [])) t
    refine XS.iloadN X0.here hx rfl (hb hby d_cen_0) rfl ?_
    show Steps p.tables e below (s₁.setTop (mkF m 1 #[.val (.int x)] [(.int x)])) t
    refine XS.sipush X0.here hx rfl (hb hby d_cen_1) ?_
    show Steps p.tables e below (s₁.setTop (mkF m 4 #[.val (.int x)] [(.int (255 : Int32)), (.int x)])) t
    refine XS.icmpNo X0.here hx rfl (hb hby d_cen_4) rfl (XT.ii_gt_f hx0) ?_
    show Steps p.tables e below (s₁.setTop (mkF m 7 #[.val (.int x)] [])) t
    refine XS.iconst X0.here hx rfl (hb hby d_cen_7) ?_
    show Steps p.tables e below (s₁.setTop (mkF m 8 #[.val (.int x)] [(.int (1 : Int32))])) t
    refine XS.goto X0.here hx rfl (pc0 := 8) (pc' := 12) rfl (hb hby d_cen_8) (by decide) (by decide) ?_
    show Steps p.tables e below (s₁.setTop (mkF m 12 #[.val (.int x)] [(.int (1 : Int32))])) t
    exact k)
  obtain ⟨fs, hr, hrun, hended, hW, hsame⟩ := X0.leave (v := some (.int (1 : Int32))) (fun h => by rw [Bd.returns] at h; cases h)
  subst hS0
  refine ⟨_, _, pre _ ?_, hrun, hended, _, _, rfl, ?_, ⟨_, rfl⟩, hW, hsame.mono (by decide) (by decide)⟩
  · exact retN X0 hx (t := .boolean) Bd.returns (by simp) (hb hby d_cen_12) hr
  · show Q_cen Z x h0 n0 _ s₁.heap _
    rw [e0]
    exact ⟨rfl, N0, rfl⟩
def Q_tob (Z : State) (x : Int32) (h0 : Heap) (n0 : Nat) (v : Option Value) (h : Heap) (L : List Loc) : Prop := ∃ b, v = some (.ref b) ∧ Fr n0 L ∧ Ext h0 h ∧ h0.size ≤ b ∧ OFun Z h b .byte 1 (own_one (x.toInt8.toInt32))
set_option maxRecDepth 65536 in
set_option maxHeartbeats 40000000 in
theorem rm_tob (l : Launch) (Z : State) (a0 : Array Value) (hw : ∀ d ∈ tables_1, d.before a0 Z = true) (ws : List Jvm.Cond) (x : Int32) (h0 : Heap) (n0 : Nat) (Z0 : n0 ≤ h0.size) (nx : nar .byte (x.toInt8.toInt32) = x.toInt8.toInt32) :
    MetFree l (⟨"java/lang/StringLatin1", "toBytes", "(C)[B"⟩ : MethodName) (head1 (Jvm.Cond.code (⟨"java/lang/StringLatin1", "toBytes", "(C)[B"⟩ : MethodName) jdk_43_method_46_code 1 (some (.array .byte)) :: ws) ({ frames := 0, cells := 1, slots := 1, locals := 0 } : Room)) (fun a U => a = #[(.int x)] ∧ Z.Warmed39 U.vm ∧ U.heap = h0) (fun _ _ _ _ _ => True) (fun _ U o U' => ∃ v L, o = .returned v ∧ Q_tob Z x h0 n0 v U'.heap L ∧ FrameEnd U o U' L ({ frames := 0, cells := 1, slots := 1, locals := 0 } : Room).cells ({ frames := 0, cells := 1, slots := 1, locals := 0 } : Room).slots) := by
  refine MetFree.of_bodySF (plainFor_of_name pn_java_lang_StringLatin1) hisR ?_
  intro p e s m args below meth c s₁ Bd hml0 hP hK
  obtain ⟨rfl, hZ, hh⟩ := hP
  have hx := Bd.exec
  have hby := Bd.bytes
  have hml : c.maxLocals = 1 := hml0
  have hown : s.vm.findClass "java/lang/StringLatin1" = some m.cls := findClass_of_methodNamed Bd.named
  have hnm := (name_of_methodNamed Bd.named Bd.method).1
  have X0 : Stand p l e ({ frames := 0, cells := 1, slots := 1, locals := 0 } : Room) s m #[(.int x)] below meth c s₁ [] 0 0 := Stand.of_body Bd
  have e0 : s₁.heap = h0 := by rw [← hh, Bd.state]; rfl
  have N0 := Fr.nil n0
  obtain ⟨S0, hS0⟩ : ∃ S0, S0 = s₁.setTop (entryFrame m #[(.int x)] 1) := ⟨_, rfl⟩
  have pre : Pth p e below S0 s₁ (mkF m 0 #[.val (.int x)] []) := fun t k => by rw [hS0]; exact castTop (ef_tob m x) k
  replace pre : Pth p e below S0 s₁ (mkF m 1 #[.val (.int x)] [(.int (1 : Int32))]) := fun t k => pre t (by
    show Steps p.tables e below (s₁.setTop (mkF m 0 #[.val (.int x)] [])) t
    refine XS.iconst X0.here hx rfl (hb hby d_tob_0) ?_
    show Steps p.tables e below (s₁.setTop (mkF m 1 #[.val (.int x)] [(.int (1 : Int32))])) t
    exact k)
  obtain ⟨T35, h35, k35, X35, e35, E35, A35, st35⟩ := newP X0 hx hZ (hw _ (List.mem_of_getElem? (i := 25) rfl)) e0 (g := (mkF m 1 #[.val (.int x)] [(.int (1 : Int32))])) rfl (hb hby d_tob_1) rfl (by decide) (cap := 1) (by decide) (by decide) (by decide) (by decide)
  obtain ⟨b35, g35⟩ : ∃ z, z = h0.size := ⟨_, rfl⟩
  rw [← g35] at A35 st35
  have F35 := OFun.new A35
  replace pre : Pth p e below S0 T35 (mkF m 3 #[.val (.int x)] [(.ref b35)]) := fun t k => pre t (st35 _ k)
  have Fb : OFun Z h35 b35 .byte 1 _ := F35
  replace pre : Pth p e below S0 T35 (mkF m 7 #[.val (.int x)] [(.int (x.toInt8.toInt32)), (.int (0 : Int32)), (.ref b35), (.ref b35)]) := fun t k => pre t (by
    show Steps p.tables e below (T35.setTop (mkF m 3 #[.val (.int x)] [(.ref b35)])) t
    refine XS.dup X35.here hx rfl (hb hby d_tob_3) rfl rfl ?_
    show Steps p.tables e below (T35.setTop (mkF m 4 #[.val (.int x)] [(.ref b35), (.ref b35)])) t
    refine XS.iconst X35.here hx rfl (hb hby d_tob_4) ?_
    show Steps p.tables e below (T35.setTop (mkF m 5 #[.val (.int x)] [(.int (0 : Int32)), (.ref b35), (.ref b35)])) t
    refine XS.iloadN X35.here hx rfl (hb hby d_tob_5) rfl ?_
    show Steps p.tables e below (T35.setTop (mkF m 6 #[.val (.int x)] [(.int x), (.int (0 : Int32)), (.ref b35), (.ref b35)])) t
    refine XS.i2b X35.here hx rfl (hb hby d_tob_6) rfl ?_
    show Steps p.tables e below (T35.setTop (mkF m 7 #[.val (.int x)] [(.int (x.toInt8.toInt32)), (.int (0 : Int32)), (.ref b35), (.ref b35)])) t
    exact k)
  obtain ⟨cl36, Ar36, Sz36, -⟩ := id Fb
  obtain ⟨T36, h36, X36, e36, W36, st36⟩ := stB X35 hx hZ e35 Ar36 (j := (0 : Int32)) (by rw [Sz36]; exact (by decide)) (g := (mkF m 7 #[.val (.int x)] [(.int (x.toInt8.toInt32)), (.int (0 : Int32)), (.ref b35), (.ref b35)])) rfl rfl (hb hby d_tob_7)
  have F36 := OFun.set Fb W36
  have N36 := Fr.snoc X36 N0 (by rw [g35]; exact Z0)
  replace pre : Pth p e below S0 T36 (mkF m 8 #[.val (.int x)] [(.ref b35)]) := fun t k => pre t (st36 _ k)
  obtain ⟨fs, hr, hrun, hended, hW, hsame⟩ := X36.leave (v := some (.ref b35)) (fun h => by rw [Bd.returns] at h; cases h)
  subst hS0
  refine ⟨_, _, pre _ ?_, hrun, hended, _, _, rfl, ?_, ⟨_, rfl⟩, hW, hsame.mono (by decide) (by decide)⟩
  · exact retOut X36 hx (t := (.array .byte)) Bd.returns rfl (by simp [Value.isRef, FieldType.isReference]) (hb hby d_tob_8) hr
  · show Q_tob Z x h0 n0 _ T36.heap _
    rw [e36]
    refine ⟨b35, rfl, N36, own_ext_wr E35 W36 (by rw [g35]; exact Nat.le_refl _), by rw [g35]; exact Nat.le_refl _, F36.congr fun j hj => ?_⟩
    rw [nx]
    match j, hj with
    | 0, _ => rfl
def Q_vof (Z : State) (x : Int32) (cz : Int32) (h0 : Heap) (n0 : Nat) (v : Option Value) (h : Heap) (L : List Loc) : Prop := ∃ r p, v = some (.ref r) ∧ Fr n0 L ∧ Ext h0 h ∧ OStr Z h r p [x.toInt8.toInt32]
set_option maxRecDepth 65536 in
set_option maxHeartbeats 40000000 in
theorem rm_vof (l : Launch) (Z : State) (a0 : Array Value) (hw : ∀ d ∈ tables_1, d.before a0 Z = true) (ws : List Jvm.Cond) (x : Int32) (cz : Int32) (h0 : Heap) (n0 : Nat) (Z0 : n0 ≤ h0.size) (hx0 : ¬ (255 : Int32) < x) (nx : nar .byte (x.toInt8.toInt32) = x.toInt8.toInt32) (Scs : Sta Z h0 "java/lang/String" "COMPACT_STRINGS" "Z" (.int cz)) (hcz : ¬ cz = 0) :
    MetFree l (⟨"java/lang/String", "valueOf", "(C)Ljava/lang/String;"⟩ : MethodName) (head1 (Jvm.Cond.code (⟨"java/lang/String", "valueOf", "(C)Ljava/lang/String;"⟩ : MethodName) jdk_42_method_139_code 1 (some (.object "java/lang/String")) :: ws) ({ frames := 2, cells := 2, slots := 5, locals := 27 } : Room)) (fun a U => a = #[(.int x)] ∧ Z.Warmed39 U.vm ∧ U.heap = h0) (fun _ _ _ _ _ => True) (fun _ U o U' => ∃ v L, o = .returned v ∧ Q_vof Z x cz h0 n0 v U'.heap L ∧ FrameEnd U o U' L ({ frames := 2, cells := 2, slots := 5, locals := 27 } : Room).cells ({ frames := 2, cells := 2, slots := 5, locals := 27 } : Room).slots) := by
  refine MetFree.of_bodySF (plainFor_of_name pn_java_lang_String) hisR ?_
  intro p e s m args below meth c s₁ Bd hml0 hP hK
  obtain ⟨rfl, hZ, hh⟩ := hP
  have hx := Bd.exec
  have hby := Bd.bytes
  have hml : c.maxLocals = 1 := hml0
  have hown : s.vm.findClass "java/lang/String" = some m.cls := findClass_of_methodNamed Bd.named
  have hnm := (name_of_methodNamed Bd.named Bd.method).1
  have X0 : Stand p l e ({ frames := 2, cells := 2, slots := 5, locals := 27 } : Room) s m #[(.int x)] below meth c s₁ [] 0 0 := Stand.of_body Bd
  have e0 : s₁.heap = h0 := by rw [← hh, Bd.state]; rfl
  have N0 := Fr.nil n0
  obtain ⟨S0, hS0⟩ : ∃ S0, S0 = s₁.setTop (entryFrame m #[(.int x)] 1) := ⟨_, rfl⟩
  have pre : Pth p e below S0 s₁ (mkF m 0 #[.val (.int x)] []) := fun t k => by rw [hS0]; exact castTop (ef_vof m x) k
  obtain ⟨T37, X37, e37, st37⟩ := getS2 X0 hx hZ hown (host := "") (Or.inl (hw _ (List.mem_of_getElem? (i := 54) rfl))) Via.refl e0 Scs (g := (mkF m 0 #[.val (.int x)] [])) rfl (hb hby d_vof_0)
  replace pre : Pth p e below S0 T37 (mkF m 3 #[.val (.int x)] [(.int cz)]) := fun t k => pre t (st37 _ k)
  replace pre : Pth p e below S0 T37 (mkF m 7 #[.val (.int x)] [(.int x)]) := fun t k => pre t (by
    show Steps p.tables e below (T37.setTop (mkF m 3 #[.val (.int x)] [(.int cz)])) t
    refine XS.ifNo X37.here hx rfl (hb hby d_vof_3) rfl (XT.i0_eq_f hcz) ?_
    show Steps p.tables e below (T37.setTop (mkF m 6 #[.val (.int x)] [])) t
    refine XS.iloadN X37.here hx rfl (hb hby d_vof_6) rfl ?_
    show Steps p.tables e below (T37.setTop (mkF m 7 #[.val (.int x)] [(.int x)])) t
    exact k)
  obtain ⟨_, _, ⟨T38, L38, k38, n38⟩, -, X38, ⟨Lc38, hQ38, l38, y38, z38⟩, st38⟩ := Jvm.LawKit.callS X37 hx (y := (⟨"java/lang/StringLatin1", "canEncode", "(C)Z"⟩ : MethodName)) hown (mvT hZ (hw _ (List.mem_of_getElem? (i := 83) rfl))) (mvT hZ (hw _ (List.mem_of_getElem? (i := 84) rfl))) (mvT hZ (hw _ (List.mem_of_getElem? (i := 78) rfl))) (mvT hZ (hw _ (List.mem_of_getElem? (i := 85) rfl))) (by decide) (backOf (W := 0) (rm_cen l Z a0 hw [] x h0 n0 hx0) hZ (hw _ (List.mem_of_getElem? (i := 85) rfl)) (hw _ (List.mem_of_getElem? (i := 78) rfl)) (by decide) (by decide)) (g := (mkF m 7 #[.val (.int x)] [(.int x)])) rfl (by rw [hml]; rfl) (argsL := [(.int x)]) (rest := []) (lenOf pd__C_Z rfl) rfl (by show 2 * 0 + _ ≤ _; exact Nat.le_of_eq rfl) (hb hby d_vof_7) (fun _ _ => ⟨rfl, e37, (by decide : 0 + 0 ≤ _), (by decide : 0 + 0 ≤ _)⟩)
  dsimp only [Pt.U, Pt.locs, Pt.cells, Pt.slots] at X38 l38 y38 z38 st38 hQ38
  subst l38 y38 z38
  obtain ⟨rfl, N38q, e38⟩ := hQ38
  have N38 := Fr.app N0 N38q
  replace pre : Pth p e below S0 T38 (mkF m 10 #[.val (.int x)] [(.int (1 : Int32))]) := fun t k => pre t (st38 _ k)
  replace pre : Pth p e below S0 T38 (mkF m 13 #[.val (.int x)] []) := fun t k => pre t (by
    show Steps p.tables e below (T38.setTop (mkF m 10 #[.val (.int x)] [(.int (1 : Int32))])) t
    refine XS.ifNo X38.here hx rfl (hb hby d_vof_10) rfl (XT.i0_eq_f (by decide)) ?_
    show Steps p.tables e below (T38.setTop (mkF m 13 #[.val (.int x)] [])) t
    exact k)
  obtain ⟨T39, h39, X39, e39, E39, A39, D39, -, st39⟩ := newO X38 hx hZ hown (hw _ (List.mem_of_getElem? (i := 75) rfl)) (hw _ (List.mem_of_getElem? (i := 11) rfl)) (hw _ (List.mem_of_getElem? (i := 12) rfl)) e38 (g := (mkF m 13 #[.val (.int x)] [])) rfl (hb hby d_vof_13) (by decide) (by decide)
  obtain ⟨b39, g39⟩ : ∃ z, z = h0.size := ⟨_, rfl⟩
  rw [← g39] at A39 D39 st39
  replace pre : Pth p e below S0 T39 (mkF m 16 #[.val (.int x)] [(.ref b39)]) := fun t k => pre t (st39 _ k)
  have Vs : Fld Z h39 b39 "java/lang/String" "value" "[B" .null := D39 (Or.inr (hw _ (List.mem_of_getElem? (i := 26) rfl))) (ty := .array .byte) (by decide)
  have Cs : Fld Z h39 b39 "java/lang/String" "coder" "B" (.int 0) := D39 (Or.inr (hw _ (List.mem_of_getElem? (i := 27) rfl))) (ty := .byte) (by decide)
  replace pre : Pth p e below S0 T39 (mkF m 18 #[.val (.int x)] [(.int x), (.ref b39), (.ref b39)]) := fun t k => pre t (by
    show Steps p.tables e below (T39.setTop (mkF m 16 #[.val (.int x)] [(.ref b39)])) t
    refine XS.dup X39.here hx rfl (hb hby d_vof_16) rfl rfl ?_
    show Steps p.tables e below (T39.setTop (mkF m 17 #[.val (.int x)] [(.ref b39), (.ref b39)])) t
    refine XS.iloadN X39.here hx rfl (hb hby d_vof_17) rfl ?_
    show Steps p.tables e below (T39.setTop (mkF m 18 #[.val (.int x)] [(.int x), (.ref b39), (.ref b39)])) t
    exact k)
  obtain ⟨_, _, ⟨T40, L40, k40, n40⟩, -, X40, ⟨Lc40, hQ40, l40, y40, z40⟩, st40⟩ := Jvm.LawKit.callS X39 hx (y := (⟨"java/lang/StringLatin1", "toBytes", "(C)[B"⟩ : MethodName)) hown (mvT hZ (hw _ (List.mem_of_getElem? (i := 86) rfl))) (mvT hZ (hw _ (List.mem_of_getElem? (i := 87) rfl))) (mvT hZ (hw _ (List.mem_of_getElem? (i := 78) rfl))) (mvT hZ (hw _ (List.mem_of_getElem? (i := 88) rfl))) (by decide) (backOf (W := 2) (rm_tob l Z a0 hw [] x h39 n0 (Nat.le_trans Z0 E39.1) nx) hZ (hw _ (List.mem_of_getElem? (i := 88) rfl)) (hw _ (List.mem_of_getElem? (i := 78) rfl)) (by decide) (by decide)) (g := (mkF m 18 #[.val (.int x)] [(.int x), (.ref b39), (.ref b39)])) rfl (by rw [hml]; rfl) (argsL := [(.int x)]) (rest := [(.ref b39), (.ref b39)]) (lenOf pd__C__B rfl) rfl (by show 2 * 0 + _ ≤ _; exact Nat.le_of_eq rfl) (hb hby d_vof_18) (fun _ _ => ⟨rfl, e39, (by decide : 1 + 1 ≤ _), (by decide : 4 + 1 ≤ _)⟩)
  dsimp only [Pt.U, Pt.locs, Pt.cells, Pt.slots] at X40 l40 y40 z40 st40 hQ40
  subst l40 y40 z40
  obtain ⟨bb, rfl, N40q, E40, gB, O40⟩ := hQ40
  have N40 := Fr.app N38 N40q
  replace pre : Pth p e below S0 T40 (mkF m 21 #[.val (.int x)] [(.ref bb), (.ref b39), (.ref b39)]) := fun t k => pre t (st40 _ k)
  have gA : n0 ≤ b39 := by rw [g39]; exact Z0
  have neB : bb ≠ b39 := fun z => Nat.lt_irrefl _ (Nat.lt_of_lt_of_le A39.lt (z ▸ gB))
  replace pre : Pth p e below S0 T40 (mkF m 22 #[.val (.int x)] [(.int (0 : Int32)), (.ref bb), (.ref b39), (.ref b39)]) := fun t k => pre t (by
    show Steps p.tables e below (T40.setTop (mkF m 21 #[.val (.int x)] [(.ref bb), (.ref b39), (.ref b39)])) t
    refine XS.iconst X40.here hx rfl (hb hby d_vof_21) ?_
    show Steps p.tables e below (T40.setTop (mkF m 22 #[.val (.int x)] [(.int (0 : Int32)), (.ref bb), (.ref b39), (.ref b39)])) t
    exact k)
  obtain ⟨_, _, ⟨T41, L41, k41, n41⟩, -, X41, ⟨Lc41, hQ41, l41, y41, z41⟩, st41⟩ := X40.specialBack hx (y := (⟨"java/lang/String", "<init>", "([BB)V"⟩ : MethodName)) rfl hown (mvT hZ (hw _ (List.mem_of_getElem? (i := 89) rfl))) (mvT hZ (hw _ (List.mem_of_getElem? (i := 90) rfl))) (mvT hZ (hw _ (List.mem_of_getElem? (i := 91) rfl))) (by decide) (backOf (W := 1) (rm_ib l Z a0 hw [] b39 bb [x.toInt8.toInt32] T40.heap n0 gA (A39.ext E40) (Vs.ext E40) (Cs.ext E40) neB O40) hZ (hw _ (List.mem_of_getElem? (i := 91) rfl)) (hw _ (List.mem_of_getElem? (i := 12) rfl)) (by decide) (by decide)) (g := (mkF m 22 #[.val (.int x)] [(.int (0 : Int32)), (.ref bb), (.ref b39), (.ref b39)])) rfl (by rw [hml]; rfl) (Steps.refl _) (a := b39) (argsL := [(.ref bb), (.int (0 : Int32))]) (rest := [(.ref b39)]) (lenOf pd___BB_V rfl) rfl (by show 2 * 0 + _ ≤ _; exact Nat.le_of_eq rfl) (hb hby d_vof_22) (fun _ _ => ⟨rfl, rfl, (by decide : 2 + 0 ≤ _), (by decide : 5 + 0 ≤ _)⟩)
  dsimp only [Pt.U, Pt.locs, Pt.cells, Pt.slots] at X41 l41 y41 z41 st41 hQ41
  subst l41 y41 z41
  obtain ⟨rfl, N41q, K41, S41⟩ := hQ41
  have N41 := Fr.app N40 N41q
  replace pre : Pth p e below S0 T41 (mkF m 25 #[.val (.int x)] [(.ref b39)]) := fun t k => pre t (st41.trans k)
  obtain ⟨fs, hr, hrun, hended, hW, hsame⟩ := X41.leave (v := some (.ref b39)) (fun h => by rw [Bd.returns] at h; cases h)
  subst hS0
  refine ⟨_, _, pre _ ?_, hrun, hended, _, _, rfl, ?_, ⟨_, rfl⟩, hW, hsame.mono (by decide) (by decide)⟩
  · exact retOut X41 hx (t := (.object "java/lang/String")) Bd.returns rfl (by simp [Value.isRef, FieldType.isReference]) (hb hby d_vof_25) hr
  · show Q_vof Z x cz h0 n0 _ T41.heap _
    exact ⟨b39, bb, rfl, N41, own_ext_keep (own_ext_trans E39 E40) K41 (fun z hz => by rw [List.mem_singleton.mp hz, g39]; exact Nat.le_refl _), S41⟩
def Q_rec (Z : State) (a1 : Addr) (h0 : Heap) (n0 : Nat) (v : Option Value) (h : Heap) (L : List Loc) : Prop := v = none ∧ Fr n0 L ∧ h = h0
set_option maxRecDepth 65536 in
set_option maxHeartbeats 40000000 in
theorem rm_rec (l : Launch) (Z : State) (a0 : Array Value) (hw : ∀ d ∈ tables_1, d.before a0 Z = true) (ws : List Jvm.Cond) (a1 : Addr) (h0 : Heap) (n0 : Nat)  :
    MetFree l (⟨"java/lang/Record", "<init>", "()V"⟩ : MethodName) (head1 (Jvm.Cond.code (⟨"java/lang/Record", "<init>", "()V"⟩ : MethodName) jdk_30_method_1_code 1 none :: ws) ({ frames := 1, cells := 0, slots := 0, locals := 12 } : Room)) (fun a U => a = #[(.ref a1)] ∧ Z.Warmed39 U.vm ∧ U.heap = h0) (fun _ _ _ _ _ => True) (fun _ U o U' => ∃ v L, o = .returned v ∧ Q_rec Z a1 h0 n0 v U'.heap L ∧ FrameEnd U o U' L ({ frames := 1, cells := 0, slots := 0, locals := 12 } : Room).cells ({ frames := 1, cells := 0, slots := 0, locals := 12 } : Room).slots) := by
  refine MetFree.of_bodySF (plainFor_of_name pn_java_lang_Record) hisR ?_
  intro p e s m args below meth c s₁ Bd hml0 hP hK
  obtain ⟨rfl, hZ, hh⟩ := hP
  have hx := Bd.exec
  have hby := Bd.bytes
  have hml : c.maxLocals = 1 := hml0
  have hown : s.vm.findClass "java/lang/Record" = some m.cls := findClass_of_methodNamed Bd.named
  have hnm := (name_of_methodNamed Bd.named Bd.method).1
  have X0 : Stand p l e ({ frames := 1, cells := 0, slots := 0, locals := 12 } : Room) s m #[(.ref a1)] below meth c s₁ [] 0 0 := Stand.of_body Bd
  have e0 : s₁.heap = h0 := by rw [← hh, Bd.state]; rfl
  have N0 := Fr.nil n0
  obtain ⟨S0, hS0⟩ : ∃ S0, S0 = s₁.setTop (entryFrame m #[(.ref a1)] 1) := ⟨_, rfl⟩
  have pre : Pth p e below S0 s₁ (mkF m 0 #[.val (.ref a1)] []) := fun t k => by rw [hS0]; exact castTop (ef_rec m a1) k
  replace pre : Pth p e below S0 s₁ (mkF m 1 #[.val (.ref a1)] [(.ref a1)]) := fun t k => pre t (by
    show Steps p.tables e below (s₁.setTop (mkF m 0 #[.val (.ref a1)] [])) t
    refine XS.aloadN X0.here hx rfl (hb hby d_rec_0) rfl rfl ?_
    show Steps p.tables e below (s₁.setTop (mkF m 1 #[.val (.ref a1)] [(.ref a1)])) t
    exact k)
  obtain ⟨T42, X42, e42, st42⟩ := initO X0 hx hZ hown (hw _ (List.mem_of_getElem? (i := 40) rfl)) (hw _ (List.mem_of_getElem? (i := 22) rfl)) (hw _ (List.mem_of_getElem? (i := 23) rfl)) e0 (g := (mkF m 1 #[.val (.ref a1)] [(.ref a1)])) rfl (by rw [hml]; rfl) rfl (hb hby d_rec_1) (by decide) (W := 0) (by show 2 * 0 + _ ≤ _; exact Nat.le_of_eq rfl) (by decide)
  replace pre : Pth p e below S0 T42 (mkF m 4 #[.val (.ref a1)] []) := fun t k => pre t (st42 _ k)
  obtain ⟨fs, hr, hrun, hended, hW, hsame⟩ := X42.leave (v := none) (fun _ => rfl)
  subst hS0
  refine ⟨_, _, pre _ ?_, hrun, hended, _, _, rfl, ?_, ⟨_, rfl⟩, hW, hsame.mono (by decide) (by decide)⟩
  · exact X42.returnOut hx Bd.returns (hb hby d_rec_4) hr
  · show Q_rec Z a1 h0 n0 _ T42.heap _
    rw [e42]
    exact ⟨rfl, N0, rfl⟩
def Q_oi (Z : State) (a1 : Addr) (t1 : Addr) (t2 : Addr) (q1 : Int32) (h0 : Heap) (n0 : Nat) (v : Option Value) (h : Heap) (L : List Loc) : Prop := v = none ∧ Fr n0 L ∧ Keep h0 h [a1] ∧ OOr Z h a1 t1 t2 q1
set_option maxRecDepth 65536 in
set_option maxHeartbeats 40000000 in
theorem rm_oi (l : Launch) (Z : State) (a0 : Array Value) (hw : ∀ d ∈ tables_1, d.before a0 Z = true) (ws : List Jvm.Cond) (a1 : Addr) (t1 : Addr) (t2 : Addr) (q1 : Int32) (h0 : Heap) (n0 : Nat) (ga : n0 ≤ a1) (Ea : Exa Z h0 a1 "com/example/originlint/originlint/Origin") (F_scheme : Fld Z h0 a1 "com/example/originlint/originlint/Origin" "scheme" "Ljava/lang/String;" .null) (F_host : Fld Z h0 a1 "com/example/originlint/originlint/Origin" "host" "Ljava/lang/String;" .null) (F_port : Fld Z h0 a1 "com/example/originlint/originlint/Origin" "port" "I" (.int 0)) :
    MetFree l (⟨"com/example/originlint/originlint/Origin", "<init>", "(Ljava/lang/String;Ljava/lang/String;I)V"⟩ : MethodName) (head1 (Jvm.Cond.code (⟨"com/example/originlint/originlint/Origin", "<init>", "(Ljava/lang/String;Ljava/lang/String;I)V"⟩ : MethodName) prog_31_method_1_code 4 none :: ws) ({ frames := 2, cells := 0, slots := 0, locals := 24 } : Room)) (fun a U => a = #[(.ref a1), (.ref t1), (.ref t2), (.int q1)] ∧ Z.Warmed39 U.vm ∧ U.heap = h0) (fun _ _ _ _ _ => True) (fun _ U o U' => ∃ v L, o = .returned v ∧ Q_oi Z a1 t1 t2 q1 h0 n0 v U'.heap L ∧ FrameEnd U o U' L ({ frames := 2, cells := 0, slots := 0, locals := 24 } : Room).cells ({ frames := 2, cells := 0, slots := 0, locals := 24 } : Room).slots) := by
  refine MetFree.of_bodySF (plainFor_of_name pn_com_example_originlint_originlint_Origin) hisR ?_
  intro p e s m args below meth c s₁ Bd hml0 hP hK
  obtain ⟨rfl, hZ, hh⟩ := hP
  have hx := Bd.exec
  have hby := Bd.bytes
  have hml : c.maxLocals = 4 := hml0
  have hown : s.vm.findClass "com/example/originlint/originlint/Origin" = some m.cls := findClass_of_methodNamed Bd.named
  have hnm := (name_of_methodNamed Bd.named Bd.method).1
  have X0 : Stand p l e ({ frames := 2, cells := 0, slots := 0, locals := 24 } : Room) s m #[(.ref a1), (.ref t1), (.ref t2), (.int q1)] below meth c s₁ [] 0 0 := Stand.of_body Bd
  have e0 : s₁.heap = h0 := by rw [← hh, Bd.state]; rfl
  have N0 := Fr.nil n0
  obtain ⟨S0, hS0⟩ : ∃ S0, S0 = s₁.setTop (entryFrame m #[(.ref a1), (.ref t1), (.ref t2), (.int q1)] 4) := ⟨_, rfl⟩
  have pre : Pth p e below S0 s₁ (mkF m 0 #[.val (.ref a1), .val (.ref t1), .val (.ref t2), .val (.int q1)] []) := fun t k => by rw [hS0]; exact castTop (ef_oi m a1 t1 t2 q1) k
  replace pre : Pth p e below S0 s₁ (mkF m 1 #[.val (.ref a1), .val (.ref t1), .val (.ref t2), .val (.int q1)] [(.ref a1)]) := fun t k => pre t (by
    show Steps p.tables e below (s₁.setTop (mkF m 0 #[.val (.ref a1), .val (.ref t1), .val (.ref t2), .val (.int q1)] [])) t
    refine XS.aloadN X0.here hx rfl (hb hby d_oi_0) rfl rfl ?_
    show Steps p.tables e below (s₁.setTop (mkF m 1 #[.val (.ref a1), .val (.ref t1), .val (.ref t2), .val (.int q1)] [(.ref a1)])) t
    exact k)
  obtain ⟨_, _, ⟨T43, L43, k43, n43⟩, -, X43, ⟨Lc43, hQ43, l43, y43, z43⟩, st43⟩ := X0.specialBack hx (y := (⟨"java/lang/Record", "<init>", "()V"⟩ : MethodName)) rfl hown (mvT hZ (hw _ (List.mem_of_getElem? (i := 35) rfl))) (mvT hZ (hw _ (List.mem_of_getElem? (i := 36) rfl))) (mvT hZ (hw _ (List.mem_of_getElem? (i := 39) rfl))) (by decide) (backOf (W := 0) (rm_rec l Z a0 hw [] a1 h0 n0) hZ (hw _ (List.mem_of_getElem? (i := 39) rfl)) (hw _ (List.mem_of_getElem? (i := 38) rfl)) (by decide) (by decide)) (g := (mkF m 1 #[.val (.ref a1), .val (.ref t1), .val (.ref t2), .val (.int q1)] [(.ref a1)])) rfl (by rw [hml]; rfl) (Steps.refl _) (a := a1) (argsL := []) (rest := []) (lenOf pd___V rfl) rfl (by show 2 * 0 + _ ≤ _; exact Nat.le_of_eq rfl) (hb hby d_oi_1) (fun _ _ => ⟨rfl, e0, (by decide : 0 + 0 ≤ _), (by decide : 0 + 0 ≤ _)⟩)
  dsimp only [Pt.U, Pt.locs, Pt.cells, Pt.slots] at X43 l43 y43 z43 st43 hQ43
  subst l43 y43 z43
  obtain ⟨rfl, N43q, e43⟩ := hQ43
  have N43 := Fr.app N0 N43q
  replace pre : Pth p e below S0 T43 (mkF m 4 #[.val (.ref a1), .val (.ref t1), .val (.ref t2), .val (.int q1)] []) := fun t k => pre t (st43.trans k)
  replace pre : Pth p e below S0 T43 (mkF m 6 #[.val (.ref a1), .val (.ref t1), .val (.ref t2), .val (.int q1)] [(.ref t1), (.ref a1)]) := fun t k => pre t (by
    show Steps p.tables e below (T43.setTop (mkF m 4 #[.val (.ref a1), .val (.ref t1), .val (.ref t2), .val (.int q1)] [])) t
    refine XS.aloadN X43.here hx rfl (hb hby d_oi_4) rfl rfl ?_
    show Steps p.tables e below (T43.setTop (mkF m 5 #[.val (.ref a1), .val (.ref t1), .val (.ref t2), .val (.int q1)] [(.ref a1)])) t
    refine XS.aloadN X43.here hx rfl (hb hby d_oi_5) rfl rfl ?_
    show Steps p.tables e below (T43.setTop (mkF m 6 #[.val (.ref a1), .val (.ref t1), .val (.ref t2), .val (.int q1)] [(.ref t1), (.ref a1)])) t
    exact k)
  obtain ⟨T44, h44, X44, e44, W44, st44⟩ := putF X43 hx hZ hown (host := "") (Or.inl (hw _ (List.mem_of_getElem? (i := 41) rfl))) Via.refl e43 F_scheme Ea (Or.inr ⟨(hw _ (List.mem_of_getElem? (i := 42) rfl)), rfl, hnm⟩) (hw _ (List.mem_of_getElem? (i := 1) rfl)) (ty := (.object "java/lang/String")) (by decide) rfl rfl (g := (mkF m 6 #[.val (.ref a1), .val (.ref t1), .val (.ref t2), .val (.int q1)] [(.ref t1), (.ref a1)])) rfl rfl (hb hby d_oi_6)
  have N44 := Fr.snoc X44 N43 ga
  replace pre : Pth p e below S0 T44 (mkF m 9 #[.val (.ref a1), .val (.ref t1), .val (.ref t2), .val (.int q1)] []) := fun t k => pre t (st44 _ k)
  have F_scheme' := F_scheme.same W44
  have F_host' := F_host.other W44 (Or.inr (slot_ne (Or.inr (hw _ (List.mem_of_getElem? (i := 44) rfl))) (Or.inr (hw _ (List.mem_of_getElem? (i := 42) rfl))) (by decide) (t := (.object "java/lang/String")) (t' := (.object "java/lang/String")) (by decide) (by decide)))
  have F_port' := F_port.other W44 (Or.inr (slot_ne (Or.inr (hw _ (List.mem_of_getElem? (i := 46) rfl))) (Or.inr (hw _ (List.mem_of_getElem? (i := 42) rfl))) (by decide) (t := .int) (t' := (.object "java/lang/String")) (by decide) (by decide)))
  replace pre : Pth p e below S0 T44 (mkF m 11 #[.val (.ref a1), .val (.ref t1), .val (.ref t2), .val (.int q1)] [(.ref t2), (.ref a1)]) := fun t k => pre t (by
    show Steps p.tables e below (T44.setTop (mkF m 9 #[.val (.ref a1), .val (.ref t1), .val (.ref t2), .val (.int q1)] [])) t
    refine XS.aloadN X44.here hx rfl (hb hby d_oi_9) rfl rfl ?_
    show Steps p.tables e below (T44.setTop (mkF m 10 #[.val (.ref a1), .val (.ref t1), .val (.ref t2), .val (.int q1)] [(.ref a1)])) t
    refine XS.aloadN X44.here hx rfl (hb hby d_oi_10) rfl rfl ?_
    show Steps p.tables e below (T44.setTop (mkF m 11 #[.val (.ref a1), .val (.ref t1), .val (.ref t2), .val (.int q1)] [(.ref t2), (.ref a1)])) t
    exact k)
  obtain ⟨T45, h45, X45, e45, W45, st45⟩ := putF X44 hx hZ hown (host := "") (Or.inl (hw _ (List.mem_of_getElem? (i := 43) rfl))) Via.refl e44 F_host' (Ea.wr W44) (Or.inr ⟨(hw _ (List.mem_of_getElem? (i := 44) rfl)), rfl, hnm⟩) (hw _ (List.mem_of_getElem? (i := 1) rfl)) (ty := (.object "java/lang/String")) (by decide) rfl rfl (g := (mkF m 11 #[.val (.ref a1), .val (.ref t1), .val (.ref t2), .val (.int q1)] [(.ref t2), (.ref a1)])) rfl rfl (hb hby d_oi_11)
  have N45 := Fr.snoc X45 N44 ga
  replace pre : Pth p e below S0 T45 (mkF m 14 #[.val (.ref a1), .val (.ref t1), .val (.ref t2), .val (.int q1)] []) := fun t k => pre t (st45 _ k)
  have F_scheme'' := F_scheme'.other W45 (Or.inr (slot_ne (Or.inr (hw _ (List.mem_of_getElem? (i := 42) rfl))) (Or.inr (hw _ (List.mem_of_getElem? (i := 44) rfl))) (by decide) (t := (.object "java/lang/String")) (t' := (.object "java/lang/String")) (by decide) (by decide)))
  have F_host'' := F_host'.same W45
  have F_port'' := F_port'.other W45 (Or.inr (slot_ne (Or.inr (hw _ (List.mem_of_getElem? (i := 46) rfl))) (Or.inr (hw _ (List.mem_of_getElem? (i := 44) rfl))) (by decide) (t := .int) (t' := (.object "java/lang/String")) (by decide) (by decide)))
  replace pre : Pth p e below S0 T45 (mkF m 16 #[.val (.ref a1), .val (.ref t1), .val (.ref t2), .val (.int q1)] [(.int q1), (.ref a1)]) := fun t k => pre t (by
    show Steps p.tables e below (T45.setTop (mkF m 14 #[.val (.ref a1), .val (.ref t1), .val (.ref t2), .val (.int q1)] [])) t
    refine XS.aloadN X45.here hx rfl (hb hby d_oi_14) rfl rfl ?_
    show Steps p.tables e below (T45.setTop (mkF m 15 #[.val (.ref a1), .val (.ref t1), .val (.ref t2), .val (.int q1)] [(.ref a1)])) t
    refine XS.iloadN X45.here hx rfl (hb hby d_oi_15) rfl ?_
    show Steps p.tables e below (T45.setTop (mkF m 16 #[.val (.ref a1), .val (.ref t1), .val (.ref t2), .val (.int q1)] [(.int q1), (.ref a1)])) t
    exact k)
  obtain ⟨T46, h46, X46, e46, W46, st46⟩ := putF X45 hx hZ hown (host := "") (Or.inl (hw _ (List.mem_of_getElem? (i := 45) rfl))) Via.refl e45 F_port'' ((Ea.wr W44).wr W45) (Or.inr ⟨(hw _ (List.mem_of_getElem? (i := 46) rfl)), rfl, hnm⟩) (hw _ (List.mem_of_getElem? (i := 1) rfl)) (ty := .int) (by decide) rfl rfl (g := (mkF m 16 #[.val (.ref a1), .val (.ref t1), .val (.ref t2), .val (.int q1)] [(.int q1), (.ref a1)])) rfl rfl (hb hby d_oi_16)
  have N46 := Fr.snoc X46 N45 ga
  replace pre : Pth p e below S0 T46 (mkF m 19 #[.val (.ref a1), .val (.ref t1), .val (.ref t2), .val (.int q1)] []) := fun t k => pre t (st46 _ k)
  have F_scheme''' := F_scheme''.other W46 (Or.inr (slot_ne (Or.inr (hw _ (List.mem_of_getElem? (i := 42) rfl))) (Or.inr (hw _ (List.mem_of_getElem? (i := 46) rfl))) (by decide) (t := (.object "java/lang/String")) (t' := .int) (by decide) (by decide)))
  have F_host''' := F_host''.other W46 (Or.inr (slot_ne (Or.inr (hw _ (List.mem_of_getElem? (i := 44) rfl))) (Or.inr (hw _ (List.mem_of_getElem? (i := 46) rfl))) (by decide) (t := (.object "java/lang/String")) (t' := .int) (by decide) (by decide)))
  have F_port''' := F_port''.same W46
  obtain ⟨fs, hr, hrun, hended, hW, hsame⟩ := X46.leave (v := none) (fun _ => rfl)
  subst hS0
  refine ⟨_, _, pre _ ?_, hrun, hended, _, _, rfl, ?_, ⟨_, rfl⟩, hW, hsame.mono (by decide) (by decide)⟩
  · exact X46.returnOut hx Bd.returns (hb hby d_oi_19) hr
  · show Q_oi Z a1 t1 t2 q1 h0 n0 _ T46.heap _
    rw [e46]
    exact ⟨rfl, N46, ((((Keep.refl h0 [a1]).wr W44 (Or.inl (List.mem_of_getElem? (i := 0) rfl))).wr W45 (Or.inl (List.mem_of_getElem? (i := 0) rfl))).wr W46 (Or.inl (List.mem_of_getElem? (i := 0) rfl))), (((Ea.wr W44).wr W45).wr W46), F_scheme''', F_host''', F_port'''⟩
def Q_oeq (Z : State) (a1 : Addr) (b1 : Addr) (t1 t2 u1 u2 p1 p2 r1 r2 : Addr) (q1 q2 : Int32) (xs ys us vs : List Int32) (cz : Int32) (h0 : Heap) (n0 : Nat) (v : Option Value) (h : Heap) (L : List Loc) : Prop := v = some (.int (own_oe q1 q2 xs us ys vs)) ∧ Fr n0 L ∧ h = h0
set_option maxRecDepth 65536 in
set_option maxHeartbeats 40000000 in
theorem rm_oeq (l : Launch) (Z : State) (a0 : Array Value) (hw : ∀ d ∈ tables_1, d.before a0 Z = true) (ws : List Jvm.Cond) (a1 : Addr) (b1 : Addr) (t1 t2 u1 u2 p1 p2 r1 r2 : Addr) (q1 q2 : Int32) (xs ys us vs : List Int32) (cz : Int32) (h0 : Heap) (n0 : Nat) (OA : OOr Z h0 a1 t1 t2 q1) (OB : OOr Z h0 b1 u1 u2 q2) (SA : OStr Z h0 t1 p1 xs) (HA : OStr Z h0 t2 p2 ys) (SB : OStr Z h0 u1 r1 us) (HB : OStr Z h0 u2 r2 vs) (l1 : xs.length < 2 ^ 31) (l2 : ys.length < 2 ^ 31) (l3 : us.length < 2 ^ 31) (l4 : vs.length < 2 ^ 31) (Scs : Sta Z h0 "java/lang/String" "COMPACT_STRINGS" "Z" (.int cz)) (hcz : ¬ cz = 0) :
    MetFree l (⟨"com/example/originlint/originlint/Origin", "equals", "(Ljava/lang/Object;)Z"⟩ : MethodName) (head1 (Jvm.Cond.code (⟨"com/example/originlint/originlint/Origin", "equals", "(Ljava/lang/Object;)Z"⟩ : MethodName) prog_31_method_2_code 3 (some .boolean) :: ws) ({ frames := 2, cells := 0, slots := 0, locals := 30 } : Room)) (fun a U => a = #[(.ref a1), (.ref b1)] ∧ Z.Warmed39 U.vm ∧ U.heap = h0) (fun _ _ _ _ _ => True) (fun _ U o U' => ∃ v L, o = .returned v ∧ Q_oeq Z a1 b1 t1 t2 u1 u2 p1 p2 r1 r2 q1 q2 xs ys us vs cz h0 n0 v U'.heap L ∧ FrameEnd U o U' L ({ frames := 2, cells := 0, slots := 0, locals := 30 } : Room).cells ({ frames := 2, cells := 0, slots := 0, locals := 30 } : Room).slots) := by
  refine MetFree.of_bodySF (plainFor_of_name pn_com_example_originlint_originlint_Origin) hisR ?_
  intro p e s m args below meth c s₁ Bd hml0 hP hK
  obtain ⟨rfl, hZ, hh⟩ := hP
  have hx := Bd.exec
  have hby := Bd.bytes
  have hml : c.maxLocals = 3 := hml0
  have hown : s.vm.findClass "com/example/originlint/originlint/Origin" = some m.cls := findClass_of_methodNamed Bd.named
  have hnm := (name_of_methodNamed Bd.named Bd.method).1
  have X0 : Stand p l e ({ frames := 2, cells := 0, slots := 0, locals := 30 } : Room) s m #[(.ref a1), (.ref b1)] below meth c s₁ [] 0 0 := Stand.of_body Bd
  have e0 : s₁.heap = h0 := by rw [← hh, Bd.state]; rfl
  have N0 := Fr.nil n0
  obtain ⟨S0, hS0⟩ : ∃ S0, S0 = s₁.setTop (entryFrame m #[(.ref a1), (.ref b1)] 3) := ⟨_, rfl⟩
  have pre : Pth p e below S0 s₁ (mkF m 0 #[.val (.ref a1), .val (.ref b1), .unset] []) := fun t k => by rw [hS0]; exact castTop (ef_oeq m a1 b1) k
  replace pre : Pth p e below S0 s₁ (mkF m 1 #[.val (.ref a1), .val (.ref b1), .unset] [(.ref b1)]) := fun t k => pre t (by
    show Steps p.tables e below (s₁.setTop (mkF m 0 #[.val (.ref a1), .val (.ref b1), .unset] [])) t
    refine XS.aloadN X0.here hx rfl (hb hby d_oeq_0) rfl rfl ?_
    show Steps p.tables e below (s₁.setTop (mkF m 1 #[.val (.ref a1), .val (.ref b1), .unset] [(.ref b1)])) t
    exact k)
  obtain ⟨T47, X47, e47, st47⟩ := instY X0 hx hZ hown (hw _ (List.mem_of_getElem? (i := 52) rfl)) e0 (Ins.self OB.1) (g := (mkF m 1 #[.val (.ref a1), .val (.ref b1), .unset] [(.ref b1)])) rfl rfl (hb hby d_oeq_1)
  replace pre : Pth p e below S0 T47 (mkF m 4 #[.val (.ref a1), .val (.ref b1), .unset] [(.int (1 : Int32))]) := fun t k => pre t (st47 _ k)
  replace pre : Pth p e below S0 T47 (mkF m 8 #[.val (.ref a1), .val (.ref b1), .unset] [(.ref b1)]) := fun t k => pre t (by
    show Steps p.tables e below (T47.setTop (mkF m 4 #[.val (.ref a1), .val (.ref b1), .unset] [(.int (1 : Int32))])) t
    refine XS.ifNo X47.here hx rfl (hb hby d_oeq_4) rfl (XT.i0_eq_f (by decide)) ?_
    show Steps p.tables e below (T47.setTop (mkF m 7 #[.val (.ref a1), .val (.ref b1), .unset] [])) t
    refine XS.aloadN X47.here hx rfl (hb hby d_oeq_7) rfl rfl ?_
    show Steps p.tables e below (T47.setTop (mkF m 8 #[.val (.ref a1), .val (.ref b1), .unset] [(.ref b1)])) t
    exact k)
  obtain ⟨T48, X48, e48, st48⟩ := castY X47 hx hZ hown (hw _ (List.mem_of_getElem? (i := 52) rfl)) e47 (Ins.self OB.1) (g := (mkF m 8 #[.val (.ref a1), .val (.ref b1), .unset] [(.ref b1)])) rfl rfl (hb hby d_oeq_8)
  replace pre : Pth p e below S0 T48 (mkF m 11 #[.val (.ref a1), .val (.ref b1), .unset] [(.ref b1)]) := fun t k => pre t (st48 _ k)
  replace pre : Pth p e below S0 T48 (mkF m 13 #[.val (.ref a1), .val (.ref b1), .val (.ref b1)] [(.ref a1)]) := fun t k => pre t (by
    show Steps p.tables e below (T48.setTop (mkF m 11 #[.val (.ref a1), .val (.ref b1), .unset] [(.ref b1)])) t
    refine XS.astoreN X48.here hx rfl (hb hby d_oeq_11) rfl rfl (l' := #[.val (.ref a1), .val (.ref b1), .val (.ref b1)]) rfl ?_
    show Steps p.tables e below (T48.setTop (mkF m 12 #[.val (.ref a1), .val (.ref b1), .val (.ref b1)] [])) t
    refine XS.aloadN X48.here hx rfl (hb hby d_oeq_12) rfl rfl ?_
    show Steps p.tables e below (T48.setTop (mkF m 13 #[.val (.ref a1), .val (.ref b1), .val (.ref b1)] [(.ref a1)])) t
    exact k)
  obtain ⟨T49, X49, e49, st49⟩ := getF X48 hx hZ hown (host := "") (Or.inl (hw _ (List.mem_of_getElem? (i := 45) rfl))) Via.refl e48 OA.2.2.2 (g := (mkF m 13 #[.val (.ref a1), .val (.ref b1), .val (.ref b1)] [(.ref a1)])) rfl rfl (hb hby d_oeq_13)
  replace pre : Pth p e below S0 T49 (mkF m 16 #[.val (.ref a1), .val (.ref b1), .val (.ref b1)] [(.int q1)]) := fun t k => pre t (st49 _ k)
  replace pre : Pth p e below S0 T49 (mkF m 17 #[.val (.ref a1), .val (.ref b1), .val (.ref b1)] [(.ref b1), (.int q1)]) := fun t k => pre t (by
    show Steps p.tables e below (T49.setTop (mkF m 16 #[.val (.ref a1), .val (.ref b1), .val (.ref b1)] [(.int q1)])) t
    refine XS.aloadN X49.here hx rfl (hb hby d_oeq_16) rfl rfl ?_
    show Steps p.tables e below (T49.setTop (mkF m 17 #[.val (.ref a1), .val (.ref b1), .val (.ref b1)] [(.ref b1), (.int q1)])) t
    exact k)
  obtain ⟨T50, X50, e50, st50⟩ := getF X49 hx hZ hown (host := "") (Or.inl (hw _ (List.mem_of_getElem? (i := 45) rfl))) Via.refl e49 OB.2.2.2 (g := (mkF m 17 #[.val (.ref a1), .val (.ref b1), .val (.ref b1)] [(.ref b1), (.int q1)])) rfl rfl (hb hby d_oeq_17)
  replace pre : Pth p e below S0 T50 (mkF m 20 #[.val (.ref a1), .val (.ref b1), .val (.ref b1)] [(.int q2), (.int q1)]) := fun t k => pre t (st50 _ k)
  by_cases z0 : q1 = q2
  · replace pre : Pth p e below S0 T50 (mkF m 24 #[.val (.ref a1), .val (.ref b1), .val (.ref b1)] [(.ref a1)]) := fun t k => pre t (by
      show Steps p.tables e below (T50.setTop (mkF m 20 #[.val (.ref a1), .val (.ref b1), .val (.ref b1)] [(.int q2), (.int q1)])) t
      refine XS.icmpNo X50.here hx rfl (hb hby d_oeq_20) rfl (XT.ii_ne_f z0) ?_
      show Steps p.tables e below (T50.setTop (mkF m 23 #[.val (.ref a1), .val (.ref b1), .val (.ref b1)] [])) t
      refine XS.aloadN X50.here hx rfl (hb hby d_oeq_23) rfl rfl ?_
      show Steps p.tables e below (T50.setTop (mkF m 24 #[.val (.ref a1), .val (.ref b1), .val (.ref b1)] [(.ref a1)])) t
      exact k)
    obtain ⟨T51, X51, e51, st51⟩ := getF X50 hx hZ hown (host := "") (Or.inl (hw _ (List.mem_of_getElem? (i := 41) rfl))) Via.refl e50 OA.2.1 (g := (mkF m 24 #[.val (.ref a1), .val (.ref b1), .val (.ref b1)] [(.ref a1)])) rfl rfl (hb hby d_oeq_24)
    replace pre : Pth p e below S0 T51 (mkF m 27 #[.val (.ref a1), .val (.ref b1), .val (.ref b1)] [(.ref t1)]) := fun t k => pre t (st51 _ k)
    replace pre : Pth p e below S0 T51 (mkF m 28 #[.val (.ref a1), .val (.ref b1), .val (.ref b1)] [(.ref b1), (.ref t1)]) := fun t k => pre t (by
      show Steps p.tables e below (T51.setTop (mkF m 27 #[.val (.ref a1), .val (.ref b1), .val (.ref b1)] [(.ref t1)])) t
      refine XS.aloadN X51.here hx rfl (hb hby d_oeq_27) rfl rfl ?_
      show Steps p.tables e below (T51.setTop (mkF m 28 #[.val (.ref a1), .val (.ref b1), .val (.ref b1)] [(.ref b1), (.ref t1)])) t
      exact k)
    obtain ⟨T52, X52, e52, st52⟩ := getF X51 hx hZ hown (host := "") (Or.inl (hw _ (List.mem_of_getElem? (i := 41) rfl))) Via.refl e51 OB.2.1 (g := (mkF m 28 #[.val (.ref a1), .val (.ref b1), .val (.ref b1)] [(.ref b1), (.ref t1)])) rfl rfl (hb hby d_oeq_28)
    replace pre : Pth p e below S0 T52 (mkF m 31 #[.val (.ref a1), .val (.ref b1), .val (.ref b1)] [(.ref u1), (.ref t1)]) := fun t k => pre t (st52 _ k)
    obtain ⟨cq53, kq53, q53a, q53b, q53c⟩ := isOf hZ e52 SA.1
    obtain ⟨_, _, ⟨T53, L53, k53, n53⟩, -, X53, ⟨Lc53, hQ53, l53, y53, z53⟩, st53⟩ := X52.virtualBack hx (y := (⟨"java/lang/String", "equals", "(Ljava/lang/Object;)Z"⟩ : MethodName)) (z := (⟨"java/lang/String", "equals", "(Ljava/lang/Object;)Z"⟩ : MethodName)) hown (mvT hZ (hw _ (List.mem_of_getElem? (i := 70) rfl))) (mvT hZ (hw _ (List.mem_of_getElem? (i := 71) rfl))) (notFace_of_selects (args := #[]) (mvT hZ (hw _ (List.mem_of_getElem? (i := 73) rfl)))) (mvT hZ (hw _ (List.mem_of_getElem? (i := 73) rfl))) (mvT hZ (hw _ (List.mem_of_getElem? (i := 72) rfl))) (by decide) (backOf (W := 0) (rm_seq l Z a0 hw [] t1 u1 p1 r1 xs us cz h0 n0 SA SB l1 l3 Scs hcz) hZ (hw _ (List.mem_of_getElem? (i := 74) rfl)) (hw _ (List.mem_of_getElem? (i := 12) rfl)) (by decide) (by decide)) q53a q53c (g := (mkF m 31 #[.val (.ref a1), .val (.ref b1), .val (.ref b1)] [(.ref u1), (.ref t1)])) rfl (by rw [hml]; rfl) (Steps.refl _) (argsL := [(.ref u1)]) (rest := []) (lenOf pd__Ljava_lang_Object__Z rfl) rfl (by show 2 * 0 + _ ≤ _; exact Nat.le_of_eq rfl) (hb hby d_oeq_31) (fun _ _ => ⟨rfl, e52, (by decide : 0 + 0 ≤ _), (by decide : 0 + 0 ≤ _)⟩)
    dsimp only [Pt.U, Pt.locs, Pt.cells, Pt.slots] at X53 l53 y53 z53 st53 hQ53
    subst l53 y53 z53
    obtain ⟨rfl, N53q, e53⟩ := hQ53
    have N53 := Fr.app N0 N53q
    replace pre : Pth p e below S0 T53 (mkF m 34 #[.val (.ref a1), .val (.ref b1), .val (.ref b1)] [(.int (own_eq xs us))]) := fun t k => pre t (st53.trans k)
    by_cases z1 : (own_eq xs us) = (0 : Int32)
    · replace pre : Pth p e below S0 T53 (mkF m 56 #[.val (.ref a1), .val (.ref b1), .val (.ref b1)] [(.int (0 : Int32))]) := fun t k => pre t (by
        show Steps p.tables e below (T53.setTop (mkF m 34 #[.val (.ref a1), .val (.ref b1), .val (.ref b1)] [(.int (own_eq xs us))])) t
        refine XS.ifYes X53.here hx rfl (pc0 := 34) (pc' := 55) rfl (hb hby d_oeq_34) rfl (XT.i0_eq_t z1) (by decide) (by decide) ?_
        show Steps p.tables e below (T53.setTop (mkF m 55 #[.val (.ref a1), .val (.ref b1), .val (.ref b1)] [])) t
        refine XS.iconst X53.here hx rfl (hb hby d_oeq_55) ?_
        show Steps p.tables e below (T53.setTop (mkF m 56 #[.val (.ref a1), .val (.ref b1), .val (.ref b1)] [(.int (0 : Int32))])) t
        exact k)
      obtain ⟨fs, hr, hrun, hended, hW, hsame⟩ := X53.leave (v := some (.int (0 : Int32))) (fun h => by rw [Bd.returns] at h; cases h)
      subst hS0
      refine ⟨_, _, pre _ ?_, hrun, hended, _, _, rfl, ?_, ⟨_, rfl⟩, hW, hsame.mono (by decide) (by decide)⟩
      · exact retN X53 hx (t := .boolean) Bd.returns (by simp) (hb hby d_oeq_56) hr
      · show Q_oeq Z a1 b1 t1 t2 u1 u2 p1 p2 r1 r2 q1 q2 xs ys us vs cz h0 n0 _ T53.heap _
        rw [e53]
        exact ⟨by rw [own_oe, if_pos z0, if_pos z1], N53, rfl⟩
    · replace pre : Pth p e below S0 T53 (mkF m 38 #[.val (.ref a1), .val (.ref b1), .val (.ref b1)] [(.ref a1)]) := fun t k => pre t (by
        show Steps p.tables e below (T53.setTop (mkF m 34 #[.val (.ref a1), .val (.ref b1), .val (.ref b1)] [(.int (own_eq xs us))])) t
        refine XS.ifNo X53.here hx rfl (hb hby d_oeq_34) rfl (XT.i0_eq_f z1) ?_
        show Steps p.tables e below (T53.setTop (mkF m 37 #[.val (.ref a1), .val (.ref b1), .val (.ref b1)] [])) t
        refine XS.aloadN X53.here hx rfl (hb hby d_oeq_37) rfl rfl ?_
        show Steps p.tables e below (T53.setTop (mkF m 38 #[.val (.ref a1), .val (.ref b1), .val (.ref b1)] [(.ref a1)])) t
        exact k)
      obtain ⟨T54, X54, e54, st54⟩ := getF X53 hx hZ hown (host := "") (Or.inl (hw _ (List.mem_of_getElem? (i := 43) rfl))) Via.refl e53 OA.2.2.1 (g := (mkF m 38 #[.val (.ref a1), .val (.ref b1), .val (.ref b1)] [(.ref a1)])) rfl rfl (hb hby d_oeq_38)
      replace pre : Pth p e below S0 T54 (mkF m 41 #[.val (.ref a1), .val (.ref b1), .val (.ref b1)] [(.ref t2)]) := fun t k => pre t (st54 _ k)
      replace pre : Pth p e below S0 T54 (mkF m 42 #[.val (.ref a1), .val (.ref b1), .val (.ref b1)] [(.ref b1), (.ref t2)]) := fun t k => pre t (by
        show Steps p.tables e below (T54.setTop (mkF m 41 #[.val (.ref a1), .val (.ref b1), .val (.ref b1)] [(.ref t2)])) t
        refine XS.aloadN X54.here hx rfl (hb hby d_oeq_41) rfl rfl ?_
        show Steps p.tables e below (T54.setTop (mkF m 42 #[.val (.ref a1), .val (.ref b1), .val (.ref b1)] [(.ref b1), (.ref t2)])) t
        exact k)
      obtain ⟨T55, X55, e55, st55⟩ := getF X54 hx hZ hown (host := "") (Or.inl (hw _ (List.mem_of_getElem? (i := 43) rfl))) Via.refl e54 OB.2.2.1 (g := (mkF m 42 #[.val (.ref a1), .val (.ref b1), .val (.ref b1)] [(.ref b1), (.ref t2)])) rfl rfl (hb hby d_oeq_42)
      replace pre : Pth p e below S0 T55 (mkF m 45 #[.val (.ref a1), .val (.ref b1), .val (.ref b1)] [(.ref u2), (.ref t2)]) := fun t k => pre t (st55 _ k)
      obtain ⟨cq56, kq56, q56a, q56b, q56c⟩ := isOf hZ e55 HA.1
      obtain ⟨_, _, ⟨T56, L56, k56, n56⟩, -, X56, ⟨Lc56, hQ56, l56, y56, z56⟩, st56⟩ := X55.virtualBack hx (y := (⟨"java/lang/String", "equals", "(Ljava/lang/Object;)Z"⟩ : MethodName)) (z := (⟨"java/lang/String", "equals", "(Ljava/lang/Object;)Z"⟩ : MethodName)) hown (mvT hZ (hw _ (List.mem_of_getElem? (i := 70) rfl))) (mvT hZ (hw _ (List.mem_of_getElem? (i := 71) rfl))) (notFace_of_selects (args := #[]) (mvT hZ (hw _ (List.mem_of_getElem? (i := 73) rfl)))) (mvT hZ (hw _ (List.mem_of_getElem? (i := 73) rfl))) (mvT hZ (hw _ (List.mem_of_getElem? (i := 72) rfl))) (by decide) (backOf (W := 0) (rm_seq l Z a0 hw [] t2 u2 p2 r2 ys vs cz h0 n0 HA HB l2 l4 Scs hcz) hZ (hw _ (List.mem_of_getElem? (i := 74) rfl)) (hw _ (List.mem_of_getElem? (i := 12) rfl)) (by decide) (by decide)) q56a q56c (g := (mkF m 45 #[.val (.ref a1), .val (.ref b1), .val (.ref b1)] [(.ref u2), (.ref t2)])) rfl (by rw [hml]; rfl) (Steps.refl _) (argsL := [(.ref u2)]) (rest := []) (lenOf pd__Ljava_lang_Object__Z rfl) rfl (by show 2 * 0 + _ ≤ _; exact Nat.le_of_eq rfl) (hb hby d_oeq_45) (fun _ _ => ⟨rfl, e55, (by decide : 0 + 0 ≤ _), (by decide : 0 + 0 ≤ _)⟩)
      dsimp only [Pt.U, Pt.locs, Pt.cells, Pt.slots] at X56 l56 y56 z56 st56 hQ56
      subst l56 y56 z56
      obtain ⟨rfl, N56q, e56⟩ := hQ56
      have N56 := Fr.app N53 N56q
      replace pre : Pth p e below S0 T56 (mkF m 48 #[.val (.ref a1), .val (.ref b1), .val (.ref b1)] [(.int (own_eq ys vs))]) := fun t k => pre t (st56.trans k)
      by_cases z2 : (own_eq ys vs) = (0 : Int32)
      · replace pre : Pth p e below S0 T56 (mkF m 56 #[.val (.ref a1), .val (.ref b1), .val (.ref b1)] [(.int (0 : Int32))]) := fun t k => pre t (by
          show Steps p.tables e below (T56.setTop (mkF m 48 #[.val (.ref a1), .val (.ref b1), .val (.ref b1)] [(.int (own_eq ys vs))])) t
          refine XS.ifYes X56.here hx rfl (pc0 := 48) (pc' := 55) rfl (hb hby d_oeq_48) rfl (XT.i0_eq_t z2) (by decide) (by decide) ?_
          show Steps p.tables e below (T56.setTop (mkF m 55 #[.val (.ref a1), .val (.ref b1), .val (.ref b1)] [])) t
          refine XS.iconst X56.here hx rfl (hb hby d_oeq_55) ?_
          show Steps p.tables e below (T56.setTop (mkF m 56 #[.val (.ref a1), .val (.ref b1), .val (.ref b1)] [(.int (0 : Int32))])) t
          exact k)
        obtain ⟨fs, hr, hrun, hended, hW, hsame⟩ := X56.leave (v := some (.int (0 : Int32))) (fun h => by rw [Bd.returns] at h; cases h)
        subst hS0
        refine ⟨_, _, pre _ ?_, hrun, hended, _, _, rfl, ?_, ⟨_, rfl⟩, hW, hsame.mono (by decide) (by decide)⟩
        · exact retN X56 hx (t := .boolean) Bd.returns (by simp) (hb hby d_oeq_56) hr
        · show Q_oeq Z a1 b1 t1 t2 u1 u2 p1 p2 r1 r2 q1 q2 xs ys us vs cz h0 n0 _ T56.heap _
          rw [e56]
          exact ⟨by rw [own_oe, if_pos z0, if_neg z1, if_pos z2], N56, rfl⟩
      · replace pre : Pth p e below S0 T56 (mkF m 56 #[.val (.ref a1), .val (.ref b1), .val (.ref b1)] [(.int (1 : Int32))]) := fun t k => pre t (by
          show Steps p.tables e below (T56.setTop (mkF m 48 #[.val (.ref a1), .val (.ref b1), .val (.ref b1)] [(.int (own_eq ys vs))])) t
          refine XS.ifNo X56.here hx rfl (hb hby d_oeq_48) rfl (XT.i0_eq_f z2) ?_
          show Steps p.tables e below (T56.setTop (mkF m 51 #[.val (.ref a1), .val (.ref b1), .val (.ref b1)] [])) t
          refine XS.iconst X56.here hx rfl (hb hby d_oeq_51) ?_
          show Steps p.tables e below (T56.setTop (mkF m 52 #[.val (.ref a1), .val (.ref b1), .val (.ref b1)] [(.int (1 : Int32))])) t
          refine XS.goto X56.here hx rfl (pc0 := 52) (pc' := 56) rfl (hb hby d_oeq_52) (by decide) (by decide) ?_
          show Steps p.tables e below (T56.setTop (mkF m 56 #[.val (.ref a1), .val (.ref b1), .val (.ref b1)] [(.int (1 : Int32))])) t
          exact k)
        obtain ⟨fs, hr, hrun, hended, hW, hsame⟩ := X56.leave (v := some (.int (1 : Int32))) (fun h => by rw [Bd.returns] at h; cases h)
        subst hS0
        refine ⟨_, _, pre _ ?_, hrun, hended, _, _, rfl, ?_, ⟨_, rfl⟩, hW, hsame.mono (by decide) (by decide)⟩
        · exact retN X56 hx (t := .boolean) Bd.returns (by simp) (hb hby d_oeq_56) hr
        · show Q_oeq Z a1 b1 t1 t2 u1 u2 p1 p2 r1 r2 q1 q2 xs ys us vs cz h0 n0 _ T56.heap _
          rw [e56]
          exact ⟨by rw [own_oe, if_pos z0, if_neg z1, if_neg z2], N56, rfl⟩
  · replace pre : Pth p e below S0 T50 (mkF m 56 #[.val (.ref a1), .val (.ref b1), .val (.ref b1)] [(.int (0 : Int32))]) := fun t k => pre t (by
      show Steps p.tables e below (T50.setTop (mkF m 20 #[.val (.ref a1), .val (.ref b1), .val (.ref b1)] [(.int q2), (.int q1)])) t
      refine XS.icmpYes X50.here hx rfl (pc0 := 20) (pc' := 55) rfl (hb hby d_oeq_20) rfl (XT.ii_ne_t z0) (by decide) (by decide) ?_
      show Steps p.tables e below (T50.setTop (mkF m 55 #[.val (.ref a1), .val (.ref b1), .val (.ref b1)] [])) t
      refine XS.iconst X50.here hx rfl (hb hby d_oeq_55) ?_
      show Steps p.tables e below (T50.setTop (mkF m 56 #[.val (.ref a1), .val (.ref b1), .val (.ref b1)] [(.int (0 : Int32))])) t
      exact k)
    obtain ⟨fs, hr, hrun, hended, hW, hsame⟩ := X50.leave (v := some (.int (0 : Int32))) (fun h => by rw [Bd.returns] at h; cases h)
    subst hS0
    refine ⟨_, _, pre _ ?_, hrun, hended, _, _, rfl, ?_, ⟨_, rfl⟩, hW, hsame.mono (by decide) (by decide)⟩
    · exact retN X50 hx (t := .boolean) Bd.returns (by simp) (hb hby d_oeq_56) hr
    · show Q_oeq Z a1 b1 t1 t2 u1 u2 p1 p2 r1 r2 q1 q2 xs ys us vs cz h0 n0 _ T50.heap _
      rw [e50]
      exact ⟨by rw [own_oe, if_neg z0], N0, rfl⟩
def Q_oen (Z : State) (a1 : Addr) (h0 : Heap) (n0 : Nat) (v : Option Value) (h : Heap) (L : List Loc) : Prop := v = some (.int 0) ∧ Fr n0 L ∧ h = h0
set_option maxRecDepth 65536 in
set_option maxHeartbeats 40000000 in
theorem rm_oen (l : Launch) (Z : State) (a0 : Array Value) (hw : ∀ d ∈ tables_1, d.before a0 Z = true) (ws : List Jvm.Cond) (a1 : Addr) (h0 : Heap) (n0 : Nat)  :
    MetFree l (⟨"com/example/originlint/originlint/Origin", "equals", "(Ljava/lang/Object;)Z"⟩ : MethodName) (head1 (Jvm.Cond.code (⟨"com/example/originlint/originlint/Origin", "equals", "(Ljava/lang/Object;)Z"⟩ : MethodName) prog_31_method_2_code 3 (some .boolean) :: ws) ({ frames := 0, cells := 0, slots := 0, locals := 0 } : Room)) (fun a U => a = #[(.ref a1), .null] ∧ Z.Warmed39 U.vm ∧ U.heap = h0) (fun _ _ _ _ _ => True) (fun _ U o U' => ∃ v L, o = .returned v ∧ Q_oen Z a1 h0 n0 v U'.heap L ∧ FrameEnd U o U' L ({ frames := 0, cells := 0, slots := 0, locals := 0 } : Room).cells ({ frames := 0, cells := 0, slots := 0, locals := 0 } : Room).slots) := by
  refine MetFree.of_bodySF (plainFor_of_name pn_com_example_originlint_originlint_Origin) hisR ?_
  intro p e s m args below meth c s₁ Bd hml0 hP hK
  obtain ⟨rfl, hZ, hh⟩ := hP
  have hx := Bd.exec
  have hby := Bd.bytes
  have hml : c.maxLocals = 3 := hml0
  have hown : s.vm.findClass "com/example/originlint/originlint/Origin" = some m.cls := findClass_of_methodNamed Bd.named
  have hnm := (name_of_methodNamed Bd.named Bd.method).1
  have X0 : Stand p l e ({ frames := 0, cells := 0, slots := 0, locals := 0 } : Room) s m #[(.ref a1), .null] below meth c s₁ [] 0 0 := Stand.of_body Bd
  have e0 : s₁.heap = h0 := by rw [← hh, Bd.state]; rfl
  have N0 := Fr.nil n0
  obtain ⟨S0, hS0⟩ : ∃ S0, S0 = s₁.setTop (entryFrame m #[(.ref a1), .null] 3) := ⟨_, rfl⟩
  have pre : Pth p e below S0 s₁ (mkF m 0 #[.val (.ref a1), .val .null, .unset] []) := fun t k => by rw [hS0]; exact castTop (ef_oen m a1) k
  replace pre : Pth p e below S0 s₁ (mkF m 56 #[.val (.ref a1), .val .null, .unset] [(.int (0 : Int32))]) := fun t k => pre t (by
    show Steps p.tables e below (s₁.setTop (mkF m 0 #[.val (.ref a1), .val .null, .unset] [])) t
    refine XS.aloadN X0.here hx rfl (hb hby d_oen_0) rfl rfl ?_
    show Steps p.tables e below (s₁.setTop (mkF m 1 #[.val (.ref a1), .val .null, .unset] [.null])) t
    refine X0.instanceofNull hx (g := (mkF m 1 #[.val (.ref a1), .val .null, .unset] [.null])) rfl rfl (hb hby d_oen_1) _ ?_
    show Steps p.tables e below (s₁.setTop (mkF m 4 #[.val (.ref a1), .val .null, .unset] [(.int (0 : Int32))])) t
    refine XS.ifYes X0.here hx rfl (pc0 := 4) (pc' := 55) rfl (hb hby d_oen_4) rfl (XT.i0_eq_t rfl) (by decide) (by decide) ?_
    show Steps p.tables e below (s₁.setTop (mkF m 55 #[.val (.ref a1), .val .null, .unset] [])) t
    refine XS.iconst X0.here hx rfl (hb hby d_oen_55) ?_
    show Steps p.tables e below (s₁.setTop (mkF m 56 #[.val (.ref a1), .val .null, .unset] [(.int (0 : Int32))])) t
    exact k)
  obtain ⟨fs, hr, hrun, hended, hW, hsame⟩ := X0.leave (v := some (.int (0 : Int32))) (fun h => by rw [Bd.returns] at h; cases h)
  subst hS0
  refine ⟨_, _, pre _ ?_, hrun, hended, _, _, rfl, ?_, ⟨_, rfl⟩, hW, hsame.mono (by decide) (by decide)⟩
  · exact retN X0 hx (t := .boolean) Bd.returns (by simp) (hb hby d_oen_56) hr
  · show Q_oen Z a1 h0 n0 _ s₁.heap _
    rw [e0]
    exact ⟨rfl, N0, rfl⟩
def Q_oes (Z : State) (a1 : Addr) (b1 : Addr) (h0 : Heap) (n0 : Nat) (v : Option Value) (h : Heap) (L : List Loc) : Prop := v = some (.int 0) ∧ Fr n0 L ∧ h = h0
set_option maxRecDepth 65536 in
set_option maxHeartbeats 40000000 in
theorem rm_oes (l : Launch) (Z : State) (a0 : Array Value) (hw : ∀ d ∈ tables_1, d.before a0 Z = true) (ws : List Jvm.Cond) (a1 : Addr) (b1 : Addr) (h0 : Heap) (n0 : Nat) (EB : Exa Z h0 b1 "java/lang/String") :
    MetFree l (⟨"com/example/originlint/originlint/Origin", "equals", "(Ljava/lang/Object;)Z"⟩ : MethodName) (head1 (Jvm.Cond.code (⟨"com/example/originlint/originlint/Origin", "equals", "(Ljava/lang/Object;)Z"⟩ : MethodName) prog_31_method_2_code 3 (some .boolean) :: ws) ({ frames := 0, cells := 0, slots := 0, locals := 0 } : Room)) (fun a U => a = #[(.ref a1), (.ref b1)] ∧ Z.Warmed39 U.vm ∧ U.heap = h0) (fun _ _ _ _ _ => True) (fun _ U o U' => ∃ v L, o = .returned v ∧ Q_oes Z a1 b1 h0 n0 v U'.heap L ∧ FrameEnd U o U' L ({ frames := 0, cells := 0, slots := 0, locals := 0 } : Room).cells ({ frames := 0, cells := 0, slots := 0, locals := 0 } : Room).slots) := by
  refine MetFree.of_bodySF (plainFor_of_name pn_com_example_originlint_originlint_Origin) hisR ?_
  intro p e s m args below meth c s₁ Bd hml0 hP hK
  obtain ⟨rfl, hZ, hh⟩ := hP
  have hx := Bd.exec
  have hby := Bd.bytes
  have hml : c.maxLocals = 3 := hml0
  have hown : s.vm.findClass "com/example/originlint/originlint/Origin" = some m.cls := findClass_of_methodNamed Bd.named
  have hnm := (name_of_methodNamed Bd.named Bd.method).1
  have X0 : Stand p l e ({ frames := 0, cells := 0, slots := 0, locals := 0 } : Room) s m #[(.ref a1), (.ref b1)] below meth c s₁ [] 0 0 := Stand.of_body Bd
  have e0 : s₁.heap = h0 := by rw [← hh, Bd.state]; rfl
  have N0 := Fr.nil n0
  obtain ⟨S0, hS0⟩ : ∃ S0, S0 = s₁.setTop (entryFrame m #[(.ref a1), (.ref b1)] 3) := ⟨_, rfl⟩
  have pre : Pth p e below S0 s₁ (mkF m 0 #[.val (.ref a1), .val (.ref b1), .unset] []) := fun t k => by rw [hS0]; exact castTop (ef_oes m a1 b1) k
  have ns : NS Z "java/lang/String" "com/example/originlint/originlint/Origin" := NS.step (hw _ (List.mem_of_getElem? (i := 65) rfl)) (own_root (hw _ (List.mem_of_getElem? (i := 66) rfl)) (hw _ (List.mem_of_getElem? (i := 1) rfl)) (by decide)) (by decide)
  replace pre : Pth p e below S0 s₁ (mkF m 1 #[.val (.ref a1), .val (.ref b1), .unset] [(.ref b1)]) := fun t k => pre t (by
    show Steps p.tables e below (s₁.setTop (mkF m 0 #[.val (.ref a1), .val (.ref b1), .unset] [])) t
    refine XS.aloadN X0.here hx rfl (hb hby d_oes_0) rfl rfl ?_
    show Steps p.tables e below (s₁.setTop (mkF m 1 #[.val (.ref a1), .val (.ref b1), .unset] [(.ref b1)])) t
    exact k)
  obtain ⟨T57, X57, e57, st57⟩ := instNo X0 hx hZ hown (hw _ (List.mem_of_getElem? (i := 52) rfl)) e0 EB (own_no (hw _ (List.mem_of_getElem? (i := 65) rfl)) (hw _ (List.mem_of_getElem? (i := 1) rfl)) ns (by decide)) (g := (mkF m 1 #[.val (.ref a1), .val (.ref b1), .unset] [(.ref b1)])) rfl rfl (hb hby d_oes_1)
  replace pre : Pth p e below S0 T57 (mkF m 4 #[.val (.ref a1), .val (.ref b1), .unset] [(.int (0 : Int32))]) := fun t k => pre t (st57 _ k)
  replace pre : Pth p e below S0 T57 (mkF m 56 #[.val (.ref a1), .val (.ref b1), .unset] [(.int (0 : Int32))]) := fun t k => pre t (by
    show Steps p.tables e below (T57.setTop (mkF m 4 #[.val (.ref a1), .val (.ref b1), .unset] [(.int (0 : Int32))])) t
    refine XS.ifYes X57.here hx rfl (pc0 := 4) (pc' := 55) rfl (hb hby d_oes_4) rfl (XT.i0_eq_t rfl) (by decide) (by decide) ?_
    show Steps p.tables e below (T57.setTop (mkF m 55 #[.val (.ref a1), .val (.ref b1), .unset] [])) t
    refine XS.iconst X57.here hx rfl (hb hby d_oes_55) ?_
    show Steps p.tables e below (T57.setTop (mkF m 56 #[.val (.ref a1), .val (.ref b1), .unset] [(.int (0 : Int32))])) t
    exact k)
  obtain ⟨fs, hr, hrun, hended, hW, hsame⟩ := X57.leave (v := some (.int (0 : Int32))) (fun h => by rw [Bd.returns] at h; cases h)
  subst hS0
  refine ⟨_, _, pre _ ?_, hrun, hended, _, _, rfl, ?_, ⟨_, rfl⟩, hW, hsame.mono (by decide) (by decide)⟩
  · exact retN X57 hx (t := .boolean) Bd.returns (by simp) (hb hby d_oes_56) hr
  · show Q_oes Z a1 b1 h0 n0 _ T57.heap _
    rw [e57]
    exact ⟨rfl, N0, rfl⟩
def Q_iv0 (Z : State) (a1 : Addr) (b1 : Addr) (h0 : Heap) (n0 : Nat) (v : Option Value) (h : Heap) (L : List Loc) : Prop := v = none ∧ Fr n0 L ∧ Keep h0 h [a1] ∧ ∃ p, OStr Z h a1 p []
set_option maxRecDepth 65536 in
set_option maxHeartbeats 40000000 in
theorem rm_iv0 (l : Launch) (Z : State) (a0 : Array Value) (hw : ∀ d ∈ tables_1, d.before a0 Z = true) (ws : List Jvm.Cond) (a1 : Addr) (b1 : Addr) (h0 : Heap) (n0 : Nat) (ga : n0 ≤ a1) (Ea : Exa Z h0 a1 "java/lang/String") (F1 : Fld Z h0 a1 "java/lang/String" "value" "[B" .null) (F2 : Fld Z h0 a1 "java/lang/String" "coder" "B" (.int 0)) :
    MetFree l (⟨"java/lang/String", "<init>", "([CIILjava/lang/Void;)V"⟩ : MethodName) (head1 (Jvm.Cond.code (⟨"java/lang/String", "<init>", "([CIILjava/lang/Void;)V"⟩ : MethodName) jdk_42_method_149_code 6 none :: ws) ({ frames := 1, cells := 4, slots := 8, locals := 13 } : Room)) (fun a U => a = #[(.ref a1), (.ref b1), (.int (0 : Int32)), (.int (0 : Int32)), .null] ∧ Z.Warmed39 U.vm ∧ U.heap = h0 ∧ CHv Z own_EL U.vm h0) (fun _ _ _ _ _ => True) (fun _ U o U' => ∃ v L, o = .returned v ∧ Q_iv0 Z a1 b1 h0 n0 v U'.heap L ∧ CHr Z own_EL U.vm U.heap U'.vm U'.heap ∧ ReturnedEndW U o U' L ({ frames := 1, cells := 4, slots := 8, locals := 13 } : Room).cells ({ frames := 1, cells := 4, slots := 8, locals := 13 } : Room).slots) := by
  refine MetFree.of_bodySF (plainFor_of_name pn_java_lang_String) hisR ?_
  intro p e s m args below meth c s₁ Bd hml0 hP hK
  obtain ⟨rfl, hZ, hh, hH⟩ := hP
  have HC := CHr.refl hH
  have hSin := (State.WarmedH.refl s).since s.heap.size
  have hkin : s.heap.size ≤ h0.size := by rw [hh]; exact Nat.le_refl _
  have wS : ∀ a ∈ Bundle.stringAtoms, a.before a0 Z = true := fun d hd => hw d (own_atoms d hd)
  have hEL : EW Z a0 own_EL := EW.cons (text := "") (hw _ (List.mem_of_getElem? (i := 24) rfl)) (by decide) EW.nil
  have hx := Bd.exec
  have hby := Bd.bytes
  have hml : c.maxLocals = 6 := hml0
  have hown : s.vm.findClass "java/lang/String" = some m.cls := findClass_of_methodNamed Bd.named
  have hnm := (name_of_methodNamed Bd.named Bd.method).1
  have X0 : Stand p l e ({ frames := 1, cells := 4, slots := 8, locals := 13 } : Room) s m #[(.ref a1), (.ref b1), (.int (0 : Int32)), (.int (0 : Int32)), .null] below meth c s₁ [] 0 0 := Stand.of_body Bd
  have e0 : s₁.heap = h0 := by rw [← hh, Bd.state]; rfl
  have N0 := Fr.nil n0
  obtain ⟨S0, hS0⟩ : ∃ S0, S0 = s₁.setTop (entryFrame m #[(.ref a1), (.ref b1), (.int (0 : Int32)), (.int (0 : Int32)), .null] 6) := ⟨_, rfl⟩
  have pre : Pth p e below S0 s₁ (mkF m 0 #[.val (.ref a1), .val (.ref b1), .val (.int (0 : Int32)), .val (.int (0 : Int32)), .val .null, .unset] []) := fun t k => by rw [hS0]; exact castTop (ef_iv0 m a1 b1 (0 : Int32) (0 : Int32)) k
  replace pre : Pth p e below S0 s₁ (mkF m 1 #[.val (.ref a1), .val (.ref b1), .val (.int (0 : Int32)), .val (.int (0 : Int32)), .val .null, .unset] [(.ref a1)]) := fun t k => pre t (by
    show Steps p.tables e below (s₁.setTop (mkF m 0 #[.val (.ref a1), .val (.ref b1), .val (.int (0 : Int32)), .val (.int (0 : Int32)), .val .null, .unset] [])) t
    refine XS.aloadN X0.here hx rfl (hb hby d_iv0_0) rfl rfl ?_
    show Steps p.tables e below (s₁.setTop (mkF m 1 #[.val (.ref a1), .val (.ref b1), .val (.int (0 : Int32)), .val (.int (0 : Int32)), .val .null, .unset] [(.ref a1)])) t
    exact k)
  obtain ⟨T58, X58, e58, st58⟩ := initO X0 hx hZ hown (hw _ (List.mem_of_getElem? (i := 21) rfl)) (hw _ (List.mem_of_getElem? (i := 22) rfl)) (hw _ (List.mem_of_getElem? (i := 23) rfl)) e0 (g := (mkF m 1 #[.val (.ref a1), .val (.ref b1), .val (.int (0 : Int32)), .val (.int (0 : Int32)), .val .null, .unset] [(.ref a1)])) rfl (by rw [hml]; rfl) rfl (hb hby d_iv0_1) (by decide) (W := 0) (by show 2 * 0 + _ ≤ _; exact Nat.le_of_eq rfl) (by decide)
  replace pre : Pth p e below S0 T58 (mkF m 4 #[.val (.ref a1), .val (.ref b1), .val (.int (0 : Int32)), .val (.int (0 : Int32)), .val .null, .unset] []) := fun t k => pre t (st58 _ k)
  replace pre : Pth p e below S0 T58 (mkF m 9 #[.val (.ref a1), .val (.ref b1), .val (.int (0 : Int32)), .val (.int (0 : Int32)), .val .null, .unset] [(.ref a1)]) := fun t k => pre t (by
    show Steps p.tables e below (T58.setTop (mkF m 4 #[.val (.ref a1), .val (.ref b1), .val (.int (0 : Int32)), .val (.int (0 : Int32)), .val .null, .unset] [])) t
    refine XS.iloadN X58.here hx rfl (hb hby d_iv0_4) rfl ?_
    show Steps p.tables e below (T58.setTop (mkF m 5 #[.val (.ref a1), .val (.ref b1), .val (.int (0 : Int32)), .val (.int (0 : Int32)), .val .null, .unset] [(.int (0 : Int32))])) t
    refine XS.ifNo X58.here hx rfl (hb hby d_iv0_5) rfl (XT.i0_ne_f rfl) ?_
    show Steps p.tables e below (T58.setTop (mkF m 8 #[.val (.ref a1), .val (.ref b1), .val (.int (0 : Int32)), .val (.int (0 : Int32)), .val .null, .unset] [])) t
    refine XS.aloadN X58.here hx rfl (hb hby d_iv0_8) rfl rfl ?_
    show Steps p.tables e below (T58.setTop (mkF m 9 #[.val (.ref a1), .val (.ref b1), .val (.int (0 : Int32)), .val (.int (0 : Int32)), .val .null, .unset] [(.ref a1)])) t
    exact k)
  obtain ⟨a59, T59, h59, k59, b59, c59, X59, e59, E59, hSin, hkin, hZ, hown, EX59, FC59, FV59, AV59, -, -, hC59, -, hne59, st59⟩ := ldcCH (s := s) (vm0 := s.vm) (EL := own_EL) X58 hx hZ hown (hw _ (List.mem_of_getElem? (i := 24) rfl)) wS e58 hSin hkin hEL (List.mem_singleton.mpr rfl) HC.1 (vs := []) (z := 0) ⟨by decide, by decide⟩ (by decide) (by decide) (g := (mkF m 9 #[.val (.ref a1), .val (.ref b1), .val (.int (0 : Int32)), .val (.int (0 : Int32)), .val .null, .unset] [(.ref a1)])) rfl (hb hby d_iv0_9) (n := 0) (by decide) (by decide) (by decide) (by decide)
  have O59 : OStr Z h59 a59 b59 [] := ⟨EX59, FC59, FV59, own_of_arv (xs := []) AV59 (by decide)⟩
  replace HC := HC.trans hC59
  replace pre : Pth p e below S0 T59 (mkF m 11 #[.val (.ref a1), .val (.ref b1), .val (.int (0 : Int32)), .val (.int (0 : Int32)), .val .null, .unset] [(.ref a59), (.ref a1)]) := fun t k => pre t (st59 _ k)
  have ltA : a1 < h0.size := Ea.lt
  have Ea1 := Ea.ext E59
  have F1a := F1.ext E59
  have F2a := F2.ext E59
  have S1 : Safe Z own_EL T59.vm h59 a1 := own_safe hZ.alike Ea1 F1a
  obtain ⟨ne1, ne2⟩ := hne59 a1 S1
  obtain ⟨T60, X60, e60, st60⟩ := getF X59 hx hZ hown (host := "") (Or.inl (hw _ (List.mem_of_getElem? (i := 30) rfl))) Via.refl e59 O59.2.2.1 (g := (mkF m 11 #[.val (.ref a1), .val (.ref b1), .val (.int (0 : Int32)), .val (.int (0 : Int32)), .val .null, .unset] [(.ref a59), (.ref a1)])) rfl rfl (hb hby d_iv0_11)
  replace pre : Pth p e below S0 T60 (mkF m 14 #[.val (.ref a1), .val (.ref b1), .val (.int (0 : Int32)), .val (.int (0 : Int32)), .val .null, .unset] [(.ref b59), (.ref a1)]) := fun t k => pre t (st60 _ k)
  obtain ⟨T61, h61, X61, e61, W61, st61⟩ := putF X60 hx hZ hown (host := "") (Or.inl (hw _ (List.mem_of_getElem? (i := 30) rfl))) Via.refl e60 F1a Ea1 (Or.inr ⟨(hw _ (List.mem_of_getElem? (i := 26) rfl)), rfl, hnm⟩) (hw _ (List.mem_of_getElem? (i := 11) rfl)) (ty := (.array .byte)) (by decide) rfl rfl (g := (mkF m 14 #[.val (.ref a1), .val (.ref b1), .val (.int (0 : Int32)), .val (.int (0 : Int32)), .val .null, .unset] [(.ref b59), (.ref a1)])) rfl rfl (hb hby d_iv0_14)
  have N61 := Fr.snoc X61 N0 ga
  replace pre : Pth p e below S0 T61 (mkF m 17 #[.val (.ref a1), .val (.ref b1), .val (.int (0 : Int32)), .val (.int (0 : Int32)), .val .null, .unset] []) := fun t k => pre t (st61 _ k)
  have S2 : Safe Z own_EL T59.vm h61 a1 := Safe.wr W61 S1 HC.1 S1
  have G62 : CHr Z own_EL T59.vm _ T59.vm h61 := CHr.wr W61 S1 HC.1
  replace hkin := Nat.le_trans hkin G62.2.1
  replace HC := HC.trans G62
  have F1b := F1a.same W61
  have F2b := F2a.other W61 (Or.inr (slot_ne (Or.inr (hw _ (List.mem_of_getElem? (i := 27) rfl))) (Or.inr (hw _ (List.mem_of_getElem? (i := 26) rfl))) (by decide) (t := .byte) (t' := (.array .byte)) (by decide) (by decide)))
  have Eb := Ea1.wr W61
  have Ob := O59.2.2.2.other W61 ne2.symm
  replace pre : Pth p e below S0 T61 (mkF m 18 #[.val (.ref a1), .val (.ref b1), .val (.int (0 : Int32)), .val (.int (0 : Int32)), .val .null, .unset] [(.ref a1)]) := fun t k => pre t (by
    show Steps p.tables e below (T61.setTop (mkF m 17 #[.val (.ref a1), .val (.ref b1), .val (.int (0 : Int32)), .val (.int (0 : Int32)), .val .null, .unset] [])) t
    refine XS.aloadN X61.here hx rfl (hb hby d_iv0_17) rfl rfl ?_
    show Steps p.tables e below (T61.setTop (mkF m 18 #[.val (.ref a1), .val (.ref b1), .val (.int (0 : Int32)), .val (.int (0 : Int32)), .val .null, .unset] [(.ref a1)])) t
    exact k)
  obtain ⟨a63, T63, h63, k63, b63, c63, X63, e63, E63, hSin, hkin, hZ, hown, EX63, FC63, FV63, AV63, -, -, hC63, -, hne63, st63⟩ := ldcCH (s := s) (vm0 := T59.vm) (EL := own_EL) X61 hx hZ hown (hw _ (List.mem_of_getElem? (i := 24) rfl)) wS e61 hSin hkin hEL (List.mem_singleton.mpr rfl) HC.1 (vs := []) (z := 0) ⟨by decide, by decide⟩ (by decide) (by decide) (g := (mkF m 18 #[.val (.ref a1), .val (.ref b1), .val (.int (0 : Int32)), .val (.int (0 : Int32)), .val .null, .unset] [(.ref a1)])) rfl (hb hby d_iv0_18) (n := 0) (by decide) (by decide) (by decide) (by decide)
  have O63 : OStr Z h63 a63 b63 [] := ⟨EX63, FC63, FV63, own_of_arv (xs := []) AV63 (by decide)⟩
  replace HC := HC.trans hC63
  replace pre : Pth p e below S0 T63 (mkF m 20 #[.val (.ref a1), .val (.ref b1), .val (.int (0 : Int32)), .val (.int (0 : Int32)), .val .null, .unset] [(.ref a63), (.ref a1)]) := fun t k => pre t (st63 _ k)
  have ltB : a1 < h61.size := Eb.lt
  have S3 : Safe Z own_EL T63.vm h63 a1 := hC63.safe ltB S2
  obtain ⟨T64, X64, e64, st64⟩ := getF X63 hx hZ hown (host := "") (Or.inl (hw _ (List.mem_of_getElem? (i := 31) rfl))) Via.refl e63 O63.2.1 (g := (mkF m 20 #[.val (.ref a1), .val (.ref b1), .val (.int (0 : Int32)), .val (.int (0 : Int32)), .val .null, .unset] [(.ref a63), (.ref a1)])) rfl rfl (hb hby d_iv0_20)
  replace pre : Pth p e below S0 T64 (mkF m 23 #[.val (.ref a1), .val (.ref b1), .val (.int (0 : Int32)), .val (.int (0 : Int32)), .val .null, .unset] [(.int (0 : Int32)), (.ref a1)]) := fun t k => pre t (st64 _ k)
  obtain ⟨T65, h65, X65, e65, W65, st65⟩ := putFN X64 hx hZ hown (hw _ (List.mem_of_getElem? (i := 31) rfl)) Via.refl e64 (F2b.ext E63) (Eb.ext E63) (Or.inr ⟨(hw _ (List.mem_of_getElem? (i := 27) rfl)), rfl, hnm⟩) (hw _ (List.mem_of_getElem? (i := 11) rfl)) (ty := .byte) (v' := (.int (0 : Int32))) (by decide) rfl rfl (g := (mkF m 23 #[.val (.ref a1), .val (.ref b1), .val (.int (0 : Int32)), .val (.int (0 : Int32)), .val .null, .unset] [(.int (0 : Int32)), (.ref a1)])) rfl rfl (hb hby d_iv0_23)
  have N65 := Fr.snoc X65 N61 ga
  replace pre : Pth p e below S0 T65 (mkF m 26 #[.val (.ref a1), .val (.ref b1), .val (.int (0 : Int32)), .val (.int (0 : Int32)), .val .null, .unset] []) := fun t k => pre t (st65 _ k)
  have G66 : CHr Z own_EL T63.vm _ T63.vm h65 := CHr.wr W65 S3 HC.1
  replace hkin := Nat.le_trans hkin G66.2.1
  replace HC := HC.trans G66
  have HF : CHr Z own_EL s.vm s.heap T65.vm T65.heap := by
    rw [hh, e65]
    exact HC.trans (CHv.at (s := s) (vm0 := T63.vm) X65 hZ hEL HC.1)
  obtain ⟨fs, hr, hrun, hended, r1, r2, r3, r4⟩ := X65.leaveW (s := s) (vm₁ := T63.vm) hSin (by rw [e65]; exact hkin) (v := none) (fun _ => rfl)
  subst hS0
  refine ⟨_, _, pre _ ?_, hrun, hended, _, _, rfl, ?_, HF, r1, r2, r3, r4.mono (by decide) (by decide)⟩
  · exact X65.returnOut hx Bd.returns (hb hby d_iv0_26) hr
  · show Q_iv0 Z a1 b1 h0 n0 _ T65.heap _
    rw [e65]
    exact ⟨rfl, N65, ((((own_keep_ext E59 [a1]).wr W61 (Or.inl (List.mem_of_getElem? (i := 0) rfl))).ext E63).wr W65 (Or.inl (List.mem_of_getElem? (i := 0) rfl))), b59, (Eb.ext E63).wr W65, (F2b.ext E63).same W65, (F1b.ext E63).other W65 (Or.inr (slot_ne (Or.inr (hw _ (List.mem_of_getElem? (i := 26) rfl))) (Or.inr (hw _ (List.mem_of_getElem? (i := 27) rfl))) (by decide) (t := (.array .byte)) (t' := .byte) (by decide) (by decide))), (Ob.ext E63).other W65 ne2.symm⟩
def Q_ic0 (Z : State) (a1 : Addr) (b1 : Addr) (f : Nat → Value) (h0 : Heap) (n0 : Nat) (v : Option Value) (h : Heap) (L : List Loc) : Prop := v = none ∧ Fr n0 L ∧ Keep h0 h [a1] ∧ ∃ p, OStr Z h a1 p []
set_option maxRecDepth 65536 in
set_option maxHeartbeats 40000000 in
theorem rm_ic0 (l : Launch) (Z : State) (a0 : Array Value) (hw : ∀ d ∈ tables_1, d.before a0 Z = true) (ws : List Jvm.Cond) (a1 : Addr) (b1 : Addr) (f : Nat → Value) (h0 : Heap) (n0 : Nat) (ga : n0 ≤ a1) (Ea : Exa Z h0 a1 "java/lang/String") (F1 : Fld Z h0 a1 "java/lang/String" "value" "[B" .null) (F2 : Fld Z h0 a1 "java/lang/String" "coder" "B" (.int 0)) (Fa : OFun Z h0 b1 .char 0 f) :
    MetFree l (⟨"java/lang/String", "<init>", "([C)V"⟩ : MethodName) (head1 (Jvm.Cond.code (⟨"java/lang/String", "<init>", "([C)V"⟩ : MethodName) jdk_42_method_3_code 2 none :: ws) ({ frames := 2, cells := 4, slots := 8, locals := 30 } : Room)) (fun a U => a = #[(.ref a1), (.ref b1)] ∧ Z.Warmed39 U.vm ∧ U.heap = h0 ∧ CHv Z own_EL U.vm h0) (fun _ _ _ _ _ => True) (fun _ U o U' => ∃ v L, o = .returned v ∧ Q_ic0 Z a1 b1 f h0 n0 v U'.heap L ∧ CHr Z own_EL U.vm U.heap U'.vm U'.heap ∧ ReturnedEndW U o U' L ({ frames := 2, cells := 4, slots := 8, locals := 30 } : Room).cells ({ frames := 2, cells := 4, slots := 8, locals := 30 } : Room).slots) := by
  refine MetFree.of_bodySF (plainFor_of_name pn_java_lang_String) hisR ?_
  intro p e s m args below meth c s₁ Bd hml0 hP hK
  obtain ⟨rfl, hZ, hh, hH⟩ := hP
  have HC := CHr.refl hH
  have hSin := (State.WarmedH.refl s).since s.heap.size
  have hkin : s.heap.size ≤ h0.size := by rw [hh]; exact Nat.le_refl _
  have wS : ∀ a ∈ Bundle.stringAtoms, a.before a0 Z = true := fun d hd => hw d (own_atoms d hd)
  have hEL : EW Z a0 own_EL := EW.cons (text := "") (hw _ (List.mem_of_getElem? (i := 24) rfl)) (by decide) EW.nil
  have hx := Bd.exec
  have hby := Bd.bytes
  have hml : c.maxLocals = 2 := hml0
  have hown : s.vm.findClass "java/lang/String" = some m.cls := findClass_of_methodNamed Bd.named
  have hnm := (name_of_methodNamed Bd.named Bd.method).1
  have X0 : Stand p l e ({ frames := 2, cells := 4, slots := 8, locals := 30 } : Room) s m #[(.ref a1), (.ref b1)] below meth c s₁ [] 0 0 := Stand.of_body Bd
  have e0 : s₁.heap = h0 := by rw [← hh, Bd.state]; rfl
  have N0 := Fr.nil n0
  obtain ⟨S0, hS0⟩ : ∃ S0, S0 = s₁.setTop (entryFrame m #[(.ref a1), (.ref b1)] 2) := ⟨_, rfl⟩
  have pre : Pth p e below S0 s₁ (mkF m 0 #[.val (.ref a1), .val (.ref b1)] []) := fun t k => by rw [hS0]; exact castTop (ef_ic0 m a1 b1) k
  replace pre : Pth p e below S0 s₁ (mkF m 4 #[.val (.ref a1), .val (.ref b1)] [(.ref b1), (.int (0 : Int32)), (.ref b1), (.ref a1)]) := fun t k => pre t (by
    show Steps p.tables e below (s₁.setTop (mkF m 0 #[.val (.ref a1), .val (.ref b1)] [])) t
    refine XS.aloadN X0.here hx rfl (hb hby d_ic0_0) rfl rfl ?_
    show Steps p.tables e below (s₁.setTop (mkF m 1 #[.val (.ref a1), .val (.ref b1)] [(.ref a1)])) t
    refine XS.aloadN X0.here hx rfl (hb hby d_ic0_1) rfl rfl ?_
    show Steps p.tables e below (s₁.setTop (mkF m 2 #[.val (.ref a1), .val (.ref b1)] [(.ref b1), (.ref a1)])) t
    refine XS.iconst X0.here hx rfl (hb hby d_ic0_2) ?_
    show Steps p.tables e below (s₁.setTop (mkF m 3 #[.val (.ref a1), .val (.ref b1)] [(.int (0 : Int32)), (.ref b1), (.ref a1)])) t
    refine XS.aloadN X0.here hx rfl (hb hby d_ic0_3) rfl rfl ?_
    show Steps p.tables e below (s₁.setTop (mkF m 4 #[.val (.ref a1), .val (.ref b1)] [(.ref b1), (.int (0 : Int32)), (.ref b1), (.ref a1)])) t
    exact k)
  obtain ⟨cl67, Ar67, Sz67, -⟩ := id Fa
  have hln67 : cl67.slots.size.toInt32 = (0 : Int32) := (congrArg Nat.toInt32 Sz67).trans (rfl)
  replace pre : Pth p e below S0 s₁ (mkF m 6 #[.val (.ref a1), .val (.ref b1)] [.null, (.int (0 : Int32)), (.int (0 : Int32)), (.ref b1), (.ref a1)]) := fun t k => pre t (by
    show Steps p.tables e below (s₁.setTop (mkF m 4 #[.val (.ref a1), .val (.ref b1)] [(.ref b1), (.int (0 : Int32)), (.ref b1), (.ref a1)])) t
    refine X0.arraylength hx (by rw [e0]; exact Ar67.1) (State.isArrayOf_alike hZ.alike Ar67.2.1) (g := (mkF m 4 #[.val (.ref a1), .val (.ref b1)] [(.ref b1), (.int (0 : Int32)), (.ref b1), (.ref a1)])) rfl rfl (hb hby d_ic0_4) _ ?_
    rw [hln67]
    show Steps p.tables e below (s₁.setTop (mkF m 5 #[.val (.ref a1), .val (.ref b1)] [(.int (0 : Int32)), (.int (0 : Int32)), (.ref b1), (.ref a1)])) t
    refine XS.aconstNull X0.here hx rfl (hb hby d_ic0_5) ?_
    show Steps p.tables e below (s₁.setTop (mkF m 6 #[.val (.ref a1), .val (.ref b1)] [.null, (.int (0 : Int32)), (.int (0 : Int32)), (.ref b1), (.ref a1)])) t
    exact k)
  obtain ⟨_, _, ⟨T68, L68, k68, n68⟩, -, X68, hS68, hg68, ⟨Lc68, hQ68, l68, y68, z68, hC68⟩, st68⟩ := X0.specialBackS (s := s.setVm s.vm) hx (y := (⟨"java/lang/String", "<init>", "([CIILjava/lang/Void;)V"⟩ : MethodName)) rfl hown (mvT (s := s.setVm s.vm) hZ (hw _ (List.mem_of_getElem? (i := 17) rfl))) (mvT (s := s.setVm s.vm) hZ (hw _ (List.mem_of_getElem? (i := 18) rfl))) (mvT (s := s.setVm s.vm) hZ (hw _ (List.mem_of_getElem? (i := 20) rfl))) (by decide) (backOfSH (s := s) (vm0 := s.vm) (EL := own_EL) (W := 0) (rm_iv0 l Z a0 hw [] a1 b1 h0 n0 ga Ea F1 F2) hZ (hw _ (List.mem_of_getElem? (i := 20) rfl)) (hw _ (List.mem_of_getElem? (i := 12) rfl)) (by decide) (by decide) hEL HC.1) (g := (mkF m 6 #[.val (.ref a1), .val (.ref b1)] [.null, (.int (0 : Int32)), (.int (0 : Int32)), (.ref b1), (.ref a1)])) rfl (by rw [hml]; rfl) (Steps.refl _) (a := a1) (argsL := [(.ref b1), (.int (0 : Int32)), (.int (0 : Int32)), .null]) (rest := []) (lenOf pd___CIILjava_lang_Void__V rfl) rfl (by show 2 * 0 + _ ≤ _; exact Nat.le_of_eq rfl) (hb hby d_ic0_6) (fun _ _ => ⟨rfl, e0, (by decide : 0 + 4 ≤ _), (by decide : 0 + 8 ≤ _)⟩)
  dsimp only [Pt.U, Pt.locs, Pt.cells, Pt.slots] at X68 hS68 hg68 l68 y68 z68 hC68 st68 hQ68
  subst l68 y68 z68
  have X68 : Stand p l e ({ frames := 2, cells := 4, slots := 8, locals := 30 } : Room) (s.setVm T68.vm) m #[(.ref a1), (.ref b1)] below meth c T68 _ _ _ := X68
  replace hSin := foldS hSin (by rw [e0]; exact hkin) hS68 hg68
  replace hkin := Nat.le_refl T68.heap.size
  replace hZ : Z.Warmed39 (s.setVm T68.vm).vm := State.Warmed39.trans (t := s.setVm s.vm) hZ hS68.1
  replace hown : (s.setVm T68.vm).vm.findClass "java/lang/String" = some m.cls := by rw [show (s.setVm T68.vm).vm = T68.vm from rfl, hS68.1.alike.findClass]; exact hown
  replace HC := HC.trans hC68
  obtain ⟨rfl, N68q, K68, pp, O68⟩ := hQ68
  have N68 := Fr.app N0 N68q
  replace pre : Pth p e below S0 T68 (mkF m 9 #[.val (.ref a1), .val (.ref b1)] []) := fun t k => pre t (st68.trans k)
  have HF : CHr Z own_EL s.vm s.heap T68.vm T68.heap := by
    rw [hh]
    exact HC.trans (CHv.at (s := s) (vm0 := T68.vm) X68 hZ hEL HC.1)
  obtain ⟨fs, hr, hrun, hended, r1, r2, r3, r4⟩ := X68.leaveW (s := s) (vm₁ := T68.vm) hSin hkin (v := none) (fun _ => rfl)
  subst hS0
  refine ⟨_, _, pre _ ?_, hrun, hended, _, _, rfl, ?_, HF, r1, r2, r3, r4.mono (by decide) (by decide)⟩
  · exact X68.returnOut hx Bd.returns (hb hby d_ic0_9) hr
  · show Q_ic0 Z a1 b1 f h0 n0 _ T68.heap _
    exact ⟨rfl, N68, K68, pp, O68⟩
def Q_str (Z : State) (x1 : Int32) (cz : Int32) (h0 : Heap) (n0 : Nat) (v : Option Value) (h : Heap) (L : List Loc) : Prop := ∃ r p, v = some (.ref r) ∧ Fr n0 L ∧ Ext h0 h ∧ OStr Z h r p (own_str x1)
set_option maxRecDepth 65536 in
set_option maxHeartbeats 40000000 in
theorem rm_str (l : Launch) (Z : State) (a0 : Array Value) (hw : ∀ d ∈ tables_1, d.before a0 Z = true) (ws : List Jvm.Cond) (x1 : Int32) (cz : Int32) (h0 : Heap) (n0 : Nat) (Z0 : n0 ≤ h0.size) (Scs : Sta Z h0 "java/lang/String" "COMPACT_STRINGS" "Z" (.int cz)) (hcz : ¬ cz = 0) :
    MetFree l (⟨"com/example/originlint/originlint/OriginEqualsPinLaw", "str", "(I)Ljava/lang/String;"⟩ : MethodName) (head1 (Jvm.Cond.code (⟨"com/example/originlint/originlint/OriginEqualsPinLaw", "str", "(I)Ljava/lang/String;"⟩ : MethodName) method_3_code 4 (some (.object "java/lang/String")) :: ws) ({ frames := 4, cells := 6, slots := 12, locals := 66 } : Room)) (fun a U => a = #[(.int x1)] ∧ Z.Warmed39 U.vm ∧ U.heap = h0 ∧ CHv Z own_EL U.vm h0) (fun _ _ _ _ _ => True) (fun _ U o U' => ∃ v L, o = .returned v ∧ Q_str Z x1 cz h0 n0 v U'.heap L ∧ CHr Z own_EL U.vm U.heap U'.vm U'.heap ∧ ReturnedEndW U o U' L ({ frames := 4, cells := 6, slots := 12, locals := 66 } : Room).cells ({ frames := 4, cells := 6, slots := 12, locals := 66 } : Room).slots) := by
  refine MetFree.of_bodySF (plainFor_of_name pn_com_example_originlint_originlint_OriginEqualsPinLaw) hisR ?_
  intro p e s m args below meth c s₁ Bd hml0 hP hK
  obtain ⟨rfl, hZ, hh, hH⟩ := hP
  have HC := CHr.refl hH
  have hSin := (State.WarmedH.refl s).since s.heap.size
  have hkin : s.heap.size ≤ h0.size := by rw [hh]; exact Nat.le_refl _
  have wS : ∀ a ∈ Bundle.stringAtoms, a.before a0 Z = true := fun d hd => hw d (own_atoms d hd)
  have hEL : EW Z a0 own_EL := EW.cons (text := "") (hw _ (List.mem_of_getElem? (i := 24) rfl)) (by decide) EW.nil
  have hx := Bd.exec
  have hby := Bd.bytes
  have hml : c.maxLocals = 4 := hml0
  have hown : s.vm.findClass "com/example/originlint/originlint/OriginEqualsPinLaw" = some m.cls := findClass_of_methodNamed Bd.named
  have hnm := (name_of_methodNamed Bd.named Bd.method).1
  have X0 : Stand p l e ({ frames := 4, cells := 6, slots := 12, locals := 66 } : Room) s m #[(.int x1)] below meth c s₁ [] 0 0 := Stand.of_body Bd
  have e0 : s₁.heap = h0 := by rw [← hh, Bd.state]; rfl
  have N0 := Fr.nil n0
  obtain ⟨S0, hS0⟩ : ∃ S0, S0 = s₁.setTop (entryFrame m #[(.int x1)] 4) := ⟨_, rfl⟩
  have pre : Pth p e below S0 s₁ (mkF m 0 #[.val (.int x1), .unset, .unset, .unset] []) := fun t k => by rw [hS0]; exact castTop (ef_str m x1) k
  replace pre : Pth p e below S0 s₁ (mkF m 1 #[.val (.int x1), .unset, .unset, .unset] [(.int x1)]) := fun t k => pre t (by
    show Steps p.tables e below (s₁.setTop (mkF m 0 #[.val (.int x1), .unset, .unset, .unset] [])) t
    refine XS.iloadN X0.here hx rfl (hb hby d_str_0) rfl ?_
    show Steps p.tables e below (s₁.setTop (mkF m 1 #[.val (.int x1), .unset, .unset, .unset] [(.int x1)])) t
    exact k)
  obtain ⟨_, _, ⟨T69, L69, k69, n69⟩, -, X69, ⟨Lc69, hQ69, l69, y69, z69⟩, st69⟩ := Jvm.LawKit.callS X0 hx (y := (⟨"com/example/originlint/originlint/OriginEqualsPinLaw", "len", "(I)I"⟩ : MethodName)) hown (mvT hZ (hw _ (List.mem_of_getElem? (i := 7) rfl))) (mvT hZ (hw _ (List.mem_of_getElem? (i := 8) rfl))) (mvT hZ (hw _ (List.mem_of_getElem? (i := 5) rfl))) (mvT hZ (hw _ (List.mem_of_getElem? (i := 9) rfl))) (by decide) (backOf (W := 0) (rm_len l Z a0 hw [] x1 h0 n0) hZ (hw _ (List.mem_of_getElem? (i := 9) rfl)) (hw _ (List.mem_of_getElem? (i := 5) rfl)) (by decide) (by decide)) (g := (mkF m 1 #[.val (.int x1), .unset, .unset, .unset] [(.int x1)])) rfl (by rw [hml]; rfl) (argsL := [(.int x1)]) (rest := []) (lenOf pd__I_I rfl) rfl (by show 2 * 0 + _ ≤ _; exact Nat.le_of_eq rfl) (hb hby d_str_1) (fun _ _ => ⟨rfl, e0, (by decide : 0 + 0 ≤ _), (by decide : 0 + 0 ≤ _)⟩)
  dsimp only [Pt.U, Pt.locs, Pt.cells, Pt.slots] at X69 l69 y69 z69 st69 hQ69
  subst l69 y69 z69
  obtain ⟨rfl, N69q, e69⟩ := hQ69
  have N69 := Fr.app N0 N69q
  replace pre : Pth p e below S0 T69 (mkF m 4 #[.val (.int x1), .unset, .unset, .unset] [(.int (own_len x1))]) := fun t k => pre t (st69 _ k)
  replace pre : Pth p e below S0 T69 (mkF m 22 #[.val (.int x1), .val (.int (own_len x1)), .val (.int ((x1 &&& (255 : Int32)).toUInt32.toUInt16.toUInt32.toInt32)), .val (.int ((((x1.toUInt32 >>> ((8 : Int32) &&& 31).toUInt32).toInt32) &&& (255 : Int32)).toUInt32.toUInt16.toUInt32.toInt32))] []) := fun t k => pre t (by
    show Steps p.tables e below (T69.setTop (mkF m 4 #[.val (.int x1), .unset, .unset, .unset] [(.int (own_len x1))])) t
    refine XS.istoreN X69.here hx rfl (hb hby d_str_4) rfl (l' := #[.val (.int x1), .val (.int (own_len x1)), .unset, .unset]) rfl ?_
    show Steps p.tables e below (T69.setTop (mkF m 5 #[.val (.int x1), .val (.int (own_len x1)), .unset, .unset] [])) t
    refine XS.iloadN X69.here hx rfl (hb hby d_str_5) rfl ?_
    show Steps p.tables e below (T69.setTop (mkF m 6 #[.val (.int x1), .val (.int (own_len x1)), .unset, .unset] [(.int x1)])) t
    refine XS.sipush X69.here hx rfl (hb hby d_str_6) ?_
    show Steps p.tables e below (T69.setTop (mkF m 9 #[.val (.int x1), .val (.int (own_len x1)), .unset, .unset] [(.int (255 : Int32)), (.int x1)])) t
    refine XS.iand X69.here hx rfl (hb hby d_str_9) rfl ?_
    show Steps p.tables e below (T69.setTop (mkF m 10 #[.val (.int x1), .val (.int (own_len x1)), .unset, .unset] [(.int (x1 &&& (255 : Int32)))])) t
    refine XS.i2c X69.here hx rfl (hb hby d_str_10) rfl ?_
    show Steps p.tables e below (T69.setTop (mkF m 11 #[.val (.int x1), .val (.int (own_len x1)), .unset, .unset] [(.int ((x1 &&& (255 : Int32)).toUInt32.toUInt16.toUInt32.toInt32))])) t
    refine XS.istoreN X69.here hx rfl (hb hby d_str_11) rfl (l' := #[.val (.int x1), .val (.int (own_len x1)), .val (.int ((x1 &&& (255 : Int32)).toUInt32.toUInt16.toUInt32.toInt32)), .unset]) rfl ?_
    show Steps p.tables e below (T69.setTop (mkF m 12 #[.val (.int x1), .val (.int (own_len x1)), .val (.int ((x1 &&& (255 : Int32)).toUInt32.toUInt16.toUInt32.toInt32)), .unset] [])) t
    refine XS.iloadN X69.here hx rfl (hb hby d_str_12) rfl ?_
    show Steps p.tables e below (T69.setTop (mkF m 13 #[.val (.int x1), .val (.int (own_len x1)), .val (.int ((x1 &&& (255 : Int32)).toUInt32.toUInt16.toUInt32.toInt32)), .unset] [(.int x1)])) t
    refine XS.bipush X69.here hx rfl (hb hby d_str_13) ?_
    show Steps p.tables e below (T69.setTop (mkF m 15 #[.val (.int x1), .val (.int (own_len x1)), .val (.int ((x1 &&& (255 : Int32)).toUInt32.toUInt16.toUInt32.toInt32)), .unset] [(.int (8 : Int32)), (.int x1)])) t
    refine XS.iushr X69.here hx rfl (hb hby d_str_15) rfl ?_
    show Steps p.tables e below (T69.setTop (mkF m 16 #[.val (.int x1), .val (.int (own_len x1)), .val (.int ((x1 &&& (255 : Int32)).toUInt32.toUInt16.toUInt32.toInt32)), .unset] [(.int ((x1.toUInt32 >>> ((8 : Int32) &&& 31).toUInt32).toInt32))])) t
    refine XS.sipush X69.here hx rfl (hb hby d_str_16) ?_
    show Steps p.tables e below (T69.setTop (mkF m 19 #[.val (.int x1), .val (.int (own_len x1)), .val (.int ((x1 &&& (255 : Int32)).toUInt32.toUInt16.toUInt32.toInt32)), .unset] [(.int (255 : Int32)), (.int ((x1.toUInt32 >>> ((8 : Int32) &&& 31).toUInt32).toInt32))])) t
    refine XS.iand X69.here hx rfl (hb hby d_str_19) rfl ?_
    show Steps p.tables e below (T69.setTop (mkF m 20 #[.val (.int x1), .val (.int (own_len x1)), .val (.int ((x1 &&& (255 : Int32)).toUInt32.toUInt16.toUInt32.toInt32)), .unset] [(.int (((x1.toUInt32 >>> ((8 : Int32) &&& 31).toUInt32).toInt32) &&& (255 : Int32)))])) t
    refine XS.i2c X69.here hx rfl (hb hby d_str_20) rfl ?_
    show Steps p.tables e below (T69.setTop (mkF m 21 #[.val (.int x1), .val (.int (own_len x1)), .val (.int ((x1 &&& (255 : Int32)).toUInt32.toUInt16.toUInt32.toInt32)), .unset] [(.int ((((x1.toUInt32 >>> ((8 : Int32) &&& 31).toUInt32).toInt32) &&& (255 : Int32)).toUInt32.toUInt16.toUInt32.toInt32))])) t
    refine XS.istoreN X69.here hx rfl (hb hby d_str_21) rfl (l' := #[.val (.int x1), .val (.int (own_len x1)), .val (.int ((x1 &&& (255 : Int32)).toUInt32.toUInt16.toUInt32.toInt32)), .val (.int ((((x1.toUInt32 >>> ((8 : Int32) &&& 31).toUInt32).toInt32) &&& (255 : Int32)).toUInt32.toUInt16.toUInt32.toInt32))]) rfl ?_
    show Steps p.tables e below (T69.setTop (mkF m 22 #[.val (.int x1), .val (.int (own_len x1)), .val (.int ((x1 &&& (255 : Int32)).toUInt32.toUInt16.toUInt32.toInt32)), .val (.int ((((x1.toUInt32 >>> ((8 : Int32) &&& 31).toUInt32).toInt32) &&& (255 : Int32)).toUInt32.toUInt16.toUInt32.toInt32))] [])) t
    exact k)
  obtain ⟨c0, h_c0⟩ : ∃ z : Int32, z = ((x1 &&& (255 : Int32)).toUInt32.toUInt16.toUInt32.toInt32) := ⟨_, rfl⟩
  rw [← h_c0] at pre
  obtain ⟨c1, h_c1⟩ : ∃ z : Int32, z = ((((x1.toUInt32 >>> ((8 : Int32) &&& 31).toUInt32).toInt32) &&& (255 : Int32)).toUInt32.toUInt16.toUInt32.toInt32) := ⟨_, rfl⟩
  rw [← h_c1] at pre
  obtain ⟨rfl, k0a, k0b, k0c⟩ := own_chr0 h_c0
  obtain ⟨rfl, k1a, k1b, k1c⟩ := own_chr1 h_c1
  replace pre : Pth p e below S0 T69 (mkF m 23 #[.val (.int x1), .val (.int (own_len x1)), .val (.int (x1 &&& (255 : Int32))), .val (.int (own_b1 x1))] [(.int (own_len x1))]) := fun t k => pre t (by
    show Steps p.tables e below (T69.setTop (mkF m 22 #[.val (.int x1), .val (.int (own_len x1)), .val (.int (x1 &&& (255 : Int32))), .val (.int (own_b1 x1))] [])) t
    refine XS.iloadN X69.here hx rfl (hb hby d_str_22) rfl ?_
    show Steps p.tables e below (T69.setTop (mkF m 23 #[.val (.int x1), .val (.int (own_len x1)), .val (.int (x1 &&& (255 : Int32))), .val (.int (own_b1 x1))] [(.int (own_len x1))])) t
    exact k)
  by_cases z0 : (own_len x1) = (0 : Int32)
  · replace pre : Pth p e below S0 T69 (mkF m 26 #[.val (.int x1), .val (.int (own_len x1)), .val (.int (x1 &&& (255 : Int32))), .val (.int (own_b1 x1))] []) := fun t k => pre t (by
      show Steps p.tables e below (T69.setTop (mkF m 23 #[.val (.int x1), .val (.int (own_len x1)), .val (.int (x1 &&& (255 : Int32))), .val (.int (own_b1 x1))] [(.int (own_len x1))])) t
      refine XS.ifNo X69.here hx rfl (hb hby d_str_23) rfl (XT.i0_ne_f z0) ?_
      show Steps p.tables e below (T69.setTop (mkF m 26 #[.val (.int x1), .val (.int (own_len x1)), .val (.int (x1 &&& (255 : Int32))), .val (.int (own_b1 x1))] [])) t
      exact k)
    obtain ⟨T70, h70, X70, e70, E70, A70, D70, -, st70⟩ := newO X69 hx hZ hown (hw _ (List.mem_of_getElem? (i := 10) rfl)) (hw _ (List.mem_of_getElem? (i := 11) rfl)) (hw _ (List.mem_of_getElem? (i := 12) rfl)) e69 (g := (mkF m 26 #[.val (.int x1), .val (.int (own_len x1)), .val (.int (x1 &&& (255 : Int32))), .val (.int (own_b1 x1))] [])) rfl (hb hby d_str_26) (by decide) (by decide)
    obtain ⟨b70, g70⟩ : ∃ z, z = h0.size := ⟨_, rfl⟩
    rw [← g70] at A70 D70 st70
    replace pre : Pth p e below S0 T70 (mkF m 29 #[.val (.int x1), .val (.int (own_len x1)), .val (.int (x1 &&& (255 : Int32))), .val (.int (own_b1 x1))] [(.ref b70)]) := fun t k => pre t (st70 _ k)
    have Vs : Fld Z h70 b70 "java/lang/String" "value" "[B" .null := D70 (Or.inr (hw _ (List.mem_of_getElem? (i := 26) rfl))) (ty := .array .byte) (by decide)
    have Cs : Fld Z h70 b70 "java/lang/String" "coder" "B" (.int 0) := D70 (Or.inr (hw _ (List.mem_of_getElem? (i := 27) rfl))) (ty := .byte) (by decide)
    replace pre : Pth p e below S0 T70 (mkF m 31 #[.val (.int x1), .val (.int (own_len x1)), .val (.int (x1 &&& (255 : Int32))), .val (.int (own_b1 x1))] [(.int (0 : Int32)), (.ref b70), (.ref b70)]) := fun t k => pre t (by
      show Steps p.tables e below (T70.setTop (mkF m 29 #[.val (.int x1), .val (.int (own_len x1)), .val (.int (x1 &&& (255 : Int32))), .val (.int (own_b1 x1))] [(.ref b70)])) t
      refine XS.dup X70.here hx rfl (hb hby d_str_29) rfl rfl ?_
      show Steps p.tables e below (T70.setTop (mkF m 30 #[.val (.int x1), .val (.int (own_len x1)), .val (.int (x1 &&& (255 : Int32))), .val (.int (own_b1 x1))] [(.ref b70), (.ref b70)])) t
      refine XS.iconst X70.here hx rfl (hb hby d_str_30) ?_
      show Steps p.tables e below (T70.setTop (mkF m 31 #[.val (.int x1), .val (.int (own_len x1)), .val (.int (x1 &&& (255 : Int32))), .val (.int (own_b1 x1))] [(.int (0 : Int32)), (.ref b70), (.ref b70)])) t
      exact k)
    obtain ⟨T71, h71, k71, X71, e71, E71, A71, st71⟩ := newP X70 hx hZ (hw _ (List.mem_of_getElem? (i := 13) rfl)) e70 (g := (mkF m 31 #[.val (.int x1), .val (.int (own_len x1)), .val (.int (x1 &&& (255 : Int32))), .val (.int (own_b1 x1))] [(.int (0 : Int32)), (.ref b70), (.ref b70)])) rfl (hb hby d_str_31) rfl (by decide) (cap := 0) (by decide) (by decide) (by decide) (by decide)
    obtain ⟨b71, g71⟩ : ∃ z, z = h70.size := ⟨_, rfl⟩
    rw [← g71] at A71 st71
    have F71 := OFun.new A71
    replace pre : Pth p e below S0 T71 (mkF m 33 #[.val (.int x1), .val (.int (own_len x1)), .val (.int (x1 &&& (255 : Int32))), .val (.int (own_b1 x1))] [(.ref b71), (.ref b70), (.ref b70)]) := fun t k => pre t (st71 _ k)
    have Fc : OFun Z h71 b71 .char 0 _ := F71
    have G72 : CHr Z own_EL s.vm _ s.vm h71 := CHr.ext (own_ext_trans E70 E71) HC.1
    replace hkin := Nat.le_trans hkin G72.2.1
    replace HC := HC.trans G72
    have gA : n0 ≤ b70 := by rw [g70]; exact Z0
    obtain ⟨_, _, ⟨T73, L73, k73, n73⟩, -, X73, hS73, hg73, ⟨Lc73, hQ73, l73, y73, z73, hC73⟩, st73⟩ := X71.specialBackS (s := s.setVm s.vm) hx (y := (⟨"java/lang/String", "<init>", "([C)V"⟩ : MethodName)) rfl hown (mvT (s := s.setVm s.vm) hZ (hw _ (List.mem_of_getElem? (i := 14) rfl))) (mvT (s := s.setVm s.vm) hZ (hw _ (List.mem_of_getElem? (i := 15) rfl))) (mvT (s := s.setVm s.vm) hZ (hw _ (List.mem_of_getElem? (i := 16) rfl))) (by decide) (backOfSH (s := s) (vm0 := s.vm) (EL := own_EL) (W := 1) (rm_ic0 l Z a0 hw [] b70 b71 _ h71 n0 gA (A70.ext E71) (Vs.ext E71) (Cs.ext E71) Fc) hZ (hw _ (List.mem_of_getElem? (i := 16) rfl)) (hw _ (List.mem_of_getElem? (i := 12) rfl)) (by decide) (by decide) hEL HC.1) (g := (mkF m 33 #[.val (.int x1), .val (.int (own_len x1)), .val (.int (x1 &&& (255 : Int32))), .val (.int (own_b1 x1))] [(.ref b71), (.ref b70), (.ref b70)])) rfl (by rw [hml]; rfl) (Steps.refl _) (a := b70) (argsL := [(.ref b71)]) (rest := [(.ref b70)]) (lenOf pd___C_V rfl) rfl (by show 2 * 0 + _ ≤ _; exact Nat.le_of_eq rfl) (hb hby d_str_33) (fun _ _ => ⟨rfl, e71, (by decide : 2 + 4 ≤ _), (by decide : 4 + 8 ≤ _)⟩)
    dsimp only [Pt.U, Pt.locs, Pt.cells, Pt.slots] at X73 hS73 hg73 l73 y73 z73 hC73 st73 hQ73
    subst l73 y73 z73
    have X73 : Stand p l e ({ frames := 4, cells := 6, slots := 12, locals := 66 } : Room) (s.setVm T73.vm) m #[(.int x1)] below meth c T73 _ _ _ := X73
    replace hSin := foldS hSin (by rw [e71]; exact hkin) hS73 hg73
    replace hkin := Nat.le_refl T73.heap.size
    replace hZ : Z.Warmed39 (s.setVm T73.vm).vm := State.Warmed39.trans (t := s.setVm s.vm) hZ hS73.1
    replace hown : (s.setVm T73.vm).vm.findClass "com/example/originlint/originlint/OriginEqualsPinLaw" = some m.cls := by rw [show (s.setVm T73.vm).vm = T73.vm from rfl, hS73.1.alike.findClass]; exact hown
    replace HC := HC.trans hC73
    obtain ⟨rfl, N73q, K73, pp, O73⟩ := hQ73
    have N73 := Fr.app N69 N73q
    replace pre : Pth p e below S0 T73 (mkF m 36 #[.val (.int x1), .val (.int (own_len x1)), .val (.int (x1 &&& (255 : Int32))), .val (.int (own_b1 x1))] [(.ref b70)]) := fun t k => pre t (st73.trans k)
    have HF : CHr Z own_EL s.vm s.heap T73.vm T73.heap := by
      rw [hh]
      exact HC.trans (CHv.at (s := s) (vm0 := T73.vm) X73 hZ hEL HC.1)
    obtain ⟨fs, hr, hrun, hended, r1, r2, r3, r4⟩ := X73.leaveW (s := s) (vm₁ := T73.vm) hSin hkin (v := some (.ref b70)) (fun h => by rw [Bd.returns] at h; cases h)
    subst hS0
    refine ⟨_, _, pre _ ?_, hrun, hended, _, _, rfl, ?_, HF, r1, r2, r3, r4.mono (by decide) (by decide)⟩
    · exact retOut X73 hx (t := (.object "java/lang/String")) Bd.returns rfl (by simp [Value.isRef, FieldType.isReference]) (hb hby d_str_36) hr
    · show Q_str Z x1 cz h0 n0 _ T73.heap _
      exact ⟨b70, pp, rfl, N73, (own_ext_keep (own_ext_trans E70 E71) K73 (fun z hz => by rw [List.mem_singleton.mp hz, g70]; exact Nat.le_refl _)), by rw [own_str, if_pos z0]; exact O73⟩
  · replace pre : Pth p e below S0 T69 (mkF m 39 #[.val (.int x1), .val (.int (own_len x1)), .val (.int (x1 &&& (255 : Int32))), .val (.int (own_b1 x1))] [(.int (1 : Int32)), (.int (own_len x1))]) := fun t k => pre t (by
      show Steps p.tables e below (T69.setTop (mkF m 23 #[.val (.int x1), .val (.int (own_len x1)), .val (.int (x1 &&& (255 : Int32))), .val (.int (own_b1 x1))] [(.int (own_len x1))])) t
      refine XS.ifYes X69.here hx rfl (pc0 := 23) (pc' := 37) rfl (hb hby d_str_23) rfl (XT.i0_ne_t z0) (by decide) (by decide) ?_
      show Steps p.tables e below (T69.setTop (mkF m 37 #[.val (.int x1), .val (.int (own_len x1)), .val (.int (x1 &&& (255 : Int32))), .val (.int (own_b1 x1))] [])) t
      refine XS.iloadN X69.here hx rfl (hb hby d_str_37) rfl ?_
      show Steps p.tables e below (T69.setTop (mkF m 38 #[.val (.int x1), .val (.int (own_len x1)), .val (.int (x1 &&& (255 : Int32))), .val (.int (own_b1 x1))] [(.int (own_len x1))])) t
      refine XS.iconst X69.here hx rfl (hb hby d_str_38) ?_
      show Steps p.tables e below (T69.setTop (mkF m 39 #[.val (.int x1), .val (.int (own_len x1)), .val (.int (x1 &&& (255 : Int32))), .val (.int (own_b1 x1))] [(.int (1 : Int32)), (.int (own_len x1))])) t
      exact k)
    by_cases z1 : (own_len x1) = (1 : Int32)
    · replace pre : Pth p e below S0 T69 (mkF m 43 #[.val (.int x1), .val (.int (own_len x1)), .val (.int (x1 &&& (255 : Int32))), .val (.int (own_b1 x1))] [(.int (x1 &&& (255 : Int32)))]) := fun t k => pre t (by
        show Steps p.tables e below (T69.setTop (mkF m 39 #[.val (.int x1), .val (.int (own_len x1)), .val (.int (x1 &&& (255 : Int32))), .val (.int (own_b1 x1))] [(.int (1 : Int32)), (.int (own_len x1))])) t
        refine XS.icmpNo X69.here hx rfl (hb hby d_str_39) rfl (XT.ii_ne_f z1) ?_
        show Steps p.tables e below (T69.setTop (mkF m 42 #[.val (.int x1), .val (.int (own_len x1)), .val (.int (x1 &&& (255 : Int32))), .val (.int (own_b1 x1))] [])) t
        refine XS.iloadN X69.here hx rfl (hb hby d_str_42) rfl ?_
        show Steps p.tables e below (T69.setTop (mkF m 43 #[.val (.int x1), .val (.int (own_len x1)), .val (.int (x1 &&& (255 : Int32))), .val (.int (own_b1 x1))] [(.int (x1 &&& (255 : Int32)))])) t
        exact k)
      obtain ⟨_, _, ⟨T74, L74, k74, n74⟩, -, X74, ⟨Lc74, hQ74, l74, y74, z74⟩, st74⟩ := Jvm.LawKit.callS X69 hx (y := (⟨"java/lang/String", "valueOf", "(C)Ljava/lang/String;"⟩ : MethodName)) hown (mvT hZ (hw _ (List.mem_of_getElem? (i := 80) rfl))) (mvT hZ (hw _ (List.mem_of_getElem? (i := 81) rfl))) (mvT hZ (hw _ (List.mem_of_getElem? (i := 12) rfl))) (mvT hZ (hw _ (List.mem_of_getElem? (i := 82) rfl))) (by decide) (backOf (W := 0) (rm_vof l Z a0 hw [] (x1 &&& (255 : Int32)) cz h0 n0 Z0 k0a k0b Scs hcz) hZ (hw _ (List.mem_of_getElem? (i := 82) rfl)) (hw _ (List.mem_of_getElem? (i := 12) rfl)) (by decide) (by decide)) (g := (mkF m 43 #[.val (.int x1), .val (.int (own_len x1)), .val (.int (x1 &&& (255 : Int32))), .val (.int (own_b1 x1))] [(.int (x1 &&& (255 : Int32)))])) rfl (by rw [hml]; rfl) (argsL := [(.int (x1 &&& (255 : Int32)))]) (rest := []) (lenOf pd__C_Ljava_lang_String_ rfl) rfl (by show 2 * 0 + _ ≤ _; exact Nat.le_of_eq rfl) (hb hby d_str_43) (fun _ _ => ⟨rfl, e69, (by decide : 0 + 2 ≤ _), (by decide : 0 + 5 ≤ _)⟩)
      dsimp only [Pt.U, Pt.locs, Pt.cells, Pt.slots] at X74 l74 y74 z74 st74 hQ74
      subst l74 y74 z74
      obtain ⟨rr, pp, rfl, N74q, E74, O74⟩ := hQ74
      have N74 := Fr.app N69 N74q
      replace pre : Pth p e below S0 T74 (mkF m 46 #[.val (.int x1), .val (.int (own_len x1)), .val (.int (x1 &&& (255 : Int32))), .val (.int (own_b1 x1))] [(.ref rr)]) := fun t k => pre t (st74 _ k)
      have G75 : CHr Z own_EL s.vm _ s.vm T74.heap := CHr.ext E74 HC.1
      replace hkin := Nat.le_trans hkin G75.2.1
      replace HC := HC.trans G75
      have HF : CHr Z own_EL s.vm s.heap T74.vm T74.heap := by
        rw [hh]
        exact HC.trans (CHv.at (s := s) (vm0 := s.vm) X74 hZ hEL HC.1)
      obtain ⟨fs, hr, hrun, hended, r1, r2, r3, r4⟩ := X74.leaveW (s := s) (vm₁ := s.vm) hSin hkin (v := some (.ref rr)) (fun h => by rw [Bd.returns] at h; cases h)
      subst hS0
      refine ⟨_, _, pre _ ?_, hrun, hended, _, _, rfl, ?_, HF, r1, r2, r3, r4.mono (by decide) (by decide)⟩
      · exact retOut X74 hx (t := (.object "java/lang/String")) Bd.returns rfl (by simp [Value.isRef, FieldType.isReference]) (hb hby d_str_46) hr
      · show Q_str Z x1 cz h0 n0 _ T74.heap _
        exact ⟨rr, pp, rfl, N74, E74, by rw [own_str, if_neg z0, if_pos z1]; exact O74⟩
    · replace pre : Pth p e below S0 T69 (mkF m 47 #[.val (.int x1), .val (.int (own_len x1)), .val (.int (x1 &&& (255 : Int32))), .val (.int (own_b1 x1))] []) := fun t k => pre t (by
        show Steps p.tables e below (T69.setTop (mkF m 39 #[.val (.int x1), .val (.int (own_len x1)), .val (.int (x1 &&& (255 : Int32))), .val (.int (own_b1 x1))] [(.int (1 : Int32)), (.int (own_len x1))])) t
        refine XS.icmpYes X69.here hx rfl (pc0 := 39) (pc' := 47) rfl (hb hby d_str_39) rfl (XT.ii_ne_t z1) (by decide) (by decide) ?_
        show Steps p.tables e below (T69.setTop (mkF m 47 #[.val (.int x1), .val (.int (own_len x1)), .val (.int (x1 &&& (255 : Int32))), .val (.int (own_b1 x1))] [])) t
        exact k)
      obtain ⟨T76, h76, X76, e76, E76, A76, D76, -, st76⟩ := newO X69 hx hZ hown (hw _ (List.mem_of_getElem? (i := 10) rfl)) (hw _ (List.mem_of_getElem? (i := 11) rfl)) (hw _ (List.mem_of_getElem? (i := 12) rfl)) e69 (g := (mkF m 47 #[.val (.int x1), .val (.int (own_len x1)), .val (.int (x1 &&& (255 : Int32))), .val (.int (own_b1 x1))] [])) rfl (hb hby d_str_47) (by decide) (by decide)
      obtain ⟨b76, g76⟩ : ∃ z, z = h0.size := ⟨_, rfl⟩
      rw [← g76] at A76 D76 st76
      replace pre : Pth p e below S0 T76 (mkF m 50 #[.val (.int x1), .val (.int (own_len x1)), .val (.int (x1 &&& (255 : Int32))), .val (.int (own_b1 x1))] [(.ref b76)]) := fun t k => pre t (st76 _ k)
      have Vs : Fld Z h76 b76 "java/lang/String" "value" "[B" .null := D76 (Or.inr (hw _ (List.mem_of_getElem? (i := 26) rfl))) (ty := .array .byte) (by decide)
      have Cs : Fld Z h76 b76 "java/lang/String" "coder" "B" (.int 0) := D76 (Or.inr (hw _ (List.mem_of_getElem? (i := 27) rfl))) (ty := .byte) (by decide)
      replace pre : Pth p e below S0 T76 (mkF m 52 #[.val (.int x1), .val (.int (own_len x1)), .val (.int (x1 &&& (255 : Int32))), .val (.int (own_b1 x1))] [(.int (2 : Int32)), (.ref b76), (.ref b76)]) := fun t k => pre t (by
        show Steps p.tables e below (T76.setTop (mkF m 50 #[.val (.int x1), .val (.int (own_len x1)), .val (.int (x1 &&& (255 : Int32))), .val (.int (own_b1 x1))] [(.ref b76)])) t
        refine XS.dup X76.here hx rfl (hb hby d_str_50) rfl rfl ?_
        show Steps p.tables e below (T76.setTop (mkF m 51 #[.val (.int x1), .val (.int (own_len x1)), .val (.int (x1 &&& (255 : Int32))), .val (.int (own_b1 x1))] [(.ref b76), (.ref b76)])) t
        refine XS.iconst X76.here hx rfl (hb hby d_str_51) ?_
        show Steps p.tables e below (T76.setTop (mkF m 52 #[.val (.int x1), .val (.int (own_len x1)), .val (.int (x1 &&& (255 : Int32))), .val (.int (own_b1 x1))] [(.int (2 : Int32)), (.ref b76), (.ref b76)])) t
        exact k)
      obtain ⟨T77, h77, k77, X77, e77, E77, A77, st77⟩ := newP X76 hx hZ (hw _ (List.mem_of_getElem? (i := 13) rfl)) e76 (g := (mkF m 52 #[.val (.int x1), .val (.int (own_len x1)), .val (.int (x1 &&& (255 : Int32))), .val (.int (own_b1 x1))] [(.int (2 : Int32)), (.ref b76), (.ref b76)])) rfl (hb hby d_str_52) rfl (by decide) (cap := 2) (by decide) (by decide) (by decide) (by decide)
      obtain ⟨b77, g77⟩ : ∃ z, z = h76.size := ⟨_, rfl⟩
      rw [← g77] at A77 st77
      have F77 := OFun.new A77
      replace pre : Pth p e below S0 T77 (mkF m 54 #[.val (.int x1), .val (.int (own_len x1)), .val (.int (x1 &&& (255 : Int32))), .val (.int (own_b1 x1))] [(.ref b77), (.ref b76), (.ref b76)]) := fun t k => pre t (st77 _ k)
      have Fc : OFun Z h77 b77 .char 2 _ := F77
      have gA : n0 ≤ b76 := by rw [g76]; exact Z0
      have gC : n0 ≤ b77 := by rw [g77]; exact Nat.le_trans Z0 E76.1
      have sC : h0.size ≤ b77 := by rw [g77]; exact E76.1
      have neC : b76 ≠ b77 := by rw [g77]; exact Nat.ne_of_lt A76.lt
      replace pre : Pth p e below S0 T77 (mkF m 57 #[.val (.int x1), .val (.int (own_len x1)), .val (.int (x1 &&& (255 : Int32))), .val (.int (own_b1 x1))] [(.int (x1 &&& (255 : Int32))), (.int (0 : Int32)), (.ref b77), (.ref b77), (.ref b76), (.ref b76)]) := fun t k => pre t (by
        show Steps p.tables e below (T77.setTop (mkF m 54 #[.val (.int x1), .val (.int (own_len x1)), .val (.int (x1 &&& (255 : Int32))), .val (.int (own_b1 x1))] [(.ref b77), (.ref b76), (.ref b76)])) t
        refine XS.dup X77.here hx rfl (hb hby d_str_54) rfl rfl ?_
        show Steps p.tables e below (T77.setTop (mkF m 55 #[.val (.int x1), .val (.int (own_len x1)), .val (.int (x1 &&& (255 : Int32))), .val (.int (own_b1 x1))] [(.ref b77), (.ref b77), (.ref b76), (.ref b76)])) t
        refine XS.iconst X77.here hx rfl (hb hby d_str_55) ?_
        show Steps p.tables e below (T77.setTop (mkF m 56 #[.val (.int x1), .val (.int (own_len x1)), .val (.int (x1 &&& (255 : Int32))), .val (.int (own_b1 x1))] [(.int (0 : Int32)), (.ref b77), (.ref b77), (.ref b76), (.ref b76)])) t
        refine XS.iloadN X77.here hx rfl (hb hby d_str_56) rfl ?_
        show Steps p.tables e below (T77.setTop (mkF m 57 #[.val (.int x1), .val (.int (own_len x1)), .val (.int (x1 &&& (255 : Int32))), .val (.int (own_b1 x1))] [(.int (x1 &&& (255 : Int32))), (.int (0 : Int32)), (.ref b77), (.ref b77), (.ref b76), (.ref b76)])) t
        exact k)
      obtain ⟨cl78, Ar78, Sz78, -⟩ := id Fc
      obtain ⟨T78, h78, X78, e78, W78, st78⟩ := stC X77 hx hZ e77 Ar78 (j := (0 : Int32)) (by rw [Sz78]; exact (by decide)) (g := (mkF m 57 #[.val (.int x1), .val (.int (own_len x1)), .val (.int (x1 &&& (255 : Int32))), .val (.int (own_b1 x1))] [(.int (x1 &&& (255 : Int32))), (.int (0 : Int32)), (.ref b77), (.ref b77), (.ref b76), (.ref b76)])) rfl rfl (hb hby d_str_57)
      have F78 := OFun.set Fc W78
      have N78 := Fr.snoc X78 N69 gC
      replace pre : Pth p e below S0 T78 (mkF m 58 #[.val (.int x1), .val (.int (own_len x1)), .val (.int (x1 &&& (255 : Int32))), .val (.int (own_b1 x1))] [(.ref b77), (.ref b76), (.ref b76)]) := fun t k => pre t (st78 _ k)
      replace pre : Pth p e below S0 T78 (mkF m 61 #[.val (.int x1), .val (.int (own_len x1)), .val (.int (x1 &&& (255 : Int32))), .val (.int (own_b1 x1))] [(.int (own_b1 x1)), (.int (1 : Int32)), (.ref b77), (.ref b77), (.ref b76), (.ref b76)]) := fun t k => pre t (by
        show Steps p.tables e below (T78.setTop (mkF m 58 #[.val (.int x1), .val (.int (own_len x1)), .val (.int (x1 &&& (255 : Int32))), .val (.int (own_b1 x1))] [(.ref b77), (.ref b76), (.ref b76)])) t
        refine XS.dup X78.here hx rfl (hb hby d_str_58) rfl rfl ?_
        show Steps p.tables e below (T78.setTop (mkF m 59 #[.val (.int x1), .val (.int (own_len x1)), .val (.int (x1 &&& (255 : Int32))), .val (.int (own_b1 x1))] [(.ref b77), (.ref b77), (.ref b76), (.ref b76)])) t
        refine XS.iconst X78.here hx rfl (hb hby d_str_59) ?_
        show Steps p.tables e below (T78.setTop (mkF m 60 #[.val (.int x1), .val (.int (own_len x1)), .val (.int (x1 &&& (255 : Int32))), .val (.int (own_b1 x1))] [(.int (1 : Int32)), (.ref b77), (.ref b77), (.ref b76), (.ref b76)])) t
        refine XS.iloadN X78.here hx rfl (hb hby d_str_60) rfl ?_
        show Steps p.tables e below (T78.setTop (mkF m 61 #[.val (.int x1), .val (.int (own_len x1)), .val (.int (x1 &&& (255 : Int32))), .val (.int (own_b1 x1))] [(.int (own_b1 x1)), (.int (1 : Int32)), (.ref b77), (.ref b77), (.ref b76), (.ref b76)])) t
        exact k)
      obtain ⟨cl79, Ar79, Sz79, -⟩ := id F78
      obtain ⟨T79, h79, X79, e79, W79, st79⟩ := stC X78 hx hZ e78 Ar79 (j := (1 : Int32)) (by rw [Sz79]; exact (by decide)) (g := (mkF m 61 #[.val (.int x1), .val (.int (own_len x1)), .val (.int (x1 &&& (255 : Int32))), .val (.int (own_b1 x1))] [(.int (own_b1 x1)), (.int (1 : Int32)), (.ref b77), (.ref b77), (.ref b76), (.ref b76)])) rfl rfl (hb hby d_str_61)
      have F79 := OFun.set F78 W79
      have N79 := Fr.snoc X79 N78 gC
      replace pre : Pth p e below S0 T79 (mkF m 62 #[.val (.int x1), .val (.int (own_len x1)), .val (.int (x1 &&& (255 : Int32))), .val (.int (own_b1 x1))] [(.ref b77), (.ref b76), (.ref b76)]) := fun t k => pre t (st79 _ k)
      have Fd : OFun Z h79 b77 .char 2 (own_two (x1 &&& (255 : Int32)) (own_b1 x1)) := F79.congr fun j hj => by
        rw [k0c, k1c]
        match j, hj with
        | 0, _ => rfl
        | 1, _ => rfl
      have Ae := ((A76.ext E77).wr W78).wr W79
      have Ve := ((Vs.ext E77).other W78 (Or.inl neC)).other W79 (Or.inl neC)
      have Ce := ((Cs.ext E77).other W78 (Or.inl neC)).other W79 (Or.inl neC)
      have Z2 : n0 ≤ h79.size := Nat.le_trans Z0 ((own_ext_wr (own_ext_wr (own_ext_trans E76 E77) W78 sC) W79 sC)).1
      obtain ⟨_, _, ⟨T80, L80, k80, n80⟩, -, X80, ⟨Lc80, hQ80, l80, y80, z80⟩, st80⟩ := X79.specialBack hx (y := (⟨"java/lang/String", "<init>", "([C)V"⟩ : MethodName)) rfl hown (mvT hZ (hw _ (List.mem_of_getElem? (i := 14) rfl))) (mvT hZ (hw _ (List.mem_of_getElem? (i := 15) rfl))) (mvT hZ (hw _ (List.mem_of_getElem? (i := 16) rfl))) (by decide) (backOf (W := 1) (rm_ic2 l Z a0 hw [] b76 b77 (x1 &&& (255 : Int32)) (own_b1 x1) cz h79 n0 Z2 gA Ae Ve Ce Fd k0a k1a k0b k1b (Scs.ext (own_ext_wr (own_ext_wr (own_ext_trans E76 E77) W78 sC) W79 sC)) hcz) hZ (hw _ (List.mem_of_getElem? (i := 16) rfl)) (hw _ (List.mem_of_getElem? (i := 12) rfl)) (by decide) (by decide)) (g := (mkF m 62 #[.val (.int x1), .val (.int (own_len x1)), .val (.int (x1 &&& (255 : Int32))), .val (.int (own_b1 x1))] [(.ref b77), (.ref b76), (.ref b76)])) rfl (by rw [hml]; rfl) (Steps.refl _) (a := b76) (argsL := [(.ref b77)]) (rest := [(.ref b76)]) (lenOf pd___C_V rfl) rfl (by show 2 * 0 + _ ≤ _; exact Nat.le_of_eq rfl) (hb hby d_str_62) (fun _ _ => ⟨rfl, e79, (by decide : 2 + 1 ≤ _), (by decide : 6 + 2 ≤ _)⟩)
      dsimp only [Pt.U, Pt.locs, Pt.cells, Pt.slots] at X80 l80 y80 z80 st80 hQ80
      subst l80 y80 z80
      obtain ⟨rfl, N80q, K80, pp, O80⟩ := hQ80
      have N80 := Fr.app N79 N80q
      replace pre : Pth p e below S0 T80 (mkF m 65 #[.val (.int x1), .val (.int (own_len x1)), .val (.int (x1 &&& (255 : Int32))), .val (.int (own_b1 x1))] [(.ref b76)]) := fun t k => pre t (st80.trans k)
      have G81 : CHr Z own_EL s.vm _ s.vm T80.heap := CHr.ext (own_ext_keep (own_ext_wr (own_ext_wr (own_ext_trans E76 E77) W78 sC) W79 sC) K80 (fun z hz => by rw [List.mem_singleton.mp hz, g76]; exact Nat.le_refl _)) HC.1
      replace hkin := Nat.le_trans hkin G81.2.1
      replace HC := HC.trans G81
      have HF : CHr Z own_EL s.vm s.heap T80.vm T80.heap := by
        rw [hh]
        exact HC.trans (CHv.at (s := s) (vm0 := s.vm) X80 hZ hEL HC.1)
      obtain ⟨fs, hr, hrun, hended, r1, r2, r3, r4⟩ := X80.leaveW (s := s) (vm₁ := s.vm) hSin hkin (v := some (.ref b76)) (fun h => by rw [Bd.returns] at h; cases h)
      subst hS0
      refine ⟨_, _, pre _ ?_, hrun, hended, _, _, rfl, ?_, HF, r1, r2, r3, r4.mono (by decide) (by decide)⟩
      · exact retOut X80 hx (t := (.object "java/lang/String")) Bd.returns rfl (by simp [Value.isRef, FieldType.isReference]) (hb hby d_str_65) hr
      · show Q_str Z x1 cz h0 n0 _ T80.heap _
        exact ⟨b76, pp, rfl, N80, (own_ext_keep (own_ext_wr (own_ext_wr (own_ext_trans E76 E77) W78 sC) W79 sC) K80 (fun z hz => by rw [List.mem_singleton.mp hz, g76]; exact Nat.le_refl _)), by rw [own_str, if_neg z0, if_neg z1]; exact O80⟩
def Q_law (Z : State) (A : Int64) (B : Int64) (p1 : Int32) (p2 : Int32) (md : Int32) (cz : Int32) (h0 : Heap) (n0 : Nat) (v : Option Value) (h : Heap) (L : List Loc) : Prop := v = some (.int 1) ∧ Fr n0 L
set_option maxRecDepth 65536 in
set_option maxHeartbeats 40000000 in
theorem rm_law (l : Launch) (Z : State) (a0 : Array Value) (hw : ∀ d ∈ tables_1, d.before a0 Z = true) (ws : List Jvm.Cond) (A : Int64) (B : Int64) (p1 : Int32) (p2 : Int32) (md : Int32) (cz : Int32) (h0 : Heap) (n0 : Nat) (Z0 : n0 ≤ h0.size) (Scs : Sta Z h0 "java/lang/String" "COMPACT_STRINGS" "Z" (.int cz)) (hcz : ¬ cz = 0) :
    MetFree l x (head1 (Jvm.Cond.code x code maxLocals ret :: ws) room_1) (fun a U => a = #[(.long A), (.long B), (.int p1), (.int p2), (.int md)] ∧ Z.Warmed39 U.vm ∧ U.heap = h0 ∧ CHv Z own_EL U.vm h0) (fun _ _ _ _ _ => True) (fun _ U o U' => ∃ v L, o = .returned v ∧ Q_law Z A B p1 p2 md cz h0 n0 v U'.heap L ∧ CHr Z own_EL U.vm U.heap U'.vm U'.heap ∧ ReturnedEndW U o U' L room_1.cells room_1.slots) := by
  refine MetFree.of_bodySF (plainFor_of_name pn_com_example_originlint_originlint_OriginEqualsPinLaw) hisR ?_
  intro p e s m args below meth c s₁ Bd hml0 hP hK
  obtain ⟨rfl, hZ, hh, hH⟩ := hP
  have HC := CHr.refl hH
  have hSin := (State.WarmedH.refl s).since s.heap.size
  have hkin : s.heap.size ≤ h0.size := by rw [hh]; exact Nat.le_refl _
  have wS : ∀ a ∈ Bundle.stringAtoms, a.before a0 Z = true := fun d hd => hw d (own_atoms d hd)
  have hEL : EW Z a0 own_EL := EW.cons (text := "") (hw _ (List.mem_of_getElem? (i := 24) rfl)) (by decide) EW.nil
  have hx := Bd.exec
  have hby := Bd.bytes
  have hml : c.maxLocals = 16 := hml0
  have hown : s.vm.findClass "com/example/originlint/originlint/OriginEqualsPinLaw" = some m.cls := findClass_of_methodNamed Bd.named
  have hnm := (name_of_methodNamed Bd.named Bd.method).1
  have X0 : Stand p l e room_1 s m #[(.long A), (.long B), (.int p1), (.int p2), (.int md)] below meth c s₁ [] 0 0 := Stand.of_body Bd
  have e0 : s₁.heap = h0 := by rw [← hh, Bd.state]; rfl
  have N0 := Fr.nil n0
  obtain ⟨S0, hS0⟩ : ∃ S0, S0 = s₁.setTop (entryFrame m #[(.long A), (.long B), (.int p1), (.int p2), (.int md)] maxLocals) := ⟨_, rfl⟩
  have pre : Pth p e below S0 s₁ (mkF m 0 #[.val (.long A), .second, .val (.long B), .second, .val (.int p1), .val (.int p2), .val (.int md), .unset, .unset, .unset, .unset, .unset, .unset, .unset, .unset, .unset] []) := fun t k => by rw [hS0]; exact castTop (ef_law m A B p1 p2 md) k
  replace pre : Pth p e below S0 s₁ (mkF m 22 #[.val (.long A), .second, .val (.long B), .second, .val (.int p1), .val (.int p2), .val (.int md), .val (.int (A.toInt32)), .val (.int (((A.toUInt64 >>> ((32 : Int32) &&& 0x3f).toInt64.toUInt64).toInt64).toInt32)), .val (.int (B.toInt32)), .val (.int (((B.toUInt64 >>> ((32 : Int32) &&& 0x3f).toInt64.toUInt64).toInt64).toInt32)), .unset, .unset, .unset, .unset, .unset] []) := fun t k => pre t (by
    show Steps p.tables e below (s₁.setTop (mkF m 0 #[.val (.long A), .second, .val (.long B), .second, .val (.int p1), .val (.int p2), .val (.int md), .unset, .unset, .unset, .unset, .unset, .unset, .unset, .unset, .unset] [])) t
    refine XS.lloadN X0.here hx rfl (hb hby at_0) rfl ?_
    show Steps p.tables e below (s₁.setTop (mkF m 1 #[.val (.long A), .second, .val (.long B), .second, .val (.int p1), .val (.int p2), .val (.int md), .unset, .unset, .unset, .unset, .unset, .unset, .unset, .unset, .unset] [(.long A)])) t
    refine XS.l2i X0.here hx rfl (hb hby at_1) rfl ?_
    show Steps p.tables e below (s₁.setTop (mkF m 2 #[.val (.long A), .second, .val (.long B), .second, .val (.int p1), .val (.int p2), .val (.int md), .unset, .unset, .unset, .unset, .unset, .unset, .unset, .unset, .unset] [(.int (A.toInt32))])) t
    refine XS.istore X0.here hx rfl (hb hby at_2) rfl (l' := #[.val (.long A), .second, .val (.long B), .second, .val (.int p1), .val (.int p2), .val (.int md), .val (.int (A.toInt32)), .unset, .unset, .unset, .unset, .unset, .unset, .unset, .unset]) rfl ?_
    show Steps p.tables e below (s₁.setTop (mkF m 4 #[.val (.long A), .second, .val (.long B), .second, .val (.int p1), .val (.int p2), .val (.int md), .val (.int (A.toInt32)), .unset, .unset, .unset, .unset, .unset, .unset, .unset, .unset] [])) t
    refine XS.lloadN X0.here hx rfl (hb hby at_4) rfl ?_
    show Steps p.tables e below (s₁.setTop (mkF m 5 #[.val (.long A), .second, .val (.long B), .second, .val (.int p1), .val (.int p2), .val (.int md), .val (.int (A.toInt32)), .unset, .unset, .unset, .unset, .unset, .unset, .unset, .unset] [(.long A)])) t
    refine XS.bipush X0.here hx rfl (hb hby at_5) ?_
    show Steps p.tables e below (s₁.setTop (mkF m 7 #[.val (.long A), .second, .val (.long B), .second, .val (.int p1), .val (.int p2), .val (.int md), .val (.int (A.toInt32)), .unset, .unset, .unset, .unset, .unset, .unset, .unset, .unset] [(.int (32 : Int32)), (.long A)])) t
    refine XS.lushr X0.here hx rfl (hb hby at_7) rfl ?_
    show Steps p.tables e below (s₁.setTop (mkF m 8 #[.val (.long A), .second, .val (.long B), .second, .val (.int p1), .val (.int p2), .val (.int md), .val (.int (A.toInt32)), .unset, .unset, .unset, .unset, .unset, .unset, .unset, .unset] [(.long ((A.toUInt64 >>> ((32 : Int32) &&& 0x3f).toInt64.toUInt64).toInt64))])) t
    refine XS.l2i X0.here hx rfl (hb hby at_8) rfl ?_
    show Steps p.tables e below (s₁.setTop (mkF m 9 #[.val (.long A), .second, .val (.long B), .second, .val (.int p1), .val (.int p2), .val (.int md), .val (.int (A.toInt32)), .unset, .unset, .unset, .unset, .unset, .unset, .unset, .unset] [(.int (((A.toUInt64 >>> ((32 : Int32) &&& 0x3f).toInt64.toUInt64).toInt64).toInt32))])) t
    refine XS.istore X0.here hx rfl (hb hby at_9) rfl (l' := #[.val (.long A), .second, .val (.long B), .second, .val (.int p1), .val (.int p2), .val (.int md), .val (.int (A.toInt32)), .val (.int (((A.toUInt64 >>> ((32 : Int32) &&& 0x3f).toInt64.toUInt64).toInt64).toInt32)), .unset, .unset, .unset, .unset, .unset, .unset, .unset]) rfl ?_
    show Steps p.tables e below (s₁.setTop (mkF m 11 #[.val (.long A), .second, .val (.long B), .second, .val (.int p1), .val (.int p2), .val (.int md), .val (.int (A.toInt32)), .val (.int (((A.toUInt64 >>> ((32 : Int32) &&& 0x3f).toInt64.toUInt64).toInt64).toInt32)), .unset, .unset, .unset, .unset, .unset, .unset, .unset] [])) t
    refine XS.lloadN X0.here hx rfl (hb hby at_11) rfl ?_
    show Steps p.tables e below (s₁.setTop (mkF m 12 #[.val (.long A), .second, .val (.long B), .second, .val (.int p1), .val (.int p2), .val (.int md), .val (.int (A.toInt32)), .val (.int (((A.toUInt64 >>> ((32 : Int32) &&& 0x3f).toInt64.toUInt64).toInt64).toInt32)), .unset, .unset, .unset, .unset, .unset, .unset, .unset] [(.long B)])) t
    refine XS.l2i X0.here hx rfl (hb hby at_12) rfl ?_
    show Steps p.tables e below (s₁.setTop (mkF m 13 #[.val (.long A), .second, .val (.long B), .second, .val (.int p1), .val (.int p2), .val (.int md), .val (.int (A.toInt32)), .val (.int (((A.toUInt64 >>> ((32 : Int32) &&& 0x3f).toInt64.toUInt64).toInt64).toInt32)), .unset, .unset, .unset, .unset, .unset, .unset, .unset] [(.int (B.toInt32))])) t
    refine XS.istore X0.here hx rfl (hb hby at_13) rfl (l' := #[.val (.long A), .second, .val (.long B), .second, .val (.int p1), .val (.int p2), .val (.int md), .val (.int (A.toInt32)), .val (.int (((A.toUInt64 >>> ((32 : Int32) &&& 0x3f).toInt64.toUInt64).toInt64).toInt32)), .val (.int (B.toInt32)), .unset, .unset, .unset, .unset, .unset, .unset]) rfl ?_
    show Steps p.tables e below (s₁.setTop (mkF m 15 #[.val (.long A), .second, .val (.long B), .second, .val (.int p1), .val (.int p2), .val (.int md), .val (.int (A.toInt32)), .val (.int (((A.toUInt64 >>> ((32 : Int32) &&& 0x3f).toInt64.toUInt64).toInt64).toInt32)), .val (.int (B.toInt32)), .unset, .unset, .unset, .unset, .unset, .unset] [])) t
    refine XS.lloadN X0.here hx rfl (hb hby at_15) rfl ?_
    show Steps p.tables e below (s₁.setTop (mkF m 16 #[.val (.long A), .second, .val (.long B), .second, .val (.int p1), .val (.int p2), .val (.int md), .val (.int (A.toInt32)), .val (.int (((A.toUInt64 >>> ((32 : Int32) &&& 0x3f).toInt64.toUInt64).toInt64).toInt32)), .val (.int (B.toInt32)), .unset, .unset, .unset, .unset, .unset, .unset] [(.long B)])) t
    refine XS.bipush X0.here hx rfl (hb hby at_16) ?_
    show Steps p.tables e below (s₁.setTop (mkF m 18 #[.val (.long A), .second, .val (.long B), .second, .val (.int p1), .val (.int p2), .val (.int md), .val (.int (A.toInt32)), .val (.int (((A.toUInt64 >>> ((32 : Int32) &&& 0x3f).toInt64.toUInt64).toInt64).toInt32)), .val (.int (B.toInt32)), .unset, .unset, .unset, .unset, .unset, .unset] [(.int (32 : Int32)), (.long B)])) t
    refine XS.lushr X0.here hx rfl (hb hby at_18) rfl ?_
    show Steps p.tables e below (s₁.setTop (mkF m 19 #[.val (.long A), .second, .val (.long B), .second, .val (.int p1), .val (.int p2), .val (.int md), .val (.int (A.toInt32)), .val (.int (((A.toUInt64 >>> ((32 : Int32) &&& 0x3f).toInt64.toUInt64).toInt64).toInt32)), .val (.int (B.toInt32)), .unset, .unset, .unset, .unset, .unset, .unset] [(.long ((B.toUInt64 >>> ((32 : Int32) &&& 0x3f).toInt64.toUInt64).toInt64))])) t
    refine XS.l2i X0.here hx rfl (hb hby at_19) rfl ?_
    show Steps p.tables e below (s₁.setTop (mkF m 20 #[.val (.long A), .second, .val (.long B), .second, .val (.int p1), .val (.int p2), .val (.int md), .val (.int (A.toInt32)), .val (.int (((A.toUInt64 >>> ((32 : Int32) &&& 0x3f).toInt64.toUInt64).toInt64).toInt32)), .val (.int (B.toInt32)), .unset, .unset, .unset, .unset, .unset, .unset] [(.int (((B.toUInt64 >>> ((32 : Int32) &&& 0x3f).toInt64.toUInt64).toInt64).toInt32))])) t
    refine XS.istore X0.here hx rfl (hb hby at_20) rfl (l' := #[.val (.long A), .second, .val (.long B), .second, .val (.int p1), .val (.int p2), .val (.int md), .val (.int (A.toInt32)), .val (.int (((A.toUInt64 >>> ((32 : Int32) &&& 0x3f).toInt64.toUInt64).toInt64).toInt32)), .val (.int (B.toInt32)), .val (.int (((B.toUInt64 >>> ((32 : Int32) &&& 0x3f).toInt64.toUInt64).toInt64).toInt32)), .unset, .unset, .unset, .unset, .unset]) rfl ?_
    show Steps p.tables e below (s₁.setTop (mkF m 22 #[.val (.long A), .second, .val (.long B), .second, .val (.int p1), .val (.int p2), .val (.int md), .val (.int (A.toInt32)), .val (.int (((A.toUInt64 >>> ((32 : Int32) &&& 0x3f).toInt64.toUInt64).toInt64).toInt32)), .val (.int (B.toInt32)), .val (.int (((B.toUInt64 >>> ((32 : Int32) &&& 0x3f).toInt64.toUInt64).toInt64).toInt32)), .unset, .unset, .unset, .unset, .unset] [])) t
    exact k)
  obtain ⟨sA, h_sA⟩ : ∃ z : Int32, z = (A.toInt32) := ⟨_, rfl⟩
  rw [← h_sA] at pre
  obtain ⟨gA, h_gA⟩ : ∃ z : Int32, z = (((A.toUInt64 >>> ((32 : Int32) &&& 0x3f).toInt64.toUInt64).toInt64).toInt32) := ⟨_, rfl⟩
  rw [← h_gA] at pre
  obtain ⟨sC, h_sC⟩ : ∃ z : Int32, z = (B.toInt32) := ⟨_, rfl⟩
  rw [← h_sC] at pre
  obtain ⟨gC, h_gC⟩ : ∃ z : Int32, z = (((B.toUInt64 >>> ((32 : Int32) &&& 0x3f).toInt64.toUInt64).toInt64).toInt32) := ⟨_, rfl⟩
  rw [← h_gC] at pre
  replace pre : Pth p e below S0 s₁ (mkF m 27 #[.val (.long A), .second, .val (.long B), .second, .val (.int p1), .val (.int p2), .val (.int md), .val (.int sA), .val (.int gA), .val (.int sC), .val (.int gC), .unset, .unset, .unset, .unset, .unset] [(.int (md &&& (8 : Int32)))]) := fun t k => pre t (by
    show Steps p.tables e below (s₁.setTop (mkF m 22 #[.val (.long A), .second, .val (.long B), .second, .val (.int p1), .val (.int p2), .val (.int md), .val (.int sA), .val (.int gA), .val (.int sC), .val (.int gC), .unset, .unset, .unset, .unset, .unset] [])) t
    refine XS.iload X0.here hx rfl (hb hby at_22) rfl ?_
    show Steps p.tables e below (s₁.setTop (mkF m 24 #[.val (.long A), .second, .val (.long B), .second, .val (.int p1), .val (.int p2), .val (.int md), .val (.int sA), .val (.int gA), .val (.int sC), .val (.int gC), .unset, .unset, .unset, .unset, .unset] [(.int md)])) t
    refine XS.bipush X0.here hx rfl (hb hby at_24) ?_
    show Steps p.tables e below (s₁.setTop (mkF m 26 #[.val (.long A), .second, .val (.long B), .second, .val (.int p1), .val (.int p2), .val (.int md), .val (.int sA), .val (.int gA), .val (.int sC), .val (.int gC), .unset, .unset, .unset, .unset, .unset] [(.int (8 : Int32)), (.int md)])) t
    refine XS.iand X0.here hx rfl (hb hby at_26) rfl ?_
    show Steps p.tables e below (s₁.setTop (mkF m 27 #[.val (.long A), .second, .val (.long B), .second, .val (.int p1), .val (.int p2), .val (.int md), .val (.int sA), .val (.int gA), .val (.int sC), .val (.int gC), .unset, .unset, .unset, .unset, .unset] [(.int (md &&& (8 : Int32)))])) t
    exact k)
  obtain ⟨sB, gB, pre⟩ : ∃ sB gB : Int32, Pth p e below S0 s₁ (mkF m 38 #[.val (.long A), .second, .val (.long B), .second, .val (.int p1), .val (.int p2), .val (.int md), .val (.int sA), .val (.int gA), .val (.int sB), .val (.int gB), .unset, .unset, .unset, .unset, .unset] []) := by
    by_cases z1 : (md &&& (8 : Int32)) = (0 : Int32)
    · replace pre : Pth p e below S0 s₁ (mkF m 38 #[.val (.long A), .second, .val (.long B), .second, .val (.int p1), .val (.int p2), .val (.int md), .val (.int sA), .val (.int gA), .val (.int sC), .val (.int gC), .unset, .unset, .unset, .unset, .unset] []) := fun t k => pre t (by
        show Steps p.tables e below (s₁.setTop (mkF m 27 #[.val (.long A), .second, .val (.long B), .second, .val (.int p1), .val (.int p2), .val (.int md), .val (.int sA), .val (.int gA), .val (.int sC), .val (.int gC), .unset, .unset, .unset, .unset, .unset] [(.int (md &&& (8 : Int32)))])) t
        refine XS.ifYes X0.here hx rfl (pc0 := 27) (pc' := 38) rfl (hb hby at_27) rfl (XT.i0_eq_t z1) (by decide) (by decide) ?_
        show Steps p.tables e below (s₁.setTop (mkF m 38 #[.val (.long A), .second, .val (.long B), .second, .val (.int p1), .val (.int p2), .val (.int md), .val (.int sA), .val (.int gA), .val (.int sC), .val (.int gC), .unset, .unset, .unset, .unset, .unset] [])) t
        exact k)
      exact ⟨_, _, pre⟩
    · replace pre : Pth p e below S0 s₁ (mkF m 38 #[.val (.long A), .second, .val (.long B), .second, .val (.int p1), .val (.int p2), .val (.int md), .val (.int sA), .val (.int gA), .val (.int sA), .val (.int gA), .unset, .unset, .unset, .unset, .unset] []) := fun t k => pre t (by
        show Steps p.tables e below (s₁.setTop (mkF m 27 #[.val (.long A), .second, .val (.long B), .second, .val (.int p1), .val (.int p2), .val (.int md), .val (.int sA), .val (.int gA), .val (.int sC), .val (.int gC), .unset, .unset, .unset, .unset, .unset] [(.int (md &&& (8 : Int32)))])) t
        refine XS.ifNo X0.here hx rfl (hb hby at_27) rfl (XT.i0_eq_f z1) ?_
        show Steps p.tables e below (s₁.setTop (mkF m 30 #[.val (.long A), .second, .val (.long B), .second, .val (.int p1), .val (.int p2), .val (.int md), .val (.int sA), .val (.int gA), .val (.int sC), .val (.int gC), .unset, .unset, .unset, .unset, .unset] [])) t
        refine XS.iload X0.here hx rfl (hb hby at_30) rfl ?_
        show Steps p.tables e below (s₁.setTop (mkF m 32 #[.val (.long A), .second, .val (.long B), .second, .val (.int p1), .val (.int p2), .val (.int md), .val (.int sA), .val (.int gA), .val (.int sC), .val (.int gC), .unset, .unset, .unset, .unset, .unset] [(.int sA)])) t
        refine XS.istore X0.here hx rfl (hb hby at_32) rfl (l' := #[.val (.long A), .second, .val (.long B), .second, .val (.int p1), .val (.int p2), .val (.int md), .val (.int sA), .val (.int gA), .val (.int sA), .val (.int gC), .unset, .unset, .unset, .unset, .unset]) rfl ?_
        show Steps p.tables e below (s₁.setTop (mkF m 34 #[.val (.long A), .second, .val (.long B), .second, .val (.int p1), .val (.int p2), .val (.int md), .val (.int sA), .val (.int gA), .val (.int sA), .val (.int gC), .unset, .unset, .unset, .unset, .unset] [])) t
        refine XS.iload X0.here hx rfl (hb hby at_34) rfl ?_
        show Steps p.tables e below (s₁.setTop (mkF m 36 #[.val (.long A), .second, .val (.long B), .second, .val (.int p1), .val (.int p2), .val (.int md), .val (.int sA), .val (.int gA), .val (.int sA), .val (.int gC), .unset, .unset, .unset, .unset, .unset] [(.int gA)])) t
        refine XS.istore X0.here hx rfl (hb hby at_36) rfl (l' := #[.val (.long A), .second, .val (.long B), .second, .val (.int p1), .val (.int p2), .val (.int md), .val (.int sA), .val (.int gA), .val (.int sA), .val (.int gA), .unset, .unset, .unset, .unset, .unset]) rfl ?_
        show Steps p.tables e below (s₁.setTop (mkF m 38 #[.val (.long A), .second, .val (.long B), .second, .val (.int p1), .val (.int p2), .val (.int md), .val (.int sA), .val (.int gA), .val (.int sA), .val (.int gA), .unset, .unset, .unset, .unset, .unset] [])) t
        exact k)
      exact ⟨_, _, pre⟩
  replace pre : Pth p e below S0 s₁ (mkF m 42 #[.val (.long A), .second, .val (.long B), .second, .val (.int p1), .val (.int p2), .val (.int md), .val (.int sA), .val (.int gA), .val (.int sB), .val (.int gB), .unset, .unset, .unset, .unset, .unset] [(.int (md &&& (4 : Int32)))]) := fun t k => pre t (by
    show Steps p.tables e below (s₁.setTop (mkF m 38 #[.val (.long A), .second, .val (.long B), .second, .val (.int p1), .val (.int p2), .val (.int md), .val (.int sA), .val (.int gA), .val (.int sB), .val (.int gB), .unset, .unset, .unset, .unset, .unset] [])) t
    refine XS.iload X0.here hx rfl (hb hby at_38) rfl ?_
    show Steps p.tables e below (s₁.setTop (mkF m 40 #[.val (.long A), .second, .val (.long B), .second, .val (.int p1), .val (.int p2), .val (.int md), .val (.int sA), .val (.int gA), .val (.int sB), .val (.int gB), .unset, .unset, .unset, .unset, .unset] [(.int md)])) t
    refine XS.iconst X0.here hx rfl (hb hby at_40) ?_
    show Steps p.tables e below (s₁.setTop (mkF m 41 #[.val (.long A), .second, .val (.long B), .second, .val (.int p1), .val (.int p2), .val (.int md), .val (.int sA), .val (.int gA), .val (.int sB), .val (.int gB), .unset, .unset, .unset, .unset, .unset] [(.int (4 : Int32)), (.int md)])) t
    refine XS.iand X0.here hx rfl (hb hby at_41) rfl ?_
    show Steps p.tables e below (s₁.setTop (mkF m 42 #[.val (.long A), .second, .val (.long B), .second, .val (.int p1), .val (.int p2), .val (.int md), .val (.int sA), .val (.int gA), .val (.int sB), .val (.int gB), .unset, .unset, .unset, .unset, .unset] [(.int (md &&& (4 : Int32)))])) t
    exact k)
  obtain ⟨qB, pre⟩ : ∃ qB : Int32, Pth p e below S0 s₁ (mkF m 52 #[.val (.long A), .second, .val (.long B), .second, .val (.int p1), .val (.int p2), .val (.int md), .val (.int sA), .val (.int gA), .val (.int sB), .val (.int gB), .unset, .unset, .unset, .unset, .unset] [(.int qB)]) := by
    by_cases z1 : (md &&& (4 : Int32)) = (0 : Int32)
    · replace pre : Pth p e below S0 s₁ (mkF m 52 #[.val (.long A), .second, .val (.long B), .second, .val (.int p1), .val (.int p2), .val (.int md), .val (.int sA), .val (.int gA), .val (.int sB), .val (.int gB), .unset, .unset, .unset, .unset, .unset] [(.int p2)]) := fun t k => pre t (by
        show Steps p.tables e below (s₁.setTop (mkF m 42 #[.val (.long A), .second, .val (.long B), .second, .val (.int p1), .val (.int p2), .val (.int md), .val (.int sA), .val (.int gA), .val (.int sB), .val (.int gB), .unset, .unset, .unset, .unset, .unset] [(.int (md &&& (4 : Int32)))])) t
        refine XS.ifYes X0.here hx rfl (pc0 := 42) (pc' := 50) rfl (hb hby at_42) rfl (XT.i0_eq_t z1) (by decide) (by decide) ?_
        show Steps p.tables e below (s₁.setTop (mkF m 50 #[.val (.long A), .second, .val (.long B), .second, .val (.int p1), .val (.int p2), .val (.int md), .val (.int sA), .val (.int gA), .val (.int sB), .val (.int gB), .unset, .unset, .unset, .unset, .unset] [])) t
        refine XS.iload X0.here hx rfl (hb hby at_50) rfl ?_
        show Steps p.tables e below (s₁.setTop (mkF m 52 #[.val (.long A), .second, .val (.long B), .second, .val (.int p1), .val (.int p2), .val (.int md), .val (.int sA), .val (.int gA), .val (.int sB), .val (.int gB), .unset, .unset, .unset, .unset, .unset] [(.int p2)])) t
        exact k)
      exact ⟨_, pre⟩
    · replace pre : Pth p e below S0 s₁ (mkF m 52 #[.val (.long A), .second, .val (.long B), .second, .val (.int p1), .val (.int p2), .val (.int md), .val (.int sA), .val (.int gA), .val (.int sB), .val (.int gB), .unset, .unset, .unset, .unset, .unset] [(.int p1)]) := fun t k => pre t (by
        show Steps p.tables e below (s₁.setTop (mkF m 42 #[.val (.long A), .second, .val (.long B), .second, .val (.int p1), .val (.int p2), .val (.int md), .val (.int sA), .val (.int gA), .val (.int sB), .val (.int gB), .unset, .unset, .unset, .unset, .unset] [(.int (md &&& (4 : Int32)))])) t
        refine XS.ifNo X0.here hx rfl (hb hby at_42) rfl (XT.i0_eq_f z1) ?_
        show Steps p.tables e below (s₁.setTop (mkF m 45 #[.val (.long A), .second, .val (.long B), .second, .val (.int p1), .val (.int p2), .val (.int md), .val (.int sA), .val (.int gA), .val (.int sB), .val (.int gB), .unset, .unset, .unset, .unset, .unset] [])) t
        refine XS.iload X0.here hx rfl (hb hby at_45) rfl ?_
        show Steps p.tables e below (s₁.setTop (mkF m 47 #[.val (.long A), .second, .val (.long B), .second, .val (.int p1), .val (.int p2), .val (.int md), .val (.int sA), .val (.int gA), .val (.int sB), .val (.int gB), .unset, .unset, .unset, .unset, .unset] [(.int p1)])) t
        refine XS.goto X0.here hx rfl (pc0 := 47) (pc' := 52) rfl (hb hby at_47) (by decide) (by decide) ?_
        show Steps p.tables e below (s₁.setTop (mkF m 52 #[.val (.long A), .second, .val (.long B), .second, .val (.int p1), .val (.int p2), .val (.int md), .val (.int sA), .val (.int gA), .val (.int sB), .val (.int gB), .unset, .unset, .unset, .unset, .unset] [(.int p1)])) t
        exact k)
      exact ⟨_, pre⟩
  replace pre : Pth p e below S0 s₁ (mkF m 54 #[.val (.long A), .second, .val (.long B), .second, .val (.int p1), .val (.int p2), .val (.int md), .val (.int sA), .val (.int gA), .val (.int sB), .val (.int gB), .val (.int qB), .unset, .unset, .unset, .unset] []) := fun t k => pre t (by
    show Steps p.tables e below (s₁.setTop (mkF m 52 #[.val (.long A), .second, .val (.long B), .second, .val (.int p1), .val (.int p2), .val (.int md), .val (.int sA), .val (.int gA), .val (.int sB), .val (.int gB), .unset, .unset, .unset, .unset, .unset] [(.int qB)])) t
    refine XS.istore X0.here hx rfl (hb hby at_52) rfl (l' := #[.val (.long A), .second, .val (.long B), .second, .val (.int p1), .val (.int p2), .val (.int md), .val (.int sA), .val (.int gA), .val (.int sB), .val (.int gB), .val (.int qB), .unset, .unset, .unset, .unset]) rfl ?_
    show Steps p.tables e below (s₁.setTop (mkF m 54 #[.val (.long A), .second, .val (.long B), .second, .val (.int p1), .val (.int p2), .val (.int md), .val (.int sA), .val (.int gA), .val (.int sB), .val (.int gB), .val (.int qB), .unset, .unset, .unset, .unset] [])) t
    exact k)
  have HX := own_ext_refl h0
  obtain ⟨T82, h82, X82, e82, E82, A82, D82, -, st82⟩ := newO X0 hx hZ hown (hw _ (List.mem_of_getElem? (i := 0) rfl)) (hw _ (List.mem_of_getElem? (i := 1) rfl)) (hw _ (List.mem_of_getElem? (i := 2) rfl)) e0 (g := (mkF m 54 #[.val (.long A), .second, .val (.long B), .second, .val (.int p1), .val (.int p2), .val (.int md), .val (.int sA), .val (.int gA), .val (.int sB), .val (.int gB), .val (.int qB), .unset, .unset, .unset, .unset] [])) rfl (hb hby at_54) (by decide) (by decide)
  obtain ⟨b82, g82⟩ : ∃ z, z = h0.size := ⟨_, rfl⟩
  rw [← g82] at A82 D82 st82
  replace pre : Pth p e below S0 T82 (mkF m 57 #[.val (.long A), .second, .val (.long B), .second, .val (.int p1), .val (.int p2), .val (.int md), .val (.int sA), .val (.int gA), .val (.int sB), .val (.int gB), .val (.int qB), .unset, .unset, .unset, .unset] [(.ref b82)]) := fun t k => pre t (st82 _ k)
  have gz_a : h0.size ≤ b82 := by rw [g82]; exact HX.1
  have ga_a : n0 ≤ b82 := Nat.le_trans Z0 gz_a
  replace HX := own_ext_trans HX E82
  have G83 : CHr Z own_EL s.vm _ s.vm h82 := CHr.ext E82 HC.1
  replace hkin := Nat.le_trans hkin G83.2.1
  replace HC := HC.trans G83
  have F_scheme : Fld Z h82 b82 "com/example/originlint/originlint/Origin" "scheme" "Ljava/lang/String;" .null := D82 (Or.inr (hw _ (List.mem_of_getElem? (i := 42) rfl))) (ty := (.object "java/lang/String")) (by decide)
  have F_host : Fld Z h82 b82 "com/example/originlint/originlint/Origin" "host" "Ljava/lang/String;" .null := D82 (Or.inr (hw _ (List.mem_of_getElem? (i := 44) rfl))) (ty := (.object "java/lang/String")) (by decide)
  have F_port : Fld Z h82 b82 "com/example/originlint/originlint/Origin" "port" "I" (.int 0) := D82 (Or.inr (hw _ (List.mem_of_getElem? (i := 46) rfl))) (ty := .int) (by decide)
  replace pre : Pth p e below S0 T82 (mkF m 60 #[.val (.long A), .second, .val (.long B), .second, .val (.int p1), .val (.int p2), .val (.int md), .val (.int sA), .val (.int gA), .val (.int sB), .val (.int gB), .val (.int qB), .unset, .unset, .unset, .unset] [(.int sA), (.ref b82), (.ref b82)]) := fun t k => pre t (by
    show Steps p.tables e below (T82.setTop (mkF m 57 #[.val (.long A), .second, .val (.long B), .second, .val (.int p1), .val (.int p2), .val (.int md), .val (.int sA), .val (.int gA), .val (.int sB), .val (.int gB), .val (.int qB), .unset, .unset, .unset, .unset] [(.ref b82)])) t
    refine XS.dup X82.here hx rfl (hb hby at_57) rfl rfl ?_
    show Steps p.tables e below (T82.setTop (mkF m 58 #[.val (.long A), .second, .val (.long B), .second, .val (.int p1), .val (.int p2), .val (.int md), .val (.int sA), .val (.int gA), .val (.int sB), .val (.int gB), .val (.int qB), .unset, .unset, .unset, .unset] [(.ref b82), (.ref b82)])) t
    refine XS.iload X82.here hx rfl (hb hby at_58) rfl ?_
    show Steps p.tables e below (T82.setTop (mkF m 60 #[.val (.long A), .second, .val (.long B), .second, .val (.int p1), .val (.int p2), .val (.int md), .val (.int sA), .val (.int gA), .val (.int sB), .val (.int gB), .val (.int qB), .unset, .unset, .unset, .unset] [(.int sA), (.ref b82), (.ref b82)])) t
    exact k)
  obtain ⟨_, _, ⟨T84, L84, k84, n84⟩, -, X84, hS84, hg84, ⟨Lc84, hQ84, l84, y84, z84, hC84⟩, st84⟩ := callSS (s := s.setVm s.vm) X82 hx (y := (⟨"com/example/originlint/originlint/OriginEqualsPinLaw", "str", "(I)Ljava/lang/String;"⟩ : MethodName)) hown (mvT (s := s.setVm s.vm) hZ (hw _ (List.mem_of_getElem? (i := 3) rfl))) (mvT (s := s.setVm s.vm) hZ (hw _ (List.mem_of_getElem? (i := 4) rfl))) (mvT (s := s.setVm s.vm) hZ (hw _ (List.mem_of_getElem? (i := 5) rfl))) (mvT (s := s.setVm s.vm) hZ (hw _ (List.mem_of_getElem? (i := 6) rfl))) (by decide) (backOfSH (s := s) (vm0 := s.vm) (EL := own_EL) (W := 2) (rm_str l Z a0 hw [] sA cz h82 n0 (Nat.le_trans Z0 HX.1) (Scs.ext HX) hcz) hZ (hw _ (List.mem_of_getElem? (i := 6) rfl)) (hw _ (List.mem_of_getElem? (i := 5) rfl)) (by decide) (by decide) hEL HC.1) (g := (mkF m 60 #[.val (.long A), .second, .val (.long B), .second, .val (.int p1), .val (.int p2), .val (.int md), .val (.int sA), .val (.int gA), .val (.int sB), .val (.int gB), .val (.int qB), .unset, .unset, .unset, .unset] [(.int sA), (.ref b82), (.ref b82)])) rfl (by rw [hml]; rfl) (argsL := [(.int sA)]) (rest := [(.ref b82), (.ref b82)]) (lenOf pd__I_Ljava_lang_String_ rfl) rfl (by show 2 * 0 + _ ≤ _; exact Nat.le_of_eq rfl) (hb hby at_60) (fun _ _ => ⟨rfl, e82, (by decide : 1 + 6 ≤ _), (by decide : 3 + 12 ≤ _)⟩)
  dsimp only [Pt.U, Pt.locs, Pt.cells, Pt.slots] at X84 hS84 hg84 l84 y84 z84 hC84 st84 hQ84
  subst l84 y84 z84
  have X84 : Stand p l e room_1 (s.setVm T84.vm) m #[(.long A), (.long B), (.int p1), (.int p2), (.int md)] below meth c T84 _ _ _ := X84
  replace hSin := foldS hSin (by rw [e82]; exact hkin) hS84 hg84
  replace hkin := Nat.le_refl T84.heap.size
  replace hZ : Z.Warmed39 (s.setVm T84.vm).vm := State.Warmed39.trans (t := s.setVm s.vm) hZ hS84.1
  replace hown : (s.setVm T84.vm).vm.findClass "com/example/originlint/originlint/OriginEqualsPinLaw" = some m.cls := by rw [show (s.setVm T84.vm).vm = T84.vm from rfl, hS84.1.alike.findClass]; exact hown
  replace HC := HC.trans hC84
  obtain ⟨as_r, as_p, rfl, N84q, E84, S_as⟩ := hQ84
  have N84 := Fr.app N0 N84q
  replace pre : Pth p e below S0 T84 (mkF m 63 #[.val (.long A), .second, .val (.long B), .second, .val (.int p1), .val (.int p2), .val (.int md), .val (.int sA), .val (.int gA), .val (.int sB), .val (.int gB), .val (.int qB), .unset, .unset, .unset, .unset] [(.ref as_r), (.ref b82), (.ref b82)]) := fun t k => pre t (st84.trans k)
  replace HX := own_ext_trans HX E84
  replace A82 := A82.ext E84
  replace F_scheme := F_scheme.ext E84
  replace F_host := F_host.ext E84
  replace F_port := F_port.ext E84
  replace pre : Pth p e below S0 T84 (mkF m 65 #[.val (.long A), .second, .val (.long B), .second, .val (.int p1), .val (.int p2), .val (.int md), .val (.int sA), .val (.int gA), .val (.int sB), .val (.int gB), .val (.int qB), .unset, .unset, .unset, .unset] [(.int gA), (.ref as_r), (.ref b82), (.ref b82)]) := fun t k => pre t (by
    show Steps p.tables e below (T84.setTop (mkF m 63 #[.val (.long A), .second, .val (.long B), .second, .val (.int p1), .val (.int p2), .val (.int md), .val (.int sA), .val (.int gA), .val (.int sB), .val (.int gB), .val (.int qB), .unset, .unset, .unset, .unset] [(.ref as_r), (.ref b82), (.ref b82)])) t
    refine XS.iload X84.here hx rfl (hb hby at_63) rfl ?_
    show Steps p.tables e below (T84.setTop (mkF m 65 #[.val (.long A), .second, .val (.long B), .second, .val (.int p1), .val (.int p2), .val (.int md), .val (.int sA), .val (.int gA), .val (.int sB), .val (.int gB), .val (.int qB), .unset, .unset, .unset, .unset] [(.int gA), (.ref as_r), (.ref b82), (.ref b82)])) t
    exact k)
  obtain ⟨_, _, ⟨T85, L85, k85, n85⟩, -, X85, hS85, hg85, ⟨Lc85, hQ85, l85, y85, z85, hC85⟩, st85⟩ := callSS (s := s.setVm T84.vm) X84 hx (y := (⟨"com/example/originlint/originlint/OriginEqualsPinLaw", "str", "(I)Ljava/lang/String;"⟩ : MethodName)) hown (mvT (s := s.setVm T84.vm) hZ (hw _ (List.mem_of_getElem? (i := 3) rfl))) (mvT (s := s.setVm T84.vm) hZ (hw _ (List.mem_of_getElem? (i := 4) rfl))) (mvT (s := s.setVm T84.vm) hZ (hw _ (List.mem_of_getElem? (i := 5) rfl))) (mvT (s := s.setVm T84.vm) hZ (hw _ (List.mem_of_getElem? (i := 6) rfl))) (by decide) (backOfSH (s := s) (vm0 := T84.vm) (EL := own_EL) (W := 3) (rm_str l Z a0 hw [] gA cz T84.heap n0 (Nat.le_trans Z0 HX.1) (Scs.ext HX) hcz) hZ (hw _ (List.mem_of_getElem? (i := 6) rfl)) (hw _ (List.mem_of_getElem? (i := 5) rfl)) (by decide) (by decide) hEL HC.1) (g := (mkF m 65 #[.val (.long A), .second, .val (.long B), .second, .val (.int p1), .val (.int p2), .val (.int md), .val (.int sA), .val (.int gA), .val (.int sB), .val (.int gB), .val (.int qB), .unset, .unset, .unset, .unset] [(.int gA), (.ref as_r), (.ref b82), (.ref b82)])) rfl (by rw [hml]; rfl) (argsL := [(.int gA)]) (rest := [(.ref as_r), (.ref b82), (.ref b82)]) (lenOf pd__I_Ljava_lang_String_ rfl) rfl (by show 2 * 0 + _ ≤ _; exact Nat.le_of_eq rfl) (hb hby at_65) (fun _ _ => ⟨rfl, rfl, (by decide : 7 + 6 ≤ _), (by decide : 15 + 12 ≤ _)⟩)
  dsimp only [Pt.U, Pt.locs, Pt.cells, Pt.slots] at X85 hS85 hg85 l85 y85 z85 hC85 st85 hQ85
  subst l85 y85 z85
  have X85 : Stand p l e room_1 (s.setVm T85.vm) m #[(.long A), (.long B), (.int p1), (.int p2), (.int md)] below meth c T85 _ _ _ := X85
  replace hSin := foldS hSin hkin hS85 hg85
  replace hkin := Nat.le_refl T85.heap.size
  replace hZ : Z.Warmed39 (s.setVm T85.vm).vm := State.Warmed39.trans (t := s.setVm T84.vm) hZ hS85.1
  replace hown : (s.setVm T85.vm).vm.findClass "com/example/originlint/originlint/OriginEqualsPinLaw" = some m.cls := by rw [show (s.setVm T85.vm).vm = T85.vm from rfl, hS85.1.alike.findClass]; exact hown
  replace HC := HC.trans hC85
  obtain ⟨ah_r, ah_p, rfl, N85q, E85, S_ah⟩ := hQ85
  have N85 := Fr.app N84 N85q
  replace pre : Pth p e below S0 T85 (mkF m 68 #[.val (.long A), .second, .val (.long B), .second, .val (.int p1), .val (.int p2), .val (.int md), .val (.int sA), .val (.int gA), .val (.int sB), .val (.int gB), .val (.int qB), .unset, .unset, .unset, .unset] [(.ref ah_r), (.ref as_r), (.ref b82), (.ref b82)]) := fun t k => pre t (st85.trans k)
  replace HX := own_ext_trans HX E85
  replace A82 := A82.ext E85
  replace F_scheme := F_scheme.ext E85
  replace F_host := F_host.ext E85
  replace F_port := F_port.ext E85
  replace S_as := S_as.ext E85
  replace pre : Pth p e below S0 T85 (mkF m 70 #[.val (.long A), .second, .val (.long B), .second, .val (.int p1), .val (.int p2), .val (.int md), .val (.int sA), .val (.int gA), .val (.int sB), .val (.int gB), .val (.int qB), .unset, .unset, .unset, .unset] [(.int p1), (.ref ah_r), (.ref as_r), (.ref b82), (.ref b82)]) := fun t k => pre t (by
    show Steps p.tables e below (T85.setTop (mkF m 68 #[.val (.long A), .second, .val (.long B), .second, .val (.int p1), .val (.int p2), .val (.int md), .val (.int sA), .val (.int gA), .val (.int sB), .val (.int gB), .val (.int qB), .unset, .unset, .unset, .unset] [(.ref ah_r), (.ref as_r), (.ref b82), (.ref b82)])) t
    refine XS.iload X85.here hx rfl (hb hby at_68) rfl ?_
    show Steps p.tables e below (T85.setTop (mkF m 70 #[.val (.long A), .second, .val (.long B), .second, .val (.int p1), .val (.int p2), .val (.int md), .val (.int sA), .val (.int gA), .val (.int sB), .val (.int gB), .val (.int qB), .unset, .unset, .unset, .unset] [(.int p1), (.ref ah_r), (.ref as_r), (.ref b82), (.ref b82)])) t
    exact k)
  obtain ⟨_, _, ⟨T86, L86, k86, n86⟩, -, X86, ⟨Lc86, hQ86, l86, y86, z86⟩, st86⟩ := X85.specialBack hx (y := (⟨"com/example/originlint/originlint/Origin", "<init>", "(Ljava/lang/String;Ljava/lang/String;I)V"⟩ : MethodName)) rfl hown (mvT hZ (hw _ (List.mem_of_getElem? (i := 32) rfl))) (mvT hZ (hw _ (List.mem_of_getElem? (i := 33) rfl))) (mvT hZ (hw _ (List.mem_of_getElem? (i := 34) rfl))) (by decide) (backOf (W := 1) (rm_oi l Z a0 hw [] b82 as_r ah_r p1 T85.heap n0 ga_a A82 F_scheme F_host F_port) hZ (hw _ (List.mem_of_getElem? (i := 34) rfl)) (hw _ (List.mem_of_getElem? (i := 2) rfl)) (by decide) (by decide)) (g := (mkF m 70 #[.val (.long A), .second, .val (.long B), .second, .val (.int p1), .val (.int p2), .val (.int md), .val (.int sA), .val (.int gA), .val (.int sB), .val (.int gB), .val (.int qB), .unset, .unset, .unset, .unset] [(.int p1), (.ref ah_r), (.ref as_r), (.ref b82), (.ref b82)])) rfl (by rw [hml]; rfl) (Steps.refl _) (a := b82) (argsL := [(.ref as_r), (.ref ah_r), (.int p1)]) (rest := [(.ref b82)]) (lenOf pd__Ljava_lang_String_Ljava_lang_String_I_V rfl) rfl (by show 2 * 0 + _ ≤ _; exact Nat.le_of_eq rfl) (hb hby at_70) (fun _ _ => ⟨rfl, rfl, (by decide : 13 + 0 ≤ _), (by decide : 27 + 0 ≤ _)⟩)
  dsimp only [Pt.U, Pt.locs, Pt.cells, Pt.slots] at X86 l86 y86 z86 st86 hQ86
  subst l86 y86 z86
  obtain ⟨rfl, N86q, K86, O_a⟩ := hQ86
  have N86 := Fr.app N85 N86q
  replace pre : Pth p e below S0 T86 (mkF m 73 #[.val (.long A), .second, .val (.long B), .second, .val (.int p1), .val (.int p2), .val (.int md), .val (.int sA), .val (.int gA), .val (.int sB), .val (.int gB), .val (.int qB), .unset, .unset, .unset, .unset] [(.ref b82)]) := fun t k => pre t (st86.trans k)
  have G87 : CHr Z own_EL T85.vm _ T85.vm T86.heap := CHr.keep K86 (sfS (Safe.exa hZ.alike A82 (by decide) (by decide)) sf0) HC.1
  replace hkin := Nat.le_trans hkin G87.2.1
  replace HC := HC.trans G87
  replace HX := own_ext_keep HX K86 (fun z hz => by rw [List.mem_singleton.mp hz]; exact gz_a)
  replace S_as := OStr.keep S_as K86 (ninS (own_ne_es S_as.1 A82) nin0) (ninS (own_ne_ea (hw _ (List.mem_of_getElem? (i := 1) rfl)) S_as.2.2.2 A82) nin0)
  replace S_ah := OStr.keep S_ah K86 (ninS (own_ne_es S_ah.1 A82) nin0) (ninS (own_ne_ea (hw _ (List.mem_of_getElem? (i := 1) rfl)) S_ah.2.2.2 A82) nin0)
  replace pre : Pth p e below S0 T86 (mkF m 84 #[.val (.long A), .second, .val (.long B), .second, .val (.int p1), .val (.int p2), .val (.int md), .val (.int sA), .val (.int gA), .val (.int sB), .val (.int gB), .val (.int qB), .val (.ref b82), .val (.int (md &&& (3 : Int32))), .unset, .unset] [(.int (1 : Int32)), (.int (md &&& (3 : Int32)))]) := fun t k => pre t (by
    show Steps p.tables e below (T86.setTop (mkF m 73 #[.val (.long A), .second, .val (.long B), .second, .val (.int p1), .val (.int p2), .val (.int md), .val (.int sA), .val (.int gA), .val (.int sB), .val (.int gB), .val (.int qB), .unset, .unset, .unset, .unset] [(.ref b82)])) t
    refine XS.astore X86.here hx rfl (hb hby at_73) rfl rfl (l' := #[.val (.long A), .second, .val (.long B), .second, .val (.int p1), .val (.int p2), .val (.int md), .val (.int sA), .val (.int gA), .val (.int sB), .val (.int gB), .val (.int qB), .val (.ref b82), .unset, .unset, .unset]) rfl ?_
    show Steps p.tables e below (T86.setTop (mkF m 75 #[.val (.long A), .second, .val (.long B), .second, .val (.int p1), .val (.int p2), .val (.int md), .val (.int sA), .val (.int gA), .val (.int sB), .val (.int gB), .val (.int qB), .val (.ref b82), .unset, .unset, .unset] [])) t
    refine XS.iload X86.here hx rfl (hb hby at_75) rfl ?_
    show Steps p.tables e below (T86.setTop (mkF m 77 #[.val (.long A), .second, .val (.long B), .second, .val (.int p1), .val (.int p2), .val (.int md), .val (.int sA), .val (.int gA), .val (.int sB), .val (.int gB), .val (.int qB), .val (.ref b82), .unset, .unset, .unset] [(.int md)])) t
    refine XS.iconst X86.here hx rfl (hb hby at_77) ?_
    show Steps p.tables e below (T86.setTop (mkF m 78 #[.val (.long A), .second, .val (.long B), .second, .val (.int p1), .val (.int p2), .val (.int md), .val (.int sA), .val (.int gA), .val (.int sB), .val (.int gB), .val (.int qB), .val (.ref b82), .unset, .unset, .unset] [(.int (3 : Int32)), (.int md)])) t
    refine XS.iand X86.here hx rfl (hb hby at_78) rfl ?_
    show Steps p.tables e below (T86.setTop (mkF m 79 #[.val (.long A), .second, .val (.long B), .second, .val (.int p1), .val (.int p2), .val (.int md), .val (.int sA), .val (.int gA), .val (.int sB), .val (.int gB), .val (.int qB), .val (.ref b82), .unset, .unset, .unset] [(.int (md &&& (3 : Int32)))])) t
    refine XS.istore X86.here hx rfl (hb hby at_79) rfl (l' := #[.val (.long A), .second, .val (.long B), .second, .val (.int p1), .val (.int p2), .val (.int md), .val (.int sA), .val (.int gA), .val (.int sB), .val (.int gB), .val (.int qB), .val (.ref b82), .val (.int (md &&& (3 : Int32))), .unset, .unset]) rfl ?_
    show Steps p.tables e below (T86.setTop (mkF m 81 #[.val (.long A), .second, .val (.long B), .second, .val (.int p1), .val (.int p2), .val (.int md), .val (.int sA), .val (.int gA), .val (.int sB), .val (.int gB), .val (.int qB), .val (.ref b82), .val (.int (md &&& (3 : Int32))), .unset, .unset] [])) t
    refine XS.iload X86.here hx rfl (hb hby at_81) rfl ?_
    show Steps p.tables e below (T86.setTop (mkF m 83 #[.val (.long A), .second, .val (.long B), .second, .val (.int p1), .val (.int p2), .val (.int md), .val (.int sA), .val (.int gA), .val (.int sB), .val (.int gB), .val (.int qB), .val (.ref b82), .val (.int (md &&& (3 : Int32))), .unset, .unset] [(.int (md &&& (3 : Int32)))])) t
    refine XS.iconst X86.here hx rfl (hb hby at_83) ?_
    show Steps p.tables e below (T86.setTop (mkF m 84 #[.val (.long A), .second, .val (.long B), .second, .val (.int p1), .val (.int p2), .val (.int md), .val (.int sA), .val (.int gA), .val (.int sB), .val (.int gB), .val (.int qB), .val (.ref b82), .val (.int (md &&& (3 : Int32))), .unset, .unset] [(.int (1 : Int32)), (.int (md &&& (3 : Int32)))])) t
    exact k)
  have ltA0 : b82 < T86.heap.size := O_a.1.lt
  by_cases z1 : (md &&& (3 : Int32)) = (1 : Int32)
  · replace pre : Pth p e below S0 T86 (mkF m 91 #[.val (.long A), .second, .val (.long B), .second, .val (.int p1), .val (.int p2), .val (.int md), .val (.int sA), .val (.int gA), .val (.int sB), .val (.int gB), .val (.int qB), .val (.ref b82), .val (.int (md &&& (3 : Int32))), .unset, .unset] [(.int sA), (.ref b82)]) := fun t k => pre t (by
      show Steps p.tables e below (T86.setTop (mkF m 84 #[.val (.long A), .second, .val (.long B), .second, .val (.int p1), .val (.int p2), .val (.int md), .val (.int sA), .val (.int gA), .val (.int sB), .val (.int gB), .val (.int qB), .val (.ref b82), .val (.int (md &&& (3 : Int32))), .unset, .unset] [(.int (1 : Int32)), (.int (md &&& (3 : Int32)))])) t
      refine XS.icmpNo X86.here hx rfl (hb hby at_84) rfl (XT.ii_ne_f z1) ?_
      show Steps p.tables e below (T86.setTop (mkF m 87 #[.val (.long A), .second, .val (.long B), .second, .val (.int p1), .val (.int p2), .val (.int md), .val (.int sA), .val (.int gA), .val (.int sB), .val (.int gB), .val (.int qB), .val (.ref b82), .val (.int (md &&& (3 : Int32))), .unset, .unset] [])) t
      refine XS.aload X86.here hx rfl (hb hby at_87) rfl rfl ?_
      show Steps p.tables e below (T86.setTop (mkF m 89 #[.val (.long A), .second, .val (.long B), .second, .val (.int p1), .val (.int p2), .val (.int md), .val (.int sA), .val (.int gA), .val (.int sB), .val (.int gB), .val (.int qB), .val (.ref b82), .val (.int (md &&& (3 : Int32))), .unset, .unset] [(.ref b82)])) t
      refine XS.iload X86.here hx rfl (hb hby at_89) rfl ?_
      show Steps p.tables e below (T86.setTop (mkF m 91 #[.val (.long A), .second, .val (.long B), .second, .val (.int p1), .val (.int p2), .val (.int md), .val (.int sA), .val (.int gA), .val (.int sB), .val (.int gB), .val (.int qB), .val (.ref b82), .val (.int (md &&& (3 : Int32))), .unset, .unset] [(.int sA), (.ref b82)])) t
      exact k)
    obtain ⟨_, _, ⟨T88, L88, k88, n88⟩, -, X88, hS88, hg88, ⟨Lc88, hQ88, l88, y88, z88, hC88⟩, st88⟩ := callSS (s := s.setVm T85.vm) X86 hx (y := (⟨"com/example/originlint/originlint/OriginEqualsPinLaw", "str", "(I)Ljava/lang/String;"⟩ : MethodName)) hown (mvT (s := s.setVm T85.vm) hZ (hw _ (List.mem_of_getElem? (i := 3) rfl))) (mvT (s := s.setVm T85.vm) hZ (hw _ (List.mem_of_getElem? (i := 4) rfl))) (mvT (s := s.setVm T85.vm) hZ (hw _ (List.mem_of_getElem? (i := 5) rfl))) (mvT (s := s.setVm T85.vm) hZ (hw _ (List.mem_of_getElem? (i := 6) rfl))) (by decide) (backOfSH (s := s) (vm0 := T85.vm) (EL := own_EL) (W := 1) (rm_str l Z a0 hw [] sA cz T86.heap n0 (Nat.le_trans Z0 HX.1) (Scs.ext HX) hcz) hZ (hw _ (List.mem_of_getElem? (i := 6) rfl)) (hw _ (List.mem_of_getElem? (i := 5) rfl)) (by decide) (by decide) hEL HC.1) (g := (mkF m 91 #[.val (.long A), .second, .val (.long B), .second, .val (.int p1), .val (.int p2), .val (.int md), .val (.int sA), .val (.int gA), .val (.int sB), .val (.int gB), .val (.int qB), .val (.ref b82), .val (.int (md &&& (3 : Int32))), .unset, .unset] [(.int sA), (.ref b82)])) rfl (by rw [hml]; rfl) (argsL := [(.int sA)]) (rest := [(.ref b82)]) (lenOf pd__I_Ljava_lang_String_ rfl) rfl (by show 2 * 0 + _ ≤ _; exact Nat.le_of_eq rfl) (hb hby at_91) (fun _ _ => ⟨rfl, rfl, (by decide : 13 + 6 ≤ _), (by decide : 27 + 12 ≤ _)⟩)
    dsimp only [Pt.U, Pt.locs, Pt.cells, Pt.slots] at X88 hS88 hg88 l88 y88 z88 hC88 st88 hQ88
    subst l88 y88 z88
    have X88 : Stand p l e room_1 (s.setVm T88.vm) m #[(.long A), (.long B), (.int p1), (.int p2), (.int md)] below meth c T88 _ _ _ := X88
    replace hSin := foldS hSin hkin hS88 hg88
    replace hkin := Nat.le_refl T88.heap.size
    replace hZ : Z.Warmed39 (s.setVm T88.vm).vm := State.Warmed39.trans (t := s.setVm T85.vm) hZ hS88.1
    replace hown : (s.setVm T88.vm).vm.findClass "com/example/originlint/originlint/OriginEqualsPinLaw" = some m.cls := by rw [show (s.setVm T88.vm).vm = T88.vm from rfl, hS88.1.alike.findClass]; exact hown
    replace HC := HC.trans hC88
    obtain ⟨c_r, c_p, rfl, N88q, E88, S_c⟩ := hQ88
    have N88 := Fr.app N86 N88q
    replace pre : Pth p e below S0 T88 (mkF m 94 #[.val (.long A), .second, .val (.long B), .second, .val (.int p1), .val (.int p2), .val (.int md), .val (.int sA), .val (.int gA), .val (.int sB), .val (.int gB), .val (.int qB), .val (.ref b82), .val (.int (md &&& (3 : Int32))), .unset, .unset] [(.ref c_r), (.ref b82)]) := fun t k => pre t (st88.trans k)
    replace HX := own_ext_trans HX E88
    have O1 := O_a.ext E88
    obtain ⟨cq89, kq89, q89a, q89b, q89c⟩ := isOf hZ rfl O1.1
    obtain ⟨_, _, ⟨T89, L89, k89, n89⟩, -, X89, ⟨Lc89, hQ89, l89, y89, z89⟩, st89⟩ := X88.virtualBack hx (y := (⟨"com/example/originlint/originlint/Origin", "equals", "(Ljava/lang/Object;)Z"⟩ : MethodName)) (z := (⟨"com/example/originlint/originlint/Origin", "equals", "(Ljava/lang/Object;)Z"⟩ : MethodName)) hown (mvT hZ (hw _ (List.mem_of_getElem? (i := 47) rfl))) (mvT hZ (hw _ (List.mem_of_getElem? (i := 48) rfl))) (notFace_of_selects (args := #[]) (mvT hZ (hw _ (List.mem_of_getElem? (i := 50) rfl)))) (mvT hZ (hw _ (List.mem_of_getElem? (i := 50) rfl))) (mvT hZ (hw _ (List.mem_of_getElem? (i := 49) rfl))) (by decide) (backOf (W := 0) (rm_oes l Z a0 hw [] b82 c_r _ n0 S_c.1) hZ (hw _ (List.mem_of_getElem? (i := 51) rfl)) (hw _ (List.mem_of_getElem? (i := 2) rfl)) (by decide) (by decide)) q89a q89c (g := (mkF m 94 #[.val (.long A), .second, .val (.long B), .second, .val (.int p1), .val (.int p2), .val (.int md), .val (.int sA), .val (.int gA), .val (.int sB), .val (.int gB), .val (.int qB), .val (.ref b82), .val (.int (md &&& (3 : Int32))), .unset, .unset] [(.ref c_r), (.ref b82)])) rfl (by rw [hml]; rfl) (Steps.refl _) (argsL := [(.ref c_r)]) (rest := []) (lenOf pd__Ljava_lang_Object__Z rfl) rfl (by show 2 * 0 + _ ≤ _; exact Nat.le_of_eq rfl) (hb hby at_94) (fun _ _ => ⟨rfl, rfl, (by decide : 19 + 0 ≤ _), (by decide : 39 + 0 ≤ _)⟩)
    dsimp only [Pt.U, Pt.locs, Pt.cells, Pt.slots] at X89 l89 y89 z89 st89 hQ89
    subst l89 y89 z89
    obtain ⟨rfl, N89q, e89⟩ := hQ89
    have N89 := Fr.app N88 N89q
    replace pre : Pth p e below S0 T89 (mkF m 97 #[.val (.long A), .second, .val (.long B), .second, .val (.int p1), .val (.int p2), .val (.int md), .val (.int sA), .val (.int gA), .val (.int sB), .val (.int gB), .val (.int qB), .val (.ref b82), .val (.int (md &&& (3 : Int32))), .unset, .unset] [(.int (0 : Int32))]) := fun t k => pre t (st89.trans k)
    replace pre : Pth p e below S0 T89 (mkF m 105 #[.val (.long A), .second, .val (.long B), .second, .val (.int p1), .val (.int p2), .val (.int md), .val (.int sA), .val (.int gA), .val (.int sB), .val (.int gB), .val (.int qB), .val (.ref b82), .val (.int (md &&& (3 : Int32))), .unset, .unset] [(.int (1 : Int32))]) := fun t k => pre t (by
      show Steps p.tables e below (T89.setTop (mkF m 97 #[.val (.long A), .second, .val (.long B), .second, .val (.int p1), .val (.int p2), .val (.int md), .val (.int sA), .val (.int gA), .val (.int sB), .val (.int gB), .val (.int qB), .val (.ref b82), .val (.int (md &&& (3 : Int32))), .unset, .unset] [(.int (0 : Int32))])) t
      refine XS.ifNo X89.here hx rfl (hb hby at_97) rfl (XT.i0_ne_f rfl) ?_
      show Steps p.tables e below (T89.setTop (mkF m 100 #[.val (.long A), .second, .val (.long B), .second, .val (.int p1), .val (.int p2), .val (.int md), .val (.int sA), .val (.int gA), .val (.int sB), .val (.int gB), .val (.int qB), .val (.ref b82), .val (.int (md &&& (3 : Int32))), .unset, .unset] [])) t
      refine XS.iconst X89.here hx rfl (hb hby at_100) ?_
      show Steps p.tables e below (T89.setTop (mkF m 101 #[.val (.long A), .second, .val (.long B), .second, .val (.int p1), .val (.int p2), .val (.int md), .val (.int sA), .val (.int gA), .val (.int sB), .val (.int gB), .val (.int qB), .val (.ref b82), .val (.int (md &&& (3 : Int32))), .unset, .unset] [(.int (1 : Int32))])) t
      refine XS.goto X89.here hx rfl (pc0 := 101) (pc' := 105) rfl (hb hby at_101) (by decide) (by decide) ?_
      show Steps p.tables e below (T89.setTop (mkF m 105 #[.val (.long A), .second, .val (.long B), .second, .val (.int p1), .val (.int p2), .val (.int md), .val (.int sA), .val (.int gA), .val (.int sB), .val (.int gB), .val (.int qB), .val (.ref b82), .val (.int (md &&& (3 : Int32))), .unset, .unset] [(.int (1 : Int32))])) t
      exact k)
    have HF : CHr Z own_EL s.vm s.heap T89.vm T89.heap := by
      rw [hh, e89]
      exact HC.trans (CHv.at (s := s) (vm0 := T88.vm) X89 hZ hEL HC.1)
    obtain ⟨fs, hr, hrun, hended, r1, r2, r3, r4⟩ := X89.leaveW (s := s) (vm₁ := T88.vm) hSin (by rw [e89]; exact hkin) (v := some (.int (1 : Int32))) (fun h => by rw [Bd.returns] at h; cases h)
    subst hS0
    refine ⟨_, _, pre _ ?_, hrun, hended, _, _, rfl, ?_, HF, r1, r2, r3, r4.mono (by decide) (by decide)⟩
    · exact retN X89 hx (t := .boolean) Bd.returns (by simp) (hb hby at_105) hr
    · show Q_law Z A B p1 p2 md cz h0 n0 _ T89.heap _
      rw [e89]
      exact ⟨rfl, N89⟩
  · replace pre : Pth p e below S0 T86 (mkF m 109 #[.val (.long A), .second, .val (.long B), .second, .val (.int p1), .val (.int p2), .val (.int md), .val (.int sA), .val (.int gA), .val (.int sB), .val (.int gB), .val (.int qB), .val (.ref b82), .val (.int (md &&& (3 : Int32))), .unset, .unset] [(.int (2 : Int32)), (.int (md &&& (3 : Int32)))]) := fun t k => pre t (by
      show Steps p.tables e below (T86.setTop (mkF m 84 #[.val (.long A), .second, .val (.long B), .second, .val (.int p1), .val (.int p2), .val (.int md), .val (.int sA), .val (.int gA), .val (.int sB), .val (.int gB), .val (.int qB), .val (.ref b82), .val (.int (md &&& (3 : Int32))), .unset, .unset] [(.int (1 : Int32)), (.int (md &&& (3 : Int32)))])) t
      refine XS.icmpYes X86.here hx rfl (pc0 := 84) (pc' := 106) rfl (hb hby at_84) rfl (XT.ii_ne_t z1) (by decide) (by decide) ?_
      show Steps p.tables e below (T86.setTop (mkF m 106 #[.val (.long A), .second, .val (.long B), .second, .val (.int p1), .val (.int p2), .val (.int md), .val (.int sA), .val (.int gA), .val (.int sB), .val (.int gB), .val (.int qB), .val (.ref b82), .val (.int (md &&& (3 : Int32))), .unset, .unset] [])) t
      refine XS.iload X86.here hx rfl (hb hby at_106) rfl ?_
      show Steps p.tables e below (T86.setTop (mkF m 108 #[.val (.long A), .second, .val (.long B), .second, .val (.int p1), .val (.int p2), .val (.int md), .val (.int sA), .val (.int gA), .val (.int sB), .val (.int gB), .val (.int qB), .val (.ref b82), .val (.int (md &&& (3 : Int32))), .unset, .unset] [(.int (md &&& (3 : Int32)))])) t
      refine XS.iconst X86.here hx rfl (hb hby at_108) ?_
      show Steps p.tables e below (T86.setTop (mkF m 109 #[.val (.long A), .second, .val (.long B), .second, .val (.int p1), .val (.int p2), .val (.int md), .val (.int sA), .val (.int gA), .val (.int sB), .val (.int gB), .val (.int qB), .val (.ref b82), .val (.int (md &&& (3 : Int32))), .unset, .unset] [(.int (2 : Int32)), (.int (md &&& (3 : Int32)))])) t
      exact k)
    by_cases z2 : (md &&& (3 : Int32)) = (2 : Int32)
    · replace pre : Pth p e below S0 T86 (mkF m 115 #[.val (.long A), .second, .val (.long B), .second, .val (.int p1), .val (.int p2), .val (.int md), .val (.int sA), .val (.int gA), .val (.int sB), .val (.int gB), .val (.int qB), .val (.ref b82), .val (.int (md &&& (3 : Int32))), .unset, .unset] [.null, (.ref b82)]) := fun t k => pre t (by
        show Steps p.tables e below (T86.setTop (mkF m 109 #[.val (.long A), .second, .val (.long B), .second, .val (.int p1), .val (.int p2), .val (.int md), .val (.int sA), .val (.int gA), .val (.int sB), .val (.int gB), .val (.int qB), .val (.ref b82), .val (.int (md &&& (3 : Int32))), .unset, .unset] [(.int (2 : Int32)), (.int (md &&& (3 : Int32)))])) t
        refine XS.icmpNo X86.here hx rfl (hb hby at_109) rfl (XT.ii_ne_f z2) ?_
        show Steps p.tables e below (T86.setTop (mkF m 112 #[.val (.long A), .second, .val (.long B), .second, .val (.int p1), .val (.int p2), .val (.int md), .val (.int sA), .val (.int gA), .val (.int sB), .val (.int gB), .val (.int qB), .val (.ref b82), .val (.int (md &&& (3 : Int32))), .unset, .unset] [])) t
        refine XS.aload X86.here hx rfl (hb hby at_112) rfl rfl ?_
        show Steps p.tables e below (T86.setTop (mkF m 114 #[.val (.long A), .second, .val (.long B), .second, .val (.int p1), .val (.int p2), .val (.int md), .val (.int sA), .val (.int gA), .val (.int sB), .val (.int gB), .val (.int qB), .val (.ref b82), .val (.int (md &&& (3 : Int32))), .unset, .unset] [(.ref b82)])) t
        refine XS.aconstNull X86.here hx rfl (hb hby at_114) ?_
        show Steps p.tables e below (T86.setTop (mkF m 115 #[.val (.long A), .second, .val (.long B), .second, .val (.int p1), .val (.int p2), .val (.int md), .val (.int sA), .val (.int gA), .val (.int sB), .val (.int gB), .val (.int qB), .val (.ref b82), .val (.int (md &&& (3 : Int32))), .unset, .unset] [.null, (.ref b82)])) t
        exact k)
      obtain ⟨cq90, kq90, q90a, q90b, q90c⟩ := isOf hZ rfl O_a.1
      obtain ⟨_, _, ⟨T90, L90, k90, n90⟩, -, X90, ⟨Lc90, hQ90, l90, y90, z90⟩, st90⟩ := X86.virtualBack hx (y := (⟨"com/example/originlint/originlint/Origin", "equals", "(Ljava/lang/Object;)Z"⟩ : MethodName)) (z := (⟨"com/example/originlint/originlint/Origin", "equals", "(Ljava/lang/Object;)Z"⟩ : MethodName)) hown (mvT hZ (hw _ (List.mem_of_getElem? (i := 47) rfl))) (mvT hZ (hw _ (List.mem_of_getElem? (i := 48) rfl))) (notFace_of_selects (args := #[]) (mvT hZ (hw _ (List.mem_of_getElem? (i := 50) rfl)))) (mvT hZ (hw _ (List.mem_of_getElem? (i := 50) rfl))) (mvT hZ (hw _ (List.mem_of_getElem? (i := 49) rfl))) (by decide) (backOf (W := 0) (rm_oen l Z a0 hw [] b82 _ n0) hZ (hw _ (List.mem_of_getElem? (i := 51) rfl)) (hw _ (List.mem_of_getElem? (i := 2) rfl)) (by decide) (by decide)) q90a q90c (g := (mkF m 115 #[.val (.long A), .second, .val (.long B), .second, .val (.int p1), .val (.int p2), .val (.int md), .val (.int sA), .val (.int gA), .val (.int sB), .val (.int gB), .val (.int qB), .val (.ref b82), .val (.int (md &&& (3 : Int32))), .unset, .unset] [.null, (.ref b82)])) rfl (by rw [hml]; rfl) (Steps.refl _) (argsL := [.null]) (rest := []) (lenOf pd__Ljava_lang_Object__Z rfl) rfl (by show 2 * 0 + _ ≤ _; exact Nat.le_of_eq rfl) (hb hby at_115) (fun _ _ => ⟨rfl, rfl, (by decide : 13 + 0 ≤ _), (by decide : 27 + 0 ≤ _)⟩)
      dsimp only [Pt.U, Pt.locs, Pt.cells, Pt.slots] at X90 l90 y90 z90 st90 hQ90
      subst l90 y90 z90
      obtain ⟨rfl, N90q, e90⟩ := hQ90
      have N90 := Fr.app N86 N90q
      replace pre : Pth p e below S0 T90 (mkF m 118 #[.val (.long A), .second, .val (.long B), .second, .val (.int p1), .val (.int p2), .val (.int md), .val (.int sA), .val (.int gA), .val (.int sB), .val (.int gB), .val (.int qB), .val (.ref b82), .val (.int (md &&& (3 : Int32))), .unset, .unset] [(.int (0 : Int32))]) := fun t k => pre t (st90.trans k)
      replace pre : Pth p e below S0 T90 (mkF m 126 #[.val (.long A), .second, .val (.long B), .second, .val (.int p1), .val (.int p2), .val (.int md), .val (.int sA), .val (.int gA), .val (.int sB), .val (.int gB), .val (.int qB), .val (.ref b82), .val (.int (md &&& (3 : Int32))), .unset, .unset] [(.int (1 : Int32))]) := fun t k => pre t (by
        show Steps p.tables e below (T90.setTop (mkF m 118 #[.val (.long A), .second, .val (.long B), .second, .val (.int p1), .val (.int p2), .val (.int md), .val (.int sA), .val (.int gA), .val (.int sB), .val (.int gB), .val (.int qB), .val (.ref b82), .val (.int (md &&& (3 : Int32))), .unset, .unset] [(.int (0 : Int32))])) t
        refine XS.ifNo X90.here hx rfl (hb hby at_118) rfl (XT.i0_ne_f rfl) ?_
        show Steps p.tables e below (T90.setTop (mkF m 121 #[.val (.long A), .second, .val (.long B), .second, .val (.int p1), .val (.int p2), .val (.int md), .val (.int sA), .val (.int gA), .val (.int sB), .val (.int gB), .val (.int qB), .val (.ref b82), .val (.int (md &&& (3 : Int32))), .unset, .unset] [])) t
        refine XS.iconst X90.here hx rfl (hb hby at_121) ?_
        show Steps p.tables e below (T90.setTop (mkF m 122 #[.val (.long A), .second, .val (.long B), .second, .val (.int p1), .val (.int p2), .val (.int md), .val (.int sA), .val (.int gA), .val (.int sB), .val (.int gB), .val (.int qB), .val (.ref b82), .val (.int (md &&& (3 : Int32))), .unset, .unset] [(.int (1 : Int32))])) t
        refine XS.goto X90.here hx rfl (pc0 := 122) (pc' := 126) rfl (hb hby at_122) (by decide) (by decide) ?_
        show Steps p.tables e below (T90.setTop (mkF m 126 #[.val (.long A), .second, .val (.long B), .second, .val (.int p1), .val (.int p2), .val (.int md), .val (.int sA), .val (.int gA), .val (.int sB), .val (.int gB), .val (.int qB), .val (.ref b82), .val (.int (md &&& (3 : Int32))), .unset, .unset] [(.int (1 : Int32))])) t
        exact k)
      have HF : CHr Z own_EL s.vm s.heap T90.vm T90.heap := by
        rw [hh, e90]
        exact HC.trans (CHv.at (s := s) (vm0 := T85.vm) X90 hZ hEL HC.1)
      obtain ⟨fs, hr, hrun, hended, r1, r2, r3, r4⟩ := X90.leaveW (s := s) (vm₁ := T85.vm) hSin (by rw [e90]; exact hkin) (v := some (.int (1 : Int32))) (fun h => by rw [Bd.returns] at h; cases h)
      subst hS0
      refine ⟨_, _, pre _ ?_, hrun, hended, _, _, rfl, ?_, HF, r1, r2, r3, r4.mono (by decide) (by decide)⟩
      · exact retN X90 hx (t := .boolean) Bd.returns (by simp) (hb hby at_126) hr
      · show Q_law Z A B p1 p2 md cz h0 n0 _ T90.heap _
        rw [e90]
        exact ⟨rfl, N90⟩
    · replace pre : Pth p e below S0 T86 (mkF m 127 #[.val (.long A), .second, .val (.long B), .second, .val (.int p1), .val (.int p2), .val (.int md), .val (.int sA), .val (.int gA), .val (.int sB), .val (.int gB), .val (.int qB), .val (.ref b82), .val (.int (md &&& (3 : Int32))), .unset, .unset] []) := fun t k => pre t (by
        show Steps p.tables e below (T86.setTop (mkF m 109 #[.val (.long A), .second, .val (.long B), .second, .val (.int p1), .val (.int p2), .val (.int md), .val (.int sA), .val (.int gA), .val (.int sB), .val (.int gB), .val (.int qB), .val (.ref b82), .val (.int (md &&& (3 : Int32))), .unset, .unset] [(.int (2 : Int32)), (.int (md &&& (3 : Int32)))])) t
        refine XS.icmpYes X86.here hx rfl (pc0 := 109) (pc' := 127) rfl (hb hby at_109) rfl (XT.ii_ne_t z2) (by decide) (by decide) ?_
        show Steps p.tables e below (T86.setTop (mkF m 127 #[.val (.long A), .second, .val (.long B), .second, .val (.int p1), .val (.int p2), .val (.int md), .val (.int sA), .val (.int gA), .val (.int sB), .val (.int gB), .val (.int qB), .val (.ref b82), .val (.int (md &&& (3 : Int32))), .unset, .unset] [])) t
        exact k)
      obtain ⟨T91, h91, X91, e91, E91, A91, D91, -, st91⟩ := newO X86 hx hZ hown (hw _ (List.mem_of_getElem? (i := 0) rfl)) (hw _ (List.mem_of_getElem? (i := 1) rfl)) (hw _ (List.mem_of_getElem? (i := 2) rfl)) rfl (g := (mkF m 127 #[.val (.long A), .second, .val (.long B), .second, .val (.int p1), .val (.int p2), .val (.int md), .val (.int sA), .val (.int gA), .val (.int sB), .val (.int gB), .val (.int qB), .val (.ref b82), .val (.int (md &&& (3 : Int32))), .unset, .unset] [])) rfl (hb hby at_127) (by decide) (by decide)
      obtain ⟨b91, g91⟩ : ∃ z, z = T86.heap.size := ⟨_, rfl⟩
      rw [← g91] at A91 D91 st91
      replace pre : Pth p e below S0 T91 (mkF m 130 #[.val (.long A), .second, .val (.long B), .second, .val (.int p1), .val (.int p2), .val (.int md), .val (.int sA), .val (.int gA), .val (.int sB), .val (.int gB), .val (.int qB), .val (.ref b82), .val (.int (md &&& (3 : Int32))), .unset, .unset] [(.ref b91)]) := fun t k => pre t (st91 _ k)
      have gz_b : h0.size ≤ b91 := by rw [g91]; exact HX.1
      have ga_b : n0 ≤ b91 := Nat.le_trans Z0 gz_b
      replace HX := own_ext_trans HX E91
      replace O_a := O_a.ext E91
      replace S_as := S_as.ext E91
      replace S_ah := S_ah.ext E91
      have G92 : CHr Z own_EL T85.vm _ T85.vm h91 := CHr.ext E91 HC.1
      replace hkin := Nat.le_trans hkin G92.2.1
      replace HC := HC.trans G92
      have F_scheme : Fld Z h91 b91 "com/example/originlint/originlint/Origin" "scheme" "Ljava/lang/String;" .null := D91 (Or.inr (hw _ (List.mem_of_getElem? (i := 42) rfl))) (ty := (.object "java/lang/String")) (by decide)
      have F_host : Fld Z h91 b91 "com/example/originlint/originlint/Origin" "host" "Ljava/lang/String;" .null := D91 (Or.inr (hw _ (List.mem_of_getElem? (i := 44) rfl))) (ty := (.object "java/lang/String")) (by decide)
      have F_port : Fld Z h91 b91 "com/example/originlint/originlint/Origin" "port" "I" (.int 0) := D91 (Or.inr (hw _ (List.mem_of_getElem? (i := 46) rfl))) (ty := .int) (by decide)
      replace pre : Pth p e below S0 T91 (mkF m 133 #[.val (.long A), .second, .val (.long B), .second, .val (.int p1), .val (.int p2), .val (.int md), .val (.int sA), .val (.int gA), .val (.int sB), .val (.int gB), .val (.int qB), .val (.ref b82), .val (.int (md &&& (3 : Int32))), .unset, .unset] [(.int sB), (.ref b91), (.ref b91)]) := fun t k => pre t (by
        show Steps p.tables e below (T91.setTop (mkF m 130 #[.val (.long A), .second, .val (.long B), .second, .val (.int p1), .val (.int p2), .val (.int md), .val (.int sA), .val (.int gA), .val (.int sB), .val (.int gB), .val (.int qB), .val (.ref b82), .val (.int (md &&& (3 : Int32))), .unset, .unset] [(.ref b91)])) t
        refine XS.dup X91.here hx rfl (hb hby at_130) rfl rfl ?_
        show Steps p.tables e below (T91.setTop (mkF m 131 #[.val (.long A), .second, .val (.long B), .second, .val (.int p1), .val (.int p2), .val (.int md), .val (.int sA), .val (.int gA), .val (.int sB), .val (.int gB), .val (.int qB), .val (.ref b82), .val (.int (md &&& (3 : Int32))), .unset, .unset] [(.ref b91), (.ref b91)])) t
        refine XS.iload X91.here hx rfl (hb hby at_131) rfl ?_
        show Steps p.tables e below (T91.setTop (mkF m 133 #[.val (.long A), .second, .val (.long B), .second, .val (.int p1), .val (.int p2), .val (.int md), .val (.int sA), .val (.int gA), .val (.int sB), .val (.int gB), .val (.int qB), .val (.ref b82), .val (.int (md &&& (3 : Int32))), .unset, .unset] [(.int sB), (.ref b91), (.ref b91)])) t
        exact k)
      obtain ⟨_, _, ⟨T93, L93, k93, n93⟩, -, X93, hS93, hg93, ⟨Lc93, hQ93, l93, y93, z93, hC93⟩, st93⟩ := callSS (s := s.setVm T85.vm) X91 hx (y := (⟨"com/example/originlint/originlint/OriginEqualsPinLaw", "str", "(I)Ljava/lang/String;"⟩ : MethodName)) hown (mvT (s := s.setVm T85.vm) hZ (hw _ (List.mem_of_getElem? (i := 3) rfl))) (mvT (s := s.setVm T85.vm) hZ (hw _ (List.mem_of_getElem? (i := 4) rfl))) (mvT (s := s.setVm T85.vm) hZ (hw _ (List.mem_of_getElem? (i := 5) rfl))) (mvT (s := s.setVm T85.vm) hZ (hw _ (List.mem_of_getElem? (i := 6) rfl))) (by decide) (backOfSH (s := s) (vm0 := T85.vm) (EL := own_EL) (W := 2) (rm_str l Z a0 hw [] sB cz h91 n0 (Nat.le_trans Z0 HX.1) (Scs.ext HX) hcz) hZ (hw _ (List.mem_of_getElem? (i := 6) rfl)) (hw _ (List.mem_of_getElem? (i := 5) rfl)) (by decide) (by decide) hEL HC.1) (g := (mkF m 133 #[.val (.long A), .second, .val (.long B), .second, .val (.int p1), .val (.int p2), .val (.int md), .val (.int sA), .val (.int gA), .val (.int sB), .val (.int gB), .val (.int qB), .val (.ref b82), .val (.int (md &&& (3 : Int32))), .unset, .unset] [(.int sB), (.ref b91), (.ref b91)])) rfl (by rw [hml]; rfl) (argsL := [(.int sB)]) (rest := [(.ref b91), (.ref b91)]) (lenOf pd__I_Ljava_lang_String_ rfl) rfl (by show 2 * 0 + _ ≤ _; exact Nat.le_of_eq rfl) (hb hby at_133) (fun _ _ => ⟨rfl, e91, (by decide : 14 + 6 ≤ _), (by decide : 30 + 12 ≤ _)⟩)
      dsimp only [Pt.U, Pt.locs, Pt.cells, Pt.slots] at X93 hS93 hg93 l93 y93 z93 hC93 st93 hQ93
      subst l93 y93 z93
      have X93 : Stand p l e room_1 (s.setVm T93.vm) m #[(.long A), (.long B), (.int p1), (.int p2), (.int md)] below meth c T93 _ _ _ := X93
      replace hSin := foldS hSin (by rw [e91]; exact hkin) hS93 hg93
      replace hkin := Nat.le_refl T93.heap.size
      replace hZ : Z.Warmed39 (s.setVm T93.vm).vm := State.Warmed39.trans (t := s.setVm T85.vm) hZ hS93.1
      replace hown : (s.setVm T93.vm).vm.findClass "com/example/originlint/originlint/OriginEqualsPinLaw" = some m.cls := by rw [show (s.setVm T93.vm).vm = T93.vm from rfl, hS93.1.alike.findClass]; exact hown
      replace HC := HC.trans hC93
      obtain ⟨bs_r, bs_p, rfl, N93q, E93, S_bs⟩ := hQ93
      have N93 := Fr.app N86 N93q
      replace pre : Pth p e below S0 T93 (mkF m 136 #[.val (.long A), .second, .val (.long B), .second, .val (.int p1), .val (.int p2), .val (.int md), .val (.int sA), .val (.int gA), .val (.int sB), .val (.int gB), .val (.int qB), .val (.ref b82), .val (.int (md &&& (3 : Int32))), .unset, .unset] [(.ref bs_r), (.ref b91), (.ref b91)]) := fun t k => pre t (st93.trans k)
      replace HX := own_ext_trans HX E93
      replace A91 := A91.ext E93
      replace F_scheme := F_scheme.ext E93
      replace F_host := F_host.ext E93
      replace F_port := F_port.ext E93
      replace O_a := O_a.ext E93
      replace S_as := S_as.ext E93
      replace S_ah := S_ah.ext E93
      replace pre : Pth p e below S0 T93 (mkF m 138 #[.val (.long A), .second, .val (.long B), .second, .val (.int p1), .val (.int p2), .val (.int md), .val (.int sA), .val (.int gA), .val (.int sB), .val (.int gB), .val (.int qB), .val (.ref b82), .val (.int (md &&& (3 : Int32))), .unset, .unset] [(.int gB), (.ref bs_r), (.ref b91), (.ref b91)]) := fun t k => pre t (by
        show Steps p.tables e below (T93.setTop (mkF m 136 #[.val (.long A), .second, .val (.long B), .second, .val (.int p1), .val (.int p2), .val (.int md), .val (.int sA), .val (.int gA), .val (.int sB), .val (.int gB), .val (.int qB), .val (.ref b82), .val (.int (md &&& (3 : Int32))), .unset, .unset] [(.ref bs_r), (.ref b91), (.ref b91)])) t
        refine XS.iload X93.here hx rfl (hb hby at_136) rfl ?_
        show Steps p.tables e below (T93.setTop (mkF m 138 #[.val (.long A), .second, .val (.long B), .second, .val (.int p1), .val (.int p2), .val (.int md), .val (.int sA), .val (.int gA), .val (.int sB), .val (.int gB), .val (.int qB), .val (.ref b82), .val (.int (md &&& (3 : Int32))), .unset, .unset] [(.int gB), (.ref bs_r), (.ref b91), (.ref b91)])) t
        exact k)
      obtain ⟨_, _, ⟨T94, L94, k94, n94⟩, -, X94, hS94, hg94, ⟨Lc94, hQ94, l94, y94, z94, hC94⟩, st94⟩ := callSS (s := s.setVm T93.vm) X93 hx (y := (⟨"com/example/originlint/originlint/OriginEqualsPinLaw", "str", "(I)Ljava/lang/String;"⟩ : MethodName)) hown (mvT (s := s.setVm T93.vm) hZ (hw _ (List.mem_of_getElem? (i := 3) rfl))) (mvT (s := s.setVm T93.vm) hZ (hw _ (List.mem_of_getElem? (i := 4) rfl))) (mvT (s := s.setVm T93.vm) hZ (hw _ (List.mem_of_getElem? (i := 5) rfl))) (mvT (s := s.setVm T93.vm) hZ (hw _ (List.mem_of_getElem? (i := 6) rfl))) (by decide) (backOfSH (s := s) (vm0 := T93.vm) (EL := own_EL) (W := 3) (rm_str l Z a0 hw [] gB cz T93.heap n0 (Nat.le_trans Z0 HX.1) (Scs.ext HX) hcz) hZ (hw _ (List.mem_of_getElem? (i := 6) rfl)) (hw _ (List.mem_of_getElem? (i := 5) rfl)) (by decide) (by decide) hEL HC.1) (g := (mkF m 138 #[.val (.long A), .second, .val (.long B), .second, .val (.int p1), .val (.int p2), .val (.int md), .val (.int sA), .val (.int gA), .val (.int sB), .val (.int gB), .val (.int qB), .val (.ref b82), .val (.int (md &&& (3 : Int32))), .unset, .unset] [(.int gB), (.ref bs_r), (.ref b91), (.ref b91)])) rfl (by rw [hml]; rfl) (argsL := [(.int gB)]) (rest := [(.ref bs_r), (.ref b91), (.ref b91)]) (lenOf pd__I_Ljava_lang_String_ rfl) rfl (by show 2 * 0 + _ ≤ _; exact Nat.le_of_eq rfl) (hb hby at_138) (fun _ _ => ⟨rfl, rfl, (by decide : 20 + 6 ≤ _), (by decide : 42 + 12 ≤ _)⟩)
      dsimp only [Pt.U, Pt.locs, Pt.cells, Pt.slots] at X94 hS94 hg94 l94 y94 z94 hC94 st94 hQ94
      subst l94 y94 z94
      have X94 : Stand p l e room_1 (s.setVm T94.vm) m #[(.long A), (.long B), (.int p1), (.int p2), (.int md)] below meth c T94 _ _ _ := X94
      replace hSin := foldS hSin hkin hS94 hg94
      replace hkin := Nat.le_refl T94.heap.size
      replace hZ : Z.Warmed39 (s.setVm T94.vm).vm := State.Warmed39.trans (t := s.setVm T93.vm) hZ hS94.1
      replace hown : (s.setVm T94.vm).vm.findClass "com/example/originlint/originlint/OriginEqualsPinLaw" = some m.cls := by rw [show (s.setVm T94.vm).vm = T94.vm from rfl, hS94.1.alike.findClass]; exact hown
      replace HC := HC.trans hC94
      obtain ⟨bh_r, bh_p, rfl, N94q, E94, S_bh⟩ := hQ94
      have N94 := Fr.app N93 N94q
      replace pre : Pth p e below S0 T94 (mkF m 141 #[.val (.long A), .second, .val (.long B), .second, .val (.int p1), .val (.int p2), .val (.int md), .val (.int sA), .val (.int gA), .val (.int sB), .val (.int gB), .val (.int qB), .val (.ref b82), .val (.int (md &&& (3 : Int32))), .unset, .unset] [(.ref bh_r), (.ref bs_r), (.ref b91), (.ref b91)]) := fun t k => pre t (st94.trans k)
      replace HX := own_ext_trans HX E94
      replace A91 := A91.ext E94
      replace F_scheme := F_scheme.ext E94
      replace F_host := F_host.ext E94
      replace F_port := F_port.ext E94
      replace O_a := O_a.ext E94
      replace S_as := S_as.ext E94
      replace S_ah := S_ah.ext E94
      replace S_bs := S_bs.ext E94
      replace pre : Pth p e below S0 T94 (mkF m 143 #[.val (.long A), .second, .val (.long B), .second, .val (.int p1), .val (.int p2), .val (.int md), .val (.int sA), .val (.int gA), .val (.int sB), .val (.int gB), .val (.int qB), .val (.ref b82), .val (.int (md &&& (3 : Int32))), .unset, .unset] [(.int qB), (.ref bh_r), (.ref bs_r), (.ref b91), (.ref b91)]) := fun t k => pre t (by
        show Steps p.tables e below (T94.setTop (mkF m 141 #[.val (.long A), .second, .val (.long B), .second, .val (.int p1), .val (.int p2), .val (.int md), .val (.int sA), .val (.int gA), .val (.int sB), .val (.int gB), .val (.int qB), .val (.ref b82), .val (.int (md &&& (3 : Int32))), .unset, .unset] [(.ref bh_r), (.ref bs_r), (.ref b91), (.ref b91)])) t
        refine XS.iload X94.here hx rfl (hb hby at_141) rfl ?_
        show Steps p.tables e below (T94.setTop (mkF m 143 #[.val (.long A), .second, .val (.long B), .second, .val (.int p1), .val (.int p2), .val (.int md), .val (.int sA), .val (.int gA), .val (.int sB), .val (.int gB), .val (.int qB), .val (.ref b82), .val (.int (md &&& (3 : Int32))), .unset, .unset] [(.int qB), (.ref bh_r), (.ref bs_r), (.ref b91), (.ref b91)])) t
        exact k)
      obtain ⟨_, _, ⟨T95, L95, k95, n95⟩, -, X95, ⟨Lc95, hQ95, l95, y95, z95⟩, st95⟩ := X94.specialBack hx (y := (⟨"com/example/originlint/originlint/Origin", "<init>", "(Ljava/lang/String;Ljava/lang/String;I)V"⟩ : MethodName)) rfl hown (mvT hZ (hw _ (List.mem_of_getElem? (i := 32) rfl))) (mvT hZ (hw _ (List.mem_of_getElem? (i := 33) rfl))) (mvT hZ (hw _ (List.mem_of_getElem? (i := 34) rfl))) (by decide) (backOf (W := 1) (rm_oi l Z a0 hw [] b91 bs_r bh_r qB T94.heap n0 ga_b A91 F_scheme F_host F_port) hZ (hw _ (List.mem_of_getElem? (i := 34) rfl)) (hw _ (List.mem_of_getElem? (i := 2) rfl)) (by decide) (by decide)) (g := (mkF m 143 #[.val (.long A), .second, .val (.long B), .second, .val (.int p1), .val (.int p2), .val (.int md), .val (.int sA), .val (.int gA), .val (.int sB), .val (.int gB), .val (.int qB), .val (.ref b82), .val (.int (md &&& (3 : Int32))), .unset, .unset] [(.int qB), (.ref bh_r), (.ref bs_r), (.ref b91), (.ref b91)])) rfl (by rw [hml]; rfl) (Steps.refl _) (a := b91) (argsL := [(.ref bs_r), (.ref bh_r), (.int qB)]) (rest := [(.ref b91)]) (lenOf pd__Ljava_lang_String_Ljava_lang_String_I_V rfl) rfl (by show 2 * 0 + _ ≤ _; exact Nat.le_of_eq rfl) (hb hby at_143) (fun _ _ => ⟨rfl, rfl, (by decide : 26 + 0 ≤ _), (by decide : 54 + 0 ≤ _)⟩)
      dsimp only [Pt.U, Pt.locs, Pt.cells, Pt.slots] at X95 l95 y95 z95 st95 hQ95
      subst l95 y95 z95
      obtain ⟨rfl, N95q, K95, O_b⟩ := hQ95
      have N95 := Fr.app N94 N95q
      replace pre : Pth p e below S0 T95 (mkF m 146 #[.val (.long A), .second, .val (.long B), .second, .val (.int p1), .val (.int p2), .val (.int md), .val (.int sA), .val (.int gA), .val (.int sB), .val (.int gB), .val (.int qB), .val (.ref b82), .val (.int (md &&& (3 : Int32))), .unset, .unset] [(.ref b91)]) := fun t k => pre t (st95.trans k)
      have G96 : CHr Z own_EL T94.vm _ T94.vm T95.heap := CHr.keep K95 (sfS (Safe.exa hZ.alike A91 (by decide) (by decide)) sf0) HC.1
      replace hkin := Nat.le_trans hkin G96.2.1
      replace HC := HC.trans G96
      replace HX := own_ext_keep HX K95 (fun z hz => by rw [List.mem_singleton.mp hz]; exact gz_b)
      have neAB : b82 ≠ b91 := by rw [g91]; exact Nat.ne_of_lt ltA0
      replace S_as := OStr.keep S_as K95 (ninS (own_ne_es S_as.1 A91) nin0) (ninS (own_ne_ea (hw _ (List.mem_of_getElem? (i := 1) rfl)) S_as.2.2.2 A91) nin0)
      replace S_ah := OStr.keep S_ah K95 (ninS (own_ne_es S_ah.1 A91) nin0) (ninS (own_ne_ea (hw _ (List.mem_of_getElem? (i := 1) rfl)) S_ah.2.2.2 A91) nin0)
      replace S_bs := OStr.keep S_bs K95 (ninS (own_ne_es S_bs.1 A91) nin0) (ninS (own_ne_ea (hw _ (List.mem_of_getElem? (i := 1) rfl)) S_bs.2.2.2 A91) nin0)
      replace S_bh := OStr.keep S_bh K95 (ninS (own_ne_es S_bh.1 A91) nin0) (ninS (own_ne_ea (hw _ (List.mem_of_getElem? (i := 1) rfl)) S_bh.2.2.2 A91) nin0)
      replace O_a := O_a.keep K95 (ninS neAB nin0)
      replace pre : Pth p e below S0 T95 (mkF m 152 #[.val (.long A), .second, .val (.long B), .second, .val (.int p1), .val (.int p2), .val (.int md), .val (.int sA), .val (.int gA), .val (.int sB), .val (.int gB), .val (.int qB), .val (.ref b82), .val (.int (md &&& (3 : Int32))), .val (.ref b91), .unset] [(.int qB), (.int p1)]) := fun t k => pre t (by
        show Steps p.tables e below (T95.setTop (mkF m 146 #[.val (.long A), .second, .val (.long B), .second, .val (.int p1), .val (.int p2), .val (.int md), .val (.int sA), .val (.int gA), .val (.int sB), .val (.int gB), .val (.int qB), .val (.ref b82), .val (.int (md &&& (3 : Int32))), .unset, .unset] [(.ref b91)])) t
        refine XS.astore X95.here hx rfl (hb hby at_146) rfl rfl (l' := #[.val (.long A), .second, .val (.long B), .second, .val (.int p1), .val (.int p2), .val (.int md), .val (.int sA), .val (.int gA), .val (.int sB), .val (.int gB), .val (.int qB), .val (.ref b82), .val (.int (md &&& (3 : Int32))), .val (.ref b91), .unset]) rfl ?_
        show Steps p.tables e below (T95.setTop (mkF m 148 #[.val (.long A), .second, .val (.long B), .second, .val (.int p1), .val (.int p2), .val (.int md), .val (.int sA), .val (.int gA), .val (.int sB), .val (.int gB), .val (.int qB), .val (.ref b82), .val (.int (md &&& (3 : Int32))), .val (.ref b91), .unset] [])) t
        refine XS.iload X95.here hx rfl (hb hby at_148) rfl ?_
        show Steps p.tables e below (T95.setTop (mkF m 150 #[.val (.long A), .second, .val (.long B), .second, .val (.int p1), .val (.int p2), .val (.int md), .val (.int sA), .val (.int gA), .val (.int sB), .val (.int gB), .val (.int qB), .val (.ref b82), .val (.int (md &&& (3 : Int32))), .val (.ref b91), .unset] [(.int p1)])) t
        refine XS.iload X95.here hx rfl (hb hby at_150) rfl ?_
        show Steps p.tables e below (T95.setTop (mkF m 152 #[.val (.long A), .second, .val (.long B), .second, .val (.int p1), .val (.int p2), .val (.int md), .val (.int sA), .val (.int gA), .val (.int sB), .val (.int gB), .val (.int qB), .val (.ref b82), .val (.int (md &&& (3 : Int32))), .val (.ref b91), .unset] [(.int qB), (.int p1)])) t
        exact k)
      by_cases z3 : p1 = qB
      · replace pre : Pth p e below S0 T95 (mkF m 159 #[.val (.long A), .second, .val (.long B), .second, .val (.int p1), .val (.int p2), .val (.int md), .val (.int sA), .val (.int gA), .val (.int sB), .val (.int gB), .val (.int qB), .val (.ref b82), .val (.int (md &&& (3 : Int32))), .val (.ref b91), .unset] [(.int sB), (.int sA)]) := fun t k => pre t (by
          show Steps p.tables e below (T95.setTop (mkF m 152 #[.val (.long A), .second, .val (.long B), .second, .val (.int p1), .val (.int p2), .val (.int md), .val (.int sA), .val (.int gA), .val (.int sB), .val (.int gB), .val (.int qB), .val (.ref b82), .val (.int (md &&& (3 : Int32))), .val (.ref b91), .unset] [(.int qB), (.int p1)])) t
          refine XS.icmpNo X95.here hx rfl (hb hby at_152) rfl (XT.ii_ne_f z3) ?_
          show Steps p.tables e below (T95.setTop (mkF m 155 #[.val (.long A), .second, .val (.long B), .second, .val (.int p1), .val (.int p2), .val (.int md), .val (.int sA), .val (.int gA), .val (.int sB), .val (.int gB), .val (.int qB), .val (.ref b82), .val (.int (md &&& (3 : Int32))), .val (.ref b91), .unset] [])) t
          refine XS.iload X95.here hx rfl (hb hby at_155) rfl ?_
          show Steps p.tables e below (T95.setTop (mkF m 157 #[.val (.long A), .second, .val (.long B), .second, .val (.int p1), .val (.int p2), .val (.int md), .val (.int sA), .val (.int gA), .val (.int sB), .val (.int gB), .val (.int qB), .val (.ref b82), .val (.int (md &&& (3 : Int32))), .val (.ref b91), .unset] [(.int sA)])) t
          refine XS.iload X95.here hx rfl (hb hby at_157) rfl ?_
          show Steps p.tables e below (T95.setTop (mkF m 159 #[.val (.long A), .second, .val (.long B), .second, .val (.int p1), .val (.int p2), .val (.int md), .val (.int sA), .val (.int gA), .val (.int sB), .val (.int gB), .val (.int qB), .val (.ref b82), .val (.int (md &&& (3 : Int32))), .val (.ref b91), .unset] [(.int sB), (.int sA)])) t
          exact k)
        obtain ⟨_, _, ⟨T97, L97, k97, n97⟩, -, X97, ⟨Lc97, hQ97, l97, y97, z97⟩, st97⟩ := Jvm.LawKit.callS X95 hx (y := (⟨"com/example/originlint/originlint/OriginEqualsPinLaw", "same", "(II)Z"⟩ : MethodName)) hown (mvT hZ (hw _ (List.mem_of_getElem? (i := 67) rfl))) (mvT hZ (hw _ (List.mem_of_getElem? (i := 68) rfl))) (mvT hZ (hw _ (List.mem_of_getElem? (i := 5) rfl))) (mvT hZ (hw _ (List.mem_of_getElem? (i := 69) rfl))) (by decide) (backOf (W := 0) (rm_same l Z a0 hw [] sA sB T95.heap n0) hZ (hw _ (List.mem_of_getElem? (i := 69) rfl)) (hw _ (List.mem_of_getElem? (i := 5) rfl)) (by decide) (by decide)) (g := (mkF m 159 #[.val (.long A), .second, .val (.long B), .second, .val (.int p1), .val (.int p2), .val (.int md), .val (.int sA), .val (.int gA), .val (.int sB), .val (.int gB), .val (.int qB), .val (.ref b82), .val (.int (md &&& (3 : Int32))), .val (.ref b91), .unset] [(.int sB), (.int sA)])) rfl (by rw [hml]; rfl) (argsL := [(.int sA), (.int sB)]) (rest := []) (lenOf pd__II_Z rfl) rfl (by show 2 * 0 + _ ≤ _; exact Nat.le_of_eq rfl) (hb hby at_159) (fun _ _ => ⟨rfl, rfl, (by decide : 26 + 0 ≤ _), (by decide : 54 + 0 ≤ _)⟩)
        dsimp only [Pt.U, Pt.locs, Pt.cells, Pt.slots] at X97 l97 y97 z97 st97 hQ97
        subst l97 y97 z97
        obtain ⟨rfl, N97q, e97⟩ := hQ97
        have N97 := Fr.app N95 N97q
        replace pre : Pth p e below S0 T97 (mkF m 162 #[.val (.long A), .second, .val (.long B), .second, .val (.int p1), .val (.int p2), .val (.int md), .val (.int sA), .val (.int gA), .val (.int sB), .val (.int gB), .val (.int qB), .val (.ref b82), .val (.int (md &&& (3 : Int32))), .val (.ref b91), .unset] [(.int (own_same sA sB))]) := fun t k => pre t (st97 _ k)
        by_cases z4 : (own_same sA sB) = (0 : Int32)
        · replace pre : Pth p e below S0 T97 (mkF m 186 #[.val (.long A), .second, .val (.long B), .second, .val (.int p1), .val (.int p2), .val (.int md), .val (.int sA), .val (.int gA), .val (.int sB), .val (.int gB), .val (.int qB), .val (.ref b82), .val (.int (md &&& (3 : Int32))), .val (.ref b91), .val (.int (0 : Int32))] [(.ref b91), (.ref b82)]) := fun t k => pre t (by
            show Steps p.tables e below (T97.setTop (mkF m 162 #[.val (.long A), .second, .val (.long B), .second, .val (.int p1), .val (.int p2), .val (.int md), .val (.int sA), .val (.int gA), .val (.int sB), .val (.int gB), .val (.int qB), .val (.ref b82), .val (.int (md &&& (3 : Int32))), .val (.ref b91), .unset] [(.int (own_same sA sB))])) t
            refine XS.ifYes X97.here hx rfl (pc0 := 162) (pc' := 179) rfl (hb hby at_162) rfl (XT.i0_eq_t z4) (by decide) (by decide) ?_
            show Steps p.tables e below (T97.setTop (mkF m 179 #[.val (.long A), .second, .val (.long B), .second, .val (.int p1), .val (.int p2), .val (.int md), .val (.int sA), .val (.int gA), .val (.int sB), .val (.int gB), .val (.int qB), .val (.ref b82), .val (.int (md &&& (3 : Int32))), .val (.ref b91), .unset] [])) t
            refine XS.iconst X97.here hx rfl (hb hby at_179) ?_
            show Steps p.tables e below (T97.setTop (mkF m 180 #[.val (.long A), .second, .val (.long B), .second, .val (.int p1), .val (.int p2), .val (.int md), .val (.int sA), .val (.int gA), .val (.int sB), .val (.int gB), .val (.int qB), .val (.ref b82), .val (.int (md &&& (3 : Int32))), .val (.ref b91), .unset] [(.int (0 : Int32))])) t
            refine XS.istore X97.here hx rfl (hb hby at_180) rfl (l' := #[.val (.long A), .second, .val (.long B), .second, .val (.int p1), .val (.int p2), .val (.int md), .val (.int sA), .val (.int gA), .val (.int sB), .val (.int gB), .val (.int qB), .val (.ref b82), .val (.int (md &&& (3 : Int32))), .val (.ref b91), .val (.int (0 : Int32))]) rfl ?_
            show Steps p.tables e below (T97.setTop (mkF m 182 #[.val (.long A), .second, .val (.long B), .second, .val (.int p1), .val (.int p2), .val (.int md), .val (.int sA), .val (.int gA), .val (.int sB), .val (.int gB), .val (.int qB), .val (.ref b82), .val (.int (md &&& (3 : Int32))), .val (.ref b91), .val (.int (0 : Int32))] [])) t
            refine XS.aload X97.here hx rfl (hb hby at_182) rfl rfl ?_
            show Steps p.tables e below (T97.setTop (mkF m 184 #[.val (.long A), .second, .val (.long B), .second, .val (.int p1), .val (.int p2), .val (.int md), .val (.int sA), .val (.int gA), .val (.int sB), .val (.int gB), .val (.int qB), .val (.ref b82), .val (.int (md &&& (3 : Int32))), .val (.ref b91), .val (.int (0 : Int32))] [(.ref b82)])) t
            refine XS.aload X97.here hx rfl (hb hby at_184) rfl rfl ?_
            show Steps p.tables e below (T97.setTop (mkF m 186 #[.val (.long A), .second, .val (.long B), .second, .val (.int p1), .val (.int p2), .val (.int md), .val (.int sA), .val (.int gA), .val (.int sB), .val (.int gB), .val (.int qB), .val (.ref b82), .val (.int (md &&& (3 : Int32))), .val (.ref b91), .val (.int (0 : Int32))] [(.ref b91), (.ref b82)])) t
            exact k)
          obtain ⟨cq98, kq98, q98a, q98b, q98c⟩ := isOf hZ e97 O_a.1
          obtain ⟨_, _, ⟨T98, L98, k98, n98⟩, -, X98, ⟨Lc98, hQ98, l98, y98, z98⟩, st98⟩ := X97.virtualBack hx (y := (⟨"com/example/originlint/originlint/Origin", "equals", "(Ljava/lang/Object;)Z"⟩ : MethodName)) (z := (⟨"com/example/originlint/originlint/Origin", "equals", "(Ljava/lang/Object;)Z"⟩ : MethodName)) hown (mvT hZ (hw _ (List.mem_of_getElem? (i := 47) rfl))) (mvT hZ (hw _ (List.mem_of_getElem? (i := 48) rfl))) (notFace_of_selects (args := #[]) (mvT hZ (hw _ (List.mem_of_getElem? (i := 50) rfl)))) (mvT hZ (hw _ (List.mem_of_getElem? (i := 50) rfl))) (mvT hZ (hw _ (List.mem_of_getElem? (i := 49) rfl))) (by decide) (backOf (W := 0) (rm_oeq l Z a0 hw [] b82 b91 as_r ah_r bs_r bh_r as_p ah_p bs_p bh_p p1 qB (own_str sA) (own_str gA) (own_str sB) (own_str gB) cz T95.heap n0 O_a O_b S_as S_ah S_bs S_bh (own_strlen _) (own_strlen _) (own_strlen _) (own_strlen _) (Scs.ext HX) hcz) hZ (hw _ (List.mem_of_getElem? (i := 51) rfl)) (hw _ (List.mem_of_getElem? (i := 2) rfl)) (by decide) (by decide)) q98a q98c (g := (mkF m 186 #[.val (.long A), .second, .val (.long B), .second, .val (.int p1), .val (.int p2), .val (.int md), .val (.int sA), .val (.int gA), .val (.int sB), .val (.int gB), .val (.int qB), .val (.ref b82), .val (.int (md &&& (3 : Int32))), .val (.ref b91), .val (.int (0 : Int32))] [(.ref b91), (.ref b82)])) rfl (by rw [hml]; rfl) (Steps.refl _) (argsL := [(.ref b91)]) (rest := []) (lenOf pd__Ljava_lang_Object__Z rfl) rfl (by show 2 * 0 + _ ≤ _; exact Nat.le_of_eq rfl) (hb hby at_186) (fun _ _ => ⟨rfl, e97, (by decide : 26 + 0 ≤ _), (by decide : 54 + 0 ≤ _)⟩)
          dsimp only [Pt.U, Pt.locs, Pt.cells, Pt.slots] at X98 l98 y98 z98 st98 hQ98
          subst l98 y98 z98
          obtain ⟨rfl, N98q, e98⟩ := hQ98
          have N98 := Fr.app N97 N98q
          replace pre : Pth p e below S0 T98 (mkF m 189 #[.val (.long A), .second, .val (.long B), .second, .val (.int p1), .val (.int p2), .val (.int md), .val (.int sA), .val (.int gA), .val (.int sB), .val (.int gB), .val (.int qB), .val (.ref b82), .val (.int (md &&& (3 : Int32))), .val (.ref b91), .val (.int (0 : Int32))] [(.int (own_oe p1 qB (own_str sA) (own_str sB) (own_str gA) (own_str gB)))]) := fun t k => pre t (st98.trans k)
          replace pre : Pth p e below S0 T98 (mkF m 199 #[.val (.long A), .second, .val (.long B), .second, .val (.int p1), .val (.int p2), .val (.int md), .val (.int sA), .val (.int gA), .val (.int sB), .val (.int gB), .val (.int qB), .val (.ref b82), .val (.int (md &&& (3 : Int32))), .val (.ref b91), .val (.int (0 : Int32))] [(.int (1 : Int32))]) := fun t k => pre t (by
            show Steps p.tables e below (T98.setTop (mkF m 189 #[.val (.long A), .second, .val (.long B), .second, .val (.int p1), .val (.int p2), .val (.int md), .val (.int sA), .val (.int gA), .val (.int sB), .val (.int gB), .val (.int qB), .val (.ref b82), .val (.int (md &&& (3 : Int32))), .val (.ref b91), .val (.int (0 : Int32))] [(.int (own_oe p1 qB (own_str sA) (own_str sB) (own_str gA) (own_str gB)))])) t
            refine XS.iload X98.here hx rfl (hb hby at_189) rfl ?_
            show Steps p.tables e below (T98.setTop (mkF m 191 #[.val (.long A), .second, .val (.long B), .second, .val (.int p1), .val (.int p2), .val (.int md), .val (.int sA), .val (.int gA), .val (.int sB), .val (.int gB), .val (.int qB), .val (.ref b82), .val (.int (md &&& (3 : Int32))), .val (.ref b91), .val (.int (0 : Int32))] [(.int (0 : Int32)), (.int (own_oe p1 qB (own_str sA) (own_str sB) (own_str gA) (own_str gB)))])) t
            refine XS.icmpNo X98.here hx rfl (hb hby at_191) rfl (XT.ii_ne_f (by rw [own_oe, if_pos z3, ← own_same_eq, if_pos z4])) ?_
            show Steps p.tables e below (T98.setTop (mkF m 194 #[.val (.long A), .second, .val (.long B), .second, .val (.int p1), .val (.int p2), .val (.int md), .val (.int sA), .val (.int gA), .val (.int sB), .val (.int gB), .val (.int qB), .val (.ref b82), .val (.int (md &&& (3 : Int32))), .val (.ref b91), .val (.int (0 : Int32))] [])) t
            refine XS.iconst X98.here hx rfl (hb hby at_194) ?_
            show Steps p.tables e below (T98.setTop (mkF m 195 #[.val (.long A), .second, .val (.long B), .second, .val (.int p1), .val (.int p2), .val (.int md), .val (.int sA), .val (.int gA), .val (.int sB), .val (.int gB), .val (.int qB), .val (.ref b82), .val (.int (md &&& (3 : Int32))), .val (.ref b91), .val (.int (0 : Int32))] [(.int (1 : Int32))])) t
            refine XS.goto X98.here hx rfl (pc0 := 195) (pc' := 199) rfl (hb hby at_195) (by decide) (by decide) ?_
            show Steps p.tables e below (T98.setTop (mkF m 199 #[.val (.long A), .second, .val (.long B), .second, .val (.int p1), .val (.int p2), .val (.int md), .val (.int sA), .val (.int gA), .val (.int sB), .val (.int gB), .val (.int qB), .val (.ref b82), .val (.int (md &&& (3 : Int32))), .val (.ref b91), .val (.int (0 : Int32))] [(.int (1 : Int32))])) t
            exact k)
          have HF : CHr Z own_EL s.vm s.heap T98.vm T98.heap := by
            rw [hh, e98]
            exact HC.trans (CHv.at (s := s) (vm0 := T94.vm) X98 hZ hEL HC.1)
          obtain ⟨fs, hr, hrun, hended, r1, r2, r3, r4⟩ := X98.leaveW (s := s) (vm₁ := T94.vm) hSin (by rw [e98]; exact hkin) (v := some (.int (1 : Int32))) (fun h => by rw [Bd.returns] at h; cases h)
          subst hS0
          refine ⟨_, _, pre _ ?_, hrun, hended, _, _, rfl, ?_, HF, r1, r2, r3, r4.mono (by decide) (by decide)⟩
          · exact retN X98 hx (t := .boolean) Bd.returns (by simp) (hb hby at_199) hr
          · show Q_law Z A B p1 p2 md cz h0 n0 _ T98.heap _
            rw [e98]
            exact ⟨rfl, N98⟩
        · replace pre : Pth p e below S0 T97 (mkF m 169 #[.val (.long A), .second, .val (.long B), .second, .val (.int p1), .val (.int p2), .val (.int md), .val (.int sA), .val (.int gA), .val (.int sB), .val (.int gB), .val (.int qB), .val (.ref b82), .val (.int (md &&& (3 : Int32))), .val (.ref b91), .unset] [(.int gB), (.int gA)]) := fun t k => pre t (by
            show Steps p.tables e below (T97.setTop (mkF m 162 #[.val (.long A), .second, .val (.long B), .second, .val (.int p1), .val (.int p2), .val (.int md), .val (.int sA), .val (.int gA), .val (.int sB), .val (.int gB), .val (.int qB), .val (.ref b82), .val (.int (md &&& (3 : Int32))), .val (.ref b91), .unset] [(.int (own_same sA sB))])) t
            refine XS.ifNo X97.here hx rfl (hb hby at_162) rfl (XT.i0_eq_f z4) ?_
            show Steps p.tables e below (T97.setTop (mkF m 165 #[.val (.long A), .second, .val (.long B), .second, .val (.int p1), .val (.int p2), .val (.int md), .val (.int sA), .val (.int gA), .val (.int sB), .val (.int gB), .val (.int qB), .val (.ref b82), .val (.int (md &&& (3 : Int32))), .val (.ref b91), .unset] [])) t
            refine XS.iload X97.here hx rfl (hb hby at_165) rfl ?_
            show Steps p.tables e below (T97.setTop (mkF m 167 #[.val (.long A), .second, .val (.long B), .second, .val (.int p1), .val (.int p2), .val (.int md), .val (.int sA), .val (.int gA), .val (.int sB), .val (.int gB), .val (.int qB), .val (.ref b82), .val (.int (md &&& (3 : Int32))), .val (.ref b91), .unset] [(.int gA)])) t
            refine XS.iload X97.here hx rfl (hb hby at_167) rfl ?_
            show Steps p.tables e below (T97.setTop (mkF m 169 #[.val (.long A), .second, .val (.long B), .second, .val (.int p1), .val (.int p2), .val (.int md), .val (.int sA), .val (.int gA), .val (.int sB), .val (.int gB), .val (.int qB), .val (.ref b82), .val (.int (md &&& (3 : Int32))), .val (.ref b91), .unset] [(.int gB), (.int gA)])) t
            exact k)
          obtain ⟨_, _, ⟨T99, L99, k99, n99⟩, -, X99, ⟨Lc99, hQ99, l99, y99, z99⟩, st99⟩ := Jvm.LawKit.callS X97 hx (y := (⟨"com/example/originlint/originlint/OriginEqualsPinLaw", "same", "(II)Z"⟩ : MethodName)) hown (mvT hZ (hw _ (List.mem_of_getElem? (i := 67) rfl))) (mvT hZ (hw _ (List.mem_of_getElem? (i := 68) rfl))) (mvT hZ (hw _ (List.mem_of_getElem? (i := 5) rfl))) (mvT hZ (hw _ (List.mem_of_getElem? (i := 69) rfl))) (by decide) (backOf (W := 0) (rm_same l Z a0 hw [] gA gB T95.heap n0) hZ (hw _ (List.mem_of_getElem? (i := 69) rfl)) (hw _ (List.mem_of_getElem? (i := 5) rfl)) (by decide) (by decide)) (g := (mkF m 169 #[.val (.long A), .second, .val (.long B), .second, .val (.int p1), .val (.int p2), .val (.int md), .val (.int sA), .val (.int gA), .val (.int sB), .val (.int gB), .val (.int qB), .val (.ref b82), .val (.int (md &&& (3 : Int32))), .val (.ref b91), .unset] [(.int gB), (.int gA)])) rfl (by rw [hml]; rfl) (argsL := [(.int gA), (.int gB)]) (rest := []) (lenOf pd__II_Z rfl) rfl (by show 2 * 0 + _ ≤ _; exact Nat.le_of_eq rfl) (hb hby at_169) (fun _ _ => ⟨rfl, e97, (by decide : 26 + 0 ≤ _), (by decide : 54 + 0 ≤ _)⟩)
          dsimp only [Pt.U, Pt.locs, Pt.cells, Pt.slots] at X99 l99 y99 z99 st99 hQ99
          subst l99 y99 z99
          obtain ⟨rfl, N99q, e99⟩ := hQ99
          have N99 := Fr.app N97 N99q
          replace pre : Pth p e below S0 T99 (mkF m 172 #[.val (.long A), .second, .val (.long B), .second, .val (.int p1), .val (.int p2), .val (.int md), .val (.int sA), .val (.int gA), .val (.int sB), .val (.int gB), .val (.int qB), .val (.ref b82), .val (.int (md &&& (3 : Int32))), .val (.ref b91), .unset] [(.int (own_same gA gB))]) := fun t k => pre t (st99 _ k)
          by_cases z5 : (own_same gA gB) = (0 : Int32)
          · replace pre : Pth p e below S0 T99 (mkF m 186 #[.val (.long A), .second, .val (.long B), .second, .val (.int p1), .val (.int p2), .val (.int md), .val (.int sA), .val (.int gA), .val (.int sB), .val (.int gB), .val (.int qB), .val (.ref b82), .val (.int (md &&& (3 : Int32))), .val (.ref b91), .val (.int (0 : Int32))] [(.ref b91), (.ref b82)]) := fun t k => pre t (by
              show Steps p.tables e below (T99.setTop (mkF m 172 #[.val (.long A), .second, .val (.long B), .second, .val (.int p1), .val (.int p2), .val (.int md), .val (.int sA), .val (.int gA), .val (.int sB), .val (.int gB), .val (.int qB), .val (.ref b82), .val (.int (md &&& (3 : Int32))), .val (.ref b91), .unset] [(.int (own_same gA gB))])) t
              refine XS.ifYes X99.here hx rfl (pc0 := 172) (pc' := 179) rfl (hb hby at_172) rfl (XT.i0_eq_t z5) (by decide) (by decide) ?_
              show Steps p.tables e below (T99.setTop (mkF m 179 #[.val (.long A), .second, .val (.long B), .second, .val (.int p1), .val (.int p2), .val (.int md), .val (.int sA), .val (.int gA), .val (.int sB), .val (.int gB), .val (.int qB), .val (.ref b82), .val (.int (md &&& (3 : Int32))), .val (.ref b91), .unset] [])) t
              refine XS.iconst X99.here hx rfl (hb hby at_179) ?_
              show Steps p.tables e below (T99.setTop (mkF m 180 #[.val (.long A), .second, .val (.long B), .second, .val (.int p1), .val (.int p2), .val (.int md), .val (.int sA), .val (.int gA), .val (.int sB), .val (.int gB), .val (.int qB), .val (.ref b82), .val (.int (md &&& (3 : Int32))), .val (.ref b91), .unset] [(.int (0 : Int32))])) t
              refine XS.istore X99.here hx rfl (hb hby at_180) rfl (l' := #[.val (.long A), .second, .val (.long B), .second, .val (.int p1), .val (.int p2), .val (.int md), .val (.int sA), .val (.int gA), .val (.int sB), .val (.int gB), .val (.int qB), .val (.ref b82), .val (.int (md &&& (3 : Int32))), .val (.ref b91), .val (.int (0 : Int32))]) rfl ?_
              show Steps p.tables e below (T99.setTop (mkF m 182 #[.val (.long A), .second, .val (.long B), .second, .val (.int p1), .val (.int p2), .val (.int md), .val (.int sA), .val (.int gA), .val (.int sB), .val (.int gB), .val (.int qB), .val (.ref b82), .val (.int (md &&& (3 : Int32))), .val (.ref b91), .val (.int (0 : Int32))] [])) t
              refine XS.aload X99.here hx rfl (hb hby at_182) rfl rfl ?_
              show Steps p.tables e below (T99.setTop (mkF m 184 #[.val (.long A), .second, .val (.long B), .second, .val (.int p1), .val (.int p2), .val (.int md), .val (.int sA), .val (.int gA), .val (.int sB), .val (.int gB), .val (.int qB), .val (.ref b82), .val (.int (md &&& (3 : Int32))), .val (.ref b91), .val (.int (0 : Int32))] [(.ref b82)])) t
              refine XS.aload X99.here hx rfl (hb hby at_184) rfl rfl ?_
              show Steps p.tables e below (T99.setTop (mkF m 186 #[.val (.long A), .second, .val (.long B), .second, .val (.int p1), .val (.int p2), .val (.int md), .val (.int sA), .val (.int gA), .val (.int sB), .val (.int gB), .val (.int qB), .val (.ref b82), .val (.int (md &&& (3 : Int32))), .val (.ref b91), .val (.int (0 : Int32))] [(.ref b91), (.ref b82)])) t
              exact k)
            obtain ⟨cq100, kq100, q100a, q100b, q100c⟩ := isOf hZ e99 O_a.1
            obtain ⟨_, _, ⟨T100, L100, k100, n100⟩, -, X100, ⟨Lc100, hQ100, l100, y100, z100⟩, st100⟩ := X99.virtualBack hx (y := (⟨"com/example/originlint/originlint/Origin", "equals", "(Ljava/lang/Object;)Z"⟩ : MethodName)) (z := (⟨"com/example/originlint/originlint/Origin", "equals", "(Ljava/lang/Object;)Z"⟩ : MethodName)) hown (mvT hZ (hw _ (List.mem_of_getElem? (i := 47) rfl))) (mvT hZ (hw _ (List.mem_of_getElem? (i := 48) rfl))) (notFace_of_selects (args := #[]) (mvT hZ (hw _ (List.mem_of_getElem? (i := 50) rfl)))) (mvT hZ (hw _ (List.mem_of_getElem? (i := 50) rfl))) (mvT hZ (hw _ (List.mem_of_getElem? (i := 49) rfl))) (by decide) (backOf (W := 0) (rm_oeq l Z a0 hw [] b82 b91 as_r ah_r bs_r bh_r as_p ah_p bs_p bh_p p1 qB (own_str sA) (own_str gA) (own_str sB) (own_str gB) cz T95.heap n0 O_a O_b S_as S_ah S_bs S_bh (own_strlen _) (own_strlen _) (own_strlen _) (own_strlen _) (Scs.ext HX) hcz) hZ (hw _ (List.mem_of_getElem? (i := 51) rfl)) (hw _ (List.mem_of_getElem? (i := 2) rfl)) (by decide) (by decide)) q100a q100c (g := (mkF m 186 #[.val (.long A), .second, .val (.long B), .second, .val (.int p1), .val (.int p2), .val (.int md), .val (.int sA), .val (.int gA), .val (.int sB), .val (.int gB), .val (.int qB), .val (.ref b82), .val (.int (md &&& (3 : Int32))), .val (.ref b91), .val (.int (0 : Int32))] [(.ref b91), (.ref b82)])) rfl (by rw [hml]; rfl) (Steps.refl _) (argsL := [(.ref b91)]) (rest := []) (lenOf pd__Ljava_lang_Object__Z rfl) rfl (by show 2 * 0 + _ ≤ _; exact Nat.le_of_eq rfl) (hb hby at_186) (fun _ _ => ⟨rfl, e99, (by decide : 26 + 0 ≤ _), (by decide : 54 + 0 ≤ _)⟩)
            dsimp only [Pt.U, Pt.locs, Pt.cells, Pt.slots] at X100 l100 y100 z100 st100 hQ100
            subst l100 y100 z100
            obtain ⟨rfl, N100q, e100⟩ := hQ100
            have N100 := Fr.app N99 N100q
            replace pre : Pth p e below S0 T100 (mkF m 189 #[.val (.long A), .second, .val (.long B), .second, .val (.int p1), .val (.int p2), .val (.int md), .val (.int sA), .val (.int gA), .val (.int sB), .val (.int gB), .val (.int qB), .val (.ref b82), .val (.int (md &&& (3 : Int32))), .val (.ref b91), .val (.int (0 : Int32))] [(.int (own_oe p1 qB (own_str sA) (own_str sB) (own_str gA) (own_str gB)))]) := fun t k => pre t (st100.trans k)
            replace pre : Pth p e below S0 T100 (mkF m 199 #[.val (.long A), .second, .val (.long B), .second, .val (.int p1), .val (.int p2), .val (.int md), .val (.int sA), .val (.int gA), .val (.int sB), .val (.int gB), .val (.int qB), .val (.ref b82), .val (.int (md &&& (3 : Int32))), .val (.ref b91), .val (.int (0 : Int32))] [(.int (1 : Int32))]) := fun t k => pre t (by
              show Steps p.tables e below (T100.setTop (mkF m 189 #[.val (.long A), .second, .val (.long B), .second, .val (.int p1), .val (.int p2), .val (.int md), .val (.int sA), .val (.int gA), .val (.int sB), .val (.int gB), .val (.int qB), .val (.ref b82), .val (.int (md &&& (3 : Int32))), .val (.ref b91), .val (.int (0 : Int32))] [(.int (own_oe p1 qB (own_str sA) (own_str sB) (own_str gA) (own_str gB)))])) t
              refine XS.iload X100.here hx rfl (hb hby at_189) rfl ?_
              show Steps p.tables e below (T100.setTop (mkF m 191 #[.val (.long A), .second, .val (.long B), .second, .val (.int p1), .val (.int p2), .val (.int md), .val (.int sA), .val (.int gA), .val (.int sB), .val (.int gB), .val (.int qB), .val (.ref b82), .val (.int (md &&& (3 : Int32))), .val (.ref b91), .val (.int (0 : Int32))] [(.int (0 : Int32)), (.int (own_oe p1 qB (own_str sA) (own_str sB) (own_str gA) (own_str gB)))])) t
              refine XS.icmpNo X100.here hx rfl (hb hby at_191) rfl (XT.ii_ne_f (by rw [own_oe, if_pos z3, ← own_same_eq, ← own_same_eq, if_neg z4, if_pos z5])) ?_
              show Steps p.tables e below (T100.setTop (mkF m 194 #[.val (.long A), .second, .val (.long B), .second, .val (.int p1), .val (.int p2), .val (.int md), .val (.int sA), .val (.int gA), .val (.int sB), .val (.int gB), .val (.int qB), .val (.ref b82), .val (.int (md &&& (3 : Int32))), .val (.ref b91), .val (.int (0 : Int32))] [])) t
              refine XS.iconst X100.here hx rfl (hb hby at_194) ?_
              show Steps p.tables e below (T100.setTop (mkF m 195 #[.val (.long A), .second, .val (.long B), .second, .val (.int p1), .val (.int p2), .val (.int md), .val (.int sA), .val (.int gA), .val (.int sB), .val (.int gB), .val (.int qB), .val (.ref b82), .val (.int (md &&& (3 : Int32))), .val (.ref b91), .val (.int (0 : Int32))] [(.int (1 : Int32))])) t
              refine XS.goto X100.here hx rfl (pc0 := 195) (pc' := 199) rfl (hb hby at_195) (by decide) (by decide) ?_
              show Steps p.tables e below (T100.setTop (mkF m 199 #[.val (.long A), .second, .val (.long B), .second, .val (.int p1), .val (.int p2), .val (.int md), .val (.int sA), .val (.int gA), .val (.int sB), .val (.int gB), .val (.int qB), .val (.ref b82), .val (.int (md &&& (3 : Int32))), .val (.ref b91), .val (.int (0 : Int32))] [(.int (1 : Int32))])) t
              exact k)
            have HF : CHr Z own_EL s.vm s.heap T100.vm T100.heap := by
              rw [hh, e100]
              exact HC.trans (CHv.at (s := s) (vm0 := T94.vm) X100 hZ hEL HC.1)
            obtain ⟨fs, hr, hrun, hended, r1, r2, r3, r4⟩ := X100.leaveW (s := s) (vm₁ := T94.vm) hSin (by rw [e100]; exact hkin) (v := some (.int (1 : Int32))) (fun h => by rw [Bd.returns] at h; cases h)
            subst hS0
            refine ⟨_, _, pre _ ?_, hrun, hended, _, _, rfl, ?_, HF, r1, r2, r3, r4.mono (by decide) (by decide)⟩
            · exact retN X100 hx (t := .boolean) Bd.returns (by simp) (hb hby at_199) hr
            · show Q_law Z A B p1 p2 md cz h0 n0 _ T100.heap _
              rw [e100]
              exact ⟨rfl, N100⟩
          · replace pre : Pth p e below S0 T99 (mkF m 186 #[.val (.long A), .second, .val (.long B), .second, .val (.int p1), .val (.int p2), .val (.int md), .val (.int sA), .val (.int gA), .val (.int sB), .val (.int gB), .val (.int qB), .val (.ref b82), .val (.int (md &&& (3 : Int32))), .val (.ref b91), .val (.int (1 : Int32))] [(.ref b91), (.ref b82)]) := fun t k => pre t (by
              show Steps p.tables e below (T99.setTop (mkF m 172 #[.val (.long A), .second, .val (.long B), .second, .val (.int p1), .val (.int p2), .val (.int md), .val (.int sA), .val (.int gA), .val (.int sB), .val (.int gB), .val (.int qB), .val (.ref b82), .val (.int (md &&& (3 : Int32))), .val (.ref b91), .unset] [(.int (own_same gA gB))])) t
              refine XS.ifNo X99.here hx rfl (hb hby at_172) rfl (XT.i0_eq_f z5) ?_
              show Steps p.tables e below (T99.setTop (mkF m 175 #[.val (.long A), .second, .val (.long B), .second, .val (.int p1), .val (.int p2), .val (.int md), .val (.int sA), .val (.int gA), .val (.int sB), .val (.int gB), .val (.int qB), .val (.ref b82), .val (.int (md &&& (3 : Int32))), .val (.ref b91), .unset] [])) t
              refine XS.iconst X99.here hx rfl (hb hby at_175) ?_
              show Steps p.tables e below (T99.setTop (mkF m 176 #[.val (.long A), .second, .val (.long B), .second, .val (.int p1), .val (.int p2), .val (.int md), .val (.int sA), .val (.int gA), .val (.int sB), .val (.int gB), .val (.int qB), .val (.ref b82), .val (.int (md &&& (3 : Int32))), .val (.ref b91), .unset] [(.int (1 : Int32))])) t
              refine XS.goto X99.here hx rfl (pc0 := 176) (pc' := 180) rfl (hb hby at_176) (by decide) (by decide) ?_
              show Steps p.tables e below (T99.setTop (mkF m 180 #[.val (.long A), .second, .val (.long B), .second, .val (.int p1), .val (.int p2), .val (.int md), .val (.int sA), .val (.int gA), .val (.int sB), .val (.int gB), .val (.int qB), .val (.ref b82), .val (.int (md &&& (3 : Int32))), .val (.ref b91), .unset] [(.int (1 : Int32))])) t
              refine XS.istore X99.here hx rfl (hb hby at_180) rfl (l' := #[.val (.long A), .second, .val (.long B), .second, .val (.int p1), .val (.int p2), .val (.int md), .val (.int sA), .val (.int gA), .val (.int sB), .val (.int gB), .val (.int qB), .val (.ref b82), .val (.int (md &&& (3 : Int32))), .val (.ref b91), .val (.int (1 : Int32))]) rfl ?_
              show Steps p.tables e below (T99.setTop (mkF m 182 #[.val (.long A), .second, .val (.long B), .second, .val (.int p1), .val (.int p2), .val (.int md), .val (.int sA), .val (.int gA), .val (.int sB), .val (.int gB), .val (.int qB), .val (.ref b82), .val (.int (md &&& (3 : Int32))), .val (.ref b91), .val (.int (1 : Int32))] [])) t
              refine XS.aload X99.here hx rfl (hb hby at_182) rfl rfl ?_
              show Steps p.tables e below (T99.setTop (mkF m 184 #[.val (.long A), .second, .val (.long B), .second, .val (.int p1), .val (.int p2), .val (.int md), .val (.int sA), .val (.int gA), .val (.int sB), .val (.int gB), .val (.int qB), .val (.ref b82), .val (.int (md &&& (3 : Int32))), .val (.ref b91), .val (.int (1 : Int32))] [(.ref b82)])) t
              refine XS.aload X99.here hx rfl (hb hby at_184) rfl rfl ?_
              show Steps p.tables e below (T99.setTop (mkF m 186 #[.val (.long A), .second, .val (.long B), .second, .val (.int p1), .val (.int p2), .val (.int md), .val (.int sA), .val (.int gA), .val (.int sB), .val (.int gB), .val (.int qB), .val (.ref b82), .val (.int (md &&& (3 : Int32))), .val (.ref b91), .val (.int (1 : Int32))] [(.ref b91), (.ref b82)])) t
              exact k)
            obtain ⟨cq101, kq101, q101a, q101b, q101c⟩ := isOf hZ e99 O_a.1
            obtain ⟨_, _, ⟨T101, L101, k101, n101⟩, -, X101, ⟨Lc101, hQ101, l101, y101, z101⟩, st101⟩ := X99.virtualBack hx (y := (⟨"com/example/originlint/originlint/Origin", "equals", "(Ljava/lang/Object;)Z"⟩ : MethodName)) (z := (⟨"com/example/originlint/originlint/Origin", "equals", "(Ljava/lang/Object;)Z"⟩ : MethodName)) hown (mvT hZ (hw _ (List.mem_of_getElem? (i := 47) rfl))) (mvT hZ (hw _ (List.mem_of_getElem? (i := 48) rfl))) (notFace_of_selects (args := #[]) (mvT hZ (hw _ (List.mem_of_getElem? (i := 50) rfl)))) (mvT hZ (hw _ (List.mem_of_getElem? (i := 50) rfl))) (mvT hZ (hw _ (List.mem_of_getElem? (i := 49) rfl))) (by decide) (backOf (W := 0) (rm_oeq l Z a0 hw [] b82 b91 as_r ah_r bs_r bh_r as_p ah_p bs_p bh_p p1 qB (own_str sA) (own_str gA) (own_str sB) (own_str gB) cz T95.heap n0 O_a O_b S_as S_ah S_bs S_bh (own_strlen _) (own_strlen _) (own_strlen _) (own_strlen _) (Scs.ext HX) hcz) hZ (hw _ (List.mem_of_getElem? (i := 51) rfl)) (hw _ (List.mem_of_getElem? (i := 2) rfl)) (by decide) (by decide)) q101a q101c (g := (mkF m 186 #[.val (.long A), .second, .val (.long B), .second, .val (.int p1), .val (.int p2), .val (.int md), .val (.int sA), .val (.int gA), .val (.int sB), .val (.int gB), .val (.int qB), .val (.ref b82), .val (.int (md &&& (3 : Int32))), .val (.ref b91), .val (.int (1 : Int32))] [(.ref b91), (.ref b82)])) rfl (by rw [hml]; rfl) (Steps.refl _) (argsL := [(.ref b91)]) (rest := []) (lenOf pd__Ljava_lang_Object__Z rfl) rfl (by show 2 * 0 + _ ≤ _; exact Nat.le_of_eq rfl) (hb hby at_186) (fun _ _ => ⟨rfl, e99, (by decide : 26 + 0 ≤ _), (by decide : 54 + 0 ≤ _)⟩)
            dsimp only [Pt.U, Pt.locs, Pt.cells, Pt.slots] at X101 l101 y101 z101 st101 hQ101
            subst l101 y101 z101
            obtain ⟨rfl, N101q, e101⟩ := hQ101
            have N101 := Fr.app N99 N101q
            replace pre : Pth p e below S0 T101 (mkF m 189 #[.val (.long A), .second, .val (.long B), .second, .val (.int p1), .val (.int p2), .val (.int md), .val (.int sA), .val (.int gA), .val (.int sB), .val (.int gB), .val (.int qB), .val (.ref b82), .val (.int (md &&& (3 : Int32))), .val (.ref b91), .val (.int (1 : Int32))] [(.int (own_oe p1 qB (own_str sA) (own_str sB) (own_str gA) (own_str gB)))]) := fun t k => pre t (st101.trans k)
            replace pre : Pth p e below S0 T101 (mkF m 199 #[.val (.long A), .second, .val (.long B), .second, .val (.int p1), .val (.int p2), .val (.int md), .val (.int sA), .val (.int gA), .val (.int sB), .val (.int gB), .val (.int qB), .val (.ref b82), .val (.int (md &&& (3 : Int32))), .val (.ref b91), .val (.int (1 : Int32))] [(.int (1 : Int32))]) := fun t k => pre t (by
              show Steps p.tables e below (T101.setTop (mkF m 189 #[.val (.long A), .second, .val (.long B), .second, .val (.int p1), .val (.int p2), .val (.int md), .val (.int sA), .val (.int gA), .val (.int sB), .val (.int gB), .val (.int qB), .val (.ref b82), .val (.int (md &&& (3 : Int32))), .val (.ref b91), .val (.int (1 : Int32))] [(.int (own_oe p1 qB (own_str sA) (own_str sB) (own_str gA) (own_str gB)))])) t
              refine XS.iload X101.here hx rfl (hb hby at_189) rfl ?_
              show Steps p.tables e below (T101.setTop (mkF m 191 #[.val (.long A), .second, .val (.long B), .second, .val (.int p1), .val (.int p2), .val (.int md), .val (.int sA), .val (.int gA), .val (.int sB), .val (.int gB), .val (.int qB), .val (.ref b82), .val (.int (md &&& (3 : Int32))), .val (.ref b91), .val (.int (1 : Int32))] [(.int (1 : Int32)), (.int (own_oe p1 qB (own_str sA) (own_str sB) (own_str gA) (own_str gB)))])) t
              refine XS.icmpNo X101.here hx rfl (hb hby at_191) rfl (XT.ii_ne_f (by rw [own_oe, if_pos z3, ← own_same_eq, ← own_same_eq, if_neg z4, if_neg z5])) ?_
              show Steps p.tables e below (T101.setTop (mkF m 194 #[.val (.long A), .second, .val (.long B), .second, .val (.int p1), .val (.int p2), .val (.int md), .val (.int sA), .val (.int gA), .val (.int sB), .val (.int gB), .val (.int qB), .val (.ref b82), .val (.int (md &&& (3 : Int32))), .val (.ref b91), .val (.int (1 : Int32))] [])) t
              refine XS.iconst X101.here hx rfl (hb hby at_194) ?_
              show Steps p.tables e below (T101.setTop (mkF m 195 #[.val (.long A), .second, .val (.long B), .second, .val (.int p1), .val (.int p2), .val (.int md), .val (.int sA), .val (.int gA), .val (.int sB), .val (.int gB), .val (.int qB), .val (.ref b82), .val (.int (md &&& (3 : Int32))), .val (.ref b91), .val (.int (1 : Int32))] [(.int (1 : Int32))])) t
              refine XS.goto X101.here hx rfl (pc0 := 195) (pc' := 199) rfl (hb hby at_195) (by decide) (by decide) ?_
              show Steps p.tables e below (T101.setTop (mkF m 199 #[.val (.long A), .second, .val (.long B), .second, .val (.int p1), .val (.int p2), .val (.int md), .val (.int sA), .val (.int gA), .val (.int sB), .val (.int gB), .val (.int qB), .val (.ref b82), .val (.int (md &&& (3 : Int32))), .val (.ref b91), .val (.int (1 : Int32))] [(.int (1 : Int32))])) t
              exact k)
            have HF : CHr Z own_EL s.vm s.heap T101.vm T101.heap := by
              rw [hh, e101]
              exact HC.trans (CHv.at (s := s) (vm0 := T94.vm) X101 hZ hEL HC.1)
            obtain ⟨fs, hr, hrun, hended, r1, r2, r3, r4⟩ := X101.leaveW (s := s) (vm₁ := T94.vm) hSin (by rw [e101]; exact hkin) (v := some (.int (1 : Int32))) (fun h => by rw [Bd.returns] at h; cases h)
            subst hS0
            refine ⟨_, _, pre _ ?_, hrun, hended, _, _, rfl, ?_, HF, r1, r2, r3, r4.mono (by decide) (by decide)⟩
            · exact retN X101 hx (t := .boolean) Bd.returns (by simp) (hb hby at_199) hr
            · show Q_law Z A B p1 p2 md cz h0 n0 _ T101.heap _
              rw [e101]
              exact ⟨rfl, N101⟩
      · replace pre : Pth p e below S0 T95 (mkF m 186 #[.val (.long A), .second, .val (.long B), .second, .val (.int p1), .val (.int p2), .val (.int md), .val (.int sA), .val (.int gA), .val (.int sB), .val (.int gB), .val (.int qB), .val (.ref b82), .val (.int (md &&& (3 : Int32))), .val (.ref b91), .val (.int (0 : Int32))] [(.ref b91), (.ref b82)]) := fun t k => pre t (by
          show Steps p.tables e below (T95.setTop (mkF m 152 #[.val (.long A), .second, .val (.long B), .second, .val (.int p1), .val (.int p2), .val (.int md), .val (.int sA), .val (.int gA), .val (.int sB), .val (.int gB), .val (.int qB), .val (.ref b82), .val (.int (md &&& (3 : Int32))), .val (.ref b91), .unset] [(.int qB), (.int p1)])) t
          refine XS.icmpYes X95.here hx rfl (pc0 := 152) (pc' := 179) rfl (hb hby at_152) rfl (XT.ii_ne_t z3) (by decide) (by decide) ?_
          show Steps p.tables e below (T95.setTop (mkF m 179 #[.val (.long A), .second, .val (.long B), .second, .val (.int p1), .val (.int p2), .val (.int md), .val (.int sA), .val (.int gA), .val (.int sB), .val (.int gB), .val (.int qB), .val (.ref b82), .val (.int (md &&& (3 : Int32))), .val (.ref b91), .unset] [])) t
          refine XS.iconst X95.here hx rfl (hb hby at_179) ?_
          show Steps p.tables e below (T95.setTop (mkF m 180 #[.val (.long A), .second, .val (.long B), .second, .val (.int p1), .val (.int p2), .val (.int md), .val (.int sA), .val (.int gA), .val (.int sB), .val (.int gB), .val (.int qB), .val (.ref b82), .val (.int (md &&& (3 : Int32))), .val (.ref b91), .unset] [(.int (0 : Int32))])) t
          refine XS.istore X95.here hx rfl (hb hby at_180) rfl (l' := #[.val (.long A), .second, .val (.long B), .second, .val (.int p1), .val (.int p2), .val (.int md), .val (.int sA), .val (.int gA), .val (.int sB), .val (.int gB), .val (.int qB), .val (.ref b82), .val (.int (md &&& (3 : Int32))), .val (.ref b91), .val (.int (0 : Int32))]) rfl ?_
          show Steps p.tables e below (T95.setTop (mkF m 182 #[.val (.long A), .second, .val (.long B), .second, .val (.int p1), .val (.int p2), .val (.int md), .val (.int sA), .val (.int gA), .val (.int sB), .val (.int gB), .val (.int qB), .val (.ref b82), .val (.int (md &&& (3 : Int32))), .val (.ref b91), .val (.int (0 : Int32))] [])) t
          refine XS.aload X95.here hx rfl (hb hby at_182) rfl rfl ?_
          show Steps p.tables e below (T95.setTop (mkF m 184 #[.val (.long A), .second, .val (.long B), .second, .val (.int p1), .val (.int p2), .val (.int md), .val (.int sA), .val (.int gA), .val (.int sB), .val (.int gB), .val (.int qB), .val (.ref b82), .val (.int (md &&& (3 : Int32))), .val (.ref b91), .val (.int (0 : Int32))] [(.ref b82)])) t
          refine XS.aload X95.here hx rfl (hb hby at_184) rfl rfl ?_
          show Steps p.tables e below (T95.setTop (mkF m 186 #[.val (.long A), .second, .val (.long B), .second, .val (.int p1), .val (.int p2), .val (.int md), .val (.int sA), .val (.int gA), .val (.int sB), .val (.int gB), .val (.int qB), .val (.ref b82), .val (.int (md &&& (3 : Int32))), .val (.ref b91), .val (.int (0 : Int32))] [(.ref b91), (.ref b82)])) t
          exact k)
        obtain ⟨cq102, kq102, q102a, q102b, q102c⟩ := isOf hZ rfl O_a.1
        obtain ⟨_, _, ⟨T102, L102, k102, n102⟩, -, X102, ⟨Lc102, hQ102, l102, y102, z102⟩, st102⟩ := X95.virtualBack hx (y := (⟨"com/example/originlint/originlint/Origin", "equals", "(Ljava/lang/Object;)Z"⟩ : MethodName)) (z := (⟨"com/example/originlint/originlint/Origin", "equals", "(Ljava/lang/Object;)Z"⟩ : MethodName)) hown (mvT hZ (hw _ (List.mem_of_getElem? (i := 47) rfl))) (mvT hZ (hw _ (List.mem_of_getElem? (i := 48) rfl))) (notFace_of_selects (args := #[]) (mvT hZ (hw _ (List.mem_of_getElem? (i := 50) rfl)))) (mvT hZ (hw _ (List.mem_of_getElem? (i := 50) rfl))) (mvT hZ (hw _ (List.mem_of_getElem? (i := 49) rfl))) (by decide) (backOf (W := 0) (rm_oeq l Z a0 hw [] b82 b91 as_r ah_r bs_r bh_r as_p ah_p bs_p bh_p p1 qB (own_str sA) (own_str gA) (own_str sB) (own_str gB) cz T95.heap n0 O_a O_b S_as S_ah S_bs S_bh (own_strlen _) (own_strlen _) (own_strlen _) (own_strlen _) (Scs.ext HX) hcz) hZ (hw _ (List.mem_of_getElem? (i := 51) rfl)) (hw _ (List.mem_of_getElem? (i := 2) rfl)) (by decide) (by decide)) q102a q102c (g := (mkF m 186 #[.val (.long A), .second, .val (.long B), .second, .val (.int p1), .val (.int p2), .val (.int md), .val (.int sA), .val (.int gA), .val (.int sB), .val (.int gB), .val (.int qB), .val (.ref b82), .val (.int (md &&& (3 : Int32))), .val (.ref b91), .val (.int (0 : Int32))] [(.ref b91), (.ref b82)])) rfl (by rw [hml]; rfl) (Steps.refl _) (argsL := [(.ref b91)]) (rest := []) (lenOf pd__Ljava_lang_Object__Z rfl) rfl (by show 2 * 0 + _ ≤ _; exact Nat.le_of_eq rfl) (hb hby at_186) (fun _ _ => ⟨rfl, rfl, (by decide : 26 + 0 ≤ _), (by decide : 54 + 0 ≤ _)⟩)
        dsimp only [Pt.U, Pt.locs, Pt.cells, Pt.slots] at X102 l102 y102 z102 st102 hQ102
        subst l102 y102 z102
        obtain ⟨rfl, N102q, e102⟩ := hQ102
        have N102 := Fr.app N95 N102q
        replace pre : Pth p e below S0 T102 (mkF m 189 #[.val (.long A), .second, .val (.long B), .second, .val (.int p1), .val (.int p2), .val (.int md), .val (.int sA), .val (.int gA), .val (.int sB), .val (.int gB), .val (.int qB), .val (.ref b82), .val (.int (md &&& (3 : Int32))), .val (.ref b91), .val (.int (0 : Int32))] [(.int (own_oe p1 qB (own_str sA) (own_str sB) (own_str gA) (own_str gB)))]) := fun t k => pre t (st102.trans k)
        replace pre : Pth p e below S0 T102 (mkF m 199 #[.val (.long A), .second, .val (.long B), .second, .val (.int p1), .val (.int p2), .val (.int md), .val (.int sA), .val (.int gA), .val (.int sB), .val (.int gB), .val (.int qB), .val (.ref b82), .val (.int (md &&& (3 : Int32))), .val (.ref b91), .val (.int (0 : Int32))] [(.int (1 : Int32))]) := fun t k => pre t (by
          show Steps p.tables e below (T102.setTop (mkF m 189 #[.val (.long A), .second, .val (.long B), .second, .val (.int p1), .val (.int p2), .val (.int md), .val (.int sA), .val (.int gA), .val (.int sB), .val (.int gB), .val (.int qB), .val (.ref b82), .val (.int (md &&& (3 : Int32))), .val (.ref b91), .val (.int (0 : Int32))] [(.int (own_oe p1 qB (own_str sA) (own_str sB) (own_str gA) (own_str gB)))])) t
          refine XS.iload X102.here hx rfl (hb hby at_189) rfl ?_
          show Steps p.tables e below (T102.setTop (mkF m 191 #[.val (.long A), .second, .val (.long B), .second, .val (.int p1), .val (.int p2), .val (.int md), .val (.int sA), .val (.int gA), .val (.int sB), .val (.int gB), .val (.int qB), .val (.ref b82), .val (.int (md &&& (3 : Int32))), .val (.ref b91), .val (.int (0 : Int32))] [(.int (0 : Int32)), (.int (own_oe p1 qB (own_str sA) (own_str sB) (own_str gA) (own_str gB)))])) t
          refine XS.icmpNo X102.here hx rfl (hb hby at_191) rfl (XT.ii_ne_f (by rw [own_oe, if_neg z3])) ?_
          show Steps p.tables e below (T102.setTop (mkF m 194 #[.val (.long A), .second, .val (.long B), .second, .val (.int p1), .val (.int p2), .val (.int md), .val (.int sA), .val (.int gA), .val (.int sB), .val (.int gB), .val (.int qB), .val (.ref b82), .val (.int (md &&& (3 : Int32))), .val (.ref b91), .val (.int (0 : Int32))] [])) t
          refine XS.iconst X102.here hx rfl (hb hby at_194) ?_
          show Steps p.tables e below (T102.setTop (mkF m 195 #[.val (.long A), .second, .val (.long B), .second, .val (.int p1), .val (.int p2), .val (.int md), .val (.int sA), .val (.int gA), .val (.int sB), .val (.int gB), .val (.int qB), .val (.ref b82), .val (.int (md &&& (3 : Int32))), .val (.ref b91), .val (.int (0 : Int32))] [(.int (1 : Int32))])) t
          refine XS.goto X102.here hx rfl (pc0 := 195) (pc' := 199) rfl (hb hby at_195) (by decide) (by decide) ?_
          show Steps p.tables e below (T102.setTop (mkF m 199 #[.val (.long A), .second, .val (.long B), .second, .val (.int p1), .val (.int p2), .val (.int md), .val (.int sA), .val (.int gA), .val (.int sB), .val (.int gB), .val (.int qB), .val (.ref b82), .val (.int (md &&& (3 : Int32))), .val (.ref b91), .val (.int (0 : Int32))] [(.int (1 : Int32))])) t
          exact k)
        have HF : CHr Z own_EL s.vm s.heap T102.vm T102.heap := by
          rw [hh, e102]
          exact HC.trans (CHv.at (s := s) (vm0 := T94.vm) X102 hZ hEL HC.1)
        obtain ⟨fs, hr, hrun, hended, r1, r2, r3, r4⟩ := X102.leaveW (s := s) (vm₁ := T94.vm) hSin (by rw [e102]; exact hkin) (v := some (.int (1 : Int32))) (fun h => by rw [Bd.returns] at h; cases h)
        subst hS0
        refine ⟨_, _, pre _ ?_, hrun, hended, _, _, rfl, ?_, HF, r1, r2, r3, r4.mono (by decide) (by decide)⟩
        · exact retN X102 hx (t := .boolean) Bd.returns (by simp) (hb hby at_199) hr
        · show Q_law Z A B p1 p2 md cz h0 n0 _ T102.heap _
          rw [e102]
          exact ⟨rfl, N102⟩
set_option maxRecDepth 65536 in
set_option maxHeartbeats 40000000 in
theorem comes_1 {Post : Tables → Env → Array Value → State → Outcome → State → Prop} (hpost : ∀ tb e args s v u, (limb_1_1.after args s (.returned v) u = true ∧ limb_1_2.after args s (.returned v) u = true ∧ True) → ReturnedEndW s (.returned v) u (Jvm.fieldLocs frame_1_writes args s ++ Jvm.arrayLocs frame_1_arrays args s ++ Jvm.staticLocs frame_1_statics s) 40 1216 → Post tb e args s (.returned v) u) :
    ArmFor flags0 classFile x code maxLocals ret World_1 tables_1 room_1 Calls_1 rest_1 Pre_1 Post := by
  intro l hfl _ _ p e ha hc hk s m args below hf hA hF happ hP
  obtain ⟨hcalls, hrest, hpre⟩ := hP
  obtain ⟨-, -, -, hnamed, -, -, -, hat⟩ := (Spec.applies_iff hf).mp happ
  obtain ⟨hg, hn⟩ := and_e (Cond.before_iff.mp (show (Jvm.Cond.and given_1 narrow_1).before args s = true from hpre))
  obtain ⟨gv1a, gv1b⟩ := and_e hg
  obtain ⟨gv2a, gv2b⟩ := and_e gv1b
  obtain ⟨gv3a, gv3b⟩ := and_e gv2b
  obtain ⟨gv4a, gv4b⟩ := and_e gv3b
  obtain ⟨gv5a, gv5b⟩ := and_e gv4b
  obtain ⟨w0, w1, w2, w3, w4, rfl⟩ : ∃ w0 w1 w2 w3 w4 : Value, args = #[w0, w1, w2, w3, w4] := by
    have hs : args.size = 5 := by simpa [Cond.value, given_1] using gv1a
    obtain ⟨L⟩ := args
    match L, hs with
    | [w0, w1, w2, w3, w4], _ => exact ⟨w0, w1, w2, w3, w4, rfl⟩
  have hw := fun d (hd : d ∈ tables_1) => atoms_spec (ws := Jvm.Cond.code x code maxLocals ret :: tables_1) hat d (List.mem_cons_of_mem _ hd)
  have hfit : Fit s := fun {y c} hc i hi => by
    obtain ⟨ha, rfl⟩ := Array.getElem?_eq_some_iff.mp hc
    have q := List.all_eq_true.mp ((Array.all_eq_true_iff_forall_mem.mp hF) _ (Array.getElem_mem ha)) i (List.mem_range.mpr hi)
    simpa [Array.getElem?_eq_getElem hi] using q
  obtain ⟨hsets, hown0⟩ := atoms_of _ (rest_1_c_eq ▸ (show rest_1_c.before _ s = true from hrest))
  have hr0 := Cond.before_iff.mp hown0
  obtain ⟨i0, ei0⟩ := isL_v gv2a
  obtain rfl : w0 = (.long i0) := Option.some.inj ei0
  obtain ⟨i1, ei1⟩ := isL_v gv3a
  obtain rfl : w1 = (.long i1) := Option.some.inj ei1
  obtain ⟨i2, ei2⟩ := is_v gv4a
  obtain rfl : w2 = (.int i2) := Option.some.inj ei2
  obtain ⟨i3, ei3⟩ := is_v gv5a
  obtain rfl : w3 = (.int i3) := Option.some.inj ei3
  obtain ⟨i4, ei4⟩ := is_v gv5b
  obtain rfl : w4 = (.int i4) := Option.some.inj ei4
  have hS (k : Nat) (d : Jvm.Cond) (hk : jdkStatics_1[k]? = some d) : d.before _ s = true := hsets _ (List.mem_of_getElem? hk)
  obtain ⟨cz, ecz⟩ := is_v (Cond.before_iff.mp (hS 1 _ rfl))
  have Scs := Sta.start ecz (Or.inl (hS 0 _ rfl))
  have hcz : ¬ cz = 0 := fun q => by
    have r := hS 2 _ rfl
    subst q
    simp only [Cond.before, Cond.holds, Cond.value, ecz, Term.int_eval] at r
    simp at r
  have hch : CHv s own_EL s.vm s.heap := CHv.start (a0 := #[.long i0, .long i1, .int i2, .int i3, .int i4]) (EW.cons (text := "") (hw _ (List.mem_of_getElem? (i := 24) rfl)) (by decide) EW.nil) (fun p hp => by obtain rfl := List.mem_singleton.mp hp; exact hcalls.1 (_, 7) (List.mem_of_getElem? (i := 0) rfl)) (hS 2 _ rfl) (hw _ (List.mem_of_getElem? (i := 25) rfl)) (hw _ (List.mem_of_getElem? (i := 11) rfl))
  obtain ⟨n, o, h1, h2, h3, _, L, rfl, ⟨rfl, N⟩, -, hq⟩ := rm_law l s _ hw tables_1 i0 i1 i2 i3 i4 cz s.heap s.heap.size (Nat.le_refl _) Scs hcz p e ha hc hk s m _ below hf ((Spec.applies_iff_loose hf).mp happ).1 ⟨rfl, State.Warmed39.refl s, rfl, hch⟩ trivial
  refine ⟨n, _, h1, h2, h3, hpost _ _ _ _ _ _ ⟨Cond.after_iff.mpr rfl, Cond.after_iff.mpr (eq_i res_at (Term.int_eval (1)) rfl), trivial⟩ ⟨hq.1, hq.2.1, hq.2.2.1, (hq.2.2.2.sift fun y hy => Or.inr (N y hy)).mono (by decide) (by decide)⟩⟩
theorem main_1_1 : Claimed_1_1 := comes_1 fun _ _ _ _ _ _ h hF => ⟨h.1, hF⟩
theorem main_1_2 : Claimed_1_2 := comes_1 fun _ _ _ _ _ _ h hF => ⟨h.2.1, hF⟩
end Jvm.Pilot.@@N@@
namespace Jvm.Pilot.@@N@@
open Jvm Jvm.ClassFile Sem Op Lib Jvm.Free Jvm.Stand Jvm.Pilot.@@N@@.Jvm.D
/-! MADE BY PROGRAM (witnessworld.py) out of the Statement's table words and the real class files: 21 classes; the members and pool entries that the words name. The judged class is class 1, her method 4. -/
namespace start1
open Jvm.ClassFile
def u (s : String) : CpInfo := .utf8 (stringToUtf16 s)
/-- a pool by its gaps: so many unusable entries, then the entry; so many at the end -/
def gap : Nat → List CpInfo → List CpInfo
  | 0, r => r
  | n + 1, r => .unusable :: gap n r
def poolList (es : List (Nat × CpInfo)) (last : Nat) : List CpInfo := es.foldr (fun e r => gap e.1 (e.2 :: r)) (gap last [])
def pool (es : List (Nat × CpInfo)) (last : Nat) : Array CpInfo := ⟨poolList es last⟩
def fileOf (pool : Array CpInfo) (this : Nat) (attrs : Array Attribute := #[]) (ms : Array MethodInfo := #[]) (fl : Nat := 33) (sup : Nat := 0) (ifs : Array Nat := #[]) (fds : Array FieldInfo := #[]) : ClassFile where
  minorVersion := 0
  majorVersion := 65
  constantPool := pool
  accessFlags := fl
  thisClass := this
  superClass := sup
  interfaces := ifs
  fields := fds
  methods := ms
  attributes := attrs
def plain (name : String) (sup : Option ClassId) : Class where
  name := name
  kind := .ordinary
  loader := none
  accessFlags := 33
  super := sup
  interfaces := #[]
  cf := none
  fields := #[]
  methods := #[]
  instanceTypes := #[]
  staticTypes := #[]
  resolved := #[]
  callSites := []
  init := .initialized
  statics := none
  mirror := none

def pool0 : Array CpInfo := pool [(5, u "<init>"), (0, u "()V"), (1, .class_ 10), (1, u "java/lang/Object")] 113

def k0c0 : Code := { maxStack := 0, maxLocals := 1, code := object_method_1_code, exceptionTable := #[], attributes := #[] }
def k0m0 : Method := { name := "<init>", desc := "()V", sig := { parameters := [], returnType := none }, accessFlags := 1, code := some k0c0 }
/-- java/lang/Object -/
def k0 : Class := { plain "java/lang/Object" none with
  accessFlags := 33
  interfaces := #[]
  cf := some (fileOf pool0 8 #[] #[{ accessFlags := 1, nameIndex := 5, descriptorIndex := 6, attributes := #[] }] 33 0 #[] #[])
  fields := #[]
  methods := #[k0m0]
  instanceTypes := #[]
  staticTypes := #[]
  resolved := Array.replicate 124 none
  statics := none }

def pool1 : Array CpInfo := pool [(2, .class_ 4), (1, u "java/lang/Object"), (0, u "<init>"), (0, u "()V"), (0, .methodref 8 9), (0, .class_ 10), (0, .nameAndType 11 12), (0, u "com/example/originlint/originlint/OriginEqualsPinLaw"), (0, u "len"), (0, u "(I)I"), (0, .class_ 14), (0, u "java/lang/String"), (0, .methodref 13 16), (0, .nameAndType 5 17), (0, u "([C)V"), (0, .methodref 13 19), (0, .nameAndType 20 21), (0, u "valueOf"), (0, u "(C)Ljava/lang/String;"), (0, .class_ 23), (0, u "com/example/originlint/originlint/Origin"), (0, .methodref 8 25), (0, .nameAndType 26 27), (0, u "str"), (0, u "(I)Ljava/lang/String;"), (0, .methodref 22 29), (0, .nameAndType 5 30), (0, u "(Ljava/lang/String;Ljava/lang/String;I)V"), (0, .methodref 22 32), (0, .nameAndType 33 34), (0, u "equals"), (0, u "(Ljava/lang/Object;)Z"), (0, .methodref 8 36), (0, .nameAndType 37 38), (0, u "same"), (0, u "(II)Z"), (3, u "law"), (0, u "(JJIII)Z")] 2

def k1m0 : Method := { name := "<init>", desc := "()V", sig := { parameters := [], returnType := none }, accessFlags := 1, code := none }
def k1c1 : Code := { maxStack := 2, maxLocals := 1, code := method_2_code, exceptionTable := #[], attributes := #[] }
def k1m1 : Method := { name := "len", desc := "(I)I", sig := { parameters := [.int], returnType := some .int }, accessFlags := 10, code := some k1c1 }
def k1c2 : Code := { maxStack := 6, maxLocals := 4, code := method_3_code, exceptionTable := #[], attributes := #[] }
def k1m2 : Method := { name := "str", desc := "(I)Ljava/lang/String;", sig := { parameters := [.int], returnType := some (.object "java/lang/String") }, accessFlags := 10, code := some k1c2 }
def k1c3 : Code := { maxStack := 3, maxLocals := 4, code := method_4_code, exceptionTable := #[], attributes := #[] }
def k1m3 : Method := { name := "same", desc := "(II)Z", sig := { parameters := [.int, .int], returnType := some .boolean }, accessFlags := 10, code := some k1c3 }
def k1c4 : Code := { maxStack := 5, maxLocals := 16, code := code, exceptionTable := #[], attributes := #[] }
def k1m4 : Method := { name := "law", desc := "(JJIII)Z", sig := { parameters := [.long, .long, .int, .int, .int], returnType := some .boolean }, accessFlags := 9, code := some k1c4 }
/-- com/example/originlint/originlint/OriginEqualsPinLaw -/
def k1 : Class := { plain "com/example/originlint/originlint/OriginEqualsPinLaw" (some 0) with
  accessFlags := 49
  interfaces := #[]
  cf := some (fileOf pool1 8 #[] #[{ accessFlags := 1, nameIndex := 5, descriptorIndex := 6, attributes := #[] }, { accessFlags := 10, nameIndex := 11, descriptorIndex := 12, attributes := #[] }, { accessFlags := 10, nameIndex := 26, descriptorIndex := 27, attributes := #[] }, { accessFlags := 10, nameIndex := 37, descriptorIndex := 38, attributes := #[] }, { accessFlags := 9, nameIndex := 42, descriptorIndex := 43, attributes := #[] }] 49 2 #[] #[])
  fields := #[]
  methods := #[k1m0, k1m1, k1m2, k1m3, k1m4]
  instanceTypes := #[]
  staticTypes := #[]
  resolved := Array.replicate 46 none
  statics := none }

def pool2 : Array CpInfo := pool [(1, .methodref 2 3), (0, .class_ 4), (0, .nameAndType 5 6), (0, u "java/lang/Object"), (0, u "<init>"), (0, u "()V"), (0, .class_ 8), (0, u "java/lang/Record")] 13

def k2c0 : Code := { maxStack := 1, maxLocals := 1, code := jdk_30_method_1_code, exceptionTable := #[], attributes := #[] }
def k2m0 : Method := { name := "<init>", desc := "()V", sig := { parameters := [], returnType := none }, accessFlags := 4, code := some k2c0 }
/-- java/lang/Record -/
def k2 : Class := { plain "java/lang/Record" (some 0) with
  accessFlags := 1057
  interfaces := #[]
  cf := some (fileOf pool2 7 #[] #[{ accessFlags := 4, nameIndex := 5, descriptorIndex := 6, attributes := #[] }] 1057 2 #[] #[])
  fields := #[]
  methods := #[k2m0]
  instanceTypes := #[]
  staticTypes := #[]
  resolved := Array.replicate 22 none
  statics := none }

def pool3 : Array CpInfo := pool [(1, .methodref 2 3), (0, .class_ 4), (0, .nameAndType 5 6), (0, u "java/lang/Record"), (0, u "<init>"), (0, u "()V"), (0, .fieldref 8 9), (0, .class_ 10), (0, .nameAndType 11 12), (0, u "com/example/originlint/originlint/Origin"), (0, u "scheme"), (0, u "Ljava/lang/String;"), (0, .fieldref 8 14), (0, .nameAndType 15 12), (0, u "host"), (0, .fieldref 8 17), (0, .nameAndType 18 19), (0, u "port"), (0, u "I"), (0, .methodref 21 22), (0, .class_ 23), (0, .nameAndType 24 25), (0, u "java/lang/String"), (0, u "equals"), (0, u "(Ljava/lang/Object;)Z"), (70, u "(Ljava/lang/String;Ljava/lang/String;I)V")] 32

def k3c0 : Code := { maxStack := 2, maxLocals := 4, code := prog_31_method_1_code, exceptionTable := #[], attributes := #[] }
def k3m0 : Method := { name := "<init>", desc := "(Ljava/lang/String;Ljava/lang/String;I)V", sig := { parameters := [(.object "java/lang/String"), (.object "java/lang/String"), .int], returnType := none }, accessFlags := 0, code := some k3c0 }
def k3c1 : Code := { maxStack := 2, maxLocals := 3, code := prog_31_method_2_code, exceptionTable := #[], attributes := #[] }
def k3m1 : Method := { name := "equals", desc := "(Ljava/lang/Object;)Z", sig := { parameters := [(.object "java/lang/Object")], returnType := some .boolean }, accessFlags := 1, code := some k3c1 }
/-- com/example/originlint/originlint/Origin -/
def k3 : Class := { plain "com/example/originlint/originlint/Origin" (some 2) with
  accessFlags := 48
  interfaces := #[]
  cf := some (fileOf pool3 8 #[] #[{ accessFlags := 0, nameIndex := 5, descriptorIndex := 96, attributes := #[] }, { accessFlags := 1, nameIndex := 24, descriptorIndex := 25, attributes := #[] }] 48 2 #[] #[{ accessFlags := 18, nameIndex := 11, descriptorIndex := 12, attributes := #[] }, { accessFlags := 18, nameIndex := 15, descriptorIndex := 12, attributes := #[] }, { accessFlags := 18, nameIndex := 18, descriptorIndex := 19, attributes := #[] }])
  fields := #[{ name := "scheme", type := (.object "java/lang/String"), accessFlags := 18, slot := 0, constantValue := 0 }, { name := "host", type := (.object "java/lang/String"), accessFlags := 18, slot := 1, constantValue := 0 }, { name := "port", type := .int, accessFlags := 18, slot := 2, constantValue := 0 }]
  methods := #[k3m0, k3m1]
  instanceTypes := #[(.object "java/lang/String"), (.object "java/lang/String"), .int]
  staticTypes := #[]
  resolved := Array.replicate 129 none
  statics := none }

def pool4 : Array CpInfo := pool [(1, .class_ 2), (0, u "java/io/Serializable"), (0, .class_ 4), (0, u "java/lang/Object")] 2

/-- java/io/Serializable -/
def k4 : Class := { plain "java/io/Serializable" (some 0) with
  accessFlags := 1537
  interfaces := #[]
  cf := some (fileOf pool4 1 #[] #[] 1537 3 #[] #[])
  fields := #[]
  methods := #[]
  instanceTypes := #[]
  staticTypes := #[]
  resolved := Array.replicate 7 none
  statics := none }

def pool5 : Array CpInfo := pool [(1, .class_ 2), (0, u "java/lang/Comparable"), (0, .class_ 4), (0, u "java/lang/Object")] 7

/-- java/lang/Comparable -/
def k5 : Class := { plain "java/lang/Comparable" (some 0) with
  accessFlags := 1537
  interfaces := #[]
  cf := some (fileOf pool5 1 #[] #[] 1537 3 #[] #[])
  fields := #[]
  methods := #[]
  instanceTypes := #[]
  staticTypes := #[]
  resolved := Array.replicate 12 none
  statics := none }

def pool6 : Array CpInfo := pool [(2, .class_ 4), (1, u "java/lang/CharSequence"), (42, .class_ 48), (0, u "java/lang/CharSequence$1CodePointIterator"), (10, .class_ 60), (0, u "java/lang/CharSequence$1CharIterator"), (5, .class_ 67), (0, u "java/lang/Object")] 63

/-- java/lang/CharSequence -/
def k6 : Class := { plain "java/lang/CharSequence" (some 0) with
  accessFlags := 1537
  interfaces := #[]
  cf := some (fileOf pool6 2 #[.nestMembers #[47, 59]] #[] 1537 66 #[] #[])
  fields := #[]
  methods := #[]
  instanceTypes := #[]
  staticTypes := #[]
  resolved := Array.replicate 131 none
  statics := none }

def pool7 : Array CpInfo := pool [(1, .class_ 2), (0, u "java/lang/constant/Constable"), (0, .class_ 4), (0, u "java/lang/Object")] 6

/-- java/lang/constant/Constable -/
def k7 : Class := { plain "java/lang/constant/Constable" (some 0) with
  accessFlags := 1537
  interfaces := #[]
  cf := some (fileOf pool7 1 #[] #[] 1537 3 #[] #[])
  fields := #[]
  methods := #[]
  instanceTypes := #[]
  staticTypes := #[]
  resolved := Array.replicate 11 none
  statics := none }

def pool8 : Array CpInfo := pool [(1, .class_ 2), (0, u "java/lang/constant/ConstantDesc"), (0, .class_ 4), (0, u "java/lang/Object")] 32

/-- java/lang/constant/ConstantDesc -/
def k8 : Class := { plain "java/lang/constant/ConstantDesc" (some 0) with
  accessFlags := 1537
  interfaces := #[]
  cf := some (fileOf pool8 1 #[] #[] 1537 3 #[] #[])
  fields := #[]
  methods := #[]
  instanceTypes := #[]
  staticTypes := #[]
  resolved := Array.replicate 37 none
  statics := none }

def pool9 : Array CpInfo := pool [(1, .methodref 2 3), (0, .class_ 4), (0, .nameAndType 5 6), (0, u "java/lang/Object"), (0, u "<init>"), (0, u "()V"), (0, .string 8), (0, u ""), (0, .fieldref 10 11), (0, .class_ 12), (0, .nameAndType 13 14), (0, u "java/lang/String"), (0, u "value"), (0, u "[B"), (0, .fieldref 10 16), (0, .nameAndType 17 18), (0, u "coder"), (0, u "B"), (2, u "hash"), (0, u "I"), (2, u "hashIsZero"), (0, u "Z"), (0, .methodref 10 28), (0, .nameAndType 5 29), (0, u "([CIILjava/lang/Void;)V"), (8, .fieldref 10 39), (0, .nameAndType 40 26), (0, u "COMPACT_STRINGS"), (1, .class_ 44), (1, u "java/lang/StringUTF16"), (0, u "compress"), (1, .methodref 42 48), (0, .nameAndType 49 50), (0, u "coderFromArrayLen"), (0, u "([BI)B"), (2, u "toBytes"), (53, .class_ 109), (1, u "java/lang/StringLatin1"), (67, .methodref 42 178), (0, .nameAndType 45 179), (0, u "([CII)[B"), (29, .methodref 10 210), (0, .nameAndType 5 211), (0, u "([BB)V"), (157, u "(C)Z"), (171, .methodref 107 542), (0, .nameAndType 543 544), (0, u "equals"), (0, u "([B[B)Z"), (28, u "(Ljava/lang/Object;)Z"), (1, .class_ 576), (0, u "java/lang/CharSequence"), (22, u "CASE_INSENSITIVE_ORDER"), (0, u "Ljava/util/Comparator;"), (181, u "valueOf"), (0, u "(C)Ljava/lang/String;"), (226, u "([C)V"), (4, .methodref 107 1016), (0, .nameAndType 1017 369), (0, u "canEncode"), (0, .methodref 107 1019), (0, .nameAndType 53 1020), (0, u "(C)[B"), (80, u "serialPersistentFields"), (0, u "[Ljava/io/ObjectStreamField;"), (0, .class_ 1104), (0, u "java/lang/String$CaseInsensitiveComparator"), (1, .class_ 1107), (0, u "java/io/Serializable"), (0, .class_ 1109), (0, u "java/lang/Comparable"), (0, .class_ 1111), (0, u "java/lang/constant/Constable"), (0, .class_ 1113), (0, u "java/lang/constant/ConstantDesc"), (2, u "serialVersionUID"), (0, u "J"), (3, u "REPL"), (0, u "C"), (2, u "LATIN1"), (1, u "UTF16")] 323

def k9m0 : Method := { name := "<init>", desc := "()V", sig := { parameters := [], returnType := none }, accessFlags := 1, code := none }
def k9c1 : Code := { maxStack := 5, maxLocals := 2, code := jdk_42_method_3_code, exceptionTable := #[], attributes := #[] }
def k9m1 : Method := { name := "<init>", desc := "([C)V", sig := { parameters := [(.array .char)], returnType := none }, accessFlags := 1, code := some k9c1 }
def k9c2 : Code := { maxStack := 2, maxLocals := 3, code := jdk_42_method_66_code, exceptionTable := #[], attributes := #[] }
def k9m2 : Method := { name := "equals", desc := "(Ljava/lang/Object;)Z", sig := { parameters := [(.object "java/lang/Object")], returnType := some .boolean }, accessFlags := 1, code := some k9c2 }
def k9c3 : Code := { maxStack := 4, maxLocals := 1, code := jdk_42_method_139_code, exceptionTable := #[], attributes := #[] }
def k9m3 : Method := { name := "valueOf", desc := "(C)Ljava/lang/String;", sig := { parameters := [.char], returnType := some (.object "java/lang/String") }, accessFlags := 9, code := some k9c3 }
def k9c4 : Code := { maxStack := 4, maxLocals := 6, code := jdk_42_method_149_code, exceptionTable := #[], attributes := #[] }
def k9m4 : Method := { name := "<init>", desc := "([CIILjava/lang/Void;)V", sig := { parameters := [(.array .char), .int, .int, (.object "java/lang/Void")], returnType := none }, accessFlags := 2, code := some k9c4 }
def k9c5 : Code := { maxStack := 2, maxLocals := 3, code := jdk_42_method_151_code, exceptionTable := #[], attributes := #[] }
def k9m5 : Method := { name := "<init>", desc := "([BB)V", sig := { parameters := [(.array .byte), .byte], returnType := none }, accessFlags := 0, code := some k9c5 }
/-- java/lang/String -/
def k9 : Class := { plain "java/lang/String" (some 0) with
  accessFlags := 49
  interfaces := #[4, 5, 6, 7, 8]
  cf := some (fileOf pool9 10 #[.nestMembers #[1103]] #[{ accessFlags := 1, nameIndex := 5, descriptorIndex := 6, attributes := #[] }, { accessFlags := 1, nameIndex := 5, descriptorIndex := 1010, attributes := #[] }, { accessFlags := 1, nameIndex := 543, descriptorIndex := 573, attributes := #[] }, { accessFlags := 9, nameIndex := 782, descriptorIndex := 783, attributes := #[] }, { accessFlags := 2, nameIndex := 5, descriptorIndex := 29, attributes := #[] }, { accessFlags := 0, nameIndex := 5, descriptorIndex := 211, attributes := #[] }] 49 2 #[1106, 1108, 575, 1110, 1112] #[{ accessFlags := 18, nameIndex := 13, descriptorIndex := 14, attributes := #[] }, { accessFlags := 18, nameIndex := 17, descriptorIndex := 18, attributes := #[] }, { accessFlags := 2, nameIndex := 21, descriptorIndex := 22, attributes := #[] }, { accessFlags := 2, nameIndex := 25, descriptorIndex := 26, attributes := #[] }, { accessFlags := 26, nameIndex := 1116, descriptorIndex := 1117, attributes := #[] }, { accessFlags := 24, nameIndex := 40, descriptorIndex := 26, attributes := #[] }, { accessFlags := 26, nameIndex := 1101, descriptorIndex := 1102, attributes := #[] }, { accessFlags := 26, nameIndex := 1121, descriptorIndex := 1122, attributes := #[] }, { accessFlags := 25, nameIndex := 599, descriptorIndex := 600, attributes := #[] }, { accessFlags := 24, nameIndex := 1125, descriptorIndex := 18, attributes := #[] }, { accessFlags := 24, nameIndex := 1127, descriptorIndex := 18, attributes := #[] }])
  fields := #[{ name := "value", type := (.array .byte), accessFlags := 18, slot := 0, constantValue := 0 }, { name := "coder", type := .byte, accessFlags := 18, slot := 1, constantValue := 0 }, { name := "hash", type := .int, accessFlags := 2, slot := 2, constantValue := 0 }, { name := "hashIsZero", type := .boolean, accessFlags := 2, slot := 3, constantValue := 0 }, { name := "serialVersionUID", type := .long, accessFlags := 26, slot := 0, constantValue := 0 }, { name := "COMPACT_STRINGS", type := .boolean, accessFlags := 24, slot := 1, constantValue := 0 }, { name := "serialPersistentFields", type := (.array (.object "java/io/ObjectStreamField")), accessFlags := 26, slot := 2, constantValue := 0 }, { name := "REPL", type := .char, accessFlags := 26, slot := 3, constantValue := 0 }, { name := "CASE_INSENSITIVE_ORDER", type := (.object "java/util/Comparator"), accessFlags := 25, slot := 4, constantValue := 0 }, { name := "LATIN1", type := .byte, accessFlags := 24, slot := 5, constantValue := 0 }, { name := "UTF16", type := .byte, accessFlags := 24, slot := 6, constantValue := 0 }]
  methods := #[k9m0, k9m1, k9m2, k9m3, k9m4, k9m5]
  instanceTypes := #[(.array .byte), .byte, .int, .boolean]
  staticTypes := #[.long, .boolean, (.array (.object "java/io/ObjectStreamField")), .char, (.object "java/util/Comparator"), .byte, .byte]
  resolved := Array.replicate 1451 none
  statics := some 0 }

def pool10 : Array CpInfo := pool [(6, .class_ 8), (1, u "java/lang/Object"), (0, u "<init>"), (0, u "()V"), (1, .class_ 14), (1, u "java/lang/StringUTF16"), (31, u "$assertionsDisabled"), (0, u "Z"), (13, u "HI_BYTE_SHIFT"), (0, u "I"), (2, u "LO_BYTE_SHIFT"), (49, .methodref 12 116), (0, .nameAndType 117 118), (0, u "compress"), (0, u "([CI[BII)I"), (3, u "([CII)[B"), (138, u "coderFromArrayLen"), (0, u "([BI)B"), (106, .class_ 371), (1, u "java/lang/StringUTF16$LinesSpliterator"), (58, u "MAX_LENGTH"), (196, .class_ 628), (0, u "java/lang/StringUTF16$CodePointsSpliterator"), (0, .class_ 630), (0, u "java/lang/StringUTF16$CharsSpliterator")] 4

def k10m0 : Method := { name := "<init>", desc := "()V", sig := { parameters := [], returnType := none }, accessFlags := 0, code := none }
def k10c1 : Code := { maxStack := 2, maxLocals := 2, code := jdk_52_method_15_code, exceptionTable := #[], attributes := #[] }
def k10m1 : Method := { name := "coderFromArrayLen", desc := "([BI)B", sig := { parameters := [(.array .byte), .int], returnType := some .byte }, accessFlags := 8, code := some k10c1 }
def k10c2 : Code := { maxStack := 5, maxLocals := 6, code := jdk_52_method_16_code, exceptionTable := #[], attributes := #[] }
def k10m2 : Method := { name := "compress", desc := "([CII)[B", sig := { parameters := [(.array .char), .int, .int], returnType := some (.array .byte) }, accessFlags := 9, code := some k10c2 }
def k10c3 : Code := { maxStack := 3, maxLocals := 7, code := jdk_52_method_21_code, exceptionTable := #[], attributes := #[] }
def k10m3 : Method := { name := "compress", desc := "([CI[BII)I", sig := { parameters := [(.array .char), .int, (.array .byte), .int, .int], returnType := some .int }, accessFlags := 9, code := some k10c3 }
/-- java/lang/StringUTF16 -/
def k10 : Class := { plain "java/lang/StringUTF16" (some 0) with
  accessFlags := 48
  interfaces := #[]
  cf := some (fileOf pool10 12 #[.nestMembers #[627, 629, 369]] #[{ accessFlags := 0, nameIndex := 9, descriptorIndex := 10, attributes := #[] }, { accessFlags := 8, nameIndex := 261, descriptorIndex := 262, attributes := #[] }, { accessFlags := 9, nameIndex := 117, descriptorIndex := 122, attributes := #[] }, { accessFlags := 9, nameIndex := 117, descriptorIndex := 118, attributes := #[] }] 48 6 #[] #[{ accessFlags := 26, nameIndex := 61, descriptorIndex := 62, attributes := #[] }, { accessFlags := 26, nameIndex := 65, descriptorIndex := 62, attributes := #[] }, { accessFlags := 24, nameIndex := 430, descriptorIndex := 62, attributes := #[] }, { accessFlags := 4120, nameIndex := 46, descriptorIndex := 47, attributes := #[] }])
  fields := #[{ name := "HI_BYTE_SHIFT", type := .int, accessFlags := 26, slot := 0, constantValue := 0 }, { name := "LO_BYTE_SHIFT", type := .int, accessFlags := 26, slot := 1, constantValue := 0 }, { name := "MAX_LENGTH", type := .int, accessFlags := 24, slot := 2, constantValue := 0 }, { name := "$assertionsDisabled", type := .boolean, accessFlags := 4120, slot := 3, constantValue := 0 }]
  methods := #[k10m0, k10m1, k10m2, k10m3]
  instanceTypes := #[]
  staticTypes := #[.int, .int, .int, .boolean]
  resolved := Array.replicate 635 none
  statics := none }

def pool11 : Array CpInfo := pool [(4, .class_ 6), (1, u "java/lang/Object"), (0, u "<init>"), (0, u "()V"), (5, .class_ 16), (1, u "java/lang/StringLatin1"), (73, u "canEncode"), (14, u "(C)Z"), (15, u "$assertionsDisabled"), (0, u "Z"), (98, .class_ 223), (1, u "java/lang/StringLatin1$LinesSpliterator"), (57, u "equals"), (0, u "([B[B)Z"), (97, u "toBytes"), (1, u "(C)[B"), (7, .class_ 391), (0, u "java/lang/StringLatin1$CharsSpliterator")] 3

def k11m0 : Method := { name := "<init>", desc := "()V", sig := { parameters := [], returnType := none }, accessFlags := 0, code := none }
def k11c1 : Code := { maxStack := 2, maxLocals := 1, code := jdk_43_method_3_code, exceptionTable := #[], attributes := #[] }
def k11m1 : Method := { name := "canEncode", desc := "(C)Z", sig := { parameters := [.char], returnType := some .boolean }, accessFlags := 9, code := some k11c1 }
def k11c2 : Code := { maxStack := 3, maxLocals := 3, code := jdk_43_method_13_code, exceptionTable := #[], attributes := #[] }
def k11m2 : Method := { name := "equals", desc := "([B[B)Z", sig := { parameters := [(.array .byte), (.array .byte)], returnType := some .boolean }, accessFlags := 9, code := some k11c2 }
def k11c3 : Code := { maxStack := 4, maxLocals := 1, code := jdk_43_method_46_code, exceptionTable := #[], attributes := #[] }
def k11m3 : Method := { name := "toBytes", desc := "(C)[B", sig := { parameters := [.char], returnType := some (.array .byte) }, accessFlags := 9, code := some k11c3 }
/-- java/lang/StringLatin1 -/
def k11 : Class := { plain "java/lang/StringLatin1" (some 0) with
  accessFlags := 48
  interfaces := #[]
  cf := some (fileOf pool11 14 #[.nestMembers #[390, 221]] #[{ accessFlags := 0, nameIndex := 7, descriptorIndex := 8, attributes := #[] }, { accessFlags := 9, nameIndex := 90, descriptorIndex := 105, attributes := #[] }, { accessFlags := 9, nameIndex := 281, descriptorIndex := 282, attributes := #[] }, { accessFlags := 9, nameIndex := 380, descriptorIndex := 382, attributes := #[] }] 48 4 #[] #[{ accessFlags := 4120, nameIndex := 121, descriptorIndex := 122, attributes := #[] }])
  fields := #[{ name := "$assertionsDisabled", type := .boolean, accessFlags := 4120, slot := 0, constantValue := 0 }]
  methods := #[k11m0, k11m1, k11m2, k11m3]
  instanceTypes := #[]
  staticTypes := #[.boolean]
  resolved := Array.replicate 395 none
  statics := none }

def pool12 : Array CpInfo := pool [(2, .class_ 4), (1, u "java/lang/Object"), (0, u "<init>"), (0, u "()V"), (17, .class_ 26), (1, u "jdk/internal/util/Preconditions"), (28, .class_ 56), (0, u "jdk/internal/util/Preconditions$4"), (57, .class_ 115), (0, u "jdk/internal/util/Preconditions$1"), (7, u "SIOOBE_FORMATTER"), (0, u "Ljava/util/function/BiFunction;"), (0, .class_ 126), (0, u "jdk/internal/util/Preconditions$2"), (3, u "AIOOBE_FORMATTER"), (0, .class_ 132), (0, u "jdk/internal/util/Preconditions$3"), (3, u "IOOBE_FORMATTER")] 57

def k12m0 : Method := { name := "<init>", desc := "()V", sig := { parameters := [], returnType := none }, accessFlags := 1, code := none }
/-- jdk/internal/util/Preconditions -/
def k12 : Class := { plain "jdk/internal/util/Preconditions" (some 0) with
  accessFlags := 33
  interfaces := #[]
  cf := some (fileOf pool12 24 #[.nestMembers #[55, 131, 125, 114]] #[{ accessFlags := 1, nameIndex := 5, descriptorIndex := 6, attributes := #[] }] 33 2 #[] #[{ accessFlags := 25, nameIndex := 123, descriptorIndex := 124, attributes := #[] }, { accessFlags := 25, nameIndex := 130, descriptorIndex := 124, attributes := #[] }, { accessFlags := 25, nameIndex := 136, descriptorIndex := 124, attributes := #[] }])
  fields := #[{ name := "SIOOBE_FORMATTER", type := (.object "java/util/function/BiFunction"), accessFlags := 25, slot := 0, constantValue := 0 }, { name := "AIOOBE_FORMATTER", type := (.object "java/util/function/BiFunction"), accessFlags := 25, slot := 1, constantValue := 0 }, { name := "IOOBE_FORMATTER", type := (.object "java/util/function/BiFunction"), accessFlags := 25, slot := 2, constantValue := 0 }]
  methods := #[k12m0]
  instanceTypes := #[]
  staticTypes := #[(.object "java/util/function/BiFunction"), (.object "java/util/function/BiFunction"), (.object "java/util/function/BiFunction")]
  resolved := Array.replicate 194 none
  statics := some 1 }

def pool13 : Array CpInfo := pool [(9, u "<init>"), (6, .class_ 18), (1, u "java/lang/Object"), (0, u "()V"), (1, .class_ 23), (1, u "jdk/internal/util/ArraysSupport"), (0, u "LOG2_ARRAY_LONG_INDEX_SCALE"), (0, u "I"), (2, u "U"), (0, u "Ljdk/internal/misc/Unsafe;"), (8, u "BIG_ENDIAN"), (0, u "Z"), (8, u "LOG2_BYTE_BIT_SIZE"), (4, u "LOG2_ARRAY_INT_INDEX_SCALE"), (54, u "JLA"), (0, u "Ljdk/internal/access/JavaLangAccess;"), (11, u "LOG2_ARRAY_BOOLEAN_INDEX_SCALE"), (9, u "LOG2_ARRAY_BYTE_INDEX_SCALE"), (5, u "LOG2_ARRAY_CHAR_INDEX_SCALE"), (5, u "LOG2_ARRAY_SHORT_INDEX_SCALE"), (18, u "LOG2_ARRAY_FLOAT_INDEX_SCALE"), (24, u "LOG2_ARRAY_DOUBLE_INDEX_SCALE"), (89, u "T_BOOLEAN"), (2, u "T_CHAR"), (1, u "T_FLOAT"), (1, u "T_DOUBLE"), (1, u "T_BYTE"), (1, u "T_SHORT"), (1, u "T_INT"), (1, u "T_LONG"), (1, u "SOFT_MAX_ARRAY_LENGTH")] 83

def k13m0 : Method := { name := "<init>", desc := "()V", sig := { parameters := [], returnType := none }, accessFlags := 2, code := none }
/-- jdk/internal/util/ArraysSupport -/
def k13 : Class := { plain "jdk/internal/util/ArraysSupport" (some 0) with
  accessFlags := 33
  interfaces := #[]
  cf := some (fileOf pool13 21 #[] #[{ accessFlags := 2, nameIndex := 9, descriptorIndex := 19, attributes := #[] }] 33 16 #[] #[{ accessFlags := 24, nameIndex := 28, descriptorIndex := 29, attributes := #[] }, { accessFlags := 26, nameIndex := 38, descriptorIndex := 39, attributes := #[] }, { accessFlags := 25, nameIndex := 121, descriptorIndex := 25, attributes := #[] }, { accessFlags := 25, nameIndex := 131, descriptorIndex := 25, attributes := #[] }, { accessFlags := 25, nameIndex := 137, descriptorIndex := 25, attributes := #[] }, { accessFlags := 25, nameIndex := 143, descriptorIndex := 25, attributes := #[] }, { accessFlags := 25, nameIndex := 53, descriptorIndex := 25, attributes := #[] }, { accessFlags := 25, nameIndex := 24, descriptorIndex := 25, attributes := #[] }, { accessFlags := 25, nameIndex := 162, descriptorIndex := 25, attributes := #[] }, { accessFlags := 25, nameIndex := 187, descriptorIndex := 25, attributes := #[] }, { accessFlags := 26, nameIndex := 48, descriptorIndex := 25, attributes := #[] }, { accessFlags := 25, nameIndex := 277, descriptorIndex := 25, attributes := #[] }, { accessFlags := 25, nameIndex := 280, descriptorIndex := 25, attributes := #[] }, { accessFlags := 25, nameIndex := 282, descriptorIndex := 25, attributes := #[] }, { accessFlags := 25, nameIndex := 284, descriptorIndex := 25, attributes := #[] }, { accessFlags := 25, nameIndex := 286, descriptorIndex := 25, attributes := #[] }, { accessFlags := 25, nameIndex := 288, descriptorIndex := 25, attributes := #[] }, { accessFlags := 25, nameIndex := 290, descriptorIndex := 25, attributes := #[] }, { accessFlags := 25, nameIndex := 292, descriptorIndex := 25, attributes := #[] }, { accessFlags := 26, nameIndex := 108, descriptorIndex := 109, attributes := #[] }, { accessFlags := 25, nameIndex := 294, descriptorIndex := 25, attributes := #[] }])
  fields := #[{ name := "U", type := (.object "jdk/internal/misc/Unsafe"), accessFlags := 24, slot := 0, constantValue := 0 }, { name := "BIG_ENDIAN", type := .boolean, accessFlags := 26, slot := 1, constantValue := 0 }, { name := "LOG2_ARRAY_BOOLEAN_INDEX_SCALE", type := .int, accessFlags := 25, slot := 2, constantValue := 0 }, { name := "LOG2_ARRAY_BYTE_INDEX_SCALE", type := .int, accessFlags := 25, slot := 3, constantValue := 0 }, { name := "LOG2_ARRAY_CHAR_INDEX_SCALE", type := .int, accessFlags := 25, slot := 4, constantValue := 0 }, { name := "LOG2_ARRAY_SHORT_INDEX_SCALE", type := .int, accessFlags := 25, slot := 5, constantValue := 0 }, { name := "LOG2_ARRAY_INT_INDEX_SCALE", type := .int, accessFlags := 25, slot := 6, constantValue := 0 }, { name := "LOG2_ARRAY_LONG_INDEX_SCALE", type := .int, accessFlags := 25, slot := 7, constantValue := 0 }, { name := "LOG2_ARRAY_FLOAT_INDEX_SCALE", type := .int, accessFlags := 25, slot := 8, constantValue := 0 }, { name := "LOG2_ARRAY_DOUBLE_INDEX_SCALE", type := .int, accessFlags := 25, slot := 9, constantValue := 0 }, { name := "LOG2_BYTE_BIT_SIZE", type := .int, accessFlags := 26, slot := 10, constantValue := 0 }, { name := "T_BOOLEAN", type := .int, accessFlags := 25, slot := 11, constantValue := 0 }, { name := "T_CHAR", type := .int, accessFlags := 25, slot := 12, constantValue := 0 }, { name := "T_FLOAT", type := .int, accessFlags := 25, slot := 13, constantValue := 0 }, { name := "T_DOUBLE", type := .int, accessFlags := 25, slot := 14, constantValue := 0 }, { name := "T_BYTE", type := .int, accessFlags := 25, slot := 15, constantValue := 0 }, { name := "T_SHORT", type := .int, accessFlags := 25, slot := 16, constantValue := 0 }, { name := "T_INT", type := .int, accessFlags := 25, slot := 17, constantValue := 0 }, { name := "T_LONG", type := .int, accessFlags := 25, slot := 18, constantValue := 0 }, { name := "JLA", type := (.object "jdk/internal/access/JavaLangAccess"), accessFlags := 26, slot := 19, constantValue := 0 }, { name := "SOFT_MAX_ARRAY_LENGTH", type := .int, accessFlags := 25, slot := 20, constantValue := 0 }]
  methods := #[k13m0]
  instanceTypes := #[]
  staticTypes := #[(.object "jdk/internal/misc/Unsafe"), .boolean, .int, .int, .int, .int, .int, .int, .int, .int, .int, .int, .int, .int, .int, .int, .int, .int, .int, (.object "jdk/internal/access/JavaLangAccess"), .int]
  resolved := Array.replicate 378 none
  statics := none }

def pool14 : Array CpInfo := pool [(1, u "java/lang/Cloneable"), (0, .class_ 1), (0, u "java/lang/Object"), (0, .class_ 3)] 3

/-- java/lang/Cloneable -/
def k14 : Class := { plain "java/lang/Cloneable" (some 0) with
  accessFlags := 1537
  interfaces := #[]
  cf := some (fileOf pool14 2 #[] #[] 1537 4 #[] #[])
  fields := #[]
  methods := #[]
  instanceTypes := #[]
  staticTypes := #[]
  resolved := Array.replicate 8 none
  statics := none }

/-- the primitive byte -/
def k15 : Class := { plain "byte" none with kind := .primitive 'B', accessFlags := 0x411 }
/-- [B -/
def k16 : Class := { plain "[B" (some 0) with kind := .array 15 .byte, interfaces := #[14, 4], accessFlags := 1041 }

/-- the primitive char -/
def k17 : Class := { plain "char" none with kind := .primitive 'C', accessFlags := 0x411 }
/-- [C -/
def k18 : Class := { plain "[C" (some 0) with kind := .array 17 .char, interfaces := #[14, 4], accessFlags := 1041 }

/-- the primitive int -/
def k19 : Class := { plain "int" none with kind := .primitive 'I', accessFlags := 0x411 }
/-- [I -/
def k20 : Class := { plain "[I" (some 0) with kind := .array 19 .int, interfaces := #[14, 4], accessFlags := 1041 }

def heap : Heap := #[{ cls := 9, slots := #[.long 0, .int 1, .null, .int 0, .null, .int 0, .int 0], vm := .statics 9 },
  { cls := 12, slots := #[.null, .null, .null], vm := .statics 12 }]
def classes : Array Class := #[k0, k1, k2, k3, k4, k5, k6, k7, k8, k9, k10, k11, k12, k13, k14, k15, k16, k17, k18, k19, k20]
def interned : List (Array UInt16 × Addr) := []
def slotsUsed : Nat := 10
def theMethod : MethodId := ⟨1, 4⟩
def args0 : Array Value := #[.long 5, .long 7, .int 1, .int 2, .int 0]
def aboutOver (below : List Frame) : State where
  vm := { classes := classes, interned := interned.toArray }
  heap := heap
  slotsUsed := slotsUsed
  threads := #[{ frames := .invoking theMethod args0 :: below }]
def below0 : List Frame := [.native { method := ⟨0, 0⟩, args := #[] }]
def about1 : State := aboutOver below0
def p0 : Program := .bare "" "" ""
def e0 : Env := launch0.env 0 0 0
theorem w_frames : about1.frames = Frame.invoking theMethod args0 :: below0 := rfl
set_option maxRecDepth 65536 in
theorem w_args : argsFit about1.vm theMethod args0 = true := by decide +kernel
set_option maxRecDepth 65536 in
theorem w_heap : heapFits about1 = true := by decide +kernel
set_option maxRecDepth 65536 in
theorem w_runnable : about1.curStatus? = some .runnable := by decide +kernel
set_option maxRecDepth 65536 in
theorem w_alone : about1.alone = true := by decide +kernel
set_option maxRecDepth 65536 in
theorem w_named : about1.methodNamed? x = some theMethod := by decide +kernel
set_option maxRecDepth 65536 in
theorem w_hears : about1.hears theMethod below0 = true := by decide +kernel
set_option maxRecDepth 65536 in
theorem w_ripe : about1.ripe theMethod args0 below0 = true := by decide +kernel
theorem w_running : about1.status = .running := rfl
set_option maxRecDepth 65536 in
theorem w_room : about1.hasRoom e0.platform room_1 = true :=
  launch0.hasRoom_least _ room_1 (by decide +kernel) (by decide +kernel) (by decide +kernel) (by decide +kernel) (by decide +kernel) (by decide +kernel)
theorem allAtoms_all (ts : List Jvm.Cond) (a : Array Jvm.Value) (st : Jvm.State) : (allAtoms ts).before a st = ts.all (fun c => c.before a st) := by
  induction ts with
  | nil => rfl
  | cons c t ih =>
    show (Jvm.Cond.and c (allAtoms t)).before a st = _
    rw [Jvm.Cond.before_and, ih, List.all_cons]
def words1 : List Jvm.Cond := Jvm.Cond.code x code maxLocals ret :: tables_1
/-- a 'code' word, met by the world's own term for the bytes: nothing is compared byte by byte -/
theorem code_word {y : MethodName} {bytes : ByteArray} {mx : Nat} {rt : Option FieldType} {a : Array Value} {s : State} {m : MethodId} {meth : Method} {c : Code} (h1 : s.methodNamed? y = some m) (h2 : s.vm.method? m = some meth) (h3 : meth.code = some c) (h4 : c.code = bytes)
    (h5 : (c.maxLocals == mx && c.exceptionTable.isEmpty && decide (c.maxStack ≤ mostOperands) && decide (meth.sig.returnType = rt) && !meth.locks && decide (parseMethodDescriptor y.desc = some meth.sig)) = true) : (Jvm.Cond.code y bytes mx rt).before a s = true := by
  simp only [Bool.and_eq_true, beq_iff_eq, Bool.not_eq_true', decide_eq_true_eq] at h5
  obtain ⟨⟨⟨⟨⟨g1, g2⟩, g3⟩, g4⟩, g5⟩, g6⟩ := h5
  simp [Cond.before, Cond.holds, Cond.value, h1, h2, h3, h4, g1, g2, g3, g4, g5, g6]
def isCode : Jvm.Cond → Bool
  | .code _ _ _ _ => true
  | _ => false
theorem all_split {L : List Jvm.Cond} {P : Jvm.Cond → Bool} (h1 : L.all (fun c => isCode c || P c) = true) (h2 : ∀ c ∈ L.filter isCode, P c = true) : L.all P = true := by
  refine List.all_eq_true.mpr fun c hc => ?_
  have h := List.all_eq_true.mp h1 c hc
  rcases Bool.eq_false_or_eq_true (isCode c) with hi | hi
  · exact h2 c (List.mem_filter.mpr ⟨hc, hi⟩)
  · simpa [hi] using h
set_option maxRecDepth 65536 in
theorem w_c0 : (Jvm.Cond.code x code maxLocals ret).before args0 about1 = true := code_word (m := ⟨1, 4⟩) (meth := k1m4) (c := k1c4) (by decide +kernel) rfl rfl rfl (by decide +kernel)
set_option maxRecDepth 65536 in
theorem w_c1 : (Jvm.Cond.code ({ cls := "com/example/originlint/originlint/OriginEqualsPinLaw", name := "str", desc := "(I)Ljava/lang/String;" } : Jvm.MethodName) method_3_code (4 : Nat) (Option.some (Jvm.ClassFile.FieldType.object "java/lang/String"))).before args0 about1 = true := code_word (m := ⟨1, 2⟩) (meth := k1m2) (c := k1c2) (by decide +kernel) rfl rfl rfl (by decide +kernel)
set_option maxRecDepth 65536 in
theorem w_c2 : (Jvm.Cond.code ({ cls := "com/example/originlint/originlint/OriginEqualsPinLaw", name := "len", desc := "(I)I" } : Jvm.MethodName) method_2_code (1 : Nat) (Option.some Jvm.ClassFile.FieldType.int)).before args0 about1 = true := code_word (m := ⟨1, 1⟩) (meth := k1m1) (c := k1c1) (by decide +kernel) rfl rfl rfl (by decide +kernel)
set_option maxRecDepth 65536 in
theorem w_c3 : (Jvm.Cond.code ({ cls := "java/lang/String", name := "<init>", desc := "([C)V" } : Jvm.MethodName) jdk_42_method_3_code (2 : Nat) (Option.none : Option Jvm.ClassFile.FieldType)).before args0 about1 = true := code_word (m := ⟨9, 1⟩) (meth := k9m1) (c := k9c1) (by decide +kernel) rfl rfl rfl (by decide +kernel)
set_option maxRecDepth 65536 in
theorem w_c4 : (Jvm.Cond.code ({ cls := "java/lang/String", name := "<init>", desc := "([CIILjava/lang/Void;)V" } : Jvm.MethodName) jdk_42_method_149_code (6 : Nat) (Option.none : Option Jvm.ClassFile.FieldType)).before args0 about1 = true := code_word (m := ⟨9, 4⟩) (meth := k9m4) (c := k9c4) (by decide +kernel) rfl rfl rfl (by decide +kernel)
set_option maxRecDepth 65536 in
theorem w_c5 : (Jvm.Cond.code ({ cls := "java/lang/Object", name := "<init>", desc := "()V" } : Jvm.MethodName) object_method_1_code (1 : Nat) (Option.none : Option Jvm.ClassFile.FieldType)).before args0 about1 = true := code_word (m := ⟨0, 0⟩) (meth := k0m0) (c := k0c0) (by decide +kernel) rfl rfl rfl (by decide +kernel)
set_option maxRecDepth 65536 in
theorem w_c6 : (Jvm.Cond.code ({ cls := "com/example/originlint/originlint/Origin", name := "<init>", desc := "(Ljava/lang/String;Ljava/lang/String;I)V" } : Jvm.MethodName) prog_31_method_1_code (4 : Nat) (Option.none : Option Jvm.ClassFile.FieldType)).before args0 about1 = true := code_word (m := ⟨3, 0⟩) (meth := k3m0) (c := k3c0) (by decide +kernel) rfl rfl rfl (by decide +kernel)
set_option maxRecDepth 65536 in
theorem w_c7 : (Jvm.Cond.code ({ cls := "java/lang/Record", name := "<init>", desc := "()V" } : Jvm.MethodName) jdk_30_method_1_code (1 : Nat) (Option.none : Option Jvm.ClassFile.FieldType)).before args0 about1 = true := code_word (m := ⟨2, 0⟩) (meth := k2m0) (c := k2c0) (by decide +kernel) rfl rfl rfl (by decide +kernel)
set_option maxRecDepth 65536 in
theorem w_c8 : (Jvm.Cond.code ({ cls := "com/example/originlint/originlint/Origin", name := "equals", desc := "(Ljava/lang/Object;)Z" } : Jvm.MethodName) prog_31_method_2_code (3 : Nat) (Option.some Jvm.ClassFile.FieldType.boolean)).before args0 about1 = true := code_word (m := ⟨3, 1⟩) (meth := k3m1) (c := k3c1) (by decide +kernel) rfl rfl rfl (by decide +kernel)
set_option maxRecDepth 65536 in
theorem w_c9 : (Jvm.Cond.code ({ cls := "java/lang/StringUTF16", name := "compress", desc := "([CII)[B" } : Jvm.MethodName) jdk_52_method_16_code (6 : Nat) (Option.some (Jvm.ClassFile.FieldType.array Jvm.ClassFile.FieldType.byte))).before args0 about1 = true := code_word (m := ⟨10, 2⟩) (meth := k10m2) (c := k10c2) (by decide +kernel) rfl rfl rfl (by decide +kernel)
set_option maxRecDepth 65536 in
theorem w_c10 : (Jvm.Cond.code ({ cls := "java/lang/StringUTF16", name := "compress", desc := "([CI[BII)I" } : Jvm.MethodName) jdk_52_method_21_code (7 : Nat) (Option.some Jvm.ClassFile.FieldType.int)).before args0 about1 = true := code_word (m := ⟨10, 3⟩) (meth := k10m3) (c := k10c3) (by decide +kernel) rfl rfl rfl (by decide +kernel)
set_option maxRecDepth 65536 in
theorem w_c11 : (Jvm.Cond.code ({ cls := "java/lang/StringUTF16", name := "coderFromArrayLen", desc := "([BI)B" } : Jvm.MethodName) jdk_52_method_15_code (2 : Nat) (Option.some Jvm.ClassFile.FieldType.byte)).before args0 about1 = true := code_word (m := ⟨10, 1⟩) (meth := k10m1) (c := k10c1) (by decide +kernel) rfl rfl rfl (by decide +kernel)
set_option maxRecDepth 65536 in
theorem w_c12 : (Jvm.Cond.code ({ cls := "com/example/originlint/originlint/OriginEqualsPinLaw", name := "same", desc := "(II)Z" } : Jvm.MethodName) method_4_code (4 : Nat) (Option.some Jvm.ClassFile.FieldType.boolean)).before args0 about1 = true := code_word (m := ⟨1, 3⟩) (meth := k1m3) (c := k1c3) (by decide +kernel) rfl rfl rfl (by decide +kernel)
set_option maxRecDepth 65536 in
theorem w_c13 : (Jvm.Cond.code ({ cls := "java/lang/String", name := "equals", desc := "(Ljava/lang/Object;)Z" } : Jvm.MethodName) jdk_42_method_66_code (3 : Nat) (Option.some Jvm.ClassFile.FieldType.boolean)).before args0 about1 = true := code_word (m := ⟨9, 2⟩) (meth := k9m2) (c := k9c2) (by decide +kernel) rfl rfl rfl (by decide +kernel)
set_option maxRecDepth 65536 in
theorem w_c14 : (Jvm.Cond.code ({ cls := "java/lang/StringLatin1", name := "equals", desc := "([B[B)Z" } : Jvm.MethodName) jdk_43_method_13_code (3 : Nat) (Option.some Jvm.ClassFile.FieldType.boolean)).before args0 about1 = true := code_word (m := ⟨11, 2⟩) (meth := k11m2) (c := k11c2) (by decide +kernel) rfl rfl rfl (by decide +kernel)
set_option maxRecDepth 65536 in
theorem w_c15 : (Jvm.Cond.code ({ cls := "java/lang/String", name := "valueOf", desc := "(C)Ljava/lang/String;" } : Jvm.MethodName) jdk_42_method_139_code (1 : Nat) (Option.some (Jvm.ClassFile.FieldType.object "java/lang/String"))).before args0 about1 = true := code_word (m := ⟨9, 3⟩) (meth := k9m3) (c := k9c3) (by decide +kernel) rfl rfl rfl (by decide +kernel)
set_option maxRecDepth 65536 in
theorem w_c16 : (Jvm.Cond.code ({ cls := "java/lang/StringLatin1", name := "canEncode", desc := "(C)Z" } : Jvm.MethodName) jdk_43_method_3_code (1 : Nat) (Option.some Jvm.ClassFile.FieldType.boolean)).before args0 about1 = true := code_word (m := ⟨11, 1⟩) (meth := k11m1) (c := k11c1) (by decide +kernel) rfl rfl rfl (by decide +kernel)
set_option maxRecDepth 65536 in
theorem w_c17 : (Jvm.Cond.code ({ cls := "java/lang/StringLatin1", name := "toBytes", desc := "(C)[B" } : Jvm.MethodName) jdk_43_method_46_code (1 : Nat) (Option.some (Jvm.ClassFile.FieldType.array Jvm.ClassFile.FieldType.byte))).before args0 about1 = true := code_word (m := ⟨11, 3⟩) (meth := k11m3) (c := k11c3) (by decide +kernel) rfl rfl rfl (by decide +kernel)
set_option maxRecDepth 65536 in
theorem w_c18 : (Jvm.Cond.code ({ cls := "java/lang/String", name := "<init>", desc := "([BB)V" } : Jvm.MethodName) jdk_42_method_151_code (3 : Nat) (Option.none : Option Jvm.ClassFile.FieldType)).before args0 about1 = true := code_word (m := ⟨9, 5⟩) (meth := k9m5) (c := k9c5) (by decide +kernel) rfl rfl rfl (by decide +kernel)
def codes1 : List Jvm.Cond := [Jvm.Cond.code x code maxLocals ret, Jvm.Cond.code ({ cls := "com/example/originlint/originlint/OriginEqualsPinLaw", name := "str", desc := "(I)Ljava/lang/String;" } : Jvm.MethodName) method_3_code (4 : Nat) (Option.some (Jvm.ClassFile.FieldType.object "java/lang/String")), Jvm.Cond.code ({ cls := "com/example/originlint/originlint/OriginEqualsPinLaw", name := "len", desc := "(I)I" } : Jvm.MethodName) method_2_code (1 : Nat) (Option.some Jvm.ClassFile.FieldType.int), Jvm.Cond.code ({ cls := "java/lang/String", name := "<init>", desc := "([C)V" } : Jvm.MethodName) jdk_42_method_3_code (2 : Nat) (Option.none : Option Jvm.ClassFile.FieldType), Jvm.Cond.code ({ cls := "java/lang/String", name := "<init>", desc := "([CIILjava/lang/Void;)V" } : Jvm.MethodName) jdk_42_method_149_code (6 : Nat) (Option.none : Option Jvm.ClassFile.FieldType), Jvm.Cond.code ({ cls := "java/lang/Object", name := "<init>", desc := "()V" } : Jvm.MethodName) object_method_1_code (1 : Nat) (Option.none : Option Jvm.ClassFile.FieldType), Jvm.Cond.code ({ cls := "com/example/originlint/originlint/Origin", name := "<init>", desc := "(Ljava/lang/String;Ljava/lang/String;I)V" } : Jvm.MethodName) prog_31_method_1_code (4 : Nat) (Option.none : Option Jvm.ClassFile.FieldType), Jvm.Cond.code ({ cls := "java/lang/Record", name := "<init>", desc := "()V" } : Jvm.MethodName) jdk_30_method_1_code (1 : Nat) (Option.none : Option Jvm.ClassFile.FieldType), Jvm.Cond.code ({ cls := "com/example/originlint/originlint/Origin", name := "equals", desc := "(Ljava/lang/Object;)Z" } : Jvm.MethodName) prog_31_method_2_code (3 : Nat) (Option.some Jvm.ClassFile.FieldType.boolean), Jvm.Cond.code ({ cls := "java/lang/StringUTF16", name := "compress", desc := "([CII)[B" } : Jvm.MethodName) jdk_52_method_16_code (6 : Nat) (Option.some (Jvm.ClassFile.FieldType.array Jvm.ClassFile.FieldType.byte)), Jvm.Cond.code ({ cls := "java/lang/StringUTF16", name := "compress", desc := "([CI[BII)I" } : Jvm.MethodName) jdk_52_method_21_code (7 : Nat) (Option.some Jvm.ClassFile.FieldType.int), Jvm.Cond.code ({ cls := "java/lang/StringUTF16", name := "coderFromArrayLen", desc := "([BI)B" } : Jvm.MethodName) jdk_52_method_15_code (2 : Nat) (Option.some Jvm.ClassFile.FieldType.byte), Jvm.Cond.code ({ cls := "com/example/originlint/originlint/OriginEqualsPinLaw", name := "same", desc := "(II)Z" } : Jvm.MethodName) method_4_code (4 : Nat) (Option.some Jvm.ClassFile.FieldType.boolean), Jvm.Cond.code ({ cls := "java/lang/String", name := "equals", desc := "(Ljava/lang/Object;)Z" } : Jvm.MethodName) jdk_42_method_66_code (3 : Nat) (Option.some Jvm.ClassFile.FieldType.boolean), Jvm.Cond.code ({ cls := "java/lang/StringLatin1", name := "equals", desc := "([B[B)Z" } : Jvm.MethodName) jdk_43_method_13_code (3 : Nat) (Option.some Jvm.ClassFile.FieldType.boolean), Jvm.Cond.code ({ cls := "java/lang/String", name := "valueOf", desc := "(C)Ljava/lang/String;" } : Jvm.MethodName) jdk_42_method_139_code (1 : Nat) (Option.some (Jvm.ClassFile.FieldType.object "java/lang/String")), Jvm.Cond.code ({ cls := "java/lang/StringLatin1", name := "canEncode", desc := "(C)Z" } : Jvm.MethodName) jdk_43_method_3_code (1 : Nat) (Option.some Jvm.ClassFile.FieldType.boolean), Jvm.Cond.code ({ cls := "java/lang/StringLatin1", name := "toBytes", desc := "(C)[B" } : Jvm.MethodName) jdk_43_method_46_code (1 : Nat) (Option.some (Jvm.ClassFile.FieldType.array Jvm.ClassFile.FieldType.byte)), Jvm.Cond.code ({ cls := "java/lang/String", name := "<init>", desc := "([BB)V" } : Jvm.MethodName) jdk_42_method_151_code (3 : Nat) (Option.none : Option Jvm.ClassFile.FieldType)]
set_option maxRecDepth 65536 in
theorem codes_eq : words1.filter isCode = codes1 := rfl
theorem w_codes : ∀ c ∈ words1.filter isCode, c.before args0 about1 = true := by
  rw [codes_eq]
  intro c hc
  simp only [codes1, List.mem_cons, List.not_mem_nil, or_false] at hc
  rcases hc with rfl | rfl | rfl | rfl | rfl | rfl | rfl | rfl | rfl | rfl | rfl | rfl | rfl | rfl | rfl | rfl | rfl | rfl | rfl
  · exact w_c0
  · exact w_c1
  · exact w_c2
  · exact w_c3
  · exact w_c4
  · exact w_c5
  · exact w_c6
  · exact w_c7
  · exact w_c8
  · exact w_c9
  · exact w_c10
  · exact w_c11
  · exact w_c12
  · exact w_c13
  · exact w_c14
  · exact w_c15
  · exact w_c16
  · exact w_c17
  · exact w_c18
set_option maxRecDepth 65536 in
theorem w_t1 : (words1.take 24).all (fun c => isCode c || c.before args0 about1) = true := by decide +kernel
set_option maxRecDepth 65536 in
theorem w_t2 : ((words1.drop 24).take 24).all (fun c => isCode c || c.before args0 about1) = true := by decide +kernel
set_option maxRecDepth 65536 in
theorem w_t3 : (((words1.drop 24).drop 24).take 24).all (fun c => isCode c || c.before args0 about1) = true := by decide +kernel
set_option maxRecDepth 65536 in
theorem w_t4 : (((words1.drop 24).drop 24).drop 24).all (fun c => isCode c || c.before args0 about1) = true := by decide +kernel
theorem w_tables : (allAtoms (Jvm.Cond.code x code maxLocals ret :: tables_1)).before args0 about1 = true := by
  rw [allAtoms_all]
  show words1.all (fun c => c.before args0 about1) = true
  refine all_split ?_ w_codes
  rw [← List.take_append_drop 24 words1, List.all_append, w_t1, ← List.take_append_drop 24 (words1.drop 24), List.all_append, w_t2, ← List.take_append_drop 24 ((words1.drop 24).drop 24), List.all_append, w_t3, w_t4]
  rfl
set_option maxRecDepth 65536 in
theorem w_rest : rest_1_c.before args0 about1 = true := by decide +kernel
set_option maxRecDepth 65536 in
theorem w_case : (Jvm.Cond.and given_1 narrow_1).before args0 about1 = true := by decide +kernel
set_option maxRecDepth 65536 in
theorem w_consts : constsHeld consts_1 about1 := Jvm.Lit.constsHeldB_iff.mp (by decide +kernel)
theorem w_applies : (headSpec (Jvm.Cond.code x code maxLocals ret :: tables_1) room_1).applies x e0.platform about1 = true :=
  (Spec.applies_iff w_frames).mpr ⟨w_running, w_runnable, w_alone, w_named, w_hears, w_ripe, w_room, w_tables⟩
theorem atStart : AtStart classFile x code maxLocals ret World_1 tables_1 room_1 Calls_1 rest_1 Pre_1 launch0 p0 e0 about1 theMethod args0 below0 :=
  ⟨lists_1, trivial, launch0.admits_env _ _ _, launch0.least_env, fairChoices_fair.cas, fairChoices_fair.clock, w_frames, w_args, w_heap, w_applies, ⟨w_consts, trivial⟩, w_rest, w_case⟩
end start1
theorem witness_1 : WitnessClaimed_1 := ⟨start1.p0, start1.e0, start1.about1, start1.theMethod, start1.args0, start1.below0, start1.atStart⟩
end Jvm.Pilot.@@N@@
