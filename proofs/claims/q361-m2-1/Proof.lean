import JvmDerived
import JvmDerived.Pilot.@@N@@Statement
import JvmDerived.Pilot.@@N@@Code
set_option linter.unusedVariables false
set_option linter.unusedSimpArgs false
@@BLOCK:NumsL.lean.txt@@
namespace Jvm.RoadKit
open Sem ClassFile Op Lib Jvm.Stand Jvm.Free Jvm.LawKit
section New
variable {p : Program} {l : Launch} {e : Env} {R : Room} {s : State} {m : MethodId} {args : Array Value} {below : List Frame} {meth : Method} {c : Code} {T : State} {locs : List Loc} {cells slots : Nat}
theorem retI (X : Stand p l e R s m args below meth c T locs cells slots) (hx : p.tables.exec = Jvm.exec) {pc : Nat} {Ls : Array Slot} {z : Int32} {rest : List Value} (hret : meth.sig.returnType = some .int) (hd : decode c.code pc = .ok (.ireturn, 1)) {fs : List Frame}
    (hl : ∀ (f : JFrame) (acts : List Action), f.method = m → f.locked = none → f.entered = [] → (doReturn e (T.setTop f) acts (some (.int z))).1 = T.setFrames fs) : Steps p.tables e below (T.setTop (mkF m pc Ls (.int z :: rest))) (T.setFrames fs) := by
  have hm' : T.vm.method? m = some meth := X.method'
  have hn : narrow .int (.int z) = .int z := rfl
  show Steps p.tables e below (T.setTop { method := m, pc := pc, locals := Ls, stack := _ :: rest, locked := none }) _
  jvm_step X.here [X.here.top, hx, hd, hm', hret, hn]
  first | (intro acts; rw [hl _ acts rfl rfl rfl]) | rw [hl _ _ rfl rfl rfl]
  exact Steps.refl _
end New
end Jvm.RoadKit
namespace Jvm.Pilot.@@N@@
open Jvm Jvm.ClassFile Sem Op Lib Jvm.Free Jvm.Stand Jvm.LawKit Jvm.RoadKit Bundle Jvm.Pilot.@@N@@.Jvm.D
/-- from S0 the run comes to T with the frame g on top -/
abbrev Pth (p : Program) (e : Env) (below : List Frame) (S0 T : State) (g : JFrame) : Prop := ∀ t, Steps p.tables e below (T.setTop g) t → Steps p.tables e below S0 t
theorem ef_cp3 (m : MethodId) (x0 : Addr) (x1 : Int32) (x2 : Addr) (x3 : Int32) (x4 : Int32)  : entryFrame m #[(.ref x0), (.int x1), (.ref x2), (.int x3), (.int x4)] 7 = mkF m 0 #[.val (.ref x0), .val (.int x1), .val (.ref x2), .val (.int x3), .val (.int x4), .unset, .unset] [] := by first | (simp [entryFrame, mkF, argsToLocals, Value.category]; done) | rfl
theorem pn_java_lang_StringUTF16 : plainName "java/lang/StringUTF16" = true := by first | (simp [plainName, overriddenIn]; done) | decide +kernel
theorem d_cp3_0 : decode jdk_52_method_21_code 0 = .ok (.iconst 0, 1) := by decide +kernel
theorem d_cp3_1 : decode jdk_52_method_21_code 1 = .ok (.istore 5, 2) := by decide +kernel
theorem d_cp3_3 : decode jdk_52_method_21_code 3 = .ok (.iload 5, 2) := by decide +kernel
theorem d_cp3_5 : decode jdk_52_method_21_code 5 = .ok (.iload 4, 2) := by decide +kernel
theorem d_cp3_7 : decode jdk_52_method_21_code 7 = .ok (.if_icmp .ge 37, 3) := by decide +kernel
theorem d_cp3_10 : decode jdk_52_method_21_code 10 = .ok (.aload_n 0, 1) := by decide +kernel
theorem d_cp3_11 : decode jdk_52_method_21_code 11 = .ok (.iload_n 1, 1) := by decide +kernel
theorem d_cp3_12 : decode jdk_52_method_21_code 12 = .ok (.caload, 1) := by decide +kernel
theorem d_cp3_13 : decode jdk_52_method_21_code 13 = .ok (.istore 6, 2) := by decide +kernel
theorem d_cp3_15 : decode jdk_52_method_21_code 15 = .ok (.iload 6, 2) := by decide +kernel
theorem d_cp3_17 : decode jdk_52_method_21_code 17 = .ok (.sipush 255, 3) := by decide +kernel
theorem d_cp3_20 : decode jdk_52_method_21_code 20 = .ok (.if_icmp .le 6, 3) := by decide +kernel
theorem d_cp3_26 : decode jdk_52_method_21_code 26 = .ok (.aload_n 2, 1) := by decide +kernel
theorem d_cp3_27 : decode jdk_52_method_21_code 27 = .ok (.iload_n 3, 1) := by decide +kernel
theorem d_cp3_28 : decode jdk_52_method_21_code 28 = .ok (.iload 6, 2) := by decide +kernel
theorem d_cp3_30 : decode jdk_52_method_21_code 30 = .ok (.i2b, 1) := by decide +kernel
theorem d_cp3_31 : decode jdk_52_method_21_code 31 = .ok (.bastore, 1) := by decide +kernel
theorem d_cp3_32 : decode jdk_52_method_21_code 32 = .ok (.iinc 1 1, 3) := by decide +kernel
theorem d_cp3_35 : decode jdk_52_method_21_code 35 = .ok (.iinc 3 1, 3) := by decide +kernel
theorem d_cp3_38 : decode jdk_52_method_21_code 38 = .ok (.iinc 5 1, 3) := by decide +kernel
theorem d_cp3_41 : decode jdk_52_method_21_code 41 = .ok (.goto (-38), 3) := by decide +kernel
theorem d_cp3_44 : decode jdk_52_method_21_code 44 = .ok (.iload 4, 2) := by decide +kernel
theorem d_cp3_46 : decode jdk_52_method_21_code 46 = .ok (.ireturn, 1) := by decide +kernel
theorem ef_cp1 (m : MethodId) (x0 : Addr) (x1 : Int32) (x2 : Int32)  : entryFrame m #[(.ref x0), (.int x1), (.int x2)] 6 = mkF m 0 #[.val (.ref x0), .val (.int x1), .val (.int x2), .unset, .unset, .unset] [] := by first | (simp [entryFrame, mkF, argsToLocals, Value.category]; done) | rfl
theorem d_cp1_0 : decode jdk_52_method_16_code 0 = .ok (.iload_n 2, 1) := by decide +kernel
theorem d_cp1_1 : decode jdk_52_method_16_code 1 = .ok (.newarray .byte, 2) := by decide +kernel
theorem d_cp1_3 : decode jdk_52_method_16_code 3 = .ok (.astore_n 3, 1) := by decide +kernel
theorem d_cp1_4 : decode jdk_52_method_16_code 4 = .ok (.aload_n 0, 1) := by decide +kernel
theorem d_cp1_5 : decode jdk_52_method_16_code 5 = .ok (.iload_n 1, 1) := by decide +kernel
theorem d_cp1_6 : decode jdk_52_method_16_code 6 = .ok (.aload_n 3, 1) := by decide +kernel
theorem d_cp1_7 : decode jdk_52_method_16_code 7 = .ok (.iconst 0, 1) := by decide +kernel
theorem d_cp1_8 : decode jdk_52_method_16_code 8 = .ok (.iload_n 2, 1) := by decide +kernel
theorem d_cp1_9 : decode jdk_52_method_16_code 9 = .ok (.invokestatic 115, 3) := by decide +kernel
theorem pd___CI_BII_I : parseMethodDescriptor "([CI[BII)I" = some ⟨[(.array .char), .int, (.array .byte), .int, .int], some .int⟩ := by decide +kernel
theorem d_cp1_12 : decode jdk_52_method_16_code 12 = .ok (.istore 4, 2) := by decide +kernel
theorem d_cp1_14 : decode jdk_52_method_16_code 14 = .ok (.iload 4, 2) := by decide +kernel
theorem d_cp1_16 : decode jdk_52_method_16_code 16 = .ok (.iload_n 2, 1) := by decide +kernel
theorem d_cp1_17 : decode jdk_52_method_16_code 17 = .ok (.if_icmp .eq 40, 3) := by decide +kernel
theorem d_cp1_57 : decode jdk_52_method_16_code 57 = .ok (.aload_n 3, 1) := by decide +kernel
theorem d_cp1_58 : decode jdk_52_method_16_code 58 = .ok (.areturn, 1) := by decide +kernel
theorem ef_cfa (m : MethodId) (x0 : Addr) (x1 : Int32)  : entryFrame m #[(.ref x0), (.int x1)] 2 = mkF m 0 #[.val (.ref x0), .val (.int x1)] [] := by first | (simp [entryFrame, mkF, argsToLocals, Value.category]; done) | rfl
theorem d_cfa_0 : decode jdk_52_method_15_code 0 = .ok (.iload_n 1, 1) := by decide +kernel
theorem d_cfa_1 : decode jdk_52_method_15_code 1 = .ok (.aload_n 0, 1) := by decide +kernel
theorem d_cfa_2 : decode jdk_52_method_15_code 2 = .ok (.arraylength, 1) := by decide +kernel
theorem d_cfa_3 : decode jdk_52_method_15_code 3 = .ok (.isub, 1) := by decide +kernel
theorem d_cfa_4 : decode jdk_52_method_15_code 4 = .ok (.bipush 31, 2) := by decide +kernel
theorem d_cfa_6 : decode jdk_52_method_15_code 6 = .ok (.iushr, 1) := by decide +kernel
theorem d_cfa_7 : decode jdk_52_method_15_code 7 = .ok (.i2b, 1) := by decide +kernel
theorem d_cfa_8 : decode jdk_52_method_15_code 8 = .ok (.ireturn, 1) := by decide +kernel
theorem ef_iv3 (m : MethodId) (x0 : Addr) (x1 : Addr) (x2 : Int32) (x3 : Int32)  : entryFrame m #[(.ref x0), (.ref x1), (.int x2), (.int x3), .null] 6 = mkF m 0 #[.val (.ref x0), .val (.ref x1), .val (.int x2), .val (.int x3), .val .null, .unset] [] := by first | (simp [entryFrame, mkF, argsToLocals, Value.category]; done) | rfl
theorem pn_java_lang_String : plainName "java/lang/String" = true := by first | (simp [plainName, overriddenIn]; done) | decide +kernel
theorem d_iv3_0 : decode jdk_42_method_149_code 0 = .ok (.aload_n 0, 1) := by decide +kernel
theorem d_iv3_1 : decode jdk_42_method_149_code 1 = .ok (.invokespecial 1, 3) := by decide +kernel
theorem d_iv3_4 : decode jdk_42_method_149_code 4 = .ok (.iload_n 3, 1) := by decide +kernel
theorem d_iv3_5 : decode jdk_42_method_149_code 5 = .ok (.ifCond .ne 22, 3) := by decide +kernel
theorem d_iv3_27 : decode jdk_42_method_149_code 27 = .ok (.getstatic 38, 3) := by decide +kernel
theorem d_iv3_30 : decode jdk_42_method_149_code 30 = .ok (.ifCond .eq 28, 3) := by decide +kernel
theorem d_iv3_33 : decode jdk_42_method_149_code 33 = .ok (.aload_n 1, 1) := by decide +kernel
theorem d_iv3_34 : decode jdk_42_method_149_code 34 = .ok (.iload_n 2, 1) := by decide +kernel
theorem d_iv3_35 : decode jdk_42_method_149_code 35 = .ok (.iload_n 3, 1) := by decide +kernel
theorem d_iv3_36 : decode jdk_42_method_149_code 36 = .ok (.invokestatic 177, 3) := by decide +kernel
theorem pd___CII__B : parseMethodDescriptor "([CII)[B" = some ⟨[(.array .char), .int, .int], some (.array .byte)⟩ := by decide +kernel
theorem d_iv3_39 : decode jdk_42_method_149_code 39 = .ok (.astore 5, 2) := by decide +kernel
theorem d_iv3_41 : decode jdk_42_method_149_code 41 = .ok (.aload_n 0, 1) := by decide +kernel
theorem d_iv3_42 : decode jdk_42_method_149_code 42 = .ok (.aload 5, 2) := by decide +kernel
theorem d_iv3_44 : decode jdk_42_method_149_code 44 = .ok (.iload_n 3, 1) := by decide +kernel
theorem d_iv3_45 : decode jdk_42_method_149_code 45 = .ok (.invokestatic 47, 3) := by decide +kernel
theorem pd___BI_B : parseMethodDescriptor "([BI)B" = some ⟨[(.array .byte), .int], some .byte⟩ := by decide +kernel
theorem d_iv3_48 : decode jdk_42_method_149_code 48 = .ok (.putfield 15, 3) := by decide +kernel
theorem d_iv3_51 : decode jdk_42_method_149_code 51 = .ok (.aload_n 0, 1) := by decide +kernel
theorem d_iv3_52 : decode jdk_42_method_149_code 52 = .ok (.aload 5, 2) := by decide +kernel
theorem d_iv3_54 : decode jdk_42_method_149_code 54 = .ok (.putfield 9, 3) := by decide +kernel
theorem d_iv3_57 : decode jdk_42_method_149_code 57 = .ok (.return_, 1) := by decide +kernel
theorem ef_ic3 (m : MethodId) (x0 : Addr) (x1 : Addr)  : entryFrame m #[(.ref x0), (.ref x1)] 2 = mkF m 0 #[.val (.ref x0), .val (.ref x1)] [] := by first | (simp [entryFrame, mkF, argsToLocals, Value.category]; done) | rfl
theorem d_ic3_0 : decode jdk_42_method_3_code 0 = .ok (.aload_n 0, 1) := by decide +kernel
theorem d_ic3_1 : decode jdk_42_method_3_code 1 = .ok (.aload_n 1, 1) := by decide +kernel
theorem d_ic3_2 : decode jdk_42_method_3_code 2 = .ok (.iconst 0, 1) := by decide +kernel
theorem d_ic3_3 : decode jdk_42_method_3_code 3 = .ok (.aload_n 1, 1) := by decide +kernel
theorem d_ic3_4 : decode jdk_42_method_3_code 4 = .ok (.arraylength, 1) := by decide +kernel
theorem d_ic3_5 : decode jdk_42_method_3_code 5 = .ok (.aconst_null, 1) := by decide +kernel
theorem d_ic3_6 : decode jdk_42_method_3_code 6 = .ok (.invokespecial 27, 3) := by decide +kernel
theorem pd___CIILjava_lang_Void__V : parseMethodDescriptor "([CIILjava/lang/Void;)V" = some ⟨[(.array .char), .int, .int, (.object "java/lang/Void")], none⟩ := by decide +kernel
theorem d_ic3_9 : decode jdk_42_method_3_code 9 = .ok (.return_, 1) := by decide +kernel
theorem ef_ib (m : MethodId) (x0 : Addr) (x1 : Addr) (x2 : Int32)  : entryFrame m #[(.ref x0), (.ref x1), (.int x2)] 3 = mkF m 0 #[.val (.ref x0), .val (.ref x1), .val (.int x2)] [] := by first | (simp [entryFrame, mkF, argsToLocals, Value.category]; done) | rfl
theorem d_ib_0 : decode jdk_42_method_151_code 0 = .ok (.aload_n 0, 1) := by decide +kernel
theorem d_ib_1 : decode jdk_42_method_151_code 1 = .ok (.invokespecial 1, 3) := by decide +kernel
theorem d_ib_4 : decode jdk_42_method_151_code 4 = .ok (.aload_n 0, 1) := by decide +kernel
theorem d_ib_5 : decode jdk_42_method_151_code 5 = .ok (.aload_n 1, 1) := by decide +kernel
theorem d_ib_6 : decode jdk_42_method_151_code 6 = .ok (.putfield 9, 3) := by decide +kernel
theorem d_ib_9 : decode jdk_42_method_151_code 9 = .ok (.aload_n 0, 1) := by decide +kernel
theorem d_ib_10 : decode jdk_42_method_151_code 10 = .ok (.iload_n 2, 1) := by decide +kernel
theorem d_ib_11 : decode jdk_42_method_151_code 11 = .ok (.putfield 15, 3) := by decide +kernel
theorem d_ib_14 : decode jdk_42_method_151_code 14 = .ok (.return_, 1) := by decide +kernel
theorem ef_cen (m : MethodId) (x0 : Int32)  : entryFrame m #[(.int x0)] 1 = mkF m 0 #[.val (.int x0)] [] := by first | (simp [entryFrame, mkF, argsToLocals, Value.category]; done) | rfl
theorem pn_java_lang_StringLatin1 : plainName "java/lang/StringLatin1" = true := by first | (simp [plainName, overriddenIn]; done) | decide +kernel
theorem d_cen_0 : decode jdk_43_method_3_code 0 = .ok (.iload_n 0, 1) := by decide +kernel
theorem d_cen_1 : decode jdk_43_method_3_code 1 = .ok (.sipush 255, 3) := by decide +kernel
theorem d_cen_4 : decode jdk_43_method_3_code 4 = .ok (.if_icmp .gt 7, 3) := by decide +kernel
theorem d_cen_7 : decode jdk_43_method_3_code 7 = .ok (.iconst 1, 1) := by decide +kernel
theorem d_cen_8 : decode jdk_43_method_3_code 8 = .ok (.goto 4, 3) := by decide +kernel
theorem d_cen_12 : decode jdk_43_method_3_code 12 = .ok (.ireturn, 1) := by decide +kernel
theorem ef_tob (m : MethodId) (x0 : Int32)  : entryFrame m #[(.int x0)] 1 = mkF m 0 #[.val (.int x0)] [] := by first | (simp [entryFrame, mkF, argsToLocals, Value.category]; done) | rfl
theorem d_tob_0 : decode jdk_43_method_46_code 0 = .ok (.iconst 1, 1) := by decide +kernel
theorem d_tob_1 : decode jdk_43_method_46_code 1 = .ok (.newarray .byte, 2) := by decide +kernel
theorem d_tob_3 : decode jdk_43_method_46_code 3 = .ok (.dup, 1) := by decide +kernel
theorem d_tob_4 : decode jdk_43_method_46_code 4 = .ok (.iconst 0, 1) := by decide +kernel
theorem d_tob_5 : decode jdk_43_method_46_code 5 = .ok (.iload_n 0, 1) := by decide +kernel
theorem d_tob_6 : decode jdk_43_method_46_code 6 = .ok (.i2b, 1) := by decide +kernel
theorem d_tob_7 : decode jdk_43_method_46_code 7 = .ok (.bastore, 1) := by decide +kernel
theorem d_tob_8 : decode jdk_43_method_46_code 8 = .ok (.areturn, 1) := by decide +kernel
theorem ef_vof (m : MethodId) (x0 : Int32)  : entryFrame m #[(.int x0)] 1 = mkF m 0 #[.val (.int x0)] [] := by first | (simp [entryFrame, mkF, argsToLocals, Value.category]; done) | rfl
theorem d_vof_0 : decode jdk_42_method_139_code 0 = .ok (.getstatic 38, 3) := by decide +kernel
theorem d_vof_3 : decode jdk_42_method_139_code 3 = .ok (.ifCond .eq 23, 3) := by decide +kernel
theorem d_vof_6 : decode jdk_42_method_139_code 6 = .ok (.iload_n 0, 1) := by decide +kernel
theorem d_vof_7 : decode jdk_42_method_139_code 7 = .ok (.invokestatic 1015, 3) := by decide +kernel
theorem pd__C_Z : parseMethodDescriptor "(C)Z" = some ⟨[.char], some .boolean⟩ := by decide +kernel
theorem d_vof_10 : decode jdk_42_method_139_code 10 = .ok (.ifCond .eq 16, 3) := by decide +kernel
theorem d_vof_13 : decode jdk_42_method_139_code 13 = .ok (.new 10, 3) := by decide +kernel
theorem d_vof_16 : decode jdk_42_method_139_code 16 = .ok (.dup, 1) := by decide +kernel
theorem d_vof_17 : decode jdk_42_method_139_code 17 = .ok (.iload_n 0, 1) := by decide +kernel
theorem d_vof_18 : decode jdk_42_method_139_code 18 = .ok (.invokestatic 1018, 3) := by decide +kernel
theorem pd__C__B : parseMethodDescriptor "(C)[B" = some ⟨[.char], some (.array .byte)⟩ := by decide +kernel
theorem d_vof_21 : decode jdk_42_method_139_code 21 = .ok (.iconst 0, 1) := by decide +kernel
theorem d_vof_22 : decode jdk_42_method_139_code 22 = .ok (.invokespecial 209, 3) := by decide +kernel
theorem pd___BB_V : parseMethodDescriptor "([BB)V" = some ⟨[(.array .byte), .byte], none⟩ := by decide +kernel
theorem d_vof_25 : decode jdk_42_method_139_code 25 = .ok (.areturn, 1) := by decide +kernel
theorem ef_ac (m : MethodId) (x0 : Addr)  : entryFrame m #[(.ref x0)] 1 = mkF m 0 #[.val (.ref x0)] [] := by first | (simp [entryFrame, mkF, argsToLocals, Value.category]; done) | rfl
theorem pn_java_util_AbstractCollection : plainName "java/util/AbstractCollection" = true := by first | (simp [plainName, overriddenIn]; done) | decide +kernel
theorem d_ac_0 : decode jdk_22_method_1_code 0 = .ok (.aload_n 0, 1) := by decide +kernel
theorem d_ac_1 : decode jdk_22_method_1_code 1 = .ok (.invokespecial 1, 3) := by decide +kernel
theorem d_ac_4 : decode jdk_22_method_1_code 4 = .ok (.return_, 1) := by decide +kernel
theorem ef_item (m : MethodId) (x0 : Addr)  : entryFrame m #[(.ref x0)] 1 = mkF m 0 #[.val (.ref x0)] [] := by first | (simp [entryFrame, mkF, argsToLocals, Value.category]; done) | rfl
theorem pn_com_example_sheaf_sheaf_cbor_Item : plainName "com/example/sheaf/sheaf/cbor/Item" = true := by first | (simp [plainName, overriddenIn]; done) | decide +kernel
theorem d_item_0 : decode prog_16_method_1_code 0 = .ok (.aload_n 0, 1) := by decide +kernel
theorem d_item_1 : decode prog_16_method_1_code 1 = .ok (.invokespecial 1, 3) := by decide +kernel
theorem d_item_4 : decode prog_16_method_1_code 4 = .ok (.return_, 1) := by decide +kernel
theorem ef_aic (m : MethodId) (x0 : Addr)  : entryFrame m #[(.ref x0)] 1 = mkF m 0 #[.val (.ref x0)] [] := by first | (simp [entryFrame, mkF, argsToLocals, Value.category]; done) | rfl
theorem pn_java_util_ImmutableCollections_AbstractImmutableCollection : plainName "java/util/ImmutableCollections$AbstractImmutableCollection" = true := by first | (simp [plainName, overriddenIn]; done) | decide +kernel
theorem d_aic_0 : decode jdk_47_method_1_code 0 = .ok (.aload_n 0, 1) := by decide +kernel
theorem d_aic_1 : decode jdk_47_method_1_code 1 = .ok (.invokespecial 1, 3) := by decide +kernel
theorem pd___V : parseMethodDescriptor "()V" = some ⟨[], none⟩ := by decide +kernel
theorem d_aic_4 : decode jdk_47_method_1_code 4 = .ok (.return_, 1) := by decide +kernel
theorem ef_ail (m : MethodId) (x0 : Addr)  : entryFrame m #[(.ref x0)] 1 = mkF m 0 #[.val (.ref x0)] [] := by first | (simp [entryFrame, mkF, argsToLocals, Value.category]; done) | rfl
theorem pn_java_util_ImmutableCollections_AbstractImmutableList : plainName "java/util/ImmutableCollections$AbstractImmutableList" = true := by first | (simp [plainName, overriddenIn]; done) | decide +kernel
theorem d_ail_0 : decode jdk_46_method_1_code 0 = .ok (.aload_n 0, 1) := by decide +kernel
theorem d_ail_1 : decode jdk_46_method_1_code 1 = .ok (.invokespecial 1, 3) := by decide +kernel
theorem d_ail_4 : decode jdk_46_method_1_code 4 = .ok (.return_, 1) := by decide +kernel
theorem ef_rnn (m : MethodId) (x0 : Addr)  : entryFrame m #[(.ref x0)] 1 = mkF m 0 #[.val (.ref x0)] [] := by first | (simp [entryFrame, mkF, argsToLocals, Value.category]; done) | rfl
theorem pn_java_util_Objects : plainName "java/util/Objects" = true := by first | (simp [plainName, overriddenIn]; done) | decide +kernel
theorem d_rnn_0 : decode jdk_31_method_10_code 0 = .ok (.aload_n 0, 1) := by decide +kernel
theorem d_rnn_1 : decode jdk_31_method_10_code 1 = .ok (.ifnonnull 11, 3) := by decide +kernel
theorem d_rnn_12 : decode jdk_31_method_10_code 12 = .ok (.aload_n 0, 1) := by decide +kernel
theorem d_rnn_13 : decode jdk_31_method_10_code 13 = .ok (.areturn, 1) := by decide +kernel
theorem ef_abl (m : MethodId) (x0 : Addr)  : entryFrame m #[(.ref x0)] 1 = mkF m 0 #[.val (.ref x0)] [] := by first | (simp [entryFrame, mkF, argsToLocals, Value.category]; done) | rfl
theorem pn_java_util_AbstractList : plainName "java/util/AbstractList" = true := by first | (simp [plainName, overriddenIn]; done) | decide +kernel
theorem d_abl_0 : decode jdk_39_method_1_code 0 = .ok (.aload_n 0, 1) := by decide +kernel
theorem d_abl_1 : decode jdk_39_method_1_code 1 = .ok (.invokespecial 1, 3) := by decide +kernel
theorem d_abl_4 : decode jdk_39_method_1_code 4 = .ok (.aload_n 0, 1) := by decide +kernel
theorem d_abl_5 : decode jdk_39_method_1_code 5 = .ok (.iconst 0, 1) := by decide +kernel
theorem d_abl_6 : decode jdk_39_method_1_code 6 = .ok (.putfield 7, 3) := by decide +kernel
theorem d_abl_9 : decode jdk_39_method_1_code 9 = .ok (.return_, 1) := by decide +kernel
theorem ef_ali (m : MethodId) (x0 : Addr)  : entryFrame m #[(.ref x0)] 1 = mkF m 0 #[.val (.ref x0)] [] := by first | (simp [entryFrame, mkF, argsToLocals, Value.category]; done) | rfl
theorem pn_java_util_ArrayList : plainName "java/util/ArrayList" = true := by first | (simp [plainName, overriddenIn]; done) | decide +kernel
theorem d_ali_0 : decode jdk_38_method_2_code 0 = .ok (.aload_n 0, 1) := by decide +kernel
theorem d_ali_1 : decode jdk_38_method_2_code 1 = .ok (.invokespecial 1, 3) := by decide +kernel
theorem d_ali_4 : decode jdk_38_method_2_code 4 = .ok (.aload_n 0, 1) := by decide +kernel
theorem d_ali_5 : decode jdk_38_method_2_code 5 = .ok (.getstatic 39, 3) := by decide +kernel
theorem d_ali_8 : decode jdk_38_method_2_code 8 = .ok (.putfield 9, 3) := by decide +kernel
theorem d_ali_11 : decode jdk_38_method_2_code 11 = .ok (.return_, 1) := by decide +kernel
theorem ef_maxt (m : MethodId) (x0 : Int32) (x1 : Int32)  : entryFrame m #[(.int x0), (.int x1)] 2 = mkF m 0 #[.val (.int x0), .val (.int x1)] [] := by first | (simp [entryFrame, mkF, argsToLocals, Value.category]; done) | rfl
theorem d_maxt_0 : decode jdk_29_method_65_code 0 = .ok (.iload_n 0, 1) := by decide +kernel
theorem d_maxt_1 : decode jdk_29_method_65_code 1 = .ok (.iload_n 1, 1) := by decide +kernel
theorem d_maxt_2 : decode jdk_29_method_65_code 2 = .ok (.if_icmp .lt 7, 3) := by decide +kernel
theorem d_maxt_5 : decode jdk_29_method_65_code 5 = .ok (.iload_n 0, 1) := by decide +kernel
theorem d_maxt_6 : decode jdk_29_method_65_code 6 = .ok (.goto 4, 3) := by decide +kernel
theorem d_maxt_10 : decode jdk_29_method_65_code 10 = .ok (.ireturn, 1) := by decide +kernel
theorem ef_grw (m : MethodId) (x0 : Addr) (x1 : Int32)  : entryFrame m #[(.ref x0), (.int x1)] 4 = mkF m 0 #[.val (.ref x0), .val (.int x1), .unset, .unset] [] := by first | (simp [entryFrame, mkF, argsToLocals, Value.category]; done) | rfl
theorem d_grw_0 : decode jdk_38_method_6_code 0 = .ok (.aload_n 0, 1) := by decide +kernel
theorem d_grw_1 : decode jdk_38_method_6_code 1 = .ok (.getfield 9, 3) := by decide +kernel
theorem d_grw_4 : decode jdk_38_method_6_code 4 = .ok (.arraylength, 1) := by decide +kernel
theorem d_grw_5 : decode jdk_38_method_6_code 5 = .ok (.istore_n 2, 1) := by decide +kernel
theorem d_grw_6 : decode jdk_38_method_6_code 6 = .ok (.iload_n 2, 1) := by decide +kernel
theorem d_grw_7 : decode jdk_38_method_6_code 7 = .ok (.ifCond .gt 13, 3) := by decide +kernel
theorem d_grw_10 : decode jdk_38_method_6_code 10 = .ok (.aload_n 0, 1) := by decide +kernel
theorem d_grw_11 : decode jdk_38_method_6_code 11 = .ok (.getfield 9, 3) := by decide +kernel
theorem d_grw_14 : decode jdk_38_method_6_code 14 = .ok (.getstatic 39, 3) := by decide +kernel
theorem d_grw_17 : decode jdk_38_method_6_code 17 = .ok (.if_acmp .eq 28, 3) := by decide +kernel
theorem d_grw_45 : decode jdk_38_method_6_code 45 = .ok (.aload_n 0, 1) := by decide +kernel
theorem d_grw_46 : decode jdk_38_method_6_code 46 = .ok (.bipush 10, 2) := by decide +kernel
theorem d_grw_48 : decode jdk_38_method_6_code 48 = .ok (.iload_n 1, 1) := by decide +kernel
theorem d_grw_49 : decode jdk_38_method_6_code 49 = .ok (.invokestatic 79, 3) := by decide +kernel
theorem pd__II_I : parseMethodDescriptor "(II)I" = some ⟨[.int, .int], some .int⟩ := by decide +kernel
theorem d_grw_52 : decode jdk_38_method_6_code 52 = .ok (.anewarray 7, 3) := by decide +kernel
theorem d_grw_55 : decode jdk_38_method_6_code 55 = .ok (.dup_x1, 1) := by decide +kernel
theorem d_grw_56 : decode jdk_38_method_6_code 56 = .ok (.putfield 9, 3) := by decide +kernel
theorem d_grw_59 : decode jdk_38_method_6_code 59 = .ok (.areturn, 1) := by decide +kernel
theorem ef_gr0 (m : MethodId) (x0 : Addr)  : entryFrame m #[(.ref x0)] 1 = mkF m 0 #[.val (.ref x0)] [] := by first | (simp [entryFrame, mkF, argsToLocals, Value.category]; done) | rfl
theorem d_gr0_0 : decode jdk_38_method_7_code 0 = .ok (.aload_n 0, 1) := by decide +kernel
theorem d_gr0_1 : decode jdk_38_method_7_code 1 = .ok (.aload_n 0, 1) := by decide +kernel
theorem d_gr0_2 : decode jdk_38_method_7_code 2 = .ok (.getfield 48, 3) := by decide +kernel
theorem d_gr0_5 : decode jdk_38_method_7_code 5 = .ok (.iconst 1, 1) := by decide +kernel
theorem d_gr0_6 : decode jdk_38_method_7_code 6 = .ok (.iadd, 1) := by decide +kernel
theorem d_gr0_7 : decode jdk_38_method_7_code 7 = .ok (.invokevirtual 69, 3) := by decide +kernel
theorem pd__I__Ljava_lang_Object_ : parseMethodDescriptor "(I)[Ljava/lang/Object;" = some ⟨[.int], some (.array (.object "java/lang/Object"))⟩ := by decide +kernel
theorem d_gr0_10 : decode jdk_38_method_7_code 10 = .ok (.areturn, 1) := by decide +kernel
theorem ef_adx0 (m : MethodId) (x0 : Addr) (x1 : Addr) (x2 : Addr) (x3 : Int32)  : entryFrame m #[(.ref x0), (.ref x1), (.ref x2), (.int x3)] 4 = mkF m 0 #[.val (.ref x0), .val (.ref x1), .val (.ref x2), .val (.int x3)] [] := by first | (simp [entryFrame, mkF, argsToLocals, Value.category]; done) | rfl
theorem d_adx0_0 : decode jdk_38_method_24_code 0 = .ok (.iload_n 3, 1) := by decide +kernel
theorem d_adx0_1 : decode jdk_38_method_24_code 1 = .ok (.aload_n 2, 1) := by decide +kernel
theorem d_adx0_2 : decode jdk_38_method_24_code 2 = .ok (.arraylength, 1) := by decide +kernel
theorem d_adx0_3 : decode jdk_38_method_24_code 3 = .ok (.if_icmp .ne 8, 3) := by decide +kernel
theorem d_adx0_6 : decode jdk_38_method_24_code 6 = .ok (.aload_n 0, 1) := by decide +kernel
theorem d_adx0_7 : decode jdk_38_method_24_code 7 = .ok (.invokevirtual 129, 3) := by decide +kernel
theorem pd____Ljava_lang_Object_ : parseMethodDescriptor "()[Ljava/lang/Object;" = some ⟨[], some (.array (.object "java/lang/Object"))⟩ := by decide +kernel
theorem d_adx0_10 : decode jdk_38_method_24_code 10 = .ok (.astore_n 2, 1) := by decide +kernel
theorem d_adx0_11 : decode jdk_38_method_24_code 11 = .ok (.aload_n 2, 1) := by decide +kernel
theorem d_adx0_12 : decode jdk_38_method_24_code 12 = .ok (.iload_n 3, 1) := by decide +kernel
theorem d_adx0_13 : decode jdk_38_method_24_code 13 = .ok (.aload_n 1, 1) := by decide +kernel
theorem d_adx0_14 : decode jdk_38_method_24_code 14 = .ok (.aastore, 1) := by decide +kernel
theorem d_adx0_15 : decode jdk_38_method_24_code 15 = .ok (.aload_n 0, 1) := by decide +kernel
theorem d_adx0_16 : decode jdk_38_method_24_code 16 = .ok (.iload_n 3, 1) := by decide +kernel
theorem d_adx0_17 : decode jdk_38_method_24_code 17 = .ok (.iconst 1, 1) := by decide +kernel
theorem d_adx0_18 : decode jdk_38_method_24_code 18 = .ok (.iadd, 1) := by decide +kernel
theorem d_adx0_19 : decode jdk_38_method_24_code 19 = .ok (.putfield 48, 3) := by decide +kernel
theorem d_adx0_22 : decode jdk_38_method_24_code 22 = .ok (.return_, 1) := by decide +kernel
theorem ef_adx1 (m : MethodId) (x0 : Addr) (x1 : Addr) (x2 : Addr) (x3 : Int32)  : entryFrame m #[(.ref x0), (.ref x1), (.ref x2), (.int x3)] 4 = mkF m 0 #[.val (.ref x0), .val (.ref x1), .val (.ref x2), .val (.int x3)] [] := by first | (simp [entryFrame, mkF, argsToLocals, Value.category]; done) | rfl
theorem d_adx1_0 : decode jdk_38_method_24_code 0 = .ok (.iload_n 3, 1) := by decide +kernel
theorem d_adx1_1 : decode jdk_38_method_24_code 1 = .ok (.aload_n 2, 1) := by decide +kernel
theorem d_adx1_2 : decode jdk_38_method_24_code 2 = .ok (.arraylength, 1) := by decide +kernel
theorem d_adx1_3 : decode jdk_38_method_24_code 3 = .ok (.if_icmp .ne 8, 3) := by decide +kernel
theorem d_adx1_11 : decode jdk_38_method_24_code 11 = .ok (.aload_n 2, 1) := by decide +kernel
theorem d_adx1_12 : decode jdk_38_method_24_code 12 = .ok (.iload_n 3, 1) := by decide +kernel
theorem d_adx1_13 : decode jdk_38_method_24_code 13 = .ok (.aload_n 1, 1) := by decide +kernel
theorem d_adx1_14 : decode jdk_38_method_24_code 14 = .ok (.aastore, 1) := by decide +kernel
theorem d_adx1_15 : decode jdk_38_method_24_code 15 = .ok (.aload_n 0, 1) := by decide +kernel
theorem d_adx1_16 : decode jdk_38_method_24_code 16 = .ok (.iload_n 3, 1) := by decide +kernel
theorem d_adx1_17 : decode jdk_38_method_24_code 17 = .ok (.iconst 1, 1) := by decide +kernel
theorem d_adx1_18 : decode jdk_38_method_24_code 18 = .ok (.iadd, 1) := by decide +kernel
theorem d_adx1_19 : decode jdk_38_method_24_code 19 = .ok (.putfield 48, 3) := by decide +kernel
theorem d_adx1_22 : decode jdk_38_method_24_code 22 = .ok (.return_, 1) := by decide +kernel
theorem ef_adx2 (m : MethodId) (x0 : Addr) (x1 : Addr) (x2 : Addr) (x3 : Int32)  : entryFrame m #[(.ref x0), (.ref x1), (.ref x2), (.int x3)] 4 = mkF m 0 #[.val (.ref x0), .val (.ref x1), .val (.ref x2), .val (.int x3)] [] := by first | (simp [entryFrame, mkF, argsToLocals, Value.category]; done) | rfl
theorem d_adx2_0 : decode jdk_38_method_24_code 0 = .ok (.iload_n 3, 1) := by decide +kernel
theorem d_adx2_1 : decode jdk_38_method_24_code 1 = .ok (.aload_n 2, 1) := by decide +kernel
theorem d_adx2_2 : decode jdk_38_method_24_code 2 = .ok (.arraylength, 1) := by decide +kernel
theorem d_adx2_3 : decode jdk_38_method_24_code 3 = .ok (.if_icmp .ne 8, 3) := by decide +kernel
theorem d_adx2_11 : decode jdk_38_method_24_code 11 = .ok (.aload_n 2, 1) := by decide +kernel
theorem d_adx2_12 : decode jdk_38_method_24_code 12 = .ok (.iload_n 3, 1) := by decide +kernel
theorem d_adx2_13 : decode jdk_38_method_24_code 13 = .ok (.aload_n 1, 1) := by decide +kernel
theorem d_adx2_14 : decode jdk_38_method_24_code 14 = .ok (.aastore, 1) := by decide +kernel
theorem d_adx2_15 : decode jdk_38_method_24_code 15 = .ok (.aload_n 0, 1) := by decide +kernel
theorem d_adx2_16 : decode jdk_38_method_24_code 16 = .ok (.iload_n 3, 1) := by decide +kernel
theorem d_adx2_17 : decode jdk_38_method_24_code 17 = .ok (.iconst 1, 1) := by decide +kernel
theorem d_adx2_18 : decode jdk_38_method_24_code 18 = .ok (.iadd, 1) := by decide +kernel
theorem d_adx2_19 : decode jdk_38_method_24_code 19 = .ok (.putfield 48, 3) := by decide +kernel
theorem d_adx2_22 : decode jdk_38_method_24_code 22 = .ok (.return_, 1) := by decide +kernel
theorem ef_add0 (m : MethodId) (x0 : Addr) (x1 : Addr)  : entryFrame m #[(.ref x0), (.ref x1)] 2 = mkF m 0 #[.val (.ref x0), .val (.ref x1)] [] := by first | (simp [entryFrame, mkF, argsToLocals, Value.category]; done) | rfl
theorem d_add0_0 : decode jdk_38_method_25_code 0 = .ok (.aload_n 0, 1) := by decide +kernel
theorem d_add0_1 : decode jdk_38_method_25_code 1 = .ok (.dup, 1) := by decide +kernel
theorem d_add0_2 : decode jdk_38_method_25_code 2 = .ok (.getfield 63, 3) := by decide +kernel
theorem d_add0_5 : decode jdk_38_method_25_code 5 = .ok (.iconst 1, 1) := by decide +kernel
theorem d_add0_6 : decode jdk_38_method_25_code 6 = .ok (.iadd, 1) := by decide +kernel
theorem d_add0_7 : decode jdk_38_method_25_code 7 = .ok (.putfield 63, 3) := by decide +kernel
theorem d_add0_10 : decode jdk_38_method_25_code 10 = .ok (.aload_n 0, 1) := by decide +kernel
theorem d_add0_11 : decode jdk_38_method_25_code 11 = .ok (.aload_n 1, 1) := by decide +kernel
theorem d_add0_12 : decode jdk_38_method_25_code 12 = .ok (.aload_n 0, 1) := by decide +kernel
theorem d_add0_13 : decode jdk_38_method_25_code 13 = .ok (.getfield 9, 3) := by decide +kernel
theorem d_add0_16 : decode jdk_38_method_25_code 16 = .ok (.aload_n 0, 1) := by decide +kernel
theorem d_add0_17 : decode jdk_38_method_25_code 17 = .ok (.getfield 48, 3) := by decide +kernel
theorem d_add0_20 : decode jdk_38_method_25_code 20 = .ok (.invokevirtual 131, 3) := by decide +kernel
theorem pd__Ljava_lang_Object__Ljava_lang_Object_I_V : parseMethodDescriptor "(Ljava/lang/Object;[Ljava/lang/Object;I)V" = some ⟨[(.object "java/lang/Object"), (.array (.object "java/lang/Object")), .int], none⟩ := by decide +kernel
theorem d_add0_23 : decode jdk_38_method_25_code 23 = .ok (.iconst 1, 1) := by decide +kernel
theorem d_add0_24 : decode jdk_38_method_25_code 24 = .ok (.ireturn, 1) := by decide +kernel
theorem ef_add1 (m : MethodId) (x0 : Addr) (x1 : Addr)  : entryFrame m #[(.ref x0), (.ref x1)] 2 = mkF m 0 #[.val (.ref x0), .val (.ref x1)] [] := by first | (simp [entryFrame, mkF, argsToLocals, Value.category]; done) | rfl
theorem d_add1_0 : decode jdk_38_method_25_code 0 = .ok (.aload_n 0, 1) := by decide +kernel
theorem d_add1_1 : decode jdk_38_method_25_code 1 = .ok (.dup, 1) := by decide +kernel
theorem d_add1_2 : decode jdk_38_method_25_code 2 = .ok (.getfield 63, 3) := by decide +kernel
theorem d_add1_5 : decode jdk_38_method_25_code 5 = .ok (.iconst 1, 1) := by decide +kernel
theorem d_add1_6 : decode jdk_38_method_25_code 6 = .ok (.iadd, 1) := by decide +kernel
theorem d_add1_7 : decode jdk_38_method_25_code 7 = .ok (.putfield 63, 3) := by decide +kernel
theorem d_add1_10 : decode jdk_38_method_25_code 10 = .ok (.aload_n 0, 1) := by decide +kernel
theorem d_add1_11 : decode jdk_38_method_25_code 11 = .ok (.aload_n 1, 1) := by decide +kernel
theorem d_add1_12 : decode jdk_38_method_25_code 12 = .ok (.aload_n 0, 1) := by decide +kernel
theorem d_add1_13 : decode jdk_38_method_25_code 13 = .ok (.getfield 9, 3) := by decide +kernel
theorem d_add1_16 : decode jdk_38_method_25_code 16 = .ok (.aload_n 0, 1) := by decide +kernel
theorem d_add1_17 : decode jdk_38_method_25_code 17 = .ok (.getfield 48, 3) := by decide +kernel
theorem d_add1_20 : decode jdk_38_method_25_code 20 = .ok (.invokevirtual 131, 3) := by decide +kernel
theorem d_add1_23 : decode jdk_38_method_25_code 23 = .ok (.iconst 1, 1) := by decide +kernel
theorem d_add1_24 : decode jdk_38_method_25_code 24 = .ok (.ireturn, 1) := by decide +kernel
theorem ef_add2 (m : MethodId) (x0 : Addr) (x1 : Addr)  : entryFrame m #[(.ref x0), (.ref x1)] 2 = mkF m 0 #[.val (.ref x0), .val (.ref x1)] [] := by first | (simp [entryFrame, mkF, argsToLocals, Value.category]; done) | rfl
theorem d_add2_0 : decode jdk_38_method_25_code 0 = .ok (.aload_n 0, 1) := by decide +kernel
theorem d_add2_1 : decode jdk_38_method_25_code 1 = .ok (.dup, 1) := by decide +kernel
theorem d_add2_2 : decode jdk_38_method_25_code 2 = .ok (.getfield 63, 3) := by decide +kernel
theorem d_add2_5 : decode jdk_38_method_25_code 5 = .ok (.iconst 1, 1) := by decide +kernel
theorem d_add2_6 : decode jdk_38_method_25_code 6 = .ok (.iadd, 1) := by decide +kernel
theorem d_add2_7 : decode jdk_38_method_25_code 7 = .ok (.putfield 63, 3) := by decide +kernel
theorem d_add2_10 : decode jdk_38_method_25_code 10 = .ok (.aload_n 0, 1) := by decide +kernel
theorem d_add2_11 : decode jdk_38_method_25_code 11 = .ok (.aload_n 1, 1) := by decide +kernel
theorem d_add2_12 : decode jdk_38_method_25_code 12 = .ok (.aload_n 0, 1) := by decide +kernel
theorem d_add2_13 : decode jdk_38_method_25_code 13 = .ok (.getfield 9, 3) := by decide +kernel
theorem d_add2_16 : decode jdk_38_method_25_code 16 = .ok (.aload_n 0, 1) := by decide +kernel
theorem d_add2_17 : decode jdk_38_method_25_code 17 = .ok (.getfield 48, 3) := by decide +kernel
theorem d_add2_20 : decode jdk_38_method_25_code 20 = .ok (.invokevirtual 131, 3) := by decide +kernel
theorem d_add2_23 : decode jdk_38_method_25_code 23 = .ok (.iconst 1, 1) := by decide +kernel
theorem d_add2_24 : decode jdk_38_method_25_code 24 = .ok (.ireturn, 1) := by decide +kernel
theorem ef_lof (m : MethodId)   : entryFrame m #[] 0 = mkF m 0 #[] [] := by first | (simp [entryFrame, mkF, argsToLocals, Value.category]; done) | rfl
theorem pn_java_util_List : plainName "java/util/List" = true := by first | (simp [plainName, overriddenIn]; done) | decide +kernel
theorem d_lof_0 : decode jdk_40_method_36_code 0 = .ok (.getstatic 90, 3) := by decide +kernel
theorem d_lof_3 : decode jdk_40_method_36_code 3 = .ok (.areturn, 1) := by decide +kernel
theorem ef_ie0 (m : MethodId) (x0 : Addr)  : entryFrame m #[(.ref x0)] 1 = mkF m 0 #[.val (.ref x0)] [] := by first | (simp [entryFrame, mkF, argsToLocals, Value.category]; done) | rfl
theorem d_ie0_0 : decode jdk_38_method_9_code 0 = .ok (.aload_n 0, 1) := by decide +kernel
theorem d_ie0_1 : decode jdk_38_method_9_code 1 = .ok (.getfield 48, 3) := by decide +kernel
theorem d_ie0_4 : decode jdk_38_method_9_code 4 = .ok (.ifCond .ne 7, 3) := by decide +kernel
theorem d_ie0_7 : decode jdk_38_method_9_code 7 = .ok (.iconst 1, 1) := by decide +kernel
theorem d_ie0_8 : decode jdk_38_method_9_code 8 = .ok (.goto 4, 3) := by decide +kernel
theorem d_ie0_12 : decode jdk_38_method_9_code 12 = .ok (.ireturn, 1) := by decide +kernel
theorem ef_ie1 (m : MethodId) (x0 : Addr)  : entryFrame m #[(.ref x0)] 1 = mkF m 0 #[.val (.ref x0)] [] := by first | (simp [entryFrame, mkF, argsToLocals, Value.category]; done) | rfl
theorem d_ie1_0 : decode jdk_38_method_9_code 0 = .ok (.aload_n 0, 1) := by decide +kernel
theorem d_ie1_1 : decode jdk_38_method_9_code 1 = .ok (.getfield 48, 3) := by decide +kernel
theorem d_ie1_4 : decode jdk_38_method_9_code 4 = .ok (.ifCond .ne 7, 3) := by decide +kernel
theorem d_ie1_11 : decode jdk_38_method_9_code 11 = .ok (.iconst 0, 1) := by decide +kernel
theorem d_ie1_12 : decode jdk_38_method_9_code 12 = .ok (.ireturn, 1) := by decide +kernel
theorem ef_ie2 (m : MethodId) (x0 : Addr)  : entryFrame m #[(.ref x0)] 1 = mkF m 0 #[.val (.ref x0)] [] := by first | (simp [entryFrame, mkF, argsToLocals, Value.category]; done) | rfl
theorem d_ie2_0 : decode jdk_38_method_9_code 0 = .ok (.aload_n 0, 1) := by decide +kernel
theorem d_ie2_1 : decode jdk_38_method_9_code 1 = .ok (.getfield 48, 3) := by decide +kernel
theorem d_ie2_4 : decode jdk_38_method_9_code 4 = .ok (.ifCond .ne 7, 3) := by decide +kernel
theorem d_ie2_11 : decode jdk_38_method_9_code 11 = .ok (.iconst 0, 1) := by decide +kernel
theorem d_ie2_12 : decode jdk_38_method_9_code 12 = .ok (.ireturn, 1) := by decide +kernel
theorem ef_ie3 (m : MethodId) (x0 : Addr)  : entryFrame m #[(.ref x0)] 1 = mkF m 0 #[.val (.ref x0)] [] := by first | (simp [entryFrame, mkF, argsToLocals, Value.category]; done) | rfl
theorem d_ie3_0 : decode jdk_38_method_9_code 0 = .ok (.aload_n 0, 1) := by decide +kernel
theorem d_ie3_1 : decode jdk_38_method_9_code 1 = .ok (.getfield 48, 3) := by decide +kernel
theorem d_ie3_4 : decode jdk_38_method_9_code 4 = .ok (.ifCond .ne 7, 3) := by decide +kernel
theorem d_ie3_11 : decode jdk_38_method_9_code 11 = .ok (.iconst 0, 1) := by decide +kernel
theorem d_ie3_12 : decode jdk_38_method_9_code 12 = .ok (.ireturn, 1) := by decide +kernel
theorem ef_lns0 (m : MethodId) (x0 : Addr)  : entryFrame m #[(.ref x0)] 1 = mkF m 0 #[.val (.ref x0)] [] := by first | (simp [entryFrame, mkF, argsToLocals, Value.category]; done) | rfl
theorem pn_java_util_ImmutableCollections_ListN : plainName "java/util/ImmutableCollections$ListN" = true := by first | (simp [plainName, overriddenIn]; done) | decide +kernel
theorem d_lns0_0 : decode jdk_45_method_3_code 0 = .ok (.aload_n 0, 1) := by decide +kernel
theorem d_lns0_1 : decode jdk_45_method_3_code 1 = .ok (.getfield 7, 3) := by decide +kernel
theorem d_lns0_4 : decode jdk_45_method_3_code 4 = .ok (.arraylength, 1) := by decide +kernel
theorem d_lns0_5 : decode jdk_45_method_3_code 5 = .ok (.ireturn, 1) := by decide +kernel
theorem ef_lns3 (m : MethodId) (x0 : Addr)  : entryFrame m #[(.ref x0)] 1 = mkF m 0 #[.val (.ref x0)] [] := by first | (simp [entryFrame, mkF, argsToLocals, Value.category]; done) | rfl
theorem d_lns3_0 : decode jdk_45_method_3_code 0 = .ok (.aload_n 0, 1) := by decide +kernel
theorem d_lns3_1 : decode jdk_45_method_3_code 1 = .ok (.getfield 7, 3) := by decide +kernel
theorem d_lns3_4 : decode jdk_45_method_3_code 4 = .ok (.arraylength, 1) := by decide +kernel
theorem d_lns3_5 : decode jdk_45_method_3_code 5 = .ok (.ireturn, 1) := by decide +kernel
theorem ef_l2s1 (m : MethodId) (x0 : Addr)  : entryFrame m #[(.ref x0)] 1 = mkF m 0 #[.val (.ref x0)] [] := by first | (simp [entryFrame, mkF, argsToLocals, Value.category]; done) | rfl
theorem pn_java_util_ImmutableCollections_List12 : plainName "java/util/ImmutableCollections$List12" = true := by first | (simp [plainName, overriddenIn]; done) | decide +kernel
theorem d_l2s1_0 : decode jdk_44_method_3_code 0 = .ok (.aload_n 0, 1) := by decide +kernel
theorem d_l2s1_1 : decode jdk_44_method_3_code 1 = .ok (.getfield 24, 3) := by decide +kernel
theorem d_l2s1_4 : decode jdk_44_method_3_code 4 = .ok (.getstatic 19, 3) := by decide +kernel
theorem d_l2s1_7 : decode jdk_44_method_3_code 7 = .ok (.if_acmp .eq 7, 3) := by decide +kernel
theorem d_l2s1_14 : decode jdk_44_method_3_code 14 = .ok (.iconst 1, 1) := by decide +kernel
theorem d_l2s1_15 : decode jdk_44_method_3_code 15 = .ok (.ireturn, 1) := by decide +kernel
theorem ef_l2s2 (m : MethodId) (x0 : Addr)  : entryFrame m #[(.ref x0)] 1 = mkF m 0 #[.val (.ref x0)] [] := by first | (simp [entryFrame, mkF, argsToLocals, Value.category]; done) | rfl
theorem d_l2s2_0 : decode jdk_44_method_3_code 0 = .ok (.aload_n 0, 1) := by decide +kernel
theorem d_l2s2_1 : decode jdk_44_method_3_code 1 = .ok (.getfield 24, 3) := by decide +kernel
theorem d_l2s2_4 : decode jdk_44_method_3_code 4 = .ok (.getstatic 19, 3) := by decide +kernel
theorem d_l2s2_7 : decode jdk_44_method_3_code 7 = .ok (.if_acmp .eq 7, 3) := by decide +kernel
theorem d_l2s2_10 : decode jdk_44_method_3_code 10 = .ok (.iconst 2, 1) := by decide +kernel
theorem d_l2s2_11 : decode jdk_44_method_3_code 11 = .ok (.goto 4, 3) := by decide +kernel
theorem d_l2s2_15 : decode jdk_44_method_3_code 15 = .ok (.ireturn, 1) := by decide +kernel
theorem ef_l2i1 (m : MethodId) (x0 : Addr) (x1 : Addr)  : entryFrame m #[(.ref x0), (.ref x1)] 2 = mkF m 0 #[.val (.ref x0), .val (.ref x1)] [] := by first | (simp [entryFrame, mkF, argsToLocals, Value.category]; done) | rfl
theorem d_l2i1_0 : decode jdk_44_method_1_code 0 = .ok (.aload_n 0, 1) := by decide +kernel
theorem d_l2i1_1 : decode jdk_44_method_1_code 1 = .ok (.invokespecial 1, 3) := by decide +kernel
theorem d_l2i1_4 : decode jdk_44_method_1_code 4 = .ok (.aload_n 0, 1) := by decide +kernel
theorem d_l2i1_5 : decode jdk_44_method_1_code 5 = .ok (.aload_n 1, 1) := by decide +kernel
theorem d_l2i1_6 : decode jdk_44_method_1_code 6 = .ok (.invokestatic 7, 3) := by decide +kernel
theorem pd__Ljava_lang_Object__Ljava_lang_Object_ : parseMethodDescriptor "(Ljava/lang/Object;)Ljava/lang/Object;" = some ⟨[(.object "java/lang/Object")], some (.object "java/lang/Object")⟩ := by decide +kernel
theorem d_l2i1_9 : decode jdk_44_method_1_code 9 = .ok (.putfield 13, 3) := by decide +kernel
theorem d_l2i1_12 : decode jdk_44_method_1_code 12 = .ok (.aload_n 0, 1) := by decide +kernel
theorem d_l2i1_13 : decode jdk_44_method_1_code 13 = .ok (.getstatic 19, 3) := by decide +kernel
theorem d_l2i1_16 : decode jdk_44_method_1_code 16 = .ok (.putfield 24, 3) := by decide +kernel
theorem d_l2i1_19 : decode jdk_44_method_1_code 19 = .ok (.return_, 1) := by decide +kernel
theorem ef_l2i2 (m : MethodId) (x0 : Addr) (x1 : Addr) (x2 : Addr)  : entryFrame m #[(.ref x0), (.ref x1), (.ref x2)] 3 = mkF m 0 #[.val (.ref x0), .val (.ref x1), .val (.ref x2)] [] := by first | (simp [entryFrame, mkF, argsToLocals, Value.category]; done) | rfl
theorem d_l2i2_0 : decode jdk_44_method_2_code 0 = .ok (.aload_n 0, 1) := by decide +kernel
theorem d_l2i2_1 : decode jdk_44_method_2_code 1 = .ok (.invokespecial 1, 3) := by decide +kernel
theorem d_l2i2_4 : decode jdk_44_method_2_code 4 = .ok (.aload_n 0, 1) := by decide +kernel
theorem d_l2i2_5 : decode jdk_44_method_2_code 5 = .ok (.aload_n 1, 1) := by decide +kernel
theorem d_l2i2_6 : decode jdk_44_method_2_code 6 = .ok (.invokestatic 7, 3) := by decide +kernel
theorem d_l2i2_9 : decode jdk_44_method_2_code 9 = .ok (.putfield 13, 3) := by decide +kernel
theorem d_l2i2_12 : decode jdk_44_method_2_code 12 = .ok (.aload_n 0, 1) := by decide +kernel
theorem d_l2i2_13 : decode jdk_44_method_2_code 13 = .ok (.aload_n 2, 1) := by decide +kernel
theorem d_l2i2_14 : decode jdk_44_method_2_code 14 = .ok (.invokestatic 7, 3) := by decide +kernel
theorem d_l2i2_17 : decode jdk_44_method_2_code 17 = .ok (.putfield 24, 3) := by decide +kernel
theorem d_l2i2_20 : decode jdk_44_method_2_code 20 = .ok (.return_, 1) := by decide +kernel
theorem ef_lni (m : MethodId) (x0 : Addr) (x1 : Addr) (x2 : Int32)  : entryFrame m #[(.ref x0), (.ref x1), (.int x2)] 3 = mkF m 0 #[.val (.ref x0), .val (.ref x1), .val (.int x2)] [] := by first | (simp [entryFrame, mkF, argsToLocals, Value.category]; done) | rfl
theorem d_lni_0 : decode jdk_45_method_1_code 0 = .ok (.aload_n 0, 1) := by decide +kernel
theorem d_lni_1 : decode jdk_45_method_1_code 1 = .ok (.invokespecial 1, 3) := by decide +kernel
theorem d_lni_4 : decode jdk_45_method_1_code 4 = .ok (.aload_n 0, 1) := by decide +kernel
theorem d_lni_5 : decode jdk_45_method_1_code 5 = .ok (.aload_n 1, 1) := by decide +kernel
theorem d_lni_6 : decode jdk_45_method_1_code 6 = .ok (.putfield 7, 3) := by decide +kernel
theorem d_lni_9 : decode jdk_45_method_1_code 9 = .ok (.aload_n 0, 1) := by decide +kernel
theorem d_lni_10 : decode jdk_45_method_1_code 10 = .ok (.iload_n 2, 1) := by decide +kernel
theorem d_lni_11 : decode jdk_45_method_1_code 11 = .ok (.putfield 13, 3) := by decide +kernel
theorem d_lni_14 : decode jdk_45_method_1_code 14 = .ok (.return_, 1) := by decide +kernel
theorem ef_min1 (m : MethodId) (x0 : Int32) (x1 : Int32)  : entryFrame m #[(.int x0), (.int x1)] 2 = mkF m 0 #[.val (.int x0), .val (.int x1)] [] := by first | (simp [entryFrame, mkF, argsToLocals, Value.category]; done) | rfl
theorem d_min1_0 : decode jdk_29_method_69_code 0 = .ok (.iload_n 0, 1) := by decide +kernel
theorem d_min1_1 : decode jdk_29_method_69_code 1 = .ok (.iload_n 1, 1) := by decide +kernel
theorem d_min1_2 : decode jdk_29_method_69_code 2 = .ok (.if_icmp .gt 7, 3) := by decide +kernel
theorem d_min1_9 : decode jdk_29_method_69_code 9 = .ok (.iload_n 1, 1) := by decide +kernel
theorem d_min1_10 : decode jdk_29_method_69_code 10 = .ok (.ireturn, 1) := by decide +kernel
theorem ef_cq1 (m : MethodId) (x0 : Addr) (x1 : Int32) (x2 : Addr)  : entryFrame m #[(.ref x0), (.int x1), (.ref x2)] 4 = mkF m 0 #[.val (.ref x0), .val (.int x1), .val (.ref x2), .unset] [] := by first | (simp [entryFrame, mkF, argsToLocals, Value.category]; done) | rfl
theorem pn_java_util_Arrays : plainName "java/util/Arrays" = true := by first | (simp [plainName, overriddenIn]; done) | decide +kernel
theorem d_cq1_0 : decode jdk_65_method_120_code 0 = .ok (.aload_n 2, 1) := by decide +kernel
theorem d_cq1_1 : decode jdk_65_method_120_code 1 = .ok (.ldc 110, 2) := by decide +kernel
theorem d_cq1_3 : decode jdk_65_method_120_code 3 = .ok (.if_acmp .ne 10, 3) := by decide +kernel
theorem d_cq1_6 : decode jdk_65_method_120_code 6 = .ok (.iload_n 1, 1) := by decide +kernel
theorem d_cq1_7 : decode jdk_65_method_120_code 7 = .ok (.anewarray 2, 3) := by decide +kernel
theorem d_cq1_10 : decode jdk_65_method_120_code 10 = .ok (.goto 14, 3) := by decide +kernel
theorem d_cq1_24 : decode jdk_65_method_120_code 24 = .ok (.astore_n 3, 1) := by decide +kernel
theorem d_cq1_25 : decode jdk_65_method_120_code 25 = .ok (.aload_n 0, 1) := by decide +kernel
theorem d_cq1_26 : decode jdk_65_method_120_code 26 = .ok (.iconst 0, 1) := by decide +kernel
theorem d_cq1_27 : decode jdk_65_method_120_code 27 = .ok (.aload_n 3, 1) := by decide +kernel
theorem d_cq1_28 : decode jdk_65_method_120_code 28 = .ok (.iconst 0, 1) := by decide +kernel
theorem d_cq1_29 : decode jdk_65_method_120_code 29 = .ok (.aload_n 0, 1) := by decide +kernel
theorem d_cq1_30 : decode jdk_65_method_120_code 30 = .ok (.arraylength, 1) := by decide +kernel
theorem d_cq1_31 : decode jdk_65_method_120_code 31 = .ok (.iload_n 1, 1) := by decide +kernel
theorem d_cq1_32 : decode jdk_65_method_120_code 32 = .ok (.invokestatic 304, 3) := by decide +kernel
theorem d_cq1_35 : decode jdk_65_method_120_code 35 = .ok (.invokestatic 150, 3) := by decide +kernel
theorem d_cq1_38 : decode jdk_65_method_120_code 38 = .ok (.aload_n 3, 1) := by decide +kernel
theorem d_cq1_39 : decode jdk_65_method_120_code 39 = .ok (.areturn, 1) := by decide +kernel
theorem ef_min2 (m : MethodId) (x0 : Int32) (x1 : Int32)  : entryFrame m #[(.int x0), (.int x1)] 2 = mkF m 0 #[.val (.int x0), .val (.int x1)] [] := by first | (simp [entryFrame, mkF, argsToLocals, Value.category]; done) | rfl
theorem d_min2_0 : decode jdk_29_method_69_code 0 = .ok (.iload_n 0, 1) := by decide +kernel
theorem d_min2_1 : decode jdk_29_method_69_code 1 = .ok (.iload_n 1, 1) := by decide +kernel
theorem d_min2_2 : decode jdk_29_method_69_code 2 = .ok (.if_icmp .gt 7, 3) := by decide +kernel
theorem d_min2_9 : decode jdk_29_method_69_code 9 = .ok (.iload_n 1, 1) := by decide +kernel
theorem d_min2_10 : decode jdk_29_method_69_code 10 = .ok (.ireturn, 1) := by decide +kernel
theorem ef_cq2 (m : MethodId) (x0 : Addr) (x1 : Int32) (x2 : Addr)  : entryFrame m #[(.ref x0), (.int x1), (.ref x2)] 4 = mkF m 0 #[.val (.ref x0), .val (.int x1), .val (.ref x2), .unset] [] := by first | (simp [entryFrame, mkF, argsToLocals, Value.category]; done) | rfl
theorem d_cq2_0 : decode jdk_65_method_120_code 0 = .ok (.aload_n 2, 1) := by decide +kernel
theorem d_cq2_1 : decode jdk_65_method_120_code 1 = .ok (.ldc 110, 2) := by decide +kernel
theorem d_cq2_3 : decode jdk_65_method_120_code 3 = .ok (.if_acmp .ne 10, 3) := by decide +kernel
theorem d_cq2_6 : decode jdk_65_method_120_code 6 = .ok (.iload_n 1, 1) := by decide +kernel
theorem d_cq2_7 : decode jdk_65_method_120_code 7 = .ok (.anewarray 2, 3) := by decide +kernel
theorem d_cq2_10 : decode jdk_65_method_120_code 10 = .ok (.goto 14, 3) := by decide +kernel
theorem d_cq2_24 : decode jdk_65_method_120_code 24 = .ok (.astore_n 3, 1) := by decide +kernel
theorem d_cq2_25 : decode jdk_65_method_120_code 25 = .ok (.aload_n 0, 1) := by decide +kernel
theorem d_cq2_26 : decode jdk_65_method_120_code 26 = .ok (.iconst 0, 1) := by decide +kernel
theorem d_cq2_27 : decode jdk_65_method_120_code 27 = .ok (.aload_n 3, 1) := by decide +kernel
theorem d_cq2_28 : decode jdk_65_method_120_code 28 = .ok (.iconst 0, 1) := by decide +kernel
theorem d_cq2_29 : decode jdk_65_method_120_code 29 = .ok (.aload_n 0, 1) := by decide +kernel
theorem d_cq2_30 : decode jdk_65_method_120_code 30 = .ok (.arraylength, 1) := by decide +kernel
theorem d_cq2_31 : decode jdk_65_method_120_code 31 = .ok (.iload_n 1, 1) := by decide +kernel
theorem d_cq2_32 : decode jdk_65_method_120_code 32 = .ok (.invokestatic 304, 3) := by decide +kernel
theorem d_cq2_35 : decode jdk_65_method_120_code 35 = .ok (.invokestatic 150, 3) := by decide +kernel
theorem d_cq2_38 : decode jdk_65_method_120_code 38 = .ok (.aload_n 3, 1) := by decide +kernel
theorem d_cq2_39 : decode jdk_65_method_120_code 39 = .ok (.areturn, 1) := by decide +kernel
theorem ef_min3 (m : MethodId) (x0 : Int32) (x1 : Int32)  : entryFrame m #[(.int x0), (.int x1)] 2 = mkF m 0 #[.val (.int x0), .val (.int x1)] [] := by first | (simp [entryFrame, mkF, argsToLocals, Value.category]; done) | rfl
theorem d_min3_0 : decode jdk_29_method_69_code 0 = .ok (.iload_n 0, 1) := by decide +kernel
theorem d_min3_1 : decode jdk_29_method_69_code 1 = .ok (.iload_n 1, 1) := by decide +kernel
theorem d_min3_2 : decode jdk_29_method_69_code 2 = .ok (.if_icmp .gt 7, 3) := by decide +kernel
theorem d_min3_9 : decode jdk_29_method_69_code 9 = .ok (.iload_n 1, 1) := by decide +kernel
theorem d_min3_10 : decode jdk_29_method_69_code 10 = .ok (.ireturn, 1) := by decide +kernel
theorem ef_cq3 (m : MethodId) (x0 : Addr) (x1 : Int32) (x2 : Addr)  : entryFrame m #[(.ref x0), (.int x1), (.ref x2)] 4 = mkF m 0 #[.val (.ref x0), .val (.int x1), .val (.ref x2), .unset] [] := by first | (simp [entryFrame, mkF, argsToLocals, Value.category]; done) | rfl
theorem d_cq3_0 : decode jdk_65_method_120_code 0 = .ok (.aload_n 2, 1) := by decide +kernel
theorem d_cq3_1 : decode jdk_65_method_120_code 1 = .ok (.ldc 110, 2) := by decide +kernel
theorem d_cq3_3 : decode jdk_65_method_120_code 3 = .ok (.if_acmp .ne 10, 3) := by decide +kernel
theorem d_cq3_6 : decode jdk_65_method_120_code 6 = .ok (.iload_n 1, 1) := by decide +kernel
theorem d_cq3_7 : decode jdk_65_method_120_code 7 = .ok (.anewarray 2, 3) := by decide +kernel
theorem d_cq3_10 : decode jdk_65_method_120_code 10 = .ok (.goto 14, 3) := by decide +kernel
theorem d_cq3_24 : decode jdk_65_method_120_code 24 = .ok (.astore_n 3, 1) := by decide +kernel
theorem d_cq3_25 : decode jdk_65_method_120_code 25 = .ok (.aload_n 0, 1) := by decide +kernel
theorem d_cq3_26 : decode jdk_65_method_120_code 26 = .ok (.iconst 0, 1) := by decide +kernel
theorem d_cq3_27 : decode jdk_65_method_120_code 27 = .ok (.aload_n 3, 1) := by decide +kernel
theorem d_cq3_28 : decode jdk_65_method_120_code 28 = .ok (.iconst 0, 1) := by decide +kernel
theorem d_cq3_29 : decode jdk_65_method_120_code 29 = .ok (.aload_n 0, 1) := by decide +kernel
theorem d_cq3_30 : decode jdk_65_method_120_code 30 = .ok (.arraylength, 1) := by decide +kernel
theorem d_cq3_31 : decode jdk_65_method_120_code 31 = .ok (.iload_n 1, 1) := by decide +kernel
theorem d_cq3_32 : decode jdk_65_method_120_code 32 = .ok (.invokestatic 304, 3) := by decide +kernel
theorem d_cq3_35 : decode jdk_65_method_120_code 35 = .ok (.invokestatic 150, 3) := by decide +kernel
theorem d_cq3_38 : decode jdk_65_method_120_code 38 = .ok (.aload_n 3, 1) := by decide +kernel
theorem d_cq3_39 : decode jdk_65_method_120_code 39 = .ok (.areturn, 1) := by decide +kernel
theorem ef_cr1 (m : MethodId) (x0 : Addr) (x1 : Int32)  : entryFrame m #[(.ref x0), (.int x1)] 2 = mkF m 0 #[.val (.ref x0), .val (.int x1)] [] := by first | (simp [entryFrame, mkF, argsToLocals, Value.category]; done) | rfl
theorem d_cr1_0 : decode jdk_65_method_119_code 0 = .ok (.aload_n 0, 1) := by decide +kernel
theorem d_cr1_1 : decode jdk_65_method_119_code 1 = .ok (.iload_n 1, 1) := by decide +kernel
theorem d_cr1_2 : decode jdk_65_method_119_code 2 = .ok (.aload_n 0, 1) := by decide +kernel
theorem d_cr1_3 : decode jdk_65_method_119_code 3 = .ok (.invokevirtual 86, 3) := by decide +kernel
theorem d_cr1_6 : decode jdk_65_method_119_code 6 = .ok (.invokestatic 300, 3) := by decide +kernel
theorem pd___Ljava_lang_Object_ILjava_lang_Class___Ljava_lang_Object_ : parseMethodDescriptor "([Ljava/lang/Object;ILjava/lang/Class;)[Ljava/lang/Object;" = some ⟨[(.array (.object "java/lang/Object")), .int, (.object "java/lang/Class")], some (.array (.object "java/lang/Object"))⟩ := by decide +kernel
theorem d_cr1_9 : decode jdk_65_method_119_code 9 = .ok (.areturn, 1) := by decide +kernel
theorem ef_toa1 (m : MethodId) (x0 : Addr)  : entryFrame m #[(.ref x0)] 1 = mkF m 0 #[.val (.ref x0)] [] := by first | (simp [entryFrame, mkF, argsToLocals, Value.category]; done) | rfl
theorem d_toa1_0 : decode jdk_38_method_16_code 0 = .ok (.aload_n 0, 1) := by decide +kernel
theorem d_toa1_1 : decode jdk_38_method_16_code 1 = .ok (.getfield 9, 3) := by decide +kernel
theorem d_toa1_4 : decode jdk_38_method_16_code 4 = .ok (.aload_n 0, 1) := by decide +kernel
theorem d_toa1_5 : decode jdk_38_method_16_code 5 = .ok (.getfield 48, 3) := by decide +kernel
theorem d_toa1_8 : decode jdk_38_method_16_code 8 = .ok (.invokestatic 66, 3) := by decide +kernel
theorem pd___Ljava_lang_Object_I__Ljava_lang_Object_ : parseMethodDescriptor "([Ljava/lang/Object;I)[Ljava/lang/Object;" = some ⟨[(.array (.object "java/lang/Object")), .int], some (.array (.object "java/lang/Object"))⟩ := by decide +kernel
theorem d_toa1_11 : decode jdk_38_method_16_code 11 = .ok (.areturn, 1) := by decide +kernel
theorem ef_cr2 (m : MethodId) (x0 : Addr) (x1 : Int32)  : entryFrame m #[(.ref x0), (.int x1)] 2 = mkF m 0 #[.val (.ref x0), .val (.int x1)] [] := by first | (simp [entryFrame, mkF, argsToLocals, Value.category]; done) | rfl
theorem d_cr2_0 : decode jdk_65_method_119_code 0 = .ok (.aload_n 0, 1) := by decide +kernel
theorem d_cr2_1 : decode jdk_65_method_119_code 1 = .ok (.iload_n 1, 1) := by decide +kernel
theorem d_cr2_2 : decode jdk_65_method_119_code 2 = .ok (.aload_n 0, 1) := by decide +kernel
theorem d_cr2_3 : decode jdk_65_method_119_code 3 = .ok (.invokevirtual 86, 3) := by decide +kernel
theorem d_cr2_6 : decode jdk_65_method_119_code 6 = .ok (.invokestatic 300, 3) := by decide +kernel
theorem d_cr2_9 : decode jdk_65_method_119_code 9 = .ok (.areturn, 1) := by decide +kernel
theorem ef_toa2 (m : MethodId) (x0 : Addr)  : entryFrame m #[(.ref x0)] 1 = mkF m 0 #[.val (.ref x0)] [] := by first | (simp [entryFrame, mkF, argsToLocals, Value.category]; done) | rfl
theorem d_toa2_0 : decode jdk_38_method_16_code 0 = .ok (.aload_n 0, 1) := by decide +kernel
theorem d_toa2_1 : decode jdk_38_method_16_code 1 = .ok (.getfield 9, 3) := by decide +kernel
theorem d_toa2_4 : decode jdk_38_method_16_code 4 = .ok (.aload_n 0, 1) := by decide +kernel
theorem d_toa2_5 : decode jdk_38_method_16_code 5 = .ok (.getfield 48, 3) := by decide +kernel
theorem d_toa2_8 : decode jdk_38_method_16_code 8 = .ok (.invokestatic 66, 3) := by decide +kernel
theorem d_toa2_11 : decode jdk_38_method_16_code 11 = .ok (.areturn, 1) := by decide +kernel
theorem ef_cr3 (m : MethodId) (x0 : Addr) (x1 : Int32)  : entryFrame m #[(.ref x0), (.int x1)] 2 = mkF m 0 #[.val (.ref x0), .val (.int x1)] [] := by first | (simp [entryFrame, mkF, argsToLocals, Value.category]; done) | rfl
theorem d_cr3_0 : decode jdk_65_method_119_code 0 = .ok (.aload_n 0, 1) := by decide +kernel
theorem d_cr3_1 : decode jdk_65_method_119_code 1 = .ok (.iload_n 1, 1) := by decide +kernel
theorem d_cr3_2 : decode jdk_65_method_119_code 2 = .ok (.aload_n 0, 1) := by decide +kernel
theorem d_cr3_3 : decode jdk_65_method_119_code 3 = .ok (.invokevirtual 86, 3) := by decide +kernel
theorem d_cr3_6 : decode jdk_65_method_119_code 6 = .ok (.invokestatic 300, 3) := by decide +kernel
theorem d_cr3_9 : decode jdk_65_method_119_code 9 = .ok (.areturn, 1) := by decide +kernel
theorem ef_toa3 (m : MethodId) (x0 : Addr)  : entryFrame m #[(.ref x0)] 1 = mkF m 0 #[.val (.ref x0)] [] := by first | (simp [entryFrame, mkF, argsToLocals, Value.category]; done) | rfl
theorem d_toa3_0 : decode jdk_38_method_16_code 0 = .ok (.aload_n 0, 1) := by decide +kernel
theorem d_toa3_1 : decode jdk_38_method_16_code 1 = .ok (.getfield 9, 3) := by decide +kernel
theorem d_toa3_4 : decode jdk_38_method_16_code 4 = .ok (.aload_n 0, 1) := by decide +kernel
theorem d_toa3_5 : decode jdk_38_method_16_code 5 = .ok (.getfield 48, 3) := by decide +kernel
theorem d_toa3_8 : decode jdk_38_method_16_code 8 = .ok (.invokestatic 66, 3) := by decide +kernel
theorem d_toa3_11 : decode jdk_38_method_16_code 11 = .ok (.areturn, 1) := by decide +kernel
theorem ef_lfa (m : MethodId) (x0 : Addr)  : entryFrame m #[(.ref x0)] 3 = mkF m 0 #[.val (.ref x0), .unset, .unset] [] := by first | (simp [entryFrame, mkF, argsToLocals, Value.category]; done) | rfl
theorem pn_java_util_ImmutableCollections : plainName "java/util/ImmutableCollections" = true := by first | (simp [plainName, overriddenIn]; done) | decide +kernel
theorem d_lfa_0 : decode jdk_56_method_4_code 0 = .ok (.aload_n 0, 1) := by decide +kernel
theorem d_lfa_1 : decode jdk_56_method_4_code 1 = .ok (.arraylength, 1) := by decide +kernel
theorem d_lfa_2 : decode jdk_56_method_4_code 2 = .ok (.anewarray 2, 3) := by decide +kernel
theorem d_lfa_5 : decode jdk_56_method_4_code 5 = .ok (.astore_n 1, 1) := by decide +kernel
theorem d_lfa_6 : decode jdk_56_method_4_code 6 = .ok (.iconst 0, 1) := by decide +kernel
theorem d_lfa_7 : decode jdk_56_method_4_code 7 = .ok (.istore_n 2, 1) := by decide +kernel
theorem d_lfa_8 : decode jdk_56_method_4_code 8 = .ok (.iload_n 2, 1) := by decide +kernel
theorem d_lfa_9 : decode jdk_56_method_4_code 9 = .ok (.aload_n 0, 1) := by decide +kernel
theorem d_lfa_10 : decode jdk_56_method_4_code 10 = .ok (.arraylength, 1) := by decide +kernel
theorem d_lfa_11 : decode jdk_56_method_4_code 11 = .ok (.if_icmp .ge 18, 3) := by decide +kernel
theorem d_lfa_14 : decode jdk_56_method_4_code 14 = .ok (.aload_n 1, 1) := by decide +kernel
theorem d_lfa_15 : decode jdk_56_method_4_code 15 = .ok (.iload_n 2, 1) := by decide +kernel
theorem d_lfa_16 : decode jdk_56_method_4_code 16 = .ok (.aload_n 0, 1) := by decide +kernel
theorem d_lfa_17 : decode jdk_56_method_4_code 17 = .ok (.iload_n 2, 1) := by decide +kernel
theorem d_lfa_18 : decode jdk_56_method_4_code 18 = .ok (.aaload, 1) := by decide +kernel
theorem d_lfa_19 : decode jdk_56_method_4_code 19 = .ok (.invokestatic 37, 3) := by decide +kernel
theorem d_lfa_22 : decode jdk_56_method_4_code 22 = .ok (.aastore, 1) := by decide +kernel
theorem d_lfa_23 : decode jdk_56_method_4_code 23 = .ok (.iinc 2 1, 3) := by decide +kernel
theorem d_lfa_26 : decode jdk_56_method_4_code 26 = .ok (.goto (-18), 3) := by decide +kernel
theorem d_lfa_29 : decode jdk_56_method_4_code 29 = .ok (.new 12, 3) := by decide +kernel
theorem d_lfa_32 : decode jdk_56_method_4_code 32 = .ok (.dup, 1) := by decide +kernel
theorem d_lfa_33 : decode jdk_56_method_4_code 33 = .ok (.aload_n 1, 1) := by decide +kernel
theorem d_lfa_34 : decode jdk_56_method_4_code 34 = .ok (.iconst 0, 1) := by decide +kernel
theorem d_lfa_35 : decode jdk_56_method_4_code 35 = .ok (.invokespecial 43, 3) := by decide +kernel
theorem pd___Ljava_lang_Object_Z_V : parseMethodDescriptor "([Ljava/lang/Object;Z)V" = some ⟨[(.array (.object "java/lang/Object")), .boolean], none⟩ := by decide +kernel
theorem d_lfa_38 : decode jdk_56_method_4_code 38 = .ok (.areturn, 1) := by decide +kernel
theorem ef_lo1 (m : MethodId) (x0 : Addr)  : entryFrame m #[(.ref x0)] 2 = mkF m 0 #[.val (.ref x0), .unset] [] := by first | (simp [entryFrame, mkF, argsToLocals, Value.category]; done) | rfl
theorem d_lo1_0 : decode jdk_40_method_47_code 0 = .ok (.aload_n 0, 1) := by decide +kernel
theorem d_lo1_1 : decode jdk_40_method_47_code 1 = .ok (.arraylength, 1) := by decide +kernel
theorem d_lo1_2 : decode jdk_40_method_47_code 2 = .ok (.tableswitch 57 0 2 #[26, 32, 43], 26) := by decide +kernel
theorem d_lo1_34 : decode jdk_40_method_47_code 34 = .ok (.new 96, 3) := by decide +kernel
theorem d_lo1_37 : decode jdk_40_method_47_code 37 = .ok (.dup, 1) := by decide +kernel
theorem d_lo1_38 : decode jdk_40_method_47_code 38 = .ok (.aload_n 0, 1) := by decide +kernel
theorem d_lo1_39 : decode jdk_40_method_47_code 39 = .ok (.iconst 0, 1) := by decide +kernel
theorem d_lo1_40 : decode jdk_40_method_47_code 40 = .ok (.aaload, 1) := by decide +kernel
theorem d_lo1_41 : decode jdk_40_method_47_code 41 = .ok (.invokespecial 98, 3) := by decide +kernel
theorem pd__Ljava_lang_Object__V : parseMethodDescriptor "(Ljava/lang/Object;)V" = some ⟨[(.object "java/lang/Object")], none⟩ := by decide +kernel
theorem d_lo1_44 : decode jdk_40_method_47_code 44 = .ok (.areturn, 1) := by decide +kernel
theorem ef_lo2 (m : MethodId) (x0 : Addr)  : entryFrame m #[(.ref x0)] 2 = mkF m 0 #[.val (.ref x0), .unset] [] := by first | (simp [entryFrame, mkF, argsToLocals, Value.category]; done) | rfl
theorem d_lo2_0 : decode jdk_40_method_47_code 0 = .ok (.aload_n 0, 1) := by decide +kernel
theorem d_lo2_1 : decode jdk_40_method_47_code 1 = .ok (.arraylength, 1) := by decide +kernel
theorem d_lo2_2 : decode jdk_40_method_47_code 2 = .ok (.tableswitch 57 0 2 #[26, 32, 43], 26) := by decide +kernel
theorem d_lo2_45 : decode jdk_40_method_47_code 45 = .ok (.new 96, 3) := by decide +kernel
theorem d_lo2_48 : decode jdk_40_method_47_code 48 = .ok (.dup, 1) := by decide +kernel
theorem d_lo2_49 : decode jdk_40_method_47_code 49 = .ok (.aload_n 0, 1) := by decide +kernel
theorem d_lo2_50 : decode jdk_40_method_47_code 50 = .ok (.iconst 0, 1) := by decide +kernel
theorem d_lo2_51 : decode jdk_40_method_47_code 51 = .ok (.aaload, 1) := by decide +kernel
theorem d_lo2_52 : decode jdk_40_method_47_code 52 = .ok (.aload_n 0, 1) := by decide +kernel
theorem d_lo2_53 : decode jdk_40_method_47_code 53 = .ok (.iconst 1, 1) := by decide +kernel
theorem d_lo2_54 : decode jdk_40_method_47_code 54 = .ok (.aaload, 1) := by decide +kernel
theorem d_lo2_55 : decode jdk_40_method_47_code 55 = .ok (.invokespecial 100, 3) := by decide +kernel
theorem pd__Ljava_lang_Object_Ljava_lang_Object__V : parseMethodDescriptor "(Ljava/lang/Object;Ljava/lang/Object;)V" = some ⟨[(.object "java/lang/Object"), (.object "java/lang/Object")], none⟩ := by decide +kernel
theorem d_lo2_58 : decode jdk_40_method_47_code 58 = .ok (.areturn, 1) := by decide +kernel
theorem ef_lo3 (m : MethodId) (x0 : Addr)  : entryFrame m #[(.ref x0)] 2 = mkF m 0 #[.val (.ref x0), .unset] [] := by first | (simp [entryFrame, mkF, argsToLocals, Value.category]; done) | rfl
theorem d_lo3_0 : decode jdk_40_method_47_code 0 = .ok (.aload_n 0, 1) := by decide +kernel
theorem d_lo3_1 : decode jdk_40_method_47_code 1 = .ok (.arraylength, 1) := by decide +kernel
theorem d_lo3_2 : decode jdk_40_method_47_code 2 = .ok (.tableswitch 57 0 2 #[26, 32, 43], 26) := by decide +kernel
theorem d_lo3_59 : decode jdk_40_method_47_code 59 = .ok (.aload_n 0, 1) := by decide +kernel
theorem d_lo3_60 : decode jdk_40_method_47_code 60 = .ok (.invokestatic 109, 3) := by decide +kernel
theorem pd___Ljava_lang_Object__Ljava_util_List_ : parseMethodDescriptor "([Ljava/lang/Object;)Ljava/util/List;" = some ⟨[(.array (.object "java/lang/Object"))], some (.object "java/util/List")⟩ := by decide +kernel
theorem d_lo3_63 : decode jdk_40_method_47_code 63 = .ok (.areturn, 1) := by decide +kernel
theorem ef_lc0 (m : MethodId) (x0 : Addr)  : entryFrame m #[(.ref x0)] 2 = mkF m 0 #[.val (.ref x0), .unset] [] := by first | (simp [entryFrame, mkF, argsToLocals, Value.category]; done) | rfl
theorem d_lc0_0 : decode jdk_56_method_3_code 0 = .ok (.aload_n 0, 1) := by decide +kernel
theorem d_lc0_1 : decode jdk_56_method_3_code 1 = .ok (.instanceof 10, 3) := by decide +kernel
theorem d_lc0_4 : decode jdk_56_method_3_code 4 = .ok (.ifCond .ne 22, 3) := by decide +kernel
theorem d_lc0_7 : decode jdk_56_method_3_code 7 = .ok (.aload_n 0, 1) := by decide +kernel
theorem d_lc0_8 : decode jdk_56_method_3_code 8 = .ok (.instanceof 12, 3) := by decide +kernel
theorem d_lc0_11 : decode jdk_56_method_3_code 11 = .ok (.ifCond .eq 20, 3) := by decide +kernel
theorem d_lc0_31 : decode jdk_56_method_3_code 31 = .ok (.aload_n 0, 1) := by decide +kernel
theorem d_lc0_32 : decode jdk_56_method_3_code 32 = .ok (.invokeinterface 20 1, 5) := by decide +kernel
theorem pd___Z : parseMethodDescriptor "()Z" = some ⟨[], some .boolean⟩ := by decide +kernel
theorem d_lc0_37 : decode jdk_56_method_3_code 37 = .ok (.ifCond .eq 7, 3) := by decide +kernel
theorem d_lc0_40 : decode jdk_56_method_3_code 40 = .ok (.invokestatic 26, 3) := by decide +kernel
theorem pd___Ljava_util_List_ : parseMethodDescriptor "()Ljava/util/List;" = some ⟨[], some (.object "java/util/List")⟩ := by decide +kernel
theorem d_lc0_43 : decode jdk_56_method_3_code 43 = .ok (.areturn, 1) := by decide +kernel
theorem ef_lc1 (m : MethodId) (x0 : Addr)  : entryFrame m #[(.ref x0)] 2 = mkF m 0 #[.val (.ref x0), .unset] [] := by first | (simp [entryFrame, mkF, argsToLocals, Value.category]; done) | rfl
theorem d_lc1_0 : decode jdk_56_method_3_code 0 = .ok (.aload_n 0, 1) := by decide +kernel
theorem d_lc1_1 : decode jdk_56_method_3_code 1 = .ok (.instanceof 10, 3) := by decide +kernel
theorem d_lc1_4 : decode jdk_56_method_3_code 4 = .ok (.ifCond .ne 22, 3) := by decide +kernel
theorem d_lc1_7 : decode jdk_56_method_3_code 7 = .ok (.aload_n 0, 1) := by decide +kernel
theorem d_lc1_8 : decode jdk_56_method_3_code 8 = .ok (.instanceof 12, 3) := by decide +kernel
theorem d_lc1_11 : decode jdk_56_method_3_code 11 = .ok (.ifCond .eq 20, 3) := by decide +kernel
theorem d_lc1_31 : decode jdk_56_method_3_code 31 = .ok (.aload_n 0, 1) := by decide +kernel
theorem d_lc1_32 : decode jdk_56_method_3_code 32 = .ok (.invokeinterface 20 1, 5) := by decide +kernel
theorem d_lc1_37 : decode jdk_56_method_3_code 37 = .ok (.ifCond .eq 7, 3) := by decide +kernel
theorem d_lc1_44 : decode jdk_56_method_3_code 44 = .ok (.aload_n 0, 1) := by decide +kernel
theorem d_lc1_45 : decode jdk_56_method_3_code 45 = .ok (.invokeinterface 30 1, 5) := by decide +kernel
theorem d_lc1_50 : decode jdk_56_method_3_code 50 = .ok (.invokestatic 34, 3) := by decide +kernel
theorem d_lc1_53 : decode jdk_56_method_3_code 53 = .ok (.areturn, 1) := by decide +kernel
theorem ef_lc2 (m : MethodId) (x0 : Addr)  : entryFrame m #[(.ref x0)] 2 = mkF m 0 #[.val (.ref x0), .unset] [] := by first | (simp [entryFrame, mkF, argsToLocals, Value.category]; done) | rfl
theorem d_lc2_0 : decode jdk_56_method_3_code 0 = .ok (.aload_n 0, 1) := by decide +kernel
theorem d_lc2_1 : decode jdk_56_method_3_code 1 = .ok (.instanceof 10, 3) := by decide +kernel
theorem d_lc2_4 : decode jdk_56_method_3_code 4 = .ok (.ifCond .ne 22, 3) := by decide +kernel
theorem d_lc2_7 : decode jdk_56_method_3_code 7 = .ok (.aload_n 0, 1) := by decide +kernel
theorem d_lc2_8 : decode jdk_56_method_3_code 8 = .ok (.instanceof 12, 3) := by decide +kernel
theorem d_lc2_11 : decode jdk_56_method_3_code 11 = .ok (.ifCond .eq 20, 3) := by decide +kernel
theorem d_lc2_31 : decode jdk_56_method_3_code 31 = .ok (.aload_n 0, 1) := by decide +kernel
theorem d_lc2_32 : decode jdk_56_method_3_code 32 = .ok (.invokeinterface 20 1, 5) := by decide +kernel
theorem d_lc2_37 : decode jdk_56_method_3_code 37 = .ok (.ifCond .eq 7, 3) := by decide +kernel
theorem d_lc2_44 : decode jdk_56_method_3_code 44 = .ok (.aload_n 0, 1) := by decide +kernel
theorem d_lc2_45 : decode jdk_56_method_3_code 45 = .ok (.invokeinterface 30 1, 5) := by decide +kernel
theorem d_lc2_50 : decode jdk_56_method_3_code 50 = .ok (.invokestatic 34, 3) := by decide +kernel
theorem d_lc2_53 : decode jdk_56_method_3_code 53 = .ok (.areturn, 1) := by decide +kernel
theorem ef_lc3 (m : MethodId) (x0 : Addr)  : entryFrame m #[(.ref x0)] 2 = mkF m 0 #[.val (.ref x0), .unset] [] := by first | (simp [entryFrame, mkF, argsToLocals, Value.category]; done) | rfl
theorem d_lc3_0 : decode jdk_56_method_3_code 0 = .ok (.aload_n 0, 1) := by decide +kernel
theorem d_lc3_1 : decode jdk_56_method_3_code 1 = .ok (.instanceof 10, 3) := by decide +kernel
theorem d_lc3_4 : decode jdk_56_method_3_code 4 = .ok (.ifCond .ne 22, 3) := by decide +kernel
theorem d_lc3_7 : decode jdk_56_method_3_code 7 = .ok (.aload_n 0, 1) := by decide +kernel
theorem d_lc3_8 : decode jdk_56_method_3_code 8 = .ok (.instanceof 12, 3) := by decide +kernel
theorem d_lc3_11 : decode jdk_56_method_3_code 11 = .ok (.ifCond .eq 20, 3) := by decide +kernel
theorem d_lc3_31 : decode jdk_56_method_3_code 31 = .ok (.aload_n 0, 1) := by decide +kernel
theorem d_lc3_32 : decode jdk_56_method_3_code 32 = .ok (.invokeinterface 20 1, 5) := by decide +kernel
theorem d_lc3_37 : decode jdk_56_method_3_code 37 = .ok (.ifCond .eq 7, 3) := by decide +kernel
theorem d_lc3_44 : decode jdk_56_method_3_code 44 = .ok (.aload_n 0, 1) := by decide +kernel
theorem d_lc3_45 : decode jdk_56_method_3_code 45 = .ok (.invokeinterface 30 1, 5) := by decide +kernel
theorem d_lc3_50 : decode jdk_56_method_3_code 50 = .ok (.invokestatic 34, 3) := by decide +kernel
theorem d_lc3_53 : decode jdk_56_method_3_code 53 = .ok (.areturn, 1) := by decide +kernel
theorem ef_co0 (m : MethodId) (x0 : Addr)  : entryFrame m #[(.ref x0)] 1 = mkF m 0 #[.val (.ref x0)] [] := by first | (simp [entryFrame, mkF, argsToLocals, Value.category]; done) | rfl
theorem d_co0_0 : decode jdk_40_method_48_code 0 = .ok (.aload_n 0, 1) := by decide +kernel
theorem d_co0_1 : decode jdk_40_method_48_code 1 = .ok (.invokestatic 112, 3) := by decide +kernel
theorem pd__Ljava_util_Collection__Ljava_util_List_ : parseMethodDescriptor "(Ljava/util/Collection;)Ljava/util/List;" = some ⟨[(.object "java/util/Collection")], some (.object "java/util/List")⟩ := by decide +kernel
theorem d_co0_4 : decode jdk_40_method_48_code 4 = .ok (.areturn, 1) := by decide +kernel
theorem ef_co1 (m : MethodId) (x0 : Addr)  : entryFrame m #[(.ref x0)] 1 = mkF m 0 #[.val (.ref x0)] [] := by first | (simp [entryFrame, mkF, argsToLocals, Value.category]; done) | rfl
theorem d_co1_0 : decode jdk_40_method_48_code 0 = .ok (.aload_n 0, 1) := by decide +kernel
theorem d_co1_1 : decode jdk_40_method_48_code 1 = .ok (.invokestatic 112, 3) := by decide +kernel
theorem d_co1_4 : decode jdk_40_method_48_code 4 = .ok (.areturn, 1) := by decide +kernel
theorem ef_co2 (m : MethodId) (x0 : Addr)  : entryFrame m #[(.ref x0)] 1 = mkF m 0 #[.val (.ref x0)] [] := by first | (simp [entryFrame, mkF, argsToLocals, Value.category]; done) | rfl
theorem d_co2_0 : decode jdk_40_method_48_code 0 = .ok (.aload_n 0, 1) := by decide +kernel
theorem d_co2_1 : decode jdk_40_method_48_code 1 = .ok (.invokestatic 112, 3) := by decide +kernel
theorem d_co2_4 : decode jdk_40_method_48_code 4 = .ok (.areturn, 1) := by decide +kernel
theorem ef_co3 (m : MethodId) (x0 : Addr)  : entryFrame m #[(.ref x0)] 1 = mkF m 0 #[.val (.ref x0)] [] := by first | (simp [entryFrame, mkF, argsToLocals, Value.category]; done) | rfl
theorem d_co3_0 : decode jdk_40_method_48_code 0 = .ok (.aload_n 0, 1) := by decide +kernel
theorem d_co3_1 : decode jdk_40_method_48_code 1 = .ok (.invokestatic 112, 3) := by decide +kernel
theorem d_co3_4 : decode jdk_40_method_48_code 4 = .ok (.areturn, 1) := by decide +kernel
theorem ef_tin (m : MethodId) (x0 : Addr) (x1 : Addr)  : entryFrame m #[(.ref x0), (.ref x1), .null] 3 = mkF m 0 #[.val (.ref x0), .val (.ref x1), .val .null] [] := by first | (simp [entryFrame, mkF, argsToLocals, Value.category]; done) | rfl
theorem pn_com_example_sheaf_sheaf_cbor_TextStringItem : plainName "com/example/sheaf/sheaf/cbor/TextStringItem" = true := by first | (simp [plainName, overriddenIn]; done) | decide +kernel
theorem d_tin_0 : decode prog_23_method_1_code 0 = .ok (.aload_n 0, 1) := by decide +kernel
theorem d_tin_1 : decode prog_23_method_1_code 1 = .ok (.invokespecial 1, 3) := by decide +kernel
theorem d_tin_4 : decode prog_23_method_1_code 4 = .ok (.aload_n 0, 1) := by decide +kernel
theorem d_tin_5 : decode prog_23_method_1_code 5 = .ok (.aload_n 1, 1) := by decide +kernel
theorem d_tin_6 : decode prog_23_method_1_code 6 = .ok (.putfield 7, 3) := by decide +kernel
theorem d_tin_9 : decode prog_23_method_1_code 9 = .ok (.aload_n 0, 1) := by decide +kernel
theorem d_tin_10 : decode prog_23_method_1_code 10 = .ok (.aload_n 2, 1) := by decide +kernel
theorem d_tin_11 : decode prog_23_method_1_code 11 = .ok (.ifnonnull 7, 3) := by decide +kernel
theorem d_tin_14 : decode prog_23_method_1_code 14 = .ok (.aconst_null, 1) := by decide +kernel
theorem d_tin_15 : decode prog_23_method_1_code 15 = .ok (.goto 7, 3) := by decide +kernel
theorem d_tin_22 : decode prog_23_method_1_code 22 = .ok (.putfield 19, 3) := by decide +kernel
theorem d_tin_25 : decode prog_23_method_1_code 25 = .ok (.return_, 1) := by decide +kernel
theorem ef_ti0 (m : MethodId) (x0 : Addr) (x1 : Addr) (x2 : Addr)  : entryFrame m #[(.ref x0), (.ref x1), (.ref x2)] 3 = mkF m 0 #[.val (.ref x0), .val (.ref x1), .val (.ref x2)] [] := by first | (simp [entryFrame, mkF, argsToLocals, Value.category]; done) | rfl
theorem d_ti0_0 : decode prog_23_method_1_code 0 = .ok (.aload_n 0, 1) := by decide +kernel
theorem d_ti0_1 : decode prog_23_method_1_code 1 = .ok (.invokespecial 1, 3) := by decide +kernel
theorem d_ti0_4 : decode prog_23_method_1_code 4 = .ok (.aload_n 0, 1) := by decide +kernel
theorem d_ti0_5 : decode prog_23_method_1_code 5 = .ok (.aload_n 1, 1) := by decide +kernel
theorem d_ti0_6 : decode prog_23_method_1_code 6 = .ok (.putfield 7, 3) := by decide +kernel
theorem d_ti0_9 : decode prog_23_method_1_code 9 = .ok (.aload_n 0, 1) := by decide +kernel
theorem d_ti0_10 : decode prog_23_method_1_code 10 = .ok (.aload_n 2, 1) := by decide +kernel
theorem d_ti0_11 : decode prog_23_method_1_code 11 = .ok (.ifnonnull 7, 3) := by decide +kernel
theorem d_ti0_18 : decode prog_23_method_1_code 18 = .ok (.aload_n 2, 1) := by decide +kernel
theorem d_ti0_19 : decode prog_23_method_1_code 19 = .ok (.invokestatic 13, 3) := by decide +kernel
theorem d_ti0_22 : decode prog_23_method_1_code 22 = .ok (.putfield 19, 3) := by decide +kernel
theorem d_ti0_25 : decode prog_23_method_1_code 25 = .ok (.return_, 1) := by decide +kernel
theorem ef_ti1 (m : MethodId) (x0 : Addr) (x1 : Addr) (x2 : Addr)  : entryFrame m #[(.ref x0), (.ref x1), (.ref x2)] 3 = mkF m 0 #[.val (.ref x0), .val (.ref x1), .val (.ref x2)] [] := by first | (simp [entryFrame, mkF, argsToLocals, Value.category]; done) | rfl
theorem d_ti1_0 : decode prog_23_method_1_code 0 = .ok (.aload_n 0, 1) := by decide +kernel
theorem d_ti1_1 : decode prog_23_method_1_code 1 = .ok (.invokespecial 1, 3) := by decide +kernel
theorem d_ti1_4 : decode prog_23_method_1_code 4 = .ok (.aload_n 0, 1) := by decide +kernel
theorem d_ti1_5 : decode prog_23_method_1_code 5 = .ok (.aload_n 1, 1) := by decide +kernel
theorem d_ti1_6 : decode prog_23_method_1_code 6 = .ok (.putfield 7, 3) := by decide +kernel
theorem d_ti1_9 : decode prog_23_method_1_code 9 = .ok (.aload_n 0, 1) := by decide +kernel
theorem d_ti1_10 : decode prog_23_method_1_code 10 = .ok (.aload_n 2, 1) := by decide +kernel
theorem d_ti1_11 : decode prog_23_method_1_code 11 = .ok (.ifnonnull 7, 3) := by decide +kernel
theorem d_ti1_18 : decode prog_23_method_1_code 18 = .ok (.aload_n 2, 1) := by decide +kernel
theorem d_ti1_19 : decode prog_23_method_1_code 19 = .ok (.invokestatic 13, 3) := by decide +kernel
theorem d_ti1_22 : decode prog_23_method_1_code 22 = .ok (.putfield 19, 3) := by decide +kernel
theorem d_ti1_25 : decode prog_23_method_1_code 25 = .ok (.return_, 1) := by decide +kernel
theorem ef_ti2 (m : MethodId) (x0 : Addr) (x1 : Addr) (x2 : Addr)  : entryFrame m #[(.ref x0), (.ref x1), (.ref x2)] 3 = mkF m 0 #[.val (.ref x0), .val (.ref x1), .val (.ref x2)] [] := by first | (simp [entryFrame, mkF, argsToLocals, Value.category]; done) | rfl
theorem d_ti2_0 : decode prog_23_method_1_code 0 = .ok (.aload_n 0, 1) := by decide +kernel
theorem d_ti2_1 : decode prog_23_method_1_code 1 = .ok (.invokespecial 1, 3) := by decide +kernel
theorem d_ti2_4 : decode prog_23_method_1_code 4 = .ok (.aload_n 0, 1) := by decide +kernel
theorem d_ti2_5 : decode prog_23_method_1_code 5 = .ok (.aload_n 1, 1) := by decide +kernel
theorem d_ti2_6 : decode prog_23_method_1_code 6 = .ok (.putfield 7, 3) := by decide +kernel
theorem d_ti2_9 : decode prog_23_method_1_code 9 = .ok (.aload_n 0, 1) := by decide +kernel
theorem d_ti2_10 : decode prog_23_method_1_code 10 = .ok (.aload_n 2, 1) := by decide +kernel
theorem d_ti2_11 : decode prog_23_method_1_code 11 = .ok (.ifnonnull 7, 3) := by decide +kernel
theorem d_ti2_18 : decode prog_23_method_1_code 18 = .ok (.aload_n 2, 1) := by decide +kernel
theorem d_ti2_19 : decode prog_23_method_1_code 19 = .ok (.invokestatic 13, 3) := by decide +kernel
theorem d_ti2_22 : decode prog_23_method_1_code 22 = .ok (.putfield 19, 3) := by decide +kernel
theorem d_ti2_25 : decode prog_23_method_1_code 25 = .ok (.return_, 1) := by decide +kernel
theorem ef_ti3 (m : MethodId) (x0 : Addr) (x1 : Addr) (x2 : Addr)  : entryFrame m #[(.ref x0), (.ref x1), (.ref x2)] 3 = mkF m 0 #[.val (.ref x0), .val (.ref x1), .val (.ref x2)] [] := by first | (simp [entryFrame, mkF, argsToLocals, Value.category]; done) | rfl
theorem d_ti3_0 : decode prog_23_method_1_code 0 = .ok (.aload_n 0, 1) := by decide +kernel
theorem d_ti3_1 : decode prog_23_method_1_code 1 = .ok (.invokespecial 1, 3) := by decide +kernel
theorem d_ti3_4 : decode prog_23_method_1_code 4 = .ok (.aload_n 0, 1) := by decide +kernel
theorem d_ti3_5 : decode prog_23_method_1_code 5 = .ok (.aload_n 1, 1) := by decide +kernel
theorem d_ti3_6 : decode prog_23_method_1_code 6 = .ok (.putfield 7, 3) := by decide +kernel
theorem d_ti3_9 : decode prog_23_method_1_code 9 = .ok (.aload_n 0, 1) := by decide +kernel
theorem d_ti3_10 : decode prog_23_method_1_code 10 = .ok (.aload_n 2, 1) := by decide +kernel
theorem d_ti3_11 : decode prog_23_method_1_code 11 = .ok (.ifnonnull 7, 3) := by decide +kernel
theorem d_ti3_18 : decode prog_23_method_1_code 18 = .ok (.aload_n 2, 1) := by decide +kernel
theorem d_ti3_19 : decode prog_23_method_1_code 19 = .ok (.invokestatic 13, 3) := by decide +kernel
theorem d_ti3_22 : decode prog_23_method_1_code 22 = .ok (.putfield 19, 3) := by decide +kernel
theorem d_ti3_25 : decode prog_23_method_1_code 25 = .ok (.return_, 1) := by decide +kernel
theorem ef_ii0 (m : MethodId) (x0 : Addr)  : entryFrame m #[(.ref x0)] 1 = mkF m 0 #[.val (.ref x0)] [] := by first | (simp [entryFrame, mkF, argsToLocals, Value.category]; done) | rfl
theorem d_ii0_0 : decode prog_23_method_4_code 0 = .ok (.aload_n 0, 1) := by decide +kernel
theorem d_ii0_1 : decode prog_23_method_4_code 1 = .ok (.getfield 19, 3) := by decide +kernel
theorem d_ii0_4 : decode prog_23_method_4_code 4 = .ok (.ifnull 7, 3) := by decide +kernel
theorem d_ii0_11 : decode prog_23_method_4_code 11 = .ok (.iconst 0, 1) := by decide +kernel
theorem d_ii0_12 : decode prog_23_method_4_code 12 = .ok (.ireturn, 1) := by decide +kernel
theorem ef_ck0 (m : MethodId) (x0 : Addr)  : entryFrame m #[(.ref x0)] 1 = mkF m 0 #[.val (.ref x0)] [] := by first | (simp [entryFrame, mkF, argsToLocals, Value.category]; done) | rfl
theorem d_ck0_0 : decode prog_23_method_5_code 0 = .ok (.aload_n 0, 1) := by decide +kernel
theorem d_ck0_1 : decode prog_23_method_5_code 1 = .ok (.getfield 19, 3) := by decide +kernel
theorem d_ck0_4 : decode prog_23_method_5_code 4 = .ok (.ifnonnull 9, 3) := by decide +kernel
theorem d_ck0_7 : decode prog_23_method_5_code 7 = .ok (.invokestatic 67, 3) := by decide +kernel
theorem d_ck0_10 : decode prog_23_method_5_code 10 = .ok (.goto 7, 3) := by decide +kernel
theorem d_ck0_17 : decode prog_23_method_5_code 17 = .ok (.areturn, 1) := by decide +kernel
theorem ef_ii1 (m : MethodId) (x0 : Addr)  : entryFrame m #[(.ref x0)] 1 = mkF m 0 #[.val (.ref x0)] [] := by first | (simp [entryFrame, mkF, argsToLocals, Value.category]; done) | rfl
theorem d_ii1_0 : decode prog_23_method_4_code 0 = .ok (.aload_n 0, 1) := by decide +kernel
theorem d_ii1_1 : decode prog_23_method_4_code 1 = .ok (.getfield 19, 3) := by decide +kernel
theorem d_ii1_4 : decode prog_23_method_4_code 4 = .ok (.ifnull 7, 3) := by decide +kernel
theorem d_ii1_7 : decode prog_23_method_4_code 7 = .ok (.iconst 1, 1) := by decide +kernel
theorem d_ii1_8 : decode prog_23_method_4_code 8 = .ok (.goto 4, 3) := by decide +kernel
theorem d_ii1_12 : decode prog_23_method_4_code 12 = .ok (.ireturn, 1) := by decide +kernel
theorem ef_ck1 (m : MethodId) (x0 : Addr)  : entryFrame m #[(.ref x0)] 1 = mkF m 0 #[.val (.ref x0)] [] := by first | (simp [entryFrame, mkF, argsToLocals, Value.category]; done) | rfl
theorem d_ck1_0 : decode prog_23_method_5_code 0 = .ok (.aload_n 0, 1) := by decide +kernel
theorem d_ck1_1 : decode prog_23_method_5_code 1 = .ok (.getfield 19, 3) := by decide +kernel
theorem d_ck1_4 : decode prog_23_method_5_code 4 = .ok (.ifnonnull 9, 3) := by decide +kernel
theorem d_ck1_13 : decode prog_23_method_5_code 13 = .ok (.aload_n 0, 1) := by decide +kernel
theorem d_ck1_14 : decode prog_23_method_5_code 14 = .ok (.getfield 19, 3) := by decide +kernel
theorem d_ck1_17 : decode prog_23_method_5_code 17 = .ok (.areturn, 1) := by decide +kernel
theorem ef_law (m : MethodId) (x0 : Int32) (x1 : Int32) (x2 : Int32) (x3 : Int32) (x4 : Int32)  : entryFrame m #[(.int x0), (.int x1), (.int x2), (.int x3), (.int x4)] maxLocals = mkF m 0 #[.val (.int x0), .val (.int x1), .val (.int x2), .val (.int x3), .val (.int x4), .unset, .unset, .unset, .unset, .unset, .unset, .unset, .unset, .unset, .unset, .unset] [] := by first | (simp [entryFrame, mkF, argsToLocals, Value.category, maxLocals]; done) | rfl
theorem pn_com_example_sheaf_sheaf_cbor_TextStringItemIsIndefinitePinLaw : plainName "com/example/sheaf/sheaf/cbor/TextStringItemIsIndefinitePinLaw" = true := by first | (simp [plainName, overriddenIn]; done) | decide +kernel
theorem pd___C_V : parseMethodDescriptor "([C)V" = some ⟨[(.array .char)], none⟩ := by decide +kernel
theorem pd__Ljava_lang_String_Ljava_util_List__V : parseMethodDescriptor "(Ljava/lang/String;Ljava/util/List;)V" = some ⟨[(.object "java/lang/String"), (.object "java/util/List")], none⟩ := by decide +kernel
theorem pd___I : parseMethodDescriptor "()I" = some ⟨[], some .int⟩ := by decide +kernel
theorem pd__C_Ljava_lang_String_ : parseMethodDescriptor "(C)Ljava/lang/String;" = some ⟨[.char], some (.object "java/lang/String")⟩ := by decide +kernel
theorem pd__Ljava_lang_Object__Z : parseMethodDescriptor "(Ljava/lang/Object;)Z" = some ⟨[(.object "java/lang/Object")], some .boolean⟩ := by decide +kernel
theorem own_t {Z : State} {a0 : Array Value} (hw : ∀ d ∈ tables_1, d.before a0 Z = true) (i : Nat) {d : Jvm.Cond} (h : tables_1[i]? = some d) : d.before a0 Z = true := hw d (List.mem_of_getElem? h)
abbrev SS (p : Program) (e : Env) (below : List Frame) (T : State) (g : JFrame) (t : State) : Prop := Steps p.tables e below (T.setTop g) t
theorem own_rne {a b : Addr} (h : a ≠ b) : ¬ (Value.ref a = Value.ref b) := fun q => h (Value.ref.inj q)
theorem own_fldeq {args : Array Value} {s : State} {t : Term} {C n d : String} {a : Addr} {k : Int32} (ev : t.eval args s none [] s = some (.ref a)) (h : (Jvm.Cond.eq (.field t C n d) (.int k)).value args s none s [] = some true) : Fld s s.heap a C n d (.int k) := by
  obtain ⟨x, y, e1, e2, k1, k2⟩ := cmp_v (Or.inl h)
  rw [Term.int_eval] at e2
  cases e2
  obtain ⟨z, rfl⟩ := k2
  have q := gotT (Cond.eq_ints e1 (Term.int_eval k)) h
  rw [fld_at ev] at e1
  subst q
  exact Fld.start e1
/-- the array at a has n places, of kind ty, and holds f -/
def OFun (Z : State) (h : Heap) (a : Addr) (ty : FieldType) (n : Nat) (f : Nat → Value) : Prop := ∃ c : Cell, Arr Z h a c ty ∧ c.slots.size = n ∧ ∀ j, j < n → c.slots[j]? = some (f j)
theorem OFun.lt {Z : State} {h : Heap} {a : Addr} {ty : FieldType} {n : Nat} {f : Nat → Value} (F : OFun Z h a ty n f) : a < h.size := by obtain ⟨c, A, -⟩ := F; exact A.lt
theorem OFun.ext {Z : State} {h h' : Heap} {a : Addr} {ty : FieldType} {n : Nat} {f : Nat → Value} (F : OFun Z h a ty n f) (E : Ext h h') : OFun Z h' a ty n f := by obtain ⟨c, A, r⟩ := F; exact ⟨c, A.ext E, r⟩
theorem OFun.other {Z : State} {h h' : Heap} {a b : Addr} {ty : FieldType} {n sl : Nat} {v : Value} {f : Nat → Value} (F : OFun Z h a ty n f) (W : Wr h h' b sl v) (q : a ≠ b) : OFun Z h' a ty n f := by obtain ⟨c, A, r⟩ := F; exact ⟨c, A.other W q, r⟩
theorem OFun.keep {Z : State} {h h' : Heap} {a : Addr} {ty : FieldType} {n : Nat} {ws : List Addr} {f : Nat → Value} (F : OFun Z h a ty n f) (K : Keep h h' ws) (q : a ∉ ws) : OFun Z h' a ty n f := by obtain ⟨c, A, r⟩ := F; exact ⟨c, ⟨K.2.1 a c A.1 q, A.2⟩, r⟩
theorem OFun.congr {Z : State} {h : Heap} {a : Addr} {ty : FieldType} {n : Nat} {f g : Nat → Value} (F : OFun Z h a ty n f) (q : ∀ j, j < n → f j = g j) : OFun Z h a ty n g := by obtain ⟨c, A, r1, r2⟩ := F; exact ⟨c, A, r1, fun j hj => by rw [r2 j hj, q j hj]⟩
theorem OFun.new {Z : State} {h : Heap} {a : Addr} {ty : FieldType} {k : ClassId} {z : Int32} (A : Arr Z h a (newA k ty z) ty) : OFun Z h a ty z.toNatClampNeg (fun _ => defaultValue ty) := ⟨_, A, sz_new _ _ _, fun j hj => by simp [newA, hj]⟩
theorem OFun.set {Z : State} {h h' : Heap} {a : Addr} {ty : FieldType} {n i : Nat} {v : Value} {f : Nat → Value} (F : OFun Z h a ty n f) (W : Wr h h' a i v) : OFun Z h' a ty n (fun j => if j = i then v else f j) := by
  obtain ⟨c, A, r1, r2⟩ := F
  refine ⟨_, A.same W, by rw [sz_set]; exact r1, fun j hj => ?_⟩
  by_cases q : j = i
  · subst q
    simp [Cell.setSlot, r1, hj]
  · simp only [q, if_false]
    rw [← r2 j hj]
    simp [Cell.setSlot, Array.getElem?_setIfInBounds, Ne.symm q]
theorem own_ext_wr {h0 h h' : Heap} {a : Addr} {sl : Nat} {v : Value} (E : Ext h0 h) (W : Wr h h' a sl v) (q : h0.size ≤ a) : Ext h0 h' := by
  refine ⟨by rw [W.size]; exact E.1, fun x c hx => ?_⟩
  have hlt := (Array.getElem?_eq_some_iff.mp hx).1
  obtain ⟨c', e1, -, -, -, e5, -⟩ := wr_at W (E.2 x c hx)
  rw [e1, e5 (Nat.ne_of_lt (Nat.lt_of_lt_of_le hlt q))]
theorem own_ext_trans {h0 h h' : Heap} (E : Ext h0 h) (E' : Ext h h') : Ext h0 h' := ⟨Nat.le_trans E.1 E'.1, fun x c hx => E'.2 x c (E.2 x c hx)⟩
theorem own_ext_refl (h : Heap) : Ext h h := ⟨Nat.le_refl _, fun _ _ q => q⟩
theorem own_ext_keep {h0 h h' : Heap} {ws : List Addr} (E : Ext h0 h) (K : Keep h h' ws) (q : ∀ x ∈ ws, h0.size ≤ x) : Ext h0 h' := ⟨Nat.le_trans E.1 K.1, fun x c hx => K.2.1 x c (E.2 x c hx) fun z => by
  have hlt := (Array.getElem?_eq_some_iff.mp hx).1
  exact absurd hlt (Nat.not_lt.mpr (q x z))⟩
theorem own_keep_ext {h h' : Heap} (E : Ext h h') (ws : List Addr) : Keep h h' ws := (Keep.refl h ws).ext E
theorem own_in {j : Int32} {i n : Nat} (h0 : j.toInt = i) (h1 : i < n) : ¬ (j < 0 ∨ n ≤ j.toNatClampNeg) := by
  have e : j.toNatClampNeg = i := by
    show j.toInt.toNat = i
    omega
  rintro (q | q)
  · rw [Int32.lt_iff_toInt_lt] at q
    have z : (0 : Int32).toInt = 0 := rfl
    omega
  · omega
theorem own_cl {j : Int32} {i : Nat} (h0 : j.toInt = i) : j.toNatClampNeg = i := by
  show j.toInt.toNat = i
  omega
theorem own_ofN {n : Nat} (h : n < 2 ^ 31) : (Int32.ofNat n).toInt = n := Int32.toInt_ofNat_of_lt h
theorem own_root {Z : State} {a0 : Array Value} {O K : String} {n : Nat} (w : (Jvm.Cond.noSuperclass O).before a0 Z = true) (wk : (Jvm.Cond.instantiable K n).before a0 Z = true) (hn : O ≠ K) : NS Z O K := by
  obtain ⟨c, k, h1, h2, h3, -, -⟩ := Cond.noSuperclass_spec w
  obtain ⟨t, k2, g1, -⟩ := Cond.instantiable_spec wk
  have ne := ids_ne h1 g1 hn
  refine ⟨c, t, h1, g1, fun fuel => ?_⟩
  match fuel with
  | 0 => rfl
  | f + 1 => simp [Vm.isSubclassAux, ne, h2, h3]
theorem own_no {Z : State} {a0 : Array Value} {C S K : String} {n : Nat} (w : (Jvm.Cond.superclass C S).before a0 Z = true) (wk : (Jvm.Cond.instantiable K n).before a0 Z = true) (ns : NS Z C K) (hn : C ≠ K) : ∃ c t, Z.vm.findClass C = some c ∧ Z.vm.findClass K = some t ∧ Z.vm.assignable c t = false := by
  obtain ⟨c, t, h0, g0, n3⟩ := ns
  obtain ⟨p, k, kp, h1, h2, h3, h4, h5, -, h7⟩ := Cond.superclass_spec h0 w
  obtain ⟨q, k', g1, g2, g3, g4, -⟩ := Cond.instantiable_spec wk
  cases g0.symm.trans g1
  have ne := ids_ne h0 g0 hn
  have g5 := (Bool.or_eq_false_iff.mp g4).1
  refine ⟨c, t, h0, g0, ?_⟩
  show Z.vm.assignableAux (255 + 1) c t = false
  simp [Vm.assignableAux, ne, h2, g2, h5, g3, g5, Vm.isSubclass, n3]
theorem own_priv {s : State} {args : Array Value} {y : MethodName} {n : Nat} (hi : (Jvm.Cond.instantiable y.cls n).before args s = true) (hp : s.PrivateAt y) (hinst : (Jvm.Cond.instanceMethod y).before args s = true) (hy : y.cls ≠ "java/lang/invoke/MethodHandle" ∧ y.cls ≠ "java/lang/invoke/VarHandle") : (Jvm.Cond.selects y.cls y y).before args s = true := by
  obtain ⟨c, k, h1, h2, -, h4, -⟩ := Cond.instantiable_spec hi
  exact Jvm.Stand.selects_self_of_private h1 h2 (Bool.or_eq_false_iff.mp h4).1 hp hinst hy
def own_max (a b : Int32) : Int32 := if a < b then b else a
def own_min (a b : Int32) : Int32 := if b < a then b else a
def own_three (x y z : Int32) : Nat → Value := fun j => .int (([x, y, z] : List Int32).getD j 0)
def OArr (Z : State) (h : Heap) (a : Addr) (n : Nat) (f : Nat → Value) : Prop := Exa Z h a "[Ljava/lang/Object;" ∧ ∃ c : Cell, Arr Z h a c (.object "java/lang/Object") ∧ c.slots.size = n ∧ (∀ j, j < n → c.slots[j]? = some (f j)) ∧ Ovr Z c.cls "java/lang/Object"
theorem OArr.fun {Z : State} {h : Heap} {a : Addr} {n : Nat} {f : Nat → Value} (F : OArr Z h a n f) : OFun Z h a (.object "java/lang/Object") n f := by obtain ⟨-, c, A, r1, r2, -⟩ := F; exact ⟨c, A, r1, r2⟩
theorem OArr.ext {Z : State} {h h' : Heap} {a : Addr} {n : Nat} {f : Nat → Value} (F : OArr Z h a n f) (E : Ext h h') : OArr Z h' a n f := by obtain ⟨x, c, A, r⟩ := F; exact ⟨x.ext E, c, A.ext E, r⟩
theorem OArr.other {Z : State} {h h' : Heap} {a b : Addr} {n sl : Nat} {v : Value} {f : Nat → Value} (F : OArr Z h a n f) (W : Wr h h' b sl v) (q : a ≠ b) : OArr Z h' a n f := by obtain ⟨x, c, A, r⟩ := F; exact ⟨x.wr W, c, A.other W q, r⟩
theorem OArr.keep {Z : State} {h h' : Heap} {a : Addr} {n : Nat} {ws : List Addr} {f : Nat → Value} (F : OArr Z h a n f) (K : Keep h h' ws) (q : a ∉ ws) : OArr Z h' a n f := by obtain ⟨x, c, A, r⟩ := F; exact ⟨x.keep K, c, ⟨K.2.1 a c A.1 q, A.2⟩, r⟩
theorem OArr.congr {Z : State} {h : Heap} {a : Addr} {n : Nat} {f g : Nat → Value} (F : OArr Z h a n f) (q : ∀ j, j < n → f j = g j) : OArr Z h a n g := by obtain ⟨x, c, A, r1, r2, r3⟩ := F; exact ⟨x, c, A, r1, fun j hj => by rw [r2 j hj, q j hj], r3⟩
theorem OArr.new {Z : State} {h : Heap} {a : Addr} {k : ClassId} {z : Int32} (A : Arr Z h a (newA k (.object "java/lang/Object") z) (.object "java/lang/Object")) (x : Exa Z h a "[Ljava/lang/Object;") (O : Ovr Z k "java/lang/Object") : OArr Z h a z.toNatClampNeg (fun _ => .null) := ⟨x, _, A, sz_new _ _ _, fun j hj => by simp [newA, hj, defaultValue], O⟩
theorem OArr.set {Z : State} {h h' : Heap} {a : Addr} {n i : Nat} {v : Value} {f : Nat → Value} (F : OArr Z h a n f) (W : Wr h h' a i v) : OArr Z h' a n (fun j => if j = i then v else f j) := by
  obtain ⟨c', A', s', g'⟩ := OFun.set F.fun W
  obtain ⟨x, c, A, r1, r2, r3⟩ := F
  refine ⟨x.wr W, _, A.same W, by rw [sz_set]; exact r1, fun j hj => ?_, r3⟩
  cases (A.same W).1.symm.trans A'.1
  exact g' j hj
theorem own_ins_keep {Z : State} {h h' : Heap} {a : Addr} {ws : List Addr} {C : String} (F : Ins Z h a C true) (K : Keep h h' ws) : Ins Z h' a C true := by
  obtain ⟨cell, cT, h1, h2, h3⟩ := F
  obtain ⟨c', e1, e2, e3⟩ := K.2.2 a cell h1
  exact ⟨c', cT, e1, h2, by rw [e2, e3.1]; exact h3⟩
theorem own_keep_trans {h0 h h' : Heap} {ws : List Addr} (A : Keep h0 h ws) (B : Keep h h' ws) : Keep h0 h' ws := ⟨Nat.le_trans A.1 B.1, fun x c hx q => B.2.1 x c (A.2.1 x c hx q) q, fun x c hx => by
  obtain ⟨c1, e1, r1⟩ := A.2.2 x c hx
  obtain ⟨c2, e2, r2⟩ := B.2.2 x c1 e1
  exact ⟨c2, e2, by simp_all⟩⟩
theorem own_ne_arr {Z : State} {h : Heap} {a b : Addr} {n j : Nat} {ty : FieldType} {f : Nat → Value} {a0 : Array Value} {C : String} (F : OFun Z h a ty n f) (G : Exa Z h b C) (wi : (Jvm.Cond.instantiable C j).before a0 Z = true) : a ≠ b := fun e => by
  subst e
  obtain ⟨c1, A, -⟩ := F
  obtain ⟨c2, k2, g1, g2, g3, -⟩ := G
  cases A.1.symm.trans g1
  obtain ⟨-, k, hk, comp, hkind⟩ := A.2.1
  cases hk.symm.trans g3
  obtain ⟨c3, k3, w1, w2, w3, -⟩ := Cond.instantiable_spec wi
  cases g2.symm.trans w1
  cases g3.symm.trans w2
  rw [w3] at hkind
  cases hkind
def OMir (Z : State) (C : String) (m : Addr) : Prop := ∃ (c : ClassId) (k : Class), Z.vm.findClass C = some c ∧ Z.vm.classes[c]? = some k ∧ k.mirror = some m
theorem own_mir {Z s : State} {args : Array Value} {C : String} {mr : Addr} (M : OMir Z C mr) (hZ : Z.Warmed39 s.vm) : (Term.mirror C).eval args s none [] s = some (.ref mr) := by
  obtain ⟨c, k, m1, m2, m3⟩ := M
  obtain ⟨k', q, ek⟩ := hZ.alike.2.2 _ _ m2
  have f : s.vm.findClass C = some c := by rw [hZ.alike.findClass]; exact m1
  have m4 : k'.mirror = some mr := by rw [ek]; exact m3
  simp [Term.eval, f, q, m4]
theorem own_fits {Z : State} {h : Heap} {v : Value} (hv : v = .null ∨ ∃ y, v = .ref y ∧ Ins Z h y "java/lang/Object" true) : fits (.object "java/lang/Object") v = true := by
  rcases hv with rfl | ⟨y, rfl, -⟩ <;> rfl
theorem own_sto {Z : State} {h0 h : Heap} {b : Addr} {n : Nat} {g : Nat → Value} {v : Value} (F : OArr Z h b n g) (hv : v = .null ∨ ∃ y, v = .ref y ∧ Ins Z h0 y "java/lang/Object" true) (E : Ext h0 h) : Sto Z h b v := by
  rcases hv with rfl | ⟨y, rfl, I⟩
  · exact Or.inl rfl
  · obtain ⟨-, c, A, -, -, O⟩ := F
    exact Sto.of A O (I.ext E)
theorem OArr.arv {Z : State} {h : Heap} {a : Addr} {n : Nat} {f : Nat → Value} {z : Int32} (F : OArr Z h a n f) (hz : z.toNatClampNeg = n) (hn : ¬ z < 0) (hf : ∀ j, j < n → fits (.object "java/lang/Object") (f j) = true) : ∃ k, Arv Z h a k (.object "java/lang/Object") z ((List.range n).map f) .null ∧ Ovr Z k "java/lang/Object" := by
  obtain ⟨-, c, A, s1, g1, O⟩ := F
  refine ⟨c.cls, ⟨c, A, rfl, by rw [s1, hz], hn, fun j hj => ?_, fun j hj => ?_⟩, O⟩
  · rw [s1] at hj
    rw [g1 j hj]
    simp [List.getD_eq_getElem?_getD, hj]
  · rw [s1] at hj
    have := hf j hj
    simpa [List.getD_eq_getElem?_getD, hj] using this
theorem own_arv_arr {Z : State} {h : Heap} {b : Addr} {k : ClassId} {n : Nat} {z : Int32} {vs : List Value} {d : Value} {f : Nat → Value} (x : Exa Z h b "[Ljava/lang/Object;") (V : Arv Z h b k (.object "java/lang/Object") z vs d) (O : Ovr Z k "java/lang/Object") (hz : z.toNatClampNeg = n) (hv : ∀ j, j < n → vs.getD j d = f j) : OArr Z h b n f := by
  obtain ⟨c, A, q, s1, -, H, -⟩ := V
  exact ⟨x, c, A, s1.trans hz, fun j hj => by rw [H j (by rw [s1, hz]; exact hj), hv j hj], q ▸ O⟩
def OAL (Z : State) (h : Heap) (a el : Addr) (sz md : Int32) : Prop := Exa Z h a "java/util/ArrayList" ∧ Fld Z h a "java/util/ArrayList" "elementData" "[Ljava/lang/Object;" (.ref el) ∧ Fld Z h a "java/util/ArrayList" "size" "I" (.int sz) ∧ Fld Z h a "java/util/AbstractList" "modCount" "I" (.int md)
theorem OAL.ext {Z : State} {h h' : Heap} {a el : Addr} {sz md : Int32} (F : OAL Z h a el sz md) (E : Ext h h') : OAL Z h' a el sz md := ⟨F.1.ext E, F.2.1.ext E, F.2.2.1.ext E, F.2.2.2.ext E⟩
theorem OAL.keep {Z : State} {h h' : Heap} {a el : Addr} {sz md : Int32} {ws : List Addr} (F : OAL Z h a el sz md) (K : Keep h h' ws) (n : a ∉ ws) : OAL Z h' a el sz md := ⟨F.1.keep K, F.2.1.keep K n, F.2.2.1.keep K n, F.2.2.2.keep K n⟩
theorem OAL.other {Z : State} {h h' : Heap} {a b el : Addr} {sz md : Int32} {sl : Nat} {v : Value} (F : OAL Z h a el sz md) (W : Wr h h' b sl v) (n : a ≠ b) : OAL Z h' a el sz md := ⟨F.1.wr W, F.2.1.other W (Or.inl n), F.2.2.1.other W (Or.inl n), F.2.2.2.other W (Or.inl n)⟩
theorem own_exne {Z : State} {h : Heap} {a b : Addr} {C D : String} (E : Exa Z h a C) (G : Exa Z h b D) (n : C ≠ D) : a ≠ b := fun e => by
  subst e
  obtain ⟨c1, _, e1, e2, -⟩ := E
  obtain ⟨c2, _, g1, g2, -⟩ := G
  cases e1.symm.trans g1
  exact ids_ne e2 g2 n rfl
theorem own_mvM {Z s : State} {args a0 : Array Value} {own host : String} {index : Nat} {y : MethodName} (hZ : Z.Warmed39 s.vm) (w : (Jvm.Cond.methodLinkNest own index y host).before a0 Z = true) : (Jvm.Cond.methodLinkNest own index y host).before args s = true := (Cond.methodLinkNest_wide hZ w :)
def OL1 (Z : State) (h : Heap) (r u : Addr) : Prop := Exa Z h r "java/util/ImmutableCollections$List12" ∧ Fld Z h r "java/util/ImmutableCollections$List12" "e1" "Ljava/lang/Object;" (.ref u)
def OL3 (Z : State) (h : Heap) (r : Addr) : Prop := Exa Z h r "java/util/ImmutableCollections$ListN" ∧ ∃ b g, Fld Z h r "java/util/ImmutableCollections$ListN" "elements" "[Ljava/lang/Object;" (.ref b) ∧ OFun Z h b (.object "java/lang/Object") 3 g
theorem OL1.other {Z : State} {h h' : Heap} {r u a : Addr} {sl : Nat} {v : Value} (F : OL1 Z h r u) (W : Wr h h' a sl v) (G : Exa Z h a "com/example/sheaf/sheaf/cbor/TextStringItem") : OL1 Z h' r u := ⟨F.1.wr W, F.2.other W (Or.inl (own_exne F.1 G (by decide)))⟩
theorem OL3.other {Z : State} {h h' : Heap} {r a : Addr} {sl j : Nat} {v : Value} {a0 : Array Value} (F : OL3 Z h r) (W : Wr h h' a sl v) (G : Exa Z h a "com/example/sheaf/sheaf/cbor/TextStringItem") (wi : (Jvm.Cond.instantiable "com/example/sheaf/sheaf/cbor/TextStringItem" j).before a0 Z = true) : OL3 Z h' r := by
  obtain ⟨x, b, g, f1, f2⟩ := F
  exact ⟨x.wr W, b, g, f1.other W (Or.inl (own_exne x G (by decide))), f2.other W (own_ne_arr f2 G wi)⟩
def OHf (Z : State) (h : Heap) (f : Nat → Value) : Prop := ∀ j, j < 10 → f j = .null ∨ ∃ y, f j = .ref y ∧ Ins Z h y "java/lang/Object" true
theorem own_hf_wr {Z : State} {h h' : Heap} {f : Nat → Value} {a : Addr} {sl : Nat} {v : Value} (H : ∀ j, j < 10 → f j = .null ∨ ∃ y, f j = .ref y ∧ Ins Z h y "java/lang/Object" true) (W : Wr h h' a sl v) : ∀ j, j < 10 → f j = .null ∨ ∃ y, f j = .ref y ∧ Ins Z h' y "java/lang/Object" true := fun j hj => (H j hj).imp id fun ⟨y, e, I⟩ => ⟨y, e, I.wr W⟩
theorem own_hf_nil {Z : State} {h : Heap} : ∀ j : Nat, j < 10 → (fun _ : Nat => Value.null) j = .null ∨ ∃ y, (fun _ : Nat => Value.null) j = .ref y ∧ Ins Z h y "java/lang/Object" true := fun _ _ => Or.inl rfl
theorem own_hf_cons {Z : State} {h : Heap} {f : Nat → Value} {k : Nat} {e1 : Addr} (H : ∀ j, j < 10 → f j = .null ∨ ∃ y, f j = .ref y ∧ Ins Z h y "java/lang/Object" true) (I : Ins Z h e1 "java/lang/Object" true) : ∀ j, j < 10 → (fun j => if j = k then Value.ref e1 else f j) j = .null ∨ ∃ y, (fun j => if j = k then Value.ref e1 else f j) j = .ref y ∧ Ins Z h y "java/lang/Object" true := fun j hj => by
  by_cases q : j = k
  · exact Or.inr ⟨e1, if_pos q, I⟩
  · show (if j = k then Value.ref e1 else f j) = .null ∨ ∃ y, (if j = k then Value.ref e1 else f j) = .ref y ∧ _
    rw [if_neg q]
    exact H j hj
theorem own_fin : ∀ k : Fin 256, (¬ (255 : Int32) < Int32.ofNat k.1) ∧ nar .char (Int32.ofNat k.1) = Int32.ofNat k.1 ∧ ((Int32.ofNat k.1).toUInt32.toUInt16.toUInt32.toInt32) = Int32.ofNat k.1 := by decide +kernel
theorem own_msk (x : Int32) : ∃ k : Fin 256, x &&& (255 : Int32) = Int32.ofNat k.1 := by
  have e := Jvm.Kit.i32_mask x 255 (k := 8) (by decide) (by decide)
  have h1 : 0 ≤ (x &&& (255 : Int32)).toInt ∧ (x &&& (255 : Int32)).toInt < 256 := by rw [e]; omega
  refine ⟨⟨(x &&& (255 : Int32)).toInt.toNat, by omega⟩, Int32.toInt_inj.mp ?_⟩
  rw [own_ofN (by show (x &&& (255 : Int32)).toInt.toNat < 2 ^ 31; omega)]
  show _ = (((x &&& (255 : Int32)).toInt.toNat : Nat) : Int)
  omega
theorem own_chr {x c : Int32} (h : c = ((x &&& (255 : Int32)).toUInt32.toUInt16.toUInt32.toInt32)) : (¬ (255 : Int32) < c) ∧ nar .char c = c := by
  obtain ⟨k, e⟩ := own_msk x
  obtain ⟨h1, h2, h3⟩ := own_fin k
  rw [e] at h
  rw [h.trans h3]
  exact ⟨h1, h2⟩
theorem own_cnt {x c : Int32} (h : c = (x &&& (3 : Int32))) : c = 0 ∨ c = 1 ∨ c = 2 ∨ c = 3 := by
  have m := Jvm.Kit.i32_mask x 3 (k := 2) (by decide) (by decide)
  rw [← h] at m
  have r : c.toInt = 0 ∨ c.toInt = 1 ∨ c.toInt = 2 ∨ c.toInt = 3 := by omega
  rcases r with r | r | r | r
  · exact Or.inl (Int32.toInt_inj.mp r)
  · exact Or.inr (Or.inl (Int32.toInt_inj.mp r))
  · exact Or.inr (Or.inr (Or.inl (Int32.toInt_inj.mp r)))
  · exact Or.inr (Or.inr (Or.inr (Int32.toInt_inj.mp r)))
theorem own_start0 {args : Array Value} {s : State} {t : Term} {p : Addr} {n : Int32} {ty : FieldType} (ev : t.eval args s none [] s = some (.ref p)) (h2 : (Jvm.Cond.arrayOf t ty).value args s none s [] = some true) (h4 : (Jvm.Cond.eq (.length t) (.int n)).value args s none s [] = some true) (hn : n.toInt = 0) : OFun s s.heap p ty 0 (fun _ => .null) := by
  obtain ⟨cl, A⟩ := Arr.start ev h2
  have ha := A.fin (Vm.Alike.refl s.vm)
  have hsz : cl.slots.size = 0 := by
    obtain ⟨x, y, e1, e2, k1, k2⟩ := cmp_v (Or.inl h4)
    rw [Term.int_eval] at e2
    cases e2
    obtain ⟨z, rfl⟩ := k2
    have q := gotT (Cond.eq_ints e1 (Term.int_eval n)) h4
    subst q
    by_cases hl : cl.slots.size < 2 ^ 31
    · rw [len_f ev ha hl] at e1
      have e3 : cl.slots.size.toInt32 = z := Value.int.inj (Option.some.inj e1)
      have e4 := congrArg Int32.toInt e3
      rw [len_toInt hl] at e4
      omega
    · simp [Term.eval, ev, ha, hl] at e1
  exact ⟨cl, A, hsz, fun j hj => absurd hj (Nat.not_lt_zero j)⟩

def Q_cp3 (Z : State) (a1 : Addr) (b1 : Addr) (x y z : Int32) (f : Nat → Value) (h0 : Heap) (n0 : Nat) (v : Option Value) (h : Heap) (L : List Loc) : Prop := v = some (.int 3) ∧ Fr n0 L ∧ Keep h0 h [b1] ∧ ∃ g, OFun Z h b1 .byte 3 g
set_option maxRecDepth 65536 in
set_option maxHeartbeats 40000000 in
theorem rm_cp3 (l : Launch) (Z : State) (a0 : Array Value) (hw : ∀ d ∈ tables_1, d.before a0 Z = true) (ws : List Jvm.Cond) (a1 : Addr) (b1 : Addr) (x y z : Int32) (f : Nat → Value) (h0 : Heap) (n0 : Nat) (gb : n0 ≤ b1) (ne : a1 ≠ b1) (Fa : OFun Z h0 a1 .char 3 (own_three x y z)) (Fb : OFun Z h0 b1 .byte 3 f) (hx0 : ¬ (255 : Int32) < x) (hy0 : ¬ (255 : Int32) < y) (hz0 : ¬ (255 : Int32) < z) :
    MetFree l (⟨"java/lang/StringUTF16", "compress", "([CI[BII)I"⟩ : MethodName) (head1 (Jvm.Cond.code (⟨"java/lang/StringUTF16", "compress", "([CI[BII)I"⟩ : MethodName) jdk_52_method_21_code 7 (some .int) :: ws) ({ frames := 0, cells := 0, slots := 0, locals := 0 } : Room)) (fun a U => a = #[(.ref a1), (.int (0 : Int32)), (.ref b1), (.int (0 : Int32)), (.int (3 : Int32))] ∧ Z.Warmed39 U.vm ∧ U.heap = h0) (fun _ _ _ _ _ => True) (fun _ U o U' => ∃ v L, o = .returned v ∧ Q_cp3 Z a1 b1 x y z f h0 n0 v U'.heap L ∧ FrameEnd U o U' L ({ frames := 0, cells := 0, slots := 0, locals := 0 } : Room).cells ({ frames := 0, cells := 0, slots := 0, locals := 0 } : Room).slots) := by
  refine MetFree.of_bodySF (plainFor_of_name pn_java_lang_StringUTF16) hisR ?_
  intro p e s m args below meth c s₁ Bd hml0 hP hK
  obtain ⟨rfl, hZ, hh⟩ := hP
  have hx := Bd.exec
  have hby := Bd.bytes
  have hml : c.maxLocals = 7 := hml0
  have hown : s.vm.findClass "java/lang/StringUTF16" = some m.cls := findClass_of_methodNamed Bd.named
  have hnm := (name_of_methodNamed Bd.named Bd.method).1
  have X0 : Stand p l e ({ frames := 0, cells := 0, slots := 0, locals := 0 } : Room) s m #[(.ref a1), (.int (0 : Int32)), (.ref b1), (.int (0 : Int32)), (.int (3 : Int32))] below meth c s₁ [] 0 0 := Stand.of_body Bd
  have e0 : s₁.heap = h0 := by rw [← hh, Bd.state]; rfl
  have N0 := Fr.nil n0
  obtain ⟨S0, hS0⟩ : ∃ S0, S0 = s₁.setTop (entryFrame m #[(.ref a1), (.int (0 : Int32)), (.ref b1), (.int (0 : Int32)), (.int (3 : Int32))] 7) := ⟨_, rfl⟩
  have pre : Pth p e below S0 s₁ (mkF m 0 #[rv a1, iv (0 : Int32), rv b1, iv (0 : Int32), iv (3 : Int32), .unset, .unset] []) := fun t k => by rw [hS0]; exact castTop (ef_cp3 m a1 (0 : Int32) b1 (0 : Int32) (3 : Int32)) k
  replace pre : Pth p e below S0 s₁ (mkF m 12 #[rv a1, iv (0 : Int32), rv b1, iv (0 : Int32), iv (3 : Int32), iv (0 : Int32), .unset] [(.int (0 : Int32)), (.ref a1)]) := fun t k => pre t (by
    show SS p e below s₁ (mkF m 0 #[rv a1, iv (0 : Int32), rv b1, iv (0 : Int32), iv (3 : Int32), .unset, .unset] []) t
    refine XS.iconst X0.here hx rfl (hb hby d_cp3_0) ?_
    show SS p e below s₁ (mkF m 1 #[rv a1, iv (0 : Int32), rv b1, iv (0 : Int32), iv (3 : Int32), .unset, .unset] [(.int (0 : Int32))]) t
    refine XS.istore X0.here hx rfl (hb hby d_cp3_1) rfl (l' := #[rv a1, iv (0 : Int32), rv b1, iv (0 : Int32), iv (3 : Int32), iv (0 : Int32), .unset]) rfl ?_
    show SS p e below s₁ (mkF m 3 #[rv a1, iv (0 : Int32), rv b1, iv (0 : Int32), iv (3 : Int32), iv (0 : Int32), .unset] []) t
    refine XS.iload X0.here hx rfl (hb hby d_cp3_3) rfl ?_
    show SS p e below s₁ (mkF m 5 #[rv a1, iv (0 : Int32), rv b1, iv (0 : Int32), iv (3 : Int32), iv (0 : Int32), .unset] [(.int (0 : Int32))]) t
    refine XS.iload X0.here hx rfl (hb hby d_cp3_5) rfl ?_
    show SS p e below s₁ (mkF m 7 #[rv a1, iv (0 : Int32), rv b1, iv (0 : Int32), iv (3 : Int32), iv (0 : Int32), .unset] [(.int (3 : Int32)), (.int (0 : Int32))]) t
    refine XS.icmpNo X0.here hx rfl (hb hby d_cp3_7) rfl (XT.ii_ge_f (by decide)) ?_
    show SS p e below s₁ (mkF m 10 #[rv a1, iv (0 : Int32), rv b1, iv (0 : Int32), iv (3 : Int32), iv (0 : Int32), .unset] []) t
    refine XS.aloadN X0.here hx rfl (hb hby d_cp3_10) rfl rfl ?_
    show SS p e below s₁ (mkF m 11 #[rv a1, iv (0 : Int32), rv b1, iv (0 : Int32), iv (3 : Int32), iv (0 : Int32), .unset] [(.ref a1)]) t
    refine XS.iloadN X0.here hx rfl (hb hby d_cp3_11) rfl ?_
    show SS p e below s₁ (mkF m 12 #[rv a1, iv (0 : Int32), rv b1, iv (0 : Int32), iv (3 : Int32), iv (0 : Int32), .unset] [(.int (0 : Int32)), (.ref a1)]) t
    exact k)
  obtain ⟨cl1, Ar1, Sz1, Gt1⟩ := id Fa
  have hin1 : ¬ ((0 : Int32) < 0 ∨ cl1.slots.size ≤ ((0 : Int32)).toNatClampNeg) := by rw [Sz1]; exact (by decide)
  have hat1 : cl1.slots[((0 : Int32)).toNatClampNeg]? = some (.int x) := (Gt1 _ (Nat.lt_of_lt_of_eq (Nat.lt_of_not_le fun q => hin1 (Or.inr q)) Sz1)).trans (congrArg some (rfl))
  replace pre : Pth p e below S0 s₁ (mkF m 31 #[rv a1, iv (0 : Int32), rv b1, iv (0 : Int32), iv (3 : Int32), iv (0 : Int32), iv x] [(.int (x.toInt8.toInt32)), (.int (0 : Int32)), (.ref b1)]) := fun t k => pre t (by
    show SS p e below s₁ (mkF m 12 #[rv a1, iv (0 : Int32), rv b1, iv (0 : Int32), iv (3 : Int32), iv (0 : Int32), .unset] [(.int (0 : Int32)), (.ref a1)]) t
    refine X0.caload hx (j := (0 : Int32)) (v := (.int x)) (by rw [e0]; exact Ar1.1) (State.isArrayOf_alike hZ.alike Ar1.2.1) Ar1.2.2 hin1 hat1 (g := (mkF m 12 #[rv a1, iv (0 : Int32), rv b1, iv (0 : Int32), iv (3 : Int32), iv (0 : Int32), .unset] [(.int (0 : Int32)), (.ref a1)])) rfl rfl (hb hby d_cp3_12) _ ?_
    show SS p e below s₁ (mkF m 13 #[rv a1, iv (0 : Int32), rv b1, iv (0 : Int32), iv (3 : Int32), iv (0 : Int32), .unset] [(.int x)]) t
    refine XS.istore X0.here hx rfl (hb hby d_cp3_13) rfl (l' := #[rv a1, iv (0 : Int32), rv b1, iv (0 : Int32), iv (3 : Int32), iv (0 : Int32), iv x]) rfl ?_
    show SS p e below s₁ (mkF m 15 #[rv a1, iv (0 : Int32), rv b1, iv (0 : Int32), iv (3 : Int32), iv (0 : Int32), iv x] []) t
    refine XS.iload X0.here hx rfl (hb hby d_cp3_15) rfl ?_
    show SS p e below s₁ (mkF m 17 #[rv a1, iv (0 : Int32), rv b1, iv (0 : Int32), iv (3 : Int32), iv (0 : Int32), iv x] [(.int x)]) t
    refine XS.sipush X0.here hx rfl (hb hby d_cp3_17) ?_
    show SS p e below s₁ (mkF m 20 #[rv a1, iv (0 : Int32), rv b1, iv (0 : Int32), iv (3 : Int32), iv (0 : Int32), iv x] [(.int (255 : Int32)), (.int x)]) t
    refine XS.icmpYes X0.here hx rfl (pc0 := 20) (pc' := 26) rfl (hb hby d_cp3_20) rfl (XT.ii_le_t hx0) (by decide) (by decide) ?_
    show SS p e below s₁ (mkF m 26 #[rv a1, iv (0 : Int32), rv b1, iv (0 : Int32), iv (3 : Int32), iv (0 : Int32), iv x] []) t
    refine XS.aloadN X0.here hx rfl (hb hby d_cp3_26) rfl rfl ?_
    show SS p e below s₁ (mkF m 27 #[rv a1, iv (0 : Int32), rv b1, iv (0 : Int32), iv (3 : Int32), iv (0 : Int32), iv x] [(.ref b1)]) t
    refine XS.iloadN X0.here hx rfl (hb hby d_cp3_27) rfl ?_
    show SS p e below s₁ (mkF m 28 #[rv a1, iv (0 : Int32), rv b1, iv (0 : Int32), iv (3 : Int32), iv (0 : Int32), iv x] [(.int (0 : Int32)), (.ref b1)]) t
    refine XS.iload X0.here hx rfl (hb hby d_cp3_28) rfl ?_
    show SS p e below s₁ (mkF m 30 #[rv a1, iv (0 : Int32), rv b1, iv (0 : Int32), iv (3 : Int32), iv (0 : Int32), iv x] [(.int x), (.int (0 : Int32)), (.ref b1)]) t
    refine XS.i2b X0.here hx rfl (hb hby d_cp3_30) rfl ?_
    show SS p e below s₁ (mkF m 31 #[rv a1, iv (0 : Int32), rv b1, iv (0 : Int32), iv (3 : Int32), iv (0 : Int32), iv x] [(.int (x.toInt8.toInt32)), (.int (0 : Int32)), (.ref b1)]) t
    exact k)
  obtain ⟨cl2, Ar2, Sz2, -⟩ := id Fb
  obtain ⟨T2, h2, X2, e2, W2, st2⟩ := stB X0 hx hZ e0 Ar2 (j := (0 : Int32)) (by rw [Sz2]; exact (by decide)) (g := (mkF m 31 #[rv a1, iv (0 : Int32), rv b1, iv (0 : Int32), iv (3 : Int32), iv (0 : Int32), iv x] [(.int (x.toInt8.toInt32)), (.int (0 : Int32)), (.ref b1)])) rfl rfl (hb hby d_cp3_31)
  have F2 := OFun.set Fb W2
  have N2 := Fr.snoc X2 N0 gb
  replace pre : Pth p e below S0 T2 (mkF m 32 #[rv a1, iv (0 : Int32), rv b1, iv (0 : Int32), iv (3 : Int32), iv (0 : Int32), iv x] []) := fun t k => pre t (st2 _ k)
  have FA0 := Fa.other W2 ne
  replace pre : Pth p e below S0 T2 (mkF m 12 #[rv a1, iv ((0 : Int32) + (1 : Int32)), rv b1, iv ((0 : Int32) + (1 : Int32)), iv (3 : Int32), iv ((0 : Int32) + (1 : Int32)), iv x] [(.int ((0 : Int32) + (1 : Int32))), (.ref a1)]) := fun t k => pre t (by
    show SS p e below T2 (mkF m 32 #[rv a1, iv (0 : Int32), rv b1, iv (0 : Int32), iv (3 : Int32), iv (0 : Int32), iv x] []) t
    refine XS.iinc X2.here hx rfl (hb hby d_cp3_32) rfl (l' := #[rv a1, iv ((0 : Int32) + (1 : Int32)), rv b1, iv (0 : Int32), iv (3 : Int32), iv (0 : Int32), iv x]) rfl ?_
    show SS p e below T2 (mkF m 35 #[rv a1, iv ((0 : Int32) + (1 : Int32)), rv b1, iv (0 : Int32), iv (3 : Int32), iv (0 : Int32), iv x] []) t
    refine XS.iinc X2.here hx rfl (hb hby d_cp3_35) rfl (l' := #[rv a1, iv ((0 : Int32) + (1 : Int32)), rv b1, iv ((0 : Int32) + (1 : Int32)), iv (3 : Int32), iv (0 : Int32), iv x]) rfl ?_
    show SS p e below T2 (mkF m 38 #[rv a1, iv ((0 : Int32) + (1 : Int32)), rv b1, iv ((0 : Int32) + (1 : Int32)), iv (3 : Int32), iv (0 : Int32), iv x] []) t
    refine XS.iinc X2.here hx rfl (hb hby d_cp3_38) rfl (l' := #[rv a1, iv ((0 : Int32) + (1 : Int32)), rv b1, iv ((0 : Int32) + (1 : Int32)), iv (3 : Int32), iv ((0 : Int32) + (1 : Int32)), iv x]) rfl ?_
    show SS p e below T2 (mkF m 41 #[rv a1, iv ((0 : Int32) + (1 : Int32)), rv b1, iv ((0 : Int32) + (1 : Int32)), iv (3 : Int32), iv ((0 : Int32) + (1 : Int32)), iv x] []) t
    refine XS.goto X2.here hx rfl (pc0 := 41) (pc' := 3) rfl (hb hby d_cp3_41) (by decide) (by decide) ?_
    show SS p e below T2 (mkF m 3 #[rv a1, iv ((0 : Int32) + (1 : Int32)), rv b1, iv ((0 : Int32) + (1 : Int32)), iv (3 : Int32), iv ((0 : Int32) + (1 : Int32)), iv x] []) t
    refine XS.iload X2.here hx rfl (hb hby d_cp3_3) rfl ?_
    show SS p e below T2 (mkF m 5 #[rv a1, iv ((0 : Int32) + (1 : Int32)), rv b1, iv ((0 : Int32) + (1 : Int32)), iv (3 : Int32), iv ((0 : Int32) + (1 : Int32)), iv x] [(.int ((0 : Int32) + (1 : Int32)))]) t
    refine XS.iload X2.here hx rfl (hb hby d_cp3_5) rfl ?_
    show SS p e below T2 (mkF m 7 #[rv a1, iv ((0 : Int32) + (1 : Int32)), rv b1, iv ((0 : Int32) + (1 : Int32)), iv (3 : Int32), iv ((0 : Int32) + (1 : Int32)), iv x] [(.int (3 : Int32)), (.int ((0 : Int32) + (1 : Int32)))]) t
    refine XS.icmpNo X2.here hx rfl (hb hby d_cp3_7) rfl (XT.ii_ge_f (by decide)) ?_
    show SS p e below T2 (mkF m 10 #[rv a1, iv ((0 : Int32) + (1 : Int32)), rv b1, iv ((0 : Int32) + (1 : Int32)), iv (3 : Int32), iv ((0 : Int32) + (1 : Int32)), iv x] []) t
    refine XS.aloadN X2.here hx rfl (hb hby d_cp3_10) rfl rfl ?_
    show SS p e below T2 (mkF m 11 #[rv a1, iv ((0 : Int32) + (1 : Int32)), rv b1, iv ((0 : Int32) + (1 : Int32)), iv (3 : Int32), iv ((0 : Int32) + (1 : Int32)), iv x] [(.ref a1)]) t
    refine XS.iloadN X2.here hx rfl (hb hby d_cp3_11) rfl ?_
    show SS p e below T2 (mkF m 12 #[rv a1, iv ((0 : Int32) + (1 : Int32)), rv b1, iv ((0 : Int32) + (1 : Int32)), iv (3 : Int32), iv ((0 : Int32) + (1 : Int32)), iv x] [(.int ((0 : Int32) + (1 : Int32))), (.ref a1)]) t
    exact k)
  obtain ⟨cl3, Ar3, Sz3, Gt3⟩ := id FA0
  have hin3 : ¬ (((0 : Int32) + (1 : Int32)) < 0 ∨ cl3.slots.size ≤ (((0 : Int32) + (1 : Int32))).toNatClampNeg) := by rw [Sz3]; exact (by decide)
  have hat3 : cl3.slots[(((0 : Int32) + (1 : Int32))).toNatClampNeg]? = some (.int y) := (Gt3 _ (Nat.lt_of_lt_of_eq (Nat.lt_of_not_le fun q => hin3 (Or.inr q)) Sz3)).trans (congrArg some (rfl))
  replace pre : Pth p e below S0 T2 (mkF m 31 #[rv a1, iv ((0 : Int32) + (1 : Int32)), rv b1, iv ((0 : Int32) + (1 : Int32)), iv (3 : Int32), iv ((0 : Int32) + (1 : Int32)), iv y] [(.int (y.toInt8.toInt32)), (.int ((0 : Int32) + (1 : Int32))), (.ref b1)]) := fun t k => pre t (by
    show SS p e below T2 (mkF m 12 #[rv a1, iv ((0 : Int32) + (1 : Int32)), rv b1, iv ((0 : Int32) + (1 : Int32)), iv (3 : Int32), iv ((0 : Int32) + (1 : Int32)), iv x] [(.int ((0 : Int32) + (1 : Int32))), (.ref a1)]) t
    refine X2.caload hx (j := ((0 : Int32) + (1 : Int32))) (v := (.int y)) (by rw [e2]; exact Ar3.1) (State.isArrayOf_alike hZ.alike Ar3.2.1) Ar3.2.2 hin3 hat3 (g := (mkF m 12 #[rv a1, iv ((0 : Int32) + (1 : Int32)), rv b1, iv ((0 : Int32) + (1 : Int32)), iv (3 : Int32), iv ((0 : Int32) + (1 : Int32)), iv x] [(.int ((0 : Int32) + (1 : Int32))), (.ref a1)])) rfl rfl (hb hby d_cp3_12) _ ?_
    show SS p e below T2 (mkF m 13 #[rv a1, iv ((0 : Int32) + (1 : Int32)), rv b1, iv ((0 : Int32) + (1 : Int32)), iv (3 : Int32), iv ((0 : Int32) + (1 : Int32)), iv x] [(.int y)]) t
    refine XS.istore X2.here hx rfl (hb hby d_cp3_13) rfl (l' := #[rv a1, iv ((0 : Int32) + (1 : Int32)), rv b1, iv ((0 : Int32) + (1 : Int32)), iv (3 : Int32), iv ((0 : Int32) + (1 : Int32)), iv y]) rfl ?_
    show SS p e below T2 (mkF m 15 #[rv a1, iv ((0 : Int32) + (1 : Int32)), rv b1, iv ((0 : Int32) + (1 : Int32)), iv (3 : Int32), iv ((0 : Int32) + (1 : Int32)), iv y] []) t
    refine XS.iload X2.here hx rfl (hb hby d_cp3_15) rfl ?_
    show SS p e below T2 (mkF m 17 #[rv a1, iv ((0 : Int32) + (1 : Int32)), rv b1, iv ((0 : Int32) + (1 : Int32)), iv (3 : Int32), iv ((0 : Int32) + (1 : Int32)), iv y] [(.int y)]) t
    refine XS.sipush X2.here hx rfl (hb hby d_cp3_17) ?_
    show SS p e below T2 (mkF m 20 #[rv a1, iv ((0 : Int32) + (1 : Int32)), rv b1, iv ((0 : Int32) + (1 : Int32)), iv (3 : Int32), iv ((0 : Int32) + (1 : Int32)), iv y] [(.int (255 : Int32)), (.int y)]) t
    refine XS.icmpYes X2.here hx rfl (pc0 := 20) (pc' := 26) rfl (hb hby d_cp3_20) rfl (XT.ii_le_t hy0) (by decide) (by decide) ?_
    show SS p e below T2 (mkF m 26 #[rv a1, iv ((0 : Int32) + (1 : Int32)), rv b1, iv ((0 : Int32) + (1 : Int32)), iv (3 : Int32), iv ((0 : Int32) + (1 : Int32)), iv y] []) t
    refine XS.aloadN X2.here hx rfl (hb hby d_cp3_26) rfl rfl ?_
    show SS p e below T2 (mkF m 27 #[rv a1, iv ((0 : Int32) + (1 : Int32)), rv b1, iv ((0 : Int32) + (1 : Int32)), iv (3 : Int32), iv ((0 : Int32) + (1 : Int32)), iv y] [(.ref b1)]) t
    refine XS.iloadN X2.here hx rfl (hb hby d_cp3_27) rfl ?_
    show SS p e below T2 (mkF m 28 #[rv a1, iv ((0 : Int32) + (1 : Int32)), rv b1, iv ((0 : Int32) + (1 : Int32)), iv (3 : Int32), iv ((0 : Int32) + (1 : Int32)), iv y] [(.int ((0 : Int32) + (1 : Int32))), (.ref b1)]) t
    refine XS.iload X2.here hx rfl (hb hby d_cp3_28) rfl ?_
    show SS p e below T2 (mkF m 30 #[rv a1, iv ((0 : Int32) + (1 : Int32)), rv b1, iv ((0 : Int32) + (1 : Int32)), iv (3 : Int32), iv ((0 : Int32) + (1 : Int32)), iv y] [(.int y), (.int ((0 : Int32) + (1 : Int32))), (.ref b1)]) t
    refine XS.i2b X2.here hx rfl (hb hby d_cp3_30) rfl ?_
    show SS p e below T2 (mkF m 31 #[rv a1, iv ((0 : Int32) + (1 : Int32)), rv b1, iv ((0 : Int32) + (1 : Int32)), iv (3 : Int32), iv ((0 : Int32) + (1 : Int32)), iv y] [(.int (y.toInt8.toInt32)), (.int ((0 : Int32) + (1 : Int32))), (.ref b1)]) t
    exact k)
  obtain ⟨cl4, Ar4, Sz4, -⟩ := id F2
  obtain ⟨T4, h4, X4, e4, W4, st4⟩ := stB X2 hx hZ e2 Ar4 (j := ((0 : Int32) + (1 : Int32))) (by rw [Sz4]; exact (by decide)) (g := (mkF m 31 #[rv a1, iv ((0 : Int32) + (1 : Int32)), rv b1, iv ((0 : Int32) + (1 : Int32)), iv (3 : Int32), iv ((0 : Int32) + (1 : Int32)), iv y] [(.int (y.toInt8.toInt32)), (.int ((0 : Int32) + (1 : Int32))), (.ref b1)])) rfl rfl (hb hby d_cp3_31)
  have F4 := OFun.set F2 W4
  have N4 := Fr.snoc X4 N2 gb
  replace pre : Pth p e below S0 T4 (mkF m 32 #[rv a1, iv ((0 : Int32) + (1 : Int32)), rv b1, iv ((0 : Int32) + (1 : Int32)), iv (3 : Int32), iv ((0 : Int32) + (1 : Int32)), iv y] []) := fun t k => pre t (st4 _ k)
  have FA1 := FA0.other W4 ne
  replace pre : Pth p e below S0 T4 (mkF m 12 #[rv a1, iv (((0 : Int32) + (1 : Int32)) + (1 : Int32)), rv b1, iv (((0 : Int32) + (1 : Int32)) + (1 : Int32)), iv (3 : Int32), iv (((0 : Int32) + (1 : Int32)) + (1 : Int32)), iv y] [(.int (((0 : Int32) + (1 : Int32)) + (1 : Int32))), (.ref a1)]) := fun t k => pre t (by
    show SS p e below T4 (mkF m 32 #[rv a1, iv ((0 : Int32) + (1 : Int32)), rv b1, iv ((0 : Int32) + (1 : Int32)), iv (3 : Int32), iv ((0 : Int32) + (1 : Int32)), iv y] []) t
    refine XS.iinc X4.here hx rfl (hb hby d_cp3_32) rfl (l' := #[rv a1, iv (((0 : Int32) + (1 : Int32)) + (1 : Int32)), rv b1, iv ((0 : Int32) + (1 : Int32)), iv (3 : Int32), iv ((0 : Int32) + (1 : Int32)), iv y]) rfl ?_
    show SS p e below T4 (mkF m 35 #[rv a1, iv (((0 : Int32) + (1 : Int32)) + (1 : Int32)), rv b1, iv ((0 : Int32) + (1 : Int32)), iv (3 : Int32), iv ((0 : Int32) + (1 : Int32)), iv y] []) t
    refine XS.iinc X4.here hx rfl (hb hby d_cp3_35) rfl (l' := #[rv a1, iv (((0 : Int32) + (1 : Int32)) + (1 : Int32)), rv b1, iv (((0 : Int32) + (1 : Int32)) + (1 : Int32)), iv (3 : Int32), iv ((0 : Int32) + (1 : Int32)), iv y]) rfl ?_
    show SS p e below T4 (mkF m 38 #[rv a1, iv (((0 : Int32) + (1 : Int32)) + (1 : Int32)), rv b1, iv (((0 : Int32) + (1 : Int32)) + (1 : Int32)), iv (3 : Int32), iv ((0 : Int32) + (1 : Int32)), iv y] []) t
    refine XS.iinc X4.here hx rfl (hb hby d_cp3_38) rfl (l' := #[rv a1, iv (((0 : Int32) + (1 : Int32)) + (1 : Int32)), rv b1, iv (((0 : Int32) + (1 : Int32)) + (1 : Int32)), iv (3 : Int32), iv (((0 : Int32) + (1 : Int32)) + (1 : Int32)), iv y]) rfl ?_
    show SS p e below T4 (mkF m 41 #[rv a1, iv (((0 : Int32) + (1 : Int32)) + (1 : Int32)), rv b1, iv (((0 : Int32) + (1 : Int32)) + (1 : Int32)), iv (3 : Int32), iv (((0 : Int32) + (1 : Int32)) + (1 : Int32)), iv y] []) t
    refine XS.goto X4.here hx rfl (pc0 := 41) (pc' := 3) rfl (hb hby d_cp3_41) (by decide) (by decide) ?_
    show SS p e below T4 (mkF m 3 #[rv a1, iv (((0 : Int32) + (1 : Int32)) + (1 : Int32)), rv b1, iv (((0 : Int32) + (1 : Int32)) + (1 : Int32)), iv (3 : Int32), iv (((0 : Int32) + (1 : Int32)) + (1 : Int32)), iv y] []) t
    refine XS.iload X4.here hx rfl (hb hby d_cp3_3) rfl ?_
    show SS p e below T4 (mkF m 5 #[rv a1, iv (((0 : Int32) + (1 : Int32)) + (1 : Int32)), rv b1, iv (((0 : Int32) + (1 : Int32)) + (1 : Int32)), iv (3 : Int32), iv (((0 : Int32) + (1 : Int32)) + (1 : Int32)), iv y] [(.int (((0 : Int32) + (1 : Int32)) + (1 : Int32)))]) t
    refine XS.iload X4.here hx rfl (hb hby d_cp3_5) rfl ?_
    show SS p e below T4 (mkF m 7 #[rv a1, iv (((0 : Int32) + (1 : Int32)) + (1 : Int32)), rv b1, iv (((0 : Int32) + (1 : Int32)) + (1 : Int32)), iv (3 : Int32), iv (((0 : Int32) + (1 : Int32)) + (1 : Int32)), iv y] [(.int (3 : Int32)), (.int (((0 : Int32) + (1 : Int32)) + (1 : Int32)))]) t
    refine XS.icmpNo X4.here hx rfl (hb hby d_cp3_7) rfl (XT.ii_ge_f (by decide)) ?_
    show SS p e below T4 (mkF m 10 #[rv a1, iv (((0 : Int32) + (1 : Int32)) + (1 : Int32)), rv b1, iv (((0 : Int32) + (1 : Int32)) + (1 : Int32)), iv (3 : Int32), iv (((0 : Int32) + (1 : Int32)) + (1 : Int32)), iv y] []) t
    refine XS.aloadN X4.here hx rfl (hb hby d_cp3_10) rfl rfl ?_
    show SS p e below T4 (mkF m 11 #[rv a1, iv (((0 : Int32) + (1 : Int32)) + (1 : Int32)), rv b1, iv (((0 : Int32) + (1 : Int32)) + (1 : Int32)), iv (3 : Int32), iv (((0 : Int32) + (1 : Int32)) + (1 : Int32)), iv y] [(.ref a1)]) t
    refine XS.iloadN X4.here hx rfl (hb hby d_cp3_11) rfl ?_
    show SS p e below T4 (mkF m 12 #[rv a1, iv (((0 : Int32) + (1 : Int32)) + (1 : Int32)), rv b1, iv (((0 : Int32) + (1 : Int32)) + (1 : Int32)), iv (3 : Int32), iv (((0 : Int32) + (1 : Int32)) + (1 : Int32)), iv y] [(.int (((0 : Int32) + (1 : Int32)) + (1 : Int32))), (.ref a1)]) t
    exact k)
  obtain ⟨cl5, Ar5, Sz5, Gt5⟩ := id FA1
  have hin5 : ¬ ((((0 : Int32) + (1 : Int32)) + (1 : Int32)) < 0 ∨ cl5.slots.size ≤ ((((0 : Int32) + (1 : Int32)) + (1 : Int32))).toNatClampNeg) := by rw [Sz5]; exact (by decide)
  have hat5 : cl5.slots[((((0 : Int32) + (1 : Int32)) + (1 : Int32))).toNatClampNeg]? = some (.int z) := (Gt5 _ (Nat.lt_of_lt_of_eq (Nat.lt_of_not_le fun q => hin5 (Or.inr q)) Sz5)).trans (congrArg some (rfl))
  replace pre : Pth p e below S0 T4 (mkF m 31 #[rv a1, iv (((0 : Int32) + (1 : Int32)) + (1 : Int32)), rv b1, iv (((0 : Int32) + (1 : Int32)) + (1 : Int32)), iv (3 : Int32), iv (((0 : Int32) + (1 : Int32)) + (1 : Int32)), iv z] [(.int (z.toInt8.toInt32)), (.int (((0 : Int32) + (1 : Int32)) + (1 : Int32))), (.ref b1)]) := fun t k => pre t (by
    show SS p e below T4 (mkF m 12 #[rv a1, iv (((0 : Int32) + (1 : Int32)) + (1 : Int32)), rv b1, iv (((0 : Int32) + (1 : Int32)) + (1 : Int32)), iv (3 : Int32), iv (((0 : Int32) + (1 : Int32)) + (1 : Int32)), iv y] [(.int (((0 : Int32) + (1 : Int32)) + (1 : Int32))), (.ref a1)]) t
    refine X4.caload hx (j := (((0 : Int32) + (1 : Int32)) + (1 : Int32))) (v := (.int z)) (by rw [e4]; exact Ar5.1) (State.isArrayOf_alike hZ.alike Ar5.2.1) Ar5.2.2 hin5 hat5 (g := (mkF m 12 #[rv a1, iv (((0 : Int32) + (1 : Int32)) + (1 : Int32)), rv b1, iv (((0 : Int32) + (1 : Int32)) + (1 : Int32)), iv (3 : Int32), iv (((0 : Int32) + (1 : Int32)) + (1 : Int32)), iv y] [(.int (((0 : Int32) + (1 : Int32)) + (1 : Int32))), (.ref a1)])) rfl rfl (hb hby d_cp3_12) _ ?_
    show SS p e below T4 (mkF m 13 #[rv a1, iv (((0 : Int32) + (1 : Int32)) + (1 : Int32)), rv b1, iv (((0 : Int32) + (1 : Int32)) + (1 : Int32)), iv (3 : Int32), iv (((0 : Int32) + (1 : Int32)) + (1 : Int32)), iv y] [(.int z)]) t
    refine XS.istore X4.here hx rfl (hb hby d_cp3_13) rfl (l' := #[rv a1, iv (((0 : Int32) + (1 : Int32)) + (1 : Int32)), rv b1, iv (((0 : Int32) + (1 : Int32)) + (1 : Int32)), iv (3 : Int32), iv (((0 : Int32) + (1 : Int32)) + (1 : Int32)), iv z]) rfl ?_
    show SS p e below T4 (mkF m 15 #[rv a1, iv (((0 : Int32) + (1 : Int32)) + (1 : Int32)), rv b1, iv (((0 : Int32) + (1 : Int32)) + (1 : Int32)), iv (3 : Int32), iv (((0 : Int32) + (1 : Int32)) + (1 : Int32)), iv z] []) t
    refine XS.iload X4.here hx rfl (hb hby d_cp3_15) rfl ?_
    show SS p e below T4 (mkF m 17 #[rv a1, iv (((0 : Int32) + (1 : Int32)) + (1 : Int32)), rv b1, iv (((0 : Int32) + (1 : Int32)) + (1 : Int32)), iv (3 : Int32), iv (((0 : Int32) + (1 : Int32)) + (1 : Int32)), iv z] [(.int z)]) t
    refine XS.sipush X4.here hx rfl (hb hby d_cp3_17) ?_
    show SS p e below T4 (mkF m 20 #[rv a1, iv (((0 : Int32) + (1 : Int32)) + (1 : Int32)), rv b1, iv (((0 : Int32) + (1 : Int32)) + (1 : Int32)), iv (3 : Int32), iv (((0 : Int32) + (1 : Int32)) + (1 : Int32)), iv z] [(.int (255 : Int32)), (.int z)]) t
    refine XS.icmpYes X4.here hx rfl (pc0 := 20) (pc' := 26) rfl (hb hby d_cp3_20) rfl (XT.ii_le_t hz0) (by decide) (by decide) ?_
    show SS p e below T4 (mkF m 26 #[rv a1, iv (((0 : Int32) + (1 : Int32)) + (1 : Int32)), rv b1, iv (((0 : Int32) + (1 : Int32)) + (1 : Int32)), iv (3 : Int32), iv (((0 : Int32) + (1 : Int32)) + (1 : Int32)), iv z] []) t
    refine XS.aloadN X4.here hx rfl (hb hby d_cp3_26) rfl rfl ?_
    show SS p e below T4 (mkF m 27 #[rv a1, iv (((0 : Int32) + (1 : Int32)) + (1 : Int32)), rv b1, iv (((0 : Int32) + (1 : Int32)) + (1 : Int32)), iv (3 : Int32), iv (((0 : Int32) + (1 : Int32)) + (1 : Int32)), iv z] [(.ref b1)]) t
    refine XS.iloadN X4.here hx rfl (hb hby d_cp3_27) rfl ?_
    show SS p e below T4 (mkF m 28 #[rv a1, iv (((0 : Int32) + (1 : Int32)) + (1 : Int32)), rv b1, iv (((0 : Int32) + (1 : Int32)) + (1 : Int32)), iv (3 : Int32), iv (((0 : Int32) + (1 : Int32)) + (1 : Int32)), iv z] [(.int (((0 : Int32) + (1 : Int32)) + (1 : Int32))), (.ref b1)]) t
    refine XS.iload X4.here hx rfl (hb hby d_cp3_28) rfl ?_
    show SS p e below T4 (mkF m 30 #[rv a1, iv (((0 : Int32) + (1 : Int32)) + (1 : Int32)), rv b1, iv (((0 : Int32) + (1 : Int32)) + (1 : Int32)), iv (3 : Int32), iv (((0 : Int32) + (1 : Int32)) + (1 : Int32)), iv z] [(.int z), (.int (((0 : Int32) + (1 : Int32)) + (1 : Int32))), (.ref b1)]) t
    refine XS.i2b X4.here hx rfl (hb hby d_cp3_30) rfl ?_
    show SS p e below T4 (mkF m 31 #[rv a1, iv (((0 : Int32) + (1 : Int32)) + (1 : Int32)), rv b1, iv (((0 : Int32) + (1 : Int32)) + (1 : Int32)), iv (3 : Int32), iv (((0 : Int32) + (1 : Int32)) + (1 : Int32)), iv z] [(.int (z.toInt8.toInt32)), (.int (((0 : Int32) + (1 : Int32)) + (1 : Int32))), (.ref b1)]) t
    exact k)
  obtain ⟨cl6, Ar6, Sz6, -⟩ := id F4
  obtain ⟨T6, h6, X6, e6, W6, st6⟩ := stB X4 hx hZ e4 Ar6 (j := (((0 : Int32) + (1 : Int32)) + (1 : Int32))) (by rw [Sz6]; exact (by decide)) (g := (mkF m 31 #[rv a1, iv (((0 : Int32) + (1 : Int32)) + (1 : Int32)), rv b1, iv (((0 : Int32) + (1 : Int32)) + (1 : Int32)), iv (3 : Int32), iv (((0 : Int32) + (1 : Int32)) + (1 : Int32)), iv z] [(.int (z.toInt8.toInt32)), (.int (((0 : Int32) + (1 : Int32)) + (1 : Int32))), (.ref b1)])) rfl rfl (hb hby d_cp3_31)
  have F6 := OFun.set F4 W6
  have N6 := Fr.snoc X6 N4 gb
  replace pre : Pth p e below S0 T6 (mkF m 32 #[rv a1, iv (((0 : Int32) + (1 : Int32)) + (1 : Int32)), rv b1, iv (((0 : Int32) + (1 : Int32)) + (1 : Int32)), iv (3 : Int32), iv (((0 : Int32) + (1 : Int32)) + (1 : Int32)), iv z] []) := fun t k => pre t (st6 _ k)
  have FA2 := FA1.other W6 ne
  replace pre : Pth p e below S0 T6 (mkF m 46 #[rv a1, iv ((((0 : Int32) + (1 : Int32)) + (1 : Int32)) + (1 : Int32)), rv b1, iv ((((0 : Int32) + (1 : Int32)) + (1 : Int32)) + (1 : Int32)), iv (3 : Int32), iv ((((0 : Int32) + (1 : Int32)) + (1 : Int32)) + (1 : Int32)), iv z] [(.int (3 : Int32))]) := fun t k => pre t (by
    show SS p e below T6 (mkF m 32 #[rv a1, iv (((0 : Int32) + (1 : Int32)) + (1 : Int32)), rv b1, iv (((0 : Int32) + (1 : Int32)) + (1 : Int32)), iv (3 : Int32), iv (((0 : Int32) + (1 : Int32)) + (1 : Int32)), iv z] []) t
    refine XS.iinc X6.here hx rfl (hb hby d_cp3_32) rfl (l' := #[rv a1, iv ((((0 : Int32) + (1 : Int32)) + (1 : Int32)) + (1 : Int32)), rv b1, iv (((0 : Int32) + (1 : Int32)) + (1 : Int32)), iv (3 : Int32), iv (((0 : Int32) + (1 : Int32)) + (1 : Int32)), iv z]) rfl ?_
    show SS p e below T6 (mkF m 35 #[rv a1, iv ((((0 : Int32) + (1 : Int32)) + (1 : Int32)) + (1 : Int32)), rv b1, iv (((0 : Int32) + (1 : Int32)) + (1 : Int32)), iv (3 : Int32), iv (((0 : Int32) + (1 : Int32)) + (1 : Int32)), iv z] []) t
    refine XS.iinc X6.here hx rfl (hb hby d_cp3_35) rfl (l' := #[rv a1, iv ((((0 : Int32) + (1 : Int32)) + (1 : Int32)) + (1 : Int32)), rv b1, iv ((((0 : Int32) + (1 : Int32)) + (1 : Int32)) + (1 : Int32)), iv (3 : Int32), iv (((0 : Int32) + (1 : Int32)) + (1 : Int32)), iv z]) rfl ?_
    show SS p e below T6 (mkF m 38 #[rv a1, iv ((((0 : Int32) + (1 : Int32)) + (1 : Int32)) + (1 : Int32)), rv b1, iv ((((0 : Int32) + (1 : Int32)) + (1 : Int32)) + (1 : Int32)), iv (3 : Int32), iv (((0 : Int32) + (1 : Int32)) + (1 : Int32)), iv z] []) t
    refine XS.iinc X6.here hx rfl (hb hby d_cp3_38) rfl (l' := #[rv a1, iv ((((0 : Int32) + (1 : Int32)) + (1 : Int32)) + (1 : Int32)), rv b1, iv ((((0 : Int32) + (1 : Int32)) + (1 : Int32)) + (1 : Int32)), iv (3 : Int32), iv ((((0 : Int32) + (1 : Int32)) + (1 : Int32)) + (1 : Int32)), iv z]) rfl ?_
    show SS p e below T6 (mkF m 41 #[rv a1, iv ((((0 : Int32) + (1 : Int32)) + (1 : Int32)) + (1 : Int32)), rv b1, iv ((((0 : Int32) + (1 : Int32)) + (1 : Int32)) + (1 : Int32)), iv (3 : Int32), iv ((((0 : Int32) + (1 : Int32)) + (1 : Int32)) + (1 : Int32)), iv z] []) t
    refine XS.goto X6.here hx rfl (pc0 := 41) (pc' := 3) rfl (hb hby d_cp3_41) (by decide) (by decide) ?_
    show SS p e below T6 (mkF m 3 #[rv a1, iv ((((0 : Int32) + (1 : Int32)) + (1 : Int32)) + (1 : Int32)), rv b1, iv ((((0 : Int32) + (1 : Int32)) + (1 : Int32)) + (1 : Int32)), iv (3 : Int32), iv ((((0 : Int32) + (1 : Int32)) + (1 : Int32)) + (1 : Int32)), iv z] []) t
    refine XS.iload X6.here hx rfl (hb hby d_cp3_3) rfl ?_
    show SS p e below T6 (mkF m 5 #[rv a1, iv ((((0 : Int32) + (1 : Int32)) + (1 : Int32)) + (1 : Int32)), rv b1, iv ((((0 : Int32) + (1 : Int32)) + (1 : Int32)) + (1 : Int32)), iv (3 : Int32), iv ((((0 : Int32) + (1 : Int32)) + (1 : Int32)) + (1 : Int32)), iv z] [(.int ((((0 : Int32) + (1 : Int32)) + (1 : Int32)) + (1 : Int32)))]) t
    refine XS.iload X6.here hx rfl (hb hby d_cp3_5) rfl ?_
    show SS p e below T6 (mkF m 7 #[rv a1, iv ((((0 : Int32) + (1 : Int32)) + (1 : Int32)) + (1 : Int32)), rv b1, iv ((((0 : Int32) + (1 : Int32)) + (1 : Int32)) + (1 : Int32)), iv (3 : Int32), iv ((((0 : Int32) + (1 : Int32)) + (1 : Int32)) + (1 : Int32)), iv z] [(.int (3 : Int32)), (.int ((((0 : Int32) + (1 : Int32)) + (1 : Int32)) + (1 : Int32)))]) t
    refine XS.icmpYes X6.here hx rfl (pc0 := 7) (pc' := 44) rfl (hb hby d_cp3_7) rfl (XT.ii_ge_t (by decide)) (by decide) (by decide) ?_
    show SS p e below T6 (mkF m 44 #[rv a1, iv ((((0 : Int32) + (1 : Int32)) + (1 : Int32)) + (1 : Int32)), rv b1, iv ((((0 : Int32) + (1 : Int32)) + (1 : Int32)) + (1 : Int32)), iv (3 : Int32), iv ((((0 : Int32) + (1 : Int32)) + (1 : Int32)) + (1 : Int32)), iv z] []) t
    refine XS.iload X6.here hx rfl (hb hby d_cp3_44) rfl ?_
    show SS p e below T6 (mkF m 46 #[rv a1, iv ((((0 : Int32) + (1 : Int32)) + (1 : Int32)) + (1 : Int32)), rv b1, iv ((((0 : Int32) + (1 : Int32)) + (1 : Int32)) + (1 : Int32)), iv (3 : Int32), iv ((((0 : Int32) + (1 : Int32)) + (1 : Int32)) + (1 : Int32)), iv z] [(.int (3 : Int32))]) t
    exact k)
  obtain ⟨fs, hr, hrun, hended, hW, hsame⟩ := X6.leave (v := some (.int (3 : Int32))) (fun h => by rw [Bd.returns] at h; cases h)
  subst hS0
  refine ⟨_, _, pre _ ?_, hrun, hended, _, _, rfl, ?_, ⟨_, rfl⟩, hW, hsame.mono (by decide) (by decide)⟩
  · exact retI X6 hx Bd.returns (hb hby d_cp3_46) hr
  · show Q_cp3 Z a1 b1 x y z f h0 n0 _ T6.heap _
    rw [e6]
    exact ⟨rfl, N6, ((((Keep.refl h0 [b1]).wr W2 (Or.inl (List.mem_of_getElem? (i := 0) rfl))).wr W4 (Or.inl (List.mem_of_getElem? (i := 0) rfl))).wr W6 (Or.inl (List.mem_of_getElem? (i := 0) rfl))), _, F6⟩
def Q_cp1 (Z : State) (a1 : Addr) (x y z : Int32) (h0 : Heap) (n0 : Nat) (v : Option Value) (h : Heap) (L : List Loc) : Prop := ∃ b, v = some (.ref b) ∧ Fr n0 L ∧ Ext h0 h ∧ ∃ g, OFun Z h b .byte 3 g
set_option maxRecDepth 65536 in
set_option maxHeartbeats 40000000 in
theorem rm_cp1 (l : Launch) (Z : State) (a0 : Array Value) (hw : ∀ d ∈ tables_1, d.before a0 Z = true) (ws : List Jvm.Cond) (a1 : Addr) (x y z : Int32) (h0 : Heap) (n0 : Nat) (Z0 : n0 ≤ h0.size) (Fa : OFun Z h0 a1 .char 3 (own_three x y z)) (hx0 : ¬ (255 : Int32) < x) (hy0 : ¬ (255 : Int32) < y) (hz0 : ¬ (255 : Int32) < z) :
    MetFree l (⟨"java/lang/StringUTF16", "compress", "([CII)[B"⟩ : MethodName) (head1 (Jvm.Cond.code (⟨"java/lang/StringUTF16", "compress", "([CII)[B"⟩ : MethodName) jdk_52_method_16_code 6 (some (.array .byte)) :: ws) ({ frames := 1, cells := 1, slots := 3, locals := 18 } : Room)) (fun a U => a = #[(.ref a1), (.int (0 : Int32)), (.int (3 : Int32))] ∧ Z.Warmed39 U.vm ∧ U.heap = h0) (fun _ _ _ _ _ => True) (fun _ U o U' => ∃ v L, o = .returned v ∧ Q_cp1 Z a1 x y z h0 n0 v U'.heap L ∧ FrameEnd U o U' L ({ frames := 1, cells := 1, slots := 3, locals := 18 } : Room).cells ({ frames := 1, cells := 1, slots := 3, locals := 18 } : Room).slots) := by
  refine MetFree.of_bodySF (plainFor_of_name pn_java_lang_StringUTF16) hisR ?_
  intro p e s m args below meth c s₁ Bd hml0 hP hK
  obtain ⟨rfl, hZ, hh⟩ := hP
  have hx := Bd.exec
  have hby := Bd.bytes
  have hml : c.maxLocals = 6 := hml0
  have hown : s.vm.findClass "java/lang/StringUTF16" = some m.cls := findClass_of_methodNamed Bd.named
  have hnm := (name_of_methodNamed Bd.named Bd.method).1
  have X0 : Stand p l e ({ frames := 1, cells := 1, slots := 3, locals := 18 } : Room) s m #[(.ref a1), (.int (0 : Int32)), (.int (3 : Int32))] below meth c s₁ [] 0 0 := Stand.of_body Bd
  have e0 : s₁.heap = h0 := by rw [← hh, Bd.state]; rfl
  have N0 := Fr.nil n0
  obtain ⟨S0, hS0⟩ : ∃ S0, S0 = s₁.setTop (entryFrame m #[(.ref a1), (.int (0 : Int32)), (.int (3 : Int32))] 6) := ⟨_, rfl⟩
  have pre : Pth p e below S0 s₁ (mkF m 0 #[rv a1, iv (0 : Int32), iv (3 : Int32), .unset, .unset, .unset] []) := fun t k => by rw [hS0]; exact castTop (ef_cp1 m a1 (0 : Int32) (3 : Int32)) k
  replace pre : Pth p e below S0 s₁ (mkF m 1 #[rv a1, iv (0 : Int32), iv (3 : Int32), .unset, .unset, .unset] [(.int (3 : Int32))]) := fun t k => pre t (by
    show SS p e below s₁ (mkF m 0 #[rv a1, iv (0 : Int32), iv (3 : Int32), .unset, .unset, .unset] []) t
    refine XS.iloadN X0.here hx rfl (hb hby d_cp1_0) rfl ?_
    show SS p e below s₁ (mkF m 1 #[rv a1, iv (0 : Int32), iv (3 : Int32), .unset, .unset, .unset] [(.int (3 : Int32))]) t
    exact k)
  obtain ⟨T7, h7, k7, X7, e7, E7, A7, st7⟩ := newP X0 hx hZ (own_t hw 19 rfl) e0 (g := (mkF m 1 #[rv a1, iv (0 : Int32), iv (3 : Int32), .unset, .unset, .unset] [(.int (3 : Int32))])) rfl (hb hby d_cp1_1) rfl (by decide) (cap := 3) (by decide) (by decide) (by decide) (by decide)
  obtain ⟨b7, g7⟩ : ∃ z, z = h0.size := ⟨_, rfl⟩
  rw [← g7] at A7 st7
  have F7 := OFun.new A7
  replace pre : Pth p e below S0 T7 (mkF m 3 #[rv a1, iv (0 : Int32), iv (3 : Int32), .unset, .unset, .unset] [(.ref b7)]) := fun t k => pre t (st7 _ k)
  have Fb : OFun Z h7 b7 .byte 3 _ := F7
  have ne : a1 ≠ b7 := by rw [g7]; exact Nat.ne_of_lt Fa.lt
  have gb : n0 ≤ b7 := by rw [g7]; exact Z0
  replace pre : Pth p e below S0 T7 (mkF m 9 #[rv a1, iv (0 : Int32), iv (3 : Int32), rv b7, .unset, .unset] [(.int (3 : Int32)), (.int (0 : Int32)), (.ref b7), (.int (0 : Int32)), (.ref a1)]) := fun t k => pre t (by
    show SS p e below T7 (mkF m 3 #[rv a1, iv (0 : Int32), iv (3 : Int32), .unset, .unset, .unset] [(.ref b7)]) t
    refine XS.astoreN X7.here hx rfl (hb hby d_cp1_3) rfl rfl (l' := #[rv a1, iv (0 : Int32), iv (3 : Int32), rv b7, .unset, .unset]) rfl ?_
    show SS p e below T7 (mkF m 4 #[rv a1, iv (0 : Int32), iv (3 : Int32), rv b7, .unset, .unset] []) t
    refine XS.aloadN X7.here hx rfl (hb hby d_cp1_4) rfl rfl ?_
    show SS p e below T7 (mkF m 5 #[rv a1, iv (0 : Int32), iv (3 : Int32), rv b7, .unset, .unset] [(.ref a1)]) t
    refine XS.iloadN X7.here hx rfl (hb hby d_cp1_5) rfl ?_
    show SS p e below T7 (mkF m 6 #[rv a1, iv (0 : Int32), iv (3 : Int32), rv b7, .unset, .unset] [(.int (0 : Int32)), (.ref a1)]) t
    refine XS.aloadN X7.here hx rfl (hb hby d_cp1_6) rfl rfl ?_
    show SS p e below T7 (mkF m 7 #[rv a1, iv (0 : Int32), iv (3 : Int32), rv b7, .unset, .unset] [(.ref b7), (.int (0 : Int32)), (.ref a1)]) t
    refine XS.iconst X7.here hx rfl (hb hby d_cp1_7) ?_
    show SS p e below T7 (mkF m 8 #[rv a1, iv (0 : Int32), iv (3 : Int32), rv b7, .unset, .unset] [(.int (0 : Int32)), (.ref b7), (.int (0 : Int32)), (.ref a1)]) t
    refine XS.iloadN X7.here hx rfl (hb hby d_cp1_8) rfl ?_
    show SS p e below T7 (mkF m 9 #[rv a1, iv (0 : Int32), iv (3 : Int32), rv b7, .unset, .unset] [(.int (3 : Int32)), (.int (0 : Int32)), (.ref b7), (.int (0 : Int32)), (.ref a1)]) t
    exact k)
  obtain ⟨_, _, ⟨T8, L8, k8, n8⟩, -, X8, ⟨Lc8, hQ8, l8, y8, z8⟩, st8⟩ := Jvm.LawKit.callS X7 hx (y := (⟨"java/lang/StringUTF16", "compress", "([CI[BII)I"⟩ : MethodName)) hown (mvT hZ (own_t hw 20 rfl)) (mvT hZ (own_t hw 21 rfl)) (mvT hZ (own_t hw 17 rfl)) (mvT hZ (own_t hw 22 rfl)) (by decide) (backOf (W := 0) (rm_cp3 l Z a0 hw [] a1 b7 x y z _ h7 n0 gb ne (Fa.ext E7) Fb hx0 hy0 hz0) hZ (own_t hw 22 rfl) (own_t hw 17 rfl) (by decide) (by decide)) (g := (mkF m 9 #[rv a1, iv (0 : Int32), iv (3 : Int32), rv b7, .unset, .unset] [(.int (3 : Int32)), (.int (0 : Int32)), (.ref b7), (.int (0 : Int32)), (.ref a1)])) rfl (by rw [hml]; rfl) (argsL := [(.ref a1), (.int (0 : Int32)), (.ref b7), (.int (0 : Int32)), (.int (3 : Int32))]) (rest := []) (lenOf pd___CI_BII_I rfl) rfl (by show 2 * 0 + _ ≤ _; exact Nat.le_of_eq rfl) (hb hby d_cp1_9) (fun _ _ => ⟨rfl, e7, (by decide : 1 + 0 ≤ _), (by decide : 3 + 0 ≤ _)⟩)
  dsimp only [Pt.U, Pt.locs, Pt.cells, Pt.slots] at X8 l8 y8 z8 st8 hQ8
  subst l8 y8 z8
  obtain ⟨rfl, N8q, K8, O8⟩ := hQ8
  have N8 := Fr.app N0 N8q
  replace pre : Pth p e below S0 T8 (mkF m 12 #[rv a1, iv (0 : Int32), iv (3 : Int32), rv b7, .unset, .unset] [(.int (3 : Int32))]) := fun t k => pre t (st8 _ k)
  replace pre : Pth p e below S0 T8 (mkF m 58 #[rv a1, iv (0 : Int32), iv (3 : Int32), rv b7, iv (3 : Int32), .unset] [(.ref b7)]) := fun t k => pre t (by
    show SS p e below T8 (mkF m 12 #[rv a1, iv (0 : Int32), iv (3 : Int32), rv b7, .unset, .unset] [(.int (3 : Int32))]) t
    refine XS.istore X8.here hx rfl (hb hby d_cp1_12) rfl (l' := #[rv a1, iv (0 : Int32), iv (3 : Int32), rv b7, iv (3 : Int32), .unset]) rfl ?_
    show SS p e below T8 (mkF m 14 #[rv a1, iv (0 : Int32), iv (3 : Int32), rv b7, iv (3 : Int32), .unset] []) t
    refine XS.iload X8.here hx rfl (hb hby d_cp1_14) rfl ?_
    show SS p e below T8 (mkF m 16 #[rv a1, iv (0 : Int32), iv (3 : Int32), rv b7, iv (3 : Int32), .unset] [(.int (3 : Int32))]) t
    refine XS.iloadN X8.here hx rfl (hb hby d_cp1_16) rfl ?_
    show SS p e below T8 (mkF m 17 #[rv a1, iv (0 : Int32), iv (3 : Int32), rv b7, iv (3 : Int32), .unset] [(.int (3 : Int32)), (.int (3 : Int32))]) t
    refine XS.icmpYes X8.here hx rfl (pc0 := 17) (pc' := 57) rfl (hb hby d_cp1_17) rfl (XT.ii_eq_t rfl) (by decide) (by decide) ?_
    show SS p e below T8 (mkF m 57 #[rv a1, iv (0 : Int32), iv (3 : Int32), rv b7, iv (3 : Int32), .unset] []) t
    refine XS.aloadN X8.here hx rfl (hb hby d_cp1_57) rfl rfl ?_
    show SS p e below T8 (mkF m 58 #[rv a1, iv (0 : Int32), iv (3 : Int32), rv b7, iv (3 : Int32), .unset] [(.ref b7)]) t
    exact k)
  obtain ⟨fs, hr, hrun, hended, hW, hsame⟩ := X8.leave (v := some (.ref b7)) (fun h => by rw [Bd.returns] at h; cases h)
  subst hS0
  refine ⟨_, _, pre _ ?_, hrun, hended, _, _, rfl, ?_, ⟨_, rfl⟩, hW, hsame.mono (by decide) (by decide)⟩
  · exact retOut X8 hx (t := (.array .byte)) Bd.returns rfl (by simp [Value.isRef, FieldType.isReference]) (hb hby d_cp1_58) hr
  · show Q_cp1 Z a1 x y z h0 n0 _ T8.heap _
    exact ⟨b7, rfl, N8, own_ext_keep E7 K8 (fun z hz => by rw [List.mem_singleton.mp hz, g7]; exact Nat.le_refl _), O8⟩
def Q_cfa (Z : State) (a1 : Addr) (f : Nat → Value) (h0 : Heap) (n0 : Nat) (v : Option Value) (h : Heap) (L : List Loc) : Prop := v = some (.int 0) ∧ Fr n0 L ∧ h = h0
set_option maxRecDepth 65536 in
set_option maxHeartbeats 40000000 in
theorem rm_cfa (l : Launch) (Z : State) (a0 : Array Value) (hw : ∀ d ∈ tables_1, d.before a0 Z = true) (ws : List Jvm.Cond) (a1 : Addr) (f : Nat → Value) (h0 : Heap) (n0 : Nat) (Fa : OFun Z h0 a1 .byte 3 f) :
    MetFree l (⟨"java/lang/StringUTF16", "coderFromArrayLen", "([BI)B"⟩ : MethodName) (head1 (Jvm.Cond.code (⟨"java/lang/StringUTF16", "coderFromArrayLen", "([BI)B"⟩ : MethodName) jdk_52_method_15_code 2 (some .byte) :: ws) ({ frames := 0, cells := 0, slots := 0, locals := 0 } : Room)) (fun a U => a = #[(.ref a1), (.int (3 : Int32))] ∧ Z.Warmed39 U.vm ∧ U.heap = h0) (fun _ _ _ _ _ => True) (fun _ U o U' => ∃ v L, o = .returned v ∧ Q_cfa Z a1 f h0 n0 v U'.heap L ∧ FrameEnd U o U' L ({ frames := 0, cells := 0, slots := 0, locals := 0 } : Room).cells ({ frames := 0, cells := 0, slots := 0, locals := 0 } : Room).slots) := by
  refine MetFree.of_bodySF (plainFor_of_name pn_java_lang_StringUTF16) hisR ?_
  intro p e s m args below meth c s₁ Bd hml0 hP hK
  obtain ⟨rfl, hZ, hh⟩ := hP
  have hx := Bd.exec
  have hby := Bd.bytes
  have hml : c.maxLocals = 2 := hml0
  have hown : s.vm.findClass "java/lang/StringUTF16" = some m.cls := findClass_of_methodNamed Bd.named
  have hnm := (name_of_methodNamed Bd.named Bd.method).1
  have X0 : Stand p l e ({ frames := 0, cells := 0, slots := 0, locals := 0 } : Room) s m #[(.ref a1), (.int (3 : Int32))] below meth c s₁ [] 0 0 := Stand.of_body Bd
  have e0 : s₁.heap = h0 := by rw [← hh, Bd.state]; rfl
  have N0 := Fr.nil n0
  obtain ⟨S0, hS0⟩ : ∃ S0, S0 = s₁.setTop (entryFrame m #[(.ref a1), (.int (3 : Int32))] 2) := ⟨_, rfl⟩
  have pre : Pth p e below S0 s₁ (mkF m 0 #[rv a1, iv (3 : Int32)] []) := fun t k => by rw [hS0]; exact castTop (ef_cfa m a1 (3 : Int32)) k
  replace pre : Pth p e below S0 s₁ (mkF m 2 #[rv a1, iv (3 : Int32)] [(.ref a1), (.int (3 : Int32))]) := fun t k => pre t (by
    show SS p e below s₁ (mkF m 0 #[rv a1, iv (3 : Int32)] []) t
    refine XS.iloadN X0.here hx rfl (hb hby d_cfa_0) rfl ?_
    show SS p e below s₁ (mkF m 1 #[rv a1, iv (3 : Int32)] [(.int (3 : Int32))]) t
    refine XS.aloadN X0.here hx rfl (hb hby d_cfa_1) rfl rfl ?_
    show SS p e below s₁ (mkF m 2 #[rv a1, iv (3 : Int32)] [(.ref a1), (.int (3 : Int32))]) t
    exact k)
  obtain ⟨cl9, Ar9, Sz9, -⟩ := id Fa
  have hln9 : cl9.slots.size.toInt32 = (3 : Int32) := (congrArg Nat.toInt32 Sz9).trans (rfl)
  replace pre : Pth p e below S0 s₁ (mkF m 8 #[rv a1, iv (3 : Int32)] [(.int (((((3 : Int32) - (3 : Int32)).toUInt32 >>> ((31 : Int32) &&& 31).toUInt32).toInt32).toInt8.toInt32))]) := fun t k => pre t (by
    show SS p e below s₁ (mkF m 2 #[rv a1, iv (3 : Int32)] [(.ref a1), (.int (3 : Int32))]) t
    refine X0.arraylength hx (by rw [e0]; exact Ar9.1) (State.isArrayOf_alike hZ.alike Ar9.2.1) (g := (mkF m 2 #[rv a1, iv (3 : Int32)] [(.ref a1), (.int (3 : Int32))])) rfl rfl (hb hby d_cfa_2) _ ?_
    rw [hln9]
    show SS p e below s₁ (mkF m 3 #[rv a1, iv (3 : Int32)] [(.int (3 : Int32)), (.int (3 : Int32))]) t
    refine XS.isub X0.here hx rfl (hb hby d_cfa_3) rfl ?_
    show SS p e below s₁ (mkF m 4 #[rv a1, iv (3 : Int32)] [(.int ((3 : Int32) - (3 : Int32)))]) t
    refine XS.bipush X0.here hx rfl (hb hby d_cfa_4) ?_
    show SS p e below s₁ (mkF m 6 #[rv a1, iv (3 : Int32)] [(.int (31 : Int32)), (.int ((3 : Int32) - (3 : Int32)))]) t
    refine XS.iushr X0.here hx rfl (hb hby d_cfa_6) rfl ?_
    show SS p e below s₁ (mkF m 7 #[rv a1, iv (3 : Int32)] [(.int ((((3 : Int32) - (3 : Int32)).toUInt32 >>> ((31 : Int32) &&& 31).toUInt32).toInt32))]) t
    refine XS.i2b X0.here hx rfl (hb hby d_cfa_7) rfl ?_
    show SS p e below s₁ (mkF m 8 #[rv a1, iv (3 : Int32)] [(.int (((((3 : Int32) - (3 : Int32)).toUInt32 >>> ((31 : Int32) &&& 31).toUInt32).toInt32).toInt8.toInt32))]) t
    exact k)
  obtain ⟨fs, hr, hrun, hended, hW, hsame⟩ := X0.leave (v := some (.int (nar .byte (((((3 : Int32) - (3 : Int32)).toUInt32 >>> ((31 : Int32) &&& 31).toUInt32).toInt32).toInt8.toInt32)))) (fun h => by rw [Bd.returns] at h; cases h)
  subst hS0
  refine ⟨_, _, pre _ ?_, hrun, hended, _, _, rfl, ?_, ⟨_, rfl⟩, hW, hsame.mono (by decide) (by decide)⟩
  · exact retN X0 hx (t := .byte) Bd.returns (by simp) (hb hby d_cfa_8) hr
  · show Q_cfa Z a1 f h0 n0 _ s₁.heap _
    rw [e0]
    exact ⟨by decide +kernel, N0, rfl⟩
def Q_iv3 (Z : State) (a1 : Addr) (b1 : Addr) (x y z : Int32) (cz : Int32) (h0 : Heap) (n0 : Nat) (v : Option Value) (h : Heap) (L : List Loc) : Prop := v = none ∧ Fr n0 L ∧ Keep h0 h [a1]
set_option maxRecDepth 65536 in
set_option maxHeartbeats 40000000 in
theorem rm_iv3 (l : Launch) (Z : State) (a0 : Array Value) (hw : ∀ d ∈ tables_1, d.before a0 Z = true) (ws : List Jvm.Cond) (a1 : Addr) (b1 : Addr) (x y z : Int32) (cz : Int32) (h0 : Heap) (n0 : Nat) (Z0 : n0 ≤ h0.size) (ga : n0 ≤ a1) (Ea : Exa Z h0 a1 "java/lang/String") (F1 : Fld Z h0 a1 "java/lang/String" "value" "[B" .null) (F2 : Fld Z h0 a1 "java/lang/String" "coder" "B" (.int 0)) (Fa : OFun Z h0 b1 .char 3 (own_three x y z)) (hx0 : ¬ (255 : Int32) < x) (hy0 : ¬ (255 : Int32) < y) (hz0 : ¬ (255 : Int32) < z) (Scs : Sta Z h0 "java/lang/String" "COMPACT_STRINGS" "Z" (.int cz)) (hcz : ¬ cz = 0) :
    MetFree l (⟨"java/lang/String", "<init>", "([CIILjava/lang/Void;)V"⟩ : MethodName) (head1 (Jvm.Cond.code (⟨"java/lang/String", "<init>", "([CIILjava/lang/Void;)V"⟩ : MethodName) jdk_42_method_149_code 6 none :: ws) ({ frames := 2, cells := 1, slots := 3, locals := 35 } : Room)) (fun a U => a = #[(.ref a1), (.ref b1), (.int (0 : Int32)), (.int (3 : Int32)), .null] ∧ Z.Warmed39 U.vm ∧ U.heap = h0) (fun _ _ _ _ _ => True) (fun _ U o U' => ∃ v L, o = .returned v ∧ Q_iv3 Z a1 b1 x y z cz h0 n0 v U'.heap L ∧ FrameEnd U o U' L ({ frames := 2, cells := 1, slots := 3, locals := 35 } : Room).cells ({ frames := 2, cells := 1, slots := 3, locals := 35 } : Room).slots) := by
  refine MetFree.of_bodySF (plainFor_of_name pn_java_lang_String) hisR ?_
  intro p e s m args below meth c s₁ Bd hml0 hP hK
  obtain ⟨rfl, hZ, hh⟩ := hP
  have hx := Bd.exec
  have hby := Bd.bytes
  have hml : c.maxLocals = 6 := hml0
  have hown : s.vm.findClass "java/lang/String" = some m.cls := findClass_of_methodNamed Bd.named
  have hnm := (name_of_methodNamed Bd.named Bd.method).1
  have X0 : Stand p l e ({ frames := 2, cells := 1, slots := 3, locals := 35 } : Room) s m #[(.ref a1), (.ref b1), (.int (0 : Int32)), (.int (3 : Int32)), .null] below meth c s₁ [] 0 0 := Stand.of_body Bd
  have e0 : s₁.heap = h0 := by rw [← hh, Bd.state]; rfl
  have N0 := Fr.nil n0
  obtain ⟨S0, hS0⟩ : ∃ S0, S0 = s₁.setTop (entryFrame m #[(.ref a1), (.ref b1), (.int (0 : Int32)), (.int (3 : Int32)), .null] 6) := ⟨_, rfl⟩
  have pre : Pth p e below S0 s₁ (mkF m 0 #[rv a1, rv b1, iv (0 : Int32), iv (3 : Int32), .val .null, .unset] []) := fun t k => by rw [hS0]; exact castTop (ef_iv3 m a1 b1 (0 : Int32) (3 : Int32)) k
  replace pre : Pth p e below S0 s₁ (mkF m 1 #[rv a1, rv b1, iv (0 : Int32), iv (3 : Int32), .val .null, .unset] [(.ref a1)]) := fun t k => pre t (by
    show SS p e below s₁ (mkF m 0 #[rv a1, rv b1, iv (0 : Int32), iv (3 : Int32), .val .null, .unset] []) t
    refine XS.aloadN X0.here hx rfl (hb hby d_iv3_0) rfl rfl ?_
    show SS p e below s₁ (mkF m 1 #[rv a1, rv b1, iv (0 : Int32), iv (3 : Int32), .val .null, .unset] [(.ref a1)]) t
    exact k)
  obtain ⟨T10, X10, e10, st10⟩ := initO X0 hx hZ hown (own_t hw 11 rfl) (own_t hw 12 rfl) (own_t hw 13 rfl) e0 (g := (mkF m 1 #[rv a1, rv b1, iv (0 : Int32), iv (3 : Int32), .val .null, .unset] [(.ref a1)])) rfl (by rw [hml]; rfl) rfl (hb hby d_iv3_1) (by decide) (W := 0) (by show 2 * 0 + _ ≤ _; exact Nat.le_of_eq rfl) (by decide)
  replace pre : Pth p e below S0 T10 (mkF m 4 #[rv a1, rv b1, iv (0 : Int32), iv (3 : Int32), .val .null, .unset] []) := fun t k => pre t (st10 _ k)
  replace pre : Pth p e below S0 T10 (mkF m 27 #[rv a1, rv b1, iv (0 : Int32), iv (3 : Int32), .val .null, .unset] []) := fun t k => pre t (by
    show SS p e below T10 (mkF m 4 #[rv a1, rv b1, iv (0 : Int32), iv (3 : Int32), .val .null, .unset] []) t
    refine XS.iloadN X10.here hx rfl (hb hby d_iv3_4) rfl ?_
    show SS p e below T10 (mkF m 5 #[rv a1, rv b1, iv (0 : Int32), iv (3 : Int32), .val .null, .unset] [(.int (3 : Int32))]) t
    refine XS.ifYes X10.here hx rfl (pc0 := 5) (pc' := 27) rfl (hb hby d_iv3_5) rfl (XT.i0_ne_t (by decide)) (by decide) (by decide) ?_
    show SS p e below T10 (mkF m 27 #[rv a1, rv b1, iv (0 : Int32), iv (3 : Int32), .val .null, .unset] []) t
    exact k)
  obtain ⟨T11, X11, e11, st11⟩ := getS2 X10 hx hZ hown (host := "") (Or.inl (own_t hw 14 rfl)) Via.refl e10 Scs (g := (mkF m 27 #[rv a1, rv b1, iv (0 : Int32), iv (3 : Int32), .val .null, .unset] [])) rfl (hb hby d_iv3_27)
  replace pre : Pth p e below S0 T11 (mkF m 30 #[rv a1, rv b1, iv (0 : Int32), iv (3 : Int32), .val .null, .unset] [(.int cz)]) := fun t k => pre t (st11 _ k)
  replace pre : Pth p e below S0 T11 (mkF m 36 #[rv a1, rv b1, iv (0 : Int32), iv (3 : Int32), .val .null, .unset] [(.int (3 : Int32)), (.int (0 : Int32)), (.ref b1)]) := fun t k => pre t (by
    show SS p e below T11 (mkF m 30 #[rv a1, rv b1, iv (0 : Int32), iv (3 : Int32), .val .null, .unset] [(.int cz)]) t
    refine XS.ifNo X11.here hx rfl (hb hby d_iv3_30) rfl (XT.i0_eq_f hcz) ?_
    show SS p e below T11 (mkF m 33 #[rv a1, rv b1, iv (0 : Int32), iv (3 : Int32), .val .null, .unset] []) t
    refine XS.aloadN X11.here hx rfl (hb hby d_iv3_33) rfl rfl ?_
    show SS p e below T11 (mkF m 34 #[rv a1, rv b1, iv (0 : Int32), iv (3 : Int32), .val .null, .unset] [(.ref b1)]) t
    refine XS.iloadN X11.here hx rfl (hb hby d_iv3_34) rfl ?_
    show SS p e below T11 (mkF m 35 #[rv a1, rv b1, iv (0 : Int32), iv (3 : Int32), .val .null, .unset] [(.int (0 : Int32)), (.ref b1)]) t
    refine XS.iloadN X11.here hx rfl (hb hby d_iv3_35) rfl ?_
    show SS p e below T11 (mkF m 36 #[rv a1, rv b1, iv (0 : Int32), iv (3 : Int32), .val .null, .unset] [(.int (3 : Int32)), (.int (0 : Int32)), (.ref b1)]) t
    exact k)
  obtain ⟨_, _, ⟨T12, L12, k12, n12⟩, -, X12, ⟨Lc12, hQ12, l12, y12, z12⟩, st12⟩ := Jvm.LawKit.callS X11 hx (y := (⟨"java/lang/StringUTF16", "compress", "([CII)[B"⟩ : MethodName)) hown (mvT hZ (own_t hw 15 rfl)) (mvT hZ (own_t hw 16 rfl)) (mvT hZ (own_t hw 17 rfl)) (mvT hZ (own_t hw 18 rfl)) (by decide) (backOf (W := 0) (rm_cp1 l Z a0 hw [] b1 x y z h0 n0 Z0 Fa hx0 hy0 hz0) hZ (own_t hw 18 rfl) (own_t hw 17 rfl) (by decide) (by decide)) (g := (mkF m 36 #[rv a1, rv b1, iv (0 : Int32), iv (3 : Int32), .val .null, .unset] [(.int (3 : Int32)), (.int (0 : Int32)), (.ref b1)])) rfl (by rw [hml]; rfl) (argsL := [(.ref b1), (.int (0 : Int32)), (.int (3 : Int32))]) (rest := []) (lenOf pd___CII__B rfl) rfl (by show 2 * 0 + _ ≤ _; exact Nat.le_of_eq rfl) (hb hby d_iv3_36) (fun _ _ => ⟨rfl, e11, (by decide : 0 + 1 ≤ _), (by decide : 0 + 3 ≤ _)⟩)
  dsimp only [Pt.U, Pt.locs, Pt.cells, Pt.slots] at X12 l12 y12 z12 st12 hQ12
  subst l12 y12 z12
  obtain ⟨bb, rfl, N12q, E12, gg, O12⟩ := hQ12
  have N12 := Fr.app N0 N12q
  replace pre : Pth p e below S0 T12 (mkF m 39 #[rv a1, rv b1, iv (0 : Int32), iv (3 : Int32), .val .null, .unset] [(.ref bb)]) := fun t k => pre t (st12 _ k)
  replace pre : Pth p e below S0 T12 (mkF m 45 #[rv a1, rv b1, iv (0 : Int32), iv (3 : Int32), .val .null, rv bb] [(.int (3 : Int32)), (.ref bb), (.ref a1)]) := fun t k => pre t (by
    show SS p e below T12 (mkF m 39 #[rv a1, rv b1, iv (0 : Int32), iv (3 : Int32), .val .null, .unset] [(.ref bb)]) t
    refine XS.astore X12.here hx rfl (hb hby d_iv3_39) rfl rfl (l' := #[rv a1, rv b1, iv (0 : Int32), iv (3 : Int32), .val .null, rv bb]) rfl ?_
    show SS p e below T12 (mkF m 41 #[rv a1, rv b1, iv (0 : Int32), iv (3 : Int32), .val .null, rv bb] []) t
    refine XS.aloadN X12.here hx rfl (hb hby d_iv3_41) rfl rfl ?_
    show SS p e below T12 (mkF m 42 #[rv a1, rv b1, iv (0 : Int32), iv (3 : Int32), .val .null, rv bb] [(.ref a1)]) t
    refine XS.aload X12.here hx rfl (hb hby d_iv3_42) rfl rfl ?_
    show SS p e below T12 (mkF m 44 #[rv a1, rv b1, iv (0 : Int32), iv (3 : Int32), .val .null, rv bb] [(.ref bb), (.ref a1)]) t
    refine XS.iloadN X12.here hx rfl (hb hby d_iv3_44) rfl ?_
    show SS p e below T12 (mkF m 45 #[rv a1, rv b1, iv (0 : Int32), iv (3 : Int32), .val .null, rv bb] [(.int (3 : Int32)), (.ref bb), (.ref a1)]) t
    exact k)
  obtain ⟨_, _, ⟨T13, L13, k13, n13⟩, -, X13, ⟨Lc13, hQ13, l13, y13, z13⟩, st13⟩ := Jvm.LawKit.callS X12 hx (y := (⟨"java/lang/StringUTF16", "coderFromArrayLen", "([BI)B"⟩ : MethodName)) hown (mvT hZ (own_t hw 23 rfl)) (mvT hZ (own_t hw 24 rfl)) (mvT hZ (own_t hw 17 rfl)) (mvT hZ (own_t hw 25 rfl)) (by decide) (backOf (W := 1) (rm_cfa l Z a0 hw [] bb _ T12.heap n0 O12) hZ (own_t hw 25 rfl) (own_t hw 17 rfl) (by decide) (by decide)) (g := (mkF m 45 #[rv a1, rv b1, iv (0 : Int32), iv (3 : Int32), .val .null, rv bb] [(.int (3 : Int32)), (.ref bb), (.ref a1)])) rfl (by rw [hml]; rfl) (argsL := [(.ref bb), (.int (3 : Int32))]) (rest := [(.ref a1)]) (lenOf pd___BI_B rfl) rfl (by show 2 * 0 + _ ≤ _; exact Nat.le_of_eq rfl) (hb hby d_iv3_45) (fun _ _ => ⟨rfl, rfl, (by decide : 1 + 0 ≤ _), (by decide : 3 + 0 ≤ _)⟩)
  dsimp only [Pt.U, Pt.locs, Pt.cells, Pt.slots] at X13 l13 y13 z13 st13 hQ13
  subst l13 y13 z13
  obtain ⟨rfl, N13q, e13⟩ := hQ13
  have N13 := Fr.app N12 N13q
  replace pre : Pth p e below S0 T13 (mkF m 48 #[rv a1, rv b1, iv (0 : Int32), iv (3 : Int32), .val .null, rv bb] [(.int (0 : Int32)), (.ref a1)]) := fun t k => pre t (st13 _ k)
  obtain ⟨T14, h14, X14, e14, W14, st14⟩ := putFN X13 hx hZ hown (own_t hw 26 rfl) Via.refl e13 (F2.ext E12) (Ea.ext E12) (Or.inr ⟨(own_t hw 27 rfl), rfl, hnm⟩) (own_t hw 1 rfl) (ty := .byte) (v' := (.int (0 : Int32))) (by decide) rfl rfl (g := (mkF m 48 #[rv a1, rv b1, iv (0 : Int32), iv (3 : Int32), .val .null, rv bb] [(.int (0 : Int32)), (.ref a1)])) rfl rfl (hb hby d_iv3_48)
  have N14 := Fr.snoc X14 N13 ga
  replace pre : Pth p e below S0 T14 (mkF m 51 #[rv a1, rv b1, iv (0 : Int32), iv (3 : Int32), .val .null, rv bb] []) := fun t k => pre t (st14 _ k)
  have F1b := (F1.ext E12).other W14 (Or.inr (slot_ne (Or.inr (own_t hw 29 rfl)) (Or.inr (own_t hw 27 rfl)) (by decide) (t := (.array .byte)) (t' := .byte) (by decide) (by decide)))
  have Eb := (Ea.ext E12).wr W14
  replace pre : Pth p e below S0 T14 (mkF m 54 #[rv a1, rv b1, iv (0 : Int32), iv (3 : Int32), .val .null, rv bb] [(.ref bb), (.ref a1)]) := fun t k => pre t (by
    show SS p e below T14 (mkF m 51 #[rv a1, rv b1, iv (0 : Int32), iv (3 : Int32), .val .null, rv bb] []) t
    refine XS.aloadN X14.here hx rfl (hb hby d_iv3_51) rfl rfl ?_
    show SS p e below T14 (mkF m 52 #[rv a1, rv b1, iv (0 : Int32), iv (3 : Int32), .val .null, rv bb] [(.ref a1)]) t
    refine XS.aload X14.here hx rfl (hb hby d_iv3_52) rfl rfl ?_
    show SS p e below T14 (mkF m 54 #[rv a1, rv b1, iv (0 : Int32), iv (3 : Int32), .val .null, rv bb] [(.ref bb), (.ref a1)]) t
    exact k)
  obtain ⟨T15, h15, X15, e15, W15, st15⟩ := putF X14 hx hZ hown (host := "") (Or.inl (own_t hw 28 rfl)) Via.refl e14 F1b Eb (Or.inr ⟨(own_t hw 29 rfl), rfl, hnm⟩) (own_t hw 1 rfl) (ty := (.array .byte)) (by decide) rfl rfl (g := (mkF m 54 #[rv a1, rv b1, iv (0 : Int32), iv (3 : Int32), .val .null, rv bb] [(.ref bb), (.ref a1)])) rfl rfl (hb hby d_iv3_54)
  have N15 := Fr.snoc X15 N14 ga
  replace pre : Pth p e below S0 T15 (mkF m 57 #[rv a1, rv b1, iv (0 : Int32), iv (3 : Int32), .val .null, rv bb] []) := fun t k => pre t (st15 _ k)
  obtain ⟨fs, hr, hrun, hended, hW, hsame⟩ := X15.leave (v := none) (fun _ => rfl)
  subst hS0
  refine ⟨_, _, pre _ ?_, hrun, hended, _, _, rfl, ?_, ⟨_, rfl⟩, hW, hsame.mono (by decide) (by decide)⟩
  · exact X15.returnOut hx Bd.returns (hb hby d_iv3_57) hr
  · show Q_iv3 Z a1 b1 x y z cz h0 n0 _ T15.heap _
    rw [e15]
    exact ⟨rfl, N15, ((own_keep_ext E12 [a1]).wr W14 (Or.inl (List.mem_of_getElem? (i := 0) rfl))).wr W15 (Or.inl (List.mem_of_getElem? (i := 0) rfl))⟩
def Q_ic3 (Z : State) (a1 : Addr) (b1 : Addr) (x y z : Int32) (cz : Int32) (h0 : Heap) (n0 : Nat) (v : Option Value) (h : Heap) (L : List Loc) : Prop := v = none ∧ Fr n0 L ∧ Keep h0 h [a1]
set_option maxRecDepth 65536 in
set_option maxHeartbeats 40000000 in
theorem rm_ic3 (l : Launch) (Z : State) (a0 : Array Value) (hw : ∀ d ∈ tables_1, d.before a0 Z = true) (ws : List Jvm.Cond) (a1 : Addr) (b1 : Addr) (x y z : Int32) (cz : Int32) (h0 : Heap) (n0 : Nat) (Z0 : n0 ≤ h0.size) (ga : n0 ≤ a1) (Ea : Exa Z h0 a1 "java/lang/String") (F1 : Fld Z h0 a1 "java/lang/String" "value" "[B" .null) (F2 : Fld Z h0 a1 "java/lang/String" "coder" "B" (.int 0)) (Fa : OFun Z h0 b1 .char 3 (own_three x y z)) (hx0 : ¬ (255 : Int32) < x) (hy0 : ¬ (255 : Int32) < y) (hz0 : ¬ (255 : Int32) < z) (Scs : Sta Z h0 "java/lang/String" "COMPACT_STRINGS" "Z" (.int cz)) (hcz : ¬ cz = 0) :
    MetFree l (⟨"java/lang/String", "<init>", "([C)V"⟩ : MethodName) (head1 (Jvm.Cond.code (⟨"java/lang/String", "<init>", "([C)V"⟩ : MethodName) jdk_42_method_3_code 2 none :: ws) ({ frames := 3, cells := 1, slots := 3, locals := 52 } : Room)) (fun a U => a = #[(.ref a1), (.ref b1)] ∧ Z.Warmed39 U.vm ∧ U.heap = h0) (fun _ _ _ _ _ => True) (fun _ U o U' => ∃ v L, o = .returned v ∧ Q_ic3 Z a1 b1 x y z cz h0 n0 v U'.heap L ∧ FrameEnd U o U' L ({ frames := 3, cells := 1, slots := 3, locals := 52 } : Room).cells ({ frames := 3, cells := 1, slots := 3, locals := 52 } : Room).slots) := by
  refine MetFree.of_bodySF (plainFor_of_name pn_java_lang_String) hisR ?_
  intro p e s m args below meth c s₁ Bd hml0 hP hK
  obtain ⟨rfl, hZ, hh⟩ := hP
  have hx := Bd.exec
  have hby := Bd.bytes
  have hml : c.maxLocals = 2 := hml0
  have hown : s.vm.findClass "java/lang/String" = some m.cls := findClass_of_methodNamed Bd.named
  have hnm := (name_of_methodNamed Bd.named Bd.method).1
  have X0 : Stand p l e ({ frames := 3, cells := 1, slots := 3, locals := 52 } : Room) s m #[(.ref a1), (.ref b1)] below meth c s₁ [] 0 0 := Stand.of_body Bd
  have e0 : s₁.heap = h0 := by rw [← hh, Bd.state]; rfl
  have N0 := Fr.nil n0
  obtain ⟨S0, hS0⟩ : ∃ S0, S0 = s₁.setTop (entryFrame m #[(.ref a1), (.ref b1)] 2) := ⟨_, rfl⟩
  have pre : Pth p e below S0 s₁ (mkF m 0 #[rv a1, rv b1] []) := fun t k => by rw [hS0]; exact castTop (ef_ic3 m a1 b1) k
  replace pre : Pth p e below S0 s₁ (mkF m 4 #[rv a1, rv b1] [(.ref b1), (.int (0 : Int32)), (.ref b1), (.ref a1)]) := fun t k => pre t (by
    show SS p e below s₁ (mkF m 0 #[rv a1, rv b1] []) t
    refine XS.aloadN X0.here hx rfl (hb hby d_ic3_0) rfl rfl ?_
    show SS p e below s₁ (mkF m 1 #[rv a1, rv b1] [(.ref a1)]) t
    refine XS.aloadN X0.here hx rfl (hb hby d_ic3_1) rfl rfl ?_
    show SS p e below s₁ (mkF m 2 #[rv a1, rv b1] [(.ref b1), (.ref a1)]) t
    refine XS.iconst X0.here hx rfl (hb hby d_ic3_2) ?_
    show SS p e below s₁ (mkF m 3 #[rv a1, rv b1] [(.int (0 : Int32)), (.ref b1), (.ref a1)]) t
    refine XS.aloadN X0.here hx rfl (hb hby d_ic3_3) rfl rfl ?_
    show SS p e below s₁ (mkF m 4 #[rv a1, rv b1] [(.ref b1), (.int (0 : Int32)), (.ref b1), (.ref a1)]) t
    exact k)
  obtain ⟨cl16, Ar16, Sz16, -⟩ := id Fa
  have hln16 : cl16.slots.size.toInt32 = (3 : Int32) := (congrArg Nat.toInt32 Sz16).trans (rfl)
  replace pre : Pth p e below S0 s₁ (mkF m 6 #[rv a1, rv b1] [.null, (.int (3 : Int32)), (.int (0 : Int32)), (.ref b1), (.ref a1)]) := fun t k => pre t (by
    show SS p e below s₁ (mkF m 4 #[rv a1, rv b1] [(.ref b1), (.int (0 : Int32)), (.ref b1), (.ref a1)]) t
    refine X0.arraylength hx (by rw [e0]; exact Ar16.1) (State.isArrayOf_alike hZ.alike Ar16.2.1) (g := (mkF m 4 #[rv a1, rv b1] [(.ref b1), (.int (0 : Int32)), (.ref b1), (.ref a1)])) rfl rfl (hb hby d_ic3_4) _ ?_
    rw [hln16]
    show SS p e below s₁ (mkF m 5 #[rv a1, rv b1] [(.int (3 : Int32)), (.int (0 : Int32)), (.ref b1), (.ref a1)]) t
    refine XS.aconstNull X0.here hx rfl (hb hby d_ic3_5) ?_
    show SS p e below s₁ (mkF m 6 #[rv a1, rv b1] [.null, (.int (3 : Int32)), (.int (0 : Int32)), (.ref b1), (.ref a1)]) t
    exact k)
  obtain ⟨_, _, ⟨T17, L17, k17, n17⟩, -, X17, ⟨Lc17, hQ17, l17, y17, z17⟩, st17⟩ := X0.specialBack hx (y := (⟨"java/lang/String", "<init>", "([CIILjava/lang/Void;)V"⟩ : MethodName)) rfl hown (mvT hZ (own_t hw 7 rfl)) (mvT hZ (own_t hw 8 rfl)) (mvT hZ (own_t hw 10 rfl)) (by decide) (backOf (W := 0) (rm_iv3 l Z a0 hw [] a1 b1 x y z cz h0 n0 Z0 ga Ea F1 F2 Fa hx0 hy0 hz0 Scs hcz) hZ (own_t hw 10 rfl) (own_t hw 2 rfl) (by decide) (by decide)) (g := (mkF m 6 #[rv a1, rv b1] [.null, (.int (3 : Int32)), (.int (0 : Int32)), (.ref b1), (.ref a1)])) rfl (by rw [hml]; rfl) (Steps.refl _) (a := a1) (argsL := [(.ref b1), (.int (0 : Int32)), (.int (3 : Int32)), .null]) (rest := []) (lenOf pd___CIILjava_lang_Void__V rfl) rfl (by show 2 * 0 + _ ≤ _; exact Nat.le_of_eq rfl) (hb hby d_ic3_6) (fun _ _ => ⟨rfl, e0, (by decide : 0 + 1 ≤ _), (by decide : 0 + 3 ≤ _)⟩)
  dsimp only [Pt.U, Pt.locs, Pt.cells, Pt.slots] at X17 l17 y17 z17 st17 hQ17
  subst l17 y17 z17
  obtain ⟨rfl, N17q, K17⟩ := hQ17
  have N17 := Fr.app N0 N17q
  replace pre : Pth p e below S0 T17 (mkF m 9 #[rv a1, rv b1] []) := fun t k => pre t (st17.trans k)
  obtain ⟨fs, hr, hrun, hended, hW, hsame⟩ := X17.leave (v := none) (fun _ => rfl)
  subst hS0
  refine ⟨_, _, pre _ ?_, hrun, hended, _, _, rfl, ?_, ⟨_, rfl⟩, hW, hsame.mono (by decide) (by decide)⟩
  · exact X17.returnOut hx Bd.returns (hb hby d_ic3_9) hr
  · show Q_ic3 Z a1 b1 x y z cz h0 n0 _ T17.heap _
    exact ⟨rfl, N17, K17⟩
def Q_ib (Z : State) (a1 : Addr) (b1 : Addr) (h0 : Heap) (n0 : Nat) (v : Option Value) (h : Heap) (L : List Loc) : Prop := v = none ∧ Fr n0 L ∧ Keep h0 h [a1]
set_option maxRecDepth 65536 in
set_option maxHeartbeats 40000000 in
theorem rm_ib (l : Launch) (Z : State) (a0 : Array Value) (hw : ∀ d ∈ tables_1, d.before a0 Z = true) (ws : List Jvm.Cond) (a1 : Addr) (b1 : Addr) (h0 : Heap) (n0 : Nat) (ga : n0 ≤ a1) (Ea : Exa Z h0 a1 "java/lang/String") (F1 : Fld Z h0 a1 "java/lang/String" "value" "[B" .null) (F2 : Fld Z h0 a1 "java/lang/String" "coder" "B" (.int 0)) :
    MetFree l (⟨"java/lang/String", "<init>", "([BB)V"⟩ : MethodName) (head1 (Jvm.Cond.code (⟨"java/lang/String", "<init>", "([BB)V"⟩ : MethodName) jdk_42_method_151_code 3 none :: ws) ({ frames := 1, cells := 0, slots := 0, locals := 12 } : Room)) (fun a U => a = #[(.ref a1), (.ref b1), (.int (0 : Int32))] ∧ Z.Warmed39 U.vm ∧ U.heap = h0) (fun _ _ _ _ _ => True) (fun _ U o U' => ∃ v L, o = .returned v ∧ Q_ib Z a1 b1 h0 n0 v U'.heap L ∧ FrameEnd U o U' L ({ frames := 1, cells := 0, slots := 0, locals := 12 } : Room).cells ({ frames := 1, cells := 0, slots := 0, locals := 12 } : Room).slots) := by
  refine MetFree.of_bodySF (plainFor_of_name pn_java_lang_String) hisR ?_
  intro p e s m args below meth c s₁ Bd hml0 hP hK
  obtain ⟨rfl, hZ, hh⟩ := hP
  have hx := Bd.exec
  have hby := Bd.bytes
  have hml : c.maxLocals = 3 := hml0
  have hown : s.vm.findClass "java/lang/String" = some m.cls := findClass_of_methodNamed Bd.named
  have hnm := (name_of_methodNamed Bd.named Bd.method).1
  have X0 : Stand p l e ({ frames := 1, cells := 0, slots := 0, locals := 12 } : Room) s m #[(.ref a1), (.ref b1), (.int (0 : Int32))] below meth c s₁ [] 0 0 := Stand.of_body Bd
  have e0 : s₁.heap = h0 := by rw [← hh, Bd.state]; rfl
  have N0 := Fr.nil n0
  obtain ⟨S0, hS0⟩ : ∃ S0, S0 = s₁.setTop (entryFrame m #[(.ref a1), (.ref b1), (.int (0 : Int32))] 3) := ⟨_, rfl⟩
  have pre : Pth p e below S0 s₁ (mkF m 0 #[rv a1, rv b1, iv (0 : Int32)] []) := fun t k => by rw [hS0]; exact castTop (ef_ib m a1 b1 (0 : Int32)) k
  replace pre : Pth p e below S0 s₁ (mkF m 1 #[rv a1, rv b1, iv (0 : Int32)] [(.ref a1)]) := fun t k => pre t (by
    show SS p e below s₁ (mkF m 0 #[rv a1, rv b1, iv (0 : Int32)] []) t
    refine XS.aloadN X0.here hx rfl (hb hby d_ib_0) rfl rfl ?_
    show SS p e below s₁ (mkF m 1 #[rv a1, rv b1, iv (0 : Int32)] [(.ref a1)]) t
    exact k)
  obtain ⟨T18, X18, e18, st18⟩ := initO X0 hx hZ hown (own_t hw 11 rfl) (own_t hw 12 rfl) (own_t hw 13 rfl) e0 (g := (mkF m 1 #[rv a1, rv b1, iv (0 : Int32)] [(.ref a1)])) rfl (by rw [hml]; rfl) rfl (hb hby d_ib_1) (by decide) (W := 0) (by show 2 * 0 + _ ≤ _; exact Nat.le_of_eq rfl) (by decide)
  replace pre : Pth p e below S0 T18 (mkF m 4 #[rv a1, rv b1, iv (0 : Int32)] []) := fun t k => pre t (st18 _ k)
  replace pre : Pth p e below S0 T18 (mkF m 6 #[rv a1, rv b1, iv (0 : Int32)] [(.ref b1), (.ref a1)]) := fun t k => pre t (by
    show SS p e below T18 (mkF m 4 #[rv a1, rv b1, iv (0 : Int32)] []) t
    refine XS.aloadN X18.here hx rfl (hb hby d_ib_4) rfl rfl ?_
    show SS p e below T18 (mkF m 5 #[rv a1, rv b1, iv (0 : Int32)] [(.ref a1)]) t
    refine XS.aloadN X18.here hx rfl (hb hby d_ib_5) rfl rfl ?_
    show SS p e below T18 (mkF m 6 #[rv a1, rv b1, iv (0 : Int32)] [(.ref b1), (.ref a1)]) t
    exact k)
  obtain ⟨T19, h19, X19, e19, W19, st19⟩ := putF X18 hx hZ hown (host := "") (Or.inl (own_t hw 28 rfl)) Via.refl e18 F1 Ea (Or.inr ⟨(own_t hw 29 rfl), rfl, hnm⟩) (own_t hw 1 rfl) (ty := (.array .byte)) (by decide) rfl rfl (g := (mkF m 6 #[rv a1, rv b1, iv (0 : Int32)] [(.ref b1), (.ref a1)])) rfl rfl (hb hby d_ib_6)
  have N19 := Fr.snoc X19 N0 ga
  replace pre : Pth p e below S0 T19 (mkF m 9 #[rv a1, rv b1, iv (0 : Int32)] []) := fun t k => pre t (st19 _ k)
  have F2b := F2.other W19 (Or.inr (slot_ne (Or.inr (own_t hw 27 rfl)) (Or.inr (own_t hw 29 rfl)) (by decide) (t := .byte) (t' := (.array .byte)) (by decide) (by decide)))
  have Eb := Ea.wr W19
  replace pre : Pth p e below S0 T19 (mkF m 11 #[rv a1, rv b1, iv (0 : Int32)] [(.int (0 : Int32)), (.ref a1)]) := fun t k => pre t (by
    show SS p e below T19 (mkF m 9 #[rv a1, rv b1, iv (0 : Int32)] []) t
    refine XS.aloadN X19.here hx rfl (hb hby d_ib_9) rfl rfl ?_
    show SS p e below T19 (mkF m 10 #[rv a1, rv b1, iv (0 : Int32)] [(.ref a1)]) t
    refine XS.iloadN X19.here hx rfl (hb hby d_ib_10) rfl ?_
    show SS p e below T19 (mkF m 11 #[rv a1, rv b1, iv (0 : Int32)] [(.int (0 : Int32)), (.ref a1)]) t
    exact k)
  obtain ⟨T20, h20, X20, e20, W20, st20⟩ := putFN X19 hx hZ hown (own_t hw 26 rfl) Via.refl e19 F2b Eb (Or.inr ⟨(own_t hw 27 rfl), rfl, hnm⟩) (own_t hw 1 rfl) (ty := .byte) (v' := (.int (0 : Int32))) (by decide) rfl rfl (g := (mkF m 11 #[rv a1, rv b1, iv (0 : Int32)] [(.int (0 : Int32)), (.ref a1)])) rfl rfl (hb hby d_ib_11)
  have N20 := Fr.snoc X20 N19 ga
  replace pre : Pth p e below S0 T20 (mkF m 14 #[rv a1, rv b1, iv (0 : Int32)] []) := fun t k => pre t (st20 _ k)
  obtain ⟨fs, hr, hrun, hended, hW, hsame⟩ := X20.leave (v := none) (fun _ => rfl)
  subst hS0
  refine ⟨_, _, pre _ ?_, hrun, hended, _, _, rfl, ?_, ⟨_, rfl⟩, hW, hsame.mono (by decide) (by decide)⟩
  · exact X20.returnOut hx Bd.returns (hb hby d_ib_14) hr
  · show Q_ib Z a1 b1 h0 n0 _ T20.heap _
    rw [e20]
    exact ⟨rfl, N20, ((Keep.refl h0 [a1]).wr W19 (Or.inl (List.mem_of_getElem? (i := 0) rfl))).wr W20 (Or.inl (List.mem_of_getElem? (i := 0) rfl))⟩
def Q_cen (Z : State) (x : Int32) (h0 : Heap) (n0 : Nat) (v : Option Value) (h : Heap) (L : List Loc) : Prop := v = some (.int 1) ∧ Fr n0 L ∧ h = h0
set_option maxRecDepth 65536 in
set_option maxHeartbeats 40000000 in
theorem rm_cen (l : Launch) (Z : State) (a0 : Array Value) (hw : ∀ d ∈ tables_1, d.before a0 Z = true) (ws : List Jvm.Cond) (x : Int32) (h0 : Heap) (n0 : Nat) (hx0 : ¬ (255 : Int32) < x) :
    MetFree l (⟨"java/lang/StringLatin1", "canEncode", "(C)Z"⟩ : MethodName) (head1 (Jvm.Cond.code (⟨"java/lang/StringLatin1", "canEncode", "(C)Z"⟩ : MethodName) jdk_43_method_3_code 1 (some .boolean) :: ws) ({ frames := 0, cells := 0, slots := 0, locals := 0 } : Room)) (fun a U => a = #[(.int x)] ∧ Z.Warmed39 U.vm ∧ U.heap = h0) (fun _ _ _ _ _ => True) (fun _ U o U' => ∃ v L, o = .returned v ∧ Q_cen Z x h0 n0 v U'.heap L ∧ FrameEnd U o U' L ({ frames := 0, cells := 0, slots := 0, locals := 0 } : Room).cells ({ frames := 0, cells := 0, slots := 0, locals := 0 } : Room).slots) := by
  refine MetFree.of_bodySF (plainFor_of_name pn_java_lang_StringLatin1) hisR ?_
  intro p e s m args below meth c s₁ Bd hml0 hP hK
  obtain ⟨rfl, hZ, hh⟩ := hP
  have hx := Bd.exec
  have hby := Bd.bytes
  have hml : c.maxLocals = 1 := hml0
  have hown : s.vm.findClass "java/lang/StringLatin1" = some m.cls := findClass_of_methodNamed Bd.named
  have hnm := (name_of_methodNamed Bd.named Bd.method).1
  have X0 : Stand p l e ({ frames := 0, cells := 0, slots := 0, locals := 0 } : Room) s m #[(.int x)] below meth c s₁ [] 0 0 := Stand.of_body Bd
  have e0 : s₁.heap = h0 := by rw [← hh, Bd.state]; rfl
  have N0 := Fr.nil n0
  obtain ⟨S0, hS0⟩ : ∃ S0, S0 = s₁.setTop (entryFrame m #[(.int x)] 1) := ⟨_, rfl⟩
  have pre : Pth p e below S0 s₁ (mkF m 0 #[iv x] []) := fun t k => by rw [hS0]; exact castTop (ef_cen m x) k
  replace pre : Pth p e below S0 s₁ (mkF m 12 #[iv x] [(.int (1 : Int32))]) := fun t k => pre t (by
    show SS p e below s₁ (mkF m 0 #[iv x] []) t
    refine XS.iloadN X0.here hx rfl (hb hby d_cen_0) rfl ?_
    show SS p e below s₁ (mkF m 1 #[iv x] [(.int x)]) t
    refine XS.sipush X0.here hx rfl (hb hby d_cen_1) ?_
    show SS p e below s₁ (mkF m 4 #[iv x] [(.int (255 : Int32)), (.int x)]) t
    refine XS.icmpNo X0.here hx rfl (hb hby d_cen_4) rfl (XT.ii_gt_f hx0) ?_
    show SS p e below s₁ (mkF m 7 #[iv x] []) t
    refine XS.iconst X0.here hx rfl (hb hby d_cen_7) ?_
    show SS p e below s₁ (mkF m 8 #[iv x] [(.int (1 : Int32))]) t
    refine XS.goto X0.here hx rfl (pc0 := 8) (pc' := 12) rfl (hb hby d_cen_8) (by decide) (by decide) ?_
    show SS p e below s₁ (mkF m 12 #[iv x] [(.int (1 : Int32))]) t
    exact k)
  obtain ⟨fs, hr, hrun, hended, hW, hsame⟩ := X0.leave (v := some (.int (1 : Int32))) (fun h => by rw [Bd.returns] at h; cases h)
  subst hS0
  refine ⟨_, _, pre _ ?_, hrun, hended, _, _, rfl, ?_, ⟨_, rfl⟩, hW, hsame.mono (by decide) (by decide)⟩
  · exact retN X0 hx (t := .boolean) Bd.returns (by simp) (hb hby d_cen_12) hr
  · show Q_cen Z x h0 n0 _ s₁.heap _
    rw [e0]
    exact ⟨rfl, N0, rfl⟩
def Q_tob (Z : State) (x : Int32) (h0 : Heap) (n0 : Nat) (v : Option Value) (h : Heap) (L : List Loc) : Prop := ∃ b, v = some (.ref b) ∧ Fr n0 L ∧ Ext h0 h
set_option maxRecDepth 65536 in
set_option maxHeartbeats 40000000 in
theorem rm_tob (l : Launch) (Z : State) (a0 : Array Value) (hw : ∀ d ∈ tables_1, d.before a0 Z = true) (ws : List Jvm.Cond) (x : Int32) (h0 : Heap) (n0 : Nat) (Z0 : n0 ≤ h0.size)  :
    MetFree l (⟨"java/lang/StringLatin1", "toBytes", "(C)[B"⟩ : MethodName) (head1 (Jvm.Cond.code (⟨"java/lang/StringLatin1", "toBytes", "(C)[B"⟩ : MethodName) jdk_43_method_46_code 1 (some (.array .byte)) :: ws) ({ frames := 0, cells := 1, slots := 1, locals := 0 } : Room)) (fun a U => a = #[(.int x)] ∧ Z.Warmed39 U.vm ∧ U.heap = h0) (fun _ _ _ _ _ => True) (fun _ U o U' => ∃ v L, o = .returned v ∧ Q_tob Z x h0 n0 v U'.heap L ∧ FrameEnd U o U' L ({ frames := 0, cells := 1, slots := 1, locals := 0 } : Room).cells ({ frames := 0, cells := 1, slots := 1, locals := 0 } : Room).slots) := by
  refine MetFree.of_bodySF (plainFor_of_name pn_java_lang_StringLatin1) hisR ?_
  intro p e s m args below meth c s₁ Bd hml0 hP hK
  obtain ⟨rfl, hZ, hh⟩ := hP
  have hx := Bd.exec
  have hby := Bd.bytes
  have hml : c.maxLocals = 1 := hml0
  have hown : s.vm.findClass "java/lang/StringLatin1" = some m.cls := findClass_of_methodNamed Bd.named
  have hnm := (name_of_methodNamed Bd.named Bd.method).1
  have X0 : Stand p l e ({ frames := 0, cells := 1, slots := 1, locals := 0 } : Room) s m #[(.int x)] below meth c s₁ [] 0 0 := Stand.of_body Bd
  have e0 : s₁.heap = h0 := by rw [← hh, Bd.state]; rfl
  have N0 := Fr.nil n0
  obtain ⟨S0, hS0⟩ : ∃ S0, S0 = s₁.setTop (entryFrame m #[(.int x)] 1) := ⟨_, rfl⟩
  have pre : Pth p e below S0 s₁ (mkF m 0 #[iv x] []) := fun t k => by rw [hS0]; exact castTop (ef_tob m x) k
  replace pre : Pth p e below S0 s₁ (mkF m 1 #[iv x] [(.int (1 : Int32))]) := fun t k => pre t (by
    show SS p e below s₁ (mkF m 0 #[iv x] []) t
    refine XS.iconst X0.here hx rfl (hb hby d_tob_0) ?_
    show SS p e below s₁ (mkF m 1 #[iv x] [(.int (1 : Int32))]) t
    exact k)
  obtain ⟨T21, h21, k21, X21, e21, E21, A21, st21⟩ := newP X0 hx hZ (own_t hw 19 rfl) e0 (g := (mkF m 1 #[iv x] [(.int (1 : Int32))])) rfl (hb hby d_tob_1) rfl (by decide) (cap := 1) (by decide) (by decide) (by decide) (by decide)
  obtain ⟨b21, g21⟩ : ∃ z, z = h0.size := ⟨_, rfl⟩
  rw [← g21] at A21 st21
  have F21 := OFun.new A21
  replace pre : Pth p e below S0 T21 (mkF m 3 #[iv x] [(.ref b21)]) := fun t k => pre t (st21 _ k)
  have Fb : OFun Z h21 b21 .byte 1 _ := F21
  replace pre : Pth p e below S0 T21 (mkF m 7 #[iv x] [(.int (x.toInt8.toInt32)), (.int (0 : Int32)), (.ref b21), (.ref b21)]) := fun t k => pre t (by
    show SS p e below T21 (mkF m 3 #[iv x] [(.ref b21)]) t
    refine XS.dup X21.here hx rfl (hb hby d_tob_3) rfl rfl ?_
    show SS p e below T21 (mkF m 4 #[iv x] [(.ref b21), (.ref b21)]) t
    refine XS.iconst X21.here hx rfl (hb hby d_tob_4) ?_
    show SS p e below T21 (mkF m 5 #[iv x] [(.int (0 : Int32)), (.ref b21), (.ref b21)]) t
    refine XS.iloadN X21.here hx rfl (hb hby d_tob_5) rfl ?_
    show SS p e below T21 (mkF m 6 #[iv x] [(.int x), (.int (0 : Int32)), (.ref b21), (.ref b21)]) t
    refine XS.i2b X21.here hx rfl (hb hby d_tob_6) rfl ?_
    show SS p e below T21 (mkF m 7 #[iv x] [(.int (x.toInt8.toInt32)), (.int (0 : Int32)), (.ref b21), (.ref b21)]) t
    exact k)
  obtain ⟨cl22, Ar22, Sz22, -⟩ := id Fb
  obtain ⟨T22, h22, X22, e22, W22, st22⟩ := stB X21 hx hZ e21 Ar22 (j := (0 : Int32)) (by rw [Sz22]; exact (by decide)) (g := (mkF m 7 #[iv x] [(.int (x.toInt8.toInt32)), (.int (0 : Int32)), (.ref b21), (.ref b21)])) rfl rfl (hb hby d_tob_7)
  have F22 := OFun.set Fb W22
  have N22 := Fr.snoc X22 N0 (by rw [g21]; exact Z0)
  replace pre : Pth p e below S0 T22 (mkF m 8 #[iv x] [(.ref b21)]) := fun t k => pre t (st22 _ k)
  obtain ⟨fs, hr, hrun, hended, hW, hsame⟩ := X22.leave (v := some (.ref b21)) (fun h => by rw [Bd.returns] at h; cases h)
  subst hS0
  refine ⟨_, _, pre _ ?_, hrun, hended, _, _, rfl, ?_, ⟨_, rfl⟩, hW, hsame.mono (by decide) (by decide)⟩
  · exact retOut X22 hx (t := (.array .byte)) Bd.returns rfl (by simp [Value.isRef, FieldType.isReference]) (hb hby d_tob_8) hr
  · show Q_tob Z x h0 n0 _ T22.heap _
    rw [e22]
    exact ⟨b21, rfl, N22, own_ext_wr E21 W22 (by rw [g21]; exact Nat.le_refl _)⟩
def Q_vof (Z : State) (x : Int32) (cz : Int32) (h0 : Heap) (n0 : Nat) (v : Option Value) (h : Heap) (L : List Loc) : Prop := ∃ r, v = some (.ref r) ∧ Fr n0 L ∧ Ext h0 h ∧ Exa Z h r "java/lang/String"
set_option maxRecDepth 65536 in
set_option maxHeartbeats 40000000 in
theorem rm_vof (l : Launch) (Z : State) (a0 : Array Value) (hw : ∀ d ∈ tables_1, d.before a0 Z = true) (ws : List Jvm.Cond) (x : Int32) (cz : Int32) (h0 : Heap) (n0 : Nat) (Z0 : n0 ≤ h0.size) (hx0 : ¬ (255 : Int32) < x) (Scs : Sta Z h0 "java/lang/String" "COMPACT_STRINGS" "Z" (.int cz)) (hcz : ¬ cz = 0) :
    MetFree l (⟨"java/lang/String", "valueOf", "(C)Ljava/lang/String;"⟩ : MethodName) (head1 (Jvm.Cond.code (⟨"java/lang/String", "valueOf", "(C)Ljava/lang/String;"⟩ : MethodName) jdk_42_method_139_code 1 (some (.object "java/lang/String")) :: ws) ({ frames := 2, cells := 2, slots := 5, locals := 27 } : Room)) (fun a U => a = #[(.int x)] ∧ Z.Warmed39 U.vm ∧ U.heap = h0) (fun _ _ _ _ _ => True) (fun _ U o U' => ∃ v L, o = .returned v ∧ Q_vof Z x cz h0 n0 v U'.heap L ∧ FrameEnd U o U' L ({ frames := 2, cells := 2, slots := 5, locals := 27 } : Room).cells ({ frames := 2, cells := 2, slots := 5, locals := 27 } : Room).slots) := by
  refine MetFree.of_bodySF (plainFor_of_name pn_java_lang_String) hisR ?_
  intro p e s m args below meth c s₁ Bd hml0 hP hK
  obtain ⟨rfl, hZ, hh⟩ := hP
  have hx := Bd.exec
  have hby := Bd.bytes
  have hml : c.maxLocals = 1 := hml0
  have hown : s.vm.findClass "java/lang/String" = some m.cls := findClass_of_methodNamed Bd.named
  have hnm := (name_of_methodNamed Bd.named Bd.method).1
  have X0 : Stand p l e ({ frames := 2, cells := 2, slots := 5, locals := 27 } : Room) s m #[(.int x)] below meth c s₁ [] 0 0 := Stand.of_body Bd
  have e0 : s₁.heap = h0 := by rw [← hh, Bd.state]; rfl
  have N0 := Fr.nil n0
  obtain ⟨S0, hS0⟩ : ∃ S0, S0 = s₁.setTop (entryFrame m #[(.int x)] 1) := ⟨_, rfl⟩
  have pre : Pth p e below S0 s₁ (mkF m 0 #[iv x] []) := fun t k => by rw [hS0]; exact castTop (ef_vof m x) k
  obtain ⟨T23, X23, e23, st23⟩ := getS2 X0 hx hZ hown (host := "") (Or.inl (own_t hw 14 rfl)) Via.refl e0 Scs (g := (mkF m 0 #[iv x] [])) rfl (hb hby d_vof_0)
  replace pre : Pth p e below S0 T23 (mkF m 3 #[iv x] [(.int cz)]) := fun t k => pre t (st23 _ k)
  replace pre : Pth p e below S0 T23 (mkF m 7 #[iv x] [(.int x)]) := fun t k => pre t (by
    show SS p e below T23 (mkF m 3 #[iv x] [(.int cz)]) t
    refine XS.ifNo X23.here hx rfl (hb hby d_vof_3) rfl (XT.i0_eq_f hcz) ?_
    show SS p e below T23 (mkF m 6 #[iv x] []) t
    refine XS.iloadN X23.here hx rfl (hb hby d_vof_6) rfl ?_
    show SS p e below T23 (mkF m 7 #[iv x] [(.int x)]) t
    exact k)
  obtain ⟨_, _, ⟨T24, L24, k24, n24⟩, -, X24, ⟨Lc24, hQ24, l24, y24, z24⟩, st24⟩ := Jvm.LawKit.callS X23 hx (y := (⟨"java/lang/StringLatin1", "canEncode", "(C)Z"⟩ : MethodName)) hown (mvT hZ (own_t hw 57 rfl)) (mvT hZ (own_t hw 58 rfl)) (mvT hZ (own_t hw 59 rfl)) (mvT hZ (own_t hw 60 rfl)) (by decide) (backOf (W := 0) (rm_cen l Z a0 hw [] x h0 n0 hx0) hZ (own_t hw 60 rfl) (own_t hw 59 rfl) (by decide) (by decide)) (g := (mkF m 7 #[iv x] [(.int x)])) rfl (by rw [hml]; rfl) (argsL := [(.int x)]) (rest := []) (lenOf pd__C_Z rfl) rfl (by show 2 * 0 + _ ≤ _; exact Nat.le_of_eq rfl) (hb hby d_vof_7) (fun _ _ => ⟨rfl, e23, (by decide : 0 + 0 ≤ _), (by decide : 0 + 0 ≤ _)⟩)
  dsimp only [Pt.U, Pt.locs, Pt.cells, Pt.slots] at X24 l24 y24 z24 st24 hQ24
  subst l24 y24 z24
  obtain ⟨rfl, N24q, e24⟩ := hQ24
  have N24 := Fr.app N0 N24q
  replace pre : Pth p e below S0 T24 (mkF m 10 #[iv x] [(.int (1 : Int32))]) := fun t k => pre t (st24 _ k)
  replace pre : Pth p e below S0 T24 (mkF m 13 #[iv x] []) := fun t k => pre t (by
    show SS p e below T24 (mkF m 10 #[iv x] [(.int (1 : Int32))]) t
    refine XS.ifNo X24.here hx rfl (hb hby d_vof_10) rfl (XT.i0_eq_f (by decide)) ?_
    show SS p e below T24 (mkF m 13 #[iv x] []) t
    exact k)
  obtain ⟨T25, h25, X25, e25, E25, A25, D25, -, st25⟩ := newO X24 hx hZ hown (own_t hw 61 rfl) (own_t hw 1 rfl) (own_t hw 2 rfl) e24 (g := (mkF m 13 #[iv x] [])) rfl (hb hby d_vof_13) (by decide) (by decide)
  obtain ⟨b25, g25⟩ : ∃ z, z = h0.size := ⟨_, rfl⟩
  rw [← g25] at A25 D25 st25
  replace pre : Pth p e below S0 T25 (mkF m 16 #[iv x] [(.ref b25)]) := fun t k => pre t (st25 _ k)
  have Vs : Fld Z h25 b25 "java/lang/String" "value" "[B" .null := D25 (Or.inr (own_t hw 29 rfl)) (ty := .array .byte) (by decide)
  have Cs : Fld Z h25 b25 "java/lang/String" "coder" "B" (.int 0) := D25 (Or.inr (own_t hw 27 rfl)) (ty := .byte) (by decide)
  replace pre : Pth p e below S0 T25 (mkF m 18 #[iv x] [(.int x), (.ref b25), (.ref b25)]) := fun t k => pre t (by
    show SS p e below T25 (mkF m 16 #[iv x] [(.ref b25)]) t
    refine XS.dup X25.here hx rfl (hb hby d_vof_16) rfl rfl ?_
    show SS p e below T25 (mkF m 17 #[iv x] [(.ref b25), (.ref b25)]) t
    refine XS.iloadN X25.here hx rfl (hb hby d_vof_17) rfl ?_
    show SS p e below T25 (mkF m 18 #[iv x] [(.int x), (.ref b25), (.ref b25)]) t
    exact k)
  obtain ⟨_, _, ⟨T26, L26, k26, n26⟩, -, X26, ⟨Lc26, hQ26, l26, y26, z26⟩, st26⟩ := Jvm.LawKit.callS X25 hx (y := (⟨"java/lang/StringLatin1", "toBytes", "(C)[B"⟩ : MethodName)) hown (mvT hZ (own_t hw 62 rfl)) (mvT hZ (own_t hw 63 rfl)) (mvT hZ (own_t hw 59 rfl)) (mvT hZ (own_t hw 64 rfl)) (by decide) (backOf (W := 2) (rm_tob l Z a0 hw [] x h25 n0 (Nat.le_trans Z0 E25.1)) hZ (own_t hw 64 rfl) (own_t hw 59 rfl) (by decide) (by decide)) (g := (mkF m 18 #[iv x] [(.int x), (.ref b25), (.ref b25)])) rfl (by rw [hml]; rfl) (argsL := [(.int x)]) (rest := [(.ref b25), (.ref b25)]) (lenOf pd__C__B rfl) rfl (by show 2 * 0 + _ ≤ _; exact Nat.le_of_eq rfl) (hb hby d_vof_18) (fun _ _ => ⟨rfl, e25, (by decide : 1 + 1 ≤ _), (by decide : 4 + 1 ≤ _)⟩)
  dsimp only [Pt.U, Pt.locs, Pt.cells, Pt.slots] at X26 l26 y26 z26 st26 hQ26
  subst l26 y26 z26
  obtain ⟨bb, rfl, N26q, E26⟩ := hQ26
  have N26 := Fr.app N24 N26q
  replace pre : Pth p e below S0 T26 (mkF m 21 #[iv x] [(.ref bb), (.ref b25), (.ref b25)]) := fun t k => pre t (st26 _ k)
  have gA : n0 ≤ b25 := by rw [g25]; exact Z0
  replace pre : Pth p e below S0 T26 (mkF m 22 #[iv x] [(.int (0 : Int32)), (.ref bb), (.ref b25), (.ref b25)]) := fun t k => pre t (by
    show SS p e below T26 (mkF m 21 #[iv x] [(.ref bb), (.ref b25), (.ref b25)]) t
    refine XS.iconst X26.here hx rfl (hb hby d_vof_21) ?_
    show SS p e below T26 (mkF m 22 #[iv x] [(.int (0 : Int32)), (.ref bb), (.ref b25), (.ref b25)]) t
    exact k)
  obtain ⟨_, _, ⟨T27, L27, k27, n27⟩, -, X27, ⟨Lc27, hQ27, l27, y27, z27⟩, st27⟩ := X26.specialBack hx (y := (⟨"java/lang/String", "<init>", "([BB)V"⟩ : MethodName)) rfl hown (mvT hZ (own_t hw 65 rfl)) (mvT hZ (own_t hw 66 rfl)) (mvT hZ (own_t hw 67 rfl)) (by decide) (backOf (W := 1) (rm_ib l Z a0 hw [] b25 bb T26.heap n0 gA (A25.ext E26) (Vs.ext E26) (Cs.ext E26)) hZ (own_t hw 67 rfl) (own_t hw 2 rfl) (by decide) (by decide)) (g := (mkF m 22 #[iv x] [(.int (0 : Int32)), (.ref bb), (.ref b25), (.ref b25)])) rfl (by rw [hml]; rfl) (Steps.refl _) (a := b25) (argsL := [(.ref bb), (.int (0 : Int32))]) (rest := [(.ref b25)]) (lenOf pd___BB_V rfl) rfl (by show 2 * 0 + _ ≤ _; exact Nat.le_of_eq rfl) (hb hby d_vof_22) (fun _ _ => ⟨rfl, rfl, (by decide : 2 + 0 ≤ _), (by decide : 5 + 0 ≤ _)⟩)
  dsimp only [Pt.U, Pt.locs, Pt.cells, Pt.slots] at X27 l27 y27 z27 st27 hQ27
  subst l27 y27 z27
  obtain ⟨rfl, N27q, K27⟩ := hQ27
  have N27 := Fr.app N26 N27q
  replace pre : Pth p e below S0 T27 (mkF m 25 #[iv x] [(.ref b25)]) := fun t k => pre t (st27.trans k)
  obtain ⟨fs, hr, hrun, hended, hW, hsame⟩ := X27.leave (v := some (.ref b25)) (fun h => by rw [Bd.returns] at h; cases h)
  subst hS0
  refine ⟨_, _, pre _ ?_, hrun, hended, _, _, rfl, ?_, ⟨_, rfl⟩, hW, hsame.mono (by decide) (by decide)⟩
  · exact retOut X27 hx (t := (.object "java/lang/String")) Bd.returns rfl (by simp [Value.isRef, FieldType.isReference]) (hb hby d_vof_25) hr
  · show Q_vof Z x cz h0 n0 _ T27.heap _
    exact ⟨b25, rfl, N27, own_ext_keep (own_ext_trans E25 E26) K27 (fun z hz => by rw [List.mem_singleton.mp hz, g25]; exact Nat.le_refl _), (A25.ext E26).keep K27⟩
def Q_ac (Z : State) (a1 : Addr) (h0 : Heap) (n0 : Nat) (v : Option Value) (h : Heap) (L : List Loc) : Prop := v = none ∧ Fr n0 L ∧ h = h0
set_option maxRecDepth 65536 in
set_option maxHeartbeats 40000000 in
theorem rm_ac (l : Launch) (Z : State) (a0 : Array Value) (hw : ∀ d ∈ tables_1, d.before a0 Z = true) (ws : List Jvm.Cond) (a1 : Addr) (h0 : Heap) (n0 : Nat)  :
    MetFree l (⟨"java/util/AbstractCollection", "<init>", "()V"⟩ : MethodName) (head1 (Jvm.Cond.code (⟨"java/util/AbstractCollection", "<init>", "()V"⟩ : MethodName) jdk_22_method_1_code 1 none :: ws) ({ frames := 1, cells := 0, slots := 0, locals := 12 } : Room)) (fun a U => a = #[(.ref a1)] ∧ Z.Warmed39 U.vm ∧ U.heap = h0) (fun _ _ _ _ _ => True) (fun _ U o U' => ∃ v L, o = .returned v ∧ Q_ac Z a1 h0 n0 v U'.heap L ∧ FrameEnd U o U' L ({ frames := 1, cells := 0, slots := 0, locals := 12 } : Room).cells ({ frames := 1, cells := 0, slots := 0, locals := 12 } : Room).slots) := by
  refine MetFree.of_bodySF (plainFor_of_name pn_java_util_AbstractCollection) hisR ?_
  intro p e s m args below meth c s₁ Bd hml0 hP hK
  obtain ⟨rfl, hZ, hh⟩ := hP
  have hx := Bd.exec
  have hby := Bd.bytes
  have hml : c.maxLocals = 1 := hml0
  have hown : s.vm.findClass "java/util/AbstractCollection" = some m.cls := findClass_of_methodNamed Bd.named
  have hnm := (name_of_methodNamed Bd.named Bd.method).1
  have X0 : Stand p l e ({ frames := 1, cells := 0, slots := 0, locals := 12 } : Room) s m #[(.ref a1)] below meth c s₁ [] 0 0 := Stand.of_body Bd
  have e0 : s₁.heap = h0 := by rw [← hh, Bd.state]; rfl
  have N0 := Fr.nil n0
  obtain ⟨S0, hS0⟩ : ∃ S0, S0 = s₁.setTop (entryFrame m #[(.ref a1)] 1) := ⟨_, rfl⟩
  have pre : Pth p e below S0 s₁ (mkF m 0 #[rv a1] []) := fun t k => by rw [hS0]; exact castTop (ef_ac m a1) k
  replace pre : Pth p e below S0 s₁ (mkF m 1 #[rv a1] [(.ref a1)]) := fun t k => pre t (by
    show SS p e below s₁ (mkF m 0 #[rv a1] []) t
    refine XS.aloadN X0.here hx rfl (hb hby d_ac_0) rfl rfl ?_
    show SS p e below s₁ (mkF m 1 #[rv a1] [(.ref a1)]) t
    exact k)
  obtain ⟨T28, X28, e28, st28⟩ := initO X0 hx hZ hown (own_t hw 48 rfl) (own_t hw 12 rfl) (own_t hw 13 rfl) e0 (g := (mkF m 1 #[rv a1] [(.ref a1)])) rfl (by rw [hml]; rfl) rfl (hb hby d_ac_1) (by decide) (W := 0) (by show 2 * 0 + _ ≤ _; exact Nat.le_of_eq rfl) (by decide)
  replace pre : Pth p e below S0 T28 (mkF m 4 #[rv a1] []) := fun t k => pre t (st28 _ k)
  obtain ⟨fs, hr, hrun, hended, hW, hsame⟩ := X28.leave (v := none) (fun _ => rfl)
  subst hS0
  refine ⟨_, _, pre _ ?_, hrun, hended, _, _, rfl, ?_, ⟨_, rfl⟩, hW, hsame.mono (by decide) (by decide)⟩
  · exact X28.returnOut hx Bd.returns (hb hby d_ac_4) hr
  · show Q_ac Z a1 h0 n0 _ T28.heap _
    rw [e28]
    exact ⟨rfl, N0, rfl⟩
def Q_item (Z : State) (a1 : Addr) (h0 : Heap) (n0 : Nat) (v : Option Value) (h : Heap) (L : List Loc) : Prop := v = none ∧ Fr n0 L ∧ h = h0
set_option maxRecDepth 65536 in
set_option maxHeartbeats 40000000 in
theorem rm_item (l : Launch) (Z : State) (a0 : Array Value) (hw : ∀ d ∈ tables_1, d.before a0 Z = true) (ws : List Jvm.Cond) (a1 : Addr) (h0 : Heap) (n0 : Nat)  :
    MetFree l (⟨"com/example/sheaf/sheaf/cbor/Item", "<init>", "()V"⟩ : MethodName) (head1 (Jvm.Cond.code (⟨"com/example/sheaf/sheaf/cbor/Item", "<init>", "()V"⟩ : MethodName) prog_16_method_1_code 1 none :: ws) ({ frames := 1, cells := 0, slots := 0, locals := 12 } : Room)) (fun a U => a = #[(.ref a1)] ∧ Z.Warmed39 U.vm ∧ U.heap = h0) (fun _ _ _ _ _ => True) (fun _ U o U' => ∃ v L, o = .returned v ∧ Q_item Z a1 h0 n0 v U'.heap L ∧ FrameEnd U o U' L ({ frames := 1, cells := 0, slots := 0, locals := 12 } : Room).cells ({ frames := 1, cells := 0, slots := 0, locals := 12 } : Room).slots) := by
  refine MetFree.of_bodySF (plainFor_of_name pn_com_example_sheaf_sheaf_cbor_Item) hisR ?_
  intro p e s m args below meth c s₁ Bd hml0 hP hK
  obtain ⟨rfl, hZ, hh⟩ := hP
  have hx := Bd.exec
  have hby := Bd.bytes
  have hml : c.maxLocals = 1 := hml0
  have hown : s.vm.findClass "com/example/sheaf/sheaf/cbor/Item" = some m.cls := findClass_of_methodNamed Bd.named
  have hnm := (name_of_methodNamed Bd.named Bd.method).1
  have X0 : Stand p l e ({ frames := 1, cells := 0, slots := 0, locals := 12 } : Room) s m #[(.ref a1)] below meth c s₁ [] 0 0 := Stand.of_body Bd
  have e0 : s₁.heap = h0 := by rw [← hh, Bd.state]; rfl
  have N0 := Fr.nil n0
  obtain ⟨S0, hS0⟩ : ∃ S0, S0 = s₁.setTop (entryFrame m #[(.ref a1)] 1) := ⟨_, rfl⟩
  have pre : Pth p e below S0 s₁ (mkF m 0 #[rv a1] []) := fun t k => by rw [hS0]; exact castTop (ef_item m a1) k
  replace pre : Pth p e below S0 s₁ (mkF m 1 #[rv a1] [(.ref a1)]) := fun t k => pre t (by
    show SS p e below s₁ (mkF m 0 #[rv a1] []) t
    refine XS.aloadN X0.here hx rfl (hb hby d_item_0) rfl rfl ?_
    show SS p e below s₁ (mkF m 1 #[rv a1] [(.ref a1)]) t
    exact k)
  obtain ⟨T29, X29, e29, st29⟩ := initO X0 hx hZ hown (own_t hw 110 rfl) (own_t hw 12 rfl) (own_t hw 13 rfl) e0 (g := (mkF m 1 #[rv a1] [(.ref a1)])) rfl (by rw [hml]; rfl) rfl (hb hby d_item_1) (by decide) (W := 0) (by show 2 * 0 + _ ≤ _; exact Nat.le_of_eq rfl) (by decide)
  replace pre : Pth p e below S0 T29 (mkF m 4 #[rv a1] []) := fun t k => pre t (st29 _ k)
  obtain ⟨fs, hr, hrun, hended, hW, hsame⟩ := X29.leave (v := none) (fun _ => rfl)
  subst hS0
  refine ⟨_, _, pre _ ?_, hrun, hended, _, _, rfl, ?_, ⟨_, rfl⟩, hW, hsame.mono (by decide) (by decide)⟩
  · exact X29.returnOut hx Bd.returns (hb hby d_item_4) hr
  · show Q_item Z a1 h0 n0 _ T29.heap _
    rw [e29]
    exact ⟨rfl, N0, rfl⟩
def Q_aic (Z : State) (a1 : Addr) (h0 : Heap) (n0 : Nat) (v : Option Value) (h : Heap) (L : List Loc) : Prop := v = none ∧ Fr n0 L ∧ h = h0
set_option maxRecDepth 65536 in
set_option maxHeartbeats 40000000 in
theorem rm_aic (l : Launch) (Z : State) (a0 : Array Value) (hw : ∀ d ∈ tables_1, d.before a0 Z = true) (ws : List Jvm.Cond) (a1 : Addr) (h0 : Heap) (n0 : Nat)  :
    MetFree l (⟨"java/util/ImmutableCollections$AbstractImmutableCollection", "<init>", "()V"⟩ : MethodName) (head1 (Jvm.Cond.code (⟨"java/util/ImmutableCollections$AbstractImmutableCollection", "<init>", "()V"⟩ : MethodName) jdk_47_method_1_code 1 none :: ws) ({ frames := 2, cells := 0, slots := 0, locals := 24 } : Room)) (fun a U => a = #[(.ref a1)] ∧ Z.Warmed39 U.vm ∧ U.heap = h0) (fun _ _ _ _ _ => True) (fun _ U o U' => ∃ v L, o = .returned v ∧ Q_aic Z a1 h0 n0 v U'.heap L ∧ FrameEnd U o U' L ({ frames := 2, cells := 0, slots := 0, locals := 24 } : Room).cells ({ frames := 2, cells := 0, slots := 0, locals := 24 } : Room).slots) := by
  refine MetFree.of_bodySF (plainFor_of_name pn_java_util_ImmutableCollections_AbstractImmutableCollection) hisR ?_
  intro p e s m args below meth c s₁ Bd hml0 hP hK
  obtain ⟨rfl, hZ, hh⟩ := hP
  have hx := Bd.exec
  have hby := Bd.bytes
  have hml : c.maxLocals = 1 := hml0
  have hown : s.vm.findClass "java/util/ImmutableCollections$AbstractImmutableCollection" = some m.cls := findClass_of_methodNamed Bd.named
  have hnm := (name_of_methodNamed Bd.named Bd.method).1
  have X0 : Stand p l e ({ frames := 2, cells := 0, slots := 0, locals := 24 } : Room) s m #[(.ref a1)] below meth c s₁ [] 0 0 := Stand.of_body Bd
  have e0 : s₁.heap = h0 := by rw [← hh, Bd.state]; rfl
  have N0 := Fr.nil n0
  obtain ⟨S0, hS0⟩ : ∃ S0, S0 = s₁.setTop (entryFrame m #[(.ref a1)] 1) := ⟨_, rfl⟩
  have pre : Pth p e below S0 s₁ (mkF m 0 #[rv a1] []) := fun t k => by rw [hS0]; exact castTop (ef_aic m a1) k
  replace pre : Pth p e below S0 s₁ (mkF m 1 #[rv a1] [(.ref a1)]) := fun t k => pre t (by
    show SS p e below s₁ (mkF m 0 #[rv a1] []) t
    refine XS.aloadN X0.here hx rfl (hb hby d_aic_0) rfl rfl ?_
    show SS p e below s₁ (mkF m 1 #[rv a1] [(.ref a1)]) t
    exact k)
  obtain ⟨_, _, ⟨T30, L30, k30, n30⟩, -, X30, ⟨Lc30, hQ30, l30, y30, z30⟩, st30⟩ := X0.specialBack hx (y := (⟨"java/util/AbstractCollection", "<init>", "()V"⟩ : MethodName)) rfl hown (mvT hZ (own_t hw 223 rfl)) (mvT hZ (own_t hw 43 rfl)) (mvT hZ (own_t hw 47 rfl)) (by decide) (backOf (W := 0) (rm_ac l Z a0 hw [] a1 h0 n0) hZ (own_t hw 47 rfl) (own_t hw 46 rfl) (by decide) (by decide)) (g := (mkF m 1 #[rv a1] [(.ref a1)])) rfl (by rw [hml]; rfl) (Steps.refl _) (a := a1) (argsL := []) (rest := []) (lenOf pd___V rfl) rfl (by show 2 * 0 + _ ≤ _; exact Nat.le_of_eq rfl) (hb hby d_aic_1) (fun _ _ => ⟨rfl, e0, (by decide : 0 + 0 ≤ _), (by decide : 0 + 0 ≤ _)⟩)
  dsimp only [Pt.U, Pt.locs, Pt.cells, Pt.slots] at X30 l30 y30 z30 st30 hQ30
  subst l30 y30 z30
  obtain ⟨rfl, N30q, e30⟩ := hQ30
  have N30 := Fr.app N0 N30q
  replace pre : Pth p e below S0 T30 (mkF m 4 #[rv a1] []) := fun t k => pre t (st30.trans k)
  obtain ⟨fs, hr, hrun, hended, hW, hsame⟩ := X30.leave (v := none) (fun _ => rfl)
  subst hS0
  refine ⟨_, _, pre _ ?_, hrun, hended, _, _, rfl, ?_, ⟨_, rfl⟩, hW, hsame.mono (by decide) (by decide)⟩
  · exact X30.returnOut hx Bd.returns (hb hby d_aic_4) hr
  · show Q_aic Z a1 h0 n0 _ T30.heap _
    rw [e30]
    exact ⟨rfl, N30, rfl⟩
def Q_ail (Z : State) (a1 : Addr) (h0 : Heap) (n0 : Nat) (v : Option Value) (h : Heap) (L : List Loc) : Prop := v = none ∧ Fr n0 L ∧ h = h0
set_option maxRecDepth 65536 in
set_option maxHeartbeats 40000000 in
theorem rm_ail (l : Launch) (Z : State) (a0 : Array Value) (hw : ∀ d ∈ tables_1, d.before a0 Z = true) (ws : List Jvm.Cond) (a1 : Addr) (h0 : Heap) (n0 : Nat)  :
    MetFree l (⟨"java/util/ImmutableCollections$AbstractImmutableList", "<init>", "()V"⟩ : MethodName) (head1 (Jvm.Cond.code (⟨"java/util/ImmutableCollections$AbstractImmutableList", "<init>", "()V"⟩ : MethodName) jdk_46_method_1_code 1 none :: ws) ({ frames := 3, cells := 0, slots := 0, locals := 36 } : Room)) (fun a U => a = #[(.ref a1)] ∧ Z.Warmed39 U.vm ∧ U.heap = h0) (fun _ _ _ _ _ => True) (fun _ U o U' => ∃ v L, o = .returned v ∧ Q_ail Z a1 h0 n0 v U'.heap L ∧ FrameEnd U o U' L ({ frames := 3, cells := 0, slots := 0, locals := 36 } : Room).cells ({ frames := 3, cells := 0, slots := 0, locals := 36 } : Room).slots) := by
  refine MetFree.of_bodySF (plainFor_of_name pn_java_util_ImmutableCollections_AbstractImmutableList) hisR ?_
  intro p e s m args below meth c s₁ Bd hml0 hP hK
  obtain ⟨rfl, hZ, hh⟩ := hP
  have hx := Bd.exec
  have hby := Bd.bytes
  have hml : c.maxLocals = 1 := hml0
  have hown : s.vm.findClass "java/util/ImmutableCollections$AbstractImmutableList" = some m.cls := findClass_of_methodNamed Bd.named
  have hnm := (name_of_methodNamed Bd.named Bd.method).1
  have X0 : Stand p l e ({ frames := 3, cells := 0, slots := 0, locals := 36 } : Room) s m #[(.ref a1)] below meth c s₁ [] 0 0 := Stand.of_body Bd
  have e0 : s₁.heap = h0 := by rw [← hh, Bd.state]; rfl
  have N0 := Fr.nil n0
  obtain ⟨S0, hS0⟩ : ∃ S0, S0 = s₁.setTop (entryFrame m #[(.ref a1)] 1) := ⟨_, rfl⟩
  have pre : Pth p e below S0 s₁ (mkF m 0 #[rv a1] []) := fun t k => by rw [hS0]; exact castTop (ef_ail m a1) k
  replace pre : Pth p e below S0 s₁ (mkF m 1 #[rv a1] [(.ref a1)]) := fun t k => pre t (by
    show SS p e below s₁ (mkF m 0 #[rv a1] []) t
    refine XS.aloadN X0.here hx rfl (hb hby d_ail_0) rfl rfl ?_
    show SS p e below s₁ (mkF m 1 #[rv a1] [(.ref a1)]) t
    exact k)
  obtain ⟨_, _, ⟨T31, L31, k31, n31⟩, -, X31, ⟨Lc31, hQ31, l31, y31, z31⟩, st31⟩ := X0.specialBack hx (y := (⟨"java/util/ImmutableCollections$AbstractImmutableCollection", "<init>", "()V"⟩ : MethodName)) rfl hown (mvT hZ (own_t hw 217 rfl)) (mvT hZ (own_t hw 218 rfl)) (mvT hZ (own_t hw 222 rfl)) (by decide) (backOf (W := 0) (rm_aic l Z a0 hw [] a1 h0 n0) hZ (own_t hw 222 rfl) (own_t hw 221 rfl) (by decide) (by decide)) (g := (mkF m 1 #[rv a1] [(.ref a1)])) rfl (by rw [hml]; rfl) (Steps.refl _) (a := a1) (argsL := []) (rest := []) (lenOf pd___V rfl) rfl (by show 2 * 0 + _ ≤ _; exact Nat.le_of_eq rfl) (hb hby d_ail_1) (fun _ _ => ⟨rfl, e0, (by decide : 0 + 0 ≤ _), (by decide : 0 + 0 ≤ _)⟩)
  dsimp only [Pt.U, Pt.locs, Pt.cells, Pt.slots] at X31 l31 y31 z31 st31 hQ31
  subst l31 y31 z31
  obtain ⟨rfl, N31q, e31⟩ := hQ31
  have N31 := Fr.app N0 N31q
  replace pre : Pth p e below S0 T31 (mkF m 4 #[rv a1] []) := fun t k => pre t (st31.trans k)
  obtain ⟨fs, hr, hrun, hended, hW, hsame⟩ := X31.leave (v := none) (fun _ => rfl)
  subst hS0
  refine ⟨_, _, pre _ ?_, hrun, hended, _, _, rfl, ?_, ⟨_, rfl⟩, hW, hsame.mono (by decide) (by decide)⟩
  · exact X31.returnOut hx Bd.returns (hb hby d_ail_4) hr
  · show Q_ail Z a1 h0 n0 _ T31.heap _
    rw [e31]
    exact ⟨rfl, N31, rfl⟩
def Q_rnn (Z : State) (a1 : Addr) (h0 : Heap) (n0 : Nat) (v : Option Value) (h : Heap) (L : List Loc) : Prop := v = some (.ref a1) ∧ Fr n0 L ∧ h = h0
set_option maxRecDepth 65536 in
set_option maxHeartbeats 40000000 in
theorem rm_rnn (l : Launch) (Z : State) (a0 : Array Value) (hw : ∀ d ∈ tables_1, d.before a0 Z = true) (ws : List Jvm.Cond) (a1 : Addr) (h0 : Heap) (n0 : Nat)  :
    MetFree l (⟨"java/util/Objects", "requireNonNull", "(Ljava/lang/Object;)Ljava/lang/Object;"⟩ : MethodName) (head1 (Jvm.Cond.code (⟨"java/util/Objects", "requireNonNull", "(Ljava/lang/Object;)Ljava/lang/Object;"⟩ : MethodName) jdk_31_method_10_code 1 (some (.object "java/lang/Object")) :: ws) ({ frames := 0, cells := 0, slots := 0, locals := 0 } : Room)) (fun a U => a = #[(.ref a1)] ∧ Z.Warmed39 U.vm ∧ U.heap = h0) (fun _ _ _ _ _ => True) (fun _ U o U' => ∃ v L, o = .returned v ∧ Q_rnn Z a1 h0 n0 v U'.heap L ∧ FrameEnd U o U' L ({ frames := 0, cells := 0, slots := 0, locals := 0 } : Room).cells ({ frames := 0, cells := 0, slots := 0, locals := 0 } : Room).slots) := by
  refine MetFree.of_bodySF (plainFor_of_name pn_java_util_Objects) hisR ?_
  intro p e s m args below meth c s₁ Bd hml0 hP hK
  obtain ⟨rfl, hZ, hh⟩ := hP
  have hx := Bd.exec
  have hby := Bd.bytes
  have hml : c.maxLocals = 1 := hml0
  have hown : s.vm.findClass "java/util/Objects" = some m.cls := findClass_of_methodNamed Bd.named
  have hnm := (name_of_methodNamed Bd.named Bd.method).1
  have X0 : Stand p l e ({ frames := 0, cells := 0, slots := 0, locals := 0 } : Room) s m #[(.ref a1)] below meth c s₁ [] 0 0 := Stand.of_body Bd
  have e0 : s₁.heap = h0 := by rw [← hh, Bd.state]; rfl
  have N0 := Fr.nil n0
  obtain ⟨S0, hS0⟩ : ∃ S0, S0 = s₁.setTop (entryFrame m #[(.ref a1)] 1) := ⟨_, rfl⟩
  have pre : Pth p e below S0 s₁ (mkF m 0 #[rv a1] []) := fun t k => by rw [hS0]; exact castTop (ef_rnn m a1) k
  replace pre : Pth p e below S0 s₁ (mkF m 13 #[rv a1] [(.ref a1)]) := fun t k => pre t (by
    show SS p e below s₁ (mkF m 0 #[rv a1] []) t
    refine XS.aloadN X0.here hx rfl (hb hby d_rnn_0) rfl rfl ?_
    show SS p e below s₁ (mkF m 1 #[rv a1] [(.ref a1)]) t
    refine XS.ifnonnullYes X0.here hx rfl (pc0 := 1) (pc' := 12) rfl (hb hby d_rnn_1) rfl (by decide) (by decide) ?_
    show SS p e below s₁ (mkF m 12 #[rv a1] []) t
    refine XS.aloadN X0.here hx rfl (hb hby d_rnn_12) rfl rfl ?_
    show SS p e below s₁ (mkF m 13 #[rv a1] [(.ref a1)]) t
    exact k)
  obtain ⟨fs, hr, hrun, hended, hW, hsame⟩ := X0.leave (v := some (.ref a1)) (fun h => by rw [Bd.returns] at h; cases h)
  subst hS0
  refine ⟨_, _, pre _ ?_, hrun, hended, _, _, rfl, ?_, ⟨_, rfl⟩, hW, hsame.mono (by decide) (by decide)⟩
  · exact retOut X0 hx (t := (.object "java/lang/Object")) Bd.returns rfl (by simp [Value.isRef, FieldType.isReference]) (hb hby d_rnn_13) hr
  · show Q_rnn Z a1 h0 n0 _ s₁.heap _
    rw [e0]
    exact ⟨rfl, N0, rfl⟩
def Q_abl (Z : State) (a1 : Addr) (h0 : Heap) (n0 : Nat) (v : Option Value) (h : Heap) (L : List Loc) : Prop := v = none ∧ Fr n0 L ∧ Wr h0 h a1 (Jvm.RoadKit.slotOf Z "java/util/AbstractList" "modCount" "I") (.int 0)
set_option maxRecDepth 65536 in
set_option maxHeartbeats 40000000 in
theorem rm_abl (l : Launch) (Z : State) (a0 : Array Value) (hw : ∀ d ∈ tables_1, d.before a0 Z = true) (ws : List Jvm.Cond) (a1 : Addr) (h0 : Heap) (n0 : Nat) (ga : n0 ≤ a1) (Ea : Exa Z h0 a1 "java/util/ArrayList") (F0 : Fld Z h0 a1 "java/util/AbstractList" "modCount" "I" (.int 0)) :
    MetFree l (⟨"java/util/AbstractList", "<init>", "()V"⟩ : MethodName) (head1 (Jvm.Cond.code (⟨"java/util/AbstractList", "<init>", "()V"⟩ : MethodName) jdk_39_method_1_code 1 none :: ws) ({ frames := 2, cells := 0, slots := 0, locals := 24 } : Room)) (fun a U => a = #[(.ref a1)] ∧ Z.Warmed39 U.vm ∧ U.heap = h0) (fun _ _ _ _ _ => True) (fun _ U o U' => ∃ v L, o = .returned v ∧ Q_abl Z a1 h0 n0 v U'.heap L ∧ FrameEnd U o U' L ({ frames := 2, cells := 0, slots := 0, locals := 24 } : Room).cells ({ frames := 2, cells := 0, slots := 0, locals := 24 } : Room).slots) := by
  refine MetFree.of_bodySF (plainFor_of_name pn_java_util_AbstractList) hisR ?_
  intro p e s m args below meth c s₁ Bd hml0 hP hK
  obtain ⟨rfl, hZ, hh⟩ := hP
  have hx := Bd.exec
  have hby := Bd.bytes
  have hml : c.maxLocals = 1 := hml0
  have hown : s.vm.findClass "java/util/AbstractList" = some m.cls := findClass_of_methodNamed Bd.named
  have hnm := (name_of_methodNamed Bd.named Bd.method).1
  have X0 : Stand p l e ({ frames := 2, cells := 0, slots := 0, locals := 24 } : Room) s m #[(.ref a1)] below meth c s₁ [] 0 0 := Stand.of_body Bd
  have e0 : s₁.heap = h0 := by rw [← hh, Bd.state]; rfl
  have N0 := Fr.nil n0
  obtain ⟨S0, hS0⟩ : ∃ S0, S0 = s₁.setTop (entryFrame m #[(.ref a1)] 1) := ⟨_, rfl⟩
  have pre : Pth p e below S0 s₁ (mkF m 0 #[rv a1] []) := fun t k => by rw [hS0]; exact castTop (ef_abl m a1) k
  replace pre : Pth p e below S0 s₁ (mkF m 1 #[rv a1] [(.ref a1)]) := fun t k => pre t (by
    show SS p e below s₁ (mkF m 0 #[rv a1] []) t
    refine XS.aloadN X0.here hx rfl (hb hby d_abl_0) rfl rfl ?_
    show SS p e below s₁ (mkF m 1 #[rv a1] [(.ref a1)]) t
    exact k)
  obtain ⟨_, _, ⟨T32, L32, k32, n32⟩, -, X32, ⟨Lc32, hQ32, l32, y32, z32⟩, st32⟩ := X0.specialBack hx (y := (⟨"java/util/AbstractCollection", "<init>", "()V"⟩ : MethodName)) rfl hown (mvT hZ (own_t hw 42 rfl)) (mvT hZ (own_t hw 43 rfl)) (mvT hZ (own_t hw 47 rfl)) (by decide) (backOf (W := 0) (rm_ac l Z a0 hw [] a1 h0 n0) hZ (own_t hw 47 rfl) (own_t hw 46 rfl) (by decide) (by decide)) (g := (mkF m 1 #[rv a1] [(.ref a1)])) rfl (by rw [hml]; rfl) (Steps.refl _) (a := a1) (argsL := []) (rest := []) (lenOf pd___V rfl) rfl (by show 2 * 0 + _ ≤ _; exact Nat.le_of_eq rfl) (hb hby d_abl_1) (fun _ _ => ⟨rfl, e0, (by decide : 0 + 0 ≤ _), (by decide : 0 + 0 ≤ _)⟩)
  dsimp only [Pt.U, Pt.locs, Pt.cells, Pt.slots] at X32 l32 y32 z32 st32 hQ32
  subst l32 y32 z32
  obtain ⟨rfl, N32q, e32⟩ := hQ32
  have N32 := Fr.app N0 N32q
  replace pre : Pth p e below S0 T32 (mkF m 4 #[rv a1] []) := fun t k => pre t (st32.trans k)
  replace pre : Pth p e below S0 T32 (mkF m 6 #[rv a1] [(.int (0 : Int32)), (.ref a1)]) := fun t k => pre t (by
    show SS p e below T32 (mkF m 4 #[rv a1] []) t
    refine XS.aloadN X32.here hx rfl (hb hby d_abl_4) rfl rfl ?_
    show SS p e below T32 (mkF m 5 #[rv a1] [(.ref a1)]) t
    refine XS.iconst X32.here hx rfl (hb hby d_abl_5) ?_
    show SS p e below T32 (mkF m 6 #[rv a1] [(.int (0 : Int32)), (.ref a1)]) t
    exact k)
  obtain ⟨T33, h33, X33, e33, W33, st33⟩ := putF X32 hx hZ hown (host := "") (Or.inl (own_t hw 49 rfl)) Via.refl e32 F0 Ea (Or.inl (own_t hw 50 rfl)) (own_t hw 31 rfl) (ty := .int) (by decide) rfl rfl (g := (mkF m 6 #[rv a1] [(.int (0 : Int32)), (.ref a1)])) rfl rfl (hb hby d_abl_6)
  have N33 := Fr.snoc X33 N32 ga
  replace pre : Pth p e below S0 T33 (mkF m 9 #[rv a1] []) := fun t k => pre t (st33 _ k)
  obtain ⟨fs, hr, hrun, hended, hW, hsame⟩ := X33.leave (v := none) (fun _ => rfl)
  subst hS0
  refine ⟨_, _, pre _ ?_, hrun, hended, _, _, rfl, ?_, ⟨_, rfl⟩, hW, hsame.mono (by decide) (by decide)⟩
  · exact X33.returnOut hx Bd.returns (hb hby d_abl_9) hr
  · show Q_abl Z a1 h0 n0 _ T33.heap _
    rw [e33]
    exact ⟨rfl, N33, W33⟩
def Q_ali (Z : State) (a1 : Addr) (dc : Addr) (h0 : Heap) (n0 : Nat) (v : Option Value) (h : Heap) (L : List Loc) : Prop := v = none ∧ Fr n0 L ∧ Keep h0 h [a1] ∧ OAL Z h a1 dc 0 0
set_option maxRecDepth 65536 in
set_option maxHeartbeats 40000000 in
theorem rm_ali (l : Launch) (Z : State) (a0 : Array Value) (hw : ∀ d ∈ tables_1, d.before a0 Z = true) (ws : List Jvm.Cond) (a1 : Addr) (dc : Addr) (h0 : Heap) (n0 : Nat) (ga : n0 ≤ a1) (Ea : Exa Z h0 a1 "java/util/ArrayList") (F1 : Fld Z h0 a1 "java/util/ArrayList" "elementData" "[Ljava/lang/Object;" .null) (F2 : Fld Z h0 a1 "java/util/ArrayList" "size" "I" (.int 0)) (F3 : Fld Z h0 a1 "java/util/AbstractList" "modCount" "I" (.int 0)) (Sd : Sta Z h0 "java/util/ArrayList" "DEFAULTCAPACITY_EMPTY_ELEMENTDATA" "[Ljava/lang/Object;" (.ref dc)) :
    MetFree l (⟨"java/util/ArrayList", "<init>", "()V"⟩ : MethodName) (head1 (Jvm.Cond.code (⟨"java/util/ArrayList", "<init>", "()V"⟩ : MethodName) jdk_38_method_2_code 1 none :: ws) ({ frames := 3, cells := 0, slots := 0, locals := 36 } : Room)) (fun a U => a = #[(.ref a1)] ∧ Z.Warmed39 U.vm ∧ U.heap = h0) (fun _ _ _ _ _ => True) (fun _ U o U' => ∃ v L, o = .returned v ∧ Q_ali Z a1 dc h0 n0 v U'.heap L ∧ FrameEnd U o U' L ({ frames := 3, cells := 0, slots := 0, locals := 36 } : Room).cells ({ frames := 3, cells := 0, slots := 0, locals := 36 } : Room).slots) := by
  refine MetFree.of_bodySF (plainFor_of_name pn_java_util_ArrayList) hisR ?_
  intro p e s m args below meth c s₁ Bd hml0 hP hK
  obtain ⟨rfl, hZ, hh⟩ := hP
  have hx := Bd.exec
  have hby := Bd.bytes
  have hml : c.maxLocals = 1 := hml0
  have hown : s.vm.findClass "java/util/ArrayList" = some m.cls := findClass_of_methodNamed Bd.named
  have hnm := (name_of_methodNamed Bd.named Bd.method).1
  have X0 : Stand p l e ({ frames := 3, cells := 0, slots := 0, locals := 36 } : Room) s m #[(.ref a1)] below meth c s₁ [] 0 0 := Stand.of_body Bd
  have e0 : s₁.heap = h0 := by rw [← hh, Bd.state]; rfl
  have N0 := Fr.nil n0
  obtain ⟨S0, hS0⟩ : ∃ S0, S0 = s₁.setTop (entryFrame m #[(.ref a1)] 1) := ⟨_, rfl⟩
  have pre : Pth p e below S0 s₁ (mkF m 0 #[rv a1] []) := fun t k => by rw [hS0]; exact castTop (ef_ali m a1) k
  replace pre : Pth p e below S0 s₁ (mkF m 1 #[rv a1] [(.ref a1)]) := fun t k => pre t (by
    show SS p e below s₁ (mkF m 0 #[rv a1] []) t
    refine XS.aloadN X0.here hx rfl (hb hby d_ali_0) rfl rfl ?_
    show SS p e below s₁ (mkF m 1 #[rv a1] [(.ref a1)]) t
    exact k)
  obtain ⟨_, _, ⟨T34, L34, k34, n34⟩, -, X34, ⟨Lc34, hQ34, l34, y34, z34⟩, st34⟩ := X0.specialBack hx (y := (⟨"java/util/AbstractList", "<init>", "()V"⟩ : MethodName)) rfl hown (mvT hZ (own_t hw 36 rfl)) (mvT hZ (own_t hw 37 rfl)) (mvT hZ (own_t hw 41 rfl)) (by decide) (backOf (W := 0) (rm_abl l Z a0 hw [] a1 h0 n0 ga Ea F3) hZ (own_t hw 41 rfl) (own_t hw 40 rfl) (by decide) (by decide)) (g := (mkF m 1 #[rv a1] [(.ref a1)])) rfl (by rw [hml]; rfl) (Steps.refl _) (a := a1) (argsL := []) (rest := []) (lenOf pd___V rfl) rfl (by show 2 * 0 + _ ≤ _; exact Nat.le_of_eq rfl) (hb hby d_ali_1) (fun _ _ => ⟨rfl, e0, (by decide : 0 + 0 ≤ _), (by decide : 0 + 0 ≤ _)⟩)
  dsimp only [Pt.U, Pt.locs, Pt.cells, Pt.slots] at X34 l34 y34 z34 st34 hQ34
  subst l34 y34 z34
  obtain ⟨rfl, N34q, W34⟩ := hQ34
  have N34 := Fr.app N0 N34q
  replace pre : Pth p e below S0 T34 (mkF m 4 #[rv a1] []) := fun t k => pre t (st34.trans k)
  have Ea1 := Ea.wr W34
  have F1a := F1.other W34 (Or.inr (slot_ne (Or.inl (own_t hw 53 rfl)) (Or.inl (own_t hw 50 rfl)) (by decide) (t := (.array (.object "java/lang/Object"))) (t' := .int) (by decide) (by decide)))
  have F2a := F2.other W34 (Or.inr (slot_ne (Or.inl (own_t hw 76 rfl)) (Or.inl (own_t hw 50 rfl)) (by decide) (t := .int) (t' := .int) (by decide) (by decide)))
  have F3a := F3.same W34
  have Sd1 := Sd.wr W34
  replace pre : Pth p e below S0 T34 (mkF m 5 #[rv a1] [(.ref a1)]) := fun t k => pre t (by
    show SS p e below T34 (mkF m 4 #[rv a1] []) t
    refine XS.aloadN X34.here hx rfl (hb hby d_ali_4) rfl rfl ?_
    show SS p e below T34 (mkF m 5 #[rv a1] [(.ref a1)]) t
    exact k)
  obtain ⟨T35, X35, e35, st35⟩ := getS2 X34 hx hZ hown (host := "") (Or.inl (own_t hw 51 rfl)) Via.refl rfl Sd1 (g := (mkF m 5 #[rv a1] [(.ref a1)])) rfl (hb hby d_ali_5)
  replace pre : Pth p e below S0 T35 (mkF m 8 #[rv a1] [(.ref dc), (.ref a1)]) := fun t k => pre t (st35 _ k)
  obtain ⟨T36, h36, X36, e36, W36, st36⟩ := putF X35 hx hZ hown (host := "") (Or.inl (own_t hw 52 rfl)) Via.refl e35 F1a Ea1 (Or.inl (own_t hw 53 rfl)) (own_t hw 31 rfl) (ty := (.array (.object "java/lang/Object"))) (by decide) rfl rfl (g := (mkF m 8 #[rv a1] [(.ref dc), (.ref a1)])) rfl rfl (hb hby d_ali_8)
  have N36 := Fr.snoc X36 N34 ga
  replace pre : Pth p e below S0 T36 (mkF m 11 #[rv a1] []) := fun t k => pre t (st36 _ k)
  obtain ⟨fs, hr, hrun, hended, hW, hsame⟩ := X36.leave (v := none) (fun _ => rfl)
  subst hS0
  refine ⟨_, _, pre _ ?_, hrun, hended, _, _, rfl, ?_, ⟨_, rfl⟩, hW, hsame.mono (by decide) (by decide)⟩
  · exact X36.returnOut hx Bd.returns (hb hby d_ali_11) hr
  · show Q_ali Z a1 dc h0 n0 _ T36.heap _
    rw [e36]
    exact ⟨rfl, N36, ((Keep.refl h0 [a1]).wr W34 (Or.inl (List.mem_of_getElem? (i := 0) rfl))).wr W36 (Or.inl (List.mem_of_getElem? (i := 0) rfl)), Ea1.wr W36, F1a.same W36, F2a.other W36 (Or.inr (slot_ne (Or.inl (own_t hw 76 rfl)) (Or.inl (own_t hw 53 rfl)) (by decide) (t := .int) (t' := (.array (.object "java/lang/Object"))) (by decide) (by decide))), F3a.other W36 (Or.inr (slot_ne (Or.inl (own_t hw 50 rfl)) (Or.inl (own_t hw 53 rfl)) (by decide) (t := .int) (t' := (.array (.object "java/lang/Object"))) (by decide) (by decide)))⟩
def Q_maxt (Z : State)  (h0 : Heap) (n0 : Nat) (v : Option Value) (h : Heap) (L : List Loc) : Prop := v = some (.int 10) ∧ Fr n0 L ∧ h = h0
set_option maxRecDepth 65536 in
set_option maxHeartbeats 40000000 in
theorem rm_maxt (l : Launch) (Z : State) (a0 : Array Value) (hw : ∀ d ∈ tables_1, d.before a0 Z = true) (ws : List Jvm.Cond)  (h0 : Heap) (n0 : Nat)  :
    MetFree l (⟨"java/lang/Math", "max", "(II)I"⟩ : MethodName) (head1 (Jvm.Cond.code (⟨"java/lang/Math", "max", "(II)I"⟩ : MethodName) jdk_29_method_65_code 2 (some .int) :: ws) ({ frames := 0, cells := 0, slots := 0, locals := 0 } : Room)) (fun a U => a = #[(.int (10 : Int32)), (.int (1 : Int32))] ∧ Z.Warmed39 U.vm ∧ U.heap = h0) (fun _ _ _ _ _ => True) (fun _ U o U' => ∃ v L, o = .returned v ∧ Q_maxt Z  h0 n0 v U'.heap L ∧ FrameEnd U o U' L ({ frames := 0, cells := 0, slots := 0, locals := 0 } : Room).cells ({ frames := 0, cells := 0, slots := 0, locals := 0 } : Room).slots) := by
  refine MetFree.of_bodySF (Jvm.Free.JP.mathPlain rfl (by decide +kernel)) hisR ?_
  intro p e s m args below meth c s₁ Bd hml0 hP hK
  obtain ⟨rfl, hZ, hh⟩ := hP
  have hx := Bd.exec
  have hby := Bd.bytes
  have hml : c.maxLocals = 2 := hml0
  have hown : s.vm.findClass "java/lang/Math" = some m.cls := findClass_of_methodNamed Bd.named
  have hnm := (name_of_methodNamed Bd.named Bd.method).1
  have X0 : Stand p l e ({ frames := 0, cells := 0, slots := 0, locals := 0 } : Room) s m #[(.int (10 : Int32)), (.int (1 : Int32))] below meth c s₁ [] 0 0 := Stand.of_body Bd
  have e0 : s₁.heap = h0 := by rw [← hh, Bd.state]; rfl
  have N0 := Fr.nil n0
  obtain ⟨S0, hS0⟩ : ∃ S0, S0 = s₁.setTop (entryFrame m #[(.int (10 : Int32)), (.int (1 : Int32))] 2) := ⟨_, rfl⟩
  have pre : Pth p e below S0 s₁ (mkF m 0 #[iv (10 : Int32), iv (1 : Int32)] []) := fun t k => by rw [hS0]; exact castTop (ef_maxt m (10 : Int32) (1 : Int32)) k
  replace pre : Pth p e below S0 s₁ (mkF m 10 #[iv (10 : Int32), iv (1 : Int32)] [(.int (10 : Int32))]) := fun t k => pre t (by
    show SS p e below s₁ (mkF m 0 #[iv (10 : Int32), iv (1 : Int32)] []) t
    refine XS.iloadN X0.here hx rfl (hb hby d_maxt_0) rfl ?_
    show SS p e below s₁ (mkF m 1 #[iv (10 : Int32), iv (1 : Int32)] [(.int (10 : Int32))]) t
    refine XS.iloadN X0.here hx rfl (hb hby d_maxt_1) rfl ?_
    show SS p e below s₁ (mkF m 2 #[iv (10 : Int32), iv (1 : Int32)] [(.int (1 : Int32)), (.int (10 : Int32))]) t
    refine XS.icmpNo X0.here hx rfl (hb hby d_maxt_2) rfl (XT.ii_lt_f (by decide)) ?_
    show SS p e below s₁ (mkF m 5 #[iv (10 : Int32), iv (1 : Int32)] []) t
    refine XS.iloadN X0.here hx rfl (hb hby d_maxt_5) rfl ?_
    show SS p e below s₁ (mkF m 6 #[iv (10 : Int32), iv (1 : Int32)] [(.int (10 : Int32))]) t
    refine XS.goto X0.here hx rfl (pc0 := 6) (pc' := 10) rfl (hb hby d_maxt_6) (by decide) (by decide) ?_
    show SS p e below s₁ (mkF m 10 #[iv (10 : Int32), iv (1 : Int32)] [(.int (10 : Int32))]) t
    exact k)
  obtain ⟨fs, hr, hrun, hended, hW, hsame⟩ := X0.leave (v := some (.int (10 : Int32))) (fun h => by rw [Bd.returns] at h; cases h)
  subst hS0
  refine ⟨_, _, pre _ ?_, hrun, hended, _, _, rfl, ?_, ⟨_, rfl⟩, hW, hsame.mono (by decide) (by decide)⟩
  · exact retI X0 hx Bd.returns (hb hby d_maxt_10) hr
  · show Q_maxt Z  h0 n0 _ s₁.heap _
    rw [e0]
    exact ⟨rfl, N0, rfl⟩
def Q_grw (Z : State) (a1 : Addr) (dc : Addr) (md : Int32) (f : Nat → Value) (h0 : Heap) (n0 : Nat) (v : Option Value) (h : Heap) (L : List Loc) : Prop := ∃ b, v = some (.ref b) ∧ Fr n0 L ∧ h0.size ≤ b ∧ Keep h0 h [a1] ∧ OAL Z h a1 b 0 md ∧ OArr Z h b 10 (fun _ => .null)
set_option maxRecDepth 65536 in
set_option maxHeartbeats 40000000 in
theorem rm_grw (l : Launch) (Z : State) (a0 : Array Value) (hw : ∀ d ∈ tables_1, d.before a0 Z = true) (ws : List Jvm.Cond) (a1 : Addr) (dc : Addr) (md : Int32) (f : Nat → Value) (h0 : Heap) (n0 : Nat) (Z0 : n0 ≤ h0.size) (ga : n0 ≤ a1) (hA : OAL Z h0 a1 dc 0 md) (Fd : OFun Z h0 dc (.object "java/lang/Object") 0 f) (Sd : Sta Z h0 "java/util/ArrayList" "DEFAULTCAPACITY_EMPTY_ELEMENTDATA" "[Ljava/lang/Object;" (.ref dc)) :
    MetFree l (⟨"java/util/ArrayList", "grow", "(I)[Ljava/lang/Object;"⟩ : MethodName) (head1 (Jvm.Cond.code (⟨"java/util/ArrayList", "grow", "(I)[Ljava/lang/Object;"⟩ : MethodName) jdk_38_method_6_code 4 (some (.array (.object "java/lang/Object"))) :: ws) ({ frames := 1, cells := 1, slots := 10, locals := 14 } : Room)) (fun a U => a = #[(.ref a1), (.int (1 : Int32))] ∧ Z.Warmed39 U.vm ∧ U.heap = h0) (fun _ _ _ _ _ => True) (fun _ U o U' => ∃ v L, o = .returned v ∧ Q_grw Z a1 dc md f h0 n0 v U'.heap L ∧ FrameEnd U o U' L ({ frames := 1, cells := 1, slots := 10, locals := 14 } : Room).cells ({ frames := 1, cells := 1, slots := 10, locals := 14 } : Room).slots) := by
  refine MetFree.of_bodySF (plainFor_of_name pn_java_util_ArrayList) hisR ?_
  intro p e s m args below meth c s₁ Bd hml0 hP hK
  obtain ⟨rfl, hZ, hh⟩ := hP
  have hx := Bd.exec
  have hby := Bd.bytes
  have hml : c.maxLocals = 4 := hml0
  have hown : s.vm.findClass "java/util/ArrayList" = some m.cls := findClass_of_methodNamed Bd.named
  have hnm := (name_of_methodNamed Bd.named Bd.method).1
  have X0 : Stand p l e ({ frames := 1, cells := 1, slots := 10, locals := 14 } : Room) s m #[(.ref a1), (.int (1 : Int32))] below meth c s₁ [] 0 0 := Stand.of_body Bd
  have e0 : s₁.heap = h0 := by rw [← hh, Bd.state]; rfl
  have N0 := Fr.nil n0
  obtain ⟨S0, hS0⟩ : ∃ S0, S0 = s₁.setTop (entryFrame m #[(.ref a1), (.int (1 : Int32))] 4) := ⟨_, rfl⟩
  have pre : Pth p e below S0 s₁ (mkF m 0 #[rv a1, iv (1 : Int32), .unset, .unset] []) := fun t k => by rw [hS0]; exact castTop (ef_grw m a1 (1 : Int32)) k
  replace pre : Pth p e below S0 s₁ (mkF m 1 #[rv a1, iv (1 : Int32), .unset, .unset] [(.ref a1)]) := fun t k => pre t (by
    show SS p e below s₁ (mkF m 0 #[rv a1, iv (1 : Int32), .unset, .unset] []) t
    refine XS.aloadN X0.here hx rfl (hb hby d_grw_0) rfl rfl ?_
    show SS p e below s₁ (mkF m 1 #[rv a1, iv (1 : Int32), .unset, .unset] [(.ref a1)]) t
    exact k)
  obtain ⟨T37, X37, e37, st37⟩ := getF X0 hx hZ hown (host := "") (Or.inl (own_t hw 52 rfl)) Via.refl e0 hA.2.1 (g := (mkF m 1 #[rv a1, iv (1 : Int32), .unset, .unset] [(.ref a1)])) rfl rfl (hb hby d_grw_1)
  replace pre : Pth p e below S0 T37 (mkF m 4 #[rv a1, iv (1 : Int32), .unset, .unset] [(.ref dc)]) := fun t k => pre t (st37 _ k)
  obtain ⟨cl38, Ar38, Sz38, -⟩ := id Fd
  have hln38 : cl38.slots.size.toInt32 = (0 : Int32) := (congrArg Nat.toInt32 Sz38).trans (rfl)
  replace pre : Pth p e below S0 T37 (mkF m 11 #[rv a1, iv (1 : Int32), iv (0 : Int32), .unset] [(.ref a1)]) := fun t k => pre t (by
    show SS p e below T37 (mkF m 4 #[rv a1, iv (1 : Int32), .unset, .unset] [(.ref dc)]) t
    refine X37.arraylength hx (by rw [e37]; exact Ar38.1) (State.isArrayOf_alike hZ.alike Ar38.2.1) (g := (mkF m 4 #[rv a1, iv (1 : Int32), .unset, .unset] [(.ref dc)])) rfl rfl (hb hby d_grw_4) _ ?_
    rw [hln38]
    show SS p e below T37 (mkF m 5 #[rv a1, iv (1 : Int32), .unset, .unset] [(.int (0 : Int32))]) t
    refine XS.istoreN X37.here hx rfl (hb hby d_grw_5) rfl (l' := #[rv a1, iv (1 : Int32), iv (0 : Int32), .unset]) rfl ?_
    show SS p e below T37 (mkF m 6 #[rv a1, iv (1 : Int32), iv (0 : Int32), .unset] []) t
    refine XS.iloadN X37.here hx rfl (hb hby d_grw_6) rfl ?_
    show SS p e below T37 (mkF m 7 #[rv a1, iv (1 : Int32), iv (0 : Int32), .unset] [(.int (0 : Int32))]) t
    refine XS.ifNo X37.here hx rfl (hb hby d_grw_7) rfl (XT.i0_gt_f (by decide)) ?_
    show SS p e below T37 (mkF m 10 #[rv a1, iv (1 : Int32), iv (0 : Int32), .unset] []) t
    refine XS.aloadN X37.here hx rfl (hb hby d_grw_10) rfl rfl ?_
    show SS p e below T37 (mkF m 11 #[rv a1, iv (1 : Int32), iv (0 : Int32), .unset] [(.ref a1)]) t
    exact k)
  obtain ⟨T39, X39, e39, st39⟩ := getF X37 hx hZ hown (host := "") (Or.inl (own_t hw 52 rfl)) Via.refl e37 hA.2.1 (g := (mkF m 11 #[rv a1, iv (1 : Int32), iv (0 : Int32), .unset] [(.ref a1)])) rfl rfl (hb hby d_grw_11)
  replace pre : Pth p e below S0 T39 (mkF m 14 #[rv a1, iv (1 : Int32), iv (0 : Int32), .unset] [(.ref dc)]) := fun t k => pre t (st39 _ k)
  obtain ⟨T40, X40, e40, st40⟩ := getS2 X39 hx hZ hown (host := "") (Or.inl (own_t hw 51 rfl)) Via.refl e39 Sd (g := (mkF m 14 #[rv a1, iv (1 : Int32), iv (0 : Int32), .unset] [(.ref dc)])) rfl (hb hby d_grw_14)
  replace pre : Pth p e below S0 T40 (mkF m 17 #[rv a1, iv (1 : Int32), iv (0 : Int32), .unset] [(.ref dc), (.ref dc)]) := fun t k => pre t (st40 _ k)
  replace pre : Pth p e below S0 T40 (mkF m 49 #[rv a1, iv (1 : Int32), iv (0 : Int32), .unset] [(.int (1 : Int32)), (.int (10 : Int32)), (.ref a1)]) := fun t k => pre t (by
    show SS p e below T40 (mkF m 17 #[rv a1, iv (1 : Int32), iv (0 : Int32), .unset] [(.ref dc), (.ref dc)]) t
    refine Jvm.RoadKit.acmp (g := (mkF m 17 #[rv a1, iv (1 : Int32), iv (0 : Int32), .unset] [(.ref dc), (.ref dc)])) X40 hx rfl rfl rfl (pc0 := 17) (pc' := 45) (same := true) rfl (hb hby d_grw_17) rfl (decide_eq_true rfl) (by decide) (by decide) ?_
    show SS p e below T40 (mkF m 45 #[rv a1, iv (1 : Int32), iv (0 : Int32), .unset] []) t
    refine XS.aloadN X40.here hx rfl (hb hby d_grw_45) rfl rfl ?_
    show SS p e below T40 (mkF m 46 #[rv a1, iv (1 : Int32), iv (0 : Int32), .unset] [(.ref a1)]) t
    refine XS.bipush X40.here hx rfl (hb hby d_grw_46) ?_
    show SS p e below T40 (mkF m 48 #[rv a1, iv (1 : Int32), iv (0 : Int32), .unset] [(.int (10 : Int32)), (.ref a1)]) t
    refine XS.iloadN X40.here hx rfl (hb hby d_grw_48) rfl ?_
    show SS p e below T40 (mkF m 49 #[rv a1, iv (1 : Int32), iv (0 : Int32), .unset] [(.int (1 : Int32)), (.int (10 : Int32)), (.ref a1)]) t
    exact k)
  obtain ⟨_, _, ⟨T41, L41, k41, n41⟩, -, X41, ⟨Lc41, hQ41, l41, y41, z41⟩, st41⟩ := Jvm.LawKit.callS X40 hx (y := (⟨"java/lang/Math", "max", "(II)I"⟩ : MethodName)) hown (mvT hZ (own_t hw 92 rfl)) (mvT hZ (own_t hw 93 rfl)) (mvT hZ (own_t hw 94 rfl)) (mvT hZ (own_t hw 95 rfl)) (by decide) (backOf (W := 1) (rm_maxt l Z a0 hw [] h0 n0) hZ (own_t hw 95 rfl) (own_t hw 94 rfl) (by decide) (by decide)) (g := (mkF m 49 #[rv a1, iv (1 : Int32), iv (0 : Int32), .unset] [(.int (1 : Int32)), (.int (10 : Int32)), (.ref a1)])) rfl (by rw [hml]; rfl) (argsL := [(.int (10 : Int32)), (.int (1 : Int32))]) (rest := [(.ref a1)]) (lenOf pd__II_I rfl) rfl (by show 2 * 0 + _ ≤ _; exact Nat.le_of_eq rfl) (hb hby d_grw_49) (fun _ _ => ⟨rfl, e40, (by decide : 0 + 0 ≤ _), (by decide : 0 + 0 ≤ _)⟩)
  dsimp only [Pt.U, Pt.locs, Pt.cells, Pt.slots] at X41 l41 y41 z41 st41 hQ41
  subst l41 y41 z41
  obtain ⟨rfl, N41q, e41⟩ := hQ41
  have N41 := Fr.app N0 N41q
  replace pre : Pth p e below S0 T41 (mkF m 52 #[rv a1, iv (1 : Int32), iv (0 : Int32), .unset] [(.int (10 : Int32)), (.ref a1)]) := fun t k => pre t (st41 _ k)
  obtain ⟨T42, h42, k42, X42, e42, E42, A42, Ex42, O42, st42⟩ := newRE X41 hx hZ hown (own_t hw 96 rfl) (own_t hw 97 rfl) e41 (g := (mkF m 52 #[rv a1, iv (1 : Int32), iv (0 : Int32), .unset] [(.int (10 : Int32)), (.ref a1)])) rfl (hb hby d_grw_52) rfl (by decide) (cap := 10) (by decide) (by decide) (by decide) (by decide) (ad := "[Ljava/lang/Object;") (by decide)
  obtain ⟨b42, g42⟩ : ∃ z, z = h0.size := ⟨_, rfl⟩
  rw [← g42] at A42 Ex42 st42
  have F42 := OArr.new A42 Ex42 O42
  replace pre : Pth p e below S0 T42 (mkF m 55 #[rv a1, iv (1 : Int32), iv (0 : Int32), .unset] [(.ref b42), (.ref a1)]) := fun t k => pre t (st42 _ k)
  have Fn : OArr Z h42 b42 10 (fun _ => .null) := F42
  have ltA : a1 < h0.size := hA.1.lt
  have neB : b42 ≠ a1 := by rw [g42]; exact (Nat.ne_of_lt ltA).symm
  have hA1 := hA.ext E42
  replace pre : Pth p e below S0 T42 (mkF m 56 #[rv a1, iv (1 : Int32), iv (0 : Int32), .unset] [(.ref b42), (.ref a1), (.ref b42)]) := fun t k => pre t (by
    show SS p e below T42 (mkF m 55 #[rv a1, iv (1 : Int32), iv (0 : Int32), .unset] [(.ref b42), (.ref a1)]) t
    refine XS.dupX1 X42.here hx rfl (hb hby d_grw_55) rfl rfl rfl ?_
    show SS p e below T42 (mkF m 56 #[rv a1, iv (1 : Int32), iv (0 : Int32), .unset] [(.ref b42), (.ref a1), (.ref b42)]) t
    exact k)
  obtain ⟨T43, h43, X43, e43, W43, st43⟩ := putF X42 hx hZ hown (host := "") (Or.inl (own_t hw 52 rfl)) Via.refl e42 hA1.2.1 hA1.1 (Or.inl (own_t hw 53 rfl)) (own_t hw 31 rfl) (ty := (.array (.object "java/lang/Object"))) (by decide) rfl rfl (g := (mkF m 56 #[rv a1, iv (1 : Int32), iv (0 : Int32), .unset] [(.ref b42), (.ref a1), (.ref b42)])) rfl rfl (hb hby d_grw_56)
  have N43 := Fr.snoc X43 N41 ga
  replace pre : Pth p e below S0 T43 (mkF m 59 #[rv a1, iv (1 : Int32), iv (0 : Int32), .unset] [(.ref b42)]) := fun t k => pre t (st43 _ k)
  obtain ⟨fs, hr, hrun, hended, hW, hsame⟩ := X43.leave (v := some (.ref b42)) (fun h => by rw [Bd.returns] at h; cases h)
  subst hS0
  refine ⟨_, _, pre _ ?_, hrun, hended, _, _, rfl, ?_, ⟨_, rfl⟩, hW, hsame.mono (by decide) (by decide)⟩
  · exact retOut X43 hx (t := (.array (.object "java/lang/Object"))) Bd.returns rfl (by simp [Value.isRef, FieldType.isReference]) (hb hby d_grw_59) hr
  · show Q_grw Z a1 dc md f h0 n0 _ T43.heap _
    rw [e43]
    exact ⟨b42, rfl, N43, by rw [g42]; exact Nat.le_refl _, (own_keep_ext E42 [a1]).wr W43 (Or.inl (List.mem_of_getElem? (i := 0) rfl)), ⟨hA1.1.wr W43, hA1.2.1.same W43, hA1.2.2.1.other W43 (Or.inr (slot_ne (Or.inl (own_t hw 76 rfl)) (Or.inl (own_t hw 53 rfl)) (by decide) (t := .int) (t' := (.array (.object "java/lang/Object"))) (by decide) (by decide))), hA1.2.2.2.other W43 (Or.inr (slot_ne (Or.inl (own_t hw 50 rfl)) (Or.inl (own_t hw 53 rfl)) (by decide) (t := .int) (t' := (.array (.object "java/lang/Object"))) (by decide) (by decide)))⟩, Fn.other W43 neB⟩
def Q_gr0 (Z : State) (a1 : Addr) (dc : Addr) (md : Int32) (f : Nat → Value) (h0 : Heap) (n0 : Nat) (v : Option Value) (h : Heap) (L : List Loc) : Prop := ∃ b, v = some (.ref b) ∧ Fr n0 L ∧ h0.size ≤ b ∧ Keep h0 h [a1] ∧ OAL Z h a1 b 0 md ∧ OArr Z h b 10 (fun _ => .null)
set_option maxRecDepth 65536 in
set_option maxHeartbeats 40000000 in
theorem rm_gr0 (l : Launch) (Z : State) (a0 : Array Value) (hw : ∀ d ∈ tables_1, d.before a0 Z = true) (ws : List Jvm.Cond) (a1 : Addr) (dc : Addr) (md : Int32) (f : Nat → Value) (h0 : Heap) (n0 : Nat) (Z0 : n0 ≤ h0.size) (ga : n0 ≤ a1) (hA : OAL Z h0 a1 dc 0 md) (Fd : OFun Z h0 dc (.object "java/lang/Object") 0 f) (Sd : Sta Z h0 "java/util/ArrayList" "DEFAULTCAPACITY_EMPTY_ELEMENTDATA" "[Ljava/lang/Object;" (.ref dc)) :
    MetFree l (⟨"java/util/ArrayList", "grow", "()[Ljava/lang/Object;"⟩ : MethodName) (head1 (Jvm.Cond.code (⟨"java/util/ArrayList", "grow", "()[Ljava/lang/Object;"⟩ : MethodName) jdk_38_method_7_code 1 (some (.array (.object "java/lang/Object"))) :: ws) ({ frames := 2, cells := 1, slots := 10, locals := 29 } : Room)) (fun a U => a = #[(.ref a1)] ∧ Z.Warmed39 U.vm ∧ U.heap = h0) (fun _ _ _ _ _ => True) (fun _ U o U' => ∃ v L, o = .returned v ∧ Q_gr0 Z a1 dc md f h0 n0 v U'.heap L ∧ FrameEnd U o U' L ({ frames := 2, cells := 1, slots := 10, locals := 29 } : Room).cells ({ frames := 2, cells := 1, slots := 10, locals := 29 } : Room).slots) := by
  refine MetFree.of_bodySF (plainFor_of_name pn_java_util_ArrayList) hisR ?_
  intro p e s m args below meth c s₁ Bd hml0 hP hK
  obtain ⟨rfl, hZ, hh⟩ := hP
  have hx := Bd.exec
  have hby := Bd.bytes
  have hml : c.maxLocals = 1 := hml0
  have hown : s.vm.findClass "java/util/ArrayList" = some m.cls := findClass_of_methodNamed Bd.named
  have hnm := (name_of_methodNamed Bd.named Bd.method).1
  have X0 : Stand p l e ({ frames := 2, cells := 1, slots := 10, locals := 29 } : Room) s m #[(.ref a1)] below meth c s₁ [] 0 0 := Stand.of_body Bd
  have e0 : s₁.heap = h0 := by rw [← hh, Bd.state]; rfl
  have N0 := Fr.nil n0
  obtain ⟨S0, hS0⟩ : ∃ S0, S0 = s₁.setTop (entryFrame m #[(.ref a1)] 1) := ⟨_, rfl⟩
  have pre : Pth p e below S0 s₁ (mkF m 0 #[rv a1] []) := fun t k => by rw [hS0]; exact castTop (ef_gr0 m a1) k
  replace pre : Pth p e below S0 s₁ (mkF m 2 #[rv a1] [(.ref a1), (.ref a1)]) := fun t k => pre t (by
    show SS p e below s₁ (mkF m 0 #[rv a1] []) t
    refine XS.aloadN X0.here hx rfl (hb hby d_gr0_0) rfl rfl ?_
    show SS p e below s₁ (mkF m 1 #[rv a1] [(.ref a1)]) t
    refine XS.aloadN X0.here hx rfl (hb hby d_gr0_1) rfl rfl ?_
    show SS p e below s₁ (mkF m 2 #[rv a1] [(.ref a1), (.ref a1)]) t
    exact k)
  obtain ⟨T44, X44, e44, st44⟩ := getF X0 hx hZ hown (host := "") (Or.inl (own_t hw 75 rfl)) Via.refl e0 hA.2.2.1 (g := (mkF m 2 #[rv a1] [(.ref a1), (.ref a1)])) rfl rfl (hb hby d_gr0_2)
  replace pre : Pth p e below S0 T44 (mkF m 5 #[rv a1] [(.int (0 : Int32)), (.ref a1)]) := fun t k => pre t (st44 _ k)
  replace pre : Pth p e below S0 T44 (mkF m 7 #[rv a1] [(.int ((0 : Int32) + (1 : Int32))), (.ref a1)]) := fun t k => pre t (by
    show SS p e below T44 (mkF m 5 #[rv a1] [(.int (0 : Int32)), (.ref a1)]) t
    refine XS.iconst X44.here hx rfl (hb hby d_gr0_5) ?_
    show SS p e below T44 (mkF m 6 #[rv a1] [(.int (1 : Int32)), (.int (0 : Int32)), (.ref a1)]) t
    refine XS.iadd X44.here hx rfl (hb hby d_gr0_6) rfl ?_
    show SS p e below T44 (mkF m 7 #[rv a1] [(.int ((0 : Int32) + (1 : Int32))), (.ref a1)]) t
    exact k)
  replace pre : Pth p e below S0 T44 (mkF m 7 #[rv a1] [(.int (1 : Int32)), (.ref a1)]) := pre
  obtain ⟨cq45, q45, q45'⟩ := Exa.cell hA.1
  obtain ⟨_, _, ⟨T45, L45, k45, n45⟩, -, X45, ⟨Lc45, hQ45, l45, y45, z45⟩, st45⟩ := X44.privateBack hx (y := (⟨"java/util/ArrayList", "grow", "(I)[Ljava/lang/Object;"⟩ : MethodName)) hown (mvT hZ (own_t hw 87 rfl)) (mvT hZ (own_t hw 88 rfl)) (mvT hZ (own_t hw 90 rfl)) (Cond.privateMethod_at (mvP hZ (own_t hw 89 rfl) (args := #[]))) (mvT hZ (own_t hw 91 rfl)) (by decide) (backOf (W := 0) (rm_grw l Z a0 hw [] a1 dc md f h0 n0 Z0 ga hA Fd Sd) hZ (own_t hw 91 rfl) (own_t hw 32 rfl) (by decide) (by decide)) (g := (mkF m 7 #[rv a1] [(.int (1 : Int32)), (.ref a1)])) rfl (by rw [hml]; rfl) (Steps.refl _) (a := a1) (by rw [e44]; exact q45) q45' (argsL := [(.int (1 : Int32))]) (rest := []) (lenOf pd__I__Ljava_lang_Object_ rfl) rfl (by show 2 * 0 + _ ≤ _; exact Nat.le_of_eq rfl) (hb hby d_gr0_7) (fun _ _ => ⟨rfl, e44, (by decide : 0 + 1 ≤ _), (by decide : 0 + 10 ≤ _)⟩)
  dsimp only [Pt.U, Pt.locs, Pt.cells, Pt.slots] at X45 l45 y45 z45 st45 hQ45
  subst l45 y45 z45
  obtain ⟨bb, rfl, N45q, gB, K45, A45, O45⟩ := hQ45
  have N45 := Fr.app N0 N45q
  replace pre : Pth p e below S0 T45 (mkF m 10 #[rv a1] [(.ref bb)]) := fun t k => pre t (st45.trans k)
  obtain ⟨fs, hr, hrun, hended, hW, hsame⟩ := X45.leave (v := some (.ref bb)) (fun h => by rw [Bd.returns] at h; cases h)
  subst hS0
  refine ⟨_, _, pre _ ?_, hrun, hended, _, _, rfl, ?_, ⟨_, rfl⟩, hW, hsame.mono (by decide) (by decide)⟩
  · exact retOut X45 hx (t := (.array (.object "java/lang/Object"))) Bd.returns rfl (by simp [Value.isRef, FieldType.isReference]) (hb hby d_gr0_10) hr
  · show Q_gr0 Z a1 dc md f h0 n0 _ T45.heap _
    exact ⟨bb, rfl, N45, gB, K45, A45, O45⟩
def Q_adx0 (Z : State) (a1 : Addr) (e1 : Addr) (dc : Addr) (md : Int32) (f : Nat → Value) (h0 : Heap) (n0 : Nat) (v : Option Value) (h : Heap) (L : List Loc) : Prop := v = none ∧ Fr n0 L ∧ ∃ b, h0.size ≤ b ∧ Keep h0 h [a1] ∧ OAL Z h a1 b 1 md ∧ OArr Z h b 10 (fun j => if j = 0 then .ref e1 else .null)
set_option maxRecDepth 65536 in
set_option maxHeartbeats 40000000 in
theorem rm_adx0 (l : Launch) (Z : State) (a0 : Array Value) (hw : ∀ d ∈ tables_1, d.before a0 Z = true) (ws : List Jvm.Cond) (a1 : Addr) (e1 : Addr) (dc : Addr) (md : Int32) (f : Nat → Value) (h0 : Heap) (n0 : Nat) (Z0 : n0 ≤ h0.size) (ga : n0 ≤ a1) (hA : OAL Z h0 a1 dc 0 md) (Fd : OFun Z h0 dc (.object "java/lang/Object") 0 f) (Sd : Sta Z h0 "java/util/ArrayList" "DEFAULTCAPACITY_EMPTY_ELEMENTDATA" "[Ljava/lang/Object;" (.ref dc)) (Ie : Ins Z h0 e1 "java/lang/Object" true) :
    MetFree l (⟨"java/util/ArrayList", "add", "(Ljava/lang/Object;[Ljava/lang/Object;I)V"⟩ : MethodName) (head1 (Jvm.Cond.code (⟨"java/util/ArrayList", "add", "(Ljava/lang/Object;[Ljava/lang/Object;I)V"⟩ : MethodName) jdk_38_method_24_code 4 none :: ws) ({ frames := 3, cells := 1, slots := 10, locals := 41 } : Room)) (fun a U => a = #[(.ref a1), (.ref e1), (.ref dc), (.int (0 : Int32))] ∧ Z.Warmed39 U.vm ∧ U.heap = h0) (fun _ _ _ _ _ => True) (fun _ U o U' => ∃ v L, o = .returned v ∧ Q_adx0 Z a1 e1 dc md f h0 n0 v U'.heap L ∧ FrameEnd U o U' L ({ frames := 3, cells := 1, slots := 10, locals := 41 } : Room).cells ({ frames := 3, cells := 1, slots := 10, locals := 41 } : Room).slots) := by
  refine MetFree.of_bodySF (plainFor_of_name pn_java_util_ArrayList) hisR ?_
  intro p e s m args below meth c s₁ Bd hml0 hP hK
  obtain ⟨rfl, hZ, hh⟩ := hP
  have hx := Bd.exec
  have hby := Bd.bytes
  have hml : c.maxLocals = 4 := hml0
  have hown : s.vm.findClass "java/util/ArrayList" = some m.cls := findClass_of_methodNamed Bd.named
  have hnm := (name_of_methodNamed Bd.named Bd.method).1
  have X0 : Stand p l e ({ frames := 3, cells := 1, slots := 10, locals := 41 } : Room) s m #[(.ref a1), (.ref e1), (.ref dc), (.int (0 : Int32))] below meth c s₁ [] 0 0 := Stand.of_body Bd
  have e0 : s₁.heap = h0 := by rw [← hh, Bd.state]; rfl
  have N0 := Fr.nil n0
  obtain ⟨S0, hS0⟩ : ∃ S0, S0 = s₁.setTop (entryFrame m #[(.ref a1), (.ref e1), (.ref dc), (.int (0 : Int32))] 4) := ⟨_, rfl⟩
  have pre : Pth p e below S0 s₁ (mkF m 0 #[rv a1, rv e1, rv dc, iv (0 : Int32)] []) := fun t k => by rw [hS0]; exact castTop (ef_adx0 m a1 e1 dc (0 : Int32)) k
  replace pre : Pth p e below S0 s₁ (mkF m 2 #[rv a1, rv e1, rv dc, iv (0 : Int32)] [(.ref dc), (.int (0 : Int32))]) := fun t k => pre t (by
    show SS p e below s₁ (mkF m 0 #[rv a1, rv e1, rv dc, iv (0 : Int32)] []) t
    refine XS.iloadN X0.here hx rfl (hb hby d_adx0_0) rfl ?_
    show SS p e below s₁ (mkF m 1 #[rv a1, rv e1, rv dc, iv (0 : Int32)] [(.int (0 : Int32))]) t
    refine XS.aloadN X0.here hx rfl (hb hby d_adx0_1) rfl rfl ?_
    show SS p e below s₁ (mkF m 2 #[rv a1, rv e1, rv dc, iv (0 : Int32)] [(.ref dc), (.int (0 : Int32))]) t
    exact k)
  obtain ⟨cl46, Ar46, Sz46, -⟩ := id Fd
  have hln46 : cl46.slots.size.toInt32 = (0 : Int32) := (congrArg Nat.toInt32 Sz46).trans (rfl)
  replace pre : Pth p e below S0 s₁ (mkF m 7 #[rv a1, rv e1, rv dc, iv (0 : Int32)] [(.ref a1)]) := fun t k => pre t (by
    show SS p e below s₁ (mkF m 2 #[rv a1, rv e1, rv dc, iv (0 : Int32)] [(.ref dc), (.int (0 : Int32))]) t
    refine X0.arraylength hx (by rw [e0]; exact Ar46.1) (State.isArrayOf_alike hZ.alike Ar46.2.1) (g := (mkF m 2 #[rv a1, rv e1, rv dc, iv (0 : Int32)] [(.ref dc), (.int (0 : Int32))])) rfl rfl (hb hby d_adx0_2) _ ?_
    rw [hln46]
    show SS p e below s₁ (mkF m 3 #[rv a1, rv e1, rv dc, iv (0 : Int32)] [(.int (0 : Int32)), (.int (0 : Int32))]) t
    refine XS.icmpNo X0.here hx rfl (hb hby d_adx0_3) rfl (XT.ii_ne_f rfl) ?_
    show SS p e below s₁ (mkF m 6 #[rv a1, rv e1, rv dc, iv (0 : Int32)] []) t
    refine XS.aloadN X0.here hx rfl (hb hby d_adx0_6) rfl rfl ?_
    show SS p e below s₁ (mkF m 7 #[rv a1, rv e1, rv dc, iv (0 : Int32)] [(.ref a1)]) t
    exact k)
  obtain ⟨cq47, q47, q47'⟩ := Exa.cell hA.1
  obtain ⟨_, _, ⟨T47, L47, k47, n47⟩, -, X47, ⟨Lc47, hQ47, l47, y47, z47⟩, st47⟩ := X0.privateBack hx (y := (⟨"java/util/ArrayList", "grow", "()[Ljava/lang/Object;"⟩ : MethodName)) hown (mvT hZ (own_t hw 82 rfl)) (mvT hZ (own_t hw 83 rfl)) (mvT hZ (own_t hw 85 rfl)) (Cond.privateMethod_at (mvP hZ (own_t hw 84 rfl) (args := #[]))) (mvT hZ (own_t hw 86 rfl)) (by decide) (backOf (W := 0) (rm_gr0 l Z a0 hw [] a1 dc md f h0 n0 Z0 ga hA Fd Sd) hZ (own_t hw 86 rfl) (own_t hw 32 rfl) (by decide) (by decide)) (g := (mkF m 7 #[rv a1, rv e1, rv dc, iv (0 : Int32)] [(.ref a1)])) rfl (by rw [hml]; rfl) (Steps.refl _) (a := a1) (by rw [e0]; exact q47) q47' (argsL := []) (rest := []) (lenOf pd____Ljava_lang_Object_ rfl) rfl (by show 2 * 0 + _ ≤ _; exact Nat.le_of_eq rfl) (hb hby d_adx0_7) (fun _ _ => ⟨rfl, e0, (by decide : 0 + 1 ≤ _), (by decide : 0 + 10 ≤ _)⟩)
  dsimp only [Pt.U, Pt.locs, Pt.cells, Pt.slots] at X47 l47 y47 z47 st47 hQ47
  subst l47 y47 z47
  obtain ⟨bb, rfl, N47q, gB, K47, A47, O47⟩ := hQ47
  have N47 := Fr.app N0 N47q
  replace pre : Pth p e below S0 T47 (mkF m 10 #[rv a1, rv e1, rv dc, iv (0 : Int32)] [(.ref bb)]) := fun t k => pre t (st47.trans k)
  have neB : a1 ≠ bb := Nat.ne_of_lt (Nat.lt_of_lt_of_le hA.1.lt gB)
  have Ie1 : Ins Z T47.heap e1 "java/lang/Object" true := own_ins_keep Ie K47
  replace pre : Pth p e below S0 T47 (mkF m 14 #[rv a1, rv e1, rv bb, iv (0 : Int32)] [(.ref e1), (.int (0 : Int32)), (.ref bb)]) := fun t k => pre t (by
    show SS p e below T47 (mkF m 10 #[rv a1, rv e1, rv dc, iv (0 : Int32)] [(.ref bb)]) t
    refine XS.astoreN X47.here hx rfl (hb hby d_adx0_10) rfl rfl (l' := #[rv a1, rv e1, rv bb, iv (0 : Int32)]) rfl ?_
    show SS p e below T47 (mkF m 11 #[rv a1, rv e1, rv bb, iv (0 : Int32)] []) t
    refine XS.aloadN X47.here hx rfl (hb hby d_adx0_11) rfl rfl ?_
    show SS p e below T47 (mkF m 12 #[rv a1, rv e1, rv bb, iv (0 : Int32)] [(.ref bb)]) t
    refine XS.iloadN X47.here hx rfl (hb hby d_adx0_12) rfl ?_
    show SS p e below T47 (mkF m 13 #[rv a1, rv e1, rv bb, iv (0 : Int32)] [(.int (0 : Int32)), (.ref bb)]) t
    refine XS.aloadN X47.here hx rfl (hb hby d_adx0_13) rfl rfl ?_
    show SS p e below T47 (mkF m 14 #[rv a1, rv e1, rv bb, iv (0 : Int32)] [(.ref e1), (.int (0 : Int32)), (.ref bb)]) t
    exact k)
  obtain ⟨-, cl48, Ar48, Sz48, -, Ov48⟩ := id O47
  obtain ⟨T48, h48, X48, e48, W48, st48⟩ := stR X47 hx hZ rfl Ar48 (j := (0 : Int32)) (by rw [Sz48]; exact (by decide)) rfl (Sto.of Ar48 Ov48 Ie1) (g := (mkF m 14 #[rv a1, rv e1, rv bb, iv (0 : Int32)] [(.ref e1), (.int (0 : Int32)), (.ref bb)])) rfl rfl (hb hby d_adx0_14)
  have F48 := OArr.set O47 W48
  have N48 := Fr.snoc X48 N47 (Nat.le_trans Z0 gB)
  replace pre : Pth p e below S0 T48 (mkF m 15 #[rv a1, rv e1, rv bb, iv (0 : Int32)] []) := fun t k => pre t (st48 _ k)
  have A1 := A47.other W48 neB
  replace pre : Pth p e below S0 T48 (mkF m 19 #[rv a1, rv e1, rv bb, iv (0 : Int32)] [(.int ((0 : Int32) + (1 : Int32))), (.ref a1)]) := fun t k => pre t (by
    show SS p e below T48 (mkF m 15 #[rv a1, rv e1, rv bb, iv (0 : Int32)] []) t
    refine XS.aloadN X48.here hx rfl (hb hby d_adx0_15) rfl rfl ?_
    show SS p e below T48 (mkF m 16 #[rv a1, rv e1, rv bb, iv (0 : Int32)] [(.ref a1)]) t
    refine XS.iloadN X48.here hx rfl (hb hby d_adx0_16) rfl ?_
    show SS p e below T48 (mkF m 17 #[rv a1, rv e1, rv bb, iv (0 : Int32)] [(.int (0 : Int32)), (.ref a1)]) t
    refine XS.iconst X48.here hx rfl (hb hby d_adx0_17) ?_
    show SS p e below T48 (mkF m 18 #[rv a1, rv e1, rv bb, iv (0 : Int32)] [(.int (1 : Int32)), (.int (0 : Int32)), (.ref a1)]) t
    refine XS.iadd X48.here hx rfl (hb hby d_adx0_18) rfl ?_
    show SS p e below T48 (mkF m 19 #[rv a1, rv e1, rv bb, iv (0 : Int32)] [(.int ((0 : Int32) + (1 : Int32))), (.ref a1)]) t
    exact k)
  obtain ⟨T49, h49, X49, e49, W49, st49⟩ := putF X48 hx hZ hown (host := "") (Or.inl (own_t hw 75 rfl)) Via.refl e48 A1.2.2.1 A1.1 (Or.inl (own_t hw 76 rfl)) (own_t hw 31 rfl) (ty := .int) (by decide) rfl rfl (g := (mkF m 19 #[rv a1, rv e1, rv bb, iv (0 : Int32)] [(.int ((0 : Int32) + (1 : Int32))), (.ref a1)])) rfl rfl (hb hby d_adx0_19)
  have N49 := Fr.snoc X49 N48 ga
  replace pre : Pth p e below S0 T49 (mkF m 22 #[rv a1, rv e1, rv bb, iv (0 : Int32)] []) := fun t k => pre t (st49 _ k)
  obtain ⟨fs, hr, hrun, hended, hW, hsame⟩ := X49.leave (v := none) (fun _ => rfl)
  subst hS0
  refine ⟨_, _, pre _ ?_, hrun, hended, _, _, rfl, ?_, ⟨_, rfl⟩, hW, hsame.mono (by decide) (by decide)⟩
  · exact X49.returnOut hx Bd.returns (hb hby d_adx0_22) hr
  · show Q_adx0 Z a1 e1 dc md f h0 n0 _ T49.heap _
    rw [e49]
    exact ⟨rfl, N49, bb, gB, (K47.wr W48 (Or.inr gB)).wr W49 (Or.inl (List.mem_of_getElem? (i := 0) rfl)), ⟨A1.1.wr W49, A1.2.1.other W49 (Or.inr (slot_ne (Or.inl (own_t hw 53 rfl)) (Or.inl (own_t hw 76 rfl)) (by decide) (t := (.array (.object "java/lang/Object"))) (t' := .int) (by decide) (by decide))), A1.2.2.1.same W49, A1.2.2.2.other W49 (Or.inr (slot_ne (Or.inl (own_t hw 50 rfl)) (Or.inl (own_t hw 76 rfl)) (by decide) (t := .int) (t' := .int) (by decide) (by decide)))⟩, F48.other W49 neB.symm⟩
def Q_adx1 (Z : State) (a1 : Addr) (e1 : Addr) (b1 : Addr) (md : Int32) (f : Nat → Value) (h0 : Heap) (n0 : Nat) (v : Option Value) (h : Heap) (L : List Loc) : Prop := v = none ∧ Fr n0 L ∧ Keep h0 h [b1, a1] ∧ OAL Z h a1 b1 2 md ∧ OArr Z h b1 10 (fun j => if j = 1 then .ref e1 else f j)
set_option maxRecDepth 65536 in
set_option maxHeartbeats 40000000 in
theorem rm_adx1 (l : Launch) (Z : State) (a0 : Array Value) (hw : ∀ d ∈ tables_1, d.before a0 Z = true) (ws : List Jvm.Cond) (a1 : Addr) (e1 : Addr) (b1 : Addr) (md : Int32) (f : Nat → Value) (h0 : Heap) (n0 : Nat) (Z0 : n0 ≤ h0.size) (ga : n0 ≤ a1) (gb : n0 ≤ b1) (neB : a1 ≠ b1) (hA : OAL Z h0 a1 b1 1 md) (Fd : OArr Z h0 b1 10 f) (Ie : Ins Z h0 e1 "java/lang/Object" true) :
    MetFree l (⟨"java/util/ArrayList", "add", "(Ljava/lang/Object;[Ljava/lang/Object;I)V"⟩ : MethodName) (head1 (Jvm.Cond.code (⟨"java/util/ArrayList", "add", "(Ljava/lang/Object;[Ljava/lang/Object;I)V"⟩ : MethodName) jdk_38_method_24_code 4 none :: ws) ({ frames := 0, cells := 0, slots := 0, locals := 0 } : Room)) (fun a U => a = #[(.ref a1), (.ref e1), (.ref b1), (.int (1 : Int32))] ∧ Z.Warmed39 U.vm ∧ U.heap = h0) (fun _ _ _ _ _ => True) (fun _ U o U' => ∃ v L, o = .returned v ∧ Q_adx1 Z a1 e1 b1 md f h0 n0 v U'.heap L ∧ FrameEnd U o U' L ({ frames := 0, cells := 0, slots := 0, locals := 0 } : Room).cells ({ frames := 0, cells := 0, slots := 0, locals := 0 } : Room).slots) := by
  refine MetFree.of_bodySF (plainFor_of_name pn_java_util_ArrayList) hisR ?_
  intro p e s m args below meth c s₁ Bd hml0 hP hK
  obtain ⟨rfl, hZ, hh⟩ := hP
  have hx := Bd.exec
  have hby := Bd.bytes
  have hml : c.maxLocals = 4 := hml0
  have hown : s.vm.findClass "java/util/ArrayList" = some m.cls := findClass_of_methodNamed Bd.named
  have hnm := (name_of_methodNamed Bd.named Bd.method).1
  have X0 : Stand p l e ({ frames := 0, cells := 0, slots := 0, locals := 0 } : Room) s m #[(.ref a1), (.ref e1), (.ref b1), (.int (1 : Int32))] below meth c s₁ [] 0 0 := Stand.of_body Bd
  have e0 : s₁.heap = h0 := by rw [← hh, Bd.state]; rfl
  have N0 := Fr.nil n0
  obtain ⟨S0, hS0⟩ : ∃ S0, S0 = s₁.setTop (entryFrame m #[(.ref a1), (.ref e1), (.ref b1), (.int (1 : Int32))] 4) := ⟨_, rfl⟩
  have pre : Pth p e below S0 s₁ (mkF m 0 #[rv a1, rv e1, rv b1, iv (1 : Int32)] []) := fun t k => by rw [hS0]; exact castTop (ef_adx1 m a1 e1 b1 (1 : Int32)) k
  replace pre : Pth p e below S0 s₁ (mkF m 2 #[rv a1, rv e1, rv b1, iv (1 : Int32)] [(.ref b1), (.int (1 : Int32))]) := fun t k => pre t (by
    show SS p e below s₁ (mkF m 0 #[rv a1, rv e1, rv b1, iv (1 : Int32)] []) t
    refine XS.iloadN X0.here hx rfl (hb hby d_adx1_0) rfl ?_
    show SS p e below s₁ (mkF m 1 #[rv a1, rv e1, rv b1, iv (1 : Int32)] [(.int (1 : Int32))]) t
    refine XS.aloadN X0.here hx rfl (hb hby d_adx1_1) rfl rfl ?_
    show SS p e below s₁ (mkF m 2 #[rv a1, rv e1, rv b1, iv (1 : Int32)] [(.ref b1), (.int (1 : Int32))]) t
    exact k)
  obtain ⟨cl50, Ar50, Sz50, -⟩ := id Fd.fun
  have hln50 : cl50.slots.size.toInt32 = (10 : Int32) := (congrArg Nat.toInt32 Sz50).trans (rfl)
  replace pre : Pth p e below S0 s₁ (mkF m 14 #[rv a1, rv e1, rv b1, iv (1 : Int32)] [(.ref e1), (.int (1 : Int32)), (.ref b1)]) := fun t k => pre t (by
    show SS p e below s₁ (mkF m 2 #[rv a1, rv e1, rv b1, iv (1 : Int32)] [(.ref b1), (.int (1 : Int32))]) t
    refine X0.arraylength hx (by rw [e0]; exact Ar50.1) (State.isArrayOf_alike hZ.alike Ar50.2.1) (g := (mkF m 2 #[rv a1, rv e1, rv b1, iv (1 : Int32)] [(.ref b1), (.int (1 : Int32))])) rfl rfl (hb hby d_adx1_2) _ ?_
    rw [hln50]
    show SS p e below s₁ (mkF m 3 #[rv a1, rv e1, rv b1, iv (1 : Int32)] [(.int (10 : Int32)), (.int (1 : Int32))]) t
    refine XS.icmpYes X0.here hx rfl (pc0 := 3) (pc' := 11) rfl (hb hby d_adx1_3) rfl (XT.ii_ne_t (by decide)) (by decide) (by decide) ?_
    show SS p e below s₁ (mkF m 11 #[rv a1, rv e1, rv b1, iv (1 : Int32)] []) t
    refine XS.aloadN X0.here hx rfl (hb hby d_adx1_11) rfl rfl ?_
    show SS p e below s₁ (mkF m 12 #[rv a1, rv e1, rv b1, iv (1 : Int32)] [(.ref b1)]) t
    refine XS.iloadN X0.here hx rfl (hb hby d_adx1_12) rfl ?_
    show SS p e below s₁ (mkF m 13 #[rv a1, rv e1, rv b1, iv (1 : Int32)] [(.int (1 : Int32)), (.ref b1)]) t
    refine XS.aloadN X0.here hx rfl (hb hby d_adx1_13) rfl rfl ?_
    show SS p e below s₁ (mkF m 14 #[rv a1, rv e1, rv b1, iv (1 : Int32)] [(.ref e1), (.int (1 : Int32)), (.ref b1)]) t
    exact k)
  obtain ⟨-, cl51, Ar51, Sz51, -, Ov51⟩ := id Fd
  obtain ⟨T51, h51, X51, e51, W51, st51⟩ := stR X0 hx hZ e0 Ar51 (j := (1 : Int32)) (by rw [Sz51]; exact (by decide)) rfl (Sto.of Ar51 Ov51 Ie) (g := (mkF m 14 #[rv a1, rv e1, rv b1, iv (1 : Int32)] [(.ref e1), (.int (1 : Int32)), (.ref b1)])) rfl rfl (hb hby d_adx1_14)
  have F51 := OArr.set Fd W51
  have N51 := Fr.snoc X51 N0 gb
  replace pre : Pth p e below S0 T51 (mkF m 15 #[rv a1, rv e1, rv b1, iv (1 : Int32)] []) := fun t k => pre t (st51 _ k)
  have A1 := hA.other W51 neB
  replace pre : Pth p e below S0 T51 (mkF m 19 #[rv a1, rv e1, rv b1, iv (1 : Int32)] [(.int ((1 : Int32) + (1 : Int32))), (.ref a1)]) := fun t k => pre t (by
    show SS p e below T51 (mkF m 15 #[rv a1, rv e1, rv b1, iv (1 : Int32)] []) t
    refine XS.aloadN X51.here hx rfl (hb hby d_adx1_15) rfl rfl ?_
    show SS p e below T51 (mkF m 16 #[rv a1, rv e1, rv b1, iv (1 : Int32)] [(.ref a1)]) t
    refine XS.iloadN X51.here hx rfl (hb hby d_adx1_16) rfl ?_
    show SS p e below T51 (mkF m 17 #[rv a1, rv e1, rv b1, iv (1 : Int32)] [(.int (1 : Int32)), (.ref a1)]) t
    refine XS.iconst X51.here hx rfl (hb hby d_adx1_17) ?_
    show SS p e below T51 (mkF m 18 #[rv a1, rv e1, rv b1, iv (1 : Int32)] [(.int (1 : Int32)), (.int (1 : Int32)), (.ref a1)]) t
    refine XS.iadd X51.here hx rfl (hb hby d_adx1_18) rfl ?_
    show SS p e below T51 (mkF m 19 #[rv a1, rv e1, rv b1, iv (1 : Int32)] [(.int ((1 : Int32) + (1 : Int32))), (.ref a1)]) t
    exact k)
  obtain ⟨T52, h52, X52, e52, W52, st52⟩ := putF X51 hx hZ hown (host := "") (Or.inl (own_t hw 75 rfl)) Via.refl e51 A1.2.2.1 A1.1 (Or.inl (own_t hw 76 rfl)) (own_t hw 31 rfl) (ty := .int) (by decide) rfl rfl (g := (mkF m 19 #[rv a1, rv e1, rv b1, iv (1 : Int32)] [(.int ((1 : Int32) + (1 : Int32))), (.ref a1)])) rfl rfl (hb hby d_adx1_19)
  have N52 := Fr.snoc X52 N51 ga
  replace pre : Pth p e below S0 T52 (mkF m 22 #[rv a1, rv e1, rv b1, iv (1 : Int32)] []) := fun t k => pre t (st52 _ k)
  obtain ⟨fs, hr, hrun, hended, hW, hsame⟩ := X52.leave (v := none) (fun _ => rfl)
  subst hS0
  refine ⟨_, _, pre _ ?_, hrun, hended, _, _, rfl, ?_, ⟨_, rfl⟩, hW, hsame.mono (by decide) (by decide)⟩
  · exact X52.returnOut hx Bd.returns (hb hby d_adx1_22) hr
  · show Q_adx1 Z a1 e1 b1 md f h0 n0 _ T52.heap _
    rw [e52]
    exact ⟨rfl, N52, ((Keep.refl h0 [b1, a1]).wr W51 (Or.inl (List.mem_of_getElem? (i := 0) rfl))).wr W52 (Or.inl (List.mem_of_getElem? (i := 1) rfl)), ⟨A1.1.wr W52, A1.2.1.other W52 (Or.inr (slot_ne (Or.inl (own_t hw 53 rfl)) (Or.inl (own_t hw 76 rfl)) (by decide) (t := (.array (.object "java/lang/Object"))) (t' := .int) (by decide) (by decide))), A1.2.2.1.same W52, A1.2.2.2.other W52 (Or.inr (slot_ne (Or.inl (own_t hw 50 rfl)) (Or.inl (own_t hw 76 rfl)) (by decide) (t := .int) (t' := .int) (by decide) (by decide)))⟩, F51.other W52 neB.symm⟩
def Q_adx2 (Z : State) (a1 : Addr) (e1 : Addr) (b1 : Addr) (md : Int32) (f : Nat → Value) (h0 : Heap) (n0 : Nat) (v : Option Value) (h : Heap) (L : List Loc) : Prop := v = none ∧ Fr n0 L ∧ Keep h0 h [b1, a1] ∧ OAL Z h a1 b1 3 md ∧ OArr Z h b1 10 (fun j => if j = 2 then .ref e1 else f j)
set_option maxRecDepth 65536 in
set_option maxHeartbeats 40000000 in
theorem rm_adx2 (l : Launch) (Z : State) (a0 : Array Value) (hw : ∀ d ∈ tables_1, d.before a0 Z = true) (ws : List Jvm.Cond) (a1 : Addr) (e1 : Addr) (b1 : Addr) (md : Int32) (f : Nat → Value) (h0 : Heap) (n0 : Nat) (Z0 : n0 ≤ h0.size) (ga : n0 ≤ a1) (gb : n0 ≤ b1) (neB : a1 ≠ b1) (hA : OAL Z h0 a1 b1 2 md) (Fd : OArr Z h0 b1 10 f) (Ie : Ins Z h0 e1 "java/lang/Object" true) :
    MetFree l (⟨"java/util/ArrayList", "add", "(Ljava/lang/Object;[Ljava/lang/Object;I)V"⟩ : MethodName) (head1 (Jvm.Cond.code (⟨"java/util/ArrayList", "add", "(Ljava/lang/Object;[Ljava/lang/Object;I)V"⟩ : MethodName) jdk_38_method_24_code 4 none :: ws) ({ frames := 0, cells := 0, slots := 0, locals := 0 } : Room)) (fun a U => a = #[(.ref a1), (.ref e1), (.ref b1), (.int (2 : Int32))] ∧ Z.Warmed39 U.vm ∧ U.heap = h0) (fun _ _ _ _ _ => True) (fun _ U o U' => ∃ v L, o = .returned v ∧ Q_adx2 Z a1 e1 b1 md f h0 n0 v U'.heap L ∧ FrameEnd U o U' L ({ frames := 0, cells := 0, slots := 0, locals := 0 } : Room).cells ({ frames := 0, cells := 0, slots := 0, locals := 0 } : Room).slots) := by
  refine MetFree.of_bodySF (plainFor_of_name pn_java_util_ArrayList) hisR ?_
  intro p e s m args below meth c s₁ Bd hml0 hP hK
  obtain ⟨rfl, hZ, hh⟩ := hP
  have hx := Bd.exec
  have hby := Bd.bytes
  have hml : c.maxLocals = 4 := hml0
  have hown : s.vm.findClass "java/util/ArrayList" = some m.cls := findClass_of_methodNamed Bd.named
  have hnm := (name_of_methodNamed Bd.named Bd.method).1
  have X0 : Stand p l e ({ frames := 0, cells := 0, slots := 0, locals := 0 } : Room) s m #[(.ref a1), (.ref e1), (.ref b1), (.int (2 : Int32))] below meth c s₁ [] 0 0 := Stand.of_body Bd
  have e0 : s₁.heap = h0 := by rw [← hh, Bd.state]; rfl
  have N0 := Fr.nil n0
  obtain ⟨S0, hS0⟩ : ∃ S0, S0 = s₁.setTop (entryFrame m #[(.ref a1), (.ref e1), (.ref b1), (.int (2 : Int32))] 4) := ⟨_, rfl⟩
  have pre : Pth p e below S0 s₁ (mkF m 0 #[rv a1, rv e1, rv b1, iv (2 : Int32)] []) := fun t k => by rw [hS0]; exact castTop (ef_adx2 m a1 e1 b1 (2 : Int32)) k
  replace pre : Pth p e below S0 s₁ (mkF m 2 #[rv a1, rv e1, rv b1, iv (2 : Int32)] [(.ref b1), (.int (2 : Int32))]) := fun t k => pre t (by
    show SS p e below s₁ (mkF m 0 #[rv a1, rv e1, rv b1, iv (2 : Int32)] []) t
    refine XS.iloadN X0.here hx rfl (hb hby d_adx2_0) rfl ?_
    show SS p e below s₁ (mkF m 1 #[rv a1, rv e1, rv b1, iv (2 : Int32)] [(.int (2 : Int32))]) t
    refine XS.aloadN X0.here hx rfl (hb hby d_adx2_1) rfl rfl ?_
    show SS p e below s₁ (mkF m 2 #[rv a1, rv e1, rv b1, iv (2 : Int32)] [(.ref b1), (.int (2 : Int32))]) t
    exact k)
  obtain ⟨cl53, Ar53, Sz53, -⟩ := id Fd.fun
  have hln53 : cl53.slots.size.toInt32 = (10 : Int32) := (congrArg Nat.toInt32 Sz53).trans (rfl)
  replace pre : Pth p e below S0 s₁ (mkF m 14 #[rv a1, rv e1, rv b1, iv (2 : Int32)] [(.ref e1), (.int (2 : Int32)), (.ref b1)]) := fun t k => pre t (by
    show SS p e below s₁ (mkF m 2 #[rv a1, rv e1, rv b1, iv (2 : Int32)] [(.ref b1), (.int (2 : Int32))]) t
    refine X0.arraylength hx (by rw [e0]; exact Ar53.1) (State.isArrayOf_alike hZ.alike Ar53.2.1) (g := (mkF m 2 #[rv a1, rv e1, rv b1, iv (2 : Int32)] [(.ref b1), (.int (2 : Int32))])) rfl rfl (hb hby d_adx2_2) _ ?_
    rw [hln53]
    show SS p e below s₁ (mkF m 3 #[rv a1, rv e1, rv b1, iv (2 : Int32)] [(.int (10 : Int32)), (.int (2 : Int32))]) t
    refine XS.icmpYes X0.here hx rfl (pc0 := 3) (pc' := 11) rfl (hb hby d_adx2_3) rfl (XT.ii_ne_t (by decide)) (by decide) (by decide) ?_
    show SS p e below s₁ (mkF m 11 #[rv a1, rv e1, rv b1, iv (2 : Int32)] []) t
    refine XS.aloadN X0.here hx rfl (hb hby d_adx2_11) rfl rfl ?_
    show SS p e below s₁ (mkF m 12 #[rv a1, rv e1, rv b1, iv (2 : Int32)] [(.ref b1)]) t
    refine XS.iloadN X0.here hx rfl (hb hby d_adx2_12) rfl ?_
    show SS p e below s₁ (mkF m 13 #[rv a1, rv e1, rv b1, iv (2 : Int32)] [(.int (2 : Int32)), (.ref b1)]) t
    refine XS.aloadN X0.here hx rfl (hb hby d_adx2_13) rfl rfl ?_
    show SS p e below s₁ (mkF m 14 #[rv a1, rv e1, rv b1, iv (2 : Int32)] [(.ref e1), (.int (2 : Int32)), (.ref b1)]) t
    exact k)
  obtain ⟨-, cl54, Ar54, Sz54, -, Ov54⟩ := id Fd
  obtain ⟨T54, h54, X54, e54, W54, st54⟩ := stR X0 hx hZ e0 Ar54 (j := (2 : Int32)) (by rw [Sz54]; exact (by decide)) rfl (Sto.of Ar54 Ov54 Ie) (g := (mkF m 14 #[rv a1, rv e1, rv b1, iv (2 : Int32)] [(.ref e1), (.int (2 : Int32)), (.ref b1)])) rfl rfl (hb hby d_adx2_14)
  have F54 := OArr.set Fd W54
  have N54 := Fr.snoc X54 N0 gb
  replace pre : Pth p e below S0 T54 (mkF m 15 #[rv a1, rv e1, rv b1, iv (2 : Int32)] []) := fun t k => pre t (st54 _ k)
  have A1 := hA.other W54 neB
  replace pre : Pth p e below S0 T54 (mkF m 19 #[rv a1, rv e1, rv b1, iv (2 : Int32)] [(.int ((2 : Int32) + (1 : Int32))), (.ref a1)]) := fun t k => pre t (by
    show SS p e below T54 (mkF m 15 #[rv a1, rv e1, rv b1, iv (2 : Int32)] []) t
    refine XS.aloadN X54.here hx rfl (hb hby d_adx2_15) rfl rfl ?_
    show SS p e below T54 (mkF m 16 #[rv a1, rv e1, rv b1, iv (2 : Int32)] [(.ref a1)]) t
    refine XS.iloadN X54.here hx rfl (hb hby d_adx2_16) rfl ?_
    show SS p e below T54 (mkF m 17 #[rv a1, rv e1, rv b1, iv (2 : Int32)] [(.int (2 : Int32)), (.ref a1)]) t
    refine XS.iconst X54.here hx rfl (hb hby d_adx2_17) ?_
    show SS p e below T54 (mkF m 18 #[rv a1, rv e1, rv b1, iv (2 : Int32)] [(.int (1 : Int32)), (.int (2 : Int32)), (.ref a1)]) t
    refine XS.iadd X54.here hx rfl (hb hby d_adx2_18) rfl ?_
    show SS p e below T54 (mkF m 19 #[rv a1, rv e1, rv b1, iv (2 : Int32)] [(.int ((2 : Int32) + (1 : Int32))), (.ref a1)]) t
    exact k)
  obtain ⟨T55, h55, X55, e55, W55, st55⟩ := putF X54 hx hZ hown (host := "") (Or.inl (own_t hw 75 rfl)) Via.refl e54 A1.2.2.1 A1.1 (Or.inl (own_t hw 76 rfl)) (own_t hw 31 rfl) (ty := .int) (by decide) rfl rfl (g := (mkF m 19 #[rv a1, rv e1, rv b1, iv (2 : Int32)] [(.int ((2 : Int32) + (1 : Int32))), (.ref a1)])) rfl rfl (hb hby d_adx2_19)
  have N55 := Fr.snoc X55 N54 ga
  replace pre : Pth p e below S0 T55 (mkF m 22 #[rv a1, rv e1, rv b1, iv (2 : Int32)] []) := fun t k => pre t (st55 _ k)
  obtain ⟨fs, hr, hrun, hended, hW, hsame⟩ := X55.leave (v := none) (fun _ => rfl)
  subst hS0
  refine ⟨_, _, pre _ ?_, hrun, hended, _, _, rfl, ?_, ⟨_, rfl⟩, hW, hsame.mono (by decide) (by decide)⟩
  · exact X55.returnOut hx Bd.returns (hb hby d_adx2_22) hr
  · show Q_adx2 Z a1 e1 b1 md f h0 n0 _ T55.heap _
    rw [e55]
    exact ⟨rfl, N55, ((Keep.refl h0 [b1, a1]).wr W54 (Or.inl (List.mem_of_getElem? (i := 0) rfl))).wr W55 (Or.inl (List.mem_of_getElem? (i := 1) rfl)), ⟨A1.1.wr W55, A1.2.1.other W55 (Or.inr (slot_ne (Or.inl (own_t hw 53 rfl)) (Or.inl (own_t hw 76 rfl)) (by decide) (t := (.array (.object "java/lang/Object"))) (t' := .int) (by decide) (by decide))), A1.2.2.1.same W55, A1.2.2.2.other W55 (Or.inr (slot_ne (Or.inl (own_t hw 50 rfl)) (Or.inl (own_t hw 76 rfl)) (by decide) (t := .int) (t' := .int) (by decide) (by decide)))⟩, F54.other W55 neB.symm⟩
def Q_add0 (Z : State) (a1 : Addr) (e1 : Addr) (dc : Addr) (md : Int32) (f : Nat → Value) (h0 : Heap) (n0 : Nat) (v : Option Value) (h : Heap) (L : List Loc) : Prop := v = some (.int 1) ∧ Fr n0 L ∧ ∃ b, h0.size ≤ b ∧ Keep h0 h [a1] ∧ OAL Z h a1 b 1 (md + 1) ∧ OArr Z h b 10 (fun j => if j = 0 then .ref e1 else .null)
set_option maxRecDepth 65536 in
set_option maxHeartbeats 40000000 in
theorem rm_add0 (l : Launch) (Z : State) (a0 : Array Value) (hw : ∀ d ∈ tables_1, d.before a0 Z = true) (ws : List Jvm.Cond) (a1 : Addr) (e1 : Addr) (dc : Addr) (md : Int32) (f : Nat → Value) (h0 : Heap) (n0 : Nat) (Z0 : n0 ≤ h0.size) (ga : n0 ≤ a1) (hA : OAL Z h0 a1 dc 0 md) (Fd : OFun Z h0 dc (.object "java/lang/Object") 0 f) (Sd : Sta Z h0 "java/util/ArrayList" "DEFAULTCAPACITY_EMPTY_ELEMENTDATA" "[Ljava/lang/Object;" (.ref dc)) (Ie : Ins Z h0 e1 "java/lang/Object" true) :
    MetFree l (⟨"java/util/ArrayList", "add", "(Ljava/lang/Object;)Z"⟩ : MethodName) (head1 (Jvm.Cond.code (⟨"java/util/ArrayList", "add", "(Ljava/lang/Object;)Z"⟩ : MethodName) jdk_38_method_25_code 2 (some .boolean) :: ws) ({ frames := 4, cells := 1, slots := 10, locals := 57 } : Room)) (fun a U => a = #[(.ref a1), (.ref e1)] ∧ Z.Warmed39 U.vm ∧ U.heap = h0) (fun _ _ _ _ _ => True) (fun _ U o U' => ∃ v L, o = .returned v ∧ Q_add0 Z a1 e1 dc md f h0 n0 v U'.heap L ∧ FrameEnd U o U' L ({ frames := 4, cells := 1, slots := 10, locals := 57 } : Room).cells ({ frames := 4, cells := 1, slots := 10, locals := 57 } : Room).slots) := by
  refine MetFree.of_bodySF (plainFor_of_name pn_java_util_ArrayList) hisR ?_
  intro p e s m args below meth c s₁ Bd hml0 hP hK
  obtain ⟨rfl, hZ, hh⟩ := hP
  have hx := Bd.exec
  have hby := Bd.bytes
  have hml : c.maxLocals = 2 := hml0
  have hown : s.vm.findClass "java/util/ArrayList" = some m.cls := findClass_of_methodNamed Bd.named
  have hnm := (name_of_methodNamed Bd.named Bd.method).1
  have X0 : Stand p l e ({ frames := 4, cells := 1, slots := 10, locals := 57 } : Room) s m #[(.ref a1), (.ref e1)] below meth c s₁ [] 0 0 := Stand.of_body Bd
  have e0 : s₁.heap = h0 := by rw [← hh, Bd.state]; rfl
  have N0 := Fr.nil n0
  obtain ⟨S0, hS0⟩ : ∃ S0, S0 = s₁.setTop (entryFrame m #[(.ref a1), (.ref e1)] 2) := ⟨_, rfl⟩
  have pre : Pth p e below S0 s₁ (mkF m 0 #[rv a1, rv e1] []) := fun t k => by rw [hS0]; exact castTop (ef_add0 m a1 e1) k
  replace pre : Pth p e below S0 s₁ (mkF m 2 #[rv a1, rv e1] [(.ref a1), (.ref a1)]) := fun t k => pre t (by
    show SS p e below s₁ (mkF m 0 #[rv a1, rv e1] []) t
    refine XS.aloadN X0.here hx rfl (hb hby d_add0_0) rfl rfl ?_
    show SS p e below s₁ (mkF m 1 #[rv a1, rv e1] [(.ref a1)]) t
    refine XS.dup X0.here hx rfl (hb hby d_add0_1) rfl rfl ?_
    show SS p e below s₁ (mkF m 2 #[rv a1, rv e1] [(.ref a1), (.ref a1)]) t
    exact k)
  obtain ⟨T56, X56, e56, st56⟩ := getF X0 hx hZ hown (host := "") (Or.inl (own_t hw 73 rfl)) (Via.of (own_t hw 74 rfl)) e0 hA.2.2.2 (g := (mkF m 2 #[rv a1, rv e1] [(.ref a1), (.ref a1)])) rfl rfl (hb hby d_add0_2)
  replace pre : Pth p e below S0 T56 (mkF m 5 #[rv a1, rv e1] [(.int md), (.ref a1)]) := fun t k => pre t (st56 _ k)
  replace pre : Pth p e below S0 T56 (mkF m 7 #[rv a1, rv e1] [(.int (md + (1 : Int32))), (.ref a1)]) := fun t k => pre t (by
    show SS p e below T56 (mkF m 5 #[rv a1, rv e1] [(.int md), (.ref a1)]) t
    refine XS.iconst X56.here hx rfl (hb hby d_add0_5) ?_
    show SS p e below T56 (mkF m 6 #[rv a1, rv e1] [(.int (1 : Int32)), (.int md), (.ref a1)]) t
    refine XS.iadd X56.here hx rfl (hb hby d_add0_6) rfl ?_
    show SS p e below T56 (mkF m 7 #[rv a1, rv e1] [(.int (md + (1 : Int32))), (.ref a1)]) t
    exact k)
  obtain ⟨T57, h57, X57, e57, W57, st57⟩ := putF X56 hx hZ hown (host := "") (Or.inl (own_t hw 73 rfl)) (Via.of (own_t hw 74 rfl)) e56 hA.2.2.2 hA.1 (Or.inl (own_t hw 50 rfl)) (own_t hw 31 rfl) (ty := .int) (by decide) rfl rfl (g := (mkF m 7 #[rv a1, rv e1] [(.int (md + (1 : Int32))), (.ref a1)])) rfl rfl (hb hby d_add0_7)
  have N57 := Fr.snoc X57 N0 ga
  replace pre : Pth p e below S0 T57 (mkF m 10 #[rv a1, rv e1] []) := fun t k => pre t (st57 _ k)
  have A1 : OAL Z h57 a1 dc 0 (md + 1) := ⟨hA.1.wr W57, hA.2.1.other W57 (Or.inr (slot_ne (Or.inl (own_t hw 53 rfl)) (Or.inl (own_t hw 50 rfl)) (by decide) (t := (.array (.object "java/lang/Object"))) (t' := .int) (by decide) (by decide))), hA.2.2.1.other W57 (Or.inr (slot_ne (Or.inl (own_t hw 76 rfl)) (Or.inl (own_t hw 50 rfl)) (by decide) (t := .int) (t' := .int) (by decide) (by decide))), hA.2.2.2.same W57⟩
  have Ie1 := Ie.wr W57
  replace pre : Pth p e below S0 T57 (mkF m 13 #[rv a1, rv e1] [(.ref a1), (.ref e1), (.ref a1)]) := fun t k => pre t (by
    show SS p e below T57 (mkF m 10 #[rv a1, rv e1] []) t
    refine XS.aloadN X57.here hx rfl (hb hby d_add0_10) rfl rfl ?_
    show SS p e below T57 (mkF m 11 #[rv a1, rv e1] [(.ref a1)]) t
    refine XS.aloadN X57.here hx rfl (hb hby d_add0_11) rfl rfl ?_
    show SS p e below T57 (mkF m 12 #[rv a1, rv e1] [(.ref e1), (.ref a1)]) t
    refine XS.aloadN X57.here hx rfl (hb hby d_add0_12) rfl rfl ?_
    show SS p e below T57 (mkF m 13 #[rv a1, rv e1] [(.ref a1), (.ref e1), (.ref a1)]) t
    exact k)
  obtain ⟨T58, X58, e58, st58⟩ := getF X57 hx hZ hown (host := "") (Or.inl (own_t hw 52 rfl)) Via.refl e57 A1.2.1 (g := (mkF m 13 #[rv a1, rv e1] [(.ref a1), (.ref e1), (.ref a1)])) rfl rfl (hb hby d_add0_13)
  replace pre : Pth p e below S0 T58 (mkF m 16 #[rv a1, rv e1] [(.ref dc), (.ref e1), (.ref a1)]) := fun t k => pre t (st58 _ k)
  replace pre : Pth p e below S0 T58 (mkF m 17 #[rv a1, rv e1] [(.ref a1), (.ref dc), (.ref e1), (.ref a1)]) := fun t k => pre t (by
    show SS p e below T58 (mkF m 16 #[rv a1, rv e1] [(.ref dc), (.ref e1), (.ref a1)]) t
    refine XS.aloadN X58.here hx rfl (hb hby d_add0_16) rfl rfl ?_
    show SS p e below T58 (mkF m 17 #[rv a1, rv e1] [(.ref a1), (.ref dc), (.ref e1), (.ref a1)]) t
    exact k)
  obtain ⟨T59, X59, e59, st59⟩ := getF X58 hx hZ hown (host := "") (Or.inl (own_t hw 75 rfl)) Via.refl e58 A1.2.2.1 (g := (mkF m 17 #[rv a1, rv e1] [(.ref a1), (.ref dc), (.ref e1), (.ref a1)])) rfl rfl (hb hby d_add0_17)
  replace pre : Pth p e below S0 T59 (mkF m 20 #[rv a1, rv e1] [(.int (0 : Int32)), (.ref dc), (.ref e1), (.ref a1)]) := fun t k => pre t (st59 _ k)
  have neD : dc ≠ a1 := own_ne_arr Fd hA.1 (own_t hw 31 rfl)
  have Z1 : n0 ≤ h57.size := by rw [W57.size]; exact Z0
  obtain ⟨cq60, q60, q60'⟩ := Exa.cell A1.1
  obtain ⟨_, _, ⟨T60, L60, k60, n60⟩, -, X60, ⟨Lc60, hQ60, l60, y60, z60⟩, st60⟩ := X59.privateBack hx (y := (⟨"java/util/ArrayList", "add", "(Ljava/lang/Object;[Ljava/lang/Object;I)V"⟩ : MethodName)) hown (mvT hZ (own_t hw 77 rfl)) (mvT hZ (own_t hw 78 rfl)) (mvT hZ (own_t hw 80 rfl)) (Cond.privateMethod_at (mvP hZ (own_t hw 79 rfl) (args := #[]))) (mvT hZ (own_t hw 81 rfl)) (by decide) (backOf (W := 0) (rm_adx0 l Z a0 hw [] a1 e1 dc (md + 1) f h57 n0 Z1 ga A1 (Fd.other W57 neD) (Sd.wr W57) Ie1) hZ (own_t hw 81 rfl) (own_t hw 32 rfl) (by decide) (by decide)) (g := (mkF m 20 #[rv a1, rv e1] [(.int (0 : Int32)), (.ref dc), (.ref e1), (.ref a1)])) rfl (by rw [hml]; rfl) (Steps.refl _) (a := a1) (by rw [e59]; exact q60) q60' (argsL := [(.ref e1), (.ref dc), (.int (0 : Int32))]) (rest := []) (lenOf pd__Ljava_lang_Object__Ljava_lang_Object_I_V rfl) rfl (by show 2 * 0 + _ ≤ _; exact Nat.le_of_eq rfl) (hb hby d_add0_20) (fun _ _ => ⟨rfl, e59, (by decide : 0 + 1 ≤ _), (by decide : 0 + 10 ≤ _)⟩)
  dsimp only [Pt.U, Pt.locs, Pt.cells, Pt.slots] at X60 l60 y60 z60 st60 hQ60
  subst l60 y60 z60
  obtain ⟨rfl, N60q, bb, gB, K60, A60, O60⟩ := hQ60
  have N60 := Fr.app N57 N60q
  replace pre : Pth p e below S0 T60 (mkF m 23 #[rv a1, rv e1] []) := fun t k => pre t (st60.trans k)
  replace pre : Pth p e below S0 T60 (mkF m 24 #[rv a1, rv e1] [(.int (1 : Int32))]) := fun t k => pre t (by
    show SS p e below T60 (mkF m 23 #[rv a1, rv e1] []) t
    refine XS.iconst X60.here hx rfl (hb hby d_add0_23) ?_
    show SS p e below T60 (mkF m 24 #[rv a1, rv e1] [(.int (1 : Int32))]) t
    exact k)
  obtain ⟨fs, hr, hrun, hended, hW, hsame⟩ := X60.leave (v := some (.int (1 : Int32))) (fun h => by rw [Bd.returns] at h; cases h)
  subst hS0
  refine ⟨_, _, pre _ ?_, hrun, hended, _, _, rfl, ?_, ⟨_, rfl⟩, hW, hsame.mono (by decide) (by decide)⟩
  · exact retN X60 hx (t := .boolean) Bd.returns (by simp) (hb hby d_add0_24) hr
  · show Q_add0 Z a1 e1 dc md f h0 n0 _ T60.heap _
    exact ⟨rfl, N60, bb, by rw [W57.size] at gB; exact gB, own_keep_trans ((Keep.refl h0 [a1]).wr W57 (Or.inl (List.mem_of_getElem? (i := 0) rfl))) K60, A60, O60⟩
def Q_add1 (Z : State) (a1 : Addr) (e1 : Addr) (b1 : Addr) (md : Int32) (f : Nat → Value) (h0 : Heap) (n0 : Nat) (v : Option Value) (h : Heap) (L : List Loc) : Prop := v = some (.int 1) ∧ Fr n0 L ∧ Keep h0 h [b1, a1] ∧ OAL Z h a1 b1 2 (md + 1) ∧ OArr Z h b1 10 (fun j => if j = 1 then .ref e1 else f j)
set_option maxRecDepth 65536 in
set_option maxHeartbeats 40000000 in
theorem rm_add1 (l : Launch) (Z : State) (a0 : Array Value) (hw : ∀ d ∈ tables_1, d.before a0 Z = true) (ws : List Jvm.Cond) (a1 : Addr) (e1 : Addr) (b1 : Addr) (md : Int32) (f : Nat → Value) (h0 : Heap) (n0 : Nat) (Z0 : n0 ≤ h0.size) (ga : n0 ≤ a1) (gb : n0 ≤ b1) (neB : a1 ≠ b1) (hA : OAL Z h0 a1 b1 1 md) (Fd : OArr Z h0 b1 10 f) (Ie : Ins Z h0 e1 "java/lang/Object" true) :
    MetFree l (⟨"java/util/ArrayList", "add", "(Ljava/lang/Object;)Z"⟩ : MethodName) (head1 (Jvm.Cond.code (⟨"java/util/ArrayList", "add", "(Ljava/lang/Object;)Z"⟩ : MethodName) jdk_38_method_25_code 2 (some .boolean) :: ws) ({ frames := 1, cells := 0, slots := 0, locals := 16 } : Room)) (fun a U => a = #[(.ref a1), (.ref e1)] ∧ Z.Warmed39 U.vm ∧ U.heap = h0) (fun _ _ _ _ _ => True) (fun _ U o U' => ∃ v L, o = .returned v ∧ Q_add1 Z a1 e1 b1 md f h0 n0 v U'.heap L ∧ FrameEnd U o U' L ({ frames := 1, cells := 0, slots := 0, locals := 16 } : Room).cells ({ frames := 1, cells := 0, slots := 0, locals := 16 } : Room).slots) := by
  refine MetFree.of_bodySF (plainFor_of_name pn_java_util_ArrayList) hisR ?_
  intro p e s m args below meth c s₁ Bd hml0 hP hK
  obtain ⟨rfl, hZ, hh⟩ := hP
  have hx := Bd.exec
  have hby := Bd.bytes
  have hml : c.maxLocals = 2 := hml0
  have hown : s.vm.findClass "java/util/ArrayList" = some m.cls := findClass_of_methodNamed Bd.named
  have hnm := (name_of_methodNamed Bd.named Bd.method).1
  have X0 : Stand p l e ({ frames := 1, cells := 0, slots := 0, locals := 16 } : Room) s m #[(.ref a1), (.ref e1)] below meth c s₁ [] 0 0 := Stand.of_body Bd
  have e0 : s₁.heap = h0 := by rw [← hh, Bd.state]; rfl
  have N0 := Fr.nil n0
  obtain ⟨S0, hS0⟩ : ∃ S0, S0 = s₁.setTop (entryFrame m #[(.ref a1), (.ref e1)] 2) := ⟨_, rfl⟩
  have pre : Pth p e below S0 s₁ (mkF m 0 #[rv a1, rv e1] []) := fun t k => by rw [hS0]; exact castTop (ef_add1 m a1 e1) k
  replace pre : Pth p e below S0 s₁ (mkF m 2 #[rv a1, rv e1] [(.ref a1), (.ref a1)]) := fun t k => pre t (by
    show SS p e below s₁ (mkF m 0 #[rv a1, rv e1] []) t
    refine XS.aloadN X0.here hx rfl (hb hby d_add1_0) rfl rfl ?_
    show SS p e below s₁ (mkF m 1 #[rv a1, rv e1] [(.ref a1)]) t
    refine XS.dup X0.here hx rfl (hb hby d_add1_1) rfl rfl ?_
    show SS p e below s₁ (mkF m 2 #[rv a1, rv e1] [(.ref a1), (.ref a1)]) t
    exact k)
  obtain ⟨T61, X61, e61, st61⟩ := getF X0 hx hZ hown (host := "") (Or.inl (own_t hw 73 rfl)) (Via.of (own_t hw 74 rfl)) e0 hA.2.2.2 (g := (mkF m 2 #[rv a1, rv e1] [(.ref a1), (.ref a1)])) rfl rfl (hb hby d_add1_2)
  replace pre : Pth p e below S0 T61 (mkF m 5 #[rv a1, rv e1] [(.int md), (.ref a1)]) := fun t k => pre t (st61 _ k)
  replace pre : Pth p e below S0 T61 (mkF m 7 #[rv a1, rv e1] [(.int (md + (1 : Int32))), (.ref a1)]) := fun t k => pre t (by
    show SS p e below T61 (mkF m 5 #[rv a1, rv e1] [(.int md), (.ref a1)]) t
    refine XS.iconst X61.here hx rfl (hb hby d_add1_5) ?_
    show SS p e below T61 (mkF m 6 #[rv a1, rv e1] [(.int (1 : Int32)), (.int md), (.ref a1)]) t
    refine XS.iadd X61.here hx rfl (hb hby d_add1_6) rfl ?_
    show SS p e below T61 (mkF m 7 #[rv a1, rv e1] [(.int (md + (1 : Int32))), (.ref a1)]) t
    exact k)
  obtain ⟨T62, h62, X62, e62, W62, st62⟩ := putF X61 hx hZ hown (host := "") (Or.inl (own_t hw 73 rfl)) (Via.of (own_t hw 74 rfl)) e61 hA.2.2.2 hA.1 (Or.inl (own_t hw 50 rfl)) (own_t hw 31 rfl) (ty := .int) (by decide) rfl rfl (g := (mkF m 7 #[rv a1, rv e1] [(.int (md + (1 : Int32))), (.ref a1)])) rfl rfl (hb hby d_add1_7)
  have N62 := Fr.snoc X62 N0 ga
  replace pre : Pth p e below S0 T62 (mkF m 10 #[rv a1, rv e1] []) := fun t k => pre t (st62 _ k)
  have A1 : OAL Z h62 a1 b1 1 (md + 1) := ⟨hA.1.wr W62, hA.2.1.other W62 (Or.inr (slot_ne (Or.inl (own_t hw 53 rfl)) (Or.inl (own_t hw 50 rfl)) (by decide) (t := (.array (.object "java/lang/Object"))) (t' := .int) (by decide) (by decide))), hA.2.2.1.other W62 (Or.inr (slot_ne (Or.inl (own_t hw 76 rfl)) (Or.inl (own_t hw 50 rfl)) (by decide) (t := .int) (t' := .int) (by decide) (by decide))), hA.2.2.2.same W62⟩
  have Ie1 := Ie.wr W62
  replace pre : Pth p e below S0 T62 (mkF m 13 #[rv a1, rv e1] [(.ref a1), (.ref e1), (.ref a1)]) := fun t k => pre t (by
    show SS p e below T62 (mkF m 10 #[rv a1, rv e1] []) t
    refine XS.aloadN X62.here hx rfl (hb hby d_add1_10) rfl rfl ?_
    show SS p e below T62 (mkF m 11 #[rv a1, rv e1] [(.ref a1)]) t
    refine XS.aloadN X62.here hx rfl (hb hby d_add1_11) rfl rfl ?_
    show SS p e below T62 (mkF m 12 #[rv a1, rv e1] [(.ref e1), (.ref a1)]) t
    refine XS.aloadN X62.here hx rfl (hb hby d_add1_12) rfl rfl ?_
    show SS p e below T62 (mkF m 13 #[rv a1, rv e1] [(.ref a1), (.ref e1), (.ref a1)]) t
    exact k)
  obtain ⟨T63, X63, e63, st63⟩ := getF X62 hx hZ hown (host := "") (Or.inl (own_t hw 52 rfl)) Via.refl e62 A1.2.1 (g := (mkF m 13 #[rv a1, rv e1] [(.ref a1), (.ref e1), (.ref a1)])) rfl rfl (hb hby d_add1_13)
  replace pre : Pth p e below S0 T63 (mkF m 16 #[rv a1, rv e1] [(.ref b1), (.ref e1), (.ref a1)]) := fun t k => pre t (st63 _ k)
  replace pre : Pth p e below S0 T63 (mkF m 17 #[rv a1, rv e1] [(.ref a1), (.ref b1), (.ref e1), (.ref a1)]) := fun t k => pre t (by
    show SS p e below T63 (mkF m 16 #[rv a1, rv e1] [(.ref b1), (.ref e1), (.ref a1)]) t
    refine XS.aloadN X63.here hx rfl (hb hby d_add1_16) rfl rfl ?_
    show SS p e below T63 (mkF m 17 #[rv a1, rv e1] [(.ref a1), (.ref b1), (.ref e1), (.ref a1)]) t
    exact k)
  obtain ⟨T64, X64, e64, st64⟩ := getF X63 hx hZ hown (host := "") (Or.inl (own_t hw 75 rfl)) Via.refl e63 A1.2.2.1 (g := (mkF m 17 #[rv a1, rv e1] [(.ref a1), (.ref b1), (.ref e1), (.ref a1)])) rfl rfl (hb hby d_add1_17)
  replace pre : Pth p e below S0 T64 (mkF m 20 #[rv a1, rv e1] [(.int (1 : Int32)), (.ref b1), (.ref e1), (.ref a1)]) := fun t k => pre t (st64 _ k)
  have Z1 : n0 ≤ h62.size := by rw [W62.size]; exact Z0
  obtain ⟨cq65, q65, q65'⟩ := Exa.cell A1.1
  obtain ⟨_, _, ⟨T65, L65, k65, n65⟩, -, X65, ⟨Lc65, hQ65, l65, y65, z65⟩, st65⟩ := X64.privateBack hx (y := (⟨"java/util/ArrayList", "add", "(Ljava/lang/Object;[Ljava/lang/Object;I)V"⟩ : MethodName)) hown (mvT hZ (own_t hw 77 rfl)) (mvT hZ (own_t hw 78 rfl)) (mvT hZ (own_t hw 80 rfl)) (Cond.privateMethod_at (mvP hZ (own_t hw 79 rfl) (args := #[]))) (mvT hZ (own_t hw 81 rfl)) (by decide) (backOf (W := 0) (rm_adx1 l Z a0 hw [] a1 e1 b1 (md + 1) f h62 n0 Z1 ga gb neB A1 (Fd.other W62 neB.symm) Ie1) hZ (own_t hw 81 rfl) (own_t hw 32 rfl) (by decide) (by decide)) (g := (mkF m 20 #[rv a1, rv e1] [(.int (1 : Int32)), (.ref b1), (.ref e1), (.ref a1)])) rfl (by rw [hml]; rfl) (Steps.refl _) (a := a1) (by rw [e64]; exact q65) q65' (argsL := [(.ref e1), (.ref b1), (.int (1 : Int32))]) (rest := []) (lenOf pd__Ljava_lang_Object__Ljava_lang_Object_I_V rfl) rfl (by show 2 * 0 + _ ≤ _; exact Nat.le_of_eq rfl) (hb hby d_add1_20) (fun _ _ => ⟨rfl, e64, (by decide : 0 + 0 ≤ _), (by decide : 0 + 0 ≤ _)⟩)
  dsimp only [Pt.U, Pt.locs, Pt.cells, Pt.slots] at X65 l65 y65 z65 st65 hQ65
  subst l65 y65 z65
  obtain ⟨rfl, N65q, K65, A65, O65⟩ := hQ65
  have N65 := Fr.app N62 N65q
  replace pre : Pth p e below S0 T65 (mkF m 23 #[rv a1, rv e1] []) := fun t k => pre t (st65.trans k)
  replace pre : Pth p e below S0 T65 (mkF m 24 #[rv a1, rv e1] [(.int (1 : Int32))]) := fun t k => pre t (by
    show SS p e below T65 (mkF m 23 #[rv a1, rv e1] []) t
    refine XS.iconst X65.here hx rfl (hb hby d_add1_23) ?_
    show SS p e below T65 (mkF m 24 #[rv a1, rv e1] [(.int (1 : Int32))]) t
    exact k)
  obtain ⟨fs, hr, hrun, hended, hW, hsame⟩ := X65.leave (v := some (.int (1 : Int32))) (fun h => by rw [Bd.returns] at h; cases h)
  subst hS0
  refine ⟨_, _, pre _ ?_, hrun, hended, _, _, rfl, ?_, ⟨_, rfl⟩, hW, hsame.mono (by decide) (by decide)⟩
  · exact retN X65 hx (t := .boolean) Bd.returns (by simp) (hb hby d_add1_24) hr
  · show Q_add1 Z a1 e1 b1 md f h0 n0 _ T65.heap _
    exact ⟨rfl, N65, own_keep_trans ((Keep.refl h0 [b1, a1]).wr W62 (Or.inl (List.mem_of_getElem? (i := 1) rfl))) K65, A65, O65⟩
def Q_add2 (Z : State) (a1 : Addr) (e1 : Addr) (b1 : Addr) (md : Int32) (f : Nat → Value) (h0 : Heap) (n0 : Nat) (v : Option Value) (h : Heap) (L : List Loc) : Prop := v = some (.int 1) ∧ Fr n0 L ∧ Keep h0 h [b1, a1] ∧ OAL Z h a1 b1 3 (md + 1) ∧ OArr Z h b1 10 (fun j => if j = 2 then .ref e1 else f j)
set_option maxRecDepth 65536 in
set_option maxHeartbeats 40000000 in
theorem rm_add2 (l : Launch) (Z : State) (a0 : Array Value) (hw : ∀ d ∈ tables_1, d.before a0 Z = true) (ws : List Jvm.Cond) (a1 : Addr) (e1 : Addr) (b1 : Addr) (md : Int32) (f : Nat → Value) (h0 : Heap) (n0 : Nat) (Z0 : n0 ≤ h0.size) (ga : n0 ≤ a1) (gb : n0 ≤ b1) (neB : a1 ≠ b1) (hA : OAL Z h0 a1 b1 2 md) (Fd : OArr Z h0 b1 10 f) (Ie : Ins Z h0 e1 "java/lang/Object" true) :
    MetFree l (⟨"java/util/ArrayList", "add", "(Ljava/lang/Object;)Z"⟩ : MethodName) (head1 (Jvm.Cond.code (⟨"java/util/ArrayList", "add", "(Ljava/lang/Object;)Z"⟩ : MethodName) jdk_38_method_25_code 2 (some .boolean) :: ws) ({ frames := 1, cells := 0, slots := 0, locals := 16 } : Room)) (fun a U => a = #[(.ref a1), (.ref e1)] ∧ Z.Warmed39 U.vm ∧ U.heap = h0) (fun _ _ _ _ _ => True) (fun _ U o U' => ∃ v L, o = .returned v ∧ Q_add2 Z a1 e1 b1 md f h0 n0 v U'.heap L ∧ FrameEnd U o U' L ({ frames := 1, cells := 0, slots := 0, locals := 16 } : Room).cells ({ frames := 1, cells := 0, slots := 0, locals := 16 } : Room).slots) := by
  refine MetFree.of_bodySF (plainFor_of_name pn_java_util_ArrayList) hisR ?_
  intro p e s m args below meth c s₁ Bd hml0 hP hK
  obtain ⟨rfl, hZ, hh⟩ := hP
  have hx := Bd.exec
  have hby := Bd.bytes
  have hml : c.maxLocals = 2 := hml0
  have hown : s.vm.findClass "java/util/ArrayList" = some m.cls := findClass_of_methodNamed Bd.named
  have hnm := (name_of_methodNamed Bd.named Bd.method).1
  have X0 : Stand p l e ({ frames := 1, cells := 0, slots := 0, locals := 16 } : Room) s m #[(.ref a1), (.ref e1)] below meth c s₁ [] 0 0 := Stand.of_body Bd
  have e0 : s₁.heap = h0 := by rw [← hh, Bd.state]; rfl
  have N0 := Fr.nil n0
  obtain ⟨S0, hS0⟩ : ∃ S0, S0 = s₁.setTop (entryFrame m #[(.ref a1), (.ref e1)] 2) := ⟨_, rfl⟩
  have pre : Pth p e below S0 s₁ (mkF m 0 #[rv a1, rv e1] []) := fun t k => by rw [hS0]; exact castTop (ef_add2 m a1 e1) k
  replace pre : Pth p e below S0 s₁ (mkF m 2 #[rv a1, rv e1] [(.ref a1), (.ref a1)]) := fun t k => pre t (by
    show SS p e below s₁ (mkF m 0 #[rv a1, rv e1] []) t
    refine XS.aloadN X0.here hx rfl (hb hby d_add2_0) rfl rfl ?_
    show SS p e below s₁ (mkF m 1 #[rv a1, rv e1] [(.ref a1)]) t
    refine XS.dup X0.here hx rfl (hb hby d_add2_1) rfl rfl ?_
    show SS p e below s₁ (mkF m 2 #[rv a1, rv e1] [(.ref a1), (.ref a1)]) t
    exact k)
  obtain ⟨T66, X66, e66, st66⟩ := getF X0 hx hZ hown (host := "") (Or.inl (own_t hw 73 rfl)) (Via.of (own_t hw 74 rfl)) e0 hA.2.2.2 (g := (mkF m 2 #[rv a1, rv e1] [(.ref a1), (.ref a1)])) rfl rfl (hb hby d_add2_2)
  replace pre : Pth p e below S0 T66 (mkF m 5 #[rv a1, rv e1] [(.int md), (.ref a1)]) := fun t k => pre t (st66 _ k)
  replace pre : Pth p e below S0 T66 (mkF m 7 #[rv a1, rv e1] [(.int (md + (1 : Int32))), (.ref a1)]) := fun t k => pre t (by
    show SS p e below T66 (mkF m 5 #[rv a1, rv e1] [(.int md), (.ref a1)]) t
    refine XS.iconst X66.here hx rfl (hb hby d_add2_5) ?_
    show SS p e below T66 (mkF m 6 #[rv a1, rv e1] [(.int (1 : Int32)), (.int md), (.ref a1)]) t
    refine XS.iadd X66.here hx rfl (hb hby d_add2_6) rfl ?_
    show SS p e below T66 (mkF m 7 #[rv a1, rv e1] [(.int (md + (1 : Int32))), (.ref a1)]) t
    exact k)
  obtain ⟨T67, h67, X67, e67, W67, st67⟩ := putF X66 hx hZ hown (host := "") (Or.inl (own_t hw 73 rfl)) (Via.of (own_t hw 74 rfl)) e66 hA.2.2.2 hA.1 (Or.inl (own_t hw 50 rfl)) (own_t hw 31 rfl) (ty := .int) (by decide) rfl rfl (g := (mkF m 7 #[rv a1, rv e1] [(.int (md + (1 : Int32))), (.ref a1)])) rfl rfl (hb hby d_add2_7)
  have N67 := Fr.snoc X67 N0 ga
  replace pre : Pth p e below S0 T67 (mkF m 10 #[rv a1, rv e1] []) := fun t k => pre t (st67 _ k)
  have A1 : OAL Z h67 a1 b1 2 (md + 1) := ⟨hA.1.wr W67, hA.2.1.other W67 (Or.inr (slot_ne (Or.inl (own_t hw 53 rfl)) (Or.inl (own_t hw 50 rfl)) (by decide) (t := (.array (.object "java/lang/Object"))) (t' := .int) (by decide) (by decide))), hA.2.2.1.other W67 (Or.inr (slot_ne (Or.inl (own_t hw 76 rfl)) (Or.inl (own_t hw 50 rfl)) (by decide) (t := .int) (t' := .int) (by decide) (by decide))), hA.2.2.2.same W67⟩
  have Ie1 := Ie.wr W67
  replace pre : Pth p e below S0 T67 (mkF m 13 #[rv a1, rv e1] [(.ref a1), (.ref e1), (.ref a1)]) := fun t k => pre t (by
    show SS p e below T67 (mkF m 10 #[rv a1, rv e1] []) t
    refine XS.aloadN X67.here hx rfl (hb hby d_add2_10) rfl rfl ?_
    show SS p e below T67 (mkF m 11 #[rv a1, rv e1] [(.ref a1)]) t
    refine XS.aloadN X67.here hx rfl (hb hby d_add2_11) rfl rfl ?_
    show SS p e below T67 (mkF m 12 #[rv a1, rv e1] [(.ref e1), (.ref a1)]) t
    refine XS.aloadN X67.here hx rfl (hb hby d_add2_12) rfl rfl ?_
    show SS p e below T67 (mkF m 13 #[rv a1, rv e1] [(.ref a1), (.ref e1), (.ref a1)]) t
    exact k)
  obtain ⟨T68, X68, e68, st68⟩ := getF X67 hx hZ hown (host := "") (Or.inl (own_t hw 52 rfl)) Via.refl e67 A1.2.1 (g := (mkF m 13 #[rv a1, rv e1] [(.ref a1), (.ref e1), (.ref a1)])) rfl rfl (hb hby d_add2_13)
  replace pre : Pth p e below S0 T68 (mkF m 16 #[rv a1, rv e1] [(.ref b1), (.ref e1), (.ref a1)]) := fun t k => pre t (st68 _ k)
  replace pre : Pth p e below S0 T68 (mkF m 17 #[rv a1, rv e1] [(.ref a1), (.ref b1), (.ref e1), (.ref a1)]) := fun t k => pre t (by
    show SS p e below T68 (mkF m 16 #[rv a1, rv e1] [(.ref b1), (.ref e1), (.ref a1)]) t
    refine XS.aloadN X68.here hx rfl (hb hby d_add2_16) rfl rfl ?_
    show SS p e below T68 (mkF m 17 #[rv a1, rv e1] [(.ref a1), (.ref b1), (.ref e1), (.ref a1)]) t
    exact k)
  obtain ⟨T69, X69, e69, st69⟩ := getF X68 hx hZ hown (host := "") (Or.inl (own_t hw 75 rfl)) Via.refl e68 A1.2.2.1 (g := (mkF m 17 #[rv a1, rv e1] [(.ref a1), (.ref b1), (.ref e1), (.ref a1)])) rfl rfl (hb hby d_add2_17)
  replace pre : Pth p e below S0 T69 (mkF m 20 #[rv a1, rv e1] [(.int (2 : Int32)), (.ref b1), (.ref e1), (.ref a1)]) := fun t k => pre t (st69 _ k)
  have Z1 : n0 ≤ h67.size := by rw [W67.size]; exact Z0
  obtain ⟨cq70, q70, q70'⟩ := Exa.cell A1.1
  obtain ⟨_, _, ⟨T70, L70, k70, n70⟩, -, X70, ⟨Lc70, hQ70, l70, y70, z70⟩, st70⟩ := X69.privateBack hx (y := (⟨"java/util/ArrayList", "add", "(Ljava/lang/Object;[Ljava/lang/Object;I)V"⟩ : MethodName)) hown (mvT hZ (own_t hw 77 rfl)) (mvT hZ (own_t hw 78 rfl)) (mvT hZ (own_t hw 80 rfl)) (Cond.privateMethod_at (mvP hZ (own_t hw 79 rfl) (args := #[]))) (mvT hZ (own_t hw 81 rfl)) (by decide) (backOf (W := 0) (rm_adx2 l Z a0 hw [] a1 e1 b1 (md + 1) f h67 n0 Z1 ga gb neB A1 (Fd.other W67 neB.symm) Ie1) hZ (own_t hw 81 rfl) (own_t hw 32 rfl) (by decide) (by decide)) (g := (mkF m 20 #[rv a1, rv e1] [(.int (2 : Int32)), (.ref b1), (.ref e1), (.ref a1)])) rfl (by rw [hml]; rfl) (Steps.refl _) (a := a1) (by rw [e69]; exact q70) q70' (argsL := [(.ref e1), (.ref b1), (.int (2 : Int32))]) (rest := []) (lenOf pd__Ljava_lang_Object__Ljava_lang_Object_I_V rfl) rfl (by show 2 * 0 + _ ≤ _; exact Nat.le_of_eq rfl) (hb hby d_add2_20) (fun _ _ => ⟨rfl, e69, (by decide : 0 + 0 ≤ _), (by decide : 0 + 0 ≤ _)⟩)
  dsimp only [Pt.U, Pt.locs, Pt.cells, Pt.slots] at X70 l70 y70 z70 st70 hQ70
  subst l70 y70 z70
  obtain ⟨rfl, N70q, K70, A70, O70⟩ := hQ70
  have N70 := Fr.app N67 N70q
  replace pre : Pth p e below S0 T70 (mkF m 23 #[rv a1, rv e1] []) := fun t k => pre t (st70.trans k)
  replace pre : Pth p e below S0 T70 (mkF m 24 #[rv a1, rv e1] [(.int (1 : Int32))]) := fun t k => pre t (by
    show SS p e below T70 (mkF m 23 #[rv a1, rv e1] []) t
    refine XS.iconst X70.here hx rfl (hb hby d_add2_23) ?_
    show SS p e below T70 (mkF m 24 #[rv a1, rv e1] [(.int (1 : Int32))]) t
    exact k)
  obtain ⟨fs, hr, hrun, hended, hW, hsame⟩ := X70.leave (v := some (.int (1 : Int32))) (fun h => by rw [Bd.returns] at h; cases h)
  subst hS0
  refine ⟨_, _, pre _ ?_, hrun, hended, _, _, rfl, ?_, ⟨_, rfl⟩, hW, hsame.mono (by decide) (by decide)⟩
  · exact retN X70 hx (t := .boolean) Bd.returns (by simp) (hb hby d_add2_24) hr
  · show Q_add2 Z a1 e1 b1 md f h0 n0 _ T70.heap _
    exact ⟨rfl, N70, own_keep_trans ((Keep.refl h0 [b1, a1]).wr W67 (Or.inl (List.mem_of_getElem? (i := 1) rfl))) K70, A70, O70⟩
def Q_lof (Z : State)  (el : Addr) (h0 : Heap) (n0 : Nat) (v : Option Value) (h : Heap) (L : List Loc) : Prop := v = some (.ref el) ∧ Fr n0 L ∧ h = h0
set_option maxRecDepth 65536 in
set_option maxHeartbeats 40000000 in
theorem rm_lof (l : Launch) (Z : State) (a0 : Array Value) (hw : ∀ d ∈ tables_1, d.before a0 Z = true) (ws : List Jvm.Cond)  (el : Addr) (h0 : Heap) (n0 : Nat) (Sel : Sta Z h0 "java/util/ImmutableCollections" "EMPTY_LIST" "Ljava/util/ImmutableCollections$ListN;" (.ref el)) :
    MetFree l (⟨"java/util/List", "of", "()Ljava/util/List;"⟩ : MethodName) (head1 (Jvm.Cond.code (⟨"java/util/List", "of", "()Ljava/util/List;"⟩ : MethodName) jdk_40_method_36_code 0 (some (.object "java/util/List")) :: ws) ({ frames := 0, cells := 0, slots := 0, locals := 0 } : Room)) (fun a U => a = #[] ∧ Z.Warmed39 U.vm ∧ U.heap = h0) (fun _ _ _ _ _ => True) (fun _ U o U' => ∃ v L, o = .returned v ∧ Q_lof Z  el h0 n0 v U'.heap L ∧ FrameEnd U o U' L ({ frames := 0, cells := 0, slots := 0, locals := 0 } : Room).cells ({ frames := 0, cells := 0, slots := 0, locals := 0 } : Room).slots) := by
  refine MetFree.of_bodySF (plainFor_of_name pn_java_util_List) hisR ?_
  intro p e s m args below meth c s₁ Bd hml0 hP hK
  obtain ⟨rfl, hZ, hh⟩ := hP
  have hx := Bd.exec
  have hby := Bd.bytes
  have hml : c.maxLocals = 0 := hml0
  have hown : s.vm.findClass "java/util/List" = some m.cls := findClass_of_methodNamed Bd.named
  have hnm := (name_of_methodNamed Bd.named Bd.method).1
  have X0 : Stand p l e ({ frames := 0, cells := 0, slots := 0, locals := 0 } : Room) s m #[] below meth c s₁ [] 0 0 := Stand.of_body Bd
  have e0 : s₁.heap = h0 := by rw [← hh, Bd.state]; rfl
  have N0 := Fr.nil n0
  obtain ⟨S0, hS0⟩ : ∃ S0, S0 = s₁.setTop (entryFrame m #[] 0) := ⟨_, rfl⟩
  have pre : Pth p e below S0 s₁ (mkF m 0 #[] []) := fun t k => by rw [hS0]; exact castTop (ef_lof m ) k
  obtain ⟨T71, X71, e71, st71⟩ := getS2 X0 hx hZ hown (host := "") (Or.inl (own_t hw 129 rfl)) Via.refl e0 Sel (g := (mkF m 0 #[] [])) rfl (hb hby d_lof_0)
  replace pre : Pth p e below S0 T71 (mkF m 3 #[] [(.ref el)]) := fun t k => pre t (st71 _ k)
  obtain ⟨fs, hr, hrun, hended, hW, hsame⟩ := X71.leave (v := some (.ref el)) (fun h => by rw [Bd.returns] at h; cases h)
  subst hS0
  refine ⟨_, _, pre _ ?_, hrun, hended, _, _, rfl, ?_, ⟨_, rfl⟩, hW, hsame.mono (by decide) (by decide)⟩
  · exact retOut X71 hx (t := (.object "java/util/List")) Bd.returns rfl (by simp [Value.isRef, FieldType.isReference]) (hb hby d_lof_3) hr
  · show Q_lof Z  el h0 n0 _ T71.heap _
    rw [e71]
    exact ⟨rfl, N0, rfl⟩
def Q_ie0 (Z : State) (a1 : Addr) (b1 : Addr) (md : Int32) (h0 : Heap) (n0 : Nat) (v : Option Value) (h : Heap) (L : List Loc) : Prop := v = some (.int 1) ∧ Fr n0 L ∧ h = h0
set_option maxRecDepth 65536 in
set_option maxHeartbeats 40000000 in
theorem rm_ie0 (l : Launch) (Z : State) (a0 : Array Value) (hw : ∀ d ∈ tables_1, d.before a0 Z = true) (ws : List Jvm.Cond) (a1 : Addr) (b1 : Addr) (md : Int32) (h0 : Heap) (n0 : Nat) (hA : OAL Z h0 a1 b1 0 md) :
    MetFree l (⟨"java/util/ArrayList", "isEmpty", "()Z"⟩ : MethodName) (head1 (Jvm.Cond.code (⟨"java/util/ArrayList", "isEmpty", "()Z"⟩ : MethodName) jdk_38_method_9_code 1 (some .boolean) :: ws) ({ frames := 0, cells := 0, slots := 0, locals := 0 } : Room)) (fun a U => a = #[(.ref a1)] ∧ Z.Warmed39 U.vm ∧ U.heap = h0) (fun _ _ _ _ _ => True) (fun _ U o U' => ∃ v L, o = .returned v ∧ Q_ie0 Z a1 b1 md h0 n0 v U'.heap L ∧ FrameEnd U o U' L ({ frames := 0, cells := 0, slots := 0, locals := 0 } : Room).cells ({ frames := 0, cells := 0, slots := 0, locals := 0 } : Room).slots) := by
  refine MetFree.of_bodySF (plainFor_of_name pn_java_util_ArrayList) hisR ?_
  intro p e s m args below meth c s₁ Bd hml0 hP hK
  obtain ⟨rfl, hZ, hh⟩ := hP
  have hx := Bd.exec
  have hby := Bd.bytes
  have hml : c.maxLocals = 1 := hml0
  have hown : s.vm.findClass "java/util/ArrayList" = some m.cls := findClass_of_methodNamed Bd.named
  have hnm := (name_of_methodNamed Bd.named Bd.method).1
  have X0 : Stand p l e ({ frames := 0, cells := 0, slots := 0, locals := 0 } : Room) s m #[(.ref a1)] below meth c s₁ [] 0 0 := Stand.of_body Bd
  have e0 : s₁.heap = h0 := by rw [← hh, Bd.state]; rfl
  have N0 := Fr.nil n0
  obtain ⟨S0, hS0⟩ : ∃ S0, S0 = s₁.setTop (entryFrame m #[(.ref a1)] 1) := ⟨_, rfl⟩
  have pre : Pth p e below S0 s₁ (mkF m 0 #[rv a1] []) := fun t k => by rw [hS0]; exact castTop (ef_ie0 m a1) k
  replace pre : Pth p e below S0 s₁ (mkF m 1 #[rv a1] [(.ref a1)]) := fun t k => pre t (by
    show SS p e below s₁ (mkF m 0 #[rv a1] []) t
    refine XS.aloadN X0.here hx rfl (hb hby d_ie0_0) rfl rfl ?_
    show SS p e below s₁ (mkF m 1 #[rv a1] [(.ref a1)]) t
    exact k)
  obtain ⟨T72, X72, e72, st72⟩ := getF X0 hx hZ hown (host := "") (Or.inl (own_t hw 75 rfl)) Via.refl e0 hA.2.2.1 (g := (mkF m 1 #[rv a1] [(.ref a1)])) rfl rfl (hb hby d_ie0_1)
  replace pre : Pth p e below S0 T72 (mkF m 4 #[rv a1] [(.int (0 : Int32))]) := fun t k => pre t (st72 _ k)
  replace pre : Pth p e below S0 T72 (mkF m 12 #[rv a1] [(.int (1 : Int32))]) := fun t k => pre t (by
    show SS p e below T72 (mkF m 4 #[rv a1] [(.int (0 : Int32))]) t
    refine XS.ifNo X72.here hx rfl (hb hby d_ie0_4) rfl (XT.i0_ne_f rfl) ?_
    show SS p e below T72 (mkF m 7 #[rv a1] []) t
    refine XS.iconst X72.here hx rfl (hb hby d_ie0_7) ?_
    show SS p e below T72 (mkF m 8 #[rv a1] [(.int (1 : Int32))]) t
    refine XS.goto X72.here hx rfl (pc0 := 8) (pc' := 12) rfl (hb hby d_ie0_8) (by decide) (by decide) ?_
    show SS p e below T72 (mkF m 12 #[rv a1] [(.int (1 : Int32))]) t
    exact k)
  obtain ⟨fs, hr, hrun, hended, hW, hsame⟩ := X72.leave (v := some (.int (1 : Int32))) (fun h => by rw [Bd.returns] at h; cases h)
  subst hS0
  refine ⟨_, _, pre _ ?_, hrun, hended, _, _, rfl, ?_, ⟨_, rfl⟩, hW, hsame.mono (by decide) (by decide)⟩
  · exact retN X72 hx (t := .boolean) Bd.returns (by simp) (hb hby d_ie0_12) hr
  · show Q_ie0 Z a1 b1 md h0 n0 _ T72.heap _
    rw [e72]
    exact ⟨rfl, N0, rfl⟩
def Q_ie1 (Z : State) (a1 : Addr) (b1 : Addr) (md : Int32) (h0 : Heap) (n0 : Nat) (v : Option Value) (h : Heap) (L : List Loc) : Prop := v = some (.int 0) ∧ Fr n0 L ∧ h = h0
set_option maxRecDepth 65536 in
set_option maxHeartbeats 40000000 in
theorem rm_ie1 (l : Launch) (Z : State) (a0 : Array Value) (hw : ∀ d ∈ tables_1, d.before a0 Z = true) (ws : List Jvm.Cond) (a1 : Addr) (b1 : Addr) (md : Int32) (h0 : Heap) (n0 : Nat) (hA : OAL Z h0 a1 b1 1 md) :
    MetFree l (⟨"java/util/ArrayList", "isEmpty", "()Z"⟩ : MethodName) (head1 (Jvm.Cond.code (⟨"java/util/ArrayList", "isEmpty", "()Z"⟩ : MethodName) jdk_38_method_9_code 1 (some .boolean) :: ws) ({ frames := 0, cells := 0, slots := 0, locals := 0 } : Room)) (fun a U => a = #[(.ref a1)] ∧ Z.Warmed39 U.vm ∧ U.heap = h0) (fun _ _ _ _ _ => True) (fun _ U o U' => ∃ v L, o = .returned v ∧ Q_ie1 Z a1 b1 md h0 n0 v U'.heap L ∧ FrameEnd U o U' L ({ frames := 0, cells := 0, slots := 0, locals := 0 } : Room).cells ({ frames := 0, cells := 0, slots := 0, locals := 0 } : Room).slots) := by
  refine MetFree.of_bodySF (plainFor_of_name pn_java_util_ArrayList) hisR ?_
  intro p e s m args below meth c s₁ Bd hml0 hP hK
  obtain ⟨rfl, hZ, hh⟩ := hP
  have hx := Bd.exec
  have hby := Bd.bytes
  have hml : c.maxLocals = 1 := hml0
  have hown : s.vm.findClass "java/util/ArrayList" = some m.cls := findClass_of_methodNamed Bd.named
  have hnm := (name_of_methodNamed Bd.named Bd.method).1
  have X0 : Stand p l e ({ frames := 0, cells := 0, slots := 0, locals := 0 } : Room) s m #[(.ref a1)] below meth c s₁ [] 0 0 := Stand.of_body Bd
  have e0 : s₁.heap = h0 := by rw [← hh, Bd.state]; rfl
  have N0 := Fr.nil n0
  obtain ⟨S0, hS0⟩ : ∃ S0, S0 = s₁.setTop (entryFrame m #[(.ref a1)] 1) := ⟨_, rfl⟩
  have pre : Pth p e below S0 s₁ (mkF m 0 #[rv a1] []) := fun t k => by rw [hS0]; exact castTop (ef_ie1 m a1) k
  replace pre : Pth p e below S0 s₁ (mkF m 1 #[rv a1] [(.ref a1)]) := fun t k => pre t (by
    show SS p e below s₁ (mkF m 0 #[rv a1] []) t
    refine XS.aloadN X0.here hx rfl (hb hby d_ie1_0) rfl rfl ?_
    show SS p e below s₁ (mkF m 1 #[rv a1] [(.ref a1)]) t
    exact k)
  obtain ⟨T73, X73, e73, st73⟩ := getF X0 hx hZ hown (host := "") (Or.inl (own_t hw 75 rfl)) Via.refl e0 hA.2.2.1 (g := (mkF m 1 #[rv a1] [(.ref a1)])) rfl rfl (hb hby d_ie1_1)
  replace pre : Pth p e below S0 T73 (mkF m 4 #[rv a1] [(.int (1 : Int32))]) := fun t k => pre t (st73 _ k)
  replace pre : Pth p e below S0 T73 (mkF m 12 #[rv a1] [(.int (0 : Int32))]) := fun t k => pre t (by
    show SS p e below T73 (mkF m 4 #[rv a1] [(.int (1 : Int32))]) t
    refine XS.ifYes X73.here hx rfl (pc0 := 4) (pc' := 11) rfl (hb hby d_ie1_4) rfl (XT.i0_ne_t (by decide)) (by decide) (by decide) ?_
    show SS p e below T73 (mkF m 11 #[rv a1] []) t
    refine XS.iconst X73.here hx rfl (hb hby d_ie1_11) ?_
    show SS p e below T73 (mkF m 12 #[rv a1] [(.int (0 : Int32))]) t
    exact k)
  obtain ⟨fs, hr, hrun, hended, hW, hsame⟩ := X73.leave (v := some (.int (0 : Int32))) (fun h => by rw [Bd.returns] at h; cases h)
  subst hS0
  refine ⟨_, _, pre _ ?_, hrun, hended, _, _, rfl, ?_, ⟨_, rfl⟩, hW, hsame.mono (by decide) (by decide)⟩
  · exact retN X73 hx (t := .boolean) Bd.returns (by simp) (hb hby d_ie1_12) hr
  · show Q_ie1 Z a1 b1 md h0 n0 _ T73.heap _
    rw [e73]
    exact ⟨rfl, N0, rfl⟩
def Q_ie2 (Z : State) (a1 : Addr) (b1 : Addr) (md : Int32) (h0 : Heap) (n0 : Nat) (v : Option Value) (h : Heap) (L : List Loc) : Prop := v = some (.int 0) ∧ Fr n0 L ∧ h = h0
set_option maxRecDepth 65536 in
set_option maxHeartbeats 40000000 in
theorem rm_ie2 (l : Launch) (Z : State) (a0 : Array Value) (hw : ∀ d ∈ tables_1, d.before a0 Z = true) (ws : List Jvm.Cond) (a1 : Addr) (b1 : Addr) (md : Int32) (h0 : Heap) (n0 : Nat) (hA : OAL Z h0 a1 b1 2 md) :
    MetFree l (⟨"java/util/ArrayList", "isEmpty", "()Z"⟩ : MethodName) (head1 (Jvm.Cond.code (⟨"java/util/ArrayList", "isEmpty", "()Z"⟩ : MethodName) jdk_38_method_9_code 1 (some .boolean) :: ws) ({ frames := 0, cells := 0, slots := 0, locals := 0 } : Room)) (fun a U => a = #[(.ref a1)] ∧ Z.Warmed39 U.vm ∧ U.heap = h0) (fun _ _ _ _ _ => True) (fun _ U o U' => ∃ v L, o = .returned v ∧ Q_ie2 Z a1 b1 md h0 n0 v U'.heap L ∧ FrameEnd U o U' L ({ frames := 0, cells := 0, slots := 0, locals := 0 } : Room).cells ({ frames := 0, cells := 0, slots := 0, locals := 0 } : Room).slots) := by
  refine MetFree.of_bodySF (plainFor_of_name pn_java_util_ArrayList) hisR ?_
  intro p e s m args below meth c s₁ Bd hml0 hP hK
  obtain ⟨rfl, hZ, hh⟩ := hP
  have hx := Bd.exec
  have hby := Bd.bytes
  have hml : c.maxLocals = 1 := hml0
  have hown : s.vm.findClass "java/util/ArrayList" = some m.cls := findClass_of_methodNamed Bd.named
  have hnm := (name_of_methodNamed Bd.named Bd.method).1
  have X0 : Stand p l e ({ frames := 0, cells := 0, slots := 0, locals := 0 } : Room) s m #[(.ref a1)] below meth c s₁ [] 0 0 := Stand.of_body Bd
  have e0 : s₁.heap = h0 := by rw [← hh, Bd.state]; rfl
  have N0 := Fr.nil n0
  obtain ⟨S0, hS0⟩ : ∃ S0, S0 = s₁.setTop (entryFrame m #[(.ref a1)] 1) := ⟨_, rfl⟩
  have pre : Pth p e below S0 s₁ (mkF m 0 #[rv a1] []) := fun t k => by rw [hS0]; exact castTop (ef_ie2 m a1) k
  replace pre : Pth p e below S0 s₁ (mkF m 1 #[rv a1] [(.ref a1)]) := fun t k => pre t (by
    show SS p e below s₁ (mkF m 0 #[rv a1] []) t
    refine XS.aloadN X0.here hx rfl (hb hby d_ie2_0) rfl rfl ?_
    show SS p e below s₁ (mkF m 1 #[rv a1] [(.ref a1)]) t
    exact k)
  obtain ⟨T74, X74, e74, st74⟩ := getF X0 hx hZ hown (host := "") (Or.inl (own_t hw 75 rfl)) Via.refl e0 hA.2.2.1 (g := (mkF m 1 #[rv a1] [(.ref a1)])) rfl rfl (hb hby d_ie2_1)
  replace pre : Pth p e below S0 T74 (mkF m 4 #[rv a1] [(.int (2 : Int32))]) := fun t k => pre t (st74 _ k)
  replace pre : Pth p e below S0 T74 (mkF m 12 #[rv a1] [(.int (0 : Int32))]) := fun t k => pre t (by
    show SS p e below T74 (mkF m 4 #[rv a1] [(.int (2 : Int32))]) t
    refine XS.ifYes X74.here hx rfl (pc0 := 4) (pc' := 11) rfl (hb hby d_ie2_4) rfl (XT.i0_ne_t (by decide)) (by decide) (by decide) ?_
    show SS p e below T74 (mkF m 11 #[rv a1] []) t
    refine XS.iconst X74.here hx rfl (hb hby d_ie2_11) ?_
    show SS p e below T74 (mkF m 12 #[rv a1] [(.int (0 : Int32))]) t
    exact k)
  obtain ⟨fs, hr, hrun, hended, hW, hsame⟩ := X74.leave (v := some (.int (0 : Int32))) (fun h => by rw [Bd.returns] at h; cases h)
  subst hS0
  refine ⟨_, _, pre _ ?_, hrun, hended, _, _, rfl, ?_, ⟨_, rfl⟩, hW, hsame.mono (by decide) (by decide)⟩
  · exact retN X74 hx (t := .boolean) Bd.returns (by simp) (hb hby d_ie2_12) hr
  · show Q_ie2 Z a1 b1 md h0 n0 _ T74.heap _
    rw [e74]
    exact ⟨rfl, N0, rfl⟩
def Q_ie3 (Z : State) (a1 : Addr) (b1 : Addr) (md : Int32) (h0 : Heap) (n0 : Nat) (v : Option Value) (h : Heap) (L : List Loc) : Prop := v = some (.int 0) ∧ Fr n0 L ∧ h = h0
set_option maxRecDepth 65536 in
set_option maxHeartbeats 40000000 in
theorem rm_ie3 (l : Launch) (Z : State) (a0 : Array Value) (hw : ∀ d ∈ tables_1, d.before a0 Z = true) (ws : List Jvm.Cond) (a1 : Addr) (b1 : Addr) (md : Int32) (h0 : Heap) (n0 : Nat) (hA : OAL Z h0 a1 b1 3 md) :
    MetFree l (⟨"java/util/ArrayList", "isEmpty", "()Z"⟩ : MethodName) (head1 (Jvm.Cond.code (⟨"java/util/ArrayList", "isEmpty", "()Z"⟩ : MethodName) jdk_38_method_9_code 1 (some .boolean) :: ws) ({ frames := 0, cells := 0, slots := 0, locals := 0 } : Room)) (fun a U => a = #[(.ref a1)] ∧ Z.Warmed39 U.vm ∧ U.heap = h0) (fun _ _ _ _ _ => True) (fun _ U o U' => ∃ v L, o = .returned v ∧ Q_ie3 Z a1 b1 md h0 n0 v U'.heap L ∧ FrameEnd U o U' L ({ frames := 0, cells := 0, slots := 0, locals := 0 } : Room).cells ({ frames := 0, cells := 0, slots := 0, locals := 0 } : Room).slots) := by
  refine MetFree.of_bodySF (plainFor_of_name pn_java_util_ArrayList) hisR ?_
  intro p e s m args below meth c s₁ Bd hml0 hP hK
  obtain ⟨rfl, hZ, hh⟩ := hP
  have hx := Bd.exec
  have hby := Bd.bytes
  have hml : c.maxLocals = 1 := hml0
  have hown : s.vm.findClass "java/util/ArrayList" = some m.cls := findClass_of_methodNamed Bd.named
  have hnm := (name_of_methodNamed Bd.named Bd.method).1
  have X0 : Stand p l e ({ frames := 0, cells := 0, slots := 0, locals := 0 } : Room) s m #[(.ref a1)] below meth c s₁ [] 0 0 := Stand.of_body Bd
  have e0 : s₁.heap = h0 := by rw [← hh, Bd.state]; rfl
  have N0 := Fr.nil n0
  obtain ⟨S0, hS0⟩ : ∃ S0, S0 = s₁.setTop (entryFrame m #[(.ref a1)] 1) := ⟨_, rfl⟩
  have pre : Pth p e below S0 s₁ (mkF m 0 #[rv a1] []) := fun t k => by rw [hS0]; exact castTop (ef_ie3 m a1) k
  replace pre : Pth p e below S0 s₁ (mkF m 1 #[rv a1] [(.ref a1)]) := fun t k => pre t (by
    show SS p e below s₁ (mkF m 0 #[rv a1] []) t
    refine XS.aloadN X0.here hx rfl (hb hby d_ie3_0) rfl rfl ?_
    show SS p e below s₁ (mkF m 1 #[rv a1] [(.ref a1)]) t
    exact k)
  obtain ⟨T75, X75, e75, st75⟩ := getF X0 hx hZ hown (host := "") (Or.inl (own_t hw 75 rfl)) Via.refl e0 hA.2.2.1 (g := (mkF m 1 #[rv a1] [(.ref a1)])) rfl rfl (hb hby d_ie3_1)
  replace pre : Pth p e below S0 T75 (mkF m 4 #[rv a1] [(.int (3 : Int32))]) := fun t k => pre t (st75 _ k)
  replace pre : Pth p e below S0 T75 (mkF m 12 #[rv a1] [(.int (0 : Int32))]) := fun t k => pre t (by
    show SS p e below T75 (mkF m 4 #[rv a1] [(.int (3 : Int32))]) t
    refine XS.ifYes X75.here hx rfl (pc0 := 4) (pc' := 11) rfl (hb hby d_ie3_4) rfl (XT.i0_ne_t (by decide)) (by decide) (by decide) ?_
    show SS p e below T75 (mkF m 11 #[rv a1] []) t
    refine XS.iconst X75.here hx rfl (hb hby d_ie3_11) ?_
    show SS p e below T75 (mkF m 12 #[rv a1] [(.int (0 : Int32))]) t
    exact k)
  obtain ⟨fs, hr, hrun, hended, hW, hsame⟩ := X75.leave (v := some (.int (0 : Int32))) (fun h => by rw [Bd.returns] at h; cases h)
  subst hS0
  refine ⟨_, _, pre _ ?_, hrun, hended, _, _, rfl, ?_, ⟨_, rfl⟩, hW, hsame.mono (by decide) (by decide)⟩
  · exact retN X75 hx (t := .boolean) Bd.returns (by simp) (hb hby d_ie3_12) hr
  · show Q_ie3 Z a1 b1 md h0 n0 _ T75.heap _
    rw [e75]
    exact ⟨rfl, N0, rfl⟩
def Q_lns0 (Z : State) (a1 : Addr) (b1 : Addr) (f : Nat → Value) (h0 : Heap) (n0 : Nat) (v : Option Value) (h : Heap) (L : List Loc) : Prop := v = some (.int 0) ∧ Fr n0 L ∧ h = h0
set_option maxRecDepth 65536 in
set_option maxHeartbeats 40000000 in
theorem rm_lns0 (l : Launch) (Z : State) (a0 : Array Value) (hw : ∀ d ∈ tables_1, d.before a0 Z = true) (ws : List Jvm.Cond) (a1 : Addr) (b1 : Addr) (f : Nat → Value) (h0 : Heap) (n0 : Nat) (F1 : Fld Z h0 a1 "java/util/ImmutableCollections$ListN" "elements" "[Ljava/lang/Object;" (.ref b1)) (Fa : OFun Z h0 b1 (.object "java/lang/Object") 0 f) :
    MetFree l (⟨"java/util/ImmutableCollections$ListN", "size", "()I"⟩ : MethodName) (head1 (Jvm.Cond.code (⟨"java/util/ImmutableCollections$ListN", "size", "()I"⟩ : MethodName) jdk_45_method_3_code 1 (some .int) :: ws) ({ frames := 0, cells := 0, slots := 0, locals := 0 } : Room)) (fun a U => a = #[(.ref a1)] ∧ Z.Warmed39 U.vm ∧ U.heap = h0) (fun _ _ _ _ _ => True) (fun _ U o U' => ∃ v L, o = .returned v ∧ Q_lns0 Z a1 b1 f h0 n0 v U'.heap L ∧ FrameEnd U o U' L ({ frames := 0, cells := 0, slots := 0, locals := 0 } : Room).cells ({ frames := 0, cells := 0, slots := 0, locals := 0 } : Room).slots) := by
  refine MetFree.of_bodySF (plainFor_of_name pn_java_util_ImmutableCollections_ListN) hisR ?_
  intro p e s m args below meth c s₁ Bd hml0 hP hK
  obtain ⟨rfl, hZ, hh⟩ := hP
  have hx := Bd.exec
  have hby := Bd.bytes
  have hml : c.maxLocals = 1 := hml0
  have hown : s.vm.findClass "java/util/ImmutableCollections$ListN" = some m.cls := findClass_of_methodNamed Bd.named
  have hnm := (name_of_methodNamed Bd.named Bd.method).1
  have X0 : Stand p l e ({ frames := 0, cells := 0, slots := 0, locals := 0 } : Room) s m #[(.ref a1)] below meth c s₁ [] 0 0 := Stand.of_body Bd
  have e0 : s₁.heap = h0 := by rw [← hh, Bd.state]; rfl
  have N0 := Fr.nil n0
  obtain ⟨S0, hS0⟩ : ∃ S0, S0 = s₁.setTop (entryFrame m #[(.ref a1)] 1) := ⟨_, rfl⟩
  have pre : Pth p e below S0 s₁ (mkF m 0 #[rv a1] []) := fun t k => by rw [hS0]; exact castTop (ef_lns0 m a1) k
  replace pre : Pth p e below S0 s₁ (mkF m 1 #[rv a1] [(.ref a1)]) := fun t k => pre t (by
    show SS p e below s₁ (mkF m 0 #[rv a1] []) t
    refine XS.aloadN X0.here hx rfl (hb hby d_lns0_0) rfl rfl ?_
    show SS p e below s₁ (mkF m 1 #[rv a1] [(.ref a1)]) t
    exact k)
  obtain ⟨T76, X76, e76, st76⟩ := getF X0 hx hZ hown (host := "") (Or.inl (own_t hw 141 rfl)) Via.refl e0 F1 (g := (mkF m 1 #[rv a1] [(.ref a1)])) rfl rfl (hb hby d_lns0_1)
  replace pre : Pth p e below S0 T76 (mkF m 4 #[rv a1] [(.ref b1)]) := fun t k => pre t (st76 _ k)
  obtain ⟨cl77, Ar77, Sz77, -⟩ := id Fa
  have hln77 : cl77.slots.size.toInt32 = (0 : Int32) := (congrArg Nat.toInt32 Sz77).trans (rfl)
  replace pre : Pth p e below S0 T76 (mkF m 5 #[rv a1] [(.int (0 : Int32))]) := fun t k => pre t (by
    show SS p e below T76 (mkF m 4 #[rv a1] [(.ref b1)]) t
    refine X76.arraylength hx (by rw [e76]; exact Ar77.1) (State.isArrayOf_alike hZ.alike Ar77.2.1) (g := (mkF m 4 #[rv a1] [(.ref b1)])) rfl rfl (hb hby d_lns0_4) _ ?_
    rw [hln77]
    show SS p e below T76 (mkF m 5 #[rv a1] [(.int (0 : Int32))]) t
    exact k)
  obtain ⟨fs, hr, hrun, hended, hW, hsame⟩ := X76.leave (v := some (.int (0 : Int32))) (fun h => by rw [Bd.returns] at h; cases h)
  subst hS0
  refine ⟨_, _, pre _ ?_, hrun, hended, _, _, rfl, ?_, ⟨_, rfl⟩, hW, hsame.mono (by decide) (by decide)⟩
  · exact retI X76 hx Bd.returns (hb hby d_lns0_5) hr
  · show Q_lns0 Z a1 b1 f h0 n0 _ T76.heap _
    rw [e76]
    exact ⟨rfl, N0, rfl⟩
def Q_lns3 (Z : State) (a1 : Addr) (b1 : Addr) (f : Nat → Value) (h0 : Heap) (n0 : Nat) (v : Option Value) (h : Heap) (L : List Loc) : Prop := v = some (.int 3) ∧ Fr n0 L ∧ h = h0
set_option maxRecDepth 65536 in
set_option maxHeartbeats 40000000 in
theorem rm_lns3 (l : Launch) (Z : State) (a0 : Array Value) (hw : ∀ d ∈ tables_1, d.before a0 Z = true) (ws : List Jvm.Cond) (a1 : Addr) (b1 : Addr) (f : Nat → Value) (h0 : Heap) (n0 : Nat) (F1 : Fld Z h0 a1 "java/util/ImmutableCollections$ListN" "elements" "[Ljava/lang/Object;" (.ref b1)) (Fa : OFun Z h0 b1 (.object "java/lang/Object") 3 f) :
    MetFree l (⟨"java/util/ImmutableCollections$ListN", "size", "()I"⟩ : MethodName) (head1 (Jvm.Cond.code (⟨"java/util/ImmutableCollections$ListN", "size", "()I"⟩ : MethodName) jdk_45_method_3_code 1 (some .int) :: ws) ({ frames := 0, cells := 0, slots := 0, locals := 0 } : Room)) (fun a U => a = #[(.ref a1)] ∧ Z.Warmed39 U.vm ∧ U.heap = h0) (fun _ _ _ _ _ => True) (fun _ U o U' => ∃ v L, o = .returned v ∧ Q_lns3 Z a1 b1 f h0 n0 v U'.heap L ∧ FrameEnd U o U' L ({ frames := 0, cells := 0, slots := 0, locals := 0 } : Room).cells ({ frames := 0, cells := 0, slots := 0, locals := 0 } : Room).slots) := by
  refine MetFree.of_bodySF (plainFor_of_name pn_java_util_ImmutableCollections_ListN) hisR ?_
  intro p e s m args below meth c s₁ Bd hml0 hP hK
  obtain ⟨rfl, hZ, hh⟩ := hP
  have hx := Bd.exec
  have hby := Bd.bytes
  have hml : c.maxLocals = 1 := hml0
  have hown : s.vm.findClass "java/util/ImmutableCollections$ListN" = some m.cls := findClass_of_methodNamed Bd.named
  have hnm := (name_of_methodNamed Bd.named Bd.method).1
  have X0 : Stand p l e ({ frames := 0, cells := 0, slots := 0, locals := 0 } : Room) s m #[(.ref a1)] below meth c s₁ [] 0 0 := Stand.of_body Bd
  have e0 : s₁.heap = h0 := by rw [← hh, Bd.state]; rfl
  have N0 := Fr.nil n0
  obtain ⟨S0, hS0⟩ : ∃ S0, S0 = s₁.setTop (entryFrame m #[(.ref a1)] 1) := ⟨_, rfl⟩
  have pre : Pth p e below S0 s₁ (mkF m 0 #[rv a1] []) := fun t k => by rw [hS0]; exact castTop (ef_lns3 m a1) k
  replace pre : Pth p e below S0 s₁ (mkF m 1 #[rv a1] [(.ref a1)]) := fun t k => pre t (by
    show SS p e below s₁ (mkF m 0 #[rv a1] []) t
    refine XS.aloadN X0.here hx rfl (hb hby d_lns3_0) rfl rfl ?_
    show SS p e below s₁ (mkF m 1 #[rv a1] [(.ref a1)]) t
    exact k)
  obtain ⟨T78, X78, e78, st78⟩ := getF X0 hx hZ hown (host := "") (Or.inl (own_t hw 141 rfl)) Via.refl e0 F1 (g := (mkF m 1 #[rv a1] [(.ref a1)])) rfl rfl (hb hby d_lns3_1)
  replace pre : Pth p e below S0 T78 (mkF m 4 #[rv a1] [(.ref b1)]) := fun t k => pre t (st78 _ k)
  obtain ⟨cl79, Ar79, Sz79, -⟩ := id Fa
  have hln79 : cl79.slots.size.toInt32 = (3 : Int32) := (congrArg Nat.toInt32 Sz79).trans (rfl)
  replace pre : Pth p e below S0 T78 (mkF m 5 #[rv a1] [(.int (3 : Int32))]) := fun t k => pre t (by
    show SS p e below T78 (mkF m 4 #[rv a1] [(.ref b1)]) t
    refine X78.arraylength hx (by rw [e78]; exact Ar79.1) (State.isArrayOf_alike hZ.alike Ar79.2.1) (g := (mkF m 4 #[rv a1] [(.ref b1)])) rfl rfl (hb hby d_lns3_4) _ ?_
    rw [hln79]
    show SS p e below T78 (mkF m 5 #[rv a1] [(.int (3 : Int32))]) t
    exact k)
  obtain ⟨fs, hr, hrun, hended, hW, hsame⟩ := X78.leave (v := some (.int (3 : Int32))) (fun h => by rw [Bd.returns] at h; cases h)
  subst hS0
  refine ⟨_, _, pre _ ?_, hrun, hended, _, _, rfl, ?_, ⟨_, rfl⟩, hW, hsame.mono (by decide) (by decide)⟩
  · exact retI X78 hx Bd.returns (hb hby d_lns3_5) hr
  · show Q_lns3 Z a1 b1 f h0 n0 _ T78.heap _
    rw [e78]
    exact ⟨rfl, N0, rfl⟩
def Q_l2s1 (Z : State) (a1 : Addr) (em u1 : Addr) (h0 : Heap) (n0 : Nat) (v : Option Value) (h : Heap) (L : List Loc) : Prop := v = some (.int 1) ∧ Fr n0 L ∧ h = h0
set_option maxRecDepth 65536 in
set_option maxHeartbeats 40000000 in
theorem rm_l2s1 (l : Launch) (Z : State) (a0 : Array Value) (hw : ∀ d ∈ tables_1, d.before a0 Z = true) (ws : List Jvm.Cond) (a1 : Addr) (em u1 : Addr) (h0 : Heap) (n0 : Nat) (F1 : Fld Z h0 a1 "java/util/ImmutableCollections$List12" "e1" "Ljava/lang/Object;" (.ref u1)) (hu : u1 = em) (Sem : Sta Z h0 "java/util/ImmutableCollections" "EMPTY" "Ljava/lang/Object;" (.ref em)) :
    MetFree l (⟨"java/util/ImmutableCollections$List12", "size", "()I"⟩ : MethodName) (head1 (Jvm.Cond.code (⟨"java/util/ImmutableCollections$List12", "size", "()I"⟩ : MethodName) jdk_44_method_3_code 1 (some .int) :: ws) ({ frames := 0, cells := 0, slots := 0, locals := 0 } : Room)) (fun a U => a = #[(.ref a1)] ∧ Z.Warmed39 U.vm ∧ U.heap = h0) (fun _ _ _ _ _ => True) (fun _ U o U' => ∃ v L, o = .returned v ∧ Q_l2s1 Z a1 em u1 h0 n0 v U'.heap L ∧ FrameEnd U o U' L ({ frames := 0, cells := 0, slots := 0, locals := 0 } : Room).cells ({ frames := 0, cells := 0, slots := 0, locals := 0 } : Room).slots) := by
  refine MetFree.of_bodySF (plainFor_of_name pn_java_util_ImmutableCollections_List12) hisR ?_
  intro p e s m args below meth c s₁ Bd hml0 hP hK
  obtain ⟨rfl, hZ, hh⟩ := hP
  have hx := Bd.exec
  have hby := Bd.bytes
  have hml : c.maxLocals = 1 := hml0
  have hown : s.vm.findClass "java/util/ImmutableCollections$List12" = some m.cls := findClass_of_methodNamed Bd.named
  have hnm := (name_of_methodNamed Bd.named Bd.method).1
  have X0 : Stand p l e ({ frames := 0, cells := 0, slots := 0, locals := 0 } : Room) s m #[(.ref a1)] below meth c s₁ [] 0 0 := Stand.of_body Bd
  have e0 : s₁.heap = h0 := by rw [← hh, Bd.state]; rfl
  have N0 := Fr.nil n0
  obtain ⟨S0, hS0⟩ : ∃ S0, S0 = s₁.setTop (entryFrame m #[(.ref a1)] 1) := ⟨_, rfl⟩
  have pre : Pth p e below S0 s₁ (mkF m 0 #[rv a1] []) := fun t k => by rw [hS0]; exact castTop (ef_l2s1 m a1) k
  replace pre : Pth p e below S0 s₁ (mkF m 1 #[rv a1] [(.ref a1)]) := fun t k => pre t (by
    show SS p e below s₁ (mkF m 0 #[rv a1] []) t
    refine XS.aloadN X0.here hx rfl (hb hby d_l2s1_0) rfl rfl ?_
    show SS p e below s₁ (mkF m 1 #[rv a1] [(.ref a1)]) t
    exact k)
  obtain ⟨T80, X80, e80, st80⟩ := getF X0 hx hZ hown (host := "") (Or.inl (own_t hw 242 rfl)) Via.refl e0 F1 (g := (mkF m 1 #[rv a1] [(.ref a1)])) rfl rfl (hb hby d_l2s1_1)
  replace pre : Pth p e below S0 T80 (mkF m 4 #[rv a1] [(.ref u1)]) := fun t k => pre t (st80 _ k)
  obtain ⟨T81, X81, e81, st81⟩ := getS2 X80 hx hZ hown (Or.inr (own_t hw 241 rfl)) Via.refl e80 Sem (g := (mkF m 4 #[rv a1] [(.ref u1)])) rfl (hb hby d_l2s1_4)
  replace pre : Pth p e below S0 T81 (mkF m 7 #[rv a1] [(.ref em), (.ref u1)]) := fun t k => pre t (st81 _ k)
  replace pre : Pth p e below S0 T81 (mkF m 15 #[rv a1] [(.int (1 : Int32))]) := fun t k => pre t (by
    show SS p e below T81 (mkF m 7 #[rv a1] [(.ref em), (.ref u1)]) t
    refine Jvm.RoadKit.acmp (g := (mkF m 7 #[rv a1] [(.ref em), (.ref u1)])) X81 hx rfl rfl rfl (pc0 := 7) (pc' := 14) (same := true) rfl (hb hby d_l2s1_7) rfl (decide_eq_true (congrArg Value.ref hu)) (by decide) (by decide) ?_
    show SS p e below T81 (mkF m 14 #[rv a1] []) t
    refine XS.iconst X81.here hx rfl (hb hby d_l2s1_14) ?_
    show SS p e below T81 (mkF m 15 #[rv a1] [(.int (1 : Int32))]) t
    exact k)
  obtain ⟨fs, hr, hrun, hended, hW, hsame⟩ := X81.leave (v := some (.int (1 : Int32))) (fun h => by rw [Bd.returns] at h; cases h)
  subst hS0
  refine ⟨_, _, pre _ ?_, hrun, hended, _, _, rfl, ?_, ⟨_, rfl⟩, hW, hsame.mono (by decide) (by decide)⟩
  · exact retI X81 hx Bd.returns (hb hby d_l2s1_15) hr
  · show Q_l2s1 Z a1 em u1 h0 n0 _ T81.heap _
    rw [e81]
    exact ⟨rfl, N0, rfl⟩
def Q_l2s2 (Z : State) (a1 : Addr) (em u1 : Addr) (h0 : Heap) (n0 : Nat) (v : Option Value) (h : Heap) (L : List Loc) : Prop := v = some (.int 2) ∧ Fr n0 L ∧ h = h0
set_option maxRecDepth 65536 in
set_option maxHeartbeats 40000000 in
theorem rm_l2s2 (l : Launch) (Z : State) (a0 : Array Value) (hw : ∀ d ∈ tables_1, d.before a0 Z = true) (ws : List Jvm.Cond) (a1 : Addr) (em u1 : Addr) (h0 : Heap) (n0 : Nat) (F1 : Fld Z h0 a1 "java/util/ImmutableCollections$List12" "e1" "Ljava/lang/Object;" (.ref u1)) (hu : u1 ≠ em) (Sem : Sta Z h0 "java/util/ImmutableCollections" "EMPTY" "Ljava/lang/Object;" (.ref em)) :
    MetFree l (⟨"java/util/ImmutableCollections$List12", "size", "()I"⟩ : MethodName) (head1 (Jvm.Cond.code (⟨"java/util/ImmutableCollections$List12", "size", "()I"⟩ : MethodName) jdk_44_method_3_code 1 (some .int) :: ws) ({ frames := 0, cells := 0, slots := 0, locals := 0 } : Room)) (fun a U => a = #[(.ref a1)] ∧ Z.Warmed39 U.vm ∧ U.heap = h0) (fun _ _ _ _ _ => True) (fun _ U o U' => ∃ v L, o = .returned v ∧ Q_l2s2 Z a1 em u1 h0 n0 v U'.heap L ∧ FrameEnd U o U' L ({ frames := 0, cells := 0, slots := 0, locals := 0 } : Room).cells ({ frames := 0, cells := 0, slots := 0, locals := 0 } : Room).slots) := by
  refine MetFree.of_bodySF (plainFor_of_name pn_java_util_ImmutableCollections_List12) hisR ?_
  intro p e s m args below meth c s₁ Bd hml0 hP hK
  obtain ⟨rfl, hZ, hh⟩ := hP
  have hx := Bd.exec
  have hby := Bd.bytes
  have hml : c.maxLocals = 1 := hml0
  have hown : s.vm.findClass "java/util/ImmutableCollections$List12" = some m.cls := findClass_of_methodNamed Bd.named
  have hnm := (name_of_methodNamed Bd.named Bd.method).1
  have X0 : Stand p l e ({ frames := 0, cells := 0, slots := 0, locals := 0 } : Room) s m #[(.ref a1)] below meth c s₁ [] 0 0 := Stand.of_body Bd
  have e0 : s₁.heap = h0 := by rw [← hh, Bd.state]; rfl
  have N0 := Fr.nil n0
  obtain ⟨S0, hS0⟩ : ∃ S0, S0 = s₁.setTop (entryFrame m #[(.ref a1)] 1) := ⟨_, rfl⟩
  have pre : Pth p e below S0 s₁ (mkF m 0 #[rv a1] []) := fun t k => by rw [hS0]; exact castTop (ef_l2s2 m a1) k
  replace pre : Pth p e below S0 s₁ (mkF m 1 #[rv a1] [(.ref a1)]) := fun t k => pre t (by
    show SS p e below s₁ (mkF m 0 #[rv a1] []) t
    refine XS.aloadN X0.here hx rfl (hb hby d_l2s2_0) rfl rfl ?_
    show SS p e below s₁ (mkF m 1 #[rv a1] [(.ref a1)]) t
    exact k)
  obtain ⟨T82, X82, e82, st82⟩ := getF X0 hx hZ hown (host := "") (Or.inl (own_t hw 242 rfl)) Via.refl e0 F1 (g := (mkF m 1 #[rv a1] [(.ref a1)])) rfl rfl (hb hby d_l2s2_1)
  replace pre : Pth p e below S0 T82 (mkF m 4 #[rv a1] [(.ref u1)]) := fun t k => pre t (st82 _ k)
  obtain ⟨T83, X83, e83, st83⟩ := getS2 X82 hx hZ hown (Or.inr (own_t hw 241 rfl)) Via.refl e82 Sem (g := (mkF m 4 #[rv a1] [(.ref u1)])) rfl (hb hby d_l2s2_4)
  replace pre : Pth p e below S0 T83 (mkF m 7 #[rv a1] [(.ref em), (.ref u1)]) := fun t k => pre t (st83 _ k)
  replace pre : Pth p e below S0 T83 (mkF m 15 #[rv a1] [(.int (2 : Int32))]) := fun t k => pre t (by
    show SS p e below T83 (mkF m 7 #[rv a1] [(.ref em), (.ref u1)]) t
    refine Jvm.RoadKit.acmp (g := (mkF m 7 #[rv a1] [(.ref em), (.ref u1)])) X83 hx rfl rfl rfl (pc0 := 7) (pc' := 10) (same := false) rfl (hb hby d_l2s2_7) rfl (decide_eq_false (own_rne hu)) (by decide) (by decide) ?_
    show SS p e below T83 (mkF m 10 #[rv a1] []) t
    refine XS.iconst X83.here hx rfl (hb hby d_l2s2_10) ?_
    show SS p e below T83 (mkF m 11 #[rv a1] [(.int (2 : Int32))]) t
    refine XS.goto X83.here hx rfl (pc0 := 11) (pc' := 15) rfl (hb hby d_l2s2_11) (by decide) (by decide) ?_
    show SS p e below T83 (mkF m 15 #[rv a1] [(.int (2 : Int32))]) t
    exact k)
  obtain ⟨fs, hr, hrun, hended, hW, hsame⟩ := X83.leave (v := some (.int (2 : Int32))) (fun h => by rw [Bd.returns] at h; cases h)
  subst hS0
  refine ⟨_, _, pre _ ?_, hrun, hended, _, _, rfl, ?_, ⟨_, rfl⟩, hW, hsame.mono (by decide) (by decide)⟩
  · exact retI X83 hx Bd.returns (hb hby d_l2s2_15) hr
  · show Q_l2s2 Z a1 em u1 h0 n0 _ T83.heap _
    rw [e83]
    exact ⟨rfl, N0, rfl⟩
def Q_l2i1 (Z : State) (a1 : Addr) (x1 : Addr) (em : Addr) (h0 : Heap) (n0 : Nat) (v : Option Value) (h : Heap) (L : List Loc) : Prop := v = none ∧ Fr n0 L ∧ Keep h0 h [a1] ∧ Exa Z h a1 "java/util/ImmutableCollections$List12" ∧ Fld Z h a1 "java/util/ImmutableCollections$List12" "e1" "Ljava/lang/Object;" (.ref em)
set_option maxRecDepth 65536 in
set_option maxHeartbeats 40000000 in
theorem rm_l2i1 (l : Launch) (Z : State) (a0 : Array Value) (hw : ∀ d ∈ tables_1, d.before a0 Z = true) (ws : List Jvm.Cond) (a1 : Addr) (x1 : Addr) (em : Addr) (h0 : Heap) (n0 : Nat) (ga : n0 ≤ a1) (Ea : Exa Z h0 a1 "java/util/ImmutableCollections$List12") (F1 : Fld Z h0 a1 "java/util/ImmutableCollections$List12" "e0" "Ljava/lang/Object;" .null) (F2 : Fld Z h0 a1 "java/util/ImmutableCollections$List12" "e1" "Ljava/lang/Object;" .null) (Sem : Sta Z h0 "java/util/ImmutableCollections" "EMPTY" "Ljava/lang/Object;" (.ref em)) :
    MetFree l (⟨"java/util/ImmutableCollections$List12", "<init>", "(Ljava/lang/Object;)V"⟩ : MethodName) (head1 (Jvm.Cond.code (⟨"java/util/ImmutableCollections$List12", "<init>", "(Ljava/lang/Object;)V"⟩ : MethodName) jdk_44_method_1_code 2 none :: ws) ({ frames := 4, cells := 0, slots := 0, locals := 48 } : Room)) (fun a U => a = #[(.ref a1), (.ref x1)] ∧ Z.Warmed39 U.vm ∧ U.heap = h0) (fun _ _ _ _ _ => True) (fun _ U o U' => ∃ v L, o = .returned v ∧ Q_l2i1 Z a1 x1 em h0 n0 v U'.heap L ∧ FrameEnd U o U' L ({ frames := 4, cells := 0, slots := 0, locals := 48 } : Room).cells ({ frames := 4, cells := 0, slots := 0, locals := 48 } : Room).slots) := by
  refine MetFree.of_bodySF (plainFor_of_name pn_java_util_ImmutableCollections_List12) hisR ?_
  intro p e s m args below meth c s₁ Bd hml0 hP hK
  obtain ⟨rfl, hZ, hh⟩ := hP
  have hx := Bd.exec
  have hby := Bd.bytes
  have hml : c.maxLocals = 2 := hml0
  have hown : s.vm.findClass "java/util/ImmutableCollections$List12" = some m.cls := findClass_of_methodNamed Bd.named
  have hnm := (name_of_methodNamed Bd.named Bd.method).1
  have X0 : Stand p l e ({ frames := 4, cells := 0, slots := 0, locals := 48 } : Room) s m #[(.ref a1), (.ref x1)] below meth c s₁ [] 0 0 := Stand.of_body Bd
  have e0 : s₁.heap = h0 := by rw [← hh, Bd.state]; rfl
  have N0 := Fr.nil n0
  obtain ⟨S0, hS0⟩ : ∃ S0, S0 = s₁.setTop (entryFrame m #[(.ref a1), (.ref x1)] 2) := ⟨_, rfl⟩
  have pre : Pth p e below S0 s₁ (mkF m 0 #[rv a1, rv x1] []) := fun t k => by rw [hS0]; exact castTop (ef_l2i1 m a1 x1) k
  replace pre : Pth p e below S0 s₁ (mkF m 1 #[rv a1, rv x1] [(.ref a1)]) := fun t k => pre t (by
    show SS p e below s₁ (mkF m 0 #[rv a1, rv x1] []) t
    refine XS.aloadN X0.here hx rfl (hb hby d_l2i1_0) rfl rfl ?_
    show SS p e below s₁ (mkF m 1 #[rv a1, rv x1] [(.ref a1)]) t
    exact k)
  obtain ⟨_, _, ⟨T84, L84, k84, n84⟩, -, X84, ⟨Lc84, hQ84, l84, y84, z84⟩, st84⟩ := X0.specialBack hx (y := (⟨"java/util/ImmutableCollections$AbstractImmutableList", "<init>", "()V"⟩ : MethodName)) rfl hown (mvT hZ (own_t hw 234 rfl)) (mvT hZ (own_t hw 212 rfl)) (mvT hZ (own_t hw 216 rfl)) (by decide) (backOf (W := 0) (rm_ail l Z a0 hw [] a1 h0 n0) hZ (own_t hw 216 rfl) (own_t hw 215 rfl) (by decide) (by decide)) (g := (mkF m 1 #[rv a1, rv x1] [(.ref a1)])) rfl (by rw [hml]; rfl) (Steps.refl _) (a := a1) (argsL := []) (rest := []) (lenOf pd___V rfl) rfl (by show 2 * 0 + _ ≤ _; exact Nat.le_of_eq rfl) (hb hby d_l2i1_1) (fun _ _ => ⟨rfl, e0, (by decide : 0 + 0 ≤ _), (by decide : 0 + 0 ≤ _)⟩)
  dsimp only [Pt.U, Pt.locs, Pt.cells, Pt.slots] at X84 l84 y84 z84 st84 hQ84
  subst l84 y84 z84
  obtain ⟨rfl, N84q, e84⟩ := hQ84
  have N84 := Fr.app N0 N84q
  replace pre : Pth p e below S0 T84 (mkF m 4 #[rv a1, rv x1] []) := fun t k => pre t (st84.trans k)
  replace pre : Pth p e below S0 T84 (mkF m 6 #[rv a1, rv x1] [(.ref x1), (.ref a1)]) := fun t k => pre t (by
    show SS p e below T84 (mkF m 4 #[rv a1, rv x1] []) t
    refine XS.aloadN X84.here hx rfl (hb hby d_l2i1_4) rfl rfl ?_
    show SS p e below T84 (mkF m 5 #[rv a1, rv x1] [(.ref a1)]) t
    refine XS.aloadN X84.here hx rfl (hb hby d_l2i1_5) rfl rfl ?_
    show SS p e below T84 (mkF m 6 #[rv a1, rv x1] [(.ref x1), (.ref a1)]) t
    exact k)
  obtain ⟨_, _, ⟨T85, L85, k85, n85⟩, -, X85, ⟨Lc85, hQ85, l85, y85, z85⟩, st85⟩ := Jvm.LawKit.callS X84 hx (y := (⟨"java/util/Objects", "requireNonNull", "(Ljava/lang/Object;)Ljava/lang/Object;"⟩ : MethodName)) hown (mvT hZ (own_t hw 238 rfl)) (mvT hZ (own_t hw 203 rfl)) (mvT hZ (own_t hw 204 rfl)) (mvT hZ (own_t hw 205 rfl)) (by decide) (backOf (W := 1) (rm_rnn l Z a0 hw [] x1 h0 n0) hZ (own_t hw 205 rfl) (own_t hw 204 rfl) (by decide) (by decide)) (g := (mkF m 6 #[rv a1, rv x1] [(.ref x1), (.ref a1)])) rfl (by rw [hml]; rfl) (argsL := [(.ref x1)]) (rest := [(.ref a1)]) (lenOf pd__Ljava_lang_Object__Ljava_lang_Object_ rfl) rfl (by show 2 * 0 + _ ≤ _; exact Nat.le_of_eq rfl) (hb hby d_l2i1_6) (fun _ _ => ⟨rfl, e84, (by decide : 0 + 0 ≤ _), (by decide : 0 + 0 ≤ _)⟩)
  dsimp only [Pt.U, Pt.locs, Pt.cells, Pt.slots] at X85 l85 y85 z85 st85 hQ85
  subst l85 y85 z85
  obtain ⟨rfl, N85q, e85⟩ := hQ85
  have N85 := Fr.app N84 N85q
  replace pre : Pth p e below S0 T85 (mkF m 9 #[rv a1, rv x1] [(.ref x1), (.ref a1)]) := fun t k => pre t (st85 _ k)
  obtain ⟨T86, h86, X86, e86, W86, st86⟩ := putF X85 hx hZ hown (host := "") (Or.inl (own_t hw 239 rfl)) Via.refl e85 F1 Ea (Or.inr ⟨(own_t hw 240 rfl), rfl, hnm⟩) (own_t hw 228 rfl) (ty := (.object "java/lang/Object")) (by decide) rfl rfl (g := (mkF m 9 #[rv a1, rv x1] [(.ref x1), (.ref a1)])) rfl rfl (hb hby d_l2i1_9)
  have N86 := Fr.snoc X86 N85 ga
  replace pre : Pth p e below S0 T86 (mkF m 12 #[rv a1, rv x1] []) := fun t k => pre t (st86 _ k)
  have F2a := F2.other W86 (Or.inr (slot_ne (Or.inr (own_t hw 243 rfl)) (Or.inr (own_t hw 240 rfl)) (by decide) (t := (.object "java/lang/Object")) (t' := (.object "java/lang/Object")) (by decide) (by decide)))
  have Ea1 := Ea.wr W86
  replace pre : Pth p e below S0 T86 (mkF m 13 #[rv a1, rv x1] [(.ref a1)]) := fun t k => pre t (by
    show SS p e below T86 (mkF m 12 #[rv a1, rv x1] []) t
    refine XS.aloadN X86.here hx rfl (hb hby d_l2i1_12) rfl rfl ?_
    show SS p e below T86 (mkF m 13 #[rv a1, rv x1] [(.ref a1)]) t
    exact k)
  obtain ⟨T87, X87, e87, st87⟩ := getS2 X86 hx hZ hown (Or.inr (own_t hw 241 rfl)) Via.refl e86 (Sem.wr W86) (g := (mkF m 13 #[rv a1, rv x1] [(.ref a1)])) rfl (hb hby d_l2i1_13)
  replace pre : Pth p e below S0 T87 (mkF m 16 #[rv a1, rv x1] [(.ref em), (.ref a1)]) := fun t k => pre t (st87 _ k)
  obtain ⟨T88, h88, X88, e88, W88, st88⟩ := putF X87 hx hZ hown (host := "") (Or.inl (own_t hw 242 rfl)) Via.refl e87 F2a Ea1 (Or.inr ⟨(own_t hw 243 rfl), rfl, hnm⟩) (own_t hw 228 rfl) (ty := (.object "java/lang/Object")) (by decide) rfl rfl (g := (mkF m 16 #[rv a1, rv x1] [(.ref em), (.ref a1)])) rfl rfl (hb hby d_l2i1_16)
  have N88 := Fr.snoc X88 N86 ga
  replace pre : Pth p e below S0 T88 (mkF m 19 #[rv a1, rv x1] []) := fun t k => pre t (st88 _ k)
  obtain ⟨fs, hr, hrun, hended, hW, hsame⟩ := X88.leave (v := none) (fun _ => rfl)
  subst hS0
  refine ⟨_, _, pre _ ?_, hrun, hended, _, _, rfl, ?_, ⟨_, rfl⟩, hW, hsame.mono (by decide) (by decide)⟩
  · exact X88.returnOut hx Bd.returns (hb hby d_l2i1_19) hr
  · show Q_l2i1 Z a1 x1 em h0 n0 _ T88.heap _
    rw [e88]
    exact ⟨rfl, N88, ((Keep.refl h0 [a1]).wr W86 (Or.inl (List.mem_of_getElem? (i := 0) rfl))).wr W88 (Or.inl (List.mem_of_getElem? (i := 0) rfl)), Ea1.wr W88, F2a.same W88⟩
def Q_l2i2 (Z : State) (a1 : Addr) (x1 : Addr) (y1 : Addr) (h0 : Heap) (n0 : Nat) (v : Option Value) (h : Heap) (L : List Loc) : Prop := v = none ∧ Fr n0 L ∧ Keep h0 h [a1] ∧ Exa Z h a1 "java/util/ImmutableCollections$List12" ∧ Fld Z h a1 "java/util/ImmutableCollections$List12" "e1" "Ljava/lang/Object;" (.ref y1)
set_option maxRecDepth 65536 in
set_option maxHeartbeats 40000000 in
theorem rm_l2i2 (l : Launch) (Z : State) (a0 : Array Value) (hw : ∀ d ∈ tables_1, d.before a0 Z = true) (ws : List Jvm.Cond) (a1 : Addr) (x1 : Addr) (y1 : Addr) (h0 : Heap) (n0 : Nat) (ga : n0 ≤ a1) (Ea : Exa Z h0 a1 "java/util/ImmutableCollections$List12") (F1 : Fld Z h0 a1 "java/util/ImmutableCollections$List12" "e0" "Ljava/lang/Object;" .null) (F2 : Fld Z h0 a1 "java/util/ImmutableCollections$List12" "e1" "Ljava/lang/Object;" .null) :
    MetFree l (⟨"java/util/ImmutableCollections$List12", "<init>", "(Ljava/lang/Object;Ljava/lang/Object;)V"⟩ : MethodName) (head1 (Jvm.Cond.code (⟨"java/util/ImmutableCollections$List12", "<init>", "(Ljava/lang/Object;Ljava/lang/Object;)V"⟩ : MethodName) jdk_44_method_2_code 3 none :: ws) ({ frames := 4, cells := 0, slots := 0, locals := 48 } : Room)) (fun a U => a = #[(.ref a1), (.ref x1), (.ref y1)] ∧ Z.Warmed39 U.vm ∧ U.heap = h0) (fun _ _ _ _ _ => True) (fun _ U o U' => ∃ v L, o = .returned v ∧ Q_l2i2 Z a1 x1 y1 h0 n0 v U'.heap L ∧ FrameEnd U o U' L ({ frames := 4, cells := 0, slots := 0, locals := 48 } : Room).cells ({ frames := 4, cells := 0, slots := 0, locals := 48 } : Room).slots) := by
  refine MetFree.of_bodySF (plainFor_of_name pn_java_util_ImmutableCollections_List12) hisR ?_
  intro p e s m args below meth c s₁ Bd hml0 hP hK
  obtain ⟨rfl, hZ, hh⟩ := hP
  have hx := Bd.exec
  have hby := Bd.bytes
  have hml : c.maxLocals = 3 := hml0
  have hown : s.vm.findClass "java/util/ImmutableCollections$List12" = some m.cls := findClass_of_methodNamed Bd.named
  have hnm := (name_of_methodNamed Bd.named Bd.method).1
  have X0 : Stand p l e ({ frames := 4, cells := 0, slots := 0, locals := 48 } : Room) s m #[(.ref a1), (.ref x1), (.ref y1)] below meth c s₁ [] 0 0 := Stand.of_body Bd
  have e0 : s₁.heap = h0 := by rw [← hh, Bd.state]; rfl
  have N0 := Fr.nil n0
  obtain ⟨S0, hS0⟩ : ∃ S0, S0 = s₁.setTop (entryFrame m #[(.ref a1), (.ref x1), (.ref y1)] 3) := ⟨_, rfl⟩
  have pre : Pth p e below S0 s₁ (mkF m 0 #[rv a1, rv x1, rv y1] []) := fun t k => by rw [hS0]; exact castTop (ef_l2i2 m a1 x1 y1) k
  replace pre : Pth p e below S0 s₁ (mkF m 1 #[rv a1, rv x1, rv y1] [(.ref a1)]) := fun t k => pre t (by
    show SS p e below s₁ (mkF m 0 #[rv a1, rv x1, rv y1] []) t
    refine XS.aloadN X0.here hx rfl (hb hby d_l2i2_0) rfl rfl ?_
    show SS p e below s₁ (mkF m 1 #[rv a1, rv x1, rv y1] [(.ref a1)]) t
    exact k)
  obtain ⟨_, _, ⟨T89, L89, k89, n89⟩, -, X89, ⟨Lc89, hQ89, l89, y89, z89⟩, st89⟩ := X0.specialBack hx (y := (⟨"java/util/ImmutableCollections$AbstractImmutableList", "<init>", "()V"⟩ : MethodName)) rfl hown (mvT hZ (own_t hw 234 rfl)) (mvT hZ (own_t hw 212 rfl)) (mvT hZ (own_t hw 216 rfl)) (by decide) (backOf (W := 0) (rm_ail l Z a0 hw [] a1 h0 n0) hZ (own_t hw 216 rfl) (own_t hw 215 rfl) (by decide) (by decide)) (g := (mkF m 1 #[rv a1, rv x1, rv y1] [(.ref a1)])) rfl (by rw [hml]; rfl) (Steps.refl _) (a := a1) (argsL := []) (rest := []) (lenOf pd___V rfl) rfl (by show 2 * 0 + _ ≤ _; exact Nat.le_of_eq rfl) (hb hby d_l2i2_1) (fun _ _ => ⟨rfl, e0, (by decide : 0 + 0 ≤ _), (by decide : 0 + 0 ≤ _)⟩)
  dsimp only [Pt.U, Pt.locs, Pt.cells, Pt.slots] at X89 l89 y89 z89 st89 hQ89
  subst l89 y89 z89
  obtain ⟨rfl, N89q, e89⟩ := hQ89
  have N89 := Fr.app N0 N89q
  replace pre : Pth p e below S0 T89 (mkF m 4 #[rv a1, rv x1, rv y1] []) := fun t k => pre t (st89.trans k)
  replace pre : Pth p e below S0 T89 (mkF m 6 #[rv a1, rv x1, rv y1] [(.ref x1), (.ref a1)]) := fun t k => pre t (by
    show SS p e below T89 (mkF m 4 #[rv a1, rv x1, rv y1] []) t
    refine XS.aloadN X89.here hx rfl (hb hby d_l2i2_4) rfl rfl ?_
    show SS p e below T89 (mkF m 5 #[rv a1, rv x1, rv y1] [(.ref a1)]) t
    refine XS.aloadN X89.here hx rfl (hb hby d_l2i2_5) rfl rfl ?_
    show SS p e below T89 (mkF m 6 #[rv a1, rv x1, rv y1] [(.ref x1), (.ref a1)]) t
    exact k)
  obtain ⟨_, _, ⟨T90, L90, k90, n90⟩, -, X90, ⟨Lc90, hQ90, l90, y90, z90⟩, st90⟩ := Jvm.LawKit.callS X89 hx (y := (⟨"java/util/Objects", "requireNonNull", "(Ljava/lang/Object;)Ljava/lang/Object;"⟩ : MethodName)) hown (mvT hZ (own_t hw 238 rfl)) (mvT hZ (own_t hw 203 rfl)) (mvT hZ (own_t hw 204 rfl)) (mvT hZ (own_t hw 205 rfl)) (by decide) (backOf (W := 1) (rm_rnn l Z a0 hw [] x1 h0 n0) hZ (own_t hw 205 rfl) (own_t hw 204 rfl) (by decide) (by decide)) (g := (mkF m 6 #[rv a1, rv x1, rv y1] [(.ref x1), (.ref a1)])) rfl (by rw [hml]; rfl) (argsL := [(.ref x1)]) (rest := [(.ref a1)]) (lenOf pd__Ljava_lang_Object__Ljava_lang_Object_ rfl) rfl (by show 2 * 0 + _ ≤ _; exact Nat.le_of_eq rfl) (hb hby d_l2i2_6) (fun _ _ => ⟨rfl, e89, (by decide : 0 + 0 ≤ _), (by decide : 0 + 0 ≤ _)⟩)
  dsimp only [Pt.U, Pt.locs, Pt.cells, Pt.slots] at X90 l90 y90 z90 st90 hQ90
  subst l90 y90 z90
  obtain ⟨rfl, N90q, e90⟩ := hQ90
  have N90 := Fr.app N89 N90q
  replace pre : Pth p e below S0 T90 (mkF m 9 #[rv a1, rv x1, rv y1] [(.ref x1), (.ref a1)]) := fun t k => pre t (st90 _ k)
  obtain ⟨T91, h91, X91, e91, W91, st91⟩ := putF X90 hx hZ hown (host := "") (Or.inl (own_t hw 239 rfl)) Via.refl e90 F1 Ea (Or.inr ⟨(own_t hw 240 rfl), rfl, hnm⟩) (own_t hw 228 rfl) (ty := (.object "java/lang/Object")) (by decide) rfl rfl (g := (mkF m 9 #[rv a1, rv x1, rv y1] [(.ref x1), (.ref a1)])) rfl rfl (hb hby d_l2i2_9)
  have N91 := Fr.snoc X91 N90 ga
  replace pre : Pth p e below S0 T91 (mkF m 12 #[rv a1, rv x1, rv y1] []) := fun t k => pre t (st91 _ k)
  have F2a := F2.other W91 (Or.inr (slot_ne (Or.inr (own_t hw 243 rfl)) (Or.inr (own_t hw 240 rfl)) (by decide) (t := (.object "java/lang/Object")) (t' := (.object "java/lang/Object")) (by decide) (by decide)))
  have Ea1 := Ea.wr W91
  replace pre : Pth p e below S0 T91 (mkF m 14 #[rv a1, rv x1, rv y1] [(.ref y1), (.ref a1)]) := fun t k => pre t (by
    show SS p e below T91 (mkF m 12 #[rv a1, rv x1, rv y1] []) t
    refine XS.aloadN X91.here hx rfl (hb hby d_l2i2_12) rfl rfl ?_
    show SS p e below T91 (mkF m 13 #[rv a1, rv x1, rv y1] [(.ref a1)]) t
    refine XS.aloadN X91.here hx rfl (hb hby d_l2i2_13) rfl rfl ?_
    show SS p e below T91 (mkF m 14 #[rv a1, rv x1, rv y1] [(.ref y1), (.ref a1)]) t
    exact k)
  obtain ⟨_, _, ⟨T92, L92, k92, n92⟩, -, X92, ⟨Lc92, hQ92, l92, y92, z92⟩, st92⟩ := Jvm.LawKit.callS X91 hx (y := (⟨"java/util/Objects", "requireNonNull", "(Ljava/lang/Object;)Ljava/lang/Object;"⟩ : MethodName)) hown (mvT hZ (own_t hw 238 rfl)) (mvT hZ (own_t hw 203 rfl)) (mvT hZ (own_t hw 204 rfl)) (mvT hZ (own_t hw 205 rfl)) (by decide) (backOf (W := 1) (rm_rnn l Z a0 hw [] y1 h91 n0) hZ (own_t hw 205 rfl) (own_t hw 204 rfl) (by decide) (by decide)) (g := (mkF m 14 #[rv a1, rv x1, rv y1] [(.ref y1), (.ref a1)])) rfl (by rw [hml]; rfl) (argsL := [(.ref y1)]) (rest := [(.ref a1)]) (lenOf pd__Ljava_lang_Object__Ljava_lang_Object_ rfl) rfl (by show 2 * 0 + _ ≤ _; exact Nat.le_of_eq rfl) (hb hby d_l2i2_14) (fun _ _ => ⟨rfl, e91, (by decide : 0 + 0 ≤ _), (by decide : 0 + 0 ≤ _)⟩)
  dsimp only [Pt.U, Pt.locs, Pt.cells, Pt.slots] at X92 l92 y92 z92 st92 hQ92
  subst l92 y92 z92
  obtain ⟨rfl, N92q, e92⟩ := hQ92
  have N92 := Fr.app N91 N92q
  replace pre : Pth p e below S0 T92 (mkF m 17 #[rv a1, rv x1, rv y1] [(.ref y1), (.ref a1)]) := fun t k => pre t (st92 _ k)
  obtain ⟨T93, h93, X93, e93, W93, st93⟩ := putF X92 hx hZ hown (host := "") (Or.inl (own_t hw 242 rfl)) Via.refl e92 F2a Ea1 (Or.inr ⟨(own_t hw 243 rfl), rfl, hnm⟩) (own_t hw 228 rfl) (ty := (.object "java/lang/Object")) (by decide) rfl rfl (g := (mkF m 17 #[rv a1, rv x1, rv y1] [(.ref y1), (.ref a1)])) rfl rfl (hb hby d_l2i2_17)
  have N93 := Fr.snoc X93 N92 ga
  replace pre : Pth p e below S0 T93 (mkF m 20 #[rv a1, rv x1, rv y1] []) := fun t k => pre t (st93 _ k)
  obtain ⟨fs, hr, hrun, hended, hW, hsame⟩ := X93.leave (v := none) (fun _ => rfl)
  subst hS0
  refine ⟨_, _, pre _ ?_, hrun, hended, _, _, rfl, ?_, ⟨_, rfl⟩, hW, hsame.mono (by decide) (by decide)⟩
  · exact X93.returnOut hx Bd.returns (hb hby d_l2i2_20) hr
  · show Q_l2i2 Z a1 x1 y1 h0 n0 _ T93.heap _
    rw [e93]
    exact ⟨rfl, N93, ((Keep.refl h0 [a1]).wr W91 (Or.inl (List.mem_of_getElem? (i := 0) rfl))).wr W93 (Or.inl (List.mem_of_getElem? (i := 0) rfl)), Ea1.wr W93, F2a.same W93⟩
def Q_lni (Z : State) (a1 : Addr) (b1 : Addr) (h0 : Heap) (n0 : Nat) (v : Option Value) (h : Heap) (L : List Loc) : Prop := v = none ∧ Fr n0 L ∧ Keep h0 h [a1] ∧ Exa Z h a1 "java/util/ImmutableCollections$ListN" ∧ Fld Z h a1 "java/util/ImmutableCollections$ListN" "elements" "[Ljava/lang/Object;" (.ref b1)
set_option maxRecDepth 65536 in
set_option maxHeartbeats 40000000 in
theorem rm_lni (l : Launch) (Z : State) (a0 : Array Value) (hw : ∀ d ∈ tables_1, d.before a0 Z = true) (ws : List Jvm.Cond) (a1 : Addr) (b1 : Addr) (h0 : Heap) (n0 : Nat) (ga : n0 ≤ a1) (Ea : Exa Z h0 a1 "java/util/ImmutableCollections$ListN") (F1 : Fld Z h0 a1 "java/util/ImmutableCollections$ListN" "elements" "[Ljava/lang/Object;" .null) (F2 : Fld Z h0 a1 "java/util/ImmutableCollections$ListN" "allowNulls" "Z" (.int 0)) :
    MetFree l (⟨"java/util/ImmutableCollections$ListN", "<init>", "([Ljava/lang/Object;Z)V"⟩ : MethodName) (head1 (Jvm.Cond.code (⟨"java/util/ImmutableCollections$ListN", "<init>", "([Ljava/lang/Object;Z)V"⟩ : MethodName) jdk_45_method_1_code 3 none :: ws) ({ frames := 4, cells := 0, slots := 0, locals := 48 } : Room)) (fun a U => a = #[(.ref a1), (.ref b1), (.int (0 : Int32))] ∧ Z.Warmed39 U.vm ∧ U.heap = h0) (fun _ _ _ _ _ => True) (fun _ U o U' => ∃ v L, o = .returned v ∧ Q_lni Z a1 b1 h0 n0 v U'.heap L ∧ FrameEnd U o U' L ({ frames := 4, cells := 0, slots := 0, locals := 48 } : Room).cells ({ frames := 4, cells := 0, slots := 0, locals := 48 } : Room).slots) := by
  refine MetFree.of_bodySF (plainFor_of_name pn_java_util_ImmutableCollections_ListN) hisR ?_
  intro p e s m args below meth c s₁ Bd hml0 hP hK
  obtain ⟨rfl, hZ, hh⟩ := hP
  have hx := Bd.exec
  have hby := Bd.bytes
  have hml : c.maxLocals = 3 := hml0
  have hown : s.vm.findClass "java/util/ImmutableCollections$ListN" = some m.cls := findClass_of_methodNamed Bd.named
  have hnm := (name_of_methodNamed Bd.named Bd.method).1
  have X0 : Stand p l e ({ frames := 4, cells := 0, slots := 0, locals := 48 } : Room) s m #[(.ref a1), (.ref b1), (.int (0 : Int32))] below meth c s₁ [] 0 0 := Stand.of_body Bd
  have e0 : s₁.heap = h0 := by rw [← hh, Bd.state]; rfl
  have N0 := Fr.nil n0
  obtain ⟨S0, hS0⟩ : ∃ S0, S0 = s₁.setTop (entryFrame m #[(.ref a1), (.ref b1), (.int (0 : Int32))] 3) := ⟨_, rfl⟩
  have pre : Pth p e below S0 s₁ (mkF m 0 #[rv a1, rv b1, iv (0 : Int32)] []) := fun t k => by rw [hS0]; exact castTop (ef_lni m a1 b1 (0 : Int32)) k
  replace pre : Pth p e below S0 s₁ (mkF m 1 #[rv a1, rv b1, iv (0 : Int32)] [(.ref a1)]) := fun t k => pre t (by
    show SS p e below s₁ (mkF m 0 #[rv a1, rv b1, iv (0 : Int32)] []) t
    refine XS.aloadN X0.here hx rfl (hb hby d_lni_0) rfl rfl ?_
    show SS p e below s₁ (mkF m 1 #[rv a1, rv b1, iv (0 : Int32)] [(.ref a1)]) t
    exact k)
  obtain ⟨_, _, ⟨T94, L94, k94, n94⟩, -, X94, ⟨Lc94, hQ94, l94, y94, z94⟩, st94⟩ := X0.specialBack hx (y := (⟨"java/util/ImmutableCollections$AbstractImmutableList", "<init>", "()V"⟩ : MethodName)) rfl hown (mvT hZ (own_t hw 211 rfl)) (mvT hZ (own_t hw 212 rfl)) (mvT hZ (own_t hw 216 rfl)) (by decide) (backOf (W := 0) (rm_ail l Z a0 hw [] a1 h0 n0) hZ (own_t hw 216 rfl) (own_t hw 215 rfl) (by decide) (by decide)) (g := (mkF m 1 #[rv a1, rv b1, iv (0 : Int32)] [(.ref a1)])) rfl (by rw [hml]; rfl) (Steps.refl _) (a := a1) (argsL := []) (rest := []) (lenOf pd___V rfl) rfl (by show 2 * 0 + _ ≤ _; exact Nat.le_of_eq rfl) (hb hby d_lni_1) (fun _ _ => ⟨rfl, e0, (by decide : 0 + 0 ≤ _), (by decide : 0 + 0 ≤ _)⟩)
  dsimp only [Pt.U, Pt.locs, Pt.cells, Pt.slots] at X94 l94 y94 z94 st94 hQ94
  subst l94 y94 z94
  obtain ⟨rfl, N94q, e94⟩ := hQ94
  have N94 := Fr.app N0 N94q
  replace pre : Pth p e below S0 T94 (mkF m 4 #[rv a1, rv b1, iv (0 : Int32)] []) := fun t k => pre t (st94.trans k)
  replace pre : Pth p e below S0 T94 (mkF m 6 #[rv a1, rv b1, iv (0 : Int32)] [(.ref b1), (.ref a1)]) := fun t k => pre t (by
    show SS p e below T94 (mkF m 4 #[rv a1, rv b1, iv (0 : Int32)] []) t
    refine XS.aloadN X94.here hx rfl (hb hby d_lni_4) rfl rfl ?_
    show SS p e below T94 (mkF m 5 #[rv a1, rv b1, iv (0 : Int32)] [(.ref a1)]) t
    refine XS.aloadN X94.here hx rfl (hb hby d_lni_5) rfl rfl ?_
    show SS p e below T94 (mkF m 6 #[rv a1, rv b1, iv (0 : Int32)] [(.ref b1), (.ref a1)]) t
    exact k)
  obtain ⟨T95, h95, X95, e95, W95, st95⟩ := putF X94 hx hZ hown (host := "") (Or.inl (own_t hw 141 rfl)) Via.refl e94 F1 Ea (Or.inr ⟨(own_t hw 142 rfl), rfl, hnm⟩) (own_t hw 206 rfl) (ty := (.array (.object "java/lang/Object"))) (by decide) rfl rfl (g := (mkF m 6 #[rv a1, rv b1, iv (0 : Int32)] [(.ref b1), (.ref a1)])) rfl rfl (hb hby d_lni_6)
  have N95 := Fr.snoc X95 N94 ga
  replace pre : Pth p e below S0 T95 (mkF m 9 #[rv a1, rv b1, iv (0 : Int32)] []) := fun t k => pre t (st95 _ k)
  have F1a := F1.same W95
  have F2a := F2.other W95 (Or.inr (slot_ne (Or.inr (own_t hw 226 rfl)) (Or.inr (own_t hw 142 rfl)) (by decide) (t := .boolean) (t' := (.array (.object "java/lang/Object"))) (by decide) (by decide)))
  have Ea1 := Ea.wr W95
  replace pre : Pth p e below S0 T95 (mkF m 11 #[rv a1, rv b1, iv (0 : Int32)] [(.int (0 : Int32)), (.ref a1)]) := fun t k => pre t (by
    show SS p e below T95 (mkF m 9 #[rv a1, rv b1, iv (0 : Int32)] []) t
    refine XS.aloadN X95.here hx rfl (hb hby d_lni_9) rfl rfl ?_
    show SS p e below T95 (mkF m 10 #[rv a1, rv b1, iv (0 : Int32)] [(.ref a1)]) t
    refine XS.iloadN X95.here hx rfl (hb hby d_lni_10) rfl ?_
    show SS p e below T95 (mkF m 11 #[rv a1, rv b1, iv (0 : Int32)] [(.int (0 : Int32)), (.ref a1)]) t
    exact k)
  obtain ⟨T96, h96, X96, e96, W96, st96⟩ := putFN X95 hx hZ hown (own_t hw 225 rfl) Via.refl e95 F2a Ea1 (Or.inr ⟨(own_t hw 226 rfl), rfl, hnm⟩) (own_t hw 206 rfl) (ty := .boolean) (v' := (.int (0 : Int32))) (by decide) rfl rfl (g := (mkF m 11 #[rv a1, rv b1, iv (0 : Int32)] [(.int (0 : Int32)), (.ref a1)])) rfl rfl (hb hby d_lni_11)
  have N96 := Fr.snoc X96 N95 ga
  replace pre : Pth p e below S0 T96 (mkF m 14 #[rv a1, rv b1, iv (0 : Int32)] []) := fun t k => pre t (st96 _ k)
  obtain ⟨fs, hr, hrun, hended, hW, hsame⟩ := X96.leave (v := none) (fun _ => rfl)
  subst hS0
  refine ⟨_, _, pre _ ?_, hrun, hended, _, _, rfl, ?_, ⟨_, rfl⟩, hW, hsame.mono (by decide) (by decide)⟩
  · exact X96.returnOut hx Bd.returns (hb hby d_lni_14) hr
  · show Q_lni Z a1 b1 h0 n0 _ T96.heap _
    rw [e96]
    exact ⟨rfl, N96, ((Keep.refl h0 [a1]).wr W95 (Or.inl (List.mem_of_getElem? (i := 0) rfl))).wr W96 (Or.inl (List.mem_of_getElem? (i := 0) rfl)), Ea1.wr W96, F1a.other W96 (Or.inr (slot_ne (Or.inr (own_t hw 142 rfl)) (Or.inr (own_t hw 226 rfl)) (by decide) (t := (.array (.object "java/lang/Object"))) (t' := .boolean) (by decide) (by decide)))⟩
def Q_min1 (Z : State)  (h0 : Heap) (n0 : Nat) (v : Option Value) (h : Heap) (L : List Loc) : Prop := v = some (.int 1) ∧ Fr n0 L ∧ h = h0
set_option maxRecDepth 65536 in
set_option maxHeartbeats 40000000 in
theorem rm_min1 (l : Launch) (Z : State) (a0 : Array Value) (hw : ∀ d ∈ tables_1, d.before a0 Z = true) (ws : List Jvm.Cond)  (h0 : Heap) (n0 : Nat)  :
    MetFree l (⟨"java/lang/Math", "min", "(II)I"⟩ : MethodName) (head1 (Jvm.Cond.code (⟨"java/lang/Math", "min", "(II)I"⟩ : MethodName) jdk_29_method_69_code 2 (some .int) :: ws) ({ frames := 0, cells := 0, slots := 0, locals := 0 } : Room)) (fun a U => a = #[(.int (10 : Int32)), (.int (1 : Int32))] ∧ Z.Warmed39 U.vm ∧ U.heap = h0) (fun _ _ _ _ _ => True) (fun _ U o U' => ∃ v L, o = .returned v ∧ Q_min1 Z  h0 n0 v U'.heap L ∧ FrameEnd U o U' L ({ frames := 0, cells := 0, slots := 0, locals := 0 } : Room).cells ({ frames := 0, cells := 0, slots := 0, locals := 0 } : Room).slots) := by
  refine MetFree.of_bodySF (Jvm.Free.JP.mathPlain rfl (by decide +kernel)) hisR ?_
  intro p e s m args below meth c s₁ Bd hml0 hP hK
  obtain ⟨rfl, hZ, hh⟩ := hP
  have hx := Bd.exec
  have hby := Bd.bytes
  have hml : c.maxLocals = 2 := hml0
  have hown : s.vm.findClass "java/lang/Math" = some m.cls := findClass_of_methodNamed Bd.named
  have hnm := (name_of_methodNamed Bd.named Bd.method).1
  have X0 : Stand p l e ({ frames := 0, cells := 0, slots := 0, locals := 0 } : Room) s m #[(.int (10 : Int32)), (.int (1 : Int32))] below meth c s₁ [] 0 0 := Stand.of_body Bd
  have e0 : s₁.heap = h0 := by rw [← hh, Bd.state]; rfl
  have N0 := Fr.nil n0
  obtain ⟨S0, hS0⟩ : ∃ S0, S0 = s₁.setTop (entryFrame m #[(.int (10 : Int32)), (.int (1 : Int32))] 2) := ⟨_, rfl⟩
  have pre : Pth p e below S0 s₁ (mkF m 0 #[iv (10 : Int32), iv (1 : Int32)] []) := fun t k => by rw [hS0]; exact castTop (ef_min1 m (10 : Int32) (1 : Int32)) k
  replace pre : Pth p e below S0 s₁ (mkF m 10 #[iv (10 : Int32), iv (1 : Int32)] [(.int (1 : Int32))]) := fun t k => pre t (by
    show SS p e below s₁ (mkF m 0 #[iv (10 : Int32), iv (1 : Int32)] []) t
    refine XS.iloadN X0.here hx rfl (hb hby d_min1_0) rfl ?_
    show SS p e below s₁ (mkF m 1 #[iv (10 : Int32), iv (1 : Int32)] [(.int (10 : Int32))]) t
    refine XS.iloadN X0.here hx rfl (hb hby d_min1_1) rfl ?_
    show SS p e below s₁ (mkF m 2 #[iv (10 : Int32), iv (1 : Int32)] [(.int (1 : Int32)), (.int (10 : Int32))]) t
    refine XS.icmpYes X0.here hx rfl (pc0 := 2) (pc' := 9) rfl (hb hby d_min1_2) rfl (XT.ii_gt_t (by decide)) (by decide) (by decide) ?_
    show SS p e below s₁ (mkF m 9 #[iv (10 : Int32), iv (1 : Int32)] []) t
    refine XS.iloadN X0.here hx rfl (hb hby d_min1_9) rfl ?_
    show SS p e below s₁ (mkF m 10 #[iv (10 : Int32), iv (1 : Int32)] [(.int (1 : Int32))]) t
    exact k)
  obtain ⟨fs, hr, hrun, hended, hW, hsame⟩ := X0.leave (v := some (.int (1 : Int32))) (fun h => by rw [Bd.returns] at h; cases h)
  subst hS0
  refine ⟨_, _, pre _ ?_, hrun, hended, _, _, rfl, ?_, ⟨_, rfl⟩, hW, hsame.mono (by decide) (by decide)⟩
  · exact retI X0 hx Bd.returns (hb hby d_min1_10) hr
  · show Q_min1 Z  h0 n0 _ s₁.heap _
    rw [e0]
    exact ⟨rfl, N0, rfl⟩
def Q_cq1 (Z : State) (a1 : Addr) (mr : Addr) (f : Nat → Value) (h0 : Heap) (n0 : Nat) (v : Option Value) (h : Heap) (L : List Loc) : Prop := ∃ b, v = some (.ref b) ∧ Fr n0 L ∧ Ext h0 h ∧ OArr Z h b 1 f
set_option maxRecDepth 65536 in
set_option maxHeartbeats 40000000 in
theorem rm_cq1 (l : Launch) (Z : State) (a0 : Array Value) (hw : ∀ d ∈ tables_1, d.before a0 Z = true) (ws : List Jvm.Cond) (a1 : Addr) (mr : Addr) (f : Nat → Value) (h0 : Heap) (n0 : Nat) (Z0 : n0 ≤ h0.size) (M : OMir Z "[Ljava/lang/Object;" mr) (Fa : OArr Z h0 a1 10 f) (hf : ∀ j, j < 10 → f j = .null ∨ ∃ y, f j = .ref y ∧ Ins Z h0 y "java/lang/Object" true) :
    MetFree l (⟨"java/util/Arrays", "copyOf", "([Ljava/lang/Object;ILjava/lang/Class;)[Ljava/lang/Object;"⟩ : MethodName) (head1 (Jvm.Cond.code (⟨"java/util/Arrays", "copyOf", "([Ljava/lang/Object;ILjava/lang/Class;)[Ljava/lang/Object;"⟩ : MethodName) jdk_65_method_120_code 4 (some (.array (.object "java/lang/Object"))) :: ws) ({ frames := 1, cells := 1, slots := 1, locals := 40 } : Room)) (fun a U => a = #[(.ref a1), (.int (1 : Int32)), (.ref mr)] ∧ Z.Warmed39 U.vm ∧ U.heap = h0) (fun _ _ _ _ _ => True) (fun _ U o U' => ∃ v L, o = .returned v ∧ Q_cq1 Z a1 mr f h0 n0 v U'.heap L ∧ FrameEnd U o U' L ({ frames := 1, cells := 1, slots := 1, locals := 40 } : Room).cells ({ frames := 1, cells := 1, slots := 1, locals := 40 } : Room).slots) := by
  refine MetFree.of_bodySF (plainFor_of_name pn_java_util_Arrays) hisR ?_
  intro p e s m args below meth c s₁ Bd hml0 hP hK
  obtain ⟨rfl, hZ, hh⟩ := hP
  have hx := Bd.exec
  have hby := Bd.bytes
  have hml : c.maxLocals = 4 := hml0
  have hown : s.vm.findClass "java/util/Arrays" = some m.cls := findClass_of_methodNamed Bd.named
  have hnm := (name_of_methodNamed Bd.named Bd.method).1
  have X0 : Stand p l e ({ frames := 1, cells := 1, slots := 1, locals := 40 } : Room) s m #[(.ref a1), (.int (1 : Int32)), (.ref mr)] below meth c s₁ [] 0 0 := Stand.of_body Bd
  have e0 : s₁.heap = h0 := by rw [← hh, Bd.state]; rfl
  have N0 := Fr.nil n0
  obtain ⟨S0, hS0⟩ : ∃ S0, S0 = s₁.setTop (entryFrame m #[(.ref a1), (.int (1 : Int32)), (.ref mr)] 4) := ⟨_, rfl⟩
  have pre : Pth p e below S0 s₁ (mkF m 0 #[rv a1, iv (1 : Int32), rv mr, .unset] []) := fun t k => by rw [hS0]; exact castTop (ef_cq1 m a1 (1 : Int32) mr) k
  replace pre : Pth p e below S0 s₁ (mkF m 1 #[rv a1, iv (1 : Int32), rv mr, .unset] [(.ref mr)]) := fun t k => pre t (by
    show SS p e below s₁ (mkF m 0 #[rv a1, iv (1 : Int32), rv mr, .unset] []) t
    refine XS.aloadN X0.here hx rfl (hb hby d_cq1_0) rfl rfl ?_
    show SS p e below s₁ (mkF m 1 #[rv a1, iv (1 : Int32), rv mr, .unset] [(.ref mr)]) t
    exact k)
  obtain ⟨vm97, X97, st97⟩ := X0.ldcMirror hx hown (mvT hZ (own_t hw 186 rfl)) (own_mir M hZ) (g := (mkF m 1 #[rv a1, iv (1 : Int32), rv mr, .unset] [(.ref mr)])) rfl (hb hby d_cq1_1)
  obtain ⟨T97, hT97⟩ : ∃ T, T = s₁.setVm vm97 := ⟨_, rfl⟩
  rw [← hT97] at X97 st97
  have e97 : T97.heap = h0 := by rw [hT97]; exact e0
  replace pre : Pth p e below S0 T97 (mkF m 3 #[rv a1, iv (1 : Int32), rv mr, .unset] [(.ref mr), (.ref mr)]) := fun t k => pre t (st97 _ k)
  replace pre : Pth p e below S0 T97 (mkF m 7 #[rv a1, iv (1 : Int32), rv mr, .unset] [(.int (1 : Int32))]) := fun t k => pre t (by
    show SS p e below T97 (mkF m 3 #[rv a1, iv (1 : Int32), rv mr, .unset] [(.ref mr), (.ref mr)]) t
    refine Jvm.RoadKit.acmp (g := (mkF m 3 #[rv a1, iv (1 : Int32), rv mr, .unset] [(.ref mr), (.ref mr)])) X97 hx rfl rfl rfl (pc0 := 3) (pc' := 6) (same := true) rfl (hb hby d_cq1_3) rfl (decide_eq_true rfl) (by decide) (by decide) ?_
    show SS p e below T97 (mkF m 6 #[rv a1, iv (1 : Int32), rv mr, .unset] []) t
    refine XS.iloadN X97.here hx rfl (hb hby d_cq1_6) rfl ?_
    show SS p e below T97 (mkF m 7 #[rv a1, iv (1 : Int32), rv mr, .unset] [(.int (1 : Int32))]) t
    exact k)
  obtain ⟨T98, h98, k98, X98, e98, E98, A98, Ex98, O98, st98⟩ := newRE X97 hx hZ hown (own_t hw 187 rfl) (own_t hw 97 rfl) e97 (g := (mkF m 7 #[rv a1, iv (1 : Int32), rv mr, .unset] [(.int (1 : Int32))])) rfl (hb hby d_cq1_7) rfl (by decide) (cap := 1) (by decide) (by decide) (by decide) (by decide) (ad := "[Ljava/lang/Object;") (by decide)
  obtain ⟨b98, g98⟩ : ∃ z, z = h0.size := ⟨_, rfl⟩
  rw [← g98] at A98 Ex98 st98
  have F98 := OArr.new A98 Ex98 O98
  replace pre : Pth p e below S0 T98 (mkF m 10 #[rv a1, iv (1 : Int32), rv mr, .unset] [(.ref b98)]) := fun t k => pre t (st98 _ k)
  have Fn : OArr Z h98 b98 1 (fun _ => .null) := F98
  replace pre : Pth p e below S0 T98 (mkF m 30 #[rv a1, iv (1 : Int32), rv mr, rv b98] [(.ref a1), (.int (0 : Int32)), (.ref b98), (.int (0 : Int32)), (.ref a1)]) := fun t k => pre t (by
    show SS p e below T98 (mkF m 10 #[rv a1, iv (1 : Int32), rv mr, .unset] [(.ref b98)]) t
    refine XS.goto X98.here hx rfl (pc0 := 10) (pc' := 24) rfl (hb hby d_cq1_10) (by decide) (by decide) ?_
    show SS p e below T98 (mkF m 24 #[rv a1, iv (1 : Int32), rv mr, .unset] [(.ref b98)]) t
    refine XS.astoreN X98.here hx rfl (hb hby d_cq1_24) rfl rfl (l' := #[rv a1, iv (1 : Int32), rv mr, rv b98]) rfl ?_
    show SS p e below T98 (mkF m 25 #[rv a1, iv (1 : Int32), rv mr, rv b98] []) t
    refine XS.aloadN X98.here hx rfl (hb hby d_cq1_25) rfl rfl ?_
    show SS p e below T98 (mkF m 26 #[rv a1, iv (1 : Int32), rv mr, rv b98] [(.ref a1)]) t
    refine XS.iconst X98.here hx rfl (hb hby d_cq1_26) ?_
    show SS p e below T98 (mkF m 27 #[rv a1, iv (1 : Int32), rv mr, rv b98] [(.int (0 : Int32)), (.ref a1)]) t
    refine XS.aloadN X98.here hx rfl (hb hby d_cq1_27) rfl rfl ?_
    show SS p e below T98 (mkF m 28 #[rv a1, iv (1 : Int32), rv mr, rv b98] [(.ref b98), (.int (0 : Int32)), (.ref a1)]) t
    refine XS.iconst X98.here hx rfl (hb hby d_cq1_28) ?_
    show SS p e below T98 (mkF m 29 #[rv a1, iv (1 : Int32), rv mr, rv b98] [(.int (0 : Int32)), (.ref b98), (.int (0 : Int32)), (.ref a1)]) t
    refine XS.aloadN X98.here hx rfl (hb hby d_cq1_29) rfl rfl ?_
    show SS p e below T98 (mkF m 30 #[rv a1, iv (1 : Int32), rv mr, rv b98] [(.ref a1), (.int (0 : Int32)), (.ref b98), (.int (0 : Int32)), (.ref a1)]) t
    exact k)
  obtain ⟨cl99, Ar99, Sz99, -⟩ := id (Fa.ext E98).fun
  have hln99 : cl99.slots.size.toInt32 = (10 : Int32) := (congrArg Nat.toInt32 Sz99).trans (rfl)
  replace pre : Pth p e below S0 T98 (mkF m 32 #[rv a1, iv (1 : Int32), rv mr, rv b98] [(.int (1 : Int32)), (.int (10 : Int32)), (.int (0 : Int32)), (.ref b98), (.int (0 : Int32)), (.ref a1)]) := fun t k => pre t (by
    show SS p e below T98 (mkF m 30 #[rv a1, iv (1 : Int32), rv mr, rv b98] [(.ref a1), (.int (0 : Int32)), (.ref b98), (.int (0 : Int32)), (.ref a1)]) t
    refine X98.arraylength hx (by rw [e98]; exact Ar99.1) (State.isArrayOf_alike hZ.alike Ar99.2.1) (g := (mkF m 30 #[rv a1, iv (1 : Int32), rv mr, rv b98] [(.ref a1), (.int (0 : Int32)), (.ref b98), (.int (0 : Int32)), (.ref a1)])) rfl rfl (hb hby d_cq1_30) _ ?_
    rw [hln99]
    show SS p e below T98 (mkF m 31 #[rv a1, iv (1 : Int32), rv mr, rv b98] [(.int (10 : Int32)), (.int (0 : Int32)), (.ref b98), (.int (0 : Int32)), (.ref a1)]) t
    refine XS.iloadN X98.here hx rfl (hb hby d_cq1_31) rfl ?_
    show SS p e below T98 (mkF m 32 #[rv a1, iv (1 : Int32), rv mr, rv b98] [(.int (1 : Int32)), (.int (10 : Int32)), (.int (0 : Int32)), (.ref b98), (.int (0 : Int32)), (.ref a1)]) t
    exact k)
  obtain ⟨_, _, ⟨T100, L100, k100, n100⟩, -, X100, ⟨Lc100, hQ100, l100, y100, z100⟩, st100⟩ := Jvm.LawKit.callS X98 hx (y := (⟨"java/lang/Math", "min", "(II)I"⟩ : MethodName)) hown (mvT hZ (own_t hw 188 rfl)) (mvT hZ (own_t hw 189 rfl)) (mvT hZ (own_t hw 94 rfl)) (mvT hZ (own_t hw 190 rfl)) (by decide) (backOf (W := 4) (rm_min1 l Z a0 hw [] h98 n0) hZ (own_t hw 190 rfl) (own_t hw 94 rfl) (by decide) (by decide)) (g := (mkF m 32 #[rv a1, iv (1 : Int32), rv mr, rv b98] [(.int (1 : Int32)), (.int (10 : Int32)), (.int (0 : Int32)), (.ref b98), (.int (0 : Int32)), (.ref a1)])) rfl (by rw [hml]; rfl) (argsL := [(.int (10 : Int32)), (.int (1 : Int32))]) (rest := [(.int (0 : Int32)), (.ref b98), (.int (0 : Int32)), (.ref a1)]) (lenOf pd__II_I rfl) rfl (by show 2 * 0 + _ ≤ _; exact Nat.le_of_eq rfl) (hb hby d_cq1_32) (fun _ _ => ⟨rfl, e98, (by decide : 1 + 0 ≤ _), (by decide : 1 + 0 ≤ _)⟩)
  dsimp only [Pt.U, Pt.locs, Pt.cells, Pt.slots] at X100 l100 y100 z100 st100 hQ100
  subst l100 y100 z100
  obtain ⟨rfl, N100q, e100⟩ := hQ100
  have N100 := Fr.app N0 N100q
  replace pre : Pth p e below S0 T100 (mkF m 35 #[rv a1, iv (1 : Int32), rv mr, rv b98] [(.int (1 : Int32)), (.int (0 : Int32)), (.ref b98), (.int (0 : Int32)), (.ref a1)]) := fun t k => pre t (st100 _ k)
  obtain ⟨kA, AvA, -⟩ := OArr.arv (Fa.ext E98) (z := 10) rfl (by decide) (fun j hj => own_fits (hf j hj))
  obtain ⟨kB, AvB, OvB⟩ := OArr.arv Fn (z := 1) rfl (by decide) (fun j hj => rfl)
  obtain ⟨T101, h101, L101, X101, e101, N101, K101, V101, st101⟩ := cpA X100 hx hZ hown (own_t hw 191 rfl) (own_t hw 194 rfl) (own_t hw 192 rfl) (own_t hw 193 rfl) e100 AvA AvB (us := [f 0]) (Or.inr ⟨rfl, rfl, ⟨own_sto Fn (hf 0 (by decide)) E98, trivial⟩⟩) (by decide) (by decide) (by decide) (by decide) (by decide) rfl (by simp) N100 (by rw [g98]; exact Z0 : n0 ≤ b98) (g := (mkF m 35 #[rv a1, iv (1 : Int32), rv mr, rv b98] [(.int (1 : Int32)), (.int (0 : Int32)), (.ref b98), (.int (0 : Int32)), (.ref a1)])) rfl (by rw [hml]; rfl) rfl (hb hby d_cq1_35) (by decide) (W := 0) (by show 2 * 0 + _ ≤ _; exact Nat.le_of_eq rfl) (by decide)
  replace pre : Pth p e below S0 T101 (mkF m 38 #[rv a1, iv (1 : Int32), rv mr, rv b98] []) := fun t k => pre t (st101 _ k)
  replace pre : Pth p e below S0 T101 (mkF m 39 #[rv a1, iv (1 : Int32), rv mr, rv b98] [(.ref b98)]) := fun t k => pre t (by
    show SS p e below T101 (mkF m 38 #[rv a1, iv (1 : Int32), rv mr, rv b98] []) t
    refine XS.aloadN X101.here hx rfl (hb hby d_cq1_38) rfl rfl ?_
    show SS p e below T101 (mkF m 39 #[rv a1, iv (1 : Int32), rv mr, rv b98] [(.ref b98)]) t
    exact k)
  obtain ⟨fs, hr, hrun, hended, hW, hsame⟩ := X101.leave (v := some (.ref b98)) (fun h => by rw [Bd.returns] at h; cases h)
  subst hS0
  refine ⟨_, _, pre _ ?_, hrun, hended, _, _, rfl, ?_, ⟨_, rfl⟩, hW, hsame.mono (by decide) (by decide)⟩
  · exact retOut X101 hx (t := (.array (.object "java/lang/Object"))) Bd.returns rfl (by simp [Value.isRef, FieldType.isReference]) (hb hby d_cq1_39) hr
  · show Q_cq1 Z a1 mr f h0 n0 _ T101.heap _
    rw [e101]
    exact ⟨b98, rfl, N101, own_ext_keep E98 K101 (fun z hz => by rw [List.mem_singleton.mp hz, g98]; exact Nat.le_refl _), own_arv_arr (Fn.1.keep K101) V101 OvB rfl (fun j hj => by
      match j, hj with
      | 0, _ => rfl)⟩
def Q_min2 (Z : State)  (h0 : Heap) (n0 : Nat) (v : Option Value) (h : Heap) (L : List Loc) : Prop := v = some (.int 2) ∧ Fr n0 L ∧ h = h0
set_option maxRecDepth 65536 in
set_option maxHeartbeats 40000000 in
theorem rm_min2 (l : Launch) (Z : State) (a0 : Array Value) (hw : ∀ d ∈ tables_1, d.before a0 Z = true) (ws : List Jvm.Cond)  (h0 : Heap) (n0 : Nat)  :
    MetFree l (⟨"java/lang/Math", "min", "(II)I"⟩ : MethodName) (head1 (Jvm.Cond.code (⟨"java/lang/Math", "min", "(II)I"⟩ : MethodName) jdk_29_method_69_code 2 (some .int) :: ws) ({ frames := 0, cells := 0, slots := 0, locals := 0 } : Room)) (fun a U => a = #[(.int (10 : Int32)), (.int (2 : Int32))] ∧ Z.Warmed39 U.vm ∧ U.heap = h0) (fun _ _ _ _ _ => True) (fun _ U o U' => ∃ v L, o = .returned v ∧ Q_min2 Z  h0 n0 v U'.heap L ∧ FrameEnd U o U' L ({ frames := 0, cells := 0, slots := 0, locals := 0 } : Room).cells ({ frames := 0, cells := 0, slots := 0, locals := 0 } : Room).slots) := by
  refine MetFree.of_bodySF (Jvm.Free.JP.mathPlain rfl (by decide +kernel)) hisR ?_
  intro p e s m args below meth c s₁ Bd hml0 hP hK
  obtain ⟨rfl, hZ, hh⟩ := hP
  have hx := Bd.exec
  have hby := Bd.bytes
  have hml : c.maxLocals = 2 := hml0
  have hown : s.vm.findClass "java/lang/Math" = some m.cls := findClass_of_methodNamed Bd.named
  have hnm := (name_of_methodNamed Bd.named Bd.method).1
  have X0 : Stand p l e ({ frames := 0, cells := 0, slots := 0, locals := 0 } : Room) s m #[(.int (10 : Int32)), (.int (2 : Int32))] below meth c s₁ [] 0 0 := Stand.of_body Bd
  have e0 : s₁.heap = h0 := by rw [← hh, Bd.state]; rfl
  have N0 := Fr.nil n0
  obtain ⟨S0, hS0⟩ : ∃ S0, S0 = s₁.setTop (entryFrame m #[(.int (10 : Int32)), (.int (2 : Int32))] 2) := ⟨_, rfl⟩
  have pre : Pth p e below S0 s₁ (mkF m 0 #[iv (10 : Int32), iv (2 : Int32)] []) := fun t k => by rw [hS0]; exact castTop (ef_min2 m (10 : Int32) (2 : Int32)) k
  replace pre : Pth p e below S0 s₁ (mkF m 10 #[iv (10 : Int32), iv (2 : Int32)] [(.int (2 : Int32))]) := fun t k => pre t (by
    show SS p e below s₁ (mkF m 0 #[iv (10 : Int32), iv (2 : Int32)] []) t
    refine XS.iloadN X0.here hx rfl (hb hby d_min2_0) rfl ?_
    show SS p e below s₁ (mkF m 1 #[iv (10 : Int32), iv (2 : Int32)] [(.int (10 : Int32))]) t
    refine XS.iloadN X0.here hx rfl (hb hby d_min2_1) rfl ?_
    show SS p e below s₁ (mkF m 2 #[iv (10 : Int32), iv (2 : Int32)] [(.int (2 : Int32)), (.int (10 : Int32))]) t
    refine XS.icmpYes X0.here hx rfl (pc0 := 2) (pc' := 9) rfl (hb hby d_min2_2) rfl (XT.ii_gt_t (by decide)) (by decide) (by decide) ?_
    show SS p e below s₁ (mkF m 9 #[iv (10 : Int32), iv (2 : Int32)] []) t
    refine XS.iloadN X0.here hx rfl (hb hby d_min2_9) rfl ?_
    show SS p e below s₁ (mkF m 10 #[iv (10 : Int32), iv (2 : Int32)] [(.int (2 : Int32))]) t
    exact k)
  obtain ⟨fs, hr, hrun, hended, hW, hsame⟩ := X0.leave (v := some (.int (2 : Int32))) (fun h => by rw [Bd.returns] at h; cases h)
  subst hS0
  refine ⟨_, _, pre _ ?_, hrun, hended, _, _, rfl, ?_, ⟨_, rfl⟩, hW, hsame.mono (by decide) (by decide)⟩
  · exact retI X0 hx Bd.returns (hb hby d_min2_10) hr
  · show Q_min2 Z  h0 n0 _ s₁.heap _
    rw [e0]
    exact ⟨rfl, N0, rfl⟩
def Q_cq2 (Z : State) (a1 : Addr) (mr : Addr) (f : Nat → Value) (h0 : Heap) (n0 : Nat) (v : Option Value) (h : Heap) (L : List Loc) : Prop := ∃ b, v = some (.ref b) ∧ Fr n0 L ∧ Ext h0 h ∧ OArr Z h b 2 f
set_option maxRecDepth 65536 in
set_option maxHeartbeats 40000000 in
theorem rm_cq2 (l : Launch) (Z : State) (a0 : Array Value) (hw : ∀ d ∈ tables_1, d.before a0 Z = true) (ws : List Jvm.Cond) (a1 : Addr) (mr : Addr) (f : Nat → Value) (h0 : Heap) (n0 : Nat) (Z0 : n0 ≤ h0.size) (M : OMir Z "[Ljava/lang/Object;" mr) (Fa : OArr Z h0 a1 10 f) (hf : ∀ j, j < 10 → f j = .null ∨ ∃ y, f j = .ref y ∧ Ins Z h0 y "java/lang/Object" true) :
    MetFree l (⟨"java/util/Arrays", "copyOf", "([Ljava/lang/Object;ILjava/lang/Class;)[Ljava/lang/Object;"⟩ : MethodName) (head1 (Jvm.Cond.code (⟨"java/util/Arrays", "copyOf", "([Ljava/lang/Object;ILjava/lang/Class;)[Ljava/lang/Object;"⟩ : MethodName) jdk_65_method_120_code 4 (some (.array (.object "java/lang/Object"))) :: ws) ({ frames := 1, cells := 1, slots := 2, locals := 40 } : Room)) (fun a U => a = #[(.ref a1), (.int (2 : Int32)), (.ref mr)] ∧ Z.Warmed39 U.vm ∧ U.heap = h0) (fun _ _ _ _ _ => True) (fun _ U o U' => ∃ v L, o = .returned v ∧ Q_cq2 Z a1 mr f h0 n0 v U'.heap L ∧ FrameEnd U o U' L ({ frames := 1, cells := 1, slots := 2, locals := 40 } : Room).cells ({ frames := 1, cells := 1, slots := 2, locals := 40 } : Room).slots) := by
  refine MetFree.of_bodySF (plainFor_of_name pn_java_util_Arrays) hisR ?_
  intro p e s m args below meth c s₁ Bd hml0 hP hK
  obtain ⟨rfl, hZ, hh⟩ := hP
  have hx := Bd.exec
  have hby := Bd.bytes
  have hml : c.maxLocals = 4 := hml0
  have hown : s.vm.findClass "java/util/Arrays" = some m.cls := findClass_of_methodNamed Bd.named
  have hnm := (name_of_methodNamed Bd.named Bd.method).1
  have X0 : Stand p l e ({ frames := 1, cells := 1, slots := 2, locals := 40 } : Room) s m #[(.ref a1), (.int (2 : Int32)), (.ref mr)] below meth c s₁ [] 0 0 := Stand.of_body Bd
  have e0 : s₁.heap = h0 := by rw [← hh, Bd.state]; rfl
  have N0 := Fr.nil n0
  obtain ⟨S0, hS0⟩ : ∃ S0, S0 = s₁.setTop (entryFrame m #[(.ref a1), (.int (2 : Int32)), (.ref mr)] 4) := ⟨_, rfl⟩
  have pre : Pth p e below S0 s₁ (mkF m 0 #[rv a1, iv (2 : Int32), rv mr, .unset] []) := fun t k => by rw [hS0]; exact castTop (ef_cq2 m a1 (2 : Int32) mr) k
  replace pre : Pth p e below S0 s₁ (mkF m 1 #[rv a1, iv (2 : Int32), rv mr, .unset] [(.ref mr)]) := fun t k => pre t (by
    show SS p e below s₁ (mkF m 0 #[rv a1, iv (2 : Int32), rv mr, .unset] []) t
    refine XS.aloadN X0.here hx rfl (hb hby d_cq2_0) rfl rfl ?_
    show SS p e below s₁ (mkF m 1 #[rv a1, iv (2 : Int32), rv mr, .unset] [(.ref mr)]) t
    exact k)
  obtain ⟨vm102, X102, st102⟩ := X0.ldcMirror hx hown (mvT hZ (own_t hw 186 rfl)) (own_mir M hZ) (g := (mkF m 1 #[rv a1, iv (2 : Int32), rv mr, .unset] [(.ref mr)])) rfl (hb hby d_cq2_1)
  obtain ⟨T102, hT102⟩ : ∃ T, T = s₁.setVm vm102 := ⟨_, rfl⟩
  rw [← hT102] at X102 st102
  have e102 : T102.heap = h0 := by rw [hT102]; exact e0
  replace pre : Pth p e below S0 T102 (mkF m 3 #[rv a1, iv (2 : Int32), rv mr, .unset] [(.ref mr), (.ref mr)]) := fun t k => pre t (st102 _ k)
  replace pre : Pth p e below S0 T102 (mkF m 7 #[rv a1, iv (2 : Int32), rv mr, .unset] [(.int (2 : Int32))]) := fun t k => pre t (by
    show SS p e below T102 (mkF m 3 #[rv a1, iv (2 : Int32), rv mr, .unset] [(.ref mr), (.ref mr)]) t
    refine Jvm.RoadKit.acmp (g := (mkF m 3 #[rv a1, iv (2 : Int32), rv mr, .unset] [(.ref mr), (.ref mr)])) X102 hx rfl rfl rfl (pc0 := 3) (pc' := 6) (same := true) rfl (hb hby d_cq2_3) rfl (decide_eq_true rfl) (by decide) (by decide) ?_
    show SS p e below T102 (mkF m 6 #[rv a1, iv (2 : Int32), rv mr, .unset] []) t
    refine XS.iloadN X102.here hx rfl (hb hby d_cq2_6) rfl ?_
    show SS p e below T102 (mkF m 7 #[rv a1, iv (2 : Int32), rv mr, .unset] [(.int (2 : Int32))]) t
    exact k)
  obtain ⟨T103, h103, k103, X103, e103, E103, A103, Ex103, O103, st103⟩ := newRE X102 hx hZ hown (own_t hw 187 rfl) (own_t hw 97 rfl) e102 (g := (mkF m 7 #[rv a1, iv (2 : Int32), rv mr, .unset] [(.int (2 : Int32))])) rfl (hb hby d_cq2_7) rfl (by decide) (cap := 2) (by decide) (by decide) (by decide) (by decide) (ad := "[Ljava/lang/Object;") (by decide)
  obtain ⟨b103, g103⟩ : ∃ z, z = h0.size := ⟨_, rfl⟩
  rw [← g103] at A103 Ex103 st103
  have F103 := OArr.new A103 Ex103 O103
  replace pre : Pth p e below S0 T103 (mkF m 10 #[rv a1, iv (2 : Int32), rv mr, .unset] [(.ref b103)]) := fun t k => pre t (st103 _ k)
  have Fn : OArr Z h103 b103 2 (fun _ => .null) := F103
  replace pre : Pth p e below S0 T103 (mkF m 30 #[rv a1, iv (2 : Int32), rv mr, rv b103] [(.ref a1), (.int (0 : Int32)), (.ref b103), (.int (0 : Int32)), (.ref a1)]) := fun t k => pre t (by
    show SS p e below T103 (mkF m 10 #[rv a1, iv (2 : Int32), rv mr, .unset] [(.ref b103)]) t
    refine XS.goto X103.here hx rfl (pc0 := 10) (pc' := 24) rfl (hb hby d_cq2_10) (by decide) (by decide) ?_
    show SS p e below T103 (mkF m 24 #[rv a1, iv (2 : Int32), rv mr, .unset] [(.ref b103)]) t
    refine XS.astoreN X103.here hx rfl (hb hby d_cq2_24) rfl rfl (l' := #[rv a1, iv (2 : Int32), rv mr, rv b103]) rfl ?_
    show SS p e below T103 (mkF m 25 #[rv a1, iv (2 : Int32), rv mr, rv b103] []) t
    refine XS.aloadN X103.here hx rfl (hb hby d_cq2_25) rfl rfl ?_
    show SS p e below T103 (mkF m 26 #[rv a1, iv (2 : Int32), rv mr, rv b103] [(.ref a1)]) t
    refine XS.iconst X103.here hx rfl (hb hby d_cq2_26) ?_
    show SS p e below T103 (mkF m 27 #[rv a1, iv (2 : Int32), rv mr, rv b103] [(.int (0 : Int32)), (.ref a1)]) t
    refine XS.aloadN X103.here hx rfl (hb hby d_cq2_27) rfl rfl ?_
    show SS p e below T103 (mkF m 28 #[rv a1, iv (2 : Int32), rv mr, rv b103] [(.ref b103), (.int (0 : Int32)), (.ref a1)]) t
    refine XS.iconst X103.here hx rfl (hb hby d_cq2_28) ?_
    show SS p e below T103 (mkF m 29 #[rv a1, iv (2 : Int32), rv mr, rv b103] [(.int (0 : Int32)), (.ref b103), (.int (0 : Int32)), (.ref a1)]) t
    refine XS.aloadN X103.here hx rfl (hb hby d_cq2_29) rfl rfl ?_
    show SS p e below T103 (mkF m 30 #[rv a1, iv (2 : Int32), rv mr, rv b103] [(.ref a1), (.int (0 : Int32)), (.ref b103), (.int (0 : Int32)), (.ref a1)]) t
    exact k)
  obtain ⟨cl104, Ar104, Sz104, -⟩ := id (Fa.ext E103).fun
  have hln104 : cl104.slots.size.toInt32 = (10 : Int32) := (congrArg Nat.toInt32 Sz104).trans (rfl)
  replace pre : Pth p e below S0 T103 (mkF m 32 #[rv a1, iv (2 : Int32), rv mr, rv b103] [(.int (2 : Int32)), (.int (10 : Int32)), (.int (0 : Int32)), (.ref b103), (.int (0 : Int32)), (.ref a1)]) := fun t k => pre t (by
    show SS p e below T103 (mkF m 30 #[rv a1, iv (2 : Int32), rv mr, rv b103] [(.ref a1), (.int (0 : Int32)), (.ref b103), (.int (0 : Int32)), (.ref a1)]) t
    refine X103.arraylength hx (by rw [e103]; exact Ar104.1) (State.isArrayOf_alike hZ.alike Ar104.2.1) (g := (mkF m 30 #[rv a1, iv (2 : Int32), rv mr, rv b103] [(.ref a1), (.int (0 : Int32)), (.ref b103), (.int (0 : Int32)), (.ref a1)])) rfl rfl (hb hby d_cq2_30) _ ?_
    rw [hln104]
    show SS p e below T103 (mkF m 31 #[rv a1, iv (2 : Int32), rv mr, rv b103] [(.int (10 : Int32)), (.int (0 : Int32)), (.ref b103), (.int (0 : Int32)), (.ref a1)]) t
    refine XS.iloadN X103.here hx rfl (hb hby d_cq2_31) rfl ?_
    show SS p e below T103 (mkF m 32 #[rv a1, iv (2 : Int32), rv mr, rv b103] [(.int (2 : Int32)), (.int (10 : Int32)), (.int (0 : Int32)), (.ref b103), (.int (0 : Int32)), (.ref a1)]) t
    exact k)
  obtain ⟨_, _, ⟨T105, L105, k105, n105⟩, -, X105, ⟨Lc105, hQ105, l105, y105, z105⟩, st105⟩ := Jvm.LawKit.callS X103 hx (y := (⟨"java/lang/Math", "min", "(II)I"⟩ : MethodName)) hown (mvT hZ (own_t hw 188 rfl)) (mvT hZ (own_t hw 189 rfl)) (mvT hZ (own_t hw 94 rfl)) (mvT hZ (own_t hw 190 rfl)) (by decide) (backOf (W := 4) (rm_min2 l Z a0 hw [] h103 n0) hZ (own_t hw 190 rfl) (own_t hw 94 rfl) (by decide) (by decide)) (g := (mkF m 32 #[rv a1, iv (2 : Int32), rv mr, rv b103] [(.int (2 : Int32)), (.int (10 : Int32)), (.int (0 : Int32)), (.ref b103), (.int (0 : Int32)), (.ref a1)])) rfl (by rw [hml]; rfl) (argsL := [(.int (10 : Int32)), (.int (2 : Int32))]) (rest := [(.int (0 : Int32)), (.ref b103), (.int (0 : Int32)), (.ref a1)]) (lenOf pd__II_I rfl) rfl (by show 2 * 0 + _ ≤ _; exact Nat.le_of_eq rfl) (hb hby d_cq2_32) (fun _ _ => ⟨rfl, e103, (by decide : 1 + 0 ≤ _), (by decide : 2 + 0 ≤ _)⟩)
  dsimp only [Pt.U, Pt.locs, Pt.cells, Pt.slots] at X105 l105 y105 z105 st105 hQ105
  subst l105 y105 z105
  obtain ⟨rfl, N105q, e105⟩ := hQ105
  have N105 := Fr.app N0 N105q
  replace pre : Pth p e below S0 T105 (mkF m 35 #[rv a1, iv (2 : Int32), rv mr, rv b103] [(.int (2 : Int32)), (.int (0 : Int32)), (.ref b103), (.int (0 : Int32)), (.ref a1)]) := fun t k => pre t (st105 _ k)
  obtain ⟨kA, AvA, -⟩ := OArr.arv (Fa.ext E103) (z := 10) rfl (by decide) (fun j hj => own_fits (hf j hj))
  obtain ⟨kB, AvB, OvB⟩ := OArr.arv Fn (z := 2) rfl (by decide) (fun j hj => rfl)
  obtain ⟨T106, h106, L106, X106, e106, N106, K106, V106, st106⟩ := cpA X105 hx hZ hown (own_t hw 191 rfl) (own_t hw 194 rfl) (own_t hw 192 rfl) (own_t hw 193 rfl) e105 AvA AvB (us := [f 0, f 1]) (Or.inr ⟨rfl, rfl, ⟨own_sto Fn (hf 0 (by decide)) E103, own_sto Fn (hf 1 (by decide)) E103, trivial⟩⟩) (by decide) (by decide) (by decide) (by decide) (by decide) rfl (by simp) N105 (by rw [g103]; exact Z0 : n0 ≤ b103) (g := (mkF m 35 #[rv a1, iv (2 : Int32), rv mr, rv b103] [(.int (2 : Int32)), (.int (0 : Int32)), (.ref b103), (.int (0 : Int32)), (.ref a1)])) rfl (by rw [hml]; rfl) rfl (hb hby d_cq2_35) (by decide) (W := 0) (by show 2 * 0 + _ ≤ _; exact Nat.le_of_eq rfl) (by decide)
  replace pre : Pth p e below S0 T106 (mkF m 38 #[rv a1, iv (2 : Int32), rv mr, rv b103] []) := fun t k => pre t (st106 _ k)
  replace pre : Pth p e below S0 T106 (mkF m 39 #[rv a1, iv (2 : Int32), rv mr, rv b103] [(.ref b103)]) := fun t k => pre t (by
    show SS p e below T106 (mkF m 38 #[rv a1, iv (2 : Int32), rv mr, rv b103] []) t
    refine XS.aloadN X106.here hx rfl (hb hby d_cq2_38) rfl rfl ?_
    show SS p e below T106 (mkF m 39 #[rv a1, iv (2 : Int32), rv mr, rv b103] [(.ref b103)]) t
    exact k)
  obtain ⟨fs, hr, hrun, hended, hW, hsame⟩ := X106.leave (v := some (.ref b103)) (fun h => by rw [Bd.returns] at h; cases h)
  subst hS0
  refine ⟨_, _, pre _ ?_, hrun, hended, _, _, rfl, ?_, ⟨_, rfl⟩, hW, hsame.mono (by decide) (by decide)⟩
  · exact retOut X106 hx (t := (.array (.object "java/lang/Object"))) Bd.returns rfl (by simp [Value.isRef, FieldType.isReference]) (hb hby d_cq2_39) hr
  · show Q_cq2 Z a1 mr f h0 n0 _ T106.heap _
    rw [e106]
    exact ⟨b103, rfl, N106, own_ext_keep E103 K106 (fun z hz => by rw [List.mem_singleton.mp hz, g103]; exact Nat.le_refl _), own_arv_arr (Fn.1.keep K106) V106 OvB rfl (fun j hj => by
      match j, hj with
      | 0, _ => rfl
      | 1, _ => rfl)⟩
def Q_min3 (Z : State)  (h0 : Heap) (n0 : Nat) (v : Option Value) (h : Heap) (L : List Loc) : Prop := v = some (.int 3) ∧ Fr n0 L ∧ h = h0
set_option maxRecDepth 65536 in
set_option maxHeartbeats 40000000 in
theorem rm_min3 (l : Launch) (Z : State) (a0 : Array Value) (hw : ∀ d ∈ tables_1, d.before a0 Z = true) (ws : List Jvm.Cond)  (h0 : Heap) (n0 : Nat)  :
    MetFree l (⟨"java/lang/Math", "min", "(II)I"⟩ : MethodName) (head1 (Jvm.Cond.code (⟨"java/lang/Math", "min", "(II)I"⟩ : MethodName) jdk_29_method_69_code 2 (some .int) :: ws) ({ frames := 0, cells := 0, slots := 0, locals := 0 } : Room)) (fun a U => a = #[(.int (10 : Int32)), (.int (3 : Int32))] ∧ Z.Warmed39 U.vm ∧ U.heap = h0) (fun _ _ _ _ _ => True) (fun _ U o U' => ∃ v L, o = .returned v ∧ Q_min3 Z  h0 n0 v U'.heap L ∧ FrameEnd U o U' L ({ frames := 0, cells := 0, slots := 0, locals := 0 } : Room).cells ({ frames := 0, cells := 0, slots := 0, locals := 0 } : Room).slots) := by
  refine MetFree.of_bodySF (Jvm.Free.JP.mathPlain rfl (by decide +kernel)) hisR ?_
  intro p e s m args below meth c s₁ Bd hml0 hP hK
  obtain ⟨rfl, hZ, hh⟩ := hP
  have hx := Bd.exec
  have hby := Bd.bytes
  have hml : c.maxLocals = 2 := hml0
  have hown : s.vm.findClass "java/lang/Math" = some m.cls := findClass_of_methodNamed Bd.named
  have hnm := (name_of_methodNamed Bd.named Bd.method).1
  have X0 : Stand p l e ({ frames := 0, cells := 0, slots := 0, locals := 0 } : Room) s m #[(.int (10 : Int32)), (.int (3 : Int32))] below meth c s₁ [] 0 0 := Stand.of_body Bd
  have e0 : s₁.heap = h0 := by rw [← hh, Bd.state]; rfl
  have N0 := Fr.nil n0
  obtain ⟨S0, hS0⟩ : ∃ S0, S0 = s₁.setTop (entryFrame m #[(.int (10 : Int32)), (.int (3 : Int32))] 2) := ⟨_, rfl⟩
  have pre : Pth p e below S0 s₁ (mkF m 0 #[iv (10 : Int32), iv (3 : Int32)] []) := fun t k => by rw [hS0]; exact castTop (ef_min3 m (10 : Int32) (3 : Int32)) k
  replace pre : Pth p e below S0 s₁ (mkF m 10 #[iv (10 : Int32), iv (3 : Int32)] [(.int (3 : Int32))]) := fun t k => pre t (by
    show SS p e below s₁ (mkF m 0 #[iv (10 : Int32), iv (3 : Int32)] []) t
    refine XS.iloadN X0.here hx rfl (hb hby d_min3_0) rfl ?_
    show SS p e below s₁ (mkF m 1 #[iv (10 : Int32), iv (3 : Int32)] [(.int (10 : Int32))]) t
    refine XS.iloadN X0.here hx rfl (hb hby d_min3_1) rfl ?_
    show SS p e below s₁ (mkF m 2 #[iv (10 : Int32), iv (3 : Int32)] [(.int (3 : Int32)), (.int (10 : Int32))]) t
    refine XS.icmpYes X0.here hx rfl (pc0 := 2) (pc' := 9) rfl (hb hby d_min3_2) rfl (XT.ii_gt_t (by decide)) (by decide) (by decide) ?_
    show SS p e below s₁ (mkF m 9 #[iv (10 : Int32), iv (3 : Int32)] []) t
    refine XS.iloadN X0.here hx rfl (hb hby d_min3_9) rfl ?_
    show SS p e below s₁ (mkF m 10 #[iv (10 : Int32), iv (3 : Int32)] [(.int (3 : Int32))]) t
    exact k)
  obtain ⟨fs, hr, hrun, hended, hW, hsame⟩ := X0.leave (v := some (.int (3 : Int32))) (fun h => by rw [Bd.returns] at h; cases h)
  subst hS0
  refine ⟨_, _, pre _ ?_, hrun, hended, _, _, rfl, ?_, ⟨_, rfl⟩, hW, hsame.mono (by decide) (by decide)⟩
  · exact retI X0 hx Bd.returns (hb hby d_min3_10) hr
  · show Q_min3 Z  h0 n0 _ s₁.heap _
    rw [e0]
    exact ⟨rfl, N0, rfl⟩
def Q_cq3 (Z : State) (a1 : Addr) (mr : Addr) (f : Nat → Value) (h0 : Heap) (n0 : Nat) (v : Option Value) (h : Heap) (L : List Loc) : Prop := ∃ b, v = some (.ref b) ∧ Fr n0 L ∧ Ext h0 h ∧ OArr Z h b 3 f
set_option maxRecDepth 65536 in
set_option maxHeartbeats 40000000 in
theorem rm_cq3 (l : Launch) (Z : State) (a0 : Array Value) (hw : ∀ d ∈ tables_1, d.before a0 Z = true) (ws : List Jvm.Cond) (a1 : Addr) (mr : Addr) (f : Nat → Value) (h0 : Heap) (n0 : Nat) (Z0 : n0 ≤ h0.size) (M : OMir Z "[Ljava/lang/Object;" mr) (Fa : OArr Z h0 a1 10 f) (hf : ∀ j, j < 10 → f j = .null ∨ ∃ y, f j = .ref y ∧ Ins Z h0 y "java/lang/Object" true) :
    MetFree l (⟨"java/util/Arrays", "copyOf", "([Ljava/lang/Object;ILjava/lang/Class;)[Ljava/lang/Object;"⟩ : MethodName) (head1 (Jvm.Cond.code (⟨"java/util/Arrays", "copyOf", "([Ljava/lang/Object;ILjava/lang/Class;)[Ljava/lang/Object;"⟩ : MethodName) jdk_65_method_120_code 4 (some (.array (.object "java/lang/Object"))) :: ws) ({ frames := 1, cells := 1, slots := 3, locals := 40 } : Room)) (fun a U => a = #[(.ref a1), (.int (3 : Int32)), (.ref mr)] ∧ Z.Warmed39 U.vm ∧ U.heap = h0) (fun _ _ _ _ _ => True) (fun _ U o U' => ∃ v L, o = .returned v ∧ Q_cq3 Z a1 mr f h0 n0 v U'.heap L ∧ FrameEnd U o U' L ({ frames := 1, cells := 1, slots := 3, locals := 40 } : Room).cells ({ frames := 1, cells := 1, slots := 3, locals := 40 } : Room).slots) := by
  refine MetFree.of_bodySF (plainFor_of_name pn_java_util_Arrays) hisR ?_
  intro p e s m args below meth c s₁ Bd hml0 hP hK
  obtain ⟨rfl, hZ, hh⟩ := hP
  have hx := Bd.exec
  have hby := Bd.bytes
  have hml : c.maxLocals = 4 := hml0
  have hown : s.vm.findClass "java/util/Arrays" = some m.cls := findClass_of_methodNamed Bd.named
  have hnm := (name_of_methodNamed Bd.named Bd.method).1
  have X0 : Stand p l e ({ frames := 1, cells := 1, slots := 3, locals := 40 } : Room) s m #[(.ref a1), (.int (3 : Int32)), (.ref mr)] below meth c s₁ [] 0 0 := Stand.of_body Bd
  have e0 : s₁.heap = h0 := by rw [← hh, Bd.state]; rfl
  have N0 := Fr.nil n0
  obtain ⟨S0, hS0⟩ : ∃ S0, S0 = s₁.setTop (entryFrame m #[(.ref a1), (.int (3 : Int32)), (.ref mr)] 4) := ⟨_, rfl⟩
  have pre : Pth p e below S0 s₁ (mkF m 0 #[rv a1, iv (3 : Int32), rv mr, .unset] []) := fun t k => by rw [hS0]; exact castTop (ef_cq3 m a1 (3 : Int32) mr) k
  replace pre : Pth p e below S0 s₁ (mkF m 1 #[rv a1, iv (3 : Int32), rv mr, .unset] [(.ref mr)]) := fun t k => pre t (by
    show SS p e below s₁ (mkF m 0 #[rv a1, iv (3 : Int32), rv mr, .unset] []) t
    refine XS.aloadN X0.here hx rfl (hb hby d_cq3_0) rfl rfl ?_
    show SS p e below s₁ (mkF m 1 #[rv a1, iv (3 : Int32), rv mr, .unset] [(.ref mr)]) t
    exact k)
  obtain ⟨vm107, X107, st107⟩ := X0.ldcMirror hx hown (mvT hZ (own_t hw 186 rfl)) (own_mir M hZ) (g := (mkF m 1 #[rv a1, iv (3 : Int32), rv mr, .unset] [(.ref mr)])) rfl (hb hby d_cq3_1)
  obtain ⟨T107, hT107⟩ : ∃ T, T = s₁.setVm vm107 := ⟨_, rfl⟩
  rw [← hT107] at X107 st107
  have e107 : T107.heap = h0 := by rw [hT107]; exact e0
  replace pre : Pth p e below S0 T107 (mkF m 3 #[rv a1, iv (3 : Int32), rv mr, .unset] [(.ref mr), (.ref mr)]) := fun t k => pre t (st107 _ k)
  replace pre : Pth p e below S0 T107 (mkF m 7 #[rv a1, iv (3 : Int32), rv mr, .unset] [(.int (3 : Int32))]) := fun t k => pre t (by
    show SS p e below T107 (mkF m 3 #[rv a1, iv (3 : Int32), rv mr, .unset] [(.ref mr), (.ref mr)]) t
    refine Jvm.RoadKit.acmp (g := (mkF m 3 #[rv a1, iv (3 : Int32), rv mr, .unset] [(.ref mr), (.ref mr)])) X107 hx rfl rfl rfl (pc0 := 3) (pc' := 6) (same := true) rfl (hb hby d_cq3_3) rfl (decide_eq_true rfl) (by decide) (by decide) ?_
    show SS p e below T107 (mkF m 6 #[rv a1, iv (3 : Int32), rv mr, .unset] []) t
    refine XS.iloadN X107.here hx rfl (hb hby d_cq3_6) rfl ?_
    show SS p e below T107 (mkF m 7 #[rv a1, iv (3 : Int32), rv mr, .unset] [(.int (3 : Int32))]) t
    exact k)
  obtain ⟨T108, h108, k108, X108, e108, E108, A108, Ex108, O108, st108⟩ := newRE X107 hx hZ hown (own_t hw 187 rfl) (own_t hw 97 rfl) e107 (g := (mkF m 7 #[rv a1, iv (3 : Int32), rv mr, .unset] [(.int (3 : Int32))])) rfl (hb hby d_cq3_7) rfl (by decide) (cap := 3) (by decide) (by decide) (by decide) (by decide) (ad := "[Ljava/lang/Object;") (by decide)
  obtain ⟨b108, g108⟩ : ∃ z, z = h0.size := ⟨_, rfl⟩
  rw [← g108] at A108 Ex108 st108
  have F108 := OArr.new A108 Ex108 O108
  replace pre : Pth p e below S0 T108 (mkF m 10 #[rv a1, iv (3 : Int32), rv mr, .unset] [(.ref b108)]) := fun t k => pre t (st108 _ k)
  have Fn : OArr Z h108 b108 3 (fun _ => .null) := F108
  replace pre : Pth p e below S0 T108 (mkF m 30 #[rv a1, iv (3 : Int32), rv mr, rv b108] [(.ref a1), (.int (0 : Int32)), (.ref b108), (.int (0 : Int32)), (.ref a1)]) := fun t k => pre t (by
    show SS p e below T108 (mkF m 10 #[rv a1, iv (3 : Int32), rv mr, .unset] [(.ref b108)]) t
    refine XS.goto X108.here hx rfl (pc0 := 10) (pc' := 24) rfl (hb hby d_cq3_10) (by decide) (by decide) ?_
    show SS p e below T108 (mkF m 24 #[rv a1, iv (3 : Int32), rv mr, .unset] [(.ref b108)]) t
    refine XS.astoreN X108.here hx rfl (hb hby d_cq3_24) rfl rfl (l' := #[rv a1, iv (3 : Int32), rv mr, rv b108]) rfl ?_
    show SS p e below T108 (mkF m 25 #[rv a1, iv (3 : Int32), rv mr, rv b108] []) t
    refine XS.aloadN X108.here hx rfl (hb hby d_cq3_25) rfl rfl ?_
    show SS p e below T108 (mkF m 26 #[rv a1, iv (3 : Int32), rv mr, rv b108] [(.ref a1)]) t
    refine XS.iconst X108.here hx rfl (hb hby d_cq3_26) ?_
    show SS p e below T108 (mkF m 27 #[rv a1, iv (3 : Int32), rv mr, rv b108] [(.int (0 : Int32)), (.ref a1)]) t
    refine XS.aloadN X108.here hx rfl (hb hby d_cq3_27) rfl rfl ?_
    show SS p e below T108 (mkF m 28 #[rv a1, iv (3 : Int32), rv mr, rv b108] [(.ref b108), (.int (0 : Int32)), (.ref a1)]) t
    refine XS.iconst X108.here hx rfl (hb hby d_cq3_28) ?_
    show SS p e below T108 (mkF m 29 #[rv a1, iv (3 : Int32), rv mr, rv b108] [(.int (0 : Int32)), (.ref b108), (.int (0 : Int32)), (.ref a1)]) t
    refine XS.aloadN X108.here hx rfl (hb hby d_cq3_29) rfl rfl ?_
    show SS p e below T108 (mkF m 30 #[rv a1, iv (3 : Int32), rv mr, rv b108] [(.ref a1), (.int (0 : Int32)), (.ref b108), (.int (0 : Int32)), (.ref a1)]) t
    exact k)
  obtain ⟨cl109, Ar109, Sz109, -⟩ := id (Fa.ext E108).fun
  have hln109 : cl109.slots.size.toInt32 = (10 : Int32) := (congrArg Nat.toInt32 Sz109).trans (rfl)
  replace pre : Pth p e below S0 T108 (mkF m 32 #[rv a1, iv (3 : Int32), rv mr, rv b108] [(.int (3 : Int32)), (.int (10 : Int32)), (.int (0 : Int32)), (.ref b108), (.int (0 : Int32)), (.ref a1)]) := fun t k => pre t (by
    show SS p e below T108 (mkF m 30 #[rv a1, iv (3 : Int32), rv mr, rv b108] [(.ref a1), (.int (0 : Int32)), (.ref b108), (.int (0 : Int32)), (.ref a1)]) t
    refine X108.arraylength hx (by rw [e108]; exact Ar109.1) (State.isArrayOf_alike hZ.alike Ar109.2.1) (g := (mkF m 30 #[rv a1, iv (3 : Int32), rv mr, rv b108] [(.ref a1), (.int (0 : Int32)), (.ref b108), (.int (0 : Int32)), (.ref a1)])) rfl rfl (hb hby d_cq3_30) _ ?_
    rw [hln109]
    show SS p e below T108 (mkF m 31 #[rv a1, iv (3 : Int32), rv mr, rv b108] [(.int (10 : Int32)), (.int (0 : Int32)), (.ref b108), (.int (0 : Int32)), (.ref a1)]) t
    refine XS.iloadN X108.here hx rfl (hb hby d_cq3_31) rfl ?_
    show SS p e below T108 (mkF m 32 #[rv a1, iv (3 : Int32), rv mr, rv b108] [(.int (3 : Int32)), (.int (10 : Int32)), (.int (0 : Int32)), (.ref b108), (.int (0 : Int32)), (.ref a1)]) t
    exact k)
  obtain ⟨_, _, ⟨T110, L110, k110, n110⟩, -, X110, ⟨Lc110, hQ110, l110, y110, z110⟩, st110⟩ := Jvm.LawKit.callS X108 hx (y := (⟨"java/lang/Math", "min", "(II)I"⟩ : MethodName)) hown (mvT hZ (own_t hw 188 rfl)) (mvT hZ (own_t hw 189 rfl)) (mvT hZ (own_t hw 94 rfl)) (mvT hZ (own_t hw 190 rfl)) (by decide) (backOf (W := 4) (rm_min3 l Z a0 hw [] h108 n0) hZ (own_t hw 190 rfl) (own_t hw 94 rfl) (by decide) (by decide)) (g := (mkF m 32 #[rv a1, iv (3 : Int32), rv mr, rv b108] [(.int (3 : Int32)), (.int (10 : Int32)), (.int (0 : Int32)), (.ref b108), (.int (0 : Int32)), (.ref a1)])) rfl (by rw [hml]; rfl) (argsL := [(.int (10 : Int32)), (.int (3 : Int32))]) (rest := [(.int (0 : Int32)), (.ref b108), (.int (0 : Int32)), (.ref a1)]) (lenOf pd__II_I rfl) rfl (by show 2 * 0 + _ ≤ _; exact Nat.le_of_eq rfl) (hb hby d_cq3_32) (fun _ _ => ⟨rfl, e108, (by decide : 1 + 0 ≤ _), (by decide : 3 + 0 ≤ _)⟩)
  dsimp only [Pt.U, Pt.locs, Pt.cells, Pt.slots] at X110 l110 y110 z110 st110 hQ110
  subst l110 y110 z110
  obtain ⟨rfl, N110q, e110⟩ := hQ110
  have N110 := Fr.app N0 N110q
  replace pre : Pth p e below S0 T110 (mkF m 35 #[rv a1, iv (3 : Int32), rv mr, rv b108] [(.int (3 : Int32)), (.int (0 : Int32)), (.ref b108), (.int (0 : Int32)), (.ref a1)]) := fun t k => pre t (st110 _ k)
  obtain ⟨kA, AvA, -⟩ := OArr.arv (Fa.ext E108) (z := 10) rfl (by decide) (fun j hj => own_fits (hf j hj))
  obtain ⟨kB, AvB, OvB⟩ := OArr.arv Fn (z := 3) rfl (by decide) (fun j hj => rfl)
  obtain ⟨T111, h111, L111, X111, e111, N111, K111, V111, st111⟩ := cpA X110 hx hZ hown (own_t hw 191 rfl) (own_t hw 194 rfl) (own_t hw 192 rfl) (own_t hw 193 rfl) e110 AvA AvB (us := [f 0, f 1, f 2]) (Or.inr ⟨rfl, rfl, ⟨own_sto Fn (hf 0 (by decide)) E108, own_sto Fn (hf 1 (by decide)) E108, own_sto Fn (hf 2 (by decide)) E108, trivial⟩⟩) (by decide) (by decide) (by decide) (by decide) (by decide) rfl (by simp) N110 (by rw [g108]; exact Z0 : n0 ≤ b108) (g := (mkF m 35 #[rv a1, iv (3 : Int32), rv mr, rv b108] [(.int (3 : Int32)), (.int (0 : Int32)), (.ref b108), (.int (0 : Int32)), (.ref a1)])) rfl (by rw [hml]; rfl) rfl (hb hby d_cq3_35) (by decide) (W := 0) (by show 2 * 0 + _ ≤ _; exact Nat.le_of_eq rfl) (by decide)
  replace pre : Pth p e below S0 T111 (mkF m 38 #[rv a1, iv (3 : Int32), rv mr, rv b108] []) := fun t k => pre t (st111 _ k)
  replace pre : Pth p e below S0 T111 (mkF m 39 #[rv a1, iv (3 : Int32), rv mr, rv b108] [(.ref b108)]) := fun t k => pre t (by
    show SS p e below T111 (mkF m 38 #[rv a1, iv (3 : Int32), rv mr, rv b108] []) t
    refine XS.aloadN X111.here hx rfl (hb hby d_cq3_38) rfl rfl ?_
    show SS p e below T111 (mkF m 39 #[rv a1, iv (3 : Int32), rv mr, rv b108] [(.ref b108)]) t
    exact k)
  obtain ⟨fs, hr, hrun, hended, hW, hsame⟩ := X111.leave (v := some (.ref b108)) (fun h => by rw [Bd.returns] at h; cases h)
  subst hS0
  refine ⟨_, _, pre _ ?_, hrun, hended, _, _, rfl, ?_, ⟨_, rfl⟩, hW, hsame.mono (by decide) (by decide)⟩
  · exact retOut X111 hx (t := (.array (.object "java/lang/Object"))) Bd.returns rfl (by simp [Value.isRef, FieldType.isReference]) (hb hby d_cq3_39) hr
  · show Q_cq3 Z a1 mr f h0 n0 _ T111.heap _
    rw [e111]
    exact ⟨b108, rfl, N111, own_ext_keep E108 K111 (fun z hz => by rw [List.mem_singleton.mp hz, g108]; exact Nat.le_refl _), own_arv_arr (Fn.1.keep K111) V111 OvB rfl (fun j hj => by
      match j, hj with
      | 0, _ => rfl
      | 1, _ => rfl
      | 2, _ => rfl)⟩
def Q_cr1 (Z : State) (a1 : Addr) (mr : Addr) (f : Nat → Value) (h0 : Heap) (n0 : Nat) (v : Option Value) (h : Heap) (L : List Loc) : Prop := ∃ b, v = some (.ref b) ∧ Fr n0 L ∧ Ext h0 h ∧ OArr Z h b 1 f
set_option maxRecDepth 65536 in
set_option maxHeartbeats 40000000 in
theorem rm_cr1 (l : Launch) (Z : State) (a0 : Array Value) (hw : ∀ d ∈ tables_1, d.before a0 Z = true) (ws : List Jvm.Cond) (a1 : Addr) (mr : Addr) (f : Nat → Value) (h0 : Heap) (n0 : Nat) (Z0 : n0 ≤ h0.size) (M : OMir Z "[Ljava/lang/Object;" mr) (Fa : OArr Z h0 a1 10 f) (hf : ∀ j, j < 10 → f j = .null ∨ ∃ y, f j = .ref y ∧ Ins Z h0 y "java/lang/Object" true) :
    MetFree l (⟨"java/util/Arrays", "copyOf", "([Ljava/lang/Object;I)[Ljava/lang/Object;"⟩ : MethodName) (head1 (Jvm.Cond.code (⟨"java/util/Arrays", "copyOf", "([Ljava/lang/Object;I)[Ljava/lang/Object;"⟩ : MethodName) jdk_65_method_119_code 2 (some (.array (.object "java/lang/Object"))) :: ws) ({ frames := 2, cells := 1, slots := 1, locals := 60 } : Room)) (fun a U => a = #[(.ref a1), (.int (1 : Int32))] ∧ Z.Warmed39 U.vm ∧ U.heap = h0) (fun _ _ _ _ _ => True) (fun _ U o U' => ∃ v L, o = .returned v ∧ Q_cr1 Z a1 mr f h0 n0 v U'.heap L ∧ FrameEnd U o U' L ({ frames := 2, cells := 1, slots := 1, locals := 60 } : Room).cells ({ frames := 2, cells := 1, slots := 1, locals := 60 } : Room).slots) := by
  refine MetFree.of_bodySF (plainFor_of_name pn_java_util_Arrays) hisR ?_
  intro p e s m args below meth c s₁ Bd hml0 hP hK
  obtain ⟨rfl, hZ, hh⟩ := hP
  have hx := Bd.exec
  have hby := Bd.bytes
  have hml : c.maxLocals = 2 := hml0
  have hown : s.vm.findClass "java/util/Arrays" = some m.cls := findClass_of_methodNamed Bd.named
  have hnm := (name_of_methodNamed Bd.named Bd.method).1
  have X0 : Stand p l e ({ frames := 2, cells := 1, slots := 1, locals := 60 } : Room) s m #[(.ref a1), (.int (1 : Int32))] below meth c s₁ [] 0 0 := Stand.of_body Bd
  have e0 : s₁.heap = h0 := by rw [← hh, Bd.state]; rfl
  have N0 := Fr.nil n0
  obtain ⟨S0, hS0⟩ : ∃ S0, S0 = s₁.setTop (entryFrame m #[(.ref a1), (.int (1 : Int32))] 2) := ⟨_, rfl⟩
  have pre : Pth p e below S0 s₁ (mkF m 0 #[rv a1, iv (1 : Int32)] []) := fun t k => by rw [hS0]; exact castTop (ef_cr1 m a1 (1 : Int32)) k
  replace pre : Pth p e below S0 s₁ (mkF m 3 #[rv a1, iv (1 : Int32)] [(.ref a1), (.int (1 : Int32)), (.ref a1)]) := fun t k => pre t (by
    show SS p e below s₁ (mkF m 0 #[rv a1, iv (1 : Int32)] []) t
    refine XS.aloadN X0.here hx rfl (hb hby d_cr1_0) rfl rfl ?_
    show SS p e below s₁ (mkF m 1 #[rv a1, iv (1 : Int32)] [(.ref a1)]) t
    refine XS.iloadN X0.here hx rfl (hb hby d_cr1_1) rfl ?_
    show SS p e below s₁ (mkF m 2 #[rv a1, iv (1 : Int32)] [(.int (1 : Int32)), (.ref a1)]) t
    refine XS.aloadN X0.here hx rfl (hb hby d_cr1_2) rfl rfl ?_
    show SS p e below s₁ (mkF m 3 #[rv a1, iv (1 : Int32)] [(.ref a1), (.int (1 : Int32)), (.ref a1)]) t
    exact k)
  obtain ⟨cB, kB, i1, i2, i3⟩ := isOf hZ e0 Fa.1
  obtain ⟨cM, kM, m1, m2, m3⟩ := id M
  rw [hZ.alike.findClass] at i1
  cases i1.symm.trans m1
  obtain ⟨k', qk, ek⟩ := hZ.alike.2.2 _ _ m2
  obtain ⟨vm112, X112, st112⟩ := X0.getClassOf hx hown (mvT hZ (own_t hw 177 rfl)) (mvT hZ (own_t hw 178 rfl)) (nf_top (args := #[]) (mvT hZ (own_t hw 153 rfl))) (mvT hZ (own_t hw 180 rfl)) (mvT hZ (own_t hw 179 rfl)) (mvT hZ (own_t hw 181 rfl)) (by rw [hZ.alike.findClass]; exact m1) i3 qk (by rw [ek]; exact m3) (g := (mkF m 3 #[rv a1, iv (1 : Int32)] [(.ref a1), (.int (1 : Int32)), (.ref a1)])) rfl (by rw [hml]; rfl) rfl (hb hby d_cr1_3) (by decide) (Nat.le_trans (m := 2 + (nativeFrameWords "java/lang/Object" "getClass" 1 + 11)) (by show 2 * 0 + _ + _ ≤ _; exact Nat.le_of_eq rfl) (by decide))
  obtain ⟨T112, hT112⟩ : ∃ T, T = s₁.setVm vm112 := ⟨_, rfl⟩
  rw [← hT112] at X112 st112
  have e112 : T112.heap = h0 := by rw [hT112]; exact e0
  replace pre : Pth p e below S0 T112 (mkF m 6 #[rv a1, iv (1 : Int32)] [(.ref mr), (.int (1 : Int32)), (.ref a1)]) := fun t k => pre t (st112 _ k)
  obtain ⟨_, _, ⟨T113, L113, k113, n113⟩, -, X113, ⟨Lc113, hQ113, l113, y113, z113⟩, st113⟩ := Jvm.LawKit.callS X112 hx (y := (⟨"java/util/Arrays", "copyOf", "([Ljava/lang/Object;ILjava/lang/Class;)[Ljava/lang/Object;"⟩ : MethodName)) hown (mvT hZ (own_t hw 183 rfl)) (mvT hZ (own_t hw 184 rfl)) (mvT hZ (own_t hw 175 rfl)) (mvT hZ (own_t hw 185 rfl)) (by decide) (backOf (W := 0) (rm_cq1 l Z a0 hw [] a1 mr f h0 n0 Z0 M Fa hf) hZ (own_t hw 185 rfl) (own_t hw 175 rfl) (by decide) (by decide)) (g := (mkF m 6 #[rv a1, iv (1 : Int32)] [(.ref mr), (.int (1 : Int32)), (.ref a1)])) rfl (by rw [hml]; rfl) (argsL := [(.ref a1), (.int (1 : Int32)), (.ref mr)]) (rest := []) (lenOf pd___Ljava_lang_Object_ILjava_lang_Class___Ljava_lang_Object_ rfl) rfl (by show 2 * 0 + _ ≤ _; exact Nat.le_of_eq rfl) (hb hby d_cr1_6) (fun _ _ => ⟨rfl, e112, (by decide : 0 + 1 ≤ _), (by decide : 0 + 1 ≤ _)⟩)
  dsimp only [Pt.U, Pt.locs, Pt.cells, Pt.slots] at X113 l113 y113 z113 st113 hQ113
  subst l113 y113 z113
  obtain ⟨bb, rfl, N113q, E113, O113⟩ := hQ113
  have N113 := Fr.app N0 N113q
  replace pre : Pth p e below S0 T113 (mkF m 9 #[rv a1, iv (1 : Int32)] [(.ref bb)]) := fun t k => pre t (st113 _ k)
  obtain ⟨fs, hr, hrun, hended, hW, hsame⟩ := X113.leave (v := some (.ref bb)) (fun h => by rw [Bd.returns] at h; cases h)
  subst hS0
  refine ⟨_, _, pre _ ?_, hrun, hended, _, _, rfl, ?_, ⟨_, rfl⟩, hW, hsame.mono (by decide) (by decide)⟩
  · exact retOut X113 hx (t := (.array (.object "java/lang/Object"))) Bd.returns rfl (by simp [Value.isRef, FieldType.isReference]) (hb hby d_cr1_9) hr
  · show Q_cr1 Z a1 mr f h0 n0 _ T113.heap _
    exact ⟨bb, rfl, N113, E113, O113⟩
def Q_toa1 (Z : State) (a1 : Addr) (b1 mr : Addr) (md : Int32) (f : Nat → Value) (h0 : Heap) (n0 : Nat) (v : Option Value) (h : Heap) (L : List Loc) : Prop := ∃ b, v = some (.ref b) ∧ Fr n0 L ∧ Ext h0 h ∧ OArr Z h b 1 f
set_option maxRecDepth 65536 in
set_option maxHeartbeats 40000000 in
theorem rm_toa1 (l : Launch) (Z : State) (a0 : Array Value) (hw : ∀ d ∈ tables_1, d.before a0 Z = true) (ws : List Jvm.Cond) (a1 : Addr) (b1 mr : Addr) (md : Int32) (f : Nat → Value) (h0 : Heap) (n0 : Nat) (Z0 : n0 ≤ h0.size) (hA : OAL Z h0 a1 b1 1 md) (M : OMir Z "[Ljava/lang/Object;" mr) (Fa : OArr Z h0 b1 10 f) (hf : ∀ j, j < 10 → f j = .null ∨ ∃ y, f j = .ref y ∧ Ins Z h0 y "java/lang/Object" true) :
    MetFree l (⟨"java/util/ArrayList", "toArray", "()[Ljava/lang/Object;"⟩ : MethodName) (head1 (Jvm.Cond.code (⟨"java/util/ArrayList", "toArray", "()[Ljava/lang/Object;"⟩ : MethodName) jdk_38_method_16_code 1 (some (.array (.object "java/lang/Object"))) :: ws) ({ frames := 3, cells := 1, slots := 1, locals := 73 } : Room)) (fun a U => a = #[(.ref a1)] ∧ Z.Warmed39 U.vm ∧ U.heap = h0) (fun _ _ _ _ _ => True) (fun _ U o U' => ∃ v L, o = .returned v ∧ Q_toa1 Z a1 b1 mr md f h0 n0 v U'.heap L ∧ FrameEnd U o U' L ({ frames := 3, cells := 1, slots := 1, locals := 73 } : Room).cells ({ frames := 3, cells := 1, slots := 1, locals := 73 } : Room).slots) := by
  refine MetFree.of_bodySF (plainFor_of_name pn_java_util_ArrayList) hisR ?_
  intro p e s m args below meth c s₁ Bd hml0 hP hK
  obtain ⟨rfl, hZ, hh⟩ := hP
  have hx := Bd.exec
  have hby := Bd.bytes
  have hml : c.maxLocals = 1 := hml0
  have hown : s.vm.findClass "java/util/ArrayList" = some m.cls := findClass_of_methodNamed Bd.named
  have hnm := (name_of_methodNamed Bd.named Bd.method).1
  have X0 : Stand p l e ({ frames := 3, cells := 1, slots := 1, locals := 73 } : Room) s m #[(.ref a1)] below meth c s₁ [] 0 0 := Stand.of_body Bd
  have e0 : s₁.heap = h0 := by rw [← hh, Bd.state]; rfl
  have N0 := Fr.nil n0
  obtain ⟨S0, hS0⟩ : ∃ S0, S0 = s₁.setTop (entryFrame m #[(.ref a1)] 1) := ⟨_, rfl⟩
  have pre : Pth p e below S0 s₁ (mkF m 0 #[rv a1] []) := fun t k => by rw [hS0]; exact castTop (ef_toa1 m a1) k
  replace pre : Pth p e below S0 s₁ (mkF m 1 #[rv a1] [(.ref a1)]) := fun t k => pre t (by
    show SS p e below s₁ (mkF m 0 #[rv a1] []) t
    refine XS.aloadN X0.here hx rfl (hb hby d_toa1_0) rfl rfl ?_
    show SS p e below s₁ (mkF m 1 #[rv a1] [(.ref a1)]) t
    exact k)
  obtain ⟨T114, X114, e114, st114⟩ := getF X0 hx hZ hown (host := "") (Or.inl (own_t hw 52 rfl)) Via.refl e0 hA.2.1 (g := (mkF m 1 #[rv a1] [(.ref a1)])) rfl rfl (hb hby d_toa1_1)
  replace pre : Pth p e below S0 T114 (mkF m 4 #[rv a1] [(.ref b1)]) := fun t k => pre t (st114 _ k)
  replace pre : Pth p e below S0 T114 (mkF m 5 #[rv a1] [(.ref a1), (.ref b1)]) := fun t k => pre t (by
    show SS p e below T114 (mkF m 4 #[rv a1] [(.ref b1)]) t
    refine XS.aloadN X114.here hx rfl (hb hby d_toa1_4) rfl rfl ?_
    show SS p e below T114 (mkF m 5 #[rv a1] [(.ref a1), (.ref b1)]) t
    exact k)
  obtain ⟨T115, X115, e115, st115⟩ := getF X114 hx hZ hown (host := "") (Or.inl (own_t hw 75 rfl)) Via.refl e114 hA.2.2.1 (g := (mkF m 5 #[rv a1] [(.ref a1), (.ref b1)])) rfl rfl (hb hby d_toa1_5)
  replace pre : Pth p e below S0 T115 (mkF m 8 #[rv a1] [(.int (1 : Int32)), (.ref b1)]) := fun t k => pre t (st115 _ k)
  obtain ⟨_, _, ⟨T116, L116, k116, n116⟩, -, X116, ⟨Lc116, hQ116, l116, y116, z116⟩, st116⟩ := Jvm.LawKit.callS X115 hx (y := (⟨"java/util/Arrays", "copyOf", "([Ljava/lang/Object;I)[Ljava/lang/Object;"⟩ : MethodName)) hown (mvT hZ (own_t hw 173 rfl)) (mvT hZ (own_t hw 174 rfl)) (mvT hZ (own_t hw 175 rfl)) (mvT hZ (own_t hw 176 rfl)) (by decide) (backOf (W := 0) (rm_cr1 l Z a0 hw [] b1 mr f h0 n0 Z0 M Fa hf) hZ (own_t hw 176 rfl) (own_t hw 175 rfl) (by decide) (by decide)) (g := (mkF m 8 #[rv a1] [(.int (1 : Int32)), (.ref b1)])) rfl (by rw [hml]; rfl) (argsL := [(.ref b1), (.int (1 : Int32))]) (rest := []) (lenOf pd___Ljava_lang_Object_I__Ljava_lang_Object_ rfl) rfl (by show 2 * 0 + _ ≤ _; exact Nat.le_of_eq rfl) (hb hby d_toa1_8) (fun _ _ => ⟨rfl, e115, (by decide : 0 + 1 ≤ _), (by decide : 0 + 1 ≤ _)⟩)
  dsimp only [Pt.U, Pt.locs, Pt.cells, Pt.slots] at X116 l116 y116 z116 st116 hQ116
  subst l116 y116 z116
  obtain ⟨bb, rfl, N116q, E116, O116⟩ := hQ116
  have N116 := Fr.app N0 N116q
  replace pre : Pth p e below S0 T116 (mkF m 11 #[rv a1] [(.ref bb)]) := fun t k => pre t (st116 _ k)
  obtain ⟨fs, hr, hrun, hended, hW, hsame⟩ := X116.leave (v := some (.ref bb)) (fun h => by rw [Bd.returns] at h; cases h)
  subst hS0
  refine ⟨_, _, pre _ ?_, hrun, hended, _, _, rfl, ?_, ⟨_, rfl⟩, hW, hsame.mono (by decide) (by decide)⟩
  · exact retOut X116 hx (t := (.array (.object "java/lang/Object"))) Bd.returns rfl (by simp [Value.isRef, FieldType.isReference]) (hb hby d_toa1_11) hr
  · show Q_toa1 Z a1 b1 mr md f h0 n0 _ T116.heap _
    exact ⟨bb, rfl, N116, E116, O116⟩
def Q_cr2 (Z : State) (a1 : Addr) (mr : Addr) (f : Nat → Value) (h0 : Heap) (n0 : Nat) (v : Option Value) (h : Heap) (L : List Loc) : Prop := ∃ b, v = some (.ref b) ∧ Fr n0 L ∧ Ext h0 h ∧ OArr Z h b 2 f
set_option maxRecDepth 65536 in
set_option maxHeartbeats 40000000 in
theorem rm_cr2 (l : Launch) (Z : State) (a0 : Array Value) (hw : ∀ d ∈ tables_1, d.before a0 Z = true) (ws : List Jvm.Cond) (a1 : Addr) (mr : Addr) (f : Nat → Value) (h0 : Heap) (n0 : Nat) (Z0 : n0 ≤ h0.size) (M : OMir Z "[Ljava/lang/Object;" mr) (Fa : OArr Z h0 a1 10 f) (hf : ∀ j, j < 10 → f j = .null ∨ ∃ y, f j = .ref y ∧ Ins Z h0 y "java/lang/Object" true) :
    MetFree l (⟨"java/util/Arrays", "copyOf", "([Ljava/lang/Object;I)[Ljava/lang/Object;"⟩ : MethodName) (head1 (Jvm.Cond.code (⟨"java/util/Arrays", "copyOf", "([Ljava/lang/Object;I)[Ljava/lang/Object;"⟩ : MethodName) jdk_65_method_119_code 2 (some (.array (.object "java/lang/Object"))) :: ws) ({ frames := 2, cells := 1, slots := 2, locals := 60 } : Room)) (fun a U => a = #[(.ref a1), (.int (2 : Int32))] ∧ Z.Warmed39 U.vm ∧ U.heap = h0) (fun _ _ _ _ _ => True) (fun _ U o U' => ∃ v L, o = .returned v ∧ Q_cr2 Z a1 mr f h0 n0 v U'.heap L ∧ FrameEnd U o U' L ({ frames := 2, cells := 1, slots := 2, locals := 60 } : Room).cells ({ frames := 2, cells := 1, slots := 2, locals := 60 } : Room).slots) := by
  refine MetFree.of_bodySF (plainFor_of_name pn_java_util_Arrays) hisR ?_
  intro p e s m args below meth c s₁ Bd hml0 hP hK
  obtain ⟨rfl, hZ, hh⟩ := hP
  have hx := Bd.exec
  have hby := Bd.bytes
  have hml : c.maxLocals = 2 := hml0
  have hown : s.vm.findClass "java/util/Arrays" = some m.cls := findClass_of_methodNamed Bd.named
  have hnm := (name_of_methodNamed Bd.named Bd.method).1
  have X0 : Stand p l e ({ frames := 2, cells := 1, slots := 2, locals := 60 } : Room) s m #[(.ref a1), (.int (2 : Int32))] below meth c s₁ [] 0 0 := Stand.of_body Bd
  have e0 : s₁.heap = h0 := by rw [← hh, Bd.state]; rfl
  have N0 := Fr.nil n0
  obtain ⟨S0, hS0⟩ : ∃ S0, S0 = s₁.setTop (entryFrame m #[(.ref a1), (.int (2 : Int32))] 2) := ⟨_, rfl⟩
  have pre : Pth p e below S0 s₁ (mkF m 0 #[rv a1, iv (2 : Int32)] []) := fun t k => by rw [hS0]; exact castTop (ef_cr2 m a1 (2 : Int32)) k
  replace pre : Pth p e below S0 s₁ (mkF m 3 #[rv a1, iv (2 : Int32)] [(.ref a1), (.int (2 : Int32)), (.ref a1)]) := fun t k => pre t (by
    show SS p e below s₁ (mkF m 0 #[rv a1, iv (2 : Int32)] []) t
    refine XS.aloadN X0.here hx rfl (hb hby d_cr2_0) rfl rfl ?_
    show SS p e below s₁ (mkF m 1 #[rv a1, iv (2 : Int32)] [(.ref a1)]) t
    refine XS.iloadN X0.here hx rfl (hb hby d_cr2_1) rfl ?_
    show SS p e below s₁ (mkF m 2 #[rv a1, iv (2 : Int32)] [(.int (2 : Int32)), (.ref a1)]) t
    refine XS.aloadN X0.here hx rfl (hb hby d_cr2_2) rfl rfl ?_
    show SS p e below s₁ (mkF m 3 #[rv a1, iv (2 : Int32)] [(.ref a1), (.int (2 : Int32)), (.ref a1)]) t
    exact k)
  obtain ⟨cB, kB, i1, i2, i3⟩ := isOf hZ e0 Fa.1
  obtain ⟨cM, kM, m1, m2, m3⟩ := id M
  rw [hZ.alike.findClass] at i1
  cases i1.symm.trans m1
  obtain ⟨k', qk, ek⟩ := hZ.alike.2.2 _ _ m2
  obtain ⟨vm117, X117, st117⟩ := X0.getClassOf hx hown (mvT hZ (own_t hw 177 rfl)) (mvT hZ (own_t hw 178 rfl)) (nf_top (args := #[]) (mvT hZ (own_t hw 153 rfl))) (mvT hZ (own_t hw 180 rfl)) (mvT hZ (own_t hw 179 rfl)) (mvT hZ (own_t hw 181 rfl)) (by rw [hZ.alike.findClass]; exact m1) i3 qk (by rw [ek]; exact m3) (g := (mkF m 3 #[rv a1, iv (2 : Int32)] [(.ref a1), (.int (2 : Int32)), (.ref a1)])) rfl (by rw [hml]; rfl) rfl (hb hby d_cr2_3) (by decide) (Nat.le_trans (m := 2 + (nativeFrameWords "java/lang/Object" "getClass" 1 + 11)) (by show 2 * 0 + _ + _ ≤ _; exact Nat.le_of_eq rfl) (by decide))
  obtain ⟨T117, hT117⟩ : ∃ T, T = s₁.setVm vm117 := ⟨_, rfl⟩
  rw [← hT117] at X117 st117
  have e117 : T117.heap = h0 := by rw [hT117]; exact e0
  replace pre : Pth p e below S0 T117 (mkF m 6 #[rv a1, iv (2 : Int32)] [(.ref mr), (.int (2 : Int32)), (.ref a1)]) := fun t k => pre t (st117 _ k)
  obtain ⟨_, _, ⟨T118, L118, k118, n118⟩, -, X118, ⟨Lc118, hQ118, l118, y118, z118⟩, st118⟩ := Jvm.LawKit.callS X117 hx (y := (⟨"java/util/Arrays", "copyOf", "([Ljava/lang/Object;ILjava/lang/Class;)[Ljava/lang/Object;"⟩ : MethodName)) hown (mvT hZ (own_t hw 183 rfl)) (mvT hZ (own_t hw 184 rfl)) (mvT hZ (own_t hw 175 rfl)) (mvT hZ (own_t hw 185 rfl)) (by decide) (backOf (W := 0) (rm_cq2 l Z a0 hw [] a1 mr f h0 n0 Z0 M Fa hf) hZ (own_t hw 185 rfl) (own_t hw 175 rfl) (by decide) (by decide)) (g := (mkF m 6 #[rv a1, iv (2 : Int32)] [(.ref mr), (.int (2 : Int32)), (.ref a1)])) rfl (by rw [hml]; rfl) (argsL := [(.ref a1), (.int (2 : Int32)), (.ref mr)]) (rest := []) (lenOf pd___Ljava_lang_Object_ILjava_lang_Class___Ljava_lang_Object_ rfl) rfl (by show 2 * 0 + _ ≤ _; exact Nat.le_of_eq rfl) (hb hby d_cr2_6) (fun _ _ => ⟨rfl, e117, (by decide : 0 + 1 ≤ _), (by decide : 0 + 2 ≤ _)⟩)
  dsimp only [Pt.U, Pt.locs, Pt.cells, Pt.slots] at X118 l118 y118 z118 st118 hQ118
  subst l118 y118 z118
  obtain ⟨bb, rfl, N118q, E118, O118⟩ := hQ118
  have N118 := Fr.app N0 N118q
  replace pre : Pth p e below S0 T118 (mkF m 9 #[rv a1, iv (2 : Int32)] [(.ref bb)]) := fun t k => pre t (st118 _ k)
  obtain ⟨fs, hr, hrun, hended, hW, hsame⟩ := X118.leave (v := some (.ref bb)) (fun h => by rw [Bd.returns] at h; cases h)
  subst hS0
  refine ⟨_, _, pre _ ?_, hrun, hended, _, _, rfl, ?_, ⟨_, rfl⟩, hW, hsame.mono (by decide) (by decide)⟩
  · exact retOut X118 hx (t := (.array (.object "java/lang/Object"))) Bd.returns rfl (by simp [Value.isRef, FieldType.isReference]) (hb hby d_cr2_9) hr
  · show Q_cr2 Z a1 mr f h0 n0 _ T118.heap _
    exact ⟨bb, rfl, N118, E118, O118⟩
def Q_toa2 (Z : State) (a1 : Addr) (b1 mr : Addr) (md : Int32) (f : Nat → Value) (h0 : Heap) (n0 : Nat) (v : Option Value) (h : Heap) (L : List Loc) : Prop := ∃ b, v = some (.ref b) ∧ Fr n0 L ∧ Ext h0 h ∧ OArr Z h b 2 f
set_option maxRecDepth 65536 in
set_option maxHeartbeats 40000000 in
theorem rm_toa2 (l : Launch) (Z : State) (a0 : Array Value) (hw : ∀ d ∈ tables_1, d.before a0 Z = true) (ws : List Jvm.Cond) (a1 : Addr) (b1 mr : Addr) (md : Int32) (f : Nat → Value) (h0 : Heap) (n0 : Nat) (Z0 : n0 ≤ h0.size) (hA : OAL Z h0 a1 b1 2 md) (M : OMir Z "[Ljava/lang/Object;" mr) (Fa : OArr Z h0 b1 10 f) (hf : ∀ j, j < 10 → f j = .null ∨ ∃ y, f j = .ref y ∧ Ins Z h0 y "java/lang/Object" true) :
    MetFree l (⟨"java/util/ArrayList", "toArray", "()[Ljava/lang/Object;"⟩ : MethodName) (head1 (Jvm.Cond.code (⟨"java/util/ArrayList", "toArray", "()[Ljava/lang/Object;"⟩ : MethodName) jdk_38_method_16_code 1 (some (.array (.object "java/lang/Object"))) :: ws) ({ frames := 3, cells := 1, slots := 2, locals := 73 } : Room)) (fun a U => a = #[(.ref a1)] ∧ Z.Warmed39 U.vm ∧ U.heap = h0) (fun _ _ _ _ _ => True) (fun _ U o U' => ∃ v L, o = .returned v ∧ Q_toa2 Z a1 b1 mr md f h0 n0 v U'.heap L ∧ FrameEnd U o U' L ({ frames := 3, cells := 1, slots := 2, locals := 73 } : Room).cells ({ frames := 3, cells := 1, slots := 2, locals := 73 } : Room).slots) := by
  refine MetFree.of_bodySF (plainFor_of_name pn_java_util_ArrayList) hisR ?_
  intro p e s m args below meth c s₁ Bd hml0 hP hK
  obtain ⟨rfl, hZ, hh⟩ := hP
  have hx := Bd.exec
  have hby := Bd.bytes
  have hml : c.maxLocals = 1 := hml0
  have hown : s.vm.findClass "java/util/ArrayList" = some m.cls := findClass_of_methodNamed Bd.named
  have hnm := (name_of_methodNamed Bd.named Bd.method).1
  have X0 : Stand p l e ({ frames := 3, cells := 1, slots := 2, locals := 73 } : Room) s m #[(.ref a1)] below meth c s₁ [] 0 0 := Stand.of_body Bd
  have e0 : s₁.heap = h0 := by rw [← hh, Bd.state]; rfl
  have N0 := Fr.nil n0
  obtain ⟨S0, hS0⟩ : ∃ S0, S0 = s₁.setTop (entryFrame m #[(.ref a1)] 1) := ⟨_, rfl⟩
  have pre : Pth p e below S0 s₁ (mkF m 0 #[rv a1] []) := fun t k => by rw [hS0]; exact castTop (ef_toa2 m a1) k
  replace pre : Pth p e below S0 s₁ (mkF m 1 #[rv a1] [(.ref a1)]) := fun t k => pre t (by
    show SS p e below s₁ (mkF m 0 #[rv a1] []) t
    refine XS.aloadN X0.here hx rfl (hb hby d_toa2_0) rfl rfl ?_
    show SS p e below s₁ (mkF m 1 #[rv a1] [(.ref a1)]) t
    exact k)
  obtain ⟨T119, X119, e119, st119⟩ := getF X0 hx hZ hown (host := "") (Or.inl (own_t hw 52 rfl)) Via.refl e0 hA.2.1 (g := (mkF m 1 #[rv a1] [(.ref a1)])) rfl rfl (hb hby d_toa2_1)
  replace pre : Pth p e below S0 T119 (mkF m 4 #[rv a1] [(.ref b1)]) := fun t k => pre t (st119 _ k)
  replace pre : Pth p e below S0 T119 (mkF m 5 #[rv a1] [(.ref a1), (.ref b1)]) := fun t k => pre t (by
    show SS p e below T119 (mkF m 4 #[rv a1] [(.ref b1)]) t
    refine XS.aloadN X119.here hx rfl (hb hby d_toa2_4) rfl rfl ?_
    show SS p e below T119 (mkF m 5 #[rv a1] [(.ref a1), (.ref b1)]) t
    exact k)
  obtain ⟨T120, X120, e120, st120⟩ := getF X119 hx hZ hown (host := "") (Or.inl (own_t hw 75 rfl)) Via.refl e119 hA.2.2.1 (g := (mkF m 5 #[rv a1] [(.ref a1), (.ref b1)])) rfl rfl (hb hby d_toa2_5)
  replace pre : Pth p e below S0 T120 (mkF m 8 #[rv a1] [(.int (2 : Int32)), (.ref b1)]) := fun t k => pre t (st120 _ k)
  obtain ⟨_, _, ⟨T121, L121, k121, n121⟩, -, X121, ⟨Lc121, hQ121, l121, y121, z121⟩, st121⟩ := Jvm.LawKit.callS X120 hx (y := (⟨"java/util/Arrays", "copyOf", "([Ljava/lang/Object;I)[Ljava/lang/Object;"⟩ : MethodName)) hown (mvT hZ (own_t hw 173 rfl)) (mvT hZ (own_t hw 174 rfl)) (mvT hZ (own_t hw 175 rfl)) (mvT hZ (own_t hw 176 rfl)) (by decide) (backOf (W := 0) (rm_cr2 l Z a0 hw [] b1 mr f h0 n0 Z0 M Fa hf) hZ (own_t hw 176 rfl) (own_t hw 175 rfl) (by decide) (by decide)) (g := (mkF m 8 #[rv a1] [(.int (2 : Int32)), (.ref b1)])) rfl (by rw [hml]; rfl) (argsL := [(.ref b1), (.int (2 : Int32))]) (rest := []) (lenOf pd___Ljava_lang_Object_I__Ljava_lang_Object_ rfl) rfl (by show 2 * 0 + _ ≤ _; exact Nat.le_of_eq rfl) (hb hby d_toa2_8) (fun _ _ => ⟨rfl, e120, (by decide : 0 + 1 ≤ _), (by decide : 0 + 2 ≤ _)⟩)
  dsimp only [Pt.U, Pt.locs, Pt.cells, Pt.slots] at X121 l121 y121 z121 st121 hQ121
  subst l121 y121 z121
  obtain ⟨bb, rfl, N121q, E121, O121⟩ := hQ121
  have N121 := Fr.app N0 N121q
  replace pre : Pth p e below S0 T121 (mkF m 11 #[rv a1] [(.ref bb)]) := fun t k => pre t (st121 _ k)
  obtain ⟨fs, hr, hrun, hended, hW, hsame⟩ := X121.leave (v := some (.ref bb)) (fun h => by rw [Bd.returns] at h; cases h)
  subst hS0
  refine ⟨_, _, pre _ ?_, hrun, hended, _, _, rfl, ?_, ⟨_, rfl⟩, hW, hsame.mono (by decide) (by decide)⟩
  · exact retOut X121 hx (t := (.array (.object "java/lang/Object"))) Bd.returns rfl (by simp [Value.isRef, FieldType.isReference]) (hb hby d_toa2_11) hr
  · show Q_toa2 Z a1 b1 mr md f h0 n0 _ T121.heap _
    exact ⟨bb, rfl, N121, E121, O121⟩
def Q_cr3 (Z : State) (a1 : Addr) (mr : Addr) (f : Nat → Value) (h0 : Heap) (n0 : Nat) (v : Option Value) (h : Heap) (L : List Loc) : Prop := ∃ b, v = some (.ref b) ∧ Fr n0 L ∧ Ext h0 h ∧ OArr Z h b 3 f
set_option maxRecDepth 65536 in
set_option maxHeartbeats 40000000 in
theorem rm_cr3 (l : Launch) (Z : State) (a0 : Array Value) (hw : ∀ d ∈ tables_1, d.before a0 Z = true) (ws : List Jvm.Cond) (a1 : Addr) (mr : Addr) (f : Nat → Value) (h0 : Heap) (n0 : Nat) (Z0 : n0 ≤ h0.size) (M : OMir Z "[Ljava/lang/Object;" mr) (Fa : OArr Z h0 a1 10 f) (hf : ∀ j, j < 10 → f j = .null ∨ ∃ y, f j = .ref y ∧ Ins Z h0 y "java/lang/Object" true) :
    MetFree l (⟨"java/util/Arrays", "copyOf", "([Ljava/lang/Object;I)[Ljava/lang/Object;"⟩ : MethodName) (head1 (Jvm.Cond.code (⟨"java/util/Arrays", "copyOf", "([Ljava/lang/Object;I)[Ljava/lang/Object;"⟩ : MethodName) jdk_65_method_119_code 2 (some (.array (.object "java/lang/Object"))) :: ws) ({ frames := 2, cells := 1, slots := 3, locals := 60 } : Room)) (fun a U => a = #[(.ref a1), (.int (3 : Int32))] ∧ Z.Warmed39 U.vm ∧ U.heap = h0) (fun _ _ _ _ _ => True) (fun _ U o U' => ∃ v L, o = .returned v ∧ Q_cr3 Z a1 mr f h0 n0 v U'.heap L ∧ FrameEnd U o U' L ({ frames := 2, cells := 1, slots := 3, locals := 60 } : Room).cells ({ frames := 2, cells := 1, slots := 3, locals := 60 } : Room).slots) := by
  refine MetFree.of_bodySF (plainFor_of_name pn_java_util_Arrays) hisR ?_
  intro p e s m args below meth c s₁ Bd hml0 hP hK
  obtain ⟨rfl, hZ, hh⟩ := hP
  have hx := Bd.exec
  have hby := Bd.bytes
  have hml : c.maxLocals = 2 := hml0
  have hown : s.vm.findClass "java/util/Arrays" = some m.cls := findClass_of_methodNamed Bd.named
  have hnm := (name_of_methodNamed Bd.named Bd.method).1
  have X0 : Stand p l e ({ frames := 2, cells := 1, slots := 3, locals := 60 } : Room) s m #[(.ref a1), (.int (3 : Int32))] below meth c s₁ [] 0 0 := Stand.of_body Bd
  have e0 : s₁.heap = h0 := by rw [← hh, Bd.state]; rfl
  have N0 := Fr.nil n0
  obtain ⟨S0, hS0⟩ : ∃ S0, S0 = s₁.setTop (entryFrame m #[(.ref a1), (.int (3 : Int32))] 2) := ⟨_, rfl⟩
  have pre : Pth p e below S0 s₁ (mkF m 0 #[rv a1, iv (3 : Int32)] []) := fun t k => by rw [hS0]; exact castTop (ef_cr3 m a1 (3 : Int32)) k
  replace pre : Pth p e below S0 s₁ (mkF m 3 #[rv a1, iv (3 : Int32)] [(.ref a1), (.int (3 : Int32)), (.ref a1)]) := fun t k => pre t (by
    show SS p e below s₁ (mkF m 0 #[rv a1, iv (3 : Int32)] []) t
    refine XS.aloadN X0.here hx rfl (hb hby d_cr3_0) rfl rfl ?_
    show SS p e below s₁ (mkF m 1 #[rv a1, iv (3 : Int32)] [(.ref a1)]) t
    refine XS.iloadN X0.here hx rfl (hb hby d_cr3_1) rfl ?_
    show SS p e below s₁ (mkF m 2 #[rv a1, iv (3 : Int32)] [(.int (3 : Int32)), (.ref a1)]) t
    refine XS.aloadN X0.here hx rfl (hb hby d_cr3_2) rfl rfl ?_
    show SS p e below s₁ (mkF m 3 #[rv a1, iv (3 : Int32)] [(.ref a1), (.int (3 : Int32)), (.ref a1)]) t
    exact k)
  obtain ⟨cB, kB, i1, i2, i3⟩ := isOf hZ e0 Fa.1
  obtain ⟨cM, kM, m1, m2, m3⟩ := id M
  rw [hZ.alike.findClass] at i1
  cases i1.symm.trans m1
  obtain ⟨k', qk, ek⟩ := hZ.alike.2.2 _ _ m2
  obtain ⟨vm122, X122, st122⟩ := X0.getClassOf hx hown (mvT hZ (own_t hw 177 rfl)) (mvT hZ (own_t hw 178 rfl)) (nf_top (args := #[]) (mvT hZ (own_t hw 153 rfl))) (mvT hZ (own_t hw 180 rfl)) (mvT hZ (own_t hw 179 rfl)) (mvT hZ (own_t hw 181 rfl)) (by rw [hZ.alike.findClass]; exact m1) i3 qk (by rw [ek]; exact m3) (g := (mkF m 3 #[rv a1, iv (3 : Int32)] [(.ref a1), (.int (3 : Int32)), (.ref a1)])) rfl (by rw [hml]; rfl) rfl (hb hby d_cr3_3) (by decide) (Nat.le_trans (m := 2 + (nativeFrameWords "java/lang/Object" "getClass" 1 + 11)) (by show 2 * 0 + _ + _ ≤ _; exact Nat.le_of_eq rfl) (by decide))
  obtain ⟨T122, hT122⟩ : ∃ T, T = s₁.setVm vm122 := ⟨_, rfl⟩
  rw [← hT122] at X122 st122
  have e122 : T122.heap = h0 := by rw [hT122]; exact e0
  replace pre : Pth p e below S0 T122 (mkF m 6 #[rv a1, iv (3 : Int32)] [(.ref mr), (.int (3 : Int32)), (.ref a1)]) := fun t k => pre t (st122 _ k)
  obtain ⟨_, _, ⟨T123, L123, k123, n123⟩, -, X123, ⟨Lc123, hQ123, l123, y123, z123⟩, st123⟩ := Jvm.LawKit.callS X122 hx (y := (⟨"java/util/Arrays", "copyOf", "([Ljava/lang/Object;ILjava/lang/Class;)[Ljava/lang/Object;"⟩ : MethodName)) hown (mvT hZ (own_t hw 183 rfl)) (mvT hZ (own_t hw 184 rfl)) (mvT hZ (own_t hw 175 rfl)) (mvT hZ (own_t hw 185 rfl)) (by decide) (backOf (W := 0) (rm_cq3 l Z a0 hw [] a1 mr f h0 n0 Z0 M Fa hf) hZ (own_t hw 185 rfl) (own_t hw 175 rfl) (by decide) (by decide)) (g := (mkF m 6 #[rv a1, iv (3 : Int32)] [(.ref mr), (.int (3 : Int32)), (.ref a1)])) rfl (by rw [hml]; rfl) (argsL := [(.ref a1), (.int (3 : Int32)), (.ref mr)]) (rest := []) (lenOf pd___Ljava_lang_Object_ILjava_lang_Class___Ljava_lang_Object_ rfl) rfl (by show 2 * 0 + _ ≤ _; exact Nat.le_of_eq rfl) (hb hby d_cr3_6) (fun _ _ => ⟨rfl, e122, (by decide : 0 + 1 ≤ _), (by decide : 0 + 3 ≤ _)⟩)
  dsimp only [Pt.U, Pt.locs, Pt.cells, Pt.slots] at X123 l123 y123 z123 st123 hQ123
  subst l123 y123 z123
  obtain ⟨bb, rfl, N123q, E123, O123⟩ := hQ123
  have N123 := Fr.app N0 N123q
  replace pre : Pth p e below S0 T123 (mkF m 9 #[rv a1, iv (3 : Int32)] [(.ref bb)]) := fun t k => pre t (st123 _ k)
  obtain ⟨fs, hr, hrun, hended, hW, hsame⟩ := X123.leave (v := some (.ref bb)) (fun h => by rw [Bd.returns] at h; cases h)
  subst hS0
  refine ⟨_, _, pre _ ?_, hrun, hended, _, _, rfl, ?_, ⟨_, rfl⟩, hW, hsame.mono (by decide) (by decide)⟩
  · exact retOut X123 hx (t := (.array (.object "java/lang/Object"))) Bd.returns rfl (by simp [Value.isRef, FieldType.isReference]) (hb hby d_cr3_9) hr
  · show Q_cr3 Z a1 mr f h0 n0 _ T123.heap _
    exact ⟨bb, rfl, N123, E123, O123⟩
def Q_toa3 (Z : State) (a1 : Addr) (b1 mr : Addr) (md : Int32) (f : Nat → Value) (h0 : Heap) (n0 : Nat) (v : Option Value) (h : Heap) (L : List Loc) : Prop := ∃ b, v = some (.ref b) ∧ Fr n0 L ∧ Ext h0 h ∧ OArr Z h b 3 f
set_option maxRecDepth 65536 in
set_option maxHeartbeats 40000000 in
theorem rm_toa3 (l : Launch) (Z : State) (a0 : Array Value) (hw : ∀ d ∈ tables_1, d.before a0 Z = true) (ws : List Jvm.Cond) (a1 : Addr) (b1 mr : Addr) (md : Int32) (f : Nat → Value) (h0 : Heap) (n0 : Nat) (Z0 : n0 ≤ h0.size) (hA : OAL Z h0 a1 b1 3 md) (M : OMir Z "[Ljava/lang/Object;" mr) (Fa : OArr Z h0 b1 10 f) (hf : ∀ j, j < 10 → f j = .null ∨ ∃ y, f j = .ref y ∧ Ins Z h0 y "java/lang/Object" true) :
    MetFree l (⟨"java/util/ArrayList", "toArray", "()[Ljava/lang/Object;"⟩ : MethodName) (head1 (Jvm.Cond.code (⟨"java/util/ArrayList", "toArray", "()[Ljava/lang/Object;"⟩ : MethodName) jdk_38_method_16_code 1 (some (.array (.object "java/lang/Object"))) :: ws) ({ frames := 3, cells := 1, slots := 3, locals := 73 } : Room)) (fun a U => a = #[(.ref a1)] ∧ Z.Warmed39 U.vm ∧ U.heap = h0) (fun _ _ _ _ _ => True) (fun _ U o U' => ∃ v L, o = .returned v ∧ Q_toa3 Z a1 b1 mr md f h0 n0 v U'.heap L ∧ FrameEnd U o U' L ({ frames := 3, cells := 1, slots := 3, locals := 73 } : Room).cells ({ frames := 3, cells := 1, slots := 3, locals := 73 } : Room).slots) := by
  refine MetFree.of_bodySF (plainFor_of_name pn_java_util_ArrayList) hisR ?_
  intro p e s m args below meth c s₁ Bd hml0 hP hK
  obtain ⟨rfl, hZ, hh⟩ := hP
  have hx := Bd.exec
  have hby := Bd.bytes
  have hml : c.maxLocals = 1 := hml0
  have hown : s.vm.findClass "java/util/ArrayList" = some m.cls := findClass_of_methodNamed Bd.named
  have hnm := (name_of_methodNamed Bd.named Bd.method).1
  have X0 : Stand p l e ({ frames := 3, cells := 1, slots := 3, locals := 73 } : Room) s m #[(.ref a1)] below meth c s₁ [] 0 0 := Stand.of_body Bd
  have e0 : s₁.heap = h0 := by rw [← hh, Bd.state]; rfl
  have N0 := Fr.nil n0
  obtain ⟨S0, hS0⟩ : ∃ S0, S0 = s₁.setTop (entryFrame m #[(.ref a1)] 1) := ⟨_, rfl⟩
  have pre : Pth p e below S0 s₁ (mkF m 0 #[rv a1] []) := fun t k => by rw [hS0]; exact castTop (ef_toa3 m a1) k
  replace pre : Pth p e below S0 s₁ (mkF m 1 #[rv a1] [(.ref a1)]) := fun t k => pre t (by
    show SS p e below s₁ (mkF m 0 #[rv a1] []) t
    refine XS.aloadN X0.here hx rfl (hb hby d_toa3_0) rfl rfl ?_
    show SS p e below s₁ (mkF m 1 #[rv a1] [(.ref a1)]) t
    exact k)
  obtain ⟨T124, X124, e124, st124⟩ := getF X0 hx hZ hown (host := "") (Or.inl (own_t hw 52 rfl)) Via.refl e0 hA.2.1 (g := (mkF m 1 #[rv a1] [(.ref a1)])) rfl rfl (hb hby d_toa3_1)
  replace pre : Pth p e below S0 T124 (mkF m 4 #[rv a1] [(.ref b1)]) := fun t k => pre t (st124 _ k)
  replace pre : Pth p e below S0 T124 (mkF m 5 #[rv a1] [(.ref a1), (.ref b1)]) := fun t k => pre t (by
    show SS p e below T124 (mkF m 4 #[rv a1] [(.ref b1)]) t
    refine XS.aloadN X124.here hx rfl (hb hby d_toa3_4) rfl rfl ?_
    show SS p e below T124 (mkF m 5 #[rv a1] [(.ref a1), (.ref b1)]) t
    exact k)
  obtain ⟨T125, X125, e125, st125⟩ := getF X124 hx hZ hown (host := "") (Or.inl (own_t hw 75 rfl)) Via.refl e124 hA.2.2.1 (g := (mkF m 5 #[rv a1] [(.ref a1), (.ref b1)])) rfl rfl (hb hby d_toa3_5)
  replace pre : Pth p e below S0 T125 (mkF m 8 #[rv a1] [(.int (3 : Int32)), (.ref b1)]) := fun t k => pre t (st125 _ k)
  obtain ⟨_, _, ⟨T126, L126, k126, n126⟩, -, X126, ⟨Lc126, hQ126, l126, y126, z126⟩, st126⟩ := Jvm.LawKit.callS X125 hx (y := (⟨"java/util/Arrays", "copyOf", "([Ljava/lang/Object;I)[Ljava/lang/Object;"⟩ : MethodName)) hown (mvT hZ (own_t hw 173 rfl)) (mvT hZ (own_t hw 174 rfl)) (mvT hZ (own_t hw 175 rfl)) (mvT hZ (own_t hw 176 rfl)) (by decide) (backOf (W := 0) (rm_cr3 l Z a0 hw [] b1 mr f h0 n0 Z0 M Fa hf) hZ (own_t hw 176 rfl) (own_t hw 175 rfl) (by decide) (by decide)) (g := (mkF m 8 #[rv a1] [(.int (3 : Int32)), (.ref b1)])) rfl (by rw [hml]; rfl) (argsL := [(.ref b1), (.int (3 : Int32))]) (rest := []) (lenOf pd___Ljava_lang_Object_I__Ljava_lang_Object_ rfl) rfl (by show 2 * 0 + _ ≤ _; exact Nat.le_of_eq rfl) (hb hby d_toa3_8) (fun _ _ => ⟨rfl, e125, (by decide : 0 + 1 ≤ _), (by decide : 0 + 3 ≤ _)⟩)
  dsimp only [Pt.U, Pt.locs, Pt.cells, Pt.slots] at X126 l126 y126 z126 st126 hQ126
  subst l126 y126 z126
  obtain ⟨bb, rfl, N126q, E126, O126⟩ := hQ126
  have N126 := Fr.app N0 N126q
  replace pre : Pth p e below S0 T126 (mkF m 11 #[rv a1] [(.ref bb)]) := fun t k => pre t (st126 _ k)
  obtain ⟨fs, hr, hrun, hended, hW, hsame⟩ := X126.leave (v := some (.ref bb)) (fun h => by rw [Bd.returns] at h; cases h)
  subst hS0
  refine ⟨_, _, pre _ ?_, hrun, hended, _, _, rfl, ?_, ⟨_, rfl⟩, hW, hsame.mono (by decide) (by decide)⟩
  · exact retOut X126 hx (t := (.array (.object "java/lang/Object"))) Bd.returns rfl (by simp [Value.isRef, FieldType.isReference]) (hb hby d_toa3_11) hr
  · show Q_toa3 Z a1 b1 mr md f h0 n0 _ T126.heap _
    exact ⟨bb, rfl, N126, E126, O126⟩
def Q_lfa (Z : State) (a1 : Addr) (y1 y2 y3 : Addr) (f : Nat → Value) (h0 : Heap) (n0 : Nat) (v : Option Value) (h : Heap) (L : List Loc) : Prop := ∃ r, v = some (.ref r) ∧ Fr n0 L ∧ Ext h0 h ∧ OL3 Z h r
set_option maxRecDepth 65536 in
set_option maxHeartbeats 40000000 in
theorem rm_lfa (l : Launch) (Z : State) (a0 : Array Value) (hw : ∀ d ∈ tables_1, d.before a0 Z = true) (ws : List Jvm.Cond) (a1 : Addr) (y1 y2 y3 : Addr) (f : Nat → Value) (h0 : Heap) (n0 : Nat) (Z0 : n0 ≤ h0.size) (Fa : OArr Z h0 a1 3 f) (fq0 : f 0 = .ref y1) (fq1 : f 1 = .ref y2) (fq2 : f 2 = .ref y3) (I1 : Ins Z h0 y1 "java/lang/Object" true) (I2 : Ins Z h0 y2 "java/lang/Object" true) (I3 : Ins Z h0 y3 "java/lang/Object" true) :
    MetFree l (⟨"java/util/ImmutableCollections", "listFromArray", "([Ljava/lang/Object;)Ljava/util/List;"⟩ : MethodName) (head1 (Jvm.Cond.code (⟨"java/util/ImmutableCollections", "listFromArray", "([Ljava/lang/Object;)Ljava/util/List;"⟩ : MethodName) jdk_56_method_4_code 3 (some (.object "java/util/List")) :: ws) ({ frames := 5, cells := 2, slots := 5, locals := 63 } : Room)) (fun a U => a = #[(.ref a1)] ∧ Z.Warmed39 U.vm ∧ U.heap = h0) (fun _ _ _ _ _ => True) (fun _ U o U' => ∃ v L, o = .returned v ∧ Q_lfa Z a1 y1 y2 y3 f h0 n0 v U'.heap L ∧ FrameEnd U o U' L ({ frames := 5, cells := 2, slots := 5, locals := 63 } : Room).cells ({ frames := 5, cells := 2, slots := 5, locals := 63 } : Room).slots) := by
  refine MetFree.of_bodySF (plainFor_of_name pn_java_util_ImmutableCollections) hisR ?_
  intro p e s m args below meth c s₁ Bd hml0 hP hK
  obtain ⟨rfl, hZ, hh⟩ := hP
  have hx := Bd.exec
  have hby := Bd.bytes
  have hml : c.maxLocals = 3 := hml0
  have hown : s.vm.findClass "java/util/ImmutableCollections" = some m.cls := findClass_of_methodNamed Bd.named
  have hnm := (name_of_methodNamed Bd.named Bd.method).1
  have X0 : Stand p l e ({ frames := 5, cells := 2, slots := 5, locals := 63 } : Room) s m #[(.ref a1)] below meth c s₁ [] 0 0 := Stand.of_body Bd
  have e0 : s₁.heap = h0 := by rw [← hh, Bd.state]; rfl
  have N0 := Fr.nil n0
  obtain ⟨S0, hS0⟩ : ∃ S0, S0 = s₁.setTop (entryFrame m #[(.ref a1)] 3) := ⟨_, rfl⟩
  have pre : Pth p e below S0 s₁ (mkF m 0 #[rv a1, .unset, .unset] []) := fun t k => by rw [hS0]; exact castTop (ef_lfa m a1) k
  replace pre : Pth p e below S0 s₁ (mkF m 1 #[rv a1, .unset, .unset] [(.ref a1)]) := fun t k => pre t (by
    show SS p e below s₁ (mkF m 0 #[rv a1, .unset, .unset] []) t
    refine XS.aloadN X0.here hx rfl (hb hby d_lfa_0) rfl rfl ?_
    show SS p e below s₁ (mkF m 1 #[rv a1, .unset, .unset] [(.ref a1)]) t
    exact k)
  obtain ⟨cl127, Ar127, Sz127, -⟩ := id Fa.fun
  have hln127 : cl127.slots.size.toInt32 = (3 : Int32) := (congrArg Nat.toInt32 Sz127).trans (rfl)
  replace pre : Pth p e below S0 s₁ (mkF m 2 #[rv a1, .unset, .unset] [(.int (3 : Int32))]) := fun t k => pre t (by
    show SS p e below s₁ (mkF m 1 #[rv a1, .unset, .unset] [(.ref a1)]) t
    refine X0.arraylength hx (by rw [e0]; exact Ar127.1) (State.isArrayOf_alike hZ.alike Ar127.2.1) (g := (mkF m 1 #[rv a1, .unset, .unset] [(.ref a1)])) rfl rfl (hb hby d_lfa_1) _ ?_
    rw [hln127]
    show SS p e below s₁ (mkF m 2 #[rv a1, .unset, .unset] [(.int (3 : Int32))]) t
    exact k)
  obtain ⟨T128, h128, k128, X128, e128, E128, A128, Ex128, O128, st128⟩ := newRE X0 hx hZ hown (own_t hw 201 rfl) (own_t hw 97 rfl) e0 (g := (mkF m 2 #[rv a1, .unset, .unset] [(.int (3 : Int32))])) rfl (hb hby d_lfa_2) rfl (by decide) (cap := 3) (by decide) (by decide) (by decide) (by decide) (ad := "[Ljava/lang/Object;") (by decide)
  obtain ⟨b128, g128⟩ : ∃ z, z = h0.size := ⟨_, rfl⟩
  rw [← g128] at A128 Ex128 st128
  have F128 := OArr.new A128 Ex128 O128
  replace pre : Pth p e below S0 T128 (mkF m 5 #[rv a1, .unset, .unset] [(.ref b128)]) := fun t k => pre t (st128 _ k)
  have Fn : OArr Z h128 b128 3 (fun _ => .null) := F128
  have ne : a1 ≠ b128 := by rw [g128]; exact Nat.ne_of_lt Fa.fun.lt
  have gb : n0 ≤ b128 := by rw [g128]; exact Z0
  have gs : h0.size ≤ b128 := by rw [g128]; exact Nat.le_refl _
  replace pre : Pth p e below S0 T128 (mkF m 10 #[rv a1, rv b128, iv (0 : Int32)] [(.ref a1), (.int (0 : Int32))]) := fun t k => pre t (by
    show SS p e below T128 (mkF m 5 #[rv a1, .unset, .unset] [(.ref b128)]) t
    refine XS.astoreN X128.here hx rfl (hb hby d_lfa_5) rfl rfl (l' := #[rv a1, rv b128, .unset]) rfl ?_
    show SS p e below T128 (mkF m 6 #[rv a1, rv b128, .unset] []) t
    refine XS.iconst X128.here hx rfl (hb hby d_lfa_6) ?_
    show SS p e below T128 (mkF m 7 #[rv a1, rv b128, .unset] [(.int (0 : Int32))]) t
    refine XS.istoreN X128.here hx rfl (hb hby d_lfa_7) rfl (l' := #[rv a1, rv b128, iv (0 : Int32)]) rfl ?_
    show SS p e below T128 (mkF m 8 #[rv a1, rv b128, iv (0 : Int32)] []) t
    refine XS.iloadN X128.here hx rfl (hb hby d_lfa_8) rfl ?_
    show SS p e below T128 (mkF m 9 #[rv a1, rv b128, iv (0 : Int32)] [(.int (0 : Int32))]) t
    refine XS.aloadN X128.here hx rfl (hb hby d_lfa_9) rfl rfl ?_
    show SS p e below T128 (mkF m 10 #[rv a1, rv b128, iv (0 : Int32)] [(.ref a1), (.int (0 : Int32))]) t
    exact k)
  obtain ⟨cl129, Ar129, Sz129, -⟩ := id (Fa.ext E128).fun
  have hln129 : cl129.slots.size.toInt32 = (3 : Int32) := (congrArg Nat.toInt32 Sz129).trans (rfl)
  replace pre : Pth p e below S0 T128 (mkF m 18 #[rv a1, rv b128, iv (0 : Int32)] [(.int (0 : Int32)), (.ref a1), (.int (0 : Int32)), (.ref b128)]) := fun t k => pre t (by
    show SS p e below T128 (mkF m 10 #[rv a1, rv b128, iv (0 : Int32)] [(.ref a1), (.int (0 : Int32))]) t
    refine X128.arraylength hx (by rw [e128]; exact Ar129.1) (State.isArrayOf_alike hZ.alike Ar129.2.1) (g := (mkF m 10 #[rv a1, rv b128, iv (0 : Int32)] [(.ref a1), (.int (0 : Int32))])) rfl rfl (hb hby d_lfa_10) _ ?_
    rw [hln129]
    show SS p e below T128 (mkF m 11 #[rv a1, rv b128, iv (0 : Int32)] [(.int (3 : Int32)), (.int (0 : Int32))]) t
    refine XS.icmpNo X128.here hx rfl (hb hby d_lfa_11) rfl (XT.ii_ge_f (by decide)) ?_
    show SS p e below T128 (mkF m 14 #[rv a1, rv b128, iv (0 : Int32)] []) t
    refine XS.aloadN X128.here hx rfl (hb hby d_lfa_14) rfl rfl ?_
    show SS p e below T128 (mkF m 15 #[rv a1, rv b128, iv (0 : Int32)] [(.ref b128)]) t
    refine XS.iloadN X128.here hx rfl (hb hby d_lfa_15) rfl ?_
    show SS p e below T128 (mkF m 16 #[rv a1, rv b128, iv (0 : Int32)] [(.int (0 : Int32)), (.ref b128)]) t
    refine XS.aloadN X128.here hx rfl (hb hby d_lfa_16) rfl rfl ?_
    show SS p e below T128 (mkF m 17 #[rv a1, rv b128, iv (0 : Int32)] [(.ref a1), (.int (0 : Int32)), (.ref b128)]) t
    refine XS.iloadN X128.here hx rfl (hb hby d_lfa_17) rfl ?_
    show SS p e below T128 (mkF m 18 #[rv a1, rv b128, iv (0 : Int32)] [(.int (0 : Int32)), (.ref a1), (.int (0 : Int32)), (.ref b128)]) t
    exact k)
  obtain ⟨cl130, Ar130, Sz130, Gt130⟩ := id (Fa.ext E128).fun
  have hin130 : ¬ ((0 : Int32) < 0 ∨ cl130.slots.size ≤ ((0 : Int32)).toNatClampNeg) := by rw [Sz130]; exact (by decide)
  have hat130 : cl130.slots[((0 : Int32)).toNatClampNeg]? = some (.ref y1) := (Gt130 _ (Nat.lt_of_lt_of_eq (Nat.lt_of_not_le fun q => hin130 (Or.inr q)) Sz130)).trans (congrArg some (fq0))
  replace pre : Pth p e below S0 T128 (mkF m 19 #[rv a1, rv b128, iv (0 : Int32)] [(.ref y1), (.int (0 : Int32)), (.ref b128)]) := fun t k => pre t (by
    show SS p e below T128 (mkF m 18 #[rv a1, rv b128, iv (0 : Int32)] [(.int (0 : Int32)), (.ref a1), (.int (0 : Int32)), (.ref b128)]) t
    refine X128.aaload hx (j := (0 : Int32)) (v := (.ref y1)) (by rw [e128]; exact Ar130.1) (State.isArrayOf_alike hZ.alike Ar130.2.1) rfl Ar130.2.2 hin130 hat130 (g := (mkF m 18 #[rv a1, rv b128, iv (0 : Int32)] [(.int (0 : Int32)), (.ref a1), (.int (0 : Int32)), (.ref b128)])) rfl rfl (hb hby d_lfa_18) _ ?_
    show SS p e below T128 (mkF m 19 #[rv a1, rv b128, iv (0 : Int32)] [(.ref y1), (.int (0 : Int32)), (.ref b128)]) t
    exact k)
  obtain ⟨_, _, ⟨T131, L131, k131, n131⟩, -, X131, ⟨Lc131, hQ131, l131, y131, z131⟩, st131⟩ := Jvm.LawKit.callS X128 hx (y := (⟨"java/util/Objects", "requireNonNull", "(Ljava/lang/Object;)Ljava/lang/Object;"⟩ : MethodName)) hown (mvT hZ (own_t hw 202 rfl)) (mvT hZ (own_t hw 203 rfl)) (mvT hZ (own_t hw 204 rfl)) (mvT hZ (own_t hw 205 rfl)) (by decide) (backOf (W := 2) (rm_rnn l Z a0 hw [] y1 h128 n0) hZ (own_t hw 205 rfl) (own_t hw 204 rfl) (by decide) (by decide)) (g := (mkF m 19 #[rv a1, rv b128, iv (0 : Int32)] [(.ref y1), (.int (0 : Int32)), (.ref b128)])) rfl (by rw [hml]; rfl) (argsL := [(.ref y1)]) (rest := [(.int (0 : Int32)), (.ref b128)]) (lenOf pd__Ljava_lang_Object__Ljava_lang_Object_ rfl) rfl (by show 2 * 0 + _ ≤ _; exact Nat.le_of_eq rfl) (hb hby d_lfa_19) (fun _ _ => ⟨rfl, e128, (by decide : 1 + 0 ≤ _), (by decide : 3 + 0 ≤ _)⟩)
  dsimp only [Pt.U, Pt.locs, Pt.cells, Pt.slots] at X131 l131 y131 z131 st131 hQ131
  subst l131 y131 z131
  obtain ⟨rfl, N131q, e131⟩ := hQ131
  have N131 := Fr.app N0 N131q
  replace pre : Pth p e below S0 T131 (mkF m 22 #[rv a1, rv b128, iv (0 : Int32)] [(.ref y1), (.int (0 : Int32)), (.ref b128)]) := fun t k => pre t (st131 _ k)
  obtain ⟨-, cl132, Ar132, Sz132, -, Ov132⟩ := id Fn
  obtain ⟨T132, h132, X132, e132, W132, st132⟩ := stR X131 hx hZ e131 Ar132 (j := (0 : Int32)) (by rw [Sz132]; exact (by decide)) rfl (Sto.of Ar132 Ov132 (I1.ext E128)) (g := (mkF m 22 #[rv a1, rv b128, iv (0 : Int32)] [(.ref y1), (.int (0 : Int32)), (.ref b128)])) rfl rfl (hb hby d_lfa_22)
  have F132 := OArr.set Fn W132
  have N132 := Fr.snoc X132 N131 gb
  replace pre : Pth p e below S0 T132 (mkF m 23 #[rv a1, rv b128, iv (0 : Int32)] []) := fun t k => pre t (st132 _ k)
  have FA0 := OArr.other (Fa.ext E128) W132 ne
  have EX0 := own_ext_wr E128 W132 gs
  have I1_0 := Ins.wr W132 (I1.ext E128)
  have I2_0 := Ins.wr W132 (I2.ext E128)
  have I3_0 := Ins.wr W132 (I3.ext E128)
  replace pre : Pth p e below S0 T132 (mkF m 10 #[rv a1, rv b128, iv ((0 : Int32) + (1 : Int32))] [(.ref a1), (.int ((0 : Int32) + (1 : Int32)))]) := fun t k => pre t (by
    show SS p e below T132 (mkF m 23 #[rv a1, rv b128, iv (0 : Int32)] []) t
    refine XS.iinc X132.here hx rfl (hb hby d_lfa_23) rfl (l' := #[rv a1, rv b128, iv ((0 : Int32) + (1 : Int32))]) rfl ?_
    show SS p e below T132 (mkF m 26 #[rv a1, rv b128, iv ((0 : Int32) + (1 : Int32))] []) t
    refine XS.goto X132.here hx rfl (pc0 := 26) (pc' := 8) rfl (hb hby d_lfa_26) (by decide) (by decide) ?_
    show SS p e below T132 (mkF m 8 #[rv a1, rv b128, iv ((0 : Int32) + (1 : Int32))] []) t
    refine XS.iloadN X132.here hx rfl (hb hby d_lfa_8) rfl ?_
    show SS p e below T132 (mkF m 9 #[rv a1, rv b128, iv ((0 : Int32) + (1 : Int32))] [(.int ((0 : Int32) + (1 : Int32)))]) t
    refine XS.aloadN X132.here hx rfl (hb hby d_lfa_9) rfl rfl ?_
    show SS p e below T132 (mkF m 10 #[rv a1, rv b128, iv ((0 : Int32) + (1 : Int32))] [(.ref a1), (.int ((0 : Int32) + (1 : Int32)))]) t
    exact k)
  obtain ⟨cl133, Ar133, Sz133, -⟩ := id FA0.fun
  have hln133 : cl133.slots.size.toInt32 = (3 : Int32) := (congrArg Nat.toInt32 Sz133).trans (rfl)
  replace pre : Pth p e below S0 T132 (mkF m 18 #[rv a1, rv b128, iv ((0 : Int32) + (1 : Int32))] [(.int ((0 : Int32) + (1 : Int32))), (.ref a1), (.int ((0 : Int32) + (1 : Int32))), (.ref b128)]) := fun t k => pre t (by
    show SS p e below T132 (mkF m 10 #[rv a1, rv b128, iv ((0 : Int32) + (1 : Int32))] [(.ref a1), (.int ((0 : Int32) + (1 : Int32)))]) t
    refine X132.arraylength hx (by rw [e132]; exact Ar133.1) (State.isArrayOf_alike hZ.alike Ar133.2.1) (g := (mkF m 10 #[rv a1, rv b128, iv ((0 : Int32) + (1 : Int32))] [(.ref a1), (.int ((0 : Int32) + (1 : Int32)))])) rfl rfl (hb hby d_lfa_10) _ ?_
    rw [hln133]
    show SS p e below T132 (mkF m 11 #[rv a1, rv b128, iv ((0 : Int32) + (1 : Int32))] [(.int (3 : Int32)), (.int ((0 : Int32) + (1 : Int32)))]) t
    refine XS.icmpNo X132.here hx rfl (hb hby d_lfa_11) rfl (XT.ii_ge_f (by decide)) ?_
    show SS p e below T132 (mkF m 14 #[rv a1, rv b128, iv ((0 : Int32) + (1 : Int32))] []) t
    refine XS.aloadN X132.here hx rfl (hb hby d_lfa_14) rfl rfl ?_
    show SS p e below T132 (mkF m 15 #[rv a1, rv b128, iv ((0 : Int32) + (1 : Int32))] [(.ref b128)]) t
    refine XS.iloadN X132.here hx rfl (hb hby d_lfa_15) rfl ?_
    show SS p e below T132 (mkF m 16 #[rv a1, rv b128, iv ((0 : Int32) + (1 : Int32))] [(.int ((0 : Int32) + (1 : Int32))), (.ref b128)]) t
    refine XS.aloadN X132.here hx rfl (hb hby d_lfa_16) rfl rfl ?_
    show SS p e below T132 (mkF m 17 #[rv a1, rv b128, iv ((0 : Int32) + (1 : Int32))] [(.ref a1), (.int ((0 : Int32) + (1 : Int32))), (.ref b128)]) t
    refine XS.iloadN X132.here hx rfl (hb hby d_lfa_17) rfl ?_
    show SS p e below T132 (mkF m 18 #[rv a1, rv b128, iv ((0 : Int32) + (1 : Int32))] [(.int ((0 : Int32) + (1 : Int32))), (.ref a1), (.int ((0 : Int32) + (1 : Int32))), (.ref b128)]) t
    exact k)
  obtain ⟨cl134, Ar134, Sz134, Gt134⟩ := id FA0.fun
  have hin134 : ¬ (((0 : Int32) + (1 : Int32)) < 0 ∨ cl134.slots.size ≤ (((0 : Int32) + (1 : Int32))).toNatClampNeg) := by rw [Sz134]; exact (by decide)
  have hat134 : cl134.slots[(((0 : Int32) + (1 : Int32))).toNatClampNeg]? = some (.ref y2) := (Gt134 _ (Nat.lt_of_lt_of_eq (Nat.lt_of_not_le fun q => hin134 (Or.inr q)) Sz134)).trans (congrArg some (fq1))
  replace pre : Pth p e below S0 T132 (mkF m 19 #[rv a1, rv b128, iv ((0 : Int32) + (1 : Int32))] [(.ref y2), (.int ((0 : Int32) + (1 : Int32))), (.ref b128)]) := fun t k => pre t (by
    show SS p e below T132 (mkF m 18 #[rv a1, rv b128, iv ((0 : Int32) + (1 : Int32))] [(.int ((0 : Int32) + (1 : Int32))), (.ref a1), (.int ((0 : Int32) + (1 : Int32))), (.ref b128)]) t
    refine X132.aaload hx (j := ((0 : Int32) + (1 : Int32))) (v := (.ref y2)) (by rw [e132]; exact Ar134.1) (State.isArrayOf_alike hZ.alike Ar134.2.1) rfl Ar134.2.2 hin134 hat134 (g := (mkF m 18 #[rv a1, rv b128, iv ((0 : Int32) + (1 : Int32))] [(.int ((0 : Int32) + (1 : Int32))), (.ref a1), (.int ((0 : Int32) + (1 : Int32))), (.ref b128)])) rfl rfl (hb hby d_lfa_18) _ ?_
    show SS p e below T132 (mkF m 19 #[rv a1, rv b128, iv ((0 : Int32) + (1 : Int32))] [(.ref y2), (.int ((0 : Int32) + (1 : Int32))), (.ref b128)]) t
    exact k)
  obtain ⟨_, _, ⟨T135, L135, k135, n135⟩, -, X135, ⟨Lc135, hQ135, l135, y135, z135⟩, st135⟩ := Jvm.LawKit.callS X132 hx (y := (⟨"java/util/Objects", "requireNonNull", "(Ljava/lang/Object;)Ljava/lang/Object;"⟩ : MethodName)) hown (mvT hZ (own_t hw 202 rfl)) (mvT hZ (own_t hw 203 rfl)) (mvT hZ (own_t hw 204 rfl)) (mvT hZ (own_t hw 205 rfl)) (by decide) (backOf (W := 2) (rm_rnn l Z a0 hw [] y2 h132 n0) hZ (own_t hw 205 rfl) (own_t hw 204 rfl) (by decide) (by decide)) (g := (mkF m 19 #[rv a1, rv b128, iv ((0 : Int32) + (1 : Int32))] [(.ref y2), (.int ((0 : Int32) + (1 : Int32))), (.ref b128)])) rfl (by rw [hml]; rfl) (argsL := [(.ref y2)]) (rest := [(.int ((0 : Int32) + (1 : Int32))), (.ref b128)]) (lenOf pd__Ljava_lang_Object__Ljava_lang_Object_ rfl) rfl (by show 2 * 0 + _ ≤ _; exact Nat.le_of_eq rfl) (hb hby d_lfa_19) (fun _ _ => ⟨rfl, e132, (by decide : 1 + 0 ≤ _), (by decide : 3 + 0 ≤ _)⟩)
  dsimp only [Pt.U, Pt.locs, Pt.cells, Pt.slots] at X135 l135 y135 z135 st135 hQ135
  subst l135 y135 z135
  obtain ⟨rfl, N135q, e135⟩ := hQ135
  have N135 := Fr.app N132 N135q
  replace pre : Pth p e below S0 T135 (mkF m 22 #[rv a1, rv b128, iv ((0 : Int32) + (1 : Int32))] [(.ref y2), (.int ((0 : Int32) + (1 : Int32))), (.ref b128)]) := fun t k => pre t (st135 _ k)
  obtain ⟨-, cl136, Ar136, Sz136, -, Ov136⟩ := id F132
  obtain ⟨T136, h136, X136, e136, W136, st136⟩ := stR X135 hx hZ e135 Ar136 (j := ((0 : Int32) + (1 : Int32))) (by rw [Sz136]; exact (by decide)) rfl (Sto.of Ar136 Ov136 I2_0) (g := (mkF m 22 #[rv a1, rv b128, iv ((0 : Int32) + (1 : Int32))] [(.ref y2), (.int ((0 : Int32) + (1 : Int32))), (.ref b128)])) rfl rfl (hb hby d_lfa_22)
  have F136 := OArr.set F132 W136
  have N136 := Fr.snoc X136 N135 gb
  replace pre : Pth p e below S0 T136 (mkF m 23 #[rv a1, rv b128, iv ((0 : Int32) + (1 : Int32))] []) := fun t k => pre t (st136 _ k)
  have FA1 := OArr.other FA0 W136 ne
  have EX1 := own_ext_wr EX0 W136 gs
  have I1_1 := Ins.wr W136 I1_0
  have I2_1 := Ins.wr W136 I2_0
  have I3_1 := Ins.wr W136 I3_0
  replace pre : Pth p e below S0 T136 (mkF m 10 #[rv a1, rv b128, iv (((0 : Int32) + (1 : Int32)) + (1 : Int32))] [(.ref a1), (.int (((0 : Int32) + (1 : Int32)) + (1 : Int32)))]) := fun t k => pre t (by
    show SS p e below T136 (mkF m 23 #[rv a1, rv b128, iv ((0 : Int32) + (1 : Int32))] []) t
    refine XS.iinc X136.here hx rfl (hb hby d_lfa_23) rfl (l' := #[rv a1, rv b128, iv (((0 : Int32) + (1 : Int32)) + (1 : Int32))]) rfl ?_
    show SS p e below T136 (mkF m 26 #[rv a1, rv b128, iv (((0 : Int32) + (1 : Int32)) + (1 : Int32))] []) t
    refine XS.goto X136.here hx rfl (pc0 := 26) (pc' := 8) rfl (hb hby d_lfa_26) (by decide) (by decide) ?_
    show SS p e below T136 (mkF m 8 #[rv a1, rv b128, iv (((0 : Int32) + (1 : Int32)) + (1 : Int32))] []) t
    refine XS.iloadN X136.here hx rfl (hb hby d_lfa_8) rfl ?_
    show SS p e below T136 (mkF m 9 #[rv a1, rv b128, iv (((0 : Int32) + (1 : Int32)) + (1 : Int32))] [(.int (((0 : Int32) + (1 : Int32)) + (1 : Int32)))]) t
    refine XS.aloadN X136.here hx rfl (hb hby d_lfa_9) rfl rfl ?_
    show SS p e below T136 (mkF m 10 #[rv a1, rv b128, iv (((0 : Int32) + (1 : Int32)) + (1 : Int32))] [(.ref a1), (.int (((0 : Int32) + (1 : Int32)) + (1 : Int32)))]) t
    exact k)
  obtain ⟨cl137, Ar137, Sz137, -⟩ := id FA1.fun
  have hln137 : cl137.slots.size.toInt32 = (3 : Int32) := (congrArg Nat.toInt32 Sz137).trans (rfl)
  replace pre : Pth p e below S0 T136 (mkF m 18 #[rv a1, rv b128, iv (((0 : Int32) + (1 : Int32)) + (1 : Int32))] [(.int (((0 : Int32) + (1 : Int32)) + (1 : Int32))), (.ref a1), (.int (((0 : Int32) + (1 : Int32)) + (1 : Int32))), (.ref b128)]) := fun t k => pre t (by
    show SS p e below T136 (mkF m 10 #[rv a1, rv b128, iv (((0 : Int32) + (1 : Int32)) + (1 : Int32))] [(.ref a1), (.int (((0 : Int32) + (1 : Int32)) + (1 : Int32)))]) t
    refine X136.arraylength hx (by rw [e136]; exact Ar137.1) (State.isArrayOf_alike hZ.alike Ar137.2.1) (g := (mkF m 10 #[rv a1, rv b128, iv (((0 : Int32) + (1 : Int32)) + (1 : Int32))] [(.ref a1), (.int (((0 : Int32) + (1 : Int32)) + (1 : Int32)))])) rfl rfl (hb hby d_lfa_10) _ ?_
    rw [hln137]
    show SS p e below T136 (mkF m 11 #[rv a1, rv b128, iv (((0 : Int32) + (1 : Int32)) + (1 : Int32))] [(.int (3 : Int32)), (.int (((0 : Int32) + (1 : Int32)) + (1 : Int32)))]) t
    refine XS.icmpNo X136.here hx rfl (hb hby d_lfa_11) rfl (XT.ii_ge_f (by decide)) ?_
    show SS p e below T136 (mkF m 14 #[rv a1, rv b128, iv (((0 : Int32) + (1 : Int32)) + (1 : Int32))] []) t
    refine XS.aloadN X136.here hx rfl (hb hby d_lfa_14) rfl rfl ?_
    show SS p e below T136 (mkF m 15 #[rv a1, rv b128, iv (((0 : Int32) + (1 : Int32)) + (1 : Int32))] [(.ref b128)]) t
    refine XS.iloadN X136.here hx rfl (hb hby d_lfa_15) rfl ?_
    show SS p e below T136 (mkF m 16 #[rv a1, rv b128, iv (((0 : Int32) + (1 : Int32)) + (1 : Int32))] [(.int (((0 : Int32) + (1 : Int32)) + (1 : Int32))), (.ref b128)]) t
    refine XS.aloadN X136.here hx rfl (hb hby d_lfa_16) rfl rfl ?_
    show SS p e below T136 (mkF m 17 #[rv a1, rv b128, iv (((0 : Int32) + (1 : Int32)) + (1 : Int32))] [(.ref a1), (.int (((0 : Int32) + (1 : Int32)) + (1 : Int32))), (.ref b128)]) t
    refine XS.iloadN X136.here hx rfl (hb hby d_lfa_17) rfl ?_
    show SS p e below T136 (mkF m 18 #[rv a1, rv b128, iv (((0 : Int32) + (1 : Int32)) + (1 : Int32))] [(.int (((0 : Int32) + (1 : Int32)) + (1 : Int32))), (.ref a1), (.int (((0 : Int32) + (1 : Int32)) + (1 : Int32))), (.ref b128)]) t
    exact k)
  obtain ⟨cl138, Ar138, Sz138, Gt138⟩ := id FA1.fun
  have hin138 : ¬ ((((0 : Int32) + (1 : Int32)) + (1 : Int32)) < 0 ∨ cl138.slots.size ≤ ((((0 : Int32) + (1 : Int32)) + (1 : Int32))).toNatClampNeg) := by rw [Sz138]; exact (by decide)
  have hat138 : cl138.slots[((((0 : Int32) + (1 : Int32)) + (1 : Int32))).toNatClampNeg]? = some (.ref y3) := (Gt138 _ (Nat.lt_of_lt_of_eq (Nat.lt_of_not_le fun q => hin138 (Or.inr q)) Sz138)).trans (congrArg some (fq2))
  replace pre : Pth p e below S0 T136 (mkF m 19 #[rv a1, rv b128, iv (((0 : Int32) + (1 : Int32)) + (1 : Int32))] [(.ref y3), (.int (((0 : Int32) + (1 : Int32)) + (1 : Int32))), (.ref b128)]) := fun t k => pre t (by
    show SS p e below T136 (mkF m 18 #[rv a1, rv b128, iv (((0 : Int32) + (1 : Int32)) + (1 : Int32))] [(.int (((0 : Int32) + (1 : Int32)) + (1 : Int32))), (.ref a1), (.int (((0 : Int32) + (1 : Int32)) + (1 : Int32))), (.ref b128)]) t
    refine X136.aaload hx (j := (((0 : Int32) + (1 : Int32)) + (1 : Int32))) (v := (.ref y3)) (by rw [e136]; exact Ar138.1) (State.isArrayOf_alike hZ.alike Ar138.2.1) rfl Ar138.2.2 hin138 hat138 (g := (mkF m 18 #[rv a1, rv b128, iv (((0 : Int32) + (1 : Int32)) + (1 : Int32))] [(.int (((0 : Int32) + (1 : Int32)) + (1 : Int32))), (.ref a1), (.int (((0 : Int32) + (1 : Int32)) + (1 : Int32))), (.ref b128)])) rfl rfl (hb hby d_lfa_18) _ ?_
    show SS p e below T136 (mkF m 19 #[rv a1, rv b128, iv (((0 : Int32) + (1 : Int32)) + (1 : Int32))] [(.ref y3), (.int (((0 : Int32) + (1 : Int32)) + (1 : Int32))), (.ref b128)]) t
    exact k)
  obtain ⟨_, _, ⟨T139, L139, k139, n139⟩, -, X139, ⟨Lc139, hQ139, l139, y139, z139⟩, st139⟩ := Jvm.LawKit.callS X136 hx (y := (⟨"java/util/Objects", "requireNonNull", "(Ljava/lang/Object;)Ljava/lang/Object;"⟩ : MethodName)) hown (mvT hZ (own_t hw 202 rfl)) (mvT hZ (own_t hw 203 rfl)) (mvT hZ (own_t hw 204 rfl)) (mvT hZ (own_t hw 205 rfl)) (by decide) (backOf (W := 2) (rm_rnn l Z a0 hw [] y3 h136 n0) hZ (own_t hw 205 rfl) (own_t hw 204 rfl) (by decide) (by decide)) (g := (mkF m 19 #[rv a1, rv b128, iv (((0 : Int32) + (1 : Int32)) + (1 : Int32))] [(.ref y3), (.int (((0 : Int32) + (1 : Int32)) + (1 : Int32))), (.ref b128)])) rfl (by rw [hml]; rfl) (argsL := [(.ref y3)]) (rest := [(.int (((0 : Int32) + (1 : Int32)) + (1 : Int32))), (.ref b128)]) (lenOf pd__Ljava_lang_Object__Ljava_lang_Object_ rfl) rfl (by show 2 * 0 + _ ≤ _; exact Nat.le_of_eq rfl) (hb hby d_lfa_19) (fun _ _ => ⟨rfl, e136, (by decide : 1 + 0 ≤ _), (by decide : 3 + 0 ≤ _)⟩)
  dsimp only [Pt.U, Pt.locs, Pt.cells, Pt.slots] at X139 l139 y139 z139 st139 hQ139
  subst l139 y139 z139
  obtain ⟨rfl, N139q, e139⟩ := hQ139
  have N139 := Fr.app N136 N139q
  replace pre : Pth p e below S0 T139 (mkF m 22 #[rv a1, rv b128, iv (((0 : Int32) + (1 : Int32)) + (1 : Int32))] [(.ref y3), (.int (((0 : Int32) + (1 : Int32)) + (1 : Int32))), (.ref b128)]) := fun t k => pre t (st139 _ k)
  obtain ⟨-, cl140, Ar140, Sz140, -, Ov140⟩ := id F136
  obtain ⟨T140, h140, X140, e140, W140, st140⟩ := stR X139 hx hZ e139 Ar140 (j := (((0 : Int32) + (1 : Int32)) + (1 : Int32))) (by rw [Sz140]; exact (by decide)) rfl (Sto.of Ar140 Ov140 I3_1) (g := (mkF m 22 #[rv a1, rv b128, iv (((0 : Int32) + (1 : Int32)) + (1 : Int32))] [(.ref y3), (.int (((0 : Int32) + (1 : Int32)) + (1 : Int32))), (.ref b128)])) rfl rfl (hb hby d_lfa_22)
  have F140 := OArr.set F136 W140
  have N140 := Fr.snoc X140 N139 gb
  replace pre : Pth p e below S0 T140 (mkF m 23 #[rv a1, rv b128, iv (((0 : Int32) + (1 : Int32)) + (1 : Int32))] []) := fun t k => pre t (st140 _ k)
  have FA2 := OArr.other FA1 W140 ne
  have EX2 := own_ext_wr EX1 W140 gs
  have I1_2 := Ins.wr W140 I1_1
  have I2_2 := Ins.wr W140 I2_1
  have I3_2 := Ins.wr W140 I3_1
  replace pre : Pth p e below S0 T140 (mkF m 10 #[rv a1, rv b128, iv ((((0 : Int32) + (1 : Int32)) + (1 : Int32)) + (1 : Int32))] [(.ref a1), (.int ((((0 : Int32) + (1 : Int32)) + (1 : Int32)) + (1 : Int32)))]) := fun t k => pre t (by
    show SS p e below T140 (mkF m 23 #[rv a1, rv b128, iv (((0 : Int32) + (1 : Int32)) + (1 : Int32))] []) t
    refine XS.iinc X140.here hx rfl (hb hby d_lfa_23) rfl (l' := #[rv a1, rv b128, iv ((((0 : Int32) + (1 : Int32)) + (1 : Int32)) + (1 : Int32))]) rfl ?_
    show SS p e below T140 (mkF m 26 #[rv a1, rv b128, iv ((((0 : Int32) + (1 : Int32)) + (1 : Int32)) + (1 : Int32))] []) t
    refine XS.goto X140.here hx rfl (pc0 := 26) (pc' := 8) rfl (hb hby d_lfa_26) (by decide) (by decide) ?_
    show SS p e below T140 (mkF m 8 #[rv a1, rv b128, iv ((((0 : Int32) + (1 : Int32)) + (1 : Int32)) + (1 : Int32))] []) t
    refine XS.iloadN X140.here hx rfl (hb hby d_lfa_8) rfl ?_
    show SS p e below T140 (mkF m 9 #[rv a1, rv b128, iv ((((0 : Int32) + (1 : Int32)) + (1 : Int32)) + (1 : Int32))] [(.int ((((0 : Int32) + (1 : Int32)) + (1 : Int32)) + (1 : Int32)))]) t
    refine XS.aloadN X140.here hx rfl (hb hby d_lfa_9) rfl rfl ?_
    show SS p e below T140 (mkF m 10 #[rv a1, rv b128, iv ((((0 : Int32) + (1 : Int32)) + (1 : Int32)) + (1 : Int32))] [(.ref a1), (.int ((((0 : Int32) + (1 : Int32)) + (1 : Int32)) + (1 : Int32)))]) t
    exact k)
  obtain ⟨cl141, Ar141, Sz141, -⟩ := id FA2.fun
  have hln141 : cl141.slots.size.toInt32 = (3 : Int32) := (congrArg Nat.toInt32 Sz141).trans (rfl)
  replace pre : Pth p e below S0 T140 (mkF m 29 #[rv a1, rv b128, iv ((((0 : Int32) + (1 : Int32)) + (1 : Int32)) + (1 : Int32))] []) := fun t k => pre t (by
    show SS p e below T140 (mkF m 10 #[rv a1, rv b128, iv ((((0 : Int32) + (1 : Int32)) + (1 : Int32)) + (1 : Int32))] [(.ref a1), (.int ((((0 : Int32) + (1 : Int32)) + (1 : Int32)) + (1 : Int32)))]) t
    refine X140.arraylength hx (by rw [e140]; exact Ar141.1) (State.isArrayOf_alike hZ.alike Ar141.2.1) (g := (mkF m 10 #[rv a1, rv b128, iv ((((0 : Int32) + (1 : Int32)) + (1 : Int32)) + (1 : Int32))] [(.ref a1), (.int ((((0 : Int32) + (1 : Int32)) + (1 : Int32)) + (1 : Int32)))])) rfl rfl (hb hby d_lfa_10) _ ?_
    rw [hln141]
    show SS p e below T140 (mkF m 11 #[rv a1, rv b128, iv ((((0 : Int32) + (1 : Int32)) + (1 : Int32)) + (1 : Int32))] [(.int (3 : Int32)), (.int ((((0 : Int32) + (1 : Int32)) + (1 : Int32)) + (1 : Int32)))]) t
    refine XS.icmpYes X140.here hx rfl (pc0 := 11) (pc' := 29) rfl (hb hby d_lfa_11) rfl (XT.ii_ge_t (by decide)) (by decide) (by decide) ?_
    show SS p e below T140 (mkF m 29 #[rv a1, rv b128, iv ((((0 : Int32) + (1 : Int32)) + (1 : Int32)) + (1 : Int32))] []) t
    exact k)
  obtain ⟨T142, h142, X142, e142, E142, A142, D142, -, st142⟩ := newO X140 hx hZ hown (own_t hw 154 rfl) (own_t hw 206 rfl) (own_t hw 139 rfl) e140 (g := (mkF m 29 #[rv a1, rv b128, iv ((((0 : Int32) + (1 : Int32)) + (1 : Int32)) + (1 : Int32))] [])) rfl (hb hby d_lfa_29) (by decide) (by decide)
  obtain ⟨b142, g142⟩ : ∃ z, z = h140.size := ⟨_, rfl⟩
  rw [← g142] at A142 D142 st142
  replace pre : Pth p e below S0 T142 (mkF m 32 #[rv a1, rv b128, iv ((((0 : Int32) + (1 : Int32)) + (1 : Int32)) + (1 : Int32))] [(.ref b142)]) := fun t k => pre t (st142 _ k)
  have Va : Fld Z h142 b142 "java/util/ImmutableCollections$ListN" "elements" "[Ljava/lang/Object;" .null := D142 (Or.inr (own_t hw 142 rfl)) (ty := (.array (.object "java/lang/Object"))) (by decide)
  have Vb : Fld Z h142 b142 "java/util/ImmutableCollections$ListN" "allowNulls" "Z" (.int 0) := D142 (Or.inr (own_t hw 226 rfl)) (ty := .boolean) (by decide)
  have gL : h0.size ≤ b142 := by rw [g142]; exact EX2.1
  have neL : b128 ≠ b142 := by rw [g142]; exact Nat.ne_of_lt (OArr.fun F140).lt
  replace pre : Pth p e below S0 T142 (mkF m 35 #[rv a1, rv b128, iv ((((0 : Int32) + (1 : Int32)) + (1 : Int32)) + (1 : Int32))] [(.int (0 : Int32)), (.ref b128), (.ref b142), (.ref b142)]) := fun t k => pre t (by
    show SS p e below T142 (mkF m 32 #[rv a1, rv b128, iv ((((0 : Int32) + (1 : Int32)) + (1 : Int32)) + (1 : Int32))] [(.ref b142)]) t
    refine XS.dup X142.here hx rfl (hb hby d_lfa_32) rfl rfl ?_
    show SS p e below T142 (mkF m 33 #[rv a1, rv b128, iv ((((0 : Int32) + (1 : Int32)) + (1 : Int32)) + (1 : Int32))] [(.ref b142), (.ref b142)]) t
    refine XS.aloadN X142.here hx rfl (hb hby d_lfa_33) rfl rfl ?_
    show SS p e below T142 (mkF m 34 #[rv a1, rv b128, iv ((((0 : Int32) + (1 : Int32)) + (1 : Int32)) + (1 : Int32))] [(.ref b128), (.ref b142), (.ref b142)]) t
    refine XS.iconst X142.here hx rfl (hb hby d_lfa_34) ?_
    show SS p e below T142 (mkF m 35 #[rv a1, rv b128, iv ((((0 : Int32) + (1 : Int32)) + (1 : Int32)) + (1 : Int32))] [(.int (0 : Int32)), (.ref b128), (.ref b142), (.ref b142)]) t
    exact k)
  obtain ⟨_, _, ⟨T143, L143, k143, n143⟩, -, X143, ⟨Lc143, hQ143, l143, y143, z143⟩, st143⟩ := X142.specialBackNest hx (y := (⟨"java/util/ImmutableCollections$ListN", "<init>", "([Ljava/lang/Object;Z)V"⟩ : MethodName)) rfl hown (own_mvM hZ (own_t hw 207 rfl)) (mvT hZ (own_t hw 208 rfl)) (mvT hZ (own_t hw 210 rfl)) (by decide) (backOf (W := 1) (rm_lni l Z a0 hw [] b142 b128 h142 n0 (Nat.le_trans Z0 gL) A142 Va Vb) hZ (own_t hw 210 rfl) (own_t hw 139 rfl) (by decide) (by decide)) (g := (mkF m 35 #[rv a1, rv b128, iv ((((0 : Int32) + (1 : Int32)) + (1 : Int32)) + (1 : Int32))] [(.int (0 : Int32)), (.ref b128), (.ref b142), (.ref b142)])) rfl (by rw [hml]; rfl) (Steps.refl _) (a := b142) (argsL := [(.ref b128), (.int (0 : Int32))]) (rest := [(.ref b142)]) (lenOf pd___Ljava_lang_Object_Z_V rfl) rfl (by show 2 * 0 + _ ≤ _; exact Nat.le_of_eq rfl) (hb hby d_lfa_35) (fun _ _ => ⟨rfl, e142, (by decide : 2 + 0 ≤ _), (by decide : 5 + 0 ≤ _)⟩)
  dsimp only [Pt.U, Pt.locs, Pt.cells, Pt.slots] at X143 l143 y143 z143 st143 hQ143
  subst l143 y143 z143
  obtain ⟨rfl, N143q, K143, A143, F143⟩ := hQ143
  have N143 := Fr.app N140 N143q
  replace pre : Pth p e below S0 T143 (mkF m 38 #[rv a1, rv b128, iv ((((0 : Int32) + (1 : Int32)) + (1 : Int32)) + (1 : Int32))] [(.ref b142)]) := fun t k => pre t (st143.trans k)
  obtain ⟨fs, hr, hrun, hended, hW, hsame⟩ := X143.leave (v := some (.ref b142)) (fun h => by rw [Bd.returns] at h; cases h)
  subst hS0
  refine ⟨_, _, pre _ ?_, hrun, hended, _, _, rfl, ?_, ⟨_, rfl⟩, hW, hsame.mono (by decide) (by decide)⟩
  · exact retOut X143 hx (t := (.object "java/util/List")) Bd.returns rfl (by simp [Value.isRef, FieldType.isReference]) (hb hby d_lfa_38) hr
  · show Q_lfa Z a1 y1 y2 y3 f h0 n0 _ T143.heap _
    exact ⟨b142, rfl, N143, own_ext_keep (own_ext_trans EX2 E142) K143 (fun z hz => by rw [List.mem_singleton.mp hz]; exact gL), A143, b128, _, F143, ((OArr.ext F140 E142).keep K143 (fun hz => neL (List.mem_singleton.mp hz))).fun⟩
def Q_lo1 (Z : State) (a1 : Addr) (y1 em : Addr) (f : Nat → Value) (h0 : Heap) (n0 : Nat) (v : Option Value) (h : Heap) (L : List Loc) : Prop := ∃ r, v = some (.ref r) ∧ Fr n0 L ∧ Ext h0 h ∧ OL1 Z h r em
set_option maxRecDepth 65536 in
set_option maxHeartbeats 40000000 in
theorem rm_lo1 (l : Launch) (Z : State) (a0 : Array Value) (hw : ∀ d ∈ tables_1, d.before a0 Z = true) (ws : List Jvm.Cond) (a1 : Addr) (y1 em : Addr) (f : Nat → Value) (h0 : Heap) (n0 : Nat) (Z0 : n0 ≤ h0.size) (Fa : OArr Z h0 a1 1 f) (fq0 : f 0 = .ref y1) (Sem : Sta Z h0 "java/util/ImmutableCollections" "EMPTY" "Ljava/lang/Object;" (.ref em)) :
    MetFree l (⟨"java/util/List", "of", "([Ljava/lang/Object;)Ljava/util/List;"⟩ : MethodName) (head1 (Jvm.Cond.code (⟨"java/util/List", "of", "([Ljava/lang/Object;)Ljava/util/List;"⟩ : MethodName) jdk_40_method_47_code 2 (some (.object "java/util/List")) :: ws) ({ frames := 5, cells := 1, slots := 2, locals := 62 } : Room)) (fun a U => a = #[(.ref a1)] ∧ Z.Warmed39 U.vm ∧ U.heap = h0) (fun _ _ _ _ _ => True) (fun _ U o U' => ∃ v L, o = .returned v ∧ Q_lo1 Z a1 y1 em f h0 n0 v U'.heap L ∧ FrameEnd U o U' L ({ frames := 5, cells := 1, slots := 2, locals := 62 } : Room).cells ({ frames := 5, cells := 1, slots := 2, locals := 62 } : Room).slots) := by
  refine MetFree.of_bodySF (plainFor_of_name pn_java_util_List) hisR ?_
  intro p e s m args below meth c s₁ Bd hml0 hP hK
  obtain ⟨rfl, hZ, hh⟩ := hP
  have hx := Bd.exec
  have hby := Bd.bytes
  have hml : c.maxLocals = 2 := hml0
  have hown : s.vm.findClass "java/util/List" = some m.cls := findClass_of_methodNamed Bd.named
  have hnm := (name_of_methodNamed Bd.named Bd.method).1
  have X0 : Stand p l e ({ frames := 5, cells := 1, slots := 2, locals := 62 } : Room) s m #[(.ref a1)] below meth c s₁ [] 0 0 := Stand.of_body Bd
  have e0 : s₁.heap = h0 := by rw [← hh, Bd.state]; rfl
  have N0 := Fr.nil n0
  obtain ⟨S0, hS0⟩ : ∃ S0, S0 = s₁.setTop (entryFrame m #[(.ref a1)] 2) := ⟨_, rfl⟩
  have pre : Pth p e below S0 s₁ (mkF m 0 #[rv a1, .unset] []) := fun t k => by rw [hS0]; exact castTop (ef_lo1 m a1) k
  replace pre : Pth p e below S0 s₁ (mkF m 1 #[rv a1, .unset] [(.ref a1)]) := fun t k => pre t (by
    show SS p e below s₁ (mkF m 0 #[rv a1, .unset] []) t
    refine XS.aloadN X0.here hx rfl (hb hby d_lo1_0) rfl rfl ?_
    show SS p e below s₁ (mkF m 1 #[rv a1, .unset] [(.ref a1)]) t
    exact k)
  obtain ⟨cl144, Ar144, Sz144, -⟩ := id Fa.fun
  have hln144 : cl144.slots.size.toInt32 = (1 : Int32) := (congrArg Nat.toInt32 Sz144).trans (rfl)
  replace pre : Pth p e below S0 s₁ (mkF m 2 #[rv a1, .unset] [(.int (1 : Int32))]) := fun t k => pre t (by
    show SS p e below s₁ (mkF m 1 #[rv a1, .unset] [(.ref a1)]) t
    refine X0.arraylength hx (by rw [e0]; exact Ar144.1) (State.isArrayOf_alike hZ.alike Ar144.2.1) (g := (mkF m 1 #[rv a1, .unset] [(.ref a1)])) rfl rfl (hb hby d_lo1_1) _ ?_
    rw [hln144]
    show SS p e below s₁ (mkF m 2 #[rv a1, .unset] [(.int (1 : Int32))]) t
    exact k)
  replace pre : Pth p e below S0 s₁ (mkF m 34 #[rv a1, .unset] []) := fun t k => pre t (by
    show SS p e below s₁ (mkF m 2 #[rv a1, .unset] [(.int (1 : Int32))]) t
    refine X0.tableswitchIn hx (g := (mkF m 2 #[rv a1, .unset] [(.int (1 : Int32))])) rfl (k := (1 : Int32)) rfl (hb hby d_lo1_2) (by decide) (off := 32) (by first | rfl | decide) (by show (0 : Int) ≤ ((2 : Nat) : Int) + 32; decide) _ ?_
    show SS p e below s₁ (mkF m 34 #[rv a1, .unset] []) t
    exact k)
  obtain ⟨T145, h145, X145, e145, E145, A145, D145, -, st145⟩ := newO X0 hx hZ hown (own_t hw 227 rfl) (own_t hw 228 rfl) (own_t hw 229 rfl) e0 (g := (mkF m 34 #[rv a1, .unset] [])) rfl (hb hby d_lo1_34) (by decide) (by decide)
  obtain ⟨b145, g145⟩ : ∃ z, z = h0.size := ⟨_, rfl⟩
  rw [← g145] at A145 D145 st145
  replace pre : Pth p e below S0 T145 (mkF m 37 #[rv a1, .unset] [(.ref b145)]) := fun t k => pre t (st145 _ k)
  have Va : Fld Z h145 b145 "java/util/ImmutableCollections$List12" "e0" "Ljava/lang/Object;" .null := D145 (Or.inr (own_t hw 240 rfl)) (ty := (.object "java/lang/Object")) (by decide)
  have Vb : Fld Z h145 b145 "java/util/ImmutableCollections$List12" "e1" "Ljava/lang/Object;" .null := D145 (Or.inr (own_t hw 243 rfl)) (ty := (.object "java/lang/Object")) (by decide)
  have gL : h0.size ≤ b145 := by rw [g145]; exact Nat.le_refl _
  replace pre : Pth p e below S0 T145 (mkF m 40 #[rv a1, .unset] [(.int (0 : Int32)), (.ref a1), (.ref b145), (.ref b145)]) := fun t k => pre t (by
    show SS p e below T145 (mkF m 37 #[rv a1, .unset] [(.ref b145)]) t
    refine XS.dup X145.here hx rfl (hb hby d_lo1_37) rfl rfl ?_
    show SS p e below T145 (mkF m 38 #[rv a1, .unset] [(.ref b145), (.ref b145)]) t
    refine XS.aloadN X145.here hx rfl (hb hby d_lo1_38) rfl rfl ?_
    show SS p e below T145 (mkF m 39 #[rv a1, .unset] [(.ref a1), (.ref b145), (.ref b145)]) t
    refine XS.iconst X145.here hx rfl (hb hby d_lo1_39) ?_
    show SS p e below T145 (mkF m 40 #[rv a1, .unset] [(.int (0 : Int32)), (.ref a1), (.ref b145), (.ref b145)]) t
    exact k)
  obtain ⟨cl146, Ar146, Sz146, Gt146⟩ := id (Fa.ext E145).fun
  have hin146 : ¬ ((0 : Int32) < 0 ∨ cl146.slots.size ≤ ((0 : Int32)).toNatClampNeg) := by rw [Sz146]; exact (by decide)
  have hat146 : cl146.slots[((0 : Int32)).toNatClampNeg]? = some (.ref y1) := (Gt146 _ (Nat.lt_of_lt_of_eq (Nat.lt_of_not_le fun q => hin146 (Or.inr q)) Sz146)).trans (congrArg some (fq0))
  replace pre : Pth p e below S0 T145 (mkF m 41 #[rv a1, .unset] [(.ref y1), (.ref b145), (.ref b145)]) := fun t k => pre t (by
    show SS p e below T145 (mkF m 40 #[rv a1, .unset] [(.int (0 : Int32)), (.ref a1), (.ref b145), (.ref b145)]) t
    refine X145.aaload hx (j := (0 : Int32)) (v := (.ref y1)) (by rw [e145]; exact Ar146.1) (State.isArrayOf_alike hZ.alike Ar146.2.1) rfl Ar146.2.2 hin146 hat146 (g := (mkF m 40 #[rv a1, .unset] [(.int (0 : Int32)), (.ref a1), (.ref b145), (.ref b145)])) rfl rfl (hb hby d_lo1_40) _ ?_
    show SS p e below T145 (mkF m 41 #[rv a1, .unset] [(.ref y1), (.ref b145), (.ref b145)]) t
    exact k)
  obtain ⟨_, _, ⟨T147, L147, k147, n147⟩, -, X147, ⟨Lc147, hQ147, l147, y147, z147⟩, st147⟩ := X145.specialBack hx (y := (⟨"java/util/ImmutableCollections$List12", "<init>", "(Ljava/lang/Object;)V"⟩ : MethodName)) rfl hown (mvT hZ (own_t hw 230 rfl)) (mvT hZ (own_t hw 231 rfl)) (mvT hZ (own_t hw 233 rfl)) (by decide) (backOf (W := 1) (rm_l2i1 l Z a0 hw [] b145 y1 em h145 n0 (Nat.le_trans Z0 gL) A145 Va Vb (Sem.ext E145)) hZ (own_t hw 233 rfl) (own_t hw 229 rfl) (by decide) (by decide)) (g := (mkF m 41 #[rv a1, .unset] [(.ref y1), (.ref b145), (.ref b145)])) rfl (by rw [hml]; rfl) (Steps.refl _) (a := b145) (argsL := [(.ref y1)]) (rest := [(.ref b145)]) (lenOf pd__Ljava_lang_Object__V rfl) rfl (by show 2 * 0 + _ ≤ _; exact Nat.le_of_eq rfl) (hb hby d_lo1_41) (fun _ _ => ⟨rfl, e145, (by decide : 1 + 0 ≤ _), (by decide : 2 + 0 ≤ _)⟩)
  dsimp only [Pt.U, Pt.locs, Pt.cells, Pt.slots] at X147 l147 y147 z147 st147 hQ147
  subst l147 y147 z147
  obtain ⟨rfl, N147q, K147, A147, F147⟩ := hQ147
  have N147 := Fr.app N0 N147q
  replace pre : Pth p e below S0 T147 (mkF m 44 #[rv a1, .unset] [(.ref b145)]) := fun t k => pre t (st147.trans k)
  obtain ⟨fs, hr, hrun, hended, hW, hsame⟩ := X147.leave (v := some (.ref b145)) (fun h => by rw [Bd.returns] at h; cases h)
  subst hS0
  refine ⟨_, _, pre _ ?_, hrun, hended, _, _, rfl, ?_, ⟨_, rfl⟩, hW, hsame.mono (by decide) (by decide)⟩
  · exact retOut X147 hx (t := (.object "java/util/List")) Bd.returns rfl (by simp [Value.isRef, FieldType.isReference]) (hb hby d_lo1_44) hr
  · show Q_lo1 Z a1 y1 em f h0 n0 _ T147.heap _
    exact ⟨b145, rfl, N147, own_ext_keep E145 K147 (fun z hz => by rw [List.mem_singleton.mp hz]; exact gL), A147, F147⟩
def Q_lo2 (Z : State) (a1 : Addr) (y1 y2 : Addr) (f : Nat → Value) (h0 : Heap) (n0 : Nat) (v : Option Value) (h : Heap) (L : List Loc) : Prop := ∃ r, v = some (.ref r) ∧ Fr n0 L ∧ Ext h0 h ∧ OL1 Z h r y2
set_option maxRecDepth 65536 in
set_option maxHeartbeats 40000000 in
theorem rm_lo2 (l : Launch) (Z : State) (a0 : Array Value) (hw : ∀ d ∈ tables_1, d.before a0 Z = true) (ws : List Jvm.Cond) (a1 : Addr) (y1 y2 : Addr) (f : Nat → Value) (h0 : Heap) (n0 : Nat) (Z0 : n0 ≤ h0.size) (Fa : OArr Z h0 a1 2 f) (fq0 : f 0 = .ref y1) (fq1 : f 1 = .ref y2) :
    MetFree l (⟨"java/util/List", "of", "([Ljava/lang/Object;)Ljava/util/List;"⟩ : MethodName) (head1 (Jvm.Cond.code (⟨"java/util/List", "of", "([Ljava/lang/Object;)Ljava/util/List;"⟩ : MethodName) jdk_40_method_47_code 2 (some (.object "java/util/List")) :: ws) ({ frames := 5, cells := 1, slots := 2, locals := 63 } : Room)) (fun a U => a = #[(.ref a1)] ∧ Z.Warmed39 U.vm ∧ U.heap = h0) (fun _ _ _ _ _ => True) (fun _ U o U' => ∃ v L, o = .returned v ∧ Q_lo2 Z a1 y1 y2 f h0 n0 v U'.heap L ∧ FrameEnd U o U' L ({ frames := 5, cells := 1, slots := 2, locals := 63 } : Room).cells ({ frames := 5, cells := 1, slots := 2, locals := 63 } : Room).slots) := by
  refine MetFree.of_bodySF (plainFor_of_name pn_java_util_List) hisR ?_
  intro p e s m args below meth c s₁ Bd hml0 hP hK
  obtain ⟨rfl, hZ, hh⟩ := hP
  have hx := Bd.exec
  have hby := Bd.bytes
  have hml : c.maxLocals = 2 := hml0
  have hown : s.vm.findClass "java/util/List" = some m.cls := findClass_of_methodNamed Bd.named
  have hnm := (name_of_methodNamed Bd.named Bd.method).1
  have X0 : Stand p l e ({ frames := 5, cells := 1, slots := 2, locals := 63 } : Room) s m #[(.ref a1)] below meth c s₁ [] 0 0 := Stand.of_body Bd
  have e0 : s₁.heap = h0 := by rw [← hh, Bd.state]; rfl
  have N0 := Fr.nil n0
  obtain ⟨S0, hS0⟩ : ∃ S0, S0 = s₁.setTop (entryFrame m #[(.ref a1)] 2) := ⟨_, rfl⟩
  have pre : Pth p e below S0 s₁ (mkF m 0 #[rv a1, .unset] []) := fun t k => by rw [hS0]; exact castTop (ef_lo2 m a1) k
  replace pre : Pth p e below S0 s₁ (mkF m 1 #[rv a1, .unset] [(.ref a1)]) := fun t k => pre t (by
    show SS p e below s₁ (mkF m 0 #[rv a1, .unset] []) t
    refine XS.aloadN X0.here hx rfl (hb hby d_lo2_0) rfl rfl ?_
    show SS p e below s₁ (mkF m 1 #[rv a1, .unset] [(.ref a1)]) t
    exact k)
  obtain ⟨cl148, Ar148, Sz148, -⟩ := id Fa.fun
  have hln148 : cl148.slots.size.toInt32 = (2 : Int32) := (congrArg Nat.toInt32 Sz148).trans (rfl)
  replace pre : Pth p e below S0 s₁ (mkF m 2 #[rv a1, .unset] [(.int (2 : Int32))]) := fun t k => pre t (by
    show SS p e below s₁ (mkF m 1 #[rv a1, .unset] [(.ref a1)]) t
    refine X0.arraylength hx (by rw [e0]; exact Ar148.1) (State.isArrayOf_alike hZ.alike Ar148.2.1) (g := (mkF m 1 #[rv a1, .unset] [(.ref a1)])) rfl rfl (hb hby d_lo2_1) _ ?_
    rw [hln148]
    show SS p e below s₁ (mkF m 2 #[rv a1, .unset] [(.int (2 : Int32))]) t
    exact k)
  replace pre : Pth p e below S0 s₁ (mkF m 45 #[rv a1, .unset] []) := fun t k => pre t (by
    show SS p e below s₁ (mkF m 2 #[rv a1, .unset] [(.int (2 : Int32))]) t
    refine X0.tableswitchIn hx (g := (mkF m 2 #[rv a1, .unset] [(.int (2 : Int32))])) rfl (k := (2 : Int32)) rfl (hb hby d_lo2_2) (by decide) (off := 43) (by first | rfl | decide) (by show (0 : Int) ≤ ((2 : Nat) : Int) + 43; decide) _ ?_
    show SS p e below s₁ (mkF m 45 #[rv a1, .unset] []) t
    exact k)
  obtain ⟨T149, h149, X149, e149, E149, A149, D149, -, st149⟩ := newO X0 hx hZ hown (own_t hw 227 rfl) (own_t hw 228 rfl) (own_t hw 229 rfl) e0 (g := (mkF m 45 #[rv a1, .unset] [])) rfl (hb hby d_lo2_45) (by decide) (by decide)
  obtain ⟨b149, g149⟩ : ∃ z, z = h0.size := ⟨_, rfl⟩
  rw [← g149] at A149 D149 st149
  replace pre : Pth p e below S0 T149 (mkF m 48 #[rv a1, .unset] [(.ref b149)]) := fun t k => pre t (st149 _ k)
  have Va : Fld Z h149 b149 "java/util/ImmutableCollections$List12" "e0" "Ljava/lang/Object;" .null := D149 (Or.inr (own_t hw 240 rfl)) (ty := (.object "java/lang/Object")) (by decide)
  have Vb : Fld Z h149 b149 "java/util/ImmutableCollections$List12" "e1" "Ljava/lang/Object;" .null := D149 (Or.inr (own_t hw 243 rfl)) (ty := (.object "java/lang/Object")) (by decide)
  have gL : h0.size ≤ b149 := by rw [g149]; exact Nat.le_refl _
  replace pre : Pth p e below S0 T149 (mkF m 51 #[rv a1, .unset] [(.int (0 : Int32)), (.ref a1), (.ref b149), (.ref b149)]) := fun t k => pre t (by
    show SS p e below T149 (mkF m 48 #[rv a1, .unset] [(.ref b149)]) t
    refine XS.dup X149.here hx rfl (hb hby d_lo2_48) rfl rfl ?_
    show SS p e below T149 (mkF m 49 #[rv a1, .unset] [(.ref b149), (.ref b149)]) t
    refine XS.aloadN X149.here hx rfl (hb hby d_lo2_49) rfl rfl ?_
    show SS p e below T149 (mkF m 50 #[rv a1, .unset] [(.ref a1), (.ref b149), (.ref b149)]) t
    refine XS.iconst X149.here hx rfl (hb hby d_lo2_50) ?_
    show SS p e below T149 (mkF m 51 #[rv a1, .unset] [(.int (0 : Int32)), (.ref a1), (.ref b149), (.ref b149)]) t
    exact k)
  obtain ⟨cl150, Ar150, Sz150, Gt150⟩ := id (Fa.ext E149).fun
  have hin150 : ¬ ((0 : Int32) < 0 ∨ cl150.slots.size ≤ ((0 : Int32)).toNatClampNeg) := by rw [Sz150]; exact (by decide)
  have hat150 : cl150.slots[((0 : Int32)).toNatClampNeg]? = some (.ref y1) := (Gt150 _ (Nat.lt_of_lt_of_eq (Nat.lt_of_not_le fun q => hin150 (Or.inr q)) Sz150)).trans (congrArg some (fq0))
  replace pre : Pth p e below S0 T149 (mkF m 54 #[rv a1, .unset] [(.int (1 : Int32)), (.ref a1), (.ref y1), (.ref b149), (.ref b149)]) := fun t k => pre t (by
    show SS p e below T149 (mkF m 51 #[rv a1, .unset] [(.int (0 : Int32)), (.ref a1), (.ref b149), (.ref b149)]) t
    refine X149.aaload hx (j := (0 : Int32)) (v := (.ref y1)) (by rw [e149]; exact Ar150.1) (State.isArrayOf_alike hZ.alike Ar150.2.1) rfl Ar150.2.2 hin150 hat150 (g := (mkF m 51 #[rv a1, .unset] [(.int (0 : Int32)), (.ref a1), (.ref b149), (.ref b149)])) rfl rfl (hb hby d_lo2_51) _ ?_
    show SS p e below T149 (mkF m 52 #[rv a1, .unset] [(.ref y1), (.ref b149), (.ref b149)]) t
    refine XS.aloadN X149.here hx rfl (hb hby d_lo2_52) rfl rfl ?_
    show SS p e below T149 (mkF m 53 #[rv a1, .unset] [(.ref a1), (.ref y1), (.ref b149), (.ref b149)]) t
    refine XS.iconst X149.here hx rfl (hb hby d_lo2_53) ?_
    show SS p e below T149 (mkF m 54 #[rv a1, .unset] [(.int (1 : Int32)), (.ref a1), (.ref y1), (.ref b149), (.ref b149)]) t
    exact k)
  obtain ⟨cl151, Ar151, Sz151, Gt151⟩ := id (Fa.ext E149).fun
  have hin151 : ¬ ((1 : Int32) < 0 ∨ cl151.slots.size ≤ ((1 : Int32)).toNatClampNeg) := by rw [Sz151]; exact (by decide)
  have hat151 : cl151.slots[((1 : Int32)).toNatClampNeg]? = some (.ref y2) := (Gt151 _ (Nat.lt_of_lt_of_eq (Nat.lt_of_not_le fun q => hin151 (Or.inr q)) Sz151)).trans (congrArg some (fq1))
  replace pre : Pth p e below S0 T149 (mkF m 55 #[rv a1, .unset] [(.ref y2), (.ref y1), (.ref b149), (.ref b149)]) := fun t k => pre t (by
    show SS p e below T149 (mkF m 54 #[rv a1, .unset] [(.int (1 : Int32)), (.ref a1), (.ref y1), (.ref b149), (.ref b149)]) t
    refine X149.aaload hx (j := (1 : Int32)) (v := (.ref y2)) (by rw [e149]; exact Ar151.1) (State.isArrayOf_alike hZ.alike Ar151.2.1) rfl Ar151.2.2 hin151 hat151 (g := (mkF m 54 #[rv a1, .unset] [(.int (1 : Int32)), (.ref a1), (.ref y1), (.ref b149), (.ref b149)])) rfl rfl (hb hby d_lo2_54) _ ?_
    show SS p e below T149 (mkF m 55 #[rv a1, .unset] [(.ref y2), (.ref y1), (.ref b149), (.ref b149)]) t
    exact k)
  obtain ⟨_, _, ⟨T152, L152, k152, n152⟩, -, X152, ⟨Lc152, hQ152, l152, y152, z152⟩, st152⟩ := X149.specialBack hx (y := (⟨"java/util/ImmutableCollections$List12", "<init>", "(Ljava/lang/Object;Ljava/lang/Object;)V"⟩ : MethodName)) rfl hown (mvT hZ (own_t hw 250 rfl)) (mvT hZ (own_t hw 251 rfl)) (mvT hZ (own_t hw 252 rfl)) (by decide) (backOf (W := 1) (rm_l2i2 l Z a0 hw [] b149 y1 y2 h149 n0 (Nat.le_trans Z0 gL) A149 Va Vb) hZ (own_t hw 252 rfl) (own_t hw 229 rfl) (by decide) (by decide)) (g := (mkF m 55 #[rv a1, .unset] [(.ref y2), (.ref y1), (.ref b149), (.ref b149)])) rfl (by rw [hml]; rfl) (Steps.refl _) (a := b149) (argsL := [(.ref y1), (.ref y2)]) (rest := [(.ref b149)]) (lenOf pd__Ljava_lang_Object_Ljava_lang_Object__V rfl) rfl (by show 2 * 0 + _ ≤ _; exact Nat.le_of_eq rfl) (hb hby d_lo2_55) (fun _ _ => ⟨rfl, e149, (by decide : 1 + 0 ≤ _), (by decide : 2 + 0 ≤ _)⟩)
  dsimp only [Pt.U, Pt.locs, Pt.cells, Pt.slots] at X152 l152 y152 z152 st152 hQ152
  subst l152 y152 z152
  obtain ⟨rfl, N152q, K152, A152, F152⟩ := hQ152
  have N152 := Fr.app N0 N152q
  replace pre : Pth p e below S0 T152 (mkF m 58 #[rv a1, .unset] [(.ref b149)]) := fun t k => pre t (st152.trans k)
  obtain ⟨fs, hr, hrun, hended, hW, hsame⟩ := X152.leave (v := some (.ref b149)) (fun h => by rw [Bd.returns] at h; cases h)
  subst hS0
  refine ⟨_, _, pre _ ?_, hrun, hended, _, _, rfl, ?_, ⟨_, rfl⟩, hW, hsame.mono (by decide) (by decide)⟩
  · exact retOut X152 hx (t := (.object "java/util/List")) Bd.returns rfl (by simp [Value.isRef, FieldType.isReference]) (hb hby d_lo2_58) hr
  · show Q_lo2 Z a1 y1 y2 f h0 n0 _ T152.heap _
    exact ⟨b149, rfl, N152, own_ext_keep E149 K152 (fun z hz => by rw [List.mem_singleton.mp hz]; exact gL), A152, F152⟩
def Q_lo3 (Z : State) (a1 : Addr) (y1 y2 y3 : Addr) (f : Nat → Value) (h0 : Heap) (n0 : Nat) (v : Option Value) (h : Heap) (L : List Loc) : Prop := ∃ r, v = some (.ref r) ∧ Fr n0 L ∧ Ext h0 h ∧ OL3 Z h r
set_option maxRecDepth 65536 in
set_option maxHeartbeats 40000000 in
theorem rm_lo3 (l : Launch) (Z : State) (a0 : Array Value) (hw : ∀ d ∈ tables_1, d.before a0 Z = true) (ws : List Jvm.Cond) (a1 : Addr) (y1 y2 y3 : Addr) (f : Nat → Value) (h0 : Heap) (n0 : Nat) (Z0 : n0 ≤ h0.size) (Fa : OArr Z h0 a1 3 f) (fq0 : f 0 = .ref y1) (fq1 : f 1 = .ref y2) (fq2 : f 2 = .ref y3) (I1 : Ins Z h0 y1 "java/lang/Object" true) (I2 : Ins Z h0 y2 "java/lang/Object" true) (I3 : Ins Z h0 y3 "java/lang/Object" true) :
    MetFree l (⟨"java/util/List", "of", "([Ljava/lang/Object;)Ljava/util/List;"⟩ : MethodName) (head1 (Jvm.Cond.code (⟨"java/util/List", "of", "([Ljava/lang/Object;)Ljava/util/List;"⟩ : MethodName) jdk_40_method_47_code 2 (some (.object "java/util/List")) :: ws) ({ frames := 6, cells := 2, slots := 5, locals := 77 } : Room)) (fun a U => a = #[(.ref a1)] ∧ Z.Warmed39 U.vm ∧ U.heap = h0) (fun _ _ _ _ _ => True) (fun _ U o U' => ∃ v L, o = .returned v ∧ Q_lo3 Z a1 y1 y2 y3 f h0 n0 v U'.heap L ∧ FrameEnd U o U' L ({ frames := 6, cells := 2, slots := 5, locals := 77 } : Room).cells ({ frames := 6, cells := 2, slots := 5, locals := 77 } : Room).slots) := by
  refine MetFree.of_bodySF (plainFor_of_name pn_java_util_List) hisR ?_
  intro p e s m args below meth c s₁ Bd hml0 hP hK
  obtain ⟨rfl, hZ, hh⟩ := hP
  have hx := Bd.exec
  have hby := Bd.bytes
  have hml : c.maxLocals = 2 := hml0
  have hown : s.vm.findClass "java/util/List" = some m.cls := findClass_of_methodNamed Bd.named
  have hnm := (name_of_methodNamed Bd.named Bd.method).1
  have X0 : Stand p l e ({ frames := 6, cells := 2, slots := 5, locals := 77 } : Room) s m #[(.ref a1)] below meth c s₁ [] 0 0 := Stand.of_body Bd
  have e0 : s₁.heap = h0 := by rw [← hh, Bd.state]; rfl
  have N0 := Fr.nil n0
  obtain ⟨S0, hS0⟩ : ∃ S0, S0 = s₁.setTop (entryFrame m #[(.ref a1)] 2) := ⟨_, rfl⟩
  have pre : Pth p e below S0 s₁ (mkF m 0 #[rv a1, .unset] []) := fun t k => by rw [hS0]; exact castTop (ef_lo3 m a1) k
  replace pre : Pth p e below S0 s₁ (mkF m 1 #[rv a1, .unset] [(.ref a1)]) := fun t k => pre t (by
    show SS p e below s₁ (mkF m 0 #[rv a1, .unset] []) t
    refine XS.aloadN X0.here hx rfl (hb hby d_lo3_0) rfl rfl ?_
    show SS p e below s₁ (mkF m 1 #[rv a1, .unset] [(.ref a1)]) t
    exact k)
  obtain ⟨cl153, Ar153, Sz153, -⟩ := id Fa.fun
  have hln153 : cl153.slots.size.toInt32 = (3 : Int32) := (congrArg Nat.toInt32 Sz153).trans (rfl)
  replace pre : Pth p e below S0 s₁ (mkF m 2 #[rv a1, .unset] [(.int (3 : Int32))]) := fun t k => pre t (by
    show SS p e below s₁ (mkF m 1 #[rv a1, .unset] [(.ref a1)]) t
    refine X0.arraylength hx (by rw [e0]; exact Ar153.1) (State.isArrayOf_alike hZ.alike Ar153.2.1) (g := (mkF m 1 #[rv a1, .unset] [(.ref a1)])) rfl rfl (hb hby d_lo3_1) _ ?_
    rw [hln153]
    show SS p e below s₁ (mkF m 2 #[rv a1, .unset] [(.int (3 : Int32))]) t
    exact k)
  replace pre : Pth p e below S0 s₁ (mkF m 60 #[rv a1, .unset] [(.ref a1)]) := fun t k => pre t (by
    show SS p e below s₁ (mkF m 2 #[rv a1, .unset] [(.int (3 : Int32))]) t
    refine X0.tableswitchOut hx (g := (mkF m 2 #[rv a1, .unset] [(.int (3 : Int32))])) rfl (k := (3 : Int32)) rfl (hb hby d_lo3_2) (by decide) (by show (0 : Int) ≤ ((2 : Nat) : Int) + 57; decide) _ ?_
    show SS p e below s₁ (mkF m 59 #[rv a1, .unset] []) t
    refine XS.aloadN X0.here hx rfl (hb hby d_lo3_59) rfl rfl ?_
    show SS p e below s₁ (mkF m 60 #[rv a1, .unset] [(.ref a1)]) t
    exact k)
  obtain ⟨_, _, ⟨T154, L154, k154, n154⟩, -, X154, ⟨Lc154, hQ154, l154, y154, z154⟩, st154⟩ := Jvm.LawKit.callS X0 hx (y := (⟨"java/util/ImmutableCollections", "listFromArray", "([Ljava/lang/Object;)Ljava/util/List;"⟩ : MethodName)) hown (mvT hZ (own_t hw 198 rfl)) (mvT hZ (own_t hw 199 rfl)) (mvT hZ (own_t hw 130 rfl)) (mvT hZ (own_t hw 200 rfl)) (by decide) (backOf (W := 0) (rm_lfa l Z a0 hw [] a1 y1 y2 y3 f h0 n0 Z0 Fa fq0 fq1 fq2 I1 I2 I3) hZ (own_t hw 200 rfl) (own_t hw 130 rfl) (by decide) (by decide)) (g := (mkF m 60 #[rv a1, .unset] [(.ref a1)])) rfl (by rw [hml]; rfl) (argsL := [(.ref a1)]) (rest := []) (lenOf pd___Ljava_lang_Object__Ljava_util_List_ rfl) rfl (by show 2 * 0 + _ ≤ _; exact Nat.le_of_eq rfl) (hb hby d_lo3_60) (fun _ _ => ⟨rfl, e0, (by decide : 0 + 2 ≤ _), (by decide : 0 + 5 ≤ _)⟩)
  dsimp only [Pt.U, Pt.locs, Pt.cells, Pt.slots] at X154 l154 y154 z154 st154 hQ154
  subst l154 y154 z154
  obtain ⟨rr, rfl, N154q, E154, O154⟩ := hQ154
  have N154 := Fr.app N0 N154q
  replace pre : Pth p e below S0 T154 (mkF m 63 #[rv a1, .unset] [(.ref rr)]) := fun t k => pre t (st154 _ k)
  obtain ⟨fs, hr, hrun, hended, hW, hsame⟩ := X154.leave (v := some (.ref rr)) (fun h => by rw [Bd.returns] at h; cases h)
  subst hS0
  refine ⟨_, _, pre _ ?_, hrun, hended, _, _, rfl, ?_, ⟨_, rfl⟩, hW, hsame.mono (by decide) (by decide)⟩
  · exact retOut X154 hx (t := (.object "java/util/List")) Bd.returns rfl (by simp [Value.isRef, FieldType.isReference]) (hb hby d_lo3_63) hr
  · show Q_lo3 Z a1 y1 y2 y3 f h0 n0 _ T154.heap _
    exact ⟨rr, rfl, N154, E154, O154⟩
def Q_lc0 (Z : State) (a1 : Addr) (b1 el : Addr) (md : Int32) (h0 : Heap) (n0 : Nat) (v : Option Value) (h : Heap) (L : List Loc) : Prop := v = some (.ref el) ∧ Fr n0 L ∧ h = h0
set_option maxRecDepth 65536 in
set_option maxHeartbeats 40000000 in
theorem rm_lc0 (l : Launch) (Z : State) (a0 : Array Value) (hw : ∀ d ∈ tables_1, d.before a0 Z = true) (ws : List Jvm.Cond) (a1 : Addr) (b1 el : Addr) (md : Int32) (h0 : Heap) (n0 : Nat) (Z0 : n0 ≤ h0.size) (hA : OAL Z h0 a1 b1 0 md) (Sel : Sta Z h0 "java/util/ImmutableCollections" "EMPTY_LIST" "Ljava/util/ImmutableCollections$ListN;" (.ref el)) :
    MetFree l (⟨"java/util/ImmutableCollections", "listCopy", "(Ljava/util/Collection;)Ljava/util/List;"⟩ : MethodName) (head1 (Jvm.Cond.code (⟨"java/util/ImmutableCollections", "listCopy", "(Ljava/util/Collection;)Ljava/util/List;"⟩ : MethodName) jdk_56_method_3_code 2 (some (.object "java/util/List")) :: ws) ({ frames := 1, cells := 0, slots := 0, locals := 12 } : Room)) (fun a U => a = #[(.ref a1)] ∧ Z.Warmed39 U.vm ∧ U.heap = h0) (fun _ _ _ _ _ => True) (fun _ U o U' => ∃ v L, o = .returned v ∧ Q_lc0 Z a1 b1 el md h0 n0 v U'.heap L ∧ FrameEnd U o U' L ({ frames := 1, cells := 0, slots := 0, locals := 12 } : Room).cells ({ frames := 1, cells := 0, slots := 0, locals := 12 } : Room).slots) := by
  refine MetFree.of_bodySF (plainFor_of_name pn_java_util_ImmutableCollections) hisR ?_
  intro p e s m args below meth c s₁ Bd hml0 hP hK
  obtain ⟨rfl, hZ, hh⟩ := hP
  have hx := Bd.exec
  have hby := Bd.bytes
  have hml : c.maxLocals = 2 := hml0
  have hown : s.vm.findClass "java/util/ImmutableCollections" = some m.cls := findClass_of_methodNamed Bd.named
  have hnm := (name_of_methodNamed Bd.named Bd.method).1
  have X0 : Stand p l e ({ frames := 1, cells := 0, slots := 0, locals := 12 } : Room) s m #[(.ref a1)] below meth c s₁ [] 0 0 := Stand.of_body Bd
  have e0 : s₁.heap = h0 := by rw [← hh, Bd.state]; rfl
  have N0 := Fr.nil n0
  obtain ⟨S0, hS0⟩ : ∃ S0, S0 = s₁.setTop (entryFrame m #[(.ref a1)] 2) := ⟨_, rfl⟩
  have pre : Pth p e below S0 s₁ (mkF m 0 #[rv a1, .unset] []) := fun t k => by rw [hS0]; exact castTop (ef_lc0 m a1) k
  have ns1 : NS Z "java/util/ArrayList" "java/util/ImmutableCollections$List12" := (NS.step (own_t hw 150 rfl) (NS.step (own_t hw 151 rfl) (NS.step (own_t hw 152 rfl) (own_root (own_t hw 153 rfl) (own_t hw 228 rfl) (by decide)) (by decide)) (by decide)) (by decide))
  have ns2 : NS Z "java/util/ArrayList" "java/util/ImmutableCollections$ListN" := (NS.step (own_t hw 150 rfl) (NS.step (own_t hw 151 rfl) (NS.step (own_t hw 152 rfl) (own_root (own_t hw 153 rfl) (own_t hw 206 rfl) (by decide)) (by decide)) (by decide)) (by decide))
  replace pre : Pth p e below S0 s₁ (mkF m 1 #[rv a1, .unset] [(.ref a1)]) := fun t k => pre t (by
    show SS p e below s₁ (mkF m 0 #[rv a1, .unset] []) t
    refine XS.aloadN X0.here hx rfl (hb hby d_lc0_0) rfl rfl ?_
    show SS p e below s₁ (mkF m 1 #[rv a1, .unset] [(.ref a1)]) t
    exact k)
  obtain ⟨T155, X155, e155, st155⟩ := instNo X0 hx hZ hown (own_t hw 149 rfl) e0 hA.1 (own_no (own_t hw 150 rfl) (own_t hw 228 rfl) ns1 (by decide)) (g := (mkF m 1 #[rv a1, .unset] [(.ref a1)])) rfl rfl (hb hby d_lc0_1)
  replace pre : Pth p e below S0 T155 (mkF m 4 #[rv a1, .unset] [(.int (0 : Int32))]) := fun t k => pre t (st155 _ k)
  replace pre : Pth p e below S0 T155 (mkF m 8 #[rv a1, .unset] [(.ref a1)]) := fun t k => pre t (by
    show SS p e below T155 (mkF m 4 #[rv a1, .unset] [(.int (0 : Int32))]) t
    refine XS.ifNo X155.here hx rfl (hb hby d_lc0_4) rfl (XT.i0_ne_f rfl) ?_
    show SS p e below T155 (mkF m 7 #[rv a1, .unset] []) t
    refine XS.aloadN X155.here hx rfl (hb hby d_lc0_7) rfl rfl ?_
    show SS p e below T155 (mkF m 8 #[rv a1, .unset] [(.ref a1)]) t
    exact k)
  obtain ⟨T156, X156, e156, st156⟩ := instNo X155 hx hZ hown (own_t hw 154 rfl) e155 hA.1 (own_no (own_t hw 150 rfl) (own_t hw 206 rfl) ns2 (by decide)) (g := (mkF m 8 #[rv a1, .unset] [(.ref a1)])) rfl rfl (hb hby d_lc0_8)
  replace pre : Pth p e below S0 T156 (mkF m 11 #[rv a1, .unset] [(.int (0 : Int32))]) := fun t k => pre t (st156 _ k)
  replace pre : Pth p e below S0 T156 (mkF m 32 #[rv a1, .unset] [(.ref a1)]) := fun t k => pre t (by
    show SS p e below T156 (mkF m 11 #[rv a1, .unset] [(.int (0 : Int32))]) t
    refine XS.ifYes X156.here hx rfl (pc0 := 11) (pc' := 31) rfl (hb hby d_lc0_11) rfl (XT.i0_eq_t rfl) (by decide) (by decide) ?_
    show SS p e below T156 (mkF m 31 #[rv a1, .unset] []) t
    refine XS.aloadN X156.here hx rfl (hb hby d_lc0_31) rfl rfl ?_
    show SS p e below T156 (mkF m 32 #[rv a1, .unset] [(.ref a1)]) t
    exact k)
  obtain ⟨cq157, kq157, q157a, q157b, q157c⟩ := isOf hZ e156 hA.1
  obtain ⟨_, _, ⟨T157, L157, k157, n157⟩, -, X157, ⟨Lc157, hQ157, l157, y157, z157⟩, st157⟩ := X156.interfaceBack hx (xi := (⟨"java/util/Collection", "isEmpty", "()Z"⟩ : MethodName)) (y := (⟨"java/util/ArrayList", "isEmpty", "()Z"⟩ : MethodName)) hown (mvT hZ (own_t hw 155 rfl)) (mvT hZ (own_t hw 156 rfl)) (mvT hZ (own_t hw 157 rfl)) (mvT hZ (own_t hw 158 rfl)) (mvT hZ (own_t hw 159 rfl)) (mvT hZ (own_t hw 160 rfl)) (mvT hZ (own_t hw 161 rfl)) (mvT hZ (own_t hw 162 rfl)) (by decide) (backOf (W := 0) (rm_ie0 l Z a0 hw [] a1 b1 md h0 n0 hA) hZ (own_t hw 163 rfl) (own_t hw 32 rfl) (by decide) (by decide)) q157a q157b q157c (g := (mkF m 32 #[rv a1, .unset] [(.ref a1)])) rfl (by rw [hml]; rfl) (Steps.refl _) (argsL := []) (rest := []) (lenOf pd___Z rfl) rfl (by show 2 * 0 + _ ≤ _; exact Nat.le_of_eq rfl) (hb hby d_lc0_32) (fun _ _ => ⟨rfl, e156, (by decide : 0 + 0 ≤ _), (by decide : 0 + 0 ≤ _)⟩)
  dsimp only [Pt.U, Pt.locs, Pt.cells, Pt.slots] at X157 l157 y157 z157 st157 hQ157
  subst l157 y157 z157
  obtain ⟨rfl, N157q, e157⟩ := hQ157
  have N157 := Fr.app N0 N157q
  replace pre : Pth p e below S0 T157 (mkF m 37 #[rv a1, .unset] [(.int (1 : Int32))]) := fun t k => pre t (st157.trans k)
  replace pre : Pth p e below S0 T157 (mkF m 40 #[rv a1, .unset] []) := fun t k => pre t (by
    show SS p e below T157 (mkF m 37 #[rv a1, .unset] [(.int (1 : Int32))]) t
    refine XS.ifNo X157.here hx rfl (hb hby d_lc0_37) rfl (XT.i0_eq_f (by decide)) ?_
    show SS p e below T157 (mkF m 40 #[rv a1, .unset] []) t
    exact k)
  obtain ⟨_, _, ⟨T158, L158, k158, n158⟩, -, X158, ⟨Lc158, hQ158, l158, y158, z158⟩, st158⟩ := Jvm.LawKit.callS X157 hx (y := (⟨"java/util/List", "of", "()Ljava/util/List;"⟩ : MethodName)) hown (mvT hZ (own_t hw 164 rfl)) (mvT hZ (own_t hw 126 rfl)) (mvT hZ (own_t hw 127 rfl)) (mvT hZ (own_t hw 128 rfl)) (by decide) (backOf (W := 0) (rm_lof l Z a0 hw [] el h0 n0 Sel) hZ (own_t hw 128 rfl) (own_t hw 127 rfl) (by decide) (by decide)) (g := (mkF m 40 #[rv a1, .unset] [])) rfl (by rw [hml]; rfl) (argsL := []) (rest := []) (lenOf pd___Ljava_util_List_ rfl) rfl (by show 2 * 0 + _ ≤ _; exact Nat.le_of_eq rfl) (hb hby d_lc0_40) (fun _ _ => ⟨rfl, e157, (by decide : 0 + 0 ≤ _), (by decide : 0 + 0 ≤ _)⟩)
  dsimp only [Pt.U, Pt.locs, Pt.cells, Pt.slots] at X158 l158 y158 z158 st158 hQ158
  subst l158 y158 z158
  obtain ⟨rfl, N158q, e158⟩ := hQ158
  have N158 := Fr.app N157 N158q
  replace pre : Pth p e below S0 T158 (mkF m 43 #[rv a1, .unset] [(.ref el)]) := fun t k => pre t (st158 _ k)
  obtain ⟨fs, hr, hrun, hended, hW, hsame⟩ := X158.leave (v := some (.ref el)) (fun h => by rw [Bd.returns] at h; cases h)
  subst hS0
  refine ⟨_, _, pre _ ?_, hrun, hended, _, _, rfl, ?_, ⟨_, rfl⟩, hW, hsame.mono (by decide) (by decide)⟩
  · exact retOut X158 hx (t := (.object "java/util/List")) Bd.returns rfl (by simp [Value.isRef, FieldType.isReference]) (hb hby d_lc0_43) hr
  · show Q_lc0 Z a1 b1 el md h0 n0 _ T158.heap _
    rw [e158]
    exact ⟨rfl, N158, rfl⟩
def Q_lc1 (Z : State) (a1 : Addr) (b1 mr : Addr) (md : Int32) (f : Nat → Value) (y1 em : Addr) (h0 : Heap) (n0 : Nat) (v : Option Value) (h : Heap) (L : List Loc) : Prop := ∃ r, v = some (.ref r) ∧ Fr n0 L ∧ Ext h0 h ∧ OL1 Z h r em
set_option maxRecDepth 65536 in
set_option maxHeartbeats 40000000 in
theorem rm_lc1 (l : Launch) (Z : State) (a0 : Array Value) (hw : ∀ d ∈ tables_1, d.before a0 Z = true) (ws : List Jvm.Cond) (a1 : Addr) (b1 mr : Addr) (md : Int32) (f : Nat → Value) (y1 em : Addr) (h0 : Heap) (n0 : Nat) (Z0 : n0 ≤ h0.size) (hA : OAL Z h0 a1 b1 1 md) (M : OMir Z "[Ljava/lang/Object;" mr) (Fa : OArr Z h0 b1 10 f) (hf : ∀ j, j < 10 → f j = .null ∨ ∃ y, f j = .ref y ∧ Ins Z h0 y "java/lang/Object" true) (fq0 : f 0 = .ref y1) (Sem : Sta Z h0 "java/util/ImmutableCollections" "EMPTY" "Ljava/lang/Object;" (.ref em)) :
    MetFree l (⟨"java/util/ImmutableCollections", "listCopy", "(Ljava/util/Collection;)Ljava/util/List;"⟩ : MethodName) (head1 (Jvm.Cond.code (⟨"java/util/ImmutableCollections", "listCopy", "(Ljava/util/Collection;)Ljava/util/List;"⟩ : MethodName) jdk_56_method_3_code 2 (some (.object "java/util/List")) :: ws) ({ frames := 6, cells := 2, slots := 3, locals := 85 } : Room)) (fun a U => a = #[(.ref a1)] ∧ Z.Warmed39 U.vm ∧ U.heap = h0) (fun _ _ _ _ _ => True) (fun _ U o U' => ∃ v L, o = .returned v ∧ Q_lc1 Z a1 b1 mr md f y1 em h0 n0 v U'.heap L ∧ FrameEnd U o U' L ({ frames := 6, cells := 2, slots := 3, locals := 85 } : Room).cells ({ frames := 6, cells := 2, slots := 3, locals := 85 } : Room).slots) := by
  refine MetFree.of_bodySF (plainFor_of_name pn_java_util_ImmutableCollections) hisR ?_
  intro p e s m args below meth c s₁ Bd hml0 hP hK
  obtain ⟨rfl, hZ, hh⟩ := hP
  have hx := Bd.exec
  have hby := Bd.bytes
  have hml : c.maxLocals = 2 := hml0
  have hown : s.vm.findClass "java/util/ImmutableCollections" = some m.cls := findClass_of_methodNamed Bd.named
  have hnm := (name_of_methodNamed Bd.named Bd.method).1
  have X0 : Stand p l e ({ frames := 6, cells := 2, slots := 3, locals := 85 } : Room) s m #[(.ref a1)] below meth c s₁ [] 0 0 := Stand.of_body Bd
  have e0 : s₁.heap = h0 := by rw [← hh, Bd.state]; rfl
  have N0 := Fr.nil n0
  obtain ⟨S0, hS0⟩ : ∃ S0, S0 = s₁.setTop (entryFrame m #[(.ref a1)] 2) := ⟨_, rfl⟩
  have pre : Pth p e below S0 s₁ (mkF m 0 #[rv a1, .unset] []) := fun t k => by rw [hS0]; exact castTop (ef_lc1 m a1) k
  have ns1 : NS Z "java/util/ArrayList" "java/util/ImmutableCollections$List12" := (NS.step (own_t hw 150 rfl) (NS.step (own_t hw 151 rfl) (NS.step (own_t hw 152 rfl) (own_root (own_t hw 153 rfl) (own_t hw 228 rfl) (by decide)) (by decide)) (by decide)) (by decide))
  have ns2 : NS Z "java/util/ArrayList" "java/util/ImmutableCollections$ListN" := (NS.step (own_t hw 150 rfl) (NS.step (own_t hw 151 rfl) (NS.step (own_t hw 152 rfl) (own_root (own_t hw 153 rfl) (own_t hw 206 rfl) (by decide)) (by decide)) (by decide)) (by decide))
  replace pre : Pth p e below S0 s₁ (mkF m 1 #[rv a1, .unset] [(.ref a1)]) := fun t k => pre t (by
    show SS p e below s₁ (mkF m 0 #[rv a1, .unset] []) t
    refine XS.aloadN X0.here hx rfl (hb hby d_lc1_0) rfl rfl ?_
    show SS p e below s₁ (mkF m 1 #[rv a1, .unset] [(.ref a1)]) t
    exact k)
  obtain ⟨T159, X159, e159, st159⟩ := instNo X0 hx hZ hown (own_t hw 149 rfl) e0 hA.1 (own_no (own_t hw 150 rfl) (own_t hw 228 rfl) ns1 (by decide)) (g := (mkF m 1 #[rv a1, .unset] [(.ref a1)])) rfl rfl (hb hby d_lc1_1)
  replace pre : Pth p e below S0 T159 (mkF m 4 #[rv a1, .unset] [(.int (0 : Int32))]) := fun t k => pre t (st159 _ k)
  replace pre : Pth p e below S0 T159 (mkF m 8 #[rv a1, .unset] [(.ref a1)]) := fun t k => pre t (by
    show SS p e below T159 (mkF m 4 #[rv a1, .unset] [(.int (0 : Int32))]) t
    refine XS.ifNo X159.here hx rfl (hb hby d_lc1_4) rfl (XT.i0_ne_f rfl) ?_
    show SS p e below T159 (mkF m 7 #[rv a1, .unset] []) t
    refine XS.aloadN X159.here hx rfl (hb hby d_lc1_7) rfl rfl ?_
    show SS p e below T159 (mkF m 8 #[rv a1, .unset] [(.ref a1)]) t
    exact k)
  obtain ⟨T160, X160, e160, st160⟩ := instNo X159 hx hZ hown (own_t hw 154 rfl) e159 hA.1 (own_no (own_t hw 150 rfl) (own_t hw 206 rfl) ns2 (by decide)) (g := (mkF m 8 #[rv a1, .unset] [(.ref a1)])) rfl rfl (hb hby d_lc1_8)
  replace pre : Pth p e below S0 T160 (mkF m 11 #[rv a1, .unset] [(.int (0 : Int32))]) := fun t k => pre t (st160 _ k)
  replace pre : Pth p e below S0 T160 (mkF m 32 #[rv a1, .unset] [(.ref a1)]) := fun t k => pre t (by
    show SS p e below T160 (mkF m 11 #[rv a1, .unset] [(.int (0 : Int32))]) t
    refine XS.ifYes X160.here hx rfl (pc0 := 11) (pc' := 31) rfl (hb hby d_lc1_11) rfl (XT.i0_eq_t rfl) (by decide) (by decide) ?_
    show SS p e below T160 (mkF m 31 #[rv a1, .unset] []) t
    refine XS.aloadN X160.here hx rfl (hb hby d_lc1_31) rfl rfl ?_
    show SS p e below T160 (mkF m 32 #[rv a1, .unset] [(.ref a1)]) t
    exact k)
  obtain ⟨cq161, kq161, q161a, q161b, q161c⟩ := isOf hZ e160 hA.1
  obtain ⟨_, _, ⟨T161, L161, k161, n161⟩, -, X161, ⟨Lc161, hQ161, l161, y161, z161⟩, st161⟩ := X160.interfaceBack hx (xi := (⟨"java/util/Collection", "isEmpty", "()Z"⟩ : MethodName)) (y := (⟨"java/util/ArrayList", "isEmpty", "()Z"⟩ : MethodName)) hown (mvT hZ (own_t hw 155 rfl)) (mvT hZ (own_t hw 156 rfl)) (mvT hZ (own_t hw 157 rfl)) (mvT hZ (own_t hw 158 rfl)) (mvT hZ (own_t hw 159 rfl)) (mvT hZ (own_t hw 160 rfl)) (mvT hZ (own_t hw 161 rfl)) (mvT hZ (own_t hw 162 rfl)) (by decide) (backOf (W := 0) (rm_ie1 l Z a0 hw [] a1 b1 md h0 n0 hA) hZ (own_t hw 163 rfl) (own_t hw 32 rfl) (by decide) (by decide)) q161a q161b q161c (g := (mkF m 32 #[rv a1, .unset] [(.ref a1)])) rfl (by rw [hml]; rfl) (Steps.refl _) (argsL := []) (rest := []) (lenOf pd___Z rfl) rfl (by show 2 * 0 + _ ≤ _; exact Nat.le_of_eq rfl) (hb hby d_lc1_32) (fun _ _ => ⟨rfl, e160, (by decide : 0 + 0 ≤ _), (by decide : 0 + 0 ≤ _)⟩)
  dsimp only [Pt.U, Pt.locs, Pt.cells, Pt.slots] at X161 l161 y161 z161 st161 hQ161
  subst l161 y161 z161
  obtain ⟨rfl, N161q, e161⟩ := hQ161
  have N161 := Fr.app N0 N161q
  replace pre : Pth p e below S0 T161 (mkF m 37 #[rv a1, .unset] [(.int (0 : Int32))]) := fun t k => pre t (st161.trans k)
  replace pre : Pth p e below S0 T161 (mkF m 45 #[rv a1, .unset] [(.ref a1)]) := fun t k => pre t (by
    show SS p e below T161 (mkF m 37 #[rv a1, .unset] [(.int (0 : Int32))]) t
    refine XS.ifYes X161.here hx rfl (pc0 := 37) (pc' := 44) rfl (hb hby d_lc1_37) rfl (XT.i0_eq_t rfl) (by decide) (by decide) ?_
    show SS p e below T161 (mkF m 44 #[rv a1, .unset] []) t
    refine XS.aloadN X161.here hx rfl (hb hby d_lc1_44) rfl rfl ?_
    show SS p e below T161 (mkF m 45 #[rv a1, .unset] [(.ref a1)]) t
    exact k)
  obtain ⟨cq162, kq162, q162a, q162b, q162c⟩ := isOf hZ e161 hA.1
  obtain ⟨_, _, ⟨T162, L162, k162, n162⟩, -, X162, ⟨Lc162, hQ162, l162, y162, z162⟩, st162⟩ := X161.interfaceBack hx (xi := (⟨"java/util/Collection", "toArray", "()[Ljava/lang/Object;"⟩ : MethodName)) (y := (⟨"java/util/ArrayList", "toArray", "()[Ljava/lang/Object;"⟩ : MethodName)) hown (mvT hZ (own_t hw 165 rfl)) (mvT hZ (own_t hw 166 rfl)) (mvT hZ (own_t hw 167 rfl)) (mvT hZ (own_t hw 168 rfl)) (mvT hZ (own_t hw 169 rfl)) (mvT hZ (own_t hw 170 rfl)) (mvT hZ (own_t hw 171 rfl)) (mvT hZ (own_t hw 162 rfl)) (by decide) (backOf (W := 0) (rm_toa1 l Z a0 hw [] a1 b1 mr md f h0 n0 Z0 hA M Fa hf) hZ (own_t hw 172 rfl) (own_t hw 32 rfl) (by decide) (by decide)) q162a q162b q162c (g := (mkF m 45 #[rv a1, .unset] [(.ref a1)])) rfl (by rw [hml]; rfl) (Steps.refl _) (argsL := []) (rest := []) (lenOf pd____Ljava_lang_Object_ rfl) rfl (by show 2 * 0 + _ ≤ _; exact Nat.le_of_eq rfl) (hb hby d_lc1_45) (fun _ _ => ⟨rfl, e161, (by decide : 0 + 1 ≤ _), (by decide : 0 + 1 ≤ _)⟩)
  dsimp only [Pt.U, Pt.locs, Pt.cells, Pt.slots] at X162 l162 y162 z162 st162 hQ162
  subst l162 y162 z162
  obtain ⟨bb, rfl, N162q, E162, O162⟩ := hQ162
  have N162 := Fr.app N161 N162q
  replace pre : Pth p e below S0 T162 (mkF m 50 #[rv a1, .unset] [(.ref bb)]) := fun t k => pre t (st162.trans k)
  obtain ⟨_, _, ⟨T163, L163, k163, n163⟩, -, X163, ⟨Lc163, hQ163, l163, y163, z163⟩, st163⟩ := Jvm.LawKit.callS X162 hx (y := (⟨"java/util/List", "of", "([Ljava/lang/Object;)Ljava/util/List;"⟩ : MethodName)) hown (mvT hZ (own_t hw 195 rfl)) (mvT hZ (own_t hw 196 rfl)) (mvT hZ (own_t hw 127 rfl)) (mvT hZ (own_t hw 197 rfl)) (by decide) (backOf (W := 0) (rm_lo1 l Z a0 hw [] bb y1 em f T162.heap n0 (Nat.le_trans Z0 E162.1) O162 fq0 (Sem.ext E162)) hZ (own_t hw 197 rfl) (own_t hw 127 rfl) (by decide) (by decide)) (g := (mkF m 50 #[rv a1, .unset] [(.ref bb)])) rfl (by rw [hml]; rfl) (argsL := [(.ref bb)]) (rest := []) (lenOf pd___Ljava_lang_Object__Ljava_util_List_ rfl) rfl (by show 2 * 0 + _ ≤ _; exact Nat.le_of_eq rfl) (hb hby d_lc1_50) (fun _ _ => ⟨rfl, rfl, (by decide : 1 + 1 ≤ _), (by decide : 1 + 2 ≤ _)⟩)
  dsimp only [Pt.U, Pt.locs, Pt.cells, Pt.slots] at X163 l163 y163 z163 st163 hQ163
  subst l163 y163 z163
  obtain ⟨rr, rfl, N163q, E163, O163⟩ := hQ163
  have N163 := Fr.app N162 N163q
  replace pre : Pth p e below S0 T163 (mkF m 53 #[rv a1, .unset] [(.ref rr)]) := fun t k => pre t (st163 _ k)
  obtain ⟨fs, hr, hrun, hended, hW, hsame⟩ := X163.leave (v := some (.ref rr)) (fun h => by rw [Bd.returns] at h; cases h)
  subst hS0
  refine ⟨_, _, pre _ ?_, hrun, hended, _, _, rfl, ?_, ⟨_, rfl⟩, hW, hsame.mono (by decide) (by decide)⟩
  · exact retOut X163 hx (t := (.object "java/util/List")) Bd.returns rfl (by simp [Value.isRef, FieldType.isReference]) (hb hby d_lc1_53) hr
  · show Q_lc1 Z a1 b1 mr md f y1 em h0 n0 _ T163.heap _
    exact ⟨rr, rfl, N163, own_ext_trans E162 E163, O163⟩
def Q_lc2 (Z : State) (a1 : Addr) (b1 mr : Addr) (md : Int32) (f : Nat → Value) (y1 y2 : Addr) (h0 : Heap) (n0 : Nat) (v : Option Value) (h : Heap) (L : List Loc) : Prop := ∃ r, v = some (.ref r) ∧ Fr n0 L ∧ Ext h0 h ∧ OL1 Z h r y2
set_option maxRecDepth 65536 in
set_option maxHeartbeats 40000000 in
theorem rm_lc2 (l : Launch) (Z : State) (a0 : Array Value) (hw : ∀ d ∈ tables_1, d.before a0 Z = true) (ws : List Jvm.Cond) (a1 : Addr) (b1 mr : Addr) (md : Int32) (f : Nat → Value) (y1 y2 : Addr) (h0 : Heap) (n0 : Nat) (Z0 : n0 ≤ h0.size) (hA : OAL Z h0 a1 b1 2 md) (M : OMir Z "[Ljava/lang/Object;" mr) (Fa : OArr Z h0 b1 10 f) (hf : ∀ j, j < 10 → f j = .null ∨ ∃ y, f j = .ref y ∧ Ins Z h0 y "java/lang/Object" true) (fq0 : f 0 = .ref y1) (fq1 : f 1 = .ref y2) :
    MetFree l (⟨"java/util/ImmutableCollections", "listCopy", "(Ljava/util/Collection;)Ljava/util/List;"⟩ : MethodName) (head1 (Jvm.Cond.code (⟨"java/util/ImmutableCollections", "listCopy", "(Ljava/util/Collection;)Ljava/util/List;"⟩ : MethodName) jdk_56_method_3_code 2 (some (.object "java/util/List")) :: ws) ({ frames := 6, cells := 2, slots := 4, locals := 85 } : Room)) (fun a U => a = #[(.ref a1)] ∧ Z.Warmed39 U.vm ∧ U.heap = h0) (fun _ _ _ _ _ => True) (fun _ U o U' => ∃ v L, o = .returned v ∧ Q_lc2 Z a1 b1 mr md f y1 y2 h0 n0 v U'.heap L ∧ FrameEnd U o U' L ({ frames := 6, cells := 2, slots := 4, locals := 85 } : Room).cells ({ frames := 6, cells := 2, slots := 4, locals := 85 } : Room).slots) := by
  refine MetFree.of_bodySF (plainFor_of_name pn_java_util_ImmutableCollections) hisR ?_
  intro p e s m args below meth c s₁ Bd hml0 hP hK
  obtain ⟨rfl, hZ, hh⟩ := hP
  have hx := Bd.exec
  have hby := Bd.bytes
  have hml : c.maxLocals = 2 := hml0
  have hown : s.vm.findClass "java/util/ImmutableCollections" = some m.cls := findClass_of_methodNamed Bd.named
  have hnm := (name_of_methodNamed Bd.named Bd.method).1
  have X0 : Stand p l e ({ frames := 6, cells := 2, slots := 4, locals := 85 } : Room) s m #[(.ref a1)] below meth c s₁ [] 0 0 := Stand.of_body Bd
  have e0 : s₁.heap = h0 := by rw [← hh, Bd.state]; rfl
  have N0 := Fr.nil n0
  obtain ⟨S0, hS0⟩ : ∃ S0, S0 = s₁.setTop (entryFrame m #[(.ref a1)] 2) := ⟨_, rfl⟩
  have pre : Pth p e below S0 s₁ (mkF m 0 #[rv a1, .unset] []) := fun t k => by rw [hS0]; exact castTop (ef_lc2 m a1) k
  have ns1 : NS Z "java/util/ArrayList" "java/util/ImmutableCollections$List12" := (NS.step (own_t hw 150 rfl) (NS.step (own_t hw 151 rfl) (NS.step (own_t hw 152 rfl) (own_root (own_t hw 153 rfl) (own_t hw 228 rfl) (by decide)) (by decide)) (by decide)) (by decide))
  have ns2 : NS Z "java/util/ArrayList" "java/util/ImmutableCollections$ListN" := (NS.step (own_t hw 150 rfl) (NS.step (own_t hw 151 rfl) (NS.step (own_t hw 152 rfl) (own_root (own_t hw 153 rfl) (own_t hw 206 rfl) (by decide)) (by decide)) (by decide)) (by decide))
  replace pre : Pth p e below S0 s₁ (mkF m 1 #[rv a1, .unset] [(.ref a1)]) := fun t k => pre t (by
    show SS p e below s₁ (mkF m 0 #[rv a1, .unset] []) t
    refine XS.aloadN X0.here hx rfl (hb hby d_lc2_0) rfl rfl ?_
    show SS p e below s₁ (mkF m 1 #[rv a1, .unset] [(.ref a1)]) t
    exact k)
  obtain ⟨T164, X164, e164, st164⟩ := instNo X0 hx hZ hown (own_t hw 149 rfl) e0 hA.1 (own_no (own_t hw 150 rfl) (own_t hw 228 rfl) ns1 (by decide)) (g := (mkF m 1 #[rv a1, .unset] [(.ref a1)])) rfl rfl (hb hby d_lc2_1)
  replace pre : Pth p e below S0 T164 (mkF m 4 #[rv a1, .unset] [(.int (0 : Int32))]) := fun t k => pre t (st164 _ k)
  replace pre : Pth p e below S0 T164 (mkF m 8 #[rv a1, .unset] [(.ref a1)]) := fun t k => pre t (by
    show SS p e below T164 (mkF m 4 #[rv a1, .unset] [(.int (0 : Int32))]) t
    refine XS.ifNo X164.here hx rfl (hb hby d_lc2_4) rfl (XT.i0_ne_f rfl) ?_
    show SS p e below T164 (mkF m 7 #[rv a1, .unset] []) t
    refine XS.aloadN X164.here hx rfl (hb hby d_lc2_7) rfl rfl ?_
    show SS p e below T164 (mkF m 8 #[rv a1, .unset] [(.ref a1)]) t
    exact k)
  obtain ⟨T165, X165, e165, st165⟩ := instNo X164 hx hZ hown (own_t hw 154 rfl) e164 hA.1 (own_no (own_t hw 150 rfl) (own_t hw 206 rfl) ns2 (by decide)) (g := (mkF m 8 #[rv a1, .unset] [(.ref a1)])) rfl rfl (hb hby d_lc2_8)
  replace pre : Pth p e below S0 T165 (mkF m 11 #[rv a1, .unset] [(.int (0 : Int32))]) := fun t k => pre t (st165 _ k)
  replace pre : Pth p e below S0 T165 (mkF m 32 #[rv a1, .unset] [(.ref a1)]) := fun t k => pre t (by
    show SS p e below T165 (mkF m 11 #[rv a1, .unset] [(.int (0 : Int32))]) t
    refine XS.ifYes X165.here hx rfl (pc0 := 11) (pc' := 31) rfl (hb hby d_lc2_11) rfl (XT.i0_eq_t rfl) (by decide) (by decide) ?_
    show SS p e below T165 (mkF m 31 #[rv a1, .unset] []) t
    refine XS.aloadN X165.here hx rfl (hb hby d_lc2_31) rfl rfl ?_
    show SS p e below T165 (mkF m 32 #[rv a1, .unset] [(.ref a1)]) t
    exact k)
  obtain ⟨cq166, kq166, q166a, q166b, q166c⟩ := isOf hZ e165 hA.1
  obtain ⟨_, _, ⟨T166, L166, k166, n166⟩, -, X166, ⟨Lc166, hQ166, l166, y166, z166⟩, st166⟩ := X165.interfaceBack hx (xi := (⟨"java/util/Collection", "isEmpty", "()Z"⟩ : MethodName)) (y := (⟨"java/util/ArrayList", "isEmpty", "()Z"⟩ : MethodName)) hown (mvT hZ (own_t hw 155 rfl)) (mvT hZ (own_t hw 156 rfl)) (mvT hZ (own_t hw 157 rfl)) (mvT hZ (own_t hw 158 rfl)) (mvT hZ (own_t hw 159 rfl)) (mvT hZ (own_t hw 160 rfl)) (mvT hZ (own_t hw 161 rfl)) (mvT hZ (own_t hw 162 rfl)) (by decide) (backOf (W := 0) (rm_ie2 l Z a0 hw [] a1 b1 md h0 n0 hA) hZ (own_t hw 163 rfl) (own_t hw 32 rfl) (by decide) (by decide)) q166a q166b q166c (g := (mkF m 32 #[rv a1, .unset] [(.ref a1)])) rfl (by rw [hml]; rfl) (Steps.refl _) (argsL := []) (rest := []) (lenOf pd___Z rfl) rfl (by show 2 * 0 + _ ≤ _; exact Nat.le_of_eq rfl) (hb hby d_lc2_32) (fun _ _ => ⟨rfl, e165, (by decide : 0 + 0 ≤ _), (by decide : 0 + 0 ≤ _)⟩)
  dsimp only [Pt.U, Pt.locs, Pt.cells, Pt.slots] at X166 l166 y166 z166 st166 hQ166
  subst l166 y166 z166
  obtain ⟨rfl, N166q, e166⟩ := hQ166
  have N166 := Fr.app N0 N166q
  replace pre : Pth p e below S0 T166 (mkF m 37 #[rv a1, .unset] [(.int (0 : Int32))]) := fun t k => pre t (st166.trans k)
  replace pre : Pth p e below S0 T166 (mkF m 45 #[rv a1, .unset] [(.ref a1)]) := fun t k => pre t (by
    show SS p e below T166 (mkF m 37 #[rv a1, .unset] [(.int (0 : Int32))]) t
    refine XS.ifYes X166.here hx rfl (pc0 := 37) (pc' := 44) rfl (hb hby d_lc2_37) rfl (XT.i0_eq_t rfl) (by decide) (by decide) ?_
    show SS p e below T166 (mkF m 44 #[rv a1, .unset] []) t
    refine XS.aloadN X166.here hx rfl (hb hby d_lc2_44) rfl rfl ?_
    show SS p e below T166 (mkF m 45 #[rv a1, .unset] [(.ref a1)]) t
    exact k)
  obtain ⟨cq167, kq167, q167a, q167b, q167c⟩ := isOf hZ e166 hA.1
  obtain ⟨_, _, ⟨T167, L167, k167, n167⟩, -, X167, ⟨Lc167, hQ167, l167, y167, z167⟩, st167⟩ := X166.interfaceBack hx (xi := (⟨"java/util/Collection", "toArray", "()[Ljava/lang/Object;"⟩ : MethodName)) (y := (⟨"java/util/ArrayList", "toArray", "()[Ljava/lang/Object;"⟩ : MethodName)) hown (mvT hZ (own_t hw 165 rfl)) (mvT hZ (own_t hw 166 rfl)) (mvT hZ (own_t hw 167 rfl)) (mvT hZ (own_t hw 168 rfl)) (mvT hZ (own_t hw 169 rfl)) (mvT hZ (own_t hw 170 rfl)) (mvT hZ (own_t hw 171 rfl)) (mvT hZ (own_t hw 162 rfl)) (by decide) (backOf (W := 0) (rm_toa2 l Z a0 hw [] a1 b1 mr md f h0 n0 Z0 hA M Fa hf) hZ (own_t hw 172 rfl) (own_t hw 32 rfl) (by decide) (by decide)) q167a q167b q167c (g := (mkF m 45 #[rv a1, .unset] [(.ref a1)])) rfl (by rw [hml]; rfl) (Steps.refl _) (argsL := []) (rest := []) (lenOf pd____Ljava_lang_Object_ rfl) rfl (by show 2 * 0 + _ ≤ _; exact Nat.le_of_eq rfl) (hb hby d_lc2_45) (fun _ _ => ⟨rfl, e166, (by decide : 0 + 1 ≤ _), (by decide : 0 + 2 ≤ _)⟩)
  dsimp only [Pt.U, Pt.locs, Pt.cells, Pt.slots] at X167 l167 y167 z167 st167 hQ167
  subst l167 y167 z167
  obtain ⟨bb, rfl, N167q, E167, O167⟩ := hQ167
  have N167 := Fr.app N166 N167q
  replace pre : Pth p e below S0 T167 (mkF m 50 #[rv a1, .unset] [(.ref bb)]) := fun t k => pre t (st167.trans k)
  obtain ⟨_, _, ⟨T168, L168, k168, n168⟩, -, X168, ⟨Lc168, hQ168, l168, y168, z168⟩, st168⟩ := Jvm.LawKit.callS X167 hx (y := (⟨"java/util/List", "of", "([Ljava/lang/Object;)Ljava/util/List;"⟩ : MethodName)) hown (mvT hZ (own_t hw 195 rfl)) (mvT hZ (own_t hw 196 rfl)) (mvT hZ (own_t hw 127 rfl)) (mvT hZ (own_t hw 197 rfl)) (by decide) (backOf (W := 0) (rm_lo2 l Z a0 hw [] bb y1 y2 f T167.heap n0 (Nat.le_trans Z0 E167.1) O167 fq0 fq1) hZ (own_t hw 197 rfl) (own_t hw 127 rfl) (by decide) (by decide)) (g := (mkF m 50 #[rv a1, .unset] [(.ref bb)])) rfl (by rw [hml]; rfl) (argsL := [(.ref bb)]) (rest := []) (lenOf pd___Ljava_lang_Object__Ljava_util_List_ rfl) rfl (by show 2 * 0 + _ ≤ _; exact Nat.le_of_eq rfl) (hb hby d_lc2_50) (fun _ _ => ⟨rfl, rfl, (by decide : 1 + 1 ≤ _), (by decide : 2 + 2 ≤ _)⟩)
  dsimp only [Pt.U, Pt.locs, Pt.cells, Pt.slots] at X168 l168 y168 z168 st168 hQ168
  subst l168 y168 z168
  obtain ⟨rr, rfl, N168q, E168, O168⟩ := hQ168
  have N168 := Fr.app N167 N168q
  replace pre : Pth p e below S0 T168 (mkF m 53 #[rv a1, .unset] [(.ref rr)]) := fun t k => pre t (st168 _ k)
  obtain ⟨fs, hr, hrun, hended, hW, hsame⟩ := X168.leave (v := some (.ref rr)) (fun h => by rw [Bd.returns] at h; cases h)
  subst hS0
  refine ⟨_, _, pre _ ?_, hrun, hended, _, _, rfl, ?_, ⟨_, rfl⟩, hW, hsame.mono (by decide) (by decide)⟩
  · exact retOut X168 hx (t := (.object "java/util/List")) Bd.returns rfl (by simp [Value.isRef, FieldType.isReference]) (hb hby d_lc2_53) hr
  · show Q_lc2 Z a1 b1 mr md f y1 y2 h0 n0 _ T168.heap _
    exact ⟨rr, rfl, N168, own_ext_trans E167 E168, O168⟩
def Q_lc3 (Z : State) (a1 : Addr) (b1 mr : Addr) (md : Int32) (f : Nat → Value) (y1 y2 y3 : Addr) (h0 : Heap) (n0 : Nat) (v : Option Value) (h : Heap) (L : List Loc) : Prop := ∃ r, v = some (.ref r) ∧ Fr n0 L ∧ Ext h0 h ∧ OL3 Z h r
set_option maxRecDepth 65536 in
set_option maxHeartbeats 40000000 in
theorem rm_lc3 (l : Launch) (Z : State) (a0 : Array Value) (hw : ∀ d ∈ tables_1, d.before a0 Z = true) (ws : List Jvm.Cond) (a1 : Addr) (b1 mr : Addr) (md : Int32) (f : Nat → Value) (y1 y2 y3 : Addr) (h0 : Heap) (n0 : Nat) (Z0 : n0 ≤ h0.size) (hA : OAL Z h0 a1 b1 3 md) (M : OMir Z "[Ljava/lang/Object;" mr) (Fa : OArr Z h0 b1 10 f) (hf : ∀ j, j < 10 → f j = .null ∨ ∃ y, f j = .ref y ∧ Ins Z h0 y "java/lang/Object" true) (fq0 : f 0 = .ref y1) (fq1 : f 1 = .ref y2) (fq2 : f 2 = .ref y3) (I1 : Ins Z h0 y1 "java/lang/Object" true) (I2 : Ins Z h0 y2 "java/lang/Object" true) (I3 : Ins Z h0 y3 "java/lang/Object" true) :
    MetFree l (⟨"java/util/ImmutableCollections", "listCopy", "(Ljava/util/Collection;)Ljava/util/List;"⟩ : MethodName) (head1 (Jvm.Cond.code (⟨"java/util/ImmutableCollections", "listCopy", "(Ljava/util/Collection;)Ljava/util/List;"⟩ : MethodName) jdk_56_method_3_code 2 (some (.object "java/util/List")) :: ws) ({ frames := 7, cells := 3, slots := 8, locals := 90 } : Room)) (fun a U => a = #[(.ref a1)] ∧ Z.Warmed39 U.vm ∧ U.heap = h0) (fun _ _ _ _ _ => True) (fun _ U o U' => ∃ v L, o = .returned v ∧ Q_lc3 Z a1 b1 mr md f y1 y2 y3 h0 n0 v U'.heap L ∧ FrameEnd U o U' L ({ frames := 7, cells := 3, slots := 8, locals := 90 } : Room).cells ({ frames := 7, cells := 3, slots := 8, locals := 90 } : Room).slots) := by
  refine MetFree.of_bodySF (plainFor_of_name pn_java_util_ImmutableCollections) hisR ?_
  intro p e s m args below meth c s₁ Bd hml0 hP hK
  obtain ⟨rfl, hZ, hh⟩ := hP
  have hx := Bd.exec
  have hby := Bd.bytes
  have hml : c.maxLocals = 2 := hml0
  have hown : s.vm.findClass "java/util/ImmutableCollections" = some m.cls := findClass_of_methodNamed Bd.named
  have hnm := (name_of_methodNamed Bd.named Bd.method).1
  have X0 : Stand p l e ({ frames := 7, cells := 3, slots := 8, locals := 90 } : Room) s m #[(.ref a1)] below meth c s₁ [] 0 0 := Stand.of_body Bd
  have e0 : s₁.heap = h0 := by rw [← hh, Bd.state]; rfl
  have N0 := Fr.nil n0
  obtain ⟨S0, hS0⟩ : ∃ S0, S0 = s₁.setTop (entryFrame m #[(.ref a1)] 2) := ⟨_, rfl⟩
  have pre : Pth p e below S0 s₁ (mkF m 0 #[rv a1, .unset] []) := fun t k => by rw [hS0]; exact castTop (ef_lc3 m a1) k
  have ns1 : NS Z "java/util/ArrayList" "java/util/ImmutableCollections$List12" := (NS.step (own_t hw 150 rfl) (NS.step (own_t hw 151 rfl) (NS.step (own_t hw 152 rfl) (own_root (own_t hw 153 rfl) (own_t hw 228 rfl) (by decide)) (by decide)) (by decide)) (by decide))
  have ns2 : NS Z "java/util/ArrayList" "java/util/ImmutableCollections$ListN" := (NS.step (own_t hw 150 rfl) (NS.step (own_t hw 151 rfl) (NS.step (own_t hw 152 rfl) (own_root (own_t hw 153 rfl) (own_t hw 206 rfl) (by decide)) (by decide)) (by decide)) (by decide))
  replace pre : Pth p e below S0 s₁ (mkF m 1 #[rv a1, .unset] [(.ref a1)]) := fun t k => pre t (by
    show SS p e below s₁ (mkF m 0 #[rv a1, .unset] []) t
    refine XS.aloadN X0.here hx rfl (hb hby d_lc3_0) rfl rfl ?_
    show SS p e below s₁ (mkF m 1 #[rv a1, .unset] [(.ref a1)]) t
    exact k)
  obtain ⟨T169, X169, e169, st169⟩ := instNo X0 hx hZ hown (own_t hw 149 rfl) e0 hA.1 (own_no (own_t hw 150 rfl) (own_t hw 228 rfl) ns1 (by decide)) (g := (mkF m 1 #[rv a1, .unset] [(.ref a1)])) rfl rfl (hb hby d_lc3_1)
  replace pre : Pth p e below S0 T169 (mkF m 4 #[rv a1, .unset] [(.int (0 : Int32))]) := fun t k => pre t (st169 _ k)
  replace pre : Pth p e below S0 T169 (mkF m 8 #[rv a1, .unset] [(.ref a1)]) := fun t k => pre t (by
    show SS p e below T169 (mkF m 4 #[rv a1, .unset] [(.int (0 : Int32))]) t
    refine XS.ifNo X169.here hx rfl (hb hby d_lc3_4) rfl (XT.i0_ne_f rfl) ?_
    show SS p e below T169 (mkF m 7 #[rv a1, .unset] []) t
    refine XS.aloadN X169.here hx rfl (hb hby d_lc3_7) rfl rfl ?_
    show SS p e below T169 (mkF m 8 #[rv a1, .unset] [(.ref a1)]) t
    exact k)
  obtain ⟨T170, X170, e170, st170⟩ := instNo X169 hx hZ hown (own_t hw 154 rfl) e169 hA.1 (own_no (own_t hw 150 rfl) (own_t hw 206 rfl) ns2 (by decide)) (g := (mkF m 8 #[rv a1, .unset] [(.ref a1)])) rfl rfl (hb hby d_lc3_8)
  replace pre : Pth p e below S0 T170 (mkF m 11 #[rv a1, .unset] [(.int (0 : Int32))]) := fun t k => pre t (st170 _ k)
  replace pre : Pth p e below S0 T170 (mkF m 32 #[rv a1, .unset] [(.ref a1)]) := fun t k => pre t (by
    show SS p e below T170 (mkF m 11 #[rv a1, .unset] [(.int (0 : Int32))]) t
    refine XS.ifYes X170.here hx rfl (pc0 := 11) (pc' := 31) rfl (hb hby d_lc3_11) rfl (XT.i0_eq_t rfl) (by decide) (by decide) ?_
    show SS p e below T170 (mkF m 31 #[rv a1, .unset] []) t
    refine XS.aloadN X170.here hx rfl (hb hby d_lc3_31) rfl rfl ?_
    show SS p e below T170 (mkF m 32 #[rv a1, .unset] [(.ref a1)]) t
    exact k)
  obtain ⟨cq171, kq171, q171a, q171b, q171c⟩ := isOf hZ e170 hA.1
  obtain ⟨_, _, ⟨T171, L171, k171, n171⟩, -, X171, ⟨Lc171, hQ171, l171, y171, z171⟩, st171⟩ := X170.interfaceBack hx (xi := (⟨"java/util/Collection", "isEmpty", "()Z"⟩ : MethodName)) (y := (⟨"java/util/ArrayList", "isEmpty", "()Z"⟩ : MethodName)) hown (mvT hZ (own_t hw 155 rfl)) (mvT hZ (own_t hw 156 rfl)) (mvT hZ (own_t hw 157 rfl)) (mvT hZ (own_t hw 158 rfl)) (mvT hZ (own_t hw 159 rfl)) (mvT hZ (own_t hw 160 rfl)) (mvT hZ (own_t hw 161 rfl)) (mvT hZ (own_t hw 162 rfl)) (by decide) (backOf (W := 0) (rm_ie3 l Z a0 hw [] a1 b1 md h0 n0 hA) hZ (own_t hw 163 rfl) (own_t hw 32 rfl) (by decide) (by decide)) q171a q171b q171c (g := (mkF m 32 #[rv a1, .unset] [(.ref a1)])) rfl (by rw [hml]; rfl) (Steps.refl _) (argsL := []) (rest := []) (lenOf pd___Z rfl) rfl (by show 2 * 0 + _ ≤ _; exact Nat.le_of_eq rfl) (hb hby d_lc3_32) (fun _ _ => ⟨rfl, e170, (by decide : 0 + 0 ≤ _), (by decide : 0 + 0 ≤ _)⟩)
  dsimp only [Pt.U, Pt.locs, Pt.cells, Pt.slots] at X171 l171 y171 z171 st171 hQ171
  subst l171 y171 z171
  obtain ⟨rfl, N171q, e171⟩ := hQ171
  have N171 := Fr.app N0 N171q
  replace pre : Pth p e below S0 T171 (mkF m 37 #[rv a1, .unset] [(.int (0 : Int32))]) := fun t k => pre t (st171.trans k)
  replace pre : Pth p e below S0 T171 (mkF m 45 #[rv a1, .unset] [(.ref a1)]) := fun t k => pre t (by
    show SS p e below T171 (mkF m 37 #[rv a1, .unset] [(.int (0 : Int32))]) t
    refine XS.ifYes X171.here hx rfl (pc0 := 37) (pc' := 44) rfl (hb hby d_lc3_37) rfl (XT.i0_eq_t rfl) (by decide) (by decide) ?_
    show SS p e below T171 (mkF m 44 #[rv a1, .unset] []) t
    refine XS.aloadN X171.here hx rfl (hb hby d_lc3_44) rfl rfl ?_
    show SS p e below T171 (mkF m 45 #[rv a1, .unset] [(.ref a1)]) t
    exact k)
  obtain ⟨cq172, kq172, q172a, q172b, q172c⟩ := isOf hZ e171 hA.1
  obtain ⟨_, _, ⟨T172, L172, k172, n172⟩, -, X172, ⟨Lc172, hQ172, l172, y172, z172⟩, st172⟩ := X171.interfaceBack hx (xi := (⟨"java/util/Collection", "toArray", "()[Ljava/lang/Object;"⟩ : MethodName)) (y := (⟨"java/util/ArrayList", "toArray", "()[Ljava/lang/Object;"⟩ : MethodName)) hown (mvT hZ (own_t hw 165 rfl)) (mvT hZ (own_t hw 166 rfl)) (mvT hZ (own_t hw 167 rfl)) (mvT hZ (own_t hw 168 rfl)) (mvT hZ (own_t hw 169 rfl)) (mvT hZ (own_t hw 170 rfl)) (mvT hZ (own_t hw 171 rfl)) (mvT hZ (own_t hw 162 rfl)) (by decide) (backOf (W := 0) (rm_toa3 l Z a0 hw [] a1 b1 mr md f h0 n0 Z0 hA M Fa hf) hZ (own_t hw 172 rfl) (own_t hw 32 rfl) (by decide) (by decide)) q172a q172b q172c (g := (mkF m 45 #[rv a1, .unset] [(.ref a1)])) rfl (by rw [hml]; rfl) (Steps.refl _) (argsL := []) (rest := []) (lenOf pd____Ljava_lang_Object_ rfl) rfl (by show 2 * 0 + _ ≤ _; exact Nat.le_of_eq rfl) (hb hby d_lc3_45) (fun _ _ => ⟨rfl, e171, (by decide : 0 + 1 ≤ _), (by decide : 0 + 3 ≤ _)⟩)
  dsimp only [Pt.U, Pt.locs, Pt.cells, Pt.slots] at X172 l172 y172 z172 st172 hQ172
  subst l172 y172 z172
  obtain ⟨bb, rfl, N172q, E172, O172⟩ := hQ172
  have N172 := Fr.app N171 N172q
  replace pre : Pth p e below S0 T172 (mkF m 50 #[rv a1, .unset] [(.ref bb)]) := fun t k => pre t (st172.trans k)
  obtain ⟨_, _, ⟨T173, L173, k173, n173⟩, -, X173, ⟨Lc173, hQ173, l173, y173, z173⟩, st173⟩ := Jvm.LawKit.callS X172 hx (y := (⟨"java/util/List", "of", "([Ljava/lang/Object;)Ljava/util/List;"⟩ : MethodName)) hown (mvT hZ (own_t hw 195 rfl)) (mvT hZ (own_t hw 196 rfl)) (mvT hZ (own_t hw 127 rfl)) (mvT hZ (own_t hw 197 rfl)) (by decide) (backOf (W := 0) (rm_lo3 l Z a0 hw [] bb y1 y2 y3 f T172.heap n0 (Nat.le_trans Z0 E172.1) O172 fq0 fq1 fq2 (I1.ext E172) (I2.ext E172) (I3.ext E172)) hZ (own_t hw 197 rfl) (own_t hw 127 rfl) (by decide) (by decide)) (g := (mkF m 50 #[rv a1, .unset] [(.ref bb)])) rfl (by rw [hml]; rfl) (argsL := [(.ref bb)]) (rest := []) (lenOf pd___Ljava_lang_Object__Ljava_util_List_ rfl) rfl (by show 2 * 0 + _ ≤ _; exact Nat.le_of_eq rfl) (hb hby d_lc3_50) (fun _ _ => ⟨rfl, rfl, (by decide : 1 + 2 ≤ _), (by decide : 3 + 5 ≤ _)⟩)
  dsimp only [Pt.U, Pt.locs, Pt.cells, Pt.slots] at X173 l173 y173 z173 st173 hQ173
  subst l173 y173 z173
  obtain ⟨rr, rfl, N173q, E173, O173⟩ := hQ173
  have N173 := Fr.app N172 N173q
  replace pre : Pth p e below S0 T173 (mkF m 53 #[rv a1, .unset] [(.ref rr)]) := fun t k => pre t (st173 _ k)
  obtain ⟨fs, hr, hrun, hended, hW, hsame⟩ := X173.leave (v := some (.ref rr)) (fun h => by rw [Bd.returns] at h; cases h)
  subst hS0
  refine ⟨_, _, pre _ ?_, hrun, hended, _, _, rfl, ?_, ⟨_, rfl⟩, hW, hsame.mono (by decide) (by decide)⟩
  · exact retOut X173 hx (t := (.object "java/util/List")) Bd.returns rfl (by simp [Value.isRef, FieldType.isReference]) (hb hby d_lc3_53) hr
  · show Q_lc3 Z a1 b1 mr md f y1 y2 y3 h0 n0 _ T173.heap _
    exact ⟨rr, rfl, N173, own_ext_trans E172 E173, O173⟩
def Q_co0 (Z : State) (a1 : Addr) (b1 el : Addr) (md : Int32) (h0 : Heap) (n0 : Nat) (v : Option Value) (h : Heap) (L : List Loc) : Prop := v = some (.ref el) ∧ Fr n0 L ∧ h = h0
set_option maxRecDepth 65536 in
set_option maxHeartbeats 40000000 in
theorem rm_co0 (l : Launch) (Z : State) (a0 : Array Value) (hw : ∀ d ∈ tables_1, d.before a0 Z = true) (ws : List Jvm.Cond) (a1 : Addr) (b1 el : Addr) (md : Int32) (h0 : Heap) (n0 : Nat) (Z0 : n0 ≤ h0.size) (hA : OAL Z h0 a1 b1 0 md) (Sel : Sta Z h0 "java/util/ImmutableCollections" "EMPTY_LIST" "Ljava/util/ImmutableCollections$ListN;" (.ref el)) :
    MetFree l (⟨"java/util/List", "copyOf", "(Ljava/util/Collection;)Ljava/util/List;"⟩ : MethodName) (head1 (Jvm.Cond.code (⟨"java/util/List", "copyOf", "(Ljava/util/Collection;)Ljava/util/List;"⟩ : MethodName) jdk_40_method_48_code 1 (some (.object "java/util/List")) :: ws) ({ frames := 2, cells := 0, slots := 0, locals := 25 } : Room)) (fun a U => a = #[(.ref a1)] ∧ Z.Warmed39 U.vm ∧ U.heap = h0) (fun _ _ _ _ _ => True) (fun _ U o U' => ∃ v L, o = .returned v ∧ Q_co0 Z a1 b1 el md h0 n0 v U'.heap L ∧ FrameEnd U o U' L ({ frames := 2, cells := 0, slots := 0, locals := 25 } : Room).cells ({ frames := 2, cells := 0, slots := 0, locals := 25 } : Room).slots) := by
  refine MetFree.of_bodySF (plainFor_of_name pn_java_util_List) hisR ?_
  intro p e s m args below meth c s₁ Bd hml0 hP hK
  obtain ⟨rfl, hZ, hh⟩ := hP
  have hx := Bd.exec
  have hby := Bd.bytes
  have hml : c.maxLocals = 1 := hml0
  have hown : s.vm.findClass "java/util/List" = some m.cls := findClass_of_methodNamed Bd.named
  have hnm := (name_of_methodNamed Bd.named Bd.method).1
  have X0 : Stand p l e ({ frames := 2, cells := 0, slots := 0, locals := 25 } : Room) s m #[(.ref a1)] below meth c s₁ [] 0 0 := Stand.of_body Bd
  have e0 : s₁.heap = h0 := by rw [← hh, Bd.state]; rfl
  have N0 := Fr.nil n0
  obtain ⟨S0, hS0⟩ : ∃ S0, S0 = s₁.setTop (entryFrame m #[(.ref a1)] 1) := ⟨_, rfl⟩
  have pre : Pth p e below S0 s₁ (mkF m 0 #[rv a1] []) := fun t k => by rw [hS0]; exact castTop (ef_co0 m a1) k
  replace pre : Pth p e below S0 s₁ (mkF m 1 #[rv a1] [(.ref a1)]) := fun t k => pre t (by
    show SS p e below s₁ (mkF m 0 #[rv a1] []) t
    refine XS.aloadN X0.here hx rfl (hb hby d_co0_0) rfl rfl ?_
    show SS p e below s₁ (mkF m 1 #[rv a1] [(.ref a1)]) t
    exact k)
  obtain ⟨_, _, ⟨T174, L174, k174, n174⟩, -, X174, ⟨Lc174, hQ174, l174, y174, z174⟩, st174⟩ := Jvm.LawKit.callS X0 hx (y := (⟨"java/util/ImmutableCollections", "listCopy", "(Ljava/util/Collection;)Ljava/util/List;"⟩ : MethodName)) hown (mvT hZ (own_t hw 146 rfl)) (mvT hZ (own_t hw 147 rfl)) (mvT hZ (own_t hw 130 rfl)) (mvT hZ (own_t hw 148 rfl)) (by decide) (backOf (W := 0) (rm_lc0 l Z a0 hw [] a1 b1 el md h0 n0 Z0 hA Sel) hZ (own_t hw 148 rfl) (own_t hw 130 rfl) (by decide) (by decide)) (g := (mkF m 1 #[rv a1] [(.ref a1)])) rfl (by rw [hml]; rfl) (argsL := [(.ref a1)]) (rest := []) (lenOf pd__Ljava_util_Collection__Ljava_util_List_ rfl) rfl (by show 2 * 0 + _ ≤ _; exact Nat.le_of_eq rfl) (hb hby d_co0_1) (fun _ _ => ⟨rfl, e0, (by decide : 0 + 0 ≤ _), (by decide : 0 + 0 ≤ _)⟩)
  dsimp only [Pt.U, Pt.locs, Pt.cells, Pt.slots] at X174 l174 y174 z174 st174 hQ174
  subst l174 y174 z174
  obtain ⟨rfl, N174q, e174⟩ := hQ174
  have N174 := Fr.app N0 N174q
  replace pre : Pth p e below S0 T174 (mkF m 4 #[rv a1] [(.ref el)]) := fun t k => pre t (st174 _ k)
  obtain ⟨fs, hr, hrun, hended, hW, hsame⟩ := X174.leave (v := some (.ref el)) (fun h => by rw [Bd.returns] at h; cases h)
  subst hS0
  refine ⟨_, _, pre _ ?_, hrun, hended, _, _, rfl, ?_, ⟨_, rfl⟩, hW, hsame.mono (by decide) (by decide)⟩
  · exact retOut X174 hx (t := (.object "java/util/List")) Bd.returns rfl (by simp [Value.isRef, FieldType.isReference]) (hb hby d_co0_4) hr
  · show Q_co0 Z a1 b1 el md h0 n0 _ T174.heap _
    rw [e174]
    exact ⟨rfl, N174, rfl⟩
def Q_co1 (Z : State) (a1 : Addr) (b1 mr : Addr) (md : Int32) (f : Nat → Value) (y1 em : Addr) (h0 : Heap) (n0 : Nat) (v : Option Value) (h : Heap) (L : List Loc) : Prop := ∃ r, v = some (.ref r) ∧ Fr n0 L ∧ Ext h0 h ∧ OL1 Z h r em
set_option maxRecDepth 65536 in
set_option maxHeartbeats 40000000 in
theorem rm_co1 (l : Launch) (Z : State) (a0 : Array Value) (hw : ∀ d ∈ tables_1, d.before a0 Z = true) (ws : List Jvm.Cond) (a1 : Addr) (b1 mr : Addr) (md : Int32) (f : Nat → Value) (y1 em : Addr) (h0 : Heap) (n0 : Nat) (Z0 : n0 ≤ h0.size) (hA : OAL Z h0 a1 b1 1 md) (M : OMir Z "[Ljava/lang/Object;" mr) (Fa : OArr Z h0 b1 10 f) (hf : ∀ j, j < 10 → f j = .null ∨ ∃ y, f j = .ref y ∧ Ins Z h0 y "java/lang/Object" true) (fq0 : f 0 = .ref y1) (Sem : Sta Z h0 "java/util/ImmutableCollections" "EMPTY" "Ljava/lang/Object;" (.ref em)) :
    MetFree l (⟨"java/util/List", "copyOf", "(Ljava/util/Collection;)Ljava/util/List;"⟩ : MethodName) (head1 (Jvm.Cond.code (⟨"java/util/List", "copyOf", "(Ljava/util/Collection;)Ljava/util/List;"⟩ : MethodName) jdk_40_method_48_code 1 (some (.object "java/util/List")) :: ws) ({ frames := 7, cells := 2, slots := 3, locals := 98 } : Room)) (fun a U => a = #[(.ref a1)] ∧ Z.Warmed39 U.vm ∧ U.heap = h0) (fun _ _ _ _ _ => True) (fun _ U o U' => ∃ v L, o = .returned v ∧ Q_co1 Z a1 b1 mr md f y1 em h0 n0 v U'.heap L ∧ FrameEnd U o U' L ({ frames := 7, cells := 2, slots := 3, locals := 98 } : Room).cells ({ frames := 7, cells := 2, slots := 3, locals := 98 } : Room).slots) := by
  refine MetFree.of_bodySF (plainFor_of_name pn_java_util_List) hisR ?_
  intro p e s m args below meth c s₁ Bd hml0 hP hK
  obtain ⟨rfl, hZ, hh⟩ := hP
  have hx := Bd.exec
  have hby := Bd.bytes
  have hml : c.maxLocals = 1 := hml0
  have hown : s.vm.findClass "java/util/List" = some m.cls := findClass_of_methodNamed Bd.named
  have hnm := (name_of_methodNamed Bd.named Bd.method).1
  have X0 : Stand p l e ({ frames := 7, cells := 2, slots := 3, locals := 98 } : Room) s m #[(.ref a1)] below meth c s₁ [] 0 0 := Stand.of_body Bd
  have e0 : s₁.heap = h0 := by rw [← hh, Bd.state]; rfl
  have N0 := Fr.nil n0
  obtain ⟨S0, hS0⟩ : ∃ S0, S0 = s₁.setTop (entryFrame m #[(.ref a1)] 1) := ⟨_, rfl⟩
  have pre : Pth p e below S0 s₁ (mkF m 0 #[rv a1] []) := fun t k => by rw [hS0]; exact castTop (ef_co1 m a1) k
  replace pre : Pth p e below S0 s₁ (mkF m 1 #[rv a1] [(.ref a1)]) := fun t k => pre t (by
    show SS p e below s₁ (mkF m 0 #[rv a1] []) t
    refine XS.aloadN X0.here hx rfl (hb hby d_co1_0) rfl rfl ?_
    show SS p e below s₁ (mkF m 1 #[rv a1] [(.ref a1)]) t
    exact k)
  obtain ⟨_, _, ⟨T175, L175, k175, n175⟩, -, X175, ⟨Lc175, hQ175, l175, y175, z175⟩, st175⟩ := Jvm.LawKit.callS X0 hx (y := (⟨"java/util/ImmutableCollections", "listCopy", "(Ljava/util/Collection;)Ljava/util/List;"⟩ : MethodName)) hown (mvT hZ (own_t hw 146 rfl)) (mvT hZ (own_t hw 147 rfl)) (mvT hZ (own_t hw 130 rfl)) (mvT hZ (own_t hw 148 rfl)) (by decide) (backOf (W := 0) (rm_lc1 l Z a0 hw [] a1 b1 mr md f y1 em h0 n0 Z0 hA M Fa hf fq0 Sem) hZ (own_t hw 148 rfl) (own_t hw 130 rfl) (by decide) (by decide)) (g := (mkF m 1 #[rv a1] [(.ref a1)])) rfl (by rw [hml]; rfl) (argsL := [(.ref a1)]) (rest := []) (lenOf pd__Ljava_util_Collection__Ljava_util_List_ rfl) rfl (by show 2 * 0 + _ ≤ _; exact Nat.le_of_eq rfl) (hb hby d_co1_1) (fun _ _ => ⟨rfl, e0, (by decide : 0 + 2 ≤ _), (by decide : 0 + 3 ≤ _)⟩)
  dsimp only [Pt.U, Pt.locs, Pt.cells, Pt.slots] at X175 l175 y175 z175 st175 hQ175
  subst l175 y175 z175
  obtain ⟨rr, rfl, N175q, E175, O175⟩ := hQ175
  have N175 := Fr.app N0 N175q
  replace pre : Pth p e below S0 T175 (mkF m 4 #[rv a1] [(.ref rr)]) := fun t k => pre t (st175 _ k)
  obtain ⟨fs, hr, hrun, hended, hW, hsame⟩ := X175.leave (v := some (.ref rr)) (fun h => by rw [Bd.returns] at h; cases h)
  subst hS0
  refine ⟨_, _, pre _ ?_, hrun, hended, _, _, rfl, ?_, ⟨_, rfl⟩, hW, hsame.mono (by decide) (by decide)⟩
  · exact retOut X175 hx (t := (.object "java/util/List")) Bd.returns rfl (by simp [Value.isRef, FieldType.isReference]) (hb hby d_co1_4) hr
  · show Q_co1 Z a1 b1 mr md f y1 em h0 n0 _ T175.heap _
    exact ⟨rr, rfl, N175, E175, O175⟩
def Q_co2 (Z : State) (a1 : Addr) (b1 mr : Addr) (md : Int32) (f : Nat → Value) (y1 y2 : Addr) (h0 : Heap) (n0 : Nat) (v : Option Value) (h : Heap) (L : List Loc) : Prop := ∃ r, v = some (.ref r) ∧ Fr n0 L ∧ Ext h0 h ∧ OL1 Z h r y2
set_option maxRecDepth 65536 in
set_option maxHeartbeats 40000000 in
theorem rm_co2 (l : Launch) (Z : State) (a0 : Array Value) (hw : ∀ d ∈ tables_1, d.before a0 Z = true) (ws : List Jvm.Cond) (a1 : Addr) (b1 mr : Addr) (md : Int32) (f : Nat → Value) (y1 y2 : Addr) (h0 : Heap) (n0 : Nat) (Z0 : n0 ≤ h0.size) (hA : OAL Z h0 a1 b1 2 md) (M : OMir Z "[Ljava/lang/Object;" mr) (Fa : OArr Z h0 b1 10 f) (hf : ∀ j, j < 10 → f j = .null ∨ ∃ y, f j = .ref y ∧ Ins Z h0 y "java/lang/Object" true) (fq0 : f 0 = .ref y1) (fq1 : f 1 = .ref y2) :
    MetFree l (⟨"java/util/List", "copyOf", "(Ljava/util/Collection;)Ljava/util/List;"⟩ : MethodName) (head1 (Jvm.Cond.code (⟨"java/util/List", "copyOf", "(Ljava/util/Collection;)Ljava/util/List;"⟩ : MethodName) jdk_40_method_48_code 1 (some (.object "java/util/List")) :: ws) ({ frames := 7, cells := 2, slots := 4, locals := 98 } : Room)) (fun a U => a = #[(.ref a1)] ∧ Z.Warmed39 U.vm ∧ U.heap = h0) (fun _ _ _ _ _ => True) (fun _ U o U' => ∃ v L, o = .returned v ∧ Q_co2 Z a1 b1 mr md f y1 y2 h0 n0 v U'.heap L ∧ FrameEnd U o U' L ({ frames := 7, cells := 2, slots := 4, locals := 98 } : Room).cells ({ frames := 7, cells := 2, slots := 4, locals := 98 } : Room).slots) := by
  refine MetFree.of_bodySF (plainFor_of_name pn_java_util_List) hisR ?_
  intro p e s m args below meth c s₁ Bd hml0 hP hK
  obtain ⟨rfl, hZ, hh⟩ := hP
  have hx := Bd.exec
  have hby := Bd.bytes
  have hml : c.maxLocals = 1 := hml0
  have hown : s.vm.findClass "java/util/List" = some m.cls := findClass_of_methodNamed Bd.named
  have hnm := (name_of_methodNamed Bd.named Bd.method).1
  have X0 : Stand p l e ({ frames := 7, cells := 2, slots := 4, locals := 98 } : Room) s m #[(.ref a1)] below meth c s₁ [] 0 0 := Stand.of_body Bd
  have e0 : s₁.heap = h0 := by rw [← hh, Bd.state]; rfl
  have N0 := Fr.nil n0
  obtain ⟨S0, hS0⟩ : ∃ S0, S0 = s₁.setTop (entryFrame m #[(.ref a1)] 1) := ⟨_, rfl⟩
  have pre : Pth p e below S0 s₁ (mkF m 0 #[rv a1] []) := fun t k => by rw [hS0]; exact castTop (ef_co2 m a1) k
  replace pre : Pth p e below S0 s₁ (mkF m 1 #[rv a1] [(.ref a1)]) := fun t k => pre t (by
    show SS p e below s₁ (mkF m 0 #[rv a1] []) t
    refine XS.aloadN X0.here hx rfl (hb hby d_co2_0) rfl rfl ?_
    show SS p e below s₁ (mkF m 1 #[rv a1] [(.ref a1)]) t
    exact k)
  obtain ⟨_, _, ⟨T176, L176, k176, n176⟩, -, X176, ⟨Lc176, hQ176, l176, y176, z176⟩, st176⟩ := Jvm.LawKit.callS X0 hx (y := (⟨"java/util/ImmutableCollections", "listCopy", "(Ljava/util/Collection;)Ljava/util/List;"⟩ : MethodName)) hown (mvT hZ (own_t hw 146 rfl)) (mvT hZ (own_t hw 147 rfl)) (mvT hZ (own_t hw 130 rfl)) (mvT hZ (own_t hw 148 rfl)) (by decide) (backOf (W := 0) (rm_lc2 l Z a0 hw [] a1 b1 mr md f y1 y2 h0 n0 Z0 hA M Fa hf fq0 fq1) hZ (own_t hw 148 rfl) (own_t hw 130 rfl) (by decide) (by decide)) (g := (mkF m 1 #[rv a1] [(.ref a1)])) rfl (by rw [hml]; rfl) (argsL := [(.ref a1)]) (rest := []) (lenOf pd__Ljava_util_Collection__Ljava_util_List_ rfl) rfl (by show 2 * 0 + _ ≤ _; exact Nat.le_of_eq rfl) (hb hby d_co2_1) (fun _ _ => ⟨rfl, e0, (by decide : 0 + 2 ≤ _), (by decide : 0 + 4 ≤ _)⟩)
  dsimp only [Pt.U, Pt.locs, Pt.cells, Pt.slots] at X176 l176 y176 z176 st176 hQ176
  subst l176 y176 z176
  obtain ⟨rr, rfl, N176q, E176, O176⟩ := hQ176
  have N176 := Fr.app N0 N176q
  replace pre : Pth p e below S0 T176 (mkF m 4 #[rv a1] [(.ref rr)]) := fun t k => pre t (st176 _ k)
  obtain ⟨fs, hr, hrun, hended, hW, hsame⟩ := X176.leave (v := some (.ref rr)) (fun h => by rw [Bd.returns] at h; cases h)
  subst hS0
  refine ⟨_, _, pre _ ?_, hrun, hended, _, _, rfl, ?_, ⟨_, rfl⟩, hW, hsame.mono (by decide) (by decide)⟩
  · exact retOut X176 hx (t := (.object "java/util/List")) Bd.returns rfl (by simp [Value.isRef, FieldType.isReference]) (hb hby d_co2_4) hr
  · show Q_co2 Z a1 b1 mr md f y1 y2 h0 n0 _ T176.heap _
    exact ⟨rr, rfl, N176, E176, O176⟩
def Q_co3 (Z : State) (a1 : Addr) (b1 mr : Addr) (md : Int32) (f : Nat → Value) (y1 y2 y3 : Addr) (h0 : Heap) (n0 : Nat) (v : Option Value) (h : Heap) (L : List Loc) : Prop := ∃ r, v = some (.ref r) ∧ Fr n0 L ∧ Ext h0 h ∧ OL3 Z h r
set_option maxRecDepth 65536 in
set_option maxHeartbeats 40000000 in
theorem rm_co3 (l : Launch) (Z : State) (a0 : Array Value) (hw : ∀ d ∈ tables_1, d.before a0 Z = true) (ws : List Jvm.Cond) (a1 : Addr) (b1 mr : Addr) (md : Int32) (f : Nat → Value) (y1 y2 y3 : Addr) (h0 : Heap) (n0 : Nat) (Z0 : n0 ≤ h0.size) (hA : OAL Z h0 a1 b1 3 md) (M : OMir Z "[Ljava/lang/Object;" mr) (Fa : OArr Z h0 b1 10 f) (hf : ∀ j, j < 10 → f j = .null ∨ ∃ y, f j = .ref y ∧ Ins Z h0 y "java/lang/Object" true) (fq0 : f 0 = .ref y1) (fq1 : f 1 = .ref y2) (fq2 : f 2 = .ref y3) (I1 : Ins Z h0 y1 "java/lang/Object" true) (I2 : Ins Z h0 y2 "java/lang/Object" true) (I3 : Ins Z h0 y3 "java/lang/Object" true) :
    MetFree l (⟨"java/util/List", "copyOf", "(Ljava/util/Collection;)Ljava/util/List;"⟩ : MethodName) (head1 (Jvm.Cond.code (⟨"java/util/List", "copyOf", "(Ljava/util/Collection;)Ljava/util/List;"⟩ : MethodName) jdk_40_method_48_code 1 (some (.object "java/util/List")) :: ws) ({ frames := 8, cells := 3, slots := 8, locals := 103 } : Room)) (fun a U => a = #[(.ref a1)] ∧ Z.Warmed39 U.vm ∧ U.heap = h0) (fun _ _ _ _ _ => True) (fun _ U o U' => ∃ v L, o = .returned v ∧ Q_co3 Z a1 b1 mr md f y1 y2 y3 h0 n0 v U'.heap L ∧ FrameEnd U o U' L ({ frames := 8, cells := 3, slots := 8, locals := 103 } : Room).cells ({ frames := 8, cells := 3, slots := 8, locals := 103 } : Room).slots) := by
  refine MetFree.of_bodySF (plainFor_of_name pn_java_util_List) hisR ?_
  intro p e s m args below meth c s₁ Bd hml0 hP hK
  obtain ⟨rfl, hZ, hh⟩ := hP
  have hx := Bd.exec
  have hby := Bd.bytes
  have hml : c.maxLocals = 1 := hml0
  have hown : s.vm.findClass "java/util/List" = some m.cls := findClass_of_methodNamed Bd.named
  have hnm := (name_of_methodNamed Bd.named Bd.method).1
  have X0 : Stand p l e ({ frames := 8, cells := 3, slots := 8, locals := 103 } : Room) s m #[(.ref a1)] below meth c s₁ [] 0 0 := Stand.of_body Bd
  have e0 : s₁.heap = h0 := by rw [← hh, Bd.state]; rfl
  have N0 := Fr.nil n0
  obtain ⟨S0, hS0⟩ : ∃ S0, S0 = s₁.setTop (entryFrame m #[(.ref a1)] 1) := ⟨_, rfl⟩
  have pre : Pth p e below S0 s₁ (mkF m 0 #[rv a1] []) := fun t k => by rw [hS0]; exact castTop (ef_co3 m a1) k
  replace pre : Pth p e below S0 s₁ (mkF m 1 #[rv a1] [(.ref a1)]) := fun t k => pre t (by
    show SS p e below s₁ (mkF m 0 #[rv a1] []) t
    refine XS.aloadN X0.here hx rfl (hb hby d_co3_0) rfl rfl ?_
    show SS p e below s₁ (mkF m 1 #[rv a1] [(.ref a1)]) t
    exact k)
  obtain ⟨_, _, ⟨T177, L177, k177, n177⟩, -, X177, ⟨Lc177, hQ177, l177, y177, z177⟩, st177⟩ := Jvm.LawKit.callS X0 hx (y := (⟨"java/util/ImmutableCollections", "listCopy", "(Ljava/util/Collection;)Ljava/util/List;"⟩ : MethodName)) hown (mvT hZ (own_t hw 146 rfl)) (mvT hZ (own_t hw 147 rfl)) (mvT hZ (own_t hw 130 rfl)) (mvT hZ (own_t hw 148 rfl)) (by decide) (backOf (W := 0) (rm_lc3 l Z a0 hw [] a1 b1 mr md f y1 y2 y3 h0 n0 Z0 hA M Fa hf fq0 fq1 fq2 I1 I2 I3) hZ (own_t hw 148 rfl) (own_t hw 130 rfl) (by decide) (by decide)) (g := (mkF m 1 #[rv a1] [(.ref a1)])) rfl (by rw [hml]; rfl) (argsL := [(.ref a1)]) (rest := []) (lenOf pd__Ljava_util_Collection__Ljava_util_List_ rfl) rfl (by show 2 * 0 + _ ≤ _; exact Nat.le_of_eq rfl) (hb hby d_co3_1) (fun _ _ => ⟨rfl, e0, (by decide : 0 + 3 ≤ _), (by decide : 0 + 8 ≤ _)⟩)
  dsimp only [Pt.U, Pt.locs, Pt.cells, Pt.slots] at X177 l177 y177 z177 st177 hQ177
  subst l177 y177 z177
  obtain ⟨rr, rfl, N177q, E177, O177⟩ := hQ177
  have N177 := Fr.app N0 N177q
  replace pre : Pth p e below S0 T177 (mkF m 4 #[rv a1] [(.ref rr)]) := fun t k => pre t (st177 _ k)
  obtain ⟨fs, hr, hrun, hended, hW, hsame⟩ := X177.leave (v := some (.ref rr)) (fun h => by rw [Bd.returns] at h; cases h)
  subst hS0
  refine ⟨_, _, pre _ ?_, hrun, hended, _, _, rfl, ?_, ⟨_, rfl⟩, hW, hsame.mono (by decide) (by decide)⟩
  · exact retOut X177 hx (t := (.object "java/util/List")) Bd.returns rfl (by simp [Value.isRef, FieldType.isReference]) (hb hby d_co3_4) hr
  · show Q_co3 Z a1 b1 mr md f y1 y2 y3 h0 n0 _ T177.heap _
    exact ⟨rr, rfl, N177, E177, O177⟩
def Q_tin (Z : State) (a1 : Addr) (s1 : Addr) (h0 : Heap) (n0 : Nat) (v : Option Value) (h : Heap) (L : List Loc) : Prop := v = none ∧ Fr n0 L ∧ Keep h0 h [a1] ∧ Exa Z h a1 "com/example/sheaf/sheaf/cbor/TextStringItem" ∧ Fld Z h a1 "com/example/sheaf/sheaf/cbor/TextStringItem" "chunks" "Ljava/util/List;" .null
set_option maxRecDepth 65536 in
set_option maxHeartbeats 40000000 in
theorem rm_tin (l : Launch) (Z : State) (a0 : Array Value) (hw : ∀ d ∈ tables_1, d.before a0 Z = true) (ws : List Jvm.Cond) (a1 : Addr) (s1 : Addr) (h0 : Heap) (n0 : Nat) (ga : n0 ≤ a1) (Ea : Exa Z h0 a1 "com/example/sheaf/sheaf/cbor/TextStringItem") (F1 : Fld Z h0 a1 "com/example/sheaf/sheaf/cbor/TextStringItem" "value" "Ljava/lang/String;" .null) (F2 : Fld Z h0 a1 "com/example/sheaf/sheaf/cbor/TextStringItem" "chunks" "Ljava/util/List;" .null)  :
    MetFree l (⟨"com/example/sheaf/sheaf/cbor/TextStringItem", "<init>", "(Ljava/lang/String;Ljava/util/List;)V"⟩ : MethodName) (head1 (Jvm.Cond.code (⟨"com/example/sheaf/sheaf/cbor/TextStringItem", "<init>", "(Ljava/lang/String;Ljava/util/List;)V"⟩ : MethodName) prog_23_method_1_code 3 none :: ws) ({ frames := 2, cells := 0, slots := 0, locals := 24 } : Room)) (fun a U => a = #[(.ref a1), (.ref s1), .null] ∧ Z.Warmed39 U.vm ∧ U.heap = h0) (fun _ _ _ _ _ => True) (fun _ U o U' => ∃ v L, o = .returned v ∧ Q_tin Z a1 s1 h0 n0 v U'.heap L ∧ FrameEnd U o U' L ({ frames := 2, cells := 0, slots := 0, locals := 24 } : Room).cells ({ frames := 2, cells := 0, slots := 0, locals := 24 } : Room).slots) := by
  refine MetFree.of_bodySF (plainFor_of_name pn_com_example_sheaf_sheaf_cbor_TextStringItem) hisR ?_
  intro p e s m args below meth c s₁ Bd hml0 hP hK
  obtain ⟨rfl, hZ, hh⟩ := hP
  have hx := Bd.exec
  have hby := Bd.bytes
  have hml : c.maxLocals = 3 := hml0
  have hown : s.vm.findClass "com/example/sheaf/sheaf/cbor/TextStringItem" = some m.cls := findClass_of_methodNamed Bd.named
  have hnm := (name_of_methodNamed Bd.named Bd.method).1
  have X0 : Stand p l e ({ frames := 2, cells := 0, slots := 0, locals := 24 } : Room) s m #[(.ref a1), (.ref s1), .null] below meth c s₁ [] 0 0 := Stand.of_body Bd
  have e0 : s₁.heap = h0 := by rw [← hh, Bd.state]; rfl
  have N0 := Fr.nil n0
  obtain ⟨S0, hS0⟩ : ∃ S0, S0 = s₁.setTop (entryFrame m #[(.ref a1), (.ref s1), .null] 3) := ⟨_, rfl⟩
  have pre : Pth p e below S0 s₁ (mkF m 0 #[rv a1, rv s1, .val .null] []) := fun t k => by rw [hS0]; exact castTop (ef_tin m a1 s1) k
  replace pre : Pth p e below S0 s₁ (mkF m 1 #[rv a1, rv s1, .val .null] [(.ref a1)]) := fun t k => pre t (by
    show SS p e below s₁ (mkF m 0 #[rv a1, rv s1, .val .null] []) t
    refine XS.aloadN X0.here hx rfl (hb hby d_tin_0) rfl rfl ?_
    show SS p e below s₁ (mkF m 1 #[rv a1, rv s1, .val .null] [(.ref a1)]) t
    exact k)
  obtain ⟨_, _, ⟨T178, L178, k178, n178⟩, -, X178, ⟨Lc178, hQ178, l178, y178, z178⟩, st178⟩ := X0.specialBack hx (y := (⟨"com/example/sheaf/sheaf/cbor/Item", "<init>", "()V"⟩ : MethodName)) rfl hown (mvT hZ (own_t hw 105 rfl)) (mvT hZ (own_t hw 106 rfl)) (mvT hZ (own_t hw 109 rfl)) (by decide) (backOf (W := 0) (rm_item l Z a0 hw [] a1 h0 n0) hZ (own_t hw 109 rfl) (own_t hw 108 rfl) (by decide) (by decide)) (g := (mkF m 1 #[rv a1, rv s1, .val .null] [(.ref a1)])) rfl (by rw [hml]; rfl) (Steps.refl _) (a := a1) (argsL := []) (rest := []) (lenOf pd___V rfl) rfl (by show 2 * 0 + _ ≤ _; exact Nat.le_of_eq rfl) (hb hby d_tin_1) (fun _ _ => ⟨rfl, e0, (by decide : 0 + 0 ≤ _), (by decide : 0 + 0 ≤ _)⟩)
  dsimp only [Pt.U, Pt.locs, Pt.cells, Pt.slots] at X178 l178 y178 z178 st178 hQ178
  subst l178 y178 z178
  obtain ⟨rfl, N178q, e178⟩ := hQ178
  have N178 := Fr.app N0 N178q
  replace pre : Pth p e below S0 T178 (mkF m 4 #[rv a1, rv s1, .val .null] []) := fun t k => pre t (st178.trans k)
  replace pre : Pth p e below S0 T178 (mkF m 6 #[rv a1, rv s1, .val .null] [(.ref s1), (.ref a1)]) := fun t k => pre t (by
    show SS p e below T178 (mkF m 4 #[rv a1, rv s1, .val .null] []) t
    refine XS.aloadN X178.here hx rfl (hb hby d_tin_4) rfl rfl ?_
    show SS p e below T178 (mkF m 5 #[rv a1, rv s1, .val .null] [(.ref a1)]) t
    refine XS.aloadN X178.here hx rfl (hb hby d_tin_5) rfl rfl ?_
    show SS p e below T178 (mkF m 6 #[rv a1, rv s1, .val .null] [(.ref s1), (.ref a1)]) t
    exact k)
  obtain ⟨T179, h179, X179, e179, W179, st179⟩ := putF X178 hx hZ hown (host := "") (Or.inl (own_t hw 111 rfl)) Via.refl e178 F1 Ea (Or.inr ⟨(own_t hw 112 rfl), rfl, hnm⟩) (own_t hw 100 rfl) (ty := (.object "java/lang/String")) (by decide) rfl rfl (g := (mkF m 6 #[rv a1, rv s1, .val .null] [(.ref s1), (.ref a1)])) rfl rfl (hb hby d_tin_6)
  have N179 := Fr.snoc X179 N178 ga
  replace pre : Pth p e below S0 T179 (mkF m 9 #[rv a1, rv s1, .val .null] []) := fun t k => pre t (st179 _ k)
  have F2a := F2.other W179 (Or.inr (slot_ne (Or.inr (own_t hw 114 rfl)) (Or.inr (own_t hw 112 rfl)) (by decide) (t := (.object "java/util/List")) (t' := (.object "java/lang/String")) (by decide) (by decide)))
  have Ea1 := Ea.wr W179
  replace pre : Pth p e below S0 T179 (mkF m 22 #[rv a1, rv s1, .val .null] [.null, (.ref a1)]) := fun t k => pre t (by
    show SS p e below T179 (mkF m 9 #[rv a1, rv s1, .val .null] []) t
    refine XS.aloadN X179.here hx rfl (hb hby d_tin_9) rfl rfl ?_
    show SS p e below T179 (mkF m 10 #[rv a1, rv s1, .val .null] [(.ref a1)]) t
    refine XS.aloadN X179.here hx rfl (hb hby d_tin_10) rfl rfl ?_
    show SS p e below T179 (mkF m 11 #[rv a1, rv s1, .val .null] [.null, (.ref a1)]) t
    refine XS.ifnonnullNo X179.here hx rfl (hb hby d_tin_11) rfl ?_
    show SS p e below T179 (mkF m 14 #[rv a1, rv s1, .val .null] [(.ref a1)]) t
    refine XS.aconstNull X179.here hx rfl (hb hby d_tin_14) ?_
    show SS p e below T179 (mkF m 15 #[rv a1, rv s1, .val .null] [.null, (.ref a1)]) t
    refine XS.goto X179.here hx rfl (pc0 := 15) (pc' := 22) rfl (hb hby d_tin_15) (by decide) (by decide) ?_
    show SS p e below T179 (mkF m 22 #[rv a1, rv s1, .val .null] [.null, (.ref a1)]) t
    exact k)
  obtain ⟨T180, h180, X180, e180, W180, st180⟩ := putF X179 hx hZ hown (host := "") (Or.inl (own_t hw 113 rfl)) Via.refl e179 F2a Ea1 (Or.inr ⟨(own_t hw 114 rfl), rfl, hnm⟩) (own_t hw 100 rfl) (ty := (.object "java/util/List")) (by decide) rfl rfl (g := (mkF m 22 #[rv a1, rv s1, .val .null] [.null, (.ref a1)])) rfl rfl (hb hby d_tin_22)
  have N180 := Fr.snoc X180 N179 ga
  replace pre : Pth p e below S0 T180 (mkF m 25 #[rv a1, rv s1, .val .null] []) := fun t k => pre t (st180 _ k)
  obtain ⟨fs, hr, hrun, hended, hW, hsame⟩ := X180.leave (v := none) (fun _ => rfl)
  subst hS0
  refine ⟨_, _, pre _ ?_, hrun, hended, _, _, rfl, ?_, ⟨_, rfl⟩, hW, hsame.mono (by decide) (by decide)⟩
  · exact X180.returnOut hx Bd.returns (hb hby d_tin_25) hr
  · show Q_tin Z a1 s1 h0 n0 _ T180.heap _
    rw [e180]
    exact ⟨rfl, N180, ((Keep.refl h0 [a1]).wr W179 (Or.inl (List.mem_of_getElem? (i := 0) rfl))).wr W180 (Or.inl (List.mem_of_getElem? (i := 0) rfl)), Ea1.wr W180, F2a.same W180⟩
def Q_ti0 (Z : State) (a1 : Addr) (s1 : Addr) (l1 : Addr) (b1 el : Addr) (md : Int32) (h0 : Heap) (n0 : Nat) (v : Option Value) (h : Heap) (L : List Loc) : Prop := v = none ∧ Fr n0 L ∧ Keep h0 h [a1] ∧ Exa Z h a1 "com/example/sheaf/sheaf/cbor/TextStringItem" ∧ Fld Z h a1 "com/example/sheaf/sheaf/cbor/TextStringItem" "chunks" "Ljava/util/List;" (.ref el)
set_option maxRecDepth 65536 in
set_option maxHeartbeats 40000000 in
theorem rm_ti0 (l : Launch) (Z : State) (a0 : Array Value) (hw : ∀ d ∈ tables_1, d.before a0 Z = true) (ws : List Jvm.Cond) (a1 : Addr) (s1 : Addr) (l1 : Addr) (b1 el : Addr) (md : Int32) (h0 : Heap) (n0 : Nat) (Z0 : n0 ≤ h0.size) (ga : n0 ≤ a1) (Ea : Exa Z h0 a1 "com/example/sheaf/sheaf/cbor/TextStringItem") (F1 : Fld Z h0 a1 "com/example/sheaf/sheaf/cbor/TextStringItem" "value" "Ljava/lang/String;" .null) (F2 : Fld Z h0 a1 "com/example/sheaf/sheaf/cbor/TextStringItem" "chunks" "Ljava/util/List;" .null) (hA : OAL Z h0 l1 b1 0 md) (Sel : Sta Z h0 "java/util/ImmutableCollections" "EMPTY_LIST" "Ljava/util/ImmutableCollections$ListN;" (.ref el)) :
    MetFree l (⟨"com/example/sheaf/sheaf/cbor/TextStringItem", "<init>", "(Ljava/lang/String;Ljava/util/List;)V"⟩ : MethodName) (head1 (Jvm.Cond.code (⟨"com/example/sheaf/sheaf/cbor/TextStringItem", "<init>", "(Ljava/lang/String;Ljava/util/List;)V"⟩ : MethodName) prog_23_method_1_code 3 none :: ws) ({ frames := 3, cells := 0, slots := 0, locals := 38 } : Room)) (fun a U => a = #[(.ref a1), (.ref s1), (.ref l1)] ∧ Z.Warmed39 U.vm ∧ U.heap = h0) (fun _ _ _ _ _ => True) (fun _ U o U' => ∃ v L, o = .returned v ∧ Q_ti0 Z a1 s1 l1 b1 el md h0 n0 v U'.heap L ∧ FrameEnd U o U' L ({ frames := 3, cells := 0, slots := 0, locals := 38 } : Room).cells ({ frames := 3, cells := 0, slots := 0, locals := 38 } : Room).slots) := by
  refine MetFree.of_bodySF (plainFor_of_name pn_com_example_sheaf_sheaf_cbor_TextStringItem) hisR ?_
  intro p e s m args below meth c s₁ Bd hml0 hP hK
  obtain ⟨rfl, hZ, hh⟩ := hP
  have hx := Bd.exec
  have hby := Bd.bytes
  have hml : c.maxLocals = 3 := hml0
  have hown : s.vm.findClass "com/example/sheaf/sheaf/cbor/TextStringItem" = some m.cls := findClass_of_methodNamed Bd.named
  have hnm := (name_of_methodNamed Bd.named Bd.method).1
  have X0 : Stand p l e ({ frames := 3, cells := 0, slots := 0, locals := 38 } : Room) s m #[(.ref a1), (.ref s1), (.ref l1)] below meth c s₁ [] 0 0 := Stand.of_body Bd
  have e0 : s₁.heap = h0 := by rw [← hh, Bd.state]; rfl
  have N0 := Fr.nil n0
  obtain ⟨S0, hS0⟩ : ∃ S0, S0 = s₁.setTop (entryFrame m #[(.ref a1), (.ref s1), (.ref l1)] 3) := ⟨_, rfl⟩
  have pre : Pth p e below S0 s₁ (mkF m 0 #[rv a1, rv s1, rv l1] []) := fun t k => by rw [hS0]; exact castTop (ef_ti0 m a1 s1 l1) k
  replace pre : Pth p e below S0 s₁ (mkF m 1 #[rv a1, rv s1, rv l1] [(.ref a1)]) := fun t k => pre t (by
    show SS p e below s₁ (mkF m 0 #[rv a1, rv s1, rv l1] []) t
    refine XS.aloadN X0.here hx rfl (hb hby d_ti0_0) rfl rfl ?_
    show SS p e below s₁ (mkF m 1 #[rv a1, rv s1, rv l1] [(.ref a1)]) t
    exact k)
  obtain ⟨_, _, ⟨T181, L181, k181, n181⟩, -, X181, ⟨Lc181, hQ181, l181, y181, z181⟩, st181⟩ := X0.specialBack hx (y := (⟨"com/example/sheaf/sheaf/cbor/Item", "<init>", "()V"⟩ : MethodName)) rfl hown (mvT hZ (own_t hw 105 rfl)) (mvT hZ (own_t hw 106 rfl)) (mvT hZ (own_t hw 109 rfl)) (by decide) (backOf (W := 0) (rm_item l Z a0 hw [] a1 h0 n0) hZ (own_t hw 109 rfl) (own_t hw 108 rfl) (by decide) (by decide)) (g := (mkF m 1 #[rv a1, rv s1, rv l1] [(.ref a1)])) rfl (by rw [hml]; rfl) (Steps.refl _) (a := a1) (argsL := []) (rest := []) (lenOf pd___V rfl) rfl (by show 2 * 0 + _ ≤ _; exact Nat.le_of_eq rfl) (hb hby d_ti0_1) (fun _ _ => ⟨rfl, e0, (by decide : 0 + 0 ≤ _), (by decide : 0 + 0 ≤ _)⟩)
  dsimp only [Pt.U, Pt.locs, Pt.cells, Pt.slots] at X181 l181 y181 z181 st181 hQ181
  subst l181 y181 z181
  obtain ⟨rfl, N181q, e181⟩ := hQ181
  have N181 := Fr.app N0 N181q
  replace pre : Pth p e below S0 T181 (mkF m 4 #[rv a1, rv s1, rv l1] []) := fun t k => pre t (st181.trans k)
  replace pre : Pth p e below S0 T181 (mkF m 6 #[rv a1, rv s1, rv l1] [(.ref s1), (.ref a1)]) := fun t k => pre t (by
    show SS p e below T181 (mkF m 4 #[rv a1, rv s1, rv l1] []) t
    refine XS.aloadN X181.here hx rfl (hb hby d_ti0_4) rfl rfl ?_
    show SS p e below T181 (mkF m 5 #[rv a1, rv s1, rv l1] [(.ref a1)]) t
    refine XS.aloadN X181.here hx rfl (hb hby d_ti0_5) rfl rfl ?_
    show SS p e below T181 (mkF m 6 #[rv a1, rv s1, rv l1] [(.ref s1), (.ref a1)]) t
    exact k)
  obtain ⟨T182, h182, X182, e182, W182, st182⟩ := putF X181 hx hZ hown (host := "") (Or.inl (own_t hw 111 rfl)) Via.refl e181 F1 Ea (Or.inr ⟨(own_t hw 112 rfl), rfl, hnm⟩) (own_t hw 100 rfl) (ty := (.object "java/lang/String")) (by decide) rfl rfl (g := (mkF m 6 #[rv a1, rv s1, rv l1] [(.ref s1), (.ref a1)])) rfl rfl (hb hby d_ti0_6)
  have N182 := Fr.snoc X182 N181 ga
  replace pre : Pth p e below S0 T182 (mkF m 9 #[rv a1, rv s1, rv l1] []) := fun t k => pre t (st182 _ k)
  have F2a := F2.other W182 (Or.inr (slot_ne (Or.inr (own_t hw 114 rfl)) (Or.inr (own_t hw 112 rfl)) (by decide) (t := (.object "java/util/List")) (t' := (.object "java/lang/String")) (by decide) (by decide)))
  have Ea1 := Ea.wr W182
  have neA : l1 ≠ a1 := own_exne hA.1 Ea (by decide)
  have hA1 := hA.other W182 neA
  have Z1 : n0 ≤ h182.size := by rw [W182.size]; exact Z0
  replace pre : Pth p e below S0 T182 (mkF m 19 #[rv a1, rv s1, rv l1] [(.ref l1), (.ref a1)]) := fun t k => pre t (by
    show SS p e below T182 (mkF m 9 #[rv a1, rv s1, rv l1] []) t
    refine XS.aloadN X182.here hx rfl (hb hby d_ti0_9) rfl rfl ?_
    show SS p e below T182 (mkF m 10 #[rv a1, rv s1, rv l1] [(.ref a1)]) t
    refine XS.aloadN X182.here hx rfl (hb hby d_ti0_10) rfl rfl ?_
    show SS p e below T182 (mkF m 11 #[rv a1, rv s1, rv l1] [(.ref l1), (.ref a1)]) t
    refine XS.ifnonnullYes X182.here hx rfl (pc0 := 11) (pc' := 18) rfl (hb hby d_ti0_11) rfl (by decide) (by decide) ?_
    show SS p e below T182 (mkF m 18 #[rv a1, rv s1, rv l1] [(.ref a1)]) t
    refine XS.aloadN X182.here hx rfl (hb hby d_ti0_18) rfl rfl ?_
    show SS p e below T182 (mkF m 19 #[rv a1, rv s1, rv l1] [(.ref l1), (.ref a1)]) t
    exact k)
  obtain ⟨_, _, ⟨T183, L183, k183, n183⟩, -, X183, ⟨Lc183, hQ183, l183, y183, z183⟩, st183⟩ := Jvm.LawKit.callS X182 hx (y := (⟨"java/util/List", "copyOf", "(Ljava/util/Collection;)Ljava/util/List;"⟩ : MethodName)) hown (mvT hZ (own_t hw 143 rfl)) (mvT hZ (own_t hw 144 rfl)) (mvT hZ (own_t hw 127 rfl)) (mvT hZ (own_t hw 145 rfl)) (by decide) (backOf (W := 1) (rm_co0 l Z a0 hw [] l1 b1 el md h182 n0 Z1 hA1 (Sel.wr W182)) hZ (own_t hw 145 rfl) (own_t hw 127 rfl) (by decide) (by decide)) (g := (mkF m 19 #[rv a1, rv s1, rv l1] [(.ref l1), (.ref a1)])) rfl (by rw [hml]; rfl) (argsL := [(.ref l1)]) (rest := [(.ref a1)]) (lenOf pd__Ljava_util_Collection__Ljava_util_List_ rfl) rfl (by show 2 * 0 + _ ≤ _; exact Nat.le_of_eq rfl) (hb hby d_ti0_19) (fun _ _ => ⟨rfl, e182, (by decide : 0 + 0 ≤ _), (by decide : 0 + 0 ≤ _)⟩)
  dsimp only [Pt.U, Pt.locs, Pt.cells, Pt.slots] at X183 l183 y183 z183 st183 hQ183
  subst l183 y183 z183
  obtain ⟨rfl, N183q, e183⟩ := hQ183
  have N183 := Fr.app N182 N183q
  replace pre : Pth p e below S0 T183 (mkF m 22 #[rv a1, rv s1, rv l1] [(.ref el), (.ref a1)]) := fun t k => pre t (st183 _ k)
  obtain ⟨T184, h184, X184, e184, W184, st184⟩ := putF X183 hx hZ hown (host := "") (Or.inl (own_t hw 113 rfl)) Via.refl e183 F2a Ea1 (Or.inr ⟨(own_t hw 114 rfl), rfl, hnm⟩) (own_t hw 100 rfl) (ty := (.object "java/util/List")) (by decide) rfl rfl (g := (mkF m 22 #[rv a1, rv s1, rv l1] [(.ref el), (.ref a1)])) rfl rfl (hb hby d_ti0_22)
  have N184 := Fr.snoc X184 N183 ga
  replace pre : Pth p e below S0 T184 (mkF m 25 #[rv a1, rv s1, rv l1] []) := fun t k => pre t (st184 _ k)
  obtain ⟨fs, hr, hrun, hended, hW, hsame⟩ := X184.leave (v := none) (fun _ => rfl)
  subst hS0
  refine ⟨_, _, pre _ ?_, hrun, hended, _, _, rfl, ?_, ⟨_, rfl⟩, hW, hsame.mono (by decide) (by decide)⟩
  · exact X184.returnOut hx Bd.returns (hb hby d_ti0_25) hr
  · show Q_ti0 Z a1 s1 l1 b1 el md h0 n0 _ T184.heap _
    rw [e184]
    exact ⟨rfl, N184, ((Keep.refl h0 [a1]).wr W182 (Or.inl (List.mem_of_getElem? (i := 0) rfl))).wr W184 (Or.inl (List.mem_of_getElem? (i := 0) rfl)), Ea1.wr W184, F2a.same W184⟩
def Q_ti1 (Z : State) (a1 : Addr) (s1 : Addr) (l1 : Addr) (b1 mr : Addr) (md : Int32) (f : Nat → Value) (y1 em : Addr) (h0 : Heap) (n0 : Nat) (v : Option Value) (h : Heap) (L : List Loc) : Prop := v = none ∧ Fr n0 L ∧ Keep h0 h [a1] ∧ Exa Z h a1 "com/example/sheaf/sheaf/cbor/TextStringItem" ∧ ∃ r, Fld Z h a1 "com/example/sheaf/sheaf/cbor/TextStringItem" "chunks" "Ljava/util/List;" (.ref r) ∧ OL1 Z h r em
set_option maxRecDepth 65536 in
set_option maxHeartbeats 40000000 in
theorem rm_ti1 (l : Launch) (Z : State) (a0 : Array Value) (hw : ∀ d ∈ tables_1, d.before a0 Z = true) (ws : List Jvm.Cond) (a1 : Addr) (s1 : Addr) (l1 : Addr) (b1 mr : Addr) (md : Int32) (f : Nat → Value) (y1 em : Addr) (h0 : Heap) (n0 : Nat) (Z0 : n0 ≤ h0.size) (ga : n0 ≤ a1) (Ea : Exa Z h0 a1 "com/example/sheaf/sheaf/cbor/TextStringItem") (F1 : Fld Z h0 a1 "com/example/sheaf/sheaf/cbor/TextStringItem" "value" "Ljava/lang/String;" .null) (F2 : Fld Z h0 a1 "com/example/sheaf/sheaf/cbor/TextStringItem" "chunks" "Ljava/util/List;" .null) (hA : OAL Z h0 l1 b1 1 md) (M : OMir Z "[Ljava/lang/Object;" mr) (Fa : OArr Z h0 b1 10 f) (hf : ∀ j, j < 10 → f j = .null ∨ ∃ y, f j = .ref y ∧ Ins Z h0 y "java/lang/Object" true) (fq0 : f 0 = .ref y1) (Sem : Sta Z h0 "java/util/ImmutableCollections" "EMPTY" "Ljava/lang/Object;" (.ref em)) :
    MetFree l (⟨"com/example/sheaf/sheaf/cbor/TextStringItem", "<init>", "(Ljava/lang/String;Ljava/util/List;)V"⟩ : MethodName) (head1 (Jvm.Cond.code (⟨"com/example/sheaf/sheaf/cbor/TextStringItem", "<init>", "(Ljava/lang/String;Ljava/util/List;)V"⟩ : MethodName) prog_23_method_1_code 3 none :: ws) ({ frames := 8, cells := 2, slots := 3, locals := 111 } : Room)) (fun a U => a = #[(.ref a1), (.ref s1), (.ref l1)] ∧ Z.Warmed39 U.vm ∧ U.heap = h0) (fun _ _ _ _ _ => True) (fun _ U o U' => ∃ v L, o = .returned v ∧ Q_ti1 Z a1 s1 l1 b1 mr md f y1 em h0 n0 v U'.heap L ∧ FrameEnd U o U' L ({ frames := 8, cells := 2, slots := 3, locals := 111 } : Room).cells ({ frames := 8, cells := 2, slots := 3, locals := 111 } : Room).slots) := by
  refine MetFree.of_bodySF (plainFor_of_name pn_com_example_sheaf_sheaf_cbor_TextStringItem) hisR ?_
  intro p e s m args below meth c s₁ Bd hml0 hP hK
  obtain ⟨rfl, hZ, hh⟩ := hP
  have hx := Bd.exec
  have hby := Bd.bytes
  have hml : c.maxLocals = 3 := hml0
  have hown : s.vm.findClass "com/example/sheaf/sheaf/cbor/TextStringItem" = some m.cls := findClass_of_methodNamed Bd.named
  have hnm := (name_of_methodNamed Bd.named Bd.method).1
  have X0 : Stand p l e ({ frames := 8, cells := 2, slots := 3, locals := 111 } : Room) s m #[(.ref a1), (.ref s1), (.ref l1)] below meth c s₁ [] 0 0 := Stand.of_body Bd
  have e0 : s₁.heap = h0 := by rw [← hh, Bd.state]; rfl
  have N0 := Fr.nil n0
  obtain ⟨S0, hS0⟩ : ∃ S0, S0 = s₁.setTop (entryFrame m #[(.ref a1), (.ref s1), (.ref l1)] 3) := ⟨_, rfl⟩
  have pre : Pth p e below S0 s₁ (mkF m 0 #[rv a1, rv s1, rv l1] []) := fun t k => by rw [hS0]; exact castTop (ef_ti1 m a1 s1 l1) k
  replace pre : Pth p e below S0 s₁ (mkF m 1 #[rv a1, rv s1, rv l1] [(.ref a1)]) := fun t k => pre t (by
    show SS p e below s₁ (mkF m 0 #[rv a1, rv s1, rv l1] []) t
    refine XS.aloadN X0.here hx rfl (hb hby d_ti1_0) rfl rfl ?_
    show SS p e below s₁ (mkF m 1 #[rv a1, rv s1, rv l1] [(.ref a1)]) t
    exact k)
  obtain ⟨_, _, ⟨T185, L185, k185, n185⟩, -, X185, ⟨Lc185, hQ185, l185, y185, z185⟩, st185⟩ := X0.specialBack hx (y := (⟨"com/example/sheaf/sheaf/cbor/Item", "<init>", "()V"⟩ : MethodName)) rfl hown (mvT hZ (own_t hw 105 rfl)) (mvT hZ (own_t hw 106 rfl)) (mvT hZ (own_t hw 109 rfl)) (by decide) (backOf (W := 0) (rm_item l Z a0 hw [] a1 h0 n0) hZ (own_t hw 109 rfl) (own_t hw 108 rfl) (by decide) (by decide)) (g := (mkF m 1 #[rv a1, rv s1, rv l1] [(.ref a1)])) rfl (by rw [hml]; rfl) (Steps.refl _) (a := a1) (argsL := []) (rest := []) (lenOf pd___V rfl) rfl (by show 2 * 0 + _ ≤ _; exact Nat.le_of_eq rfl) (hb hby d_ti1_1) (fun _ _ => ⟨rfl, e0, (by decide : 0 + 0 ≤ _), (by decide : 0 + 0 ≤ _)⟩)
  dsimp only [Pt.U, Pt.locs, Pt.cells, Pt.slots] at X185 l185 y185 z185 st185 hQ185
  subst l185 y185 z185
  obtain ⟨rfl, N185q, e185⟩ := hQ185
  have N185 := Fr.app N0 N185q
  replace pre : Pth p e below S0 T185 (mkF m 4 #[rv a1, rv s1, rv l1] []) := fun t k => pre t (st185.trans k)
  replace pre : Pth p e below S0 T185 (mkF m 6 #[rv a1, rv s1, rv l1] [(.ref s1), (.ref a1)]) := fun t k => pre t (by
    show SS p e below T185 (mkF m 4 #[rv a1, rv s1, rv l1] []) t
    refine XS.aloadN X185.here hx rfl (hb hby d_ti1_4) rfl rfl ?_
    show SS p e below T185 (mkF m 5 #[rv a1, rv s1, rv l1] [(.ref a1)]) t
    refine XS.aloadN X185.here hx rfl (hb hby d_ti1_5) rfl rfl ?_
    show SS p e below T185 (mkF m 6 #[rv a1, rv s1, rv l1] [(.ref s1), (.ref a1)]) t
    exact k)
  obtain ⟨T186, h186, X186, e186, W186, st186⟩ := putF X185 hx hZ hown (host := "") (Or.inl (own_t hw 111 rfl)) Via.refl e185 F1 Ea (Or.inr ⟨(own_t hw 112 rfl), rfl, hnm⟩) (own_t hw 100 rfl) (ty := (.object "java/lang/String")) (by decide) rfl rfl (g := (mkF m 6 #[rv a1, rv s1, rv l1] [(.ref s1), (.ref a1)])) rfl rfl (hb hby d_ti1_6)
  have N186 := Fr.snoc X186 N185 ga
  replace pre : Pth p e below S0 T186 (mkF m 9 #[rv a1, rv s1, rv l1] []) := fun t k => pre t (st186 _ k)
  have F2a := F2.other W186 (Or.inr (slot_ne (Or.inr (own_t hw 114 rfl)) (Or.inr (own_t hw 112 rfl)) (by decide) (t := (.object "java/util/List")) (t' := (.object "java/lang/String")) (by decide) (by decide)))
  have Ea1 := Ea.wr W186
  have neA : l1 ≠ a1 := own_exne hA.1 Ea (by decide)
  have hA1 := hA.other W186 neA
  have Z1 : n0 ≤ h186.size := by rw [W186.size]; exact Z0
  have Fa1 := Fa.other W186 (own_ne_arr Fa.fun Ea (own_t hw 100 rfl))
  have hf1 := own_hf_wr hf W186
  replace pre : Pth p e below S0 T186 (mkF m 19 #[rv a1, rv s1, rv l1] [(.ref l1), (.ref a1)]) := fun t k => pre t (by
    show SS p e below T186 (mkF m 9 #[rv a1, rv s1, rv l1] []) t
    refine XS.aloadN X186.here hx rfl (hb hby d_ti1_9) rfl rfl ?_
    show SS p e below T186 (mkF m 10 #[rv a1, rv s1, rv l1] [(.ref a1)]) t
    refine XS.aloadN X186.here hx rfl (hb hby d_ti1_10) rfl rfl ?_
    show SS p e below T186 (mkF m 11 #[rv a1, rv s1, rv l1] [(.ref l1), (.ref a1)]) t
    refine XS.ifnonnullYes X186.here hx rfl (pc0 := 11) (pc' := 18) rfl (hb hby d_ti1_11) rfl (by decide) (by decide) ?_
    show SS p e below T186 (mkF m 18 #[rv a1, rv s1, rv l1] [(.ref a1)]) t
    refine XS.aloadN X186.here hx rfl (hb hby d_ti1_18) rfl rfl ?_
    show SS p e below T186 (mkF m 19 #[rv a1, rv s1, rv l1] [(.ref l1), (.ref a1)]) t
    exact k)
  obtain ⟨_, _, ⟨T187, L187, k187, n187⟩, -, X187, ⟨Lc187, hQ187, l187, y187, z187⟩, st187⟩ := Jvm.LawKit.callS X186 hx (y := (⟨"java/util/List", "copyOf", "(Ljava/util/Collection;)Ljava/util/List;"⟩ : MethodName)) hown (mvT hZ (own_t hw 143 rfl)) (mvT hZ (own_t hw 144 rfl)) (mvT hZ (own_t hw 127 rfl)) (mvT hZ (own_t hw 145 rfl)) (by decide) (backOf (W := 1) (rm_co1 l Z a0 hw [] l1 b1 mr md f y1 em h186 n0 Z1 hA1 M Fa1 hf1 fq0 (Sem.wr W186)) hZ (own_t hw 145 rfl) (own_t hw 127 rfl) (by decide) (by decide)) (g := (mkF m 19 #[rv a1, rv s1, rv l1] [(.ref l1), (.ref a1)])) rfl (by rw [hml]; rfl) (argsL := [(.ref l1)]) (rest := [(.ref a1)]) (lenOf pd__Ljava_util_Collection__Ljava_util_List_ rfl) rfl (by show 2 * 0 + _ ≤ _; exact Nat.le_of_eq rfl) (hb hby d_ti1_19) (fun _ _ => ⟨rfl, e186, (by decide : 0 + 2 ≤ _), (by decide : 0 + 3 ≤ _)⟩)
  dsimp only [Pt.U, Pt.locs, Pt.cells, Pt.slots] at X187 l187 y187 z187 st187 hQ187
  subst l187 y187 z187
  obtain ⟨rr, rfl, N187q, E187, O187⟩ := hQ187
  have N187 := Fr.app N186 N187q
  replace pre : Pth p e below S0 T187 (mkF m 22 #[rv a1, rv s1, rv l1] [(.ref rr), (.ref a1)]) := fun t k => pre t (st187 _ k)
  have F2b := F2a.ext E187
  have Ea2 := Ea1.ext E187
  obtain ⟨T188, h188, X188, e188, W188, st188⟩ := putF X187 hx hZ hown (host := "") (Or.inl (own_t hw 113 rfl)) Via.refl rfl F2b Ea2 (Or.inr ⟨(own_t hw 114 rfl), rfl, hnm⟩) (own_t hw 100 rfl) (ty := (.object "java/util/List")) (by decide) rfl rfl (g := (mkF m 22 #[rv a1, rv s1, rv l1] [(.ref rr), (.ref a1)])) rfl rfl (hb hby d_ti1_22)
  have N188 := Fr.snoc X188 N187 ga
  replace pre : Pth p e below S0 T188 (mkF m 25 #[rv a1, rv s1, rv l1] []) := fun t k => pre t (st188 _ k)
  obtain ⟨fs, hr, hrun, hended, hW, hsame⟩ := X188.leave (v := none) (fun _ => rfl)
  subst hS0
  refine ⟨_, _, pre _ ?_, hrun, hended, _, _, rfl, ?_, ⟨_, rfl⟩, hW, hsame.mono (by decide) (by decide)⟩
  · exact X188.returnOut hx Bd.returns (hb hby d_ti1_25) hr
  · show Q_ti1 Z a1 s1 l1 b1 mr md f y1 em h0 n0 _ T188.heap _
    rw [e188]
    exact ⟨rfl, N188, (((Keep.refl h0 [a1]).wr W186 (Or.inl (List.mem_of_getElem? (i := 0) rfl))).ext E187).wr W188 (Or.inl (List.mem_of_getElem? (i := 0) rfl)), Ea2.wr W188, rr, F2b.same W188, O187.other W188 Ea2⟩
def Q_ti2 (Z : State) (a1 : Addr) (s1 : Addr) (l1 : Addr) (b1 mr : Addr) (md : Int32) (f : Nat → Value) (y1 y2 : Addr) (h0 : Heap) (n0 : Nat) (v : Option Value) (h : Heap) (L : List Loc) : Prop := v = none ∧ Fr n0 L ∧ Keep h0 h [a1] ∧ Exa Z h a1 "com/example/sheaf/sheaf/cbor/TextStringItem" ∧ ∃ r, Fld Z h a1 "com/example/sheaf/sheaf/cbor/TextStringItem" "chunks" "Ljava/util/List;" (.ref r) ∧ OL1 Z h r y2
set_option maxRecDepth 65536 in
set_option maxHeartbeats 40000000 in
theorem rm_ti2 (l : Launch) (Z : State) (a0 : Array Value) (hw : ∀ d ∈ tables_1, d.before a0 Z = true) (ws : List Jvm.Cond) (a1 : Addr) (s1 : Addr) (l1 : Addr) (b1 mr : Addr) (md : Int32) (f : Nat → Value) (y1 y2 : Addr) (h0 : Heap) (n0 : Nat) (Z0 : n0 ≤ h0.size) (ga : n0 ≤ a1) (Ea : Exa Z h0 a1 "com/example/sheaf/sheaf/cbor/TextStringItem") (F1 : Fld Z h0 a1 "com/example/sheaf/sheaf/cbor/TextStringItem" "value" "Ljava/lang/String;" .null) (F2 : Fld Z h0 a1 "com/example/sheaf/sheaf/cbor/TextStringItem" "chunks" "Ljava/util/List;" .null) (hA : OAL Z h0 l1 b1 2 md) (M : OMir Z "[Ljava/lang/Object;" mr) (Fa : OArr Z h0 b1 10 f) (hf : ∀ j, j < 10 → f j = .null ∨ ∃ y, f j = .ref y ∧ Ins Z h0 y "java/lang/Object" true) (fq0 : f 0 = .ref y1) (fq1 : f 1 = .ref y2) :
    MetFree l (⟨"com/example/sheaf/sheaf/cbor/TextStringItem", "<init>", "(Ljava/lang/String;Ljava/util/List;)V"⟩ : MethodName) (head1 (Jvm.Cond.code (⟨"com/example/sheaf/sheaf/cbor/TextStringItem", "<init>", "(Ljava/lang/String;Ljava/util/List;)V"⟩ : MethodName) prog_23_method_1_code 3 none :: ws) ({ frames := 8, cells := 2, slots := 4, locals := 111 } : Room)) (fun a U => a = #[(.ref a1), (.ref s1), (.ref l1)] ∧ Z.Warmed39 U.vm ∧ U.heap = h0) (fun _ _ _ _ _ => True) (fun _ U o U' => ∃ v L, o = .returned v ∧ Q_ti2 Z a1 s1 l1 b1 mr md f y1 y2 h0 n0 v U'.heap L ∧ FrameEnd U o U' L ({ frames := 8, cells := 2, slots := 4, locals := 111 } : Room).cells ({ frames := 8, cells := 2, slots := 4, locals := 111 } : Room).slots) := by
  refine MetFree.of_bodySF (plainFor_of_name pn_com_example_sheaf_sheaf_cbor_TextStringItem) hisR ?_
  intro p e s m args below meth c s₁ Bd hml0 hP hK
  obtain ⟨rfl, hZ, hh⟩ := hP
  have hx := Bd.exec
  have hby := Bd.bytes
  have hml : c.maxLocals = 3 := hml0
  have hown : s.vm.findClass "com/example/sheaf/sheaf/cbor/TextStringItem" = some m.cls := findClass_of_methodNamed Bd.named
  have hnm := (name_of_methodNamed Bd.named Bd.method).1
  have X0 : Stand p l e ({ frames := 8, cells := 2, slots := 4, locals := 111 } : Room) s m #[(.ref a1), (.ref s1), (.ref l1)] below meth c s₁ [] 0 0 := Stand.of_body Bd
  have e0 : s₁.heap = h0 := by rw [← hh, Bd.state]; rfl
  have N0 := Fr.nil n0
  obtain ⟨S0, hS0⟩ : ∃ S0, S0 = s₁.setTop (entryFrame m #[(.ref a1), (.ref s1), (.ref l1)] 3) := ⟨_, rfl⟩
  have pre : Pth p e below S0 s₁ (mkF m 0 #[rv a1, rv s1, rv l1] []) := fun t k => by rw [hS0]; exact castTop (ef_ti2 m a1 s1 l1) k
  replace pre : Pth p e below S0 s₁ (mkF m 1 #[rv a1, rv s1, rv l1] [(.ref a1)]) := fun t k => pre t (by
    show SS p e below s₁ (mkF m 0 #[rv a1, rv s1, rv l1] []) t
    refine XS.aloadN X0.here hx rfl (hb hby d_ti2_0) rfl rfl ?_
    show SS p e below s₁ (mkF m 1 #[rv a1, rv s1, rv l1] [(.ref a1)]) t
    exact k)
  obtain ⟨_, _, ⟨T189, L189, k189, n189⟩, -, X189, ⟨Lc189, hQ189, l189, y189, z189⟩, st189⟩ := X0.specialBack hx (y := (⟨"com/example/sheaf/sheaf/cbor/Item", "<init>", "()V"⟩ : MethodName)) rfl hown (mvT hZ (own_t hw 105 rfl)) (mvT hZ (own_t hw 106 rfl)) (mvT hZ (own_t hw 109 rfl)) (by decide) (backOf (W := 0) (rm_item l Z a0 hw [] a1 h0 n0) hZ (own_t hw 109 rfl) (own_t hw 108 rfl) (by decide) (by decide)) (g := (mkF m 1 #[rv a1, rv s1, rv l1] [(.ref a1)])) rfl (by rw [hml]; rfl) (Steps.refl _) (a := a1) (argsL := []) (rest := []) (lenOf pd___V rfl) rfl (by show 2 * 0 + _ ≤ _; exact Nat.le_of_eq rfl) (hb hby d_ti2_1) (fun _ _ => ⟨rfl, e0, (by decide : 0 + 0 ≤ _), (by decide : 0 + 0 ≤ _)⟩)
  dsimp only [Pt.U, Pt.locs, Pt.cells, Pt.slots] at X189 l189 y189 z189 st189 hQ189
  subst l189 y189 z189
  obtain ⟨rfl, N189q, e189⟩ := hQ189
  have N189 := Fr.app N0 N189q
  replace pre : Pth p e below S0 T189 (mkF m 4 #[rv a1, rv s1, rv l1] []) := fun t k => pre t (st189.trans k)
  replace pre : Pth p e below S0 T189 (mkF m 6 #[rv a1, rv s1, rv l1] [(.ref s1), (.ref a1)]) := fun t k => pre t (by
    show SS p e below T189 (mkF m 4 #[rv a1, rv s1, rv l1] []) t
    refine XS.aloadN X189.here hx rfl (hb hby d_ti2_4) rfl rfl ?_
    show SS p e below T189 (mkF m 5 #[rv a1, rv s1, rv l1] [(.ref a1)]) t
    refine XS.aloadN X189.here hx rfl (hb hby d_ti2_5) rfl rfl ?_
    show SS p e below T189 (mkF m 6 #[rv a1, rv s1, rv l1] [(.ref s1), (.ref a1)]) t
    exact k)
  obtain ⟨T190, h190, X190, e190, W190, st190⟩ := putF X189 hx hZ hown (host := "") (Or.inl (own_t hw 111 rfl)) Via.refl e189 F1 Ea (Or.inr ⟨(own_t hw 112 rfl), rfl, hnm⟩) (own_t hw 100 rfl) (ty := (.object "java/lang/String")) (by decide) rfl rfl (g := (mkF m 6 #[rv a1, rv s1, rv l1] [(.ref s1), (.ref a1)])) rfl rfl (hb hby d_ti2_6)
  have N190 := Fr.snoc X190 N189 ga
  replace pre : Pth p e below S0 T190 (mkF m 9 #[rv a1, rv s1, rv l1] []) := fun t k => pre t (st190 _ k)
  have F2a := F2.other W190 (Or.inr (slot_ne (Or.inr (own_t hw 114 rfl)) (Or.inr (own_t hw 112 rfl)) (by decide) (t := (.object "java/util/List")) (t' := (.object "java/lang/String")) (by decide) (by decide)))
  have Ea1 := Ea.wr W190
  have neA : l1 ≠ a1 := own_exne hA.1 Ea (by decide)
  have hA1 := hA.other W190 neA
  have Z1 : n0 ≤ h190.size := by rw [W190.size]; exact Z0
  have Fa1 := Fa.other W190 (own_ne_arr Fa.fun Ea (own_t hw 100 rfl))
  have hf1 := own_hf_wr hf W190
  replace pre : Pth p e below S0 T190 (mkF m 19 #[rv a1, rv s1, rv l1] [(.ref l1), (.ref a1)]) := fun t k => pre t (by
    show SS p e below T190 (mkF m 9 #[rv a1, rv s1, rv l1] []) t
    refine XS.aloadN X190.here hx rfl (hb hby d_ti2_9) rfl rfl ?_
    show SS p e below T190 (mkF m 10 #[rv a1, rv s1, rv l1] [(.ref a1)]) t
    refine XS.aloadN X190.here hx rfl (hb hby d_ti2_10) rfl rfl ?_
    show SS p e below T190 (mkF m 11 #[rv a1, rv s1, rv l1] [(.ref l1), (.ref a1)]) t
    refine XS.ifnonnullYes X190.here hx rfl (pc0 := 11) (pc' := 18) rfl (hb hby d_ti2_11) rfl (by decide) (by decide) ?_
    show SS p e below T190 (mkF m 18 #[rv a1, rv s1, rv l1] [(.ref a1)]) t
    refine XS.aloadN X190.here hx rfl (hb hby d_ti2_18) rfl rfl ?_
    show SS p e below T190 (mkF m 19 #[rv a1, rv s1, rv l1] [(.ref l1), (.ref a1)]) t
    exact k)
  obtain ⟨_, _, ⟨T191, L191, k191, n191⟩, -, X191, ⟨Lc191, hQ191, l191, y191, z191⟩, st191⟩ := Jvm.LawKit.callS X190 hx (y := (⟨"java/util/List", "copyOf", "(Ljava/util/Collection;)Ljava/util/List;"⟩ : MethodName)) hown (mvT hZ (own_t hw 143 rfl)) (mvT hZ (own_t hw 144 rfl)) (mvT hZ (own_t hw 127 rfl)) (mvT hZ (own_t hw 145 rfl)) (by decide) (backOf (W := 1) (rm_co2 l Z a0 hw [] l1 b1 mr md f y1 y2 h190 n0 Z1 hA1 M Fa1 hf1 fq0 fq1) hZ (own_t hw 145 rfl) (own_t hw 127 rfl) (by decide) (by decide)) (g := (mkF m 19 #[rv a1, rv s1, rv l1] [(.ref l1), (.ref a1)])) rfl (by rw [hml]; rfl) (argsL := [(.ref l1)]) (rest := [(.ref a1)]) (lenOf pd__Ljava_util_Collection__Ljava_util_List_ rfl) rfl (by show 2 * 0 + _ ≤ _; exact Nat.le_of_eq rfl) (hb hby d_ti2_19) (fun _ _ => ⟨rfl, e190, (by decide : 0 + 2 ≤ _), (by decide : 0 + 4 ≤ _)⟩)
  dsimp only [Pt.U, Pt.locs, Pt.cells, Pt.slots] at X191 l191 y191 z191 st191 hQ191
  subst l191 y191 z191
  obtain ⟨rr, rfl, N191q, E191, O191⟩ := hQ191
  have N191 := Fr.app N190 N191q
  replace pre : Pth p e below S0 T191 (mkF m 22 #[rv a1, rv s1, rv l1] [(.ref rr), (.ref a1)]) := fun t k => pre t (st191 _ k)
  have F2b := F2a.ext E191
  have Ea2 := Ea1.ext E191
  obtain ⟨T192, h192, X192, e192, W192, st192⟩ := putF X191 hx hZ hown (host := "") (Or.inl (own_t hw 113 rfl)) Via.refl rfl F2b Ea2 (Or.inr ⟨(own_t hw 114 rfl), rfl, hnm⟩) (own_t hw 100 rfl) (ty := (.object "java/util/List")) (by decide) rfl rfl (g := (mkF m 22 #[rv a1, rv s1, rv l1] [(.ref rr), (.ref a1)])) rfl rfl (hb hby d_ti2_22)
  have N192 := Fr.snoc X192 N191 ga
  replace pre : Pth p e below S0 T192 (mkF m 25 #[rv a1, rv s1, rv l1] []) := fun t k => pre t (st192 _ k)
  obtain ⟨fs, hr, hrun, hended, hW, hsame⟩ := X192.leave (v := none) (fun _ => rfl)
  subst hS0
  refine ⟨_, _, pre _ ?_, hrun, hended, _, _, rfl, ?_, ⟨_, rfl⟩, hW, hsame.mono (by decide) (by decide)⟩
  · exact X192.returnOut hx Bd.returns (hb hby d_ti2_25) hr
  · show Q_ti2 Z a1 s1 l1 b1 mr md f y1 y2 h0 n0 _ T192.heap _
    rw [e192]
    exact ⟨rfl, N192, (((Keep.refl h0 [a1]).wr W190 (Or.inl (List.mem_of_getElem? (i := 0) rfl))).ext E191).wr W192 (Or.inl (List.mem_of_getElem? (i := 0) rfl)), Ea2.wr W192, rr, F2b.same W192, O191.other W192 Ea2⟩
def Q_ti3 (Z : State) (a1 : Addr) (s1 : Addr) (l1 : Addr) (b1 mr : Addr) (md : Int32) (f : Nat → Value) (y1 y2 y3 : Addr) (h0 : Heap) (n0 : Nat) (v : Option Value) (h : Heap) (L : List Loc) : Prop := v = none ∧ Fr n0 L ∧ Keep h0 h [a1] ∧ Exa Z h a1 "com/example/sheaf/sheaf/cbor/TextStringItem" ∧ ∃ r, Fld Z h a1 "com/example/sheaf/sheaf/cbor/TextStringItem" "chunks" "Ljava/util/List;" (.ref r) ∧ OL3 Z h r
set_option maxRecDepth 65536 in
set_option maxHeartbeats 40000000 in
theorem rm_ti3 (l : Launch) (Z : State) (a0 : Array Value) (hw : ∀ d ∈ tables_1, d.before a0 Z = true) (ws : List Jvm.Cond) (a1 : Addr) (s1 : Addr) (l1 : Addr) (b1 mr : Addr) (md : Int32) (f : Nat → Value) (y1 y2 y3 : Addr) (h0 : Heap) (n0 : Nat) (Z0 : n0 ≤ h0.size) (ga : n0 ≤ a1) (Ea : Exa Z h0 a1 "com/example/sheaf/sheaf/cbor/TextStringItem") (F1 : Fld Z h0 a1 "com/example/sheaf/sheaf/cbor/TextStringItem" "value" "Ljava/lang/String;" .null) (F2 : Fld Z h0 a1 "com/example/sheaf/sheaf/cbor/TextStringItem" "chunks" "Ljava/util/List;" .null) (hA : OAL Z h0 l1 b1 3 md) (M : OMir Z "[Ljava/lang/Object;" mr) (Fa : OArr Z h0 b1 10 f) (hf : ∀ j, j < 10 → f j = .null ∨ ∃ y, f j = .ref y ∧ Ins Z h0 y "java/lang/Object" true) (fq0 : f 0 = .ref y1) (fq1 : f 1 = .ref y2) (fq2 : f 2 = .ref y3) (I1 : Ins Z h0 y1 "java/lang/Object" true) (I2 : Ins Z h0 y2 "java/lang/Object" true) (I3 : Ins Z h0 y3 "java/lang/Object" true) :
    MetFree l (⟨"com/example/sheaf/sheaf/cbor/TextStringItem", "<init>", "(Ljava/lang/String;Ljava/util/List;)V"⟩ : MethodName) (head1 (Jvm.Cond.code (⟨"com/example/sheaf/sheaf/cbor/TextStringItem", "<init>", "(Ljava/lang/String;Ljava/util/List;)V"⟩ : MethodName) prog_23_method_1_code 3 none :: ws) ({ frames := 9, cells := 3, slots := 8, locals := 116 } : Room)) (fun a U => a = #[(.ref a1), (.ref s1), (.ref l1)] ∧ Z.Warmed39 U.vm ∧ U.heap = h0) (fun _ _ _ _ _ => True) (fun _ U o U' => ∃ v L, o = .returned v ∧ Q_ti3 Z a1 s1 l1 b1 mr md f y1 y2 y3 h0 n0 v U'.heap L ∧ FrameEnd U o U' L ({ frames := 9, cells := 3, slots := 8, locals := 116 } : Room).cells ({ frames := 9, cells := 3, slots := 8, locals := 116 } : Room).slots) := by
  refine MetFree.of_bodySF (plainFor_of_name pn_com_example_sheaf_sheaf_cbor_TextStringItem) hisR ?_
  intro p e s m args below meth c s₁ Bd hml0 hP hK
  obtain ⟨rfl, hZ, hh⟩ := hP
  have hx := Bd.exec
  have hby := Bd.bytes
  have hml : c.maxLocals = 3 := hml0
  have hown : s.vm.findClass "com/example/sheaf/sheaf/cbor/TextStringItem" = some m.cls := findClass_of_methodNamed Bd.named
  have hnm := (name_of_methodNamed Bd.named Bd.method).1
  have X0 : Stand p l e ({ frames := 9, cells := 3, slots := 8, locals := 116 } : Room) s m #[(.ref a1), (.ref s1), (.ref l1)] below meth c s₁ [] 0 0 := Stand.of_body Bd
  have e0 : s₁.heap = h0 := by rw [← hh, Bd.state]; rfl
  have N0 := Fr.nil n0
  obtain ⟨S0, hS0⟩ : ∃ S0, S0 = s₁.setTop (entryFrame m #[(.ref a1), (.ref s1), (.ref l1)] 3) := ⟨_, rfl⟩
  have pre : Pth p e below S0 s₁ (mkF m 0 #[rv a1, rv s1, rv l1] []) := fun t k => by rw [hS0]; exact castTop (ef_ti3 m a1 s1 l1) k
  replace pre : Pth p e below S0 s₁ (mkF m 1 #[rv a1, rv s1, rv l1] [(.ref a1)]) := fun t k => pre t (by
    show SS p e below s₁ (mkF m 0 #[rv a1, rv s1, rv l1] []) t
    refine XS.aloadN X0.here hx rfl (hb hby d_ti3_0) rfl rfl ?_
    show SS p e below s₁ (mkF m 1 #[rv a1, rv s1, rv l1] [(.ref a1)]) t
    exact k)
  obtain ⟨_, _, ⟨T193, L193, k193, n193⟩, -, X193, ⟨Lc193, hQ193, l193, y193, z193⟩, st193⟩ := X0.specialBack hx (y := (⟨"com/example/sheaf/sheaf/cbor/Item", "<init>", "()V"⟩ : MethodName)) rfl hown (mvT hZ (own_t hw 105 rfl)) (mvT hZ (own_t hw 106 rfl)) (mvT hZ (own_t hw 109 rfl)) (by decide) (backOf (W := 0) (rm_item l Z a0 hw [] a1 h0 n0) hZ (own_t hw 109 rfl) (own_t hw 108 rfl) (by decide) (by decide)) (g := (mkF m 1 #[rv a1, rv s1, rv l1] [(.ref a1)])) rfl (by rw [hml]; rfl) (Steps.refl _) (a := a1) (argsL := []) (rest := []) (lenOf pd___V rfl) rfl (by show 2 * 0 + _ ≤ _; exact Nat.le_of_eq rfl) (hb hby d_ti3_1) (fun _ _ => ⟨rfl, e0, (by decide : 0 + 0 ≤ _), (by decide : 0 + 0 ≤ _)⟩)
  dsimp only [Pt.U, Pt.locs, Pt.cells, Pt.slots] at X193 l193 y193 z193 st193 hQ193
  subst l193 y193 z193
  obtain ⟨rfl, N193q, e193⟩ := hQ193
  have N193 := Fr.app N0 N193q
  replace pre : Pth p e below S0 T193 (mkF m 4 #[rv a1, rv s1, rv l1] []) := fun t k => pre t (st193.trans k)
  replace pre : Pth p e below S0 T193 (mkF m 6 #[rv a1, rv s1, rv l1] [(.ref s1), (.ref a1)]) := fun t k => pre t (by
    show SS p e below T193 (mkF m 4 #[rv a1, rv s1, rv l1] []) t
    refine XS.aloadN X193.here hx rfl (hb hby d_ti3_4) rfl rfl ?_
    show SS p e below T193 (mkF m 5 #[rv a1, rv s1, rv l1] [(.ref a1)]) t
    refine XS.aloadN X193.here hx rfl (hb hby d_ti3_5) rfl rfl ?_
    show SS p e below T193 (mkF m 6 #[rv a1, rv s1, rv l1] [(.ref s1), (.ref a1)]) t
    exact k)
  obtain ⟨T194, h194, X194, e194, W194, st194⟩ := putF X193 hx hZ hown (host := "") (Or.inl (own_t hw 111 rfl)) Via.refl e193 F1 Ea (Or.inr ⟨(own_t hw 112 rfl), rfl, hnm⟩) (own_t hw 100 rfl) (ty := (.object "java/lang/String")) (by decide) rfl rfl (g := (mkF m 6 #[rv a1, rv s1, rv l1] [(.ref s1), (.ref a1)])) rfl rfl (hb hby d_ti3_6)
  have N194 := Fr.snoc X194 N193 ga
  replace pre : Pth p e below S0 T194 (mkF m 9 #[rv a1, rv s1, rv l1] []) := fun t k => pre t (st194 _ k)
  have F2a := F2.other W194 (Or.inr (slot_ne (Or.inr (own_t hw 114 rfl)) (Or.inr (own_t hw 112 rfl)) (by decide) (t := (.object "java/util/List")) (t' := (.object "java/lang/String")) (by decide) (by decide)))
  have Ea1 := Ea.wr W194
  have neA : l1 ≠ a1 := own_exne hA.1 Ea (by decide)
  have hA1 := hA.other W194 neA
  have Z1 : n0 ≤ h194.size := by rw [W194.size]; exact Z0
  have Fa1 := Fa.other W194 (own_ne_arr Fa.fun Ea (own_t hw 100 rfl))
  have hf1 := own_hf_wr hf W194
  replace pre : Pth p e below S0 T194 (mkF m 19 #[rv a1, rv s1, rv l1] [(.ref l1), (.ref a1)]) := fun t k => pre t (by
    show SS p e below T194 (mkF m 9 #[rv a1, rv s1, rv l1] []) t
    refine XS.aloadN X194.here hx rfl (hb hby d_ti3_9) rfl rfl ?_
    show SS p e below T194 (mkF m 10 #[rv a1, rv s1, rv l1] [(.ref a1)]) t
    refine XS.aloadN X194.here hx rfl (hb hby d_ti3_10) rfl rfl ?_
    show SS p e below T194 (mkF m 11 #[rv a1, rv s1, rv l1] [(.ref l1), (.ref a1)]) t
    refine XS.ifnonnullYes X194.here hx rfl (pc0 := 11) (pc' := 18) rfl (hb hby d_ti3_11) rfl (by decide) (by decide) ?_
    show SS p e below T194 (mkF m 18 #[rv a1, rv s1, rv l1] [(.ref a1)]) t
    refine XS.aloadN X194.here hx rfl (hb hby d_ti3_18) rfl rfl ?_
    show SS p e below T194 (mkF m 19 #[rv a1, rv s1, rv l1] [(.ref l1), (.ref a1)]) t
    exact k)
  obtain ⟨_, _, ⟨T195, L195, k195, n195⟩, -, X195, ⟨Lc195, hQ195, l195, y195, z195⟩, st195⟩ := Jvm.LawKit.callS X194 hx (y := (⟨"java/util/List", "copyOf", "(Ljava/util/Collection;)Ljava/util/List;"⟩ : MethodName)) hown (mvT hZ (own_t hw 143 rfl)) (mvT hZ (own_t hw 144 rfl)) (mvT hZ (own_t hw 127 rfl)) (mvT hZ (own_t hw 145 rfl)) (by decide) (backOf (W := 1) (rm_co3 l Z a0 hw [] l1 b1 mr md f y1 y2 y3 h194 n0 Z1 hA1 M Fa1 hf1 fq0 fq1 fq2 (I1.wr W194) (I2.wr W194) (I3.wr W194)) hZ (own_t hw 145 rfl) (own_t hw 127 rfl) (by decide) (by decide)) (g := (mkF m 19 #[rv a1, rv s1, rv l1] [(.ref l1), (.ref a1)])) rfl (by rw [hml]; rfl) (argsL := [(.ref l1)]) (rest := [(.ref a1)]) (lenOf pd__Ljava_util_Collection__Ljava_util_List_ rfl) rfl (by show 2 * 0 + _ ≤ _; exact Nat.le_of_eq rfl) (hb hby d_ti3_19) (fun _ _ => ⟨rfl, e194, (by decide : 0 + 3 ≤ _), (by decide : 0 + 8 ≤ _)⟩)
  dsimp only [Pt.U, Pt.locs, Pt.cells, Pt.slots] at X195 l195 y195 z195 st195 hQ195
  subst l195 y195 z195
  obtain ⟨rr, rfl, N195q, E195, O195⟩ := hQ195
  have N195 := Fr.app N194 N195q
  replace pre : Pth p e below S0 T195 (mkF m 22 #[rv a1, rv s1, rv l1] [(.ref rr), (.ref a1)]) := fun t k => pre t (st195 _ k)
  have F2b := F2a.ext E195
  have Ea2 := Ea1.ext E195
  obtain ⟨T196, h196, X196, e196, W196, st196⟩ := putF X195 hx hZ hown (host := "") (Or.inl (own_t hw 113 rfl)) Via.refl rfl F2b Ea2 (Or.inr ⟨(own_t hw 114 rfl), rfl, hnm⟩) (own_t hw 100 rfl) (ty := (.object "java/util/List")) (by decide) rfl rfl (g := (mkF m 22 #[rv a1, rv s1, rv l1] [(.ref rr), (.ref a1)])) rfl rfl (hb hby d_ti3_22)
  have N196 := Fr.snoc X196 N195 ga
  replace pre : Pth p e below S0 T196 (mkF m 25 #[rv a1, rv s1, rv l1] []) := fun t k => pre t (st196 _ k)
  obtain ⟨fs, hr, hrun, hended, hW, hsame⟩ := X196.leave (v := none) (fun _ => rfl)
  subst hS0
  refine ⟨_, _, pre _ ?_, hrun, hended, _, _, rfl, ?_, ⟨_, rfl⟩, hW, hsame.mono (by decide) (by decide)⟩
  · exact X196.returnOut hx Bd.returns (hb hby d_ti3_25) hr
  · show Q_ti3 Z a1 s1 l1 b1 mr md f y1 y2 y3 h0 n0 _ T196.heap _
    rw [e196]
    exact ⟨rfl, N196, (((Keep.refl h0 [a1]).wr W194 (Or.inl (List.mem_of_getElem? (i := 0) rfl))).ext E195).wr W196 (Or.inl (List.mem_of_getElem? (i := 0) rfl)), Ea2.wr W196, rr, F2b.same W196, O195.other W196 Ea2 (own_t hw 100 rfl)⟩
def Q_ii0 (Z : State) (a1 : Addr) (u1 : Addr) (h0 : Heap) (n0 : Nat) (v : Option Value) (h : Heap) (L : List Loc) : Prop := v = some (.int 0) ∧ Fr n0 L ∧ h = h0
set_option maxRecDepth 65536 in
set_option maxHeartbeats 40000000 in
theorem rm_ii0 (l : Launch) (Z : State) (a0 : Array Value) (hw : ∀ d ∈ tables_1, d.before a0 Z = true) (ws : List Jvm.Cond) (a1 : Addr) (u1 : Addr) (h0 : Heap) (n0 : Nat) (F1 : Fld Z h0 a1 "com/example/sheaf/sheaf/cbor/TextStringItem" "chunks" "Ljava/util/List;" .null) :
    MetFree l (⟨"com/example/sheaf/sheaf/cbor/TextStringItem", "isIndefinite", "()Z"⟩ : MethodName) (head1 (Jvm.Cond.code (⟨"com/example/sheaf/sheaf/cbor/TextStringItem", "isIndefinite", "()Z"⟩ : MethodName) prog_23_method_4_code 1 (some .boolean) :: ws) ({ frames := 0, cells := 0, slots := 0, locals := 0 } : Room)) (fun a U => a = #[(.ref a1)] ∧ Z.Warmed39 U.vm ∧ U.heap = h0) (fun _ _ _ _ _ => True) (fun _ U o U' => ∃ v L, o = .returned v ∧ Q_ii0 Z a1 u1 h0 n0 v U'.heap L ∧ FrameEnd U o U' L ({ frames := 0, cells := 0, slots := 0, locals := 0 } : Room).cells ({ frames := 0, cells := 0, slots := 0, locals := 0 } : Room).slots) := by
  refine MetFree.of_bodySF (plainFor_of_name pn_com_example_sheaf_sheaf_cbor_TextStringItem) hisR ?_
  intro p e s m args below meth c s₁ Bd hml0 hP hK
  obtain ⟨rfl, hZ, hh⟩ := hP
  have hx := Bd.exec
  have hby := Bd.bytes
  have hml : c.maxLocals = 1 := hml0
  have hown : s.vm.findClass "com/example/sheaf/sheaf/cbor/TextStringItem" = some m.cls := findClass_of_methodNamed Bd.named
  have hnm := (name_of_methodNamed Bd.named Bd.method).1
  have X0 : Stand p l e ({ frames := 0, cells := 0, slots := 0, locals := 0 } : Room) s m #[(.ref a1)] below meth c s₁ [] 0 0 := Stand.of_body Bd
  have e0 : s₁.heap = h0 := by rw [← hh, Bd.state]; rfl
  have N0 := Fr.nil n0
  obtain ⟨S0, hS0⟩ : ∃ S0, S0 = s₁.setTop (entryFrame m #[(.ref a1)] 1) := ⟨_, rfl⟩
  have pre : Pth p e below S0 s₁ (mkF m 0 #[rv a1] []) := fun t k => by rw [hS0]; exact castTop (ef_ii0 m a1) k
  replace pre : Pth p e below S0 s₁ (mkF m 1 #[rv a1] [(.ref a1)]) := fun t k => pre t (by
    show SS p e below s₁ (mkF m 0 #[rv a1] []) t
    refine XS.aloadN X0.here hx rfl (hb hby d_ii0_0) rfl rfl ?_
    show SS p e below s₁ (mkF m 1 #[rv a1] [(.ref a1)]) t
    exact k)
  obtain ⟨T197, X197, e197, st197⟩ := getF X0 hx hZ hown (host := "") (Or.inl (own_t hw 113 rfl)) Via.refl e0 F1 (g := (mkF m 1 #[rv a1] [(.ref a1)])) rfl rfl (hb hby d_ii0_1)
  replace pre : Pth p e below S0 T197 (mkF m 4 #[rv a1] [.null]) := fun t k => pre t (st197 _ k)
  replace pre : Pth p e below S0 T197 (mkF m 12 #[rv a1] [(.int (0 : Int32))]) := fun t k => pre t (by
    show SS p e below T197 (mkF m 4 #[rv a1] [.null]) t
    refine XS.ifnullYes X197.here hx rfl (pc0 := 4) (pc' := 11) rfl (hb hby d_ii0_4) rfl (by decide) (by decide) ?_
    show SS p e below T197 (mkF m 11 #[rv a1] []) t
    refine XS.iconst X197.here hx rfl (hb hby d_ii0_11) ?_
    show SS p e below T197 (mkF m 12 #[rv a1] [(.int (0 : Int32))]) t
    exact k)
  obtain ⟨fs, hr, hrun, hended, hW, hsame⟩ := X197.leave (v := some (.int (0 : Int32))) (fun h => by rw [Bd.returns] at h; cases h)
  subst hS0
  refine ⟨_, _, pre _ ?_, hrun, hended, _, _, rfl, ?_, ⟨_, rfl⟩, hW, hsame.mono (by decide) (by decide)⟩
  · exact retN X197 hx (t := .boolean) Bd.returns (by simp) (hb hby d_ii0_12) hr
  · show Q_ii0 Z a1 u1 h0 n0 _ T197.heap _
    rw [e197]
    exact ⟨rfl, N0, rfl⟩
def Q_ck0 (Z : State) (a1 : Addr) (u1 : Addr) (h0 : Heap) (n0 : Nat) (v : Option Value) (h : Heap) (L : List Loc) : Prop := v = some (.ref u1) ∧ Fr n0 L ∧ h = h0
set_option maxRecDepth 65536 in
set_option maxHeartbeats 40000000 in
theorem rm_ck0 (l : Launch) (Z : State) (a0 : Array Value) (hw : ∀ d ∈ tables_1, d.before a0 Z = true) (ws : List Jvm.Cond) (a1 : Addr) (u1 : Addr) (h0 : Heap) (n0 : Nat) (F1 : Fld Z h0 a1 "com/example/sheaf/sheaf/cbor/TextStringItem" "chunks" "Ljava/util/List;" .null) (Sel : Sta Z h0 "java/util/ImmutableCollections" "EMPTY_LIST" "Ljava/util/ImmutableCollections$ListN;" (.ref u1)) :
    MetFree l (⟨"com/example/sheaf/sheaf/cbor/TextStringItem", "chunks", "()Ljava/util/List;"⟩ : MethodName) (head1 (Jvm.Cond.code (⟨"com/example/sheaf/sheaf/cbor/TextStringItem", "chunks", "()Ljava/util/List;"⟩ : MethodName) prog_23_method_5_code 1 (some (.object "java/util/List")) :: ws) ({ frames := 1, cells := 0, slots := 0, locals := 11 } : Room)) (fun a U => a = #[(.ref a1)] ∧ Z.Warmed39 U.vm ∧ U.heap = h0) (fun _ _ _ _ _ => True) (fun _ U o U' => ∃ v L, o = .returned v ∧ Q_ck0 Z a1 u1 h0 n0 v U'.heap L ∧ FrameEnd U o U' L ({ frames := 1, cells := 0, slots := 0, locals := 11 } : Room).cells ({ frames := 1, cells := 0, slots := 0, locals := 11 } : Room).slots) := by
  refine MetFree.of_bodySF (plainFor_of_name pn_com_example_sheaf_sheaf_cbor_TextStringItem) hisR ?_
  intro p e s m args below meth c s₁ Bd hml0 hP hK
  obtain ⟨rfl, hZ, hh⟩ := hP
  have hx := Bd.exec
  have hby := Bd.bytes
  have hml : c.maxLocals = 1 := hml0
  have hown : s.vm.findClass "com/example/sheaf/sheaf/cbor/TextStringItem" = some m.cls := findClass_of_methodNamed Bd.named
  have hnm := (name_of_methodNamed Bd.named Bd.method).1
  have X0 : Stand p l e ({ frames := 1, cells := 0, slots := 0, locals := 11 } : Room) s m #[(.ref a1)] below meth c s₁ [] 0 0 := Stand.of_body Bd
  have e0 : s₁.heap = h0 := by rw [← hh, Bd.state]; rfl
  have N0 := Fr.nil n0
  obtain ⟨S0, hS0⟩ : ∃ S0, S0 = s₁.setTop (entryFrame m #[(.ref a1)] 1) := ⟨_, rfl⟩
  have pre : Pth p e below S0 s₁ (mkF m 0 #[rv a1] []) := fun t k => by rw [hS0]; exact castTop (ef_ck0 m a1) k
  replace pre : Pth p e below S0 s₁ (mkF m 1 #[rv a1] [(.ref a1)]) := fun t k => pre t (by
    show SS p e below s₁ (mkF m 0 #[rv a1] []) t
    refine XS.aloadN X0.here hx rfl (hb hby d_ck0_0) rfl rfl ?_
    show SS p e below s₁ (mkF m 1 #[rv a1] [(.ref a1)]) t
    exact k)
  obtain ⟨T198, X198, e198, st198⟩ := getF X0 hx hZ hown (host := "") (Or.inl (own_t hw 113 rfl)) Via.refl e0 F1 (g := (mkF m 1 #[rv a1] [(.ref a1)])) rfl rfl (hb hby d_ck0_1)
  replace pre : Pth p e below S0 T198 (mkF m 4 #[rv a1] [.null]) := fun t k => pre t (st198 _ k)
  replace pre : Pth p e below S0 T198 (mkF m 7 #[rv a1] []) := fun t k => pre t (by
    show SS p e below T198 (mkF m 4 #[rv a1] [.null]) t
    refine XS.ifnonnullNo X198.here hx rfl (hb hby d_ck0_4) rfl ?_
    show SS p e below T198 (mkF m 7 #[rv a1] []) t
    exact k)
  obtain ⟨_, _, ⟨T199, L199, k199, n199⟩, -, X199, ⟨Lc199, hQ199, l199, y199, z199⟩, st199⟩ := Jvm.LawKit.callS X198 hx (y := (⟨"java/util/List", "of", "()Ljava/util/List;"⟩ : MethodName)) hown (mvT hZ (own_t hw 125 rfl)) (mvT hZ (own_t hw 126 rfl)) (mvT hZ (own_t hw 127 rfl)) (mvT hZ (own_t hw 128 rfl)) (by decide) (backOf (W := 0) (rm_lof l Z a0 hw [] u1 h0 n0 Sel) hZ (own_t hw 128 rfl) (own_t hw 127 rfl) (by decide) (by decide)) (g := (mkF m 7 #[rv a1] [])) rfl (by rw [hml]; rfl) (argsL := []) (rest := []) (lenOf pd___Ljava_util_List_ rfl) rfl (by show 2 * 0 + _ ≤ _; exact Nat.le_of_eq rfl) (hb hby d_ck0_7) (fun _ _ => ⟨rfl, e198, (by decide : 0 + 0 ≤ _), (by decide : 0 + 0 ≤ _)⟩)
  dsimp only [Pt.U, Pt.locs, Pt.cells, Pt.slots] at X199 l199 y199 z199 st199 hQ199
  subst l199 y199 z199
  obtain ⟨rfl, N199q, e199⟩ := hQ199
  have N199 := Fr.app N0 N199q
  replace pre : Pth p e below S0 T199 (mkF m 10 #[rv a1] [(.ref u1)]) := fun t k => pre t (st199 _ k)
  replace pre : Pth p e below S0 T199 (mkF m 17 #[rv a1] [(.ref u1)]) := fun t k => pre t (by
    show SS p e below T199 (mkF m 10 #[rv a1] [(.ref u1)]) t
    refine XS.goto X199.here hx rfl (pc0 := 10) (pc' := 17) rfl (hb hby d_ck0_10) (by decide) (by decide) ?_
    show SS p e below T199 (mkF m 17 #[rv a1] [(.ref u1)]) t
    exact k)
  obtain ⟨fs, hr, hrun, hended, hW, hsame⟩ := X199.leave (v := some (.ref u1)) (fun h => by rw [Bd.returns] at h; cases h)
  subst hS0
  refine ⟨_, _, pre _ ?_, hrun, hended, _, _, rfl, ?_, ⟨_, rfl⟩, hW, hsame.mono (by decide) (by decide)⟩
  · exact retOut X199 hx (t := (.object "java/util/List")) Bd.returns rfl (by simp [Value.isRef, FieldType.isReference]) (hb hby d_ck0_17) hr
  · show Q_ck0 Z a1 u1 h0 n0 _ T199.heap _
    rw [e199]
    exact ⟨rfl, N199, rfl⟩
def Q_ii1 (Z : State) (a1 : Addr) (u1 : Addr) (h0 : Heap) (n0 : Nat) (v : Option Value) (h : Heap) (L : List Loc) : Prop := v = some (.int 1) ∧ Fr n0 L ∧ h = h0
set_option maxRecDepth 65536 in
set_option maxHeartbeats 40000000 in
theorem rm_ii1 (l : Launch) (Z : State) (a0 : Array Value) (hw : ∀ d ∈ tables_1, d.before a0 Z = true) (ws : List Jvm.Cond) (a1 : Addr) (u1 : Addr) (h0 : Heap) (n0 : Nat) (F1 : Fld Z h0 a1 "com/example/sheaf/sheaf/cbor/TextStringItem" "chunks" "Ljava/util/List;" (.ref u1)) :
    MetFree l (⟨"com/example/sheaf/sheaf/cbor/TextStringItem", "isIndefinite", "()Z"⟩ : MethodName) (head1 (Jvm.Cond.code (⟨"com/example/sheaf/sheaf/cbor/TextStringItem", "isIndefinite", "()Z"⟩ : MethodName) prog_23_method_4_code 1 (some .boolean) :: ws) ({ frames := 0, cells := 0, slots := 0, locals := 0 } : Room)) (fun a U => a = #[(.ref a1)] ∧ Z.Warmed39 U.vm ∧ U.heap = h0) (fun _ _ _ _ _ => True) (fun _ U o U' => ∃ v L, o = .returned v ∧ Q_ii1 Z a1 u1 h0 n0 v U'.heap L ∧ FrameEnd U o U' L ({ frames := 0, cells := 0, slots := 0, locals := 0 } : Room).cells ({ frames := 0, cells := 0, slots := 0, locals := 0 } : Room).slots) := by
  refine MetFree.of_bodySF (plainFor_of_name pn_com_example_sheaf_sheaf_cbor_TextStringItem) hisR ?_
  intro p e s m args below meth c s₁ Bd hml0 hP hK
  obtain ⟨rfl, hZ, hh⟩ := hP
  have hx := Bd.exec
  have hby := Bd.bytes
  have hml : c.maxLocals = 1 := hml0
  have hown : s.vm.findClass "com/example/sheaf/sheaf/cbor/TextStringItem" = some m.cls := findClass_of_methodNamed Bd.named
  have hnm := (name_of_methodNamed Bd.named Bd.method).1
  have X0 : Stand p l e ({ frames := 0, cells := 0, slots := 0, locals := 0 } : Room) s m #[(.ref a1)] below meth c s₁ [] 0 0 := Stand.of_body Bd
  have e0 : s₁.heap = h0 := by rw [← hh, Bd.state]; rfl
  have N0 := Fr.nil n0
  obtain ⟨S0, hS0⟩ : ∃ S0, S0 = s₁.setTop (entryFrame m #[(.ref a1)] 1) := ⟨_, rfl⟩
  have pre : Pth p e below S0 s₁ (mkF m 0 #[rv a1] []) := fun t k => by rw [hS0]; exact castTop (ef_ii1 m a1) k
  replace pre : Pth p e below S0 s₁ (mkF m 1 #[rv a1] [(.ref a1)]) := fun t k => pre t (by
    show SS p e below s₁ (mkF m 0 #[rv a1] []) t
    refine XS.aloadN X0.here hx rfl (hb hby d_ii1_0) rfl rfl ?_
    show SS p e below s₁ (mkF m 1 #[rv a1] [(.ref a1)]) t
    exact k)
  obtain ⟨T200, X200, e200, st200⟩ := getF X0 hx hZ hown (host := "") (Or.inl (own_t hw 113 rfl)) Via.refl e0 F1 (g := (mkF m 1 #[rv a1] [(.ref a1)])) rfl rfl (hb hby d_ii1_1)
  replace pre : Pth p e below S0 T200 (mkF m 4 #[rv a1] [(.ref u1)]) := fun t k => pre t (st200 _ k)
  replace pre : Pth p e below S0 T200 (mkF m 12 #[rv a1] [(.int (1 : Int32))]) := fun t k => pre t (by
    show SS p e below T200 (mkF m 4 #[rv a1] [(.ref u1)]) t
    refine XS.ifnullNo X200.here hx rfl (hb hby d_ii1_4) rfl ?_
    show SS p e below T200 (mkF m 7 #[rv a1] []) t
    refine XS.iconst X200.here hx rfl (hb hby d_ii1_7) ?_
    show SS p e below T200 (mkF m 8 #[rv a1] [(.int (1 : Int32))]) t
    refine XS.goto X200.here hx rfl (pc0 := 8) (pc' := 12) rfl (hb hby d_ii1_8) (by decide) (by decide) ?_
    show SS p e below T200 (mkF m 12 #[rv a1] [(.int (1 : Int32))]) t
    exact k)
  obtain ⟨fs, hr, hrun, hended, hW, hsame⟩ := X200.leave (v := some (.int (1 : Int32))) (fun h => by rw [Bd.returns] at h; cases h)
  subst hS0
  refine ⟨_, _, pre _ ?_, hrun, hended, _, _, rfl, ?_, ⟨_, rfl⟩, hW, hsame.mono (by decide) (by decide)⟩
  · exact retN X200 hx (t := .boolean) Bd.returns (by simp) (hb hby d_ii1_12) hr
  · show Q_ii1 Z a1 u1 h0 n0 _ T200.heap _
    rw [e200]
    exact ⟨rfl, N0, rfl⟩
def Q_ck1 (Z : State) (a1 : Addr) (u1 : Addr) (h0 : Heap) (n0 : Nat) (v : Option Value) (h : Heap) (L : List Loc) : Prop := v = some (.ref u1) ∧ Fr n0 L ∧ h = h0
set_option maxRecDepth 65536 in
set_option maxHeartbeats 40000000 in
theorem rm_ck1 (l : Launch) (Z : State) (a0 : Array Value) (hw : ∀ d ∈ tables_1, d.before a0 Z = true) (ws : List Jvm.Cond) (a1 : Addr) (u1 : Addr) (h0 : Heap) (n0 : Nat) (F1 : Fld Z h0 a1 "com/example/sheaf/sheaf/cbor/TextStringItem" "chunks" "Ljava/util/List;" (.ref u1)) :
    MetFree l (⟨"com/example/sheaf/sheaf/cbor/TextStringItem", "chunks", "()Ljava/util/List;"⟩ : MethodName) (head1 (Jvm.Cond.code (⟨"com/example/sheaf/sheaf/cbor/TextStringItem", "chunks", "()Ljava/util/List;"⟩ : MethodName) prog_23_method_5_code 1 (some (.object "java/util/List")) :: ws) ({ frames := 1, cells := 0, slots := 0, locals := 11 } : Room)) (fun a U => a = #[(.ref a1)] ∧ Z.Warmed39 U.vm ∧ U.heap = h0) (fun _ _ _ _ _ => True) (fun _ U o U' => ∃ v L, o = .returned v ∧ Q_ck1 Z a1 u1 h0 n0 v U'.heap L ∧ FrameEnd U o U' L ({ frames := 1, cells := 0, slots := 0, locals := 11 } : Room).cells ({ frames := 1, cells := 0, slots := 0, locals := 11 } : Room).slots) := by
  refine MetFree.of_bodySF (plainFor_of_name pn_com_example_sheaf_sheaf_cbor_TextStringItem) hisR ?_
  intro p e s m args below meth c s₁ Bd hml0 hP hK
  obtain ⟨rfl, hZ, hh⟩ := hP
  have hx := Bd.exec
  have hby := Bd.bytes
  have hml : c.maxLocals = 1 := hml0
  have hown : s.vm.findClass "com/example/sheaf/sheaf/cbor/TextStringItem" = some m.cls := findClass_of_methodNamed Bd.named
  have hnm := (name_of_methodNamed Bd.named Bd.method).1
  have X0 : Stand p l e ({ frames := 1, cells := 0, slots := 0, locals := 11 } : Room) s m #[(.ref a1)] below meth c s₁ [] 0 0 := Stand.of_body Bd
  have e0 : s₁.heap = h0 := by rw [← hh, Bd.state]; rfl
  have N0 := Fr.nil n0
  obtain ⟨S0, hS0⟩ : ∃ S0, S0 = s₁.setTop (entryFrame m #[(.ref a1)] 1) := ⟨_, rfl⟩
  have pre : Pth p e below S0 s₁ (mkF m 0 #[rv a1] []) := fun t k => by rw [hS0]; exact castTop (ef_ck1 m a1) k
  replace pre : Pth p e below S0 s₁ (mkF m 1 #[rv a1] [(.ref a1)]) := fun t k => pre t (by
    show SS p e below s₁ (mkF m 0 #[rv a1] []) t
    refine XS.aloadN X0.here hx rfl (hb hby d_ck1_0) rfl rfl ?_
    show SS p e below s₁ (mkF m 1 #[rv a1] [(.ref a1)]) t
    exact k)
  obtain ⟨T201, X201, e201, st201⟩ := getF X0 hx hZ hown (host := "") (Or.inl (own_t hw 113 rfl)) Via.refl e0 F1 (g := (mkF m 1 #[rv a1] [(.ref a1)])) rfl rfl (hb hby d_ck1_1)
  replace pre : Pth p e below S0 T201 (mkF m 4 #[rv a1] [(.ref u1)]) := fun t k => pre t (st201 _ k)
  replace pre : Pth p e below S0 T201 (mkF m 14 #[rv a1] [(.ref a1)]) := fun t k => pre t (by
    show SS p e below T201 (mkF m 4 #[rv a1] [(.ref u1)]) t
    refine XS.ifnonnullYes X201.here hx rfl (pc0 := 4) (pc' := 13) rfl (hb hby d_ck1_4) rfl (by decide) (by decide) ?_
    show SS p e below T201 (mkF m 13 #[rv a1] []) t
    refine XS.aloadN X201.here hx rfl (hb hby d_ck1_13) rfl rfl ?_
    show SS p e below T201 (mkF m 14 #[rv a1] [(.ref a1)]) t
    exact k)
  obtain ⟨T202, X202, e202, st202⟩ := getF X201 hx hZ hown (host := "") (Or.inl (own_t hw 113 rfl)) Via.refl e201 F1 (g := (mkF m 14 #[rv a1] [(.ref a1)])) rfl rfl (hb hby d_ck1_14)
  replace pre : Pth p e below S0 T202 (mkF m 17 #[rv a1] [(.ref u1)]) := fun t k => pre t (st202 _ k)
  obtain ⟨fs, hr, hrun, hended, hW, hsame⟩ := X202.leave (v := some (.ref u1)) (fun h => by rw [Bd.returns] at h; cases h)
  subst hS0
  refine ⟨_, _, pre _ ?_, hrun, hended, _, _, rfl, ?_, ⟨_, rfl⟩, hW, hsame.mono (by decide) (by decide)⟩
  · exact retOut X202 hx (t := (.object "java/util/List")) Bd.returns rfl (by simp [Value.isRef, FieldType.isReference]) (hb hby d_ck1_17) hr
  · show Q_ck1 Z a1 u1 h0 n0 _ T202.heap _
    rw [e202]
    exact ⟨rfl, N0, rfl⟩
def Q_law (Z : State) (x0 : Int32) (x1 : Int32) (x2 : Int32) (x3 : Int32) (x4 : Int32) (cz : Int32) (dc el eb em mr : Addr) (fd fe : Nat → Value) (h0 : Heap) (n0 : Nat) (v : Option Value) (h : Heap) (L : List Loc) : Prop := v = some (.int 1) ∧ Fr n0 L
set_option maxRecDepth 65536 in
set_option maxHeartbeats 40000000 in
theorem rm_law (l : Launch) (Z : State) (a0 : Array Value) (hw : ∀ d ∈ tables_1, d.before a0 Z = true) (ws : List Jvm.Cond) (x0 : Int32) (x1 : Int32) (x2 : Int32) (x3 : Int32) (x4 : Int32) (cz : Int32) (dc el eb em mr : Addr) (fd fe : Nat → Value) (h0 : Heap) (n0 : Nat) (Z0 : n0 ≤ h0.size) (Scs : Sta Z h0 "java/lang/String" "COMPACT_STRINGS" "Z" (.int cz)) (hcz : ¬ cz = 0) (Sd : Sta Z h0 "java/util/ArrayList" "DEFAULTCAPACITY_EMPTY_ELEMENTDATA" "[Ljava/lang/Object;" (.ref dc)) (Fd : OFun Z h0 dc (.object "java/lang/Object") 0 fd) (Sel : Sta Z h0 "java/util/ImmutableCollections" "EMPTY_LIST" "Ljava/util/ImmutableCollections$ListN;" (.ref el)) (Eel : Exa Z h0 el "java/util/ImmutableCollections$ListN") (Fel : Fld Z h0 el "java/util/ImmutableCollections$ListN" "elements" "[Ljava/lang/Object;" (.ref eb)) (Fe0 : OFun Z h0 eb (.object "java/lang/Object") 0 fe) (Sem : Sta Z h0 "java/util/ImmutableCollections" "EMPTY" "Ljava/lang/Object;" (.ref em)) (Eem : Exa Z h0 em "java/lang/Object") (M : OMir Z "[Ljava/lang/Object;" mr) :
    MetFree l x (head1 (Jvm.Cond.code x code maxLocals ret :: ws) room_1) (fun a U => a = #[(.int x0), (.int x1), (.int x2), (.int x3), (.int x4)] ∧ Z.Warmed39 U.vm ∧ U.heap = h0) (fun _ _ _ _ _ => True) (fun _ U o U' => ∃ v L, o = .returned v ∧ Q_law Z x0 x1 x2 x3 x4 cz dc el eb em mr fd fe h0 n0 v U'.heap L ∧ FrameEnd U o U' L room_1.cells room_1.slots) := by
  refine MetFree.of_bodySF (plainFor_of_name pn_com_example_sheaf_sheaf_cbor_TextStringItemIsIndefinitePinLaw) hisR ?_
  intro p e s m args below meth c s₁ Bd hml0 hP hK
  obtain ⟨rfl, hZ, hh⟩ := hP
  have hx := Bd.exec
  have hby := Bd.bytes
  have hml : c.maxLocals = 16 := hml0
  have hown : s.vm.findClass "com/example/sheaf/sheaf/cbor/TextStringItemIsIndefinitePinLaw" = some m.cls := findClass_of_methodNamed Bd.named
  have hnm := (name_of_methodNamed Bd.named Bd.method).1
  have X0 : Stand p l e room_1 s m #[(.int x0), (.int x1), (.int x2), (.int x3), (.int x4)] below meth c s₁ [] 0 0 := Stand.of_body Bd
  have e0 : s₁.heap = h0 := by rw [← hh, Bd.state]; rfl
  have N0 := Fr.nil n0
  obtain ⟨S0, hS0⟩ : ∃ S0, S0 = s₁.setTop (entryFrame m #[(.int x0), (.int x1), (.int x2), (.int x3), (.int x4)] maxLocals) := ⟨_, rfl⟩
  have pre : Pth p e below S0 s₁ (mkF m 0 #[iv x0, iv x1, iv x2, iv x3, iv x4, .unset, .unset, .unset, .unset, .unset, .unset, .unset, .unset, .unset, .unset, .unset] []) := fun t k => by rw [hS0]; exact castTop (ef_law m x0 x1 x2 x3 x4) k
  replace pre : Pth p e below S0 s₁ (mkF m 3 #[iv x0, iv x1, iv x2, iv x3, iv x4, .unset, .unset, .unset, .unset, .unset, .unset, .unset, .unset, .unset, .unset, .unset] [(.int (x0 &&& (1 : Int32)))]) := fun t k => pre t (by
    show SS p e below s₁ (mkF m 0 #[iv x0, iv x1, iv x2, iv x3, iv x4, .unset, .unset, .unset, .unset, .unset, .unset, .unset, .unset, .unset, .unset, .unset] []) t
    refine XS.iloadN X0.here hx rfl (hb hby at_0) rfl ?_
    show SS p e below s₁ (mkF m 1 #[iv x0, iv x1, iv x2, iv x3, iv x4, .unset, .unset, .unset, .unset, .unset, .unset, .unset, .unset, .unset, .unset, .unset] [(.int x0)]) t
    refine XS.iconst X0.here hx rfl (hb hby at_1) ?_
    show SS p e below s₁ (mkF m 2 #[iv x0, iv x1, iv x2, iv x3, iv x4, .unset, .unset, .unset, .unset, .unset, .unset, .unset, .unset, .unset, .unset, .unset] [(.int (1 : Int32)), (.int x0)]) t
    refine XS.iand X0.here hx rfl (hb hby at_2) rfl ?_
    show SS p e below s₁ (mkF m 3 #[iv x0, iv x1, iv x2, iv x3, iv x4, .unset, .unset, .unset, .unset, .unset, .unset, .unset, .unset, .unset, .unset, .unset] [(.int (x0 &&& (1 : Int32)))]) t
    exact k)
  obtain ⟨fl, hfl, pre⟩ : ∃ fl : Int32, (fl = 0 ∨ fl = 1) ∧ Pth p e below S0 s₁ (mkF m 11 #[iv x0, iv x1, iv x2, iv x3, iv x4, .unset, .unset, .unset, .unset, .unset, .unset, .unset, .unset, .unset, .unset, .unset] [(.int fl)]) := by
    by_cases z1 : (x0 &&& (1 : Int32)) = (0 : Int32)
    · replace pre : Pth p e below S0 s₁ (mkF m 11 #[iv x0, iv x1, iv x2, iv x3, iv x4, .unset, .unset, .unset, .unset, .unset, .unset, .unset, .unset, .unset, .unset, .unset] [(.int (0 : Int32))]) := fun t k => pre t (by
        show SS p e below s₁ (mkF m 3 #[iv x0, iv x1, iv x2, iv x3, iv x4, .unset, .unset, .unset, .unset, .unset, .unset, .unset, .unset, .unset, .unset, .unset] [(.int (x0 &&& (1 : Int32)))]) t
        refine XS.ifYes X0.here hx rfl (pc0 := 3) (pc' := 10) rfl (hb hby at_3) rfl (XT.i0_eq_t z1) (by decide) (by decide) ?_
        show SS p e below s₁ (mkF m 10 #[iv x0, iv x1, iv x2, iv x3, iv x4, .unset, .unset, .unset, .unset, .unset, .unset, .unset, .unset, .unset, .unset, .unset] []) t
        refine XS.iconst X0.here hx rfl (hb hby at_10) ?_
        show SS p e below s₁ (mkF m 11 #[iv x0, iv x1, iv x2, iv x3, iv x4, .unset, .unset, .unset, .unset, .unset, .unset, .unset, .unset, .unset, .unset, .unset] [(.int (0 : Int32))]) t
        exact k)
      exact ⟨_, Or.inl rfl, pre⟩
    · replace pre : Pth p e below S0 s₁ (mkF m 11 #[iv x0, iv x1, iv x2, iv x3, iv x4, .unset, .unset, .unset, .unset, .unset, .unset, .unset, .unset, .unset, .unset, .unset] [(.int (1 : Int32))]) := fun t k => pre t (by
        show SS p e below s₁ (mkF m 3 #[iv x0, iv x1, iv x2, iv x3, iv x4, .unset, .unset, .unset, .unset, .unset, .unset, .unset, .unset, .unset, .unset, .unset] [(.int (x0 &&& (1 : Int32)))]) t
        refine XS.ifNo X0.here hx rfl (hb hby at_3) rfl (XT.i0_eq_f z1) ?_
        show SS p e below s₁ (mkF m 6 #[iv x0, iv x1, iv x2, iv x3, iv x4, .unset, .unset, .unset, .unset, .unset, .unset, .unset, .unset, .unset, .unset, .unset] []) t
        refine XS.iconst X0.here hx rfl (hb hby at_6) ?_
        show SS p e below s₁ (mkF m 7 #[iv x0, iv x1, iv x2, iv x3, iv x4, .unset, .unset, .unset, .unset, .unset, .unset, .unset, .unset, .unset, .unset, .unset] [(.int (1 : Int32))]) t
        refine XS.goto X0.here hx rfl (pc0 := 7) (pc' := 11) rfl (hb hby at_7) (by decide) (by decide) ?_
        show SS p e below s₁ (mkF m 11 #[iv x0, iv x1, iv x2, iv x3, iv x4, .unset, .unset, .unset, .unset, .unset, .unset, .unset, .unset, .unset, .unset, .unset] [(.int (1 : Int32))]) t
        exact k)
      exact ⟨_, Or.inr rfl, pre⟩
  replace pre : Pth p e below S0 s₁ (mkF m 43 #[iv x0, iv x1, iv x2, iv x3, iv x4, iv fl, iv (x1 &&& (3 : Int32)), iv ((x2 &&& (255 : Int32)).toUInt32.toUInt16.toUInt32.toInt32), iv ((x3 &&& (255 : Int32)).toUInt32.toUInt16.toUInt32.toInt32), iv ((x4 &&& (255 : Int32)).toUInt32.toUInt16.toUInt32.toInt32), .unset, .unset, .unset, .unset, .unset, .unset] []) := fun t k => pre t (by
    show SS p e below s₁ (mkF m 11 #[iv x0, iv x1, iv x2, iv x3, iv x4, .unset, .unset, .unset, .unset, .unset, .unset, .unset, .unset, .unset, .unset, .unset] [(.int fl)]) t
    refine XS.istore X0.here hx rfl (hb hby at_11) rfl (l' := #[iv x0, iv x1, iv x2, iv x3, iv x4, iv fl, .unset, .unset, .unset, .unset, .unset, .unset, .unset, .unset, .unset, .unset]) rfl ?_
    show SS p e below s₁ (mkF m 13 #[iv x0, iv x1, iv x2, iv x3, iv x4, iv fl, .unset, .unset, .unset, .unset, .unset, .unset, .unset, .unset, .unset, .unset] []) t
    refine XS.iloadN X0.here hx rfl (hb hby at_13) rfl ?_
    show SS p e below s₁ (mkF m 14 #[iv x0, iv x1, iv x2, iv x3, iv x4, iv fl, .unset, .unset, .unset, .unset, .unset, .unset, .unset, .unset, .unset, .unset] [(.int x1)]) t
    refine XS.iconst X0.here hx rfl (hb hby at_14) ?_
    show SS p e below s₁ (mkF m 15 #[iv x0, iv x1, iv x2, iv x3, iv x4, iv fl, .unset, .unset, .unset, .unset, .unset, .unset, .unset, .unset, .unset, .unset] [(.int (3 : Int32)), (.int x1)]) t
    refine XS.iand X0.here hx rfl (hb hby at_15) rfl ?_
    show SS p e below s₁ (mkF m 16 #[iv x0, iv x1, iv x2, iv x3, iv x4, iv fl, .unset, .unset, .unset, .unset, .unset, .unset, .unset, .unset, .unset, .unset] [(.int (x1 &&& (3 : Int32)))]) t
    refine XS.istore X0.here hx rfl (hb hby at_16) rfl (l' := #[iv x0, iv x1, iv x2, iv x3, iv x4, iv fl, iv (x1 &&& (3 : Int32)), .unset, .unset, .unset, .unset, .unset, .unset, .unset, .unset, .unset]) rfl ?_
    show SS p e below s₁ (mkF m 18 #[iv x0, iv x1, iv x2, iv x3, iv x4, iv fl, iv (x1 &&& (3 : Int32)), .unset, .unset, .unset, .unset, .unset, .unset, .unset, .unset, .unset] []) t
    refine XS.iloadN X0.here hx rfl (hb hby at_18) rfl ?_
    show SS p e below s₁ (mkF m 19 #[iv x0, iv x1, iv x2, iv x3, iv x4, iv fl, iv (x1 &&& (3 : Int32)), .unset, .unset, .unset, .unset, .unset, .unset, .unset, .unset, .unset] [(.int x2)]) t
    refine XS.sipush X0.here hx rfl (hb hby at_19) ?_
    show SS p e below s₁ (mkF m 22 #[iv x0, iv x1, iv x2, iv x3, iv x4, iv fl, iv (x1 &&& (3 : Int32)), .unset, .unset, .unset, .unset, .unset, .unset, .unset, .unset, .unset] [(.int (255 : Int32)), (.int x2)]) t
    refine XS.iand X0.here hx rfl (hb hby at_22) rfl ?_
    show SS p e below s₁ (mkF m 23 #[iv x0, iv x1, iv x2, iv x3, iv x4, iv fl, iv (x1 &&& (3 : Int32)), .unset, .unset, .unset, .unset, .unset, .unset, .unset, .unset, .unset] [(.int (x2 &&& (255 : Int32)))]) t
    refine XS.i2c X0.here hx rfl (hb hby at_23) rfl ?_
    show SS p e below s₁ (mkF m 24 #[iv x0, iv x1, iv x2, iv x3, iv x4, iv fl, iv (x1 &&& (3 : Int32)), .unset, .unset, .unset, .unset, .unset, .unset, .unset, .unset, .unset] [(.int ((x2 &&& (255 : Int32)).toUInt32.toUInt16.toUInt32.toInt32))]) t
    refine XS.istore X0.here hx rfl (hb hby at_24) rfl (l' := #[iv x0, iv x1, iv x2, iv x3, iv x4, iv fl, iv (x1 &&& (3 : Int32)), iv ((x2 &&& (255 : Int32)).toUInt32.toUInt16.toUInt32.toInt32), .unset, .unset, .unset, .unset, .unset, .unset, .unset, .unset]) rfl ?_
    show SS p e below s₁ (mkF m 26 #[iv x0, iv x1, iv x2, iv x3, iv x4, iv fl, iv (x1 &&& (3 : Int32)), iv ((x2 &&& (255 : Int32)).toUInt32.toUInt16.toUInt32.toInt32), .unset, .unset, .unset, .unset, .unset, .unset, .unset, .unset] []) t
    refine XS.iloadN X0.here hx rfl (hb hby at_26) rfl ?_
    show SS p e below s₁ (mkF m 27 #[iv x0, iv x1, iv x2, iv x3, iv x4, iv fl, iv (x1 &&& (3 : Int32)), iv ((x2 &&& (255 : Int32)).toUInt32.toUInt16.toUInt32.toInt32), .unset, .unset, .unset, .unset, .unset, .unset, .unset, .unset] [(.int x3)]) t
    refine XS.sipush X0.here hx rfl (hb hby at_27) ?_
    show SS p e below s₁ (mkF m 30 #[iv x0, iv x1, iv x2, iv x3, iv x4, iv fl, iv (x1 &&& (3 : Int32)), iv ((x2 &&& (255 : Int32)).toUInt32.toUInt16.toUInt32.toInt32), .unset, .unset, .unset, .unset, .unset, .unset, .unset, .unset] [(.int (255 : Int32)), (.int x3)]) t
    refine XS.iand X0.here hx rfl (hb hby at_30) rfl ?_
    show SS p e below s₁ (mkF m 31 #[iv x0, iv x1, iv x2, iv x3, iv x4, iv fl, iv (x1 &&& (3 : Int32)), iv ((x2 &&& (255 : Int32)).toUInt32.toUInt16.toUInt32.toInt32), .unset, .unset, .unset, .unset, .unset, .unset, .unset, .unset] [(.int (x3 &&& (255 : Int32)))]) t
    refine XS.i2c X0.here hx rfl (hb hby at_31) rfl ?_
    show SS p e below s₁ (mkF m 32 #[iv x0, iv x1, iv x2, iv x3, iv x4, iv fl, iv (x1 &&& (3 : Int32)), iv ((x2 &&& (255 : Int32)).toUInt32.toUInt16.toUInt32.toInt32), .unset, .unset, .unset, .unset, .unset, .unset, .unset, .unset] [(.int ((x3 &&& (255 : Int32)).toUInt32.toUInt16.toUInt32.toInt32))]) t
    refine XS.istore X0.here hx rfl (hb hby at_32) rfl (l' := #[iv x0, iv x1, iv x2, iv x3, iv x4, iv fl, iv (x1 &&& (3 : Int32)), iv ((x2 &&& (255 : Int32)).toUInt32.toUInt16.toUInt32.toInt32), iv ((x3 &&& (255 : Int32)).toUInt32.toUInt16.toUInt32.toInt32), .unset, .unset, .unset, .unset, .unset, .unset, .unset]) rfl ?_
    show SS p e below s₁ (mkF m 34 #[iv x0, iv x1, iv x2, iv x3, iv x4, iv fl, iv (x1 &&& (3 : Int32)), iv ((x2 &&& (255 : Int32)).toUInt32.toUInt16.toUInt32.toInt32), iv ((x3 &&& (255 : Int32)).toUInt32.toUInt16.toUInt32.toInt32), .unset, .unset, .unset, .unset, .unset, .unset, .unset] []) t
    refine XS.iload X0.here hx rfl (hb hby at_34) rfl ?_
    show SS p e below s₁ (mkF m 36 #[iv x0, iv x1, iv x2, iv x3, iv x4, iv fl, iv (x1 &&& (3 : Int32)), iv ((x2 &&& (255 : Int32)).toUInt32.toUInt16.toUInt32.toInt32), iv ((x3 &&& (255 : Int32)).toUInt32.toUInt16.toUInt32.toInt32), .unset, .unset, .unset, .unset, .unset, .unset, .unset] [(.int x4)]) t
    refine XS.sipush X0.here hx rfl (hb hby at_36) ?_
    show SS p e below s₁ (mkF m 39 #[iv x0, iv x1, iv x2, iv x3, iv x4, iv fl, iv (x1 &&& (3 : Int32)), iv ((x2 &&& (255 : Int32)).toUInt32.toUInt16.toUInt32.toInt32), iv ((x3 &&& (255 : Int32)).toUInt32.toUInt16.toUInt32.toInt32), .unset, .unset, .unset, .unset, .unset, .unset, .unset] [(.int (255 : Int32)), (.int x4)]) t
    refine XS.iand X0.here hx rfl (hb hby at_39) rfl ?_
    show SS p e below s₁ (mkF m 40 #[iv x0, iv x1, iv x2, iv x3, iv x4, iv fl, iv (x1 &&& (3 : Int32)), iv ((x2 &&& (255 : Int32)).toUInt32.toUInt16.toUInt32.toInt32), iv ((x3 &&& (255 : Int32)).toUInt32.toUInt16.toUInt32.toInt32), .unset, .unset, .unset, .unset, .unset, .unset, .unset] [(.int (x4 &&& (255 : Int32)))]) t
    refine XS.i2c X0.here hx rfl (hb hby at_40) rfl ?_
    show SS p e below s₁ (mkF m 41 #[iv x0, iv x1, iv x2, iv x3, iv x4, iv fl, iv (x1 &&& (3 : Int32)), iv ((x2 &&& (255 : Int32)).toUInt32.toUInt16.toUInt32.toInt32), iv ((x3 &&& (255 : Int32)).toUInt32.toUInt16.toUInt32.toInt32), .unset, .unset, .unset, .unset, .unset, .unset, .unset] [(.int ((x4 &&& (255 : Int32)).toUInt32.toUInt16.toUInt32.toInt32))]) t
    refine XS.istore X0.here hx rfl (hb hby at_41) rfl (l' := #[iv x0, iv x1, iv x2, iv x3, iv x4, iv fl, iv (x1 &&& (3 : Int32)), iv ((x2 &&& (255 : Int32)).toUInt32.toUInt16.toUInt32.toInt32), iv ((x3 &&& (255 : Int32)).toUInt32.toUInt16.toUInt32.toInt32), iv ((x4 &&& (255 : Int32)).toUInt32.toUInt16.toUInt32.toInt32), .unset, .unset, .unset, .unset, .unset, .unset]) rfl ?_
    show SS p e below s₁ (mkF m 43 #[iv x0, iv x1, iv x2, iv x3, iv x4, iv fl, iv (x1 &&& (3 : Int32)), iv ((x2 &&& (255 : Int32)).toUInt32.toUInt16.toUInt32.toInt32), iv ((x3 &&& (255 : Int32)).toUInt32.toUInt16.toUInt32.toInt32), iv ((x4 &&& (255 : Int32)).toUInt32.toUInt16.toUInt32.toInt32), .unset, .unset, .unset, .unset, .unset, .unset] []) t
    exact k)
  obtain ⟨cn, h_cn⟩ : ∃ z : Int32, z = (x1 &&& (3 : Int32)) := ⟨_, rfl⟩
  rw [← h_cn] at pre
  obtain ⟨c7, h_c7⟩ : ∃ z : Int32, z = ((x2 &&& (255 : Int32)).toUInt32.toUInt16.toUInt32.toInt32) := ⟨_, rfl⟩
  rw [← h_c7] at pre
  obtain ⟨k7a, k7b⟩ := own_chr h_c7
  obtain ⟨c8, h_c8⟩ : ∃ z : Int32, z = ((x3 &&& (255 : Int32)).toUInt32.toUInt16.toUInt32.toInt32) := ⟨_, rfl⟩
  rw [← h_c8] at pre
  obtain ⟨k8a, k8b⟩ := own_chr h_c8
  obtain ⟨c9, h_c9⟩ : ∃ z : Int32, z = ((x4 &&& (255 : Int32)).toUInt32.toUInt16.toUInt32.toInt32) := ⟨_, rfl⟩
  rw [← h_c9] at pre
  obtain ⟨k9a, k9b⟩ := own_chr h_c9
  obtain ⟨T203, h203, X203, e203, E203, A203, D203, -, st203⟩ := newO X0 hx hZ hown (own_t hw 0 rfl) (own_t hw 1 rfl) (own_t hw 2 rfl) e0 (g := (mkF m 43 #[iv x0, iv x1, iv x2, iv x3, iv x4, iv fl, iv cn, iv c7, iv c8, iv c9, .unset, .unset, .unset, .unset, .unset, .unset] [])) rfl (hb hby at_43) (by decide) (by decide)
  obtain ⟨b203, g203⟩ : ∃ z, z = h0.size := ⟨_, rfl⟩
  rw [← g203] at A203 D203 st203
  replace pre : Pth p e below S0 T203 (mkF m 46 #[iv x0, iv x1, iv x2, iv x3, iv x4, iv fl, iv cn, iv c7, iv c8, iv c9, .unset, .unset, .unset, .unset, .unset, .unset] [(.ref b203)]) := fun t k => pre t (st203 _ k)
  have Vs : Fld Z h203 b203 "java/lang/String" "value" "[B" .null := D203 (Or.inr (own_t hw 29 rfl)) (ty := .array .byte) (by decide)
  have Cs : Fld Z h203 b203 "java/lang/String" "coder" "B" (.int 0) := D203 (Or.inr (own_t hw 27 rfl)) (ty := .byte) (by decide)
  replace pre : Pth p e below S0 T203 (mkF m 48 #[iv x0, iv x1, iv x2, iv x3, iv x4, iv fl, iv cn, iv c7, iv c8, iv c9, .unset, .unset, .unset, .unset, .unset, .unset] [(.int (3 : Int32)), (.ref b203), (.ref b203)]) := fun t k => pre t (by
    show SS p e below T203 (mkF m 46 #[iv x0, iv x1, iv x2, iv x3, iv x4, iv fl, iv cn, iv c7, iv c8, iv c9, .unset, .unset, .unset, .unset, .unset, .unset] [(.ref b203)]) t
    refine XS.dup X203.here hx rfl (hb hby at_46) rfl rfl ?_
    show SS p e below T203 (mkF m 47 #[iv x0, iv x1, iv x2, iv x3, iv x4, iv fl, iv cn, iv c7, iv c8, iv c9, .unset, .unset, .unset, .unset, .unset, .unset] [(.ref b203), (.ref b203)]) t
    refine XS.iconst X203.here hx rfl (hb hby at_47) ?_
    show SS p e below T203 (mkF m 48 #[iv x0, iv x1, iv x2, iv x3, iv x4, iv fl, iv cn, iv c7, iv c8, iv c9, .unset, .unset, .unset, .unset, .unset, .unset] [(.int (3 : Int32)), (.ref b203), (.ref b203)]) t
    exact k)
  obtain ⟨T204, h204, k204, X204, e204, E204, A204, st204⟩ := newP X203 hx hZ (own_t hw 3 rfl) e203 (g := (mkF m 48 #[iv x0, iv x1, iv x2, iv x3, iv x4, iv fl, iv cn, iv c7, iv c8, iv c9, .unset, .unset, .unset, .unset, .unset, .unset] [(.int (3 : Int32)), (.ref b203), (.ref b203)])) rfl (hb hby at_48) rfl (by decide) (cap := 3) (by decide) (by decide) (by decide) (by decide)
  obtain ⟨b204, g204⟩ : ∃ z, z = h203.size := ⟨_, rfl⟩
  rw [← g204] at A204 st204
  have F204 := OFun.new A204
  replace pre : Pth p e below S0 T204 (mkF m 50 #[iv x0, iv x1, iv x2, iv x3, iv x4, iv fl, iv cn, iv c7, iv c8, iv c9, .unset, .unset, .unset, .unset, .unset, .unset] [(.ref b204), (.ref b203), (.ref b203)]) := fun t k => pre t (st204 _ k)
  have Fc : OFun Z h204 b204 .char 3 _ := F204
  have sS : h0.size ≤ b203 := by rw [g203]; exact Nat.le_refl _
  have sC : h0.size ≤ b204 := by rw [g204]; exact E203.1
  have neC : b203 ≠ b204 := by rw [g204]; exact Nat.ne_of_lt A203.lt
  have EX := own_ext_trans E203 E204
  have Ae := A203.ext E204
  have Ve := Vs.ext E204
  have Ce := Cs.ext E204
  replace pre : Pth p e below S0 T204 (mkF m 54 #[iv x0, iv x1, iv x2, iv x3, iv x4, iv fl, iv cn, iv c7, iv c8, iv c9, .unset, .unset, .unset, .unset, .unset, .unset] [(.int c7), (.int (0 : Int32)), (.ref b204), (.ref b204), (.ref b203), (.ref b203)]) := fun t k => pre t (by
    show SS p e below T204 (mkF m 50 #[iv x0, iv x1, iv x2, iv x3, iv x4, iv fl, iv cn, iv c7, iv c8, iv c9, .unset, .unset, .unset, .unset, .unset, .unset] [(.ref b204), (.ref b203), (.ref b203)]) t
    refine XS.dup X204.here hx rfl (hb hby at_50) rfl rfl ?_
    show SS p e below T204 (mkF m 51 #[iv x0, iv x1, iv x2, iv x3, iv x4, iv fl, iv cn, iv c7, iv c8, iv c9, .unset, .unset, .unset, .unset, .unset, .unset] [(.ref b204), (.ref b204), (.ref b203), (.ref b203)]) t
    refine XS.iconst X204.here hx rfl (hb hby at_51) ?_
    show SS p e below T204 (mkF m 52 #[iv x0, iv x1, iv x2, iv x3, iv x4, iv fl, iv cn, iv c7, iv c8, iv c9, .unset, .unset, .unset, .unset, .unset, .unset] [(.int (0 : Int32)), (.ref b204), (.ref b204), (.ref b203), (.ref b203)]) t
    refine XS.iload X204.here hx rfl (hb hby at_52) rfl ?_
    show SS p e below T204 (mkF m 54 #[iv x0, iv x1, iv x2, iv x3, iv x4, iv fl, iv cn, iv c7, iv c8, iv c9, .unset, .unset, .unset, .unset, .unset, .unset] [(.int c7), (.int (0 : Int32)), (.ref b204), (.ref b204), (.ref b203), (.ref b203)]) t
    exact k)
  obtain ⟨cl205, Ar205, Sz205, -⟩ := id Fc
  obtain ⟨T205, h205, X205, e205, W205, st205⟩ := stC X204 hx hZ e204 Ar205 (j := (0 : Int32)) (by rw [Sz205]; exact (by decide)) (g := (mkF m 54 #[iv x0, iv x1, iv x2, iv x3, iv x4, iv fl, iv cn, iv c7, iv c8, iv c9, .unset, .unset, .unset, .unset, .unset, .unset] [(.int c7), (.int (0 : Int32)), (.ref b204), (.ref b204), (.ref b203), (.ref b203)])) rfl rfl (hb hby at_54)
  have F205 := OFun.set Fc W205
  have N205 := Fr.snoc X205 N0 (Nat.le_trans Z0 sC)
  replace pre : Pth p e below S0 T205 (mkF m 55 #[iv x0, iv x1, iv x2, iv x3, iv x4, iv fl, iv cn, iv c7, iv c8, iv c9, .unset, .unset, .unset, .unset, .unset, .unset] [(.ref b204), (.ref b203), (.ref b203)]) := fun t k => pre t (st205 _ k)
  replace EX := own_ext_wr EX W205 sC
  replace Ae := Ae.wr W205
  replace Ve := Ve.other W205 (Or.inl neC)
  replace Ce := Ce.other W205 (Or.inl neC)
  replace pre : Pth p e below S0 T205 (mkF m 59 #[iv x0, iv x1, iv x2, iv x3, iv x4, iv fl, iv cn, iv c7, iv c8, iv c9, .unset, .unset, .unset, .unset, .unset, .unset] [(.int c8), (.int (1 : Int32)), (.ref b204), (.ref b204), (.ref b203), (.ref b203)]) := fun t k => pre t (by
    show SS p e below T205 (mkF m 55 #[iv x0, iv x1, iv x2, iv x3, iv x4, iv fl, iv cn, iv c7, iv c8, iv c9, .unset, .unset, .unset, .unset, .unset, .unset] [(.ref b204), (.ref b203), (.ref b203)]) t
    refine XS.dup X205.here hx rfl (hb hby at_55) rfl rfl ?_
    show SS p e below T205 (mkF m 56 #[iv x0, iv x1, iv x2, iv x3, iv x4, iv fl, iv cn, iv c7, iv c8, iv c9, .unset, .unset, .unset, .unset, .unset, .unset] [(.ref b204), (.ref b204), (.ref b203), (.ref b203)]) t
    refine XS.iconst X205.here hx rfl (hb hby at_56) ?_
    show SS p e below T205 (mkF m 57 #[iv x0, iv x1, iv x2, iv x3, iv x4, iv fl, iv cn, iv c7, iv c8, iv c9, .unset, .unset, .unset, .unset, .unset, .unset] [(.int (1 : Int32)), (.ref b204), (.ref b204), (.ref b203), (.ref b203)]) t
    refine XS.iload X205.here hx rfl (hb hby at_57) rfl ?_
    show SS p e below T205 (mkF m 59 #[iv x0, iv x1, iv x2, iv x3, iv x4, iv fl, iv cn, iv c7, iv c8, iv c9, .unset, .unset, .unset, .unset, .unset, .unset] [(.int c8), (.int (1 : Int32)), (.ref b204), (.ref b204), (.ref b203), (.ref b203)]) t
    exact k)
  obtain ⟨cl206, Ar206, Sz206, -⟩ := id F205
  obtain ⟨T206, h206, X206, e206, W206, st206⟩ := stC X205 hx hZ e205 Ar206 (j := (1 : Int32)) (by rw [Sz206]; exact (by decide)) (g := (mkF m 59 #[iv x0, iv x1, iv x2, iv x3, iv x4, iv fl, iv cn, iv c7, iv c8, iv c9, .unset, .unset, .unset, .unset, .unset, .unset] [(.int c8), (.int (1 : Int32)), (.ref b204), (.ref b204), (.ref b203), (.ref b203)])) rfl rfl (hb hby at_59)
  have F206 := OFun.set F205 W206
  have N206 := Fr.snoc X206 N205 (Nat.le_trans Z0 sC)
  replace pre : Pth p e below S0 T206 (mkF m 60 #[iv x0, iv x1, iv x2, iv x3, iv x4, iv fl, iv cn, iv c7, iv c8, iv c9, .unset, .unset, .unset, .unset, .unset, .unset] [(.ref b204), (.ref b203), (.ref b203)]) := fun t k => pre t (st206 _ k)
  replace EX := own_ext_wr EX W206 sC
  replace Ae := Ae.wr W206
  replace Ve := Ve.other W206 (Or.inl neC)
  replace Ce := Ce.other W206 (Or.inl neC)
  replace pre : Pth p e below S0 T206 (mkF m 64 #[iv x0, iv x1, iv x2, iv x3, iv x4, iv fl, iv cn, iv c7, iv c8, iv c9, .unset, .unset, .unset, .unset, .unset, .unset] [(.int c9), (.int (2 : Int32)), (.ref b204), (.ref b204), (.ref b203), (.ref b203)]) := fun t k => pre t (by
    show SS p e below T206 (mkF m 60 #[iv x0, iv x1, iv x2, iv x3, iv x4, iv fl, iv cn, iv c7, iv c8, iv c9, .unset, .unset, .unset, .unset, .unset, .unset] [(.ref b204), (.ref b203), (.ref b203)]) t
    refine XS.dup X206.here hx rfl (hb hby at_60) rfl rfl ?_
    show SS p e below T206 (mkF m 61 #[iv x0, iv x1, iv x2, iv x3, iv x4, iv fl, iv cn, iv c7, iv c8, iv c9, .unset, .unset, .unset, .unset, .unset, .unset] [(.ref b204), (.ref b204), (.ref b203), (.ref b203)]) t
    refine XS.iconst X206.here hx rfl (hb hby at_61) ?_
    show SS p e below T206 (mkF m 62 #[iv x0, iv x1, iv x2, iv x3, iv x4, iv fl, iv cn, iv c7, iv c8, iv c9, .unset, .unset, .unset, .unset, .unset, .unset] [(.int (2 : Int32)), (.ref b204), (.ref b204), (.ref b203), (.ref b203)]) t
    refine XS.iload X206.here hx rfl (hb hby at_62) rfl ?_
    show SS p e below T206 (mkF m 64 #[iv x0, iv x1, iv x2, iv x3, iv x4, iv fl, iv cn, iv c7, iv c8, iv c9, .unset, .unset, .unset, .unset, .unset, .unset] [(.int c9), (.int (2 : Int32)), (.ref b204), (.ref b204), (.ref b203), (.ref b203)]) t
    exact k)
  obtain ⟨cl207, Ar207, Sz207, -⟩ := id F206
  obtain ⟨T207, h207, X207, e207, W207, st207⟩ := stC X206 hx hZ e206 Ar207 (j := (2 : Int32)) (by rw [Sz207]; exact (by decide)) (g := (mkF m 64 #[iv x0, iv x1, iv x2, iv x3, iv x4, iv fl, iv cn, iv c7, iv c8, iv c9, .unset, .unset, .unset, .unset, .unset, .unset] [(.int c9), (.int (2 : Int32)), (.ref b204), (.ref b204), (.ref b203), (.ref b203)])) rfl rfl (hb hby at_64)
  have F207 := OFun.set F206 W207
  have N207 := Fr.snoc X207 N206 (Nat.le_trans Z0 sC)
  replace pre : Pth p e below S0 T207 (mkF m 65 #[iv x0, iv x1, iv x2, iv x3, iv x4, iv fl, iv cn, iv c7, iv c8, iv c9, .unset, .unset, .unset, .unset, .unset, .unset] [(.ref b204), (.ref b203), (.ref b203)]) := fun t k => pre t (st207 _ k)
  replace EX := own_ext_wr EX W207 sC
  replace Ae := Ae.wr W207
  replace Ve := Ve.other W207 (Or.inl neC)
  replace Ce := Ce.other W207 (Or.inl neC)
  have Ft : OFun Z h207 b204 .char 3 (own_three c7 c8 c9) := F207.congr fun j hj => by
    rw [k7b, k8b, k9b]
    match j, hj with
    | 0, _ => rfl
    | 1, _ => rfl
    | 2, _ => rfl
  obtain ⟨_, _, ⟨T208, L208, k208, n208⟩, -, X208, ⟨Lc208, hQ208, l208, y208, z208⟩, st208⟩ := X207.specialBack hx (y := (⟨"java/lang/String", "<init>", "([C)V"⟩ : MethodName)) rfl hown (mvT hZ (own_t hw 4 rfl)) (mvT hZ (own_t hw 5 rfl)) (mvT hZ (own_t hw 6 rfl)) (by decide) (backOf (W := 1) (rm_ic3 l Z a0 hw [] b203 b204 c7 c8 c9 cz h207 n0 (Nat.le_trans Z0 EX.1) (Nat.le_trans Z0 sS) Ae Ve Ce Ft k7a k8a k9a (Scs.ext EX) hcz) hZ (own_t hw 6 rfl) (own_t hw 2 rfl) (by decide) (by decide)) (g := (mkF m 65 #[iv x0, iv x1, iv x2, iv x3, iv x4, iv fl, iv cn, iv c7, iv c8, iv c9, .unset, .unset, .unset, .unset, .unset, .unset] [(.ref b204), (.ref b203), (.ref b203)])) rfl (by rw [hml]; rfl) (Steps.refl _) (a := b203) (argsL := [(.ref b204)]) (rest := [(.ref b203)]) (lenOf pd___C_V rfl) rfl (by show 2 * 0 + _ ≤ _; exact Nat.le_of_eq rfl) (hb hby at_65) (fun _ _ => ⟨rfl, e207, (by decide : 2 + 1 ≤ _), (by decide : 7 + 3 ≤ _)⟩)
  dsimp only [Pt.U, Pt.locs, Pt.cells, Pt.slots] at X208 l208 y208 z208 st208 hQ208
  subst l208 y208 z208
  obtain ⟨rfl, N208q, K208⟩ := hQ208
  have N208 := Fr.app N207 N208q
  replace pre : Pth p e below S0 T208 (mkF m 68 #[iv x0, iv x1, iv x2, iv x3, iv x4, iv fl, iv cn, iv c7, iv c8, iv c9, .unset, .unset, .unset, .unset, .unset, .unset] [(.ref b203)]) := fun t k => pre t (st208.trans k)
  replace EX := own_ext_keep EX K208 (fun z hz => by rw [List.mem_singleton.mp hz]; exact sS)
  replace pre : Pth p e below S0 T208 (mkF m 70 #[iv x0, iv x1, iv x2, iv x3, iv x4, iv fl, iv cn, iv c7, iv c8, iv c9, rv b203, .unset, .unset, .unset, .unset, .unset] []) := fun t k => pre t (by
    show SS p e below T208 (mkF m 68 #[iv x0, iv x1, iv x2, iv x3, iv x4, iv fl, iv cn, iv c7, iv c8, iv c9, .unset, .unset, .unset, .unset, .unset, .unset] [(.ref b203)]) t
    refine XS.astore X208.here hx rfl (hb hby at_68) rfl rfl (l' := #[iv x0, iv x1, iv x2, iv x3, iv x4, iv fl, iv cn, iv c7, iv c8, iv c9, rv b203, .unset, .unset, .unset, .unset, .unset]) rfl ?_
    show SS p e below T208 (mkF m 70 #[iv x0, iv x1, iv x2, iv x3, iv x4, iv fl, iv cn, iv c7, iv c8, iv c9, rv b203, .unset, .unset, .unset, .unset, .unset] []) t
    exact k)
  obtain ⟨T209, h209, X209, e209, E209, A209, D209, -, st209⟩ := newO X208 hx hZ hown (own_t hw 30 rfl) (own_t hw 31 rfl) (own_t hw 32 rfl) rfl (g := (mkF m 70 #[iv x0, iv x1, iv x2, iv x3, iv x4, iv fl, iv cn, iv c7, iv c8, iv c9, rv b203, .unset, .unset, .unset, .unset, .unset] [])) rfl (hb hby at_70) (by decide) (by decide)
  obtain ⟨b209, g209⟩ : ∃ z, z = T208.heap.size := ⟨_, rfl⟩
  rw [← g209] at A209 D209 st209
  replace pre : Pth p e below S0 T209 (mkF m 73 #[iv x0, iv x1, iv x2, iv x3, iv x4, iv fl, iv cn, iv c7, iv c8, iv c9, rv b203, .unset, .unset, .unset, .unset, .unset] [(.ref b209)]) := fun t k => pre t (st209 _ k)
  have sL : h0.size ≤ b209 := by rw [g209]; exact EX.1
  have gL := Nat.le_trans Z0 sL
  replace EX := own_ext_trans EX E209
  have Va : Fld Z h209 b209 "java/util/ArrayList" "elementData" "[Ljava/lang/Object;" .null := D209 (Or.inl (own_t hw 53 rfl)) (ty := (.array (.object "java/lang/Object"))) (by decide)
  have Vb : Fld Z h209 b209 "java/util/ArrayList" "size" "I" (.int 0) := D209 (Or.inl (own_t hw 76 rfl)) (ty := .int) (by decide)
  have Vc : Fld Z h209 b209 "java/util/AbstractList" "modCount" "I" (.int 0) := D209 (Or.inl (own_t hw 50 rfl)) (ty := .int) (by decide)
  replace pre : Pth p e below S0 T209 (mkF m 74 #[iv x0, iv x1, iv x2, iv x3, iv x4, iv fl, iv cn, iv c7, iv c8, iv c9, rv b203, .unset, .unset, .unset, .unset, .unset] [(.ref b209), (.ref b209)]) := fun t k => pre t (by
    show SS p e below T209 (mkF m 73 #[iv x0, iv x1, iv x2, iv x3, iv x4, iv fl, iv cn, iv c7, iv c8, iv c9, rv b203, .unset, .unset, .unset, .unset, .unset] [(.ref b209)]) t
    refine XS.dup X209.here hx rfl (hb hby at_73) rfl rfl ?_
    show SS p e below T209 (mkF m 74 #[iv x0, iv x1, iv x2, iv x3, iv x4, iv fl, iv cn, iv c7, iv c8, iv c9, rv b203, .unset, .unset, .unset, .unset, .unset] [(.ref b209), (.ref b209)]) t
    exact k)
  obtain ⟨_, _, ⟨T210, L210, k210, n210⟩, -, X210, ⟨Lc210, hQ210, l210, y210, z210⟩, st210⟩ := X209.specialBack hx (y := (⟨"java/util/ArrayList", "<init>", "()V"⟩ : MethodName)) rfl hown (mvT hZ (own_t hw 33 rfl)) (mvT hZ (own_t hw 34 rfl)) (mvT hZ (own_t hw 35 rfl)) (by decide) (backOf (W := 1) (rm_ali l Z a0 hw [] b209 dc h209 n0 gL A209 Va Vb Vc (Sd.ext EX)) hZ (own_t hw 35 rfl) (own_t hw 32 rfl) (by decide) (by decide)) (g := (mkF m 74 #[iv x0, iv x1, iv x2, iv x3, iv x4, iv fl, iv cn, iv c7, iv c8, iv c9, rv b203, .unset, .unset, .unset, .unset, .unset] [(.ref b209), (.ref b209)])) rfl (by rw [hml]; rfl) (Steps.refl _) (a := b209) (argsL := []) (rest := [(.ref b209)]) (lenOf pd___V rfl) rfl (by show 2 * 0 + _ ≤ _; exact Nat.le_of_eq rfl) (hb hby at_74) (fun _ _ => ⟨rfl, e209, (by decide : 4 + 0 ≤ _), (by decide : 13 + 0 ≤ _)⟩)
  dsimp only [Pt.U, Pt.locs, Pt.cells, Pt.slots] at X210 l210 y210 z210 st210 hQ210
  subst l210 y210 z210
  obtain ⟨rfl, N210q, K210, hA⟩ := hQ210
  have N210 := Fr.app N208 N210q
  replace pre : Pth p e below S0 T210 (mkF m 77 #[iv x0, iv x1, iv x2, iv x3, iv x4, iv fl, iv cn, iv c7, iv c8, iv c9, rv b203, .unset, .unset, .unset, .unset, .unset] [(.ref b209)]) := fun t k => pre t (st210.trans k)
  replace EX := own_ext_keep EX K210 (fun z hz => by rw [List.mem_singleton.mp hz]; exact sL)
  replace pre : Pth p e below S0 T210 (mkF m 81 #[iv x0, iv x1, iv x2, iv x3, iv x4, iv fl, iv cn, iv c7, iv c8, iv c9, rv b203, rv b209, .unset, .unset, .unset, .unset] [(.int cn)]) := fun t k => pre t (by
    show SS p e below T210 (mkF m 77 #[iv x0, iv x1, iv x2, iv x3, iv x4, iv fl, iv cn, iv c7, iv c8, iv c9, rv b203, .unset, .unset, .unset, .unset, .unset] [(.ref b209)]) t
    refine XS.astore X210.here hx rfl (hb hby at_77) rfl rfl (l' := #[iv x0, iv x1, iv x2, iv x3, iv x4, iv fl, iv cn, iv c7, iv c8, iv c9, rv b203, rv b209, .unset, .unset, .unset, .unset]) rfl ?_
    show SS p e below T210 (mkF m 79 #[iv x0, iv x1, iv x2, iv x3, iv x4, iv fl, iv cn, iv c7, iv c8, iv c9, rv b203, rv b209, .unset, .unset, .unset, .unset] []) t
    refine XS.iload X210.here hx rfl (hb hby at_79) rfl ?_
    show SS p e below T210 (mkF m 81 #[iv x0, iv x1, iv x2, iv x3, iv x4, iv fl, iv cn, iv c7, iv c8, iv c9, rv b203, rv b209, .unset, .unset, .unset, .unset] [(.int cn)]) t
    exact k)
  rcases own_cnt h_cn with rfl | rfl | rfl | rfl
  · replace pre : Pth p e below S0 T210 (mkF m 81 #[iv x0, iv x1, iv x2, iv x3, iv x4, iv fl, iv (0 : Int32), iv c7, iv c8, iv c9, rv b203, rv b209, .unset, .unset, .unset, .unset] [(.int (0 : Int32))]) := pre
    replace pre : Pth p e below S0 T210 (mkF m 131 #[iv x0, iv x1, iv x2, iv x3, iv x4, iv fl, iv (0 : Int32), iv c7, iv c8, iv c9, rv b203, rv b209, .unset, .unset, .unset, .unset] [(.int fl)]) := fun t k => pre t (by
      show SS p e below T210 (mkF m 81 #[iv x0, iv x1, iv x2, iv x3, iv x4, iv fl, iv (0 : Int32), iv c7, iv c8, iv c9, rv b203, rv b209, .unset, .unset, .unset, .unset] [(.int (0 : Int32))]) t
      refine XS.ifYes X210.here hx rfl (pc0 := 81) (pc' := 95) rfl (hb hby at_81) rfl (XT.i0_le_t (by decide)) (by decide) (by decide) ?_
      show SS p e below T210 (mkF m 95 #[iv x0, iv x1, iv x2, iv x3, iv x4, iv fl, iv (0 : Int32), iv c7, iv c8, iv c9, rv b203, rv b209, .unset, .unset, .unset, .unset] []) t
      refine XS.iload X210.here hx rfl (hb hby at_95) rfl ?_
      show SS p e below T210 (mkF m 97 #[iv x0, iv x1, iv x2, iv x3, iv x4, iv fl, iv (0 : Int32), iv c7, iv c8, iv c9, rv b203, rv b209, .unset, .unset, .unset, .unset] [(.int (0 : Int32))]) t
      refine XS.iconst X210.here hx rfl (hb hby at_97) ?_
      show SS p e below T210 (mkF m 98 #[iv x0, iv x1, iv x2, iv x3, iv x4, iv fl, iv (0 : Int32), iv c7, iv c8, iv c9, rv b203, rv b209, .unset, .unset, .unset, .unset] [(.int (1 : Int32)), (.int (0 : Int32))]) t
      refine XS.icmpYes X210.here hx rfl (pc0 := 98) (pc' := 112) rfl (hb hby at_98) rfl (XT.ii_le_t (by decide)) (by decide) (by decide) ?_
      show SS p e below T210 (mkF m 112 #[iv x0, iv x1, iv x2, iv x3, iv x4, iv fl, iv (0 : Int32), iv c7, iv c8, iv c9, rv b203, rv b209, .unset, .unset, .unset, .unset] []) t
      refine XS.iload X210.here hx rfl (hb hby at_112) rfl ?_
      show SS p e below T210 (mkF m 114 #[iv x0, iv x1, iv x2, iv x3, iv x4, iv fl, iv (0 : Int32), iv c7, iv c8, iv c9, rv b203, rv b209, .unset, .unset, .unset, .unset] [(.int (0 : Int32))]) t
      refine XS.iconst X210.here hx rfl (hb hby at_114) ?_
      show SS p e below T210 (mkF m 115 #[iv x0, iv x1, iv x2, iv x3, iv x4, iv fl, iv (0 : Int32), iv c7, iv c8, iv c9, rv b203, rv b209, .unset, .unset, .unset, .unset] [(.int (2 : Int32)), (.int (0 : Int32))]) t
      refine XS.icmpYes X210.here hx rfl (pc0 := 115) (pc' := 129) rfl (hb hby at_115) rfl (XT.ii_le_t (by decide)) (by decide) (by decide) ?_
      show SS p e below T210 (mkF m 129 #[iv x0, iv x1, iv x2, iv x3, iv x4, iv fl, iv (0 : Int32), iv c7, iv c8, iv c9, rv b203, rv b209, .unset, .unset, .unset, .unset] []) t
      refine XS.iload X210.here hx rfl (hb hby at_129) rfl ?_
      show SS p e below T210 (mkF m 131 #[iv x0, iv x1, iv x2, iv x3, iv x4, iv fl, iv (0 : Int32), iv c7, iv c8, iv c9, rv b203, rv b209, .unset, .unset, .unset, .unset] [(.int fl)]) t
      exact k)
    rcases hfl with rfl | rfl
    · replace pre : Pth p e below S0 T210 (mkF m 131 #[iv x0, iv x1, iv x2, iv x3, iv x4, iv (0 : Int32), iv (0 : Int32), iv c7, iv c8, iv c9, rv b203, rv b209, .unset, .unset, .unset, .unset] [(.int (0 : Int32))]) := pre
      replace pre : Pth p e below S0 T210 (mkF m 142 #[iv x0, iv x1, iv x2, iv x3, iv x4, iv (0 : Int32), iv (0 : Int32), iv c7, iv c8, iv c9, rv b203, rv b209, .val .null, .unset, .unset, .unset] []) := fun t k => pre t (by
        show SS p e below T210 (mkF m 131 #[iv x0, iv x1, iv x2, iv x3, iv x4, iv (0 : Int32), iv (0 : Int32), iv c7, iv c8, iv c9, rv b203, rv b209, .unset, .unset, .unset, .unset] [(.int (0 : Int32))]) t
        refine XS.ifYes X210.here hx rfl (pc0 := 131) (pc' := 139) rfl (hb hby at_131) rfl (XT.i0_eq_t rfl) (by decide) (by decide) ?_
        show SS p e below T210 (mkF m 139 #[iv x0, iv x1, iv x2, iv x3, iv x4, iv (0 : Int32), iv (0 : Int32), iv c7, iv c8, iv c9, rv b203, rv b209, .unset, .unset, .unset, .unset] []) t
        refine XS.aconstNull X210.here hx rfl (hb hby at_139) ?_
        show SS p e below T210 (mkF m 140 #[iv x0, iv x1, iv x2, iv x3, iv x4, iv (0 : Int32), iv (0 : Int32), iv c7, iv c8, iv c9, rv b203, rv b209, .unset, .unset, .unset, .unset] [.null]) t
        refine XS.astore X210.here hx rfl (hb hby at_140) rfl rfl (l' := #[iv x0, iv x1, iv x2, iv x3, iv x4, iv (0 : Int32), iv (0 : Int32), iv c7, iv c8, iv c9, rv b203, rv b209, .val .null, .unset, .unset, .unset]) rfl ?_
        show SS p e below T210 (mkF m 142 #[iv x0, iv x1, iv x2, iv x3, iv x4, iv (0 : Int32), iv (0 : Int32), iv c7, iv c8, iv c9, rv b203, rv b209, .val .null, .unset, .unset, .unset] []) t
        exact k)
      obtain ⟨T211, h211, X211, e211, E211, A211, D211, -, st211⟩ := newO X210 hx hZ hown (own_t hw 99 rfl) (own_t hw 100 rfl) (own_t hw 101 rfl) rfl (g := (mkF m 142 #[iv x0, iv x1, iv x2, iv x3, iv x4, iv (0 : Int32), iv (0 : Int32), iv c7, iv c8, iv c9, rv b203, rv b209, .val .null, .unset, .unset, .unset] [])) rfl (hb hby at_142) (by decide) (by decide)
      obtain ⟨b211, g211⟩ : ∃ z, z = T210.heap.size := ⟨_, rfl⟩
      rw [← g211] at A211 D211 st211
      replace pre : Pth p e below S0 T211 (mkF m 145 #[iv x0, iv x1, iv x2, iv x3, iv x4, iv (0 : Int32), iv (0 : Int32), iv c7, iv c8, iv c9, rv b203, rv b209, .val .null, .unset, .unset, .unset] [(.ref b211)]) := fun t k => pre t (st211 _ k)
      have Wa : Fld Z h211 b211 "com/example/sheaf/sheaf/cbor/TextStringItem" "value" "Ljava/lang/String;" .null := D211 (Or.inr (own_t hw 112 rfl)) (ty := (.object "java/lang/String")) (by decide)
      have Wb : Fld Z h211 b211 "com/example/sheaf/sheaf/cbor/TextStringItem" "chunks" "Ljava/util/List;" .null := D211 (Or.inr (own_t hw 114 rfl)) (ty := (.object "java/util/List")) (by decide)
      have sT : h0.size ≤ b211 := by rw [g211]; exact EX.1
      replace EX := own_ext_trans EX E211
      replace pre : Pth p e below S0 T211 (mkF m 150 #[iv x0, iv x1, iv x2, iv x3, iv x4, iv (0 : Int32), iv (0 : Int32), iv c7, iv c8, iv c9, rv b203, rv b209, .val .null, .unset, .unset, .unset] [.null, (.ref b203), (.ref b211), (.ref b211)]) := fun t k => pre t (by
        show SS p e below T211 (mkF m 145 #[iv x0, iv x1, iv x2, iv x3, iv x4, iv (0 : Int32), iv (0 : Int32), iv c7, iv c8, iv c9, rv b203, rv b209, .val .null, .unset, .unset, .unset] [(.ref b211)]) t
        refine XS.dup X211.here hx rfl (hb hby at_145) rfl rfl ?_
        show SS p e below T211 (mkF m 146 #[iv x0, iv x1, iv x2, iv x3, iv x4, iv (0 : Int32), iv (0 : Int32), iv c7, iv c8, iv c9, rv b203, rv b209, .val .null, .unset, .unset, .unset] [(.ref b211), (.ref b211)]) t
        refine XS.aload X211.here hx rfl (hb hby at_146) rfl rfl ?_
        show SS p e below T211 (mkF m 148 #[iv x0, iv x1, iv x2, iv x3, iv x4, iv (0 : Int32), iv (0 : Int32), iv c7, iv c8, iv c9, rv b203, rv b209, .val .null, .unset, .unset, .unset] [(.ref b203), (.ref b211), (.ref b211)]) t
        refine XS.aload X211.here hx rfl (hb hby at_148) rfl rfl ?_
        show SS p e below T211 (mkF m 150 #[iv x0, iv x1, iv x2, iv x3, iv x4, iv (0 : Int32), iv (0 : Int32), iv c7, iv c8, iv c9, rv b203, rv b209, .val .null, .unset, .unset, .unset] [.null, (.ref b203), (.ref b211), (.ref b211)]) t
        exact k)
      obtain ⟨_, _, ⟨T212, L212, k212, n212⟩, -, X212, ⟨Lc212, hQ212, l212, y212, z212⟩, st212⟩ := X211.specialBack hx (y := (⟨"com/example/sheaf/sheaf/cbor/TextStringItem", "<init>", "(Ljava/lang/String;Ljava/util/List;)V"⟩ : MethodName)) rfl hown (mvT hZ (own_t hw 102 rfl)) (mvT hZ (own_t hw 103 rfl)) (mvT hZ (own_t hw 104 rfl)) (by decide) (backOf (W := 1) (rm_tin l Z a0 hw [] b211 b203 h211 n0 (Nat.le_trans Z0 sT) A211 Wa Wb) hZ (own_t hw 104 rfl) (own_t hw 101 rfl) (by decide) (by decide)) (g := (mkF m 150 #[iv x0, iv x1, iv x2, iv x3, iv x4, iv (0 : Int32), iv (0 : Int32), iv c7, iv c8, iv c9, rv b203, rv b209, .val .null, .unset, .unset, .unset] [.null, (.ref b203), (.ref b211), (.ref b211)])) rfl (by rw [hml]; rfl) (Steps.refl _) (a := b211) (argsL := [(.ref b203), .null]) (rest := [(.ref b211)]) (lenOf pd__Ljava_lang_String_Ljava_util_List__V rfl) rfl (by show 2 * 0 + _ ≤ _; exact Nat.le_of_eq rfl) (hb hby at_150) (fun _ _ => ⟨rfl, e211, (by decide : 5 + 0 ≤ _), (by decide : 15 + 0 ≤ _)⟩)
      dsimp only [Pt.U, Pt.locs, Pt.cells, Pt.slots] at X212 l212 y212 z212 st212 hQ212
      subst l212 y212 z212
      obtain ⟨rfl, N212q, K212, A212, F212⟩ := hQ212
      have N212 := Fr.app N210 N212q
      replace pre : Pth p e below S0 T212 (mkF m 153 #[iv x0, iv x1, iv x2, iv x3, iv x4, iv (0 : Int32), iv (0 : Int32), iv c7, iv c8, iv c9, rv b203, rv b209, .val .null, .unset, .unset, .unset] [(.ref b211)]) := fun t k => pre t (st212.trans k)
      replace EX := own_ext_keep EX K212 (fun z hz => by rw [List.mem_singleton.mp hz]; exact sT)
      replace pre : Pth p e below S0 T212 (mkF m 157 #[iv x0, iv x1, iv x2, iv x3, iv x4, iv (0 : Int32), iv (0 : Int32), iv c7, iv c8, iv c9, rv b203, rv b209, .val .null, rv b211, .unset, .unset] [(.ref b211)]) := fun t k => pre t (by
        show SS p e below T212 (mkF m 153 #[iv x0, iv x1, iv x2, iv x3, iv x4, iv (0 : Int32), iv (0 : Int32), iv c7, iv c8, iv c9, rv b203, rv b209, .val .null, .unset, .unset, .unset] [(.ref b211)]) t
        refine XS.astore X212.here hx rfl (hb hby at_153) rfl rfl (l' := #[iv x0, iv x1, iv x2, iv x3, iv x4, iv (0 : Int32), iv (0 : Int32), iv c7, iv c8, iv c9, rv b203, rv b209, .val .null, rv b211, .unset, .unset]) rfl ?_
        show SS p e below T212 (mkF m 155 #[iv x0, iv x1, iv x2, iv x3, iv x4, iv (0 : Int32), iv (0 : Int32), iv c7, iv c8, iv c9, rv b203, rv b209, .val .null, rv b211, .unset, .unset] []) t
        refine XS.aload X212.here hx rfl (hb hby at_155) rfl rfl ?_
        show SS p e below T212 (mkF m 157 #[iv x0, iv x1, iv x2, iv x3, iv x4, iv (0 : Int32), iv (0 : Int32), iv c7, iv c8, iv c9, rv b203, rv b209, .val .null, rv b211, .unset, .unset] [(.ref b211)]) t
        exact k)
      obtain ⟨cq213, kq213, q213a, q213b, q213c⟩ := isOf hZ rfl A212
      obtain ⟨_, _, ⟨T213, L213, k213, n213⟩, -, X213, ⟨Lc213, hQ213, l213, y213, z213⟩, st213⟩ := X212.virtualBack hx (y := (⟨"com/example/sheaf/sheaf/cbor/TextStringItem", "isIndefinite", "()Z"⟩ : MethodName)) (z := (⟨"com/example/sheaf/sheaf/cbor/TextStringItem", "isIndefinite", "()Z"⟩ : MethodName)) hown (mvT hZ (own_t hw 115 rfl)) (mvT hZ (own_t hw 116 rfl)) (notFace_of_selects (args := #[]) (mvT hZ (own_t hw 118 rfl))) (mvT hZ (own_t hw 118 rfl)) (mvT hZ (own_t hw 117 rfl)) (by decide) (backOf (W := 0) (rm_ii0 l Z a0 hw [] b211 el T212.heap n0 F212) hZ (own_t hw 119 rfl) (own_t hw 101 rfl) (by decide) (by decide)) q213a q213c (g := (mkF m 157 #[iv x0, iv x1, iv x2, iv x3, iv x4, iv (0 : Int32), iv (0 : Int32), iv c7, iv c8, iv c9, rv b203, rv b209, .val .null, rv b211, .unset, .unset] [(.ref b211)])) rfl (by rw [hml]; rfl) (Steps.refl _) (argsL := []) (rest := []) (lenOf pd___Z rfl) rfl (by show 2 * 0 + _ ≤ _; exact Nat.le_of_eq rfl) (hb hby at_157) (fun _ _ => ⟨rfl, rfl, (by decide : 5 + 0 ≤ _), (by decide : 15 + 0 ≤ _)⟩)
      dsimp only [Pt.U, Pt.locs, Pt.cells, Pt.slots] at X213 l213 y213 z213 st213 hQ213
      subst l213 y213 z213
      obtain ⟨rfl, N213q, e213⟩ := hQ213
      have N213 := Fr.app N212 N213q
      replace pre : Pth p e below S0 T213 (mkF m 160 #[iv x0, iv x1, iv x2, iv x3, iv x4, iv (0 : Int32), iv (0 : Int32), iv c7, iv c8, iv c9, rv b203, rv b209, .val .null, rv b211, .unset, .unset] [(.int (0 : Int32))]) := fun t k => pre t (st213.trans k)
      replace pre : Pth p e below S0 T213 (mkF m 164 #[iv x0, iv x1, iv x2, iv x3, iv x4, iv (0 : Int32), iv (0 : Int32), iv c7, iv c8, iv c9, rv b203, rv b209, .val .null, rv b211, iv (0 : Int32), .unset] [(.ref b211)]) := fun t k => pre t (by
        show SS p e below T213 (mkF m 160 #[iv x0, iv x1, iv x2, iv x3, iv x4, iv (0 : Int32), iv (0 : Int32), iv c7, iv c8, iv c9, rv b203, rv b209, .val .null, rv b211, .unset, .unset] [(.int (0 : Int32))]) t
        refine XS.istore X213.here hx rfl (hb hby at_160) rfl (l' := #[iv x0, iv x1, iv x2, iv x3, iv x4, iv (0 : Int32), iv (0 : Int32), iv c7, iv c8, iv c9, rv b203, rv b209, .val .null, rv b211, iv (0 : Int32), .unset]) rfl ?_
        show SS p e below T213 (mkF m 162 #[iv x0, iv x1, iv x2, iv x3, iv x4, iv (0 : Int32), iv (0 : Int32), iv c7, iv c8, iv c9, rv b203, rv b209, .val .null, rv b211, iv (0 : Int32), .unset] []) t
        refine XS.aload X213.here hx rfl (hb hby at_162) rfl rfl ?_
        show SS p e below T213 (mkF m 164 #[iv x0, iv x1, iv x2, iv x3, iv x4, iv (0 : Int32), iv (0 : Int32), iv c7, iv c8, iv c9, rv b203, rv b209, .val .null, rv b211, iv (0 : Int32), .unset] [(.ref b211)]) t
        exact k)
      obtain ⟨cq214, kq214, q214a, q214b, q214c⟩ := isOf hZ e213 A212
      obtain ⟨_, _, ⟨T214, L214, k214, n214⟩, -, X214, ⟨Lc214, hQ214, l214, y214, z214⟩, st214⟩ := X213.virtualBack hx (y := (⟨"com/example/sheaf/sheaf/cbor/TextStringItem", "chunks", "()Ljava/util/List;"⟩ : MethodName)) (z := (⟨"com/example/sheaf/sheaf/cbor/TextStringItem", "chunks", "()Ljava/util/List;"⟩ : MethodName)) hown (mvT hZ (own_t hw 120 rfl)) (mvT hZ (own_t hw 121 rfl)) (notFace_of_selects (args := #[]) (mvT hZ (own_t hw 123 rfl))) (mvT hZ (own_t hw 123 rfl)) (mvT hZ (own_t hw 122 rfl)) (by decide) (backOf (W := 0) (rm_ck0 l Z a0 hw [] b211 el T212.heap n0 F212 (Sel.ext EX)) hZ (own_t hw 124 rfl) (own_t hw 101 rfl) (by decide) (by decide)) q214a q214c (g := (mkF m 164 #[iv x0, iv x1, iv x2, iv x3, iv x4, iv (0 : Int32), iv (0 : Int32), iv c7, iv c8, iv c9, rv b203, rv b209, .val .null, rv b211, iv (0 : Int32), .unset] [(.ref b211)])) rfl (by rw [hml]; rfl) (Steps.refl _) (argsL := []) (rest := []) (lenOf pd___Ljava_util_List_ rfl) rfl (by show 2 * 0 + _ ≤ _; exact Nat.le_of_eq rfl) (hb hby at_164) (fun _ _ => ⟨rfl, e213, (by decide : 5 + 0 ≤ _), (by decide : 15 + 0 ≤ _)⟩)
      dsimp only [Pt.U, Pt.locs, Pt.cells, Pt.slots] at X214 l214 y214 z214 st214 hQ214
      subst l214 y214 z214
      obtain ⟨rfl, N214q, e214⟩ := hQ214
      have N214 := Fr.app N213 N214q
      replace pre : Pth p e below S0 T214 (mkF m 167 #[iv x0, iv x1, iv x2, iv x3, iv x4, iv (0 : Int32), iv (0 : Int32), iv c7, iv c8, iv c9, rv b203, rv b209, .val .null, rv b211, iv (0 : Int32), .unset] [(.ref el)]) := fun t k => pre t (st214.trans k)
      obtain ⟨cq215, kq215, q215a, q215b, q215c⟩ := isOf hZ e214 (Eel.ext EX)
      obtain ⟨_, _, ⟨T215, L215, k215, n215⟩, -, X215, ⟨Lc215, hQ215, l215, y215, z215⟩, st215⟩ := X214.interfaceBack hx (xi := (⟨"java/util/List", "size", "()I"⟩ : MethodName)) (y := (⟨"java/util/ImmutableCollections$ListN", "size", "()I"⟩ : MethodName)) hown (mvT hZ (own_t hw 131 rfl)) (mvT hZ (own_t hw 132 rfl)) (mvT hZ (own_t hw 133 rfl)) (mvT hZ (own_t hw 134 rfl)) (mvT hZ (own_t hw 135 rfl)) (mvT hZ (own_t hw 136 rfl)) (mvT hZ (own_t hw 137 rfl)) (mvT hZ (own_t hw 138 rfl)) (by decide) (backOf (W := 0) (rm_lns0 l Z a0 hw [] el eb fe T212.heap n0 (Fel.ext EX) (Fe0.ext EX)) hZ (own_t hw 140 rfl) (own_t hw 139 rfl) (by decide) (by decide)) q215a q215b q215c (g := (mkF m 167 #[iv x0, iv x1, iv x2, iv x3, iv x4, iv (0 : Int32), iv (0 : Int32), iv c7, iv c8, iv c9, rv b203, rv b209, .val .null, rv b211, iv (0 : Int32), .unset] [(.ref el)])) rfl (by rw [hml]; rfl) (Steps.refl _) (argsL := []) (rest := []) (lenOf pd___I rfl) rfl (by show 2 * 0 + _ ≤ _; exact Nat.le_of_eq rfl) (hb hby at_167) (fun _ _ => ⟨rfl, e214, (by decide : 5 + 0 ≤ _), (by decide : 15 + 0 ≤ _)⟩)
      dsimp only [Pt.U, Pt.locs, Pt.cells, Pt.slots] at X215 l215 y215 z215 st215 hQ215
      subst l215 y215 z215
      obtain ⟨rfl, N215q, e215⟩ := hQ215
      have N215 := Fr.app N214 N215q
      replace pre : Pth p e below S0 T215 (mkF m 172 #[iv x0, iv x1, iv x2, iv x3, iv x4, iv (0 : Int32), iv (0 : Int32), iv c7, iv c8, iv c9, rv b203, rv b209, .val .null, rv b211, iv (0 : Int32), .unset] [(.int (0 : Int32))]) := fun t k => pre t (st215.trans k)
      replace pre : Pth p e below S0 T215 (mkF m 202 #[iv x0, iv x1, iv x2, iv x3, iv x4, iv (0 : Int32), iv (0 : Int32), iv c7, iv c8, iv c9, rv b203, rv b209, .val .null, rv b211, iv (0 : Int32), iv (0 : Int32)] [(.int (1 : Int32))]) := fun t k => pre t (by
        show SS p e below T215 (mkF m 172 #[iv x0, iv x1, iv x2, iv x3, iv x4, iv (0 : Int32), iv (0 : Int32), iv c7, iv c8, iv c9, rv b203, rv b209, .val .null, rv b211, iv (0 : Int32), .unset] [(.int (0 : Int32))]) t
        refine XS.istore X215.here hx rfl (hb hby at_172) rfl (l' := #[iv x0, iv x1, iv x2, iv x3, iv x4, iv (0 : Int32), iv (0 : Int32), iv c7, iv c8, iv c9, rv b203, rv b209, .val .null, rv b211, iv (0 : Int32), iv (0 : Int32)]) rfl ?_
        show SS p e below T215 (mkF m 174 #[iv x0, iv x1, iv x2, iv x3, iv x4, iv (0 : Int32), iv (0 : Int32), iv c7, iv c8, iv c9, rv b203, rv b209, .val .null, rv b211, iv (0 : Int32), iv (0 : Int32)] []) t
        refine XS.iload X215.here hx rfl (hb hby at_174) rfl ?_
        show SS p e below T215 (mkF m 176 #[iv x0, iv x1, iv x2, iv x3, iv x4, iv (0 : Int32), iv (0 : Int32), iv c7, iv c8, iv c9, rv b203, rv b209, .val .null, rv b211, iv (0 : Int32), iv (0 : Int32)] [(.int (0 : Int32))]) t
        refine XS.iload X215.here hx rfl (hb hby at_176) rfl ?_
        show SS p e below T215 (mkF m 178 #[iv x0, iv x1, iv x2, iv x3, iv x4, iv (0 : Int32), iv (0 : Int32), iv c7, iv c8, iv c9, rv b203, rv b209, .val .null, rv b211, iv (0 : Int32), iv (0 : Int32)] [(.int (0 : Int32)), (.int (0 : Int32))]) t
        refine XS.icmpNo X215.here hx rfl (hb hby at_178) rfl (XT.ii_ne_f rfl) ?_
        show SS p e below T215 (mkF m 181 #[iv x0, iv x1, iv x2, iv x3, iv x4, iv (0 : Int32), iv (0 : Int32), iv c7, iv c8, iv c9, rv b203, rv b209, .val .null, rv b211, iv (0 : Int32), iv (0 : Int32)] []) t
        refine XS.iload X215.here hx rfl (hb hby at_181) rfl ?_
        show SS p e below T215 (mkF m 183 #[iv x0, iv x1, iv x2, iv x3, iv x4, iv (0 : Int32), iv (0 : Int32), iv c7, iv c8, iv c9, rv b203, rv b209, .val .null, rv b211, iv (0 : Int32), iv (0 : Int32)] [(.int (0 : Int32))]) t
        refine XS.iload X215.here hx rfl (hb hby at_183) rfl ?_
        show SS p e below T215 (mkF m 185 #[iv x0, iv x1, iv x2, iv x3, iv x4, iv (0 : Int32), iv (0 : Int32), iv c7, iv c8, iv c9, rv b203, rv b209, .val .null, rv b211, iv (0 : Int32), iv (0 : Int32)] [(.int (0 : Int32)), (.int (0 : Int32))]) t
        refine XS.ifYes X215.here hx rfl (pc0 := 185) (pc' := 193) rfl (hb hby at_185) rfl (XT.i0_eq_t rfl) (by decide) (by decide) ?_
        show SS p e below T215 (mkF m 193 #[iv x0, iv x1, iv x2, iv x3, iv x4, iv (0 : Int32), iv (0 : Int32), iv c7, iv c8, iv c9, rv b203, rv b209, .val .null, rv b211, iv (0 : Int32), iv (0 : Int32)] [(.int (0 : Int32))]) t
        refine XS.iconst X215.here hx rfl (hb hby at_193) ?_
        show SS p e below T215 (mkF m 194 #[iv x0, iv x1, iv x2, iv x3, iv x4, iv (0 : Int32), iv (0 : Int32), iv c7, iv c8, iv c9, rv b203, rv b209, .val .null, rv b211, iv (0 : Int32), iv (0 : Int32)] [(.int (0 : Int32)), (.int (0 : Int32))]) t
        refine XS.icmpNo X215.here hx rfl (hb hby at_194) rfl (XT.ii_ne_f rfl) ?_
        show SS p e below T215 (mkF m 197 #[iv x0, iv x1, iv x2, iv x3, iv x4, iv (0 : Int32), iv (0 : Int32), iv c7, iv c8, iv c9, rv b203, rv b209, .val .null, rv b211, iv (0 : Int32), iv (0 : Int32)] []) t
        refine XS.iconst X215.here hx rfl (hb hby at_197) ?_
        show SS p e below T215 (mkF m 198 #[iv x0, iv x1, iv x2, iv x3, iv x4, iv (0 : Int32), iv (0 : Int32), iv c7, iv c8, iv c9, rv b203, rv b209, .val .null, rv b211, iv (0 : Int32), iv (0 : Int32)] [(.int (1 : Int32))]) t
        refine XS.goto X215.here hx rfl (pc0 := 198) (pc' := 202) rfl (hb hby at_198) (by decide) (by decide) ?_
        show SS p e below T215 (mkF m 202 #[iv x0, iv x1, iv x2, iv x3, iv x4, iv (0 : Int32), iv (0 : Int32), iv c7, iv c8, iv c9, rv b203, rv b209, .val .null, rv b211, iv (0 : Int32), iv (0 : Int32)] [(.int (1 : Int32))]) t
        exact k)
      obtain ⟨fs, hr, hrun, hended, hW, hsame⟩ := X215.leave (v := some (.int (1 : Int32))) (fun h => by rw [Bd.returns] at h; cases h)
      subst hS0
      refine ⟨_, _, pre _ ?_, hrun, hended, _, _, rfl, ?_, ⟨_, rfl⟩, hW, hsame.mono (by decide) (by decide)⟩
      · exact retN X215 hx (t := .boolean) Bd.returns (by simp) (hb hby at_202) hr
      · show Q_law Z x0 x1 x2 x3 x4 cz dc el eb em mr fd fe h0 n0 _ T215.heap _
        rw [e215]
        exact ⟨rfl, N215⟩
    · replace pre : Pth p e below S0 T210 (mkF m 131 #[iv x0, iv x1, iv x2, iv x3, iv x4, iv (1 : Int32), iv (0 : Int32), iv c7, iv c8, iv c9, rv b203, rv b209, .unset, .unset, .unset, .unset] [(.int (1 : Int32))]) := pre
      replace pre : Pth p e below S0 T210 (mkF m 142 #[iv x0, iv x1, iv x2, iv x3, iv x4, iv (1 : Int32), iv (0 : Int32), iv c7, iv c8, iv c9, rv b203, rv b209, rv b209, .unset, .unset, .unset] []) := fun t k => pre t (by
        show SS p e below T210 (mkF m 131 #[iv x0, iv x1, iv x2, iv x3, iv x4, iv (1 : Int32), iv (0 : Int32), iv c7, iv c8, iv c9, rv b203, rv b209, .unset, .unset, .unset, .unset] [(.int (1 : Int32))]) t
        refine XS.ifNo X210.here hx rfl (hb hby at_131) rfl (XT.i0_eq_f (by decide)) ?_
        show SS p e below T210 (mkF m 134 #[iv x0, iv x1, iv x2, iv x3, iv x4, iv (1 : Int32), iv (0 : Int32), iv c7, iv c8, iv c9, rv b203, rv b209, .unset, .unset, .unset, .unset] []) t
        refine XS.aload X210.here hx rfl (hb hby at_134) rfl rfl ?_
        show SS p e below T210 (mkF m 136 #[iv x0, iv x1, iv x2, iv x3, iv x4, iv (1 : Int32), iv (0 : Int32), iv c7, iv c8, iv c9, rv b203, rv b209, .unset, .unset, .unset, .unset] [(.ref b209)]) t
        refine XS.goto X210.here hx rfl (pc0 := 136) (pc' := 140) rfl (hb hby at_136) (by decide) (by decide) ?_
        show SS p e below T210 (mkF m 140 #[iv x0, iv x1, iv x2, iv x3, iv x4, iv (1 : Int32), iv (0 : Int32), iv c7, iv c8, iv c9, rv b203, rv b209, .unset, .unset, .unset, .unset] [(.ref b209)]) t
        refine XS.astore X210.here hx rfl (hb hby at_140) rfl rfl (l' := #[iv x0, iv x1, iv x2, iv x3, iv x4, iv (1 : Int32), iv (0 : Int32), iv c7, iv c8, iv c9, rv b203, rv b209, rv b209, .unset, .unset, .unset]) rfl ?_
        show SS p e below T210 (mkF m 142 #[iv x0, iv x1, iv x2, iv x3, iv x4, iv (1 : Int32), iv (0 : Int32), iv c7, iv c8, iv c9, rv b203, rv b209, rv b209, .unset, .unset, .unset] []) t
        exact k)
      obtain ⟨T216, h216, X216, e216, E216, A216, D216, -, st216⟩ := newO X210 hx hZ hown (own_t hw 99 rfl) (own_t hw 100 rfl) (own_t hw 101 rfl) rfl (g := (mkF m 142 #[iv x0, iv x1, iv x2, iv x3, iv x4, iv (1 : Int32), iv (0 : Int32), iv c7, iv c8, iv c9, rv b203, rv b209, rv b209, .unset, .unset, .unset] [])) rfl (hb hby at_142) (by decide) (by decide)
      obtain ⟨b216, g216⟩ : ∃ z, z = T210.heap.size := ⟨_, rfl⟩
      rw [← g216] at A216 D216 st216
      replace pre : Pth p e below S0 T216 (mkF m 145 #[iv x0, iv x1, iv x2, iv x3, iv x4, iv (1 : Int32), iv (0 : Int32), iv c7, iv c8, iv c9, rv b203, rv b209, rv b209, .unset, .unset, .unset] [(.ref b216)]) := fun t k => pre t (st216 _ k)
      have Wa : Fld Z h216 b216 "com/example/sheaf/sheaf/cbor/TextStringItem" "value" "Ljava/lang/String;" .null := D216 (Or.inr (own_t hw 112 rfl)) (ty := (.object "java/lang/String")) (by decide)
      have Wb : Fld Z h216 b216 "com/example/sheaf/sheaf/cbor/TextStringItem" "chunks" "Ljava/util/List;" .null := D216 (Or.inr (own_t hw 114 rfl)) (ty := (.object "java/util/List")) (by decide)
      have sT : h0.size ≤ b216 := by rw [g216]; exact EX.1
      replace EX := own_ext_trans EX E216
      replace hA := hA.ext E216
      replace pre : Pth p e below S0 T216 (mkF m 150 #[iv x0, iv x1, iv x2, iv x3, iv x4, iv (1 : Int32), iv (0 : Int32), iv c7, iv c8, iv c9, rv b203, rv b209, rv b209, .unset, .unset, .unset] [(.ref b209), (.ref b203), (.ref b216), (.ref b216)]) := fun t k => pre t (by
        show SS p e below T216 (mkF m 145 #[iv x0, iv x1, iv x2, iv x3, iv x4, iv (1 : Int32), iv (0 : Int32), iv c7, iv c8, iv c9, rv b203, rv b209, rv b209, .unset, .unset, .unset] [(.ref b216)]) t
        refine XS.dup X216.here hx rfl (hb hby at_145) rfl rfl ?_
        show SS p e below T216 (mkF m 146 #[iv x0, iv x1, iv x2, iv x3, iv x4, iv (1 : Int32), iv (0 : Int32), iv c7, iv c8, iv c9, rv b203, rv b209, rv b209, .unset, .unset, .unset] [(.ref b216), (.ref b216)]) t
        refine XS.aload X216.here hx rfl (hb hby at_146) rfl rfl ?_
        show SS p e below T216 (mkF m 148 #[iv x0, iv x1, iv x2, iv x3, iv x4, iv (1 : Int32), iv (0 : Int32), iv c7, iv c8, iv c9, rv b203, rv b209, rv b209, .unset, .unset, .unset] [(.ref b203), (.ref b216), (.ref b216)]) t
        refine XS.aload X216.here hx rfl (hb hby at_148) rfl rfl ?_
        show SS p e below T216 (mkF m 150 #[iv x0, iv x1, iv x2, iv x3, iv x4, iv (1 : Int32), iv (0 : Int32), iv c7, iv c8, iv c9, rv b203, rv b209, rv b209, .unset, .unset, .unset] [(.ref b209), (.ref b203), (.ref b216), (.ref b216)]) t
        exact k)
      obtain ⟨_, _, ⟨T217, L217, k217, n217⟩, -, X217, ⟨Lc217, hQ217, l217, y217, z217⟩, st217⟩ := X216.specialBack hx (y := (⟨"com/example/sheaf/sheaf/cbor/TextStringItem", "<init>", "(Ljava/lang/String;Ljava/util/List;)V"⟩ : MethodName)) rfl hown (mvT hZ (own_t hw 102 rfl)) (mvT hZ (own_t hw 103 rfl)) (mvT hZ (own_t hw 104 rfl)) (by decide) (backOf (W := 1) (rm_ti0 l Z a0 hw [] b216 b203 b209 dc el _ h216 n0 (Nat.le_trans Z0 EX.1) (Nat.le_trans Z0 sT) A216 Wa Wb hA (Sel.ext EX)) hZ (own_t hw 104 rfl) (own_t hw 101 rfl) (by decide) (by decide)) (g := (mkF m 150 #[iv x0, iv x1, iv x2, iv x3, iv x4, iv (1 : Int32), iv (0 : Int32), iv c7, iv c8, iv c9, rv b203, rv b209, rv b209, .unset, .unset, .unset] [(.ref b209), (.ref b203), (.ref b216), (.ref b216)])) rfl (by rw [hml]; rfl) (Steps.refl _) (a := b216) (argsL := [(.ref b203), (.ref b209)]) (rest := [(.ref b216)]) (lenOf pd__Ljava_lang_String_Ljava_util_List__V rfl) rfl (by show 2 * 0 + _ ≤ _; exact Nat.le_of_eq rfl) (hb hby at_150) (fun _ _ => ⟨rfl, e216, (by decide : 5 + 0 ≤ _), (by decide : 15 + 0 ≤ _)⟩)
      dsimp only [Pt.U, Pt.locs, Pt.cells, Pt.slots] at X217 l217 y217 z217 st217 hQ217
      subst l217 y217 z217
      obtain ⟨rfl, N217q, K217, A217, F217⟩ := hQ217
      have N217 := Fr.app N210 N217q
      replace pre : Pth p e below S0 T217 (mkF m 153 #[iv x0, iv x1, iv x2, iv x3, iv x4, iv (1 : Int32), iv (0 : Int32), iv c7, iv c8, iv c9, rv b203, rv b209, rv b209, .unset, .unset, .unset] [(.ref b216)]) := fun t k => pre t (st217.trans k)
      replace EX := own_ext_keep EX K217 (fun z hz => by rw [List.mem_singleton.mp hz]; exact sT)
      replace pre : Pth p e below S0 T217 (mkF m 157 #[iv x0, iv x1, iv x2, iv x3, iv x4, iv (1 : Int32), iv (0 : Int32), iv c7, iv c8, iv c9, rv b203, rv b209, rv b209, rv b216, .unset, .unset] [(.ref b216)]) := fun t k => pre t (by
        show SS p e below T217 (mkF m 153 #[iv x0, iv x1, iv x2, iv x3, iv x4, iv (1 : Int32), iv (0 : Int32), iv c7, iv c8, iv c9, rv b203, rv b209, rv b209, .unset, .unset, .unset] [(.ref b216)]) t
        refine XS.astore X217.here hx rfl (hb hby at_153) rfl rfl (l' := #[iv x0, iv x1, iv x2, iv x3, iv x4, iv (1 : Int32), iv (0 : Int32), iv c7, iv c8, iv c9, rv b203, rv b209, rv b209, rv b216, .unset, .unset]) rfl ?_
        show SS p e below T217 (mkF m 155 #[iv x0, iv x1, iv x2, iv x3, iv x4, iv (1 : Int32), iv (0 : Int32), iv c7, iv c8, iv c9, rv b203, rv b209, rv b209, rv b216, .unset, .unset] []) t
        refine XS.aload X217.here hx rfl (hb hby at_155) rfl rfl ?_
        show SS p e below T217 (mkF m 157 #[iv x0, iv x1, iv x2, iv x3, iv x4, iv (1 : Int32), iv (0 : Int32), iv c7, iv c8, iv c9, rv b203, rv b209, rv b209, rv b216, .unset, .unset] [(.ref b216)]) t
        exact k)
      obtain ⟨cq218, kq218, q218a, q218b, q218c⟩ := isOf hZ rfl A217
      obtain ⟨_, _, ⟨T218, L218, k218, n218⟩, -, X218, ⟨Lc218, hQ218, l218, y218, z218⟩, st218⟩ := X217.virtualBack hx (y := (⟨"com/example/sheaf/sheaf/cbor/TextStringItem", "isIndefinite", "()Z"⟩ : MethodName)) (z := (⟨"com/example/sheaf/sheaf/cbor/TextStringItem", "isIndefinite", "()Z"⟩ : MethodName)) hown (mvT hZ (own_t hw 115 rfl)) (mvT hZ (own_t hw 116 rfl)) (notFace_of_selects (args := #[]) (mvT hZ (own_t hw 118 rfl))) (mvT hZ (own_t hw 118 rfl)) (mvT hZ (own_t hw 117 rfl)) (by decide) (backOf (W := 0) (rm_ii1 l Z a0 hw [] b216 el T217.heap n0 F217) hZ (own_t hw 119 rfl) (own_t hw 101 rfl) (by decide) (by decide)) q218a q218c (g := (mkF m 157 #[iv x0, iv x1, iv x2, iv x3, iv x4, iv (1 : Int32), iv (0 : Int32), iv c7, iv c8, iv c9, rv b203, rv b209, rv b209, rv b216, .unset, .unset] [(.ref b216)])) rfl (by rw [hml]; rfl) (Steps.refl _) (argsL := []) (rest := []) (lenOf pd___Z rfl) rfl (by show 2 * 0 + _ ≤ _; exact Nat.le_of_eq rfl) (hb hby at_157) (fun _ _ => ⟨rfl, rfl, (by decide : 5 + 0 ≤ _), (by decide : 15 + 0 ≤ _)⟩)
      dsimp only [Pt.U, Pt.locs, Pt.cells, Pt.slots] at X218 l218 y218 z218 st218 hQ218
      subst l218 y218 z218
      obtain ⟨rfl, N218q, e218⟩ := hQ218
      have N218 := Fr.app N217 N218q
      replace pre : Pth p e below S0 T218 (mkF m 160 #[iv x0, iv x1, iv x2, iv x3, iv x4, iv (1 : Int32), iv (0 : Int32), iv c7, iv c8, iv c9, rv b203, rv b209, rv b209, rv b216, .unset, .unset] [(.int (1 : Int32))]) := fun t k => pre t (st218.trans k)
      replace pre : Pth p e below S0 T218 (mkF m 164 #[iv x0, iv x1, iv x2, iv x3, iv x4, iv (1 : Int32), iv (0 : Int32), iv c7, iv c8, iv c9, rv b203, rv b209, rv b209, rv b216, iv (1 : Int32), .unset] [(.ref b216)]) := fun t k => pre t (by
        show SS p e below T218 (mkF m 160 #[iv x0, iv x1, iv x2, iv x3, iv x4, iv (1 : Int32), iv (0 : Int32), iv c7, iv c8, iv c9, rv b203, rv b209, rv b209, rv b216, .unset, .unset] [(.int (1 : Int32))]) t
        refine XS.istore X218.here hx rfl (hb hby at_160) rfl (l' := #[iv x0, iv x1, iv x2, iv x3, iv x4, iv (1 : Int32), iv (0 : Int32), iv c7, iv c8, iv c9, rv b203, rv b209, rv b209, rv b216, iv (1 : Int32), .unset]) rfl ?_
        show SS p e below T218 (mkF m 162 #[iv x0, iv x1, iv x2, iv x3, iv x4, iv (1 : Int32), iv (0 : Int32), iv c7, iv c8, iv c9, rv b203, rv b209, rv b209, rv b216, iv (1 : Int32), .unset] []) t
        refine XS.aload X218.here hx rfl (hb hby at_162) rfl rfl ?_
        show SS p e below T218 (mkF m 164 #[iv x0, iv x1, iv x2, iv x3, iv x4, iv (1 : Int32), iv (0 : Int32), iv c7, iv c8, iv c9, rv b203, rv b209, rv b209, rv b216, iv (1 : Int32), .unset] [(.ref b216)]) t
        exact k)
      obtain ⟨cq219, kq219, q219a, q219b, q219c⟩ := isOf hZ e218 A217
      obtain ⟨_, _, ⟨T219, L219, k219, n219⟩, -, X219, ⟨Lc219, hQ219, l219, y219, z219⟩, st219⟩ := X218.virtualBack hx (y := (⟨"com/example/sheaf/sheaf/cbor/TextStringItem", "chunks", "()Ljava/util/List;"⟩ : MethodName)) (z := (⟨"com/example/sheaf/sheaf/cbor/TextStringItem", "chunks", "()Ljava/util/List;"⟩ : MethodName)) hown (mvT hZ (own_t hw 120 rfl)) (mvT hZ (own_t hw 121 rfl)) (notFace_of_selects (args := #[]) (mvT hZ (own_t hw 123 rfl))) (mvT hZ (own_t hw 123 rfl)) (mvT hZ (own_t hw 122 rfl)) (by decide) (backOf (W := 0) (rm_ck1 l Z a0 hw [] b216 el T217.heap n0 F217) hZ (own_t hw 124 rfl) (own_t hw 101 rfl) (by decide) (by decide)) q219a q219c (g := (mkF m 164 #[iv x0, iv x1, iv x2, iv x3, iv x4, iv (1 : Int32), iv (0 : Int32), iv c7, iv c8, iv c9, rv b203, rv b209, rv b209, rv b216, iv (1 : Int32), .unset] [(.ref b216)])) rfl (by rw [hml]; rfl) (Steps.refl _) (argsL := []) (rest := []) (lenOf pd___Ljava_util_List_ rfl) rfl (by show 2 * 0 + _ ≤ _; exact Nat.le_of_eq rfl) (hb hby at_164) (fun _ _ => ⟨rfl, e218, (by decide : 5 + 0 ≤ _), (by decide : 15 + 0 ≤ _)⟩)
      dsimp only [Pt.U, Pt.locs, Pt.cells, Pt.slots] at X219 l219 y219 z219 st219 hQ219
      subst l219 y219 z219
      obtain ⟨rfl, N219q, e219⟩ := hQ219
      have N219 := Fr.app N218 N219q
      replace pre : Pth p e below S0 T219 (mkF m 167 #[iv x0, iv x1, iv x2, iv x3, iv x4, iv (1 : Int32), iv (0 : Int32), iv c7, iv c8, iv c9, rv b203, rv b209, rv b209, rv b216, iv (1 : Int32), .unset] [(.ref el)]) := fun t k => pre t (st219.trans k)
      obtain ⟨cq220, kq220, q220a, q220b, q220c⟩ := isOf hZ e219 (Eel.ext EX)
      obtain ⟨_, _, ⟨T220, L220, k220, n220⟩, -, X220, ⟨Lc220, hQ220, l220, y220, z220⟩, st220⟩ := X219.interfaceBack hx (xi := (⟨"java/util/List", "size", "()I"⟩ : MethodName)) (y := (⟨"java/util/ImmutableCollections$ListN", "size", "()I"⟩ : MethodName)) hown (mvT hZ (own_t hw 131 rfl)) (mvT hZ (own_t hw 132 rfl)) (mvT hZ (own_t hw 133 rfl)) (mvT hZ (own_t hw 134 rfl)) (mvT hZ (own_t hw 135 rfl)) (mvT hZ (own_t hw 136 rfl)) (mvT hZ (own_t hw 137 rfl)) (mvT hZ (own_t hw 138 rfl)) (by decide) (backOf (W := 0) (rm_lns0 l Z a0 hw [] el eb fe T217.heap n0 (Fel.ext EX) (Fe0.ext EX)) hZ (own_t hw 140 rfl) (own_t hw 139 rfl) (by decide) (by decide)) q220a q220b q220c (g := (mkF m 167 #[iv x0, iv x1, iv x2, iv x3, iv x4, iv (1 : Int32), iv (0 : Int32), iv c7, iv c8, iv c9, rv b203, rv b209, rv b209, rv b216, iv (1 : Int32), .unset] [(.ref el)])) rfl (by rw [hml]; rfl) (Steps.refl _) (argsL := []) (rest := []) (lenOf pd___I rfl) rfl (by show 2 * 0 + _ ≤ _; exact Nat.le_of_eq rfl) (hb hby at_167) (fun _ _ => ⟨rfl, e219, (by decide : 5 + 0 ≤ _), (by decide : 15 + 0 ≤ _)⟩)
      dsimp only [Pt.U, Pt.locs, Pt.cells, Pt.slots] at X220 l220 y220 z220 st220 hQ220
      subst l220 y220 z220
      obtain ⟨rfl, N220q, e220⟩ := hQ220
      have N220 := Fr.app N219 N220q
      replace pre : Pth p e below S0 T220 (mkF m 172 #[iv x0, iv x1, iv x2, iv x3, iv x4, iv (1 : Int32), iv (0 : Int32), iv c7, iv c8, iv c9, rv b203, rv b209, rv b209, rv b216, iv (1 : Int32), .unset] [(.int (0 : Int32))]) := fun t k => pre t (st220.trans k)
      replace pre : Pth p e below S0 T220 (mkF m 202 #[iv x0, iv x1, iv x2, iv x3, iv x4, iv (1 : Int32), iv (0 : Int32), iv c7, iv c8, iv c9, rv b203, rv b209, rv b209, rv b216, iv (1 : Int32), iv (0 : Int32)] [(.int (1 : Int32))]) := fun t k => pre t (by
        show SS p e below T220 (mkF m 172 #[iv x0, iv x1, iv x2, iv x3, iv x4, iv (1 : Int32), iv (0 : Int32), iv c7, iv c8, iv c9, rv b203, rv b209, rv b209, rv b216, iv (1 : Int32), .unset] [(.int (0 : Int32))]) t
        refine XS.istore X220.here hx rfl (hb hby at_172) rfl (l' := #[iv x0, iv x1, iv x2, iv x3, iv x4, iv (1 : Int32), iv (0 : Int32), iv c7, iv c8, iv c9, rv b203, rv b209, rv b209, rv b216, iv (1 : Int32), iv (0 : Int32)]) rfl ?_
        show SS p e below T220 (mkF m 174 #[iv x0, iv x1, iv x2, iv x3, iv x4, iv (1 : Int32), iv (0 : Int32), iv c7, iv c8, iv c9, rv b203, rv b209, rv b209, rv b216, iv (1 : Int32), iv (0 : Int32)] []) t
        refine XS.iload X220.here hx rfl (hb hby at_174) rfl ?_
        show SS p e below T220 (mkF m 176 #[iv x0, iv x1, iv x2, iv x3, iv x4, iv (1 : Int32), iv (0 : Int32), iv c7, iv c8, iv c9, rv b203, rv b209, rv b209, rv b216, iv (1 : Int32), iv (0 : Int32)] [(.int (1 : Int32))]) t
        refine XS.iload X220.here hx rfl (hb hby at_176) rfl ?_
        show SS p e below T220 (mkF m 178 #[iv x0, iv x1, iv x2, iv x3, iv x4, iv (1 : Int32), iv (0 : Int32), iv c7, iv c8, iv c9, rv b203, rv b209, rv b209, rv b216, iv (1 : Int32), iv (0 : Int32)] [(.int (1 : Int32)), (.int (1 : Int32))]) t
        refine XS.icmpNo X220.here hx rfl (hb hby at_178) rfl (XT.ii_ne_f rfl) ?_
        show SS p e below T220 (mkF m 181 #[iv x0, iv x1, iv x2, iv x3, iv x4, iv (1 : Int32), iv (0 : Int32), iv c7, iv c8, iv c9, rv b203, rv b209, rv b209, rv b216, iv (1 : Int32), iv (0 : Int32)] []) t
        refine XS.iload X220.here hx rfl (hb hby at_181) rfl ?_
        show SS p e below T220 (mkF m 183 #[iv x0, iv x1, iv x2, iv x3, iv x4, iv (1 : Int32), iv (0 : Int32), iv c7, iv c8, iv c9, rv b203, rv b209, rv b209, rv b216, iv (1 : Int32), iv (0 : Int32)] [(.int (0 : Int32))]) t
        refine XS.iload X220.here hx rfl (hb hby at_183) rfl ?_
        show SS p e below T220 (mkF m 185 #[iv x0, iv x1, iv x2, iv x3, iv x4, iv (1 : Int32), iv (0 : Int32), iv c7, iv c8, iv c9, rv b203, rv b209, rv b209, rv b216, iv (1 : Int32), iv (0 : Int32)] [(.int (1 : Int32)), (.int (0 : Int32))]) t
        refine XS.ifNo X220.here hx rfl (hb hby at_185) rfl (XT.i0_eq_f (by decide)) ?_
        show SS p e below T220 (mkF m 188 #[iv x0, iv x1, iv x2, iv x3, iv x4, iv (1 : Int32), iv (0 : Int32), iv c7, iv c8, iv c9, rv b203, rv b209, rv b209, rv b216, iv (1 : Int32), iv (0 : Int32)] [(.int (0 : Int32))]) t
        refine XS.iload X220.here hx rfl (hb hby at_188) rfl ?_
        show SS p e below T220 (mkF m 190 #[iv x0, iv x1, iv x2, iv x3, iv x4, iv (1 : Int32), iv (0 : Int32), iv c7, iv c8, iv c9, rv b203, rv b209, rv b209, rv b216, iv (1 : Int32), iv (0 : Int32)] [(.int (0 : Int32)), (.int (0 : Int32))]) t
        refine XS.goto X220.here hx rfl (pc0 := 190) (pc' := 194) rfl (hb hby at_190) (by decide) (by decide) ?_
        show SS p e below T220 (mkF m 194 #[iv x0, iv x1, iv x2, iv x3, iv x4, iv (1 : Int32), iv (0 : Int32), iv c7, iv c8, iv c9, rv b203, rv b209, rv b209, rv b216, iv (1 : Int32), iv (0 : Int32)] [(.int (0 : Int32)), (.int (0 : Int32))]) t
        refine XS.icmpNo X220.here hx rfl (hb hby at_194) rfl (XT.ii_ne_f rfl) ?_
        show SS p e below T220 (mkF m 197 #[iv x0, iv x1, iv x2, iv x3, iv x4, iv (1 : Int32), iv (0 : Int32), iv c7, iv c8, iv c9, rv b203, rv b209, rv b209, rv b216, iv (1 : Int32), iv (0 : Int32)] []) t
        refine XS.iconst X220.here hx rfl (hb hby at_197) ?_
        show SS p e below T220 (mkF m 198 #[iv x0, iv x1, iv x2, iv x3, iv x4, iv (1 : Int32), iv (0 : Int32), iv c7, iv c8, iv c9, rv b203, rv b209, rv b209, rv b216, iv (1 : Int32), iv (0 : Int32)] [(.int (1 : Int32))]) t
        refine XS.goto X220.here hx rfl (pc0 := 198) (pc' := 202) rfl (hb hby at_198) (by decide) (by decide) ?_
        show SS p e below T220 (mkF m 202 #[iv x0, iv x1, iv x2, iv x3, iv x4, iv (1 : Int32), iv (0 : Int32), iv c7, iv c8, iv c9, rv b203, rv b209, rv b209, rv b216, iv (1 : Int32), iv (0 : Int32)] [(.int (1 : Int32))]) t
        exact k)
      obtain ⟨fs, hr, hrun, hended, hW, hsame⟩ := X220.leave (v := some (.int (1 : Int32))) (fun h => by rw [Bd.returns] at h; cases h)
      subst hS0
      refine ⟨_, _, pre _ ?_, hrun, hended, _, _, rfl, ?_, ⟨_, rfl⟩, hW, hsame.mono (by decide) (by decide)⟩
      · exact retN X220 hx (t := .boolean) Bd.returns (by simp) (hb hby at_202) hr
      · show Q_law Z x0 x1 x2 x3 x4 cz dc el eb em mr fd fe h0 n0 _ T220.heap _
        rw [e220]
        exact ⟨rfl, N220⟩
  · replace pre : Pth p e below S0 T210 (mkF m 81 #[iv x0, iv x1, iv x2, iv x3, iv x4, iv fl, iv (1 : Int32), iv c7, iv c8, iv c9, rv b203, rv b209, .unset, .unset, .unset, .unset] [(.int (1 : Int32))]) := pre
    replace pre : Pth p e below S0 T210 (mkF m 88 #[iv x0, iv x1, iv x2, iv x3, iv x4, iv fl, iv (1 : Int32), iv c7, iv c8, iv c9, rv b203, rv b209, .unset, .unset, .unset, .unset] [(.int c7), (.ref b209)]) := fun t k => pre t (by
      show SS p e below T210 (mkF m 81 #[iv x0, iv x1, iv x2, iv x3, iv x4, iv fl, iv (1 : Int32), iv c7, iv c8, iv c9, rv b203, rv b209, .unset, .unset, .unset, .unset] [(.int (1 : Int32))]) t
      refine XS.ifNo X210.here hx rfl (hb hby at_81) rfl (XT.i0_le_f (by decide)) ?_
      show SS p e below T210 (mkF m 84 #[iv x0, iv x1, iv x2, iv x3, iv x4, iv fl, iv (1 : Int32), iv c7, iv c8, iv c9, rv b203, rv b209, .unset, .unset, .unset, .unset] []) t
      refine XS.aload X210.here hx rfl (hb hby at_84) rfl rfl ?_
      show SS p e below T210 (mkF m 86 #[iv x0, iv x1, iv x2, iv x3, iv x4, iv fl, iv (1 : Int32), iv c7, iv c8, iv c9, rv b203, rv b209, .unset, .unset, .unset, .unset] [(.ref b209)]) t
      refine XS.iload X210.here hx rfl (hb hby at_86) rfl ?_
      show SS p e below T210 (mkF m 88 #[iv x0, iv x1, iv x2, iv x3, iv x4, iv fl, iv (1 : Int32), iv c7, iv c8, iv c9, rv b203, rv b209, .unset, .unset, .unset, .unset] [(.int c7), (.ref b209)]) t
      exact k)
    obtain ⟨_, _, ⟨T221, L221, k221, n221⟩, -, X221, ⟨Lc221, hQ221, l221, y221, z221⟩, st221⟩ := Jvm.LawKit.callS X210 hx (y := (⟨"java/lang/String", "valueOf", "(C)Ljava/lang/String;"⟩ : MethodName)) hown (mvT hZ (own_t hw 54 rfl)) (mvT hZ (own_t hw 55 rfl)) (mvT hZ (own_t hw 2 rfl)) (mvT hZ (own_t hw 56 rfl)) (by decide) (backOf (W := 1) (rm_vof l Z a0 hw [] c7 cz T210.heap n0 (Nat.le_trans Z0 EX.1) k7a (Scs.ext EX) hcz) hZ (own_t hw 56 rfl) (own_t hw 2 rfl) (by decide) (by decide)) (g := (mkF m 88 #[iv x0, iv x1, iv x2, iv x3, iv x4, iv fl, iv (1 : Int32), iv c7, iv c8, iv c9, rv b203, rv b209, .unset, .unset, .unset, .unset] [(.int c7), (.ref b209)])) rfl (by rw [hml]; rfl) (argsL := [(.int c7)]) (rest := [(.ref b209)]) (lenOf pd__C_Ljava_lang_String_ rfl) rfl (by show 2 * 0 + _ ≤ _; exact Nat.le_of_eq rfl) (hb hby at_88) (fun _ _ => ⟨rfl, rfl, (by decide : 4 + 2 ≤ _), (by decide : 13 + 5 ≤ _)⟩)
    dsimp only [Pt.U, Pt.locs, Pt.cells, Pt.slots] at X221 l221 y221 z221 st221 hQ221
    subst l221 y221 z221
    obtain ⟨s1, rfl, N221q, E221, G1⟩ := hQ221
    have N221 := Fr.app N210 N221q
    replace pre : Pth p e below S0 T221 (mkF m 91 #[iv x0, iv x1, iv x2, iv x3, iv x4, iv fl, iv (1 : Int32), iv c7, iv c8, iv c9, rv b203, rv b209, .unset, .unset, .unset, .unset] [(.ref s1), (.ref b209)]) := fun t k => pre t (st221 _ k)
    replace EX := own_ext_trans EX E221
    replace hA := hA.ext E221
    have J := Ins.of_exa G1 (own_t hw 98 rfl)
    obtain ⟨cq222, kq222, q222a, q222b, q222c⟩ := isOf hZ rfl hA.1
    obtain ⟨_, _, ⟨T222, L222, k222, n222⟩, -, X222, ⟨Lc222, hQ222, l222, y222, z222⟩, st222⟩ := X221.virtualBack hx (y := (⟨"java/util/ArrayList", "add", "(Ljava/lang/Object;)Z"⟩ : MethodName)) (z := (⟨"java/util/ArrayList", "add", "(Ljava/lang/Object;)Z"⟩ : MethodName)) hown (mvT hZ (own_t hw 68 rfl)) (mvT hZ (own_t hw 69 rfl)) (notFace_of_selects (args := #[]) (mvT hZ (own_t hw 71 rfl))) (mvT hZ (own_t hw 71 rfl)) (mvT hZ (own_t hw 70 rfl)) (by decide) (backOf (W := 0) (rm_add0 l Z a0 hw [] b209 s1 dc (0 : Int32) fd T221.heap n0 (Nat.le_trans Z0 EX.1) gL hA (Fd.ext EX) (Sd.ext EX) J) hZ (own_t hw 72 rfl) (own_t hw 32 rfl) (by decide) (by decide)) q222a q222c (g := (mkF m 91 #[iv x0, iv x1, iv x2, iv x3, iv x4, iv fl, iv (1 : Int32), iv c7, iv c8, iv c9, rv b203, rv b209, .unset, .unset, .unset, .unset] [(.ref s1), (.ref b209)])) rfl (by rw [hml]; rfl) (Steps.refl _) (argsL := [(.ref s1)]) (rest := []) (lenOf pd__Ljava_lang_Object__Z rfl) rfl (by show 2 * 0 + _ ≤ _; exact Nat.le_of_eq rfl) (hb hby at_91) (fun _ _ => ⟨rfl, rfl, (by decide : 6 + 1 ≤ _), (by decide : 18 + 10 ≤ _)⟩)
    dsimp only [Pt.U, Pt.locs, Pt.cells, Pt.slots] at X222 l222 y222 z222 st222 hQ222
    subst l222 y222 z222
    obtain ⟨rfl, N222q, ba, gB, K222, hA1, hO⟩ := hQ222
    have N222 := Fr.app N221 N222q
    replace pre : Pth p e below S0 T222 (mkF m 94 #[iv x0, iv x1, iv x2, iv x3, iv x4, iv fl, iv (1 : Int32), iv c7, iv c8, iv c9, rv b203, rv b209, .unset, .unset, .unset, .unset] [(.int (1 : Int32))]) := fun t k => pre t (st222.trans k)
    have sB := Nat.le_trans EX.1 gB
    have neB : b209 ≠ ba := Nat.ne_of_lt (Nat.lt_of_lt_of_le hA.1.lt gB)
    replace EX := own_ext_keep EX K222 (fun z hz => by rw [List.mem_singleton.mp hz]; exact sL)
    replace hA := hA1
    replace G1 := G1.keep K222
    replace pre : Pth p e below S0 T222 (mkF m 131 #[iv x0, iv x1, iv x2, iv x3, iv x4, iv fl, iv (1 : Int32), iv c7, iv c8, iv c9, rv b203, rv b209, .unset, .unset, .unset, .unset] [(.int fl)]) := fun t k => pre t (by
      show SS p e below T222 (mkF m 94 #[iv x0, iv x1, iv x2, iv x3, iv x4, iv fl, iv (1 : Int32), iv c7, iv c8, iv c9, rv b203, rv b209, .unset, .unset, .unset, .unset] [(.int (1 : Int32))]) t
      refine XS.pop X222.here hx rfl (hb hby at_94) rfl rfl ?_
      show SS p e below T222 (mkF m 95 #[iv x0, iv x1, iv x2, iv x3, iv x4, iv fl, iv (1 : Int32), iv c7, iv c8, iv c9, rv b203, rv b209, .unset, .unset, .unset, .unset] []) t
      refine XS.iload X222.here hx rfl (hb hby at_95) rfl ?_
      show SS p e below T222 (mkF m 97 #[iv x0, iv x1, iv x2, iv x3, iv x4, iv fl, iv (1 : Int32), iv c7, iv c8, iv c9, rv b203, rv b209, .unset, .unset, .unset, .unset] [(.int (1 : Int32))]) t
      refine XS.iconst X222.here hx rfl (hb hby at_97) ?_
      show SS p e below T222 (mkF m 98 #[iv x0, iv x1, iv x2, iv x3, iv x4, iv fl, iv (1 : Int32), iv c7, iv c8, iv c9, rv b203, rv b209, .unset, .unset, .unset, .unset] [(.int (1 : Int32)), (.int (1 : Int32))]) t
      refine XS.icmpYes X222.here hx rfl (pc0 := 98) (pc' := 112) rfl (hb hby at_98) rfl (XT.ii_le_t (by decide)) (by decide) (by decide) ?_
      show SS p e below T222 (mkF m 112 #[iv x0, iv x1, iv x2, iv x3, iv x4, iv fl, iv (1 : Int32), iv c7, iv c8, iv c9, rv b203, rv b209, .unset, .unset, .unset, .unset] []) t
      refine XS.iload X222.here hx rfl (hb hby at_112) rfl ?_
      show SS p e below T222 (mkF m 114 #[iv x0, iv x1, iv x2, iv x3, iv x4, iv fl, iv (1 : Int32), iv c7, iv c8, iv c9, rv b203, rv b209, .unset, .unset, .unset, .unset] [(.int (1 : Int32))]) t
      refine XS.iconst X222.here hx rfl (hb hby at_114) ?_
      show SS p e below T222 (mkF m 115 #[iv x0, iv x1, iv x2, iv x3, iv x4, iv fl, iv (1 : Int32), iv c7, iv c8, iv c9, rv b203, rv b209, .unset, .unset, .unset, .unset] [(.int (2 : Int32)), (.int (1 : Int32))]) t
      refine XS.icmpYes X222.here hx rfl (pc0 := 115) (pc' := 129) rfl (hb hby at_115) rfl (XT.ii_le_t (by decide)) (by decide) (by decide) ?_
      show SS p e below T222 (mkF m 129 #[iv x0, iv x1, iv x2, iv x3, iv x4, iv fl, iv (1 : Int32), iv c7, iv c8, iv c9, rv b203, rv b209, .unset, .unset, .unset, .unset] []) t
      refine XS.iload X222.here hx rfl (hb hby at_129) rfl ?_
      show SS p e below T222 (mkF m 131 #[iv x0, iv x1, iv x2, iv x3, iv x4, iv fl, iv (1 : Int32), iv c7, iv c8, iv c9, rv b203, rv b209, .unset, .unset, .unset, .unset] [(.int fl)]) t
      exact k)
    rcases hfl with rfl | rfl
    · replace pre : Pth p e below S0 T222 (mkF m 131 #[iv x0, iv x1, iv x2, iv x3, iv x4, iv (0 : Int32), iv (1 : Int32), iv c7, iv c8, iv c9, rv b203, rv b209, .unset, .unset, .unset, .unset] [(.int (0 : Int32))]) := pre
      replace pre : Pth p e below S0 T222 (mkF m 142 #[iv x0, iv x1, iv x2, iv x3, iv x4, iv (0 : Int32), iv (1 : Int32), iv c7, iv c8, iv c9, rv b203, rv b209, .val .null, .unset, .unset, .unset] []) := fun t k => pre t (by
        show SS p e below T222 (mkF m 131 #[iv x0, iv x1, iv x2, iv x3, iv x4, iv (0 : Int32), iv (1 : Int32), iv c7, iv c8, iv c9, rv b203, rv b209, .unset, .unset, .unset, .unset] [(.int (0 : Int32))]) t
        refine XS.ifYes X222.here hx rfl (pc0 := 131) (pc' := 139) rfl (hb hby at_131) rfl (XT.i0_eq_t rfl) (by decide) (by decide) ?_
        show SS p e below T222 (mkF m 139 #[iv x0, iv x1, iv x2, iv x3, iv x4, iv (0 : Int32), iv (1 : Int32), iv c7, iv c8, iv c9, rv b203, rv b209, .unset, .unset, .unset, .unset] []) t
        refine XS.aconstNull X222.here hx rfl (hb hby at_139) ?_
        show SS p e below T222 (mkF m 140 #[iv x0, iv x1, iv x2, iv x3, iv x4, iv (0 : Int32), iv (1 : Int32), iv c7, iv c8, iv c9, rv b203, rv b209, .unset, .unset, .unset, .unset] [.null]) t
        refine XS.astore X222.here hx rfl (hb hby at_140) rfl rfl (l' := #[iv x0, iv x1, iv x2, iv x3, iv x4, iv (0 : Int32), iv (1 : Int32), iv c7, iv c8, iv c9, rv b203, rv b209, .val .null, .unset, .unset, .unset]) rfl ?_
        show SS p e below T222 (mkF m 142 #[iv x0, iv x1, iv x2, iv x3, iv x4, iv (0 : Int32), iv (1 : Int32), iv c7, iv c8, iv c9, rv b203, rv b209, .val .null, .unset, .unset, .unset] []) t
        exact k)
      obtain ⟨T223, h223, X223, e223, E223, A223, D223, -, st223⟩ := newO X222 hx hZ hown (own_t hw 99 rfl) (own_t hw 100 rfl) (own_t hw 101 rfl) rfl (g := (mkF m 142 #[iv x0, iv x1, iv x2, iv x3, iv x4, iv (0 : Int32), iv (1 : Int32), iv c7, iv c8, iv c9, rv b203, rv b209, .val .null, .unset, .unset, .unset] [])) rfl (hb hby at_142) (by decide) (by decide)
      obtain ⟨b223, g223⟩ : ∃ z, z = T222.heap.size := ⟨_, rfl⟩
      rw [← g223] at A223 D223 st223
      replace pre : Pth p e below S0 T223 (mkF m 145 #[iv x0, iv x1, iv x2, iv x3, iv x4, iv (0 : Int32), iv (1 : Int32), iv c7, iv c8, iv c9, rv b203, rv b209, .val .null, .unset, .unset, .unset] [(.ref b223)]) := fun t k => pre t (st223 _ k)
      have Wa : Fld Z h223 b223 "com/example/sheaf/sheaf/cbor/TextStringItem" "value" "Ljava/lang/String;" .null := D223 (Or.inr (own_t hw 112 rfl)) (ty := (.object "java/lang/String")) (by decide)
      have Wb : Fld Z h223 b223 "com/example/sheaf/sheaf/cbor/TextStringItem" "chunks" "Ljava/util/List;" .null := D223 (Or.inr (own_t hw 114 rfl)) (ty := (.object "java/util/List")) (by decide)
      have sT : h0.size ≤ b223 := by rw [g223]; exact EX.1
      replace EX := own_ext_trans EX E223
      replace pre : Pth p e below S0 T223 (mkF m 150 #[iv x0, iv x1, iv x2, iv x3, iv x4, iv (0 : Int32), iv (1 : Int32), iv c7, iv c8, iv c9, rv b203, rv b209, .val .null, .unset, .unset, .unset] [.null, (.ref b203), (.ref b223), (.ref b223)]) := fun t k => pre t (by
        show SS p e below T223 (mkF m 145 #[iv x0, iv x1, iv x2, iv x3, iv x4, iv (0 : Int32), iv (1 : Int32), iv c7, iv c8, iv c9, rv b203, rv b209, .val .null, .unset, .unset, .unset] [(.ref b223)]) t
        refine XS.dup X223.here hx rfl (hb hby at_145) rfl rfl ?_
        show SS p e below T223 (mkF m 146 #[iv x0, iv x1, iv x2, iv x3, iv x4, iv (0 : Int32), iv (1 : Int32), iv c7, iv c8, iv c9, rv b203, rv b209, .val .null, .unset, .unset, .unset] [(.ref b223), (.ref b223)]) t
        refine XS.aload X223.here hx rfl (hb hby at_146) rfl rfl ?_
        show SS p e below T223 (mkF m 148 #[iv x0, iv x1, iv x2, iv x3, iv x4, iv (0 : Int32), iv (1 : Int32), iv c7, iv c8, iv c9, rv b203, rv b209, .val .null, .unset, .unset, .unset] [(.ref b203), (.ref b223), (.ref b223)]) t
        refine XS.aload X223.here hx rfl (hb hby at_148) rfl rfl ?_
        show SS p e below T223 (mkF m 150 #[iv x0, iv x1, iv x2, iv x3, iv x4, iv (0 : Int32), iv (1 : Int32), iv c7, iv c8, iv c9, rv b203, rv b209, .val .null, .unset, .unset, .unset] [.null, (.ref b203), (.ref b223), (.ref b223)]) t
        exact k)
      obtain ⟨_, _, ⟨T224, L224, k224, n224⟩, -, X224, ⟨Lc224, hQ224, l224, y224, z224⟩, st224⟩ := X223.specialBack hx (y := (⟨"com/example/sheaf/sheaf/cbor/TextStringItem", "<init>", "(Ljava/lang/String;Ljava/util/List;)V"⟩ : MethodName)) rfl hown (mvT hZ (own_t hw 102 rfl)) (mvT hZ (own_t hw 103 rfl)) (mvT hZ (own_t hw 104 rfl)) (by decide) (backOf (W := 1) (rm_tin l Z a0 hw [] b223 b203 h223 n0 (Nat.le_trans Z0 sT) A223 Wa Wb) hZ (own_t hw 104 rfl) (own_t hw 101 rfl) (by decide) (by decide)) (g := (mkF m 150 #[iv x0, iv x1, iv x2, iv x3, iv x4, iv (0 : Int32), iv (1 : Int32), iv c7, iv c8, iv c9, rv b203, rv b209, .val .null, .unset, .unset, .unset] [.null, (.ref b203), (.ref b223), (.ref b223)])) rfl (by rw [hml]; rfl) (Steps.refl _) (a := b223) (argsL := [(.ref b203), .null]) (rest := [(.ref b223)]) (lenOf pd__Ljava_lang_String_Ljava_util_List__V rfl) rfl (by show 2 * 0 + _ ≤ _; exact Nat.le_of_eq rfl) (hb hby at_150) (fun _ _ => ⟨rfl, e223, (by decide : 8 + 0 ≤ _), (by decide : 30 + 0 ≤ _)⟩)
      dsimp only [Pt.U, Pt.locs, Pt.cells, Pt.slots] at X224 l224 y224 z224 st224 hQ224
      subst l224 y224 z224
      obtain ⟨rfl, N224q, K224, A224, F224⟩ := hQ224
      have N224 := Fr.app N222 N224q
      replace pre : Pth p e below S0 T224 (mkF m 153 #[iv x0, iv x1, iv x2, iv x3, iv x4, iv (0 : Int32), iv (1 : Int32), iv c7, iv c8, iv c9, rv b203, rv b209, .val .null, .unset, .unset, .unset] [(.ref b223)]) := fun t k => pre t (st224.trans k)
      replace EX := own_ext_keep EX K224 (fun z hz => by rw [List.mem_singleton.mp hz]; exact sT)
      replace pre : Pth p e below S0 T224 (mkF m 157 #[iv x0, iv x1, iv x2, iv x3, iv x4, iv (0 : Int32), iv (1 : Int32), iv c7, iv c8, iv c9, rv b203, rv b209, .val .null, rv b223, .unset, .unset] [(.ref b223)]) := fun t k => pre t (by
        show SS p e below T224 (mkF m 153 #[iv x0, iv x1, iv x2, iv x3, iv x4, iv (0 : Int32), iv (1 : Int32), iv c7, iv c8, iv c9, rv b203, rv b209, .val .null, .unset, .unset, .unset] [(.ref b223)]) t
        refine XS.astore X224.here hx rfl (hb hby at_153) rfl rfl (l' := #[iv x0, iv x1, iv x2, iv x3, iv x4, iv (0 : Int32), iv (1 : Int32), iv c7, iv c8, iv c9, rv b203, rv b209, .val .null, rv b223, .unset, .unset]) rfl ?_
        show SS p e below T224 (mkF m 155 #[iv x0, iv x1, iv x2, iv x3, iv x4, iv (0 : Int32), iv (1 : Int32), iv c7, iv c8, iv c9, rv b203, rv b209, .val .null, rv b223, .unset, .unset] []) t
        refine XS.aload X224.here hx rfl (hb hby at_155) rfl rfl ?_
        show SS p e below T224 (mkF m 157 #[iv x0, iv x1, iv x2, iv x3, iv x4, iv (0 : Int32), iv (1 : Int32), iv c7, iv c8, iv c9, rv b203, rv b209, .val .null, rv b223, .unset, .unset] [(.ref b223)]) t
        exact k)
      obtain ⟨cq225, kq225, q225a, q225b, q225c⟩ := isOf hZ rfl A224
      obtain ⟨_, _, ⟨T225, L225, k225, n225⟩, -, X225, ⟨Lc225, hQ225, l225, y225, z225⟩, st225⟩ := X224.virtualBack hx (y := (⟨"com/example/sheaf/sheaf/cbor/TextStringItem", "isIndefinite", "()Z"⟩ : MethodName)) (z := (⟨"com/example/sheaf/sheaf/cbor/TextStringItem", "isIndefinite", "()Z"⟩ : MethodName)) hown (mvT hZ (own_t hw 115 rfl)) (mvT hZ (own_t hw 116 rfl)) (notFace_of_selects (args := #[]) (mvT hZ (own_t hw 118 rfl))) (mvT hZ (own_t hw 118 rfl)) (mvT hZ (own_t hw 117 rfl)) (by decide) (backOf (W := 0) (rm_ii0 l Z a0 hw [] b223 el T224.heap n0 F224) hZ (own_t hw 119 rfl) (own_t hw 101 rfl) (by decide) (by decide)) q225a q225c (g := (mkF m 157 #[iv x0, iv x1, iv x2, iv x3, iv x4, iv (0 : Int32), iv (1 : Int32), iv c7, iv c8, iv c9, rv b203, rv b209, .val .null, rv b223, .unset, .unset] [(.ref b223)])) rfl (by rw [hml]; rfl) (Steps.refl _) (argsL := []) (rest := []) (lenOf pd___Z rfl) rfl (by show 2 * 0 + _ ≤ _; exact Nat.le_of_eq rfl) (hb hby at_157) (fun _ _ => ⟨rfl, rfl, (by decide : 8 + 0 ≤ _), (by decide : 30 + 0 ≤ _)⟩)
      dsimp only [Pt.U, Pt.locs, Pt.cells, Pt.slots] at X225 l225 y225 z225 st225 hQ225
      subst l225 y225 z225
      obtain ⟨rfl, N225q, e225⟩ := hQ225
      have N225 := Fr.app N224 N225q
      replace pre : Pth p e below S0 T225 (mkF m 160 #[iv x0, iv x1, iv x2, iv x3, iv x4, iv (0 : Int32), iv (1 : Int32), iv c7, iv c8, iv c9, rv b203, rv b209, .val .null, rv b223, .unset, .unset] [(.int (0 : Int32))]) := fun t k => pre t (st225.trans k)
      replace pre : Pth p e below S0 T225 (mkF m 164 #[iv x0, iv x1, iv x2, iv x3, iv x4, iv (0 : Int32), iv (1 : Int32), iv c7, iv c8, iv c9, rv b203, rv b209, .val .null, rv b223, iv (0 : Int32), .unset] [(.ref b223)]) := fun t k => pre t (by
        show SS p e below T225 (mkF m 160 #[iv x0, iv x1, iv x2, iv x3, iv x4, iv (0 : Int32), iv (1 : Int32), iv c7, iv c8, iv c9, rv b203, rv b209, .val .null, rv b223, .unset, .unset] [(.int (0 : Int32))]) t
        refine XS.istore X225.here hx rfl (hb hby at_160) rfl (l' := #[iv x0, iv x1, iv x2, iv x3, iv x4, iv (0 : Int32), iv (1 : Int32), iv c7, iv c8, iv c9, rv b203, rv b209, .val .null, rv b223, iv (0 : Int32), .unset]) rfl ?_
        show SS p e below T225 (mkF m 162 #[iv x0, iv x1, iv x2, iv x3, iv x4, iv (0 : Int32), iv (1 : Int32), iv c7, iv c8, iv c9, rv b203, rv b209, .val .null, rv b223, iv (0 : Int32), .unset] []) t
        refine XS.aload X225.here hx rfl (hb hby at_162) rfl rfl ?_
        show SS p e below T225 (mkF m 164 #[iv x0, iv x1, iv x2, iv x3, iv x4, iv (0 : Int32), iv (1 : Int32), iv c7, iv c8, iv c9, rv b203, rv b209, .val .null, rv b223, iv (0 : Int32), .unset] [(.ref b223)]) t
        exact k)
      obtain ⟨cq226, kq226, q226a, q226b, q226c⟩ := isOf hZ e225 A224
      obtain ⟨_, _, ⟨T226, L226, k226, n226⟩, -, X226, ⟨Lc226, hQ226, l226, y226, z226⟩, st226⟩ := X225.virtualBack hx (y := (⟨"com/example/sheaf/sheaf/cbor/TextStringItem", "chunks", "()Ljava/util/List;"⟩ : MethodName)) (z := (⟨"com/example/sheaf/sheaf/cbor/TextStringItem", "chunks", "()Ljava/util/List;"⟩ : MethodName)) hown (mvT hZ (own_t hw 120 rfl)) (mvT hZ (own_t hw 121 rfl)) (notFace_of_selects (args := #[]) (mvT hZ (own_t hw 123 rfl))) (mvT hZ (own_t hw 123 rfl)) (mvT hZ (own_t hw 122 rfl)) (by decide) (backOf (W := 0) (rm_ck0 l Z a0 hw [] b223 el T224.heap n0 F224 (Sel.ext EX)) hZ (own_t hw 124 rfl) (own_t hw 101 rfl) (by decide) (by decide)) q226a q226c (g := (mkF m 164 #[iv x0, iv x1, iv x2, iv x3, iv x4, iv (0 : Int32), iv (1 : Int32), iv c7, iv c8, iv c9, rv b203, rv b209, .val .null, rv b223, iv (0 : Int32), .unset] [(.ref b223)])) rfl (by rw [hml]; rfl) (Steps.refl _) (argsL := []) (rest := []) (lenOf pd___Ljava_util_List_ rfl) rfl (by show 2 * 0 + _ ≤ _; exact Nat.le_of_eq rfl) (hb hby at_164) (fun _ _ => ⟨rfl, e225, (by decide : 8 + 0 ≤ _), (by decide : 30 + 0 ≤ _)⟩)
      dsimp only [Pt.U, Pt.locs, Pt.cells, Pt.slots] at X226 l226 y226 z226 st226 hQ226
      subst l226 y226 z226
      obtain ⟨rfl, N226q, e226⟩ := hQ226
      have N226 := Fr.app N225 N226q
      replace pre : Pth p e below S0 T226 (mkF m 167 #[iv x0, iv x1, iv x2, iv x3, iv x4, iv (0 : Int32), iv (1 : Int32), iv c7, iv c8, iv c9, rv b203, rv b209, .val .null, rv b223, iv (0 : Int32), .unset] [(.ref el)]) := fun t k => pre t (st226.trans k)
      obtain ⟨cq227, kq227, q227a, q227b, q227c⟩ := isOf hZ e226 (Eel.ext EX)
      obtain ⟨_, _, ⟨T227, L227, k227, n227⟩, -, X227, ⟨Lc227, hQ227, l227, y227, z227⟩, st227⟩ := X226.interfaceBack hx (xi := (⟨"java/util/List", "size", "()I"⟩ : MethodName)) (y := (⟨"java/util/ImmutableCollections$ListN", "size", "()I"⟩ : MethodName)) hown (mvT hZ (own_t hw 131 rfl)) (mvT hZ (own_t hw 132 rfl)) (mvT hZ (own_t hw 133 rfl)) (mvT hZ (own_t hw 134 rfl)) (mvT hZ (own_t hw 135 rfl)) (mvT hZ (own_t hw 136 rfl)) (mvT hZ (own_t hw 137 rfl)) (mvT hZ (own_t hw 138 rfl)) (by decide) (backOf (W := 0) (rm_lns0 l Z a0 hw [] el eb fe T224.heap n0 (Fel.ext EX) (Fe0.ext EX)) hZ (own_t hw 140 rfl) (own_t hw 139 rfl) (by decide) (by decide)) q227a q227b q227c (g := (mkF m 167 #[iv x0, iv x1, iv x2, iv x3, iv x4, iv (0 : Int32), iv (1 : Int32), iv c7, iv c8, iv c9, rv b203, rv b209, .val .null, rv b223, iv (0 : Int32), .unset] [(.ref el)])) rfl (by rw [hml]; rfl) (Steps.refl _) (argsL := []) (rest := []) (lenOf pd___I rfl) rfl (by show 2 * 0 + _ ≤ _; exact Nat.le_of_eq rfl) (hb hby at_167) (fun _ _ => ⟨rfl, e226, (by decide : 8 + 0 ≤ _), (by decide : 30 + 0 ≤ _)⟩)
      dsimp only [Pt.U, Pt.locs, Pt.cells, Pt.slots] at X227 l227 y227 z227 st227 hQ227
      subst l227 y227 z227
      obtain ⟨rfl, N227q, e227⟩ := hQ227
      have N227 := Fr.app N226 N227q
      replace pre : Pth p e below S0 T227 (mkF m 172 #[iv x0, iv x1, iv x2, iv x3, iv x4, iv (0 : Int32), iv (1 : Int32), iv c7, iv c8, iv c9, rv b203, rv b209, .val .null, rv b223, iv (0 : Int32), .unset] [(.int (0 : Int32))]) := fun t k => pre t (st227.trans k)
      replace pre : Pth p e below S0 T227 (mkF m 202 #[iv x0, iv x1, iv x2, iv x3, iv x4, iv (0 : Int32), iv (1 : Int32), iv c7, iv c8, iv c9, rv b203, rv b209, .val .null, rv b223, iv (0 : Int32), iv (0 : Int32)] [(.int (1 : Int32))]) := fun t k => pre t (by
        show SS p e below T227 (mkF m 172 #[iv x0, iv x1, iv x2, iv x3, iv x4, iv (0 : Int32), iv (1 : Int32), iv c7, iv c8, iv c9, rv b203, rv b209, .val .null, rv b223, iv (0 : Int32), .unset] [(.int (0 : Int32))]) t
        refine XS.istore X227.here hx rfl (hb hby at_172) rfl (l' := #[iv x0, iv x1, iv x2, iv x3, iv x4, iv (0 : Int32), iv (1 : Int32), iv c7, iv c8, iv c9, rv b203, rv b209, .val .null, rv b223, iv (0 : Int32), iv (0 : Int32)]) rfl ?_
        show SS p e below T227 (mkF m 174 #[iv x0, iv x1, iv x2, iv x3, iv x4, iv (0 : Int32), iv (1 : Int32), iv c7, iv c8, iv c9, rv b203, rv b209, .val .null, rv b223, iv (0 : Int32), iv (0 : Int32)] []) t
        refine XS.iload X227.here hx rfl (hb hby at_174) rfl ?_
        show SS p e below T227 (mkF m 176 #[iv x0, iv x1, iv x2, iv x3, iv x4, iv (0 : Int32), iv (1 : Int32), iv c7, iv c8, iv c9, rv b203, rv b209, .val .null, rv b223, iv (0 : Int32), iv (0 : Int32)] [(.int (0 : Int32))]) t
        refine XS.iload X227.here hx rfl (hb hby at_176) rfl ?_
        show SS p e below T227 (mkF m 178 #[iv x0, iv x1, iv x2, iv x3, iv x4, iv (0 : Int32), iv (1 : Int32), iv c7, iv c8, iv c9, rv b203, rv b209, .val .null, rv b223, iv (0 : Int32), iv (0 : Int32)] [(.int (0 : Int32)), (.int (0 : Int32))]) t
        refine XS.icmpNo X227.here hx rfl (hb hby at_178) rfl (XT.ii_ne_f rfl) ?_
        show SS p e below T227 (mkF m 181 #[iv x0, iv x1, iv x2, iv x3, iv x4, iv (0 : Int32), iv (1 : Int32), iv c7, iv c8, iv c9, rv b203, rv b209, .val .null, rv b223, iv (0 : Int32), iv (0 : Int32)] []) t
        refine XS.iload X227.here hx rfl (hb hby at_181) rfl ?_
        show SS p e below T227 (mkF m 183 #[iv x0, iv x1, iv x2, iv x3, iv x4, iv (0 : Int32), iv (1 : Int32), iv c7, iv c8, iv c9, rv b203, rv b209, .val .null, rv b223, iv (0 : Int32), iv (0 : Int32)] [(.int (0 : Int32))]) t
        refine XS.iload X227.here hx rfl (hb hby at_183) rfl ?_
        show SS p e below T227 (mkF m 185 #[iv x0, iv x1, iv x2, iv x3, iv x4, iv (0 : Int32), iv (1 : Int32), iv c7, iv c8, iv c9, rv b203, rv b209, .val .null, rv b223, iv (0 : Int32), iv (0 : Int32)] [(.int (0 : Int32)), (.int (0 : Int32))]) t
        refine XS.ifYes X227.here hx rfl (pc0 := 185) (pc' := 193) rfl (hb hby at_185) rfl (XT.i0_eq_t rfl) (by decide) (by decide) ?_
        show SS p e below T227 (mkF m 193 #[iv x0, iv x1, iv x2, iv x3, iv x4, iv (0 : Int32), iv (1 : Int32), iv c7, iv c8, iv c9, rv b203, rv b209, .val .null, rv b223, iv (0 : Int32), iv (0 : Int32)] [(.int (0 : Int32))]) t
        refine XS.iconst X227.here hx rfl (hb hby at_193) ?_
        show SS p e below T227 (mkF m 194 #[iv x0, iv x1, iv x2, iv x3, iv x4, iv (0 : Int32), iv (1 : Int32), iv c7, iv c8, iv c9, rv b203, rv b209, .val .null, rv b223, iv (0 : Int32), iv (0 : Int32)] [(.int (0 : Int32)), (.int (0 : Int32))]) t
        refine XS.icmpNo X227.here hx rfl (hb hby at_194) rfl (XT.ii_ne_f rfl) ?_
        show SS p e below T227 (mkF m 197 #[iv x0, iv x1, iv x2, iv x3, iv x4, iv (0 : Int32), iv (1 : Int32), iv c7, iv c8, iv c9, rv b203, rv b209, .val .null, rv b223, iv (0 : Int32), iv (0 : Int32)] []) t
        refine XS.iconst X227.here hx rfl (hb hby at_197) ?_
        show SS p e below T227 (mkF m 198 #[iv x0, iv x1, iv x2, iv x3, iv x4, iv (0 : Int32), iv (1 : Int32), iv c7, iv c8, iv c9, rv b203, rv b209, .val .null, rv b223, iv (0 : Int32), iv (0 : Int32)] [(.int (1 : Int32))]) t
        refine XS.goto X227.here hx rfl (pc0 := 198) (pc' := 202) rfl (hb hby at_198) (by decide) (by decide) ?_
        show SS p e below T227 (mkF m 202 #[iv x0, iv x1, iv x2, iv x3, iv x4, iv (0 : Int32), iv (1 : Int32), iv c7, iv c8, iv c9, rv b203, rv b209, .val .null, rv b223, iv (0 : Int32), iv (0 : Int32)] [(.int (1 : Int32))]) t
        exact k)
      obtain ⟨fs, hr, hrun, hended, hW, hsame⟩ := X227.leave (v := some (.int (1 : Int32))) (fun h => by rw [Bd.returns] at h; cases h)
      subst hS0
      refine ⟨_, _, pre _ ?_, hrun, hended, _, _, rfl, ?_, ⟨_, rfl⟩, hW, hsame.mono (by decide) (by decide)⟩
      · exact retN X227 hx (t := .boolean) Bd.returns (by simp) (hb hby at_202) hr
      · show Q_law Z x0 x1 x2 x3 x4 cz dc el eb em mr fd fe h0 n0 _ T227.heap _
        rw [e227]
        exact ⟨rfl, N227⟩
    · replace pre : Pth p e below S0 T222 (mkF m 131 #[iv x0, iv x1, iv x2, iv x3, iv x4, iv (1 : Int32), iv (1 : Int32), iv c7, iv c8, iv c9, rv b203, rv b209, .unset, .unset, .unset, .unset] [(.int (1 : Int32))]) := pre
      replace pre : Pth p e below S0 T222 (mkF m 142 #[iv x0, iv x1, iv x2, iv x3, iv x4, iv (1 : Int32), iv (1 : Int32), iv c7, iv c8, iv c9, rv b203, rv b209, rv b209, .unset, .unset, .unset] []) := fun t k => pre t (by
        show SS p e below T222 (mkF m 131 #[iv x0, iv x1, iv x2, iv x3, iv x4, iv (1 : Int32), iv (1 : Int32), iv c7, iv c8, iv c9, rv b203, rv b209, .unset, .unset, .unset, .unset] [(.int (1 : Int32))]) t
        refine XS.ifNo X222.here hx rfl (hb hby at_131) rfl (XT.i0_eq_f (by decide)) ?_
        show SS p e below T222 (mkF m 134 #[iv x0, iv x1, iv x2, iv x3, iv x4, iv (1 : Int32), iv (1 : Int32), iv c7, iv c8, iv c9, rv b203, rv b209, .unset, .unset, .unset, .unset] []) t
        refine XS.aload X222.here hx rfl (hb hby at_134) rfl rfl ?_
        show SS p e below T222 (mkF m 136 #[iv x0, iv x1, iv x2, iv x3, iv x4, iv (1 : Int32), iv (1 : Int32), iv c7, iv c8, iv c9, rv b203, rv b209, .unset, .unset, .unset, .unset] [(.ref b209)]) t
        refine XS.goto X222.here hx rfl (pc0 := 136) (pc' := 140) rfl (hb hby at_136) (by decide) (by decide) ?_
        show SS p e below T222 (mkF m 140 #[iv x0, iv x1, iv x2, iv x3, iv x4, iv (1 : Int32), iv (1 : Int32), iv c7, iv c8, iv c9, rv b203, rv b209, .unset, .unset, .unset, .unset] [(.ref b209)]) t
        refine XS.astore X222.here hx rfl (hb hby at_140) rfl rfl (l' := #[iv x0, iv x1, iv x2, iv x3, iv x4, iv (1 : Int32), iv (1 : Int32), iv c7, iv c8, iv c9, rv b203, rv b209, rv b209, .unset, .unset, .unset]) rfl ?_
        show SS p e below T222 (mkF m 142 #[iv x0, iv x1, iv x2, iv x3, iv x4, iv (1 : Int32), iv (1 : Int32), iv c7, iv c8, iv c9, rv b203, rv b209, rv b209, .unset, .unset, .unset] []) t
        exact k)
      obtain ⟨T228, h228, X228, e228, E228, A228, D228, -, st228⟩ := newO X222 hx hZ hown (own_t hw 99 rfl) (own_t hw 100 rfl) (own_t hw 101 rfl) rfl (g := (mkF m 142 #[iv x0, iv x1, iv x2, iv x3, iv x4, iv (1 : Int32), iv (1 : Int32), iv c7, iv c8, iv c9, rv b203, rv b209, rv b209, .unset, .unset, .unset] [])) rfl (hb hby at_142) (by decide) (by decide)
      obtain ⟨b228, g228⟩ : ∃ z, z = T222.heap.size := ⟨_, rfl⟩
      rw [← g228] at A228 D228 st228
      replace pre : Pth p e below S0 T228 (mkF m 145 #[iv x0, iv x1, iv x2, iv x3, iv x4, iv (1 : Int32), iv (1 : Int32), iv c7, iv c8, iv c9, rv b203, rv b209, rv b209, .unset, .unset, .unset] [(.ref b228)]) := fun t k => pre t (st228 _ k)
      have Wa : Fld Z h228 b228 "com/example/sheaf/sheaf/cbor/TextStringItem" "value" "Ljava/lang/String;" .null := D228 (Or.inr (own_t hw 112 rfl)) (ty := (.object "java/lang/String")) (by decide)
      have Wb : Fld Z h228 b228 "com/example/sheaf/sheaf/cbor/TextStringItem" "chunks" "Ljava/util/List;" .null := D228 (Or.inr (own_t hw 114 rfl)) (ty := (.object "java/util/List")) (by decide)
      have sT : h0.size ≤ b228 := by rw [g228]; exact EX.1
      replace EX := own_ext_trans EX E228
      replace hA := hA.ext E228
      replace hO := hO.ext E228
      replace G1 := G1.ext E228
      have J1 := Ins.of_exa G1 (own_t hw 98 rfl)
      replace pre : Pth p e below S0 T228 (mkF m 150 #[iv x0, iv x1, iv x2, iv x3, iv x4, iv (1 : Int32), iv (1 : Int32), iv c7, iv c8, iv c9, rv b203, rv b209, rv b209, .unset, .unset, .unset] [(.ref b209), (.ref b203), (.ref b228), (.ref b228)]) := fun t k => pre t (by
        show SS p e below T228 (mkF m 145 #[iv x0, iv x1, iv x2, iv x3, iv x4, iv (1 : Int32), iv (1 : Int32), iv c7, iv c8, iv c9, rv b203, rv b209, rv b209, .unset, .unset, .unset] [(.ref b228)]) t
        refine XS.dup X228.here hx rfl (hb hby at_145) rfl rfl ?_
        show SS p e below T228 (mkF m 146 #[iv x0, iv x1, iv x2, iv x3, iv x4, iv (1 : Int32), iv (1 : Int32), iv c7, iv c8, iv c9, rv b203, rv b209, rv b209, .unset, .unset, .unset] [(.ref b228), (.ref b228)]) t
        refine XS.aload X228.here hx rfl (hb hby at_146) rfl rfl ?_
        show SS p e below T228 (mkF m 148 #[iv x0, iv x1, iv x2, iv x3, iv x4, iv (1 : Int32), iv (1 : Int32), iv c7, iv c8, iv c9, rv b203, rv b209, rv b209, .unset, .unset, .unset] [(.ref b203), (.ref b228), (.ref b228)]) t
        refine XS.aload X228.here hx rfl (hb hby at_148) rfl rfl ?_
        show SS p e below T228 (mkF m 150 #[iv x0, iv x1, iv x2, iv x3, iv x4, iv (1 : Int32), iv (1 : Int32), iv c7, iv c8, iv c9, rv b203, rv b209, rv b209, .unset, .unset, .unset] [(.ref b209), (.ref b203), (.ref b228), (.ref b228)]) t
        exact k)
      obtain ⟨_, _, ⟨T229, L229, k229, n229⟩, -, X229, ⟨Lc229, hQ229, l229, y229, z229⟩, st229⟩ := X228.specialBack hx (y := (⟨"com/example/sheaf/sheaf/cbor/TextStringItem", "<init>", "(Ljava/lang/String;Ljava/util/List;)V"⟩ : MethodName)) rfl hown (mvT hZ (own_t hw 102 rfl)) (mvT hZ (own_t hw 103 rfl)) (mvT hZ (own_t hw 104 rfl)) (by decide) (backOf (W := 1) (rm_ti1 l Z a0 hw [] b228 b203 b209 ba mr _ _ s1 em h228 n0 (Nat.le_trans Z0 EX.1) (Nat.le_trans Z0 sT) A228 Wa Wb hA M hO (own_hf_cons own_hf_nil J1) rfl (Sem.ext EX)) hZ (own_t hw 104 rfl) (own_t hw 101 rfl) (by decide) (by decide)) (g := (mkF m 150 #[iv x0, iv x1, iv x2, iv x3, iv x4, iv (1 : Int32), iv (1 : Int32), iv c7, iv c8, iv c9, rv b203, rv b209, rv b209, .unset, .unset, .unset] [(.ref b209), (.ref b203), (.ref b228), (.ref b228)])) rfl (by rw [hml]; rfl) (Steps.refl _) (a := b228) (argsL := [(.ref b203), (.ref b209)]) (rest := [(.ref b228)]) (lenOf pd__Ljava_lang_String_Ljava_util_List__V rfl) rfl (by show 2 * 0 + _ ≤ _; exact Nat.le_of_eq rfl) (hb hby at_150) (fun _ _ => ⟨rfl, e228, (by decide : 8 + 2 ≤ _), (by decide : 30 + 3 ≤ _)⟩)
      dsimp only [Pt.U, Pt.locs, Pt.cells, Pt.slots] at X229 l229 y229 z229 st229 hQ229
      subst l229 y229 z229
      obtain ⟨rfl, N229q, K229, A229, rr, F229, O229⟩ := hQ229
      have N229 := Fr.app N222 N229q
      replace pre : Pth p e below S0 T229 (mkF m 153 #[iv x0, iv x1, iv x2, iv x3, iv x4, iv (1 : Int32), iv (1 : Int32), iv c7, iv c8, iv c9, rv b203, rv b209, rv b209, .unset, .unset, .unset] [(.ref b228)]) := fun t k => pre t (st229.trans k)
      replace EX := own_ext_keep EX K229 (fun z hz => by rw [List.mem_singleton.mp hz]; exact sT)
      replace pre : Pth p e below S0 T229 (mkF m 157 #[iv x0, iv x1, iv x2, iv x3, iv x4, iv (1 : Int32), iv (1 : Int32), iv c7, iv c8, iv c9, rv b203, rv b209, rv b209, rv b228, .unset, .unset] [(.ref b228)]) := fun t k => pre t (by
        show SS p e below T229 (mkF m 153 #[iv x0, iv x1, iv x2, iv x3, iv x4, iv (1 : Int32), iv (1 : Int32), iv c7, iv c8, iv c9, rv b203, rv b209, rv b209, .unset, .unset, .unset] [(.ref b228)]) t
        refine XS.astore X229.here hx rfl (hb hby at_153) rfl rfl (l' := #[iv x0, iv x1, iv x2, iv x3, iv x4, iv (1 : Int32), iv (1 : Int32), iv c7, iv c8, iv c9, rv b203, rv b209, rv b209, rv b228, .unset, .unset]) rfl ?_
        show SS p e below T229 (mkF m 155 #[iv x0, iv x1, iv x2, iv x3, iv x4, iv (1 : Int32), iv (1 : Int32), iv c7, iv c8, iv c9, rv b203, rv b209, rv b209, rv b228, .unset, .unset] []) t
        refine XS.aload X229.here hx rfl (hb hby at_155) rfl rfl ?_
        show SS p e below T229 (mkF m 157 #[iv x0, iv x1, iv x2, iv x3, iv x4, iv (1 : Int32), iv (1 : Int32), iv c7, iv c8, iv c9, rv b203, rv b209, rv b209, rv b228, .unset, .unset] [(.ref b228)]) t
        exact k)
      obtain ⟨cq230, kq230, q230a, q230b, q230c⟩ := isOf hZ rfl A229
      obtain ⟨_, _, ⟨T230, L230, k230, n230⟩, -, X230, ⟨Lc230, hQ230, l230, y230, z230⟩, st230⟩ := X229.virtualBack hx (y := (⟨"com/example/sheaf/sheaf/cbor/TextStringItem", "isIndefinite", "()Z"⟩ : MethodName)) (z := (⟨"com/example/sheaf/sheaf/cbor/TextStringItem", "isIndefinite", "()Z"⟩ : MethodName)) hown (mvT hZ (own_t hw 115 rfl)) (mvT hZ (own_t hw 116 rfl)) (notFace_of_selects (args := #[]) (mvT hZ (own_t hw 118 rfl))) (mvT hZ (own_t hw 118 rfl)) (mvT hZ (own_t hw 117 rfl)) (by decide) (backOf (W := 0) (rm_ii1 l Z a0 hw [] b228 rr T229.heap n0 F229) hZ (own_t hw 119 rfl) (own_t hw 101 rfl) (by decide) (by decide)) q230a q230c (g := (mkF m 157 #[iv x0, iv x1, iv x2, iv x3, iv x4, iv (1 : Int32), iv (1 : Int32), iv c7, iv c8, iv c9, rv b203, rv b209, rv b209, rv b228, .unset, .unset] [(.ref b228)])) rfl (by rw [hml]; rfl) (Steps.refl _) (argsL := []) (rest := []) (lenOf pd___Z rfl) rfl (by show 2 * 0 + _ ≤ _; exact Nat.le_of_eq rfl) (hb hby at_157) (fun _ _ => ⟨rfl, rfl, (by decide : 10 + 0 ≤ _), (by decide : 33 + 0 ≤ _)⟩)
      dsimp only [Pt.U, Pt.locs, Pt.cells, Pt.slots] at X230 l230 y230 z230 st230 hQ230
      subst l230 y230 z230
      obtain ⟨rfl, N230q, e230⟩ := hQ230
      have N230 := Fr.app N229 N230q
      replace pre : Pth p e below S0 T230 (mkF m 160 #[iv x0, iv x1, iv x2, iv x3, iv x4, iv (1 : Int32), iv (1 : Int32), iv c7, iv c8, iv c9, rv b203, rv b209, rv b209, rv b228, .unset, .unset] [(.int (1 : Int32))]) := fun t k => pre t (st230.trans k)
      replace pre : Pth p e below S0 T230 (mkF m 164 #[iv x0, iv x1, iv x2, iv x3, iv x4, iv (1 : Int32), iv (1 : Int32), iv c7, iv c8, iv c9, rv b203, rv b209, rv b209, rv b228, iv (1 : Int32), .unset] [(.ref b228)]) := fun t k => pre t (by
        show SS p e below T230 (mkF m 160 #[iv x0, iv x1, iv x2, iv x3, iv x4, iv (1 : Int32), iv (1 : Int32), iv c7, iv c8, iv c9, rv b203, rv b209, rv b209, rv b228, .unset, .unset] [(.int (1 : Int32))]) t
        refine XS.istore X230.here hx rfl (hb hby at_160) rfl (l' := #[iv x0, iv x1, iv x2, iv x3, iv x4, iv (1 : Int32), iv (1 : Int32), iv c7, iv c8, iv c9, rv b203, rv b209, rv b209, rv b228, iv (1 : Int32), .unset]) rfl ?_
        show SS p e below T230 (mkF m 162 #[iv x0, iv x1, iv x2, iv x3, iv x4, iv (1 : Int32), iv (1 : Int32), iv c7, iv c8, iv c9, rv b203, rv b209, rv b209, rv b228, iv (1 : Int32), .unset] []) t
        refine XS.aload X230.here hx rfl (hb hby at_162) rfl rfl ?_
        show SS p e below T230 (mkF m 164 #[iv x0, iv x1, iv x2, iv x3, iv x4, iv (1 : Int32), iv (1 : Int32), iv c7, iv c8, iv c9, rv b203, rv b209, rv b209, rv b228, iv (1 : Int32), .unset] [(.ref b228)]) t
        exact k)
      obtain ⟨cq231, kq231, q231a, q231b, q231c⟩ := isOf hZ e230 A229
      obtain ⟨_, _, ⟨T231, L231, k231, n231⟩, -, X231, ⟨Lc231, hQ231, l231, y231, z231⟩, st231⟩ := X230.virtualBack hx (y := (⟨"com/example/sheaf/sheaf/cbor/TextStringItem", "chunks", "()Ljava/util/List;"⟩ : MethodName)) (z := (⟨"com/example/sheaf/sheaf/cbor/TextStringItem", "chunks", "()Ljava/util/List;"⟩ : MethodName)) hown (mvT hZ (own_t hw 120 rfl)) (mvT hZ (own_t hw 121 rfl)) (notFace_of_selects (args := #[]) (mvT hZ (own_t hw 123 rfl))) (mvT hZ (own_t hw 123 rfl)) (mvT hZ (own_t hw 122 rfl)) (by decide) (backOf (W := 0) (rm_ck1 l Z a0 hw [] b228 rr T229.heap n0 F229) hZ (own_t hw 124 rfl) (own_t hw 101 rfl) (by decide) (by decide)) q231a q231c (g := (mkF m 164 #[iv x0, iv x1, iv x2, iv x3, iv x4, iv (1 : Int32), iv (1 : Int32), iv c7, iv c8, iv c9, rv b203, rv b209, rv b209, rv b228, iv (1 : Int32), .unset] [(.ref b228)])) rfl (by rw [hml]; rfl) (Steps.refl _) (argsL := []) (rest := []) (lenOf pd___Ljava_util_List_ rfl) rfl (by show 2 * 0 + _ ≤ _; exact Nat.le_of_eq rfl) (hb hby at_164) (fun _ _ => ⟨rfl, e230, (by decide : 10 + 0 ≤ _), (by decide : 33 + 0 ≤ _)⟩)
      dsimp only [Pt.U, Pt.locs, Pt.cells, Pt.slots] at X231 l231 y231 z231 st231 hQ231
      subst l231 y231 z231
      obtain ⟨rfl, N231q, e231⟩ := hQ231
      have N231 := Fr.app N230 N231q
      replace pre : Pth p e below S0 T231 (mkF m 167 #[iv x0, iv x1, iv x2, iv x3, iv x4, iv (1 : Int32), iv (1 : Int32), iv c7, iv c8, iv c9, rv b203, rv b209, rv b209, rv b228, iv (1 : Int32), .unset] [(.ref rr)]) := fun t k => pre t (st231.trans k)
      obtain ⟨cq232, kq232, q232a, q232b, q232c⟩ := isOf hZ e231 O229.1
      obtain ⟨_, _, ⟨T232, L232, k232, n232⟩, -, X232, ⟨Lc232, hQ232, l232, y232, z232⟩, st232⟩ := X231.interfaceBack hx (xi := (⟨"java/util/List", "size", "()I"⟩ : MethodName)) (y := (⟨"java/util/ImmutableCollections$List12", "size", "()I"⟩ : MethodName)) hown (mvT hZ (own_t hw 131 rfl)) (mvT hZ (own_t hw 132 rfl)) (mvT hZ (own_t hw 133 rfl)) (mvT hZ (own_t hw 244 rfl)) (mvT hZ (own_t hw 245 rfl)) (mvT hZ (own_t hw 246 rfl)) (mvT hZ (own_t hw 247 rfl)) (mvT hZ (own_t hw 248 rfl)) (by decide) (backOf (W := 0) (rm_l2s1 l Z a0 hw [] rr em em T229.heap n0 O229.2 rfl (Sem.ext EX)) hZ (own_t hw 249 rfl) (own_t hw 229 rfl) (by decide) (by decide)) q232a q232b q232c (g := (mkF m 167 #[iv x0, iv x1, iv x2, iv x3, iv x4, iv (1 : Int32), iv (1 : Int32), iv c7, iv c8, iv c9, rv b203, rv b209, rv b209, rv b228, iv (1 : Int32), .unset] [(.ref rr)])) rfl (by rw [hml]; rfl) (Steps.refl _) (argsL := []) (rest := []) (lenOf pd___I rfl) rfl (by show 2 * 0 + _ ≤ _; exact Nat.le_of_eq rfl) (hb hby at_167) (fun _ _ => ⟨rfl, e231, (by decide : 10 + 0 ≤ _), (by decide : 33 + 0 ≤ _)⟩)
      dsimp only [Pt.U, Pt.locs, Pt.cells, Pt.slots] at X232 l232 y232 z232 st232 hQ232
      subst l232 y232 z232
      obtain ⟨rfl, N232q, e232⟩ := hQ232
      have N232 := Fr.app N231 N232q
      replace pre : Pth p e below S0 T232 (mkF m 172 #[iv x0, iv x1, iv x2, iv x3, iv x4, iv (1 : Int32), iv (1 : Int32), iv c7, iv c8, iv c9, rv b203, rv b209, rv b209, rv b228, iv (1 : Int32), .unset] [(.int (1 : Int32))]) := fun t k => pre t (st232.trans k)
      replace pre : Pth p e below S0 T232 (mkF m 202 #[iv x0, iv x1, iv x2, iv x3, iv x4, iv (1 : Int32), iv (1 : Int32), iv c7, iv c8, iv c9, rv b203, rv b209, rv b209, rv b228, iv (1 : Int32), iv (1 : Int32)] [(.int (1 : Int32))]) := fun t k => pre t (by
        show SS p e below T232 (mkF m 172 #[iv x0, iv x1, iv x2, iv x3, iv x4, iv (1 : Int32), iv (1 : Int32), iv c7, iv c8, iv c9, rv b203, rv b209, rv b209, rv b228, iv (1 : Int32), .unset] [(.int (1 : Int32))]) t
        refine XS.istore X232.here hx rfl (hb hby at_172) rfl (l' := #[iv x0, iv x1, iv x2, iv x3, iv x4, iv (1 : Int32), iv (1 : Int32), iv c7, iv c8, iv c9, rv b203, rv b209, rv b209, rv b228, iv (1 : Int32), iv (1 : Int32)]) rfl ?_
        show SS p e below T232 (mkF m 174 #[iv x0, iv x1, iv x2, iv x3, iv x4, iv (1 : Int32), iv (1 : Int32), iv c7, iv c8, iv c9, rv b203, rv b209, rv b209, rv b228, iv (1 : Int32), iv (1 : Int32)] []) t
        refine XS.iload X232.here hx rfl (hb hby at_174) rfl ?_
        show SS p e below T232 (mkF m 176 #[iv x0, iv x1, iv x2, iv x3, iv x4, iv (1 : Int32), iv (1 : Int32), iv c7, iv c8, iv c9, rv b203, rv b209, rv b209, rv b228, iv (1 : Int32), iv (1 : Int32)] [(.int (1 : Int32))]) t
        refine XS.iload X232.here hx rfl (hb hby at_176) rfl ?_
        show SS p e below T232 (mkF m 178 #[iv x0, iv x1, iv x2, iv x3, iv x4, iv (1 : Int32), iv (1 : Int32), iv c7, iv c8, iv c9, rv b203, rv b209, rv b209, rv b228, iv (1 : Int32), iv (1 : Int32)] [(.int (1 : Int32)), (.int (1 : Int32))]) t
        refine XS.icmpNo X232.here hx rfl (hb hby at_178) rfl (XT.ii_ne_f rfl) ?_
        show SS p e below T232 (mkF m 181 #[iv x0, iv x1, iv x2, iv x3, iv x4, iv (1 : Int32), iv (1 : Int32), iv c7, iv c8, iv c9, rv b203, rv b209, rv b209, rv b228, iv (1 : Int32), iv (1 : Int32)] []) t
        refine XS.iload X232.here hx rfl (hb hby at_181) rfl ?_
        show SS p e below T232 (mkF m 183 #[iv x0, iv x1, iv x2, iv x3, iv x4, iv (1 : Int32), iv (1 : Int32), iv c7, iv c8, iv c9, rv b203, rv b209, rv b209, rv b228, iv (1 : Int32), iv (1 : Int32)] [(.int (1 : Int32))]) t
        refine XS.iload X232.here hx rfl (hb hby at_183) rfl ?_
        show SS p e below T232 (mkF m 185 #[iv x0, iv x1, iv x2, iv x3, iv x4, iv (1 : Int32), iv (1 : Int32), iv c7, iv c8, iv c9, rv b203, rv b209, rv b209, rv b228, iv (1 : Int32), iv (1 : Int32)] [(.int (1 : Int32)), (.int (1 : Int32))]) t
        refine XS.ifNo X232.here hx rfl (hb hby at_185) rfl (XT.i0_eq_f (by decide)) ?_
        show SS p e below T232 (mkF m 188 #[iv x0, iv x1, iv x2, iv x3, iv x4, iv (1 : Int32), iv (1 : Int32), iv c7, iv c8, iv c9, rv b203, rv b209, rv b209, rv b228, iv (1 : Int32), iv (1 : Int32)] [(.int (1 : Int32))]) t
        refine XS.iload X232.here hx rfl (hb hby at_188) rfl ?_
        show SS p e below T232 (mkF m 190 #[iv x0, iv x1, iv x2, iv x3, iv x4, iv (1 : Int32), iv (1 : Int32), iv c7, iv c8, iv c9, rv b203, rv b209, rv b209, rv b228, iv (1 : Int32), iv (1 : Int32)] [(.int (1 : Int32)), (.int (1 : Int32))]) t
        refine XS.goto X232.here hx rfl (pc0 := 190) (pc' := 194) rfl (hb hby at_190) (by decide) (by decide) ?_
        show SS p e below T232 (mkF m 194 #[iv x0, iv x1, iv x2, iv x3, iv x4, iv (1 : Int32), iv (1 : Int32), iv c7, iv c8, iv c9, rv b203, rv b209, rv b209, rv b228, iv (1 : Int32), iv (1 : Int32)] [(.int (1 : Int32)), (.int (1 : Int32))]) t
        refine XS.icmpNo X232.here hx rfl (hb hby at_194) rfl (XT.ii_ne_f rfl) ?_
        show SS p e below T232 (mkF m 197 #[iv x0, iv x1, iv x2, iv x3, iv x4, iv (1 : Int32), iv (1 : Int32), iv c7, iv c8, iv c9, rv b203, rv b209, rv b209, rv b228, iv (1 : Int32), iv (1 : Int32)] []) t
        refine XS.iconst X232.here hx rfl (hb hby at_197) ?_
        show SS p e below T232 (mkF m 198 #[iv x0, iv x1, iv x2, iv x3, iv x4, iv (1 : Int32), iv (1 : Int32), iv c7, iv c8, iv c9, rv b203, rv b209, rv b209, rv b228, iv (1 : Int32), iv (1 : Int32)] [(.int (1 : Int32))]) t
        refine XS.goto X232.here hx rfl (pc0 := 198) (pc' := 202) rfl (hb hby at_198) (by decide) (by decide) ?_
        show SS p e below T232 (mkF m 202 #[iv x0, iv x1, iv x2, iv x3, iv x4, iv (1 : Int32), iv (1 : Int32), iv c7, iv c8, iv c9, rv b203, rv b209, rv b209, rv b228, iv (1 : Int32), iv (1 : Int32)] [(.int (1 : Int32))]) t
        exact k)
      obtain ⟨fs, hr, hrun, hended, hW, hsame⟩ := X232.leave (v := some (.int (1 : Int32))) (fun h => by rw [Bd.returns] at h; cases h)
      subst hS0
      refine ⟨_, _, pre _ ?_, hrun, hended, _, _, rfl, ?_, ⟨_, rfl⟩, hW, hsame.mono (by decide) (by decide)⟩
      · exact retN X232 hx (t := .boolean) Bd.returns (by simp) (hb hby at_202) hr
      · show Q_law Z x0 x1 x2 x3 x4 cz dc el eb em mr fd fe h0 n0 _ T232.heap _
        rw [e232]
        exact ⟨rfl, N232⟩
  · replace pre : Pth p e below S0 T210 (mkF m 81 #[iv x0, iv x1, iv x2, iv x3, iv x4, iv fl, iv (2 : Int32), iv c7, iv c8, iv c9, rv b203, rv b209, .unset, .unset, .unset, .unset] [(.int (2 : Int32))]) := pre
    replace pre : Pth p e below S0 T210 (mkF m 88 #[iv x0, iv x1, iv x2, iv x3, iv x4, iv fl, iv (2 : Int32), iv c7, iv c8, iv c9, rv b203, rv b209, .unset, .unset, .unset, .unset] [(.int c7), (.ref b209)]) := fun t k => pre t (by
      show SS p e below T210 (mkF m 81 #[iv x0, iv x1, iv x2, iv x3, iv x4, iv fl, iv (2 : Int32), iv c7, iv c8, iv c9, rv b203, rv b209, .unset, .unset, .unset, .unset] [(.int (2 : Int32))]) t
      refine XS.ifNo X210.here hx rfl (hb hby at_81) rfl (XT.i0_le_f (by decide)) ?_
      show SS p e below T210 (mkF m 84 #[iv x0, iv x1, iv x2, iv x3, iv x4, iv fl, iv (2 : Int32), iv c7, iv c8, iv c9, rv b203, rv b209, .unset, .unset, .unset, .unset] []) t
      refine XS.aload X210.here hx rfl (hb hby at_84) rfl rfl ?_
      show SS p e below T210 (mkF m 86 #[iv x0, iv x1, iv x2, iv x3, iv x4, iv fl, iv (2 : Int32), iv c7, iv c8, iv c9, rv b203, rv b209, .unset, .unset, .unset, .unset] [(.ref b209)]) t
      refine XS.iload X210.here hx rfl (hb hby at_86) rfl ?_
      show SS p e below T210 (mkF m 88 #[iv x0, iv x1, iv x2, iv x3, iv x4, iv fl, iv (2 : Int32), iv c7, iv c8, iv c9, rv b203, rv b209, .unset, .unset, .unset, .unset] [(.int c7), (.ref b209)]) t
      exact k)
    obtain ⟨_, _, ⟨T233, L233, k233, n233⟩, -, X233, ⟨Lc233, hQ233, l233, y233, z233⟩, st233⟩ := Jvm.LawKit.callS X210 hx (y := (⟨"java/lang/String", "valueOf", "(C)Ljava/lang/String;"⟩ : MethodName)) hown (mvT hZ (own_t hw 54 rfl)) (mvT hZ (own_t hw 55 rfl)) (mvT hZ (own_t hw 2 rfl)) (mvT hZ (own_t hw 56 rfl)) (by decide) (backOf (W := 1) (rm_vof l Z a0 hw [] c7 cz T210.heap n0 (Nat.le_trans Z0 EX.1) k7a (Scs.ext EX) hcz) hZ (own_t hw 56 rfl) (own_t hw 2 rfl) (by decide) (by decide)) (g := (mkF m 88 #[iv x0, iv x1, iv x2, iv x3, iv x4, iv fl, iv (2 : Int32), iv c7, iv c8, iv c9, rv b203, rv b209, .unset, .unset, .unset, .unset] [(.int c7), (.ref b209)])) rfl (by rw [hml]; rfl) (argsL := [(.int c7)]) (rest := [(.ref b209)]) (lenOf pd__C_Ljava_lang_String_ rfl) rfl (by show 2 * 0 + _ ≤ _; exact Nat.le_of_eq rfl) (hb hby at_88) (fun _ _ => ⟨rfl, rfl, (by decide : 4 + 2 ≤ _), (by decide : 13 + 5 ≤ _)⟩)
    dsimp only [Pt.U, Pt.locs, Pt.cells, Pt.slots] at X233 l233 y233 z233 st233 hQ233
    subst l233 y233 z233
    obtain ⟨s1, rfl, N233q, E233, G1⟩ := hQ233
    have N233 := Fr.app N210 N233q
    replace pre : Pth p e below S0 T233 (mkF m 91 #[iv x0, iv x1, iv x2, iv x3, iv x4, iv fl, iv (2 : Int32), iv c7, iv c8, iv c9, rv b203, rv b209, .unset, .unset, .unset, .unset] [(.ref s1), (.ref b209)]) := fun t k => pre t (st233 _ k)
    replace EX := own_ext_trans EX E233
    replace hA := hA.ext E233
    have J := Ins.of_exa G1 (own_t hw 98 rfl)
    obtain ⟨cq234, kq234, q234a, q234b, q234c⟩ := isOf hZ rfl hA.1
    obtain ⟨_, _, ⟨T234, L234, k234, n234⟩, -, X234, ⟨Lc234, hQ234, l234, y234, z234⟩, st234⟩ := X233.virtualBack hx (y := (⟨"java/util/ArrayList", "add", "(Ljava/lang/Object;)Z"⟩ : MethodName)) (z := (⟨"java/util/ArrayList", "add", "(Ljava/lang/Object;)Z"⟩ : MethodName)) hown (mvT hZ (own_t hw 68 rfl)) (mvT hZ (own_t hw 69 rfl)) (notFace_of_selects (args := #[]) (mvT hZ (own_t hw 71 rfl))) (mvT hZ (own_t hw 71 rfl)) (mvT hZ (own_t hw 70 rfl)) (by decide) (backOf (W := 0) (rm_add0 l Z a0 hw [] b209 s1 dc (0 : Int32) fd T233.heap n0 (Nat.le_trans Z0 EX.1) gL hA (Fd.ext EX) (Sd.ext EX) J) hZ (own_t hw 72 rfl) (own_t hw 32 rfl) (by decide) (by decide)) q234a q234c (g := (mkF m 91 #[iv x0, iv x1, iv x2, iv x3, iv x4, iv fl, iv (2 : Int32), iv c7, iv c8, iv c9, rv b203, rv b209, .unset, .unset, .unset, .unset] [(.ref s1), (.ref b209)])) rfl (by rw [hml]; rfl) (Steps.refl _) (argsL := [(.ref s1)]) (rest := []) (lenOf pd__Ljava_lang_Object__Z rfl) rfl (by show 2 * 0 + _ ≤ _; exact Nat.le_of_eq rfl) (hb hby at_91) (fun _ _ => ⟨rfl, rfl, (by decide : 6 + 1 ≤ _), (by decide : 18 + 10 ≤ _)⟩)
    dsimp only [Pt.U, Pt.locs, Pt.cells, Pt.slots] at X234 l234 y234 z234 st234 hQ234
    subst l234 y234 z234
    obtain ⟨rfl, N234q, ba, gB, K234, hA1, hO⟩ := hQ234
    have N234 := Fr.app N233 N234q
    replace pre : Pth p e below S0 T234 (mkF m 94 #[iv x0, iv x1, iv x2, iv x3, iv x4, iv fl, iv (2 : Int32), iv c7, iv c8, iv c9, rv b203, rv b209, .unset, .unset, .unset, .unset] [(.int (1 : Int32))]) := fun t k => pre t (st234.trans k)
    have sB := Nat.le_trans EX.1 gB
    have neB : b209 ≠ ba := Nat.ne_of_lt (Nat.lt_of_lt_of_le hA.1.lt gB)
    replace EX := own_ext_keep EX K234 (fun z hz => by rw [List.mem_singleton.mp hz]; exact sL)
    replace hA := hA1
    replace G1 := G1.keep K234
    replace pre : Pth p e below S0 T234 (mkF m 105 #[iv x0, iv x1, iv x2, iv x3, iv x4, iv fl, iv (2 : Int32), iv c7, iv c8, iv c9, rv b203, rv b209, .unset, .unset, .unset, .unset] [(.int c8), (.ref b209)]) := fun t k => pre t (by
      show SS p e below T234 (mkF m 94 #[iv x0, iv x1, iv x2, iv x3, iv x4, iv fl, iv (2 : Int32), iv c7, iv c8, iv c9, rv b203, rv b209, .unset, .unset, .unset, .unset] [(.int (1 : Int32))]) t
      refine XS.pop X234.here hx rfl (hb hby at_94) rfl rfl ?_
      show SS p e below T234 (mkF m 95 #[iv x0, iv x1, iv x2, iv x3, iv x4, iv fl, iv (2 : Int32), iv c7, iv c8, iv c9, rv b203, rv b209, .unset, .unset, .unset, .unset] []) t
      refine XS.iload X234.here hx rfl (hb hby at_95) rfl ?_
      show SS p e below T234 (mkF m 97 #[iv x0, iv x1, iv x2, iv x3, iv x4, iv fl, iv (2 : Int32), iv c7, iv c8, iv c9, rv b203, rv b209, .unset, .unset, .unset, .unset] [(.int (2 : Int32))]) t
      refine XS.iconst X234.here hx rfl (hb hby at_97) ?_
      show SS p e below T234 (mkF m 98 #[iv x0, iv x1, iv x2, iv x3, iv x4, iv fl, iv (2 : Int32), iv c7, iv c8, iv c9, rv b203, rv b209, .unset, .unset, .unset, .unset] [(.int (1 : Int32)), (.int (2 : Int32))]) t
      refine XS.icmpNo X234.here hx rfl (hb hby at_98) rfl (XT.ii_le_f (by decide)) ?_
      show SS p e below T234 (mkF m 101 #[iv x0, iv x1, iv x2, iv x3, iv x4, iv fl, iv (2 : Int32), iv c7, iv c8, iv c9, rv b203, rv b209, .unset, .unset, .unset, .unset] []) t
      refine XS.aload X234.here hx rfl (hb hby at_101) rfl rfl ?_
      show SS p e below T234 (mkF m 103 #[iv x0, iv x1, iv x2, iv x3, iv x4, iv fl, iv (2 : Int32), iv c7, iv c8, iv c9, rv b203, rv b209, .unset, .unset, .unset, .unset] [(.ref b209)]) t
      refine XS.iload X234.here hx rfl (hb hby at_103) rfl ?_
      show SS p e below T234 (mkF m 105 #[iv x0, iv x1, iv x2, iv x3, iv x4, iv fl, iv (2 : Int32), iv c7, iv c8, iv c9, rv b203, rv b209, .unset, .unset, .unset, .unset] [(.int c8), (.ref b209)]) t
      exact k)
    obtain ⟨_, _, ⟨T235, L235, k235, n235⟩, -, X235, ⟨Lc235, hQ235, l235, y235, z235⟩, st235⟩ := Jvm.LawKit.callS X234 hx (y := (⟨"java/lang/String", "valueOf", "(C)Ljava/lang/String;"⟩ : MethodName)) hown (mvT hZ (own_t hw 54 rfl)) (mvT hZ (own_t hw 55 rfl)) (mvT hZ (own_t hw 2 rfl)) (mvT hZ (own_t hw 56 rfl)) (by decide) (backOf (W := 1) (rm_vof l Z a0 hw [] c8 cz T234.heap n0 (Nat.le_trans Z0 EX.1) k8a (Scs.ext EX) hcz) hZ (own_t hw 56 rfl) (own_t hw 2 rfl) (by decide) (by decide)) (g := (mkF m 105 #[iv x0, iv x1, iv x2, iv x3, iv x4, iv fl, iv (2 : Int32), iv c7, iv c8, iv c9, rv b203, rv b209, .unset, .unset, .unset, .unset] [(.int c8), (.ref b209)])) rfl (by rw [hml]; rfl) (argsL := [(.int c8)]) (rest := [(.ref b209)]) (lenOf pd__C_Ljava_lang_String_ rfl) rfl (by show 2 * 0 + _ ≤ _; exact Nat.le_of_eq rfl) (hb hby at_105) (fun _ _ => ⟨rfl, rfl, (by decide : 7 + 2 ≤ _), (by decide : 28 + 5 ≤ _)⟩)
    dsimp only [Pt.U, Pt.locs, Pt.cells, Pt.slots] at X235 l235 y235 z235 st235 hQ235
    subst l235 y235 z235
    obtain ⟨s2, rfl, N235q, E235, G2⟩ := hQ235
    have N235 := Fr.app N234 N235q
    replace pre : Pth p e below S0 T235 (mkF m 108 #[iv x0, iv x1, iv x2, iv x3, iv x4, iv fl, iv (2 : Int32), iv c7, iv c8, iv c9, rv b203, rv b209, .unset, .unset, .unset, .unset] [(.ref s2), (.ref b209)]) := fun t k => pre t (st235 _ k)
    replace EX := own_ext_trans EX E235
    replace hA := hA.ext E235
    replace G1 := G1.ext E235
    have J := Ins.of_exa G2 (own_t hw 98 rfl)
    replace hO := hO.ext E235
    obtain ⟨cq236, kq236, q236a, q236b, q236c⟩ := isOf hZ rfl hA.1
    obtain ⟨_, _, ⟨T236, L236, k236, n236⟩, -, X236, ⟨Lc236, hQ236, l236, y236, z236⟩, st236⟩ := X235.virtualBack hx (y := (⟨"java/util/ArrayList", "add", "(Ljava/lang/Object;)Z"⟩ : MethodName)) (z := (⟨"java/util/ArrayList", "add", "(Ljava/lang/Object;)Z"⟩ : MethodName)) hown (mvT hZ (own_t hw 68 rfl)) (mvT hZ (own_t hw 69 rfl)) (notFace_of_selects (args := #[]) (mvT hZ (own_t hw 71 rfl))) (mvT hZ (own_t hw 71 rfl)) (mvT hZ (own_t hw 70 rfl)) (by decide) (backOf (W := 0) (rm_add1 l Z a0 hw [] b209 s2 ba _ _ T235.heap n0 (Nat.le_trans Z0 EX.1) gL (Nat.le_trans Z0 sB) neB hA hO J) hZ (own_t hw 72 rfl) (own_t hw 32 rfl) (by decide) (by decide)) q236a q236c (g := (mkF m 108 #[iv x0, iv x1, iv x2, iv x3, iv x4, iv fl, iv (2 : Int32), iv c7, iv c8, iv c9, rv b203, rv b209, .unset, .unset, .unset, .unset] [(.ref s2), (.ref b209)])) rfl (by rw [hml]; rfl) (Steps.refl _) (argsL := [(.ref s2)]) (rest := []) (lenOf pd__Ljava_lang_Object__Z rfl) rfl (by show 2 * 0 + _ ≤ _; exact Nat.le_of_eq rfl) (hb hby at_108) (fun _ _ => ⟨rfl, rfl, (by decide : 9 + 0 ≤ _), (by decide : 33 + 0 ≤ _)⟩)
    dsimp only [Pt.U, Pt.locs, Pt.cells, Pt.slots] at X236 l236 y236 z236 st236 hQ236
    subst l236 y236 z236
    obtain ⟨rfl, N236q, K236, hA1, hO1⟩ := hQ236
    have N236 := Fr.app N235 N236q
    replace pre : Pth p e below S0 T236 (mkF m 111 #[iv x0, iv x1, iv x2, iv x3, iv x4, iv fl, iv (2 : Int32), iv c7, iv c8, iv c9, rv b203, rv b209, .unset, .unset, .unset, .unset] [(.int (1 : Int32))]) := fun t k => pre t (st236.trans k)
    replace EX := own_ext_keep EX K236 (fun z hz => by
      rcases List.mem_cons.mp hz with hz | hz
      · rw [hz]; exact sB
      · rw [List.mem_singleton.mp hz]; exact sL)
    replace hA := hA1
    replace hO := hO1
    replace G1 := G1.keep K236
    replace G2 := G2.keep K236
    replace pre : Pth p e below S0 T236 (mkF m 131 #[iv x0, iv x1, iv x2, iv x3, iv x4, iv fl, iv (2 : Int32), iv c7, iv c8, iv c9, rv b203, rv b209, .unset, .unset, .unset, .unset] [(.int fl)]) := fun t k => pre t (by
      show SS p e below T236 (mkF m 111 #[iv x0, iv x1, iv x2, iv x3, iv x4, iv fl, iv (2 : Int32), iv c7, iv c8, iv c9, rv b203, rv b209, .unset, .unset, .unset, .unset] [(.int (1 : Int32))]) t
      refine XS.pop X236.here hx rfl (hb hby at_111) rfl rfl ?_
      show SS p e below T236 (mkF m 112 #[iv x0, iv x1, iv x2, iv x3, iv x4, iv fl, iv (2 : Int32), iv c7, iv c8, iv c9, rv b203, rv b209, .unset, .unset, .unset, .unset] []) t
      refine XS.iload X236.here hx rfl (hb hby at_112) rfl ?_
      show SS p e below T236 (mkF m 114 #[iv x0, iv x1, iv x2, iv x3, iv x4, iv fl, iv (2 : Int32), iv c7, iv c8, iv c9, rv b203, rv b209, .unset, .unset, .unset, .unset] [(.int (2 : Int32))]) t
      refine XS.iconst X236.here hx rfl (hb hby at_114) ?_
      show SS p e below T236 (mkF m 115 #[iv x0, iv x1, iv x2, iv x3, iv x4, iv fl, iv (2 : Int32), iv c7, iv c8, iv c9, rv b203, rv b209, .unset, .unset, .unset, .unset] [(.int (2 : Int32)), (.int (2 : Int32))]) t
      refine XS.icmpYes X236.here hx rfl (pc0 := 115) (pc' := 129) rfl (hb hby at_115) rfl (XT.ii_le_t (by decide)) (by decide) (by decide) ?_
      show SS p e below T236 (mkF m 129 #[iv x0, iv x1, iv x2, iv x3, iv x4, iv fl, iv (2 : Int32), iv c7, iv c8, iv c9, rv b203, rv b209, .unset, .unset, .unset, .unset] []) t
      refine XS.iload X236.here hx rfl (hb hby at_129) rfl ?_
      show SS p e below T236 (mkF m 131 #[iv x0, iv x1, iv x2, iv x3, iv x4, iv fl, iv (2 : Int32), iv c7, iv c8, iv c9, rv b203, rv b209, .unset, .unset, .unset, .unset] [(.int fl)]) t
      exact k)
    rcases hfl with rfl | rfl
    · replace pre : Pth p e below S0 T236 (mkF m 131 #[iv x0, iv x1, iv x2, iv x3, iv x4, iv (0 : Int32), iv (2 : Int32), iv c7, iv c8, iv c9, rv b203, rv b209, .unset, .unset, .unset, .unset] [(.int (0 : Int32))]) := pre
      replace pre : Pth p e below S0 T236 (mkF m 142 #[iv x0, iv x1, iv x2, iv x3, iv x4, iv (0 : Int32), iv (2 : Int32), iv c7, iv c8, iv c9, rv b203, rv b209, .val .null, .unset, .unset, .unset] []) := fun t k => pre t (by
        show SS p e below T236 (mkF m 131 #[iv x0, iv x1, iv x2, iv x3, iv x4, iv (0 : Int32), iv (2 : Int32), iv c7, iv c8, iv c9, rv b203, rv b209, .unset, .unset, .unset, .unset] [(.int (0 : Int32))]) t
        refine XS.ifYes X236.here hx rfl (pc0 := 131) (pc' := 139) rfl (hb hby at_131) rfl (XT.i0_eq_t rfl) (by decide) (by decide) ?_
        show SS p e below T236 (mkF m 139 #[iv x0, iv x1, iv x2, iv x3, iv x4, iv (0 : Int32), iv (2 : Int32), iv c7, iv c8, iv c9, rv b203, rv b209, .unset, .unset, .unset, .unset] []) t
        refine XS.aconstNull X236.here hx rfl (hb hby at_139) ?_
        show SS p e below T236 (mkF m 140 #[iv x0, iv x1, iv x2, iv x3, iv x4, iv (0 : Int32), iv (2 : Int32), iv c7, iv c8, iv c9, rv b203, rv b209, .unset, .unset, .unset, .unset] [.null]) t
        refine XS.astore X236.here hx rfl (hb hby at_140) rfl rfl (l' := #[iv x0, iv x1, iv x2, iv x3, iv x4, iv (0 : Int32), iv (2 : Int32), iv c7, iv c8, iv c9, rv b203, rv b209, .val .null, .unset, .unset, .unset]) rfl ?_
        show SS p e below T236 (mkF m 142 #[iv x0, iv x1, iv x2, iv x3, iv x4, iv (0 : Int32), iv (2 : Int32), iv c7, iv c8, iv c9, rv b203, rv b209, .val .null, .unset, .unset, .unset] []) t
        exact k)
      obtain ⟨T237, h237, X237, e237, E237, A237, D237, -, st237⟩ := newO X236 hx hZ hown (own_t hw 99 rfl) (own_t hw 100 rfl) (own_t hw 101 rfl) rfl (g := (mkF m 142 #[iv x0, iv x1, iv x2, iv x3, iv x4, iv (0 : Int32), iv (2 : Int32), iv c7, iv c8, iv c9, rv b203, rv b209, .val .null, .unset, .unset, .unset] [])) rfl (hb hby at_142) (by decide) (by decide)
      obtain ⟨b237, g237⟩ : ∃ z, z = T236.heap.size := ⟨_, rfl⟩
      rw [← g237] at A237 D237 st237
      replace pre : Pth p e below S0 T237 (mkF m 145 #[iv x0, iv x1, iv x2, iv x3, iv x4, iv (0 : Int32), iv (2 : Int32), iv c7, iv c8, iv c9, rv b203, rv b209, .val .null, .unset, .unset, .unset] [(.ref b237)]) := fun t k => pre t (st237 _ k)
      have Wa : Fld Z h237 b237 "com/example/sheaf/sheaf/cbor/TextStringItem" "value" "Ljava/lang/String;" .null := D237 (Or.inr (own_t hw 112 rfl)) (ty := (.object "java/lang/String")) (by decide)
      have Wb : Fld Z h237 b237 "com/example/sheaf/sheaf/cbor/TextStringItem" "chunks" "Ljava/util/List;" .null := D237 (Or.inr (own_t hw 114 rfl)) (ty := (.object "java/util/List")) (by decide)
      have sT : h0.size ≤ b237 := by rw [g237]; exact EX.1
      replace EX := own_ext_trans EX E237
      replace pre : Pth p e below S0 T237 (mkF m 150 #[iv x0, iv x1, iv x2, iv x3, iv x4, iv (0 : Int32), iv (2 : Int32), iv c7, iv c8, iv c9, rv b203, rv b209, .val .null, .unset, .unset, .unset] [.null, (.ref b203), (.ref b237), (.ref b237)]) := fun t k => pre t (by
        show SS p e below T237 (mkF m 145 #[iv x0, iv x1, iv x2, iv x3, iv x4, iv (0 : Int32), iv (2 : Int32), iv c7, iv c8, iv c9, rv b203, rv b209, .val .null, .unset, .unset, .unset] [(.ref b237)]) t
        refine XS.dup X237.here hx rfl (hb hby at_145) rfl rfl ?_
        show SS p e below T237 (mkF m 146 #[iv x0, iv x1, iv x2, iv x3, iv x4, iv (0 : Int32), iv (2 : Int32), iv c7, iv c8, iv c9, rv b203, rv b209, .val .null, .unset, .unset, .unset] [(.ref b237), (.ref b237)]) t
        refine XS.aload X237.here hx rfl (hb hby at_146) rfl rfl ?_
        show SS p e below T237 (mkF m 148 #[iv x0, iv x1, iv x2, iv x3, iv x4, iv (0 : Int32), iv (2 : Int32), iv c7, iv c8, iv c9, rv b203, rv b209, .val .null, .unset, .unset, .unset] [(.ref b203), (.ref b237), (.ref b237)]) t
        refine XS.aload X237.here hx rfl (hb hby at_148) rfl rfl ?_
        show SS p e below T237 (mkF m 150 #[iv x0, iv x1, iv x2, iv x3, iv x4, iv (0 : Int32), iv (2 : Int32), iv c7, iv c8, iv c9, rv b203, rv b209, .val .null, .unset, .unset, .unset] [.null, (.ref b203), (.ref b237), (.ref b237)]) t
        exact k)
      obtain ⟨_, _, ⟨T238, L238, k238, n238⟩, -, X238, ⟨Lc238, hQ238, l238, y238, z238⟩, st238⟩ := X237.specialBack hx (y := (⟨"com/example/sheaf/sheaf/cbor/TextStringItem", "<init>", "(Ljava/lang/String;Ljava/util/List;)V"⟩ : MethodName)) rfl hown (mvT hZ (own_t hw 102 rfl)) (mvT hZ (own_t hw 103 rfl)) (mvT hZ (own_t hw 104 rfl)) (by decide) (backOf (W := 1) (rm_tin l Z a0 hw [] b237 b203 h237 n0 (Nat.le_trans Z0 sT) A237 Wa Wb) hZ (own_t hw 104 rfl) (own_t hw 101 rfl) (by decide) (by decide)) (g := (mkF m 150 #[iv x0, iv x1, iv x2, iv x3, iv x4, iv (0 : Int32), iv (2 : Int32), iv c7, iv c8, iv c9, rv b203, rv b209, .val .null, .unset, .unset, .unset] [.null, (.ref b203), (.ref b237), (.ref b237)])) rfl (by rw [hml]; rfl) (Steps.refl _) (a := b237) (argsL := [(.ref b203), .null]) (rest := [(.ref b237)]) (lenOf pd__Ljava_lang_String_Ljava_util_List__V rfl) rfl (by show 2 * 0 + _ ≤ _; exact Nat.le_of_eq rfl) (hb hby at_150) (fun _ _ => ⟨rfl, e237, (by decide : 10 + 0 ≤ _), (by decide : 35 + 0 ≤ _)⟩)
      dsimp only [Pt.U, Pt.locs, Pt.cells, Pt.slots] at X238 l238 y238 z238 st238 hQ238
      subst l238 y238 z238
      obtain ⟨rfl, N238q, K238, A238, F238⟩ := hQ238
      have N238 := Fr.app N236 N238q
      replace pre : Pth p e below S0 T238 (mkF m 153 #[iv x0, iv x1, iv x2, iv x3, iv x4, iv (0 : Int32), iv (2 : Int32), iv c7, iv c8, iv c9, rv b203, rv b209, .val .null, .unset, .unset, .unset] [(.ref b237)]) := fun t k => pre t (st238.trans k)
      replace EX := own_ext_keep EX K238 (fun z hz => by rw [List.mem_singleton.mp hz]; exact sT)
      replace pre : Pth p e below S0 T238 (mkF m 157 #[iv x0, iv x1, iv x2, iv x3, iv x4, iv (0 : Int32), iv (2 : Int32), iv c7, iv c8, iv c9, rv b203, rv b209, .val .null, rv b237, .unset, .unset] [(.ref b237)]) := fun t k => pre t (by
        show SS p e below T238 (mkF m 153 #[iv x0, iv x1, iv x2, iv x3, iv x4, iv (0 : Int32), iv (2 : Int32), iv c7, iv c8, iv c9, rv b203, rv b209, .val .null, .unset, .unset, .unset] [(.ref b237)]) t
        refine XS.astore X238.here hx rfl (hb hby at_153) rfl rfl (l' := #[iv x0, iv x1, iv x2, iv x3, iv x4, iv (0 : Int32), iv (2 : Int32), iv c7, iv c8, iv c9, rv b203, rv b209, .val .null, rv b237, .unset, .unset]) rfl ?_
        show SS p e below T238 (mkF m 155 #[iv x0, iv x1, iv x2, iv x3, iv x4, iv (0 : Int32), iv (2 : Int32), iv c7, iv c8, iv c9, rv b203, rv b209, .val .null, rv b237, .unset, .unset] []) t
        refine XS.aload X238.here hx rfl (hb hby at_155) rfl rfl ?_
        show SS p e below T238 (mkF m 157 #[iv x0, iv x1, iv x2, iv x3, iv x4, iv (0 : Int32), iv (2 : Int32), iv c7, iv c8, iv c9, rv b203, rv b209, .val .null, rv b237, .unset, .unset] [(.ref b237)]) t
        exact k)
      obtain ⟨cq239, kq239, q239a, q239b, q239c⟩ := isOf hZ rfl A238
      obtain ⟨_, _, ⟨T239, L239, k239, n239⟩, -, X239, ⟨Lc239, hQ239, l239, y239, z239⟩, st239⟩ := X238.virtualBack hx (y := (⟨"com/example/sheaf/sheaf/cbor/TextStringItem", "isIndefinite", "()Z"⟩ : MethodName)) (z := (⟨"com/example/sheaf/sheaf/cbor/TextStringItem", "isIndefinite", "()Z"⟩ : MethodName)) hown (mvT hZ (own_t hw 115 rfl)) (mvT hZ (own_t hw 116 rfl)) (notFace_of_selects (args := #[]) (mvT hZ (own_t hw 118 rfl))) (mvT hZ (own_t hw 118 rfl)) (mvT hZ (own_t hw 117 rfl)) (by decide) (backOf (W := 0) (rm_ii0 l Z a0 hw [] b237 el T238.heap n0 F238) hZ (own_t hw 119 rfl) (own_t hw 101 rfl) (by decide) (by decide)) q239a q239c (g := (mkF m 157 #[iv x0, iv x1, iv x2, iv x3, iv x4, iv (0 : Int32), iv (2 : Int32), iv c7, iv c8, iv c9, rv b203, rv b209, .val .null, rv b237, .unset, .unset] [(.ref b237)])) rfl (by rw [hml]; rfl) (Steps.refl _) (argsL := []) (rest := []) (lenOf pd___Z rfl) rfl (by show 2 * 0 + _ ≤ _; exact Nat.le_of_eq rfl) (hb hby at_157) (fun _ _ => ⟨rfl, rfl, (by decide : 10 + 0 ≤ _), (by decide : 35 + 0 ≤ _)⟩)
      dsimp only [Pt.U, Pt.locs, Pt.cells, Pt.slots] at X239 l239 y239 z239 st239 hQ239
      subst l239 y239 z239
      obtain ⟨rfl, N239q, e239⟩ := hQ239
      have N239 := Fr.app N238 N239q
      replace pre : Pth p e below S0 T239 (mkF m 160 #[iv x0, iv x1, iv x2, iv x3, iv x4, iv (0 : Int32), iv (2 : Int32), iv c7, iv c8, iv c9, rv b203, rv b209, .val .null, rv b237, .unset, .unset] [(.int (0 : Int32))]) := fun t k => pre t (st239.trans k)
      replace pre : Pth p e below S0 T239 (mkF m 164 #[iv x0, iv x1, iv x2, iv x3, iv x4, iv (0 : Int32), iv (2 : Int32), iv c7, iv c8, iv c9, rv b203, rv b209, .val .null, rv b237, iv (0 : Int32), .unset] [(.ref b237)]) := fun t k => pre t (by
        show SS p e below T239 (mkF m 160 #[iv x0, iv x1, iv x2, iv x3, iv x4, iv (0 : Int32), iv (2 : Int32), iv c7, iv c8, iv c9, rv b203, rv b209, .val .null, rv b237, .unset, .unset] [(.int (0 : Int32))]) t
        refine XS.istore X239.here hx rfl (hb hby at_160) rfl (l' := #[iv x0, iv x1, iv x2, iv x3, iv x4, iv (0 : Int32), iv (2 : Int32), iv c7, iv c8, iv c9, rv b203, rv b209, .val .null, rv b237, iv (0 : Int32), .unset]) rfl ?_
        show SS p e below T239 (mkF m 162 #[iv x0, iv x1, iv x2, iv x3, iv x4, iv (0 : Int32), iv (2 : Int32), iv c7, iv c8, iv c9, rv b203, rv b209, .val .null, rv b237, iv (0 : Int32), .unset] []) t
        refine XS.aload X239.here hx rfl (hb hby at_162) rfl rfl ?_
        show SS p e below T239 (mkF m 164 #[iv x0, iv x1, iv x2, iv x3, iv x4, iv (0 : Int32), iv (2 : Int32), iv c7, iv c8, iv c9, rv b203, rv b209, .val .null, rv b237, iv (0 : Int32), .unset] [(.ref b237)]) t
        exact k)
      obtain ⟨cq240, kq240, q240a, q240b, q240c⟩ := isOf hZ e239 A238
      obtain ⟨_, _, ⟨T240, L240, k240, n240⟩, -, X240, ⟨Lc240, hQ240, l240, y240, z240⟩, st240⟩ := X239.virtualBack hx (y := (⟨"com/example/sheaf/sheaf/cbor/TextStringItem", "chunks", "()Ljava/util/List;"⟩ : MethodName)) (z := (⟨"com/example/sheaf/sheaf/cbor/TextStringItem", "chunks", "()Ljava/util/List;"⟩ : MethodName)) hown (mvT hZ (own_t hw 120 rfl)) (mvT hZ (own_t hw 121 rfl)) (notFace_of_selects (args := #[]) (mvT hZ (own_t hw 123 rfl))) (mvT hZ (own_t hw 123 rfl)) (mvT hZ (own_t hw 122 rfl)) (by decide) (backOf (W := 0) (rm_ck0 l Z a0 hw [] b237 el T238.heap n0 F238 (Sel.ext EX)) hZ (own_t hw 124 rfl) (own_t hw 101 rfl) (by decide) (by decide)) q240a q240c (g := (mkF m 164 #[iv x0, iv x1, iv x2, iv x3, iv x4, iv (0 : Int32), iv (2 : Int32), iv c7, iv c8, iv c9, rv b203, rv b209, .val .null, rv b237, iv (0 : Int32), .unset] [(.ref b237)])) rfl (by rw [hml]; rfl) (Steps.refl _) (argsL := []) (rest := []) (lenOf pd___Ljava_util_List_ rfl) rfl (by show 2 * 0 + _ ≤ _; exact Nat.le_of_eq rfl) (hb hby at_164) (fun _ _ => ⟨rfl, e239, (by decide : 10 + 0 ≤ _), (by decide : 35 + 0 ≤ _)⟩)
      dsimp only [Pt.U, Pt.locs, Pt.cells, Pt.slots] at X240 l240 y240 z240 st240 hQ240
      subst l240 y240 z240
      obtain ⟨rfl, N240q, e240⟩ := hQ240
      have N240 := Fr.app N239 N240q
      replace pre : Pth p e below S0 T240 (mkF m 167 #[iv x0, iv x1, iv x2, iv x3, iv x4, iv (0 : Int32), iv (2 : Int32), iv c7, iv c8, iv c9, rv b203, rv b209, .val .null, rv b237, iv (0 : Int32), .unset] [(.ref el)]) := fun t k => pre t (st240.trans k)
      obtain ⟨cq241, kq241, q241a, q241b, q241c⟩ := isOf hZ e240 (Eel.ext EX)
      obtain ⟨_, _, ⟨T241, L241, k241, n241⟩, -, X241, ⟨Lc241, hQ241, l241, y241, z241⟩, st241⟩ := X240.interfaceBack hx (xi := (⟨"java/util/List", "size", "()I"⟩ : MethodName)) (y := (⟨"java/util/ImmutableCollections$ListN", "size", "()I"⟩ : MethodName)) hown (mvT hZ (own_t hw 131 rfl)) (mvT hZ (own_t hw 132 rfl)) (mvT hZ (own_t hw 133 rfl)) (mvT hZ (own_t hw 134 rfl)) (mvT hZ (own_t hw 135 rfl)) (mvT hZ (own_t hw 136 rfl)) (mvT hZ (own_t hw 137 rfl)) (mvT hZ (own_t hw 138 rfl)) (by decide) (backOf (W := 0) (rm_lns0 l Z a0 hw [] el eb fe T238.heap n0 (Fel.ext EX) (Fe0.ext EX)) hZ (own_t hw 140 rfl) (own_t hw 139 rfl) (by decide) (by decide)) q241a q241b q241c (g := (mkF m 167 #[iv x0, iv x1, iv x2, iv x3, iv x4, iv (0 : Int32), iv (2 : Int32), iv c7, iv c8, iv c9, rv b203, rv b209, .val .null, rv b237, iv (0 : Int32), .unset] [(.ref el)])) rfl (by rw [hml]; rfl) (Steps.refl _) (argsL := []) (rest := []) (lenOf pd___I rfl) rfl (by show 2 * 0 + _ ≤ _; exact Nat.le_of_eq rfl) (hb hby at_167) (fun _ _ => ⟨rfl, e240, (by decide : 10 + 0 ≤ _), (by decide : 35 + 0 ≤ _)⟩)
      dsimp only [Pt.U, Pt.locs, Pt.cells, Pt.slots] at X241 l241 y241 z241 st241 hQ241
      subst l241 y241 z241
      obtain ⟨rfl, N241q, e241⟩ := hQ241
      have N241 := Fr.app N240 N241q
      replace pre : Pth p e below S0 T241 (mkF m 172 #[iv x0, iv x1, iv x2, iv x3, iv x4, iv (0 : Int32), iv (2 : Int32), iv c7, iv c8, iv c9, rv b203, rv b209, .val .null, rv b237, iv (0 : Int32), .unset] [(.int (0 : Int32))]) := fun t k => pre t (st241.trans k)
      replace pre : Pth p e below S0 T241 (mkF m 202 #[iv x0, iv x1, iv x2, iv x3, iv x4, iv (0 : Int32), iv (2 : Int32), iv c7, iv c8, iv c9, rv b203, rv b209, .val .null, rv b237, iv (0 : Int32), iv (0 : Int32)] [(.int (1 : Int32))]) := fun t k => pre t (by
        show SS p e below T241 (mkF m 172 #[iv x0, iv x1, iv x2, iv x3, iv x4, iv (0 : Int32), iv (2 : Int32), iv c7, iv c8, iv c9, rv b203, rv b209, .val .null, rv b237, iv (0 : Int32), .unset] [(.int (0 : Int32))]) t
        refine XS.istore X241.here hx rfl (hb hby at_172) rfl (l' := #[iv x0, iv x1, iv x2, iv x3, iv x4, iv (0 : Int32), iv (2 : Int32), iv c7, iv c8, iv c9, rv b203, rv b209, .val .null, rv b237, iv (0 : Int32), iv (0 : Int32)]) rfl ?_
        show SS p e below T241 (mkF m 174 #[iv x0, iv x1, iv x2, iv x3, iv x4, iv (0 : Int32), iv (2 : Int32), iv c7, iv c8, iv c9, rv b203, rv b209, .val .null, rv b237, iv (0 : Int32), iv (0 : Int32)] []) t
        refine XS.iload X241.here hx rfl (hb hby at_174) rfl ?_
        show SS p e below T241 (mkF m 176 #[iv x0, iv x1, iv x2, iv x3, iv x4, iv (0 : Int32), iv (2 : Int32), iv c7, iv c8, iv c9, rv b203, rv b209, .val .null, rv b237, iv (0 : Int32), iv (0 : Int32)] [(.int (0 : Int32))]) t
        refine XS.iload X241.here hx rfl (hb hby at_176) rfl ?_
        show SS p e below T241 (mkF m 178 #[iv x0, iv x1, iv x2, iv x3, iv x4, iv (0 : Int32), iv (2 : Int32), iv c7, iv c8, iv c9, rv b203, rv b209, .val .null, rv b237, iv (0 : Int32), iv (0 : Int32)] [(.int (0 : Int32)), (.int (0 : Int32))]) t
        refine XS.icmpNo X241.here hx rfl (hb hby at_178) rfl (XT.ii_ne_f rfl) ?_
        show SS p e below T241 (mkF m 181 #[iv x0, iv x1, iv x2, iv x3, iv x4, iv (0 : Int32), iv (2 : Int32), iv c7, iv c8, iv c9, rv b203, rv b209, .val .null, rv b237, iv (0 : Int32), iv (0 : Int32)] []) t
        refine XS.iload X241.here hx rfl (hb hby at_181) rfl ?_
        show SS p e below T241 (mkF m 183 #[iv x0, iv x1, iv x2, iv x3, iv x4, iv (0 : Int32), iv (2 : Int32), iv c7, iv c8, iv c9, rv b203, rv b209, .val .null, rv b237, iv (0 : Int32), iv (0 : Int32)] [(.int (0 : Int32))]) t
        refine XS.iload X241.here hx rfl (hb hby at_183) rfl ?_
        show SS p e below T241 (mkF m 185 #[iv x0, iv x1, iv x2, iv x3, iv x4, iv (0 : Int32), iv (2 : Int32), iv c7, iv c8, iv c9, rv b203, rv b209, .val .null, rv b237, iv (0 : Int32), iv (0 : Int32)] [(.int (0 : Int32)), (.int (0 : Int32))]) t
        refine XS.ifYes X241.here hx rfl (pc0 := 185) (pc' := 193) rfl (hb hby at_185) rfl (XT.i0_eq_t rfl) (by decide) (by decide) ?_
        show SS p e below T241 (mkF m 193 #[iv x0, iv x1, iv x2, iv x3, iv x4, iv (0 : Int32), iv (2 : Int32), iv c7, iv c8, iv c9, rv b203, rv b209, .val .null, rv b237, iv (0 : Int32), iv (0 : Int32)] [(.int (0 : Int32))]) t
        refine XS.iconst X241.here hx rfl (hb hby at_193) ?_
        show SS p e below T241 (mkF m 194 #[iv x0, iv x1, iv x2, iv x3, iv x4, iv (0 : Int32), iv (2 : Int32), iv c7, iv c8, iv c9, rv b203, rv b209, .val .null, rv b237, iv (0 : Int32), iv (0 : Int32)] [(.int (0 : Int32)), (.int (0 : Int32))]) t
        refine XS.icmpNo X241.here hx rfl (hb hby at_194) rfl (XT.ii_ne_f rfl) ?_
        show SS p e below T241 (mkF m 197 #[iv x0, iv x1, iv x2, iv x3, iv x4, iv (0 : Int32), iv (2 : Int32), iv c7, iv c8, iv c9, rv b203, rv b209, .val .null, rv b237, iv (0 : Int32), iv (0 : Int32)] []) t
        refine XS.iconst X241.here hx rfl (hb hby at_197) ?_
        show SS p e below T241 (mkF m 198 #[iv x0, iv x1, iv x2, iv x3, iv x4, iv (0 : Int32), iv (2 : Int32), iv c7, iv c8, iv c9, rv b203, rv b209, .val .null, rv b237, iv (0 : Int32), iv (0 : Int32)] [(.int (1 : Int32))]) t
        refine XS.goto X241.here hx rfl (pc0 := 198) (pc' := 202) rfl (hb hby at_198) (by decide) (by decide) ?_
        show SS p e below T241 (mkF m 202 #[iv x0, iv x1, iv x2, iv x3, iv x4, iv (0 : Int32), iv (2 : Int32), iv c7, iv c8, iv c9, rv b203, rv b209, .val .null, rv b237, iv (0 : Int32), iv (0 : Int32)] [(.int (1 : Int32))]) t
        exact k)
      obtain ⟨fs, hr, hrun, hended, hW, hsame⟩ := X241.leave (v := some (.int (1 : Int32))) (fun h => by rw [Bd.returns] at h; cases h)
      subst hS0
      refine ⟨_, _, pre _ ?_, hrun, hended, _, _, rfl, ?_, ⟨_, rfl⟩, hW, hsame.mono (by decide) (by decide)⟩
      · exact retN X241 hx (t := .boolean) Bd.returns (by simp) (hb hby at_202) hr
      · show Q_law Z x0 x1 x2 x3 x4 cz dc el eb em mr fd fe h0 n0 _ T241.heap _
        rw [e241]
        exact ⟨rfl, N241⟩
    · replace pre : Pth p e below S0 T236 (mkF m 131 #[iv x0, iv x1, iv x2, iv x3, iv x4, iv (1 : Int32), iv (2 : Int32), iv c7, iv c8, iv c9, rv b203, rv b209, .unset, .unset, .unset, .unset] [(.int (1 : Int32))]) := pre
      replace pre : Pth p e below S0 T236 (mkF m 142 #[iv x0, iv x1, iv x2, iv x3, iv x4, iv (1 : Int32), iv (2 : Int32), iv c7, iv c8, iv c9, rv b203, rv b209, rv b209, .unset, .unset, .unset] []) := fun t k => pre t (by
        show SS p e below T236 (mkF m 131 #[iv x0, iv x1, iv x2, iv x3, iv x4, iv (1 : Int32), iv (2 : Int32), iv c7, iv c8, iv c9, rv b203, rv b209, .unset, .unset, .unset, .unset] [(.int (1 : Int32))]) t
        refine XS.ifNo X236.here hx rfl (hb hby at_131) rfl (XT.i0_eq_f (by decide)) ?_
        show SS p e below T236 (mkF m 134 #[iv x0, iv x1, iv x2, iv x3, iv x4, iv (1 : Int32), iv (2 : Int32), iv c7, iv c8, iv c9, rv b203, rv b209, .unset, .unset, .unset, .unset] []) t
        refine XS.aload X236.here hx rfl (hb hby at_134) rfl rfl ?_
        show SS p e below T236 (mkF m 136 #[iv x0, iv x1, iv x2, iv x3, iv x4, iv (1 : Int32), iv (2 : Int32), iv c7, iv c8, iv c9, rv b203, rv b209, .unset, .unset, .unset, .unset] [(.ref b209)]) t
        refine XS.goto X236.here hx rfl (pc0 := 136) (pc' := 140) rfl (hb hby at_136) (by decide) (by decide) ?_
        show SS p e below T236 (mkF m 140 #[iv x0, iv x1, iv x2, iv x3, iv x4, iv (1 : Int32), iv (2 : Int32), iv c7, iv c8, iv c9, rv b203, rv b209, .unset, .unset, .unset, .unset] [(.ref b209)]) t
        refine XS.astore X236.here hx rfl (hb hby at_140) rfl rfl (l' := #[iv x0, iv x1, iv x2, iv x3, iv x4, iv (1 : Int32), iv (2 : Int32), iv c7, iv c8, iv c9, rv b203, rv b209, rv b209, .unset, .unset, .unset]) rfl ?_
        show SS p e below T236 (mkF m 142 #[iv x0, iv x1, iv x2, iv x3, iv x4, iv (1 : Int32), iv (2 : Int32), iv c7, iv c8, iv c9, rv b203, rv b209, rv b209, .unset, .unset, .unset] []) t
        exact k)
      obtain ⟨T242, h242, X242, e242, E242, A242, D242, -, st242⟩ := newO X236 hx hZ hown (own_t hw 99 rfl) (own_t hw 100 rfl) (own_t hw 101 rfl) rfl (g := (mkF m 142 #[iv x0, iv x1, iv x2, iv x3, iv x4, iv (1 : Int32), iv (2 : Int32), iv c7, iv c8, iv c9, rv b203, rv b209, rv b209, .unset, .unset, .unset] [])) rfl (hb hby at_142) (by decide) (by decide)
      obtain ⟨b242, g242⟩ : ∃ z, z = T236.heap.size := ⟨_, rfl⟩
      rw [← g242] at A242 D242 st242
      replace pre : Pth p e below S0 T242 (mkF m 145 #[iv x0, iv x1, iv x2, iv x3, iv x4, iv (1 : Int32), iv (2 : Int32), iv c7, iv c8, iv c9, rv b203, rv b209, rv b209, .unset, .unset, .unset] [(.ref b242)]) := fun t k => pre t (st242 _ k)
      have Wa : Fld Z h242 b242 "com/example/sheaf/sheaf/cbor/TextStringItem" "value" "Ljava/lang/String;" .null := D242 (Or.inr (own_t hw 112 rfl)) (ty := (.object "java/lang/String")) (by decide)
      have Wb : Fld Z h242 b242 "com/example/sheaf/sheaf/cbor/TextStringItem" "chunks" "Ljava/util/List;" .null := D242 (Or.inr (own_t hw 114 rfl)) (ty := (.object "java/util/List")) (by decide)
      have sT : h0.size ≤ b242 := by rw [g242]; exact EX.1
      replace EX := own_ext_trans EX E242
      replace hA := hA.ext E242
      replace hO := hO.ext E242
      replace G1 := G1.ext E242
      have J1 := Ins.of_exa G1 (own_t hw 98 rfl)
      replace G2 := G2.ext E242
      have J2 := Ins.of_exa G2 (own_t hw 98 rfl)
      have nu : s2 ≠ em := own_exne G2 (Eem.ext EX) (by decide)
      replace pre : Pth p e below S0 T242 (mkF m 150 #[iv x0, iv x1, iv x2, iv x3, iv x4, iv (1 : Int32), iv (2 : Int32), iv c7, iv c8, iv c9, rv b203, rv b209, rv b209, .unset, .unset, .unset] [(.ref b209), (.ref b203), (.ref b242), (.ref b242)]) := fun t k => pre t (by
        show SS p e below T242 (mkF m 145 #[iv x0, iv x1, iv x2, iv x3, iv x4, iv (1 : Int32), iv (2 : Int32), iv c7, iv c8, iv c9, rv b203, rv b209, rv b209, .unset, .unset, .unset] [(.ref b242)]) t
        refine XS.dup X242.here hx rfl (hb hby at_145) rfl rfl ?_
        show SS p e below T242 (mkF m 146 #[iv x0, iv x1, iv x2, iv x3, iv x4, iv (1 : Int32), iv (2 : Int32), iv c7, iv c8, iv c9, rv b203, rv b209, rv b209, .unset, .unset, .unset] [(.ref b242), (.ref b242)]) t
        refine XS.aload X242.here hx rfl (hb hby at_146) rfl rfl ?_
        show SS p e below T242 (mkF m 148 #[iv x0, iv x1, iv x2, iv x3, iv x4, iv (1 : Int32), iv (2 : Int32), iv c7, iv c8, iv c9, rv b203, rv b209, rv b209, .unset, .unset, .unset] [(.ref b203), (.ref b242), (.ref b242)]) t
        refine XS.aload X242.here hx rfl (hb hby at_148) rfl rfl ?_
        show SS p e below T242 (mkF m 150 #[iv x0, iv x1, iv x2, iv x3, iv x4, iv (1 : Int32), iv (2 : Int32), iv c7, iv c8, iv c9, rv b203, rv b209, rv b209, .unset, .unset, .unset] [(.ref b209), (.ref b203), (.ref b242), (.ref b242)]) t
        exact k)
      obtain ⟨_, _, ⟨T243, L243, k243, n243⟩, -, X243, ⟨Lc243, hQ243, l243, y243, z243⟩, st243⟩ := X242.specialBack hx (y := (⟨"com/example/sheaf/sheaf/cbor/TextStringItem", "<init>", "(Ljava/lang/String;Ljava/util/List;)V"⟩ : MethodName)) rfl hown (mvT hZ (own_t hw 102 rfl)) (mvT hZ (own_t hw 103 rfl)) (mvT hZ (own_t hw 104 rfl)) (by decide) (backOf (W := 1) (rm_ti2 l Z a0 hw [] b242 b203 b209 ba mr _ _ s1 s2 h242 n0 (Nat.le_trans Z0 EX.1) (Nat.le_trans Z0 sT) A242 Wa Wb hA M hO (own_hf_cons (own_hf_cons own_hf_nil J1) J2) rfl rfl) hZ (own_t hw 104 rfl) (own_t hw 101 rfl) (by decide) (by decide)) (g := (mkF m 150 #[iv x0, iv x1, iv x2, iv x3, iv x4, iv (1 : Int32), iv (2 : Int32), iv c7, iv c8, iv c9, rv b203, rv b209, rv b209, .unset, .unset, .unset] [(.ref b209), (.ref b203), (.ref b242), (.ref b242)])) rfl (by rw [hml]; rfl) (Steps.refl _) (a := b242) (argsL := [(.ref b203), (.ref b209)]) (rest := [(.ref b242)]) (lenOf pd__Ljava_lang_String_Ljava_util_List__V rfl) rfl (by show 2 * 0 + _ ≤ _; exact Nat.le_of_eq rfl) (hb hby at_150) (fun _ _ => ⟨rfl, e242, (by decide : 10 + 2 ≤ _), (by decide : 35 + 4 ≤ _)⟩)
      dsimp only [Pt.U, Pt.locs, Pt.cells, Pt.slots] at X243 l243 y243 z243 st243 hQ243
      subst l243 y243 z243
      obtain ⟨rfl, N243q, K243, A243, rr, F243, O243⟩ := hQ243
      have N243 := Fr.app N236 N243q
      replace pre : Pth p e below S0 T243 (mkF m 153 #[iv x0, iv x1, iv x2, iv x3, iv x4, iv (1 : Int32), iv (2 : Int32), iv c7, iv c8, iv c9, rv b203, rv b209, rv b209, .unset, .unset, .unset] [(.ref b242)]) := fun t k => pre t (st243.trans k)
      replace EX := own_ext_keep EX K243 (fun z hz => by rw [List.mem_singleton.mp hz]; exact sT)
      replace pre : Pth p e below S0 T243 (mkF m 157 #[iv x0, iv x1, iv x2, iv x3, iv x4, iv (1 : Int32), iv (2 : Int32), iv c7, iv c8, iv c9, rv b203, rv b209, rv b209, rv b242, .unset, .unset] [(.ref b242)]) := fun t k => pre t (by
        show SS p e below T243 (mkF m 153 #[iv x0, iv x1, iv x2, iv x3, iv x4, iv (1 : Int32), iv (2 : Int32), iv c7, iv c8, iv c9, rv b203, rv b209, rv b209, .unset, .unset, .unset] [(.ref b242)]) t
        refine XS.astore X243.here hx rfl (hb hby at_153) rfl rfl (l' := #[iv x0, iv x1, iv x2, iv x3, iv x4, iv (1 : Int32), iv (2 : Int32), iv c7, iv c8, iv c9, rv b203, rv b209, rv b209, rv b242, .unset, .unset]) rfl ?_
        show SS p e below T243 (mkF m 155 #[iv x0, iv x1, iv x2, iv x3, iv x4, iv (1 : Int32), iv (2 : Int32), iv c7, iv c8, iv c9, rv b203, rv b209, rv b209, rv b242, .unset, .unset] []) t
        refine XS.aload X243.here hx rfl (hb hby at_155) rfl rfl ?_
        show SS p e below T243 (mkF m 157 #[iv x0, iv x1, iv x2, iv x3, iv x4, iv (1 : Int32), iv (2 : Int32), iv c7, iv c8, iv c9, rv b203, rv b209, rv b209, rv b242, .unset, .unset] [(.ref b242)]) t
        exact k)
      obtain ⟨cq244, kq244, q244a, q244b, q244c⟩ := isOf hZ rfl A243
      obtain ⟨_, _, ⟨T244, L244, k244, n244⟩, -, X244, ⟨Lc244, hQ244, l244, y244, z244⟩, st244⟩ := X243.virtualBack hx (y := (⟨"com/example/sheaf/sheaf/cbor/TextStringItem", "isIndefinite", "()Z"⟩ : MethodName)) (z := (⟨"com/example/sheaf/sheaf/cbor/TextStringItem", "isIndefinite", "()Z"⟩ : MethodName)) hown (mvT hZ (own_t hw 115 rfl)) (mvT hZ (own_t hw 116 rfl)) (notFace_of_selects (args := #[]) (mvT hZ (own_t hw 118 rfl))) (mvT hZ (own_t hw 118 rfl)) (mvT hZ (own_t hw 117 rfl)) (by decide) (backOf (W := 0) (rm_ii1 l Z a0 hw [] b242 rr T243.heap n0 F243) hZ (own_t hw 119 rfl) (own_t hw 101 rfl) (by decide) (by decide)) q244a q244c (g := (mkF m 157 #[iv x0, iv x1, iv x2, iv x3, iv x4, iv (1 : Int32), iv (2 : Int32), iv c7, iv c8, iv c9, rv b203, rv b209, rv b209, rv b242, .unset, .unset] [(.ref b242)])) rfl (by rw [hml]; rfl) (Steps.refl _) (argsL := []) (rest := []) (lenOf pd___Z rfl) rfl (by show 2 * 0 + _ ≤ _; exact Nat.le_of_eq rfl) (hb hby at_157) (fun _ _ => ⟨rfl, rfl, (by decide : 12 + 0 ≤ _), (by decide : 39 + 0 ≤ _)⟩)
      dsimp only [Pt.U, Pt.locs, Pt.cells, Pt.slots] at X244 l244 y244 z244 st244 hQ244
      subst l244 y244 z244
      obtain ⟨rfl, N244q, e244⟩ := hQ244
      have N244 := Fr.app N243 N244q
      replace pre : Pth p e below S0 T244 (mkF m 160 #[iv x0, iv x1, iv x2, iv x3, iv x4, iv (1 : Int32), iv (2 : Int32), iv c7, iv c8, iv c9, rv b203, rv b209, rv b209, rv b242, .unset, .unset] [(.int (1 : Int32))]) := fun t k => pre t (st244.trans k)
      replace pre : Pth p e below S0 T244 (mkF m 164 #[iv x0, iv x1, iv x2, iv x3, iv x4, iv (1 : Int32), iv (2 : Int32), iv c7, iv c8, iv c9, rv b203, rv b209, rv b209, rv b242, iv (1 : Int32), .unset] [(.ref b242)]) := fun t k => pre t (by
        show SS p e below T244 (mkF m 160 #[iv x0, iv x1, iv x2, iv x3, iv x4, iv (1 : Int32), iv (2 : Int32), iv c7, iv c8, iv c9, rv b203, rv b209, rv b209, rv b242, .unset, .unset] [(.int (1 : Int32))]) t
        refine XS.istore X244.here hx rfl (hb hby at_160) rfl (l' := #[iv x0, iv x1, iv x2, iv x3, iv x4, iv (1 : Int32), iv (2 : Int32), iv c7, iv c8, iv c9, rv b203, rv b209, rv b209, rv b242, iv (1 : Int32), .unset]) rfl ?_
        show SS p e below T244 (mkF m 162 #[iv x0, iv x1, iv x2, iv x3, iv x4, iv (1 : Int32), iv (2 : Int32), iv c7, iv c8, iv c9, rv b203, rv b209, rv b209, rv b242, iv (1 : Int32), .unset] []) t
        refine XS.aload X244.here hx rfl (hb hby at_162) rfl rfl ?_
        show SS p e below T244 (mkF m 164 #[iv x0, iv x1, iv x2, iv x3, iv x4, iv (1 : Int32), iv (2 : Int32), iv c7, iv c8, iv c9, rv b203, rv b209, rv b209, rv b242, iv (1 : Int32), .unset] [(.ref b242)]) t
        exact k)
      obtain ⟨cq245, kq245, q245a, q245b, q245c⟩ := isOf hZ e244 A243
      obtain ⟨_, _, ⟨T245, L245, k245, n245⟩, -, X245, ⟨Lc245, hQ245, l245, y245, z245⟩, st245⟩ := X244.virtualBack hx (y := (⟨"com/example/sheaf/sheaf/cbor/TextStringItem", "chunks", "()Ljava/util/List;"⟩ : MethodName)) (z := (⟨"com/example/sheaf/sheaf/cbor/TextStringItem", "chunks", "()Ljava/util/List;"⟩ : MethodName)) hown (mvT hZ (own_t hw 120 rfl)) (mvT hZ (own_t hw 121 rfl)) (notFace_of_selects (args := #[]) (mvT hZ (own_t hw 123 rfl))) (mvT hZ (own_t hw 123 rfl)) (mvT hZ (own_t hw 122 rfl)) (by decide) (backOf (W := 0) (rm_ck1 l Z a0 hw [] b242 rr T243.heap n0 F243) hZ (own_t hw 124 rfl) (own_t hw 101 rfl) (by decide) (by decide)) q245a q245c (g := (mkF m 164 #[iv x0, iv x1, iv x2, iv x3, iv x4, iv (1 : Int32), iv (2 : Int32), iv c7, iv c8, iv c9, rv b203, rv b209, rv b209, rv b242, iv (1 : Int32), .unset] [(.ref b242)])) rfl (by rw [hml]; rfl) (Steps.refl _) (argsL := []) (rest := []) (lenOf pd___Ljava_util_List_ rfl) rfl (by show 2 * 0 + _ ≤ _; exact Nat.le_of_eq rfl) (hb hby at_164) (fun _ _ => ⟨rfl, e244, (by decide : 12 + 0 ≤ _), (by decide : 39 + 0 ≤ _)⟩)
      dsimp only [Pt.U, Pt.locs, Pt.cells, Pt.slots] at X245 l245 y245 z245 st245 hQ245
      subst l245 y245 z245
      obtain ⟨rfl, N245q, e245⟩ := hQ245
      have N245 := Fr.app N244 N245q
      replace pre : Pth p e below S0 T245 (mkF m 167 #[iv x0, iv x1, iv x2, iv x3, iv x4, iv (1 : Int32), iv (2 : Int32), iv c7, iv c8, iv c9, rv b203, rv b209, rv b209, rv b242, iv (1 : Int32), .unset] [(.ref rr)]) := fun t k => pre t (st245.trans k)
      obtain ⟨cq246, kq246, q246a, q246b, q246c⟩ := isOf hZ e245 O243.1
      obtain ⟨_, _, ⟨T246, L246, k246, n246⟩, -, X246, ⟨Lc246, hQ246, l246, y246, z246⟩, st246⟩ := X245.interfaceBack hx (xi := (⟨"java/util/List", "size", "()I"⟩ : MethodName)) (y := (⟨"java/util/ImmutableCollections$List12", "size", "()I"⟩ : MethodName)) hown (mvT hZ (own_t hw 131 rfl)) (mvT hZ (own_t hw 132 rfl)) (mvT hZ (own_t hw 133 rfl)) (mvT hZ (own_t hw 244 rfl)) (mvT hZ (own_t hw 245 rfl)) (mvT hZ (own_t hw 246 rfl)) (mvT hZ (own_t hw 247 rfl)) (mvT hZ (own_t hw 248 rfl)) (by decide) (backOf (W := 0) (rm_l2s2 l Z a0 hw [] rr em s2 T243.heap n0 O243.2 nu (Sem.ext EX)) hZ (own_t hw 249 rfl) (own_t hw 229 rfl) (by decide) (by decide)) q246a q246b q246c (g := (mkF m 167 #[iv x0, iv x1, iv x2, iv x3, iv x4, iv (1 : Int32), iv (2 : Int32), iv c7, iv c8, iv c9, rv b203, rv b209, rv b209, rv b242, iv (1 : Int32), .unset] [(.ref rr)])) rfl (by rw [hml]; rfl) (Steps.refl _) (argsL := []) (rest := []) (lenOf pd___I rfl) rfl (by show 2 * 0 + _ ≤ _; exact Nat.le_of_eq rfl) (hb hby at_167) (fun _ _ => ⟨rfl, e245, (by decide : 12 + 0 ≤ _), (by decide : 39 + 0 ≤ _)⟩)
      dsimp only [Pt.U, Pt.locs, Pt.cells, Pt.slots] at X246 l246 y246 z246 st246 hQ246
      subst l246 y246 z246
      obtain ⟨rfl, N246q, e246⟩ := hQ246
      have N246 := Fr.app N245 N246q
      replace pre : Pth p e below S0 T246 (mkF m 172 #[iv x0, iv x1, iv x2, iv x3, iv x4, iv (1 : Int32), iv (2 : Int32), iv c7, iv c8, iv c9, rv b203, rv b209, rv b209, rv b242, iv (1 : Int32), .unset] [(.int (2 : Int32))]) := fun t k => pre t (st246.trans k)
      replace pre : Pth p e below S0 T246 (mkF m 202 #[iv x0, iv x1, iv x2, iv x3, iv x4, iv (1 : Int32), iv (2 : Int32), iv c7, iv c8, iv c9, rv b203, rv b209, rv b209, rv b242, iv (1 : Int32), iv (2 : Int32)] [(.int (1 : Int32))]) := fun t k => pre t (by
        show SS p e below T246 (mkF m 172 #[iv x0, iv x1, iv x2, iv x3, iv x4, iv (1 : Int32), iv (2 : Int32), iv c7, iv c8, iv c9, rv b203, rv b209, rv b209, rv b242, iv (1 : Int32), .unset] [(.int (2 : Int32))]) t
        refine XS.istore X246.here hx rfl (hb hby at_172) rfl (l' := #[iv x0, iv x1, iv x2, iv x3, iv x4, iv (1 : Int32), iv (2 : Int32), iv c7, iv c8, iv c9, rv b203, rv b209, rv b209, rv b242, iv (1 : Int32), iv (2 : Int32)]) rfl ?_
        show SS p e below T246 (mkF m 174 #[iv x0, iv x1, iv x2, iv x3, iv x4, iv (1 : Int32), iv (2 : Int32), iv c7, iv c8, iv c9, rv b203, rv b209, rv b209, rv b242, iv (1 : Int32), iv (2 : Int32)] []) t
        refine XS.iload X246.here hx rfl (hb hby at_174) rfl ?_
        show SS p e below T246 (mkF m 176 #[iv x0, iv x1, iv x2, iv x3, iv x4, iv (1 : Int32), iv (2 : Int32), iv c7, iv c8, iv c9, rv b203, rv b209, rv b209, rv b242, iv (1 : Int32), iv (2 : Int32)] [(.int (1 : Int32))]) t
        refine XS.iload X246.here hx rfl (hb hby at_176) rfl ?_
        show SS p e below T246 (mkF m 178 #[iv x0, iv x1, iv x2, iv x3, iv x4, iv (1 : Int32), iv (2 : Int32), iv c7, iv c8, iv c9, rv b203, rv b209, rv b209, rv b242, iv (1 : Int32), iv (2 : Int32)] [(.int (1 : Int32)), (.int (1 : Int32))]) t
        refine XS.icmpNo X246.here hx rfl (hb hby at_178) rfl (XT.ii_ne_f rfl) ?_
        show SS p e below T246 (mkF m 181 #[iv x0, iv x1, iv x2, iv x3, iv x4, iv (1 : Int32), iv (2 : Int32), iv c7, iv c8, iv c9, rv b203, rv b209, rv b209, rv b242, iv (1 : Int32), iv (2 : Int32)] []) t
        refine XS.iload X246.here hx rfl (hb hby at_181) rfl ?_
        show SS p e below T246 (mkF m 183 #[iv x0, iv x1, iv x2, iv x3, iv x4, iv (1 : Int32), iv (2 : Int32), iv c7, iv c8, iv c9, rv b203, rv b209, rv b209, rv b242, iv (1 : Int32), iv (2 : Int32)] [(.int (2 : Int32))]) t
        refine XS.iload X246.here hx rfl (hb hby at_183) rfl ?_
        show SS p e below T246 (mkF m 185 #[iv x0, iv x1, iv x2, iv x3, iv x4, iv (1 : Int32), iv (2 : Int32), iv c7, iv c8, iv c9, rv b203, rv b209, rv b209, rv b242, iv (1 : Int32), iv (2 : Int32)] [(.int (1 : Int32)), (.int (2 : Int32))]) t
        refine XS.ifNo X246.here hx rfl (hb hby at_185) rfl (XT.i0_eq_f (by decide)) ?_
        show SS p e below T246 (mkF m 188 #[iv x0, iv x1, iv x2, iv x3, iv x4, iv (1 : Int32), iv (2 : Int32), iv c7, iv c8, iv c9, rv b203, rv b209, rv b209, rv b242, iv (1 : Int32), iv (2 : Int32)] [(.int (2 : Int32))]) t
        refine XS.iload X246.here hx rfl (hb hby at_188) rfl ?_
        show SS p e below T246 (mkF m 190 #[iv x0, iv x1, iv x2, iv x3, iv x4, iv (1 : Int32), iv (2 : Int32), iv c7, iv c8, iv c9, rv b203, rv b209, rv b209, rv b242, iv (1 : Int32), iv (2 : Int32)] [(.int (2 : Int32)), (.int (2 : Int32))]) t
        refine XS.goto X246.here hx rfl (pc0 := 190) (pc' := 194) rfl (hb hby at_190) (by decide) (by decide) ?_
        show SS p e below T246 (mkF m 194 #[iv x0, iv x1, iv x2, iv x3, iv x4, iv (1 : Int32), iv (2 : Int32), iv c7, iv c8, iv c9, rv b203, rv b209, rv b209, rv b242, iv (1 : Int32), iv (2 : Int32)] [(.int (2 : Int32)), (.int (2 : Int32))]) t
        refine XS.icmpNo X246.here hx rfl (hb hby at_194) rfl (XT.ii_ne_f rfl) ?_
        show SS p e below T246 (mkF m 197 #[iv x0, iv x1, iv x2, iv x3, iv x4, iv (1 : Int32), iv (2 : Int32), iv c7, iv c8, iv c9, rv b203, rv b209, rv b209, rv b242, iv (1 : Int32), iv (2 : Int32)] []) t
        refine XS.iconst X246.here hx rfl (hb hby at_197) ?_
        show SS p e below T246 (mkF m 198 #[iv x0, iv x1, iv x2, iv x3, iv x4, iv (1 : Int32), iv (2 : Int32), iv c7, iv c8, iv c9, rv b203, rv b209, rv b209, rv b242, iv (1 : Int32), iv (2 : Int32)] [(.int (1 : Int32))]) t
        refine XS.goto X246.here hx rfl (pc0 := 198) (pc' := 202) rfl (hb hby at_198) (by decide) (by decide) ?_
        show SS p e below T246 (mkF m 202 #[iv x0, iv x1, iv x2, iv x3, iv x4, iv (1 : Int32), iv (2 : Int32), iv c7, iv c8, iv c9, rv b203, rv b209, rv b209, rv b242, iv (1 : Int32), iv (2 : Int32)] [(.int (1 : Int32))]) t
        exact k)
      obtain ⟨fs, hr, hrun, hended, hW, hsame⟩ := X246.leave (v := some (.int (1 : Int32))) (fun h => by rw [Bd.returns] at h; cases h)
      subst hS0
      refine ⟨_, _, pre _ ?_, hrun, hended, _, _, rfl, ?_, ⟨_, rfl⟩, hW, hsame.mono (by decide) (by decide)⟩
      · exact retN X246 hx (t := .boolean) Bd.returns (by simp) (hb hby at_202) hr
      · show Q_law Z x0 x1 x2 x3 x4 cz dc el eb em mr fd fe h0 n0 _ T246.heap _
        rw [e246]
        exact ⟨rfl, N246⟩
  · replace pre : Pth p e below S0 T210 (mkF m 81 #[iv x0, iv x1, iv x2, iv x3, iv x4, iv fl, iv (3 : Int32), iv c7, iv c8, iv c9, rv b203, rv b209, .unset, .unset, .unset, .unset] [(.int (3 : Int32))]) := pre
    replace pre : Pth p e below S0 T210 (mkF m 88 #[iv x0, iv x1, iv x2, iv x3, iv x4, iv fl, iv (3 : Int32), iv c7, iv c8, iv c9, rv b203, rv b209, .unset, .unset, .unset, .unset] [(.int c7), (.ref b209)]) := fun t k => pre t (by
      show SS p e below T210 (mkF m 81 #[iv x0, iv x1, iv x2, iv x3, iv x4, iv fl, iv (3 : Int32), iv c7, iv c8, iv c9, rv b203, rv b209, .unset, .unset, .unset, .unset] [(.int (3 : Int32))]) t
      refine XS.ifNo X210.here hx rfl (hb hby at_81) rfl (XT.i0_le_f (by decide)) ?_
      show SS p e below T210 (mkF m 84 #[iv x0, iv x1, iv x2, iv x3, iv x4, iv fl, iv (3 : Int32), iv c7, iv c8, iv c9, rv b203, rv b209, .unset, .unset, .unset, .unset] []) t
      refine XS.aload X210.here hx rfl (hb hby at_84) rfl rfl ?_
      show SS p e below T210 (mkF m 86 #[iv x0, iv x1, iv x2, iv x3, iv x4, iv fl, iv (3 : Int32), iv c7, iv c8, iv c9, rv b203, rv b209, .unset, .unset, .unset, .unset] [(.ref b209)]) t
      refine XS.iload X210.here hx rfl (hb hby at_86) rfl ?_
      show SS p e below T210 (mkF m 88 #[iv x0, iv x1, iv x2, iv x3, iv x4, iv fl, iv (3 : Int32), iv c7, iv c8, iv c9, rv b203, rv b209, .unset, .unset, .unset, .unset] [(.int c7), (.ref b209)]) t
      exact k)
    obtain ⟨_, _, ⟨T247, L247, k247, n247⟩, -, X247, ⟨Lc247, hQ247, l247, y247, z247⟩, st247⟩ := Jvm.LawKit.callS X210 hx (y := (⟨"java/lang/String", "valueOf", "(C)Ljava/lang/String;"⟩ : MethodName)) hown (mvT hZ (own_t hw 54 rfl)) (mvT hZ (own_t hw 55 rfl)) (mvT hZ (own_t hw 2 rfl)) (mvT hZ (own_t hw 56 rfl)) (by decide) (backOf (W := 1) (rm_vof l Z a0 hw [] c7 cz T210.heap n0 (Nat.le_trans Z0 EX.1) k7a (Scs.ext EX) hcz) hZ (own_t hw 56 rfl) (own_t hw 2 rfl) (by decide) (by decide)) (g := (mkF m 88 #[iv x0, iv x1, iv x2, iv x3, iv x4, iv fl, iv (3 : Int32), iv c7, iv c8, iv c9, rv b203, rv b209, .unset, .unset, .unset, .unset] [(.int c7), (.ref b209)])) rfl (by rw [hml]; rfl) (argsL := [(.int c7)]) (rest := [(.ref b209)]) (lenOf pd__C_Ljava_lang_String_ rfl) rfl (by show 2 * 0 + _ ≤ _; exact Nat.le_of_eq rfl) (hb hby at_88) (fun _ _ => ⟨rfl, rfl, (by decide : 4 + 2 ≤ _), (by decide : 13 + 5 ≤ _)⟩)
    dsimp only [Pt.U, Pt.locs, Pt.cells, Pt.slots] at X247 l247 y247 z247 st247 hQ247
    subst l247 y247 z247
    obtain ⟨s1, rfl, N247q, E247, G1⟩ := hQ247
    have N247 := Fr.app N210 N247q
    replace pre : Pth p e below S0 T247 (mkF m 91 #[iv x0, iv x1, iv x2, iv x3, iv x4, iv fl, iv (3 : Int32), iv c7, iv c8, iv c9, rv b203, rv b209, .unset, .unset, .unset, .unset] [(.ref s1), (.ref b209)]) := fun t k => pre t (st247 _ k)
    replace EX := own_ext_trans EX E247
    replace hA := hA.ext E247
    have J := Ins.of_exa G1 (own_t hw 98 rfl)
    obtain ⟨cq248, kq248, q248a, q248b, q248c⟩ := isOf hZ rfl hA.1
    obtain ⟨_, _, ⟨T248, L248, k248, n248⟩, -, X248, ⟨Lc248, hQ248, l248, y248, z248⟩, st248⟩ := X247.virtualBack hx (y := (⟨"java/util/ArrayList", "add", "(Ljava/lang/Object;)Z"⟩ : MethodName)) (z := (⟨"java/util/ArrayList", "add", "(Ljava/lang/Object;)Z"⟩ : MethodName)) hown (mvT hZ (own_t hw 68 rfl)) (mvT hZ (own_t hw 69 rfl)) (notFace_of_selects (args := #[]) (mvT hZ (own_t hw 71 rfl))) (mvT hZ (own_t hw 71 rfl)) (mvT hZ (own_t hw 70 rfl)) (by decide) (backOf (W := 0) (rm_add0 l Z a0 hw [] b209 s1 dc (0 : Int32) fd T247.heap n0 (Nat.le_trans Z0 EX.1) gL hA (Fd.ext EX) (Sd.ext EX) J) hZ (own_t hw 72 rfl) (own_t hw 32 rfl) (by decide) (by decide)) q248a q248c (g := (mkF m 91 #[iv x0, iv x1, iv x2, iv x3, iv x4, iv fl, iv (3 : Int32), iv c7, iv c8, iv c9, rv b203, rv b209, .unset, .unset, .unset, .unset] [(.ref s1), (.ref b209)])) rfl (by rw [hml]; rfl) (Steps.refl _) (argsL := [(.ref s1)]) (rest := []) (lenOf pd__Ljava_lang_Object__Z rfl) rfl (by show 2 * 0 + _ ≤ _; exact Nat.le_of_eq rfl) (hb hby at_91) (fun _ _ => ⟨rfl, rfl, (by decide : 6 + 1 ≤ _), (by decide : 18 + 10 ≤ _)⟩)
    dsimp only [Pt.U, Pt.locs, Pt.cells, Pt.slots] at X248 l248 y248 z248 st248 hQ248
    subst l248 y248 z248
    obtain ⟨rfl, N248q, ba, gB, K248, hA1, hO⟩ := hQ248
    have N248 := Fr.app N247 N248q
    replace pre : Pth p e below S0 T248 (mkF m 94 #[iv x0, iv x1, iv x2, iv x3, iv x4, iv fl, iv (3 : Int32), iv c7, iv c8, iv c9, rv b203, rv b209, .unset, .unset, .unset, .unset] [(.int (1 : Int32))]) := fun t k => pre t (st248.trans k)
    have sB := Nat.le_trans EX.1 gB
    have neB : b209 ≠ ba := Nat.ne_of_lt (Nat.lt_of_lt_of_le hA.1.lt gB)
    replace EX := own_ext_keep EX K248 (fun z hz => by rw [List.mem_singleton.mp hz]; exact sL)
    replace hA := hA1
    replace G1 := G1.keep K248
    replace pre : Pth p e below S0 T248 (mkF m 105 #[iv x0, iv x1, iv x2, iv x3, iv x4, iv fl, iv (3 : Int32), iv c7, iv c8, iv c9, rv b203, rv b209, .unset, .unset, .unset, .unset] [(.int c8), (.ref b209)]) := fun t k => pre t (by
      show SS p e below T248 (mkF m 94 #[iv x0, iv x1, iv x2, iv x3, iv x4, iv fl, iv (3 : Int32), iv c7, iv c8, iv c9, rv b203, rv b209, .unset, .unset, .unset, .unset] [(.int (1 : Int32))]) t
      refine XS.pop X248.here hx rfl (hb hby at_94) rfl rfl ?_
      show SS p e below T248 (mkF m 95 #[iv x0, iv x1, iv x2, iv x3, iv x4, iv fl, iv (3 : Int32), iv c7, iv c8, iv c9, rv b203, rv b209, .unset, .unset, .unset, .unset] []) t
      refine XS.iload X248.here hx rfl (hb hby at_95) rfl ?_
      show SS p e below T248 (mkF m 97 #[iv x0, iv x1, iv x2, iv x3, iv x4, iv fl, iv (3 : Int32), iv c7, iv c8, iv c9, rv b203, rv b209, .unset, .unset, .unset, .unset] [(.int (3 : Int32))]) t
      refine XS.iconst X248.here hx rfl (hb hby at_97) ?_
      show SS p e below T248 (mkF m 98 #[iv x0, iv x1, iv x2, iv x3, iv x4, iv fl, iv (3 : Int32), iv c7, iv c8, iv c9, rv b203, rv b209, .unset, .unset, .unset, .unset] [(.int (1 : Int32)), (.int (3 : Int32))]) t
      refine XS.icmpNo X248.here hx rfl (hb hby at_98) rfl (XT.ii_le_f (by decide)) ?_
      show SS p e below T248 (mkF m 101 #[iv x0, iv x1, iv x2, iv x3, iv x4, iv fl, iv (3 : Int32), iv c7, iv c8, iv c9, rv b203, rv b209, .unset, .unset, .unset, .unset] []) t
      refine XS.aload X248.here hx rfl (hb hby at_101) rfl rfl ?_
      show SS p e below T248 (mkF m 103 #[iv x0, iv x1, iv x2, iv x3, iv x4, iv fl, iv (3 : Int32), iv c7, iv c8, iv c9, rv b203, rv b209, .unset, .unset, .unset, .unset] [(.ref b209)]) t
      refine XS.iload X248.here hx rfl (hb hby at_103) rfl ?_
      show SS p e below T248 (mkF m 105 #[iv x0, iv x1, iv x2, iv x3, iv x4, iv fl, iv (3 : Int32), iv c7, iv c8, iv c9, rv b203, rv b209, .unset, .unset, .unset, .unset] [(.int c8), (.ref b209)]) t
      exact k)
    obtain ⟨_, _, ⟨T249, L249, k249, n249⟩, -, X249, ⟨Lc249, hQ249, l249, y249, z249⟩, st249⟩ := Jvm.LawKit.callS X248 hx (y := (⟨"java/lang/String", "valueOf", "(C)Ljava/lang/String;"⟩ : MethodName)) hown (mvT hZ (own_t hw 54 rfl)) (mvT hZ (own_t hw 55 rfl)) (mvT hZ (own_t hw 2 rfl)) (mvT hZ (own_t hw 56 rfl)) (by decide) (backOf (W := 1) (rm_vof l Z a0 hw [] c8 cz T248.heap n0 (Nat.le_trans Z0 EX.1) k8a (Scs.ext EX) hcz) hZ (own_t hw 56 rfl) (own_t hw 2 rfl) (by decide) (by decide)) (g := (mkF m 105 #[iv x0, iv x1, iv x2, iv x3, iv x4, iv fl, iv (3 : Int32), iv c7, iv c8, iv c9, rv b203, rv b209, .unset, .unset, .unset, .unset] [(.int c8), (.ref b209)])) rfl (by rw [hml]; rfl) (argsL := [(.int c8)]) (rest := [(.ref b209)]) (lenOf pd__C_Ljava_lang_String_ rfl) rfl (by show 2 * 0 + _ ≤ _; exact Nat.le_of_eq rfl) (hb hby at_105) (fun _ _ => ⟨rfl, rfl, (by decide : 7 + 2 ≤ _), (by decide : 28 + 5 ≤ _)⟩)
    dsimp only [Pt.U, Pt.locs, Pt.cells, Pt.slots] at X249 l249 y249 z249 st249 hQ249
    subst l249 y249 z249
    obtain ⟨s2, rfl, N249q, E249, G2⟩ := hQ249
    have N249 := Fr.app N248 N249q
    replace pre : Pth p e below S0 T249 (mkF m 108 #[iv x0, iv x1, iv x2, iv x3, iv x4, iv fl, iv (3 : Int32), iv c7, iv c8, iv c9, rv b203, rv b209, .unset, .unset, .unset, .unset] [(.ref s2), (.ref b209)]) := fun t k => pre t (st249 _ k)
    replace EX := own_ext_trans EX E249
    replace hA := hA.ext E249
    replace G1 := G1.ext E249
    have J := Ins.of_exa G2 (own_t hw 98 rfl)
    replace hO := hO.ext E249
    obtain ⟨cq250, kq250, q250a, q250b, q250c⟩ := isOf hZ rfl hA.1
    obtain ⟨_, _, ⟨T250, L250, k250, n250⟩, -, X250, ⟨Lc250, hQ250, l250, y250, z250⟩, st250⟩ := X249.virtualBack hx (y := (⟨"java/util/ArrayList", "add", "(Ljava/lang/Object;)Z"⟩ : MethodName)) (z := (⟨"java/util/ArrayList", "add", "(Ljava/lang/Object;)Z"⟩ : MethodName)) hown (mvT hZ (own_t hw 68 rfl)) (mvT hZ (own_t hw 69 rfl)) (notFace_of_selects (args := #[]) (mvT hZ (own_t hw 71 rfl))) (mvT hZ (own_t hw 71 rfl)) (mvT hZ (own_t hw 70 rfl)) (by decide) (backOf (W := 0) (rm_add1 l Z a0 hw [] b209 s2 ba _ _ T249.heap n0 (Nat.le_trans Z0 EX.1) gL (Nat.le_trans Z0 sB) neB hA hO J) hZ (own_t hw 72 rfl) (own_t hw 32 rfl) (by decide) (by decide)) q250a q250c (g := (mkF m 108 #[iv x0, iv x1, iv x2, iv x3, iv x4, iv fl, iv (3 : Int32), iv c7, iv c8, iv c9, rv b203, rv b209, .unset, .unset, .unset, .unset] [(.ref s2), (.ref b209)])) rfl (by rw [hml]; rfl) (Steps.refl _) (argsL := [(.ref s2)]) (rest := []) (lenOf pd__Ljava_lang_Object__Z rfl) rfl (by show 2 * 0 + _ ≤ _; exact Nat.le_of_eq rfl) (hb hby at_108) (fun _ _ => ⟨rfl, rfl, (by decide : 9 + 0 ≤ _), (by decide : 33 + 0 ≤ _)⟩)
    dsimp only [Pt.U, Pt.locs, Pt.cells, Pt.slots] at X250 l250 y250 z250 st250 hQ250
    subst l250 y250 z250
    obtain ⟨rfl, N250q, K250, hA1, hO1⟩ := hQ250
    have N250 := Fr.app N249 N250q
    replace pre : Pth p e below S0 T250 (mkF m 111 #[iv x0, iv x1, iv x2, iv x3, iv x4, iv fl, iv (3 : Int32), iv c7, iv c8, iv c9, rv b203, rv b209, .unset, .unset, .unset, .unset] [(.int (1 : Int32))]) := fun t k => pre t (st250.trans k)
    replace EX := own_ext_keep EX K250 (fun z hz => by
      rcases List.mem_cons.mp hz with hz | hz
      · rw [hz]; exact sB
      · rw [List.mem_singleton.mp hz]; exact sL)
    replace hA := hA1
    replace hO := hO1
    replace G1 := G1.keep K250
    replace G2 := G2.keep K250
    replace pre : Pth p e below S0 T250 (mkF m 122 #[iv x0, iv x1, iv x2, iv x3, iv x4, iv fl, iv (3 : Int32), iv c7, iv c8, iv c9, rv b203, rv b209, .unset, .unset, .unset, .unset] [(.int c9), (.ref b209)]) := fun t k => pre t (by
      show SS p e below T250 (mkF m 111 #[iv x0, iv x1, iv x2, iv x3, iv x4, iv fl, iv (3 : Int32), iv c7, iv c8, iv c9, rv b203, rv b209, .unset, .unset, .unset, .unset] [(.int (1 : Int32))]) t
      refine XS.pop X250.here hx rfl (hb hby at_111) rfl rfl ?_
      show SS p e below T250 (mkF m 112 #[iv x0, iv x1, iv x2, iv x3, iv x4, iv fl, iv (3 : Int32), iv c7, iv c8, iv c9, rv b203, rv b209, .unset, .unset, .unset, .unset] []) t
      refine XS.iload X250.here hx rfl (hb hby at_112) rfl ?_
      show SS p e below T250 (mkF m 114 #[iv x0, iv x1, iv x2, iv x3, iv x4, iv fl, iv (3 : Int32), iv c7, iv c8, iv c9, rv b203, rv b209, .unset, .unset, .unset, .unset] [(.int (3 : Int32))]) t
      refine XS.iconst X250.here hx rfl (hb hby at_114) ?_
      show SS p e below T250 (mkF m 115 #[iv x0, iv x1, iv x2, iv x3, iv x4, iv fl, iv (3 : Int32), iv c7, iv c8, iv c9, rv b203, rv b209, .unset, .unset, .unset, .unset] [(.int (2 : Int32)), (.int (3 : Int32))]) t
      refine XS.icmpNo X250.here hx rfl (hb hby at_115) rfl (XT.ii_le_f (by decide)) ?_
      show SS p e below T250 (mkF m 118 #[iv x0, iv x1, iv x2, iv x3, iv x4, iv fl, iv (3 : Int32), iv c7, iv c8, iv c9, rv b203, rv b209, .unset, .unset, .unset, .unset] []) t
      refine XS.aload X250.here hx rfl (hb hby at_118) rfl rfl ?_
      show SS p e below T250 (mkF m 120 #[iv x0, iv x1, iv x2, iv x3, iv x4, iv fl, iv (3 : Int32), iv c7, iv c8, iv c9, rv b203, rv b209, .unset, .unset, .unset, .unset] [(.ref b209)]) t
      refine XS.iload X250.here hx rfl (hb hby at_120) rfl ?_
      show SS p e below T250 (mkF m 122 #[iv x0, iv x1, iv x2, iv x3, iv x4, iv fl, iv (3 : Int32), iv c7, iv c8, iv c9, rv b203, rv b209, .unset, .unset, .unset, .unset] [(.int c9), (.ref b209)]) t
      exact k)
    obtain ⟨_, _, ⟨T251, L251, k251, n251⟩, -, X251, ⟨Lc251, hQ251, l251, y251, z251⟩, st251⟩ := Jvm.LawKit.callS X250 hx (y := (⟨"java/lang/String", "valueOf", "(C)Ljava/lang/String;"⟩ : MethodName)) hown (mvT hZ (own_t hw 54 rfl)) (mvT hZ (own_t hw 55 rfl)) (mvT hZ (own_t hw 2 rfl)) (mvT hZ (own_t hw 56 rfl)) (by decide) (backOf (W := 1) (rm_vof l Z a0 hw [] c9 cz T250.heap n0 (Nat.le_trans Z0 EX.1) k9a (Scs.ext EX) hcz) hZ (own_t hw 56 rfl) (own_t hw 2 rfl) (by decide) (by decide)) (g := (mkF m 122 #[iv x0, iv x1, iv x2, iv x3, iv x4, iv fl, iv (3 : Int32), iv c7, iv c8, iv c9, rv b203, rv b209, .unset, .unset, .unset, .unset] [(.int c9), (.ref b209)])) rfl (by rw [hml]; rfl) (argsL := [(.int c9)]) (rest := [(.ref b209)]) (lenOf pd__C_Ljava_lang_String_ rfl) rfl (by show 2 * 0 + _ ≤ _; exact Nat.le_of_eq rfl) (hb hby at_122) (fun _ _ => ⟨rfl, rfl, (by decide : 9 + 2 ≤ _), (by decide : 33 + 5 ≤ _)⟩)
    dsimp only [Pt.U, Pt.locs, Pt.cells, Pt.slots] at X251 l251 y251 z251 st251 hQ251
    subst l251 y251 z251
    obtain ⟨s3, rfl, N251q, E251, G3⟩ := hQ251
    have N251 := Fr.app N250 N251q
    replace pre : Pth p e below S0 T251 (mkF m 125 #[iv x0, iv x1, iv x2, iv x3, iv x4, iv fl, iv (3 : Int32), iv c7, iv c8, iv c9, rv b203, rv b209, .unset, .unset, .unset, .unset] [(.ref s3), (.ref b209)]) := fun t k => pre t (st251 _ k)
    replace EX := own_ext_trans EX E251
    replace hA := hA.ext E251
    replace G1 := G1.ext E251
    replace G2 := G2.ext E251
    have J := Ins.of_exa G3 (own_t hw 98 rfl)
    replace hO := hO.ext E251
    obtain ⟨cq252, kq252, q252a, q252b, q252c⟩ := isOf hZ rfl hA.1
    obtain ⟨_, _, ⟨T252, L252, k252, n252⟩, -, X252, ⟨Lc252, hQ252, l252, y252, z252⟩, st252⟩ := X251.virtualBack hx (y := (⟨"java/util/ArrayList", "add", "(Ljava/lang/Object;)Z"⟩ : MethodName)) (z := (⟨"java/util/ArrayList", "add", "(Ljava/lang/Object;)Z"⟩ : MethodName)) hown (mvT hZ (own_t hw 68 rfl)) (mvT hZ (own_t hw 69 rfl)) (notFace_of_selects (args := #[]) (mvT hZ (own_t hw 71 rfl))) (mvT hZ (own_t hw 71 rfl)) (mvT hZ (own_t hw 70 rfl)) (by decide) (backOf (W := 0) (rm_add2 l Z a0 hw [] b209 s3 ba _ _ T251.heap n0 (Nat.le_trans Z0 EX.1) gL (Nat.le_trans Z0 sB) neB hA hO J) hZ (own_t hw 72 rfl) (own_t hw 32 rfl) (by decide) (by decide)) q252a q252c (g := (mkF m 125 #[iv x0, iv x1, iv x2, iv x3, iv x4, iv fl, iv (3 : Int32), iv c7, iv c8, iv c9, rv b203, rv b209, .unset, .unset, .unset, .unset] [(.ref s3), (.ref b209)])) rfl (by rw [hml]; rfl) (Steps.refl _) (argsL := [(.ref s3)]) (rest := []) (lenOf pd__Ljava_lang_Object__Z rfl) rfl (by show 2 * 0 + _ ≤ _; exact Nat.le_of_eq rfl) (hb hby at_125) (fun _ _ => ⟨rfl, rfl, (by decide : 11 + 0 ≤ _), (by decide : 38 + 0 ≤ _)⟩)
    dsimp only [Pt.U, Pt.locs, Pt.cells, Pt.slots] at X252 l252 y252 z252 st252 hQ252
    subst l252 y252 z252
    obtain ⟨rfl, N252q, K252, hA1, hO1⟩ := hQ252
    have N252 := Fr.app N251 N252q
    replace pre : Pth p e below S0 T252 (mkF m 128 #[iv x0, iv x1, iv x2, iv x3, iv x4, iv fl, iv (3 : Int32), iv c7, iv c8, iv c9, rv b203, rv b209, .unset, .unset, .unset, .unset] [(.int (1 : Int32))]) := fun t k => pre t (st252.trans k)
    replace EX := own_ext_keep EX K252 (fun z hz => by
      rcases List.mem_cons.mp hz with hz | hz
      · rw [hz]; exact sB
      · rw [List.mem_singleton.mp hz]; exact sL)
    replace hA := hA1
    replace hO := hO1
    replace G1 := G1.keep K252
    replace G2 := G2.keep K252
    replace G3 := G3.keep K252
    replace pre : Pth p e below S0 T252 (mkF m 131 #[iv x0, iv x1, iv x2, iv x3, iv x4, iv fl, iv (3 : Int32), iv c7, iv c8, iv c9, rv b203, rv b209, .unset, .unset, .unset, .unset] [(.int fl)]) := fun t k => pre t (by
      show SS p e below T252 (mkF m 128 #[iv x0, iv x1, iv x2, iv x3, iv x4, iv fl, iv (3 : Int32), iv c7, iv c8, iv c9, rv b203, rv b209, .unset, .unset, .unset, .unset] [(.int (1 : Int32))]) t
      refine XS.pop X252.here hx rfl (hb hby at_128) rfl rfl ?_
      show SS p e below T252 (mkF m 129 #[iv x0, iv x1, iv x2, iv x3, iv x4, iv fl, iv (3 : Int32), iv c7, iv c8, iv c9, rv b203, rv b209, .unset, .unset, .unset, .unset] []) t
      refine XS.iload X252.here hx rfl (hb hby at_129) rfl ?_
      show SS p e below T252 (mkF m 131 #[iv x0, iv x1, iv x2, iv x3, iv x4, iv fl, iv (3 : Int32), iv c7, iv c8, iv c9, rv b203, rv b209, .unset, .unset, .unset, .unset] [(.int fl)]) t
      exact k)
    rcases hfl with rfl | rfl
    · replace pre : Pth p e below S0 T252 (mkF m 131 #[iv x0, iv x1, iv x2, iv x3, iv x4, iv (0 : Int32), iv (3 : Int32), iv c7, iv c8, iv c9, rv b203, rv b209, .unset, .unset, .unset, .unset] [(.int (0 : Int32))]) := pre
      replace pre : Pth p e below S0 T252 (mkF m 142 #[iv x0, iv x1, iv x2, iv x3, iv x4, iv (0 : Int32), iv (3 : Int32), iv c7, iv c8, iv c9, rv b203, rv b209, .val .null, .unset, .unset, .unset] []) := fun t k => pre t (by
        show SS p e below T252 (mkF m 131 #[iv x0, iv x1, iv x2, iv x3, iv x4, iv (0 : Int32), iv (3 : Int32), iv c7, iv c8, iv c9, rv b203, rv b209, .unset, .unset, .unset, .unset] [(.int (0 : Int32))]) t
        refine XS.ifYes X252.here hx rfl (pc0 := 131) (pc' := 139) rfl (hb hby at_131) rfl (XT.i0_eq_t rfl) (by decide) (by decide) ?_
        show SS p e below T252 (mkF m 139 #[iv x0, iv x1, iv x2, iv x3, iv x4, iv (0 : Int32), iv (3 : Int32), iv c7, iv c8, iv c9, rv b203, rv b209, .unset, .unset, .unset, .unset] []) t
        refine XS.aconstNull X252.here hx rfl (hb hby at_139) ?_
        show SS p e below T252 (mkF m 140 #[iv x0, iv x1, iv x2, iv x3, iv x4, iv (0 : Int32), iv (3 : Int32), iv c7, iv c8, iv c9, rv b203, rv b209, .unset, .unset, .unset, .unset] [.null]) t
        refine XS.astore X252.here hx rfl (hb hby at_140) rfl rfl (l' := #[iv x0, iv x1, iv x2, iv x3, iv x4, iv (0 : Int32), iv (3 : Int32), iv c7, iv c8, iv c9, rv b203, rv b209, .val .null, .unset, .unset, .unset]) rfl ?_
        show SS p e below T252 (mkF m 142 #[iv x0, iv x1, iv x2, iv x3, iv x4, iv (0 : Int32), iv (3 : Int32), iv c7, iv c8, iv c9, rv b203, rv b209, .val .null, .unset, .unset, .unset] []) t
        exact k)
      obtain ⟨T253, h253, X253, e253, E253, A253, D253, -, st253⟩ := newO X252 hx hZ hown (own_t hw 99 rfl) (own_t hw 100 rfl) (own_t hw 101 rfl) rfl (g := (mkF m 142 #[iv x0, iv x1, iv x2, iv x3, iv x4, iv (0 : Int32), iv (3 : Int32), iv c7, iv c8, iv c9, rv b203, rv b209, .val .null, .unset, .unset, .unset] [])) rfl (hb hby at_142) (by decide) (by decide)
      obtain ⟨b253, g253⟩ : ∃ z, z = T252.heap.size := ⟨_, rfl⟩
      rw [← g253] at A253 D253 st253
      replace pre : Pth p e below S0 T253 (mkF m 145 #[iv x0, iv x1, iv x2, iv x3, iv x4, iv (0 : Int32), iv (3 : Int32), iv c7, iv c8, iv c9, rv b203, rv b209, .val .null, .unset, .unset, .unset] [(.ref b253)]) := fun t k => pre t (st253 _ k)
      have Wa : Fld Z h253 b253 "com/example/sheaf/sheaf/cbor/TextStringItem" "value" "Ljava/lang/String;" .null := D253 (Or.inr (own_t hw 112 rfl)) (ty := (.object "java/lang/String")) (by decide)
      have Wb : Fld Z h253 b253 "com/example/sheaf/sheaf/cbor/TextStringItem" "chunks" "Ljava/util/List;" .null := D253 (Or.inr (own_t hw 114 rfl)) (ty := (.object "java/util/List")) (by decide)
      have sT : h0.size ≤ b253 := by rw [g253]; exact EX.1
      replace EX := own_ext_trans EX E253
      replace pre : Pth p e below S0 T253 (mkF m 150 #[iv x0, iv x1, iv x2, iv x3, iv x4, iv (0 : Int32), iv (3 : Int32), iv c7, iv c8, iv c9, rv b203, rv b209, .val .null, .unset, .unset, .unset] [.null, (.ref b203), (.ref b253), (.ref b253)]) := fun t k => pre t (by
        show SS p e below T253 (mkF m 145 #[iv x0, iv x1, iv x2, iv x3, iv x4, iv (0 : Int32), iv (3 : Int32), iv c7, iv c8, iv c9, rv b203, rv b209, .val .null, .unset, .unset, .unset] [(.ref b253)]) t
        refine XS.dup X253.here hx rfl (hb hby at_145) rfl rfl ?_
        show SS p e below T253 (mkF m 146 #[iv x0, iv x1, iv x2, iv x3, iv x4, iv (0 : Int32), iv (3 : Int32), iv c7, iv c8, iv c9, rv b203, rv b209, .val .null, .unset, .unset, .unset] [(.ref b253), (.ref b253)]) t
        refine XS.aload X253.here hx rfl (hb hby at_146) rfl rfl ?_
        show SS p e below T253 (mkF m 148 #[iv x0, iv x1, iv x2, iv x3, iv x4, iv (0 : Int32), iv (3 : Int32), iv c7, iv c8, iv c9, rv b203, rv b209, .val .null, .unset, .unset, .unset] [(.ref b203), (.ref b253), (.ref b253)]) t
        refine XS.aload X253.here hx rfl (hb hby at_148) rfl rfl ?_
        show SS p e below T253 (mkF m 150 #[iv x0, iv x1, iv x2, iv x3, iv x4, iv (0 : Int32), iv (3 : Int32), iv c7, iv c8, iv c9, rv b203, rv b209, .val .null, .unset, .unset, .unset] [.null, (.ref b203), (.ref b253), (.ref b253)]) t
        exact k)
      obtain ⟨_, _, ⟨T254, L254, k254, n254⟩, -, X254, ⟨Lc254, hQ254, l254, y254, z254⟩, st254⟩ := X253.specialBack hx (y := (⟨"com/example/sheaf/sheaf/cbor/TextStringItem", "<init>", "(Ljava/lang/String;Ljava/util/List;)V"⟩ : MethodName)) rfl hown (mvT hZ (own_t hw 102 rfl)) (mvT hZ (own_t hw 103 rfl)) (mvT hZ (own_t hw 104 rfl)) (by decide) (backOf (W := 1) (rm_tin l Z a0 hw [] b253 b203 h253 n0 (Nat.le_trans Z0 sT) A253 Wa Wb) hZ (own_t hw 104 rfl) (own_t hw 101 rfl) (by decide) (by decide)) (g := (mkF m 150 #[iv x0, iv x1, iv x2, iv x3, iv x4, iv (0 : Int32), iv (3 : Int32), iv c7, iv c8, iv c9, rv b203, rv b209, .val .null, .unset, .unset, .unset] [.null, (.ref b203), (.ref b253), (.ref b253)])) rfl (by rw [hml]; rfl) (Steps.refl _) (a := b253) (argsL := [(.ref b203), .null]) (rest := [(.ref b253)]) (lenOf pd__Ljava_lang_String_Ljava_util_List__V rfl) rfl (by show 2 * 0 + _ ≤ _; exact Nat.le_of_eq rfl) (hb hby at_150) (fun _ _ => ⟨rfl, e253, (by decide : 12 + 0 ≤ _), (by decide : 40 + 0 ≤ _)⟩)
      dsimp only [Pt.U, Pt.locs, Pt.cells, Pt.slots] at X254 l254 y254 z254 st254 hQ254
      subst l254 y254 z254
      obtain ⟨rfl, N254q, K254, A254, F254⟩ := hQ254
      have N254 := Fr.app N252 N254q
      replace pre : Pth p e below S0 T254 (mkF m 153 #[iv x0, iv x1, iv x2, iv x3, iv x4, iv (0 : Int32), iv (3 : Int32), iv c7, iv c8, iv c9, rv b203, rv b209, .val .null, .unset, .unset, .unset] [(.ref b253)]) := fun t k => pre t (st254.trans k)
      replace EX := own_ext_keep EX K254 (fun z hz => by rw [List.mem_singleton.mp hz]; exact sT)
      replace pre : Pth p e below S0 T254 (mkF m 157 #[iv x0, iv x1, iv x2, iv x3, iv x4, iv (0 : Int32), iv (3 : Int32), iv c7, iv c8, iv c9, rv b203, rv b209, .val .null, rv b253, .unset, .unset] [(.ref b253)]) := fun t k => pre t (by
        show SS p e below T254 (mkF m 153 #[iv x0, iv x1, iv x2, iv x3, iv x4, iv (0 : Int32), iv (3 : Int32), iv c7, iv c8, iv c9, rv b203, rv b209, .val .null, .unset, .unset, .unset] [(.ref b253)]) t
        refine XS.astore X254.here hx rfl (hb hby at_153) rfl rfl (l' := #[iv x0, iv x1, iv x2, iv x3, iv x4, iv (0 : Int32), iv (3 : Int32), iv c7, iv c8, iv c9, rv b203, rv b209, .val .null, rv b253, .unset, .unset]) rfl ?_
        show SS p e below T254 (mkF m 155 #[iv x0, iv x1, iv x2, iv x3, iv x4, iv (0 : Int32), iv (3 : Int32), iv c7, iv c8, iv c9, rv b203, rv b209, .val .null, rv b253, .unset, .unset] []) t
        refine XS.aload X254.here hx rfl (hb hby at_155) rfl rfl ?_
        show SS p e below T254 (mkF m 157 #[iv x0, iv x1, iv x2, iv x3, iv x4, iv (0 : Int32), iv (3 : Int32), iv c7, iv c8, iv c9, rv b203, rv b209, .val .null, rv b253, .unset, .unset] [(.ref b253)]) t
        exact k)
      obtain ⟨cq255, kq255, q255a, q255b, q255c⟩ := isOf hZ rfl A254
      obtain ⟨_, _, ⟨T255, L255, k255, n255⟩, -, X255, ⟨Lc255, hQ255, l255, y255, z255⟩, st255⟩ := X254.virtualBack hx (y := (⟨"com/example/sheaf/sheaf/cbor/TextStringItem", "isIndefinite", "()Z"⟩ : MethodName)) (z := (⟨"com/example/sheaf/sheaf/cbor/TextStringItem", "isIndefinite", "()Z"⟩ : MethodName)) hown (mvT hZ (own_t hw 115 rfl)) (mvT hZ (own_t hw 116 rfl)) (notFace_of_selects (args := #[]) (mvT hZ (own_t hw 118 rfl))) (mvT hZ (own_t hw 118 rfl)) (mvT hZ (own_t hw 117 rfl)) (by decide) (backOf (W := 0) (rm_ii0 l Z a0 hw [] b253 el T254.heap n0 F254) hZ (own_t hw 119 rfl) (own_t hw 101 rfl) (by decide) (by decide)) q255a q255c (g := (mkF m 157 #[iv x0, iv x1, iv x2, iv x3, iv x4, iv (0 : Int32), iv (3 : Int32), iv c7, iv c8, iv c9, rv b203, rv b209, .val .null, rv b253, .unset, .unset] [(.ref b253)])) rfl (by rw [hml]; rfl) (Steps.refl _) (argsL := []) (rest := []) (lenOf pd___Z rfl) rfl (by show 2 * 0 + _ ≤ _; exact Nat.le_of_eq rfl) (hb hby at_157) (fun _ _ => ⟨rfl, rfl, (by decide : 12 + 0 ≤ _), (by decide : 40 + 0 ≤ _)⟩)
      dsimp only [Pt.U, Pt.locs, Pt.cells, Pt.slots] at X255 l255 y255 z255 st255 hQ255
      subst l255 y255 z255
      obtain ⟨rfl, N255q, e255⟩ := hQ255
      have N255 := Fr.app N254 N255q
      replace pre : Pth p e below S0 T255 (mkF m 160 #[iv x0, iv x1, iv x2, iv x3, iv x4, iv (0 : Int32), iv (3 : Int32), iv c7, iv c8, iv c9, rv b203, rv b209, .val .null, rv b253, .unset, .unset] [(.int (0 : Int32))]) := fun t k => pre t (st255.trans k)
      replace pre : Pth p e below S0 T255 (mkF m 164 #[iv x0, iv x1, iv x2, iv x3, iv x4, iv (0 : Int32), iv (3 : Int32), iv c7, iv c8, iv c9, rv b203, rv b209, .val .null, rv b253, iv (0 : Int32), .unset] [(.ref b253)]) := fun t k => pre t (by
        show SS p e below T255 (mkF m 160 #[iv x0, iv x1, iv x2, iv x3, iv x4, iv (0 : Int32), iv (3 : Int32), iv c7, iv c8, iv c9, rv b203, rv b209, .val .null, rv b253, .unset, .unset] [(.int (0 : Int32))]) t
        refine XS.istore X255.here hx rfl (hb hby at_160) rfl (l' := #[iv x0, iv x1, iv x2, iv x3, iv x4, iv (0 : Int32), iv (3 : Int32), iv c7, iv c8, iv c9, rv b203, rv b209, .val .null, rv b253, iv (0 : Int32), .unset]) rfl ?_
        show SS p e below T255 (mkF m 162 #[iv x0, iv x1, iv x2, iv x3, iv x4, iv (0 : Int32), iv (3 : Int32), iv c7, iv c8, iv c9, rv b203, rv b209, .val .null, rv b253, iv (0 : Int32), .unset] []) t
        refine XS.aload X255.here hx rfl (hb hby at_162) rfl rfl ?_
        show SS p e below T255 (mkF m 164 #[iv x0, iv x1, iv x2, iv x3, iv x4, iv (0 : Int32), iv (3 : Int32), iv c7, iv c8, iv c9, rv b203, rv b209, .val .null, rv b253, iv (0 : Int32), .unset] [(.ref b253)]) t
        exact k)
      obtain ⟨cq256, kq256, q256a, q256b, q256c⟩ := isOf hZ e255 A254
      obtain ⟨_, _, ⟨T256, L256, k256, n256⟩, -, X256, ⟨Lc256, hQ256, l256, y256, z256⟩, st256⟩ := X255.virtualBack hx (y := (⟨"com/example/sheaf/sheaf/cbor/TextStringItem", "chunks", "()Ljava/util/List;"⟩ : MethodName)) (z := (⟨"com/example/sheaf/sheaf/cbor/TextStringItem", "chunks", "()Ljava/util/List;"⟩ : MethodName)) hown (mvT hZ (own_t hw 120 rfl)) (mvT hZ (own_t hw 121 rfl)) (notFace_of_selects (args := #[]) (mvT hZ (own_t hw 123 rfl))) (mvT hZ (own_t hw 123 rfl)) (mvT hZ (own_t hw 122 rfl)) (by decide) (backOf (W := 0) (rm_ck0 l Z a0 hw [] b253 el T254.heap n0 F254 (Sel.ext EX)) hZ (own_t hw 124 rfl) (own_t hw 101 rfl) (by decide) (by decide)) q256a q256c (g := (mkF m 164 #[iv x0, iv x1, iv x2, iv x3, iv x4, iv (0 : Int32), iv (3 : Int32), iv c7, iv c8, iv c9, rv b203, rv b209, .val .null, rv b253, iv (0 : Int32), .unset] [(.ref b253)])) rfl (by rw [hml]; rfl) (Steps.refl _) (argsL := []) (rest := []) (lenOf pd___Ljava_util_List_ rfl) rfl (by show 2 * 0 + _ ≤ _; exact Nat.le_of_eq rfl) (hb hby at_164) (fun _ _ => ⟨rfl, e255, (by decide : 12 + 0 ≤ _), (by decide : 40 + 0 ≤ _)⟩)
      dsimp only [Pt.U, Pt.locs, Pt.cells, Pt.slots] at X256 l256 y256 z256 st256 hQ256
      subst l256 y256 z256
      obtain ⟨rfl, N256q, e256⟩ := hQ256
      have N256 := Fr.app N255 N256q
      replace pre : Pth p e below S0 T256 (mkF m 167 #[iv x0, iv x1, iv x2, iv x3, iv x4, iv (0 : Int32), iv (3 : Int32), iv c7, iv c8, iv c9, rv b203, rv b209, .val .null, rv b253, iv (0 : Int32), .unset] [(.ref el)]) := fun t k => pre t (st256.trans k)
      obtain ⟨cq257, kq257, q257a, q257b, q257c⟩ := isOf hZ e256 (Eel.ext EX)
      obtain ⟨_, _, ⟨T257, L257, k257, n257⟩, -, X257, ⟨Lc257, hQ257, l257, y257, z257⟩, st257⟩ := X256.interfaceBack hx (xi := (⟨"java/util/List", "size", "()I"⟩ : MethodName)) (y := (⟨"java/util/ImmutableCollections$ListN", "size", "()I"⟩ : MethodName)) hown (mvT hZ (own_t hw 131 rfl)) (mvT hZ (own_t hw 132 rfl)) (mvT hZ (own_t hw 133 rfl)) (mvT hZ (own_t hw 134 rfl)) (mvT hZ (own_t hw 135 rfl)) (mvT hZ (own_t hw 136 rfl)) (mvT hZ (own_t hw 137 rfl)) (mvT hZ (own_t hw 138 rfl)) (by decide) (backOf (W := 0) (rm_lns0 l Z a0 hw [] el eb fe T254.heap n0 (Fel.ext EX) (Fe0.ext EX)) hZ (own_t hw 140 rfl) (own_t hw 139 rfl) (by decide) (by decide)) q257a q257b q257c (g := (mkF m 167 #[iv x0, iv x1, iv x2, iv x3, iv x4, iv (0 : Int32), iv (3 : Int32), iv c7, iv c8, iv c9, rv b203, rv b209, .val .null, rv b253, iv (0 : Int32), .unset] [(.ref el)])) rfl (by rw [hml]; rfl) (Steps.refl _) (argsL := []) (rest := []) (lenOf pd___I rfl) rfl (by show 2 * 0 + _ ≤ _; exact Nat.le_of_eq rfl) (hb hby at_167) (fun _ _ => ⟨rfl, e256, (by decide : 12 + 0 ≤ _), (by decide : 40 + 0 ≤ _)⟩)
      dsimp only [Pt.U, Pt.locs, Pt.cells, Pt.slots] at X257 l257 y257 z257 st257 hQ257
      subst l257 y257 z257
      obtain ⟨rfl, N257q, e257⟩ := hQ257
      have N257 := Fr.app N256 N257q
      replace pre : Pth p e below S0 T257 (mkF m 172 #[iv x0, iv x1, iv x2, iv x3, iv x4, iv (0 : Int32), iv (3 : Int32), iv c7, iv c8, iv c9, rv b203, rv b209, .val .null, rv b253, iv (0 : Int32), .unset] [(.int (0 : Int32))]) := fun t k => pre t (st257.trans k)
      replace pre : Pth p e below S0 T257 (mkF m 202 #[iv x0, iv x1, iv x2, iv x3, iv x4, iv (0 : Int32), iv (3 : Int32), iv c7, iv c8, iv c9, rv b203, rv b209, .val .null, rv b253, iv (0 : Int32), iv (0 : Int32)] [(.int (1 : Int32))]) := fun t k => pre t (by
        show SS p e below T257 (mkF m 172 #[iv x0, iv x1, iv x2, iv x3, iv x4, iv (0 : Int32), iv (3 : Int32), iv c7, iv c8, iv c9, rv b203, rv b209, .val .null, rv b253, iv (0 : Int32), .unset] [(.int (0 : Int32))]) t
        refine XS.istore X257.here hx rfl (hb hby at_172) rfl (l' := #[iv x0, iv x1, iv x2, iv x3, iv x4, iv (0 : Int32), iv (3 : Int32), iv c7, iv c8, iv c9, rv b203, rv b209, .val .null, rv b253, iv (0 : Int32), iv (0 : Int32)]) rfl ?_
        show SS p e below T257 (mkF m 174 #[iv x0, iv x1, iv x2, iv x3, iv x4, iv (0 : Int32), iv (3 : Int32), iv c7, iv c8, iv c9, rv b203, rv b209, .val .null, rv b253, iv (0 : Int32), iv (0 : Int32)] []) t
        refine XS.iload X257.here hx rfl (hb hby at_174) rfl ?_
        show SS p e below T257 (mkF m 176 #[iv x0, iv x1, iv x2, iv x3, iv x4, iv (0 : Int32), iv (3 : Int32), iv c7, iv c8, iv c9, rv b203, rv b209, .val .null, rv b253, iv (0 : Int32), iv (0 : Int32)] [(.int (0 : Int32))]) t
        refine XS.iload X257.here hx rfl (hb hby at_176) rfl ?_
        show SS p e below T257 (mkF m 178 #[iv x0, iv x1, iv x2, iv x3, iv x4, iv (0 : Int32), iv (3 : Int32), iv c7, iv c8, iv c9, rv b203, rv b209, .val .null, rv b253, iv (0 : Int32), iv (0 : Int32)] [(.int (0 : Int32)), (.int (0 : Int32))]) t
        refine XS.icmpNo X257.here hx rfl (hb hby at_178) rfl (XT.ii_ne_f rfl) ?_
        show SS p e below T257 (mkF m 181 #[iv x0, iv x1, iv x2, iv x3, iv x4, iv (0 : Int32), iv (3 : Int32), iv c7, iv c8, iv c9, rv b203, rv b209, .val .null, rv b253, iv (0 : Int32), iv (0 : Int32)] []) t
        refine XS.iload X257.here hx rfl (hb hby at_181) rfl ?_
        show SS p e below T257 (mkF m 183 #[iv x0, iv x1, iv x2, iv x3, iv x4, iv (0 : Int32), iv (3 : Int32), iv c7, iv c8, iv c9, rv b203, rv b209, .val .null, rv b253, iv (0 : Int32), iv (0 : Int32)] [(.int (0 : Int32))]) t
        refine XS.iload X257.here hx rfl (hb hby at_183) rfl ?_
        show SS p e below T257 (mkF m 185 #[iv x0, iv x1, iv x2, iv x3, iv x4, iv (0 : Int32), iv (3 : Int32), iv c7, iv c8, iv c9, rv b203, rv b209, .val .null, rv b253, iv (0 : Int32), iv (0 : Int32)] [(.int (0 : Int32)), (.int (0 : Int32))]) t
        refine XS.ifYes X257.here hx rfl (pc0 := 185) (pc' := 193) rfl (hb hby at_185) rfl (XT.i0_eq_t rfl) (by decide) (by decide) ?_
        show SS p e below T257 (mkF m 193 #[iv x0, iv x1, iv x2, iv x3, iv x4, iv (0 : Int32), iv (3 : Int32), iv c7, iv c8, iv c9, rv b203, rv b209, .val .null, rv b253, iv (0 : Int32), iv (0 : Int32)] [(.int (0 : Int32))]) t
        refine XS.iconst X257.here hx rfl (hb hby at_193) ?_
        show SS p e below T257 (mkF m 194 #[iv x0, iv x1, iv x2, iv x3, iv x4, iv (0 : Int32), iv (3 : Int32), iv c7, iv c8, iv c9, rv b203, rv b209, .val .null, rv b253, iv (0 : Int32), iv (0 : Int32)] [(.int (0 : Int32)), (.int (0 : Int32))]) t
        refine XS.icmpNo X257.here hx rfl (hb hby at_194) rfl (XT.ii_ne_f rfl) ?_
        show SS p e below T257 (mkF m 197 #[iv x0, iv x1, iv x2, iv x3, iv x4, iv (0 : Int32), iv (3 : Int32), iv c7, iv c8, iv c9, rv b203, rv b209, .val .null, rv b253, iv (0 : Int32), iv (0 : Int32)] []) t
        refine XS.iconst X257.here hx rfl (hb hby at_197) ?_
        show SS p e below T257 (mkF m 198 #[iv x0, iv x1, iv x2, iv x3, iv x4, iv (0 : Int32), iv (3 : Int32), iv c7, iv c8, iv c9, rv b203, rv b209, .val .null, rv b253, iv (0 : Int32), iv (0 : Int32)] [(.int (1 : Int32))]) t
        refine XS.goto X257.here hx rfl (pc0 := 198) (pc' := 202) rfl (hb hby at_198) (by decide) (by decide) ?_
        show SS p e below T257 (mkF m 202 #[iv x0, iv x1, iv x2, iv x3, iv x4, iv (0 : Int32), iv (3 : Int32), iv c7, iv c8, iv c9, rv b203, rv b209, .val .null, rv b253, iv (0 : Int32), iv (0 : Int32)] [(.int (1 : Int32))]) t
        exact k)
      obtain ⟨fs, hr, hrun, hended, hW, hsame⟩ := X257.leave (v := some (.int (1 : Int32))) (fun h => by rw [Bd.returns] at h; cases h)
      subst hS0
      refine ⟨_, _, pre _ ?_, hrun, hended, _, _, rfl, ?_, ⟨_, rfl⟩, hW, hsame.mono (by decide) (by decide)⟩
      · exact retN X257 hx (t := .boolean) Bd.returns (by simp) (hb hby at_202) hr
      · show Q_law Z x0 x1 x2 x3 x4 cz dc el eb em mr fd fe h0 n0 _ T257.heap _
        rw [e257]
        exact ⟨rfl, N257⟩
    · replace pre : Pth p e below S0 T252 (mkF m 131 #[iv x0, iv x1, iv x2, iv x3, iv x4, iv (1 : Int32), iv (3 : Int32), iv c7, iv c8, iv c9, rv b203, rv b209, .unset, .unset, .unset, .unset] [(.int (1 : Int32))]) := pre
      replace pre : Pth p e below S0 T252 (mkF m 142 #[iv x0, iv x1, iv x2, iv x3, iv x4, iv (1 : Int32), iv (3 : Int32), iv c7, iv c8, iv c9, rv b203, rv b209, rv b209, .unset, .unset, .unset] []) := fun t k => pre t (by
        show SS p e below T252 (mkF m 131 #[iv x0, iv x1, iv x2, iv x3, iv x4, iv (1 : Int32), iv (3 : Int32), iv c7, iv c8, iv c9, rv b203, rv b209, .unset, .unset, .unset, .unset] [(.int (1 : Int32))]) t
        refine XS.ifNo X252.here hx rfl (hb hby at_131) rfl (XT.i0_eq_f (by decide)) ?_
        show SS p e below T252 (mkF m 134 #[iv x0, iv x1, iv x2, iv x3, iv x4, iv (1 : Int32), iv (3 : Int32), iv c7, iv c8, iv c9, rv b203, rv b209, .unset, .unset, .unset, .unset] []) t
        refine XS.aload X252.here hx rfl (hb hby at_134) rfl rfl ?_
        show SS p e below T252 (mkF m 136 #[iv x0, iv x1, iv x2, iv x3, iv x4, iv (1 : Int32), iv (3 : Int32), iv c7, iv c8, iv c9, rv b203, rv b209, .unset, .unset, .unset, .unset] [(.ref b209)]) t
        refine XS.goto X252.here hx rfl (pc0 := 136) (pc' := 140) rfl (hb hby at_136) (by decide) (by decide) ?_
        show SS p e below T252 (mkF m 140 #[iv x0, iv x1, iv x2, iv x3, iv x4, iv (1 : Int32), iv (3 : Int32), iv c7, iv c8, iv c9, rv b203, rv b209, .unset, .unset, .unset, .unset] [(.ref b209)]) t
        refine XS.astore X252.here hx rfl (hb hby at_140) rfl rfl (l' := #[iv x0, iv x1, iv x2, iv x3, iv x4, iv (1 : Int32), iv (3 : Int32), iv c7, iv c8, iv c9, rv b203, rv b209, rv b209, .unset, .unset, .unset]) rfl ?_
        show SS p e below T252 (mkF m 142 #[iv x0, iv x1, iv x2, iv x3, iv x4, iv (1 : Int32), iv (3 : Int32), iv c7, iv c8, iv c9, rv b203, rv b209, rv b209, .unset, .unset, .unset] []) t
        exact k)
      obtain ⟨T258, h258, X258, e258, E258, A258, D258, -, st258⟩ := newO X252 hx hZ hown (own_t hw 99 rfl) (own_t hw 100 rfl) (own_t hw 101 rfl) rfl (g := (mkF m 142 #[iv x0, iv x1, iv x2, iv x3, iv x4, iv (1 : Int32), iv (3 : Int32), iv c7, iv c8, iv c9, rv b203, rv b209, rv b209, .unset, .unset, .unset] [])) rfl (hb hby at_142) (by decide) (by decide)
      obtain ⟨b258, g258⟩ : ∃ z, z = T252.heap.size := ⟨_, rfl⟩
      rw [← g258] at A258 D258 st258
      replace pre : Pth p e below S0 T258 (mkF m 145 #[iv x0, iv x1, iv x2, iv x3, iv x4, iv (1 : Int32), iv (3 : Int32), iv c7, iv c8, iv c9, rv b203, rv b209, rv b209, .unset, .unset, .unset] [(.ref b258)]) := fun t k => pre t (st258 _ k)
      have Wa : Fld Z h258 b258 "com/example/sheaf/sheaf/cbor/TextStringItem" "value" "Ljava/lang/String;" .null := D258 (Or.inr (own_t hw 112 rfl)) (ty := (.object "java/lang/String")) (by decide)
      have Wb : Fld Z h258 b258 "com/example/sheaf/sheaf/cbor/TextStringItem" "chunks" "Ljava/util/List;" .null := D258 (Or.inr (own_t hw 114 rfl)) (ty := (.object "java/util/List")) (by decide)
      have sT : h0.size ≤ b258 := by rw [g258]; exact EX.1
      replace EX := own_ext_trans EX E258
      replace hA := hA.ext E258
      replace hO := hO.ext E258
      replace G1 := G1.ext E258
      have J1 := Ins.of_exa G1 (own_t hw 98 rfl)
      replace G2 := G2.ext E258
      have J2 := Ins.of_exa G2 (own_t hw 98 rfl)
      replace G3 := G3.ext E258
      have J3 := Ins.of_exa G3 (own_t hw 98 rfl)
      replace pre : Pth p e below S0 T258 (mkF m 150 #[iv x0, iv x1, iv x2, iv x3, iv x4, iv (1 : Int32), iv (3 : Int32), iv c7, iv c8, iv c9, rv b203, rv b209, rv b209, .unset, .unset, .unset] [(.ref b209), (.ref b203), (.ref b258), (.ref b258)]) := fun t k => pre t (by
        show SS p e below T258 (mkF m 145 #[iv x0, iv x1, iv x2, iv x3, iv x4, iv (1 : Int32), iv (3 : Int32), iv c7, iv c8, iv c9, rv b203, rv b209, rv b209, .unset, .unset, .unset] [(.ref b258)]) t
        refine XS.dup X258.here hx rfl (hb hby at_145) rfl rfl ?_
        show SS p e below T258 (mkF m 146 #[iv x0, iv x1, iv x2, iv x3, iv x4, iv (1 : Int32), iv (3 : Int32), iv c7, iv c8, iv c9, rv b203, rv b209, rv b209, .unset, .unset, .unset] [(.ref b258), (.ref b258)]) t
        refine XS.aload X258.here hx rfl (hb hby at_146) rfl rfl ?_
        show SS p e below T258 (mkF m 148 #[iv x0, iv x1, iv x2, iv x3, iv x4, iv (1 : Int32), iv (3 : Int32), iv c7, iv c8, iv c9, rv b203, rv b209, rv b209, .unset, .unset, .unset] [(.ref b203), (.ref b258), (.ref b258)]) t
        refine XS.aload X258.here hx rfl (hb hby at_148) rfl rfl ?_
        show SS p e below T258 (mkF m 150 #[iv x0, iv x1, iv x2, iv x3, iv x4, iv (1 : Int32), iv (3 : Int32), iv c7, iv c8, iv c9, rv b203, rv b209, rv b209, .unset, .unset, .unset] [(.ref b209), (.ref b203), (.ref b258), (.ref b258)]) t
        exact k)
      obtain ⟨_, _, ⟨T259, L259, k259, n259⟩, -, X259, ⟨Lc259, hQ259, l259, y259, z259⟩, st259⟩ := X258.specialBack hx (y := (⟨"com/example/sheaf/sheaf/cbor/TextStringItem", "<init>", "(Ljava/lang/String;Ljava/util/List;)V"⟩ : MethodName)) rfl hown (mvT hZ (own_t hw 102 rfl)) (mvT hZ (own_t hw 103 rfl)) (mvT hZ (own_t hw 104 rfl)) (by decide) (backOf (W := 1) (rm_ti3 l Z a0 hw [] b258 b203 b209 ba mr _ _ s1 s2 s3 h258 n0 (Nat.le_trans Z0 EX.1) (Nat.le_trans Z0 sT) A258 Wa Wb hA M hO (own_hf_cons (own_hf_cons (own_hf_cons own_hf_nil J1) J2) J3) rfl rfl rfl J1 J2 J3) hZ (own_t hw 104 rfl) (own_t hw 101 rfl) (by decide) (by decide)) (g := (mkF m 150 #[iv x0, iv x1, iv x2, iv x3, iv x4, iv (1 : Int32), iv (3 : Int32), iv c7, iv c8, iv c9, rv b203, rv b209, rv b209, .unset, .unset, .unset] [(.ref b209), (.ref b203), (.ref b258), (.ref b258)])) rfl (by rw [hml]; rfl) (Steps.refl _) (a := b258) (argsL := [(.ref b203), (.ref b209)]) (rest := [(.ref b258)]) (lenOf pd__Ljava_lang_String_Ljava_util_List__V rfl) rfl (by show 2 * 0 + _ ≤ _; exact Nat.le_of_eq rfl) (hb hby at_150) (fun _ _ => ⟨rfl, e258, (by decide : 12 + 3 ≤ _), (by decide : 40 + 8 ≤ _)⟩)
      dsimp only [Pt.U, Pt.locs, Pt.cells, Pt.slots] at X259 l259 y259 z259 st259 hQ259
      subst l259 y259 z259
      obtain ⟨rfl, N259q, K259, A259, rr, F259, O259⟩ := hQ259
      have N259 := Fr.app N252 N259q
      replace pre : Pth p e below S0 T259 (mkF m 153 #[iv x0, iv x1, iv x2, iv x3, iv x4, iv (1 : Int32), iv (3 : Int32), iv c7, iv c8, iv c9, rv b203, rv b209, rv b209, .unset, .unset, .unset] [(.ref b258)]) := fun t k => pre t (st259.trans k)
      replace EX := own_ext_keep EX K259 (fun z hz => by rw [List.mem_singleton.mp hz]; exact sT)
      replace pre : Pth p e below S0 T259 (mkF m 157 #[iv x0, iv x1, iv x2, iv x3, iv x4, iv (1 : Int32), iv (3 : Int32), iv c7, iv c8, iv c9, rv b203, rv b209, rv b209, rv b258, .unset, .unset] [(.ref b258)]) := fun t k => pre t (by
        show SS p e below T259 (mkF m 153 #[iv x0, iv x1, iv x2, iv x3, iv x4, iv (1 : Int32), iv (3 : Int32), iv c7, iv c8, iv c9, rv b203, rv b209, rv b209, .unset, .unset, .unset] [(.ref b258)]) t
        refine XS.astore X259.here hx rfl (hb hby at_153) rfl rfl (l' := #[iv x0, iv x1, iv x2, iv x3, iv x4, iv (1 : Int32), iv (3 : Int32), iv c7, iv c8, iv c9, rv b203, rv b209, rv b209, rv b258, .unset, .unset]) rfl ?_
        show SS p e below T259 (mkF m 155 #[iv x0, iv x1, iv x2, iv x3, iv x4, iv (1 : Int32), iv (3 : Int32), iv c7, iv c8, iv c9, rv b203, rv b209, rv b209, rv b258, .unset, .unset] []) t
        refine XS.aload X259.here hx rfl (hb hby at_155) rfl rfl ?_
        show SS p e below T259 (mkF m 157 #[iv x0, iv x1, iv x2, iv x3, iv x4, iv (1 : Int32), iv (3 : Int32), iv c7, iv c8, iv c9, rv b203, rv b209, rv b209, rv b258, .unset, .unset] [(.ref b258)]) t
        exact k)
      obtain ⟨cq260, kq260, q260a, q260b, q260c⟩ := isOf hZ rfl A259
      obtain ⟨_, _, ⟨T260, L260, k260, n260⟩, -, X260, ⟨Lc260, hQ260, l260, y260, z260⟩, st260⟩ := X259.virtualBack hx (y := (⟨"com/example/sheaf/sheaf/cbor/TextStringItem", "isIndefinite", "()Z"⟩ : MethodName)) (z := (⟨"com/example/sheaf/sheaf/cbor/TextStringItem", "isIndefinite", "()Z"⟩ : MethodName)) hown (mvT hZ (own_t hw 115 rfl)) (mvT hZ (own_t hw 116 rfl)) (notFace_of_selects (args := #[]) (mvT hZ (own_t hw 118 rfl))) (mvT hZ (own_t hw 118 rfl)) (mvT hZ (own_t hw 117 rfl)) (by decide) (backOf (W := 0) (rm_ii1 l Z a0 hw [] b258 rr T259.heap n0 F259) hZ (own_t hw 119 rfl) (own_t hw 101 rfl) (by decide) (by decide)) q260a q260c (g := (mkF m 157 #[iv x0, iv x1, iv x2, iv x3, iv x4, iv (1 : Int32), iv (3 : Int32), iv c7, iv c8, iv c9, rv b203, rv b209, rv b209, rv b258, .unset, .unset] [(.ref b258)])) rfl (by rw [hml]; rfl) (Steps.refl _) (argsL := []) (rest := []) (lenOf pd___Z rfl) rfl (by show 2 * 0 + _ ≤ _; exact Nat.le_of_eq rfl) (hb hby at_157) (fun _ _ => ⟨rfl, rfl, (by decide : 15 + 0 ≤ _), (by decide : 48 + 0 ≤ _)⟩)
      dsimp only [Pt.U, Pt.locs, Pt.cells, Pt.slots] at X260 l260 y260 z260 st260 hQ260
      subst l260 y260 z260
      obtain ⟨rfl, N260q, e260⟩ := hQ260
      have N260 := Fr.app N259 N260q
      replace pre : Pth p e below S0 T260 (mkF m 160 #[iv x0, iv x1, iv x2, iv x3, iv x4, iv (1 : Int32), iv (3 : Int32), iv c7, iv c8, iv c9, rv b203, rv b209, rv b209, rv b258, .unset, .unset] [(.int (1 : Int32))]) := fun t k => pre t (st260.trans k)
      replace pre : Pth p e below S0 T260 (mkF m 164 #[iv x0, iv x1, iv x2, iv x3, iv x4, iv (1 : Int32), iv (3 : Int32), iv c7, iv c8, iv c9, rv b203, rv b209, rv b209, rv b258, iv (1 : Int32), .unset] [(.ref b258)]) := fun t k => pre t (by
        show SS p e below T260 (mkF m 160 #[iv x0, iv x1, iv x2, iv x3, iv x4, iv (1 : Int32), iv (3 : Int32), iv c7, iv c8, iv c9, rv b203, rv b209, rv b209, rv b258, .unset, .unset] [(.int (1 : Int32))]) t
        refine XS.istore X260.here hx rfl (hb hby at_160) rfl (l' := #[iv x0, iv x1, iv x2, iv x3, iv x4, iv (1 : Int32), iv (3 : Int32), iv c7, iv c8, iv c9, rv b203, rv b209, rv b209, rv b258, iv (1 : Int32), .unset]) rfl ?_
        show SS p e below T260 (mkF m 162 #[iv x0, iv x1, iv x2, iv x3, iv x4, iv (1 : Int32), iv (3 : Int32), iv c7, iv c8, iv c9, rv b203, rv b209, rv b209, rv b258, iv (1 : Int32), .unset] []) t
        refine XS.aload X260.here hx rfl (hb hby at_162) rfl rfl ?_
        show SS p e below T260 (mkF m 164 #[iv x0, iv x1, iv x2, iv x3, iv x4, iv (1 : Int32), iv (3 : Int32), iv c7, iv c8, iv c9, rv b203, rv b209, rv b209, rv b258, iv (1 : Int32), .unset] [(.ref b258)]) t
        exact k)
      obtain ⟨cq261, kq261, q261a, q261b, q261c⟩ := isOf hZ e260 A259
      obtain ⟨_, _, ⟨T261, L261, k261, n261⟩, -, X261, ⟨Lc261, hQ261, l261, y261, z261⟩, st261⟩ := X260.virtualBack hx (y := (⟨"com/example/sheaf/sheaf/cbor/TextStringItem", "chunks", "()Ljava/util/List;"⟩ : MethodName)) (z := (⟨"com/example/sheaf/sheaf/cbor/TextStringItem", "chunks", "()Ljava/util/List;"⟩ : MethodName)) hown (mvT hZ (own_t hw 120 rfl)) (mvT hZ (own_t hw 121 rfl)) (notFace_of_selects (args := #[]) (mvT hZ (own_t hw 123 rfl))) (mvT hZ (own_t hw 123 rfl)) (mvT hZ (own_t hw 122 rfl)) (by decide) (backOf (W := 0) (rm_ck1 l Z a0 hw [] b258 rr T259.heap n0 F259) hZ (own_t hw 124 rfl) (own_t hw 101 rfl) (by decide) (by decide)) q261a q261c (g := (mkF m 164 #[iv x0, iv x1, iv x2, iv x3, iv x4, iv (1 : Int32), iv (3 : Int32), iv c7, iv c8, iv c9, rv b203, rv b209, rv b209, rv b258, iv (1 : Int32), .unset] [(.ref b258)])) rfl (by rw [hml]; rfl) (Steps.refl _) (argsL := []) (rest := []) (lenOf pd___Ljava_util_List_ rfl) rfl (by show 2 * 0 + _ ≤ _; exact Nat.le_of_eq rfl) (hb hby at_164) (fun _ _ => ⟨rfl, e260, (by decide : 15 + 0 ≤ _), (by decide : 48 + 0 ≤ _)⟩)
      dsimp only [Pt.U, Pt.locs, Pt.cells, Pt.slots] at X261 l261 y261 z261 st261 hQ261
      subst l261 y261 z261
      obtain ⟨rfl, N261q, e261⟩ := hQ261
      have N261 := Fr.app N260 N261q
      replace pre : Pth p e below S0 T261 (mkF m 167 #[iv x0, iv x1, iv x2, iv x3, iv x4, iv (1 : Int32), iv (3 : Int32), iv c7, iv c8, iv c9, rv b203, rv b209, rv b209, rv b258, iv (1 : Int32), .unset] [(.ref rr)]) := fun t k => pre t (st261.trans k)
      obtain ⟨O1, ob, og, O2, O3⟩ := O259
      obtain ⟨cq262, kq262, q262a, q262b, q262c⟩ := isOf hZ e261 O1
      obtain ⟨_, _, ⟨T262, L262, k262, n262⟩, -, X262, ⟨Lc262, hQ262, l262, y262, z262⟩, st262⟩ := X261.interfaceBack hx (xi := (⟨"java/util/List", "size", "()I"⟩ : MethodName)) (y := (⟨"java/util/ImmutableCollections$ListN", "size", "()I"⟩ : MethodName)) hown (mvT hZ (own_t hw 131 rfl)) (mvT hZ (own_t hw 132 rfl)) (mvT hZ (own_t hw 133 rfl)) (mvT hZ (own_t hw 134 rfl)) (mvT hZ (own_t hw 135 rfl)) (mvT hZ (own_t hw 136 rfl)) (mvT hZ (own_t hw 137 rfl)) (mvT hZ (own_t hw 138 rfl)) (by decide) (backOf (W := 0) (rm_lns3 l Z a0 hw [] rr ob og T259.heap n0 O2 O3) hZ (own_t hw 140 rfl) (own_t hw 139 rfl) (by decide) (by decide)) q262a q262b q262c (g := (mkF m 167 #[iv x0, iv x1, iv x2, iv x3, iv x4, iv (1 : Int32), iv (3 : Int32), iv c7, iv c8, iv c9, rv b203, rv b209, rv b209, rv b258, iv (1 : Int32), .unset] [(.ref rr)])) rfl (by rw [hml]; rfl) (Steps.refl _) (argsL := []) (rest := []) (lenOf pd___I rfl) rfl (by show 2 * 0 + _ ≤ _; exact Nat.le_of_eq rfl) (hb hby at_167) (fun _ _ => ⟨rfl, e261, (by decide : 15 + 0 ≤ _), (by decide : 48 + 0 ≤ _)⟩)
      dsimp only [Pt.U, Pt.locs, Pt.cells, Pt.slots] at X262 l262 y262 z262 st262 hQ262
      subst l262 y262 z262
      obtain ⟨rfl, N262q, e262⟩ := hQ262
      have N262 := Fr.app N261 N262q
      replace pre : Pth p e below S0 T262 (mkF m 172 #[iv x0, iv x1, iv x2, iv x3, iv x4, iv (1 : Int32), iv (3 : Int32), iv c7, iv c8, iv c9, rv b203, rv b209, rv b209, rv b258, iv (1 : Int32), .unset] [(.int (3 : Int32))]) := fun t k => pre t (st262.trans k)
      replace pre : Pth p e below S0 T262 (mkF m 202 #[iv x0, iv x1, iv x2, iv x3, iv x4, iv (1 : Int32), iv (3 : Int32), iv c7, iv c8, iv c9, rv b203, rv b209, rv b209, rv b258, iv (1 : Int32), iv (3 : Int32)] [(.int (1 : Int32))]) := fun t k => pre t (by
        show SS p e below T262 (mkF m 172 #[iv x0, iv x1, iv x2, iv x3, iv x4, iv (1 : Int32), iv (3 : Int32), iv c7, iv c8, iv c9, rv b203, rv b209, rv b209, rv b258, iv (1 : Int32), .unset] [(.int (3 : Int32))]) t
        refine XS.istore X262.here hx rfl (hb hby at_172) rfl (l' := #[iv x0, iv x1, iv x2, iv x3, iv x4, iv (1 : Int32), iv (3 : Int32), iv c7, iv c8, iv c9, rv b203, rv b209, rv b209, rv b258, iv (1 : Int32), iv (3 : Int32)]) rfl ?_
        show SS p e below T262 (mkF m 174 #[iv x0, iv x1, iv x2, iv x3, iv x4, iv (1 : Int32), iv (3 : Int32), iv c7, iv c8, iv c9, rv b203, rv b209, rv b209, rv b258, iv (1 : Int32), iv (3 : Int32)] []) t
        refine XS.iload X262.here hx rfl (hb hby at_174) rfl ?_
        show SS p e below T262 (mkF m 176 #[iv x0, iv x1, iv x2, iv x3, iv x4, iv (1 : Int32), iv (3 : Int32), iv c7, iv c8, iv c9, rv b203, rv b209, rv b209, rv b258, iv (1 : Int32), iv (3 : Int32)] [(.int (1 : Int32))]) t
        refine XS.iload X262.here hx rfl (hb hby at_176) rfl ?_
        show SS p e below T262 (mkF m 178 #[iv x0, iv x1, iv x2, iv x3, iv x4, iv (1 : Int32), iv (3 : Int32), iv c7, iv c8, iv c9, rv b203, rv b209, rv b209, rv b258, iv (1 : Int32), iv (3 : Int32)] [(.int (1 : Int32)), (.int (1 : Int32))]) t
        refine XS.icmpNo X262.here hx rfl (hb hby at_178) rfl (XT.ii_ne_f rfl) ?_
        show SS p e below T262 (mkF m 181 #[iv x0, iv x1, iv x2, iv x3, iv x4, iv (1 : Int32), iv (3 : Int32), iv c7, iv c8, iv c9, rv b203, rv b209, rv b209, rv b258, iv (1 : Int32), iv (3 : Int32)] []) t
        refine XS.iload X262.here hx rfl (hb hby at_181) rfl ?_
        show SS p e below T262 (mkF m 183 #[iv x0, iv x1, iv x2, iv x3, iv x4, iv (1 : Int32), iv (3 : Int32), iv c7, iv c8, iv c9, rv b203, rv b209, rv b209, rv b258, iv (1 : Int32), iv (3 : Int32)] [(.int (3 : Int32))]) t
        refine XS.iload X262.here hx rfl (hb hby at_183) rfl ?_
        show SS p e below T262 (mkF m 185 #[iv x0, iv x1, iv x2, iv x3, iv x4, iv (1 : Int32), iv (3 : Int32), iv c7, iv c8, iv c9, rv b203, rv b209, rv b209, rv b258, iv (1 : Int32), iv (3 : Int32)] [(.int (1 : Int32)), (.int (3 : Int32))]) t
        refine XS.ifNo X262.here hx rfl (hb hby at_185) rfl (XT.i0_eq_f (by decide)) ?_
        show SS p e below T262 (mkF m 188 #[iv x0, iv x1, iv x2, iv x3, iv x4, iv (1 : Int32), iv (3 : Int32), iv c7, iv c8, iv c9, rv b203, rv b209, rv b209, rv b258, iv (1 : Int32), iv (3 : Int32)] [(.int (3 : Int32))]) t
        refine XS.iload X262.here hx rfl (hb hby at_188) rfl ?_
        show SS p e below T262 (mkF m 190 #[iv x0, iv x1, iv x2, iv x3, iv x4, iv (1 : Int32), iv (3 : Int32), iv c7, iv c8, iv c9, rv b203, rv b209, rv b209, rv b258, iv (1 : Int32), iv (3 : Int32)] [(.int (3 : Int32)), (.int (3 : Int32))]) t
        refine XS.goto X262.here hx rfl (pc0 := 190) (pc' := 194) rfl (hb hby at_190) (by decide) (by decide) ?_
        show SS p e below T262 (mkF m 194 #[iv x0, iv x1, iv x2, iv x3, iv x4, iv (1 : Int32), iv (3 : Int32), iv c7, iv c8, iv c9, rv b203, rv b209, rv b209, rv b258, iv (1 : Int32), iv (3 : Int32)] [(.int (3 : Int32)), (.int (3 : Int32))]) t
        refine XS.icmpNo X262.here hx rfl (hb hby at_194) rfl (XT.ii_ne_f rfl) ?_
        show SS p e below T262 (mkF m 197 #[iv x0, iv x1, iv x2, iv x3, iv x4, iv (1 : Int32), iv (3 : Int32), iv c7, iv c8, iv c9, rv b203, rv b209, rv b209, rv b258, iv (1 : Int32), iv (3 : Int32)] []) t
        refine XS.iconst X262.here hx rfl (hb hby at_197) ?_
        show SS p e below T262 (mkF m 198 #[iv x0, iv x1, iv x2, iv x3, iv x4, iv (1 : Int32), iv (3 : Int32), iv c7, iv c8, iv c9, rv b203, rv b209, rv b209, rv b258, iv (1 : Int32), iv (3 : Int32)] [(.int (1 : Int32))]) t
        refine XS.goto X262.here hx rfl (pc0 := 198) (pc' := 202) rfl (hb hby at_198) (by decide) (by decide) ?_
        show SS p e below T262 (mkF m 202 #[iv x0, iv x1, iv x2, iv x3, iv x4, iv (1 : Int32), iv (3 : Int32), iv c7, iv c8, iv c9, rv b203, rv b209, rv b209, rv b258, iv (1 : Int32), iv (3 : Int32)] [(.int (1 : Int32))]) t
        exact k)
      obtain ⟨fs, hr, hrun, hended, hW, hsame⟩ := X262.leave (v := some (.int (1 : Int32))) (fun h => by rw [Bd.returns] at h; cases h)
      subst hS0
      refine ⟨_, _, pre _ ?_, hrun, hended, _, _, rfl, ?_, ⟨_, rfl⟩, hW, hsame.mono (by decide) (by decide)⟩
      · exact retN X262 hx (t := .boolean) Bd.returns (by simp) (hb hby at_202) hr
      · show Q_law Z x0 x1 x2 x3 x4 cz dc el eb em mr fd fe h0 n0 _ T262.heap _
        rw [e262]
        exact ⟨rfl, N262⟩
set_option maxRecDepth 65536 in
set_option maxHeartbeats 40000000 in
theorem comes_1 {Post : Tables → Env → Array Value → State → Outcome → State → Prop} (hpost : ∀ tb e args s v u, (limb_1_1.after args s (.returned v) u = true ∧ limb_1_2.after args s (.returned v) u = true ∧ True) → FrameEnd s (.returned v) u (Jvm.fieldLocs frame_1_writes args s ++ Jvm.arrayLocs frame_1_arrays args s ++ Jvm.staticLocs frame_1_statics s) 40 192 → Post tb e args s (.returned v) u) :
    ArmFor flags0 classFile x code maxLocals ret World_1 tables_1 room_1 Calls_1 rest_1 Pre_1 Post := by
  intro l hfl _ _ p e ha hc hk s m args below hf hA hF happ hP
  obtain ⟨hcalls, hrest, hpre⟩ := hP
  obtain ⟨-, -, -, hnamed, -, -, -, hat⟩ := (Spec.applies_iff hf).mp happ
  obtain ⟨hg, hn⟩ := and_e (Cond.before_iff.mp (show (Jvm.Cond.and given_1 narrow_1).before args s = true from hpre))
  obtain ⟨gv1a, gv1b⟩ := and_e hg
  obtain ⟨gv2a, gv2b⟩ := and_e gv1b
  obtain ⟨gv3a, gv3b⟩ := and_e gv2b
  obtain ⟨gv4a, gv4b⟩ := and_e gv3b
  obtain ⟨gv5a, gv5b⟩ := and_e gv4b
  obtain ⟨w0, w1, w2, w3, w4, rfl⟩ : ∃ w0 w1 w2 w3 w4 : Value, args = #[w0, w1, w2, w3, w4] := by
    have hs : args.size = 5 := by simpa [Cond.value, given_1] using gv1a
    obtain ⟨L⟩ := args
    match L, hs with
    | [w0, w1, w2, w3, w4], _ => exact ⟨w0, w1, w2, w3, w4, rfl⟩
  have hw := fun d (hd : d ∈ tables_1) => atoms_spec (ws := Jvm.Cond.code x code maxLocals ret :: tables_1) hat d (List.mem_cons_of_mem _ hd)
  have hfit : Fit s := fun {y c} hc i hi => by
    obtain ⟨ha, rfl⟩ := Array.getElem?_eq_some_iff.mp hc
    have q := List.all_eq_true.mp ((Array.all_eq_true_iff_forall_mem.mp hF) _ (Array.getElem_mem ha)) i (List.mem_range.mpr hi)
    simpa [Array.getElem?_eq_getElem hi] using q
  obtain ⟨hsets, hown0⟩ := atoms_of _ (rest_1_c_eq ▸ (show rest_1_c.before _ s = true from hrest))
  have hr0 := Cond.before_iff.mp hown0
  obtain ⟨i0, ei0⟩ := is_v gv2a
  obtain rfl : w0 = (.int i0) := Option.some.inj ei0
  obtain ⟨i1, ei1⟩ := is_v gv3a
  obtain rfl : w1 = (.int i1) := Option.some.inj ei1
  obtain ⟨i2, ei2⟩ := is_v gv4a
  obtain rfl : w2 = (.int i2) := Option.some.inj ei2
  obtain ⟨i3, ei3⟩ := is_v gv5a
  obtain rfl : w3 = (.int i3) := Option.some.inj ei3
  obtain ⟨i4, ei4⟩ := is_v gv5b
  obtain rfl : w4 = (.int i4) := Option.some.inj ei4
  have hS (k : Nat) (d : Jvm.Cond) (hk : jdkStatics_1[k]? = some d) : d.before _ s = true := hsets _ (List.mem_of_getElem? hk)
  have hV (k : Nat) (d : Jvm.Cond) (hk : jdkStatics_1[k]? = some d) : d.value _ s none s [] = some true := Cond.before_iff.mp (hS k d hk)
  obtain ⟨cz, ecz⟩ := is_v (hV 1 _ rfl)
  have Scs := Sta.start ecz (Or.inl (hS 0 _ rfl))
  have hcz : ¬ cz = 0 := fun q => by
    have r := hS 2 _ rfl
    subst q
    simp only [Cond.before, Cond.holds, Cond.value, ecz, Term.int_eval] at r
    simp at r
  obtain ⟨dc, edc⟩ := exa_v (hV 16 _ rfl)
  have Sd := Sta.start edc (Or.inr ⟨(own_t hw 32 rfl), hS 11 _ rfl⟩)
  have Fd := own_start0 edc (hV 15 _ rfl) (hV 17 _ rfl) (by decide)
  obtain ⟨el, eel⟩ := exa_v (hV 20 _ rfl)
  have Sel := Sta.start eel (Or.inl (hS 19 _ rfl))
  have Eel := Exa.start eel (hV 20 _ rfl)
  obtain ⟨eb, eeb⟩ := exa_v (hV 22 _ rfl)
  have Fel := Fld.start ((fld_at eel).symm.trans eeb)
  have Fe0 := own_start0 eeb (hV 21 _ rfl) (hV 23 _ rfl) (by decide)
  obtain ⟨em, eem⟩ := exa_v (hV 27 _ rfl)
  have Sem := Sta.start eem (Or.inl (hS 26 _ rfl))
  have Eem := Exa.start eem (hV 27 _ rfl)
  obtain ⟨cM, kM, mr, m1, m2, m3, -⟩ := hcalls.1
  have M : OMir s "[Ljava/lang/Object;" mr := ⟨cM, kM, m1, m2, m3⟩
  obtain ⟨n, o, h1, h2, h3, _, L, rfl, ⟨rfl, N⟩, hq⟩ := rm_law l s _ hw tables_1 i0 i1 i2 i3 i4 cz dc el eb em mr _ _ s.heap s.heap.size (Nat.le_refl _) Scs hcz Sd Fd Sel Eel Fel Fe0 Sem Eem M p e ha hc hk s m _ below hf ((Spec.applies_iff_loose hf).mp happ).1 ⟨rfl, State.Warmed39.refl s, rfl⟩ trivial
  refine ⟨n, _, h1, h2, h3, hpost _ _ _ _ _ _ ⟨Cond.after_iff.mpr rfl, Cond.after_iff.mpr (eq_i res_at (Term.int_eval (1)) rfl), trivial⟩ ⟨hq.1, hq.2.1, (hq.2.2.sift fun y hy => Or.inr (N y hy)).mono (by decide) (by decide)⟩⟩
theorem main_1_1 : Claimed_1_1 := comes_1 fun _ _ _ _ _ _ h hF => ⟨h.1, hF⟩
theorem main_1_2 : Claimed_1_2 := comes_1 fun _ _ _ _ _ _ h hF => ⟨h.2.1, hF⟩
end Jvm.Pilot.@@N@@
namespace Jvm.Pilot.@@N@@
open Jvm Jvm.ClassFile Sem Op Lib Jvm.Free Jvm.Stand Jvm.Pilot.@@N@@.Jvm.D
/-! MADE BY PROGRAM (witnessworld.py) out of the Statement's table words and the real class files: 38 classes; the members and pool entries that the words name. The judged class is class 1, her method 1. -/
namespace start1
open Jvm.ClassFile
def u (s : String) : CpInfo := .utf8 (stringToUtf16 s)
/-- a pool by its gaps: so many unusable entries, then the entry; so many at the end -/
def gap : Nat → List CpInfo → List CpInfo
  | 0, r => r
  | n + 1, r => .unusable :: gap n r
def poolList (es : List (Nat × CpInfo)) (last : Nat) : List CpInfo := es.foldr (fun e r => gap e.1 (e.2 :: r)) (gap last [])
def pool (es : List (Nat × CpInfo)) (last : Nat) : Array CpInfo := ⟨poolList es last⟩
def fileOf (pool : Array CpInfo) (this : Nat) (attrs : Array Attribute := #[]) (ms : Array MethodInfo := #[]) (fl : Nat := 33) (sup : Nat := 0) (ifs : Array Nat := #[]) (fds : Array FieldInfo := #[]) : ClassFile where
  minorVersion := 0
  majorVersion := 65
  constantPool := pool
  accessFlags := fl
  thisClass := this
  superClass := sup
  interfaces := ifs
  fields := fds
  methods := ms
  attributes := attrs
def plain (name : String) (sup : Option ClassId) : Class where
  name := name
  kind := .ordinary
  loader := none
  accessFlags := 33
  super := sup
  interfaces := #[]
  cf := none
  fields := #[]
  methods := #[]
  instanceTypes := #[]
  staticTypes := #[]
  resolved := #[]
  callSites := []
  init := .initialized
  statics := none
  mirror := none

def pool0 : Array CpInfo := pool [(5, u "<init>"), (0, u "()V"), (1, .class_ 10), (1, u "java/lang/Object"), (0, u "getClass"), (0, u "()Ljava/lang/Class;")] 111

def k0c0 : Code := { maxStack := 0, maxLocals := 1, code := object_method_1_code, exceptionTable := #[], attributes := #[] }
def k0m0 : Method := { name := "<init>", desc := "()V", sig := { parameters := [], returnType := none }, accessFlags := 1, code := some k0c0 }
def k0m1 : Method := { name := "getClass", desc := "()Ljava/lang/Class;", sig := { parameters := [], returnType := some (.object "java/lang/Class") }, accessFlags := 273, code := none }
/-- java/lang/Object -/
def k0 : Class := { plain "java/lang/Object" none with
  accessFlags := 33
  interfaces := #[]
  cf := some (fileOf pool0 8 #[] #[{ accessFlags := 1, nameIndex := 5, descriptorIndex := 6, attributes := #[] }, { accessFlags := 273, nameIndex := 11, descriptorIndex := 12, attributes := #[] }] 33 0 #[] #[])
  fields := #[]
  methods := #[k0m0, k0m1]
  instanceTypes := #[]
  staticTypes := #[]
  resolved := Array.replicate 124 none
  statics := none }

def pool1 : Array CpInfo := pool [(2, .class_ 4), (0, .nameAndType 5 6), (0, u "java/lang/Object"), (0, u "<init>"), (0, u "()V"), (0, .class_ 8), (0, u "java/lang/String"), (0, .methodref 7 10), (0, .nameAndType 5 11), (0, u "([C)V"), (0, .class_ 13), (0, u "java/util/ArrayList"), (0, .methodref 12 3), (0, .methodref 7 16), (0, .nameAndType 17 18), (0, u "valueOf"), (0, u "(C)Ljava/lang/String;"), (0, .methodref 12 20), (0, .nameAndType 21 22), (0, u "add"), (0, u "(Ljava/lang/Object;)Z"), (0, .class_ 24), (0, u "com/example/sheaf/sheaf/cbor/TextStringItem"), (0, .methodref 23 26), (0, .nameAndType 5 27), (0, u "(Ljava/lang/String;Ljava/util/List;)V"), (0, .methodref 23 29), (0, .nameAndType 30 31), (0, u "isIndefinite"), (0, u "()Z"), (0, .methodref 23 33), (0, .nameAndType 34 35), (0, u "chunks"), (0, u "()Ljava/util/List;"), (0, .interfaceMethodref 37 38), (0, .class_ 39), (0, .nameAndType 40 41), (0, u "java/util/List"), (0, u "size"), (0, u "()I"), (0, .class_ 43), (0, u "com/example/sheaf/sheaf/cbor/TextStringItemIsIndefinitePinLaw"), (2, u "law"), (0, u "(IIIII)Z")] 3

def k1m0 : Method := { name := "<init>", desc := "()V", sig := { parameters := [], returnType := none }, accessFlags := 2, code := none }
def k1c1 : Code := { maxStack := 6, maxLocals := 16, code := code, exceptionTable := #[], attributes := #[] }
def k1m1 : Method := { name := "law", desc := "(IIIII)Z", sig := { parameters := [.int, .int, .int, .int, .int], returnType := some .boolean }, accessFlags := 9, code := some k1c1 }
/-- com/example/sheaf/sheaf/cbor/TextStringItemIsIndefinitePinLaw -/
def k1 : Class := { plain "com/example/sheaf/sheaf/cbor/TextStringItemIsIndefinitePinLaw" (some 0) with
  accessFlags := 49
  interfaces := #[]
  cf := some (fileOf pool1 42 #[] #[{ accessFlags := 2, nameIndex := 5, descriptorIndex := 6, attributes := #[] }, { accessFlags := 9, nameIndex := 46, descriptorIndex := 47, attributes := #[] }] 49 2 #[] #[])
  fields := #[]
  methods := #[k1m0, k1m1]
  instanceTypes := #[]
  staticTypes := #[]
  resolved := Array.replicate 51 none
  statics := none }

def pool2 : Array CpInfo := pool [(1, .class_ 2), (0, u "java/io/Serializable"), (0, .class_ 4), (0, u "java/lang/Object")] 2

/-- java/io/Serializable -/
def k2 : Class := { plain "java/io/Serializable" (some 0) with
  accessFlags := 1537
  interfaces := #[]
  cf := some (fileOf pool2 1 #[] #[] 1537 3 #[] #[])
  fields := #[]
  methods := #[]
  instanceTypes := #[]
  staticTypes := #[]
  resolved := Array.replicate 7 none
  statics := none }

def pool3 : Array CpInfo := pool [(1, .class_ 2), (0, u "java/lang/Comparable"), (0, .class_ 4), (0, u "java/lang/Object")] 7

/-- java/lang/Comparable -/
def k3 : Class := { plain "java/lang/Comparable" (some 0) with
  accessFlags := 1537
  interfaces := #[]
  cf := some (fileOf pool3 1 #[] #[] 1537 3 #[] #[])
  fields := #[]
  methods := #[]
  instanceTypes := #[]
  staticTypes := #[]
  resolved := Array.replicate 12 none
  statics := none }

def pool4 : Array CpInfo := pool [(2, .class_ 4), (1, u "java/lang/CharSequence"), (42, .class_ 48), (0, u "java/lang/CharSequence$1CodePointIterator"), (10, .class_ 60), (0, u "java/lang/CharSequence$1CharIterator"), (5, .class_ 67), (0, u "java/lang/Object")] 63

/-- java/lang/CharSequence -/
def k4 : Class := { plain "java/lang/CharSequence" (some 0) with
  accessFlags := 1537
  interfaces := #[]
  cf := some (fileOf pool4 2 #[.nestMembers #[47, 59]] #[] 1537 66 #[] #[])
  fields := #[]
  methods := #[]
  instanceTypes := #[]
  staticTypes := #[]
  resolved := Array.replicate 131 none
  statics := none }

def pool5 : Array CpInfo := pool [(1, .class_ 2), (0, u "java/lang/constant/Constable"), (0, .class_ 4), (0, u "java/lang/Object")] 6

/-- java/lang/constant/Constable -/
def k5 : Class := { plain "java/lang/constant/Constable" (some 0) with
  accessFlags := 1537
  interfaces := #[]
  cf := some (fileOf pool5 1 #[] #[] 1537 3 #[] #[])
  fields := #[]
  methods := #[]
  instanceTypes := #[]
  staticTypes := #[]
  resolved := Array.replicate 11 none
  statics := none }

def pool6 : Array CpInfo := pool [(1, .class_ 2), (0, u "java/lang/constant/ConstantDesc"), (0, .class_ 4), (0, u "java/lang/Object")] 32

/-- java/lang/constant/ConstantDesc -/
def k6 : Class := { plain "java/lang/constant/ConstantDesc" (some 0) with
  accessFlags := 1537
  interfaces := #[]
  cf := some (fileOf pool6 1 #[] #[] 1537 3 #[] #[])
  fields := #[]
  methods := #[]
  instanceTypes := #[]
  staticTypes := #[]
  resolved := Array.replicate 37 none
  statics := none }

def pool7 : Array CpInfo := pool [(1, .methodref 2 3), (0, .class_ 4), (0, .nameAndType 5 6), (0, u "java/lang/Object"), (0, u "<init>"), (0, u "()V"), (2, .fieldref 10 11), (0, .class_ 12), (0, .nameAndType 13 14), (0, u "java/lang/String"), (0, u "value"), (0, u "[B"), (0, .fieldref 10 16), (0, .nameAndType 17 18), (0, u "coder"), (0, u "B"), (2, u "hash"), (0, u "I"), (2, u "hashIsZero"), (0, u "Z"), (0, .methodref 10 28), (0, .nameAndType 5 29), (0, u "([CIILjava/lang/Void;)V"), (8, .fieldref 10 39), (0, .nameAndType 40 26), (0, u "COMPACT_STRINGS"), (1, .class_ 44), (1, u "java/lang/StringUTF16"), (0, u "compress"), (1, .methodref 42 48), (0, .nameAndType 49 50), (0, u "coderFromArrayLen"), (0, u "([BI)B"), (2, u "toBytes"), (53, .class_ 109), (1, u "java/lang/StringLatin1"), (67, .methodref 42 178), (0, .nameAndType 45 179), (0, u "([CII)[B"), (29, .methodref 10 210), (0, .nameAndType 5 211), (0, u "([BB)V"), (157, u "(C)Z"), (205, .class_ 576), (0, u "java/lang/CharSequence"), (22, u "CASE_INSENSITIVE_ORDER"), (0, u "Ljava/util/Comparator;"), (181, u "valueOf"), (0, u "(C)Ljava/lang/String;"), (226, u "([C)V"), (4, .methodref 107 1016), (0, .nameAndType 1017 369), (0, u "canEncode"), (0, .methodref 107 1019), (0, .nameAndType 53 1020), (0, u "(C)[B"), (80, u "serialPersistentFields"), (0, u "[Ljava/io/ObjectStreamField;"), (0, .class_ 1104), (0, u "java/lang/String$CaseInsensitiveComparator"), (1, .class_ 1107), (0, u "java/io/Serializable"), (0, .class_ 1109), (0, u "java/lang/Comparable"), (0, .class_ 1111), (0, u "java/lang/constant/Constable"), (0, .class_ 1113), (0, u "java/lang/constant/ConstantDesc"), (2, u "serialVersionUID"), (0, u "J"), (3, u "REPL"), (0, u "C"), (2, u "LATIN1"), (1, u "UTF16")] 323

def k7m0 : Method := { name := "<init>", desc := "()V", sig := { parameters := [], returnType := none }, accessFlags := 1, code := none }
def k7c1 : Code := { maxStack := 5, maxLocals := 2, code := jdk_42_method_3_code, exceptionTable := #[], attributes := #[] }
def k7m1 : Method := { name := "<init>", desc := "([C)V", sig := { parameters := [(.array .char)], returnType := none }, accessFlags := 1, code := some k7c1 }
def k7c2 : Code := { maxStack := 4, maxLocals := 1, code := jdk_42_method_139_code, exceptionTable := #[], attributes := #[] }
def k7m2 : Method := { name := "valueOf", desc := "(C)Ljava/lang/String;", sig := { parameters := [.char], returnType := some (.object "java/lang/String") }, accessFlags := 9, code := some k7c2 }
def k7c3 : Code := { maxStack := 4, maxLocals := 6, code := jdk_42_method_149_code, exceptionTable := #[], attributes := #[] }
def k7m3 : Method := { name := "<init>", desc := "([CIILjava/lang/Void;)V", sig := { parameters := [(.array .char), .int, .int, (.object "java/lang/Void")], returnType := none }, accessFlags := 2, code := some k7c3 }
def k7c4 : Code := { maxStack := 2, maxLocals := 3, code := jdk_42_method_151_code, exceptionTable := #[], attributes := #[] }
def k7m4 : Method := { name := "<init>", desc := "([BB)V", sig := { parameters := [(.array .byte), .byte], returnType := none }, accessFlags := 0, code := some k7c4 }
/-- java/lang/String -/
def k7 : Class := { plain "java/lang/String" (some 0) with
  accessFlags := 49
  interfaces := #[2, 3, 4, 5, 6]
  cf := some (fileOf pool7 10 #[.nestMembers #[1103]] #[{ accessFlags := 1, nameIndex := 5, descriptorIndex := 6, attributes := #[] }, { accessFlags := 1, nameIndex := 5, descriptorIndex := 1010, attributes := #[] }, { accessFlags := 9, nameIndex := 782, descriptorIndex := 783, attributes := #[] }, { accessFlags := 2, nameIndex := 5, descriptorIndex := 29, attributes := #[] }, { accessFlags := 0, nameIndex := 5, descriptorIndex := 211, attributes := #[] }] 49 2 #[1106, 1108, 575, 1110, 1112] #[{ accessFlags := 18, nameIndex := 13, descriptorIndex := 14, attributes := #[] }, { accessFlags := 18, nameIndex := 17, descriptorIndex := 18, attributes := #[] }, { accessFlags := 2, nameIndex := 21, descriptorIndex := 22, attributes := #[] }, { accessFlags := 2, nameIndex := 25, descriptorIndex := 26, attributes := #[] }, { accessFlags := 26, nameIndex := 1116, descriptorIndex := 1117, attributes := #[] }, { accessFlags := 24, nameIndex := 40, descriptorIndex := 26, attributes := #[] }, { accessFlags := 26, nameIndex := 1101, descriptorIndex := 1102, attributes := #[] }, { accessFlags := 26, nameIndex := 1121, descriptorIndex := 1122, attributes := #[] }, { accessFlags := 25, nameIndex := 599, descriptorIndex := 600, attributes := #[] }, { accessFlags := 24, nameIndex := 1125, descriptorIndex := 18, attributes := #[] }, { accessFlags := 24, nameIndex := 1127, descriptorIndex := 18, attributes := #[] }])
  fields := #[{ name := "value", type := (.array .byte), accessFlags := 18, slot := 0, constantValue := 0 }, { name := "coder", type := .byte, accessFlags := 18, slot := 1, constantValue := 0 }, { name := "hash", type := .int, accessFlags := 2, slot := 2, constantValue := 0 }, { name := "hashIsZero", type := .boolean, accessFlags := 2, slot := 3, constantValue := 0 }, { name := "serialVersionUID", type := .long, accessFlags := 26, slot := 0, constantValue := 0 }, { name := "COMPACT_STRINGS", type := .boolean, accessFlags := 24, slot := 1, constantValue := 0 }, { name := "serialPersistentFields", type := (.array (.object "java/io/ObjectStreamField")), accessFlags := 26, slot := 2, constantValue := 0 }, { name := "REPL", type := .char, accessFlags := 26, slot := 3, constantValue := 0 }, { name := "CASE_INSENSITIVE_ORDER", type := (.object "java/util/Comparator"), accessFlags := 25, slot := 4, constantValue := 0 }, { name := "LATIN1", type := .byte, accessFlags := 24, slot := 5, constantValue := 0 }, { name := "UTF16", type := .byte, accessFlags := 24, slot := 6, constantValue := 0 }]
  methods := #[k7m0, k7m1, k7m2, k7m3, k7m4]
  instanceTypes := #[(.array .byte), .byte, .int, .boolean]
  staticTypes := #[.long, .boolean, (.array (.object "java/io/ObjectStreamField")), .char, (.object "java/util/Comparator"), .byte, .byte]
  resolved := Array.replicate 1451 none
  statics := some 0 }

def pool8 : Array CpInfo := pool [(6, .class_ 8), (1, u "java/lang/Object"), (0, u "<init>"), (0, u "()V"), (1, .class_ 14), (1, u "java/lang/StringUTF16"), (31, u "$assertionsDisabled"), (0, u "Z"), (13, u "HI_BYTE_SHIFT"), (0, u "I"), (2, u "LO_BYTE_SHIFT"), (49, .methodref 12 116), (0, .nameAndType 117 118), (0, u "compress"), (0, u "([CI[BII)I"), (3, u "([CII)[B"), (138, u "coderFromArrayLen"), (0, u "([BI)B"), (106, .class_ 371), (1, u "java/lang/StringUTF16$LinesSpliterator"), (58, u "MAX_LENGTH"), (196, .class_ 628), (0, u "java/lang/StringUTF16$CodePointsSpliterator"), (0, .class_ 630), (0, u "java/lang/StringUTF16$CharsSpliterator")] 4

def k8m0 : Method := { name := "<init>", desc := "()V", sig := { parameters := [], returnType := none }, accessFlags := 0, code := none }
def k8c1 : Code := { maxStack := 2, maxLocals := 2, code := jdk_52_method_15_code, exceptionTable := #[], attributes := #[] }
def k8m1 : Method := { name := "coderFromArrayLen", desc := "([BI)B", sig := { parameters := [(.array .byte), .int], returnType := some .byte }, accessFlags := 8, code := some k8c1 }
def k8c2 : Code := { maxStack := 5, maxLocals := 6, code := jdk_52_method_16_code, exceptionTable := #[], attributes := #[] }
def k8m2 : Method := { name := "compress", desc := "([CII)[B", sig := { parameters := [(.array .char), .int, .int], returnType := some (.array .byte) }, accessFlags := 9, code := some k8c2 }
def k8c3 : Code := { maxStack := 3, maxLocals := 7, code := jdk_52_method_21_code, exceptionTable := #[], attributes := #[] }
def k8m3 : Method := { name := "compress", desc := "([CI[BII)I", sig := { parameters := [(.array .char), .int, (.array .byte), .int, .int], returnType := some .int }, accessFlags := 9, code := some k8c3 }
/-- java/lang/StringUTF16 -/
def k8 : Class := { plain "java/lang/StringUTF16" (some 0) with
  accessFlags := 48
  interfaces := #[]
  cf := some (fileOf pool8 12 #[.nestMembers #[627, 629, 369]] #[{ accessFlags := 0, nameIndex := 9, descriptorIndex := 10, attributes := #[] }, { accessFlags := 8, nameIndex := 261, descriptorIndex := 262, attributes := #[] }, { accessFlags := 9, nameIndex := 117, descriptorIndex := 122, attributes := #[] }, { accessFlags := 9, nameIndex := 117, descriptorIndex := 118, attributes := #[] }] 48 6 #[] #[{ accessFlags := 26, nameIndex := 61, descriptorIndex := 62, attributes := #[] }, { accessFlags := 26, nameIndex := 65, descriptorIndex := 62, attributes := #[] }, { accessFlags := 24, nameIndex := 430, descriptorIndex := 62, attributes := #[] }, { accessFlags := 4120, nameIndex := 46, descriptorIndex := 47, attributes := #[] }])
  fields := #[{ name := "HI_BYTE_SHIFT", type := .int, accessFlags := 26, slot := 0, constantValue := 0 }, { name := "LO_BYTE_SHIFT", type := .int, accessFlags := 26, slot := 1, constantValue := 0 }, { name := "MAX_LENGTH", type := .int, accessFlags := 24, slot := 2, constantValue := 0 }, { name := "$assertionsDisabled", type := .boolean, accessFlags := 4120, slot := 3, constantValue := 0 }]
  methods := #[k8m0, k8m1, k8m2, k8m3]
  instanceTypes := #[]
  staticTypes := #[.int, .int, .int, .boolean]
  resolved := Array.replicate 635 none
  statics := none }

def pool9 : Array CpInfo := pool [(8, .class_ 10), (1, u "java/lang/Iterable"), (24, .class_ 36), (0, u "java/lang/Object")] 25

/-- java/lang/Iterable -/
def k9 : Class := { plain "java/lang/Iterable" (some 0) with
  accessFlags := 1537
  interfaces := #[]
  cf := some (fileOf pool9 8 #[] #[] 1537 35 #[] #[])
  fields := #[]
  methods := #[]
  instanceTypes := #[]
  staticTypes := #[]
  resolved := Array.replicate 62 none
  statics := none }

def pool10 : Array CpInfo := pool [(10, .class_ 12), (1, u "java/util/Collection"), (0, u "toArray"), (16, u "()Z"), (29, .class_ 61), (0, u "java/lang/Object"), (0, .class_ 63), (0, u "java/lang/Iterable"), (2, u "isEmpty"), (3, u "()[Ljava/lang/Object;")] 44

def k10m0 : Method := { name := "isEmpty", desc := "()Z", sig := { parameters := [], returnType := some .boolean }, accessFlags := 1025, code := none }
def k10m1 : Method := { name := "toArray", desc := "()[Ljava/lang/Object;", sig := { parameters := [], returnType := some (.array (.object "java/lang/Object")) }, accessFlags := 1025, code := none }
/-- java/util/Collection -/
def k10 : Class := { plain "java/util/Collection" (some 0) with
  accessFlags := 1537
  interfaces := #[9]
  cf := some (fileOf pool10 10 #[] #[{ accessFlags := 1025, nameIndex := 66, descriptorIndex := 30, attributes := #[] }, { accessFlags := 1025, nameIndex := 13, descriptorIndex := 70, attributes := #[] }] 1537 60 #[62] #[])
  fields := #[]
  methods := #[k10m0, k10m1]
  instanceTypes := #[]
  staticTypes := #[]
  resolved := Array.replicate 115 none
  statics := none }

def pool11 : Array CpInfo := pool [(1, .methodref 2 3), (0, .class_ 4), (0, .nameAndType 5 6), (0, u "java/lang/Object"), (0, u "<init>"), (0, u "()V"), (1, .class_ 10), (1, u "java/util/AbstractCollection"), (66, .class_ 78), (0, u "java/util/Collection")] 81

def k11c0 : Code := { maxStack := 1, maxLocals := 1, code := jdk_22_method_1_code, exceptionTable := #[], attributes := #[] }
def k11m0 : Method := { name := "<init>", desc := "()V", sig := { parameters := [], returnType := none }, accessFlags := 4, code := some k11c0 }
/-- java/util/AbstractCollection -/
def k11 : Class := { plain "java/util/AbstractCollection" (some 0) with
  accessFlags := 1057
  interfaces := #[10]
  cf := some (fileOf pool11 8 #[] #[{ accessFlags := 4, nameIndex := 5, descriptorIndex := 6, attributes := #[] }] 1057 2 #[77] #[])
  fields := #[]
  methods := #[k11m0]
  instanceTypes := #[]
  staticTypes := #[]
  resolved := Array.replicate 160 none
  statics := none }

def pool12 : Array CpInfo := pool [(8, .class_ 10), (1, u "java/util/SequencedCollection"), (15, .class_ 27), (0, u "java/lang/Object"), (0, .class_ 29), (0, u "java/util/Collection")] 27

/-- java/util/SequencedCollection -/
def k12 : Class := { plain "java/util/SequencedCollection" (some 0) with
  accessFlags := 1537
  interfaces := #[10]
  cf := some (fileOf pool12 8 #[] #[] 1537 26 #[28] #[])
  fields := #[]
  methods := #[]
  instanceTypes := #[]
  staticTypes := #[]
  resolved := Array.replicate 57 none
  statics := none }

def pool13 : Array CpInfo := pool [(8, .class_ 10), (1, u "java/util/List"), (20, u "(Ljava/lang/Object;)V"), (16, u "<init>"), (30, u "size"), (0, u "()I"), (7, u "of"), (1, .fieldref 91 92), (0, .class_ 93), (0, .nameAndType 94 95), (0, u "java/util/ImmutableCollections"), (0, u "EMPTY_LIST"), (0, u "Ljava/util/ImmutableCollections$ListN;"), (0, .class_ 97), (0, u "java/util/ImmutableCollections$List12"), (0, .methodref 96 99), (0, .nameAndType 48 31), (0, .methodref 96 101), (0, .nameAndType 48 102), (0, u "(Ljava/lang/Object;Ljava/lang/Object;)V"), (0, .class_ 104), (0, u "java/lang/Object"), (3, u "([Ljava/lang/Object;)Ljava/util/List;"), (0, .methodref 91 110), (0, .nameAndType 111 108), (0, u "listFromArray"), (0, .methodref 91 113), (0, .nameAndType 114 115), (0, u "listCopy"), (0, u "(Ljava/util/Collection;)Ljava/util/List;"), (3, u "()Ljava/util/List;"), (0, .class_ 121), (0, u "java/util/SequencedCollection"), (112, u "copyOf")] 16

def k13m0 : Method := { name := "size", desc := "()I", sig := { parameters := [], returnType := some .int }, accessFlags := 1025, code := none }
def k13c1 : Code := { maxStack := 1, maxLocals := 0, code := jdk_40_method_36_code, exceptionTable := #[], attributes := #[] }
def k13m1 : Method := { name := "of", desc := "()Ljava/util/List;", sig := { parameters := [], returnType := some (.object "java/util/List") }, accessFlags := 9, code := some k13c1 }
def k13c2 : Code := { maxStack := 5, maxLocals := 2, code := jdk_40_method_47_code, exceptionTable := #[], attributes := #[] }
def k13m2 : Method := { name := "of", desc := "([Ljava/lang/Object;)Ljava/util/List;", sig := { parameters := [(.array (.object "java/lang/Object"))], returnType := some (.object "java/util/List") }, accessFlags := 137, code := some k13c2 }
def k13c3 : Code := { maxStack := 1, maxLocals := 1, code := jdk_40_method_48_code, exceptionTable := #[], attributes := #[] }
def k13m3 : Method := { name := "copyOf", desc := "(Ljava/util/Collection;)Ljava/util/List;", sig := { parameters := [(.object "java/util/Collection")], returnType := some (.object "java/util/List") }, accessFlags := 9, code := some k13c3 }
/-- java/util/List -/
def k13 : Class := { plain "java/util/List" (some 0) with
  accessFlags := 1537
  interfaces := #[12]
  cf := some (fileOf pool13 8 #[] #[{ accessFlags := 1025, nameIndex := 79, descriptorIndex := 80, attributes := #[] }, { accessFlags := 9, nameIndex := 88, descriptorIndex := 119, attributes := #[] }, { accessFlags := 137, nameIndex := 88, descriptorIndex := 108, attributes := #[] }, { accessFlags := 9, nameIndex := 234, descriptorIndex := 115, attributes := #[] }] 1537 103 #[120] #[])
  fields := #[]
  methods := #[k13m0, k13m1, k13m2, k13m3]
  instanceTypes := #[]
  staticTypes := #[]
  resolved := Array.replicate 251 none
  statics := none }

def pool14 : Array CpInfo := pool [(1, .methodref 2 3), (0, .class_ 4), (0, .nameAndType 5 6), (0, u "java/util/AbstractCollection"), (0, u "<init>"), (0, u "()V"), (0, .fieldref 8 9), (0, .class_ 10), (0, .nameAndType 11 12), (0, u "java/util/AbstractList"), (0, u "modCount"), (0, u "I"), (64, .class_ 78), (0, u "java/util/AbstractList$Itr"), (3, .class_ 83), (0, u "java/util/AbstractList$ListItr"), (9, .class_ 94), (0, u "java/util/AbstractList$RandomAccessSubList"), (3, .class_ 99), (0, u "java/util/AbstractList$SubList"), (33, .class_ 134), (0, u "java/util/List"), (73, .class_ 209), (0, u "java/util/AbstractList$SubList$1"), (0, .class_ 211), (0, u "java/util/AbstractList$RandomAccessSpliterator")] 6

def k14c0 : Code := { maxStack := 2, maxLocals := 1, code := jdk_39_method_1_code, exceptionTable := #[], attributes := #[] }
def k14m0 : Method := { name := "<init>", desc := "()V", sig := { parameters := [], returnType := none }, accessFlags := 4, code := some k14c0 }
/-- java/util/AbstractList -/
def k14 : Class := { plain "java/util/AbstractList" (some 11) with
  accessFlags := 1057
  interfaces := #[13]
  cf := some (fileOf pool14 8 #[.nestMembers #[93, 98, 208, 210, 82, 77]] #[{ accessFlags := 4, nameIndex := 5, descriptorIndex := 6, attributes := #[] }] 1057 2 #[133] #[{ accessFlags := 132, nameIndex := 11, descriptorIndex := 12, attributes := #[] }])
  fields := #[{ name := "modCount", type := .int, accessFlags := 132, slot := 0, constantValue := 0 }]
  methods := #[k14m0]
  instanceTypes := #[.int]
  staticTypes := #[]
  resolved := Array.replicate 218 none
  statics := none }

def pool15 : Array CpInfo := pool [(1, .class_ 2), (0, u "java/util/RandomAccess"), (0, .class_ 4), (0, u "java/lang/Object")] 2

/-- java/util/RandomAccess -/
def k15 : Class := { plain "java/util/RandomAccess" (some 0) with
  accessFlags := 1537
  interfaces := #[]
  cf := some (fileOf pool15 1 #[] #[] 1537 3 #[] #[])
  fields := #[]
  methods := #[]
  instanceTypes := #[]
  staticTypes := #[]
  resolved := Array.replicate 7 none
  statics := none }

def pool16 : Array CpInfo := pool [(1, .class_ 2), (0, u "java/lang/Cloneable"), (0, .class_ 4), (0, u "java/lang/Object")] 2

/-- java/lang/Cloneable -/
def k16 : Class := { plain "java/lang/Cloneable" (some 0) with
  accessFlags := 1537
  interfaces := #[]
  cf := some (fileOf pool16 1 #[] #[] 1537 3 #[] #[])
  fields := #[]
  methods := #[]
  instanceTypes := #[]
  staticTypes := #[]
  resolved := Array.replicate 7 none
  statics := none }

def pool17 : Array CpInfo := pool [(1, .methodref 2 3), (0, .class_ 4), (0, .nameAndType 5 6), (0, u "java/util/AbstractList"), (0, u "<init>"), (0, u "()V"), (0, .class_ 8), (0, u "java/lang/Object"), (0, .fieldref 10 11), (0, .class_ 12), (0, .nameAndType 13 14), (0, u "java/util/ArrayList"), (0, u "elementData"), (0, u "[Ljava/lang/Object;"), (2, u "EMPTY_ELEMENTDATA"), (21, .fieldref 10 40), (0, .nameAndType 41 14), (0, u "DEFAULTCAPACITY_EMPTY_ELEMENTDATA"), (4, u "toArray"), (0, u "()[Ljava/lang/Object;"), (0, .fieldref 10 49), (0, .nameAndType 50 51), (0, u "size"), (0, u "I"), (6, .class_ 60), (1, u "java/util/Arrays"), (0, u "copyOf"), (1, .fieldref 10 64), (0, .nameAndType 65 51), (0, u "modCount"), (0, .methodref 58 67), (0, .nameAndType 61 68), (0, u "([Ljava/lang/Object;I)[Ljava/lang/Object;"), (0, .methodref 10 70), (0, .nameAndType 71 72), (0, u "grow"), (0, u "(I)[Ljava/lang/Object;"), (6, .methodref 80 81), (0, .class_ 82), (0, .nameAndType 83 84), (0, u "java/lang/Math"), (0, u "max"), (0, u "(II)I"), (11, u "(Ljava/lang/Object;)Z"), (32, .methodref 10 130), (0, .nameAndType 71 47), (0, .methodref 10 132), (0, .nameAndType 133 134), (0, u "add"), (0, u "(Ljava/lang/Object;[Ljava/lang/Object;I)V"), (13, .class_ 149), (0, u "java/util/List"), (23, u "()Z"), (88, .class_ 263), (0, u "java/util/ArrayList$ListItr"), (3, .class_ 268), (0, u "java/util/ArrayList$Itr"), (7, .class_ 277), (0, u "java/util/ArrayList$SubList"), (12, .class_ 291), (0, u "java/util/ArrayList$ArrayListSpliterator"), (37, .class_ 330), (0, u "java/util/RandomAccess"), (0, .class_ 332), (0, u "java/lang/Cloneable"), (0, .class_ 334), (0, u "java/io/Serializable"), (0, u "serialVersionUID"), (0, u "J"), (3, u "DEFAULT_CAPACITY"), (22, u "isEmpty"), (136, .class_ 501), (0, u "java/util/ArrayList$SubList$2"), (0, .class_ 503), (0, u "java/util/ArrayList$SubList$1")] 5

def k17c0 : Code := { maxStack := 2, maxLocals := 1, code := jdk_38_method_2_code, exceptionTable := #[], attributes := #[] }
def k17m0 : Method := { name := "<init>", desc := "()V", sig := { parameters := [], returnType := none }, accessFlags := 1, code := some k17c0 }
def k17c1 : Code := { maxStack := 4, maxLocals := 4, code := jdk_38_method_6_code, exceptionTable := #[], attributes := #[] }
def k17m1 : Method := { name := "grow", desc := "(I)[Ljava/lang/Object;", sig := { parameters := [.int], returnType := some (.array (.object "java/lang/Object")) }, accessFlags := 2, code := some k17c1 }
def k17c2 : Code := { maxStack := 3, maxLocals := 1, code := jdk_38_method_7_code, exceptionTable := #[], attributes := #[] }
def k17m2 : Method := { name := "grow", desc := "()[Ljava/lang/Object;", sig := { parameters := [], returnType := some (.array (.object "java/lang/Object")) }, accessFlags := 2, code := some k17c2 }
def k17c3 : Code := { maxStack := 1, maxLocals := 1, code := jdk_38_method_9_code, exceptionTable := #[], attributes := #[] }
def k17m3 : Method := { name := "isEmpty", desc := "()Z", sig := { parameters := [], returnType := some .boolean }, accessFlags := 1, code := some k17c3 }
def k17c4 : Code := { maxStack := 2, maxLocals := 1, code := jdk_38_method_16_code, exceptionTable := #[], attributes := #[] }
def k17m4 : Method := { name := "toArray", desc := "()[Ljava/lang/Object;", sig := { parameters := [], returnType := some (.array (.object "java/lang/Object")) }, accessFlags := 1, code := some k17c4 }
def k17c5 : Code := { maxStack := 3, maxLocals := 4, code := jdk_38_method_24_code, exceptionTable := #[], attributes := #[] }
def k17m5 : Method := { name := "add", desc := "(Ljava/lang/Object;[Ljava/lang/Object;I)V", sig := { parameters := [(.object "java/lang/Object"), (.array (.object "java/lang/Object")), .int], returnType := none }, accessFlags := 2, code := some k17c5 }
def k17c6 : Code := { maxStack := 4, maxLocals := 2, code := jdk_38_method_25_code, exceptionTable := #[], attributes := #[] }
def k17m6 : Method := { name := "add", desc := "(Ljava/lang/Object;)Z", sig := { parameters := [(.object "java/lang/Object")], returnType := some .boolean }, accessFlags := 1, code := some k17c6 }
/-- java/util/ArrayList -/
def k17 : Class := { plain "java/util/ArrayList" (some 14) with
  accessFlags := 33
  interfaces := #[13, 15, 16, 2]
  cf := some (fileOf pool17 10 #[.nestMembers #[290, 276, 500, 502, 262, 267]] #[{ accessFlags := 1, nameIndex := 5, descriptorIndex := 6, attributes := #[] }, { accessFlags := 2, nameIndex := 71, descriptorIndex := 72, attributes := #[] }, { accessFlags := 2, nameIndex := 71, descriptorIndex := 47, attributes := #[] }, { accessFlags := 1, nameIndex := 363, descriptorIndex := 173, attributes := #[] }, { accessFlags := 1, nameIndex := 46, descriptorIndex := 47, attributes := #[] }, { accessFlags := 2, nameIndex := 133, descriptorIndex := 134, attributes := #[] }, { accessFlags := 1, nameIndex := 133, descriptorIndex := 96, attributes := #[] }] 33 2 #[148, 329, 331, 333] #[{ accessFlags := 26, nameIndex := 335, descriptorIndex := 336, attributes := #[] }, { accessFlags := 26, nameIndex := 340, descriptorIndex := 51, attributes := #[] }, { accessFlags := 26, nameIndex := 17, descriptorIndex := 14, attributes := #[] }, { accessFlags := 26, nameIndex := 41, descriptorIndex := 14, attributes := #[] }, { accessFlags := 128, nameIndex := 13, descriptorIndex := 14, attributes := #[] }, { accessFlags := 2, nameIndex := 50, descriptorIndex := 51, attributes := #[] }])
  fields := #[{ name := "serialVersionUID", type := .long, accessFlags := 26, slot := 0, constantValue := 0 }, { name := "DEFAULT_CAPACITY", type := .int, accessFlags := 26, slot := 1, constantValue := 0 }, { name := "EMPTY_ELEMENTDATA", type := (.array (.object "java/lang/Object")), accessFlags := 26, slot := 2, constantValue := 0 }, { name := "DEFAULTCAPACITY_EMPTY_ELEMENTDATA", type := (.array (.object "java/lang/Object")), accessFlags := 26, slot := 3, constantValue := 0 }, { name := "elementData", type := (.array (.object "java/lang/Object")), accessFlags := 128, slot := 1, constantValue := 0 }, { name := "size", type := .int, accessFlags := 2, slot := 2, constantValue := 0 }]
  methods := #[k17m0, k17m1, k17m2, k17m3, k17m4, k17m5, k17m6]
  instanceTypes := #[.int, (.array (.object "java/lang/Object")), .int]
  staticTypes := #[.long, .int, (.array (.object "java/lang/Object")), (.array (.object "java/lang/Object"))]
  resolved := Array.replicate 509 none
  statics := some 1 }

def pool18 : Array CpInfo := pool [(4, .class_ 6), (1, u "java/lang/Object"), (0, u "<init>"), (0, u "()V"), (5, .class_ 16), (1, u "java/lang/StringLatin1"), (73, u "canEncode"), (14, u "(C)Z"), (15, u "$assertionsDisabled"), (0, u "Z"), (98, .class_ 223), (1, u "java/lang/StringLatin1$LinesSpliterator"), (156, u "toBytes"), (1, u "(C)[B"), (7, .class_ 391), (0, u "java/lang/StringLatin1$CharsSpliterator")] 3

def k18m0 : Method := { name := "<init>", desc := "()V", sig := { parameters := [], returnType := none }, accessFlags := 0, code := none }
def k18c1 : Code := { maxStack := 2, maxLocals := 1, code := jdk_43_method_3_code, exceptionTable := #[], attributes := #[] }
def k18m1 : Method := { name := "canEncode", desc := "(C)Z", sig := { parameters := [.char], returnType := some .boolean }, accessFlags := 9, code := some k18c1 }
def k18c2 : Code := { maxStack := 4, maxLocals := 1, code := jdk_43_method_46_code, exceptionTable := #[], attributes := #[] }
def k18m2 : Method := { name := "toBytes", desc := "(C)[B", sig := { parameters := [.char], returnType := some (.array .byte) }, accessFlags := 9, code := some k18c2 }
/-- java/lang/StringLatin1 -/
def k18 : Class := { plain "java/lang/StringLatin1" (some 0) with
  accessFlags := 48
  interfaces := #[]
  cf := some (fileOf pool18 14 #[.nestMembers #[390, 221]] #[{ accessFlags := 0, nameIndex := 7, descriptorIndex := 8, attributes := #[] }, { accessFlags := 9, nameIndex := 90, descriptorIndex := 105, attributes := #[] }, { accessFlags := 9, nameIndex := 380, descriptorIndex := 382, attributes := #[] }] 48 4 #[] #[{ accessFlags := 4120, nameIndex := 121, descriptorIndex := 122, attributes := #[] }])
  fields := #[{ name := "$assertionsDisabled", type := .boolean, accessFlags := 4120, slot := 0, constantValue := 0 }]
  methods := #[k18m0, k18m1, k18m2]
  instanceTypes := #[]
  staticTypes := #[.boolean]
  resolved := Array.replicate 395 none
  statics := none }

def pool19 : Array CpInfo := pool [(1, .class_ 2), (0, u "java/lang/Math"), (1, .class_ 6), (1, u "java/lang/Object"), (0, u "<init>"), (0, u "()V"), (89, .class_ 100), (1, u "java/lang/Math$RandomNumberGeneratorHolder"), (71, u "negativeZeroFloatBits"), (0, u "J"), (2, u "negativeZeroDoubleBits"), (21, u "max"), (2, u "min"), (43, u "$assertionsDisabled"), (0, u "Z"), (88, u "(II)I"), (2, u "twoToTheDoubleScaleDown"), (0, u "D"), (4, u "twoToTheDoubleScaleUp"), (9, u "E"), (3, u "PI"), (2, u "TAU"), (2, u "DEGREES_TO_RADIANS"), (0, u "RADIANS_TO_DEGREES")] 94

def k19m0 : Method := { name := "<init>", desc := "()V", sig := { parameters := [], returnType := none }, accessFlags := 2, code := none }
def k19c1 : Code := { maxStack := 2, maxLocals := 2, code := jdk_29_method_65_code, exceptionTable := #[], attributes := #[] }
def k19m1 : Method := { name := "max", desc := "(II)I", sig := { parameters := [.int, .int], returnType := some .int }, accessFlags := 9, code := some k19c1 }
def k19c2 : Code := { maxStack := 2, maxLocals := 2, code := jdk_29_method_69_code, exceptionTable := #[], attributes := #[] }
def k19m2 : Method := { name := "min", desc := "(II)I", sig := { parameters := [.int, .int], returnType := some .int }, accessFlags := 9, code := some k19c2 }
/-- java/lang/Math -/
def k19 : Class := { plain "java/lang/Math" (some 0) with
  accessFlags := 49
  interfaces := #[]
  cf := some (fileOf pool19 1 #[.nestMembers #[98]] #[{ accessFlags := 2, nameIndex := 7, descriptorIndex := 8, attributes := #[] }, { accessFlags := 9, nameIndex := 198, descriptorIndex := 335, attributes := #[] }, { accessFlags := 9, nameIndex := 201, descriptorIndex := 335, attributes := #[] }] 49 4 #[] #[{ accessFlags := 25, nameIndex := 354, descriptorIndex := 339, attributes := #[] }, { accessFlags := 25, nameIndex := 358, descriptorIndex := 339, attributes := #[] }, { accessFlags := 25, nameIndex := 361, descriptorIndex := 339, attributes := #[] }, { accessFlags := 26, nameIndex := 364, descriptorIndex := 339, attributes := #[] }, { accessFlags := 26, nameIndex := 365, descriptorIndex := 339, attributes := #[] }, { accessFlags := 26, nameIndex := 172, descriptorIndex := 173, attributes := #[] }, { accessFlags := 26, nameIndex := 176, descriptorIndex := 173, attributes := #[] }, { accessFlags := 8, nameIndex := 344, descriptorIndex := 339, attributes := #[] }, { accessFlags := 8, nameIndex := 338, descriptorIndex := 339, attributes := #[] }, { accessFlags := 4120, nameIndex := 245, descriptorIndex := 246, attributes := #[] }])
  fields := #[{ name := "E", type := .double, accessFlags := 25, slot := 0, constantValue := 0 }, { name := "PI", type := .double, accessFlags := 25, slot := 1, constantValue := 0 }, { name := "TAU", type := .double, accessFlags := 25, slot := 2, constantValue := 0 }, { name := "DEGREES_TO_RADIANS", type := .double, accessFlags := 26, slot := 3, constantValue := 0 }, { name := "RADIANS_TO_DEGREES", type := .double, accessFlags := 26, slot := 4, constantValue := 0 }, { name := "negativeZeroFloatBits", type := .long, accessFlags := 26, slot := 5, constantValue := 0 }, { name := "negativeZeroDoubleBits", type := .long, accessFlags := 26, slot := 6, constantValue := 0 }, { name := "twoToTheDoubleScaleUp", type := .double, accessFlags := 8, slot := 7, constantValue := 0 }, { name := "twoToTheDoubleScaleDown", type := .double, accessFlags := 8, slot := 8, constantValue := 0 }, { name := "$assertionsDisabled", type := .boolean, accessFlags := 4120, slot := 9, constantValue := 0 }]
  methods := #[k19m0, k19m1, k19m2]
  instanceTypes := #[]
  staticTypes := #[.double, .double, .double, .double, .double, .long, .long, .double, .double, .boolean]
  resolved := Array.replicate 460 none
  statics := none }

def pool20 : Array CpInfo := pool [(1, .methodref 2 3), (0, .class_ 4), (0, .nameAndType 5 6), (0, u "java/lang/Object"), (0, u "<init>"), (0, u "()V"), (6, .class_ 14), (0, u "com/example/sheaf/sheaf/cbor/Item"), (64, .class_ 81), (1, u "com/example/sheaf/sheaf/cbor/Item$Visitor"), (2, .class_ 85), (0, u "com/example/sheaf/sheaf/cbor/Item$Visit"), (20, u "I"), (17, u "DEFAULT_DEPTH")] 35

def k20c0 : Code := { maxStack := 1, maxLocals := 1, code := prog_16_method_1_code, exceptionTable := #[], attributes := #[] }
def k20m0 : Method := { name := "<init>", desc := "()V", sig := { parameters := [], returnType := none }, accessFlags := 0, code := some k20c0 }
/-- com/example/sheaf/sheaf/cbor/Item -/
def k20 : Class := { plain "com/example/sheaf/sheaf/cbor/Item" (some 0) with
  accessFlags := 1057
  interfaces := #[]
  cf := some (fileOf pool20 13 #[.nestMembers #[84, 79]] #[{ accessFlags := 0, nameIndex := 5, descriptorIndex := 6, attributes := #[] }] 1057 2 #[] #[{ accessFlags := 25, nameIndex := 124, descriptorIndex := 106, attributes := #[] }])
  fields := #[{ name := "DEFAULT_DEPTH", type := .int, accessFlags := 25, slot := 0, constantValue := 0 }]
  methods := #[k20m0]
  instanceTypes := #[]
  staticTypes := #[.int]
  resolved := Array.replicate 160 none
  statics := none }

def pool21 : Array CpInfo := pool [(1, .methodref 2 3), (0, .class_ 4), (0, .nameAndType 5 6), (0, u "com/example/sheaf/sheaf/cbor/Item"), (0, u "<init>"), (0, u "()V"), (0, .fieldref 8 9), (0, .class_ 10), (0, .nameAndType 11 12), (0, u "com/example/sheaf/sheaf/cbor/TextStringItem"), (0, u "value"), (0, u "Ljava/lang/String;"), (0, .interfaceMethodref 14 15), (0, .class_ 16), (0, .nameAndType 17 18), (0, u "java/util/List"), (0, u "copyOf"), (0, u "(Ljava/util/Collection;)Ljava/util/List;"), (0, .fieldref 8 20), (0, .nameAndType 21 22), (0, u "chunks"), (0, u "Ljava/util/List;"), (43, u "(Ljava/lang/String;Ljava/util/List;)V"), (0, .interfaceMethodref 14 68), (0, .nameAndType 69 70), (0, u "of"), (0, u "()Ljava/util/List;"), (8, u "isIndefinite"), (0, u "()Z")] 3

def k21c0 : Code := { maxStack := 2, maxLocals := 3, code := prog_23_method_1_code, exceptionTable := #[], attributes := #[] }
def k21m0 : Method := { name := "<init>", desc := "(Ljava/lang/String;Ljava/util/List;)V", sig := { parameters := [(.object "java/lang/String"), (.object "java/util/List")], returnType := none }, accessFlags := 0, code := some k21c0 }
def k21c1 : Code := { maxStack := 1, maxLocals := 1, code := prog_23_method_4_code, exceptionTable := #[], attributes := #[] }
def k21m1 : Method := { name := "isIndefinite", desc := "()Z", sig := { parameters := [], returnType := some .boolean }, accessFlags := 1, code := some k21c1 }
def k21c2 : Code := { maxStack := 1, maxLocals := 1, code := prog_23_method_5_code, exceptionTable := #[], attributes := #[] }
def k21m2 : Method := { name := "chunks", desc := "()Ljava/util/List;", sig := { parameters := [], returnType := some (.object "java/util/List") }, accessFlags := 1, code := some k21c2 }
/-- com/example/sheaf/sheaf/cbor/TextStringItem -/
def k21 : Class := { plain "com/example/sheaf/sheaf/cbor/TextStringItem" (some 20) with
  accessFlags := 49
  interfaces := #[]
  cf := some (fileOf pool21 8 #[] #[{ accessFlags := 0, nameIndex := 5, descriptorIndex := 66, attributes := #[] }, { accessFlags := 1, nameIndex := 79, descriptorIndex := 80, attributes := #[] }, { accessFlags := 1, nameIndex := 21, descriptorIndex := 70, attributes := #[] }] 49 2 #[] #[{ accessFlags := 18, nameIndex := 11, descriptorIndex := 12, attributes := #[] }, { accessFlags := 18, nameIndex := 21, descriptorIndex := 22, attributes := #[] }])
  fields := #[{ name := "value", type := (.object "java/lang/String"), accessFlags := 18, slot := 0, constantValue := 0 }, { name := "chunks", type := (.object "java/util/List"), accessFlags := 18, slot := 1, constantValue := 0 }]
  methods := #[k21m0, k21m1, k21m2]
  instanceTypes := #[(.object "java/lang/String"), (.object "java/util/List")]
  staticTypes := #[]
  resolved := Array.replicate 84 none
  statics := none }

def pool22 : Array CpInfo := pool [(2, .class_ 4), (1, u "java/lang/Object"), (0, u "<init>"), (0, u "()V"), (3, .class_ 11), (0, u "java/util/ImmutableCollections$List12"), (0, .class_ 13), (0, u "java/util/ImmutableCollections$ListN"), (3, u "Z"), (0, .class_ 19), (0, u "java/util/List"), (0, .interfaceMethodref 21 22), (0, .class_ 23), (0, .nameAndType 24 25), (0, u "java/util/Collection"), (0, u "isEmpty"), (0, u "()Z"), (0, .interfaceMethodref 18 27), (0, .nameAndType 28 29), (0, u "of"), (0, u "()Ljava/util/List;"), (0, .interfaceMethodref 21 31), (0, .nameAndType 32 33), (0, u "toArray"), (0, u "()[Ljava/lang/Object;"), (0, .interfaceMethodref 18 35), (0, .nameAndType 28 36), (0, u "([Ljava/lang/Object;)Ljava/util/List;"), (0, .methodref 38 39), (0, .class_ 40), (0, .nameAndType 41 42), (0, u "java/util/Objects"), (0, u "requireNonNull"), (0, u "(Ljava/lang/Object;)Ljava/lang/Object;"), (0, .methodref 12 44), (0, .nameAndType 5 45), (0, u "([Ljava/lang/Object;Z)V"), (1, .class_ 49), (1, u "java/util/ImmutableCollections"), (0, u "$assertionsDisabled"), (5, u "[Ljava/lang/Object;"), (5, u "EMPTY_LIST"), (0, u "Ljava/util/ImmutableCollections$ListN;"), (8, u "EMPTY_LIST_NULLS"), (22, u "SALT32L"), (0, u "J"), (2, u "REVERSE"), (6, u "archivedObjects"), (2, u "EMPTY"), (0, u "Ljava/lang/Object;"), (0, .class_ 112), (0, u "java/util/ImmutableCollections$SetN"), (5, u "EMPTY_SET"), (0, u "Ljava/util/ImmutableCollections$SetN;"), (0, .class_ 121), (0, u "java/util/ImmutableCollections$MapN"), (3, u "EMPTY_MAP"), (0, u "Ljava/util/ImmutableCollections$MapN;"), (4, u "EXPAND_FACTOR"), (0, u "I"), (9, u "listCopy"), (0, u "(Ljava/util/Collection;)Ljava/util/List;"), (7, u "listFromArray"), (17, .class_ 170), (0, u "java/util/ImmutableCollections$MapN$MapNIterator"), (0, .class_ 172), (0, u "java/util/ImmutableCollections$MapN$1"), (0, .class_ 174), (0, u "java/util/ImmutableCollections$Map1"), (0, .class_ 176), (0, u "java/util/ImmutableCollections$AbstractImmutableMap"), (0, .class_ 178), (0, u "java/util/ImmutableCollections$SetN$SetNIterator"), (0, .class_ 180), (0, u "java/util/ImmutableCollections$Set12"), (0, .class_ 182), (0, u "java/util/ImmutableCollections$Set12$1"), (0, .class_ 184), (0, u "java/util/ImmutableCollections$AbstractImmutableSet"), (0, .class_ 186), (0, u "java/util/ImmutableCollections$SubList"), (0, .class_ 188), (0, u "java/util/ImmutableCollections$ListItr"), (0, .class_ 190), (0, u "java/util/ImmutableCollections$AbstractImmutableList"), (0, .class_ 192), (0, u "java/util/ImmutableCollections$AbstractImmutableCollection"), (0, .class_ 194), (0, u "java/util/ImmutableCollections$Access"), (0, .class_ 196), (0, u "java/util/ImmutableCollections$Access$1")] 16

def k22m0 : Method := { name := "<init>", desc := "()V", sig := { parameters := [], returnType := none }, accessFlags := 2, code := none }
def k22c1 : Code := { maxStack := 1, maxLocals := 2, code := jdk_56_method_3_code, exceptionTable := #[], attributes := #[] }
def k22m1 : Method := { name := "listCopy", desc := "(Ljava/util/Collection;)Ljava/util/List;", sig := { parameters := [(.object "java/util/Collection")], returnType := some (.object "java/util/List") }, accessFlags := 8, code := some k22c1 }
def k22c2 : Code := { maxStack := 4, maxLocals := 3, code := jdk_56_method_4_code, exceptionTable := #[], attributes := #[] }
def k22m2 : Method := { name := "listFromArray", desc := "([Ljava/lang/Object;)Ljava/util/List;", sig := { parameters := [(.array (.object "java/lang/Object"))], returnType := some (.object "java/util/List") }, accessFlags := 136, code := some k22c2 }
/-- java/util/ImmutableCollections -/
def k22 : Class := { plain "java/util/ImmutableCollections" (some 0) with
  accessFlags := 32
  interfaces := #[]
  cf := some (fileOf pool22 47 #[.nestMembers #[120, 169, 171, 173, 175, 111, 177, 179, 181, 183, 12, 10, 185, 187, 189, 191, 193, 195]] #[{ accessFlags := 2, nameIndex := 5, descriptorIndex := 6, attributes := #[] }, { accessFlags := 8, nameIndex := 142, descriptorIndex := 143, attributes := #[] }, { accessFlags := 136, nameIndex := 151, descriptorIndex := 36, attributes := #[] }] 32 2 #[] #[{ accessFlags := 26, nameIndex := 95, descriptorIndex := 96, attributes := #[] }, { accessFlags := 26, nameIndex := 99, descriptorIndex := 17, attributes := #[] }, { accessFlags := 10, nameIndex := 106, descriptorIndex := 56, attributes := #[] }, { accessFlags := 26, nameIndex := 109, descriptorIndex := 110, attributes := #[] }, { accessFlags := 24, nameIndex := 62, descriptorIndex := 63, attributes := #[] }, { accessFlags := 24, nameIndex := 72, descriptorIndex := 63, attributes := #[] }, { accessFlags := 24, nameIndex := 118, descriptorIndex := 119, attributes := #[] }, { accessFlags := 24, nameIndex := 125, descriptorIndex := 126, attributes := #[] }, { accessFlags := 24, nameIndex := 131, descriptorIndex := 132, attributes := #[] }, { accessFlags := 4120, nameIndex := 50, descriptorIndex := 17, attributes := #[] }])
  fields := #[{ name := "SALT32L", type := .long, accessFlags := 26, slot := 0, constantValue := 0 }, { name := "REVERSE", type := .boolean, accessFlags := 26, slot := 1, constantValue := 0 }, { name := "archivedObjects", type := (.array (.object "java/lang/Object")), accessFlags := 10, slot := 2, constantValue := 0 }, { name := "EMPTY", type := (.object "java/lang/Object"), accessFlags := 26, slot := 3, constantValue := 0 }, { name := "EMPTY_LIST", type := (.object "java/util/ImmutableCollections$ListN"), accessFlags := 24, slot := 4, constantValue := 0 }, { name := "EMPTY_LIST_NULLS", type := (.object "java/util/ImmutableCollections$ListN"), accessFlags := 24, slot := 5, constantValue := 0 }, { name := "EMPTY_SET", type := (.object "java/util/ImmutableCollections$SetN"), accessFlags := 24, slot := 6, constantValue := 0 }, { name := "EMPTY_MAP", type := (.object "java/util/ImmutableCollections$MapN"), accessFlags := 24, slot := 7, constantValue := 0 }, { name := "EXPAND_FACTOR", type := .int, accessFlags := 24, slot := 8, constantValue := 0 }, { name := "$assertionsDisabled", type := .boolean, accessFlags := 4120, slot := 9, constantValue := 0 }]
  methods := #[k22m0, k22m1, k22m2]
  instanceTypes := #[]
  staticTypes := #[.long, .boolean, (.array (.object "java/lang/Object")), (.object "java/lang/Object"), (.object "java/util/ImmutableCollections$ListN"), (.object "java/util/ImmutableCollections$ListN"), (.object "java/util/ImmutableCollections$SetN"), (.object "java/util/ImmutableCollections$MapN"), .int, .boolean]
  resolved := Array.replicate 213 none
  statics := some 2 }

def pool23 : Array CpInfo := pool [(1, .methodref 2 3), (0, .class_ 4), (0, .nameAndType 5 6), (0, u "java/util/AbstractCollection"), (0, u "<init>"), (0, u "()V"), (1, .class_ 10), (1, u "java/util/ImmutableCollections"), (2, .class_ 14), (0, u "java/util/ImmutableCollections$AbstractImmutableCollection")] 41

def k23c0 : Code := { maxStack := 1, maxLocals := 1, code := jdk_47_method_1_code, exceptionTable := #[], attributes := #[] }
def k23m0 : Method := { name := "<init>", desc := "()V", sig := { parameters := [], returnType := none }, accessFlags := 0, code := some k23c0 }
/-- java/util/ImmutableCollections$AbstractImmutableCollection -/
def k23 : Class := { plain "java/util/ImmutableCollections$AbstractImmutableCollection" (some 11) with
  accessFlags := 1056
  interfaces := #[]
  cf := some (fileOf pool23 13 #[.nestHost 8] #[{ accessFlags := 0, nameIndex := 5, descriptorIndex := 6, attributes := #[] }] 1056 2 #[] #[])
  fields := #[]
  methods := #[k23m0]
  instanceTypes := #[]
  staticTypes := #[]
  resolved := Array.replicate 56 none
  statics := none }

def pool24 : Array CpInfo := pool [(1, .methodref 2 3), (0, .class_ 4), (0, .nameAndType 5 6), (0, u "java/util/ImmutableCollections$AbstractImmutableCollection"), (0, u "<init>"), (0, u "()V"), (1, .class_ 10), (1, u "java/util/ImmutableCollections"), (3, .class_ 16), (1, u "java/util/ImmutableCollections$AbstractImmutableList"), (60, .class_ 78), (0, u "java/util/List"), (45, .class_ 125), (0, u "java/util/RandomAccess")] 70

def k24c0 : Code := { maxStack := 1, maxLocals := 1, code := jdk_46_method_1_code, exceptionTable := #[], attributes := #[] }
def k24m0 : Method := { name := "<init>", desc := "()V", sig := { parameters := [], returnType := none }, accessFlags := 0, code := some k24c0 }
/-- java/util/ImmutableCollections$AbstractImmutableList -/
def k24 : Class := { plain "java/util/ImmutableCollections$AbstractImmutableList" (some 23) with
  accessFlags := 1056
  interfaces := #[13, 15]
  cf := some (fileOf pool24 14 #[.nestHost 8] #[{ accessFlags := 0, nameIndex := 5, descriptorIndex := 6, attributes := #[] }] 1056 2 #[77, 124] #[])
  fields := #[]
  methods := #[k24m0]
  instanceTypes := #[]
  staticTypes := #[]
  resolved := Array.replicate 196 none
  statics := none }

def pool25 : Array CpInfo := pool [(1, .methodref 2 3), (0, .class_ 4), (0, .nameAndType 5 6), (0, u "java/util/ImmutableCollections$AbstractImmutableList"), (0, u "<init>"), (0, u "()V"), (0, .fieldref 8 9), (0, .class_ 10), (0, .nameAndType 11 12), (0, u "java/util/ImmutableCollections$ListN"), (0, u "elements"), (0, u "[Ljava/lang/Object;"), (0, .fieldref 8 14), (0, .nameAndType 15 16), (0, u "allowNulls"), (0, u "Z"), (42, .class_ 60), (0, u "java/io/Serializable"), (4, u "([Ljava/lang/Object;Z)V"), (11, u "size"), (0, u "()I"), (35, .class_ 115), (0, u "java/util/ImmutableCollections")] 3

def k25c0 : Code := { maxStack := 2, maxLocals := 3, code := jdk_45_method_1_code, exceptionTable := #[], attributes := #[] }
def k25m0 : Method := { name := "<init>", desc := "([Ljava/lang/Object;Z)V", sig := { parameters := [(.array (.object "java/lang/Object")), .boolean], returnType := none }, accessFlags := 2, code := some k25c0 }
def k25c1 : Code := { maxStack := 1, maxLocals := 1, code := jdk_45_method_3_code, exceptionTable := #[], attributes := #[] }
def k25m1 : Method := { name := "size", desc := "()I", sig := { parameters := [], returnType := some .int }, accessFlags := 1, code := some k25c1 }
/-- java/util/ImmutableCollections$ListN -/
def k25 : Class := { plain "java/util/ImmutableCollections$ListN" (some 24) with
  accessFlags := 48
  interfaces := #[2]
  cf := some (fileOf pool25 8 #[.nestHost 114] #[{ accessFlags := 2, nameIndex := 5, descriptorIndex := 65, attributes := #[] }, { accessFlags := 1, nameIndex := 77, descriptorIndex := 78, attributes := #[] }] 48 2 #[59] #[{ accessFlags := 18, nameIndex := 11, descriptorIndex := 12, attributes := #[] }, { accessFlags := 18, nameIndex := 15, descriptorIndex := 16, attributes := #[] }])
  fields := #[{ name := "elements", type := (.array (.object "java/lang/Object")), accessFlags := 18, slot := 0, constantValue := 0 }, { name := "allowNulls", type := .boolean, accessFlags := 18, slot := 1, constantValue := 0 }]
  methods := #[k25m0, k25m1]
  instanceTypes := #[(.array (.object "java/lang/Object")), .boolean]
  staticTypes := #[]
  resolved := Array.replicate 119 none
  statics := none }

def pool26 : Array CpInfo := pool [(1, .methodref 2 3), (0, .class_ 4), (0, .nameAndType 5 6), (0, u "java/util/ImmutableCollections$AbstractImmutableList"), (0, u "<init>"), (0, u "()V"), (0, .methodref 8 9), (0, .class_ 10), (0, .nameAndType 11 12), (0, u "java/util/Objects"), (0, u "requireNonNull"), (0, u "(Ljava/lang/Object;)Ljava/lang/Object;"), (0, .fieldref 14 15), (0, .class_ 16), (0, .nameAndType 17 18), (0, u "java/util/ImmutableCollections$List12"), (0, u "e0"), (0, u "Ljava/lang/Object;"), (0, .fieldref 20 21), (0, .class_ 22), (0, .nameAndType 23 18), (0, u "java/util/ImmutableCollections"), (0, u "EMPTY"), (0, .fieldref 14 25), (0, .nameAndType 26 18), (0, u "e1"), (24, u "size"), (0, u "()I"), (17, .class_ 71), (0, u "java/io/Serializable"), (4, u "(Ljava/lang/Object;)V"), (8, u "(Ljava/lang/Object;Ljava/lang/Object;)V")] 39

def k26c0 : Code := { maxStack := 2, maxLocals := 2, code := jdk_44_method_1_code, exceptionTable := #[], attributes := #[] }
def k26m0 : Method := { name := "<init>", desc := "(Ljava/lang/Object;)V", sig := { parameters := [(.object "java/lang/Object")], returnType := none }, accessFlags := 0, code := some k26c0 }
def k26c1 : Code := { maxStack := 2, maxLocals := 3, code := jdk_44_method_2_code, exceptionTable := #[], attributes := #[] }
def k26m1 : Method := { name := "<init>", desc := "(Ljava/lang/Object;Ljava/lang/Object;)V", sig := { parameters := [(.object "java/lang/Object"), (.object "java/lang/Object")], returnType := none }, accessFlags := 0, code := some k26c1 }
def k26c2 : Code := { maxStack := 2, maxLocals := 1, code := jdk_44_method_3_code, exceptionTable := #[], attributes := #[] }
def k26m2 : Method := { name := "size", desc := "()I", sig := { parameters := [], returnType := some .int }, accessFlags := 1, code := some k26c2 }
/-- java/util/ImmutableCollections$List12 -/
def k26 : Class := { plain "java/util/ImmutableCollections$List12" (some 24) with
  accessFlags := 48
  interfaces := #[2]
  cf := some (fileOf pool26 14 #[.nestHost 20] #[{ accessFlags := 0, nameIndex := 5, descriptorIndex := 76, attributes := #[] }, { accessFlags := 0, nameIndex := 5, descriptorIndex := 85, attributes := #[] }, { accessFlags := 1, nameIndex := 51, descriptorIndex := 52, attributes := #[] }] 48 2 #[70] #[{ accessFlags := 18, nameIndex := 17, descriptorIndex := 18, attributes := #[] }, { accessFlags := 18, nameIndex := 26, descriptorIndex := 18, attributes := #[] }])
  fields := #[{ name := "e0", type := (.object "java/lang/Object"), accessFlags := 18, slot := 0, constantValue := 0 }, { name := "e1", type := (.object "java/lang/Object"), accessFlags := 18, slot := 1, constantValue := 0 }]
  methods := #[k26m0, k26m1, k26m2]
  instanceTypes := #[(.object "java/lang/Object"), (.object "java/lang/Object")]
  staticTypes := #[]
  resolved := Array.replicate 125 none
  statics := none }

def pool27 : Array CpInfo := pool [(2, .class_ 4), (1, u "java/lang/Object"), (0, u "<init>"), (0, u "()V"), (7, .class_ 16), (1, u "java/util/Arrays"), (57, .class_ 76), (1, u "java/util/Arrays$NaturalOrder"), (9, .methodref 2 87), (0, .nameAndType 88 89), (0, u "getClass"), (0, u "()Ljava/lang/Class;"), (20, .class_ 111), (0, u "[Ljava/lang/Object;"), (1, .class_ 115), (1, u "java/util/Arrays$LegacyMergeSort"), (1, u "Z"), (32, .methodref 151 152), (0, .class_ 153), (0, .nameAndType 154 155), (0, u "java/lang/System"), (0, u "arraycopy"), (0, u "(Ljava/lang/Object;ILjava/lang/Object;II)V"), (144, .methodref 14 301), (0, .nameAndType 302 303), (0, u "copyOf"), (0, u "([Ljava/lang/Object;ILjava/lang/Class;)[Ljava/lang/Object;"), (0, .methodref 305 306), (0, .class_ 307), (0, .nameAndType 308 309), (0, u "java/lang/Math"), (0, u "min"), (0, u "(II)I"), (65, .class_ 376), (0, u "java/util/Arrays$ArrayList"), (68, u "$assertionsDisabled"), (269, u "MIN_ARRAY_SORT_GRAN"), (0, u "I"), (2, u "INSERTIONSORT_THRESHOLD"), (140, u "([Ljava/lang/Object;I)[Ljava/lang/Object;"), (114, .class_ 976), (0, u "java/util/Arrays$ArrayItr")] 52

def k27m0 : Method := { name := "<init>", desc := "()V", sig := { parameters := [], returnType := none }, accessFlags := 2, code := none }
def k27c1 : Code := { maxStack := 3, maxLocals := 2, code := jdk_65_method_119_code, exceptionTable := #[], attributes := #[] }
def k27m1 : Method := { name := "copyOf", desc := "([Ljava/lang/Object;I)[Ljava/lang/Object;", sig := { parameters := [(.array (.object "java/lang/Object")), .int], returnType := some (.array (.object "java/lang/Object")) }, accessFlags := 9, code := some k27c1 }
def k27c2 : Code := { maxStack := 6, maxLocals := 4, code := jdk_65_method_120_code, exceptionTable := #[], attributes := #[] }
def k27m2 : Method := { name := "copyOf", desc := "([Ljava/lang/Object;ILjava/lang/Class;)[Ljava/lang/Object;", sig := { parameters := [(.array (.object "java/lang/Object")), .int, (.object "java/lang/Class")], returnType := some (.array (.object "java/lang/Object")) }, accessFlags := 9, code := some k27c2 }
/-- java/util/Arrays -/
def k27 : Class := { plain "java/util/Arrays" (some 0) with
  accessFlags := 49
  interfaces := #[]
  cf := some (fileOf pool27 14 #[.nestMembers #[975, 375, 113, 74]] #[{ accessFlags := 2, nameIndex := 5, descriptorIndex := 6, attributes := #[] }, { accessFlags := 9, nameIndex := 302, descriptorIndex := 860, attributes := #[] }, { accessFlags := 9, nameIndex := 302, descriptorIndex := 303, attributes := #[] }] 49 2 #[] #[{ accessFlags := 26, nameIndex := 715, descriptorIndex := 716, attributes := #[] }, { accessFlags := 26, nameIndex := 719, descriptorIndex := 716, attributes := #[] }, { accessFlags := 4120, nameIndex := 445, descriptorIndex := 117, attributes := #[] }])
  fields := #[{ name := "MIN_ARRAY_SORT_GRAN", type := .int, accessFlags := 26, slot := 0, constantValue := 0 }, { name := "INSERTIONSORT_THRESHOLD", type := .int, accessFlags := 26, slot := 1, constantValue := 0 }, { name := "$assertionsDisabled", type := .boolean, accessFlags := 4120, slot := 2, constantValue := 0 }]
  methods := #[k27m0, k27m1, k27m2]
  instanceTypes := #[]
  staticTypes := #[.int, .int, .boolean]
  resolved := Array.replicate 1029 none
  statics := none }

def pool28 : Array CpInfo := pool [(2, .class_ 4), (1, u "java/lang/Object"), (0, u "<init>"), (0, u "()V"), (1, .class_ 10), (1, u "java/lang/System"), (0, u "allowSecurityManager"), (0, u "I"), (16, u "cons"), (0, u "Ljava/io/Console;"), (77, .class_ 110), (1, u "java/lang/System$CallersHolder"), (43, u "initialErrStream"), (0, u "Ljava/io/PrintStream;"), (19, u "security"), (0, u "Ljava/lang/SecurityManager;"), (31, .class_ 209), (0, u "java/lang/System$1"), (7, u "props"), (0, u "Ljava/util/Properties;"), (2, u "lineSeparator"), (0, u "Ljava/lang/String;"), (96, .class_ 321), (1, u "java/lang/System$LoggerFinder"), (5, .class_ 328), (0, u "java/lang/System$Logger"), (67, u "err"), (2, u "out"), (91, u "notSupportedJnuEncoding"), (15, u "in"), (17, u "initialIn"), (0, u "Ljava/io/InputStream;"), (35, u "bootLayer"), (0, u "Ljava/lang/ModuleLayer;"), (99, .class_ 664), (0, u "java/lang/System$2"), (9, u "NEVER"), (2, u "MAYBE"), (49, u "arraycopy"), (0, u "(Ljava/lang/Object;ILjava/lang/Object;II)V"), (72, .class_ 802), (0, u "java/lang/System$Logger$Level")] 31

def k28m0 : Method := { name := "<init>", desc := "()V", sig := { parameters := [], returnType := none }, accessFlags := 2, code := none }
def k28m1 : Method := { name := "arraycopy", desc := "(Ljava/lang/Object;ILjava/lang/Object;II)V", sig := { parameters := [(.object "java/lang/Object"), .int, (.object "java/lang/Object"), .int, .int], returnType := none }, accessFlags := 265, code := none }
/-- java/lang/System -/
def k28 : Class := { plain "java/lang/System" (some 0) with
  accessFlags := 49
  interfaces := #[]
  cf := some (fileOf pool28 8 #[.nestMembers #[319, 327, 801, 108, 663, 208]] #[{ accessFlags := 2, nameIndex := 5, descriptorIndex := 6, attributes := #[] }, { accessFlags := 265, nameIndex := 727, descriptorIndex := 728, attributes := #[] }] 49 2 #[] #[{ accessFlags := 25, nameIndex := 507, descriptorIndex := 526, attributes := #[] }, { accessFlags := 25, nameIndex := 399, descriptorIndex := 155, attributes := #[] }, { accessFlags := 25, nameIndex := 396, descriptorIndex := 155, attributes := #[] }, { accessFlags := 10, nameIndex := 525, descriptorIndex := 526, attributes := #[] }, { accessFlags := 26, nameIndex := 674, descriptorIndex := 12, attributes := #[] }, { accessFlags := 26, nameIndex := 677, descriptorIndex := 12, attributes := #[] }, { accessFlags := 10, nameIndex := 11, descriptorIndex := 12, attributes := #[] }, { accessFlags := 74, nameIndex := 175, descriptorIndex := 176, attributes := #[] }, { accessFlags := 10, nameIndex := 491, descriptorIndex := 222, attributes := #[] }, { accessFlags := 74, nameIndex := 29, descriptorIndex := 30, attributes := #[] }, { accessFlags := 74, nameIndex := 154, descriptorIndex := 155, attributes := #[] }, { accessFlags := 10, nameIndex := 217, descriptorIndex := 218, attributes := #[] }, { accessFlags := 10, nameIndex := 221, descriptorIndex := 222, attributes := #[] }, { accessFlags := 8, nameIndex := 562, descriptorIndex := 563, attributes := #[] }])
  fields := #[{ name := "in", type := (.object "java/io/InputStream"), accessFlags := 25, slot := 0, constantValue := 0 }, { name := "out", type := (.object "java/io/PrintStream"), accessFlags := 25, slot := 1, constantValue := 0 }, { name := "err", type := (.object "java/io/PrintStream"), accessFlags := 25, slot := 2, constantValue := 0 }, { name := "initialIn", type := (.object "java/io/InputStream"), accessFlags := 10, slot := 3, constantValue := 0 }, { name := "NEVER", type := .int, accessFlags := 26, slot := 4, constantValue := 0 }, { name := "MAYBE", type := .int, accessFlags := 26, slot := 5, constantValue := 0 }, { name := "allowSecurityManager", type := .int, accessFlags := 10, slot := 6, constantValue := 0 }, { name := "security", type := (.object "java/lang/SecurityManager"), accessFlags := 74, slot := 7, constantValue := 0 }, { name := "notSupportedJnuEncoding", type := (.object "java/lang/String"), accessFlags := 10, slot := 8, constantValue := 0 }, { name := "cons", type := (.object "java/io/Console"), accessFlags := 74, slot := 9, constantValue := 0 }, { name := "initialErrStream", type := (.object "java/io/PrintStream"), accessFlags := 74, slot := 10, constantValue := 0 }, { name := "props", type := (.object "java/util/Properties"), accessFlags := 10, slot := 11, constantValue := 0 }, { name := "lineSeparator", type := (.object "java/lang/String"), accessFlags := 10, slot := 12, constantValue := 0 }, { name := "bootLayer", type := (.object "java/lang/ModuleLayer"), accessFlags := 8, slot := 13, constantValue := 0 }]
  methods := #[k28m0, k28m1]
  instanceTypes := #[]
  staticTypes := #[(.object "java/io/InputStream"), (.object "java/io/PrintStream"), (.object "java/io/PrintStream"), (.object "java/io/InputStream"), .int, .int, .int, (.object "java/lang/SecurityManager"), (.object "java/lang/String"), (.object "java/io/Console"), (.object "java/io/PrintStream"), (.object "java/util/Properties"), (.object "java/lang/String"), (.object "java/lang/ModuleLayer")]
  resolved := Array.replicate 834 none
  statics := none }

def pool29 : Array CpInfo := pool [(2, .class_ 4), (1, u "java/lang/Object"), (0, u "<init>"), (0, u "()V"), (35, .class_ 44), (1, u "java/util/Objects"), (0, u "requireNonNull"), (0, u "(Ljava/lang/Object;)Ljava/lang/Object;")] 137

def k29m0 : Method := { name := "<init>", desc := "()V", sig := { parameters := [], returnType := none }, accessFlags := 2, code := none }
def k29c1 : Code := { maxStack := 2, maxLocals := 1, code := jdk_31_method_10_code, exceptionTable := #[], attributes := #[] }
def k29m1 : Method := { name := "requireNonNull", desc := "(Ljava/lang/Object;)Ljava/lang/Object;", sig := { parameters := [(.object "java/lang/Object")], returnType := some (.object "java/lang/Object") }, accessFlags := 9, code := some k29c1 }
/-- java/util/Objects -/
def k29 : Class := { plain "java/util/Objects" (some 0) with
  accessFlags := 49
  interfaces := #[]
  cf := some (fileOf pool29 42 #[] #[{ accessFlags := 2, nameIndex := 5, descriptorIndex := 6, attributes := #[] }, { accessFlags := 9, nameIndex := 45, descriptorIndex := 46, attributes := #[] }] 49 2 #[] #[])
  fields := #[]
  methods := #[k29m0, k29m1]
  instanceTypes := #[]
  staticTypes := #[]
  resolved := Array.replicate 184 none
  statics := none }

def pool30 : Array CpInfo := pool [(2, .class_ 4), (1, u "java/lang/Object"), (0, u "<init>"), (0, u "()V"), (17, .class_ 26), (1, u "jdk/internal/util/Preconditions"), (28, .class_ 56), (0, u "jdk/internal/util/Preconditions$4"), (57, .class_ 115), (0, u "jdk/internal/util/Preconditions$1"), (7, u "SIOOBE_FORMATTER"), (0, u "Ljava/util/function/BiFunction;"), (0, .class_ 126), (0, u "jdk/internal/util/Preconditions$2"), (3, u "AIOOBE_FORMATTER"), (0, .class_ 132), (0, u "jdk/internal/util/Preconditions$3"), (3, u "IOOBE_FORMATTER")] 57

def k30m0 : Method := { name := "<init>", desc := "()V", sig := { parameters := [], returnType := none }, accessFlags := 1, code := none }
/-- jdk/internal/util/Preconditions -/
def k30 : Class := { plain "jdk/internal/util/Preconditions" (some 0) with
  accessFlags := 33
  interfaces := #[]
  cf := some (fileOf pool30 24 #[.nestMembers #[55, 131, 125, 114]] #[{ accessFlags := 1, nameIndex := 5, descriptorIndex := 6, attributes := #[] }] 33 2 #[] #[{ accessFlags := 25, nameIndex := 123, descriptorIndex := 124, attributes := #[] }, { accessFlags := 25, nameIndex := 130, descriptorIndex := 124, attributes := #[] }, { accessFlags := 25, nameIndex := 136, descriptorIndex := 124, attributes := #[] }])
  fields := #[{ name := "SIOOBE_FORMATTER", type := (.object "java/util/function/BiFunction"), accessFlags := 25, slot := 0, constantValue := 0 }, { name := "AIOOBE_FORMATTER", type := (.object "java/util/function/BiFunction"), accessFlags := 25, slot := 1, constantValue := 0 }, { name := "IOOBE_FORMATTER", type := (.object "java/util/function/BiFunction"), accessFlags := 25, slot := 2, constantValue := 0 }]
  methods := #[k30m0]
  instanceTypes := #[]
  staticTypes := #[(.object "java/util/function/BiFunction"), (.object "java/util/function/BiFunction"), (.object "java/util/function/BiFunction")]
  resolved := Array.replicate 194 none
  statics := some 3 }

def pool31 : Array CpInfo := pool [(9, u "<init>"), (6, .class_ 18), (1, u "java/lang/Object"), (0, u "()V"), (1, .class_ 23), (1, u "jdk/internal/util/ArraysSupport"), (0, u "LOG2_ARRAY_LONG_INDEX_SCALE"), (0, u "I"), (2, u "U"), (0, u "Ljdk/internal/misc/Unsafe;"), (8, u "BIG_ENDIAN"), (0, u "Z"), (8, u "LOG2_BYTE_BIT_SIZE"), (4, u "LOG2_ARRAY_INT_INDEX_SCALE"), (54, u "JLA"), (0, u "Ljdk/internal/access/JavaLangAccess;"), (11, u "LOG2_ARRAY_BOOLEAN_INDEX_SCALE"), (9, u "LOG2_ARRAY_BYTE_INDEX_SCALE"), (5, u "LOG2_ARRAY_CHAR_INDEX_SCALE"), (5, u "LOG2_ARRAY_SHORT_INDEX_SCALE"), (18, u "LOG2_ARRAY_FLOAT_INDEX_SCALE"), (24, u "LOG2_ARRAY_DOUBLE_INDEX_SCALE"), (89, u "T_BOOLEAN"), (2, u "T_CHAR"), (1, u "T_FLOAT"), (1, u "T_DOUBLE"), (1, u "T_BYTE"), (1, u "T_SHORT"), (1, u "T_INT"), (1, u "T_LONG"), (1, u "SOFT_MAX_ARRAY_LENGTH")] 83

def k31m0 : Method := { name := "<init>", desc := "()V", sig := { parameters := [], returnType := none }, accessFlags := 2, code := none }
/-- jdk/internal/util/ArraysSupport -/
def k31 : Class := { plain "jdk/internal/util/ArraysSupport" (some 0) with
  accessFlags := 33
  interfaces := #[]
  cf := some (fileOf pool31 21 #[] #[{ accessFlags := 2, nameIndex := 9, descriptorIndex := 19, attributes := #[] }] 33 16 #[] #[{ accessFlags := 24, nameIndex := 28, descriptorIndex := 29, attributes := #[] }, { accessFlags := 26, nameIndex := 38, descriptorIndex := 39, attributes := #[] }, { accessFlags := 25, nameIndex := 121, descriptorIndex := 25, attributes := #[] }, { accessFlags := 25, nameIndex := 131, descriptorIndex := 25, attributes := #[] }, { accessFlags := 25, nameIndex := 137, descriptorIndex := 25, attributes := #[] }, { accessFlags := 25, nameIndex := 143, descriptorIndex := 25, attributes := #[] }, { accessFlags := 25, nameIndex := 53, descriptorIndex := 25, attributes := #[] }, { accessFlags := 25, nameIndex := 24, descriptorIndex := 25, attributes := #[] }, { accessFlags := 25, nameIndex := 162, descriptorIndex := 25, attributes := #[] }, { accessFlags := 25, nameIndex := 187, descriptorIndex := 25, attributes := #[] }, { accessFlags := 26, nameIndex := 48, descriptorIndex := 25, attributes := #[] }, { accessFlags := 25, nameIndex := 277, descriptorIndex := 25, attributes := #[] }, { accessFlags := 25, nameIndex := 280, descriptorIndex := 25, attributes := #[] }, { accessFlags := 25, nameIndex := 282, descriptorIndex := 25, attributes := #[] }, { accessFlags := 25, nameIndex := 284, descriptorIndex := 25, attributes := #[] }, { accessFlags := 25, nameIndex := 286, descriptorIndex := 25, attributes := #[] }, { accessFlags := 25, nameIndex := 288, descriptorIndex := 25, attributes := #[] }, { accessFlags := 25, nameIndex := 290, descriptorIndex := 25, attributes := #[] }, { accessFlags := 25, nameIndex := 292, descriptorIndex := 25, attributes := #[] }, { accessFlags := 26, nameIndex := 108, descriptorIndex := 109, attributes := #[] }, { accessFlags := 25, nameIndex := 294, descriptorIndex := 25, attributes := #[] }])
  fields := #[{ name := "U", type := (.object "jdk/internal/misc/Unsafe"), accessFlags := 24, slot := 0, constantValue := 0 }, { name := "BIG_ENDIAN", type := .boolean, accessFlags := 26, slot := 1, constantValue := 0 }, { name := "LOG2_ARRAY_BOOLEAN_INDEX_SCALE", type := .int, accessFlags := 25, slot := 2, constantValue := 0 }, { name := "LOG2_ARRAY_BYTE_INDEX_SCALE", type := .int, accessFlags := 25, slot := 3, constantValue := 0 }, { name := "LOG2_ARRAY_CHAR_INDEX_SCALE", type := .int, accessFlags := 25, slot := 4, constantValue := 0 }, { name := "LOG2_ARRAY_SHORT_INDEX_SCALE", type := .int, accessFlags := 25, slot := 5, constantValue := 0 }, { name := "LOG2_ARRAY_INT_INDEX_SCALE", type := .int, accessFlags := 25, slot := 6, constantValue := 0 }, { name := "LOG2_ARRAY_LONG_INDEX_SCALE", type := .int, accessFlags := 25, slot := 7, constantValue := 0 }, { name := "LOG2_ARRAY_FLOAT_INDEX_SCALE", type := .int, accessFlags := 25, slot := 8, constantValue := 0 }, { name := "LOG2_ARRAY_DOUBLE_INDEX_SCALE", type := .int, accessFlags := 25, slot := 9, constantValue := 0 }, { name := "LOG2_BYTE_BIT_SIZE", type := .int, accessFlags := 26, slot := 10, constantValue := 0 }, { name := "T_BOOLEAN", type := .int, accessFlags := 25, slot := 11, constantValue := 0 }, { name := "T_CHAR", type := .int, accessFlags := 25, slot := 12, constantValue := 0 }, { name := "T_FLOAT", type := .int, accessFlags := 25, slot := 13, constantValue := 0 }, { name := "T_DOUBLE", type := .int, accessFlags := 25, slot := 14, constantValue := 0 }, { name := "T_BYTE", type := .int, accessFlags := 25, slot := 15, constantValue := 0 }, { name := "T_SHORT", type := .int, accessFlags := 25, slot := 16, constantValue := 0 }, { name := "T_INT", type := .int, accessFlags := 25, slot := 17, constantValue := 0 }, { name := "T_LONG", type := .int, accessFlags := 25, slot := 18, constantValue := 0 }, { name := "JLA", type := (.object "jdk/internal/access/JavaLangAccess"), accessFlags := 26, slot := 19, constantValue := 0 }, { name := "SOFT_MAX_ARRAY_LENGTH", type := .int, accessFlags := 25, slot := 20, constantValue := 0 }]
  methods := #[k31m0]
  instanceTypes := #[]
  staticTypes := #[(.object "jdk/internal/misc/Unsafe"), .boolean, .int, .int, .int, .int, .int, .int, .int, .int, .int, .int, .int, .int, .int, .int, .int, .int, .int, (.object "jdk/internal/access/JavaLangAccess"), .int]
  resolved := Array.replicate 378 none
  statics := none }

def pool32 : Array CpInfo := pool [(1, u "java/lang/Class"), (0, .class_ 1), (0, u "java/lang/Object"), (0, .class_ 3)] 3

/-- java/lang/Class -/
def k32 : Class := { plain "java/lang/Class" (some 0) with
  accessFlags := 49
  interfaces := #[]
  cf := some (fileOf pool32 2 #[] #[] 49 4 #[] #[])
  fields := #[]
  methods := #[]
  instanceTypes := #[]
  staticTypes := #[]
  resolved := Array.replicate 8 none
  statics := none }

/-- the primitive byte -/
def k33 : Class := { plain "byte" none with kind := .primitive 'B', accessFlags := 0x411 }
/-- [B -/
def k34 : Class := { plain "[B" (some 0) with kind := .array 33 .byte, interfaces := #[16, 2], accessFlags := 1041 }

/-- the primitive char -/
def k35 : Class := { plain "char" none with kind := .primitive 'C', accessFlags := 0x411 }
/-- [C -/
def k36 : Class := { plain "[C" (some 0) with kind := .array 35 .char, interfaces := #[16, 2], accessFlags := 1041 }

/-- [Ljava/lang/Object; -/
def k37 : Class := { plain "[Ljava/lang/Object;" (some 0) with kind := .array 0 (.object "java/lang/Object"), interfaces := #[16, 2], accessFlags := 1041, mirror := some 4 }

def heap : Heap := #[{ cls := 7, slots := #[.long 0, .int 1, .null, .int 0, .null, .int 0, .int 0], vm := .statics 7 },
  { cls := 17, slots := #[.long 0, .int 0, .ref 7, .ref 8], vm := .statics 17 },
  { cls := 22, slots := #[.long 0, .int 0, .null, .ref 9, .ref 6, .null, .null, .null, .int 0, .int 1], vm := .statics 22 },
  { cls := 30, slots := #[.null, .null, .null], vm := .statics 30 },
  { cls := 32, slots := #[], vm := .mirror 37 },
  { cls := 37, slots := #[], vm := .none },
  { cls := 25, slots := #[.ref 5, .int 0], vm := .none },
  { cls := 37, slots := #[], vm := .none },
  { cls := 37, slots := #[], vm := .none },
  { cls := 0, slots := #[], vm := .none }]
def classes : Array Class := #[k0, k1, k2, k3, k4, k5, k6, k7, k8, k9, k10, k11, k12, k13, k14, k15, k16, k17, k18, k19, k20, k21, k22, k23, k24, k25, k26, k27, k28, k29, k30, k31, k32, k33, k34, k35, k36, k37]
def interned : List (Array UInt16 × Addr) := []
def slotsUsed : Nat := 26
def theMethod : MethodId := ⟨1, 1⟩
def args0 : Array Value := #[.int 1, .int 3, .int 65, .int 66, .int 67]
def aboutOver (below : List Frame) : State where
  vm := { classes := classes, interned := interned.toArray }
  heap := heap
  slotsUsed := slotsUsed
  threads := #[{ frames := .invoking theMethod args0 :: below }]
def below0 : List Frame := [.native { method := ⟨0, 0⟩, args := #[] }]
def about1 : State := aboutOver below0
def p0 : Program := .bare "" "" ""
def e0 : Env := launch0.env 0 0 0
theorem w_frames : about1.frames = Frame.invoking theMethod args0 :: below0 := rfl
set_option maxRecDepth 65536 in
theorem w_args : argsFit about1.vm theMethod args0 = true := by decide +kernel
set_option maxRecDepth 65536 in
theorem w_heap : heapFits about1 = true := by decide +kernel
set_option maxRecDepth 65536 in
theorem w_runnable : about1.curStatus? = some .runnable := by decide +kernel
set_option maxRecDepth 65536 in
theorem w_alone : about1.alone = true := by decide +kernel
set_option maxRecDepth 65536 in
theorem w_named : about1.methodNamed? x = some theMethod := by decide +kernel
set_option maxRecDepth 65536 in
theorem w_hears : about1.hears theMethod below0 = true := by decide +kernel
set_option maxRecDepth 65536 in
theorem w_ripe : about1.ripe theMethod args0 below0 = true := by decide +kernel
theorem w_running : about1.status = .running := rfl
set_option maxRecDepth 65536 in
theorem w_room : about1.hasRoom e0.platform room_1 = true :=
  launch0.hasRoom_least _ room_1 (by decide +kernel) (by decide +kernel) (by decide +kernel) (by decide +kernel) (by decide +kernel) (by decide +kernel)
theorem allAtoms_all (ts : List Jvm.Cond) (a : Array Jvm.Value) (st : Jvm.State) : (allAtoms ts).before a st = ts.all (fun c => c.before a st) := by
  induction ts with
  | nil => rfl
  | cons c t ih =>
    show (Jvm.Cond.and c (allAtoms t)).before a st = _
    rw [Jvm.Cond.before_and, ih, List.all_cons]
def words1 : List Jvm.Cond := Jvm.Cond.code x code maxLocals ret :: tables_1
/-- a 'code' word, met by the world's own term for the bytes: nothing is compared byte by byte -/
theorem code_word {y : MethodName} {bytes : ByteArray} {mx : Nat} {rt : Option FieldType} {a : Array Value} {s : State} {m : MethodId} {meth : Method} {c : Code} (h1 : s.methodNamed? y = some m) (h2 : s.vm.method? m = some meth) (h3 : meth.code = some c) (h4 : c.code = bytes)
    (h5 : (c.maxLocals == mx && c.exceptionTable.isEmpty && decide (c.maxStack ≤ mostOperands) && decide (meth.sig.returnType = rt) && !meth.locks && decide (parseMethodDescriptor y.desc = some meth.sig)) = true) : (Jvm.Cond.code y bytes mx rt).before a s = true := by
  simp only [Bool.and_eq_true, beq_iff_eq, Bool.not_eq_true', decide_eq_true_eq] at h5
  obtain ⟨⟨⟨⟨⟨g1, g2⟩, g3⟩, g4⟩, g5⟩, g6⟩ := h5
  simp [Cond.before, Cond.holds, Cond.value, h1, h2, h3, h4, g1, g2, g3, g4, g5, g6]
def isCode : Jvm.Cond → Bool
  | .code _ _ _ _ => true
  | _ => false
theorem all_split {L : List Jvm.Cond} {P : Jvm.Cond → Bool} (h1 : L.all (fun c => isCode c || P c) = true) (h2 : ∀ c ∈ L.filter isCode, P c = true) : L.all P = true := by
  refine List.all_eq_true.mpr fun c hc => ?_
  have h := List.all_eq_true.mp h1 c hc
  rcases Bool.eq_false_or_eq_true (isCode c) with hi | hi
  · exact h2 c (List.mem_filter.mpr ⟨hc, hi⟩)
  · simpa [hi] using h
set_option maxRecDepth 65536 in
theorem w_c0 : (Jvm.Cond.code x code maxLocals ret).before args0 about1 = true := code_word (m := ⟨1, 1⟩) (meth := k1m1) (c := k1c1) (by decide +kernel) rfl rfl rfl (by decide +kernel)
set_option maxRecDepth 65536 in
theorem w_c1 : (Jvm.Cond.code ({ cls := "java/lang/String", name := "<init>", desc := "([C)V" } : Jvm.MethodName) jdk_42_method_3_code (2 : Nat) (Option.none : Option Jvm.ClassFile.FieldType)).before args0 about1 = true := code_word (m := ⟨7, 1⟩) (meth := k7m1) (c := k7c1) (by decide +kernel) rfl rfl rfl (by decide +kernel)
set_option maxRecDepth 65536 in
theorem w_c2 : (Jvm.Cond.code ({ cls := "java/lang/String", name := "<init>", desc := "([CIILjava/lang/Void;)V" } : Jvm.MethodName) jdk_42_method_149_code (6 : Nat) (Option.none : Option Jvm.ClassFile.FieldType)).before args0 about1 = true := code_word (m := ⟨7, 3⟩) (meth := k7m3) (c := k7c3) (by decide +kernel) rfl rfl rfl (by decide +kernel)
set_option maxRecDepth 65536 in
theorem w_c3 : (Jvm.Cond.code ({ cls := "java/lang/Object", name := "<init>", desc := "()V" } : Jvm.MethodName) object_method_1_code (1 : Nat) (Option.none : Option Jvm.ClassFile.FieldType)).before args0 about1 = true := code_word (m := ⟨0, 0⟩) (meth := k0m0) (c := k0c0) (by decide +kernel) rfl rfl rfl (by decide +kernel)
set_option maxRecDepth 65536 in
theorem w_c4 : (Jvm.Cond.code ({ cls := "java/lang/StringUTF16", name := "compress", desc := "([CII)[B" } : Jvm.MethodName) jdk_52_method_16_code (6 : Nat) (Option.some (Jvm.ClassFile.FieldType.array Jvm.ClassFile.FieldType.byte))).before args0 about1 = true := code_word (m := ⟨8, 2⟩) (meth := k8m2) (c := k8c2) (by decide +kernel) rfl rfl rfl (by decide +kernel)
set_option maxRecDepth 65536 in
theorem w_c5 : (Jvm.Cond.code ({ cls := "java/lang/StringUTF16", name := "compress", desc := "([CI[BII)I" } : Jvm.MethodName) jdk_52_method_21_code (7 : Nat) (Option.some Jvm.ClassFile.FieldType.int)).before args0 about1 = true := code_word (m := ⟨8, 3⟩) (meth := k8m3) (c := k8c3) (by decide +kernel) rfl rfl rfl (by decide +kernel)
set_option maxRecDepth 65536 in
theorem w_c6 : (Jvm.Cond.code ({ cls := "java/lang/StringUTF16", name := "coderFromArrayLen", desc := "([BI)B" } : Jvm.MethodName) jdk_52_method_15_code (2 : Nat) (Option.some Jvm.ClassFile.FieldType.byte)).before args0 about1 = true := code_word (m := ⟨8, 1⟩) (meth := k8m1) (c := k8c1) (by decide +kernel) rfl rfl rfl (by decide +kernel)
set_option maxRecDepth 65536 in
theorem w_c7 : (Jvm.Cond.code ({ cls := "java/util/ArrayList", name := "<init>", desc := "()V" } : Jvm.MethodName) jdk_38_method_2_code (1 : Nat) (Option.none : Option Jvm.ClassFile.FieldType)).before args0 about1 = true := code_word (m := ⟨17, 0⟩) (meth := k17m0) (c := k17c0) (by decide +kernel) rfl rfl rfl (by decide +kernel)
set_option maxRecDepth 65536 in
theorem w_c8 : (Jvm.Cond.code ({ cls := "java/util/AbstractList", name := "<init>", desc := "()V" } : Jvm.MethodName) jdk_39_method_1_code (1 : Nat) (Option.none : Option Jvm.ClassFile.FieldType)).before args0 about1 = true := code_word (m := ⟨14, 0⟩) (meth := k14m0) (c := k14c0) (by decide +kernel) rfl rfl rfl (by decide +kernel)
set_option maxRecDepth 65536 in
theorem w_c9 : (Jvm.Cond.code ({ cls := "java/util/AbstractCollection", name := "<init>", desc := "()V" } : Jvm.MethodName) jdk_22_method_1_code (1 : Nat) (Option.none : Option Jvm.ClassFile.FieldType)).before args0 about1 = true := code_word (m := ⟨11, 0⟩) (meth := k11m0) (c := k11c0) (by decide +kernel) rfl rfl rfl (by decide +kernel)
set_option maxRecDepth 65536 in
theorem w_c10 : (Jvm.Cond.code ({ cls := "java/lang/String", name := "valueOf", desc := "(C)Ljava/lang/String;" } : Jvm.MethodName) jdk_42_method_139_code (1 : Nat) (Option.some (Jvm.ClassFile.FieldType.object "java/lang/String"))).before args0 about1 = true := code_word (m := ⟨7, 2⟩) (meth := k7m2) (c := k7c2) (by decide +kernel) rfl rfl rfl (by decide +kernel)
set_option maxRecDepth 65536 in
theorem w_c11 : (Jvm.Cond.code ({ cls := "java/lang/StringLatin1", name := "canEncode", desc := "(C)Z" } : Jvm.MethodName) jdk_43_method_3_code (1 : Nat) (Option.some Jvm.ClassFile.FieldType.boolean)).before args0 about1 = true := code_word (m := ⟨18, 1⟩) (meth := k18m1) (c := k18c1) (by decide +kernel) rfl rfl rfl (by decide +kernel)
set_option maxRecDepth 65536 in
theorem w_c12 : (Jvm.Cond.code ({ cls := "java/lang/StringLatin1", name := "toBytes", desc := "(C)[B" } : Jvm.MethodName) jdk_43_method_46_code (1 : Nat) (Option.some (Jvm.ClassFile.FieldType.array Jvm.ClassFile.FieldType.byte))).before args0 about1 = true := code_word (m := ⟨18, 2⟩) (meth := k18m2) (c := k18c2) (by decide +kernel) rfl rfl rfl (by decide +kernel)
set_option maxRecDepth 65536 in
theorem w_c13 : (Jvm.Cond.code ({ cls := "java/lang/String", name := "<init>", desc := "([BB)V" } : Jvm.MethodName) jdk_42_method_151_code (3 : Nat) (Option.none : Option Jvm.ClassFile.FieldType)).before args0 about1 = true := code_word (m := ⟨7, 4⟩) (meth := k7m4) (c := k7c4) (by decide +kernel) rfl rfl rfl (by decide +kernel)
set_option maxRecDepth 65536 in
theorem w_c14 : (Jvm.Cond.code ({ cls := "java/util/ArrayList", name := "add", desc := "(Ljava/lang/Object;)Z" } : Jvm.MethodName) jdk_38_method_25_code (2 : Nat) (Option.some Jvm.ClassFile.FieldType.boolean)).before args0 about1 = true := code_word (m := ⟨17, 6⟩) (meth := k17m6) (c := k17c6) (by decide +kernel) rfl rfl rfl (by decide +kernel)
set_option maxRecDepth 65536 in
theorem w_c15 : (Jvm.Cond.code ({ cls := "java/util/ArrayList", name := "add", desc := "(Ljava/lang/Object;[Ljava/lang/Object;I)V" } : Jvm.MethodName) jdk_38_method_24_code (4 : Nat) (Option.none : Option Jvm.ClassFile.FieldType)).before args0 about1 = true := code_word (m := ⟨17, 5⟩) (meth := k17m5) (c := k17c5) (by decide +kernel) rfl rfl rfl (by decide +kernel)
set_option maxRecDepth 65536 in
theorem w_c16 : (Jvm.Cond.code ({ cls := "java/util/ArrayList", name := "grow", desc := "()[Ljava/lang/Object;" } : Jvm.MethodName) jdk_38_method_7_code (1 : Nat) (Option.some (Jvm.ClassFile.FieldType.array (Jvm.ClassFile.FieldType.object "java/lang/Object")))).before args0 about1 = true := code_word (m := ⟨17, 2⟩) (meth := k17m2) (c := k17c2) (by decide +kernel) rfl rfl rfl (by decide +kernel)
set_option maxRecDepth 65536 in
theorem w_c17 : (Jvm.Cond.code ({ cls := "java/util/ArrayList", name := "grow", desc := "(I)[Ljava/lang/Object;" } : Jvm.MethodName) jdk_38_method_6_code (4 : Nat) (Option.some (Jvm.ClassFile.FieldType.array (Jvm.ClassFile.FieldType.object "java/lang/Object")))).before args0 about1 = true := code_word (m := ⟨17, 1⟩) (meth := k17m1) (c := k17c1) (by decide +kernel) rfl rfl rfl (by decide +kernel)
set_option maxRecDepth 65536 in
theorem w_c18 : (Jvm.Cond.code ({ cls := "java/lang/Math", name := "max", desc := "(II)I" } : Jvm.MethodName) jdk_29_method_65_code (2 : Nat) (Option.some Jvm.ClassFile.FieldType.int)).before args0 about1 = true := code_word (m := ⟨19, 1⟩) (meth := k19m1) (c := k19c1) (by decide +kernel) rfl rfl rfl (by decide +kernel)
set_option maxRecDepth 65536 in
theorem w_c19 : (Jvm.Cond.code ({ cls := "com/example/sheaf/sheaf/cbor/TextStringItem", name := "<init>", desc := "(Ljava/lang/String;Ljava/util/List;)V" } : Jvm.MethodName) prog_23_method_1_code (3 : Nat) (Option.none : Option Jvm.ClassFile.FieldType)).before args0 about1 = true := code_word (m := ⟨21, 0⟩) (meth := k21m0) (c := k21c0) (by decide +kernel) rfl rfl rfl (by decide +kernel)
set_option maxRecDepth 65536 in
theorem w_c20 : (Jvm.Cond.code ({ cls := "com/example/sheaf/sheaf/cbor/Item", name := "<init>", desc := "()V" } : Jvm.MethodName) prog_16_method_1_code (1 : Nat) (Option.none : Option Jvm.ClassFile.FieldType)).before args0 about1 = true := code_word (m := ⟨20, 0⟩) (meth := k20m0) (c := k20c0) (by decide +kernel) rfl rfl rfl (by decide +kernel)
set_option maxRecDepth 65536 in
theorem w_c21 : (Jvm.Cond.code ({ cls := "com/example/sheaf/sheaf/cbor/TextStringItem", name := "isIndefinite", desc := "()Z" } : Jvm.MethodName) prog_23_method_4_code (1 : Nat) (Option.some Jvm.ClassFile.FieldType.boolean)).before args0 about1 = true := code_word (m := ⟨21, 1⟩) (meth := k21m1) (c := k21c1) (by decide +kernel) rfl rfl rfl (by decide +kernel)
set_option maxRecDepth 65536 in
theorem w_c22 : (Jvm.Cond.code ({ cls := "com/example/sheaf/sheaf/cbor/TextStringItem", name := "chunks", desc := "()Ljava/util/List;" } : Jvm.MethodName) prog_23_method_5_code (1 : Nat) (Option.some (Jvm.ClassFile.FieldType.object "java/util/List"))).before args0 about1 = true := code_word (m := ⟨21, 2⟩) (meth := k21m2) (c := k21c2) (by decide +kernel) rfl rfl rfl (by decide +kernel)
set_option maxRecDepth 65536 in
theorem w_c23 : (Jvm.Cond.code ({ cls := "java/util/List", name := "of", desc := "()Ljava/util/List;" } : Jvm.MethodName) jdk_40_method_36_code (0 : Nat) (Option.some (Jvm.ClassFile.FieldType.object "java/util/List"))).before args0 about1 = true := code_word (m := ⟨13, 1⟩) (meth := k13m1) (c := k13c1) (by decide +kernel) rfl rfl rfl (by decide +kernel)
set_option maxRecDepth 65536 in
theorem w_c24 : (Jvm.Cond.code ({ cls := "java/util/ImmutableCollections$ListN", name := "size", desc := "()I" } : Jvm.MethodName) jdk_45_method_3_code (1 : Nat) (Option.some Jvm.ClassFile.FieldType.int)).before args0 about1 = true := code_word (m := ⟨25, 1⟩) (meth := k25m1) (c := k25c1) (by decide +kernel) rfl rfl rfl (by decide +kernel)
set_option maxRecDepth 65536 in
theorem w_c25 : (Jvm.Cond.code ({ cls := "java/util/List", name := "copyOf", desc := "(Ljava/util/Collection;)Ljava/util/List;" } : Jvm.MethodName) jdk_40_method_48_code (1 : Nat) (Option.some (Jvm.ClassFile.FieldType.object "java/util/List"))).before args0 about1 = true := code_word (m := ⟨13, 3⟩) (meth := k13m3) (c := k13c3) (by decide +kernel) rfl rfl rfl (by decide +kernel)
set_option maxRecDepth 65536 in
theorem w_c26 : (Jvm.Cond.code ({ cls := "java/util/ImmutableCollections", name := "listCopy", desc := "(Ljava/util/Collection;)Ljava/util/List;" } : Jvm.MethodName) jdk_56_method_3_code (2 : Nat) (Option.some (Jvm.ClassFile.FieldType.object "java/util/List"))).before args0 about1 = true := code_word (m := ⟨22, 1⟩) (meth := k22m1) (c := k22c1) (by decide +kernel) rfl rfl rfl (by decide +kernel)
set_option maxRecDepth 65536 in
theorem w_c27 : (Jvm.Cond.code ({ cls := "java/util/ArrayList", name := "isEmpty", desc := "()Z" } : Jvm.MethodName) jdk_38_method_9_code (1 : Nat) (Option.some Jvm.ClassFile.FieldType.boolean)).before args0 about1 = true := code_word (m := ⟨17, 3⟩) (meth := k17m3) (c := k17c3) (by decide +kernel) rfl rfl rfl (by decide +kernel)
set_option maxRecDepth 65536 in
theorem w_c28 : (Jvm.Cond.code ({ cls := "java/util/ArrayList", name := "toArray", desc := "()[Ljava/lang/Object;" } : Jvm.MethodName) jdk_38_method_16_code (1 : Nat) (Option.some (Jvm.ClassFile.FieldType.array (Jvm.ClassFile.FieldType.object "java/lang/Object")))).before args0 about1 = true := code_word (m := ⟨17, 4⟩) (meth := k17m4) (c := k17c4) (by decide +kernel) rfl rfl rfl (by decide +kernel)
set_option maxRecDepth 65536 in
theorem w_c29 : (Jvm.Cond.code ({ cls := "java/util/Arrays", name := "copyOf", desc := "([Ljava/lang/Object;I)[Ljava/lang/Object;" } : Jvm.MethodName) jdk_65_method_119_code (2 : Nat) (Option.some (Jvm.ClassFile.FieldType.array (Jvm.ClassFile.FieldType.object "java/lang/Object")))).before args0 about1 = true := code_word (m := ⟨27, 1⟩) (meth := k27m1) (c := k27c1) (by decide +kernel) rfl rfl rfl (by decide +kernel)
set_option maxRecDepth 65536 in
theorem w_c30 : (Jvm.Cond.code ({ cls := "java/util/Arrays", name := "copyOf", desc := "([Ljava/lang/Object;ILjava/lang/Class;)[Ljava/lang/Object;" } : Jvm.MethodName) jdk_65_method_120_code (4 : Nat) (Option.some (Jvm.ClassFile.FieldType.array (Jvm.ClassFile.FieldType.object "java/lang/Object")))).before args0 about1 = true := code_word (m := ⟨27, 2⟩) (meth := k27m2) (c := k27c2) (by decide +kernel) rfl rfl rfl (by decide +kernel)
set_option maxRecDepth 65536 in
theorem w_c31 : (Jvm.Cond.code ({ cls := "java/lang/Math", name := "min", desc := "(II)I" } : Jvm.MethodName) jdk_29_method_69_code (2 : Nat) (Option.some Jvm.ClassFile.FieldType.int)).before args0 about1 = true := code_word (m := ⟨19, 2⟩) (meth := k19m2) (c := k19c2) (by decide +kernel) rfl rfl rfl (by decide +kernel)
set_option maxRecDepth 65536 in
theorem w_c32 : (Jvm.Cond.code ({ cls := "java/util/List", name := "of", desc := "([Ljava/lang/Object;)Ljava/util/List;" } : Jvm.MethodName) jdk_40_method_47_code (2 : Nat) (Option.some (Jvm.ClassFile.FieldType.object "java/util/List"))).before args0 about1 = true := code_word (m := ⟨13, 2⟩) (meth := k13m2) (c := k13c2) (by decide +kernel) rfl rfl rfl (by decide +kernel)
set_option maxRecDepth 65536 in
theorem w_c33 : (Jvm.Cond.code ({ cls := "java/util/ImmutableCollections", name := "listFromArray", desc := "([Ljava/lang/Object;)Ljava/util/List;" } : Jvm.MethodName) jdk_56_method_4_code (3 : Nat) (Option.some (Jvm.ClassFile.FieldType.object "java/util/List"))).before args0 about1 = true := code_word (m := ⟨22, 2⟩) (meth := k22m2) (c := k22c2) (by decide +kernel) rfl rfl rfl (by decide +kernel)
set_option maxRecDepth 65536 in
theorem w_c34 : (Jvm.Cond.code ({ cls := "java/util/Objects", name := "requireNonNull", desc := "(Ljava/lang/Object;)Ljava/lang/Object;" } : Jvm.MethodName) jdk_31_method_10_code (1 : Nat) (Option.some (Jvm.ClassFile.FieldType.object "java/lang/Object"))).before args0 about1 = true := code_word (m := ⟨29, 1⟩) (meth := k29m1) (c := k29c1) (by decide +kernel) rfl rfl rfl (by decide +kernel)
set_option maxRecDepth 65536 in
theorem w_c35 : (Jvm.Cond.code ({ cls := "java/util/ImmutableCollections$ListN", name := "<init>", desc := "([Ljava/lang/Object;Z)V" } : Jvm.MethodName) jdk_45_method_1_code (3 : Nat) (Option.none : Option Jvm.ClassFile.FieldType)).before args0 about1 = true := code_word (m := ⟨25, 0⟩) (meth := k25m0) (c := k25c0) (by decide +kernel) rfl rfl rfl (by decide +kernel)
set_option maxRecDepth 65536 in
theorem w_c36 : (Jvm.Cond.code ({ cls := "java/util/ImmutableCollections$AbstractImmutableList", name := "<init>", desc := "()V" } : Jvm.MethodName) jdk_46_method_1_code (1 : Nat) (Option.none : Option Jvm.ClassFile.FieldType)).before args0 about1 = true := code_word (m := ⟨24, 0⟩) (meth := k24m0) (c := k24c0) (by decide +kernel) rfl rfl rfl (by decide +kernel)
set_option maxRecDepth 65536 in
theorem w_c37 : (Jvm.Cond.code ({ cls := "java/util/ImmutableCollections$AbstractImmutableCollection", name := "<init>", desc := "()V" } : Jvm.MethodName) jdk_47_method_1_code (1 : Nat) (Option.none : Option Jvm.ClassFile.FieldType)).before args0 about1 = true := code_word (m := ⟨23, 0⟩) (meth := k23m0) (c := k23c0) (by decide +kernel) rfl rfl rfl (by decide +kernel)
set_option maxRecDepth 65536 in
theorem w_c38 : (Jvm.Cond.code ({ cls := "java/util/ImmutableCollections$List12", name := "<init>", desc := "(Ljava/lang/Object;)V" } : Jvm.MethodName) jdk_44_method_1_code (2 : Nat) (Option.none : Option Jvm.ClassFile.FieldType)).before args0 about1 = true := code_word (m := ⟨26, 0⟩) (meth := k26m0) (c := k26c0) (by decide +kernel) rfl rfl rfl (by decide +kernel)
set_option maxRecDepth 65536 in
theorem w_c39 : (Jvm.Cond.code ({ cls := "java/util/ImmutableCollections$List12", name := "size", desc := "()I" } : Jvm.MethodName) jdk_44_method_3_code (1 : Nat) (Option.some Jvm.ClassFile.FieldType.int)).before args0 about1 = true := code_word (m := ⟨26, 2⟩) (meth := k26m2) (c := k26c2) (by decide +kernel) rfl rfl rfl (by decide +kernel)
set_option maxRecDepth 65536 in
theorem w_c40 : (Jvm.Cond.code ({ cls := "java/util/ImmutableCollections$List12", name := "<init>", desc := "(Ljava/lang/Object;Ljava/lang/Object;)V" } : Jvm.MethodName) jdk_44_method_2_code (3 : Nat) (Option.none : Option Jvm.ClassFile.FieldType)).before args0 about1 = true := code_word (m := ⟨26, 1⟩) (meth := k26m1) (c := k26c1) (by decide +kernel) rfl rfl rfl (by decide +kernel)
def codes1 : List Jvm.Cond := [Jvm.Cond.code x code maxLocals ret, Jvm.Cond.code ({ cls := "java/lang/String", name := "<init>", desc := "([C)V" } : Jvm.MethodName) jdk_42_method_3_code (2 : Nat) (Option.none : Option Jvm.ClassFile.FieldType), Jvm.Cond.code ({ cls := "java/lang/String", name := "<init>", desc := "([CIILjava/lang/Void;)V" } : Jvm.MethodName) jdk_42_method_149_code (6 : Nat) (Option.none : Option Jvm.ClassFile.FieldType), Jvm.Cond.code ({ cls := "java/lang/Object", name := "<init>", desc := "()V" } : Jvm.MethodName) object_method_1_code (1 : Nat) (Option.none : Option Jvm.ClassFile.FieldType), Jvm.Cond.code ({ cls := "java/lang/StringUTF16", name := "compress", desc := "([CII)[B" } : Jvm.MethodName) jdk_52_method_16_code (6 : Nat) (Option.some (Jvm.ClassFile.FieldType.array Jvm.ClassFile.FieldType.byte)), Jvm.Cond.code ({ cls := "java/lang/StringUTF16", name := "compress", desc := "([CI[BII)I" } : Jvm.MethodName) jdk_52_method_21_code (7 : Nat) (Option.some Jvm.ClassFile.FieldType.int), Jvm.Cond.code ({ cls := "java/lang/StringUTF16", name := "coderFromArrayLen", desc := "([BI)B" } : Jvm.MethodName) jdk_52_method_15_code (2 : Nat) (Option.some Jvm.ClassFile.FieldType.byte), Jvm.Cond.code ({ cls := "java/util/ArrayList", name := "<init>", desc := "()V" } : Jvm.MethodName) jdk_38_method_2_code (1 : Nat) (Option.none : Option Jvm.ClassFile.FieldType), Jvm.Cond.code ({ cls := "java/util/AbstractList", name := "<init>", desc := "()V" } : Jvm.MethodName) jdk_39_method_1_code (1 : Nat) (Option.none : Option Jvm.ClassFile.FieldType), Jvm.Cond.code ({ cls := "java/util/AbstractCollection", name := "<init>", desc := "()V" } : Jvm.MethodName) jdk_22_method_1_code (1 : Nat) (Option.none : Option Jvm.ClassFile.FieldType), Jvm.Cond.code ({ cls := "java/lang/String", name := "valueOf", desc := "(C)Ljava/lang/String;" } : Jvm.MethodName) jdk_42_method_139_code (1 : Nat) (Option.some (Jvm.ClassFile.FieldType.object "java/lang/String")), Jvm.Cond.code ({ cls := "java/lang/StringLatin1", name := "canEncode", desc := "(C)Z" } : Jvm.MethodName) jdk_43_method_3_code (1 : Nat) (Option.some Jvm.ClassFile.FieldType.boolean), Jvm.Cond.code ({ cls := "java/lang/StringLatin1", name := "toBytes", desc := "(C)[B" } : Jvm.MethodName) jdk_43_method_46_code (1 : Nat) (Option.some (Jvm.ClassFile.FieldType.array Jvm.ClassFile.FieldType.byte)), Jvm.Cond.code ({ cls := "java/lang/String", name := "<init>", desc := "([BB)V" } : Jvm.MethodName) jdk_42_method_151_code (3 : Nat) (Option.none : Option Jvm.ClassFile.FieldType), Jvm.Cond.code ({ cls := "java/util/ArrayList", name := "add", desc := "(Ljava/lang/Object;)Z" } : Jvm.MethodName) jdk_38_method_25_code (2 : Nat) (Option.some Jvm.ClassFile.FieldType.boolean), Jvm.Cond.code ({ cls := "java/util/ArrayList", name := "add", desc := "(Ljava/lang/Object;[Ljava/lang/Object;I)V" } : Jvm.MethodName) jdk_38_method_24_code (4 : Nat) (Option.none : Option Jvm.ClassFile.FieldType), Jvm.Cond.code ({ cls := "java/util/ArrayList", name := "grow", desc := "()[Ljava/lang/Object;" } : Jvm.MethodName) jdk_38_method_7_code (1 : Nat) (Option.some (Jvm.ClassFile.FieldType.array (Jvm.ClassFile.FieldType.object "java/lang/Object"))), Jvm.Cond.code ({ cls := "java/util/ArrayList", name := "grow", desc := "(I)[Ljava/lang/Object;" } : Jvm.MethodName) jdk_38_method_6_code (4 : Nat) (Option.some (Jvm.ClassFile.FieldType.array (Jvm.ClassFile.FieldType.object "java/lang/Object"))), Jvm.Cond.code ({ cls := "java/lang/Math", name := "max", desc := "(II)I" } : Jvm.MethodName) jdk_29_method_65_code (2 : Nat) (Option.some Jvm.ClassFile.FieldType.int), Jvm.Cond.code ({ cls := "com/example/sheaf/sheaf/cbor/TextStringItem", name := "<init>", desc := "(Ljava/lang/String;Ljava/util/List;)V" } : Jvm.MethodName) prog_23_method_1_code (3 : Nat) (Option.none : Option Jvm.ClassFile.FieldType), Jvm.Cond.code ({ cls := "com/example/sheaf/sheaf/cbor/Item", name := "<init>", desc := "()V" } : Jvm.MethodName) prog_16_method_1_code (1 : Nat) (Option.none : Option Jvm.ClassFile.FieldType), Jvm.Cond.code ({ cls := "com/example/sheaf/sheaf/cbor/TextStringItem", name := "isIndefinite", desc := "()Z" } : Jvm.MethodName) prog_23_method_4_code (1 : Nat) (Option.some Jvm.ClassFile.FieldType.boolean), Jvm.Cond.code ({ cls := "com/example/sheaf/sheaf/cbor/TextStringItem", name := "chunks", desc := "()Ljava/util/List;" } : Jvm.MethodName) prog_23_method_5_code (1 : Nat) (Option.some (Jvm.ClassFile.FieldType.object "java/util/List")), Jvm.Cond.code ({ cls := "java/util/List", name := "of", desc := "()Ljava/util/List;" } : Jvm.MethodName) jdk_40_method_36_code (0 : Nat) (Option.some (Jvm.ClassFile.FieldType.object "java/util/List")), Jvm.Cond.code ({ cls := "java/util/ImmutableCollections$ListN", name := "size", desc := "()I" } : Jvm.MethodName) jdk_45_method_3_code (1 : Nat) (Option.some Jvm.ClassFile.FieldType.int), Jvm.Cond.code ({ cls := "java/util/List", name := "copyOf", desc := "(Ljava/util/Collection;)Ljava/util/List;" } : Jvm.MethodName) jdk_40_method_48_code (1 : Nat) (Option.some (Jvm.ClassFile.FieldType.object "java/util/List")), Jvm.Cond.code ({ cls := "java/util/ImmutableCollections", name := "listCopy", desc := "(Ljava/util/Collection;)Ljava/util/List;" } : Jvm.MethodName) jdk_56_method_3_code (2 : Nat) (Option.some (Jvm.ClassFile.FieldType.object "java/util/List")), Jvm.Cond.code ({ cls := "java/util/ArrayList", name := "isEmpty", desc := "()Z" } : Jvm.MethodName) jdk_38_method_9_code (1 : Nat) (Option.some Jvm.ClassFile.FieldType.boolean), Jvm.Cond.code ({ cls := "java/util/ArrayList", name := "toArray", desc := "()[Ljava/lang/Object;" } : Jvm.MethodName) jdk_38_method_16_code (1 : Nat) (Option.some (Jvm.ClassFile.FieldType.array (Jvm.ClassFile.FieldType.object "java/lang/Object"))), Jvm.Cond.code ({ cls := "java/util/Arrays", name := "copyOf", desc := "([Ljava/lang/Object;I)[Ljava/lang/Object;" } : Jvm.MethodName) jdk_65_method_119_code (2 : Nat) (Option.some (Jvm.ClassFile.FieldType.array (Jvm.ClassFile.FieldType.object "java/lang/Object"))), Jvm.Cond.code ({ cls := "java/util/Arrays", name := "copyOf", desc := "([Ljava/lang/Object;ILjava/lang/Class;)[Ljava/lang/Object;" } : Jvm.MethodName) jdk_65_method_120_code (4 : Nat) (Option.some (Jvm.ClassFile.FieldType.array (Jvm.ClassFile.FieldType.object "java/lang/Object"))), Jvm.Cond.code ({ cls := "java/lang/Math", name := "min", desc := "(II)I" } : Jvm.MethodName) jdk_29_method_69_code (2 : Nat) (Option.some Jvm.ClassFile.FieldType.int), Jvm.Cond.code ({ cls := "java/util/List", name := "of", desc := "([Ljava/lang/Object;)Ljava/util/List;" } : Jvm.MethodName) jdk_40_method_47_code (2 : Nat) (Option.some (Jvm.ClassFile.FieldType.object "java/util/List")), Jvm.Cond.code ({ cls := "java/util/ImmutableCollections", name := "listFromArray", desc := "([Ljava/lang/Object;)Ljava/util/List;" } : Jvm.MethodName) jdk_56_method_4_code (3 : Nat) (Option.some (Jvm.ClassFile.FieldType.object "java/util/List")), Jvm.Cond.code ({ cls := "java/util/Objects", name := "requireNonNull", desc := "(Ljava/lang/Object;)Ljava/lang/Object;" } : Jvm.MethodName) jdk_31_method_10_code (1 : Nat) (Option.some (Jvm.ClassFile.FieldType.object "java/lang/Object")), Jvm.Cond.code ({ cls := "java/util/ImmutableCollections$ListN", name := "<init>", desc := "([Ljava/lang/Object;Z)V" } : Jvm.MethodName) jdk_45_method_1_code (3 : Nat) (Option.none : Option Jvm.ClassFile.FieldType), Jvm.Cond.code ({ cls := "java/util/ImmutableCollections$AbstractImmutableList", name := "<init>", desc := "()V" } : Jvm.MethodName) jdk_46_method_1_code (1 : Nat) (Option.none : Option Jvm.ClassFile.FieldType), Jvm.Cond.code ({ cls := "java/util/ImmutableCollections$AbstractImmutableCollection", name := "<init>", desc := "()V" } : Jvm.MethodName) jdk_47_method_1_code (1 : Nat) (Option.none : Option Jvm.ClassFile.FieldType), Jvm.Cond.code ({ cls := "java/util/ImmutableCollections$List12", name := "<init>", desc := "(Ljava/lang/Object;)V" } : Jvm.MethodName) jdk_44_method_1_code (2 : Nat) (Option.none : Option Jvm.ClassFile.FieldType), Jvm.Cond.code ({ cls := "java/util/ImmutableCollections$List12", name := "size", desc := "()I" } : Jvm.MethodName) jdk_44_method_3_code (1 : Nat) (Option.some Jvm.ClassFile.FieldType.int), Jvm.Cond.code ({ cls := "java/util/ImmutableCollections$List12", name := "<init>", desc := "(Ljava/lang/Object;Ljava/lang/Object;)V" } : Jvm.MethodName) jdk_44_method_2_code (3 : Nat) (Option.none : Option Jvm.ClassFile.FieldType)]
set_option maxRecDepth 65536 in
theorem codes_eq : words1.filter isCode = codes1 := rfl
theorem w_codes : ∀ c ∈ words1.filter isCode, c.before args0 about1 = true := by
  rw [codes_eq]
  intro c hc
  simp only [codes1, List.mem_cons, List.not_mem_nil, or_false] at hc
  rcases hc with rfl | rfl | rfl | rfl | rfl | rfl | rfl | rfl | rfl | rfl | rfl | rfl | rfl | rfl | rfl | rfl | rfl | rfl | rfl | rfl | rfl | rfl | rfl | rfl | rfl | rfl | rfl | rfl | rfl | rfl | rfl | rfl | rfl | rfl | rfl | rfl | rfl | rfl | rfl | rfl | rfl
  · exact w_c0
  · exact w_c1
  · exact w_c2
  · exact w_c3
  · exact w_c4
  · exact w_c5
  · exact w_c6
  · exact w_c7
  · exact w_c8
  · exact w_c9
  · exact w_c10
  · exact w_c11
  · exact w_c12
  · exact w_c13
  · exact w_c14
  · exact w_c15
  · exact w_c16
  · exact w_c17
  · exact w_c18
  · exact w_c19
  · exact w_c20
  · exact w_c21
  · exact w_c22
  · exact w_c23
  · exact w_c24
  · exact w_c25
  · exact w_c26
  · exact w_c27
  · exact w_c28
  · exact w_c29
  · exact w_c30
  · exact w_c31
  · exact w_c32
  · exact w_c33
  · exact w_c34
  · exact w_c35
  · exact w_c36
  · exact w_c37
  · exact w_c38
  · exact w_c39
  · exact w_c40
set_option maxRecDepth 65536 in
theorem w_t1 : (words1.take 24).all (fun c => isCode c || c.before args0 about1) = true := by decide +kernel
set_option maxRecDepth 65536 in
theorem w_t2 : ((words1.drop 24).take 24).all (fun c => isCode c || c.before args0 about1) = true := by decide +kernel
set_option maxRecDepth 65536 in
theorem w_t3 : (((words1.drop 24).drop 24).take 24).all (fun c => isCode c || c.before args0 about1) = true := by decide +kernel
set_option maxRecDepth 65536 in
theorem w_t4 : ((((words1.drop 24).drop 24).drop 24).take 24).all (fun c => isCode c || c.before args0 about1) = true := by decide +kernel
set_option maxRecDepth 65536 in
theorem w_t5 : (((((words1.drop 24).drop 24).drop 24).drop 24).take 24).all (fun c => isCode c || c.before args0 about1) = true := by decide +kernel
set_option maxRecDepth 65536 in
theorem w_t6 : ((((((words1.drop 24).drop 24).drop 24).drop 24).drop 24).take 24).all (fun c => isCode c || c.before args0 about1) = true := by decide +kernel
set_option maxRecDepth 65536 in
theorem w_t7 : (((((((words1.drop 24).drop 24).drop 24).drop 24).drop 24).drop 24).take 24).all (fun c => isCode c || c.before args0 about1) = true := by decide +kernel
set_option maxRecDepth 65536 in
theorem w_t8 : ((((((((words1.drop 24).drop 24).drop 24).drop 24).drop 24).drop 24).drop 24).take 24).all (fun c => isCode c || c.before args0 about1) = true := by decide +kernel
set_option maxRecDepth 65536 in
theorem w_t9 : (((((((((words1.drop 24).drop 24).drop 24).drop 24).drop 24).drop 24).drop 24).drop 24).take 24).all (fun c => isCode c || c.before args0 about1) = true := by decide +kernel
set_option maxRecDepth 65536 in
theorem w_t10 : ((((((((((words1.drop 24).drop 24).drop 24).drop 24).drop 24).drop 24).drop 24).drop 24).drop 24).take 24).all (fun c => isCode c || c.before args0 about1) = true := by decide +kernel
set_option maxRecDepth 65536 in
theorem w_t11 : ((((((((((words1.drop 24).drop 24).drop 24).drop 24).drop 24).drop 24).drop 24).drop 24).drop 24).drop 24).all (fun c => isCode c || c.before args0 about1) = true := by decide +kernel
theorem w_tables : (allAtoms (Jvm.Cond.code x code maxLocals ret :: tables_1)).before args0 about1 = true := by
  rw [allAtoms_all]
  show words1.all (fun c => c.before args0 about1) = true
  refine all_split ?_ w_codes
  rw [← List.take_append_drop 24 words1, List.all_append, w_t1, ← List.take_append_drop 24 (words1.drop 24), List.all_append, w_t2, ← List.take_append_drop 24 ((words1.drop 24).drop 24), List.all_append, w_t3, ← List.take_append_drop 24 (((words1.drop 24).drop 24).drop 24), List.all_append, w_t4, ← List.take_append_drop 24 ((((words1.drop 24).drop 24).drop 24).drop 24), List.all_append, w_t5, ← List.take_append_drop 24 (((((words1.drop 24).drop 24).drop 24).drop 24).drop 24), List.all_append, w_t6, ← List.take_append_drop 24 ((((((words1.drop 24).drop 24).drop 24).drop 24).drop 24).drop 24), List.all_append, w_t7, ← List.take_append_drop 24 (((((((words1.drop 24).drop 24).drop 24).drop 24).drop 24).drop 24).drop 24), List.all_append, w_t8, ← List.take_append_drop 24 ((((((((words1.drop 24).drop 24).drop 24).drop 24).drop 24).drop 24).drop 24).drop 24), List.all_append, w_t9, ← List.take_append_drop 24 (((((((((words1.drop 24).drop 24).drop 24).drop 24).drop 24).drop 24).drop 24).drop 24).drop 24), List.all_append, w_t10, w_t11]
  rfl
set_option maxRecDepth 65536 in
theorem w_rest : rest_1_c.before args0 about1 = true := by decide +kernel
set_option maxRecDepth 65536 in
theorem w_case : (Jvm.Cond.and given_1 narrow_1).before args0 about1 = true := by decide +kernel
theorem w_applies : (headSpec (Jvm.Cond.code x code maxLocals ret :: tables_1) room_1).applies x e0.platform about1 = true :=
  (Spec.applies_iff w_frames).mpr ⟨w_running, w_runnable, w_alone, w_named, w_hears, w_ripe, w_room, w_tables⟩
theorem atStart : AtStart classFile x code maxLocals ret World_1 tables_1 room_1 Calls_1 rest_1 Pre_1 launch0 p0 e0 about1 theMethod args0 below0 :=
  ⟨lists_1, trivial, launch0.admits_env _ _ _, launch0.least_env, fairChoices_fair.cas, fairChoices_fair.clock, w_frames, w_args, w_heap, w_applies, ⟨⟨37, k37, 4, by decide +kernel, rfl, rfl, _, rfl, rfl⟩, trivial⟩, w_rest, w_case⟩
end start1
theorem witness_1 : WitnessClaimed_1 := ⟨start1.p0, start1.e0, start1.about1, start1.theMethod, start1.args0, start1.below0, start1.atStart⟩
end Jvm.Pilot.@@N@@
