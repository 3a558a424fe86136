import JvmDerived
import JvmDerived.Pilot.@@N@@Statement
import JvmDerived.Pilot.@@N@@Code
set_option linter.unusedVariables false
set_option linter.unusedSimpArgs false

namespace Jvm.RoadKit
open Sem ClassFile Op Lib Jvm.Stand Jvm.Free Jvm.LawKit
section New
variable {p : Program} {l : Launch} {e : Env} {R : Room} {s : State} {m : MethodId} {args : Array Value} {below : List Frame} {meth : Method} {c : Code} {T : State} {locs : List Loc} {cells slots : Nat}
theorem retI (X : Stand p l e R s m args below meth c T locs cells slots) (hx : p.tables.exec = Jvm.exec) {pc : Nat} {Ls : Array Slot} {z : Int32} {rest : List Value} (hret : meth.sig.returnType = some .int) (hd : decode c.code pc = .ok (.ireturn, 1)) {fs : List Frame}
    (hl : ∀ (f : JFrame) (acts : List Action), f.method = m → f.locked = none → f.entered = [] → (doReturn e (T.setTop f) acts (some (.int z))).1 = T.setFrames fs) : Steps p.tables e below (T.setTop (mkF m pc Ls (.int z :: rest))) (T.setFrames fs) := by
  have hm' : T.vm.method? m = some meth := X.method'
  have hn : narrow .int (.int z) = .int z := rfl
  show Steps p.tables e below (T.setTop { method := m, pc := pc, locals := Ls, stack := _ :: rest, locked := none }) _
  jvm_step X.here [X.here.top, hx, hd, hm', hret, hn]
  first | (intro acts; rw [hl _ acts rfl rfl rfl]) | rw [hl _ _ rfl rfl rfl]
  exact Steps.refl _
end New
end Jvm.RoadKit
namespace Jvm.Pilot.@@N@@
open Jvm Jvm.ClassFile Sem Op Lib Jvm.Free Jvm.Stand Jvm.LawKit Jvm.RoadKit Bundle Jvm.Pilot.@@N@@.Jvm.D
/-- from S0 the run comes to T with the frame g on top -/
abbrev Pth (p : Program) (e : Env) (below : List Frame) (S0 T : State) (g : JFrame) : Prop := ∀ t, Steps p.tables e below (T.setTop g) t → Steps p.tables e below S0 t
theorem ef_nlz (m : MethodId) (x0 : Int32)  : entryFrame m #[(.int x0)] 2 = mkF m 0 #[.val (.int x0), .unset] [] := by first | (simp [entryFrame, mkF, argsToLocals, Value.category]; done) | rfl
theorem pn_java_lang_Integer : plainName "java/lang/Integer" = true := by first | (simp [plainName, overriddenIn]; done) | decide +kernel
theorem d_nlz_0 : decode jdk_33_method_47_code 0 = .ok (.iload_n 0, 1) := by decide +kernel
theorem d_nlz_1 : decode jdk_33_method_47_code 1 = .ok (.ifCond .gt 14, 3) := by decide +kernel
theorem d_nlz_15 : decode jdk_33_method_47_code 15 = .ok (.bipush 31, 2) := by decide +kernel
theorem d_nlz_17 : decode jdk_33_method_47_code 17 = .ok (.istore_n 1, 1) := by decide +kernel
theorem d_nlz_18 : decode jdk_33_method_47_code 18 = .ok (.iload_n 0, 1) := by decide +kernel
theorem d_nlz_19 : decode jdk_33_method_47_code 19 = .ok (.ldc_w 264, 3) := by decide +kernel
theorem d_nlz_22 : decode jdk_33_method_47_code 22 = .ok (.if_icmp .lt 11, 3) := by decide +kernel
theorem d_nlz_25 : decode jdk_33_method_47_code 25 = .ok (.iinc 1 (-16), 3) := by decide +kernel
theorem d_nlz_28 : decode jdk_33_method_47_code 28 = .ok (.iload_n 0, 1) := by decide +kernel
theorem d_nlz_29 : decode jdk_33_method_47_code 29 = .ok (.bipush 16, 2) := by decide +kernel
theorem d_nlz_31 : decode jdk_33_method_47_code 31 = .ok (.iushr, 1) := by decide +kernel
theorem d_nlz_32 : decode jdk_33_method_47_code 32 = .ok (.istore_n 0, 1) := by decide +kernel
theorem d_nlz_33 : decode jdk_33_method_47_code 33 = .ok (.iload_n 0, 1) := by decide +kernel
theorem d_nlz_34 : decode jdk_33_method_47_code 34 = .ok (.sipush 256, 3) := by decide +kernel
theorem d_nlz_37 : decode jdk_33_method_47_code 37 = .ok (.if_icmp .lt 11, 3) := by decide +kernel
theorem d_nlz_40 : decode jdk_33_method_47_code 40 = .ok (.iinc 1 (-8), 3) := by decide +kernel
theorem d_nlz_43 : decode jdk_33_method_47_code 43 = .ok (.iload_n 0, 1) := by decide +kernel
theorem d_nlz_44 : decode jdk_33_method_47_code 44 = .ok (.bipush 8, 2) := by decide +kernel
theorem d_nlz_46 : decode jdk_33_method_47_code 46 = .ok (.iushr, 1) := by decide +kernel
theorem d_nlz_47 : decode jdk_33_method_47_code 47 = .ok (.istore_n 0, 1) := by decide +kernel
theorem d_nlz_48 : decode jdk_33_method_47_code 48 = .ok (.iload_n 0, 1) := by decide +kernel
theorem d_nlz_49 : decode jdk_33_method_47_code 49 = .ok (.bipush 16, 2) := by decide +kernel
theorem d_nlz_51 : decode jdk_33_method_47_code 51 = .ok (.if_icmp .lt 10, 3) := by decide +kernel
theorem d_nlz_54 : decode jdk_33_method_47_code 54 = .ok (.iinc 1 (-4), 3) := by decide +kernel
theorem d_nlz_57 : decode jdk_33_method_47_code 57 = .ok (.iload_n 0, 1) := by decide +kernel
theorem d_nlz_58 : decode jdk_33_method_47_code 58 = .ok (.iconst 4, 1) := by decide +kernel
theorem d_nlz_59 : decode jdk_33_method_47_code 59 = .ok (.iushr, 1) := by decide +kernel
theorem d_nlz_60 : decode jdk_33_method_47_code 60 = .ok (.istore_n 0, 1) := by decide +kernel
theorem d_nlz_61 : decode jdk_33_method_47_code 61 = .ok (.iload_n 0, 1) := by decide +kernel
theorem d_nlz_62 : decode jdk_33_method_47_code 62 = .ok (.iconst 4, 1) := by decide +kernel
theorem d_nlz_63 : decode jdk_33_method_47_code 63 = .ok (.if_icmp .lt 10, 3) := by decide +kernel
theorem d_nlz_66 : decode jdk_33_method_47_code 66 = .ok (.iinc 1 (-2), 3) := by decide +kernel
theorem d_nlz_69 : decode jdk_33_method_47_code 69 = .ok (.iload_n 0, 1) := by decide +kernel
theorem d_nlz_70 : decode jdk_33_method_47_code 70 = .ok (.iconst 2, 1) := by decide +kernel
theorem d_nlz_71 : decode jdk_33_method_47_code 71 = .ok (.iushr, 1) := by decide +kernel
theorem d_nlz_72 : decode jdk_33_method_47_code 72 = .ok (.istore_n 0, 1) := by decide +kernel
theorem d_nlz_73 : decode jdk_33_method_47_code 73 = .ok (.iload_n 1, 1) := by decide +kernel
theorem d_nlz_74 : decode jdk_33_method_47_code 74 = .ok (.iload_n 0, 1) := by decide +kernel
theorem d_nlz_75 : decode jdk_33_method_47_code 75 = .ok (.iconst 1, 1) := by decide +kernel
theorem d_nlz_76 : decode jdk_33_method_47_code 76 = .ok (.iushr, 1) := by decide +kernel
theorem d_nlz_77 : decode jdk_33_method_47_code 77 = .ok (.isub, 1) := by decide +kernel
theorem d_nlz_78 : decode jdk_33_method_47_code 78 = .ok (.ireturn, 1) := by decide +kernel
theorem d_nlz_4 : decode jdk_33_method_47_code 4 = .ok (.iload_n 0, 1) := by decide +kernel
theorem d_nlz_5 : decode jdk_33_method_47_code 5 = .ok (.ifCond .ne 8, 3) := by decide +kernel
theorem d_nlz_8 : decode jdk_33_method_47_code 8 = .ok (.bipush 32, 2) := by decide +kernel
theorem d_nlz_10 : decode jdk_33_method_47_code 10 = .ok (.goto 4, 3) := by decide +kernel
theorem d_nlz_14 : decode jdk_33_method_47_code 14 = .ok (.ireturn, 1) := by decide +kernel
theorem d_nlz_13 : decode jdk_33_method_47_code 13 = .ok (.iconst 0, 1) := by decide +kernel
theorem ef_lnlz (m : MethodId) (x0 : Int64)  : entryFrame m #[(.long x0)] 3 = mkF m 0 #[.val (.long x0), .second, .unset] [] := by first | (simp [entryFrame, mkF, argsToLocals, Value.category]; done) | rfl
theorem pn_java_lang_Long : plainName "java/lang/Long" = true := by first | (simp [plainName, overriddenIn]; done) | decide +kernel
theorem d_lnlz_0 : decode jdk_35_method_48_code 0 = .ok (.lload_n 0, 1) := by decide +kernel
theorem d_lnlz_1 : decode jdk_35_method_48_code 1 = .ok (.bipush 32, 2) := by decide +kernel
theorem d_lnlz_3 : decode jdk_35_method_48_code 3 = .ok (.lushr, 1) := by decide +kernel
theorem d_lnlz_4 : decode jdk_35_method_48_code 4 = .ok (.l2i, 1) := by decide +kernel
theorem d_lnlz_5 : decode jdk_35_method_48_code 5 = .ok (.istore_n 2, 1) := by decide +kernel
theorem d_lnlz_6 : decode jdk_35_method_48_code 6 = .ok (.iload_n 2, 1) := by decide +kernel
theorem d_lnlz_7 : decode jdk_35_method_48_code 7 = .ok (.ifCond .ne 14, 3) := by decide +kernel
theorem d_lnlz_10 : decode jdk_35_method_48_code 10 = .ok (.bipush 32, 2) := by decide +kernel
theorem d_lnlz_12 : decode jdk_35_method_48_code 12 = .ok (.lload_n 0, 1) := by decide +kernel
theorem d_lnlz_13 : decode jdk_35_method_48_code 13 = .ok (.l2i, 1) := by decide +kernel
theorem d_lnlz_14 : decode jdk_35_method_48_code 14 = .ok (.invokestatic 308, 3) := by decide +kernel
theorem pd__I_I : parseMethodDescriptor "(I)I" = some ⟨[.int], some .int⟩ := by decide +kernel
theorem d_lnlz_17 : decode jdk_35_method_48_code 17 = .ok (.iadd, 1) := by decide +kernel
theorem d_lnlz_18 : decode jdk_35_method_48_code 18 = .ok (.goto 7, 3) := by decide +kernel
theorem d_lnlz_25 : decode jdk_35_method_48_code 25 = .ok (.ireturn, 1) := by decide +kernel
theorem d_lnlz_21 : decode jdk_35_method_48_code 21 = .ok (.iload_n 2, 1) := by decide +kernel
theorem d_lnlz_22 : decode jdk_35_method_48_code 22 = .ok (.invokestatic 308, 3) := by decide +kernel
theorem ef_fill (m : MethodId) (x0 : Addr) (x1 : Int64)  : entryFrame m #[(.ref x0), (.long x1)] 5 = mkF m 0 #[.val (.ref x0), .val (.long x1), .second, .unset, .unset] [] := by first | (simp [entryFrame, mkF, argsToLocals, Value.category]; done) | rfl
theorem pn_java_util_Arrays : plainName "java/util/Arrays" = true := by first | (simp [plainName, overriddenIn]; done) | decide +kernel
theorem d_fill_0 : decode jdk_65_method_101_code 0 = .ok (.iconst 0, 1) := by decide +kernel
theorem d_fill_1 : decode jdk_65_method_101_code 1 = .ok (.istore_n 3, 1) := by decide +kernel
theorem d_fill_2 : decode jdk_65_method_101_code 2 = .ok (.aload_n 0, 1) := by decide +kernel
theorem d_fill_3 : decode jdk_65_method_101_code 3 = .ok (.arraylength, 1) := by decide +kernel
theorem d_fill_4 : decode jdk_65_method_101_code 4 = .ok (.istore 4, 2) := by decide +kernel
theorem d_fill_6 : decode jdk_65_method_101_code 6 = .ok (.iload_n 3, 1) := by decide +kernel
theorem d_fill_7 : decode jdk_65_method_101_code 7 = .ok (.iload 4, 2) := by decide +kernel
theorem d_fill_9 : decode jdk_65_method_101_code 9 = .ok (.if_icmp .ge 13, 3) := by decide +kernel
theorem d_fill_12 : decode jdk_65_method_101_code 12 = .ok (.aload_n 0, 1) := by decide +kernel
theorem d_fill_13 : decode jdk_65_method_101_code 13 = .ok (.iload_n 3, 1) := by decide +kernel
theorem d_fill_14 : decode jdk_65_method_101_code 14 = .ok (.lload_n 1, 1) := by decide +kernel
theorem d_fill_15 : decode jdk_65_method_101_code 15 = .ok (.lastore, 1) := by decide +kernel
theorem d_fill_16 : decode jdk_65_method_101_code 16 = .ok (.iinc 3 1, 3) := by decide +kernel
theorem d_fill_19 : decode jdk_65_method_101_code 19 = .ok (.goto (-13), 3) := by decide +kernel
theorem d_fill_22 : decode jdk_65_method_101_code 22 = .ok (.return_, 1) := by decide +kernel
theorem ef_al (m : MethodId) (x0 : Addr) (x1 : Int32)  : entryFrame m #[(.ref x0), (.int x1)] 2 = mkF m 0 #[.val (.ref x0), .val (.int x1)] [] := by first | (simp [entryFrame, mkF, argsToLocals, Value.category]; done) | rfl
theorem pn_com_example_signalbox_signalbox_history_LongIntMap : plainName "com/example/signalbox/signalbox/history/LongIntMap" = true := by first | (simp [plainName, overriddenIn]; done) | decide +kernel
theorem d_al_0 : decode prog_69_method_6_code 0 = .ok (.aload_n 0, 1) := by decide +kernel
theorem d_al_1 : decode prog_69_method_6_code 1 = .ok (.iload_n 1, 1) := by decide +kernel
theorem d_al_2 : decode prog_69_method_6_code 2 = .ok (.newarray .long, 2) := by decide +kernel
theorem d_al_4 : decode prog_69_method_6_code 4 = .ok (.putfield 13, 3) := by decide +kernel
theorem d_al_7 : decode prog_69_method_6_code 7 = .ok (.aload_n 0, 1) := by decide +kernel
theorem d_al_8 : decode prog_69_method_6_code 8 = .ok (.getfield 13, 3) := by decide +kernel
theorem d_al_11 : decode prog_69_method_6_code 11 = .ok (.ldc2_w 25, 3) := by decide +kernel
theorem d_al_14 : decode prog_69_method_6_code 14 = .ok (.invokestatic 54, 3) := by decide +kernel
theorem pd___JJ_V : parseMethodDescriptor "([JJ)V" = some ⟨[(.array .long), .long], none⟩ := by decide +kernel
theorem d_al_17 : decode prog_69_method_6_code 17 = .ok (.aload_n 0, 1) := by decide +kernel
theorem d_al_18 : decode prog_69_method_6_code 18 = .ok (.iload_n 1, 1) := by decide +kernel
theorem d_al_19 : decode prog_69_method_6_code 19 = .ok (.newarray .int, 2) := by decide +kernel
theorem d_al_21 : decode prog_69_method_6_code 21 = .ok (.putfield 21, 3) := by decide +kernel
theorem d_al_24 : decode prog_69_method_6_code 24 = .ok (.aload_n 0, 1) := by decide +kernel
theorem d_al_25 : decode prog_69_method_6_code 25 = .ok (.iload_n 1, 1) := by decide +kernel
theorem d_al_26 : decode prog_69_method_6_code 26 = .ok (.i2l, 1) := by decide +kernel
theorem d_al_27 : decode prog_69_method_6_code 27 = .ok (.invokestatic 60, 3) := by decide +kernel
theorem pd__J_I : parseMethodDescriptor "(J)I" = some ⟨[.long], some .int⟩ := by decide +kernel
theorem d_al_30 : decode prog_69_method_6_code 30 = .ok (.iconst 1, 1) := by decide +kernel
theorem d_al_31 : decode prog_69_method_6_code 31 = .ok (.iadd, 1) := by decide +kernel
theorem d_al_32 : decode prog_69_method_6_code 32 = .ok (.putfield 51, 3) := by decide +kernel
theorem d_al_35 : decode prog_69_method_6_code 35 = .ok (.return_, 1) := by decide +kernel
theorem ef_ini (m : MethodId) (x0 : Addr)  : entryFrame m #[(.ref x0)] 1 = mkF m 0 #[.val (.ref x0)] [] := by first | (simp [entryFrame, mkF, argsToLocals, Value.category]; done) | rfl
theorem d_ini_0 : decode prog_69_method_1_code 0 = .ok (.aload_n 0, 1) := by decide +kernel
theorem d_ini_1 : decode prog_69_method_1_code 1 = .ok (.invokespecial 3, 3) := by decide +kernel
theorem d_ini_4 : decode prog_69_method_1_code 4 = .ok (.aload_n 0, 1) := by decide +kernel
theorem d_ini_5 : decode prog_69_method_1_code 5 = .ok (.bipush 16, 2) := by decide +kernel
theorem d_ini_7 : decode prog_69_method_1_code 7 = .ok (.invokevirtual 9, 3) := by decide +kernel
theorem pd__I_V : parseMethodDescriptor "(I)V" = some ⟨[.int], none⟩ := by decide +kernel
theorem d_ini_10 : decode prog_69_method_1_code 10 = .ok (.return_, 1) := by decide +kernel
theorem ef_slot (m : MethodId) (x0 : Addr) (x1 : Int64)  : entryFrame m #[(.ref x0), (.long x1)] 3 = mkF m 0 #[.val (.ref x0), .val (.long x1), .second] [] := by first | (simp [entryFrame, mkF, argsToLocals, Value.category]; done) | rfl
theorem d_slot_0 : decode prog_69_method_5_code 0 = .ok (.lload_n 1, 1) := by decide +kernel
theorem d_slot_1 : decode prog_69_method_5_code 1 = .ok (.ldc2_w 49, 3) := by decide +kernel
theorem d_slot_4 : decode prog_69_method_5_code 4 = .ok (.lmul, 1) := by decide +kernel
theorem d_slot_5 : decode prog_69_method_5_code 5 = .ok (.aload_n 0, 1) := by decide +kernel
theorem d_slot_6 : decode prog_69_method_5_code 6 = .ok (.getfield 51, 3) := by decide +kernel
theorem d_slot_9 : decode prog_69_method_5_code 9 = .ok (.lushr, 1) := by decide +kernel
theorem d_slot_10 : decode prog_69_method_5_code 10 = .ok (.l2i, 1) := by decide +kernel
theorem d_slot_11 : decode prog_69_method_5_code 11 = .ok (.ireturn, 1) := by decide +kernel
theorem ef_put (m : MethodId) (x0 : Addr) (x1 : Int64) (x2 : Int32)  : entryFrame m #[(.ref x0), (.long x1), (.int x2)] 6 = mkF m 0 #[.val (.ref x0), .val (.long x1), .second, .val (.int x2), .unset, .unset] [] := by first | (simp [entryFrame, mkF, argsToLocals, Value.category]; done) | rfl
theorem d_put_0 : decode prog_69_method_3_code 0 = .ok (.lload_n 1, 1) := by decide +kernel
theorem d_put_1 : decode prog_69_method_3_code 1 = .ok (.lconst 0, 1) := by decide +kernel
theorem d_put_2 : decode prog_69_method_3_code 2 = .ok (.lcmp, 1) := by decide +kernel
theorem d_put_3 : decode prog_69_method_3_code 3 = .ok (.ifCond .ge 17, 3) := by decide +kernel
theorem d_put_20 : decode prog_69_method_3_code 20 = .ok (.aload_n 0, 1) := by decide +kernel
theorem d_put_21 : decode prog_69_method_3_code 21 = .ok (.getfield 13, 3) := by decide +kernel
theorem d_put_24 : decode prog_69_method_3_code 24 = .ok (.arraylength, 1) := by decide +kernel
theorem d_put_25 : decode prog_69_method_3_code 25 = .ok (.iconst 1, 1) := by decide +kernel
theorem d_put_26 : decode prog_69_method_3_code 26 = .ok (.isub, 1) := by decide +kernel
theorem d_put_27 : decode prog_69_method_3_code 27 = .ok (.istore 4, 2) := by decide +kernel
theorem d_put_29 : decode prog_69_method_3_code 29 = .ok (.aload_n 0, 1) := by decide +kernel
theorem d_put_30 : decode prog_69_method_3_code 30 = .ok (.lload_n 1, 1) := by decide +kernel
theorem d_put_31 : decode prog_69_method_3_code 31 = .ok (.invokevirtual 17, 3) := by decide +kernel
theorem d_put_34 : decode prog_69_method_3_code 34 = .ok (.istore 5, 2) := by decide +kernel
theorem d_put_36 : decode prog_69_method_3_code 36 = .ok (.aload_n 0, 1) := by decide +kernel
theorem d_put_37 : decode prog_69_method_3_code 37 = .ok (.getfield 13, 3) := by decide +kernel
theorem d_put_40 : decode prog_69_method_3_code 40 = .ok (.iload 5, 2) := by decide +kernel
theorem d_put_42 : decode prog_69_method_3_code 42 = .ok (.laload, 1) := by decide +kernel
theorem d_put_43 : decode prog_69_method_3_code 43 = .ok (.lload_n 1, 1) := by decide +kernel
theorem d_put_44 : decode prog_69_method_3_code 44 = .ok (.lcmp, 1) := by decide +kernel
theorem d_put_45 : decode prog_69_method_3_code 45 = .ok (.ifCond .eq 29, 3) := by decide +kernel
theorem d_put_48 : decode prog_69_method_3_code 48 = .ok (.aload_n 0, 1) := by decide +kernel
theorem d_put_49 : decode prog_69_method_3_code 49 = .ok (.getfield 13, 3) := by decide +kernel
theorem d_put_52 : decode prog_69_method_3_code 52 = .ok (.iload 5, 2) := by decide +kernel
theorem d_put_54 : decode prog_69_method_3_code 54 = .ok (.laload, 1) := by decide +kernel
theorem d_put_55 : decode prog_69_method_3_code 55 = .ok (.ldc2_w 25, 3) := by decide +kernel
theorem d_put_58 : decode prog_69_method_3_code 58 = .ok (.lcmp, 1) := by decide +kernel
theorem d_put_59 : decode prog_69_method_3_code 59 = .ok (.ifCond .eq 15, 3) := by decide +kernel
theorem d_put_62 : decode prog_69_method_3_code 62 = .ok (.iload 5, 2) := by decide +kernel
theorem d_put_64 : decode prog_69_method_3_code 64 = .ok (.iconst 1, 1) := by decide +kernel
theorem d_put_65 : decode prog_69_method_3_code 65 = .ok (.iadd, 1) := by decide +kernel
theorem d_put_66 : decode prog_69_method_3_code 66 = .ok (.iload 4, 2) := by decide +kernel
theorem d_put_68 : decode prog_69_method_3_code 68 = .ok (.iand, 1) := by decide +kernel
theorem d_put_69 : decode prog_69_method_3_code 69 = .ok (.istore 5, 2) := by decide +kernel
theorem d_put_71 : decode prog_69_method_3_code 71 = .ok (.goto (-35), 3) := by decide +kernel
theorem d_put_74 : decode prog_69_method_3_code 74 = .ok (.aload_n 0, 1) := by decide +kernel
theorem d_put_75 : decode prog_69_method_3_code 75 = .ok (.getfield 13, 3) := by decide +kernel
theorem d_put_78 : decode prog_69_method_3_code 78 = .ok (.iload 5, 2) := by decide +kernel
theorem d_put_80 : decode prog_69_method_3_code 80 = .ok (.laload, 1) := by decide +kernel
theorem d_put_81 : decode prog_69_method_3_code 81 = .ok (.ldc2_w 25, 3) := by decide +kernel
theorem d_put_84 : decode prog_69_method_3_code 84 = .ok (.lcmp, 1) := by decide +kernel
theorem d_put_85 : decode prog_69_method_3_code 85 = .ok (.ifCond .ne 40, 3) := by decide +kernel
theorem d_put_88 : decode prog_69_method_3_code 88 = .ok (.aload_n 0, 1) := by decide +kernel
theorem d_put_89 : decode prog_69_method_3_code 89 = .ok (.getfield 36, 3) := by decide +kernel
theorem d_put_92 : decode prog_69_method_3_code 92 = .ok (.ldc 40, 2) := by decide +kernel
theorem d_put_94 : decode prog_69_method_3_code 94 = .ok (.if_icmp .ne 13, 3) := by decide +kernel
theorem d_put_107 : decode prog_69_method_3_code 107 = .ok (.aload_n 0, 1) := by decide +kernel
theorem d_put_108 : decode prog_69_method_3_code 108 = .ok (.getfield 13, 3) := by decide +kernel
theorem d_put_111 : decode prog_69_method_3_code 111 = .ok (.iload 5, 2) := by decide +kernel
theorem d_put_113 : decode prog_69_method_3_code 113 = .ok (.lload_n 1, 1) := by decide +kernel
theorem d_put_114 : decode prog_69_method_3_code 114 = .ok (.lastore, 1) := by decide +kernel
theorem d_put_115 : decode prog_69_method_3_code 115 = .ok (.aload_n 0, 1) := by decide +kernel
theorem d_put_116 : decode prog_69_method_3_code 116 = .ok (.dup, 1) := by decide +kernel
theorem d_put_117 : decode prog_69_method_3_code 117 = .ok (.getfield 36, 3) := by decide +kernel
theorem d_put_120 : decode prog_69_method_3_code 120 = .ok (.iconst 1, 1) := by decide +kernel
theorem d_put_121 : decode prog_69_method_3_code 121 = .ok (.iadd, 1) := by decide +kernel
theorem d_put_122 : decode prog_69_method_3_code 122 = .ok (.putfield 36, 3) := by decide +kernel
theorem d_put_125 : decode prog_69_method_3_code 125 = .ok (.aload_n 0, 1) := by decide +kernel
theorem d_put_126 : decode prog_69_method_3_code 126 = .ok (.getfield 21, 3) := by decide +kernel
theorem d_put_129 : decode prog_69_method_3_code 129 = .ok (.iload 5, 2) := by decide +kernel
theorem d_put_131 : decode prog_69_method_3_code 131 = .ok (.iload_n 3, 1) := by decide +kernel
theorem d_put_132 : decode prog_69_method_3_code 132 = .ok (.iastore, 1) := by decide +kernel
theorem d_put_133 : decode prog_69_method_3_code 133 = .ok (.aload_n 0, 1) := by decide +kernel
theorem d_put_134 : decode prog_69_method_3_code 134 = .ok (.getfield 36, 3) := by decide +kernel
theorem d_put_137 : decode prog_69_method_3_code 137 = .ok (.aload_n 0, 1) := by decide +kernel
theorem d_put_138 : decode prog_69_method_3_code 138 = .ok (.getfield 13, 3) := by decide +kernel
theorem d_put_141 : decode prog_69_method_3_code 141 = .ok (.arraylength, 1) := by decide +kernel
theorem d_put_142 : decode prog_69_method_3_code 142 = .ok (.iconst 4, 1) := by decide +kernel
theorem d_put_143 : decode prog_69_method_3_code 143 = .ok (.idiv, 1) := by decide +kernel
theorem d_put_144 : decode prog_69_method_3_code 144 = .ok (.iconst 3, 1) := by decide +kernel
theorem d_put_145 : decode prog_69_method_3_code 145 = .ok (.imul, 1) := by decide +kernel
theorem d_put_146 : decode prog_69_method_3_code 146 = .ok (.if_icmp .le 7, 3) := by decide +kernel
theorem d_put_153 : decode prog_69_method_3_code 153 = .ok (.return_, 1) := by decide +kernel
theorem ef_get (m : MethodId) (x0 : Addr) (x1 : Int64) (x2 : Int32)  : entryFrame m #[(.ref x0), (.long x1), (.int x2)] 6 = mkF m 0 #[.val (.ref x0), .val (.long x1), .second, .val (.int x2), .unset, .unset] [] := by first | (simp [entryFrame, mkF, argsToLocals, Value.category]; done) | rfl
theorem d_get_0 : decode prog_69_method_2_code 0 = .ok (.aload_n 0, 1) := by decide +kernel
theorem d_get_1 : decode prog_69_method_2_code 1 = .ok (.getfield 13, 3) := by decide +kernel
theorem d_get_4 : decode prog_69_method_2_code 4 = .ok (.arraylength, 1) := by decide +kernel
theorem d_get_5 : decode prog_69_method_2_code 5 = .ok (.iconst 1, 1) := by decide +kernel
theorem d_get_6 : decode prog_69_method_2_code 6 = .ok (.isub, 1) := by decide +kernel
theorem d_get_7 : decode prog_69_method_2_code 7 = .ok (.istore 4, 2) := by decide +kernel
theorem d_get_9 : decode prog_69_method_2_code 9 = .ok (.aload_n 0, 1) := by decide +kernel
theorem d_get_10 : decode prog_69_method_2_code 10 = .ok (.lload_n 1, 1) := by decide +kernel
theorem d_get_11 : decode prog_69_method_2_code 11 = .ok (.invokevirtual 17, 3) := by decide +kernel
theorem d_get_14 : decode prog_69_method_2_code 14 = .ok (.istore 5, 2) := by decide +kernel
theorem d_get_16 : decode prog_69_method_2_code 16 = .ok (.aload_n 0, 1) := by decide +kernel
theorem d_get_17 : decode prog_69_method_2_code 17 = .ok (.getfield 13, 3) := by decide +kernel
theorem d_get_20 : decode prog_69_method_2_code 20 = .ok (.iload 5, 2) := by decide +kernel
theorem d_get_22 : decode prog_69_method_2_code 22 = .ok (.laload, 1) := by decide +kernel
theorem d_get_23 : decode prog_69_method_2_code 23 = .ok (.lload_n 1, 1) := by decide +kernel
theorem d_get_24 : decode prog_69_method_2_code 24 = .ok (.lcmp, 1) := by decide +kernel
theorem d_get_25 : decode prog_69_method_2_code 25 = .ok (.ifCond .ne 11, 3) := by decide +kernel
theorem d_get_36 : decode prog_69_method_2_code 36 = .ok (.aload_n 0, 1) := by decide +kernel
theorem d_get_37 : decode prog_69_method_2_code 37 = .ok (.getfield 13, 3) := by decide +kernel
theorem d_get_40 : decode prog_69_method_2_code 40 = .ok (.iload 5, 2) := by decide +kernel
theorem d_get_42 : decode prog_69_method_2_code 42 = .ok (.laload, 1) := by decide +kernel
theorem d_get_43 : decode prog_69_method_2_code 43 = .ok (.ldc2_w 25, 3) := by decide +kernel
theorem d_get_46 : decode prog_69_method_2_code 46 = .ok (.lcmp, 1) := by decide +kernel
theorem d_get_47 : decode prog_69_method_2_code 47 = .ok (.ifCond .ne 5, 3) := by decide +kernel
theorem d_get_52 : decode prog_69_method_2_code 52 = .ok (.iload 5, 2) := by decide +kernel
theorem d_get_54 : decode prog_69_method_2_code 54 = .ok (.iconst 1, 1) := by decide +kernel
theorem d_get_55 : decode prog_69_method_2_code 55 = .ok (.iadd, 1) := by decide +kernel
theorem d_get_56 : decode prog_69_method_2_code 56 = .ok (.iload 4, 2) := by decide +kernel
theorem d_get_58 : decode prog_69_method_2_code 58 = .ok (.iand, 1) := by decide +kernel
theorem d_get_59 : decode prog_69_method_2_code 59 = .ok (.istore 5, 2) := by decide +kernel
theorem d_get_61 : decode prog_69_method_2_code 61 = .ok (.goto (-45), 3) := by decide +kernel
theorem d_get_28 : decode prog_69_method_2_code 28 = .ok (.aload_n 0, 1) := by decide +kernel
theorem d_get_29 : decode prog_69_method_2_code 29 = .ok (.getfield 21, 3) := by decide +kernel
theorem d_get_32 : decode prog_69_method_2_code 32 = .ok (.iload 5, 2) := by decide +kernel
theorem d_get_34 : decode prog_69_method_2_code 34 = .ok (.iaload, 1) := by decide +kernel
theorem d_get_35 : decode prog_69_method_2_code 35 = .ok (.ireturn, 1) := by decide +kernel
theorem d_get_50 : decode prog_69_method_2_code 50 = .ok (.iload_n 3, 1) := by decide +kernel
theorem d_get_51 : decode prog_69_method_2_code 51 = .ok (.ireturn, 1) := by decide +kernel
theorem ef_exq (m : MethodId) (x0 : Int64) (x1 : Int64) (x2 : Int64) (x3 : Int64) (x4 : Int32) (x5 : Int32) (x6 : Int32)  : entryFrame m #[(.long x0), (.long x1), (.long x2), (.long x3), (.int x4), (.int x5), (.int x6)] 11 = mkF m 0 #[.val (.long x0), .second, .val (.long x1), .second, .val (.long x2), .second, .val (.long x3), .second, .val (.int x4), .val (.int x5), .val (.int x6)] [] := by first | (simp [entryFrame, mkF, argsToLocals, Value.category]; done) | rfl
theorem pn_com_example_signalbox_signalbox_history_LongIntMapGetPinLaw : plainName "com/example/signalbox/signalbox/history/LongIntMapGetPinLaw" = true := by first | (simp [plainName, overriddenIn]; done) | decide +kernel
theorem d_exq_0 : decode method_2_code 0 = .ok (.lload_n 0, 1) := by decide +kernel
theorem d_exq_1 : decode method_2_code 1 = .ok (.lload 6, 2) := by decide +kernel
theorem d_exq_3 : decode method_2_code 3 = .ok (.lcmp, 1) := by decide +kernel
theorem d_exq_4 : decode method_2_code 4 = .ok (.ifCond .ne 9, 3) := by decide +kernel
theorem d_exq_7 : decode method_2_code 7 = .ok (.iload 8, 2) := by decide +kernel
theorem d_exq_9 : decode method_2_code 9 = .ok (.iload 9, 2) := by decide +kernel
theorem d_exq_11 : decode method_2_code 11 = .ok (.ixor, 1) := by decide +kernel
theorem d_exq_12 : decode method_2_code 12 = .ok (.ireturn, 1) := by decide +kernel
theorem d_exq_13 : decode method_2_code 13 = .ok (.lload_n 0, 1) := by decide +kernel
theorem d_exq_14 : decode method_2_code 14 = .ok (.lload 4, 2) := by decide +kernel
theorem d_exq_16 : decode method_2_code 16 = .ok (.lcmp, 1) := by decide +kernel
theorem d_exq_17 : decode method_2_code 17 = .ok (.ifCond .ne 6, 3) := by decide +kernel
theorem d_exq_20 : decode method_2_code 20 = .ok (.iload 9, 2) := by decide +kernel
theorem d_exq_22 : decode method_2_code 22 = .ok (.ireturn, 1) := by decide +kernel
theorem d_exq_23 : decode method_2_code 23 = .ok (.lload_n 0, 1) := by decide +kernel
theorem d_exq_24 : decode method_2_code 24 = .ok (.lload_n 2, 1) := by decide +kernel
theorem d_exq_25 : decode method_2_code 25 = .ok (.lcmp, 1) := by decide +kernel
theorem d_exq_26 : decode method_2_code 26 = .ok (.ifCond .ne 6, 3) := by decide +kernel
theorem d_exq_29 : decode method_2_code 29 = .ok (.iload 8, 2) := by decide +kernel
theorem d_exq_31 : decode method_2_code 31 = .ok (.ireturn, 1) := by decide +kernel
theorem d_exq_32 : decode method_2_code 32 = .ok (.iload 10, 2) := by decide +kernel
theorem d_exq_34 : decode method_2_code 34 = .ok (.ireturn, 1) := by decide +kernel
theorem ef_law (m : MethodId) (x0 : Int64) (x1 : Int64) (x2 : Int64) (x3 : Int64) (x4 : Int32) (x5 : Int32)  : entryFrame m #[(.long x0), (.long x1), (.long x2), (.long x3), (.int x4), (.int x5)] maxLocals = mkF m 0 #[.val (.long x0), .second, .val (.long x1), .second, .val (.long x2), .second, .val (.long x3), .second, .val (.int x4), .val (.int x5), .unset, .unset, .unset, .unset, .unset, .unset, .unset, .unset, .unset, .unset, .unset, .unset, .unset, .unset, .unset] [] := by first | (simp [entryFrame, mkF, argsToLocals, Value.category, maxLocals]; done) | rfl
theorem pd___V : parseMethodDescriptor "()V" = some ⟨[], none⟩ := by decide +kernel
theorem pd__JI_V : parseMethodDescriptor "(JI)V" = some ⟨[.long, .int], none⟩ := by decide +kernel
theorem pd__JI_I : parseMethodDescriptor "(JI)I" = some ⟨[.long, .int], some .int⟩ := by decide +kernel
theorem pd__JJJJIII_I : parseMethodDescriptor "(JJJJIII)I" = some ⟨[.long, .long, .long, .long, .int, .int, .int], some .int⟩ := by decide +kernel
theorem own_priv {s : State} {args : Array Value} {y : MethodName} {n : Nat} (hi : (Jvm.Cond.instantiable y.cls n).before args s = true) (hp : s.PrivateAt y) (hinst : (Jvm.Cond.instanceMethod y).before args s = true) (hy : y.cls ≠ "java/lang/invoke/MethodHandle" ∧ y.cls ≠ "java/lang/invoke/VarHandle") : (Jvm.Cond.selects y.cls y y).before args s = true := by
  obtain ⟨c, k, h1, h2, -, h4, -⟩ := Cond.instantiable_spec hi
  exact Jvm.Stand.selects_self_of_private h1 h2 (Bool.or_eq_false_iff.mp h4).1 hp hinst hy
def own_st (c k : Int32) (q : Int32 × Int32) : Int32 × Int32 := if q.1 < c then q else ((q.1.toUInt32 >>> (k &&& 31).toUInt32).toInt32, q.2 + (-k))
def own_fin (q : Int32 × Int32) : Int32 := q.2 - (q.1.toUInt32 >>> ((1 : Int32) &&& 31).toUInt32).toInt32
def own_nlz (x : Int32) : Int32 := if 0 < x then own_fin (own_st 4 2 (own_st 16 4 (own_st 256 8 (own_st 65536 16 (x, 31))))) else if x = 0 then 32 else 0
def own_hob (x : Int32) : Int32 := x &&& (((-2147483648 : Int32).toUInt32 >>> (own_nlz x &&& 31).toUInt32).toInt32)
def own_max (a b : Int32) : Int32 := if a < b then b else a
/-- the array at a has n places, of kind ty, and holds f -/
def OFun (Z : State) (h : Heap) (a : Addr) (ty : FieldType) (n : Nat) (f : Nat → Value) : Prop := ∃ c : Cell, Arr Z h a c ty ∧ c.slots.size = n ∧ ∀ j, j < n → c.slots[j]? = some (f j)
theorem OFun.lt {Z : State} {h : Heap} {a : Addr} {ty : FieldType} {n : Nat} {f : Nat → Value} (F : OFun Z h a ty n f) : a < h.size := by obtain ⟨c, A, -⟩ := F; exact A.lt
theorem OFun.ext {Z : State} {h h' : Heap} {a : Addr} {ty : FieldType} {n : Nat} {f : Nat → Value} (F : OFun Z h a ty n f) (E : Ext h h') : OFun Z h' a ty n f := by obtain ⟨c, A, r⟩ := F; exact ⟨c, A.ext E, r⟩
theorem OFun.other {Z : State} {h h' : Heap} {a b : Addr} {ty : FieldType} {n sl : Nat} {v : Value} {f : Nat → Value} (F : OFun Z h a ty n f) (W : Wr h h' b sl v) (q : a ≠ b) : OFun Z h' a ty n f := by obtain ⟨c, A, r⟩ := F; exact ⟨c, A.other W q, r⟩
theorem OFun.keep {Z : State} {h h' : Heap} {a : Addr} {ty : FieldType} {n : Nat} {ws : List Addr} {f : Nat → Value} (F : OFun Z h a ty n f) (K : Keep h h' ws) (q : a ∉ ws) : OFun Z h' a ty n f := by obtain ⟨c, A, r⟩ := F; exact ⟨c, ⟨K.2.1 a c A.1 q, A.2⟩, r⟩
theorem OFun.congr {Z : State} {h : Heap} {a : Addr} {ty : FieldType} {n : Nat} {f g : Nat → Value} (F : OFun Z h a ty n f) (q : ∀ j, j < n → f j = g j) : OFun Z h a ty n g := by obtain ⟨c, A, r1, r2⟩ := F; exact ⟨c, A, r1, fun j hj => by rw [r2 j hj, q j hj]⟩
theorem OFun.new {Z : State} {h : Heap} {a : Addr} {ty : FieldType} {k : ClassId} {z : Int32} (A : Arr Z h a (newA k ty z) ty) : OFun Z h a ty z.toNatClampNeg (fun _ => defaultValue ty) := ⟨_, A, sz_new _ _ _, fun j hj => by simp [newA, hj]⟩
theorem OFun.set {Z : State} {h h' : Heap} {a : Addr} {ty : FieldType} {n i : Nat} {v : Value} {f : Nat → Value} (F : OFun Z h a ty n f) (W : Wr h h' a i v) : OFun Z h' a ty n (fun j => if j = i then v else f j) := by
  obtain ⟨c, A, r1, r2⟩ := F
  refine ⟨_, A.same W, by rw [sz_set]; exact r1, fun j hj => ?_⟩
  by_cases q : j = i
  · subst q
    simp [Cell.setSlot, r1, hj]
  · simp only [q, if_false]
    rw [← r2 j hj]
    simp [Cell.setSlot, Array.getElem?_setIfInBounds, Ne.symm q]
theorem own_ext_wr {h0 h h' : Heap} {a : Addr} {sl : Nat} {v : Value} (E : Ext h0 h) (W : Wr h h' a sl v) (q : h0.size ≤ a) : Ext h0 h' := by
  refine ⟨by rw [W.size]; exact E.1, fun x c hx => ?_⟩
  have hlt := (Array.getElem?_eq_some_iff.mp hx).1
  obtain ⟨c', e1, -, -, -, e5, -⟩ := wr_at W (E.2 x c hx)
  rw [e1, e5 (Nat.ne_of_lt (Nat.lt_of_lt_of_le hlt q))]
theorem own_ext_trans {h0 h h' : Heap} (E : Ext h0 h) (E' : Ext h h') : Ext h0 h' := ⟨Nat.le_trans E.1 E'.1, fun x c hx => E'.2 x c (E.2 x c hx)⟩
theorem own_ext_refl (h : Heap) : Ext h h := ⟨Nat.le_refl _, fun _ _ q => q⟩
theorem own_ext_keep {h0 h h' : Heap} {ws : List Addr} (E : Ext h0 h) (K : Keep h h' ws) (q : ∀ x ∈ ws, h0.size ≤ x) : Ext h0 h' := ⟨Nat.le_trans E.1 K.1, fun x c hx => K.2.1 x c (E.2 x c hx) fun z => by
  have hlt := (Array.getElem?_eq_some_iff.mp hx).1
  exact absurd hlt (Nat.not_lt.mpr (q x z))⟩
theorem own_keep_ext {h h' : Heap} (E : Ext h h') (ws : List Addr) : Keep h h' ws := (Keep.refl h ws).ext E
theorem own_in {j : Int32} {i n : Nat} (h0 : j.toInt = i) (h1 : i < n) : ¬ (j < 0 ∨ n ≤ j.toNatClampNeg) := by
  have e : j.toNatClampNeg = i := by
    show j.toInt.toNat = i
    omega
  rintro (q | q)
  · rw [Int32.lt_iff_toInt_lt] at q
    have z : (0 : Int32).toInt = 0 := rfl
    omega
  · omega
theorem own_cl {j : Int32} {i : Nat} (h0 : j.toInt = i) : j.toNatClampNeg = i := by
  show j.toInt.toNat = i
  omega
theorem own_ofN {n : Nat} (h : n < 2 ^ 31) : (Int32.ofNat n).toInt = n := Int32.toInt_ofNat_of_lt h
def OStop (kf : Nat → Int64) (k : Int64) (i : Nat) : Prop := kf i = k ∨ kf i = -1
def own_sl (k : Int64) : Int32 := ((((k * (-7046029254386353131 : Int64)).toUInt64 >>> ((60 : Int32) &&& 0x3f).toInt64.toUInt64).toInt64).toInt32)
def own_hn (k : Int64) : Nat := (own_sl k).toNatClampNeg
theorem own_slI (k : Int64) : 0 ≤ (own_sl k).toInt ∧ (own_sl k).toInt < 16 := by
  unfold own_sl
  rw [show ((60 : Int32) &&& 0x3f).toInt64.toUInt64 = (60 : UInt64) from by decide]
  generalize (k * (-7046029254386353131 : Int64)).toUInt64 = u
  have h : (u >>> (60 : UInt64)).toNat < 16 := by
    rw [UInt64.toNat_shiftRight, Nat.shiftRight_eq_div_pow]
    have := UInt64.toNat_lt u
    have z : (60 : UInt64).toNat % 64 = 60 := by decide
    rw [z]; omega
  have e : (u >>> (60 : UInt64)).toInt64.toInt = ((u >>> (60 : UInt64)).toNat : Int) := by
    show (u >>> (60 : UInt64)).toBitVec.toInt = _
    rw [BitVec.toInt_eq_toNat_of_lt (by show 2 * (u >>> (60 : UInt64)).toNat < _; omega)]; rfl
  have e2 : (u >>> (60 : UInt64)).toInt64.toInt32.toInt = (u >>> (60 : UInt64)).toInt64.toInt := XT.narrowInt (by rw [e]; constructor <;> omega)
  omega
theorem own_hlt (k : Int64) : own_hn k < 16 := by
  have := own_slI k
  show (own_sl k).toInt.toNat < 16
  omega
theorem own_hval (k : Int64) : own_sl k = Int32.ofNat ((own_hn k + 0) % 16) := by
  have := own_slI k
  have hn : ¬ own_sl k < 0 := by
    rw [Int32.lt_iff_toInt_lt]
    have z : (0 : Int32).toInt = 0 := rfl
    omega
  rw [Nat.add_zero, Nat.mod_eq_of_lt (own_hlt k)]
  exact ((back32 hn).1).symm
def OSlot (kf : Nat → Int64) (k : Int64) (i : Nat) : Prop := ∃ d, i = (own_hn k + d) % 16 ∧ OStop kf k i ∧ ∀ e, e < d → ¬ OStop kf k ((own_hn k + e) % 16)
theorem OSlot.uniq {kf : Nat → Int64} {k : Int64} {i j : Nat} (h1 : OSlot kf k i) (h2 : OSlot kf k j) : i = j := by
  obtain ⟨d, a1, a2, a3⟩ := h1
  obtain ⟨e, b1, b2, b3⟩ := h2
  rcases Nat.lt_trichotomy d e with q | q | q
  · exact absurd (a1 ▸ a2) (b3 d q)
  · rw [a1, b1, q]
  · exact absurd (b1 ▸ b2) (a3 e q)
theorem own_least {P : Nat → Prop} : ∀ d, P d → ∃ n, P n ∧ ∀ e, e < n → ¬ P e := by
  intro d
  induction d using Nat.strongRecOn with
  | ind d ih =>
    intro hd
    by_cases h : ∃ e, e < d ∧ P e
    · obtain ⟨e, he, hp⟩ := h; exact ih e he hp
    · exact ⟨d, hd, fun e he hp => h ⟨e, he, hp⟩⟩
theorem own_walkd {kf : Nat → Int64} (k : Int64) (he : ∃ i, i < 16 ∧ kf i = -1) : ∃ d, OStop kf k ((own_hn k + d) % 16) ∧ ∀ e, e < d → ¬ OStop kf k ((own_hn k + e) % 16) := by
  obtain ⟨i, hi, h0⟩ := he
  have hC := own_hlt k
  refine own_least (P := fun d => OStop kf k ((own_hn k + d) % 16)) (16 - own_hn k + i) ?_
  have e : (own_hn k + (16 - own_hn k + i)) % 16 = i := by omega
  show OStop kf k ((own_hn k + (16 - own_hn k + i)) % 16)
  rw [e]; exact Or.inr h0
theorem own_ex {kf : Nat → Int64} (k : Int64) (he : ∃ i, i < 16 ∧ kf i = -1) : ∃ i, i < 16 ∧ OSlot kf k i := by
  obtain ⟨d, h1, h2⟩ := own_walkd k he
  exact ⟨_, Nat.mod_lt _ (by omega), d, rfl, h1, h2⟩
theorem own_pigeon : ∀ (C : Nat) (S : List Nat), S.length < C → ∃ i, i < C ∧ i ∉ S := by
  intro C
  induction C with
  | zero => intro S h; exact absurd h (Nat.not_lt_zero _)
  | succ C ih =>
    intro S h
    by_cases q : C ∈ S
    · have hl : (S.erase C).length < C := by
        rw [List.length_erase_of_mem q]
        have := List.length_pos_of_mem q
        omega
      obtain ⟨i, h1, h2⟩ := ih _ hl
      exact ⟨i, by omega, fun r => h2 ((List.mem_erase_of_ne (by omega)).mpr r)⟩
    · exact ⟨C, by omega, q⟩
def OOcc (kf : Nat → Int64) (N : Nat) : Prop := ∃ S : List Nat, S.length ≤ N ∧ ∀ i, i < 16 → kf i ≠ -1 → i ∈ S
theorem OOcc.ex {kf : Nat → Int64} {N : Nat} (h : OOcc kf N) (hN : N < 16) : ∃ i, i < 16 ∧ kf i = -1 := by
  obtain ⟨S, h1, h2⟩ := h
  obtain ⟨i, h3, h4⟩ := own_pigeon 16 S (by omega)
  refine ⟨i, h3, ?_⟩
  by_cases q : kf i = -1
  · exact q
  · exact absurd (h2 i h3 q) h4
def OTbl (kf : Nat → Int64) (vf : Nat → Int32) (M : Int64 → Option Int32) (N : Nat) : Prop := OOcc kf N ∧ (∀ i, i < 16 → kf i ≠ -1 → OSlot kf (kf i) i) ∧ ∀ k i, k ≠ -1 → i < 16 → OSlot kf k i → (if kf i = k then some (vf i) else none) = M k
theorem OTbl.nil : OTbl (fun _ => -1) (fun _ => 0) (fun _ => none) 0 := ⟨⟨[], Nat.le_refl _, fun i _ h => absurd rfl h⟩, fun i _ h => absurd rfl h, fun k _ hk _ _ => if_neg (fun q => hk q.symm)⟩
def OPut (kf : Nat → Int64) (vf : Nat → Int32) (k : Int64) (v : Int32) (kf' : Nat → Int64) (vf' : Nat → Int32) : Prop := ∃ i, i < 16 ∧ OSlot kf k i ∧ kf' = (fun j => if j = i then k else kf j) ∧ vf' = (fun j => if j = i then v else vf j)
theorem own_put {kf kf' : Nat → Int64} {vf vf' : Nat → Int32} {M : Int64 → Option Int32} {N : Nat} {k : Int64} {v : Int32} (T : OTbl kf vf M N) (hN : N < 16) (hk : k ≠ -1) (h : OPut kf vf k v kf' vf') : OTbl kf' vf' (fun q => if q = k then some v else M q) (N + 1) := by
  obtain ⟨i, hi, hs, ek, ev⟩ := h
  have kI : kf' i = k := by rw [ek]; exact if_pos rfl
  have kN : ∀ j, j ≠ i → kf' j = kf j := fun j q => by rw [ek]; exact if_neg q
  have vI : vf' i = v := by rw [ev]; exact if_pos rfl
  have vN : ∀ j, j ≠ i → vf' j = vf j := fun j q => by rw [ev]; exact if_neg q
  obtain ⟨⟨S, s1, s2⟩, I, G⟩ := T
  by_cases hp : kf i = k
  · have same : kf' = kf := by
      funext j
      by_cases q : j = i
      · rw [q, kI, hp]
      · exact kN j q
    rw [same]
    refine ⟨⟨S, by omega, s2⟩, I, fun q j hq hj hsl => ?_⟩
    by_cases r : q = k
    · subst r
      rw [hsl.uniq hs, if_pos hp, vI]; exact (if_pos rfl).symm
    · refine Eq.trans ?_ (if_neg r).symm
      rw [← G q j hq hj hsl]
      by_cases y : kf j = q
      · rw [if_pos y, if_pos y, vN j (fun z => r (by rw [← y, z, hp]))]
      · rw [if_neg y, if_neg y]
  · have h0 : kf i = -1 := by
      obtain ⟨d, -, a2, -⟩ := hs
      exact a2.resolve_left hp
    have st : ∀ q j, j ≠ i → (OStop kf' q j ↔ OStop kf q j) := fun q j r => by unfold OStop; rw [kN j r]
    have A : ∀ q j, kf j ≠ -1 → OSlot kf q j → OSlot kf' q j := by
      intro q j hn ⟨d, a1, a2, a3⟩
      refine ⟨d, a1, (st q j (fun r => hn (r ▸ h0))).mpr a2, fun e he hh => ?_⟩
      have z := a3 e he
      exact z ((st q _ (fun r => z (Or.inr (by rw [r]; exact h0)))).mp hh)
    have B : OSlot kf' k i := by
      obtain ⟨d, a1, a2, a3⟩ := hs
      refine ⟨d, a1, Or.inl kI, fun e he hh => ?_⟩
      have z := a3 e he
      exact z ((st k _ (fun r => z (Or.inr (by rw [r]; exact h0)))).mp hh)
    refine ⟨⟨i :: S, by simp; omega, fun j hj hn => ?_⟩, fun j hj hn => ?_, fun q j hq hj hsl => ?_⟩
    · by_cases r : j = i
      · rw [r]; exact List.mem_cons_self ..
      · rw [kN j r] at hn
        exact List.mem_cons_of_mem _ (s2 j hj hn)
    · by_cases r : j = i
      · subst r
        rw [kI]; exact B
      · rw [kN j r] at hn ⊢
        exact A _ j hn (I j hj hn)
    · by_cases r : q = k
      · subst r
        rw [hsl.uniq B, if_pos kI, vI]; exact (if_pos rfl).symm
      · refine Eq.trans ?_ (if_neg r).symm
        obtain ⟨j0, hj0, hs0⟩ := own_ex (kf := kf) q (OOcc.ex ⟨S, s1, s2⟩ hN)
        rw [← G q j0 hq hj0 hs0]
        by_cases y : kf j0 = q
        · have hs1 := A q j0 (by rw [y]; exact hq) hs0
          have ne : j0 ≠ i := fun z => hq (by rw [← y, z, h0])
          rw [hsl.uniq hs1, kN j0 ne, vN j0 ne]
        · rw [if_neg y]
          refine if_neg (fun z => ?_)
          have ne : j ≠ i := fun w => r (by rw [← z, w, kI])
          rw [kN j ne] at z
          have hh := I j hj (by rw [z]; exact hq)
          rw [z] at hh
          rw [hh.uniq hs0] at z
          exact y z
theorem own_stepAll : ∀ i : Fin 16, ((Int32.ofNat i.val + (1 : Int32)) &&& (15 : Int32)) = Int32.ofNat ((i.val + 1) % 16) ∧ (Int32.ofNat i.val).toInt = i.val := by decide +kernel
theorem own_step {s e : Nat} : ((Int32.ofNat ((s + e) % 16) + (1 : Int32)) &&& (15 : Int32)) = Int32.ofNat ((s + (e + 1)) % 16) := by
  have key := (own_stepAll ⟨(s + e) % 16, Nat.mod_lt _ (by decide)⟩).1
  have em : ((s + e) % 16 + 1) % 16 = (s + (e + 1)) % 16 := by omega
  rw [← em]; exact key
theorem own_ix {i : Nat} (h : i < 16) : (Int32.ofNat i).toInt = i := own_ofN (by omega)
def own_lnlz (x : Int64) : Int32 := if ((x.toUInt64 >>> ((32 : Int32) &&& 0x3f).toInt64.toUInt64).toInt64).toInt32 = 0 then 32 + own_nlz x.toInt32 else own_nlz (((x.toUInt64 >>> ((32 : Int32) &&& 0x3f).toInt64.toUInt64).toInt64).toInt32)
theorem own_lz16 : own_lnlz (16 : Int32).toInt64 + (1 : Int32) = 60 := by decide +kernel
/-- what is known of the map's object -/
def OMap (Z : State) (h : Heap) (a rk rv : Addr) (sz : Int32) (kf : Nat → Int64) (vf : Nat → Int32) : Prop := Fld Z h a "com/example/signalbox/signalbox/history/LongIntMap" "keys" "[J" (.ref rk) ∧ Fld Z h a "com/example/signalbox/signalbox/history/LongIntMap" "values" "[I" (.ref rv) ∧ Fld Z h a "com/example/signalbox/signalbox/history/LongIntMap" "shift" "I" (.int 60) ∧ Fld Z h a "com/example/signalbox/signalbox/history/LongIntMap" "size" "I" (.int sz) ∧ Exa Z h a "com/example/signalbox/signalbox/history/LongIntMap" ∧ OFun Z h rk .long 16 (fun j => .long (kf j)) ∧ OFun Z h rv .int 16 (fun j => .int (vf j)) ∧ a ≠ rk ∧ a ≠ rv ∧ rk ≠ rv
def own_exq (k ka kb kc : Int64) (v w ms : Int32) : Int32 := if k = kc then v ^^^ w else if k = kb then w else if k = ka then v else ms
def own_pick (M : Option Int32) (ms : Int32) : Int32 := match M with | some v => v | none => ms
theorem own_get {kf : Nat → Int64} {vf : Nat → Int32} {M : Int64 → Option Int32} {N i : Nat} {k : Int64} {ms : Int32} (T : OTbl kf vf M N) (hk : k ≠ -1) (hi : i < 16) (hs : OSlot kf k i) : (if kf i = k then vf i else ms) = own_pick (M k) ms := by
  rw [← T.2.2 k i hk hi hs]
  by_cases q : kf i = k
  · rw [if_pos q, if_pos q]; rfl
  · rw [if_neg q, if_neg q]; rfl
theorem own_exqM (k ka kb kc : Int64) (v w ms : Int32) : own_pick ((fun q => if q = kc then some (v ^^^ w) else (fun q => if q = kb then some w else (fun q => if q = ka then some v else (fun _ => none : Int64 → Option Int32) q) q) q) k) ms = own_exq k ka kb kc v w ms := by
  unfold own_exq
  show own_pick (if k = kc then some (v ^^^ w) else if k = kb then some w else if k = ka then some v else none) ms = _
  by_cases q1 : k = kc
  · rw [if_pos q1, if_pos q1]; rfl
  · rw [if_neg q1, if_neg q1]
    by_cases q2 : k = kb
    · rw [if_pos q2, if_pos q2]; rfl
    · rw [if_neg q2, if_neg q2]
      by_cases q3 : k = ka
      · rw [if_pos q3, if_pos q3]; rfl
      · rw [if_neg q3, if_neg q3]; rfl
theorem own_kpos {k p : Int64} (h : k = p &&& (9223372036854775807 : Int64)) : 0 ≤ k.toInt := by
  have h : ¬ k < 0 := fun q => absurd ((XT.and_neg64 _ _).mp (h ▸ q)).2 (by decide)
  rw [Int64.lt_iff_toInt_lt] at h
  have z : (0 : Int64).toInt = 0 := rfl
  omega
theorem own_km {k : Int64} (h : 0 ≤ k.toInt) : k ≠ -1 := fun q => by
  rw [q] at h
  exact absurd h (by decide)
theorem own_knn {k : Int64} (h : 0 ≤ k.toInt) : ¬ k < (0 : Int64) := by
  rw [Int64.lt_iff_toInt_lt]
  have z : (0 : Int64).toInt = 0 := rfl
  omega
theorem own_szb {sz : Int32} (h : 0 ≤ sz.toInt ∧ sz.toInt ≤ 11) : ¬ sz = (805306368 : Int32) ∧ ¬ (12 : Int32) < sz ∧ ¬ (12 : Int32) < (sz + (1 : Int32)) ∧ 0 ≤ (sz + (1 : Int32)).toInt ∧ (sz + (1 : Int32)).toInt = sz.toInt + 1 := by
  have z1 : (1 : Int32).toInt = 1 := rfl
  have z12 : (12 : Int32).toInt = 12 := rfl
  have e : (sz + (1 : Int32)).toInt = sz.toInt + 1 := by rw [XT.add32 (by rw [z1]; constructor <;> omega), z1]
  refine ⟨fun q => ?_, ?_, ?_, by omega, e⟩
  · rw [q] at h
    exact absurd h.2 (by decide)
  · rw [Int32.lt_iff_toInt_lt]; omega
  · rw [Int32.lt_iff_toInt_lt]; omega

def Q_nlz (Z : State) (x1 : Int32) (h0 : Heap) (n0 : Nat) (v : Option Value) (h : Heap) (L : List Loc) : Prop := v = some (.int (own_nlz x1)) ∧ Fr n0 L ∧ h = h0
set_option maxRecDepth 65536 in
set_option maxHeartbeats 40000000 in
theorem rm_nlz (l : Launch) (Z : State) (a0 : Array Value) (hw : ∀ d ∈ tables_1, d.before a0 Z = true) (ws : List Jvm.Cond) (x1 : Int32) (h0 : Heap) (n0 : Nat)  :
    MetFree l (⟨"java/lang/Integer", "numberOfLeadingZeros", "(I)I"⟩ : MethodName) (head1 (Jvm.Cond.code (⟨"java/lang/Integer", "numberOfLeadingZeros", "(I)I"⟩ : MethodName) jdk_33_method_47_code 2 (some .int) :: ws) ({ frames := 0, cells := 0, slots := 0, locals := 0 } : Room)) (fun a U => a = #[(.int x1)] ∧ Z.Warmed39 U.vm ∧ U.heap = h0) (fun _ _ _ _ _ => True) (fun _ U o U' => ∃ v L, o = .returned v ∧ Q_nlz Z x1 h0 n0 v U'.heap L ∧ FrameEnd U o U' L ({ frames := 0, cells := 0, slots := 0, locals := 0 } : Room).cells ({ frames := 0, cells := 0, slots := 0, locals := 0 } : Room).slots) := by
  refine MetFree.of_bodySF (plainFor_of_name pn_java_lang_Integer) hisR ?_
  intro p e s m args below meth c s₁ Bd hml0 hP hK
  obtain ⟨rfl, hZ, hh⟩ := hP
  have hx := Bd.exec
  have hby := Bd.bytes
  have hml : c.maxLocals = 2 := hml0
  have hown : s.vm.findClass "java/lang/Integer" = some m.cls := findClass_of_methodNamed Bd.named
  have hnm := (name_of_methodNamed Bd.named Bd.method).1
  have X0 : Stand p l e ({ frames := 0, cells := 0, slots := 0, locals := 0 } : Room) s m #[(.int x1)] below meth c s₁ [] 0 0 := Stand.of_body Bd
  have e0 : s₁.heap = h0 := by rw [← hh, Bd.state]; rfl
  have N0 := Fr.nil n0
  obtain ⟨S0, hS0⟩ : ∃ S0, S0 = s₁.setTop (entryFrame m #[(.int x1)] 2) := ⟨_, rfl⟩
  have pre : Pth p e below S0 s₁ (mkF m 0 #[.val (.int x1), .unset] []) := fun t k => by rw [hS0]; exact castTop (ef_nlz m x1) k
  replace pre : Pth p e below S0 s₁ (mkF m 1 #[.val (.int x1), .unset] [(.int x1)]) := fun t k => pre t (by
    show Steps p.tables e below (s₁.setTop (mkF m 0 #[.val (.int x1), .unset] [])) t
    refine XS.iloadN X0.here hx rfl (hb hby d_nlz_0) rfl ?_
    show Steps p.tables e below (s₁.setTop (mkF m 1 #[.val (.int x1), .unset] [(.int x1)])) t
    exact k)
  by_cases z0 : (0 : Int32) < x1
  · replace pre : Pth p e below S0 s₁ (mkF m 18 #[.val (.int x1), .val (.int (31 : Int32))] []) := fun t k => pre t (by
      show Steps p.tables e below (s₁.setTop (mkF m 1 #[.val (.int x1), .unset] [(.int x1)])) t
      refine XS.ifYes X0.here hx rfl (pc0 := 1) (pc' := 15) rfl (hb hby d_nlz_1) rfl (XT.i0_gt_t z0) (by decide) (by decide) ?_
      show Steps p.tables e below (s₁.setTop (mkF m 15 #[.val (.int x1), .unset] [])) t
      refine XS.bipush X0.here hx rfl (hb hby d_nlz_15) ?_
      show Steps p.tables e below (s₁.setTop (mkF m 17 #[.val (.int x1), .unset] [(.int (31 : Int32))])) t
      refine XS.istoreN X0.here hx rfl (hb hby d_nlz_17) rfl (l' := #[.val (.int x1), .val (.int (31 : Int32))]) rfl ?_
      show Steps p.tables e below (s₁.setTop (mkF m 18 #[.val (.int x1), .val (.int (31 : Int32))] [])) t
      exact k)
    obtain ⟨j0, m0, hq0, pre⟩ : ∃ j0 m0 : Int32, (j0, m0) = own_st (65536 : Int32) (16 : Int32) (x1, (31 : Int32)) ∧ Pth p e below S0 s₁ (mkF m 33 #[.val (.int j0), .val (.int m0)] []) := by
      replace pre : Pth p e below S0 s₁ (mkF m 22 #[.val (.int x1), .val (.int (31 : Int32))] [(.int (65536 : Int32)), (.int x1)]) := fun t k => pre t (by
        show Steps p.tables e below (s₁.setTop (mkF m 18 #[.val (.int x1), .val (.int (31 : Int32))] [])) t
        refine XS.iloadN X0.here hx rfl (hb hby d_nlz_18) rfl ?_
        show Steps p.tables e below (s₁.setTop (mkF m 19 #[.val (.int x1), .val (.int (31 : Int32))] [(.int x1)])) t
        refine X0.ldcWInt hx hown (mvT hZ (hw _ (List.mem_of_getElem? (i := 33) rfl))) (g := (mkF m 19 #[.val (.int x1), .val (.int (31 : Int32))] [(.int x1)])) rfl (hb hby d_nlz_19) _ ?_
        show Steps p.tables e below (s₁.setTop (mkF m 22 #[.val (.int x1), .val (.int (31 : Int32))] [(.int (65536 : Int32)), (.int x1)])) t
        exact k)
      by_cases z1 : x1 < (65536 : Int32)
      · replace pre : Pth p e below S0 s₁ (mkF m 33 #[.val (.int x1), .val (.int (31 : Int32))] []) := fun t k => pre t (by
          show Steps p.tables e below (s₁.setTop (mkF m 22 #[.val (.int x1), .val (.int (31 : Int32))] [(.int (65536 : Int32)), (.int x1)])) t
          refine XS.icmpYes X0.here hx rfl (pc0 := 22) (pc' := 33) rfl (hb hby d_nlz_22) rfl (XT.ii_lt_t z1) (by decide) (by decide) ?_
          show Steps p.tables e below (s₁.setTop (mkF m 33 #[.val (.int x1), .val (.int (31 : Int32))] [])) t
          exact k)
        exact ⟨_, _, (if_pos z1).symm, pre⟩
      · replace pre : Pth p e below S0 s₁ (mkF m 33 #[.val (.int ((x1.toUInt32 >>> ((16 : Int32) &&& 31).toUInt32).toInt32)), .val (.int ((31 : Int32) + (-16 : Int32)))] []) := fun t k => pre t (by
          show Steps p.tables e below (s₁.setTop (mkF m 22 #[.val (.int x1), .val (.int (31 : Int32))] [(.int (65536 : Int32)), (.int x1)])) t
          refine XS.icmpNo X0.here hx rfl (hb hby d_nlz_22) rfl (XT.ii_lt_f z1) ?_
          show Steps p.tables e below (s₁.setTop (mkF m 25 #[.val (.int x1), .val (.int (31 : Int32))] [])) t
          refine XS.iinc X0.here hx rfl (hb hby d_nlz_25) rfl (l' := #[.val (.int x1), .val (.int ((31 : Int32) + (-16 : Int32)))]) rfl ?_
          show Steps p.tables e below (s₁.setTop (mkF m 28 #[.val (.int x1), .val (.int ((31 : Int32) + (-16 : Int32)))] [])) t
          refine XS.iloadN X0.here hx rfl (hb hby d_nlz_28) rfl ?_
          show Steps p.tables e below (s₁.setTop (mkF m 29 #[.val (.int x1), .val (.int ((31 : Int32) + (-16 : Int32)))] [(.int x1)])) t
          refine XS.bipush X0.here hx rfl (hb hby d_nlz_29) ?_
          show Steps p.tables e below (s₁.setTop (mkF m 31 #[.val (.int x1), .val (.int ((31 : Int32) + (-16 : Int32)))] [(.int (16 : Int32)), (.int x1)])) t
          refine XS.iushr X0.here hx rfl (hb hby d_nlz_31) rfl ?_
          show Steps p.tables e below (s₁.setTop (mkF m 32 #[.val (.int x1), .val (.int ((31 : Int32) + (-16 : Int32)))] [(.int ((x1.toUInt32 >>> ((16 : Int32) &&& 31).toUInt32).toInt32))])) t
          refine XS.istoreN X0.here hx rfl (hb hby d_nlz_32) rfl (l' := #[.val (.int ((x1.toUInt32 >>> ((16 : Int32) &&& 31).toUInt32).toInt32)), .val (.int ((31 : Int32) + (-16 : Int32)))]) rfl ?_
          show Steps p.tables e below (s₁.setTop (mkF m 33 #[.val (.int ((x1.toUInt32 >>> ((16 : Int32) &&& 31).toUInt32).toInt32)), .val (.int ((31 : Int32) + (-16 : Int32)))] [])) t
          exact k)
        exact ⟨_, _, (if_neg z1).symm, pre⟩
    obtain ⟨j1, m1, hq1, pre⟩ : ∃ j1 m1 : Int32, (j1, m1) = own_st (256 : Int32) (8 : Int32) (j0, m0) ∧ Pth p e below S0 s₁ (mkF m 48 #[.val (.int j1), .val (.int m1)] []) := by
      replace pre : Pth p e below S0 s₁ (mkF m 37 #[.val (.int j0), .val (.int m0)] [(.int (256 : Int32)), (.int j0)]) := fun t k => pre t (by
        show Steps p.tables e below (s₁.setTop (mkF m 33 #[.val (.int j0), .val (.int m0)] [])) t
        refine XS.iloadN X0.here hx rfl (hb hby d_nlz_33) rfl ?_
        show Steps p.tables e below (s₁.setTop (mkF m 34 #[.val (.int j0), .val (.int m0)] [(.int j0)])) t
        refine XS.sipush X0.here hx rfl (hb hby d_nlz_34) ?_
        show Steps p.tables e below (s₁.setTop (mkF m 37 #[.val (.int j0), .val (.int m0)] [(.int (256 : Int32)), (.int j0)])) t
        exact k)
      by_cases z1 : j0 < (256 : Int32)
      · replace pre : Pth p e below S0 s₁ (mkF m 48 #[.val (.int j0), .val (.int m0)] []) := fun t k => pre t (by
          show Steps p.tables e below (s₁.setTop (mkF m 37 #[.val (.int j0), .val (.int m0)] [(.int (256 : Int32)), (.int j0)])) t
          refine XS.icmpYes X0.here hx rfl (pc0 := 37) (pc' := 48) rfl (hb hby d_nlz_37) rfl (XT.ii_lt_t z1) (by decide) (by decide) ?_
          show Steps p.tables e below (s₁.setTop (mkF m 48 #[.val (.int j0), .val (.int m0)] [])) t
          exact k)
        exact ⟨_, _, (if_pos z1).symm, pre⟩
      · replace pre : Pth p e below S0 s₁ (mkF m 48 #[.val (.int ((j0.toUInt32 >>> ((8 : Int32) &&& 31).toUInt32).toInt32)), .val (.int (m0 + (-8 : Int32)))] []) := fun t k => pre t (by
          show Steps p.tables e below (s₁.setTop (mkF m 37 #[.val (.int j0), .val (.int m0)] [(.int (256 : Int32)), (.int j0)])) t
          refine XS.icmpNo X0.here hx rfl (hb hby d_nlz_37) rfl (XT.ii_lt_f z1) ?_
          show Steps p.tables e below (s₁.setTop (mkF m 40 #[.val (.int j0), .val (.int m0)] [])) t
          refine XS.iinc X0.here hx rfl (hb hby d_nlz_40) rfl (l' := #[.val (.int j0), .val (.int (m0 + (-8 : Int32)))]) rfl ?_
          show Steps p.tables e below (s₁.setTop (mkF m 43 #[.val (.int j0), .val (.int (m0 + (-8 : Int32)))] [])) t
          refine XS.iloadN X0.here hx rfl (hb hby d_nlz_43) rfl ?_
          show Steps p.tables e below (s₁.setTop (mkF m 44 #[.val (.int j0), .val (.int (m0 + (-8 : Int32)))] [(.int j0)])) t
          refine XS.bipush X0.here hx rfl (hb hby d_nlz_44) ?_
          show Steps p.tables e below (s₁.setTop (mkF m 46 #[.val (.int j0), .val (.int (m0 + (-8 : Int32)))] [(.int (8 : Int32)), (.int j0)])) t
          refine XS.iushr X0.here hx rfl (hb hby d_nlz_46) rfl ?_
          show Steps p.tables e below (s₁.setTop (mkF m 47 #[.val (.int j0), .val (.int (m0 + (-8 : Int32)))] [(.int ((j0.toUInt32 >>> ((8 : Int32) &&& 31).toUInt32).toInt32))])) t
          refine XS.istoreN X0.here hx rfl (hb hby d_nlz_47) rfl (l' := #[.val (.int ((j0.toUInt32 >>> ((8 : Int32) &&& 31).toUInt32).toInt32)), .val (.int (m0 + (-8 : Int32)))]) rfl ?_
          show Steps p.tables e below (s₁.setTop (mkF m 48 #[.val (.int ((j0.toUInt32 >>> ((8 : Int32) &&& 31).toUInt32).toInt32)), .val (.int (m0 + (-8 : Int32)))] [])) t
          exact k)
        exact ⟨_, _, (if_neg z1).symm, pre⟩
    obtain ⟨j2, m2, hq2, pre⟩ : ∃ j2 m2 : Int32, (j2, m2) = own_st (16 : Int32) (4 : Int32) (j1, m1) ∧ Pth p e below S0 s₁ (mkF m 61 #[.val (.int j2), .val (.int m2)] []) := by
      replace pre : Pth p e below S0 s₁ (mkF m 51 #[.val (.int j1), .val (.int m1)] [(.int (16 : Int32)), (.int j1)]) := fun t k => pre t (by
        show Steps p.tables e below (s₁.setTop (mkF m 48 #[.val (.int j1), .val (.int m1)] [])) t
        refine XS.iloadN X0.here hx rfl (hb hby d_nlz_48) rfl ?_
        show Steps p.tables e below (s₁.setTop (mkF m 49 #[.val (.int j1), .val (.int m1)] [(.int j1)])) t
        refine XS.bipush X0.here hx rfl (hb hby d_nlz_49) ?_
        show Steps p.tables e below (s₁.setTop (mkF m 51 #[.val (.int j1), .val (.int m1)] [(.int (16 : Int32)), (.int j1)])) t
        exact k)
      by_cases z1 : j1 < (16 : Int32)
      · replace pre : Pth p e below S0 s₁ (mkF m 61 #[.val (.int j1), .val (.int m1)] []) := fun t k => pre t (by
          show Steps p.tables e below (s₁.setTop (mkF m 51 #[.val (.int j1), .val (.int m1)] [(.int (16 : Int32)), (.int j1)])) t
          refine XS.icmpYes X0.here hx rfl (pc0 := 51) (pc' := 61) rfl (hb hby d_nlz_51) rfl (XT.ii_lt_t z1) (by decide) (by decide) ?_
          show Steps p.tables e below (s₁.setTop (mkF m 61 #[.val (.int j1), .val (.int m1)] [])) t
          exact k)
        exact ⟨_, _, (if_pos z1).symm, pre⟩
      · replace pre : Pth p e below S0 s₁ (mkF m 61 #[.val (.int ((j1.toUInt32 >>> ((4 : Int32) &&& 31).toUInt32).toInt32)), .val (.int (m1 + (-4 : Int32)))] []) := fun t k => pre t (by
          show Steps p.tables e below (s₁.setTop (mkF m 51 #[.val (.int j1), .val (.int m1)] [(.int (16 : Int32)), (.int j1)])) t
          refine XS.icmpNo X0.here hx rfl (hb hby d_nlz_51) rfl (XT.ii_lt_f z1) ?_
          show Steps p.tables e below (s₁.setTop (mkF m 54 #[.val (.int j1), .val (.int m1)] [])) t
          refine XS.iinc X0.here hx rfl (hb hby d_nlz_54) rfl (l' := #[.val (.int j1), .val (.int (m1 + (-4 : Int32)))]) rfl ?_
          show Steps p.tables e below (s₁.setTop (mkF m 57 #[.val (.int j1), .val (.int (m1 + (-4 : Int32)))] [])) t
          refine XS.iloadN X0.here hx rfl (hb hby d_nlz_57) rfl ?_
          show Steps p.tables e below (s₁.setTop (mkF m 58 #[.val (.int j1), .val (.int (m1 + (-4 : Int32)))] [(.int j1)])) t
          refine XS.iconst X0.here hx rfl (hb hby d_nlz_58) ?_
          show Steps p.tables e below (s₁.setTop (mkF m 59 #[.val (.int j1), .val (.int (m1 + (-4 : Int32)))] [(.int (4 : Int32)), (.int j1)])) t
          refine XS.iushr X0.here hx rfl (hb hby d_nlz_59) rfl ?_
          show Steps p.tables e below (s₁.setTop (mkF m 60 #[.val (.int j1), .val (.int (m1 + (-4 : Int32)))] [(.int ((j1.toUInt32 >>> ((4 : Int32) &&& 31).toUInt32).toInt32))])) t
          refine XS.istoreN X0.here hx rfl (hb hby d_nlz_60) rfl (l' := #[.val (.int ((j1.toUInt32 >>> ((4 : Int32) &&& 31).toUInt32).toInt32)), .val (.int (m1 + (-4 : Int32)))]) rfl ?_
          show Steps p.tables e below (s₁.setTop (mkF m 61 #[.val (.int ((j1.toUInt32 >>> ((4 : Int32) &&& 31).toUInt32).toInt32)), .val (.int (m1 + (-4 : Int32)))] [])) t
          exact k)
        exact ⟨_, _, (if_neg z1).symm, pre⟩
    obtain ⟨j3, m3, hq3, pre⟩ : ∃ j3 m3 : Int32, (j3, m3) = own_st (4 : Int32) (2 : Int32) (j2, m2) ∧ Pth p e below S0 s₁ (mkF m 73 #[.val (.int j3), .val (.int m3)] []) := by
      replace pre : Pth p e below S0 s₁ (mkF m 63 #[.val (.int j2), .val (.int m2)] [(.int (4 : Int32)), (.int j2)]) := fun t k => pre t (by
        show Steps p.tables e below (s₁.setTop (mkF m 61 #[.val (.int j2), .val (.int m2)] [])) t
        refine XS.iloadN X0.here hx rfl (hb hby d_nlz_61) rfl ?_
        show Steps p.tables e below (s₁.setTop (mkF m 62 #[.val (.int j2), .val (.int m2)] [(.int j2)])) t
        refine XS.iconst X0.here hx rfl (hb hby d_nlz_62) ?_
        show Steps p.tables e below (s₁.setTop (mkF m 63 #[.val (.int j2), .val (.int m2)] [(.int (4 : Int32)), (.int j2)])) t
        exact k)
      by_cases z1 : j2 < (4 : Int32)
      · replace pre : Pth p e below S0 s₁ (mkF m 73 #[.val (.int j2), .val (.int m2)] []) := fun t k => pre t (by
          show Steps p.tables e below (s₁.setTop (mkF m 63 #[.val (.int j2), .val (.int m2)] [(.int (4 : Int32)), (.int j2)])) t
          refine XS.icmpYes X0.here hx rfl (pc0 := 63) (pc' := 73) rfl (hb hby d_nlz_63) rfl (XT.ii_lt_t z1) (by decide) (by decide) ?_
          show Steps p.tables e below (s₁.setTop (mkF m 73 #[.val (.int j2), .val (.int m2)] [])) t
          exact k)
        exact ⟨_, _, (if_pos z1).symm, pre⟩
      · replace pre : Pth p e below S0 s₁ (mkF m 73 #[.val (.int ((j2.toUInt32 >>> ((2 : Int32) &&& 31).toUInt32).toInt32)), .val (.int (m2 + (-2 : Int32)))] []) := fun t k => pre t (by
          show Steps p.tables e below (s₁.setTop (mkF m 63 #[.val (.int j2), .val (.int m2)] [(.int (4 : Int32)), (.int j2)])) t
          refine XS.icmpNo X0.here hx rfl (hb hby d_nlz_63) rfl (XT.ii_lt_f z1) ?_
          show Steps p.tables e below (s₁.setTop (mkF m 66 #[.val (.int j2), .val (.int m2)] [])) t
          refine XS.iinc X0.here hx rfl (hb hby d_nlz_66) rfl (l' := #[.val (.int j2), .val (.int (m2 + (-2 : Int32)))]) rfl ?_
          show Steps p.tables e below (s₁.setTop (mkF m 69 #[.val (.int j2), .val (.int (m2 + (-2 : Int32)))] [])) t
          refine XS.iloadN X0.here hx rfl (hb hby d_nlz_69) rfl ?_
          show Steps p.tables e below (s₁.setTop (mkF m 70 #[.val (.int j2), .val (.int (m2 + (-2 : Int32)))] [(.int j2)])) t
          refine XS.iconst X0.here hx rfl (hb hby d_nlz_70) ?_
          show Steps p.tables e below (s₁.setTop (mkF m 71 #[.val (.int j2), .val (.int (m2 + (-2 : Int32)))] [(.int (2 : Int32)), (.int j2)])) t
          refine XS.iushr X0.here hx rfl (hb hby d_nlz_71) rfl ?_
          show Steps p.tables e below (s₁.setTop (mkF m 72 #[.val (.int j2), .val (.int (m2 + (-2 : Int32)))] [(.int ((j2.toUInt32 >>> ((2 : Int32) &&& 31).toUInt32).toInt32))])) t
          refine XS.istoreN X0.here hx rfl (hb hby d_nlz_72) rfl (l' := #[.val (.int ((j2.toUInt32 >>> ((2 : Int32) &&& 31).toUInt32).toInt32)), .val (.int (m2 + (-2 : Int32)))]) rfl ?_
          show Steps p.tables e below (s₁.setTop (mkF m 73 #[.val (.int ((j2.toUInt32 >>> ((2 : Int32) &&& 31).toUInt32).toInt32)), .val (.int (m2 + (-2 : Int32)))] [])) t
          exact k)
        exact ⟨_, _, (if_neg z1).symm, pre⟩
    replace pre : Pth p e below S0 s₁ (mkF m 78 #[.val (.int j3), .val (.int m3)] [(.int (m3 - ((j3.toUInt32 >>> ((1 : Int32) &&& 31).toUInt32).toInt32)))]) := fun t k => pre t (by
      show Steps p.tables e below (s₁.setTop (mkF m 73 #[.val (.int j3), .val (.int m3)] [])) t
      refine XS.iloadN X0.here hx rfl (hb hby d_nlz_73) rfl ?_
      show Steps p.tables e below (s₁.setTop (mkF m 74 #[.val (.int j3), .val (.int m3)] [(.int m3)])) t
      refine XS.iloadN X0.here hx rfl (hb hby d_nlz_74) rfl ?_
      show Steps p.tables e below (s₁.setTop (mkF m 75 #[.val (.int j3), .val (.int m3)] [(.int j3), (.int m3)])) t
      refine XS.iconst X0.here hx rfl (hb hby d_nlz_75) ?_
      show Steps p.tables e below (s₁.setTop (mkF m 76 #[.val (.int j3), .val (.int m3)] [(.int (1 : Int32)), (.int j3), (.int m3)])) t
      refine XS.iushr X0.here hx rfl (hb hby d_nlz_76) rfl ?_
      show Steps p.tables e below (s₁.setTop (mkF m 77 #[.val (.int j3), .val (.int m3)] [(.int ((j3.toUInt32 >>> ((1 : Int32) &&& 31).toUInt32).toInt32)), (.int m3)])) t
      refine XS.isub X0.here hx rfl (hb hby d_nlz_77) rfl ?_
      show Steps p.tables e below (s₁.setTop (mkF m 78 #[.val (.int j3), .val (.int m3)] [(.int (m3 - ((j3.toUInt32 >>> ((1 : Int32) &&& 31).toUInt32).toInt32)))])) t
      exact k)
    obtain ⟨fs, hr, hrun, hended, hW, hsame⟩ := X0.leave (v := some (.int (m3 - ((j3.toUInt32 >>> ((1 : Int32) &&& 31).toUInt32).toInt32)))) (fun h => by rw [Bd.returns] at h; cases h)
    subst hS0
    refine ⟨_, _, pre _ ?_, hrun, hended, _, _, rfl, ?_, ⟨_, rfl⟩, hW, hsame.mono (by decide) (by decide)⟩
    · exact retI X0 hx Bd.returns (hb hby d_nlz_78) hr
    · show Q_nlz Z x1 h0 n0 _ s₁.heap _
      rw [e0]
      exact ⟨by rw [own_nlz, if_pos z0, ← hq0, ← hq1, ← hq2, ← hq3]; rfl, N0, rfl⟩
  · replace pre : Pth p e below S0 s₁ (mkF m 5 #[.val (.int x1), .unset] [(.int x1)]) := fun t k => pre t (by
      show Steps p.tables e below (s₁.setTop (mkF m 1 #[.val (.int x1), .unset] [(.int x1)])) t
      refine XS.ifNo X0.here hx rfl (hb hby d_nlz_1) rfl (XT.i0_gt_f z0) ?_
      show Steps p.tables e below (s₁.setTop (mkF m 4 #[.val (.int x1), .unset] [])) t
      refine XS.iloadN X0.here hx rfl (hb hby d_nlz_4) rfl ?_
      show Steps p.tables e below (s₁.setTop (mkF m 5 #[.val (.int x1), .unset] [(.int x1)])) t
      exact k)
    by_cases z1 : x1 = (0 : Int32)
    · replace pre : Pth p e below S0 s₁ (mkF m 14 #[.val (.int x1), .unset] [(.int (32 : Int32))]) := fun t k => pre t (by
        show Steps p.tables e below (s₁.setTop (mkF m 5 #[.val (.int x1), .unset] [(.int x1)])) t
        refine XS.ifNo X0.here hx rfl (hb hby d_nlz_5) rfl (XT.i0_ne_f z1) ?_
        show Steps p.tables e below (s₁.setTop (mkF m 8 #[.val (.int x1), .unset] [])) t
        refine XS.bipush X0.here hx rfl (hb hby d_nlz_8) ?_
        show Steps p.tables e below (s₁.setTop (mkF m 10 #[.val (.int x1), .unset] [(.int (32 : Int32))])) t
        refine XS.goto X0.here hx rfl (pc0 := 10) (pc' := 14) rfl (hb hby d_nlz_10) (by decide) (by decide) ?_
        show Steps p.tables e below (s₁.setTop (mkF m 14 #[.val (.int x1), .unset] [(.int (32 : Int32))])) t
        exact k)
      obtain ⟨fs, hr, hrun, hended, hW, hsame⟩ := X0.leave (v := some (.int (32 : Int32))) (fun h => by rw [Bd.returns] at h; cases h)
      subst hS0
      refine ⟨_, _, pre _ ?_, hrun, hended, _, _, rfl, ?_, ⟨_, rfl⟩, hW, hsame.mono (by decide) (by decide)⟩
      · exact retI X0 hx Bd.returns (hb hby d_nlz_14) hr
      · show Q_nlz Z x1 h0 n0 _ s₁.heap _
        rw [e0]
        exact ⟨by rw [own_nlz, if_neg z0, if_pos z1], N0, rfl⟩
    · replace pre : Pth p e below S0 s₁ (mkF m 14 #[.val (.int x1), .unset] [(.int (0 : Int32))]) := fun t k => pre t (by
        show Steps p.tables e below (s₁.setTop (mkF m 5 #[.val (.int x1), .unset] [(.int x1)])) t
        refine XS.ifYes X0.here hx rfl (pc0 := 5) (pc' := 13) rfl (hb hby d_nlz_5) rfl (XT.i0_ne_t z1) (by decide) (by decide) ?_
        show Steps p.tables e below (s₁.setTop (mkF m 13 #[.val (.int x1), .unset] [])) t
        refine XS.iconst X0.here hx rfl (hb hby d_nlz_13) ?_
        show Steps p.tables e below (s₁.setTop (mkF m 14 #[.val (.int x1), .unset] [(.int (0 : Int32))])) t
        exact k)
      obtain ⟨fs, hr, hrun, hended, hW, hsame⟩ := X0.leave (v := some (.int (0 : Int32))) (fun h => by rw [Bd.returns] at h; cases h)
      subst hS0
      refine ⟨_, _, pre _ ?_, hrun, hended, _, _, rfl, ?_, ⟨_, rfl⟩, hW, hsame.mono (by decide) (by decide)⟩
      · exact retI X0 hx Bd.returns (hb hby d_nlz_14) hr
      · show Q_nlz Z x1 h0 n0 _ s₁.heap _
        rw [e0]
        exact ⟨by rw [own_nlz, if_neg z0, if_neg z1], N0, rfl⟩
def Q_lnlz (Z : State) (x1 : Int64) (h0 : Heap) (n0 : Nat) (v : Option Value) (h : Heap) (L : List Loc) : Prop := v = some (.int (own_lnlz x1)) ∧ Fr n0 L ∧ h = h0
set_option maxRecDepth 65536 in
set_option maxHeartbeats 40000000 in
theorem rm_lnlz (l : Launch) (Z : State) (a0 : Array Value) (hw : ∀ d ∈ tables_1, d.before a0 Z = true) (ws : List Jvm.Cond) (x1 : Int64) (h0 : Heap) (n0 : Nat)  :
    MetFree l (⟨"java/lang/Long", "numberOfLeadingZeros", "(J)I"⟩ : MethodName) (head1 (Jvm.Cond.code (⟨"java/lang/Long", "numberOfLeadingZeros", "(J)I"⟩ : MethodName) jdk_35_method_48_code 3 (some .int) :: ws) ({ frames := 1, cells := 0, slots := 0, locals := 14 } : Room)) (fun a U => a = #[(.long x1)] ∧ Z.Warmed39 U.vm ∧ U.heap = h0) (fun _ _ _ _ _ => True) (fun _ U o U' => ∃ v L, o = .returned v ∧ Q_lnlz Z x1 h0 n0 v U'.heap L ∧ FrameEnd U o U' L ({ frames := 1, cells := 0, slots := 0, locals := 14 } : Room).cells ({ frames := 1, cells := 0, slots := 0, locals := 14 } : Room).slots) := by
  refine MetFree.of_bodySF (plainFor_of_name pn_java_lang_Long) hisR ?_
  intro p e s m args below meth c s₁ Bd hml0 hP hK
  obtain ⟨rfl, hZ, hh⟩ := hP
  have hx := Bd.exec
  have hby := Bd.bytes
  have hml : c.maxLocals = 3 := hml0
  have hown : s.vm.findClass "java/lang/Long" = some m.cls := findClass_of_methodNamed Bd.named
  have hnm := (name_of_methodNamed Bd.named Bd.method).1
  have X0 : Stand p l e ({ frames := 1, cells := 0, slots := 0, locals := 14 } : Room) s m #[(.long x1)] below meth c s₁ [] 0 0 := Stand.of_body Bd
  have e0 : s₁.heap = h0 := by rw [← hh, Bd.state]; rfl
  have N0 := Fr.nil n0
  obtain ⟨S0, hS0⟩ : ∃ S0, S0 = s₁.setTop (entryFrame m #[(.long x1)] 3) := ⟨_, rfl⟩
  have pre : Pth p e below S0 s₁ (mkF m 0 #[.val (.long x1), .second, .unset] []) := fun t k => by rw [hS0]; exact castTop (ef_lnlz m x1) k
  replace pre : Pth p e below S0 s₁ (mkF m 7 #[.val (.long x1), .second, .val (.int (((x1.toUInt64 >>> ((32 : Int32) &&& 0x3f).toInt64.toUInt64).toInt64).toInt32))] [(.int (((x1.toUInt64 >>> ((32 : Int32) &&& 0x3f).toInt64.toUInt64).toInt64).toInt32))]) := fun t k => pre t (by
    show Steps p.tables e below (s₁.setTop (mkF m 0 #[.val (.long x1), .second, .unset] [])) t
    refine XS.lloadN X0.here hx rfl (hb hby d_lnlz_0) rfl ?_
    show Steps p.tables e below (s₁.setTop (mkF m 1 #[.val (.long x1), .second, .unset] [(.long x1)])) t
    refine XS.bipush X0.here hx rfl (hb hby d_lnlz_1) ?_
    show Steps p.tables e below (s₁.setTop (mkF m 3 #[.val (.long x1), .second, .unset] [(.int (32 : Int32)), (.long x1)])) t
    refine XS.lushr X0.here hx rfl (hb hby d_lnlz_3) rfl ?_
    show Steps p.tables e below (s₁.setTop (mkF m 4 #[.val (.long x1), .second, .unset] [(.long ((x1.toUInt64 >>> ((32 : Int32) &&& 0x3f).toInt64.toUInt64).toInt64))])) t
    refine XS.l2i X0.here hx rfl (hb hby d_lnlz_4) rfl ?_
    show Steps p.tables e below (s₁.setTop (mkF m 5 #[.val (.long x1), .second, .unset] [(.int (((x1.toUInt64 >>> ((32 : Int32) &&& 0x3f).toInt64.toUInt64).toInt64).toInt32))])) t
    refine XS.istoreN X0.here hx rfl (hb hby d_lnlz_5) rfl (l' := #[.val (.long x1), .second, .val (.int (((x1.toUInt64 >>> ((32 : Int32) &&& 0x3f).toInt64.toUInt64).toInt64).toInt32))]) rfl ?_
    show Steps p.tables e below (s₁.setTop (mkF m 6 #[.val (.long x1), .second, .val (.int (((x1.toUInt64 >>> ((32 : Int32) &&& 0x3f).toInt64.toUInt64).toInt64).toInt32))] [])) t
    refine XS.iloadN X0.here hx rfl (hb hby d_lnlz_6) rfl ?_
    show Steps p.tables e below (s₁.setTop (mkF m 7 #[.val (.long x1), .second, .val (.int (((x1.toUInt64 >>> ((32 : Int32) &&& 0x3f).toInt64.toUInt64).toInt64).toInt32))] [(.int (((x1.toUInt64 >>> ((32 : Int32) &&& 0x3f).toInt64.toUInt64).toInt64).toInt32))])) t
    exact k)
  by_cases z1 : (((x1.toUInt64 >>> ((32 : Int32) &&& 0x3f).toInt64.toUInt64).toInt64).toInt32) = (0 : Int32)
  · replace pre : Pth p e below S0 s₁ (mkF m 14 #[.val (.long x1), .second, .val (.int (((x1.toUInt64 >>> ((32 : Int32) &&& 0x3f).toInt64.toUInt64).toInt64).toInt32))] [(.int (x1.toInt32)), (.int (32 : Int32))]) := fun t k => pre t (by
      show Steps p.tables e below (s₁.setTop (mkF m 7 #[.val (.long x1), .second, .val (.int (((x1.toUInt64 >>> ((32 : Int32) &&& 0x3f).toInt64.toUInt64).toInt64).toInt32))] [(.int (((x1.toUInt64 >>> ((32 : Int32) &&& 0x3f).toInt64.toUInt64).toInt64).toInt32))])) t
      refine XS.ifNo X0.here hx rfl (hb hby d_lnlz_7) rfl (XT.i0_ne_f z1) ?_
      show Steps p.tables e below (s₁.setTop (mkF m 10 #[.val (.long x1), .second, .val (.int (((x1.toUInt64 >>> ((32 : Int32) &&& 0x3f).toInt64.toUInt64).toInt64).toInt32))] [])) t
      refine XS.bipush X0.here hx rfl (hb hby d_lnlz_10) ?_
      show Steps p.tables e below (s₁.setTop (mkF m 12 #[.val (.long x1), .second, .val (.int (((x1.toUInt64 >>> ((32 : Int32) &&& 0x3f).toInt64.toUInt64).toInt64).toInt32))] [(.int (32 : Int32))])) t
      refine XS.lloadN X0.here hx rfl (hb hby d_lnlz_12) rfl ?_
      show Steps p.tables e below (s₁.setTop (mkF m 13 #[.val (.long x1), .second, .val (.int (((x1.toUInt64 >>> ((32 : Int32) &&& 0x3f).toInt64.toUInt64).toInt64).toInt32))] [(.long x1), (.int (32 : Int32))])) t
      refine XS.l2i X0.here hx rfl (hb hby d_lnlz_13) rfl ?_
      show Steps p.tables e below (s₁.setTop (mkF m 14 #[.val (.long x1), .second, .val (.int (((x1.toUInt64 >>> ((32 : Int32) &&& 0x3f).toInt64.toUInt64).toInt64).toInt32))] [(.int (x1.toInt32)), (.int (32 : Int32))])) t
      exact k)
    obtain ⟨_, _, ⟨T1, L1, k1, n1⟩, -, X1, ⟨Lc1, hQ1, l1, y1, z1⟩, st1⟩ := Jvm.LawKit.callS X0 hx (y := (⟨"java/lang/Integer", "numberOfLeadingZeros", "(I)I"⟩ : MethodName)) hown (mvT hZ (hw _ (List.mem_of_getElem? (i := 29) rfl))) (mvT hZ (hw _ (List.mem_of_getElem? (i := 30) rfl))) (mvT hZ (hw _ (List.mem_of_getElem? (i := 31) rfl))) (mvT hZ (hw _ (List.mem_of_getElem? (i := 32) rfl))) (by decide) (backOf (W := 1) (rm_nlz l Z a0 hw [] x1.toInt32 h0 n0) hZ (hw _ (List.mem_of_getElem? (i := 32) rfl)) (hw _ (List.mem_of_getElem? (i := 31) rfl)) (by decide) (by decide)) (g := (mkF m 14 #[.val (.long x1), .second, .val (.int (((x1.toUInt64 >>> ((32 : Int32) &&& 0x3f).toInt64.toUInt64).toInt64).toInt32))] [(.int (x1.toInt32)), (.int (32 : Int32))])) rfl (by rw [hml]; rfl) (argsL := [(.int (x1.toInt32))]) (rest := [(.int (32 : Int32))]) (lenOf pd__I_I rfl) rfl (by show 2 * 0 + _ ≤ _; exact Nat.le_of_eq rfl) (hb hby d_lnlz_14) (fun _ _ => ⟨rfl, e0, (by decide : 0 + 0 ≤ _), (by decide : 0 + 0 ≤ _)⟩)
    dsimp only [Pt.U, Pt.locs, Pt.cells, Pt.slots] at X1 l1 y1 z1 st1 hQ1
    subst l1 y1 z1
    obtain ⟨rfl, N1q, e1⟩ := hQ1
    have N1 := Fr.app N0 N1q
    replace pre : Pth p e below S0 T1 (mkF m 17 #[.val (.long x1), .second, .val (.int (((x1.toUInt64 >>> ((32 : Int32) &&& 0x3f).toInt64.toUInt64).toInt64).toInt32))] [(.int (own_nlz x1.toInt32)), (.int (32 : Int32))]) := fun t k => pre t (st1 _ k)
    replace pre : Pth p e below S0 T1 (mkF m 25 #[.val (.long x1), .second, .val (.int (((x1.toUInt64 >>> ((32 : Int32) &&& 0x3f).toInt64.toUInt64).toInt64).toInt32))] [(.int ((32 : Int32) + (own_nlz x1.toInt32)))]) := fun t k => pre t (by
      show Steps p.tables e below (T1.setTop (mkF m 17 #[.val (.long x1), .second, .val (.int (((x1.toUInt64 >>> ((32 : Int32) &&& 0x3f).toInt64.toUInt64).toInt64).toInt32))] [(.int (own_nlz x1.toInt32)), (.int (32 : Int32))])) t
      refine XS.iadd X1.here hx rfl (hb hby d_lnlz_17) rfl ?_
      show Steps p.tables e below (T1.setTop (mkF m 18 #[.val (.long x1), .second, .val (.int (((x1.toUInt64 >>> ((32 : Int32) &&& 0x3f).toInt64.toUInt64).toInt64).toInt32))] [(.int ((32 : Int32) + (own_nlz x1.toInt32)))])) t
      refine XS.goto X1.here hx rfl (pc0 := 18) (pc' := 25) rfl (hb hby d_lnlz_18) (by decide) (by decide) ?_
      show Steps p.tables e below (T1.setTop (mkF m 25 #[.val (.long x1), .second, .val (.int (((x1.toUInt64 >>> ((32 : Int32) &&& 0x3f).toInt64.toUInt64).toInt64).toInt32))] [(.int ((32 : Int32) + (own_nlz x1.toInt32)))])) t
      exact k)
    obtain ⟨fs, hr, hrun, hended, hW, hsame⟩ := X1.leave (v := some (.int ((32 : Int32) + (own_nlz x1.toInt32)))) (fun h => by rw [Bd.returns] at h; cases h)
    subst hS0
    refine ⟨_, _, pre _ ?_, hrun, hended, _, _, rfl, ?_, ⟨_, rfl⟩, hW, hsame.mono (by decide) (by decide)⟩
    · exact retI X1 hx Bd.returns (hb hby d_lnlz_25) hr
    · show Q_lnlz Z x1 h0 n0 _ T1.heap _
      rw [e1]
      exact ⟨by rw [own_lnlz, if_pos z1], N1, rfl⟩
  · replace pre : Pth p e below S0 s₁ (mkF m 22 #[.val (.long x1), .second, .val (.int (((x1.toUInt64 >>> ((32 : Int32) &&& 0x3f).toInt64.toUInt64).toInt64).toInt32))] [(.int (((x1.toUInt64 >>> ((32 : Int32) &&& 0x3f).toInt64.toUInt64).toInt64).toInt32))]) := fun t k => pre t (by
      show Steps p.tables e below (s₁.setTop (mkF m 7 #[.val (.long x1), .second, .val (.int (((x1.toUInt64 >>> ((32 : Int32) &&& 0x3f).toInt64.toUInt64).toInt64).toInt32))] [(.int (((x1.toUInt64 >>> ((32 : Int32) &&& 0x3f).toInt64.toUInt64).toInt64).toInt32))])) t
      refine XS.ifYes X0.here hx rfl (pc0 := 7) (pc' := 21) rfl (hb hby d_lnlz_7) rfl (XT.i0_ne_t z1) (by decide) (by decide) ?_
      show Steps p.tables e below (s₁.setTop (mkF m 21 #[.val (.long x1), .second, .val (.int (((x1.toUInt64 >>> ((32 : Int32) &&& 0x3f).toInt64.toUInt64).toInt64).toInt32))] [])) t
      refine XS.iloadN X0.here hx rfl (hb hby d_lnlz_21) rfl ?_
      show Steps p.tables e below (s₁.setTop (mkF m 22 #[.val (.long x1), .second, .val (.int (((x1.toUInt64 >>> ((32 : Int32) &&& 0x3f).toInt64.toUInt64).toInt64).toInt32))] [(.int (((x1.toUInt64 >>> ((32 : Int32) &&& 0x3f).toInt64.toUInt64).toInt64).toInt32))])) t
      exact k)
    obtain ⟨_, _, ⟨T2, L2, k2, n2⟩, -, X2, ⟨Lc2, hQ2, l2, y2, z2⟩, st2⟩ := Jvm.LawKit.callS X0 hx (y := (⟨"java/lang/Integer", "numberOfLeadingZeros", "(I)I"⟩ : MethodName)) hown (mvT hZ (hw _ (List.mem_of_getElem? (i := 29) rfl))) (mvT hZ (hw _ (List.mem_of_getElem? (i := 30) rfl))) (mvT hZ (hw _ (List.mem_of_getElem? (i := 31) rfl))) (mvT hZ (hw _ (List.mem_of_getElem? (i := 32) rfl))) (by decide) (backOf (W := 0) (rm_nlz l Z a0 hw [] (((x1.toUInt64 >>> ((32 : Int32) &&& 0x3f).toInt64.toUInt64).toInt64).toInt32) h0 n0) hZ (hw _ (List.mem_of_getElem? (i := 32) rfl)) (hw _ (List.mem_of_getElem? (i := 31) rfl)) (by decide) (by decide)) (g := (mkF m 22 #[.val (.long x1), .second, .val (.int (((x1.toUInt64 >>> ((32 : Int32) &&& 0x3f).toInt64.toUInt64).toInt64).toInt32))] [(.int (((x1.toUInt64 >>> ((32 : Int32) &&& 0x3f).toInt64.toUInt64).toInt64).toInt32))])) rfl (by rw [hml]; rfl) (argsL := [(.int (((x1.toUInt64 >>> ((32 : Int32) &&& 0x3f).toInt64.toUInt64).toInt64).toInt32))]) (rest := []) (lenOf pd__I_I rfl) rfl (by show 2 * 0 + _ ≤ _; exact Nat.le_of_eq rfl) (hb hby d_lnlz_22) (fun _ _ => ⟨rfl, e0, (by decide : 0 + 0 ≤ _), (by decide : 0 + 0 ≤ _)⟩)
    dsimp only [Pt.U, Pt.locs, Pt.cells, Pt.slots] at X2 l2 y2 z2 st2 hQ2
    subst l2 y2 z2
    obtain ⟨rfl, N2q, e2⟩ := hQ2
    have N2 := Fr.app N0 N2q
    replace pre : Pth p e below S0 T2 (mkF m 25 #[.val (.long x1), .second, .val (.int (((x1.toUInt64 >>> ((32 : Int32) &&& 0x3f).toInt64.toUInt64).toInt64).toInt32))] [(.int (own_nlz (((x1.toUInt64 >>> ((32 : Int32) &&& 0x3f).toInt64.toUInt64).toInt64).toInt32)))]) := fun t k => pre t (st2 _ k)
    obtain ⟨fs, hr, hrun, hended, hW, hsame⟩ := X2.leave (v := some (.int (own_nlz (((x1.toUInt64 >>> ((32 : Int32) &&& 0x3f).toInt64.toUInt64).toInt64).toInt32)))) (fun h => by rw [Bd.returns] at h; cases h)
    subst hS0
    refine ⟨_, _, pre _ ?_, hrun, hended, _, _, rfl, ?_, ⟨_, rfl⟩, hW, hsame.mono (by decide) (by decide)⟩
    · exact retI X2 hx Bd.returns (hb hby d_lnlz_25) hr
    · show Q_lnlz Z x1 h0 n0 _ T2.heap _
      rw [e2]
      exact ⟨by rw [own_lnlz, if_neg z1], N2, rfl⟩
def Q_fill (Z : State) (r1 : Addr) (x1 : Int64) (f : Nat → Value) (h0 : Heap) (n0 : Nat) (v : Option Value) (h : Heap) (L : List Loc) : Prop := v = none ∧ Fr n0 L ∧ Keep h0 h [r1] ∧ OFun Z h r1 .long 16 (fun _ => .long x1)
set_option maxRecDepth 65536 in
set_option maxHeartbeats 40000000 in
theorem rm_fill (l : Launch) (Z : State) (a0 : Array Value) (hw : ∀ d ∈ tables_1, d.before a0 Z = true) (ws : List Jvm.Cond) (r1 : Addr) (x1 : Int64) (f : Nat → Value) (h0 : Heap) (n0 : Nat) (gr : n0 ≤ r1) (Fa : OFun Z h0 r1 .long 16 f) :
    MetFree l (⟨"java/util/Arrays", "fill", "([JJ)V"⟩ : MethodName) (head1 (Jvm.Cond.code (⟨"java/util/Arrays", "fill", "([JJ)V"⟩ : MethodName) jdk_65_method_101_code 5 none :: ws) ({ frames := 0, cells := 0, slots := 0, locals := 0 } : Room)) (fun a U => a = #[(.ref r1), (.long x1)] ∧ Z.Warmed39 U.vm ∧ U.heap = h0) (fun _ _ _ _ _ => True) (fun _ U o U' => ∃ v L, o = .returned v ∧ Q_fill Z r1 x1 f h0 n0 v U'.heap L ∧ FrameEnd U o U' L ({ frames := 0, cells := 0, slots := 0, locals := 0 } : Room).cells ({ frames := 0, cells := 0, slots := 0, locals := 0 } : Room).slots) := by
  refine MetFree.of_bodySF (plainFor_of_name pn_java_util_Arrays) hisR ?_
  intro p e s m args below meth c s₁ Bd hml0 hP hK
  obtain ⟨rfl, hZ, hh⟩ := hP
  have hx := Bd.exec
  have hby := Bd.bytes
  have hml : c.maxLocals = 5 := hml0
  have hown : s.vm.findClass "java/util/Arrays" = some m.cls := findClass_of_methodNamed Bd.named
  have hnm := (name_of_methodNamed Bd.named Bd.method).1
  have X0 : Stand p l e ({ frames := 0, cells := 0, slots := 0, locals := 0 } : Room) s m #[(.ref r1), (.long x1)] below meth c s₁ [] 0 0 := Stand.of_body Bd
  have e0 : s₁.heap = h0 := by rw [← hh, Bd.state]; rfl
  have N0 := Fr.nil n0
  obtain ⟨S0, hS0⟩ : ∃ S0, S0 = s₁.setTop (entryFrame m #[(.ref r1), (.long x1)] 5) := ⟨_, rfl⟩
  have pre : Pth p e below S0 s₁ (mkF m 0 #[.val (.ref r1), .val (.long x1), .second, .unset, .unset] []) := fun t k => by rw [hS0]; exact castTop (ef_fill m r1 x1) k
  replace pre : Pth p e below S0 s₁ (mkF m 3 #[.val (.ref r1), .val (.long x1), .second, .val (.int (0 : Int32)), .unset] [(.ref r1)]) := fun t k => pre t (by
    show Steps p.tables e below (s₁.setTop (mkF m 0 #[.val (.ref r1), .val (.long x1), .second, .unset, .unset] [])) t
    refine XS.iconst X0.here hx rfl (hb hby d_fill_0) ?_
    show Steps p.tables e below (s₁.setTop (mkF m 1 #[.val (.ref r1), .val (.long x1), .second, .unset, .unset] [(.int (0 : Int32))])) t
    refine XS.istoreN X0.here hx rfl (hb hby d_fill_1) rfl (l' := #[.val (.ref r1), .val (.long x1), .second, .val (.int (0 : Int32)), .unset]) rfl ?_
    show Steps p.tables e below (s₁.setTop (mkF m 2 #[.val (.ref r1), .val (.long x1), .second, .val (.int (0 : Int32)), .unset] [])) t
    refine XS.aloadN X0.here hx rfl (hb hby d_fill_2) rfl rfl ?_
    show Steps p.tables e below (s₁.setTop (mkF m 3 #[.val (.ref r1), .val (.long x1), .second, .val (.int (0 : Int32)), .unset] [(.ref r1)])) t
    exact k)
  obtain ⟨cl3, Ar3, Sz3, -⟩ := id Fa
  have hln3 : cl3.slots.size.toInt32 = (16 : Int32) := (congrArg Nat.toInt32 Sz3).trans (rfl)
  replace pre : Pth p e below S0 s₁ (mkF m 6 #[.val (.ref r1), .val (.long x1), .second, .val (.int (0 : Int32)), .val (.int (16 : Int32))] []) := fun t k => pre t (by
    show Steps p.tables e below (s₁.setTop (mkF m 3 #[.val (.ref r1), .val (.long x1), .second, .val (.int (0 : Int32)), .unset] [(.ref r1)])) t
    refine X0.arraylength hx (by rw [e0]; exact Ar3.1) (State.isArrayOf_alike hZ.alike Ar3.2.1) (g := (mkF m 3 #[.val (.ref r1), .val (.long x1), .second, .val (.int (0 : Int32)), .unset] [(.ref r1)])) rfl rfl (hb hby d_fill_3) _ ?_
    rw [hln3]
    show Steps p.tables e below (s₁.setTop (mkF m 4 #[.val (.ref r1), .val (.long x1), .second, .val (.int (0 : Int32)), .unset] [(.int (16 : Int32))])) t
    refine XS.istore X0.here hx rfl (hb hby d_fill_4) rfl (l' := #[.val (.ref r1), .val (.long x1), .second, .val (.int (0 : Int32)), .val (.int (16 : Int32))]) rfl ?_
    show Steps p.tables e below (s₁.setTop (mkF m 6 #[.val (.ref r1), .val (.long x1), .second, .val (.int (0 : Int32)), .val (.int (16 : Int32))] [])) t
    exact k)
  have loop : ∀ (k i : Nat) (T : State) (locs : List Loc) (h : Heap), i + k = 16 → Stand p l e ({ frames := 0, cells := 0, slots := 0, locals := 0 } : Room) s m #[(.ref r1), (.long x1)] below meth c T locs 0 0 → T.heap = h → Fr n0 locs → Keep h0 h [r1] → OFun Z h r1 .long 16 (fun j => if j < i then .long x1 else f j) → Pth p e below S0 T (mkF m 6 #[.val (.ref r1), .val (.long x1), .second, .val (.int (Int32.ofNat i)), .val (.int (16 : Int32))] []) → ∃ (T' : State) (locs' : List Loc) (h' : Heap), Stand p l e ({ frames := 0, cells := 0, slots := 0, locals := 0 } : Room) s m #[(.ref r1), (.long x1)] below meth c T' locs' 0 0 ∧ T'.heap = h' ∧ Fr n0 locs' ∧ Keep h0 h' [r1] ∧ OFun Z h' r1 .long 16 (fun _ => .long x1) ∧ Pth p e below S0 T' (mkF m 22 #[.val (.ref r1), .val (.long x1), .second, .val (.int (Int32.ofNat 16)), .val (.int (16 : Int32))] []) := by
    intro k
    induction k with
    | zero =>
      intro i T locs h hk X eT N K F pre
      obtain rfl : i = 16 := by omega
      replace pre : Pth p e below S0 T (mkF m 22 #[.val (.ref r1), .val (.long x1), .second, .val (.int (Int32.ofNat 16)), .val (.int (16 : Int32))] []) := fun t k => pre t (by
        show Steps p.tables e below (T.setTop (mkF m 6 #[.val (.ref r1), .val (.long x1), .second, .val (.int (Int32.ofNat 16)), .val (.int (16 : Int32))] [])) t
        refine XS.iloadN X.here hx rfl (hb hby d_fill_6) rfl ?_
        show Steps p.tables e below (T.setTop (mkF m 7 #[.val (.ref r1), .val (.long x1), .second, .val (.int (Int32.ofNat 16)), .val (.int (16 : Int32))] [(.int (Int32.ofNat 16))])) t
        refine XS.iload X.here hx rfl (hb hby d_fill_7) rfl ?_
        show Steps p.tables e below (T.setTop (mkF m 9 #[.val (.ref r1), .val (.long x1), .second, .val (.int (Int32.ofNat 16)), .val (.int (16 : Int32))] [(.int (16 : Int32)), (.int (Int32.ofNat 16))])) t
        refine XS.icmpYes X.here hx rfl (pc0 := 9) (pc' := 22) rfl (hb hby d_fill_9) rfl (XT.ii_ge_t (by decide)) (by decide) (by decide) ?_
        show Steps p.tables e below (T.setTop (mkF m 22 #[.val (.ref r1), .val (.long x1), .second, .val (.int (Int32.ofNat 16)), .val (.int (16 : Int32))] [])) t
        exact k)
      exact ⟨T, locs, h, X, eT, N, K, F.congr fun j hj => if_pos hj, pre⟩
    | succ k ih =>
      intro i T locs h hk X eT N K F pre
      have hi : i < 16 := by omega
      have hlt : (Int32.ofNat i) < (16 : Int32) := by rw [Int32.lt_iff_toInt_lt, own_ix hi]; have z : (16 : Int32).toInt = 16 := rfl; omega
      replace pre : Pth p e below S0 T (mkF m 15 #[.val (.ref r1), .val (.long x1), .second, .val (.int (Int32.ofNat i)), .val (.int (16 : Int32))] [(.long x1), (.int (Int32.ofNat i)), (.ref r1)]) := fun t k => pre t (by
        show Steps p.tables e below (T.setTop (mkF m 6 #[.val (.ref r1), .val (.long x1), .second, .val (.int (Int32.ofNat i)), .val (.int (16 : Int32))] [])) t
        refine XS.iloadN X.here hx rfl (hb hby d_fill_6) rfl ?_
        show Steps p.tables e below (T.setTop (mkF m 7 #[.val (.ref r1), .val (.long x1), .second, .val (.int (Int32.ofNat i)), .val (.int (16 : Int32))] [(.int (Int32.ofNat i))])) t
        refine XS.iload X.here hx rfl (hb hby d_fill_7) rfl ?_
        show Steps p.tables e below (T.setTop (mkF m 9 #[.val (.ref r1), .val (.long x1), .second, .val (.int (Int32.ofNat i)), .val (.int (16 : Int32))] [(.int (16 : Int32)), (.int (Int32.ofNat i))])) t
        refine XS.icmpNo X.here hx rfl (hb hby d_fill_9) rfl (XT.ii_ge_f hlt) ?_
        show Steps p.tables e below (T.setTop (mkF m 12 #[.val (.ref r1), .val (.long x1), .second, .val (.int (Int32.ofNat i)), .val (.int (16 : Int32))] [])) t
        refine XS.aloadN X.here hx rfl (hb hby d_fill_12) rfl rfl ?_
        show Steps p.tables e below (T.setTop (mkF m 13 #[.val (.ref r1), .val (.long x1), .second, .val (.int (Int32.ofNat i)), .val (.int (16 : Int32))] [(.ref r1)])) t
        refine XS.iloadN X.here hx rfl (hb hby d_fill_13) rfl ?_
        show Steps p.tables e below (T.setTop (mkF m 14 #[.val (.ref r1), .val (.long x1), .second, .val (.int (Int32.ofNat i)), .val (.int (16 : Int32))] [(.int (Int32.ofNat i)), (.ref r1)])) t
        refine XS.lloadN X.here hx rfl (hb hby d_fill_14) rfl ?_
        show Steps p.tables e below (T.setTop (mkF m 15 #[.val (.ref r1), .val (.long x1), .second, .val (.int (Int32.ofNat i)), .val (.int (16 : Int32))] [(.long x1), (.int (Int32.ofNat i)), (.ref r1)])) t
        exact k)
      obtain ⟨cl4, Ar4, Sz4, -⟩ := id F
      obtain ⟨T4, h4, X4, e4, W4, st4⟩ := stJ X hx hZ eT Ar4 (j := (Int32.ofNat i)) (by rw [Sz4]; exact (own_in (own_ix hi) hi)) (g := (mkF m 15 #[.val (.ref r1), .val (.long x1), .second, .val (.int (Int32.ofNat i)), .val (.int (16 : Int32))] [(.long x1), (.int (Int32.ofNat i)), (.ref r1)])) rfl rfl (hb hby d_fill_15)
      have F4 := OFun.set F W4
      have N4 := Fr.snoc X4 N gr
      replace pre : Pth p e below S0 T4 (mkF m 16 #[.val (.ref r1), .val (.long x1), .second, .val (.int (Int32.ofNat i)), .val (.int (16 : Int32))] []) := fun t k => pre t (st4 _ k)
      replace pre : Pth p e below S0 T4 (mkF m 6 #[.val (.ref r1), .val (.long x1), .second, .val (.int ((Int32.ofNat i) + (1 : Int32))), .val (.int (16 : Int32))] []) := fun t k => pre t (by
        show Steps p.tables e below (T4.setTop (mkF m 16 #[.val (.ref r1), .val (.long x1), .second, .val (.int (Int32.ofNat i)), .val (.int (16 : Int32))] [])) t
        refine XS.iinc X4.here hx rfl (hb hby d_fill_16) rfl (l' := #[.val (.ref r1), .val (.long x1), .second, .val (.int ((Int32.ofNat i) + (1 : Int32))), .val (.int (16 : Int32))]) rfl ?_
        show Steps p.tables e below (T4.setTop (mkF m 19 #[.val (.ref r1), .val (.long x1), .second, .val (.int ((Int32.ofNat i) + (1 : Int32))), .val (.int (16 : Int32))] [])) t
        refine XS.goto X4.here hx rfl (pc0 := 19) (pc' := 6) rfl (hb hby d_fill_19) (by decide) (by decide) ?_
        show Steps p.tables e below (T4.setTop (mkF m 6 #[.val (.ref r1), .val (.long x1), .second, .val (.int ((Int32.ofNat i) + (1 : Int32))), .val (.int (16 : Int32))] [])) t
        exact k)
      rw [← inc_ofNat] at pre
      refine ih (i + 1) _ _ _ (by omega) X4 e4 N4 (K.wr W4 (Or.inl (List.mem_of_getElem? (i := 0) rfl))) (F4.congr fun j hj => ?_) pre
      rw [own_cl (own_ix hi)]
      by_cases q : j = i
      · rw [if_pos q, if_pos (by omega)]
      · rw [if_neg q]
        by_cases q2 : j < i
        · rw [if_pos q2, if_pos (by omega)]
        · rw [if_neg q2, if_neg (by omega)]
  obtain ⟨T, locs, h, X, eT, N, K, F, pre⟩ := loop 16 0 _ _ _ rfl X0 e0 N0 (Keep.refl _ _) (Fa.congr fun j _ => (if_neg (Nat.not_lt_zero j)).symm) pre
  obtain ⟨fs, hr, hrun, hended, hW, hsame⟩ := X.leave (v := none) (fun _ => rfl)
  subst hS0
  refine ⟨_, _, pre _ ?_, hrun, hended, _, _, rfl, ?_, ⟨_, rfl⟩, hW, hsame.mono (by decide) (by decide)⟩
  · exact X.returnOut hx Bd.returns (hb hby d_fill_22) hr
  · show Q_fill Z r1 x1 f h0 n0 _ T.heap _
    rw [eT]
    exact ⟨rfl, N, K, F⟩
def Q_al (Z : State) (a1 : Addr) (p1 : Int32) (h0 : Heap) (n0 : Nat) (v : Option Value) (h : Heap) (L : List Loc) : Prop := v = none ∧ Fr n0 L ∧ h0.size ≤ h.size ∧ ∃ rk rv, n0 ≤ rk ∧ n0 ≤ rv ∧ OMap Z h a1 rk rv 0 (fun _ => -1) (fun _ => 0)
set_option maxRecDepth 65536 in
set_option maxHeartbeats 40000000 in
theorem rm_al (l : Launch) (Z : State) (a0 : Array Value) (hw : ∀ d ∈ tables_1, d.before a0 Z = true) (ws : List Jvm.Cond) (a1 : Addr) (p1 : Int32) (h0 : Heap) (n0 : Nat) (Z0 : n0 ≤ h0.size) (hp : p1 = 16) (ga : n0 ≤ a1) (Ea : Exa Z h0 a1 "com/example/signalbox/signalbox/history/LongIntMap") (F1 : Fld Z h0 a1 "com/example/signalbox/signalbox/history/LongIntMap" "keys" "[J" .null) (F2 : Fld Z h0 a1 "com/example/signalbox/signalbox/history/LongIntMap" "values" "[I" .null) (F3 : Fld Z h0 a1 "com/example/signalbox/signalbox/history/LongIntMap" "shift" "I" (.int 0)) (F4 : Fld Z h0 a1 "com/example/signalbox/signalbox/history/LongIntMap" "size" "I" (.int 0)) :
    MetFree l (⟨"com/example/signalbox/signalbox/history/LongIntMap", "allocate", "(I)V"⟩ : MethodName) (head1 (Jvm.Cond.code (⟨"com/example/signalbox/signalbox/history/LongIntMap", "allocate", "(I)V"⟩ : MethodName) prog_69_method_6_code 2 none :: ws) ({ frames := 2, cells := 2, slots := 32, locals := 32 } : Room)) (fun a U => a = #[(.ref a1), (.int p1)] ∧ Z.Warmed39 U.vm ∧ U.heap = h0) (fun _ _ _ _ _ => True) (fun _ U o U' => ∃ v L, o = .returned v ∧ Q_al Z a1 p1 h0 n0 v U'.heap L ∧ FrameEnd U o U' L ({ frames := 2, cells := 2, slots := 32, locals := 32 } : Room).cells ({ frames := 2, cells := 2, slots := 32, locals := 32 } : Room).slots) := by
  refine MetFree.of_bodySF (plainFor_of_name pn_com_example_signalbox_signalbox_history_LongIntMap) hisR ?_
  intro p e s m args below meth c s₁ Bd hml0 hP hK
  obtain ⟨rfl, hZ, hh⟩ := hP
  have hx := Bd.exec
  have hby := Bd.bytes
  have hml : c.maxLocals = 2 := hml0
  have hown : s.vm.findClass "com/example/signalbox/signalbox/history/LongIntMap" = some m.cls := findClass_of_methodNamed Bd.named
  have hnm := (name_of_methodNamed Bd.named Bd.method).1
  have X0 : Stand p l e ({ frames := 2, cells := 2, slots := 32, locals := 32 } : Room) s m #[(.ref a1), (.int p1)] below meth c s₁ [] 0 0 := Stand.of_body Bd
  have e0 : s₁.heap = h0 := by rw [← hh, Bd.state]; rfl
  have N0 := Fr.nil n0
  obtain ⟨S0, hS0⟩ : ∃ S0, S0 = s₁.setTop (entryFrame m #[(.ref a1), (.int p1)] 2) := ⟨_, rfl⟩
  have pre : Pth p e below S0 s₁ (mkF m 0 #[.val (.ref a1), .val (.int p1)] []) := fun t k => by rw [hS0]; exact castTop (ef_al m a1 p1) k
  have hp16 : p1.toNatClampNeg = 16 := by rw [hp]; rfl
  replace pre : Pth p e below S0 s₁ (mkF m 2 #[.val (.ref a1), .val (.int p1)] [(.int p1), (.ref a1)]) := fun t k => pre t (by
    show Steps p.tables e below (s₁.setTop (mkF m 0 #[.val (.ref a1), .val (.int p1)] [])) t
    refine XS.aloadN X0.here hx rfl (hb hby d_al_0) rfl rfl ?_
    show Steps p.tables e below (s₁.setTop (mkF m 1 #[.val (.ref a1), .val (.int p1)] [(.ref a1)])) t
    refine XS.iloadN X0.here hx rfl (hb hby d_al_1) rfl ?_
    show Steps p.tables e below (s₁.setTop (mkF m 2 #[.val (.ref a1), .val (.int p1)] [(.int p1), (.ref a1)])) t
    exact k)
  obtain ⟨T5, h5, k5, X5, e5, E5, A5, st5⟩ := newP X0 hx hZ (hw _ (List.mem_of_getElem? (i := 14) rfl)) e0 (g := (mkF m 2 #[.val (.ref a1), .val (.int p1)] [(.int p1), (.ref a1)])) rfl (hb hby d_al_2) rfl (by rw [hp]; decide) (cap := 16) (by rw [hp16]; exact Nat.le_refl _) (by decide) (by decide) (by decide)
  obtain ⟨b5, g5⟩ : ∃ z, z = h0.size := ⟨_, rfl⟩
  rw [← g5] at A5 st5
  have F5 := OFun.new A5
  replace pre : Pth p e below S0 T5 (mkF m 4 #[.val (.ref a1), .val (.int p1)] [(.ref b5), (.ref a1)]) := fun t k => pre t (st5 _ k)
  rw [hp16] at F5
  have ltA : a1 < h0.size := Ea.lt
  have ne1 : a1 ≠ b5 := by rw [g5]; exact Nat.ne_of_lt ltA
  have gk : n0 ≤ b5 := by rw [g5]; exact Z0
  have F1a := F1.ext E5
  have F2a := F2.ext E5
  have F3a := F3.ext E5
  have F4a := F4.ext E5
  have Ea1 := Ea.ext E5
  obtain ⟨T6, h6, X6, e6, W6, st6⟩ := putF X5 hx hZ hown (host := "") (Or.inl (hw _ (List.mem_of_getElem? (i := 15) rfl))) Via.refl e5 F1a Ea1 (Or.inl (hw _ (List.mem_of_getElem? (i := 16) rfl))) (hw _ (List.mem_of_getElem? (i := 2) rfl)) (ty := (.array .long)) (by decide) rfl rfl (g := (mkF m 4 #[.val (.ref a1), .val (.int p1)] [(.ref b5), (.ref a1)])) rfl rfl (hb hby d_al_4)
  have N6 := Fr.snoc X6 N0 ga
  replace pre : Pth p e below S0 T6 (mkF m 7 #[.val (.ref a1), .val (.int p1)] []) := fun t k => pre t (st6 _ k)
  have F1b := F1a.same W6
  have F2b := F2a.other W6 (Or.inr (slot_ne (Or.inl (hw _ (List.mem_of_getElem? (i := 24) rfl))) (Or.inl (hw _ (List.mem_of_getElem? (i := 16) rfl))) (by decide) (t := (.array .int)) (t' := (.array .long)) (by decide) (by decide)))
  have F3b := F3a.other W6 (Or.inr (slot_ne (Or.inl (hw _ (List.mem_of_getElem? (i := 35) rfl))) (Or.inl (hw _ (List.mem_of_getElem? (i := 16) rfl))) (by decide) (t := .int) (t' := (.array .long)) (by decide) (by decide)))
  have F4b := F4a.other W6 (Or.inr (slot_ne (Or.inl (hw _ (List.mem_of_getElem? (i := 47) rfl))) (Or.inl (hw _ (List.mem_of_getElem? (i := 16) rfl))) (by decide) (t := .int) (t' := (.array .long)) (by decide) (by decide)))
  have Eb := Ea1.wr W6
  have Kb := F5.other W6 ne1.symm
  replace pre : Pth p e below S0 T6 (mkF m 8 #[.val (.ref a1), .val (.int p1)] [(.ref a1)]) := fun t k => pre t (by
    show Steps p.tables e below (T6.setTop (mkF m 7 #[.val (.ref a1), .val (.int p1)] [])) t
    refine XS.aloadN X6.here hx rfl (hb hby d_al_7) rfl rfl ?_
    show Steps p.tables e below (T6.setTop (mkF m 8 #[.val (.ref a1), .val (.int p1)] [(.ref a1)])) t
    exact k)
  obtain ⟨T7, X7, e7, st7⟩ := getF X6 hx hZ hown (host := "") (Or.inl (hw _ (List.mem_of_getElem? (i := 15) rfl))) Via.refl e6 F1b (g := (mkF m 8 #[.val (.ref a1), .val (.int p1)] [(.ref a1)])) rfl rfl (hb hby d_al_8)
  replace pre : Pth p e below S0 T7 (mkF m 11 #[.val (.ref a1), .val (.int p1)] [(.ref b5)]) := fun t k => pre t (st7 _ k)
  replace pre : Pth p e below S0 T7 (mkF m 14 #[.val (.ref a1), .val (.int p1)] [(.long (-1 : Int64)), (.ref b5)]) := fun t k => pre t (by
    show Steps p.tables e below (T7.setTop (mkF m 11 #[.val (.ref a1), .val (.int p1)] [(.ref b5)])) t
    refine X7.ldc2Long hx hown (mvT hZ (hw _ (List.mem_of_getElem? (i := 17) rfl))) (g := (mkF m 11 #[.val (.ref a1), .val (.int p1)] [(.ref b5)])) rfl (hb hby d_al_11) _ ?_
    show Steps p.tables e below (T7.setTop (mkF m 14 #[.val (.ref a1), .val (.int p1)] [(.long (-1 : Int64)), (.ref b5)])) t
    exact k)
  obtain ⟨_, _, ⟨T8, L8, k8, n8⟩, -, X8, ⟨Lc8, hQ8, l8, y8, z8⟩, st8⟩ := Jvm.LawKit.callS X7 hx (y := (⟨"java/util/Arrays", "fill", "([JJ)V"⟩ : MethodName)) hown (mvT hZ (hw _ (List.mem_of_getElem? (i := 18) rfl))) (mvT hZ (hw _ (List.mem_of_getElem? (i := 19) rfl))) (mvT hZ (hw _ (List.mem_of_getElem? (i := 20) rfl))) (mvT hZ (hw _ (List.mem_of_getElem? (i := 21) rfl))) (by decide) (backOf (W := 0) (rm_fill l Z a0 hw [] b5 (-1 : Int64) _ h6 n0 gk Kb) hZ (hw _ (List.mem_of_getElem? (i := 21) rfl)) (hw _ (List.mem_of_getElem? (i := 20) rfl)) (by decide) (by decide)) (g := (mkF m 14 #[.val (.ref a1), .val (.int p1)] [(.long (-1 : Int64)), (.ref b5)])) rfl (by rw [hml]; rfl) (argsL := [(.ref b5), (.long (-1 : Int64))]) (rest := []) (lenOf pd___JJ_V rfl) rfl (by show 2 * 0 + _ ≤ _; exact Nat.le_of_eq rfl) (hb hby d_al_14) (fun _ _ => ⟨rfl, e7, (by decide : 1 + 0 ≤ _), (by decide : 16 + 0 ≤ _)⟩)
  dsimp only [Pt.U, Pt.locs, Pt.cells, Pt.slots] at X8 l8 y8 z8 st8 hQ8
  subst l8 y8 z8
  obtain ⟨rfl, N8q, K8, Kc⟩ := hQ8
  have N8 := Fr.app N6 N8q
  replace pre : Pth p e below S0 T8 (mkF m 17 #[.val (.ref a1), .val (.int p1)] []) := fun t k => pre t (st8 _ k)
  have F1c := F1b.keep K8 (ninS ne1 nin0)
  have F2c := F2b.keep K8 (ninS ne1 nin0)
  have F3c := F3b.keep K8 (ninS ne1 nin0)
  have F4c := F4b.keep K8 (ninS ne1 nin0)
  have Ec := Eb.keep K8
  replace pre : Pth p e below S0 T8 (mkF m 19 #[.val (.ref a1), .val (.int p1)] [(.int p1), (.ref a1)]) := fun t k => pre t (by
    show Steps p.tables e below (T8.setTop (mkF m 17 #[.val (.ref a1), .val (.int p1)] [])) t
    refine XS.aloadN X8.here hx rfl (hb hby d_al_17) rfl rfl ?_
    show Steps p.tables e below (T8.setTop (mkF m 18 #[.val (.ref a1), .val (.int p1)] [(.ref a1)])) t
    refine XS.iloadN X8.here hx rfl (hb hby d_al_18) rfl ?_
    show Steps p.tables e below (T8.setTop (mkF m 19 #[.val (.ref a1), .val (.int p1)] [(.int p1), (.ref a1)])) t
    exact k)
  obtain ⟨T9, h9, k9, X9, e9, E9, A9, st9⟩ := newP X8 hx hZ (hw _ (List.mem_of_getElem? (i := 22) rfl)) rfl (g := (mkF m 19 #[.val (.ref a1), .val (.int p1)] [(.int p1), (.ref a1)])) rfl (hb hby d_al_19) rfl (by rw [hp]; decide) (cap := 16) (by rw [hp16]; exact Nat.le_refl _) (by decide) (by decide) (by decide)
  obtain ⟨b9, g9⟩ : ∃ z, z = T8.heap.size := ⟨_, rfl⟩
  rw [← g9] at A9 st9
  have F9 := OFun.new A9
  replace pre : Pth p e below S0 T9 (mkF m 21 #[.val (.ref a1), .val (.int p1)] [(.ref b9), (.ref a1)]) := fun t k => pre t (st9 _ k)
  rw [hp16] at F9
  have szA : h0.size ≤ T8.heap.size := Nat.le_trans E5.1 (Nat.le_trans (Nat.le_of_eq W6.size.symm) K8.1)
  have ne2 : a1 ≠ b9 := by rw [g9]; exact Nat.ne_of_lt Ec.lt
  have ne3 : b5 ≠ b9 := by rw [g9]; exact Nat.ne_of_lt Kc.lt
  have gv : n0 ≤ b9 := by rw [g9]; exact Nat.le_trans Z0 szA
  have F1d := F1c.ext E9
  have F2d := F2c.ext E9
  have F3d := F3c.ext E9
  have F4d := F4c.ext E9
  have Ed := Ec.ext E9
  have Kd := Kc.ext E9
  obtain ⟨T10, h10, X10, e10, W10, st10⟩ := putF X9 hx hZ hown (host := "") (Or.inl (hw _ (List.mem_of_getElem? (i := 23) rfl))) Via.refl e9 F2d Ed (Or.inl (hw _ (List.mem_of_getElem? (i := 24) rfl))) (hw _ (List.mem_of_getElem? (i := 2) rfl)) (ty := (.array .int)) (by decide) rfl rfl (g := (mkF m 21 #[.val (.ref a1), .val (.int p1)] [(.ref b9), (.ref a1)])) rfl rfl (hb hby d_al_21)
  have N10 := Fr.snoc X10 N8 ga
  replace pre : Pth p e below S0 T10 (mkF m 24 #[.val (.ref a1), .val (.int p1)] []) := fun t k => pre t (st10 _ k)
  have F2e := F2d.same W10
  have F1e := F1d.other W10 (Or.inr (slot_ne (Or.inl (hw _ (List.mem_of_getElem? (i := 16) rfl))) (Or.inl (hw _ (List.mem_of_getElem? (i := 24) rfl))) (by decide) (t := (.array .long)) (t' := (.array .int)) (by decide) (by decide)))
  have F3e := F3d.other W10 (Or.inr (slot_ne (Or.inl (hw _ (List.mem_of_getElem? (i := 35) rfl))) (Or.inl (hw _ (List.mem_of_getElem? (i := 24) rfl))) (by decide) (t := .int) (t' := (.array .int)) (by decide) (by decide)))
  have F4e := F4d.other W10 (Or.inr (slot_ne (Or.inl (hw _ (List.mem_of_getElem? (i := 47) rfl))) (Or.inl (hw _ (List.mem_of_getElem? (i := 24) rfl))) (by decide) (t := .int) (t' := (.array .int)) (by decide) (by decide)))
  have Ee := Ed.wr W10
  have Ke := Kd.other W10 ne1.symm
  have Ve := F9.other W10 ne2.symm
  replace pre : Pth p e below S0 T10 (mkF m 27 #[.val (.ref a1), .val (.int p1)] [(.long (p1.toInt64)), (.ref a1)]) := fun t k => pre t (by
    show Steps p.tables e below (T10.setTop (mkF m 24 #[.val (.ref a1), .val (.int p1)] [])) t
    refine XS.aloadN X10.here hx rfl (hb hby d_al_24) rfl rfl ?_
    show Steps p.tables e below (T10.setTop (mkF m 25 #[.val (.ref a1), .val (.int p1)] [(.ref a1)])) t
    refine XS.iloadN X10.here hx rfl (hb hby d_al_25) rfl ?_
    show Steps p.tables e below (T10.setTop (mkF m 26 #[.val (.ref a1), .val (.int p1)] [(.int p1), (.ref a1)])) t
    refine XS.i2l X10.here hx rfl (hb hby d_al_26) rfl ?_
    show Steps p.tables e below (T10.setTop (mkF m 27 #[.val (.ref a1), .val (.int p1)] [(.long (p1.toInt64)), (.ref a1)])) t
    exact k)
  obtain ⟨_, _, ⟨T11, L11, k11, n11⟩, -, X11, ⟨Lc11, hQ11, l11, y11, z11⟩, st11⟩ := Jvm.LawKit.callS X10 hx (y := (⟨"java/lang/Long", "numberOfLeadingZeros", "(J)I"⟩ : MethodName)) hown (mvT hZ (hw _ (List.mem_of_getElem? (i := 25) rfl))) (mvT hZ (hw _ (List.mem_of_getElem? (i := 26) rfl))) (mvT hZ (hw _ (List.mem_of_getElem? (i := 27) rfl))) (mvT hZ (hw _ (List.mem_of_getElem? (i := 28) rfl))) (by decide) (backOf (W := 1) (rm_lnlz l Z a0 hw [] p1.toInt64 h10 n0) hZ (hw _ (List.mem_of_getElem? (i := 28) rfl)) (hw _ (List.mem_of_getElem? (i := 27) rfl)) (by decide) (by decide)) (g := (mkF m 27 #[.val (.ref a1), .val (.int p1)] [(.long (p1.toInt64)), (.ref a1)])) rfl (by rw [hml]; rfl) (argsL := [(.long (p1.toInt64))]) (rest := [(.ref a1)]) (lenOf pd__J_I rfl) rfl (by show 2 * 0 + _ ≤ _; exact Nat.le_of_eq rfl) (hb hby d_al_27) (fun _ _ => ⟨rfl, e10, (by decide : 2 + 0 ≤ _), (by decide : 32 + 0 ≤ _)⟩)
  dsimp only [Pt.U, Pt.locs, Pt.cells, Pt.slots] at X11 l11 y11 z11 st11 hQ11
  subst l11 y11 z11
  obtain ⟨rfl, N11q, e11⟩ := hQ11
  have N11 := Fr.app N10 N11q
  replace pre : Pth p e below S0 T11 (mkF m 30 #[.val (.ref a1), .val (.int p1)] [(.int (own_lnlz p1.toInt64)), (.ref a1)]) := fun t k => pre t (st11 _ k)
  replace pre : Pth p e below S0 T11 (mkF m 32 #[.val (.ref a1), .val (.int p1)] [(.int ((own_lnlz p1.toInt64) + (1 : Int32))), (.ref a1)]) := fun t k => pre t (by
    show Steps p.tables e below (T11.setTop (mkF m 30 #[.val (.ref a1), .val (.int p1)] [(.int (own_lnlz p1.toInt64)), (.ref a1)])) t
    refine XS.iconst X11.here hx rfl (hb hby d_al_30) ?_
    show Steps p.tables e below (T11.setTop (mkF m 31 #[.val (.ref a1), .val (.int p1)] [(.int (1 : Int32)), (.int (own_lnlz p1.toInt64)), (.ref a1)])) t
    refine XS.iadd X11.here hx rfl (hb hby d_al_31) rfl ?_
    show Steps p.tables e below (T11.setTop (mkF m 32 #[.val (.ref a1), .val (.int p1)] [(.int ((own_lnlz p1.toInt64) + (1 : Int32))), (.ref a1)])) t
    exact k)
  obtain ⟨T12, h12, X12, e12, W12, st12⟩ := putF X11 hx hZ hown (host := "") (Or.inl (hw _ (List.mem_of_getElem? (i := 34) rfl))) Via.refl e11 F3e Ee (Or.inl (hw _ (List.mem_of_getElem? (i := 35) rfl))) (hw _ (List.mem_of_getElem? (i := 2) rfl)) (ty := .int) (by decide) rfl rfl (g := (mkF m 32 #[.val (.ref a1), .val (.int p1)] [(.int ((own_lnlz p1.toInt64) + (1 : Int32))), (.ref a1)])) rfl rfl (hb hby d_al_32)
  have N12 := Fr.snoc X12 N11 ga
  replace pre : Pth p e below S0 T12 (mkF m 35 #[.val (.ref a1), .val (.int p1)] []) := fun t k => pre t (st12 _ k)
  have F3f := F3e.same W12
  rw [hp, own_lz16] at F3f
  have F1f := F1e.other W12 (Or.inr (slot_ne (Or.inl (hw _ (List.mem_of_getElem? (i := 16) rfl))) (Or.inl (hw _ (List.mem_of_getElem? (i := 35) rfl))) (by decide) (t := (.array .long)) (t' := .int) (by decide) (by decide)))
  have F2f := F2e.other W12 (Or.inr (slot_ne (Or.inl (hw _ (List.mem_of_getElem? (i := 24) rfl))) (Or.inl (hw _ (List.mem_of_getElem? (i := 35) rfl))) (by decide) (t := (.array .int)) (t' := .int) (by decide) (by decide)))
  have F4f := F4e.other W12 (Or.inr (slot_ne (Or.inl (hw _ (List.mem_of_getElem? (i := 47) rfl))) (Or.inl (hw _ (List.mem_of_getElem? (i := 35) rfl))) (by decide) (t := .int) (t' := .int) (by decide) (by decide)))
  obtain ⟨fs, hr, hrun, hended, hW, hsame⟩ := X12.leave (v := none) (fun _ => rfl)
  subst hS0
  refine ⟨_, _, pre _ ?_, hrun, hended, _, _, rfl, ?_, ⟨_, rfl⟩, hW, hsame.mono (by decide) (by decide)⟩
  · exact X12.returnOut hx Bd.returns (hb hby d_al_35) hr
  · show Q_al Z a1 p1 h0 n0 _ T12.heap _
    rw [e12]
    exact ⟨rfl, N12, by rw [W12.size, W10.size]; exact Nat.le_trans szA E9.1, b5, b9, gk, gv, F1f, F2f, F3f, F4f, Ee.wr W12, Ke.other W12 ne1.symm, Ve.other W12 ne2.symm, ne1, ne2, ne3⟩
def Q_ini (Z : State) (a1 : Addr) (h0 : Heap) (n0 : Nat) (v : Option Value) (h : Heap) (L : List Loc) : Prop := v = none ∧ Fr n0 L ∧ h0.size ≤ h.size ∧ ∃ rk rv, n0 ≤ rk ∧ n0 ≤ rv ∧ OMap Z h a1 rk rv 0 (fun _ => -1) (fun _ => 0)
set_option maxRecDepth 65536 in
set_option maxHeartbeats 40000000 in
theorem rm_ini (l : Launch) (Z : State) (a0 : Array Value) (hw : ∀ d ∈ tables_1, d.before a0 Z = true) (ws : List Jvm.Cond) (a1 : Addr) (h0 : Heap) (n0 : Nat) (Z0 : n0 ≤ h0.size) (ga : n0 ≤ a1) (Ea : Exa Z h0 a1 "com/example/signalbox/signalbox/history/LongIntMap") (F1 : Fld Z h0 a1 "com/example/signalbox/signalbox/history/LongIntMap" "keys" "[J" .null) (F2 : Fld Z h0 a1 "com/example/signalbox/signalbox/history/LongIntMap" "values" "[I" .null) (F3 : Fld Z h0 a1 "com/example/signalbox/signalbox/history/LongIntMap" "shift" "I" (.int 0)) (F4 : Fld Z h0 a1 "com/example/signalbox/signalbox/history/LongIntMap" "size" "I" (.int 0)) :
    MetFree l (⟨"com/example/signalbox/signalbox/history/LongIntMap", "<init>", "()V"⟩ : MethodName) (head1 (Jvm.Cond.code (⟨"com/example/signalbox/signalbox/history/LongIntMap", "<init>", "()V"⟩ : MethodName) prog_69_method_1_code 1 none :: ws) ({ frames := 3, cells := 2, slots := 32, locals := 45 } : Room)) (fun a U => a = #[(.ref a1)] ∧ Z.Warmed39 U.vm ∧ U.heap = h0) (fun _ _ _ _ _ => True) (fun _ U o U' => ∃ v L, o = .returned v ∧ Q_ini Z a1 h0 n0 v U'.heap L ∧ FrameEnd U o U' L ({ frames := 3, cells := 2, slots := 32, locals := 45 } : Room).cells ({ frames := 3, cells := 2, slots := 32, locals := 45 } : Room).slots) := by
  refine MetFree.of_bodySF (plainFor_of_name pn_com_example_signalbox_signalbox_history_LongIntMap) hisR ?_
  intro p e s m args below meth c s₁ Bd hml0 hP hK
  obtain ⟨rfl, hZ, hh⟩ := hP
  have hx := Bd.exec
  have hby := Bd.bytes
  have hml : c.maxLocals = 1 := hml0
  have hown : s.vm.findClass "com/example/signalbox/signalbox/history/LongIntMap" = some m.cls := findClass_of_methodNamed Bd.named
  have hnm := (name_of_methodNamed Bd.named Bd.method).1
  have X0 : Stand p l e ({ frames := 3, cells := 2, slots := 32, locals := 45 } : Room) s m #[(.ref a1)] below meth c s₁ [] 0 0 := Stand.of_body Bd
  have e0 : s₁.heap = h0 := by rw [← hh, Bd.state]; rfl
  have N0 := Fr.nil n0
  obtain ⟨S0, hS0⟩ : ∃ S0, S0 = s₁.setTop (entryFrame m #[(.ref a1)] 1) := ⟨_, rfl⟩
  have pre : Pth p e below S0 s₁ (mkF m 0 #[.val (.ref a1)] []) := fun t k => by rw [hS0]; exact castTop (ef_ini m a1) k
  replace pre : Pth p e below S0 s₁ (mkF m 1 #[.val (.ref a1)] [(.ref a1)]) := fun t k => pre t (by
    show Steps p.tables e below (s₁.setTop (mkF m 0 #[.val (.ref a1)] [])) t
    refine XS.aloadN X0.here hx rfl (hb hby d_ini_0) rfl rfl ?_
    show Steps p.tables e below (s₁.setTop (mkF m 1 #[.val (.ref a1)] [(.ref a1)])) t
    exact k)
  obtain ⟨T13, X13, e13, st13⟩ := initO X0 hx hZ hown (hw _ (List.mem_of_getElem? (i := 7) rfl)) (hw _ (List.mem_of_getElem? (i := 8) rfl)) (hw _ (List.mem_of_getElem? (i := 9) rfl)) e0 (g := (mkF m 1 #[.val (.ref a1)] [(.ref a1)])) rfl (by rw [hml]; rfl) rfl (hb hby d_ini_1) (by decide) (W := 0) (by show 2 * 0 + _ ≤ _; exact Nat.le_of_eq rfl) (by decide)
  replace pre : Pth p e below S0 T13 (mkF m 4 #[.val (.ref a1)] []) := fun t k => pre t (st13 _ k)
  replace pre : Pth p e below S0 T13 (mkF m 7 #[.val (.ref a1)] [(.int (16 : Int32)), (.ref a1)]) := fun t k => pre t (by
    show Steps p.tables e below (T13.setTop (mkF m 4 #[.val (.ref a1)] [])) t
    refine XS.aloadN X13.here hx rfl (hb hby d_ini_4) rfl rfl ?_
    show Steps p.tables e below (T13.setTop (mkF m 5 #[.val (.ref a1)] [(.ref a1)])) t
    refine XS.bipush X13.here hx rfl (hb hby d_ini_5) ?_
    show Steps p.tables e below (T13.setTop (mkF m 7 #[.val (.ref a1)] [(.int (16 : Int32)), (.ref a1)])) t
    exact k)
  obtain ⟨cq14, q14, q14'⟩ := Exa.cell Ea
  obtain ⟨_, _, ⟨T14, L14, k14, n14⟩, -, X14, ⟨Lc14, hQ14, l14, y14, z14⟩, st14⟩ := X13.privateBack hx (y := (⟨"com/example/signalbox/signalbox/history/LongIntMap", "allocate", "(I)V"⟩ : MethodName)) hown (mvT hZ (hw _ (List.mem_of_getElem? (i := 10) rfl))) (mvT hZ (hw _ (List.mem_of_getElem? (i := 11) rfl))) (own_priv (mvT hZ (hw _ (List.mem_of_getElem? (i := 2) rfl))) (Cond.privateMethod_at (mvP hZ (hw _ (List.mem_of_getElem? (i := 12) rfl)) (args := #[]))) (mvT hZ (hw _ (List.mem_of_getElem? (i := 11) rfl))) (by decide)) (Cond.privateMethod_at (mvP hZ (hw _ (List.mem_of_getElem? (i := 12) rfl)) (args := #[]))) (mvT hZ (hw _ (List.mem_of_getElem? (i := 13) rfl))) (by decide) (backOf (W := 0) (rm_al l Z a0 hw [] a1 (16 : Int32) h0 n0 Z0 rfl ga Ea F1 F2 F3 F4) hZ (hw _ (List.mem_of_getElem? (i := 13) rfl)) (hw _ (List.mem_of_getElem? (i := 3) rfl)) (by decide) (by decide)) (g := (mkF m 7 #[.val (.ref a1)] [(.int (16 : Int32)), (.ref a1)])) rfl (by rw [hml]; rfl) (Steps.refl _) (a := a1) (by rw [e13]; exact q14) q14' (argsL := [(.int (16 : Int32))]) (rest := []) (lenOf pd__I_V rfl) rfl (by show 2 * 0 + _ ≤ _; exact Nat.le_of_eq rfl) (hb hby d_ini_7) (fun _ _ => ⟨rfl, e13, (by decide : 0 + 2 ≤ _), (by decide : 0 + 32 ≤ _)⟩)
  dsimp only [Pt.U, Pt.locs, Pt.cells, Pt.slots] at X14 l14 y14 z14 st14 hQ14
  subst l14 y14 z14
  obtain ⟨rfl, N14q, hs14, rk, rv, gk, gv, hM⟩ := hQ14
  have N14 := Fr.app N0 N14q
  replace pre : Pth p e below S0 T14 (mkF m 10 #[.val (.ref a1)] []) := fun t k => pre t (st14.trans k)
  obtain ⟨fs, hr, hrun, hended, hW, hsame⟩ := X14.leave (v := none) (fun _ => rfl)
  subst hS0
  refine ⟨_, _, pre _ ?_, hrun, hended, _, _, rfl, ?_, ⟨_, rfl⟩, hW, hsame.mono (by decide) (by decide)⟩
  · exact X14.returnOut hx Bd.returns (hb hby d_ini_10) hr
  · show Q_ini Z a1 h0 n0 _ T14.heap _
    exact ⟨rfl, N14, hs14, rk, rv, gk, gv, hM⟩
def Q_slot (Z : State) (a1 : Addr) (k1 : Int64) (rk rv : Addr) (sz : Int32) (kf : Nat → Int64) (vf : Nat → Int32) (h0 : Heap) (n0 : Nat) (v : Option Value) (h : Heap) (L : List Loc) : Prop := v = some (.int (own_sl k1)) ∧ Fr n0 L ∧ h = h0
set_option maxRecDepth 65536 in
set_option maxHeartbeats 40000000 in
theorem rm_slot (l : Launch) (Z : State) (a0 : Array Value) (hw : ∀ d ∈ tables_1, d.before a0 Z = true) (ws : List Jvm.Cond) (a1 : Addr) (k1 : Int64) (rk rv : Addr) (sz : Int32) (kf : Nat → Int64) (vf : Nat → Int32) (h0 : Heap) (n0 : Nat) (hM : OMap Z h0 a1 rk rv sz kf vf) :
    MetFree l (⟨"com/example/signalbox/signalbox/history/LongIntMap", "slot", "(J)I"⟩ : MethodName) (head1 (Jvm.Cond.code (⟨"com/example/signalbox/signalbox/history/LongIntMap", "slot", "(J)I"⟩ : MethodName) prog_69_method_5_code 3 (some .int) :: ws) ({ frames := 0, cells := 0, slots := 0, locals := 0 } : Room)) (fun a U => a = #[(.ref a1), (.long k1)] ∧ Z.Warmed39 U.vm ∧ U.heap = h0) (fun _ _ _ _ _ => True) (fun _ U o U' => ∃ v L, o = .returned v ∧ Q_slot Z a1 k1 rk rv sz kf vf h0 n0 v U'.heap L ∧ FrameEnd U o U' L ({ frames := 0, cells := 0, slots := 0, locals := 0 } : Room).cells ({ frames := 0, cells := 0, slots := 0, locals := 0 } : Room).slots) := by
  refine MetFree.of_bodySF (plainFor_of_name pn_com_example_signalbox_signalbox_history_LongIntMap) hisR ?_
  intro p e s m args below meth c s₁ Bd hml0 hP hK
  obtain ⟨rfl, hZ, hh⟩ := hP
  have hx := Bd.exec
  have hby := Bd.bytes
  have hml : c.maxLocals = 3 := hml0
  have hown : s.vm.findClass "com/example/signalbox/signalbox/history/LongIntMap" = some m.cls := findClass_of_methodNamed Bd.named
  have hnm := (name_of_methodNamed Bd.named Bd.method).1
  have X0 : Stand p l e ({ frames := 0, cells := 0, slots := 0, locals := 0 } : Room) s m #[(.ref a1), (.long k1)] below meth c s₁ [] 0 0 := Stand.of_body Bd
  have e0 : s₁.heap = h0 := by rw [← hh, Bd.state]; rfl
  have N0 := Fr.nil n0
  obtain ⟨S0, hS0⟩ : ∃ S0, S0 = s₁.setTop (entryFrame m #[(.ref a1), (.long k1)] 3) := ⟨_, rfl⟩
  have pre : Pth p e below S0 s₁ (mkF m 0 #[.val (.ref a1), .val (.long k1), .second] []) := fun t k => by rw [hS0]; exact castTop (ef_slot m a1 k1) k
  have hM' := hM
  obtain ⟨F1, F2, F3, F4, Ea, Kf, Vf, ne1, ne2, ne3⟩ := hM'
  replace pre : Pth p e below S0 s₁ (mkF m 6 #[.val (.ref a1), .val (.long k1), .second] [(.ref a1), (.long (k1 * (-7046029254386353131 : Int64)))]) := fun t k => pre t (by
    show Steps p.tables e below (s₁.setTop (mkF m 0 #[.val (.ref a1), .val (.long k1), .second] [])) t
    refine XS.lloadN X0.here hx rfl (hb hby d_slot_0) rfl ?_
    show Steps p.tables e below (s₁.setTop (mkF m 1 #[.val (.ref a1), .val (.long k1), .second] [(.long k1)])) t
    refine X0.ldc2Long hx hown (mvT hZ (hw _ (List.mem_of_getElem? (i := 45) rfl))) (g := (mkF m 1 #[.val (.ref a1), .val (.long k1), .second] [(.long k1)])) rfl (hb hby d_slot_1) _ ?_
    show Steps p.tables e below (s₁.setTop (mkF m 4 #[.val (.ref a1), .val (.long k1), .second] [(.long (-7046029254386353131 : Int64)), (.long k1)])) t
    refine XS.lmul X0.here hx rfl (hb hby d_slot_4) rfl ?_
    show Steps p.tables e below (s₁.setTop (mkF m 5 #[.val (.ref a1), .val (.long k1), .second] [(.long (k1 * (-7046029254386353131 : Int64)))])) t
    refine XS.aloadN X0.here hx rfl (hb hby d_slot_5) rfl rfl ?_
    show Steps p.tables e below (s₁.setTop (mkF m 6 #[.val (.ref a1), .val (.long k1), .second] [(.ref a1), (.long (k1 * (-7046029254386353131 : Int64)))])) t
    exact k)
  obtain ⟨T15, X15, e15, st15⟩ := getF X0 hx hZ hown (host := "") (Or.inl (hw _ (List.mem_of_getElem? (i := 34) rfl))) Via.refl e0 F3 (g := (mkF m 6 #[.val (.ref a1), .val (.long k1), .second] [(.ref a1), (.long (k1 * (-7046029254386353131 : Int64)))])) rfl rfl (hb hby d_slot_6)
  replace pre : Pth p e below S0 T15 (mkF m 9 #[.val (.ref a1), .val (.long k1), .second] [(.int (60 : Int32)), (.long (k1 * (-7046029254386353131 : Int64)))]) := fun t k => pre t (st15 _ k)
  replace pre : Pth p e below S0 T15 (mkF m 11 #[.val (.ref a1), .val (.long k1), .second] [(.int ((((k1 * (-7046029254386353131 : Int64)).toUInt64 >>> ((60 : Int32) &&& 0x3f).toInt64.toUInt64).toInt64).toInt32))]) := fun t k => pre t (by
    show Steps p.tables e below (T15.setTop (mkF m 9 #[.val (.ref a1), .val (.long k1), .second] [(.int (60 : Int32)), (.long (k1 * (-7046029254386353131 : Int64)))])) t
    refine XS.lushr X15.here hx rfl (hb hby d_slot_9) rfl ?_
    show Steps p.tables e below (T15.setTop (mkF m 10 #[.val (.ref a1), .val (.long k1), .second] [(.long (((k1 * (-7046029254386353131 : Int64)).toUInt64 >>> ((60 : Int32) &&& 0x3f).toInt64.toUInt64).toInt64))])) t
    refine XS.l2i X15.here hx rfl (hb hby d_slot_10) rfl ?_
    show Steps p.tables e below (T15.setTop (mkF m 11 #[.val (.ref a1), .val (.long k1), .second] [(.int ((((k1 * (-7046029254386353131 : Int64)).toUInt64 >>> ((60 : Int32) &&& 0x3f).toInt64.toUInt64).toInt64).toInt32))])) t
    exact k)
  obtain ⟨fs, hr, hrun, hended, hW, hsame⟩ := X15.leave (v := some (.int ((((k1 * (-7046029254386353131 : Int64)).toUInt64 >>> ((60 : Int32) &&& 0x3f).toInt64.toUInt64).toInt64).toInt32))) (fun h => by rw [Bd.returns] at h; cases h)
  subst hS0
  refine ⟨_, _, pre _ ?_, hrun, hended, _, _, rfl, ?_, ⟨_, rfl⟩, hW, hsame.mono (by decide) (by decide)⟩
  · exact retI X15 hx Bd.returns (hb hby d_slot_11) hr
  · show Q_slot Z a1 k1 rk rv sz kf vf h0 n0 _ T15.heap _
    rw [e15]
    exact ⟨rfl, N0, rfl⟩
def Q_put (Z : State) (a1 : Addr) (k1 : Int64) (v1 : Int32) (rk rv : Addr) (sz : Int32) (kf : Nat → Int64) (vf : Nat → Int32) (h0 : Heap) (n0 : Nat) (v : Option Value) (h : Heap) (L : List Loc) : Prop := v = none ∧ Fr n0 L ∧ h0.size ≤ h.size ∧ ∃ (sz' : Int32) (kf' : Nat → Int64) (vf' : Nat → Int32), OMap Z h a1 rk rv sz' kf' vf' ∧ OPut kf vf k1 v1 kf' vf' ∧ 0 ≤ sz'.toInt ∧ sz'.toInt ≤ sz.toInt + 1
set_option maxRecDepth 65536 in
set_option maxHeartbeats 40000000 in
theorem rm_put (l : Launch) (Z : State) (a0 : Array Value) (hw : ∀ d ∈ tables_1, d.before a0 Z = true) (ws : List Jvm.Cond) (a1 : Addr) (k1 : Int64) (v1 : Int32) (rk rv : Addr) (sz : Int32) (kf : Nat → Int64) (vf : Nat → Int32) (h0 : Heap) (n0 : Nat) (gk : n0 ≤ rk) (gv : n0 ≤ rv) (ga : n0 ≤ a1) (hM : OMap Z h0 a1 rk rv sz kf vf) (hex : ∃ i, i < 16 ∧ kf i = -1) (hk : 0 ≤ k1.toInt) (hz : 0 ≤ sz.toInt ∧ sz.toInt ≤ 11) :
    MetFree l (⟨"com/example/signalbox/signalbox/history/LongIntMap", "put", "(JI)V"⟩ : MethodName) (head1 (Jvm.Cond.code (⟨"com/example/signalbox/signalbox/history/LongIntMap", "put", "(JI)V"⟩ : MethodName) prog_69_method_3_code 6 none :: ws) ({ frames := 1, cells := 0, slots := 0, locals := 15 } : Room)) (fun a U => a = #[(.ref a1), (.long k1), (.int v1)] ∧ Z.Warmed39 U.vm ∧ U.heap = h0) (fun _ _ _ _ _ => True) (fun _ U o U' => ∃ v L, o = .returned v ∧ Q_put Z a1 k1 v1 rk rv sz kf vf h0 n0 v U'.heap L ∧ FrameEnd U o U' L ({ frames := 1, cells := 0, slots := 0, locals := 15 } : Room).cells ({ frames := 1, cells := 0, slots := 0, locals := 15 } : Room).slots) := by
  refine MetFree.of_bodySF (plainFor_of_name pn_com_example_signalbox_signalbox_history_LongIntMap) hisR ?_
  intro p e s m args below meth c s₁ Bd hml0 hP hK
  obtain ⟨rfl, hZ, hh⟩ := hP
  have hx := Bd.exec
  have hby := Bd.bytes
  have hml : c.maxLocals = 6 := hml0
  have hown : s.vm.findClass "com/example/signalbox/signalbox/history/LongIntMap" = some m.cls := findClass_of_methodNamed Bd.named
  have hnm := (name_of_methodNamed Bd.named Bd.method).1
  have X0 : Stand p l e ({ frames := 1, cells := 0, slots := 0, locals := 15 } : Room) s m #[(.ref a1), (.long k1), (.int v1)] below meth c s₁ [] 0 0 := Stand.of_body Bd
  have e0 : s₁.heap = h0 := by rw [← hh, Bd.state]; rfl
  have N0 := Fr.nil n0
  obtain ⟨S0, hS0⟩ : ∃ S0, S0 = s₁.setTop (entryFrame m #[(.ref a1), (.long k1), (.int v1)] 6) := ⟨_, rfl⟩
  have pre : Pth p e below S0 s₁ (mkF m 0 #[.val (.ref a1), .val (.long k1), .second, .val (.int v1), .unset, .unset] []) := fun t k => by rw [hS0]; exact castTop (ef_put m a1 k1 v1) k
  have hM' := hM
  obtain ⟨F1, F2, F3, F4, Ea, Kf, Vf, ne1, ne2, ne3⟩ := hM'
  obtain ⟨d, hd1, hd2⟩ := own_walkd k1 hex
  replace pre : Pth p e below S0 s₁ (mkF m 21 #[.val (.ref a1), .val (.long k1), .second, .val (.int v1), .unset, .unset] [(.ref a1)]) := fun t k => pre t (by
    show Steps p.tables e below (s₁.setTop (mkF m 0 #[.val (.ref a1), .val (.long k1), .second, .val (.int v1), .unset, .unset] [])) t
    refine XS.lloadN X0.here hx rfl (hb hby d_put_0) rfl ?_
    show Steps p.tables e below (s₁.setTop (mkF m 1 #[.val (.ref a1), .val (.long k1), .second, .val (.int v1), .unset, .unset] [(.long k1)])) t
    refine XS.lconst X0.here hx rfl (hb hby d_put_1) ?_
    show Steps p.tables e below (s₁.setTop (mkF m 2 #[.val (.ref a1), .val (.long k1), .second, .val (.int v1), .unset, .unset] [(.long (0 : Int64)), (.long k1)])) t
    refine XT.lcmp X0.here hx rfl (hb hby d_put_2) rfl ?_
    show Steps p.tables e below (s₁.setTop (mkF m 3 #[.val (.ref a1), .val (.long k1), .second, .val (.int v1), .unset, .unset] [(.int (XT.cmpL k1 (0 : Int64)))])) t
    refine XS.ifYes X0.here hx rfl (pc0 := 3) (pc' := 20) rfl (hb hby d_put_3) rfl (XT.ll_ge_t (own_knn hk)) (by decide) (by decide) ?_
    show Steps p.tables e below (s₁.setTop (mkF m 20 #[.val (.ref a1), .val (.long k1), .second, .val (.int v1), .unset, .unset] [])) t
    refine XS.aloadN X0.here hx rfl (hb hby d_put_20) rfl rfl ?_
    show Steps p.tables e below (s₁.setTop (mkF m 21 #[.val (.ref a1), .val (.long k1), .second, .val (.int v1), .unset, .unset] [(.ref a1)])) t
    exact k)
  obtain ⟨T16, X16, e16, st16⟩ := getF X0 hx hZ hown (host := "") (Or.inl (hw _ (List.mem_of_getElem? (i := 15) rfl))) Via.refl e0 F1 (g := (mkF m 21 #[.val (.ref a1), .val (.long k1), .second, .val (.int v1), .unset, .unset] [(.ref a1)])) rfl rfl (hb hby d_put_21)
  replace pre : Pth p e below S0 T16 (mkF m 24 #[.val (.ref a1), .val (.long k1), .second, .val (.int v1), .unset, .unset] [(.ref rk)]) := fun t k => pre t (st16 _ k)
  obtain ⟨cl17, Ar17, Sz17, -⟩ := id Kf
  have hln17 : cl17.slots.size.toInt32 = (16 : Int32) := (congrArg Nat.toInt32 Sz17).trans (rfl)
  replace pre : Pth p e below S0 T16 (mkF m 31 #[.val (.ref a1), .val (.long k1), .second, .val (.int v1), .val (.int ((16 : Int32) - (1 : Int32))), .unset] [(.long k1), (.ref a1)]) := fun t k => pre t (by
    show Steps p.tables e below (T16.setTop (mkF m 24 #[.val (.ref a1), .val (.long k1), .second, .val (.int v1), .unset, .unset] [(.ref rk)])) t
    refine X16.arraylength hx (by rw [e16]; exact Ar17.1) (State.isArrayOf_alike hZ.alike Ar17.2.1) (g := (mkF m 24 #[.val (.ref a1), .val (.long k1), .second, .val (.int v1), .unset, .unset] [(.ref rk)])) rfl rfl (hb hby d_put_24) _ ?_
    rw [hln17]
    show Steps p.tables e below (T16.setTop (mkF m 25 #[.val (.ref a1), .val (.long k1), .second, .val (.int v1), .unset, .unset] [(.int (16 : Int32))])) t
    refine XS.iconst X16.here hx rfl (hb hby d_put_25) ?_
    show Steps p.tables e below (T16.setTop (mkF m 26 #[.val (.ref a1), .val (.long k1), .second, .val (.int v1), .unset, .unset] [(.int (1 : Int32)), (.int (16 : Int32))])) t
    refine XS.isub X16.here hx rfl (hb hby d_put_26) rfl ?_
    show Steps p.tables e below (T16.setTop (mkF m 27 #[.val (.ref a1), .val (.long k1), .second, .val (.int v1), .unset, .unset] [(.int ((16 : Int32) - (1 : Int32)))])) t
    refine XS.istore X16.here hx rfl (hb hby d_put_27) rfl (l' := #[.val (.ref a1), .val (.long k1), .second, .val (.int v1), .val (.int ((16 : Int32) - (1 : Int32))), .unset]) rfl ?_
    show Steps p.tables e below (T16.setTop (mkF m 29 #[.val (.ref a1), .val (.long k1), .second, .val (.int v1), .val (.int ((16 : Int32) - (1 : Int32))), .unset] [])) t
    refine XS.aloadN X16.here hx rfl (hb hby d_put_29) rfl rfl ?_
    show Steps p.tables e below (T16.setTop (mkF m 30 #[.val (.ref a1), .val (.long k1), .second, .val (.int v1), .val (.int ((16 : Int32) - (1 : Int32))), .unset] [(.ref a1)])) t
    refine XS.lloadN X16.here hx rfl (hb hby d_put_30) rfl ?_
    show Steps p.tables e below (T16.setTop (mkF m 31 #[.val (.ref a1), .val (.long k1), .second, .val (.int v1), .val (.int ((16 : Int32) - (1 : Int32))), .unset] [(.long k1), (.ref a1)])) t
    exact k)
  rw [show (16 : Int32) - (1 : Int32) = 15 from rfl] at pre
  obtain ⟨cq18, q18, q18'⟩ := Exa.cell Ea
  obtain ⟨_, _, ⟨T18, L18, k18, n18⟩, -, X18, ⟨Lc18, hQ18, l18, y18, z18⟩, st18⟩ := X16.privateBack hx (y := (⟨"com/example/signalbox/signalbox/history/LongIntMap", "slot", "(J)I"⟩ : MethodName)) hown (mvT hZ (hw _ (List.mem_of_getElem? (i := 41) rfl))) (mvT hZ (hw _ (List.mem_of_getElem? (i := 42) rfl))) (own_priv (mvT hZ (hw _ (List.mem_of_getElem? (i := 2) rfl))) (Cond.privateMethod_at (mvP hZ (hw _ (List.mem_of_getElem? (i := 43) rfl)) (args := #[]))) (mvT hZ (hw _ (List.mem_of_getElem? (i := 42) rfl))) (by decide)) (Cond.privateMethod_at (mvP hZ (hw _ (List.mem_of_getElem? (i := 43) rfl)) (args := #[]))) (mvT hZ (hw _ (List.mem_of_getElem? (i := 44) rfl))) (by decide) (backOf (W := 0) (rm_slot l Z a0 hw [] a1 k1 rk rv sz kf vf h0 n0 hM) hZ (hw _ (List.mem_of_getElem? (i := 44) rfl)) (hw _ (List.mem_of_getElem? (i := 3) rfl)) (by decide) (by decide)) (g := (mkF m 31 #[.val (.ref a1), .val (.long k1), .second, .val (.int v1), .val (.int (15 : Int32)), .unset] [(.long k1), (.ref a1)])) rfl (by rw [hml]; rfl) (Steps.refl _) (a := a1) (by rw [e16]; exact q18) q18' (argsL := [(.long k1)]) (rest := []) (lenOf pd__J_I rfl) rfl (by show 2 * 0 + _ ≤ _; exact Nat.le_of_eq rfl) (hb hby d_put_31) (fun _ _ => ⟨rfl, e16, (by decide : 0 + 0 ≤ _), (by decide : 0 + 0 ≤ _)⟩)
  dsimp only [Pt.U, Pt.locs, Pt.cells, Pt.slots] at X18 l18 y18 z18 st18 hQ18
  subst l18 y18 z18
  obtain ⟨rfl, N18q, e18⟩ := hQ18
  have N18 := Fr.app N0 N18q
  replace pre : Pth p e below S0 T18 (mkF m 34 #[.val (.ref a1), .val (.long k1), .second, .val (.int v1), .val (.int (15 : Int32)), .unset] [(.int (own_sl k1))]) := fun t k => pre t (st18.trans k)
  rw [own_hval k1] at pre
  replace pre : Pth p e below S0 T18 (mkF m 36 #[.val (.ref a1), .val (.long k1), .second, .val (.int v1), .val (.int (15 : Int32)), .val (.int (Int32.ofNat ((own_hn k1 + 0) % 16)))] []) := fun t k => pre t (by
    show Steps p.tables e below (T18.setTop (mkF m 34 #[.val (.ref a1), .val (.long k1), .second, .val (.int v1), .val (.int (15 : Int32)), .unset] [(.int (Int32.ofNat ((own_hn k1 + 0) % 16)))])) t
    refine XS.istore X18.here hx rfl (hb hby d_put_34) rfl (l' := #[.val (.ref a1), .val (.long k1), .second, .val (.int v1), .val (.int (15 : Int32)), .val (.int (Int32.ofNat ((own_hn k1 + 0) % 16)))]) rfl ?_
    show Steps p.tables e below (T18.setTop (mkF m 36 #[.val (.ref a1), .val (.long k1), .second, .val (.int v1), .val (.int (15 : Int32)), .val (.int (Int32.ofNat ((own_hn k1 + 0) % 16)))] [])) t
    exact k)
  obtain ⟨locs0, hX⟩ : ∃ locs0, Stand p l e ({ frames := 1, cells := 0, slots := 0, locals := 15 } : Room) s m #[(.ref a1), (.long k1), (.int v1)] below meth c T18 locs0 0 0 ∧ Fr n0 locs0 := ⟨_, X18, N18⟩
  obtain ⟨Xz, Nz⟩ := hX
  have loop : ∀ (k e' : Nat) (T : State), e' + k = d → Stand p l e ({ frames := 1, cells := 0, slots := 0, locals := 15 } : Room) s m #[(.ref a1), (.long k1), (.int v1)] below meth c T locs0 0 0 → T.heap = h0 → Pth p e below S0 T (mkF m 36 #[.val (.ref a1), .val (.long k1), .second, .val (.int v1), .val (.int (15 : Int32)), .val (.int (Int32.ofNat ((own_hn k1 + e') % 16)))] []) → ∃ T' : State, Stand p l e ({ frames := 1, cells := 0, slots := 0, locals := 15 } : Room) s m #[(.ref a1), (.long k1), (.int v1)] below meth c T' locs0 0 0 ∧ T'.heap = h0 ∧ Pth p e below S0 T' (mkF m 74 #[.val (.ref a1), .val (.long k1), .second, .val (.int v1), .val (.int (15 : Int32)), .val (.int (Int32.ofNat ((own_hn k1 + d) % 16)))] []) := by
    intro k
    induction k with
    | zero =>
      intro e' T hk' X eT pre
      obtain rfl : e' = d := by omega
      have hlt : ((own_hn k1 + e') % 16) < 16 := Nat.mod_lt _ (by decide)
      replace pre : Pth p e below S0 T (mkF m 37 #[.val (.ref a1), .val (.long k1), .second, .val (.int v1), .val (.int (15 : Int32)), .val (.int (Int32.ofNat ((own_hn k1 + e') % 16)))] [(.ref a1)]) := fun t k => pre t (by
        show Steps p.tables e below (T.setTop (mkF m 36 #[.val (.ref a1), .val (.long k1), .second, .val (.int v1), .val (.int (15 : Int32)), .val (.int (Int32.ofNat ((own_hn k1 + e') % 16)))] [])) t
        refine XS.aloadN X.here hx rfl (hb hby d_put_36) rfl rfl ?_
        show Steps p.tables e below (T.setTop (mkF m 37 #[.val (.ref a1), .val (.long k1), .second, .val (.int v1), .val (.int (15 : Int32)), .val (.int (Int32.ofNat ((own_hn k1 + e') % 16)))] [(.ref a1)])) t
        exact k)
      obtain ⟨T19, X19, e19, st19⟩ := getF X hx hZ hown (host := "") (Or.inl (hw _ (List.mem_of_getElem? (i := 15) rfl))) Via.refl eT F1 (g := (mkF m 37 #[.val (.ref a1), .val (.long k1), .second, .val (.int v1), .val (.int (15 : Int32)), .val (.int (Int32.ofNat ((own_hn k1 + e') % 16)))] [(.ref a1)])) rfl rfl (hb hby d_put_37)
      replace pre : Pth p e below S0 T19 (mkF m 40 #[.val (.ref a1), .val (.long k1), .second, .val (.int v1), .val (.int (15 : Int32)), .val (.int (Int32.ofNat ((own_hn k1 + e') % 16)))] [(.ref rk)]) := fun t k => pre t (st19 _ k)
      replace pre : Pth p e below S0 T19 (mkF m 42 #[.val (.ref a1), .val (.long k1), .second, .val (.int v1), .val (.int (15 : Int32)), .val (.int (Int32.ofNat ((own_hn k1 + e') % 16)))] [(.int (Int32.ofNat ((own_hn k1 + e') % 16))), (.ref rk)]) := fun t k => pre t (by
        show Steps p.tables e below (T19.setTop (mkF m 40 #[.val (.ref a1), .val (.long k1), .second, .val (.int v1), .val (.int (15 : Int32)), .val (.int (Int32.ofNat ((own_hn k1 + e') % 16)))] [(.ref rk)])) t
        refine XS.iload X19.here hx rfl (hb hby d_put_40) rfl ?_
        show Steps p.tables e below (T19.setTop (mkF m 42 #[.val (.ref a1), .val (.long k1), .second, .val (.int v1), .val (.int (15 : Int32)), .val (.int (Int32.ofNat ((own_hn k1 + e') % 16)))] [(.int (Int32.ofNat ((own_hn k1 + e') % 16))), (.ref rk)])) t
        exact k)
      obtain ⟨cl20, Ar20, Sz20, Gt20⟩ := id Kf
      have hin20 : ¬ ((Int32.ofNat ((own_hn k1 + e') % 16)) < 0 ∨ cl20.slots.size ≤ ((Int32.ofNat ((own_hn k1 + e') % 16))).toNatClampNeg) := by rw [Sz20]; exact (own_in (own_ix hlt) hlt)
      have hat20 : cl20.slots[((Int32.ofNat ((own_hn k1 + e') % 16))).toNatClampNeg]? = some (.long (kf ((own_hn k1 + e') % 16))) := (Gt20 _ (Nat.lt_of_lt_of_eq (Nat.lt_of_not_le fun q => hin20 (Or.inr q)) Sz20)).trans (congrArg some (by rw [own_cl (own_ix hlt)]))
      replace pre : Pth p e below S0 T19 (mkF m 45 #[.val (.ref a1), .val (.long k1), .second, .val (.int v1), .val (.int (15 : Int32)), .val (.int (Int32.ofNat ((own_hn k1 + e') % 16)))] [(.int (XT.cmpL (kf ((own_hn k1 + e') % 16)) k1))]) := fun t k => pre t (by
        show Steps p.tables e below (T19.setTop (mkF m 42 #[.val (.ref a1), .val (.long k1), .second, .val (.int v1), .val (.int (15 : Int32)), .val (.int (Int32.ofNat ((own_hn k1 + e') % 16)))] [(.int (Int32.ofNat ((own_hn k1 + e') % 16))), (.ref rk)])) t
        refine X19.laload hx (j := (Int32.ofNat ((own_hn k1 + e') % 16))) (v := (.long (kf ((own_hn k1 + e') % 16)))) (by rw [e19]; exact Ar20.1) (State.isArrayOf_alike hZ.alike Ar20.2.1) Ar20.2.2 hin20 hat20 (g := (mkF m 42 #[.val (.ref a1), .val (.long k1), .second, .val (.int v1), .val (.int (15 : Int32)), .val (.int (Int32.ofNat ((own_hn k1 + e') % 16)))] [(.int (Int32.ofNat ((own_hn k1 + e') % 16))), (.ref rk)])) rfl rfl (hb hby d_put_42) _ ?_
        show Steps p.tables e below (T19.setTop (mkF m 43 #[.val (.ref a1), .val (.long k1), .second, .val (.int v1), .val (.int (15 : Int32)), .val (.int (Int32.ofNat ((own_hn k1 + e') % 16)))] [(.long (kf ((own_hn k1 + e') % 16)))])) t
        refine XS.lloadN X19.here hx rfl (hb hby d_put_43) rfl ?_
        show Steps p.tables e below (T19.setTop (mkF m 44 #[.val (.ref a1), .val (.long k1), .second, .val (.int v1), .val (.int (15 : Int32)), .val (.int (Int32.ofNat ((own_hn k1 + e') % 16)))] [(.long k1), (.long (kf ((own_hn k1 + e') % 16)))])) t
        refine XT.lcmp X19.here hx rfl (hb hby d_put_44) rfl ?_
        show Steps p.tables e below (T19.setTop (mkF m 45 #[.val (.ref a1), .val (.long k1), .second, .val (.int v1), .val (.int (15 : Int32)), .val (.int (Int32.ofNat ((own_hn k1 + e') % 16)))] [(.int (XT.cmpL (kf ((own_hn k1 + e') % 16)) k1))])) t
        exact k)
      by_cases z0 : (kf ((own_hn k1 + e') % 16)) = k1
      · replace pre : Pth p e below S0 T19 (mkF m 74 #[.val (.ref a1), .val (.long k1), .second, .val (.int v1), .val (.int (15 : Int32)), .val (.int (Int32.ofNat ((own_hn k1 + e') % 16)))] []) := fun t k => pre t (by
          show Steps p.tables e below (T19.setTop (mkF m 45 #[.val (.ref a1), .val (.long k1), .second, .val (.int v1), .val (.int (15 : Int32)), .val (.int (Int32.ofNat ((own_hn k1 + e') % 16)))] [(.int (XT.cmpL (kf ((own_hn k1 + e') % 16)) k1))])) t
          refine XS.ifYes X19.here hx rfl (pc0 := 45) (pc' := 74) rfl (hb hby d_put_45) rfl (XT.ll_eq_t z0) (by decide) (by decide) ?_
          show Steps p.tables e below (T19.setTop (mkF m 74 #[.val (.ref a1), .val (.long k1), .second, .val (.int v1), .val (.int (15 : Int32)), .val (.int (Int32.ofNat ((own_hn k1 + e') % 16)))] [])) t
          exact k)
        exact ⟨_, X19, e19, pre⟩
      · replace pre : Pth p e below S0 T19 (mkF m 49 #[.val (.ref a1), .val (.long k1), .second, .val (.int v1), .val (.int (15 : Int32)), .val (.int (Int32.ofNat ((own_hn k1 + e') % 16)))] [(.ref a1)]) := fun t k => pre t (by
          show Steps p.tables e below (T19.setTop (mkF m 45 #[.val (.ref a1), .val (.long k1), .second, .val (.int v1), .val (.int (15 : Int32)), .val (.int (Int32.ofNat ((own_hn k1 + e') % 16)))] [(.int (XT.cmpL (kf ((own_hn k1 + e') % 16)) k1))])) t
          refine XS.ifNo X19.here hx rfl (hb hby d_put_45) rfl (XT.ll_eq_f z0) ?_
          show Steps p.tables e below (T19.setTop (mkF m 48 #[.val (.ref a1), .val (.long k1), .second, .val (.int v1), .val (.int (15 : Int32)), .val (.int (Int32.ofNat ((own_hn k1 + e') % 16)))] [])) t
          refine XS.aloadN X19.here hx rfl (hb hby d_put_48) rfl rfl ?_
          show Steps p.tables e below (T19.setTop (mkF m 49 #[.val (.ref a1), .val (.long k1), .second, .val (.int v1), .val (.int (15 : Int32)), .val (.int (Int32.ofNat ((own_hn k1 + e') % 16)))] [(.ref a1)])) t
          exact k)
        obtain ⟨T21, X21, e21, st21⟩ := getF X19 hx hZ hown (host := "") (Or.inl (hw _ (List.mem_of_getElem? (i := 15) rfl))) Via.refl e19 F1 (g := (mkF m 49 #[.val (.ref a1), .val (.long k1), .second, .val (.int v1), .val (.int (15 : Int32)), .val (.int (Int32.ofNat ((own_hn k1 + e') % 16)))] [(.ref a1)])) rfl rfl (hb hby d_put_49)
        replace pre : Pth p e below S0 T21 (mkF m 52 #[.val (.ref a1), .val (.long k1), .second, .val (.int v1), .val (.int (15 : Int32)), .val (.int (Int32.ofNat ((own_hn k1 + e') % 16)))] [(.ref rk)]) := fun t k => pre t (st21 _ k)
        replace pre : Pth p e below S0 T21 (mkF m 54 #[.val (.ref a1), .val (.long k1), .second, .val (.int v1), .val (.int (15 : Int32)), .val (.int (Int32.ofNat ((own_hn k1 + e') % 16)))] [(.int (Int32.ofNat ((own_hn k1 + e') % 16))), (.ref rk)]) := fun t k => pre t (by
          show Steps p.tables e below (T21.setTop (mkF m 52 #[.val (.ref a1), .val (.long k1), .second, .val (.int v1), .val (.int (15 : Int32)), .val (.int (Int32.ofNat ((own_hn k1 + e') % 16)))] [(.ref rk)])) t
          refine XS.iload X21.here hx rfl (hb hby d_put_52) rfl ?_
          show Steps p.tables e below (T21.setTop (mkF m 54 #[.val (.ref a1), .val (.long k1), .second, .val (.int v1), .val (.int (15 : Int32)), .val (.int (Int32.ofNat ((own_hn k1 + e') % 16)))] [(.int (Int32.ofNat ((own_hn k1 + e') % 16))), (.ref rk)])) t
          exact k)
        obtain ⟨cl22, Ar22, Sz22, Gt22⟩ := id Kf
        have hin22 : ¬ ((Int32.ofNat ((own_hn k1 + e') % 16)) < 0 ∨ cl22.slots.size ≤ ((Int32.ofNat ((own_hn k1 + e') % 16))).toNatClampNeg) := by rw [Sz22]; exact (own_in (own_ix hlt) hlt)
        have hat22 : cl22.slots[((Int32.ofNat ((own_hn k1 + e') % 16))).toNatClampNeg]? = some (.long (kf ((own_hn k1 + e') % 16))) := (Gt22 _ (Nat.lt_of_lt_of_eq (Nat.lt_of_not_le fun q => hin22 (Or.inr q)) Sz22)).trans (congrArg some (by rw [own_cl (own_ix hlt)]))
        replace pre : Pth p e below S0 T21 (mkF m 74 #[.val (.ref a1), .val (.long k1), .second, .val (.int v1), .val (.int (15 : Int32)), .val (.int (Int32.ofNat ((own_hn k1 + e') % 16)))] []) := fun t k => pre t (by
          show Steps p.tables e below (T21.setTop (mkF m 54 #[.val (.ref a1), .val (.long k1), .second, .val (.int v1), .val (.int (15 : Int32)), .val (.int (Int32.ofNat ((own_hn k1 + e') % 16)))] [(.int (Int32.ofNat ((own_hn k1 + e') % 16))), (.ref rk)])) t
          refine X21.laload hx (j := (Int32.ofNat ((own_hn k1 + e') % 16))) (v := (.long (kf ((own_hn k1 + e') % 16)))) (by rw [e21]; exact Ar22.1) (State.isArrayOf_alike hZ.alike Ar22.2.1) Ar22.2.2 hin22 hat22 (g := (mkF m 54 #[.val (.ref a1), .val (.long k1), .second, .val (.int v1), .val (.int (15 : Int32)), .val (.int (Int32.ofNat ((own_hn k1 + e') % 16)))] [(.int (Int32.ofNat ((own_hn k1 + e') % 16))), (.ref rk)])) rfl rfl (hb hby d_put_54) _ ?_
          show Steps p.tables e below (T21.setTop (mkF m 55 #[.val (.ref a1), .val (.long k1), .second, .val (.int v1), .val (.int (15 : Int32)), .val (.int (Int32.ofNat ((own_hn k1 + e') % 16)))] [(.long (kf ((own_hn k1 + e') % 16)))])) t
          refine X21.ldc2Long hx hown (mvT hZ (hw _ (List.mem_of_getElem? (i := 17) rfl))) (g := (mkF m 55 #[.val (.ref a1), .val (.long k1), .second, .val (.int v1), .val (.int (15 : Int32)), .val (.int (Int32.ofNat ((own_hn k1 + e') % 16)))] [(.long (kf ((own_hn k1 + e') % 16)))])) rfl (hb hby d_put_55) _ ?_
          show Steps p.tables e below (T21.setTop (mkF m 58 #[.val (.ref a1), .val (.long k1), .second, .val (.int v1), .val (.int (15 : Int32)), .val (.int (Int32.ofNat ((own_hn k1 + e') % 16)))] [(.long (-1 : Int64)), (.long (kf ((own_hn k1 + e') % 16)))])) t
          refine XT.lcmp X21.here hx rfl (hb hby d_put_58) rfl ?_
          show Steps p.tables e below (T21.setTop (mkF m 59 #[.val (.ref a1), .val (.long k1), .second, .val (.int v1), .val (.int (15 : Int32)), .val (.int (Int32.ofNat ((own_hn k1 + e') % 16)))] [(.int (XT.cmpL (kf ((own_hn k1 + e') % 16)) (-1 : Int64)))])) t
          refine XS.ifYes X21.here hx rfl (pc0 := 59) (pc' := 74) rfl (hb hby d_put_59) rfl (XT.ll_eq_t (hd1.resolve_left z0)) (by decide) (by decide) ?_
          show Steps p.tables e below (T21.setTop (mkF m 74 #[.val (.ref a1), .val (.long k1), .second, .val (.int v1), .val (.int (15 : Int32)), .val (.int (Int32.ofNat ((own_hn k1 + e') % 16)))] [])) t
          exact k)
        exact ⟨_, X21, e21, pre⟩
    | succ k ih =>
      intro e' T hk' X eT pre
      have hlt : ((own_hn k1 + e') % 16) < 16 := Nat.mod_lt _ (by decide)
      have hns := hd2 e' (by omega)
      replace pre : Pth p e below S0 T (mkF m 37 #[.val (.ref a1), .val (.long k1), .second, .val (.int v1), .val (.int (15 : Int32)), .val (.int (Int32.ofNat ((own_hn k1 + e') % 16)))] [(.ref a1)]) := fun t k => pre t (by
        show Steps p.tables e below (T.setTop (mkF m 36 #[.val (.ref a1), .val (.long k1), .second, .val (.int v1), .val (.int (15 : Int32)), .val (.int (Int32.ofNat ((own_hn k1 + e') % 16)))] [])) t
        refine XS.aloadN X.here hx rfl (hb hby d_put_36) rfl rfl ?_
        show Steps p.tables e below (T.setTop (mkF m 37 #[.val (.ref a1), .val (.long k1), .second, .val (.int v1), .val (.int (15 : Int32)), .val (.int (Int32.ofNat ((own_hn k1 + e') % 16)))] [(.ref a1)])) t
        exact k)
      obtain ⟨T23, X23, e23, st23⟩ := getF X hx hZ hown (host := "") (Or.inl (hw _ (List.mem_of_getElem? (i := 15) rfl))) Via.refl eT F1 (g := (mkF m 37 #[.val (.ref a1), .val (.long k1), .second, .val (.int v1), .val (.int (15 : Int32)), .val (.int (Int32.ofNat ((own_hn k1 + e') % 16)))] [(.ref a1)])) rfl rfl (hb hby d_put_37)
      replace pre : Pth p e below S0 T23 (mkF m 40 #[.val (.ref a1), .val (.long k1), .second, .val (.int v1), .val (.int (15 : Int32)), .val (.int (Int32.ofNat ((own_hn k1 + e') % 16)))] [(.ref rk)]) := fun t k => pre t (st23 _ k)
      replace pre : Pth p e below S0 T23 (mkF m 42 #[.val (.ref a1), .val (.long k1), .second, .val (.int v1), .val (.int (15 : Int32)), .val (.int (Int32.ofNat ((own_hn k1 + e') % 16)))] [(.int (Int32.ofNat ((own_hn k1 + e') % 16))), (.ref rk)]) := fun t k => pre t (by
        show Steps p.tables e below (T23.setTop (mkF m 40 #[.val (.ref a1), .val (.long k1), .second, .val (.int v1), .val (.int (15 : Int32)), .val (.int (Int32.ofNat ((own_hn k1 + e') % 16)))] [(.ref rk)])) t
        refine XS.iload X23.here hx rfl (hb hby d_put_40) rfl ?_
        show Steps p.tables e below (T23.setTop (mkF m 42 #[.val (.ref a1), .val (.long k1), .second, .val (.int v1), .val (.int (15 : Int32)), .val (.int (Int32.ofNat ((own_hn k1 + e') % 16)))] [(.int (Int32.ofNat ((own_hn k1 + e') % 16))), (.ref rk)])) t
        exact k)
      obtain ⟨cl24, Ar24, Sz24, Gt24⟩ := id Kf
      have hin24 : ¬ ((Int32.ofNat ((own_hn k1 + e') % 16)) < 0 ∨ cl24.slots.size ≤ ((Int32.ofNat ((own_hn k1 + e') % 16))).toNatClampNeg) := by rw [Sz24]; exact (own_in (own_ix hlt) hlt)
      have hat24 : cl24.slots[((Int32.ofNat ((own_hn k1 + e') % 16))).toNatClampNeg]? = some (.long (kf ((own_hn k1 + e') % 16))) := (Gt24 _ (Nat.lt_of_lt_of_eq (Nat.lt_of_not_le fun q => hin24 (Or.inr q)) Sz24)).trans (congrArg some (by rw [own_cl (own_ix hlt)]))
      replace pre : Pth p e below S0 T23 (mkF m 49 #[.val (.ref a1), .val (.long k1), .second, .val (.int v1), .val (.int (15 : Int32)), .val (.int (Int32.ofNat ((own_hn k1 + e') % 16)))] [(.ref a1)]) := fun t k => pre t (by
        show Steps p.tables e below (T23.setTop (mkF m 42 #[.val (.ref a1), .val (.long k1), .second, .val (.int v1), .val (.int (15 : Int32)), .val (.int (Int32.ofNat ((own_hn k1 + e') % 16)))] [(.int (Int32.ofNat ((own_hn k1 + e') % 16))), (.ref rk)])) t
        refine X23.laload hx (j := (Int32.ofNat ((own_hn k1 + e') % 16))) (v := (.long (kf ((own_hn k1 + e') % 16)))) (by rw [e23]; exact Ar24.1) (State.isArrayOf_alike hZ.alike Ar24.2.1) Ar24.2.2 hin24 hat24 (g := (mkF m 42 #[.val (.ref a1), .val (.long k1), .second, .val (.int v1), .val (.int (15 : Int32)), .val (.int (Int32.ofNat ((own_hn k1 + e') % 16)))] [(.int (Int32.ofNat ((own_hn k1 + e') % 16))), (.ref rk)])) rfl rfl (hb hby d_put_42) _ ?_
        show Steps p.tables e below (T23.setTop (mkF m 43 #[.val (.ref a1), .val (.long k1), .second, .val (.int v1), .val (.int (15 : Int32)), .val (.int (Int32.ofNat ((own_hn k1 + e') % 16)))] [(.long (kf ((own_hn k1 + e') % 16)))])) t
        refine XS.lloadN X23.here hx rfl (hb hby d_put_43) rfl ?_
        show Steps p.tables e below (T23.setTop (mkF m 44 #[.val (.ref a1), .val (.long k1), .second, .val (.int v1), .val (.int (15 : Int32)), .val (.int (Int32.ofNat ((own_hn k1 + e') % 16)))] [(.long k1), (.long (kf ((own_hn k1 + e') % 16)))])) t
        refine XT.lcmp X23.here hx rfl (hb hby d_put_44) rfl ?_
        show Steps p.tables e below (T23.setTop (mkF m 45 #[.val (.ref a1), .val (.long k1), .second, .val (.int v1), .val (.int (15 : Int32)), .val (.int (Int32.ofNat ((own_hn k1 + e') % 16)))] [(.int (XT.cmpL (kf ((own_hn k1 + e') % 16)) k1))])) t
        refine XS.ifNo X23.here hx rfl (hb hby d_put_45) rfl (XT.ll_eq_f (fun q => hns (Or.inl q))) ?_
        show Steps p.tables e below (T23.setTop (mkF m 48 #[.val (.ref a1), .val (.long k1), .second, .val (.int v1), .val (.int (15 : Int32)), .val (.int (Int32.ofNat ((own_hn k1 + e') % 16)))] [])) t
        refine XS.aloadN X23.here hx rfl (hb hby d_put_48) rfl rfl ?_
        show Steps p.tables e below (T23.setTop (mkF m 49 #[.val (.ref a1), .val (.long k1), .second, .val (.int v1), .val (.int (15 : Int32)), .val (.int (Int32.ofNat ((own_hn k1 + e') % 16)))] [(.ref a1)])) t
        exact k)
      obtain ⟨T25, X25, e25, st25⟩ := getF X23 hx hZ hown (host := "") (Or.inl (hw _ (List.mem_of_getElem? (i := 15) rfl))) Via.refl e23 F1 (g := (mkF m 49 #[.val (.ref a1), .val (.long k1), .second, .val (.int v1), .val (.int (15 : Int32)), .val (.int (Int32.ofNat ((own_hn k1 + e') % 16)))] [(.ref a1)])) rfl rfl (hb hby d_put_49)
      replace pre : Pth p e below S0 T25 (mkF m 52 #[.val (.ref a1), .val (.long k1), .second, .val (.int v1), .val (.int (15 : Int32)), .val (.int (Int32.ofNat ((own_hn k1 + e') % 16)))] [(.ref rk)]) := fun t k => pre t (st25 _ k)
      replace pre : Pth p e below S0 T25 (mkF m 54 #[.val (.ref a1), .val (.long k1), .second, .val (.int v1), .val (.int (15 : Int32)), .val (.int (Int32.ofNat ((own_hn k1 + e') % 16)))] [(.int (Int32.ofNat ((own_hn k1 + e') % 16))), (.ref rk)]) := fun t k => pre t (by
        show Steps p.tables e below (T25.setTop (mkF m 52 #[.val (.ref a1), .val (.long k1), .second, .val (.int v1), .val (.int (15 : Int32)), .val (.int (Int32.ofNat ((own_hn k1 + e') % 16)))] [(.ref rk)])) t
        refine XS.iload X25.here hx rfl (hb hby d_put_52) rfl ?_
        show Steps p.tables e below (T25.setTop (mkF m 54 #[.val (.ref a1), .val (.long k1), .second, .val (.int v1), .val (.int (15 : Int32)), .val (.int (Int32.ofNat ((own_hn k1 + e') % 16)))] [(.int (Int32.ofNat ((own_hn k1 + e') % 16))), (.ref rk)])) t
        exact k)
      obtain ⟨cl26, Ar26, Sz26, Gt26⟩ := id Kf
      have hin26 : ¬ ((Int32.ofNat ((own_hn k1 + e') % 16)) < 0 ∨ cl26.slots.size ≤ ((Int32.ofNat ((own_hn k1 + e') % 16))).toNatClampNeg) := by rw [Sz26]; exact (own_in (own_ix hlt) hlt)
      have hat26 : cl26.slots[((Int32.ofNat ((own_hn k1 + e') % 16))).toNatClampNeg]? = some (.long (kf ((own_hn k1 + e') % 16))) := (Gt26 _ (Nat.lt_of_lt_of_eq (Nat.lt_of_not_le fun q => hin26 (Or.inr q)) Sz26)).trans (congrArg some (by rw [own_cl (own_ix hlt)]))
      replace pre : Pth p e below S0 T25 (mkF m 36 #[.val (.ref a1), .val (.long k1), .second, .val (.int v1), .val (.int (15 : Int32)), .val (.int (((Int32.ofNat ((own_hn k1 + e') % 16)) + (1 : Int32)) &&& (15 : Int32)))] []) := fun t k => pre t (by
        show Steps p.tables e below (T25.setTop (mkF m 54 #[.val (.ref a1), .val (.long k1), .second, .val (.int v1), .val (.int (15 : Int32)), .val (.int (Int32.ofNat ((own_hn k1 + e') % 16)))] [(.int (Int32.ofNat ((own_hn k1 + e') % 16))), (.ref rk)])) t
        refine X25.laload hx (j := (Int32.ofNat ((own_hn k1 + e') % 16))) (v := (.long (kf ((own_hn k1 + e') % 16)))) (by rw [e25]; exact Ar26.1) (State.isArrayOf_alike hZ.alike Ar26.2.1) Ar26.2.2 hin26 hat26 (g := (mkF m 54 #[.val (.ref a1), .val (.long k1), .second, .val (.int v1), .val (.int (15 : Int32)), .val (.int (Int32.ofNat ((own_hn k1 + e') % 16)))] [(.int (Int32.ofNat ((own_hn k1 + e') % 16))), (.ref rk)])) rfl rfl (hb hby d_put_54) _ ?_
        show Steps p.tables e below (T25.setTop (mkF m 55 #[.val (.ref a1), .val (.long k1), .second, .val (.int v1), .val (.int (15 : Int32)), .val (.int (Int32.ofNat ((own_hn k1 + e') % 16)))] [(.long (kf ((own_hn k1 + e') % 16)))])) t
        refine X25.ldc2Long hx hown (mvT hZ (hw _ (List.mem_of_getElem? (i := 17) rfl))) (g := (mkF m 55 #[.val (.ref a1), .val (.long k1), .second, .val (.int v1), .val (.int (15 : Int32)), .val (.int (Int32.ofNat ((own_hn k1 + e') % 16)))] [(.long (kf ((own_hn k1 + e') % 16)))])) rfl (hb hby d_put_55) _ ?_
        show Steps p.tables e below (T25.setTop (mkF m 58 #[.val (.ref a1), .val (.long k1), .second, .val (.int v1), .val (.int (15 : Int32)), .val (.int (Int32.ofNat ((own_hn k1 + e') % 16)))] [(.long (-1 : Int64)), (.long (kf ((own_hn k1 + e') % 16)))])) t
        refine XT.lcmp X25.here hx rfl (hb hby d_put_58) rfl ?_
        show Steps p.tables e below (T25.setTop (mkF m 59 #[.val (.ref a1), .val (.long k1), .second, .val (.int v1), .val (.int (15 : Int32)), .val (.int (Int32.ofNat ((own_hn k1 + e') % 16)))] [(.int (XT.cmpL (kf ((own_hn k1 + e') % 16)) (-1 : Int64)))])) t
        refine XS.ifNo X25.here hx rfl (hb hby d_put_59) rfl (XT.ll_eq_f (fun q => hns (Or.inr q))) ?_
        show Steps p.tables e below (T25.setTop (mkF m 62 #[.val (.ref a1), .val (.long k1), .second, .val (.int v1), .val (.int (15 : Int32)), .val (.int (Int32.ofNat ((own_hn k1 + e') % 16)))] [])) t
        refine XS.iload X25.here hx rfl (hb hby d_put_62) rfl ?_
        show Steps p.tables e below (T25.setTop (mkF m 64 #[.val (.ref a1), .val (.long k1), .second, .val (.int v1), .val (.int (15 : Int32)), .val (.int (Int32.ofNat ((own_hn k1 + e') % 16)))] [(.int (Int32.ofNat ((own_hn k1 + e') % 16)))])) t
        refine XS.iconst X25.here hx rfl (hb hby d_put_64) ?_
        show Steps p.tables e below (T25.setTop (mkF m 65 #[.val (.ref a1), .val (.long k1), .second, .val (.int v1), .val (.int (15 : Int32)), .val (.int (Int32.ofNat ((own_hn k1 + e') % 16)))] [(.int (1 : Int32)), (.int (Int32.ofNat ((own_hn k1 + e') % 16)))])) t
        refine XS.iadd X25.here hx rfl (hb hby d_put_65) rfl ?_
        show Steps p.tables e below (T25.setTop (mkF m 66 #[.val (.ref a1), .val (.long k1), .second, .val (.int v1), .val (.int (15 : Int32)), .val (.int (Int32.ofNat ((own_hn k1 + e') % 16)))] [(.int ((Int32.ofNat ((own_hn k1 + e') % 16)) + (1 : Int32)))])) t
        refine XS.iload X25.here hx rfl (hb hby d_put_66) rfl ?_
        show Steps p.tables e below (T25.setTop (mkF m 68 #[.val (.ref a1), .val (.long k1), .second, .val (.int v1), .val (.int (15 : Int32)), .val (.int (Int32.ofNat ((own_hn k1 + e') % 16)))] [(.int (15 : Int32)), (.int ((Int32.ofNat ((own_hn k1 + e') % 16)) + (1 : Int32)))])) t
        refine XS.iand X25.here hx rfl (hb hby d_put_68) rfl ?_
        show Steps p.tables e below (T25.setTop (mkF m 69 #[.val (.ref a1), .val (.long k1), .second, .val (.int v1), .val (.int (15 : Int32)), .val (.int (Int32.ofNat ((own_hn k1 + e') % 16)))] [(.int (((Int32.ofNat ((own_hn k1 + e') % 16)) + (1 : Int32)) &&& (15 : Int32)))])) t
        refine XS.istore X25.here hx rfl (hb hby d_put_69) rfl (l' := #[.val (.ref a1), .val (.long k1), .second, .val (.int v1), .val (.int (15 : Int32)), .val (.int (((Int32.ofNat ((own_hn k1 + e') % 16)) + (1 : Int32)) &&& (15 : Int32)))]) rfl ?_
        show Steps p.tables e below (T25.setTop (mkF m 71 #[.val (.ref a1), .val (.long k1), .second, .val (.int v1), .val (.int (15 : Int32)), .val (.int (((Int32.ofNat ((own_hn k1 + e') % 16)) + (1 : Int32)) &&& (15 : Int32)))] [])) t
        refine XS.goto X25.here hx rfl (pc0 := 71) (pc' := 36) rfl (hb hby d_put_71) (by decide) (by decide) ?_
        show Steps p.tables e below (T25.setTop (mkF m 36 #[.val (.ref a1), .val (.long k1), .second, .val (.int v1), .val (.int (15 : Int32)), .val (.int (((Int32.ofNat ((own_hn k1 + e') % 16)) + (1 : Int32)) &&& (15 : Int32)))] [])) t
        exact k)
      rw [own_step] at pre
      exact ih (e' + 1) _ (by omega) X25 e25 pre
  obtain ⟨T, X, eT, pre⟩ := loop d 0 _ (Nat.zero_add _) Xz e18 pre
  have hlt : ((own_hn k1 + d) % 16) < 16 := Nat.mod_lt _ (by decide)
  have hsl : OSlot kf k1 ((own_hn k1 + d) % 16) := ⟨d, rfl, hd1, hd2⟩
  obtain ⟨hz1, hz2, hz3, hz4, hz5⟩ := own_szb hz
  replace pre : Pth p e below S0 T (mkF m 75 #[.val (.ref a1), .val (.long k1), .second, .val (.int v1), .val (.int (15 : Int32)), .val (.int (Int32.ofNat ((own_hn k1 + d) % 16)))] [(.ref a1)]) := fun t k => pre t (by
    show Steps p.tables e below (T.setTop (mkF m 74 #[.val (.ref a1), .val (.long k1), .second, .val (.int v1), .val (.int (15 : Int32)), .val (.int (Int32.ofNat ((own_hn k1 + d) % 16)))] [])) t
    refine XS.aloadN X.here hx rfl (hb hby d_put_74) rfl rfl ?_
    show Steps p.tables e below (T.setTop (mkF m 75 #[.val (.ref a1), .val (.long k1), .second, .val (.int v1), .val (.int (15 : Int32)), .val (.int (Int32.ofNat ((own_hn k1 + d) % 16)))] [(.ref a1)])) t
    exact k)
  obtain ⟨T27, X27, e27, st27⟩ := getF X hx hZ hown (host := "") (Or.inl (hw _ (List.mem_of_getElem? (i := 15) rfl))) Via.refl eT F1 (g := (mkF m 75 #[.val (.ref a1), .val (.long k1), .second, .val (.int v1), .val (.int (15 : Int32)), .val (.int (Int32.ofNat ((own_hn k1 + d) % 16)))] [(.ref a1)])) rfl rfl (hb hby d_put_75)
  replace pre : Pth p e below S0 T27 (mkF m 78 #[.val (.ref a1), .val (.long k1), .second, .val (.int v1), .val (.int (15 : Int32)), .val (.int (Int32.ofNat ((own_hn k1 + d) % 16)))] [(.ref rk)]) := fun t k => pre t (st27 _ k)
  replace pre : Pth p e below S0 T27 (mkF m 80 #[.val (.ref a1), .val (.long k1), .second, .val (.int v1), .val (.int (15 : Int32)), .val (.int (Int32.ofNat ((own_hn k1 + d) % 16)))] [(.int (Int32.ofNat ((own_hn k1 + d) % 16))), (.ref rk)]) := fun t k => pre t (by
    show Steps p.tables e below (T27.setTop (mkF m 78 #[.val (.ref a1), .val (.long k1), .second, .val (.int v1), .val (.int (15 : Int32)), .val (.int (Int32.ofNat ((own_hn k1 + d) % 16)))] [(.ref rk)])) t
    refine XS.iload X27.here hx rfl (hb hby d_put_78) rfl ?_
    show Steps p.tables e below (T27.setTop (mkF m 80 #[.val (.ref a1), .val (.long k1), .second, .val (.int v1), .val (.int (15 : Int32)), .val (.int (Int32.ofNat ((own_hn k1 + d) % 16)))] [(.int (Int32.ofNat ((own_hn k1 + d) % 16))), (.ref rk)])) t
    exact k)
  obtain ⟨cl28, Ar28, Sz28, Gt28⟩ := id Kf
  have hin28 : ¬ ((Int32.ofNat ((own_hn k1 + d) % 16)) < 0 ∨ cl28.slots.size ≤ ((Int32.ofNat ((own_hn k1 + d) % 16))).toNatClampNeg) := by rw [Sz28]; exact (own_in (own_ix hlt) hlt)
  have hat28 : cl28.slots[((Int32.ofNat ((own_hn k1 + d) % 16))).toNatClampNeg]? = some (.long (kf ((own_hn k1 + d) % 16))) := (Gt28 _ (Nat.lt_of_lt_of_eq (Nat.lt_of_not_le fun q => hin28 (Or.inr q)) Sz28)).trans (congrArg some (by rw [own_cl (own_ix hlt)]))
  replace pre : Pth p e below S0 T27 (mkF m 85 #[.val (.ref a1), .val (.long k1), .second, .val (.int v1), .val (.int (15 : Int32)), .val (.int (Int32.ofNat ((own_hn k1 + d) % 16)))] [(.int (XT.cmpL (kf ((own_hn k1 + d) % 16)) (-1 : Int64)))]) := fun t k => pre t (by
    show Steps p.tables e below (T27.setTop (mkF m 80 #[.val (.ref a1), .val (.long k1), .second, .val (.int v1), .val (.int (15 : Int32)), .val (.int (Int32.ofNat ((own_hn k1 + d) % 16)))] [(.int (Int32.ofNat ((own_hn k1 + d) % 16))), (.ref rk)])) t
    refine X27.laload hx (j := (Int32.ofNat ((own_hn k1 + d) % 16))) (v := (.long (kf ((own_hn k1 + d) % 16)))) (by rw [e27]; exact Ar28.1) (State.isArrayOf_alike hZ.alike Ar28.2.1) Ar28.2.2 hin28 hat28 (g := (mkF m 80 #[.val (.ref a1), .val (.long k1), .second, .val (.int v1), .val (.int (15 : Int32)), .val (.int (Int32.ofNat ((own_hn k1 + d) % 16)))] [(.int (Int32.ofNat ((own_hn k1 + d) % 16))), (.ref rk)])) rfl rfl (hb hby d_put_80) _ ?_
    show Steps p.tables e below (T27.setTop (mkF m 81 #[.val (.ref a1), .val (.long k1), .second, .val (.int v1), .val (.int (15 : Int32)), .val (.int (Int32.ofNat ((own_hn k1 + d) % 16)))] [(.long (kf ((own_hn k1 + d) % 16)))])) t
    refine X27.ldc2Long hx hown (mvT hZ (hw _ (List.mem_of_getElem? (i := 17) rfl))) (g := (mkF m 81 #[.val (.ref a1), .val (.long k1), .second, .val (.int v1), .val (.int (15 : Int32)), .val (.int (Int32.ofNat ((own_hn k1 + d) % 16)))] [(.long (kf ((own_hn k1 + d) % 16)))])) rfl (hb hby d_put_81) _ ?_
    show Steps p.tables e below (T27.setTop (mkF m 84 #[.val (.ref a1), .val (.long k1), .second, .val (.int v1), .val (.int (15 : Int32)), .val (.int (Int32.ofNat ((own_hn k1 + d) % 16)))] [(.long (-1 : Int64)), (.long (kf ((own_hn k1 + d) % 16)))])) t
    refine XT.lcmp X27.here hx rfl (hb hby d_put_84) rfl ?_
    show Steps p.tables e below (T27.setTop (mkF m 85 #[.val (.ref a1), .val (.long k1), .second, .val (.int v1), .val (.int (15 : Int32)), .val (.int (Int32.ofNat ((own_hn k1 + d) % 16)))] [(.int (XT.cmpL (kf ((own_hn k1 + d) % 16)) (-1 : Int64)))])) t
    exact k)
  by_cases z0 : (kf ((own_hn k1 + d) % 16)) = (-1 : Int64)
  · replace pre : Pth p e below S0 T27 (mkF m 89 #[.val (.ref a1), .val (.long k1), .second, .val (.int v1), .val (.int (15 : Int32)), .val (.int (Int32.ofNat ((own_hn k1 + d) % 16)))] [(.ref a1)]) := fun t k => pre t (by
      show Steps p.tables e below (T27.setTop (mkF m 85 #[.val (.ref a1), .val (.long k1), .second, .val (.int v1), .val (.int (15 : Int32)), .val (.int (Int32.ofNat ((own_hn k1 + d) % 16)))] [(.int (XT.cmpL (kf ((own_hn k1 + d) % 16)) (-1 : Int64)))])) t
      refine XS.ifNo X27.here hx rfl (hb hby d_put_85) rfl (XT.ll_ne_f z0) ?_
      show Steps p.tables e below (T27.setTop (mkF m 88 #[.val (.ref a1), .val (.long k1), .second, .val (.int v1), .val (.int (15 : Int32)), .val (.int (Int32.ofNat ((own_hn k1 + d) % 16)))] [])) t
      refine XS.aloadN X27.here hx rfl (hb hby d_put_88) rfl rfl ?_
      show Steps p.tables e below (T27.setTop (mkF m 89 #[.val (.ref a1), .val (.long k1), .second, .val (.int v1), .val (.int (15 : Int32)), .val (.int (Int32.ofNat ((own_hn k1 + d) % 16)))] [(.ref a1)])) t
      exact k)
    obtain ⟨T29, X29, e29, st29⟩ := getF X27 hx hZ hown (host := "") (Or.inl (hw _ (List.mem_of_getElem? (i := 46) rfl))) Via.refl e27 F4 (g := (mkF m 89 #[.val (.ref a1), .val (.long k1), .second, .val (.int v1), .val (.int (15 : Int32)), .val (.int (Int32.ofNat ((own_hn k1 + d) % 16)))] [(.ref a1)])) rfl rfl (hb hby d_put_89)
    replace pre : Pth p e below S0 T29 (mkF m 92 #[.val (.ref a1), .val (.long k1), .second, .val (.int v1), .val (.int (15 : Int32)), .val (.int (Int32.ofNat ((own_hn k1 + d) % 16)))] [(.int sz)]) := fun t k => pre t (st29 _ k)
    replace pre : Pth p e below S0 T29 (mkF m 108 #[.val (.ref a1), .val (.long k1), .second, .val (.int v1), .val (.int (15 : Int32)), .val (.int (Int32.ofNat ((own_hn k1 + d) % 16)))] [(.ref a1)]) := fun t k => pre t (by
      show Steps p.tables e below (T29.setTop (mkF m 92 #[.val (.ref a1), .val (.long k1), .second, .val (.int v1), .val (.int (15 : Int32)), .val (.int (Int32.ofNat ((own_hn k1 + d) % 16)))] [(.int sz)])) t
      refine X29.ldcInt hx hown (mvT hZ (hw _ (List.mem_of_getElem? (i := 48) rfl))) (g := (mkF m 92 #[.val (.ref a1), .val (.long k1), .second, .val (.int v1), .val (.int (15 : Int32)), .val (.int (Int32.ofNat ((own_hn k1 + d) % 16)))] [(.int sz)])) rfl (hb hby d_put_92) _ ?_
      show Steps p.tables e below (T29.setTop (mkF m 94 #[.val (.ref a1), .val (.long k1), .second, .val (.int v1), .val (.int (15 : Int32)), .val (.int (Int32.ofNat ((own_hn k1 + d) % 16)))] [(.int (805306368 : Int32)), (.int sz)])) t
      refine XS.icmpYes X29.here hx rfl (pc0 := 94) (pc' := 107) rfl (hb hby d_put_94) rfl (XT.ii_ne_t hz1) (by decide) (by decide) ?_
      show Steps p.tables e below (T29.setTop (mkF m 107 #[.val (.ref a1), .val (.long k1), .second, .val (.int v1), .val (.int (15 : Int32)), .val (.int (Int32.ofNat ((own_hn k1 + d) % 16)))] [])) t
      refine XS.aloadN X29.here hx rfl (hb hby d_put_107) rfl rfl ?_
      show Steps p.tables e below (T29.setTop (mkF m 108 #[.val (.ref a1), .val (.long k1), .second, .val (.int v1), .val (.int (15 : Int32)), .val (.int (Int32.ofNat ((own_hn k1 + d) % 16)))] [(.ref a1)])) t
      exact k)
    obtain ⟨T30, X30, e30, st30⟩ := getF X29 hx hZ hown (host := "") (Or.inl (hw _ (List.mem_of_getElem? (i := 15) rfl))) Via.refl e29 F1 (g := (mkF m 108 #[.val (.ref a1), .val (.long k1), .second, .val (.int v1), .val (.int (15 : Int32)), .val (.int (Int32.ofNat ((own_hn k1 + d) % 16)))] [(.ref a1)])) rfl rfl (hb hby d_put_108)
    replace pre : Pth p e below S0 T30 (mkF m 111 #[.val (.ref a1), .val (.long k1), .second, .val (.int v1), .val (.int (15 : Int32)), .val (.int (Int32.ofNat ((own_hn k1 + d) % 16)))] [(.ref rk)]) := fun t k => pre t (st30 _ k)
    replace pre : Pth p e below S0 T30 (mkF m 114 #[.val (.ref a1), .val (.long k1), .second, .val (.int v1), .val (.int (15 : Int32)), .val (.int (Int32.ofNat ((own_hn k1 + d) % 16)))] [(.long k1), (.int (Int32.ofNat ((own_hn k1 + d) % 16))), (.ref rk)]) := fun t k => pre t (by
      show Steps p.tables e below (T30.setTop (mkF m 111 #[.val (.ref a1), .val (.long k1), .second, .val (.int v1), .val (.int (15 : Int32)), .val (.int (Int32.ofNat ((own_hn k1 + d) % 16)))] [(.ref rk)])) t
      refine XS.iload X30.here hx rfl (hb hby d_put_111) rfl ?_
      show Steps p.tables e below (T30.setTop (mkF m 113 #[.val (.ref a1), .val (.long k1), .second, .val (.int v1), .val (.int (15 : Int32)), .val (.int (Int32.ofNat ((own_hn k1 + d) % 16)))] [(.int (Int32.ofNat ((own_hn k1 + d) % 16))), (.ref rk)])) t
      refine XS.lloadN X30.here hx rfl (hb hby d_put_113) rfl ?_
      show Steps p.tables e below (T30.setTop (mkF m 114 #[.val (.ref a1), .val (.long k1), .second, .val (.int v1), .val (.int (15 : Int32)), .val (.int (Int32.ofNat ((own_hn k1 + d) % 16)))] [(.long k1), (.int (Int32.ofNat ((own_hn k1 + d) % 16))), (.ref rk)])) t
      exact k)
    obtain ⟨cl31, Ar31, Sz31, -⟩ := id Kf
    obtain ⟨T31, h31, X31, e31, W31, st31⟩ := stJ X30 hx hZ e30 Ar31 (j := (Int32.ofNat ((own_hn k1 + d) % 16))) (by rw [Sz31]; exact (own_in (own_ix hlt) hlt)) (g := (mkF m 114 #[.val (.ref a1), .val (.long k1), .second, .val (.int v1), .val (.int (15 : Int32)), .val (.int (Int32.ofNat ((own_hn k1 + d) % 16)))] [(.long k1), (.int (Int32.ofNat ((own_hn k1 + d) % 16))), (.ref rk)])) rfl rfl (hb hby d_put_114)
    have F31 := OFun.set Kf W31
    have N31 := Fr.snoc X31 Nz gk
    replace pre : Pth p e below S0 T31 (mkF m 115 #[.val (.ref a1), .val (.long k1), .second, .val (.int v1), .val (.int (15 : Int32)), .val (.int (Int32.ofNat ((own_hn k1 + d) % 16)))] []) := fun t k => pre t (st31 _ k)
    have F1a := F1.other W31 (Or.inl ne1)
    have F2a := F2.other W31 (Or.inl ne1)
    have F3a := F3.other W31 (Or.inl ne1)
    have F4a := F4.other W31 (Or.inl ne1)
    have Ea1 := Ea.wr W31
    have Va := Vf.other W31 ne3.symm
    replace pre : Pth p e below S0 T31 (mkF m 117 #[.val (.ref a1), .val (.long k1), .second, .val (.int v1), .val (.int (15 : Int32)), .val (.int (Int32.ofNat ((own_hn k1 + d) % 16)))] [(.ref a1), (.ref a1)]) := fun t k => pre t (by
      show Steps p.tables e below (T31.setTop (mkF m 115 #[.val (.ref a1), .val (.long k1), .second, .val (.int v1), .val (.int (15 : Int32)), .val (.int (Int32.ofNat ((own_hn k1 + d) % 16)))] [])) t
      refine XS.aloadN X31.here hx rfl (hb hby d_put_115) rfl rfl ?_
      show Steps p.tables e below (T31.setTop (mkF m 116 #[.val (.ref a1), .val (.long k1), .second, .val (.int v1), .val (.int (15 : Int32)), .val (.int (Int32.ofNat ((own_hn k1 + d) % 16)))] [(.ref a1)])) t
      refine XS.dup X31.here hx rfl (hb hby d_put_116) rfl rfl ?_
      show Steps p.tables e below (T31.setTop (mkF m 117 #[.val (.ref a1), .val (.long k1), .second, .val (.int v1), .val (.int (15 : Int32)), .val (.int (Int32.ofNat ((own_hn k1 + d) % 16)))] [(.ref a1), (.ref a1)])) t
      exact k)
    obtain ⟨T32, X32, e32, st32⟩ := getF X31 hx hZ hown (host := "") (Or.inl (hw _ (List.mem_of_getElem? (i := 46) rfl))) Via.refl e31 F4a (g := (mkF m 117 #[.val (.ref a1), .val (.long k1), .second, .val (.int v1), .val (.int (15 : Int32)), .val (.int (Int32.ofNat ((own_hn k1 + d) % 16)))] [(.ref a1), (.ref a1)])) rfl rfl (hb hby d_put_117)
    replace pre : Pth p e below S0 T32 (mkF m 120 #[.val (.ref a1), .val (.long k1), .second, .val (.int v1), .val (.int (15 : Int32)), .val (.int (Int32.ofNat ((own_hn k1 + d) % 16)))] [(.int sz), (.ref a1)]) := fun t k => pre t (st32 _ k)
    replace pre : Pth p e below S0 T32 (mkF m 122 #[.val (.ref a1), .val (.long k1), .second, .val (.int v1), .val (.int (15 : Int32)), .val (.int (Int32.ofNat ((own_hn k1 + d) % 16)))] [(.int (sz + (1 : Int32))), (.ref a1)]) := fun t k => pre t (by
      show Steps p.tables e below (T32.setTop (mkF m 120 #[.val (.ref a1), .val (.long k1), .second, .val (.int v1), .val (.int (15 : Int32)), .val (.int (Int32.ofNat ((own_hn k1 + d) % 16)))] [(.int sz), (.ref a1)])) t
      refine XS.iconst X32.here hx rfl (hb hby d_put_120) ?_
      show Steps p.tables e below (T32.setTop (mkF m 121 #[.val (.ref a1), .val (.long k1), .second, .val (.int v1), .val (.int (15 : Int32)), .val (.int (Int32.ofNat ((own_hn k1 + d) % 16)))] [(.int (1 : Int32)), (.int sz), (.ref a1)])) t
      refine XS.iadd X32.here hx rfl (hb hby d_put_121) rfl ?_
      show Steps p.tables e below (T32.setTop (mkF m 122 #[.val (.ref a1), .val (.long k1), .second, .val (.int v1), .val (.int (15 : Int32)), .val (.int (Int32.ofNat ((own_hn k1 + d) % 16)))] [(.int (sz + (1 : Int32))), (.ref a1)])) t
      exact k)
    obtain ⟨T33, h33, X33, e33, W33, st33⟩ := putF X32 hx hZ hown (host := "") (Or.inl (hw _ (List.mem_of_getElem? (i := 46) rfl))) Via.refl e32 F4a Ea1 (Or.inl (hw _ (List.mem_of_getElem? (i := 47) rfl))) (hw _ (List.mem_of_getElem? (i := 2) rfl)) (ty := .int) (by decide) rfl rfl (g := (mkF m 122 #[.val (.ref a1), .val (.long k1), .second, .val (.int v1), .val (.int (15 : Int32)), .val (.int (Int32.ofNat ((own_hn k1 + d) % 16)))] [(.int (sz + (1 : Int32))), (.ref a1)])) rfl rfl (hb hby d_put_122)
    have N33 := Fr.snoc X33 N31 ga
    replace pre : Pth p e below S0 T33 (mkF m 125 #[.val (.ref a1), .val (.long k1), .second, .val (.int v1), .val (.int (15 : Int32)), .val (.int (Int32.ofNat ((own_hn k1 + d) % 16)))] []) := fun t k => pre t (st33 _ k)
    have F1b := F1a.other W33 (Or.inr (slot_ne (Or.inl (hw _ (List.mem_of_getElem? (i := 16) rfl))) (Or.inl (hw _ (List.mem_of_getElem? (i := 47) rfl))) (by decide) (t := (.array .long)) (t' := .int) (by decide) (by decide)))
    have F2b := F2a.other W33 (Or.inr (slot_ne (Or.inl (hw _ (List.mem_of_getElem? (i := 24) rfl))) (Or.inl (hw _ (List.mem_of_getElem? (i := 47) rfl))) (by decide) (t := (.array .int)) (t' := .int) (by decide) (by decide)))
    have F3b := F3a.other W33 (Or.inr (slot_ne (Or.inl (hw _ (List.mem_of_getElem? (i := 35) rfl))) (Or.inl (hw _ (List.mem_of_getElem? (i := 47) rfl))) (by decide) (t := .int) (t' := .int) (by decide) (by decide)))
    have F4b := F4a.same W33
    have Eb := Ea1.wr W33
    have Kb := F31.other W33 ne1.symm
    have Vb := Va.other W33 ne2.symm
    replace pre : Pth p e below S0 T33 (mkF m 126 #[.val (.ref a1), .val (.long k1), .second, .val (.int v1), .val (.int (15 : Int32)), .val (.int (Int32.ofNat ((own_hn k1 + d) % 16)))] [(.ref a1)]) := fun t k => pre t (by
      show Steps p.tables e below (T33.setTop (mkF m 125 #[.val (.ref a1), .val (.long k1), .second, .val (.int v1), .val (.int (15 : Int32)), .val (.int (Int32.ofNat ((own_hn k1 + d) % 16)))] [])) t
      refine XS.aloadN X33.here hx rfl (hb hby d_put_125) rfl rfl ?_
      show Steps p.tables e below (T33.setTop (mkF m 126 #[.val (.ref a1), .val (.long k1), .second, .val (.int v1), .val (.int (15 : Int32)), .val (.int (Int32.ofNat ((own_hn k1 + d) % 16)))] [(.ref a1)])) t
      exact k)
    obtain ⟨T34, X34, e34, st34⟩ := getF X33 hx hZ hown (host := "") (Or.inl (hw _ (List.mem_of_getElem? (i := 23) rfl))) Via.refl e33 F2b (g := (mkF m 126 #[.val (.ref a1), .val (.long k1), .second, .val (.int v1), .val (.int (15 : Int32)), .val (.int (Int32.ofNat ((own_hn k1 + d) % 16)))] [(.ref a1)])) rfl rfl (hb hby d_put_126)
    replace pre : Pth p e below S0 T34 (mkF m 129 #[.val (.ref a1), .val (.long k1), .second, .val (.int v1), .val (.int (15 : Int32)), .val (.int (Int32.ofNat ((own_hn k1 + d) % 16)))] [(.ref rv)]) := fun t k => pre t (st34 _ k)
    replace pre : Pth p e below S0 T34 (mkF m 132 #[.val (.ref a1), .val (.long k1), .second, .val (.int v1), .val (.int (15 : Int32)), .val (.int (Int32.ofNat ((own_hn k1 + d) % 16)))] [(.int v1), (.int (Int32.ofNat ((own_hn k1 + d) % 16))), (.ref rv)]) := fun t k => pre t (by
      show Steps p.tables e below (T34.setTop (mkF m 129 #[.val (.ref a1), .val (.long k1), .second, .val (.int v1), .val (.int (15 : Int32)), .val (.int (Int32.ofNat ((own_hn k1 + d) % 16)))] [(.ref rv)])) t
      refine XS.iload X34.here hx rfl (hb hby d_put_129) rfl ?_
      show Steps p.tables e below (T34.setTop (mkF m 131 #[.val (.ref a1), .val (.long k1), .second, .val (.int v1), .val (.int (15 : Int32)), .val (.int (Int32.ofNat ((own_hn k1 + d) % 16)))] [(.int (Int32.ofNat ((own_hn k1 + d) % 16))), (.ref rv)])) t
      refine XS.iloadN X34.here hx rfl (hb hby d_put_131) rfl ?_
      show Steps p.tables e below (T34.setTop (mkF m 132 #[.val (.ref a1), .val (.long k1), .second, .val (.int v1), .val (.int (15 : Int32)), .val (.int (Int32.ofNat ((own_hn k1 + d) % 16)))] [(.int v1), (.int (Int32.ofNat ((own_hn k1 + d) % 16))), (.ref rv)])) t
      exact k)
    obtain ⟨cl35, Ar35, Sz35, -⟩ := id Vb
    obtain ⟨T35, h35, X35, e35, W35, st35⟩ := stI X34 hx hZ e34 Ar35 (j := (Int32.ofNat ((own_hn k1 + d) % 16))) (by rw [Sz35]; exact (own_in (own_ix hlt) hlt)) (g := (mkF m 132 #[.val (.ref a1), .val (.long k1), .second, .val (.int v1), .val (.int (15 : Int32)), .val (.int (Int32.ofNat ((own_hn k1 + d) % 16)))] [(.int v1), (.int (Int32.ofNat ((own_hn k1 + d) % 16))), (.ref rv)])) rfl rfl (hb hby d_put_132)
    have F35 := OFun.set Vb W35
    have N35 := Fr.snoc X35 N33 gv
    replace pre : Pth p e below S0 T35 (mkF m 133 #[.val (.ref a1), .val (.long k1), .second, .val (.int v1), .val (.int (15 : Int32)), .val (.int (Int32.ofNat ((own_hn k1 + d) % 16)))] []) := fun t k => pre t (st35 _ k)
    have R1 := F1b.other W35 (Or.inl ne2)
    have R2 := F2b.other W35 (Or.inl ne2)
    have R3 := F3b.other W35 (Or.inl ne2)
    have R4 := F4b.other W35 (Or.inl ne2)
    have RE := Eb.wr W35
    have RK := Kb.other W35 ne3
    replace pre : Pth p e below S0 T35 (mkF m 134 #[.val (.ref a1), .val (.long k1), .second, .val (.int v1), .val (.int (15 : Int32)), .val (.int (Int32.ofNat ((own_hn k1 + d) % 16)))] [(.ref a1)]) := fun t k => pre t (by
      show Steps p.tables e below (T35.setTop (mkF m 133 #[.val (.ref a1), .val (.long k1), .second, .val (.int v1), .val (.int (15 : Int32)), .val (.int (Int32.ofNat ((own_hn k1 + d) % 16)))] [])) t
      refine XS.aloadN X35.here hx rfl (hb hby d_put_133) rfl rfl ?_
      show Steps p.tables e below (T35.setTop (mkF m 134 #[.val (.ref a1), .val (.long k1), .second, .val (.int v1), .val (.int (15 : Int32)), .val (.int (Int32.ofNat ((own_hn k1 + d) % 16)))] [(.ref a1)])) t
      exact k)
    obtain ⟨T36, X36, e36, st36⟩ := getF X35 hx hZ hown (host := "") (Or.inl (hw _ (List.mem_of_getElem? (i := 46) rfl))) Via.refl e35 R4 (g := (mkF m 134 #[.val (.ref a1), .val (.long k1), .second, .val (.int v1), .val (.int (15 : Int32)), .val (.int (Int32.ofNat ((own_hn k1 + d) % 16)))] [(.ref a1)])) rfl rfl (hb hby d_put_134)
    replace pre : Pth p e below S0 T36 (mkF m 137 #[.val (.ref a1), .val (.long k1), .second, .val (.int v1), .val (.int (15 : Int32)), .val (.int (Int32.ofNat ((own_hn k1 + d) % 16)))] [(.int (sz + (1 : Int32)))]) := fun t k => pre t (st36 _ k)
    replace pre : Pth p e below S0 T36 (mkF m 138 #[.val (.ref a1), .val (.long k1), .second, .val (.int v1), .val (.int (15 : Int32)), .val (.int (Int32.ofNat ((own_hn k1 + d) % 16)))] [(.ref a1), (.int (sz + (1 : Int32)))]) := fun t k => pre t (by
      show Steps p.tables e below (T36.setTop (mkF m 137 #[.val (.ref a1), .val (.long k1), .second, .val (.int v1), .val (.int (15 : Int32)), .val (.int (Int32.ofNat ((own_hn k1 + d) % 16)))] [(.int (sz + (1 : Int32)))])) t
      refine XS.aloadN X36.here hx rfl (hb hby d_put_137) rfl rfl ?_
      show Steps p.tables e below (T36.setTop (mkF m 138 #[.val (.ref a1), .val (.long k1), .second, .val (.int v1), .val (.int (15 : Int32)), .val (.int (Int32.ofNat ((own_hn k1 + d) % 16)))] [(.ref a1), (.int (sz + (1 : Int32)))])) t
      exact k)
    obtain ⟨T37, X37, e37, st37⟩ := getF X36 hx hZ hown (host := "") (Or.inl (hw _ (List.mem_of_getElem? (i := 15) rfl))) Via.refl e36 R1 (g := (mkF m 138 #[.val (.ref a1), .val (.long k1), .second, .val (.int v1), .val (.int (15 : Int32)), .val (.int (Int32.ofNat ((own_hn k1 + d) % 16)))] [(.ref a1), (.int (sz + (1 : Int32)))])) rfl rfl (hb hby d_put_138)
    replace pre : Pth p e below S0 T37 (mkF m 141 #[.val (.ref a1), .val (.long k1), .second, .val (.int v1), .val (.int (15 : Int32)), .val (.int (Int32.ofNat ((own_hn k1 + d) % 16)))] [(.ref rk), (.int (sz + (1 : Int32)))]) := fun t k => pre t (st37 _ k)
    obtain ⟨cl38, Ar38, Sz38, -⟩ := id RK
    have hln38 : cl38.slots.size.toInt32 = (16 : Int32) := (congrArg Nat.toInt32 Sz38).trans (rfl)
    replace pre : Pth p e below S0 T37 (mkF m 153 #[.val (.ref a1), .val (.long k1), .second, .val (.int v1), .val (.int (15 : Int32)), .val (.int (Int32.ofNat ((own_hn k1 + d) % 16)))] []) := fun t k => pre t (by
      show Steps p.tables e below (T37.setTop (mkF m 141 #[.val (.ref a1), .val (.long k1), .second, .val (.int v1), .val (.int (15 : Int32)), .val (.int (Int32.ofNat ((own_hn k1 + d) % 16)))] [(.ref rk), (.int (sz + (1 : Int32)))])) t
      refine X37.arraylength hx (by rw [e37]; exact Ar38.1) (State.isArrayOf_alike hZ.alike Ar38.2.1) (g := (mkF m 141 #[.val (.ref a1), .val (.long k1), .second, .val (.int v1), .val (.int (15 : Int32)), .val (.int (Int32.ofNat ((own_hn k1 + d) % 16)))] [(.ref rk), (.int (sz + (1 : Int32)))])) rfl rfl (hb hby d_put_141) _ ?_
      rw [hln38]
      show Steps p.tables e below (T37.setTop (mkF m 142 #[.val (.ref a1), .val (.long k1), .second, .val (.int v1), .val (.int (15 : Int32)), .val (.int (Int32.ofNat ((own_hn k1 + d) % 16)))] [(.int (16 : Int32)), (.int (sz + (1 : Int32)))])) t
      refine XS.iconst X37.here hx rfl (hb hby d_put_142) ?_
      show Steps p.tables e below (T37.setTop (mkF m 143 #[.val (.ref a1), .val (.long k1), .second, .val (.int v1), .val (.int (15 : Int32)), .val (.int (Int32.ofNat ((own_hn k1 + d) % 16)))] [(.int (4 : Int32)), (.int (16 : Int32)), (.int (sz + (1 : Int32)))])) t
      refine XS.idiv X37.here hx rfl (hb hby d_put_143) rfl (by decide) ?_
      show Steps p.tables e below (T37.setTop (mkF m 144 #[.val (.ref a1), .val (.long k1), .second, .val (.int v1), .val (.int (15 : Int32)), .val (.int (Int32.ofNat ((own_hn k1 + d) % 16)))] [(.int ((16 : Int32) / (4 : Int32))), (.int (sz + (1 : Int32)))])) t
      refine XS.iconst X37.here hx rfl (hb hby d_put_144) ?_
      show Steps p.tables e below (T37.setTop (mkF m 145 #[.val (.ref a1), .val (.long k1), .second, .val (.int v1), .val (.int (15 : Int32)), .val (.int (Int32.ofNat ((own_hn k1 + d) % 16)))] [(.int (3 : Int32)), (.int ((16 : Int32) / (4 : Int32))), (.int (sz + (1 : Int32)))])) t
      refine XS.imul X37.here hx rfl (hb hby d_put_145) rfl ?_
      show Steps p.tables e below (T37.setTop (mkF m 146 #[.val (.ref a1), .val (.long k1), .second, .val (.int v1), .val (.int (15 : Int32)), .val (.int (Int32.ofNat ((own_hn k1 + d) % 16)))] [(.int (((16 : Int32) / (4 : Int32)) * (3 : Int32))), (.int (sz + (1 : Int32)))])) t
      refine XS.icmpYes X37.here hx rfl (pc0 := 146) (pc' := 153) rfl (hb hby d_put_146) rfl (XT.ii_le_t hz3) (by decide) (by decide) ?_
      show Steps p.tables e below (T37.setTop (mkF m 153 #[.val (.ref a1), .val (.long k1), .second, .val (.int v1), .val (.int (15 : Int32)), .val (.int (Int32.ofNat ((own_hn k1 + d) % 16)))] [])) t
      exact k)
    obtain ⟨fs, hr, hrun, hended, hW, hsame⟩ := X37.leave (v := none) (fun _ => rfl)
    subst hS0
    refine ⟨_, _, pre _ ?_, hrun, hended, _, _, rfl, ?_, ⟨_, rfl⟩, hW, hsame.mono (by decide) (by decide)⟩
    · exact X37.returnOut hx Bd.returns (hb hby d_put_153) hr
    · show Q_put Z a1 k1 v1 rk rv sz kf vf h0 n0 _ T37.heap _
      rw [e37]
      refine ⟨rfl, N35, by rw [W35.size, W33.size, W31.size]; exact Nat.le_refl _, _, _, _, ⟨R1, R2, R3, R4, RE, RK.congr fun j hj => ?_, F35.congr fun j hj => ?_, ne1, ne2, ne3⟩, ⟨(own_hn k1 + d) % 16, hlt, hsl, rfl, rfl⟩, hz4, by rw [hz5]; exact Int.le_refl _⟩
      · rw [own_cl (own_ix hlt)]
        by_cases q : j = (own_hn k1 + d) % 16
        · rw [if_pos q, if_pos q]
        · rw [if_neg q, if_neg q]
      · rw [own_cl (own_ix hlt)]
        by_cases q : j = (own_hn k1 + d) % 16
        · rw [if_pos q, if_pos q]
        · rw [if_neg q, if_neg q]
  · replace pre : Pth p e below S0 T27 (mkF m 126 #[.val (.ref a1), .val (.long k1), .second, .val (.int v1), .val (.int (15 : Int32)), .val (.int (Int32.ofNat ((own_hn k1 + d) % 16)))] [(.ref a1)]) := fun t k => pre t (by
      show Steps p.tables e below (T27.setTop (mkF m 85 #[.val (.ref a1), .val (.long k1), .second, .val (.int v1), .val (.int (15 : Int32)), .val (.int (Int32.ofNat ((own_hn k1 + d) % 16)))] [(.int (XT.cmpL (kf ((own_hn k1 + d) % 16)) (-1 : Int64)))])) t
      refine XS.ifYes X27.here hx rfl (pc0 := 85) (pc' := 125) rfl (hb hby d_put_85) rfl (XT.ll_ne_t z0) (by decide) (by decide) ?_
      show Steps p.tables e below (T27.setTop (mkF m 125 #[.val (.ref a1), .val (.long k1), .second, .val (.int v1), .val (.int (15 : Int32)), .val (.int (Int32.ofNat ((own_hn k1 + d) % 16)))] [])) t
      refine XS.aloadN X27.here hx rfl (hb hby d_put_125) rfl rfl ?_
      show Steps p.tables e below (T27.setTop (mkF m 126 #[.val (.ref a1), .val (.long k1), .second, .val (.int v1), .val (.int (15 : Int32)), .val (.int (Int32.ofNat ((own_hn k1 + d) % 16)))] [(.ref a1)])) t
      exact k)
    obtain ⟨T39, X39, e39, st39⟩ := getF X27 hx hZ hown (host := "") (Or.inl (hw _ (List.mem_of_getElem? (i := 23) rfl))) Via.refl e27 F2 (g := (mkF m 126 #[.val (.ref a1), .val (.long k1), .second, .val (.int v1), .val (.int (15 : Int32)), .val (.int (Int32.ofNat ((own_hn k1 + d) % 16)))] [(.ref a1)])) rfl rfl (hb hby d_put_126)
    replace pre : Pth p e below S0 T39 (mkF m 129 #[.val (.ref a1), .val (.long k1), .second, .val (.int v1), .val (.int (15 : Int32)), .val (.int (Int32.ofNat ((own_hn k1 + d) % 16)))] [(.ref rv)]) := fun t k => pre t (st39 _ k)
    replace pre : Pth p e below S0 T39 (mkF m 132 #[.val (.ref a1), .val (.long k1), .second, .val (.int v1), .val (.int (15 : Int32)), .val (.int (Int32.ofNat ((own_hn k1 + d) % 16)))] [(.int v1), (.int (Int32.ofNat ((own_hn k1 + d) % 16))), (.ref rv)]) := fun t k => pre t (by
      show Steps p.tables e below (T39.setTop (mkF m 129 #[.val (.ref a1), .val (.long k1), .second, .val (.int v1), .val (.int (15 : Int32)), .val (.int (Int32.ofNat ((own_hn k1 + d) % 16)))] [(.ref rv)])) t
      refine XS.iload X39.here hx rfl (hb hby d_put_129) rfl ?_
      show Steps p.tables e below (T39.setTop (mkF m 131 #[.val (.ref a1), .val (.long k1), .second, .val (.int v1), .val (.int (15 : Int32)), .val (.int (Int32.ofNat ((own_hn k1 + d) % 16)))] [(.int (Int32.ofNat ((own_hn k1 + d) % 16))), (.ref rv)])) t
      refine XS.iloadN X39.here hx rfl (hb hby d_put_131) rfl ?_
      show Steps p.tables e below (T39.setTop (mkF m 132 #[.val (.ref a1), .val (.long k1), .second, .val (.int v1), .val (.int (15 : Int32)), .val (.int (Int32.ofNat ((own_hn k1 + d) % 16)))] [(.int v1), (.int (Int32.ofNat ((own_hn k1 + d) % 16))), (.ref rv)])) t
      exact k)
    obtain ⟨cl40, Ar40, Sz40, -⟩ := id Vf
    obtain ⟨T40, h40, X40, e40, W40, st40⟩ := stI X39 hx hZ e39 Ar40 (j := (Int32.ofNat ((own_hn k1 + d) % 16))) (by rw [Sz40]; exact (own_in (own_ix hlt) hlt)) (g := (mkF m 132 #[.val (.ref a1), .val (.long k1), .second, .val (.int v1), .val (.int (15 : Int32)), .val (.int (Int32.ofNat ((own_hn k1 + d) % 16)))] [(.int v1), (.int (Int32.ofNat ((own_hn k1 + d) % 16))), (.ref rv)])) rfl rfl (hb hby d_put_132)
    have F40 := OFun.set Vf W40
    have N40 := Fr.snoc X40 Nz gv
    replace pre : Pth p e below S0 T40 (mkF m 133 #[.val (.ref a1), .val (.long k1), .second, .val (.int v1), .val (.int (15 : Int32)), .val (.int (Int32.ofNat ((own_hn k1 + d) % 16)))] []) := fun t k => pre t (st40 _ k)
    have R1 := F1.other W40 (Or.inl ne2)
    have R2 := F2.other W40 (Or.inl ne2)
    have R3 := F3.other W40 (Or.inl ne2)
    have R4 := F4.other W40 (Or.inl ne2)
    have RE := Ea.wr W40
    have RK := Kf.other W40 ne3
    replace pre : Pth p e below S0 T40 (mkF m 134 #[.val (.ref a1), .val (.long k1), .second, .val (.int v1), .val (.int (15 : Int32)), .val (.int (Int32.ofNat ((own_hn k1 + d) % 16)))] [(.ref a1)]) := fun t k => pre t (by
      show Steps p.tables e below (T40.setTop (mkF m 133 #[.val (.ref a1), .val (.long k1), .second, .val (.int v1), .val (.int (15 : Int32)), .val (.int (Int32.ofNat ((own_hn k1 + d) % 16)))] [])) t
      refine XS.aloadN X40.here hx rfl (hb hby d_put_133) rfl rfl ?_
      show Steps p.tables e below (T40.setTop (mkF m 134 #[.val (.ref a1), .val (.long k1), .second, .val (.int v1), .val (.int (15 : Int32)), .val (.int (Int32.ofNat ((own_hn k1 + d) % 16)))] [(.ref a1)])) t
      exact k)
    obtain ⟨T41, X41, e41, st41⟩ := getF X40 hx hZ hown (host := "") (Or.inl (hw _ (List.mem_of_getElem? (i := 46) rfl))) Via.refl e40 R4 (g := (mkF m 134 #[.val (.ref a1), .val (.long k1), .second, .val (.int v1), .val (.int (15 : Int32)), .val (.int (Int32.ofNat ((own_hn k1 + d) % 16)))] [(.ref a1)])) rfl rfl (hb hby d_put_134)
    replace pre : Pth p e below S0 T41 (mkF m 137 #[.val (.ref a1), .val (.long k1), .second, .val (.int v1), .val (.int (15 : Int32)), .val (.int (Int32.ofNat ((own_hn k1 + d) % 16)))] [(.int sz)]) := fun t k => pre t (st41 _ k)
    replace pre : Pth p e below S0 T41 (mkF m 138 #[.val (.ref a1), .val (.long k1), .second, .val (.int v1), .val (.int (15 : Int32)), .val (.int (Int32.ofNat ((own_hn k1 + d) % 16)))] [(.ref a1), (.int sz)]) := fun t k => pre t (by
      show Steps p.tables e below (T41.setTop (mkF m 137 #[.val (.ref a1), .val (.long k1), .second, .val (.int v1), .val (.int (15 : Int32)), .val (.int (Int32.ofNat ((own_hn k1 + d) % 16)))] [(.int sz)])) t
      refine XS.aloadN X41.here hx rfl (hb hby d_put_137) rfl rfl ?_
      show Steps p.tables e below (T41.setTop (mkF m 138 #[.val (.ref a1), .val (.long k1), .second, .val (.int v1), .val (.int (15 : Int32)), .val (.int (Int32.ofNat ((own_hn k1 + d) % 16)))] [(.ref a1), (.int sz)])) t
      exact k)
    obtain ⟨T42, X42, e42, st42⟩ := getF X41 hx hZ hown (host := "") (Or.inl (hw _ (List.mem_of_getElem? (i := 15) rfl))) Via.refl e41 R1 (g := (mkF m 138 #[.val (.ref a1), .val (.long k1), .second, .val (.int v1), .val (.int (15 : Int32)), .val (.int (Int32.ofNat ((own_hn k1 + d) % 16)))] [(.ref a1), (.int sz)])) rfl rfl (hb hby d_put_138)
    replace pre : Pth p e below S0 T42 (mkF m 141 #[.val (.ref a1), .val (.long k1), .second, .val (.int v1), .val (.int (15 : Int32)), .val (.int (Int32.ofNat ((own_hn k1 + d) % 16)))] [(.ref rk), (.int sz)]) := fun t k => pre t (st42 _ k)
    obtain ⟨cl43, Ar43, Sz43, -⟩ := id RK
    have hln43 : cl43.slots.size.toInt32 = (16 : Int32) := (congrArg Nat.toInt32 Sz43).trans (rfl)
    replace pre : Pth p e below S0 T42 (mkF m 153 #[.val (.ref a1), .val (.long k1), .second, .val (.int v1), .val (.int (15 : Int32)), .val (.int (Int32.ofNat ((own_hn k1 + d) % 16)))] []) := fun t k => pre t (by
      show Steps p.tables e below (T42.setTop (mkF m 141 #[.val (.ref a1), .val (.long k1), .second, .val (.int v1), .val (.int (15 : Int32)), .val (.int (Int32.ofNat ((own_hn k1 + d) % 16)))] [(.ref rk), (.int sz)])) t
      refine X42.arraylength hx (by rw [e42]; exact Ar43.1) (State.isArrayOf_alike hZ.alike Ar43.2.1) (g := (mkF m 141 #[.val (.ref a1), .val (.long k1), .second, .val (.int v1), .val (.int (15 : Int32)), .val (.int (Int32.ofNat ((own_hn k1 + d) % 16)))] [(.ref rk), (.int sz)])) rfl rfl (hb hby d_put_141) _ ?_
      rw [hln43]
      show Steps p.tables e below (T42.setTop (mkF m 142 #[.val (.ref a1), .val (.long k1), .second, .val (.int v1), .val (.int (15 : Int32)), .val (.int (Int32.ofNat ((own_hn k1 + d) % 16)))] [(.int (16 : Int32)), (.int sz)])) t
      refine XS.iconst X42.here hx rfl (hb hby d_put_142) ?_
      show Steps p.tables e below (T42.setTop (mkF m 143 #[.val (.ref a1), .val (.long k1), .second, .val (.int v1), .val (.int (15 : Int32)), .val (.int (Int32.ofNat ((own_hn k1 + d) % 16)))] [(.int (4 : Int32)), (.int (16 : Int32)), (.int sz)])) t
      refine XS.idiv X42.here hx rfl (hb hby d_put_143) rfl (by decide) ?_
      show Steps p.tables e below (T42.setTop (mkF m 144 #[.val (.ref a1), .val (.long k1), .second, .val (.int v1), .val (.int (15 : Int32)), .val (.int (Int32.ofNat ((own_hn k1 + d) % 16)))] [(.int ((16 : Int32) / (4 : Int32))), (.int sz)])) t
      refine XS.iconst X42.here hx rfl (hb hby d_put_144) ?_
      show Steps p.tables e below (T42.setTop (mkF m 145 #[.val (.ref a1), .val (.long k1), .second, .val (.int v1), .val (.int (15 : Int32)), .val (.int (Int32.ofNat ((own_hn k1 + d) % 16)))] [(.int (3 : Int32)), (.int ((16 : Int32) / (4 : Int32))), (.int sz)])) t
      refine XS.imul X42.here hx rfl (hb hby d_put_145) rfl ?_
      show Steps p.tables e below (T42.setTop (mkF m 146 #[.val (.ref a1), .val (.long k1), .second, .val (.int v1), .val (.int (15 : Int32)), .val (.int (Int32.ofNat ((own_hn k1 + d) % 16)))] [(.int (((16 : Int32) / (4 : Int32)) * (3 : Int32))), (.int sz)])) t
      refine XS.icmpYes X42.here hx rfl (pc0 := 146) (pc' := 153) rfl (hb hby d_put_146) rfl (XT.ii_le_t hz2) (by decide) (by decide) ?_
      show Steps p.tables e below (T42.setTop (mkF m 153 #[.val (.ref a1), .val (.long k1), .second, .val (.int v1), .val (.int (15 : Int32)), .val (.int (Int32.ofNat ((own_hn k1 + d) % 16)))] [])) t
      exact k)
    obtain ⟨fs, hr, hrun, hended, hW, hsame⟩ := X42.leave (v := none) (fun _ => rfl)
    subst hS0
    refine ⟨_, _, pre _ ?_, hrun, hended, _, _, rfl, ?_, ⟨_, rfl⟩, hW, hsame.mono (by decide) (by decide)⟩
    · exact X42.returnOut hx Bd.returns (hb hby d_put_153) hr
    · show Q_put Z a1 k1 v1 rk rv sz kf vf h0 n0 _ T42.heap _
      rw [e42]
      refine ⟨rfl, N40, by rw [W40.size]; exact Nat.le_refl _, _, _, _, ⟨R1, R2, R3, R4, RE, RK.congr fun j hj => ?_, F40.congr fun j hj => ?_, ne1, ne2, ne3⟩, ⟨(own_hn k1 + d) % 16, hlt, hsl, rfl, rfl⟩, hz.1, by omega⟩
      · by_cases q : j = (own_hn k1 + d) % 16
        · rw [if_pos q, q, hd1.resolve_right z0]
        · rw [if_neg q]
      · rw [own_cl (own_ix hlt)]
        by_cases q : j = (own_hn k1 + d) % 16
        · rw [if_pos q, if_pos q]
        · rw [if_neg q, if_neg q]
def Q_get (Z : State) (a1 : Addr) (k1 : Int64) (ms : Int32) (rk rv : Addr) (sz : Int32) (kf : Nat → Int64) (vf : Nat → Int32) (h0 : Heap) (n0 : Nat) (v : Option Value) (h : Heap) (L : List Loc) : Prop := ∃ i, v = some (.int (if kf i = k1 then vf i else ms)) ∧ Fr n0 L ∧ h = h0 ∧ i < 16 ∧ OSlot kf k1 i
set_option maxRecDepth 65536 in
set_option maxHeartbeats 40000000 in
theorem rm_get (l : Launch) (Z : State) (a0 : Array Value) (hw : ∀ d ∈ tables_1, d.before a0 Z = true) (ws : List Jvm.Cond) (a1 : Addr) (k1 : Int64) (ms : Int32) (rk rv : Addr) (sz : Int32) (kf : Nat → Int64) (vf : Nat → Int32) (h0 : Heap) (n0 : Nat) (hM : OMap Z h0 a1 rk rv sz kf vf) (hex : ∃ i, i < 16 ∧ kf i = -1) :
    MetFree l (⟨"com/example/signalbox/signalbox/history/LongIntMap", "get", "(JI)I"⟩ : MethodName) (head1 (Jvm.Cond.code (⟨"com/example/signalbox/signalbox/history/LongIntMap", "get", "(JI)I"⟩ : MethodName) prog_69_method_2_code 6 (some .int) :: ws) ({ frames := 1, cells := 0, slots := 0, locals := 15 } : Room)) (fun a U => a = #[(.ref a1), (.long k1), (.int ms)] ∧ Z.Warmed39 U.vm ∧ U.heap = h0) (fun _ _ _ _ _ => True) (fun _ U o U' => ∃ v L, o = .returned v ∧ Q_get Z a1 k1 ms rk rv sz kf vf h0 n0 v U'.heap L ∧ FrameEnd U o U' L ({ frames := 1, cells := 0, slots := 0, locals := 15 } : Room).cells ({ frames := 1, cells := 0, slots := 0, locals := 15 } : Room).slots) := by
  refine MetFree.of_bodySF (plainFor_of_name pn_com_example_signalbox_signalbox_history_LongIntMap) hisR ?_
  intro p e s m args below meth c s₁ Bd hml0 hP hK
  obtain ⟨rfl, hZ, hh⟩ := hP
  have hx := Bd.exec
  have hby := Bd.bytes
  have hml : c.maxLocals = 6 := hml0
  have hown : s.vm.findClass "com/example/signalbox/signalbox/history/LongIntMap" = some m.cls := findClass_of_methodNamed Bd.named
  have hnm := (name_of_methodNamed Bd.named Bd.method).1
  have X0 : Stand p l e ({ frames := 1, cells := 0, slots := 0, locals := 15 } : Room) s m #[(.ref a1), (.long k1), (.int ms)] below meth c s₁ [] 0 0 := Stand.of_body Bd
  have e0 : s₁.heap = h0 := by rw [← hh, Bd.state]; rfl
  have N0 := Fr.nil n0
  obtain ⟨S0, hS0⟩ : ∃ S0, S0 = s₁.setTop (entryFrame m #[(.ref a1), (.long k1), (.int ms)] 6) := ⟨_, rfl⟩
  have pre : Pth p e below S0 s₁ (mkF m 0 #[.val (.ref a1), .val (.long k1), .second, .val (.int ms), .unset, .unset] []) := fun t k => by rw [hS0]; exact castTop (ef_get m a1 k1 ms) k
  have hM' := hM
  obtain ⟨F1, F2, F3, F4, Ea, Kf, Vf, ne1, ne2, ne3⟩ := hM'
  obtain ⟨d, hd1, hd2⟩ := own_walkd k1 hex
  replace pre : Pth p e below S0 s₁ (mkF m 1 #[.val (.ref a1), .val (.long k1), .second, .val (.int ms), .unset, .unset] [(.ref a1)]) := fun t k => pre t (by
    show Steps p.tables e below (s₁.setTop (mkF m 0 #[.val (.ref a1), .val (.long k1), .second, .val (.int ms), .unset, .unset] [])) t
    refine XS.aloadN X0.here hx rfl (hb hby d_get_0) rfl rfl ?_
    show Steps p.tables e below (s₁.setTop (mkF m 1 #[.val (.ref a1), .val (.long k1), .second, .val (.int ms), .unset, .unset] [(.ref a1)])) t
    exact k)
  obtain ⟨T44, X44, e44, st44⟩ := getF X0 hx hZ hown (host := "") (Or.inl (hw _ (List.mem_of_getElem? (i := 15) rfl))) Via.refl e0 F1 (g := (mkF m 1 #[.val (.ref a1), .val (.long k1), .second, .val (.int ms), .unset, .unset] [(.ref a1)])) rfl rfl (hb hby d_get_1)
  replace pre : Pth p e below S0 T44 (mkF m 4 #[.val (.ref a1), .val (.long k1), .second, .val (.int ms), .unset, .unset] [(.ref rk)]) := fun t k => pre t (st44 _ k)
  obtain ⟨cl45, Ar45, Sz45, -⟩ := id Kf
  have hln45 : cl45.slots.size.toInt32 = (16 : Int32) := (congrArg Nat.toInt32 Sz45).trans (rfl)
  replace pre : Pth p e below S0 T44 (mkF m 11 #[.val (.ref a1), .val (.long k1), .second, .val (.int ms), .val (.int ((16 : Int32) - (1 : Int32))), .unset] [(.long k1), (.ref a1)]) := fun t k => pre t (by
    show Steps p.tables e below (T44.setTop (mkF m 4 #[.val (.ref a1), .val (.long k1), .second, .val (.int ms), .unset, .unset] [(.ref rk)])) t
    refine X44.arraylength hx (by rw [e44]; exact Ar45.1) (State.isArrayOf_alike hZ.alike Ar45.2.1) (g := (mkF m 4 #[.val (.ref a1), .val (.long k1), .second, .val (.int ms), .unset, .unset] [(.ref rk)])) rfl rfl (hb hby d_get_4) _ ?_
    rw [hln45]
    show Steps p.tables e below (T44.setTop (mkF m 5 #[.val (.ref a1), .val (.long k1), .second, .val (.int ms), .unset, .unset] [(.int (16 : Int32))])) t
    refine XS.iconst X44.here hx rfl (hb hby d_get_5) ?_
    show Steps p.tables e below (T44.setTop (mkF m 6 #[.val (.ref a1), .val (.long k1), .second, .val (.int ms), .unset, .unset] [(.int (1 : Int32)), (.int (16 : Int32))])) t
    refine XS.isub X44.here hx rfl (hb hby d_get_6) rfl ?_
    show Steps p.tables e below (T44.setTop (mkF m 7 #[.val (.ref a1), .val (.long k1), .second, .val (.int ms), .unset, .unset] [(.int ((16 : Int32) - (1 : Int32)))])) t
    refine XS.istore X44.here hx rfl (hb hby d_get_7) rfl (l' := #[.val (.ref a1), .val (.long k1), .second, .val (.int ms), .val (.int ((16 : Int32) - (1 : Int32))), .unset]) rfl ?_
    show Steps p.tables e below (T44.setTop (mkF m 9 #[.val (.ref a1), .val (.long k1), .second, .val (.int ms), .val (.int ((16 : Int32) - (1 : Int32))), .unset] [])) t
    refine XS.aloadN X44.here hx rfl (hb hby d_get_9) rfl rfl ?_
    show Steps p.tables e below (T44.setTop (mkF m 10 #[.val (.ref a1), .val (.long k1), .second, .val (.int ms), .val (.int ((16 : Int32) - (1 : Int32))), .unset] [(.ref a1)])) t
    refine XS.lloadN X44.here hx rfl (hb hby d_get_10) rfl ?_
    show Steps p.tables e below (T44.setTop (mkF m 11 #[.val (.ref a1), .val (.long k1), .second, .val (.int ms), .val (.int ((16 : Int32) - (1 : Int32))), .unset] [(.long k1), (.ref a1)])) t
    exact k)
  rw [show (16 : Int32) - (1 : Int32) = 15 from rfl] at pre
  obtain ⟨cq46, q46, q46'⟩ := Exa.cell Ea
  obtain ⟨_, _, ⟨T46, L46, k46, n46⟩, -, X46, ⟨Lc46, hQ46, l46, y46, z46⟩, st46⟩ := X44.privateBack hx (y := (⟨"com/example/signalbox/signalbox/history/LongIntMap", "slot", "(J)I"⟩ : MethodName)) hown (mvT hZ (hw _ (List.mem_of_getElem? (i := 41) rfl))) (mvT hZ (hw _ (List.mem_of_getElem? (i := 42) rfl))) (own_priv (mvT hZ (hw _ (List.mem_of_getElem? (i := 2) rfl))) (Cond.privateMethod_at (mvP hZ (hw _ (List.mem_of_getElem? (i := 43) rfl)) (args := #[]))) (mvT hZ (hw _ (List.mem_of_getElem? (i := 42) rfl))) (by decide)) (Cond.privateMethod_at (mvP hZ (hw _ (List.mem_of_getElem? (i := 43) rfl)) (args := #[]))) (mvT hZ (hw _ (List.mem_of_getElem? (i := 44) rfl))) (by decide) (backOf (W := 0) (rm_slot l Z a0 hw [] a1 k1 rk rv sz kf vf h0 n0 hM) hZ (hw _ (List.mem_of_getElem? (i := 44) rfl)) (hw _ (List.mem_of_getElem? (i := 3) rfl)) (by decide) (by decide)) (g := (mkF m 11 #[.val (.ref a1), .val (.long k1), .second, .val (.int ms), .val (.int (15 : Int32)), .unset] [(.long k1), (.ref a1)])) rfl (by rw [hml]; rfl) (Steps.refl _) (a := a1) (by rw [e44]; exact q46) q46' (argsL := [(.long k1)]) (rest := []) (lenOf pd__J_I rfl) rfl (by show 2 * 0 + _ ≤ _; exact Nat.le_of_eq rfl) (hb hby d_get_11) (fun _ _ => ⟨rfl, e44, (by decide : 0 + 0 ≤ _), (by decide : 0 + 0 ≤ _)⟩)
  dsimp only [Pt.U, Pt.locs, Pt.cells, Pt.slots] at X46 l46 y46 z46 st46 hQ46
  subst l46 y46 z46
  obtain ⟨rfl, N46q, e46⟩ := hQ46
  have N46 := Fr.app N0 N46q
  replace pre : Pth p e below S0 T46 (mkF m 14 #[.val (.ref a1), .val (.long k1), .second, .val (.int ms), .val (.int (15 : Int32)), .unset] [(.int (own_sl k1))]) := fun t k => pre t (st46.trans k)
  rw [own_hval k1] at pre
  replace pre : Pth p e below S0 T46 (mkF m 16 #[.val (.ref a1), .val (.long k1), .second, .val (.int ms), .val (.int (15 : Int32)), .val (.int (Int32.ofNat ((own_hn k1 + 0) % 16)))] []) := fun t k => pre t (by
    show Steps p.tables e below (T46.setTop (mkF m 14 #[.val (.ref a1), .val (.long k1), .second, .val (.int ms), .val (.int (15 : Int32)), .unset] [(.int (Int32.ofNat ((own_hn k1 + 0) % 16)))])) t
    refine XS.istore X46.here hx rfl (hb hby d_get_14) rfl (l' := #[.val (.ref a1), .val (.long k1), .second, .val (.int ms), .val (.int (15 : Int32)), .val (.int (Int32.ofNat ((own_hn k1 + 0) % 16)))]) rfl ?_
    show Steps p.tables e below (T46.setTop (mkF m 16 #[.val (.ref a1), .val (.long k1), .second, .val (.int ms), .val (.int (15 : Int32)), .val (.int (Int32.ofNat ((own_hn k1 + 0) % 16)))] [])) t
    exact k)
  obtain ⟨locs0, hX⟩ : ∃ locs0, Stand p l e ({ frames := 1, cells := 0, slots := 0, locals := 15 } : Room) s m #[(.ref a1), (.long k1), (.int ms)] below meth c T46 locs0 0 0 ∧ Fr n0 locs0 := ⟨_, X46, N46⟩
  obtain ⟨Xz, Nz⟩ := hX
  have loop : ∀ (k e' : Nat) (T : State), e' + k = d → Stand p l e ({ frames := 1, cells := 0, slots := 0, locals := 15 } : Room) s m #[(.ref a1), (.long k1), (.int ms)] below meth c T locs0 0 0 → T.heap = h0 → Pth p e below S0 T (mkF m 16 #[.val (.ref a1), .val (.long k1), .second, .val (.int ms), .val (.int (15 : Int32)), .val (.int (Int32.ofNat ((own_hn k1 + e') % 16)))] []) → ∃ T' : State, Stand p l e ({ frames := 1, cells := 0, slots := 0, locals := 15 } : Room) s m #[(.ref a1), (.long k1), (.int ms)] below meth c T' locs0 0 0 ∧ T'.heap = h0 ∧ ((kf ((own_hn k1 + d) % 16) = k1 ∧ Pth p e below S0 T' (mkF m 28 #[.val (.ref a1), .val (.long k1), .second, .val (.int ms), .val (.int (15 : Int32)), .val (.int (Int32.ofNat ((own_hn k1 + d) % 16)))] [])) ∨ (¬ kf ((own_hn k1 + d) % 16) = k1 ∧ Pth p e below S0 T' (mkF m 50 #[.val (.ref a1), .val (.long k1), .second, .val (.int ms), .val (.int (15 : Int32)), .val (.int (Int32.ofNat ((own_hn k1 + d) % 16)))] []))) := by
    intro k
    induction k with
    | zero =>
      intro e' T hk' X eT pre
      obtain rfl : e' = d := by omega
      have hlt : ((own_hn k1 + e') % 16) < 16 := Nat.mod_lt _ (by decide)
      replace pre : Pth p e below S0 T (mkF m 17 #[.val (.ref a1), .val (.long k1), .second, .val (.int ms), .val (.int (15 : Int32)), .val (.int (Int32.ofNat ((own_hn k1 + e') % 16)))] [(.ref a1)]) := fun t k => pre t (by
        show Steps p.tables e below (T.setTop (mkF m 16 #[.val (.ref a1), .val (.long k1), .second, .val (.int ms), .val (.int (15 : Int32)), .val (.int (Int32.ofNat ((own_hn k1 + e') % 16)))] [])) t
        refine XS.aloadN X.here hx rfl (hb hby d_get_16) rfl rfl ?_
        show Steps p.tables e below (T.setTop (mkF m 17 #[.val (.ref a1), .val (.long k1), .second, .val (.int ms), .val (.int (15 : Int32)), .val (.int (Int32.ofNat ((own_hn k1 + e') % 16)))] [(.ref a1)])) t
        exact k)
      obtain ⟨T47, X47, e47, st47⟩ := getF X hx hZ hown (host := "") (Or.inl (hw _ (List.mem_of_getElem? (i := 15) rfl))) Via.refl eT F1 (g := (mkF m 17 #[.val (.ref a1), .val (.long k1), .second, .val (.int ms), .val (.int (15 : Int32)), .val (.int (Int32.ofNat ((own_hn k1 + e') % 16)))] [(.ref a1)])) rfl rfl (hb hby d_get_17)
      replace pre : Pth p e below S0 T47 (mkF m 20 #[.val (.ref a1), .val (.long k1), .second, .val (.int ms), .val (.int (15 : Int32)), .val (.int (Int32.ofNat ((own_hn k1 + e') % 16)))] [(.ref rk)]) := fun t k => pre t (st47 _ k)
      replace pre : Pth p e below S0 T47 (mkF m 22 #[.val (.ref a1), .val (.long k1), .second, .val (.int ms), .val (.int (15 : Int32)), .val (.int (Int32.ofNat ((own_hn k1 + e') % 16)))] [(.int (Int32.ofNat ((own_hn k1 + e') % 16))), (.ref rk)]) := fun t k => pre t (by
        show Steps p.tables e below (T47.setTop (mkF m 20 #[.val (.ref a1), .val (.long k1), .second, .val (.int ms), .val (.int (15 : Int32)), .val (.int (Int32.ofNat ((own_hn k1 + e') % 16)))] [(.ref rk)])) t
        refine XS.iload X47.here hx rfl (hb hby d_get_20) rfl ?_
        show Steps p.tables e below (T47.setTop (mkF m 22 #[.val (.ref a1), .val (.long k1), .second, .val (.int ms), .val (.int (15 : Int32)), .val (.int (Int32.ofNat ((own_hn k1 + e') % 16)))] [(.int (Int32.ofNat ((own_hn k1 + e') % 16))), (.ref rk)])) t
        exact k)
      obtain ⟨cl48, Ar48, Sz48, Gt48⟩ := id Kf
      have hin48 : ¬ ((Int32.ofNat ((own_hn k1 + e') % 16)) < 0 ∨ cl48.slots.size ≤ ((Int32.ofNat ((own_hn k1 + e') % 16))).toNatClampNeg) := by rw [Sz48]; exact (own_in (own_ix hlt) hlt)
      have hat48 : cl48.slots[((Int32.ofNat ((own_hn k1 + e') % 16))).toNatClampNeg]? = some (.long (kf ((own_hn k1 + e') % 16))) := (Gt48 _ (Nat.lt_of_lt_of_eq (Nat.lt_of_not_le fun q => hin48 (Or.inr q)) Sz48)).trans (congrArg some (by rw [own_cl (own_ix hlt)]))
      replace pre : Pth p e below S0 T47 (mkF m 25 #[.val (.ref a1), .val (.long k1), .second, .val (.int ms), .val (.int (15 : Int32)), .val (.int (Int32.ofNat ((own_hn k1 + e') % 16)))] [(.int (XT.cmpL (kf ((own_hn k1 + e') % 16)) k1))]) := fun t k => pre t (by
        show Steps p.tables e below (T47.setTop (mkF m 22 #[.val (.ref a1), .val (.long k1), .second, .val (.int ms), .val (.int (15 : Int32)), .val (.int (Int32.ofNat ((own_hn k1 + e') % 16)))] [(.int (Int32.ofNat ((own_hn k1 + e') % 16))), (.ref rk)])) t
        refine X47.laload hx (j := (Int32.ofNat ((own_hn k1 + e') % 16))) (v := (.long (kf ((own_hn k1 + e') % 16)))) (by rw [e47]; exact Ar48.1) (State.isArrayOf_alike hZ.alike Ar48.2.1) Ar48.2.2 hin48 hat48 (g := (mkF m 22 #[.val (.ref a1), .val (.long k1), .second, .val (.int ms), .val (.int (15 : Int32)), .val (.int (Int32.ofNat ((own_hn k1 + e') % 16)))] [(.int (Int32.ofNat ((own_hn k1 + e') % 16))), (.ref rk)])) rfl rfl (hb hby d_get_22) _ ?_
        show Steps p.tables e below (T47.setTop (mkF m 23 #[.val (.ref a1), .val (.long k1), .second, .val (.int ms), .val (.int (15 : Int32)), .val (.int (Int32.ofNat ((own_hn k1 + e') % 16)))] [(.long (kf ((own_hn k1 + e') % 16)))])) t
        refine XS.lloadN X47.here hx rfl (hb hby d_get_23) rfl ?_
        show Steps p.tables e below (T47.setTop (mkF m 24 #[.val (.ref a1), .val (.long k1), .second, .val (.int ms), .val (.int (15 : Int32)), .val (.int (Int32.ofNat ((own_hn k1 + e') % 16)))] [(.long k1), (.long (kf ((own_hn k1 + e') % 16)))])) t
        refine XT.lcmp X47.here hx rfl (hb hby d_get_24) rfl ?_
        show Steps p.tables e below (T47.setTop (mkF m 25 #[.val (.ref a1), .val (.long k1), .second, .val (.int ms), .val (.int (15 : Int32)), .val (.int (Int32.ofNat ((own_hn k1 + e') % 16)))] [(.int (XT.cmpL (kf ((own_hn k1 + e') % 16)) k1))])) t
        exact k)
      by_cases z0 : (kf ((own_hn k1 + e') % 16)) = k1
      · replace pre : Pth p e below S0 T47 (mkF m 28 #[.val (.ref a1), .val (.long k1), .second, .val (.int ms), .val (.int (15 : Int32)), .val (.int (Int32.ofNat ((own_hn k1 + e') % 16)))] []) := fun t k => pre t (by
          show Steps p.tables e below (T47.setTop (mkF m 25 #[.val (.ref a1), .val (.long k1), .second, .val (.int ms), .val (.int (15 : Int32)), .val (.int (Int32.ofNat ((own_hn k1 + e') % 16)))] [(.int (XT.cmpL (kf ((own_hn k1 + e') % 16)) k1))])) t
          refine XS.ifNo X47.here hx rfl (hb hby d_get_25) rfl (XT.ll_ne_f z0) ?_
          show Steps p.tables e below (T47.setTop (mkF m 28 #[.val (.ref a1), .val (.long k1), .second, .val (.int ms), .val (.int (15 : Int32)), .val (.int (Int32.ofNat ((own_hn k1 + e') % 16)))] [])) t
          exact k)
        exact ⟨_, X47, e47, Or.inl ⟨z0, pre⟩⟩
      · replace pre : Pth p e below S0 T47 (mkF m 37 #[.val (.ref a1), .val (.long k1), .second, .val (.int ms), .val (.int (15 : Int32)), .val (.int (Int32.ofNat ((own_hn k1 + e') % 16)))] [(.ref a1)]) := fun t k => pre t (by
          show Steps p.tables e below (T47.setTop (mkF m 25 #[.val (.ref a1), .val (.long k1), .second, .val (.int ms), .val (.int (15 : Int32)), .val (.int (Int32.ofNat ((own_hn k1 + e') % 16)))] [(.int (XT.cmpL (kf ((own_hn k1 + e') % 16)) k1))])) t
          refine XS.ifYes X47.here hx rfl (pc0 := 25) (pc' := 36) rfl (hb hby d_get_25) rfl (XT.ll_ne_t z0) (by decide) (by decide) ?_
          show Steps p.tables e below (T47.setTop (mkF m 36 #[.val (.ref a1), .val (.long k1), .second, .val (.int ms), .val (.int (15 : Int32)), .val (.int (Int32.ofNat ((own_hn k1 + e') % 16)))] [])) t
          refine XS.aloadN X47.here hx rfl (hb hby d_get_36) rfl rfl ?_
          show Steps p.tables e below (T47.setTop (mkF m 37 #[.val (.ref a1), .val (.long k1), .second, .val (.int ms), .val (.int (15 : Int32)), .val (.int (Int32.ofNat ((own_hn k1 + e') % 16)))] [(.ref a1)])) t
          exact k)
        obtain ⟨T49, X49, e49, st49⟩ := getF X47 hx hZ hown (host := "") (Or.inl (hw _ (List.mem_of_getElem? (i := 15) rfl))) Via.refl e47 F1 (g := (mkF m 37 #[.val (.ref a1), .val (.long k1), .second, .val (.int ms), .val (.int (15 : Int32)), .val (.int (Int32.ofNat ((own_hn k1 + e') % 16)))] [(.ref a1)])) rfl rfl (hb hby d_get_37)
        replace pre : Pth p e below S0 T49 (mkF m 40 #[.val (.ref a1), .val (.long k1), .second, .val (.int ms), .val (.int (15 : Int32)), .val (.int (Int32.ofNat ((own_hn k1 + e') % 16)))] [(.ref rk)]) := fun t k => pre t (st49 _ k)
        replace pre : Pth p e below S0 T49 (mkF m 42 #[.val (.ref a1), .val (.long k1), .second, .val (.int ms), .val (.int (15 : Int32)), .val (.int (Int32.ofNat ((own_hn k1 + e') % 16)))] [(.int (Int32.ofNat ((own_hn k1 + e') % 16))), (.ref rk)]) := fun t k => pre t (by
          show Steps p.tables e below (T49.setTop (mkF m 40 #[.val (.ref a1), .val (.long k1), .second, .val (.int ms), .val (.int (15 : Int32)), .val (.int (Int32.ofNat ((own_hn k1 + e') % 16)))] [(.ref rk)])) t
          refine XS.iload X49.here hx rfl (hb hby d_get_40) rfl ?_
          show Steps p.tables e below (T49.setTop (mkF m 42 #[.val (.ref a1), .val (.long k1), .second, .val (.int ms), .val (.int (15 : Int32)), .val (.int (Int32.ofNat ((own_hn k1 + e') % 16)))] [(.int (Int32.ofNat ((own_hn k1 + e') % 16))), (.ref rk)])) t
          exact k)
        obtain ⟨cl50, Ar50, Sz50, Gt50⟩ := id Kf
        have hin50 : ¬ ((Int32.ofNat ((own_hn k1 + e') % 16)) < 0 ∨ cl50.slots.size ≤ ((Int32.ofNat ((own_hn k1 + e') % 16))).toNatClampNeg) := by rw [Sz50]; exact (own_in (own_ix hlt) hlt)
        have hat50 : cl50.slots[((Int32.ofNat ((own_hn k1 + e') % 16))).toNatClampNeg]? = some (.long (kf ((own_hn k1 + e') % 16))) := (Gt50 _ (Nat.lt_of_lt_of_eq (Nat.lt_of_not_le fun q => hin50 (Or.inr q)) Sz50)).trans (congrArg some (by rw [own_cl (own_ix hlt)]))
        replace pre : Pth p e below S0 T49 (mkF m 50 #[.val (.ref a1), .val (.long k1), .second, .val (.int ms), .val (.int (15 : Int32)), .val (.int (Int32.ofNat ((own_hn k1 + e') % 16)))] []) := fun t k => pre t (by
          show Steps p.tables e below (T49.setTop (mkF m 42 #[.val (.ref a1), .val (.long k1), .second, .val (.int ms), .val (.int (15 : Int32)), .val (.int (Int32.ofNat ((own_hn k1 + e') % 16)))] [(.int (Int32.ofNat ((own_hn k1 + e') % 16))), (.ref rk)])) t
          refine X49.laload hx (j := (Int32.ofNat ((own_hn k1 + e') % 16))) (v := (.long (kf ((own_hn k1 + e') % 16)))) (by rw [e49]; exact Ar50.1) (State.isArrayOf_alike hZ.alike Ar50.2.1) Ar50.2.2 hin50 hat50 (g := (mkF m 42 #[.val (.ref a1), .val (.long k1), .second, .val (.int ms), .val (.int (15 : Int32)), .val (.int (Int32.ofNat ((own_hn k1 + e') % 16)))] [(.int (Int32.ofNat ((own_hn k1 + e') % 16))), (.ref rk)])) rfl rfl (hb hby d_get_42) _ ?_
          show Steps p.tables e below (T49.setTop (mkF m 43 #[.val (.ref a1), .val (.long k1), .second, .val (.int ms), .val (.int (15 : Int32)), .val (.int (Int32.ofNat ((own_hn k1 + e') % 16)))] [(.long (kf ((own_hn k1 + e') % 16)))])) t
          refine X49.ldc2Long hx hown (mvT hZ (hw _ (List.mem_of_getElem? (i := 17) rfl))) (g := (mkF m 43 #[.val (.ref a1), .val (.long k1), .second, .val (.int ms), .val (.int (15 : Int32)), .val (.int (Int32.ofNat ((own_hn k1 + e') % 16)))] [(.long (kf ((own_hn k1 + e') % 16)))])) rfl (hb hby d_get_43) _ ?_
          show Steps p.tables e below (T49.setTop (mkF m 46 #[.val (.ref a1), .val (.long k1), .second, .val (.int ms), .val (.int (15 : Int32)), .val (.int (Int32.ofNat ((own_hn k1 + e') % 16)))] [(.long (-1 : Int64)), (.long (kf ((own_hn k1 + e') % 16)))])) t
          refine XT.lcmp X49.here hx rfl (hb hby d_get_46) rfl ?_
          show Steps p.tables e below (T49.setTop (mkF m 47 #[.val (.ref a1), .val (.long k1), .second, .val (.int ms), .val (.int (15 : Int32)), .val (.int (Int32.ofNat ((own_hn k1 + e') % 16)))] [(.int (XT.cmpL (kf ((own_hn k1 + e') % 16)) (-1 : Int64)))])) t
          refine XS.ifNo X49.here hx rfl (hb hby d_get_47) rfl (XT.ll_ne_f (hd1.resolve_left z0)) ?_
          show Steps p.tables e below (T49.setTop (mkF m 50 #[.val (.ref a1), .val (.long k1), .second, .val (.int ms), .val (.int (15 : Int32)), .val (.int (Int32.ofNat ((own_hn k1 + e') % 16)))] [])) t
          exact k)
        exact ⟨_, X49, e49, Or.inr ⟨z0, pre⟩⟩
    | succ k ih =>
      intro e' T hk' X eT pre
      have hlt : ((own_hn k1 + e') % 16) < 16 := Nat.mod_lt _ (by decide)
      have hns := hd2 e' (by omega)
      replace pre : Pth p e below S0 T (mkF m 17 #[.val (.ref a1), .val (.long k1), .second, .val (.int ms), .val (.int (15 : Int32)), .val (.int (Int32.ofNat ((own_hn k1 + e') % 16)))] [(.ref a1)]) := fun t k => pre t (by
        show Steps p.tables e below (T.setTop (mkF m 16 #[.val (.ref a1), .val (.long k1), .second, .val (.int ms), .val (.int (15 : Int32)), .val (.int (Int32.ofNat ((own_hn k1 + e') % 16)))] [])) t
        refine XS.aloadN X.here hx rfl (hb hby d_get_16) rfl rfl ?_
        show Steps p.tables e below (T.setTop (mkF m 17 #[.val (.ref a1), .val (.long k1), .second, .val (.int ms), .val (.int (15 : Int32)), .val (.int (Int32.ofNat ((own_hn k1 + e') % 16)))] [(.ref a1)])) t
        exact k)
      obtain ⟨T51, X51, e51, st51⟩ := getF X hx hZ hown (host := "") (Or.inl (hw _ (List.mem_of_getElem? (i := 15) rfl))) Via.refl eT F1 (g := (mkF m 17 #[.val (.ref a1), .val (.long k1), .second, .val (.int ms), .val (.int (15 : Int32)), .val (.int (Int32.ofNat ((own_hn k1 + e') % 16)))] [(.ref a1)])) rfl rfl (hb hby d_get_17)
      replace pre : Pth p e below S0 T51 (mkF m 20 #[.val (.ref a1), .val (.long k1), .second, .val (.int ms), .val (.int (15 : Int32)), .val (.int (Int32.ofNat ((own_hn k1 + e') % 16)))] [(.ref rk)]) := fun t k => pre t (st51 _ k)
      replace pre : Pth p e below S0 T51 (mkF m 22 #[.val (.ref a1), .val (.long k1), .second, .val (.int ms), .val (.int (15 : Int32)), .val (.int (Int32.ofNat ((own_hn k1 + e') % 16)))] [(.int (Int32.ofNat ((own_hn k1 + e') % 16))), (.ref rk)]) := fun t k => pre t (by
        show Steps p.tables e below (T51.setTop (mkF m 20 #[.val (.ref a1), .val (.long k1), .second, .val (.int ms), .val (.int (15 : Int32)), .val (.int (Int32.ofNat ((own_hn k1 + e') % 16)))] [(.ref rk)])) t
        refine XS.iload X51.here hx rfl (hb hby d_get_20) rfl ?_
        show Steps p.tables e below (T51.setTop (mkF m 22 #[.val (.ref a1), .val (.long k1), .second, .val (.int ms), .val (.int (15 : Int32)), .val (.int (Int32.ofNat ((own_hn k1 + e') % 16)))] [(.int (Int32.ofNat ((own_hn k1 + e') % 16))), (.ref rk)])) t
        exact k)
      obtain ⟨cl52, Ar52, Sz52, Gt52⟩ := id Kf
      have hin52 : ¬ ((Int32.ofNat ((own_hn k1 + e') % 16)) < 0 ∨ cl52.slots.size ≤ ((Int32.ofNat ((own_hn k1 + e') % 16))).toNatClampNeg) := by rw [Sz52]; exact (own_in (own_ix hlt) hlt)
      have hat52 : cl52.slots[((Int32.ofNat ((own_hn k1 + e') % 16))).toNatClampNeg]? = some (.long (kf ((own_hn k1 + e') % 16))) := (Gt52 _ (Nat.lt_of_lt_of_eq (Nat.lt_of_not_le fun q => hin52 (Or.inr q)) Sz52)).trans (congrArg some (by rw [own_cl (own_ix hlt)]))
      replace pre : Pth p e below S0 T51 (mkF m 37 #[.val (.ref a1), .val (.long k1), .second, .val (.int ms), .val (.int (15 : Int32)), .val (.int (Int32.ofNat ((own_hn k1 + e') % 16)))] [(.ref a1)]) := fun t k => pre t (by
        show Steps p.tables e below (T51.setTop (mkF m 22 #[.val (.ref a1), .val (.long k1), .second, .val (.int ms), .val (.int (15 : Int32)), .val (.int (Int32.ofNat ((own_hn k1 + e') % 16)))] [(.int (Int32.ofNat ((own_hn k1 + e') % 16))), (.ref rk)])) t
        refine X51.laload hx (j := (Int32.ofNat ((own_hn k1 + e') % 16))) (v := (.long (kf ((own_hn k1 + e') % 16)))) (by rw [e51]; exact Ar52.1) (State.isArrayOf_alike hZ.alike Ar52.2.1) Ar52.2.2 hin52 hat52 (g := (mkF m 22 #[.val (.ref a1), .val (.long k1), .second, .val (.int ms), .val (.int (15 : Int32)), .val (.int (Int32.ofNat ((own_hn k1 + e') % 16)))] [(.int (Int32.ofNat ((own_hn k1 + e') % 16))), (.ref rk)])) rfl rfl (hb hby d_get_22) _ ?_
        show Steps p.tables e below (T51.setTop (mkF m 23 #[.val (.ref a1), .val (.long k1), .second, .val (.int ms), .val (.int (15 : Int32)), .val (.int (Int32.ofNat ((own_hn k1 + e') % 16)))] [(.long (kf ((own_hn k1 + e') % 16)))])) t
        refine XS.lloadN X51.here hx rfl (hb hby d_get_23) rfl ?_
        show Steps p.tables e below (T51.setTop (mkF m 24 #[.val (.ref a1), .val (.long k1), .second, .val (.int ms), .val (.int (15 : Int32)), .val (.int (Int32.ofNat ((own_hn k1 + e') % 16)))] [(.long k1), (.long (kf ((own_hn k1 + e') % 16)))])) t
        refine XT.lcmp X51.here hx rfl (hb hby d_get_24) rfl ?_
        show Steps p.tables e below (T51.setTop (mkF m 25 #[.val (.ref a1), .val (.long k1), .second, .val (.int ms), .val (.int (15 : Int32)), .val (.int (Int32.ofNat ((own_hn k1 + e') % 16)))] [(.int (XT.cmpL (kf ((own_hn k1 + e') % 16)) k1))])) t
        refine XS.ifYes X51.here hx rfl (pc0 := 25) (pc' := 36) rfl (hb hby d_get_25) rfl (XT.ll_ne_t (fun q => hns (Or.inl q))) (by decide) (by decide) ?_
        show Steps p.tables e below (T51.setTop (mkF m 36 #[.val (.ref a1), .val (.long k1), .second, .val (.int ms), .val (.int (15 : Int32)), .val (.int (Int32.ofNat ((own_hn k1 + e') % 16)))] [])) t
        refine XS.aloadN X51.here hx rfl (hb hby d_get_36) rfl rfl ?_
        show Steps p.tables e below (T51.setTop (mkF m 37 #[.val (.ref a1), .val (.long k1), .second, .val (.int ms), .val (.int (15 : Int32)), .val (.int (Int32.ofNat ((own_hn k1 + e') % 16)))] [(.ref a1)])) t
        exact k)
      obtain ⟨T53, X53, e53, st53⟩ := getF X51 hx hZ hown (host := "") (Or.inl (hw _ (List.mem_of_getElem? (i := 15) rfl))) Via.refl e51 F1 (g := (mkF m 37 #[.val (.ref a1), .val (.long k1), .second, .val (.int ms), .val (.int (15 : Int32)), .val (.int (Int32.ofNat ((own_hn k1 + e') % 16)))] [(.ref a1)])) rfl rfl (hb hby d_get_37)
      replace pre : Pth p e below S0 T53 (mkF m 40 #[.val (.ref a1), .val (.long k1), .second, .val (.int ms), .val (.int (15 : Int32)), .val (.int (Int32.ofNat ((own_hn k1 + e') % 16)))] [(.ref rk)]) := fun t k => pre t (st53 _ k)
      replace pre : Pth p e below S0 T53 (mkF m 42 #[.val (.ref a1), .val (.long k1), .second, .val (.int ms), .val (.int (15 : Int32)), .val (.int (Int32.ofNat ((own_hn k1 + e') % 16)))] [(.int (Int32.ofNat ((own_hn k1 + e') % 16))), (.ref rk)]) := fun t k => pre t (by
        show Steps p.tables e below (T53.setTop (mkF m 40 #[.val (.ref a1), .val (.long k1), .second, .val (.int ms), .val (.int (15 : Int32)), .val (.int (Int32.ofNat ((own_hn k1 + e') % 16)))] [(.ref rk)])) t
        refine XS.iload X53.here hx rfl (hb hby d_get_40) rfl ?_
        show Steps p.tables e below (T53.setTop (mkF m 42 #[.val (.ref a1), .val (.long k1), .second, .val (.int ms), .val (.int (15 : Int32)), .val (.int (Int32.ofNat ((own_hn k1 + e') % 16)))] [(.int (Int32.ofNat ((own_hn k1 + e') % 16))), (.ref rk)])) t
        exact k)
      obtain ⟨cl54, Ar54, Sz54, Gt54⟩ := id Kf
      have hin54 : ¬ ((Int32.ofNat ((own_hn k1 + e') % 16)) < 0 ∨ cl54.slots.size ≤ ((Int32.ofNat ((own_hn k1 + e') % 16))).toNatClampNeg) := by rw [Sz54]; exact (own_in (own_ix hlt) hlt)
      have hat54 : cl54.slots[((Int32.ofNat ((own_hn k1 + e') % 16))).toNatClampNeg]? = some (.long (kf ((own_hn k1 + e') % 16))) := (Gt54 _ (Nat.lt_of_lt_of_eq (Nat.lt_of_not_le fun q => hin54 (Or.inr q)) Sz54)).trans (congrArg some (by rw [own_cl (own_ix hlt)]))
      replace pre : Pth p e below S0 T53 (mkF m 16 #[.val (.ref a1), .val (.long k1), .second, .val (.int ms), .val (.int (15 : Int32)), .val (.int (((Int32.ofNat ((own_hn k1 + e') % 16)) + (1 : Int32)) &&& (15 : Int32)))] []) := fun t k => pre t (by
        show Steps p.tables e below (T53.setTop (mkF m 42 #[.val (.ref a1), .val (.long k1), .second, .val (.int ms), .val (.int (15 : Int32)), .val (.int (Int32.ofNat ((own_hn k1 + e') % 16)))] [(.int (Int32.ofNat ((own_hn k1 + e') % 16))), (.ref rk)])) t
        refine X53.laload hx (j := (Int32.ofNat ((own_hn k1 + e') % 16))) (v := (.long (kf ((own_hn k1 + e') % 16)))) (by rw [e53]; exact Ar54.1) (State.isArrayOf_alike hZ.alike Ar54.2.1) Ar54.2.2 hin54 hat54 (g := (mkF m 42 #[.val (.ref a1), .val (.long k1), .second, .val (.int ms), .val (.int (15 : Int32)), .val (.int (Int32.ofNat ((own_hn k1 + e') % 16)))] [(.int (Int32.ofNat ((own_hn k1 + e') % 16))), (.ref rk)])) rfl rfl (hb hby d_get_42) _ ?_
        show Steps p.tables e below (T53.setTop (mkF m 43 #[.val (.ref a1), .val (.long k1), .second, .val (.int ms), .val (.int (15 : Int32)), .val (.int (Int32.ofNat ((own_hn k1 + e') % 16)))] [(.long (kf ((own_hn k1 + e') % 16)))])) t
        refine X53.ldc2Long hx hown (mvT hZ (hw _ (List.mem_of_getElem? (i := 17) rfl))) (g := (mkF m 43 #[.val (.ref a1), .val (.long k1), .second, .val (.int ms), .val (.int (15 : Int32)), .val (.int (Int32.ofNat ((own_hn k1 + e') % 16)))] [(.long (kf ((own_hn k1 + e') % 16)))])) rfl (hb hby d_get_43) _ ?_
        show Steps p.tables e below (T53.setTop (mkF m 46 #[.val (.ref a1), .val (.long k1), .second, .val (.int ms), .val (.int (15 : Int32)), .val (.int (Int32.ofNat ((own_hn k1 + e') % 16)))] [(.long (-1 : Int64)), (.long (kf ((own_hn k1 + e') % 16)))])) t
        refine XT.lcmp X53.here hx rfl (hb hby d_get_46) rfl ?_
        show Steps p.tables e below (T53.setTop (mkF m 47 #[.val (.ref a1), .val (.long k1), .second, .val (.int ms), .val (.int (15 : Int32)), .val (.int (Int32.ofNat ((own_hn k1 + e') % 16)))] [(.int (XT.cmpL (kf ((own_hn k1 + e') % 16)) (-1 : Int64)))])) t
        refine XS.ifYes X53.here hx rfl (pc0 := 47) (pc' := 52) rfl (hb hby d_get_47) rfl (XT.ll_ne_t (fun q => hns (Or.inr q))) (by decide) (by decide) ?_
        show Steps p.tables e below (T53.setTop (mkF m 52 #[.val (.ref a1), .val (.long k1), .second, .val (.int ms), .val (.int (15 : Int32)), .val (.int (Int32.ofNat ((own_hn k1 + e') % 16)))] [])) t
        refine XS.iload X53.here hx rfl (hb hby d_get_52) rfl ?_
        show Steps p.tables e below (T53.setTop (mkF m 54 #[.val (.ref a1), .val (.long k1), .second, .val (.int ms), .val (.int (15 : Int32)), .val (.int (Int32.ofNat ((own_hn k1 + e') % 16)))] [(.int (Int32.ofNat ((own_hn k1 + e') % 16)))])) t
        refine XS.iconst X53.here hx rfl (hb hby d_get_54) ?_
        show Steps p.tables e below (T53.setTop (mkF m 55 #[.val (.ref a1), .val (.long k1), .second, .val (.int ms), .val (.int (15 : Int32)), .val (.int (Int32.ofNat ((own_hn k1 + e') % 16)))] [(.int (1 : Int32)), (.int (Int32.ofNat ((own_hn k1 + e') % 16)))])) t
        refine XS.iadd X53.here hx rfl (hb hby d_get_55) rfl ?_
        show Steps p.tables e below (T53.setTop (mkF m 56 #[.val (.ref a1), .val (.long k1), .second, .val (.int ms), .val (.int (15 : Int32)), .val (.int (Int32.ofNat ((own_hn k1 + e') % 16)))] [(.int ((Int32.ofNat ((own_hn k1 + e') % 16)) + (1 : Int32)))])) t
        refine XS.iload X53.here hx rfl (hb hby d_get_56) rfl ?_
        show Steps p.tables e below (T53.setTop (mkF m 58 #[.val (.ref a1), .val (.long k1), .second, .val (.int ms), .val (.int (15 : Int32)), .val (.int (Int32.ofNat ((own_hn k1 + e') % 16)))] [(.int (15 : Int32)), (.int ((Int32.ofNat ((own_hn k1 + e') % 16)) + (1 : Int32)))])) t
        refine XS.iand X53.here hx rfl (hb hby d_get_58) rfl ?_
        show Steps p.tables e below (T53.setTop (mkF m 59 #[.val (.ref a1), .val (.long k1), .second, .val (.int ms), .val (.int (15 : Int32)), .val (.int (Int32.ofNat ((own_hn k1 + e') % 16)))] [(.int (((Int32.ofNat ((own_hn k1 + e') % 16)) + (1 : Int32)) &&& (15 : Int32)))])) t
        refine XS.istore X53.here hx rfl (hb hby d_get_59) rfl (l' := #[.val (.ref a1), .val (.long k1), .second, .val (.int ms), .val (.int (15 : Int32)), .val (.int (((Int32.ofNat ((own_hn k1 + e') % 16)) + (1 : Int32)) &&& (15 : Int32)))]) rfl ?_
        show Steps p.tables e below (T53.setTop (mkF m 61 #[.val (.ref a1), .val (.long k1), .second, .val (.int ms), .val (.int (15 : Int32)), .val (.int (((Int32.ofNat ((own_hn k1 + e') % 16)) + (1 : Int32)) &&& (15 : Int32)))] [])) t
        refine XS.goto X53.here hx rfl (pc0 := 61) (pc' := 16) rfl (hb hby d_get_61) (by decide) (by decide) ?_
        show Steps p.tables e below (T53.setTop (mkF m 16 #[.val (.ref a1), .val (.long k1), .second, .val (.int ms), .val (.int (15 : Int32)), .val (.int (((Int32.ofNat ((own_hn k1 + e') % 16)) + (1 : Int32)) &&& (15 : Int32)))] [])) t
        exact k)
      rw [own_step] at pre
      exact ih (e' + 1) _ (by omega) X53 e53 pre
  obtain ⟨T, X, eT, hpre⟩ := loop d 0 _ (Nat.zero_add _) Xz e46 pre
  have hlt : ((own_hn k1 + d) % 16) < 16 := Nat.mod_lt _ (by decide)
  have hsl : OSlot kf k1 ((own_hn k1 + d) % 16) := ⟨d, rfl, hd1, hd2⟩
  clear pre
  rcases hpre with ⟨z0, pre⟩ | ⟨z0, pre⟩
  · replace pre : Pth p e below S0 T (mkF m 29 #[.val (.ref a1), .val (.long k1), .second, .val (.int ms), .val (.int (15 : Int32)), .val (.int (Int32.ofNat ((own_hn k1 + d) % 16)))] [(.ref a1)]) := fun t k => pre t (by
      show Steps p.tables e below (T.setTop (mkF m 28 #[.val (.ref a1), .val (.long k1), .second, .val (.int ms), .val (.int (15 : Int32)), .val (.int (Int32.ofNat ((own_hn k1 + d) % 16)))] [])) t
      refine XS.aloadN X.here hx rfl (hb hby d_get_28) rfl rfl ?_
      show Steps p.tables e below (T.setTop (mkF m 29 #[.val (.ref a1), .val (.long k1), .second, .val (.int ms), .val (.int (15 : Int32)), .val (.int (Int32.ofNat ((own_hn k1 + d) % 16)))] [(.ref a1)])) t
      exact k)
    obtain ⟨T55, X55, e55, st55⟩ := getF X hx hZ hown (host := "") (Or.inl (hw _ (List.mem_of_getElem? (i := 23) rfl))) Via.refl eT F2 (g := (mkF m 29 #[.val (.ref a1), .val (.long k1), .second, .val (.int ms), .val (.int (15 : Int32)), .val (.int (Int32.ofNat ((own_hn k1 + d) % 16)))] [(.ref a1)])) rfl rfl (hb hby d_get_29)
    replace pre : Pth p e below S0 T55 (mkF m 32 #[.val (.ref a1), .val (.long k1), .second, .val (.int ms), .val (.int (15 : Int32)), .val (.int (Int32.ofNat ((own_hn k1 + d) % 16)))] [(.ref rv)]) := fun t k => pre t (st55 _ k)
    replace pre : Pth p e below S0 T55 (mkF m 34 #[.val (.ref a1), .val (.long k1), .second, .val (.int ms), .val (.int (15 : Int32)), .val (.int (Int32.ofNat ((own_hn k1 + d) % 16)))] [(.int (Int32.ofNat ((own_hn k1 + d) % 16))), (.ref rv)]) := fun t k => pre t (by
      show Steps p.tables e below (T55.setTop (mkF m 32 #[.val (.ref a1), .val (.long k1), .second, .val (.int ms), .val (.int (15 : Int32)), .val (.int (Int32.ofNat ((own_hn k1 + d) % 16)))] [(.ref rv)])) t
      refine XS.iload X55.here hx rfl (hb hby d_get_32) rfl ?_
      show Steps p.tables e below (T55.setTop (mkF m 34 #[.val (.ref a1), .val (.long k1), .second, .val (.int ms), .val (.int (15 : Int32)), .val (.int (Int32.ofNat ((own_hn k1 + d) % 16)))] [(.int (Int32.ofNat ((own_hn k1 + d) % 16))), (.ref rv)])) t
      exact k)
    obtain ⟨cl56, Ar56, Sz56, Gt56⟩ := id Vf
    have hin56 : ¬ ((Int32.ofNat ((own_hn k1 + d) % 16)) < 0 ∨ cl56.slots.size ≤ ((Int32.ofNat ((own_hn k1 + d) % 16))).toNatClampNeg) := by rw [Sz56]; exact (own_in (own_ix hlt) hlt)
    have hat56 : cl56.slots[((Int32.ofNat ((own_hn k1 + d) % 16))).toNatClampNeg]? = some (.int (vf ((own_hn k1 + d) % 16))) := (Gt56 _ (Nat.lt_of_lt_of_eq (Nat.lt_of_not_le fun q => hin56 (Or.inr q)) Sz56)).trans (congrArg some (by rw [own_cl (own_ix hlt)]))
    replace pre : Pth p e below S0 T55 (mkF m 35 #[.val (.ref a1), .val (.long k1), .second, .val (.int ms), .val (.int (15 : Int32)), .val (.int (Int32.ofNat ((own_hn k1 + d) % 16)))] [(.int (vf ((own_hn k1 + d) % 16)))]) := fun t k => pre t (by
      show Steps p.tables e below (T55.setTop (mkF m 34 #[.val (.ref a1), .val (.long k1), .second, .val (.int ms), .val (.int (15 : Int32)), .val (.int (Int32.ofNat ((own_hn k1 + d) % 16)))] [(.int (Int32.ofNat ((own_hn k1 + d) % 16))), (.ref rv)])) t
      refine X55.iaload hx (j := (Int32.ofNat ((own_hn k1 + d) % 16))) (v := (.int (vf ((own_hn k1 + d) % 16)))) (by rw [e55]; exact Ar56.1) (State.isArrayOf_alike hZ.alike Ar56.2.1) Ar56.2.2 hin56 hat56 (g := (mkF m 34 #[.val (.ref a1), .val (.long k1), .second, .val (.int ms), .val (.int (15 : Int32)), .val (.int (Int32.ofNat ((own_hn k1 + d) % 16)))] [(.int (Int32.ofNat ((own_hn k1 + d) % 16))), (.ref rv)])) rfl rfl (hb hby d_get_34) _ ?_
      show Steps p.tables e below (T55.setTop (mkF m 35 #[.val (.ref a1), .val (.long k1), .second, .val (.int ms), .val (.int (15 : Int32)), .val (.int (Int32.ofNat ((own_hn k1 + d) % 16)))] [(.int (vf ((own_hn k1 + d) % 16)))])) t
      exact k)
    obtain ⟨fs, hr, hrun, hended, hW, hsame⟩ := X55.leave (v := some (.int (vf ((own_hn k1 + d) % 16)))) (fun h => by rw [Bd.returns] at h; cases h)
    subst hS0
    refine ⟨_, _, pre _ ?_, hrun, hended, _, _, rfl, ?_, ⟨_, rfl⟩, hW, hsame.mono (by decide) (by decide)⟩
    · exact retI X55 hx Bd.returns (hb hby d_get_35) hr
    · show Q_get Z a1 k1 ms rk rv sz kf vf h0 n0 _ T55.heap _
      rw [e55]
      exact ⟨_, by rw [if_pos z0], Nz, rfl, hlt, hsl⟩
  · replace pre : Pth p e below S0 T (mkF m 51 #[.val (.ref a1), .val (.long k1), .second, .val (.int ms), .val (.int (15 : Int32)), .val (.int (Int32.ofNat ((own_hn k1 + d) % 16)))] [(.int ms)]) := fun t k => pre t (by
      show Steps p.tables e below (T.setTop (mkF m 50 #[.val (.ref a1), .val (.long k1), .second, .val (.int ms), .val (.int (15 : Int32)), .val (.int (Int32.ofNat ((own_hn k1 + d) % 16)))] [])) t
      refine XS.iloadN X.here hx rfl (hb hby d_get_50) rfl ?_
      show Steps p.tables e below (T.setTop (mkF m 51 #[.val (.ref a1), .val (.long k1), .second, .val (.int ms), .val (.int (15 : Int32)), .val (.int (Int32.ofNat ((own_hn k1 + d) % 16)))] [(.int ms)])) t
      exact k)
    obtain ⟨fs, hr, hrun, hended, hW, hsame⟩ := X.leave (v := some (.int ms)) (fun h => by rw [Bd.returns] at h; cases h)
    subst hS0
    refine ⟨_, _, pre _ ?_, hrun, hended, _, _, rfl, ?_, ⟨_, rfl⟩, hW, hsame.mono (by decide) (by decide)⟩
    · exact retI X hx Bd.returns (hb hby d_get_51) hr
    · show Q_get Z a1 k1 ms rk rv sz kf vf h0 n0 _ T.heap _
      rw [eT]
      exact ⟨_, by rw [if_neg z0], Nz, rfl, hlt, hsl⟩
def Q_exq (Z : State) (k1 : Int64) (ka : Int64) (kb : Int64) (kc : Int64) (v1 : Int32) (w1 : Int32) (ms : Int32) (h0 : Heap) (n0 : Nat) (v : Option Value) (h : Heap) (L : List Loc) : Prop := v = some (.int (own_exq k1 ka kb kc v1 w1 ms)) ∧ Fr n0 L ∧ h = h0
set_option maxRecDepth 65536 in
set_option maxHeartbeats 40000000 in
theorem rm_exq (l : Launch) (Z : State) (a0 : Array Value) (hw : ∀ d ∈ tables_1, d.before a0 Z = true) (ws : List Jvm.Cond) (k1 : Int64) (ka : Int64) (kb : Int64) (kc : Int64) (v1 : Int32) (w1 : Int32) (ms : Int32) (h0 : Heap) (n0 : Nat)  :
    MetFree l (⟨"com/example/signalbox/signalbox/history/LongIntMapGetPinLaw", "expect", "(JJJJIII)I"⟩ : MethodName) (head1 (Jvm.Cond.code (⟨"com/example/signalbox/signalbox/history/LongIntMapGetPinLaw", "expect", "(JJJJIII)I"⟩ : MethodName) method_2_code 11 (some .int) :: ws) ({ frames := 0, cells := 0, slots := 0, locals := 0 } : Room)) (fun a U => a = #[(.long k1), (.long ka), (.long kb), (.long kc), (.int v1), (.int w1), (.int ms)] ∧ Z.Warmed39 U.vm ∧ U.heap = h0) (fun _ _ _ _ _ => True) (fun _ U o U' => ∃ v L, o = .returned v ∧ Q_exq Z k1 ka kb kc v1 w1 ms h0 n0 v U'.heap L ∧ FrameEnd U o U' L ({ frames := 0, cells := 0, slots := 0, locals := 0 } : Room).cells ({ frames := 0, cells := 0, slots := 0, locals := 0 } : Room).slots) := by
  refine MetFree.of_bodySF (plainFor_of_name pn_com_example_signalbox_signalbox_history_LongIntMapGetPinLaw) hisR ?_
  intro p e s m args below meth c s₁ Bd hml0 hP hK
  obtain ⟨rfl, hZ, hh⟩ := hP
  have hx := Bd.exec
  have hby := Bd.bytes
  have hml : c.maxLocals = 11 := hml0
  have hown : s.vm.findClass "com/example/signalbox/signalbox/history/LongIntMapGetPinLaw" = some m.cls := findClass_of_methodNamed Bd.named
  have hnm := (name_of_methodNamed Bd.named Bd.method).1
  have X0 : Stand p l e ({ frames := 0, cells := 0, slots := 0, locals := 0 } : Room) s m #[(.long k1), (.long ka), (.long kb), (.long kc), (.int v1), (.int w1), (.int ms)] below meth c s₁ [] 0 0 := Stand.of_body Bd
  have e0 : s₁.heap = h0 := by rw [← hh, Bd.state]; rfl
  have N0 := Fr.nil n0
  obtain ⟨S0, hS0⟩ : ∃ S0, S0 = s₁.setTop (entryFrame m #[(.long k1), (.long ka), (.long kb), (.long kc), (.int v1), (.int w1), (.int ms)] 11) := ⟨_, rfl⟩
  have pre : Pth p e below S0 s₁ (mkF m 0 #[.val (.long k1), .second, .val (.long ka), .second, .val (.long kb), .second, .val (.long kc), .second, .val (.int v1), .val (.int w1), .val (.int ms)] []) := fun t k => by rw [hS0]; exact castTop (ef_exq m k1 ka kb kc v1 w1 ms) k
  replace pre : Pth p e below S0 s₁ (mkF m 4 #[.val (.long k1), .second, .val (.long ka), .second, .val (.long kb), .second, .val (.long kc), .second, .val (.int v1), .val (.int w1), .val (.int ms)] [(.int (XT.cmpL k1 kc))]) := fun t k => pre t (by
    show Steps p.tables e below (s₁.setTop (mkF m 0 #[.val (.long k1), .second, .val (.long ka), .second, .val (.long kb), .second, .val (.long kc), .second, .val (.int v1), .val (.int w1), .val (.int ms)] [])) t
    refine XS.lloadN X0.here hx rfl (hb hby d_exq_0) rfl ?_
    show Steps p.tables e below (s₁.setTop (mkF m 1 #[.val (.long k1), .second, .val (.long ka), .second, .val (.long kb), .second, .val (.long kc), .second, .val (.int v1), .val (.int w1), .val (.int ms)] [(.long k1)])) t
    refine XS.lload X0.here hx rfl (hb hby d_exq_1) rfl ?_
    show Steps p.tables e below (s₁.setTop (mkF m 3 #[.val (.long k1), .second, .val (.long ka), .second, .val (.long kb), .second, .val (.long kc), .second, .val (.int v1), .val (.int w1), .val (.int ms)] [(.long kc), (.long k1)])) t
    refine XT.lcmp X0.here hx rfl (hb hby d_exq_3) rfl ?_
    show Steps p.tables e below (s₁.setTop (mkF m 4 #[.val (.long k1), .second, .val (.long ka), .second, .val (.long kb), .second, .val (.long kc), .second, .val (.int v1), .val (.int w1), .val (.int ms)] [(.int (XT.cmpL k1 kc))])) t
    exact k)
  by_cases h1 : k1 = kc
  · replace pre : Pth p e below S0 s₁ (mkF m 12 #[.val (.long k1), .second, .val (.long ka), .second, .val (.long kb), .second, .val (.long kc), .second, .val (.int v1), .val (.int w1), .val (.int ms)] [(.int (v1 ^^^ w1))]) := fun t k => pre t (by
      show Steps p.tables e below (s₁.setTop (mkF m 4 #[.val (.long k1), .second, .val (.long ka), .second, .val (.long kb), .second, .val (.long kc), .second, .val (.int v1), .val (.int w1), .val (.int ms)] [(.int (XT.cmpL k1 kc))])) t
      refine XS.ifNo X0.here hx rfl (hb hby d_exq_4) rfl (XT.ll_ne_f h1) ?_
      show Steps p.tables e below (s₁.setTop (mkF m 7 #[.val (.long k1), .second, .val (.long ka), .second, .val (.long kb), .second, .val (.long kc), .second, .val (.int v1), .val (.int w1), .val (.int ms)] [])) t
      refine XS.iload X0.here hx rfl (hb hby d_exq_7) rfl ?_
      show Steps p.tables e below (s₁.setTop (mkF m 9 #[.val (.long k1), .second, .val (.long ka), .second, .val (.long kb), .second, .val (.long kc), .second, .val (.int v1), .val (.int w1), .val (.int ms)] [(.int v1)])) t
      refine XS.iload X0.here hx rfl (hb hby d_exq_9) rfl ?_
      show Steps p.tables e below (s₁.setTop (mkF m 11 #[.val (.long k1), .second, .val (.long ka), .second, .val (.long kb), .second, .val (.long kc), .second, .val (.int v1), .val (.int w1), .val (.int ms)] [(.int w1), (.int v1)])) t
      refine XS.ixor X0.here hx rfl (hb hby d_exq_11) rfl ?_
      show Steps p.tables e below (s₁.setTop (mkF m 12 #[.val (.long k1), .second, .val (.long ka), .second, .val (.long kb), .second, .val (.long kc), .second, .val (.int v1), .val (.int w1), .val (.int ms)] [(.int (v1 ^^^ w1))])) t
      exact k)
    obtain ⟨fs, hr, hrun, hended, hW, hsame⟩ := X0.leave (v := some (.int (v1 ^^^ w1))) (fun h => by rw [Bd.returns] at h; cases h)
    subst hS0
    refine ⟨_, _, pre _ ?_, hrun, hended, _, _, rfl, ?_, ⟨_, rfl⟩, hW, hsame.mono (by decide) (by decide)⟩
    · exact retI X0 hx Bd.returns (hb hby d_exq_12) hr
    · show Q_exq Z k1 ka kb kc v1 w1 ms h0 n0 _ s₁.heap _
      rw [e0]
      exact ⟨by rw [own_exq, if_pos h1], N0, rfl⟩
  · replace pre : Pth p e below S0 s₁ (mkF m 17 #[.val (.long k1), .second, .val (.long ka), .second, .val (.long kb), .second, .val (.long kc), .second, .val (.int v1), .val (.int w1), .val (.int ms)] [(.int (XT.cmpL k1 kb))]) := fun t k => pre t (by
      show Steps p.tables e below (s₁.setTop (mkF m 4 #[.val (.long k1), .second, .val (.long ka), .second, .val (.long kb), .second, .val (.long kc), .second, .val (.int v1), .val (.int w1), .val (.int ms)] [(.int (XT.cmpL k1 kc))])) t
      refine XS.ifYes X0.here hx rfl (pc0 := 4) (pc' := 13) rfl (hb hby d_exq_4) rfl (XT.ll_ne_t h1) (by decide) (by decide) ?_
      show Steps p.tables e below (s₁.setTop (mkF m 13 #[.val (.long k1), .second, .val (.long ka), .second, .val (.long kb), .second, .val (.long kc), .second, .val (.int v1), .val (.int w1), .val (.int ms)] [])) t
      refine XS.lloadN X0.here hx rfl (hb hby d_exq_13) rfl ?_
      show Steps p.tables e below (s₁.setTop (mkF m 14 #[.val (.long k1), .second, .val (.long ka), .second, .val (.long kb), .second, .val (.long kc), .second, .val (.int v1), .val (.int w1), .val (.int ms)] [(.long k1)])) t
      refine XS.lload X0.here hx rfl (hb hby d_exq_14) rfl ?_
      show Steps p.tables e below (s₁.setTop (mkF m 16 #[.val (.long k1), .second, .val (.long ka), .second, .val (.long kb), .second, .val (.long kc), .second, .val (.int v1), .val (.int w1), .val (.int ms)] [(.long kb), (.long k1)])) t
      refine XT.lcmp X0.here hx rfl (hb hby d_exq_16) rfl ?_
      show Steps p.tables e below (s₁.setTop (mkF m 17 #[.val (.long k1), .second, .val (.long ka), .second, .val (.long kb), .second, .val (.long kc), .second, .val (.int v1), .val (.int w1), .val (.int ms)] [(.int (XT.cmpL k1 kb))])) t
      exact k)
    by_cases h2 : k1 = kb
    · replace pre : Pth p e below S0 s₁ (mkF m 22 #[.val (.long k1), .second, .val (.long ka), .second, .val (.long kb), .second, .val (.long kc), .second, .val (.int v1), .val (.int w1), .val (.int ms)] [(.int w1)]) := fun t k => pre t (by
        show Steps p.tables e below (s₁.setTop (mkF m 17 #[.val (.long k1), .second, .val (.long ka), .second, .val (.long kb), .second, .val (.long kc), .second, .val (.int v1), .val (.int w1), .val (.int ms)] [(.int (XT.cmpL k1 kb))])) t
        refine XS.ifNo X0.here hx rfl (hb hby d_exq_17) rfl (XT.ll_ne_f h2) ?_
        show Steps p.tables e below (s₁.setTop (mkF m 20 #[.val (.long k1), .second, .val (.long ka), .second, .val (.long kb), .second, .val (.long kc), .second, .val (.int v1), .val (.int w1), .val (.int ms)] [])) t
        refine XS.iload X0.here hx rfl (hb hby d_exq_20) rfl ?_
        show Steps p.tables e below (s₁.setTop (mkF m 22 #[.val (.long k1), .second, .val (.long ka), .second, .val (.long kb), .second, .val (.long kc), .second, .val (.int v1), .val (.int w1), .val (.int ms)] [(.int w1)])) t
        exact k)
      obtain ⟨fs, hr, hrun, hended, hW, hsame⟩ := X0.leave (v := some (.int w1)) (fun h => by rw [Bd.returns] at h; cases h)
      subst hS0
      refine ⟨_, _, pre _ ?_, hrun, hended, _, _, rfl, ?_, ⟨_, rfl⟩, hW, hsame.mono (by decide) (by decide)⟩
      · exact retI X0 hx Bd.returns (hb hby d_exq_22) hr
      · show Q_exq Z k1 ka kb kc v1 w1 ms h0 n0 _ s₁.heap _
        rw [e0]
        exact ⟨by rw [own_exq, if_neg h1, if_pos h2], N0, rfl⟩
    · replace pre : Pth p e below S0 s₁ (mkF m 26 #[.val (.long k1), .second, .val (.long ka), .second, .val (.long kb), .second, .val (.long kc), .second, .val (.int v1), .val (.int w1), .val (.int ms)] [(.int (XT.cmpL k1 ka))]) := fun t k => pre t (by
        show Steps p.tables e below (s₁.setTop (mkF m 17 #[.val (.long k1), .second, .val (.long ka), .second, .val (.long kb), .second, .val (.long kc), .second, .val (.int v1), .val (.int w1), .val (.int ms)] [(.int (XT.cmpL k1 kb))])) t
        refine XS.ifYes X0.here hx rfl (pc0 := 17) (pc' := 23) rfl (hb hby d_exq_17) rfl (XT.ll_ne_t h2) (by decide) (by decide) ?_
        show Steps p.tables e below (s₁.setTop (mkF m 23 #[.val (.long k1), .second, .val (.long ka), .second, .val (.long kb), .second, .val (.long kc), .second, .val (.int v1), .val (.int w1), .val (.int ms)] [])) t
        refine XS.lloadN X0.here hx rfl (hb hby d_exq_23) rfl ?_
        show Steps p.tables e below (s₁.setTop (mkF m 24 #[.val (.long k1), .second, .val (.long ka), .second, .val (.long kb), .second, .val (.long kc), .second, .val (.int v1), .val (.int w1), .val (.int ms)] [(.long k1)])) t
        refine XS.lloadN X0.here hx rfl (hb hby d_exq_24) rfl ?_
        show Steps p.tables e below (s₁.setTop (mkF m 25 #[.val (.long k1), .second, .val (.long ka), .second, .val (.long kb), .second, .val (.long kc), .second, .val (.int v1), .val (.int w1), .val (.int ms)] [(.long ka), (.long k1)])) t
        refine XT.lcmp X0.here hx rfl (hb hby d_exq_25) rfl ?_
        show Steps p.tables e below (s₁.setTop (mkF m 26 #[.val (.long k1), .second, .val (.long ka), .second, .val (.long kb), .second, .val (.long kc), .second, .val (.int v1), .val (.int w1), .val (.int ms)] [(.int (XT.cmpL k1 ka))])) t
        exact k)
      by_cases h3 : k1 = ka
      · replace pre : Pth p e below S0 s₁ (mkF m 31 #[.val (.long k1), .second, .val (.long ka), .second, .val (.long kb), .second, .val (.long kc), .second, .val (.int v1), .val (.int w1), .val (.int ms)] [(.int v1)]) := fun t k => pre t (by
          show Steps p.tables e below (s₁.setTop (mkF m 26 #[.val (.long k1), .second, .val (.long ka), .second, .val (.long kb), .second, .val (.long kc), .second, .val (.int v1), .val (.int w1), .val (.int ms)] [(.int (XT.cmpL k1 ka))])) t
          refine XS.ifNo X0.here hx rfl (hb hby d_exq_26) rfl (XT.ll_ne_f h3) ?_
          show Steps p.tables e below (s₁.setTop (mkF m 29 #[.val (.long k1), .second, .val (.long ka), .second, .val (.long kb), .second, .val (.long kc), .second, .val (.int v1), .val (.int w1), .val (.int ms)] [])) t
          refine XS.iload X0.here hx rfl (hb hby d_exq_29) rfl ?_
          show Steps p.tables e below (s₁.setTop (mkF m 31 #[.val (.long k1), .second, .val (.long ka), .second, .val (.long kb), .second, .val (.long kc), .second, .val (.int v1), .val (.int w1), .val (.int ms)] [(.int v1)])) t
          exact k)
        obtain ⟨fs, hr, hrun, hended, hW, hsame⟩ := X0.leave (v := some (.int v1)) (fun h => by rw [Bd.returns] at h; cases h)
        subst hS0
        refine ⟨_, _, pre _ ?_, hrun, hended, _, _, rfl, ?_, ⟨_, rfl⟩, hW, hsame.mono (by decide) (by decide)⟩
        · exact retI X0 hx Bd.returns (hb hby d_exq_31) hr
        · show Q_exq Z k1 ka kb kc v1 w1 ms h0 n0 _ s₁.heap _
          rw [e0]
          exact ⟨by rw [own_exq, if_neg h1, if_neg h2, if_pos h3], N0, rfl⟩
      · replace pre : Pth p e below S0 s₁ (mkF m 34 #[.val (.long k1), .second, .val (.long ka), .second, .val (.long kb), .second, .val (.long kc), .second, .val (.int v1), .val (.int w1), .val (.int ms)] [(.int ms)]) := fun t k => pre t (by
          show Steps p.tables e below (s₁.setTop (mkF m 26 #[.val (.long k1), .second, .val (.long ka), .second, .val (.long kb), .second, .val (.long kc), .second, .val (.int v1), .val (.int w1), .val (.int ms)] [(.int (XT.cmpL k1 ka))])) t
          refine XS.ifYes X0.here hx rfl (pc0 := 26) (pc' := 32) rfl (hb hby d_exq_26) rfl (XT.ll_ne_t h3) (by decide) (by decide) ?_
          show Steps p.tables e below (s₁.setTop (mkF m 32 #[.val (.long k1), .second, .val (.long ka), .second, .val (.long kb), .second, .val (.long kc), .second, .val (.int v1), .val (.int w1), .val (.int ms)] [])) t
          refine XS.iload X0.here hx rfl (hb hby d_exq_32) rfl ?_
          show Steps p.tables e below (s₁.setTop (mkF m 34 #[.val (.long k1), .second, .val (.long ka), .second, .val (.long kb), .second, .val (.long kc), .second, .val (.int v1), .val (.int w1), .val (.int ms)] [(.int ms)])) t
          exact k)
        obtain ⟨fs, hr, hrun, hended, hW, hsame⟩ := X0.leave (v := some (.int ms)) (fun h => by rw [Bd.returns] at h; cases h)
        subst hS0
        refine ⟨_, _, pre _ ?_, hrun, hended, _, _, rfl, ?_, ⟨_, rfl⟩, hW, hsame.mono (by decide) (by decide)⟩
        · exact retI X0 hx Bd.returns (hb hby d_exq_34) hr
        · show Q_exq Z k1 ka kb kc v1 w1 ms h0 n0 _ s₁.heap _
          rw [e0]
          exact ⟨by rw [own_exq, if_neg h1, if_neg h2, if_neg h3], N0, rfl⟩
def Q_law (Z : State) (p0 : Int64) (p1 : Int64) (p2 : Int64) (p3 : Int64) (v0 : Int32) (w0 : Int32) (h0 : Heap) (n0 : Nat) (v : Option Value) (h : Heap) (L : List Loc) : Prop := v = some (.int 1) ∧ Fr n0 L
set_option maxRecDepth 65536 in
set_option maxHeartbeats 40000000 in
theorem rm_law (l : Launch) (Z : State) (a0 : Array Value) (hw : ∀ d ∈ tables_1, d.before a0 Z = true) (ws : List Jvm.Cond) (p0 : Int64) (p1 : Int64) (p2 : Int64) (p3 : Int64) (v0 : Int32) (w0 : Int32) (h0 : Heap) (n0 : Nat) (Z0 : n0 ≤ h0.size)  :
    MetFree l x (head1 (Jvm.Cond.code x code maxLocals ret :: ws) room_1) (fun a U => a = #[(.long p0), (.long p1), (.long p2), (.long p3), (.int v0), (.int w0)] ∧ Z.Warmed39 U.vm ∧ U.heap = h0) (fun _ _ _ _ _ => True) (fun _ U o U' => ∃ v L, o = .returned v ∧ Q_law Z p0 p1 p2 p3 v0 w0 h0 n0 v U'.heap L ∧ FrameEnd U o U' L room_1.cells room_1.slots) := by
  refine MetFree.of_bodySF (plainFor_of_name pn_com_example_signalbox_signalbox_history_LongIntMapGetPinLaw) hisR ?_
  intro p e s m args below meth c s₁ Bd hml0 hP hK
  obtain ⟨rfl, hZ, hh⟩ := hP
  have hx := Bd.exec
  have hby := Bd.bytes
  have hml : c.maxLocals = 25 := hml0
  have hown : s.vm.findClass "com/example/signalbox/signalbox/history/LongIntMapGetPinLaw" = some m.cls := findClass_of_methodNamed Bd.named
  have hnm := (name_of_methodNamed Bd.named Bd.method).1
  have X0 : Stand p l e room_1 s m #[(.long p0), (.long p1), (.long p2), (.long p3), (.int v0), (.int w0)] below meth c s₁ [] 0 0 := Stand.of_body Bd
  have e0 : s₁.heap = h0 := by rw [← hh, Bd.state]; rfl
  have N0 := Fr.nil n0
  obtain ⟨S0, hS0⟩ : ∃ S0, S0 = s₁.setTop (entryFrame m #[(.long p0), (.long p1), (.long p2), (.long p3), (.int v0), (.int w0)] maxLocals) := ⟨_, rfl⟩
  have pre : Pth p e below S0 s₁ (mkF m 0 #[.val (.long p0), .second, .val (.long p1), .second, .val (.long p2), .second, .val (.long p3), .second, .val (.int v0), .val (.int w0), .unset, .unset, .unset, .unset, .unset, .unset, .unset, .unset, .unset, .unset, .unset, .unset, .unset, .unset, .unset] []) := fun t k => by rw [hS0]; exact castTop (ef_law m p0 p1 p2 p3 v0 w0) k
  replace pre : Pth p e below S0 s₁ (mkF m 7 #[.val (.long p0), .second, .val (.long p1), .second, .val (.long p2), .second, .val (.long p3), .second, .val (.int v0), .val (.int w0), .val (.long (p0 &&& (9223372036854775807 : Int64))), .second, .unset, .unset, .unset, .unset, .unset, .unset, .unset, .unset, .unset, .unset, .unset, .unset, .unset] []) := fun t k => pre t (by
    show Steps p.tables e below (s₁.setTop (mkF m 0 #[.val (.long p0), .second, .val (.long p1), .second, .val (.long p2), .second, .val (.long p3), .second, .val (.int v0), .val (.int w0), .unset, .unset, .unset, .unset, .unset, .unset, .unset, .unset, .unset, .unset, .unset, .unset, .unset, .unset, .unset] [])) t
    refine XS.lloadN X0.here hx rfl (hb hby at_0) rfl ?_
    show Steps p.tables e below (s₁.setTop (mkF m 1 #[.val (.long p0), .second, .val (.long p1), .second, .val (.long p2), .second, .val (.long p3), .second, .val (.int v0), .val (.int w0), .unset, .unset, .unset, .unset, .unset, .unset, .unset, .unset, .unset, .unset, .unset, .unset, .unset, .unset, .unset] [(.long p0)])) t
    refine X0.ldc2Long hx hown (mvT hZ (hw _ (List.mem_of_getElem? (i := 0) rfl))) (g := (mkF m 1 #[.val (.long p0), .second, .val (.long p1), .second, .val (.long p2), .second, .val (.long p3), .second, .val (.int v0), .val (.int w0), .unset, .unset, .unset, .unset, .unset, .unset, .unset, .unset, .unset, .unset, .unset, .unset, .unset, .unset, .unset] [(.long p0)])) rfl (hb hby at_1) _ ?_
    show Steps p.tables e below (s₁.setTop (mkF m 4 #[.val (.long p0), .second, .val (.long p1), .second, .val (.long p2), .second, .val (.long p3), .second, .val (.int v0), .val (.int w0), .unset, .unset, .unset, .unset, .unset, .unset, .unset, .unset, .unset, .unset, .unset, .unset, .unset, .unset, .unset] [(.long (9223372036854775807 : Int64)), (.long p0)])) t
    refine XS.land X0.here hx rfl (hb hby at_4) rfl ?_
    show Steps p.tables e below (s₁.setTop (mkF m 5 #[.val (.long p0), .second, .val (.long p1), .second, .val (.long p2), .second, .val (.long p3), .second, .val (.int v0), .val (.int w0), .unset, .unset, .unset, .unset, .unset, .unset, .unset, .unset, .unset, .unset, .unset, .unset, .unset, .unset, .unset] [(.long (p0 &&& (9223372036854775807 : Int64)))])) t
    refine XS.lstore X0.here hx rfl (hb hby at_5) rfl (l' := #[.val (.long p0), .second, .val (.long p1), .second, .val (.long p2), .second, .val (.long p3), .second, .val (.int v0), .val (.int w0), .val (.long (p0 &&& (9223372036854775807 : Int64))), .second, .unset, .unset, .unset, .unset, .unset, .unset, .unset, .unset, .unset, .unset, .unset, .unset, .unset]) rfl ?_
    show Steps p.tables e below (s₁.setTop (mkF m 7 #[.val (.long p0), .second, .val (.long p1), .second, .val (.long p2), .second, .val (.long p3), .second, .val (.int v0), .val (.int w0), .val (.long (p0 &&& (9223372036854775807 : Int64))), .second, .unset, .unset, .unset, .unset, .unset, .unset, .unset, .unset, .unset, .unset, .unset, .unset, .unset] [])) t
    exact k)
  obtain ⟨ka, hka⟩ : ∃ z : Int64, z = (p0 &&& (9223372036854775807 : Int64)) := ⟨_, rfl⟩
  rw [← hka] at pre
  have Pka := own_kpos hka
  have Mka := own_km Pka
  replace pre : Pth p e below S0 s₁ (mkF m 14 #[.val (.long p0), .second, .val (.long p1), .second, .val (.long p2), .second, .val (.long p3), .second, .val (.int v0), .val (.int w0), .val (.long ka), .second, .val (.long (p1 &&& (9223372036854775807 : Int64))), .second, .unset, .unset, .unset, .unset, .unset, .unset, .unset, .unset, .unset, .unset, .unset] []) := fun t k => pre t (by
    show Steps p.tables e below (s₁.setTop (mkF m 7 #[.val (.long p0), .second, .val (.long p1), .second, .val (.long p2), .second, .val (.long p3), .second, .val (.int v0), .val (.int w0), .val (.long ka), .second, .unset, .unset, .unset, .unset, .unset, .unset, .unset, .unset, .unset, .unset, .unset, .unset, .unset] [])) t
    refine XS.lloadN X0.here hx rfl (hb hby at_7) rfl ?_
    show Steps p.tables e below (s₁.setTop (mkF m 8 #[.val (.long p0), .second, .val (.long p1), .second, .val (.long p2), .second, .val (.long p3), .second, .val (.int v0), .val (.int w0), .val (.long ka), .second, .unset, .unset, .unset, .unset, .unset, .unset, .unset, .unset, .unset, .unset, .unset, .unset, .unset] [(.long p1)])) t
    refine X0.ldc2Long hx hown (mvT hZ (hw _ (List.mem_of_getElem? (i := 0) rfl))) (g := (mkF m 8 #[.val (.long p0), .second, .val (.long p1), .second, .val (.long p2), .second, .val (.long p3), .second, .val (.int v0), .val (.int w0), .val (.long ka), .second, .unset, .unset, .unset, .unset, .unset, .unset, .unset, .unset, .unset, .unset, .unset, .unset, .unset] [(.long p1)])) rfl (hb hby at_8) _ ?_
    show Steps p.tables e below (s₁.setTop (mkF m 11 #[.val (.long p0), .second, .val (.long p1), .second, .val (.long p2), .second, .val (.long p3), .second, .val (.int v0), .val (.int w0), .val (.long ka), .second, .unset, .unset, .unset, .unset, .unset, .unset, .unset, .unset, .unset, .unset, .unset, .unset, .unset] [(.long (9223372036854775807 : Int64)), (.long p1)])) t
    refine XS.land X0.here hx rfl (hb hby at_11) rfl ?_
    show Steps p.tables e below (s₁.setTop (mkF m 12 #[.val (.long p0), .second, .val (.long p1), .second, .val (.long p2), .second, .val (.long p3), .second, .val (.int v0), .val (.int w0), .val (.long ka), .second, .unset, .unset, .unset, .unset, .unset, .unset, .unset, .unset, .unset, .unset, .unset, .unset, .unset] [(.long (p1 &&& (9223372036854775807 : Int64)))])) t
    refine XS.lstore X0.here hx rfl (hb hby at_12) rfl (l' := #[.val (.long p0), .second, .val (.long p1), .second, .val (.long p2), .second, .val (.long p3), .second, .val (.int v0), .val (.int w0), .val (.long ka), .second, .val (.long (p1 &&& (9223372036854775807 : Int64))), .second, .unset, .unset, .unset, .unset, .unset, .unset, .unset, .unset, .unset, .unset, .unset]) rfl ?_
    show Steps p.tables e below (s₁.setTop (mkF m 14 #[.val (.long p0), .second, .val (.long p1), .second, .val (.long p2), .second, .val (.long p3), .second, .val (.int v0), .val (.int w0), .val (.long ka), .second, .val (.long (p1 &&& (9223372036854775807 : Int64))), .second, .unset, .unset, .unset, .unset, .unset, .unset, .unset, .unset, .unset, .unset, .unset] [])) t
    exact k)
  obtain ⟨kb, hkb⟩ : ∃ z : Int64, z = (p1 &&& (9223372036854775807 : Int64)) := ⟨_, rfl⟩
  rw [← hkb] at pre
  have Pkb := own_kpos hkb
  have Mkb := own_km Pkb
  replace pre : Pth p e below S0 s₁ (mkF m 22 #[.val (.long p0), .second, .val (.long p1), .second, .val (.long p2), .second, .val (.long p3), .second, .val (.int v0), .val (.int w0), .val (.long ka), .second, .val (.long kb), .second, .val (.long (p2 &&& (9223372036854775807 : Int64))), .second, .unset, .unset, .unset, .unset, .unset, .unset, .unset, .unset, .unset] []) := fun t k => pre t (by
    show Steps p.tables e below (s₁.setTop (mkF m 14 #[.val (.long p0), .second, .val (.long p1), .second, .val (.long p2), .second, .val (.long p3), .second, .val (.int v0), .val (.int w0), .val (.long ka), .second, .val (.long kb), .second, .unset, .unset, .unset, .unset, .unset, .unset, .unset, .unset, .unset, .unset, .unset] [])) t
    refine XS.lload X0.here hx rfl (hb hby at_14) rfl ?_
    show Steps p.tables e below (s₁.setTop (mkF m 16 #[.val (.long p0), .second, .val (.long p1), .second, .val (.long p2), .second, .val (.long p3), .second, .val (.int v0), .val (.int w0), .val (.long ka), .second, .val (.long kb), .second, .unset, .unset, .unset, .unset, .unset, .unset, .unset, .unset, .unset, .unset, .unset] [(.long p2)])) t
    refine X0.ldc2Long hx hown (mvT hZ (hw _ (List.mem_of_getElem? (i := 0) rfl))) (g := (mkF m 16 #[.val (.long p0), .second, .val (.long p1), .second, .val (.long p2), .second, .val (.long p3), .second, .val (.int v0), .val (.int w0), .val (.long ka), .second, .val (.long kb), .second, .unset, .unset, .unset, .unset, .unset, .unset, .unset, .unset, .unset, .unset, .unset] [(.long p2)])) rfl (hb hby at_16) _ ?_
    show Steps p.tables e below (s₁.setTop (mkF m 19 #[.val (.long p0), .second, .val (.long p1), .second, .val (.long p2), .second, .val (.long p3), .second, .val (.int v0), .val (.int w0), .val (.long ka), .second, .val (.long kb), .second, .unset, .unset, .unset, .unset, .unset, .unset, .unset, .unset, .unset, .unset, .unset] [(.long (9223372036854775807 : Int64)), (.long p2)])) t
    refine XS.land X0.here hx rfl (hb hby at_19) rfl ?_
    show Steps p.tables e below (s₁.setTop (mkF m 20 #[.val (.long p0), .second, .val (.long p1), .second, .val (.long p2), .second, .val (.long p3), .second, .val (.int v0), .val (.int w0), .val (.long ka), .second, .val (.long kb), .second, .unset, .unset, .unset, .unset, .unset, .unset, .unset, .unset, .unset, .unset, .unset] [(.long (p2 &&& (9223372036854775807 : Int64)))])) t
    refine XS.lstore X0.here hx rfl (hb hby at_20) rfl (l' := #[.val (.long p0), .second, .val (.long p1), .second, .val (.long p2), .second, .val (.long p3), .second, .val (.int v0), .val (.int w0), .val (.long ka), .second, .val (.long kb), .second, .val (.long (p2 &&& (9223372036854775807 : Int64))), .second, .unset, .unset, .unset, .unset, .unset, .unset, .unset, .unset, .unset]) rfl ?_
    show Steps p.tables e below (s₁.setTop (mkF m 22 #[.val (.long p0), .second, .val (.long p1), .second, .val (.long p2), .second, .val (.long p3), .second, .val (.int v0), .val (.int w0), .val (.long ka), .second, .val (.long kb), .second, .val (.long (p2 &&& (9223372036854775807 : Int64))), .second, .unset, .unset, .unset, .unset, .unset, .unset, .unset, .unset, .unset] [])) t
    exact k)
  obtain ⟨kc, hkc⟩ : ∃ z : Int64, z = (p2 &&& (9223372036854775807 : Int64)) := ⟨_, rfl⟩
  rw [← hkc] at pre
  have Pkc := own_kpos hkc
  have Mkc := own_km Pkc
  replace pre : Pth p e below S0 s₁ (mkF m 30 #[.val (.long p0), .second, .val (.long p1), .second, .val (.long p2), .second, .val (.long p3), .second, .val (.int v0), .val (.int w0), .val (.long ka), .second, .val (.long kb), .second, .val (.long kc), .second, .val (.long (p3 &&& (9223372036854775807 : Int64))), .second, .unset, .unset, .unset, .unset, .unset, .unset, .unset] []) := fun t k => pre t (by
    show Steps p.tables e below (s₁.setTop (mkF m 22 #[.val (.long p0), .second, .val (.long p1), .second, .val (.long p2), .second, .val (.long p3), .second, .val (.int v0), .val (.int w0), .val (.long ka), .second, .val (.long kb), .second, .val (.long kc), .second, .unset, .unset, .unset, .unset, .unset, .unset, .unset, .unset, .unset] [])) t
    refine XS.lload X0.here hx rfl (hb hby at_22) rfl ?_
    show Steps p.tables e below (s₁.setTop (mkF m 24 #[.val (.long p0), .second, .val (.long p1), .second, .val (.long p2), .second, .val (.long p3), .second, .val (.int v0), .val (.int w0), .val (.long ka), .second, .val (.long kb), .second, .val (.long kc), .second, .unset, .unset, .unset, .unset, .unset, .unset, .unset, .unset, .unset] [(.long p3)])) t
    refine X0.ldc2Long hx hown (mvT hZ (hw _ (List.mem_of_getElem? (i := 0) rfl))) (g := (mkF m 24 #[.val (.long p0), .second, .val (.long p1), .second, .val (.long p2), .second, .val (.long p3), .second, .val (.int v0), .val (.int w0), .val (.long ka), .second, .val (.long kb), .second, .val (.long kc), .second, .unset, .unset, .unset, .unset, .unset, .unset, .unset, .unset, .unset] [(.long p3)])) rfl (hb hby at_24) _ ?_
    show Steps p.tables e below (s₁.setTop (mkF m 27 #[.val (.long p0), .second, .val (.long p1), .second, .val (.long p2), .second, .val (.long p3), .second, .val (.int v0), .val (.int w0), .val (.long ka), .second, .val (.long kb), .second, .val (.long kc), .second, .unset, .unset, .unset, .unset, .unset, .unset, .unset, .unset, .unset] [(.long (9223372036854775807 : Int64)), (.long p3)])) t
    refine XS.land X0.here hx rfl (hb hby at_27) rfl ?_
    show Steps p.tables e below (s₁.setTop (mkF m 28 #[.val (.long p0), .second, .val (.long p1), .second, .val (.long p2), .second, .val (.long p3), .second, .val (.int v0), .val (.int w0), .val (.long ka), .second, .val (.long kb), .second, .val (.long kc), .second, .unset, .unset, .unset, .unset, .unset, .unset, .unset, .unset, .unset] [(.long (p3 &&& (9223372036854775807 : Int64)))])) t
    refine XS.lstore X0.here hx rfl (hb hby at_28) rfl (l' := #[.val (.long p0), .second, .val (.long p1), .second, .val (.long p2), .second, .val (.long p3), .second, .val (.int v0), .val (.int w0), .val (.long ka), .second, .val (.long kb), .second, .val (.long kc), .second, .val (.long (p3 &&& (9223372036854775807 : Int64))), .second, .unset, .unset, .unset, .unset, .unset, .unset, .unset]) rfl ?_
    show Steps p.tables e below (s₁.setTop (mkF m 30 #[.val (.long p0), .second, .val (.long p1), .second, .val (.long p2), .second, .val (.long p3), .second, .val (.int v0), .val (.int w0), .val (.long ka), .second, .val (.long kb), .second, .val (.long kc), .second, .val (.long (p3 &&& (9223372036854775807 : Int64))), .second, .unset, .unset, .unset, .unset, .unset, .unset, .unset] [])) t
    exact k)
  obtain ⟨kq, hkq⟩ : ∃ z : Int64, z = (p3 &&& (9223372036854775807 : Int64)) := ⟨_, rfl⟩
  rw [← hkq] at pre
  have Pkq := own_kpos hkq
  have Mkq := own_km Pkq
  replace pre : Pth p e below S0 s₁ (mkF m 41 #[.val (.long p0), .second, .val (.long p1), .second, .val (.long p2), .second, .val (.long p3), .second, .val (.int v0), .val (.int w0), .val (.long ka), .second, .val (.long kb), .second, .val (.long kc), .second, .val (.long kq), .second, .val (.int (p3.toInt32)), .val (.int ((p3.toInt32) ^^^ (-1 : Int32))), .unset, .unset, .unset, .unset, .unset] []) := fun t k => pre t (by
    show Steps p.tables e below (s₁.setTop (mkF m 30 #[.val (.long p0), .second, .val (.long p1), .second, .val (.long p2), .second, .val (.long p3), .second, .val (.int v0), .val (.int w0), .val (.long ka), .second, .val (.long kb), .second, .val (.long kc), .second, .val (.long kq), .second, .unset, .unset, .unset, .unset, .unset, .unset, .unset] [])) t
    refine XS.lload X0.here hx rfl (hb hby at_30) rfl ?_
    show Steps p.tables e below (s₁.setTop (mkF m 32 #[.val (.long p0), .second, .val (.long p1), .second, .val (.long p2), .second, .val (.long p3), .second, .val (.int v0), .val (.int w0), .val (.long ka), .second, .val (.long kb), .second, .val (.long kc), .second, .val (.long kq), .second, .unset, .unset, .unset, .unset, .unset, .unset, .unset] [(.long p3)])) t
    refine XS.l2i X0.here hx rfl (hb hby at_32) rfl ?_
    show Steps p.tables e below (s₁.setTop (mkF m 33 #[.val (.long p0), .second, .val (.long p1), .second, .val (.long p2), .second, .val (.long p3), .second, .val (.int v0), .val (.int w0), .val (.long ka), .second, .val (.long kb), .second, .val (.long kc), .second, .val (.long kq), .second, .unset, .unset, .unset, .unset, .unset, .unset, .unset] [(.int (p3.toInt32))])) t
    refine XS.istore X0.here hx rfl (hb hby at_33) rfl (l' := #[.val (.long p0), .second, .val (.long p1), .second, .val (.long p2), .second, .val (.long p3), .second, .val (.int v0), .val (.int w0), .val (.long ka), .second, .val (.long kb), .second, .val (.long kc), .second, .val (.long kq), .second, .val (.int (p3.toInt32)), .unset, .unset, .unset, .unset, .unset, .unset]) rfl ?_
    show Steps p.tables e below (s₁.setTop (mkF m 35 #[.val (.long p0), .second, .val (.long p1), .second, .val (.long p2), .second, .val (.long p3), .second, .val (.int v0), .val (.int w0), .val (.long ka), .second, .val (.long kb), .second, .val (.long kc), .second, .val (.long kq), .second, .val (.int (p3.toInt32)), .unset, .unset, .unset, .unset, .unset, .unset] [])) t
    refine XS.iload X0.here hx rfl (hb hby at_35) rfl ?_
    show Steps p.tables e below (s₁.setTop (mkF m 37 #[.val (.long p0), .second, .val (.long p1), .second, .val (.long p2), .second, .val (.long p3), .second, .val (.int v0), .val (.int w0), .val (.long ka), .second, .val (.long kb), .second, .val (.long kc), .second, .val (.long kq), .second, .val (.int (p3.toInt32)), .unset, .unset, .unset, .unset, .unset, .unset] [(.int (p3.toInt32))])) t
    refine XS.iconst X0.here hx rfl (hb hby at_37) ?_
    show Steps p.tables e below (s₁.setTop (mkF m 38 #[.val (.long p0), .second, .val (.long p1), .second, .val (.long p2), .second, .val (.long p3), .second, .val (.int v0), .val (.int w0), .val (.long ka), .second, .val (.long kb), .second, .val (.long kc), .second, .val (.long kq), .second, .val (.int (p3.toInt32)), .unset, .unset, .unset, .unset, .unset, .unset] [(.int (-1 : Int32)), (.int (p3.toInt32))])) t
    refine XS.ixor X0.here hx rfl (hb hby at_38) rfl ?_
    show Steps p.tables e below (s₁.setTop (mkF m 39 #[.val (.long p0), .second, .val (.long p1), .second, .val (.long p2), .second, .val (.long p3), .second, .val (.int v0), .val (.int w0), .val (.long ka), .second, .val (.long kb), .second, .val (.long kc), .second, .val (.long kq), .second, .val (.int (p3.toInt32)), .unset, .unset, .unset, .unset, .unset, .unset] [(.int ((p3.toInt32) ^^^ (-1 : Int32)))])) t
    refine XS.istore X0.here hx rfl (hb hby at_39) rfl (l' := #[.val (.long p0), .second, .val (.long p1), .second, .val (.long p2), .second, .val (.long p3), .second, .val (.int v0), .val (.int w0), .val (.long ka), .second, .val (.long kb), .second, .val (.long kc), .second, .val (.long kq), .second, .val (.int (p3.toInt32)), .val (.int ((p3.toInt32) ^^^ (-1 : Int32))), .unset, .unset, .unset, .unset, .unset]) rfl ?_
    show Steps p.tables e below (s₁.setTop (mkF m 41 #[.val (.long p0), .second, .val (.long p1), .second, .val (.long p2), .second, .val (.long p3), .second, .val (.int v0), .val (.int w0), .val (.long ka), .second, .val (.long kb), .second, .val (.long kc), .second, .val (.long kq), .second, .val (.int (p3.toInt32)), .val (.int ((p3.toInt32) ^^^ (-1 : Int32))), .unset, .unset, .unset, .unset, .unset] [])) t
    exact k)
  obtain ⟨T57, h57, X57, e57, E57, A57, D57, -, st57⟩ := newO X0 hx hZ hown (hw _ (List.mem_of_getElem? (i := 1) rfl)) (hw _ (List.mem_of_getElem? (i := 2) rfl)) (hw _ (List.mem_of_getElem? (i := 3) rfl)) e0 (g := (mkF m 41 #[.val (.long p0), .second, .val (.long p1), .second, .val (.long p2), .second, .val (.long p3), .second, .val (.int v0), .val (.int w0), .val (.long ka), .second, .val (.long kb), .second, .val (.long kc), .second, .val (.long kq), .second, .val (.int (p3.toInt32)), .val (.int ((p3.toInt32) ^^^ (-1 : Int32))), .unset, .unset, .unset, .unset, .unset] [])) rfl (hb hby at_41) (by decide) (by decide)
  obtain ⟨b57, g57⟩ : ∃ z, z = h0.size := ⟨_, rfl⟩
  rw [← g57] at A57 D57 st57
  replace pre : Pth p e below S0 T57 (mkF m 44 #[.val (.long p0), .second, .val (.long p1), .second, .val (.long p2), .second, .val (.long p3), .second, .val (.int v0), .val (.int w0), .val (.long ka), .second, .val (.long kb), .second, .val (.long kc), .second, .val (.long kq), .second, .val (.int (p3.toInt32)), .val (.int ((p3.toInt32) ^^^ (-1 : Int32))), .unset, .unset, .unset, .unset, .unset] [(.ref b57)]) := fun t k => pre t (st57 _ k)
  have G_keys : Fld Z h57 b57 "com/example/signalbox/signalbox/history/LongIntMap" "keys" "[J" .null := D57 (Or.inl (hw _ (List.mem_of_getElem? (i := 16) rfl))) (ty := (.array .long)) (by decide)
  have G_values : Fld Z h57 b57 "com/example/signalbox/signalbox/history/LongIntMap" "values" "[I" .null := D57 (Or.inl (hw _ (List.mem_of_getElem? (i := 24) rfl))) (ty := (.array .int)) (by decide)
  have G_shift : Fld Z h57 b57 "com/example/signalbox/signalbox/history/LongIntMap" "shift" "I" (.int (0 : Int32)) := D57 (Or.inl (hw _ (List.mem_of_getElem? (i := 35) rfl))) (ty := .int) (by decide)
  have G_size : Fld Z h57 b57 "com/example/signalbox/signalbox/history/LongIntMap" "size" "I" (.int (0 : Int32)) := D57 (Or.inl (hw _ (List.mem_of_getElem? (i := 47) rfl))) (ty := .int) (by decide)
  have gb : n0 ≤ b57 := by rw [g57]; exact Z0
  replace pre : Pth p e below S0 T57 (mkF m 45 #[.val (.long p0), .second, .val (.long p1), .second, .val (.long p2), .second, .val (.long p3), .second, .val (.int v0), .val (.int w0), .val (.long ka), .second, .val (.long kb), .second, .val (.long kc), .second, .val (.long kq), .second, .val (.int (p3.toInt32)), .val (.int ((p3.toInt32) ^^^ (-1 : Int32))), .unset, .unset, .unset, .unset, .unset] [(.ref b57), (.ref b57)]) := fun t k => pre t (by
    show Steps p.tables e below (T57.setTop (mkF m 44 #[.val (.long p0), .second, .val (.long p1), .second, .val (.long p2), .second, .val (.long p3), .second, .val (.int v0), .val (.int w0), .val (.long ka), .second, .val (.long kb), .second, .val (.long kc), .second, .val (.long kq), .second, .val (.int (p3.toInt32)), .val (.int ((p3.toInt32) ^^^ (-1 : Int32))), .unset, .unset, .unset, .unset, .unset] [(.ref b57)])) t
    refine XS.dup X57.here hx rfl (hb hby at_44) rfl rfl ?_
    show Steps p.tables e below (T57.setTop (mkF m 45 #[.val (.long p0), .second, .val (.long p1), .second, .val (.long p2), .second, .val (.long p3), .second, .val (.int v0), .val (.int w0), .val (.long ka), .second, .val (.long kb), .second, .val (.long kc), .second, .val (.long kq), .second, .val (.int (p3.toInt32)), .val (.int ((p3.toInt32) ^^^ (-1 : Int32))), .unset, .unset, .unset, .unset, .unset] [(.ref b57), (.ref b57)])) t
    exact k)
  obtain ⟨_, _, ⟨T58, L58, k58, n58⟩, -, X58, ⟨Lc58, hQ58, l58, y58, z58⟩, st58⟩ := X57.specialBack hx (y := (⟨"com/example/signalbox/signalbox/history/LongIntMap", "<init>", "()V"⟩ : MethodName)) rfl hown (mvT hZ (hw _ (List.mem_of_getElem? (i := 4) rfl))) (mvT hZ (hw _ (List.mem_of_getElem? (i := 5) rfl))) (mvT hZ (hw _ (List.mem_of_getElem? (i := 6) rfl))) (by decide) (backOf (W := 1) (rm_ini l Z a0 hw [] b57 h57 n0 (Nat.le_trans Z0 E57.1) gb A57 G_keys G_values G_shift G_size) hZ (hw _ (List.mem_of_getElem? (i := 6) rfl)) (hw _ (List.mem_of_getElem? (i := 3) rfl)) (by decide) (by decide)) (g := (mkF m 45 #[.val (.long p0), .second, .val (.long p1), .second, .val (.long p2), .second, .val (.long p3), .second, .val (.int v0), .val (.int w0), .val (.long ka), .second, .val (.long kb), .second, .val (.long kc), .second, .val (.long kq), .second, .val (.int (p3.toInt32)), .val (.int ((p3.toInt32) ^^^ (-1 : Int32))), .unset, .unset, .unset, .unset, .unset] [(.ref b57), (.ref b57)])) rfl (by rw [hml]; rfl) (Steps.refl _) (a := b57) (argsL := []) (rest := [(.ref b57)]) (lenOf pd___V rfl) rfl (by show 2 * 0 + _ ≤ _; exact Nat.le_of_eq rfl) (hb hby at_45) (fun _ _ => ⟨rfl, e57, (by decide : 1 + 2 ≤ _), (by decide : 4 + 32 ≤ _)⟩)
  dsimp only [Pt.U, Pt.locs, Pt.cells, Pt.slots] at X58 l58 y58 z58 st58 hQ58
  subst l58 y58 z58
  obtain ⟨rfl, N58q, hs58, rk, rv, gk, gv, hM0⟩ := hQ58
  have N58 := Fr.app N0 N58q
  replace pre : Pth p e below S0 T58 (mkF m 48 #[.val (.long p0), .second, .val (.long p1), .second, .val (.long p2), .second, .val (.long p3), .second, .val (.int v0), .val (.int w0), .val (.long ka), .second, .val (.long kb), .second, .val (.long kc), .second, .val (.long kq), .second, .val (.int (p3.toInt32)), .val (.int ((p3.toInt32) ^^^ (-1 : Int32))), .unset, .unset, .unset, .unset, .unset] [(.ref b57)]) := fun t k => pre t (st58.trans k)
  have tb0 := OTbl.nil
  have bz0 : 0 ≤ (0 : Int32).toInt ∧ (0 : Int32).toInt ≤ 0 := by decide
  replace pre : Pth p e below S0 T58 (mkF m 56 #[.val (.long p0), .second, .val (.long p1), .second, .val (.long p2), .second, .val (.long p3), .second, .val (.int v0), .val (.int w0), .val (.long ka), .second, .val (.long kb), .second, .val (.long kc), .second, .val (.long kq), .second, .val (.int (p3.toInt32)), .val (.int ((p3.toInt32) ^^^ (-1 : Int32))), .val (.ref b57), .unset, .unset, .unset, .unset] [(.int v0), (.long ka), (.ref b57)]) := fun t k => pre t (by
    show Steps p.tables e below (T58.setTop (mkF m 48 #[.val (.long p0), .second, .val (.long p1), .second, .val (.long p2), .second, .val (.long p3), .second, .val (.int v0), .val (.int w0), .val (.long ka), .second, .val (.long kb), .second, .val (.long kc), .second, .val (.long kq), .second, .val (.int (p3.toInt32)), .val (.int ((p3.toInt32) ^^^ (-1 : Int32))), .unset, .unset, .unset, .unset, .unset] [(.ref b57)])) t
    refine XS.astore X58.here hx rfl (hb hby at_48) rfl rfl (l' := #[.val (.long p0), .second, .val (.long p1), .second, .val (.long p2), .second, .val (.long p3), .second, .val (.int v0), .val (.int w0), .val (.long ka), .second, .val (.long kb), .second, .val (.long kc), .second, .val (.long kq), .second, .val (.int (p3.toInt32)), .val (.int ((p3.toInt32) ^^^ (-1 : Int32))), .val (.ref b57), .unset, .unset, .unset, .unset]) rfl ?_
    show Steps p.tables e below (T58.setTop (mkF m 50 #[.val (.long p0), .second, .val (.long p1), .second, .val (.long p2), .second, .val (.long p3), .second, .val (.int v0), .val (.int w0), .val (.long ka), .second, .val (.long kb), .second, .val (.long kc), .second, .val (.long kq), .second, .val (.int (p3.toInt32)), .val (.int ((p3.toInt32) ^^^ (-1 : Int32))), .val (.ref b57), .unset, .unset, .unset, .unset] [])) t
    refine XS.aload X58.here hx rfl (hb hby at_50) rfl rfl ?_
    show Steps p.tables e below (T58.setTop (mkF m 52 #[.val (.long p0), .second, .val (.long p1), .second, .val (.long p2), .second, .val (.long p3), .second, .val (.int v0), .val (.int w0), .val (.long ka), .second, .val (.long kb), .second, .val (.long kc), .second, .val (.long kq), .second, .val (.int (p3.toInt32)), .val (.int ((p3.toInt32) ^^^ (-1 : Int32))), .val (.ref b57), .unset, .unset, .unset, .unset] [(.ref b57)])) t
    refine XS.lload X58.here hx rfl (hb hby at_52) rfl ?_
    show Steps p.tables e below (T58.setTop (mkF m 54 #[.val (.long p0), .second, .val (.long p1), .second, .val (.long p2), .second, .val (.long p3), .second, .val (.int v0), .val (.int w0), .val (.long ka), .second, .val (.long kb), .second, .val (.long kc), .second, .val (.long kq), .second, .val (.int (p3.toInt32)), .val (.int ((p3.toInt32) ^^^ (-1 : Int32))), .val (.ref b57), .unset, .unset, .unset, .unset] [(.long ka), (.ref b57)])) t
    refine XS.iload X58.here hx rfl (hb hby at_54) rfl ?_
    show Steps p.tables e below (T58.setTop (mkF m 56 #[.val (.long p0), .second, .val (.long p1), .second, .val (.long p2), .second, .val (.long p3), .second, .val (.int v0), .val (.int w0), .val (.long ka), .second, .val (.long kb), .second, .val (.long kc), .second, .val (.long kq), .second, .val (.int (p3.toInt32)), .val (.int ((p3.toInt32) ^^^ (-1 : Int32))), .val (.ref b57), .unset, .unset, .unset, .unset] [(.int v0), (.long ka), (.ref b57)])) t
    exact k)
  obtain ⟨cq59, kq59, q59a, q59b, q59c⟩ := isOf hZ rfl hM0.2.2.2.2.1
  obtain ⟨_, _, ⟨T59, L59, k59, n59⟩, -, X59, ⟨Lc59, hQ59, l59, y59, z59⟩, st59⟩ := X58.virtualBack hx (y := (⟨"com/example/signalbox/signalbox/history/LongIntMap", "put", "(JI)V"⟩ : MethodName)) (z := (⟨"com/example/signalbox/signalbox/history/LongIntMap", "put", "(JI)V"⟩ : MethodName)) hown (mvT hZ (hw _ (List.mem_of_getElem? (i := 36) rfl))) (mvT hZ (hw _ (List.mem_of_getElem? (i := 37) rfl))) (notFace_of_selects (args := #[]) (mvT hZ (hw _ (List.mem_of_getElem? (i := 39) rfl)))) (mvT hZ (hw _ (List.mem_of_getElem? (i := 39) rfl))) (mvT hZ (hw _ (List.mem_of_getElem? (i := 38) rfl))) (by decide) (backOf (W := 0) (rm_put l Z a0 hw [] b57 ka v0 rk rv (0 : Int32) (fun _ => -1) (fun _ => 0) _ n0 gk gv gb hM0 (OOcc.ex tb0.1 (by decide)) Pka ⟨bz0.1, by have := bz0.2; omega⟩) hZ (hw _ (List.mem_of_getElem? (i := 40) rfl)) (hw _ (List.mem_of_getElem? (i := 3) rfl)) (by decide) (by decide)) q59a q59c (g := (mkF m 56 #[.val (.long p0), .second, .val (.long p1), .second, .val (.long p2), .second, .val (.long p3), .second, .val (.int v0), .val (.int w0), .val (.long ka), .second, .val (.long kb), .second, .val (.long kc), .second, .val (.long kq), .second, .val (.int (p3.toInt32)), .val (.int ((p3.toInt32) ^^^ (-1 : Int32))), .val (.ref b57), .unset, .unset, .unset, .unset] [(.int v0), (.long ka), (.ref b57)])) rfl (by rw [hml]; rfl) (Steps.refl _) (argsL := [(.long ka), (.int v0)]) (rest := []) (lenOf pd__JI_V rfl) rfl (by show 2 * 0 + _ ≤ _; exact Nat.le_of_eq rfl) (hb hby at_56) (fun _ _ => ⟨rfl, rfl, (by decide : 3 + 0 ≤ _), (by decide : 36 + 0 ≤ _)⟩)
  dsimp only [Pt.U, Pt.locs, Pt.cells, Pt.slots] at X59 l59 y59 z59 st59 hQ59
  subst l59 y59 z59
  obtain ⟨rfl, N59q, hs59, sz1, kf1, vf1, hM1, hp1, hz1a, hz1b⟩ := hQ59
  have N59 := Fr.app N58 N59q
  replace pre : Pth p e below S0 T59 (mkF m 59 #[.val (.long p0), .second, .val (.long p1), .second, .val (.long p2), .second, .val (.long p3), .second, .val (.int v0), .val (.int w0), .val (.long ka), .second, .val (.long kb), .second, .val (.long kc), .second, .val (.long kq), .second, .val (.int (p3.toInt32)), .val (.int ((p3.toInt32) ^^^ (-1 : Int32))), .val (.ref b57), .unset, .unset, .unset, .unset] []) := fun t k => pre t (st59.trans k)
  have tb1 := own_put tb0 (by decide) Mka hp1
  have bz1 : 0 ≤ sz1.toInt ∧ sz1.toInt ≤ 1 := ⟨hz1a, by have := bz0.2; omega⟩
  replace pre : Pth p e below S0 T59 (mkF m 65 #[.val (.long p0), .second, .val (.long p1), .second, .val (.long p2), .second, .val (.long p3), .second, .val (.int v0), .val (.int w0), .val (.long ka), .second, .val (.long kb), .second, .val (.long kc), .second, .val (.long kq), .second, .val (.int (p3.toInt32)), .val (.int ((p3.toInt32) ^^^ (-1 : Int32))), .val (.ref b57), .unset, .unset, .unset, .unset] [(.int w0), (.long kb), (.ref b57)]) := fun t k => pre t (by
    show Steps p.tables e below (T59.setTop (mkF m 59 #[.val (.long p0), .second, .val (.long p1), .second, .val (.long p2), .second, .val (.long p3), .second, .val (.int v0), .val (.int w0), .val (.long ka), .second, .val (.long kb), .second, .val (.long kc), .second, .val (.long kq), .second, .val (.int (p3.toInt32)), .val (.int ((p3.toInt32) ^^^ (-1 : Int32))), .val (.ref b57), .unset, .unset, .unset, .unset] [])) t
    refine XS.aload X59.here hx rfl (hb hby at_59) rfl rfl ?_
    show Steps p.tables e below (T59.setTop (mkF m 61 #[.val (.long p0), .second, .val (.long p1), .second, .val (.long p2), .second, .val (.long p3), .second, .val (.int v0), .val (.int w0), .val (.long ka), .second, .val (.long kb), .second, .val (.long kc), .second, .val (.long kq), .second, .val (.int (p3.toInt32)), .val (.int ((p3.toInt32) ^^^ (-1 : Int32))), .val (.ref b57), .unset, .unset, .unset, .unset] [(.ref b57)])) t
    refine XS.lload X59.here hx rfl (hb hby at_61) rfl ?_
    show Steps p.tables e below (T59.setTop (mkF m 63 #[.val (.long p0), .second, .val (.long p1), .second, .val (.long p2), .second, .val (.long p3), .second, .val (.int v0), .val (.int w0), .val (.long ka), .second, .val (.long kb), .second, .val (.long kc), .second, .val (.long kq), .second, .val (.int (p3.toInt32)), .val (.int ((p3.toInt32) ^^^ (-1 : Int32))), .val (.ref b57), .unset, .unset, .unset, .unset] [(.long kb), (.ref b57)])) t
    refine XS.iload X59.here hx rfl (hb hby at_63) rfl ?_
    show Steps p.tables e below (T59.setTop (mkF m 65 #[.val (.long p0), .second, .val (.long p1), .second, .val (.long p2), .second, .val (.long p3), .second, .val (.int v0), .val (.int w0), .val (.long ka), .second, .val (.long kb), .second, .val (.long kc), .second, .val (.long kq), .second, .val (.int (p3.toInt32)), .val (.int ((p3.toInt32) ^^^ (-1 : Int32))), .val (.ref b57), .unset, .unset, .unset, .unset] [(.int w0), (.long kb), (.ref b57)])) t
    exact k)
  obtain ⟨cq60, kq60, q60a, q60b, q60c⟩ := isOf hZ rfl hM1.2.2.2.2.1
  obtain ⟨_, _, ⟨T60, L60, k60, n60⟩, -, X60, ⟨Lc60, hQ60, l60, y60, z60⟩, st60⟩ := X59.virtualBack hx (y := (⟨"com/example/signalbox/signalbox/history/LongIntMap", "put", "(JI)V"⟩ : MethodName)) (z := (⟨"com/example/signalbox/signalbox/history/LongIntMap", "put", "(JI)V"⟩ : MethodName)) hown (mvT hZ (hw _ (List.mem_of_getElem? (i := 36) rfl))) (mvT hZ (hw _ (List.mem_of_getElem? (i := 37) rfl))) (notFace_of_selects (args := #[]) (mvT hZ (hw _ (List.mem_of_getElem? (i := 39) rfl)))) (mvT hZ (hw _ (List.mem_of_getElem? (i := 39) rfl))) (mvT hZ (hw _ (List.mem_of_getElem? (i := 38) rfl))) (by decide) (backOf (W := 0) (rm_put l Z a0 hw [] b57 kb w0 rk rv sz1 kf1 vf1 _ n0 gk gv gb hM1 (OOcc.ex tb1.1 (by decide)) Pkb ⟨bz1.1, by have := bz1.2; omega⟩) hZ (hw _ (List.mem_of_getElem? (i := 40) rfl)) (hw _ (List.mem_of_getElem? (i := 3) rfl)) (by decide) (by decide)) q60a q60c (g := (mkF m 65 #[.val (.long p0), .second, .val (.long p1), .second, .val (.long p2), .second, .val (.long p3), .second, .val (.int v0), .val (.int w0), .val (.long ka), .second, .val (.long kb), .second, .val (.long kc), .second, .val (.long kq), .second, .val (.int (p3.toInt32)), .val (.int ((p3.toInt32) ^^^ (-1 : Int32))), .val (.ref b57), .unset, .unset, .unset, .unset] [(.int w0), (.long kb), (.ref b57)])) rfl (by rw [hml]; rfl) (Steps.refl _) (argsL := [(.long kb), (.int w0)]) (rest := []) (lenOf pd__JI_V rfl) rfl (by show 2 * 0 + _ ≤ _; exact Nat.le_of_eq rfl) (hb hby at_65) (fun _ _ => ⟨rfl, rfl, (by decide : 3 + 0 ≤ _), (by decide : 36 + 0 ≤ _)⟩)
  dsimp only [Pt.U, Pt.locs, Pt.cells, Pt.slots] at X60 l60 y60 z60 st60 hQ60
  subst l60 y60 z60
  obtain ⟨rfl, N60q, hs60, sz2, kf2, vf2, hM2, hp2, hz2a, hz2b⟩ := hQ60
  have N60 := Fr.app N59 N60q
  replace pre : Pth p e below S0 T60 (mkF m 68 #[.val (.long p0), .second, .val (.long p1), .second, .val (.long p2), .second, .val (.long p3), .second, .val (.int v0), .val (.int w0), .val (.long ka), .second, .val (.long kb), .second, .val (.long kc), .second, .val (.long kq), .second, .val (.int (p3.toInt32)), .val (.int ((p3.toInt32) ^^^ (-1 : Int32))), .val (.ref b57), .unset, .unset, .unset, .unset] []) := fun t k => pre t (st60.trans k)
  have tb2 := own_put tb1 (by decide) Mkb hp2
  have bz2 : 0 ≤ sz2.toInt ∧ sz2.toInt ≤ 2 := ⟨hz2a, by have := bz1.2; omega⟩
  replace pre : Pth p e below S0 T60 (mkF m 77 #[.val (.long p0), .second, .val (.long p1), .second, .val (.long p2), .second, .val (.long p3), .second, .val (.int v0), .val (.int w0), .val (.long ka), .second, .val (.long kb), .second, .val (.long kc), .second, .val (.long kq), .second, .val (.int (p3.toInt32)), .val (.int ((p3.toInt32) ^^^ (-1 : Int32))), .val (.ref b57), .unset, .unset, .unset, .unset] [(.int (v0 ^^^ w0)), (.long kc), (.ref b57)]) := fun t k => pre t (by
    show Steps p.tables e below (T60.setTop (mkF m 68 #[.val (.long p0), .second, .val (.long p1), .second, .val (.long p2), .second, .val (.long p3), .second, .val (.int v0), .val (.int w0), .val (.long ka), .second, .val (.long kb), .second, .val (.long kc), .second, .val (.long kq), .second, .val (.int (p3.toInt32)), .val (.int ((p3.toInt32) ^^^ (-1 : Int32))), .val (.ref b57), .unset, .unset, .unset, .unset] [])) t
    refine XS.aload X60.here hx rfl (hb hby at_68) rfl rfl ?_
    show Steps p.tables e below (T60.setTop (mkF m 70 #[.val (.long p0), .second, .val (.long p1), .second, .val (.long p2), .second, .val (.long p3), .second, .val (.int v0), .val (.int w0), .val (.long ka), .second, .val (.long kb), .second, .val (.long kc), .second, .val (.long kq), .second, .val (.int (p3.toInt32)), .val (.int ((p3.toInt32) ^^^ (-1 : Int32))), .val (.ref b57), .unset, .unset, .unset, .unset] [(.ref b57)])) t
    refine XS.lload X60.here hx rfl (hb hby at_70) rfl ?_
    show Steps p.tables e below (T60.setTop (mkF m 72 #[.val (.long p0), .second, .val (.long p1), .second, .val (.long p2), .second, .val (.long p3), .second, .val (.int v0), .val (.int w0), .val (.long ka), .second, .val (.long kb), .second, .val (.long kc), .second, .val (.long kq), .second, .val (.int (p3.toInt32)), .val (.int ((p3.toInt32) ^^^ (-1 : Int32))), .val (.ref b57), .unset, .unset, .unset, .unset] [(.long kc), (.ref b57)])) t
    refine XS.iload X60.here hx rfl (hb hby at_72) rfl ?_
    show Steps p.tables e below (T60.setTop (mkF m 74 #[.val (.long p0), .second, .val (.long p1), .second, .val (.long p2), .second, .val (.long p3), .second, .val (.int v0), .val (.int w0), .val (.long ka), .second, .val (.long kb), .second, .val (.long kc), .second, .val (.long kq), .second, .val (.int (p3.toInt32)), .val (.int ((p3.toInt32) ^^^ (-1 : Int32))), .val (.ref b57), .unset, .unset, .unset, .unset] [(.int v0), (.long kc), (.ref b57)])) t
    refine XS.iload X60.here hx rfl (hb hby at_74) rfl ?_
    show Steps p.tables e below (T60.setTop (mkF m 76 #[.val (.long p0), .second, .val (.long p1), .second, .val (.long p2), .second, .val (.long p3), .second, .val (.int v0), .val (.int w0), .val (.long ka), .second, .val (.long kb), .second, .val (.long kc), .second, .val (.long kq), .second, .val (.int (p3.toInt32)), .val (.int ((p3.toInt32) ^^^ (-1 : Int32))), .val (.ref b57), .unset, .unset, .unset, .unset] [(.int w0), (.int v0), (.long kc), (.ref b57)])) t
    refine XS.ixor X60.here hx rfl (hb hby at_76) rfl ?_
    show Steps p.tables e below (T60.setTop (mkF m 77 #[.val (.long p0), .second, .val (.long p1), .second, .val (.long p2), .second, .val (.long p3), .second, .val (.int v0), .val (.int w0), .val (.long ka), .second, .val (.long kb), .second, .val (.long kc), .second, .val (.long kq), .second, .val (.int (p3.toInt32)), .val (.int ((p3.toInt32) ^^^ (-1 : Int32))), .val (.ref b57), .unset, .unset, .unset, .unset] [(.int (v0 ^^^ w0)), (.long kc), (.ref b57)])) t
    exact k)
  obtain ⟨cq61, kq61, q61a, q61b, q61c⟩ := isOf hZ rfl hM2.2.2.2.2.1
  obtain ⟨_, _, ⟨T61, L61, k61, n61⟩, -, X61, ⟨Lc61, hQ61, l61, y61, z61⟩, st61⟩ := X60.virtualBack hx (y := (⟨"com/example/signalbox/signalbox/history/LongIntMap", "put", "(JI)V"⟩ : MethodName)) (z := (⟨"com/example/signalbox/signalbox/history/LongIntMap", "put", "(JI)V"⟩ : MethodName)) hown (mvT hZ (hw _ (List.mem_of_getElem? (i := 36) rfl))) (mvT hZ (hw _ (List.mem_of_getElem? (i := 37) rfl))) (notFace_of_selects (args := #[]) (mvT hZ (hw _ (List.mem_of_getElem? (i := 39) rfl)))) (mvT hZ (hw _ (List.mem_of_getElem? (i := 39) rfl))) (mvT hZ (hw _ (List.mem_of_getElem? (i := 38) rfl))) (by decide) (backOf (W := 0) (rm_put l Z a0 hw [] b57 kc (v0 ^^^ w0) rk rv sz2 kf2 vf2 _ n0 gk gv gb hM2 (OOcc.ex tb2.1 (by decide)) Pkc ⟨bz2.1, by have := bz2.2; omega⟩) hZ (hw _ (List.mem_of_getElem? (i := 40) rfl)) (hw _ (List.mem_of_getElem? (i := 3) rfl)) (by decide) (by decide)) q61a q61c (g := (mkF m 77 #[.val (.long p0), .second, .val (.long p1), .second, .val (.long p2), .second, .val (.long p3), .second, .val (.int v0), .val (.int w0), .val (.long ka), .second, .val (.long kb), .second, .val (.long kc), .second, .val (.long kq), .second, .val (.int (p3.toInt32)), .val (.int ((p3.toInt32) ^^^ (-1 : Int32))), .val (.ref b57), .unset, .unset, .unset, .unset] [(.int (v0 ^^^ w0)), (.long kc), (.ref b57)])) rfl (by rw [hml]; rfl) (Steps.refl _) (argsL := [(.long kc), (.int (v0 ^^^ w0))]) (rest := []) (lenOf pd__JI_V rfl) rfl (by show 2 * 0 + _ ≤ _; exact Nat.le_of_eq rfl) (hb hby at_77) (fun _ _ => ⟨rfl, rfl, (by decide : 3 + 0 ≤ _), (by decide : 36 + 0 ≤ _)⟩)
  dsimp only [Pt.U, Pt.locs, Pt.cells, Pt.slots] at X61 l61 y61 z61 st61 hQ61
  subst l61 y61 z61
  obtain ⟨rfl, N61q, hs61, sz3, kf3, vf3, hM3, hp3, hz3a, hz3b⟩ := hQ61
  have N61 := Fr.app N60 N61q
  replace pre : Pth p e below S0 T61 (mkF m 80 #[.val (.long p0), .second, .val (.long p1), .second, .val (.long p2), .second, .val (.long p3), .second, .val (.int v0), .val (.int w0), .val (.long ka), .second, .val (.long kb), .second, .val (.long kc), .second, .val (.long kq), .second, .val (.int (p3.toInt32)), .val (.int ((p3.toInt32) ^^^ (-1 : Int32))), .val (.ref b57), .unset, .unset, .unset, .unset] []) := fun t k => pre t (st61.trans k)
  have tb3 := own_put tb2 (by decide) Mkc hp3
  have bz3 : 0 ≤ sz3.toInt ∧ sz3.toInt ≤ 3 := ⟨hz3a, by have := bz2.2; omega⟩
  have hexz := OOcc.ex tb3.1 (by decide)
  replace pre : Pth p e below S0 T61 (mkF m 86 #[.val (.long p0), .second, .val (.long p1), .second, .val (.long p2), .second, .val (.long p3), .second, .val (.int v0), .val (.int w0), .val (.long ka), .second, .val (.long kb), .second, .val (.long kc), .second, .val (.long kq), .second, .val (.int (p3.toInt32)), .val (.int ((p3.toInt32) ^^^ (-1 : Int32))), .val (.ref b57), .unset, .unset, .unset, .unset] [(.int (p3.toInt32)), (.long kq), (.ref b57)]) := fun t k => pre t (by
    show Steps p.tables e below (T61.setTop (mkF m 80 #[.val (.long p0), .second, .val (.long p1), .second, .val (.long p2), .second, .val (.long p3), .second, .val (.int v0), .val (.int w0), .val (.long ka), .second, .val (.long kb), .second, .val (.long kc), .second, .val (.long kq), .second, .val (.int (p3.toInt32)), .val (.int ((p3.toInt32) ^^^ (-1 : Int32))), .val (.ref b57), .unset, .unset, .unset, .unset] [])) t
    refine XS.aload X61.here hx rfl (hb hby at_80) rfl rfl ?_
    show Steps p.tables e below (T61.setTop (mkF m 82 #[.val (.long p0), .second, .val (.long p1), .second, .val (.long p2), .second, .val (.long p3), .second, .val (.int v0), .val (.int w0), .val (.long ka), .second, .val (.long kb), .second, .val (.long kc), .second, .val (.long kq), .second, .val (.int (p3.toInt32)), .val (.int ((p3.toInt32) ^^^ (-1 : Int32))), .val (.ref b57), .unset, .unset, .unset, .unset] [(.ref b57)])) t
    refine XS.lload X61.here hx rfl (hb hby at_82) rfl ?_
    show Steps p.tables e below (T61.setTop (mkF m 84 #[.val (.long p0), .second, .val (.long p1), .second, .val (.long p2), .second, .val (.long p3), .second, .val (.int v0), .val (.int w0), .val (.long ka), .second, .val (.long kb), .second, .val (.long kc), .second, .val (.long kq), .second, .val (.int (p3.toInt32)), .val (.int ((p3.toInt32) ^^^ (-1 : Int32))), .val (.ref b57), .unset, .unset, .unset, .unset] [(.long kq), (.ref b57)])) t
    refine XS.iload X61.here hx rfl (hb hby at_84) rfl ?_
    show Steps p.tables e below (T61.setTop (mkF m 86 #[.val (.long p0), .second, .val (.long p1), .second, .val (.long p2), .second, .val (.long p3), .second, .val (.int v0), .val (.int w0), .val (.long ka), .second, .val (.long kb), .second, .val (.long kc), .second, .val (.long kq), .second, .val (.int (p3.toInt32)), .val (.int ((p3.toInt32) ^^^ (-1 : Int32))), .val (.ref b57), .unset, .unset, .unset, .unset] [(.int (p3.toInt32)), (.long kq), (.ref b57)])) t
    exact k)
  obtain ⟨cq62, kq62, q62a, q62b, q62c⟩ := isOf hZ rfl hM3.2.2.2.2.1
  obtain ⟨_, _, ⟨T62, L62, k62, n62⟩, -, X62, ⟨Lc62, hQ62, l62, y62, z62⟩, st62⟩ := X61.virtualBack hx (y := (⟨"com/example/signalbox/signalbox/history/LongIntMap", "get", "(JI)I"⟩ : MethodName)) (z := (⟨"com/example/signalbox/signalbox/history/LongIntMap", "get", "(JI)I"⟩ : MethodName)) hown (mvT hZ (hw _ (List.mem_of_getElem? (i := 49) rfl))) (mvT hZ (hw _ (List.mem_of_getElem? (i := 50) rfl))) (notFace_of_selects (args := #[]) (mvT hZ (hw _ (List.mem_of_getElem? (i := 52) rfl)))) (mvT hZ (hw _ (List.mem_of_getElem? (i := 52) rfl))) (mvT hZ (hw _ (List.mem_of_getElem? (i := 51) rfl))) (by decide) (backOf (W := 0) (rm_get l Z a0 hw [] b57 kq (p3.toInt32) rk rv sz3 kf3 vf3 T61.heap n0 hM3 hexz) hZ (hw _ (List.mem_of_getElem? (i := 53) rfl)) (hw _ (List.mem_of_getElem? (i := 3) rfl)) (by decide) (by decide)) q62a q62c (g := (mkF m 86 #[.val (.long p0), .second, .val (.long p1), .second, .val (.long p2), .second, .val (.long p3), .second, .val (.int v0), .val (.int w0), .val (.long ka), .second, .val (.long kb), .second, .val (.long kc), .second, .val (.long kq), .second, .val (.int (p3.toInt32)), .val (.int ((p3.toInt32) ^^^ (-1 : Int32))), .val (.ref b57), .unset, .unset, .unset, .unset] [(.int (p3.toInt32)), (.long kq), (.ref b57)])) rfl (by rw [hml]; rfl) (Steps.refl _) (argsL := [(.long kq), (.int (p3.toInt32))]) (rest := []) (lenOf pd__JI_I rfl) rfl (by show 2 * 0 + _ ≤ _; exact Nat.le_of_eq rfl) (hb hby at_86) (fun _ _ => ⟨rfl, rfl, (by decide : 3 + 0 ≤ _), (by decide : 36 + 0 ≤ _)⟩)
  dsimp only [Pt.U, Pt.locs, Pt.cells, Pt.slots] at X62 l62 y62 z62 st62 hQ62
  subst l62 y62 z62
  obtain ⟨i62, rfl, N62q, e62, hi62, hs62⟩ := hQ62
  have N62 := Fr.app N61 N62q
  replace pre : Pth p e below S0 T62 (mkF m 89 #[.val (.long p0), .second, .val (.long p1), .second, .val (.long p2), .second, .val (.long p3), .second, .val (.int v0), .val (.int w0), .val (.long ka), .second, .val (.long kb), .second, .val (.long kc), .second, .val (.long kq), .second, .val (.int (p3.toInt32)), .val (.int ((p3.toInt32) ^^^ (-1 : Int32))), .val (.ref b57), .unset, .unset, .unset, .unset] [(.int (if kf3 i62 = kq then vf3 i62 else (p3.toInt32)))]) := fun t k => pre t (st62.trans k)
  rw [own_get tb3 Mkq hi62 hs62, own_exqM] at pre
  replace pre : Pth p e below S0 T62 (mkF m 103 #[.val (.long p0), .second, .val (.long p1), .second, .val (.long p2), .second, .val (.long p3), .second, .val (.int v0), .val (.int w0), .val (.long ka), .second, .val (.long kb), .second, .val (.long kc), .second, .val (.long kq), .second, .val (.int (p3.toInt32)), .val (.int ((p3.toInt32) ^^^ (-1 : Int32))), .val (.ref b57), .unset, .unset, .unset, .unset] [(.int (p3.toInt32)), (.int w0), (.int v0), (.long kc), (.long kb), (.long ka), (.long kq), (.int (own_exq kq ka kb kc v0 w0 (p3.toInt32)))]) := fun t k => pre t (by
    show Steps p.tables e below (T62.setTop (mkF m 89 #[.val (.long p0), .second, .val (.long p1), .second, .val (.long p2), .second, .val (.long p3), .second, .val (.int v0), .val (.int w0), .val (.long ka), .second, .val (.long kb), .second, .val (.long kc), .second, .val (.long kq), .second, .val (.int (p3.toInt32)), .val (.int ((p3.toInt32) ^^^ (-1 : Int32))), .val (.ref b57), .unset, .unset, .unset, .unset] [(.int (own_exq kq ka kb kc v0 w0 (p3.toInt32)))])) t
    refine XS.lload X62.here hx rfl (hb hby at_89) rfl ?_
    show Steps p.tables e below (T62.setTop (mkF m 91 #[.val (.long p0), .second, .val (.long p1), .second, .val (.long p2), .second, .val (.long p3), .second, .val (.int v0), .val (.int w0), .val (.long ka), .second, .val (.long kb), .second, .val (.long kc), .second, .val (.long kq), .second, .val (.int (p3.toInt32)), .val (.int ((p3.toInt32) ^^^ (-1 : Int32))), .val (.ref b57), .unset, .unset, .unset, .unset] [(.long kq), (.int (own_exq kq ka kb kc v0 w0 (p3.toInt32)))])) t
    refine XS.lload X62.here hx rfl (hb hby at_91) rfl ?_
    show Steps p.tables e below (T62.setTop (mkF m 93 #[.val (.long p0), .second, .val (.long p1), .second, .val (.long p2), .second, .val (.long p3), .second, .val (.int v0), .val (.int w0), .val (.long ka), .second, .val (.long kb), .second, .val (.long kc), .second, .val (.long kq), .second, .val (.int (p3.toInt32)), .val (.int ((p3.toInt32) ^^^ (-1 : Int32))), .val (.ref b57), .unset, .unset, .unset, .unset] [(.long ka), (.long kq), (.int (own_exq kq ka kb kc v0 w0 (p3.toInt32)))])) t
    refine XS.lload X62.here hx rfl (hb hby at_93) rfl ?_
    show Steps p.tables e below (T62.setTop (mkF m 95 #[.val (.long p0), .second, .val (.long p1), .second, .val (.long p2), .second, .val (.long p3), .second, .val (.int v0), .val (.int w0), .val (.long ka), .second, .val (.long kb), .second, .val (.long kc), .second, .val (.long kq), .second, .val (.int (p3.toInt32)), .val (.int ((p3.toInt32) ^^^ (-1 : Int32))), .val (.ref b57), .unset, .unset, .unset, .unset] [(.long kb), (.long ka), (.long kq), (.int (own_exq kq ka kb kc v0 w0 (p3.toInt32)))])) t
    refine XS.lload X62.here hx rfl (hb hby at_95) rfl ?_
    show Steps p.tables e below (T62.setTop (mkF m 97 #[.val (.long p0), .second, .val (.long p1), .second, .val (.long p2), .second, .val (.long p3), .second, .val (.int v0), .val (.int w0), .val (.long ka), .second, .val (.long kb), .second, .val (.long kc), .second, .val (.long kq), .second, .val (.int (p3.toInt32)), .val (.int ((p3.toInt32) ^^^ (-1 : Int32))), .val (.ref b57), .unset, .unset, .unset, .unset] [(.long kc), (.long kb), (.long ka), (.long kq), (.int (own_exq kq ka kb kc v0 w0 (p3.toInt32)))])) t
    refine XS.iload X62.here hx rfl (hb hby at_97) rfl ?_
    show Steps p.tables e below (T62.setTop (mkF m 99 #[.val (.long p0), .second, .val (.long p1), .second, .val (.long p2), .second, .val (.long p3), .second, .val (.int v0), .val (.int w0), .val (.long ka), .second, .val (.long kb), .second, .val (.long kc), .second, .val (.long kq), .second, .val (.int (p3.toInt32)), .val (.int ((p3.toInt32) ^^^ (-1 : Int32))), .val (.ref b57), .unset, .unset, .unset, .unset] [(.int v0), (.long kc), (.long kb), (.long ka), (.long kq), (.int (own_exq kq ka kb kc v0 w0 (p3.toInt32)))])) t
    refine XS.iload X62.here hx rfl (hb hby at_99) rfl ?_
    show Steps p.tables e below (T62.setTop (mkF m 101 #[.val (.long p0), .second, .val (.long p1), .second, .val (.long p2), .second, .val (.long p3), .second, .val (.int v0), .val (.int w0), .val (.long ka), .second, .val (.long kb), .second, .val (.long kc), .second, .val (.long kq), .second, .val (.int (p3.toInt32)), .val (.int ((p3.toInt32) ^^^ (-1 : Int32))), .val (.ref b57), .unset, .unset, .unset, .unset] [(.int w0), (.int v0), (.long kc), (.long kb), (.long ka), (.long kq), (.int (own_exq kq ka kb kc v0 w0 (p3.toInt32)))])) t
    refine XS.iload X62.here hx rfl (hb hby at_101) rfl ?_
    show Steps p.tables e below (T62.setTop (mkF m 103 #[.val (.long p0), .second, .val (.long p1), .second, .val (.long p2), .second, .val (.long p3), .second, .val (.int v0), .val (.int w0), .val (.long ka), .second, .val (.long kb), .second, .val (.long kc), .second, .val (.long kq), .second, .val (.int (p3.toInt32)), .val (.int ((p3.toInt32) ^^^ (-1 : Int32))), .val (.ref b57), .unset, .unset, .unset, .unset] [(.int (p3.toInt32)), (.int w0), (.int v0), (.long kc), (.long kb), (.long ka), (.long kq), (.int (own_exq kq ka kb kc v0 w0 (p3.toInt32)))])) t
    exact k)
  obtain ⟨_, _, ⟨T63, L63, k63, n63⟩, -, X63, ⟨Lc63, hQ63, l63, y63, z63⟩, st63⟩ := Jvm.LawKit.callS X62 hx (y := (⟨"com/example/signalbox/signalbox/history/LongIntMapGetPinLaw", "expect", "(JJJJIII)I"⟩ : MethodName)) hown (mvT hZ (hw _ (List.mem_of_getElem? (i := 54) rfl))) (mvT hZ (hw _ (List.mem_of_getElem? (i := 55) rfl))) (mvT hZ (hw _ (List.mem_of_getElem? (i := 56) rfl))) (mvT hZ (hw _ (List.mem_of_getElem? (i := 57) rfl))) (by decide) (backOf (W := 1) (rm_exq l Z a0 hw [] kq ka kb kc v0 w0 (p3.toInt32) _ n0) hZ (hw _ (List.mem_of_getElem? (i := 57) rfl)) (hw _ (List.mem_of_getElem? (i := 56) rfl)) (by decide) (by decide)) (g := (mkF m 103 #[.val (.long p0), .second, .val (.long p1), .second, .val (.long p2), .second, .val (.long p3), .second, .val (.int v0), .val (.int w0), .val (.long ka), .second, .val (.long kb), .second, .val (.long kc), .second, .val (.long kq), .second, .val (.int (p3.toInt32)), .val (.int ((p3.toInt32) ^^^ (-1 : Int32))), .val (.ref b57), .unset, .unset, .unset, .unset] [(.int (p3.toInt32)), (.int w0), (.int v0), (.long kc), (.long kb), (.long ka), (.long kq), (.int (own_exq kq ka kb kc v0 w0 (p3.toInt32)))])) rfl (by rw [hml]; rfl) (argsL := [(.long kq), (.long ka), (.long kb), (.long kc), (.int v0), (.int w0), (.int (p3.toInt32))]) (rest := [(.int (own_exq kq ka kb kc v0 w0 (p3.toInt32)))]) (lenOf pd__JJJJIII_I rfl) rfl (by show 2 * 0 + _ ≤ _; exact Nat.le_of_eq rfl) (hb hby at_103) (fun _ _ => ⟨rfl, e62, (by decide : 3 + 0 ≤ _), (by decide : 36 + 0 ≤ _)⟩)
  dsimp only [Pt.U, Pt.locs, Pt.cells, Pt.slots] at X63 l63 y63 z63 st63 hQ63
  subst l63 y63 z63
  obtain ⟨rfl, N63q, e63⟩ := hQ63
  have N63 := Fr.app N62 N63q
  replace pre : Pth p e below S0 T63 (mkF m 106 #[.val (.long p0), .second, .val (.long p1), .second, .val (.long p2), .second, .val (.long p3), .second, .val (.int v0), .val (.int w0), .val (.long ka), .second, .val (.long kb), .second, .val (.long kc), .second, .val (.long kq), .second, .val (.int (p3.toInt32)), .val (.int ((p3.toInt32) ^^^ (-1 : Int32))), .val (.ref b57), .unset, .unset, .unset, .unset] [(.int (own_exq kq ka kb kc v0 w0 (p3.toInt32))), (.int (own_exq kq ka kb kc v0 w0 (p3.toInt32)))]) := fun t k => pre t (st63 _ k)
  replace pre : Pth p e below S0 T63 (mkF m 122 #[.val (.long p0), .second, .val (.long p1), .second, .val (.long p2), .second, .val (.long p3), .second, .val (.int v0), .val (.int w0), .val (.long ka), .second, .val (.long kb), .second, .val (.long kc), .second, .val (.long kq), .second, .val (.int (p3.toInt32)), .val (.int ((p3.toInt32) ^^^ (-1 : Int32))), .val (.ref b57), .val (.int (1 : Int32)), .unset, .unset, .unset] [(.int ((p3.toInt32) ^^^ (-1 : Int32))), (.long ka), (.ref b57)]) := fun t k => pre t (by
    show Steps p.tables e below (T63.setTop (mkF m 106 #[.val (.long p0), .second, .val (.long p1), .second, .val (.long p2), .second, .val (.long p3), .second, .val (.int v0), .val (.int w0), .val (.long ka), .second, .val (.long kb), .second, .val (.long kc), .second, .val (.long kq), .second, .val (.int (p3.toInt32)), .val (.int ((p3.toInt32) ^^^ (-1 : Int32))), .val (.ref b57), .unset, .unset, .unset, .unset] [(.int (own_exq kq ka kb kc v0 w0 (p3.toInt32))), (.int (own_exq kq ka kb kc v0 w0 (p3.toInt32)))])) t
    refine XS.icmpNo X63.here hx rfl (hb hby at_106) rfl (XT.ii_ne_f rfl) ?_
    show Steps p.tables e below (T63.setTop (mkF m 109 #[.val (.long p0), .second, .val (.long p1), .second, .val (.long p2), .second, .val (.long p3), .second, .val (.int v0), .val (.int w0), .val (.long ka), .second, .val (.long kb), .second, .val (.long kc), .second, .val (.long kq), .second, .val (.int (p3.toInt32)), .val (.int ((p3.toInt32) ^^^ (-1 : Int32))), .val (.ref b57), .unset, .unset, .unset, .unset] [])) t
    refine XS.iconst X63.here hx rfl (hb hby at_109) ?_
    show Steps p.tables e below (T63.setTop (mkF m 110 #[.val (.long p0), .second, .val (.long p1), .second, .val (.long p2), .second, .val (.long p3), .second, .val (.int v0), .val (.int w0), .val (.long ka), .second, .val (.long kb), .second, .val (.long kc), .second, .val (.long kq), .second, .val (.int (p3.toInt32)), .val (.int ((p3.toInt32) ^^^ (-1 : Int32))), .val (.ref b57), .unset, .unset, .unset, .unset] [(.int (1 : Int32))])) t
    refine XS.goto X63.here hx rfl (pc0 := 110) (pc' := 114) rfl (hb hby at_110) (by decide) (by decide) ?_
    show Steps p.tables e below (T63.setTop (mkF m 114 #[.val (.long p0), .second, .val (.long p1), .second, .val (.long p2), .second, .val (.long p3), .second, .val (.int v0), .val (.int w0), .val (.long ka), .second, .val (.long kb), .second, .val (.long kc), .second, .val (.long kq), .second, .val (.int (p3.toInt32)), .val (.int ((p3.toInt32) ^^^ (-1 : Int32))), .val (.ref b57), .unset, .unset, .unset, .unset] [(.int (1 : Int32))])) t
    refine XS.istore X63.here hx rfl (hb hby at_114) rfl (l' := #[.val (.long p0), .second, .val (.long p1), .second, .val (.long p2), .second, .val (.long p3), .second, .val (.int v0), .val (.int w0), .val (.long ka), .second, .val (.long kb), .second, .val (.long kc), .second, .val (.long kq), .second, .val (.int (p3.toInt32)), .val (.int ((p3.toInt32) ^^^ (-1 : Int32))), .val (.ref b57), .val (.int (1 : Int32)), .unset, .unset, .unset]) rfl ?_
    show Steps p.tables e below (T63.setTop (mkF m 116 #[.val (.long p0), .second, .val (.long p1), .second, .val (.long p2), .second, .val (.long p3), .second, .val (.int v0), .val (.int w0), .val (.long ka), .second, .val (.long kb), .second, .val (.long kc), .second, .val (.long kq), .second, .val (.int (p3.toInt32)), .val (.int ((p3.toInt32) ^^^ (-1 : Int32))), .val (.ref b57), .val (.int (1 : Int32)), .unset, .unset, .unset] [])) t
    refine XS.aload X63.here hx rfl (hb hby at_116) rfl rfl ?_
    show Steps p.tables e below (T63.setTop (mkF m 118 #[.val (.long p0), .second, .val (.long p1), .second, .val (.long p2), .second, .val (.long p3), .second, .val (.int v0), .val (.int w0), .val (.long ka), .second, .val (.long kb), .second, .val (.long kc), .second, .val (.long kq), .second, .val (.int (p3.toInt32)), .val (.int ((p3.toInt32) ^^^ (-1 : Int32))), .val (.ref b57), .val (.int (1 : Int32)), .unset, .unset, .unset] [(.ref b57)])) t
    refine XS.lload X63.here hx rfl (hb hby at_118) rfl ?_
    show Steps p.tables e below (T63.setTop (mkF m 120 #[.val (.long p0), .second, .val (.long p1), .second, .val (.long p2), .second, .val (.long p3), .second, .val (.int v0), .val (.int w0), .val (.long ka), .second, .val (.long kb), .second, .val (.long kc), .second, .val (.long kq), .second, .val (.int (p3.toInt32)), .val (.int ((p3.toInt32) ^^^ (-1 : Int32))), .val (.ref b57), .val (.int (1 : Int32)), .unset, .unset, .unset] [(.long ka), (.ref b57)])) t
    refine XS.iload X63.here hx rfl (hb hby at_120) rfl ?_
    show Steps p.tables e below (T63.setTop (mkF m 122 #[.val (.long p0), .second, .val (.long p1), .second, .val (.long p2), .second, .val (.long p3), .second, .val (.int v0), .val (.int w0), .val (.long ka), .second, .val (.long kb), .second, .val (.long kc), .second, .val (.long kq), .second, .val (.int (p3.toInt32)), .val (.int ((p3.toInt32) ^^^ (-1 : Int32))), .val (.ref b57), .val (.int (1 : Int32)), .unset, .unset, .unset] [(.int ((p3.toInt32) ^^^ (-1 : Int32))), (.long ka), (.ref b57)])) t
    exact k)
  obtain ⟨cq64, kq64, q64a, q64b, q64c⟩ := isOf hZ e63 hM3.2.2.2.2.1
  obtain ⟨_, _, ⟨T64, L64, k64, n64⟩, -, X64, ⟨Lc64, hQ64, l64, y64, z64⟩, st64⟩ := X63.virtualBack hx (y := (⟨"com/example/signalbox/signalbox/history/LongIntMap", "get", "(JI)I"⟩ : MethodName)) (z := (⟨"com/example/signalbox/signalbox/history/LongIntMap", "get", "(JI)I"⟩ : MethodName)) hown (mvT hZ (hw _ (List.mem_of_getElem? (i := 49) rfl))) (mvT hZ (hw _ (List.mem_of_getElem? (i := 50) rfl))) (notFace_of_selects (args := #[]) (mvT hZ (hw _ (List.mem_of_getElem? (i := 52) rfl)))) (mvT hZ (hw _ (List.mem_of_getElem? (i := 52) rfl))) (mvT hZ (hw _ (List.mem_of_getElem? (i := 51) rfl))) (by decide) (backOf (W := 0) (rm_get l Z a0 hw [] b57 ka ((p3.toInt32) ^^^ (-1 : Int32)) rk rv sz3 kf3 vf3 T61.heap n0 hM3 hexz) hZ (hw _ (List.mem_of_getElem? (i := 53) rfl)) (hw _ (List.mem_of_getElem? (i := 3) rfl)) (by decide) (by decide)) q64a q64c (g := (mkF m 122 #[.val (.long p0), .second, .val (.long p1), .second, .val (.long p2), .second, .val (.long p3), .second, .val (.int v0), .val (.int w0), .val (.long ka), .second, .val (.long kb), .second, .val (.long kc), .second, .val (.long kq), .second, .val (.int (p3.toInt32)), .val (.int ((p3.toInt32) ^^^ (-1 : Int32))), .val (.ref b57), .val (.int (1 : Int32)), .unset, .unset, .unset] [(.int ((p3.toInt32) ^^^ (-1 : Int32))), (.long ka), (.ref b57)])) rfl (by rw [hml]; rfl) (Steps.refl _) (argsL := [(.long ka), (.int ((p3.toInt32) ^^^ (-1 : Int32)))]) (rest := []) (lenOf pd__JI_I rfl) rfl (by show 2 * 0 + _ ≤ _; exact Nat.le_of_eq rfl) (hb hby at_122) (fun _ _ => ⟨rfl, e63, (by decide : 3 + 0 ≤ _), (by decide : 36 + 0 ≤ _)⟩)
  dsimp only [Pt.U, Pt.locs, Pt.cells, Pt.slots] at X64 l64 y64 z64 st64 hQ64
  subst l64 y64 z64
  obtain ⟨i64, rfl, N64q, e64, hi64, hs64⟩ := hQ64
  have N64 := Fr.app N63 N64q
  replace pre : Pth p e below S0 T64 (mkF m 125 #[.val (.long p0), .second, .val (.long p1), .second, .val (.long p2), .second, .val (.long p3), .second, .val (.int v0), .val (.int w0), .val (.long ka), .second, .val (.long kb), .second, .val (.long kc), .second, .val (.long kq), .second, .val (.int (p3.toInt32)), .val (.int ((p3.toInt32) ^^^ (-1 : Int32))), .val (.ref b57), .val (.int (1 : Int32)), .unset, .unset, .unset] [(.int (if kf3 i64 = ka then vf3 i64 else ((p3.toInt32) ^^^ (-1 : Int32))))]) := fun t k => pre t (st64.trans k)
  rw [own_get tb3 Mka hi64 hs64, own_exqM] at pre
  replace pre : Pth p e below S0 T64 (mkF m 139 #[.val (.long p0), .second, .val (.long p1), .second, .val (.long p2), .second, .val (.long p3), .second, .val (.int v0), .val (.int w0), .val (.long ka), .second, .val (.long kb), .second, .val (.long kc), .second, .val (.long kq), .second, .val (.int (p3.toInt32)), .val (.int ((p3.toInt32) ^^^ (-1 : Int32))), .val (.ref b57), .val (.int (1 : Int32)), .unset, .unset, .unset] [(.int ((p3.toInt32) ^^^ (-1 : Int32))), (.int w0), (.int v0), (.long kc), (.long kb), (.long ka), (.long ka), (.int (own_exq ka ka kb kc v0 w0 ((p3.toInt32) ^^^ (-1 : Int32))))]) := fun t k => pre t (by
    show Steps p.tables e below (T64.setTop (mkF m 125 #[.val (.long p0), .second, .val (.long p1), .second, .val (.long p2), .second, .val (.long p3), .second, .val (.int v0), .val (.int w0), .val (.long ka), .second, .val (.long kb), .second, .val (.long kc), .second, .val (.long kq), .second, .val (.int (p3.toInt32)), .val (.int ((p3.toInt32) ^^^ (-1 : Int32))), .val (.ref b57), .val (.int (1 : Int32)), .unset, .unset, .unset] [(.int (own_exq ka ka kb kc v0 w0 ((p3.toInt32) ^^^ (-1 : Int32))))])) t
    refine XS.lload X64.here hx rfl (hb hby at_125) rfl ?_
    show Steps p.tables e below (T64.setTop (mkF m 127 #[.val (.long p0), .second, .val (.long p1), .second, .val (.long p2), .second, .val (.long p3), .second, .val (.int v0), .val (.int w0), .val (.long ka), .second, .val (.long kb), .second, .val (.long kc), .second, .val (.long kq), .second, .val (.int (p3.toInt32)), .val (.int ((p3.toInt32) ^^^ (-1 : Int32))), .val (.ref b57), .val (.int (1 : Int32)), .unset, .unset, .unset] [(.long ka), (.int (own_exq ka ka kb kc v0 w0 ((p3.toInt32) ^^^ (-1 : Int32))))])) t
    refine XS.lload X64.here hx rfl (hb hby at_127) rfl ?_
    show Steps p.tables e below (T64.setTop (mkF m 129 #[.val (.long p0), .second, .val (.long p1), .second, .val (.long p2), .second, .val (.long p3), .second, .val (.int v0), .val (.int w0), .val (.long ka), .second, .val (.long kb), .second, .val (.long kc), .second, .val (.long kq), .second, .val (.int (p3.toInt32)), .val (.int ((p3.toInt32) ^^^ (-1 : Int32))), .val (.ref b57), .val (.int (1 : Int32)), .unset, .unset, .unset] [(.long ka), (.long ka), (.int (own_exq ka ka kb kc v0 w0 ((p3.toInt32) ^^^ (-1 : Int32))))])) t
    refine XS.lload X64.here hx rfl (hb hby at_129) rfl ?_
    show Steps p.tables e below (T64.setTop (mkF m 131 #[.val (.long p0), .second, .val (.long p1), .second, .val (.long p2), .second, .val (.long p3), .second, .val (.int v0), .val (.int w0), .val (.long ka), .second, .val (.long kb), .second, .val (.long kc), .second, .val (.long kq), .second, .val (.int (p3.toInt32)), .val (.int ((p3.toInt32) ^^^ (-1 : Int32))), .val (.ref b57), .val (.int (1 : Int32)), .unset, .unset, .unset] [(.long kb), (.long ka), (.long ka), (.int (own_exq ka ka kb kc v0 w0 ((p3.toInt32) ^^^ (-1 : Int32))))])) t
    refine XS.lload X64.here hx rfl (hb hby at_131) rfl ?_
    show Steps p.tables e below (T64.setTop (mkF m 133 #[.val (.long p0), .second, .val (.long p1), .second, .val (.long p2), .second, .val (.long p3), .second, .val (.int v0), .val (.int w0), .val (.long ka), .second, .val (.long kb), .second, .val (.long kc), .second, .val (.long kq), .second, .val (.int (p3.toInt32)), .val (.int ((p3.toInt32) ^^^ (-1 : Int32))), .val (.ref b57), .val (.int (1 : Int32)), .unset, .unset, .unset] [(.long kc), (.long kb), (.long ka), (.long ka), (.int (own_exq ka ka kb kc v0 w0 ((p3.toInt32) ^^^ (-1 : Int32))))])) t
    refine XS.iload X64.here hx rfl (hb hby at_133) rfl ?_
    show Steps p.tables e below (T64.setTop (mkF m 135 #[.val (.long p0), .second, .val (.long p1), .second, .val (.long p2), .second, .val (.long p3), .second, .val (.int v0), .val (.int w0), .val (.long ka), .second, .val (.long kb), .second, .val (.long kc), .second, .val (.long kq), .second, .val (.int (p3.toInt32)), .val (.int ((p3.toInt32) ^^^ (-1 : Int32))), .val (.ref b57), .val (.int (1 : Int32)), .unset, .unset, .unset] [(.int v0), (.long kc), (.long kb), (.long ka), (.long ka), (.int (own_exq ka ka kb kc v0 w0 ((p3.toInt32) ^^^ (-1 : Int32))))])) t
    refine XS.iload X64.here hx rfl (hb hby at_135) rfl ?_
    show Steps p.tables e below (T64.setTop (mkF m 137 #[.val (.long p0), .second, .val (.long p1), .second, .val (.long p2), .second, .val (.long p3), .second, .val (.int v0), .val (.int w0), .val (.long ka), .second, .val (.long kb), .second, .val (.long kc), .second, .val (.long kq), .second, .val (.int (p3.toInt32)), .val (.int ((p3.toInt32) ^^^ (-1 : Int32))), .val (.ref b57), .val (.int (1 : Int32)), .unset, .unset, .unset] [(.int w0), (.int v0), (.long kc), (.long kb), (.long ka), (.long ka), (.int (own_exq ka ka kb kc v0 w0 ((p3.toInt32) ^^^ (-1 : Int32))))])) t
    refine XS.iload X64.here hx rfl (hb hby at_137) rfl ?_
    show Steps p.tables e below (T64.setTop (mkF m 139 #[.val (.long p0), .second, .val (.long p1), .second, .val (.long p2), .second, .val (.long p3), .second, .val (.int v0), .val (.int w0), .val (.long ka), .second, .val (.long kb), .second, .val (.long kc), .second, .val (.long kq), .second, .val (.int (p3.toInt32)), .val (.int ((p3.toInt32) ^^^ (-1 : Int32))), .val (.ref b57), .val (.int (1 : Int32)), .unset, .unset, .unset] [(.int ((p3.toInt32) ^^^ (-1 : Int32))), (.int w0), (.int v0), (.long kc), (.long kb), (.long ka), (.long ka), (.int (own_exq ka ka kb kc v0 w0 ((p3.toInt32) ^^^ (-1 : Int32))))])) t
    exact k)
  obtain ⟨_, _, ⟨T65, L65, k65, n65⟩, -, X65, ⟨Lc65, hQ65, l65, y65, z65⟩, st65⟩ := Jvm.LawKit.callS X64 hx (y := (⟨"com/example/signalbox/signalbox/history/LongIntMapGetPinLaw", "expect", "(JJJJIII)I"⟩ : MethodName)) hown (mvT hZ (hw _ (List.mem_of_getElem? (i := 54) rfl))) (mvT hZ (hw _ (List.mem_of_getElem? (i := 55) rfl))) (mvT hZ (hw _ (List.mem_of_getElem? (i := 56) rfl))) (mvT hZ (hw _ (List.mem_of_getElem? (i := 57) rfl))) (by decide) (backOf (W := 1) (rm_exq l Z a0 hw [] ka ka kb kc v0 w0 ((p3.toInt32) ^^^ (-1 : Int32)) _ n0) hZ (hw _ (List.mem_of_getElem? (i := 57) rfl)) (hw _ (List.mem_of_getElem? (i := 56) rfl)) (by decide) (by decide)) (g := (mkF m 139 #[.val (.long p0), .second, .val (.long p1), .second, .val (.long p2), .second, .val (.long p3), .second, .val (.int v0), .val (.int w0), .val (.long ka), .second, .val (.long kb), .second, .val (.long kc), .second, .val (.long kq), .second, .val (.int (p3.toInt32)), .val (.int ((p3.toInt32) ^^^ (-1 : Int32))), .val (.ref b57), .val (.int (1 : Int32)), .unset, .unset, .unset] [(.int ((p3.toInt32) ^^^ (-1 : Int32))), (.int w0), (.int v0), (.long kc), (.long kb), (.long ka), (.long ka), (.int (own_exq ka ka kb kc v0 w0 ((p3.toInt32) ^^^ (-1 : Int32))))])) rfl (by rw [hml]; rfl) (argsL := [(.long ka), (.long ka), (.long kb), (.long kc), (.int v0), (.int w0), (.int ((p3.toInt32) ^^^ (-1 : Int32)))]) (rest := [(.int (own_exq ka ka kb kc v0 w0 ((p3.toInt32) ^^^ (-1 : Int32))))]) (lenOf pd__JJJJIII_I rfl) rfl (by show 2 * 0 + _ ≤ _; exact Nat.le_of_eq rfl) (hb hby at_139) (fun _ _ => ⟨rfl, e64, (by decide : 3 + 0 ≤ _), (by decide : 36 + 0 ≤ _)⟩)
  dsimp only [Pt.U, Pt.locs, Pt.cells, Pt.slots] at X65 l65 y65 z65 st65 hQ65
  subst l65 y65 z65
  obtain ⟨rfl, N65q, e65⟩ := hQ65
  have N65 := Fr.app N64 N65q
  replace pre : Pth p e below S0 T65 (mkF m 142 #[.val (.long p0), .second, .val (.long p1), .second, .val (.long p2), .second, .val (.long p3), .second, .val (.int v0), .val (.int w0), .val (.long ka), .second, .val (.long kb), .second, .val (.long kc), .second, .val (.long kq), .second, .val (.int (p3.toInt32)), .val (.int ((p3.toInt32) ^^^ (-1 : Int32))), .val (.ref b57), .val (.int (1 : Int32)), .unset, .unset, .unset] [(.int (own_exq ka ka kb kc v0 w0 ((p3.toInt32) ^^^ (-1 : Int32)))), (.int (own_exq ka ka kb kc v0 w0 ((p3.toInt32) ^^^ (-1 : Int32))))]) := fun t k => pre t (st65 _ k)
  replace pre : Pth p e below S0 T65 (mkF m 158 #[.val (.long p0), .second, .val (.long p1), .second, .val (.long p2), .second, .val (.long p3), .second, .val (.int v0), .val (.int w0), .val (.long ka), .second, .val (.long kb), .second, .val (.long kc), .second, .val (.long kq), .second, .val (.int (p3.toInt32)), .val (.int ((p3.toInt32) ^^^ (-1 : Int32))), .val (.ref b57), .val (.int (1 : Int32)), .val (.int (1 : Int32)), .unset, .unset] [(.int ((p3.toInt32) ^^^ (-1 : Int32))), (.long kb), (.ref b57)]) := fun t k => pre t (by
    show Steps p.tables e below (T65.setTop (mkF m 142 #[.val (.long p0), .second, .val (.long p1), .second, .val (.long p2), .second, .val (.long p3), .second, .val (.int v0), .val (.int w0), .val (.long ka), .second, .val (.long kb), .second, .val (.long kc), .second, .val (.long kq), .second, .val (.int (p3.toInt32)), .val (.int ((p3.toInt32) ^^^ (-1 : Int32))), .val (.ref b57), .val (.int (1 : Int32)), .unset, .unset, .unset] [(.int (own_exq ka ka kb kc v0 w0 ((p3.toInt32) ^^^ (-1 : Int32)))), (.int (own_exq ka ka kb kc v0 w0 ((p3.toInt32) ^^^ (-1 : Int32))))])) t
    refine XS.icmpNo X65.here hx rfl (hb hby at_142) rfl (XT.ii_ne_f rfl) ?_
    show Steps p.tables e below (T65.setTop (mkF m 145 #[.val (.long p0), .second, .val (.long p1), .second, .val (.long p2), .second, .val (.long p3), .second, .val (.int v0), .val (.int w0), .val (.long ka), .second, .val (.long kb), .second, .val (.long kc), .second, .val (.long kq), .second, .val (.int (p3.toInt32)), .val (.int ((p3.toInt32) ^^^ (-1 : Int32))), .val (.ref b57), .val (.int (1 : Int32)), .unset, .unset, .unset] [])) t
    refine XS.iconst X65.here hx rfl (hb hby at_145) ?_
    show Steps p.tables e below (T65.setTop (mkF m 146 #[.val (.long p0), .second, .val (.long p1), .second, .val (.long p2), .second, .val (.long p3), .second, .val (.int v0), .val (.int w0), .val (.long ka), .second, .val (.long kb), .second, .val (.long kc), .second, .val (.long kq), .second, .val (.int (p3.toInt32)), .val (.int ((p3.toInt32) ^^^ (-1 : Int32))), .val (.ref b57), .val (.int (1 : Int32)), .unset, .unset, .unset] [(.int (1 : Int32))])) t
    refine XS.goto X65.here hx rfl (pc0 := 146) (pc' := 150) rfl (hb hby at_146) (by decide) (by decide) ?_
    show Steps p.tables e below (T65.setTop (mkF m 150 #[.val (.long p0), .second, .val (.long p1), .second, .val (.long p2), .second, .val (.long p3), .second, .val (.int v0), .val (.int w0), .val (.long ka), .second, .val (.long kb), .second, .val (.long kc), .second, .val (.long kq), .second, .val (.int (p3.toInt32)), .val (.int ((p3.toInt32) ^^^ (-1 : Int32))), .val (.ref b57), .val (.int (1 : Int32)), .unset, .unset, .unset] [(.int (1 : Int32))])) t
    refine XS.istore X65.here hx rfl (hb hby at_150) rfl (l' := #[.val (.long p0), .second, .val (.long p1), .second, .val (.long p2), .second, .val (.long p3), .second, .val (.int v0), .val (.int w0), .val (.long ka), .second, .val (.long kb), .second, .val (.long kc), .second, .val (.long kq), .second, .val (.int (p3.toInt32)), .val (.int ((p3.toInt32) ^^^ (-1 : Int32))), .val (.ref b57), .val (.int (1 : Int32)), .val (.int (1 : Int32)), .unset, .unset]) rfl ?_
    show Steps p.tables e below (T65.setTop (mkF m 152 #[.val (.long p0), .second, .val (.long p1), .second, .val (.long p2), .second, .val (.long p3), .second, .val (.int v0), .val (.int w0), .val (.long ka), .second, .val (.long kb), .second, .val (.long kc), .second, .val (.long kq), .second, .val (.int (p3.toInt32)), .val (.int ((p3.toInt32) ^^^ (-1 : Int32))), .val (.ref b57), .val (.int (1 : Int32)), .val (.int (1 : Int32)), .unset, .unset] [])) t
    refine XS.aload X65.here hx rfl (hb hby at_152) rfl rfl ?_
    show Steps p.tables e below (T65.setTop (mkF m 154 #[.val (.long p0), .second, .val (.long p1), .second, .val (.long p2), .second, .val (.long p3), .second, .val (.int v0), .val (.int w0), .val (.long ka), .second, .val (.long kb), .second, .val (.long kc), .second, .val (.long kq), .second, .val (.int (p3.toInt32)), .val (.int ((p3.toInt32) ^^^ (-1 : Int32))), .val (.ref b57), .val (.int (1 : Int32)), .val (.int (1 : Int32)), .unset, .unset] [(.ref b57)])) t
    refine XS.lload X65.here hx rfl (hb hby at_154) rfl ?_
    show Steps p.tables e below (T65.setTop (mkF m 156 #[.val (.long p0), .second, .val (.long p1), .second, .val (.long p2), .second, .val (.long p3), .second, .val (.int v0), .val (.int w0), .val (.long ka), .second, .val (.long kb), .second, .val (.long kc), .second, .val (.long kq), .second, .val (.int (p3.toInt32)), .val (.int ((p3.toInt32) ^^^ (-1 : Int32))), .val (.ref b57), .val (.int (1 : Int32)), .val (.int (1 : Int32)), .unset, .unset] [(.long kb), (.ref b57)])) t
    refine XS.iload X65.here hx rfl (hb hby at_156) rfl ?_
    show Steps p.tables e below (T65.setTop (mkF m 158 #[.val (.long p0), .second, .val (.long p1), .second, .val (.long p2), .second, .val (.long p3), .second, .val (.int v0), .val (.int w0), .val (.long ka), .second, .val (.long kb), .second, .val (.long kc), .second, .val (.long kq), .second, .val (.int (p3.toInt32)), .val (.int ((p3.toInt32) ^^^ (-1 : Int32))), .val (.ref b57), .val (.int (1 : Int32)), .val (.int (1 : Int32)), .unset, .unset] [(.int ((p3.toInt32) ^^^ (-1 : Int32))), (.long kb), (.ref b57)])) t
    exact k)
  obtain ⟨cq66, kq66, q66a, q66b, q66c⟩ := isOf hZ e65 hM3.2.2.2.2.1
  obtain ⟨_, _, ⟨T66, L66, k66, n66⟩, -, X66, ⟨Lc66, hQ66, l66, y66, z66⟩, st66⟩ := X65.virtualBack hx (y := (⟨"com/example/signalbox/signalbox/history/LongIntMap", "get", "(JI)I"⟩ : MethodName)) (z := (⟨"com/example/signalbox/signalbox/history/LongIntMap", "get", "(JI)I"⟩ : MethodName)) hown (mvT hZ (hw _ (List.mem_of_getElem? (i := 49) rfl))) (mvT hZ (hw _ (List.mem_of_getElem? (i := 50) rfl))) (notFace_of_selects (args := #[]) (mvT hZ (hw _ (List.mem_of_getElem? (i := 52) rfl)))) (mvT hZ (hw _ (List.mem_of_getElem? (i := 52) rfl))) (mvT hZ (hw _ (List.mem_of_getElem? (i := 51) rfl))) (by decide) (backOf (W := 0) (rm_get l Z a0 hw [] b57 kb ((p3.toInt32) ^^^ (-1 : Int32)) rk rv sz3 kf3 vf3 T61.heap n0 hM3 hexz) hZ (hw _ (List.mem_of_getElem? (i := 53) rfl)) (hw _ (List.mem_of_getElem? (i := 3) rfl)) (by decide) (by decide)) q66a q66c (g := (mkF m 158 #[.val (.long p0), .second, .val (.long p1), .second, .val (.long p2), .second, .val (.long p3), .second, .val (.int v0), .val (.int w0), .val (.long ka), .second, .val (.long kb), .second, .val (.long kc), .second, .val (.long kq), .second, .val (.int (p3.toInt32)), .val (.int ((p3.toInt32) ^^^ (-1 : Int32))), .val (.ref b57), .val (.int (1 : Int32)), .val (.int (1 : Int32)), .unset, .unset] [(.int ((p3.toInt32) ^^^ (-1 : Int32))), (.long kb), (.ref b57)])) rfl (by rw [hml]; rfl) (Steps.refl _) (argsL := [(.long kb), (.int ((p3.toInt32) ^^^ (-1 : Int32)))]) (rest := []) (lenOf pd__JI_I rfl) rfl (by show 2 * 0 + _ ≤ _; exact Nat.le_of_eq rfl) (hb hby at_158) (fun _ _ => ⟨rfl, e65, (by decide : 3 + 0 ≤ _), (by decide : 36 + 0 ≤ _)⟩)
  dsimp only [Pt.U, Pt.locs, Pt.cells, Pt.slots] at X66 l66 y66 z66 st66 hQ66
  subst l66 y66 z66
  obtain ⟨i66, rfl, N66q, e66, hi66, hs66⟩ := hQ66
  have N66 := Fr.app N65 N66q
  replace pre : Pth p e below S0 T66 (mkF m 161 #[.val (.long p0), .second, .val (.long p1), .second, .val (.long p2), .second, .val (.long p3), .second, .val (.int v0), .val (.int w0), .val (.long ka), .second, .val (.long kb), .second, .val (.long kc), .second, .val (.long kq), .second, .val (.int (p3.toInt32)), .val (.int ((p3.toInt32) ^^^ (-1 : Int32))), .val (.ref b57), .val (.int (1 : Int32)), .val (.int (1 : Int32)), .unset, .unset] [(.int (if kf3 i66 = kb then vf3 i66 else ((p3.toInt32) ^^^ (-1 : Int32))))]) := fun t k => pre t (st66.trans k)
  rw [own_get tb3 Mkb hi66 hs66, own_exqM] at pre
  replace pre : Pth p e below S0 T66 (mkF m 175 #[.val (.long p0), .second, .val (.long p1), .second, .val (.long p2), .second, .val (.long p3), .second, .val (.int v0), .val (.int w0), .val (.long ka), .second, .val (.long kb), .second, .val (.long kc), .second, .val (.long kq), .second, .val (.int (p3.toInt32)), .val (.int ((p3.toInt32) ^^^ (-1 : Int32))), .val (.ref b57), .val (.int (1 : Int32)), .val (.int (1 : Int32)), .unset, .unset] [(.int ((p3.toInt32) ^^^ (-1 : Int32))), (.int w0), (.int v0), (.long kc), (.long kb), (.long ka), (.long kb), (.int (own_exq kb ka kb kc v0 w0 ((p3.toInt32) ^^^ (-1 : Int32))))]) := fun t k => pre t (by
    show Steps p.tables e below (T66.setTop (mkF m 161 #[.val (.long p0), .second, .val (.long p1), .second, .val (.long p2), .second, .val (.long p3), .second, .val (.int v0), .val (.int w0), .val (.long ka), .second, .val (.long kb), .second, .val (.long kc), .second, .val (.long kq), .second, .val (.int (p3.toInt32)), .val (.int ((p3.toInt32) ^^^ (-1 : Int32))), .val (.ref b57), .val (.int (1 : Int32)), .val (.int (1 : Int32)), .unset, .unset] [(.int (own_exq kb ka kb kc v0 w0 ((p3.toInt32) ^^^ (-1 : Int32))))])) t
    refine XS.lload X66.here hx rfl (hb hby at_161) rfl ?_
    show Steps p.tables e below (T66.setTop (mkF m 163 #[.val (.long p0), .second, .val (.long p1), .second, .val (.long p2), .second, .val (.long p3), .second, .val (.int v0), .val (.int w0), .val (.long ka), .second, .val (.long kb), .second, .val (.long kc), .second, .val (.long kq), .second, .val (.int (p3.toInt32)), .val (.int ((p3.toInt32) ^^^ (-1 : Int32))), .val (.ref b57), .val (.int (1 : Int32)), .val (.int (1 : Int32)), .unset, .unset] [(.long kb), (.int (own_exq kb ka kb kc v0 w0 ((p3.toInt32) ^^^ (-1 : Int32))))])) t
    refine XS.lload X66.here hx rfl (hb hby at_163) rfl ?_
    show Steps p.tables e below (T66.setTop (mkF m 165 #[.val (.long p0), .second, .val (.long p1), .second, .val (.long p2), .second, .val (.long p3), .second, .val (.int v0), .val (.int w0), .val (.long ka), .second, .val (.long kb), .second, .val (.long kc), .second, .val (.long kq), .second, .val (.int (p3.toInt32)), .val (.int ((p3.toInt32) ^^^ (-1 : Int32))), .val (.ref b57), .val (.int (1 : Int32)), .val (.int (1 : Int32)), .unset, .unset] [(.long ka), (.long kb), (.int (own_exq kb ka kb kc v0 w0 ((p3.toInt32) ^^^ (-1 : Int32))))])) t
    refine XS.lload X66.here hx rfl (hb hby at_165) rfl ?_
    show Steps p.tables e below (T66.setTop (mkF m 167 #[.val (.long p0), .second, .val (.long p1), .second, .val (.long p2), .second, .val (.long p3), .second, .val (.int v0), .val (.int w0), .val (.long ka), .second, .val (.long kb), .second, .val (.long kc), .second, .val (.long kq), .second, .val (.int (p3.toInt32)), .val (.int ((p3.toInt32) ^^^ (-1 : Int32))), .val (.ref b57), .val (.int (1 : Int32)), .val (.int (1 : Int32)), .unset, .unset] [(.long kb), (.long ka), (.long kb), (.int (own_exq kb ka kb kc v0 w0 ((p3.toInt32) ^^^ (-1 : Int32))))])) t
    refine XS.lload X66.here hx rfl (hb hby at_167) rfl ?_
    show Steps p.tables e below (T66.setTop (mkF m 169 #[.val (.long p0), .second, .val (.long p1), .second, .val (.long p2), .second, .val (.long p3), .second, .val (.int v0), .val (.int w0), .val (.long ka), .second, .val (.long kb), .second, .val (.long kc), .second, .val (.long kq), .second, .val (.int (p3.toInt32)), .val (.int ((p3.toInt32) ^^^ (-1 : Int32))), .val (.ref b57), .val (.int (1 : Int32)), .val (.int (1 : Int32)), .unset, .unset] [(.long kc), (.long kb), (.long ka), (.long kb), (.int (own_exq kb ka kb kc v0 w0 ((p3.toInt32) ^^^ (-1 : Int32))))])) t
    refine XS.iload X66.here hx rfl (hb hby at_169) rfl ?_
    show Steps p.tables e below (T66.setTop (mkF m 171 #[.val (.long p0), .second, .val (.long p1), .second, .val (.long p2), .second, .val (.long p3), .second, .val (.int v0), .val (.int w0), .val (.long ka), .second, .val (.long kb), .second, .val (.long kc), .second, .val (.long kq), .second, .val (.int (p3.toInt32)), .val (.int ((p3.toInt32) ^^^ (-1 : Int32))), .val (.ref b57), .val (.int (1 : Int32)), .val (.int (1 : Int32)), .unset, .unset] [(.int v0), (.long kc), (.long kb), (.long ka), (.long kb), (.int (own_exq kb ka kb kc v0 w0 ((p3.toInt32) ^^^ (-1 : Int32))))])) t
    refine XS.iload X66.here hx rfl (hb hby at_171) rfl ?_
    show Steps p.tables e below (T66.setTop (mkF m 173 #[.val (.long p0), .second, .val (.long p1), .second, .val (.long p2), .second, .val (.long p3), .second, .val (.int v0), .val (.int w0), .val (.long ka), .second, .val (.long kb), .second, .val (.long kc), .second, .val (.long kq), .second, .val (.int (p3.toInt32)), .val (.int ((p3.toInt32) ^^^ (-1 : Int32))), .val (.ref b57), .val (.int (1 : Int32)), .val (.int (1 : Int32)), .unset, .unset] [(.int w0), (.int v0), (.long kc), (.long kb), (.long ka), (.long kb), (.int (own_exq kb ka kb kc v0 w0 ((p3.toInt32) ^^^ (-1 : Int32))))])) t
    refine XS.iload X66.here hx rfl (hb hby at_173) rfl ?_
    show Steps p.tables e below (T66.setTop (mkF m 175 #[.val (.long p0), .second, .val (.long p1), .second, .val (.long p2), .second, .val (.long p3), .second, .val (.int v0), .val (.int w0), .val (.long ka), .second, .val (.long kb), .second, .val (.long kc), .second, .val (.long kq), .second, .val (.int (p3.toInt32)), .val (.int ((p3.toInt32) ^^^ (-1 : Int32))), .val (.ref b57), .val (.int (1 : Int32)), .val (.int (1 : Int32)), .unset, .unset] [(.int ((p3.toInt32) ^^^ (-1 : Int32))), (.int w0), (.int v0), (.long kc), (.long kb), (.long ka), (.long kb), (.int (own_exq kb ka kb kc v0 w0 ((p3.toInt32) ^^^ (-1 : Int32))))])) t
    exact k)
  obtain ⟨_, _, ⟨T67, L67, k67, n67⟩, -, X67, ⟨Lc67, hQ67, l67, y67, z67⟩, st67⟩ := Jvm.LawKit.callS X66 hx (y := (⟨"com/example/signalbox/signalbox/history/LongIntMapGetPinLaw", "expect", "(JJJJIII)I"⟩ : MethodName)) hown (mvT hZ (hw _ (List.mem_of_getElem? (i := 54) rfl))) (mvT hZ (hw _ (List.mem_of_getElem? (i := 55) rfl))) (mvT hZ (hw _ (List.mem_of_getElem? (i := 56) rfl))) (mvT hZ (hw _ (List.mem_of_getElem? (i := 57) rfl))) (by decide) (backOf (W := 1) (rm_exq l Z a0 hw [] kb ka kb kc v0 w0 ((p3.toInt32) ^^^ (-1 : Int32)) _ n0) hZ (hw _ (List.mem_of_getElem? (i := 57) rfl)) (hw _ (List.mem_of_getElem? (i := 56) rfl)) (by decide) (by decide)) (g := (mkF m 175 #[.val (.long p0), .second, .val (.long p1), .second, .val (.long p2), .second, .val (.long p3), .second, .val (.int v0), .val (.int w0), .val (.long ka), .second, .val (.long kb), .second, .val (.long kc), .second, .val (.long kq), .second, .val (.int (p3.toInt32)), .val (.int ((p3.toInt32) ^^^ (-1 : Int32))), .val (.ref b57), .val (.int (1 : Int32)), .val (.int (1 : Int32)), .unset, .unset] [(.int ((p3.toInt32) ^^^ (-1 : Int32))), (.int w0), (.int v0), (.long kc), (.long kb), (.long ka), (.long kb), (.int (own_exq kb ka kb kc v0 w0 ((p3.toInt32) ^^^ (-1 : Int32))))])) rfl (by rw [hml]; rfl) (argsL := [(.long kb), (.long ka), (.long kb), (.long kc), (.int v0), (.int w0), (.int ((p3.toInt32) ^^^ (-1 : Int32)))]) (rest := [(.int (own_exq kb ka kb kc v0 w0 ((p3.toInt32) ^^^ (-1 : Int32))))]) (lenOf pd__JJJJIII_I rfl) rfl (by show 2 * 0 + _ ≤ _; exact Nat.le_of_eq rfl) (hb hby at_175) (fun _ _ => ⟨rfl, e66, (by decide : 3 + 0 ≤ _), (by decide : 36 + 0 ≤ _)⟩)
  dsimp only [Pt.U, Pt.locs, Pt.cells, Pt.slots] at X67 l67 y67 z67 st67 hQ67
  subst l67 y67 z67
  obtain ⟨rfl, N67q, e67⟩ := hQ67
  have N67 := Fr.app N66 N67q
  replace pre : Pth p e below S0 T67 (mkF m 178 #[.val (.long p0), .second, .val (.long p1), .second, .val (.long p2), .second, .val (.long p3), .second, .val (.int v0), .val (.int w0), .val (.long ka), .second, .val (.long kb), .second, .val (.long kc), .second, .val (.long kq), .second, .val (.int (p3.toInt32)), .val (.int ((p3.toInt32) ^^^ (-1 : Int32))), .val (.ref b57), .val (.int (1 : Int32)), .val (.int (1 : Int32)), .unset, .unset] [(.int (own_exq kb ka kb kc v0 w0 ((p3.toInt32) ^^^ (-1 : Int32)))), (.int (own_exq kb ka kb kc v0 w0 ((p3.toInt32) ^^^ (-1 : Int32))))]) := fun t k => pre t (st67 _ k)
  replace pre : Pth p e below S0 T67 (mkF m 194 #[.val (.long p0), .second, .val (.long p1), .second, .val (.long p2), .second, .val (.long p3), .second, .val (.int v0), .val (.int w0), .val (.long ka), .second, .val (.long kb), .second, .val (.long kc), .second, .val (.long kq), .second, .val (.int (p3.toInt32)), .val (.int ((p3.toInt32) ^^^ (-1 : Int32))), .val (.ref b57), .val (.int (1 : Int32)), .val (.int (1 : Int32)), .val (.int (1 : Int32)), .unset] [(.int (p3.toInt32)), (.long kc), (.ref b57)]) := fun t k => pre t (by
    show Steps p.tables e below (T67.setTop (mkF m 178 #[.val (.long p0), .second, .val (.long p1), .second, .val (.long p2), .second, .val (.long p3), .second, .val (.int v0), .val (.int w0), .val (.long ka), .second, .val (.long kb), .second, .val (.long kc), .second, .val (.long kq), .second, .val (.int (p3.toInt32)), .val (.int ((p3.toInt32) ^^^ (-1 : Int32))), .val (.ref b57), .val (.int (1 : Int32)), .val (.int (1 : Int32)), .unset, .unset] [(.int (own_exq kb ka kb kc v0 w0 ((p3.toInt32) ^^^ (-1 : Int32)))), (.int (own_exq kb ka kb kc v0 w0 ((p3.toInt32) ^^^ (-1 : Int32))))])) t
    refine XS.icmpNo X67.here hx rfl (hb hby at_178) rfl (XT.ii_ne_f rfl) ?_
    show Steps p.tables e below (T67.setTop (mkF m 181 #[.val (.long p0), .second, .val (.long p1), .second, .val (.long p2), .second, .val (.long p3), .second, .val (.int v0), .val (.int w0), .val (.long ka), .second, .val (.long kb), .second, .val (.long kc), .second, .val (.long kq), .second, .val (.int (p3.toInt32)), .val (.int ((p3.toInt32) ^^^ (-1 : Int32))), .val (.ref b57), .val (.int (1 : Int32)), .val (.int (1 : Int32)), .unset, .unset] [])) t
    refine XS.iconst X67.here hx rfl (hb hby at_181) ?_
    show Steps p.tables e below (T67.setTop (mkF m 182 #[.val (.long p0), .second, .val (.long p1), .second, .val (.long p2), .second, .val (.long p3), .second, .val (.int v0), .val (.int w0), .val (.long ka), .second, .val (.long kb), .second, .val (.long kc), .second, .val (.long kq), .second, .val (.int (p3.toInt32)), .val (.int ((p3.toInt32) ^^^ (-1 : Int32))), .val (.ref b57), .val (.int (1 : Int32)), .val (.int (1 : Int32)), .unset, .unset] [(.int (1 : Int32))])) t
    refine XS.goto X67.here hx rfl (pc0 := 182) (pc' := 186) rfl (hb hby at_182) (by decide) (by decide) ?_
    show Steps p.tables e below (T67.setTop (mkF m 186 #[.val (.long p0), .second, .val (.long p1), .second, .val (.long p2), .second, .val (.long p3), .second, .val (.int v0), .val (.int w0), .val (.long ka), .second, .val (.long kb), .second, .val (.long kc), .second, .val (.long kq), .second, .val (.int (p3.toInt32)), .val (.int ((p3.toInt32) ^^^ (-1 : Int32))), .val (.ref b57), .val (.int (1 : Int32)), .val (.int (1 : Int32)), .unset, .unset] [(.int (1 : Int32))])) t
    refine XS.istore X67.here hx rfl (hb hby at_186) rfl (l' := #[.val (.long p0), .second, .val (.long p1), .second, .val (.long p2), .second, .val (.long p3), .second, .val (.int v0), .val (.int w0), .val (.long ka), .second, .val (.long kb), .second, .val (.long kc), .second, .val (.long kq), .second, .val (.int (p3.toInt32)), .val (.int ((p3.toInt32) ^^^ (-1 : Int32))), .val (.ref b57), .val (.int (1 : Int32)), .val (.int (1 : Int32)), .val (.int (1 : Int32)), .unset]) rfl ?_
    show Steps p.tables e below (T67.setTop (mkF m 188 #[.val (.long p0), .second, .val (.long p1), .second, .val (.long p2), .second, .val (.long p3), .second, .val (.int v0), .val (.int w0), .val (.long ka), .second, .val (.long kb), .second, .val (.long kc), .second, .val (.long kq), .second, .val (.int (p3.toInt32)), .val (.int ((p3.toInt32) ^^^ (-1 : Int32))), .val (.ref b57), .val (.int (1 : Int32)), .val (.int (1 : Int32)), .val (.int (1 : Int32)), .unset] [])) t
    refine XS.aload X67.here hx rfl (hb hby at_188) rfl rfl ?_
    show Steps p.tables e below (T67.setTop (mkF m 190 #[.val (.long p0), .second, .val (.long p1), .second, .val (.long p2), .second, .val (.long p3), .second, .val (.int v0), .val (.int w0), .val (.long ka), .second, .val (.long kb), .second, .val (.long kc), .second, .val (.long kq), .second, .val (.int (p3.toInt32)), .val (.int ((p3.toInt32) ^^^ (-1 : Int32))), .val (.ref b57), .val (.int (1 : Int32)), .val (.int (1 : Int32)), .val (.int (1 : Int32)), .unset] [(.ref b57)])) t
    refine XS.lload X67.here hx rfl (hb hby at_190) rfl ?_
    show Steps p.tables e below (T67.setTop (mkF m 192 #[.val (.long p0), .second, .val (.long p1), .second, .val (.long p2), .second, .val (.long p3), .second, .val (.int v0), .val (.int w0), .val (.long ka), .second, .val (.long kb), .second, .val (.long kc), .second, .val (.long kq), .second, .val (.int (p3.toInt32)), .val (.int ((p3.toInt32) ^^^ (-1 : Int32))), .val (.ref b57), .val (.int (1 : Int32)), .val (.int (1 : Int32)), .val (.int (1 : Int32)), .unset] [(.long kc), (.ref b57)])) t
    refine XS.iload X67.here hx rfl (hb hby at_192) rfl ?_
    show Steps p.tables e below (T67.setTop (mkF m 194 #[.val (.long p0), .second, .val (.long p1), .second, .val (.long p2), .second, .val (.long p3), .second, .val (.int v0), .val (.int w0), .val (.long ka), .second, .val (.long kb), .second, .val (.long kc), .second, .val (.long kq), .second, .val (.int (p3.toInt32)), .val (.int ((p3.toInt32) ^^^ (-1 : Int32))), .val (.ref b57), .val (.int (1 : Int32)), .val (.int (1 : Int32)), .val (.int (1 : Int32)), .unset] [(.int (p3.toInt32)), (.long kc), (.ref b57)])) t
    exact k)
  obtain ⟨cq68, kq68, q68a, q68b, q68c⟩ := isOf hZ e67 hM3.2.2.2.2.1
  obtain ⟨_, _, ⟨T68, L68, k68, n68⟩, -, X68, ⟨Lc68, hQ68, l68, y68, z68⟩, st68⟩ := X67.virtualBack hx (y := (⟨"com/example/signalbox/signalbox/history/LongIntMap", "get", "(JI)I"⟩ : MethodName)) (z := (⟨"com/example/signalbox/signalbox/history/LongIntMap", "get", "(JI)I"⟩ : MethodName)) hown (mvT hZ (hw _ (List.mem_of_getElem? (i := 49) rfl))) (mvT hZ (hw _ (List.mem_of_getElem? (i := 50) rfl))) (notFace_of_selects (args := #[]) (mvT hZ (hw _ (List.mem_of_getElem? (i := 52) rfl)))) (mvT hZ (hw _ (List.mem_of_getElem? (i := 52) rfl))) (mvT hZ (hw _ (List.mem_of_getElem? (i := 51) rfl))) (by decide) (backOf (W := 0) (rm_get l Z a0 hw [] b57 kc (p3.toInt32) rk rv sz3 kf3 vf3 T61.heap n0 hM3 hexz) hZ (hw _ (List.mem_of_getElem? (i := 53) rfl)) (hw _ (List.mem_of_getElem? (i := 3) rfl)) (by decide) (by decide)) q68a q68c (g := (mkF m 194 #[.val (.long p0), .second, .val (.long p1), .second, .val (.long p2), .second, .val (.long p3), .second, .val (.int v0), .val (.int w0), .val (.long ka), .second, .val (.long kb), .second, .val (.long kc), .second, .val (.long kq), .second, .val (.int (p3.toInt32)), .val (.int ((p3.toInt32) ^^^ (-1 : Int32))), .val (.ref b57), .val (.int (1 : Int32)), .val (.int (1 : Int32)), .val (.int (1 : Int32)), .unset] [(.int (p3.toInt32)), (.long kc), (.ref b57)])) rfl (by rw [hml]; rfl) (Steps.refl _) (argsL := [(.long kc), (.int (p3.toInt32))]) (rest := []) (lenOf pd__JI_I rfl) rfl (by show 2 * 0 + _ ≤ _; exact Nat.le_of_eq rfl) (hb hby at_194) (fun _ _ => ⟨rfl, e67, (by decide : 3 + 0 ≤ _), (by decide : 36 + 0 ≤ _)⟩)
  dsimp only [Pt.U, Pt.locs, Pt.cells, Pt.slots] at X68 l68 y68 z68 st68 hQ68
  subst l68 y68 z68
  obtain ⟨i68, rfl, N68q, e68, hi68, hs68⟩ := hQ68
  have N68 := Fr.app N67 N68q
  replace pre : Pth p e below S0 T68 (mkF m 197 #[.val (.long p0), .second, .val (.long p1), .second, .val (.long p2), .second, .val (.long p3), .second, .val (.int v0), .val (.int w0), .val (.long ka), .second, .val (.long kb), .second, .val (.long kc), .second, .val (.long kq), .second, .val (.int (p3.toInt32)), .val (.int ((p3.toInt32) ^^^ (-1 : Int32))), .val (.ref b57), .val (.int (1 : Int32)), .val (.int (1 : Int32)), .val (.int (1 : Int32)), .unset] [(.int (if kf3 i68 = kc then vf3 i68 else (p3.toInt32)))]) := fun t k => pre t (st68.trans k)
  rw [own_get tb3 Mkc hi68 hs68, own_exqM] at pre
  replace pre : Pth p e below S0 T68 (mkF m 237 #[.val (.long p0), .second, .val (.long p1), .second, .val (.long p2), .second, .val (.long p3), .second, .val (.int v0), .val (.int w0), .val (.long ka), .second, .val (.long kb), .second, .val (.long kc), .second, .val (.long kq), .second, .val (.int (p3.toInt32)), .val (.int ((p3.toInt32) ^^^ (-1 : Int32))), .val (.ref b57), .val (.int (1 : Int32)), .val (.int (1 : Int32)), .val (.int (1 : Int32)), .val (.int (1 : Int32))] [(.int (1 : Int32))]) := fun t k => pre t (by
    show Steps p.tables e below (T68.setTop (mkF m 197 #[.val (.long p0), .second, .val (.long p1), .second, .val (.long p2), .second, .val (.long p3), .second, .val (.int v0), .val (.int w0), .val (.long ka), .second, .val (.long kb), .second, .val (.long kc), .second, .val (.long kq), .second, .val (.int (p3.toInt32)), .val (.int ((p3.toInt32) ^^^ (-1 : Int32))), .val (.ref b57), .val (.int (1 : Int32)), .val (.int (1 : Int32)), .val (.int (1 : Int32)), .unset] [(.int (own_exq kc ka kb kc v0 w0 (p3.toInt32)))])) t
    refine XS.iload X68.here hx rfl (hb hby at_197) rfl ?_
    show Steps p.tables e below (T68.setTop (mkF m 199 #[.val (.long p0), .second, .val (.long p1), .second, .val (.long p2), .second, .val (.long p3), .second, .val (.int v0), .val (.int w0), .val (.long ka), .second, .val (.long kb), .second, .val (.long kc), .second, .val (.long kq), .second, .val (.int (p3.toInt32)), .val (.int ((p3.toInt32) ^^^ (-1 : Int32))), .val (.ref b57), .val (.int (1 : Int32)), .val (.int (1 : Int32)), .val (.int (1 : Int32)), .unset] [(.int v0), (.int (own_exq kc ka kb kc v0 w0 (p3.toInt32)))])) t
    refine XS.iload X68.here hx rfl (hb hby at_199) rfl ?_
    show Steps p.tables e below (T68.setTop (mkF m 201 #[.val (.long p0), .second, .val (.long p1), .second, .val (.long p2), .second, .val (.long p3), .second, .val (.int v0), .val (.int w0), .val (.long ka), .second, .val (.long kb), .second, .val (.long kc), .second, .val (.long kq), .second, .val (.int (p3.toInt32)), .val (.int ((p3.toInt32) ^^^ (-1 : Int32))), .val (.ref b57), .val (.int (1 : Int32)), .val (.int (1 : Int32)), .val (.int (1 : Int32)), .unset] [(.int w0), (.int v0), (.int (own_exq kc ka kb kc v0 w0 (p3.toInt32)))])) t
    refine XS.ixor X68.here hx rfl (hb hby at_201) rfl ?_
    show Steps p.tables e below (T68.setTop (mkF m 202 #[.val (.long p0), .second, .val (.long p1), .second, .val (.long p2), .second, .val (.long p3), .second, .val (.int v0), .val (.int w0), .val (.long ka), .second, .val (.long kb), .second, .val (.long kc), .second, .val (.long kq), .second, .val (.int (p3.toInt32)), .val (.int ((p3.toInt32) ^^^ (-1 : Int32))), .val (.ref b57), .val (.int (1 : Int32)), .val (.int (1 : Int32)), .val (.int (1 : Int32)), .unset] [(.int (v0 ^^^ w0)), (.int (own_exq kc ka kb kc v0 w0 (p3.toInt32)))])) t
    refine XS.icmpNo X68.here hx rfl (hb hby at_202) rfl (XT.ii_ne_f (if_pos rfl)) ?_
    show Steps p.tables e below (T68.setTop (mkF m 205 #[.val (.long p0), .second, .val (.long p1), .second, .val (.long p2), .second, .val (.long p3), .second, .val (.int v0), .val (.int w0), .val (.long ka), .second, .val (.long kb), .second, .val (.long kc), .second, .val (.long kq), .second, .val (.int (p3.toInt32)), .val (.int ((p3.toInt32) ^^^ (-1 : Int32))), .val (.ref b57), .val (.int (1 : Int32)), .val (.int (1 : Int32)), .val (.int (1 : Int32)), .unset] [])) t
    refine XS.iconst X68.here hx rfl (hb hby at_205) ?_
    show Steps p.tables e below (T68.setTop (mkF m 206 #[.val (.long p0), .second, .val (.long p1), .second, .val (.long p2), .second, .val (.long p3), .second, .val (.int v0), .val (.int w0), .val (.long ka), .second, .val (.long kb), .second, .val (.long kc), .second, .val (.long kq), .second, .val (.int (p3.toInt32)), .val (.int ((p3.toInt32) ^^^ (-1 : Int32))), .val (.ref b57), .val (.int (1 : Int32)), .val (.int (1 : Int32)), .val (.int (1 : Int32)), .unset] [(.int (1 : Int32))])) t
    refine XS.goto X68.here hx rfl (pc0 := 206) (pc' := 210) rfl (hb hby at_206) (by decide) (by decide) ?_
    show Steps p.tables e below (T68.setTop (mkF m 210 #[.val (.long p0), .second, .val (.long p1), .second, .val (.long p2), .second, .val (.long p3), .second, .val (.int v0), .val (.int w0), .val (.long ka), .second, .val (.long kb), .second, .val (.long kc), .second, .val (.long kq), .second, .val (.int (p3.toInt32)), .val (.int ((p3.toInt32) ^^^ (-1 : Int32))), .val (.ref b57), .val (.int (1 : Int32)), .val (.int (1 : Int32)), .val (.int (1 : Int32)), .unset] [(.int (1 : Int32))])) t
    refine XS.istore X68.here hx rfl (hb hby at_210) rfl (l' := #[.val (.long p0), .second, .val (.long p1), .second, .val (.long p2), .second, .val (.long p3), .second, .val (.int v0), .val (.int w0), .val (.long ka), .second, .val (.long kb), .second, .val (.long kc), .second, .val (.long kq), .second, .val (.int (p3.toInt32)), .val (.int ((p3.toInt32) ^^^ (-1 : Int32))), .val (.ref b57), .val (.int (1 : Int32)), .val (.int (1 : Int32)), .val (.int (1 : Int32)), .val (.int (1 : Int32))]) rfl ?_
    show Steps p.tables e below (T68.setTop (mkF m 212 #[.val (.long p0), .second, .val (.long p1), .second, .val (.long p2), .second, .val (.long p3), .second, .val (.int v0), .val (.int w0), .val (.long ka), .second, .val (.long kb), .second, .val (.long kc), .second, .val (.long kq), .second, .val (.int (p3.toInt32)), .val (.int ((p3.toInt32) ^^^ (-1 : Int32))), .val (.ref b57), .val (.int (1 : Int32)), .val (.int (1 : Int32)), .val (.int (1 : Int32)), .val (.int (1 : Int32))] [])) t
    refine XS.iload X68.here hx rfl (hb hby at_212) rfl ?_
    show Steps p.tables e below (T68.setTop (mkF m 214 #[.val (.long p0), .second, .val (.long p1), .second, .val (.long p2), .second, .val (.long p3), .second, .val (.int v0), .val (.int w0), .val (.long ka), .second, .val (.long kb), .second, .val (.long kc), .second, .val (.long kq), .second, .val (.int (p3.toInt32)), .val (.int ((p3.toInt32) ^^^ (-1 : Int32))), .val (.ref b57), .val (.int (1 : Int32)), .val (.int (1 : Int32)), .val (.int (1 : Int32)), .val (.int (1 : Int32))] [(.int (1 : Int32))])) t
    refine XS.ifNo X68.here hx rfl (hb hby at_214) rfl (XT.i0_eq_f (by decide)) ?_
    show Steps p.tables e below (T68.setTop (mkF m 217 #[.val (.long p0), .second, .val (.long p1), .second, .val (.long p2), .second, .val (.long p3), .second, .val (.int v0), .val (.int w0), .val (.long ka), .second, .val (.long kb), .second, .val (.long kc), .second, .val (.long kq), .second, .val (.int (p3.toInt32)), .val (.int ((p3.toInt32) ^^^ (-1 : Int32))), .val (.ref b57), .val (.int (1 : Int32)), .val (.int (1 : Int32)), .val (.int (1 : Int32)), .val (.int (1 : Int32))] [])) t
    refine XS.iload X68.here hx rfl (hb hby at_217) rfl ?_
    show Steps p.tables e below (T68.setTop (mkF m 219 #[.val (.long p0), .second, .val (.long p1), .second, .val (.long p2), .second, .val (.long p3), .second, .val (.int v0), .val (.int w0), .val (.long ka), .second, .val (.long kb), .second, .val (.long kc), .second, .val (.long kq), .second, .val (.int (p3.toInt32)), .val (.int ((p3.toInt32) ^^^ (-1 : Int32))), .val (.ref b57), .val (.int (1 : Int32)), .val (.int (1 : Int32)), .val (.int (1 : Int32)), .val (.int (1 : Int32))] [(.int (1 : Int32))])) t
    refine XS.ifNo X68.here hx rfl (hb hby at_219) rfl (XT.i0_eq_f (by decide)) ?_
    show Steps p.tables e below (T68.setTop (mkF m 222 #[.val (.long p0), .second, .val (.long p1), .second, .val (.long p2), .second, .val (.long p3), .second, .val (.int v0), .val (.int w0), .val (.long ka), .second, .val (.long kb), .second, .val (.long kc), .second, .val (.long kq), .second, .val (.int (p3.toInt32)), .val (.int ((p3.toInt32) ^^^ (-1 : Int32))), .val (.ref b57), .val (.int (1 : Int32)), .val (.int (1 : Int32)), .val (.int (1 : Int32)), .val (.int (1 : Int32))] [])) t
    refine XS.iload X68.here hx rfl (hb hby at_222) rfl ?_
    show Steps p.tables e below (T68.setTop (mkF m 224 #[.val (.long p0), .second, .val (.long p1), .second, .val (.long p2), .second, .val (.long p3), .second, .val (.int v0), .val (.int w0), .val (.long ka), .second, .val (.long kb), .second, .val (.long kc), .second, .val (.long kq), .second, .val (.int (p3.toInt32)), .val (.int ((p3.toInt32) ^^^ (-1 : Int32))), .val (.ref b57), .val (.int (1 : Int32)), .val (.int (1 : Int32)), .val (.int (1 : Int32)), .val (.int (1 : Int32))] [(.int (1 : Int32))])) t
    refine XS.ifNo X68.here hx rfl (hb hby at_224) rfl (XT.i0_eq_f (by decide)) ?_
    show Steps p.tables e below (T68.setTop (mkF m 227 #[.val (.long p0), .second, .val (.long p1), .second, .val (.long p2), .second, .val (.long p3), .second, .val (.int v0), .val (.int w0), .val (.long ka), .second, .val (.long kb), .second, .val (.long kc), .second, .val (.long kq), .second, .val (.int (p3.toInt32)), .val (.int ((p3.toInt32) ^^^ (-1 : Int32))), .val (.ref b57), .val (.int (1 : Int32)), .val (.int (1 : Int32)), .val (.int (1 : Int32)), .val (.int (1 : Int32))] [])) t
    refine XS.iload X68.here hx rfl (hb hby at_227) rfl ?_
    show Steps p.tables e below (T68.setTop (mkF m 229 #[.val (.long p0), .second, .val (.long p1), .second, .val (.long p2), .second, .val (.long p3), .second, .val (.int v0), .val (.int w0), .val (.long ka), .second, .val (.long kb), .second, .val (.long kc), .second, .val (.long kq), .second, .val (.int (p3.toInt32)), .val (.int ((p3.toInt32) ^^^ (-1 : Int32))), .val (.ref b57), .val (.int (1 : Int32)), .val (.int (1 : Int32)), .val (.int (1 : Int32)), .val (.int (1 : Int32))] [(.int (1 : Int32))])) t
    refine XS.ifNo X68.here hx rfl (hb hby at_229) rfl (XT.i0_eq_f (by decide)) ?_
    show Steps p.tables e below (T68.setTop (mkF m 232 #[.val (.long p0), .second, .val (.long p1), .second, .val (.long p2), .second, .val (.long p3), .second, .val (.int v0), .val (.int w0), .val (.long ka), .second, .val (.long kb), .second, .val (.long kc), .second, .val (.long kq), .second, .val (.int (p3.toInt32)), .val (.int ((p3.toInt32) ^^^ (-1 : Int32))), .val (.ref b57), .val (.int (1 : Int32)), .val (.int (1 : Int32)), .val (.int (1 : Int32)), .val (.int (1 : Int32))] [])) t
    refine XS.iconst X68.here hx rfl (hb hby at_232) ?_
    show Steps p.tables e below (T68.setTop (mkF m 233 #[.val (.long p0), .second, .val (.long p1), .second, .val (.long p2), .second, .val (.long p3), .second, .val (.int v0), .val (.int w0), .val (.long ka), .second, .val (.long kb), .second, .val (.long kc), .second, .val (.long kq), .second, .val (.int (p3.toInt32)), .val (.int ((p3.toInt32) ^^^ (-1 : Int32))), .val (.ref b57), .val (.int (1 : Int32)), .val (.int (1 : Int32)), .val (.int (1 : Int32)), .val (.int (1 : Int32))] [(.int (1 : Int32))])) t
    refine XS.goto X68.here hx rfl (pc0 := 233) (pc' := 237) rfl (hb hby at_233) (by decide) (by decide) ?_
    show Steps p.tables e below (T68.setTop (mkF m 237 #[.val (.long p0), .second, .val (.long p1), .second, .val (.long p2), .second, .val (.long p3), .second, .val (.int v0), .val (.int w0), .val (.long ka), .second, .val (.long kb), .second, .val (.long kc), .second, .val (.long kq), .second, .val (.int (p3.toInt32)), .val (.int ((p3.toInt32) ^^^ (-1 : Int32))), .val (.ref b57), .val (.int (1 : Int32)), .val (.int (1 : Int32)), .val (.int (1 : Int32)), .val (.int (1 : Int32))] [(.int (1 : Int32))])) t
    exact k)
  obtain ⟨fs, hr, hrun, hended, hW, hsame⟩ := X68.leave (v := some (.int (1 : Int32))) (fun h => by rw [Bd.returns] at h; cases h)
  subst hS0
  refine ⟨_, _, pre _ ?_, hrun, hended, _, _, rfl, ?_, ⟨_, rfl⟩, hW, hsame.mono (by decide) (by decide)⟩
  · exact retN X68 hx (t := .boolean) Bd.returns (by simp) (hb hby at_237) hr
  · show Q_law Z p0 p1 p2 p3 v0 w0 h0 n0 _ T68.heap _
    rw [e68]
    exact ⟨rfl, N68⟩
set_option maxRecDepth 65536 in
set_option maxHeartbeats 40000000 in
theorem comes_1 {Post : Tables → Env → Array Value → State → Outcome → State → Prop} (hpost : ∀ tb e args s v u, (limb_1_1.after args s (.returned v) u = true ∧ limb_1_2.after args s (.returned v) u = true ∧ True) → FrameEnd s (.returned v) u (Jvm.fieldLocs frame_1_writes args s ++ Jvm.arrayLocs frame_1_arrays args s ++ Jvm.staticLocs frame_1_statics s) 16 192 → Post tb e args s (.returned v) u) :
    ArmFor flags0 classFile x code maxLocals ret World_1 tables_1 room_1 Calls_1 rest_1 Pre_1 Post := by
  intro l hfl _ _ p e ha hc hk s m args below hf hA hF happ hP
  obtain ⟨hcalls, hrest, hpre⟩ := hP
  obtain ⟨-, -, -, hnamed, -, -, -, hat⟩ := (Spec.applies_iff hf).mp happ
  obtain ⟨hg, hn⟩ := and_e (Cond.before_iff.mp (show (Jvm.Cond.and given_1 narrow_1).before args s = true from hpre))
  obtain ⟨gv1a, gv1b⟩ := and_e hg
  obtain ⟨gv2a, gv2b⟩ := and_e gv1b
  obtain ⟨gv3a, gv3b⟩ := and_e gv2b
  obtain ⟨gv4a, gv4b⟩ := and_e gv3b
  obtain ⟨gv5a, gv5b⟩ := and_e gv4b
  obtain ⟨gv6a, gv6b⟩ := and_e gv5b
  obtain ⟨w0, w1, w2, w3, w4, w5, rfl⟩ : ∃ w0 w1 w2 w3 w4 w5 : Value, args = #[w0, w1, w2, w3, w4, w5] := by
    have hs : args.size = 6 := by simpa [Cond.value, given_1] using gv1a
    obtain ⟨L⟩ := args
    match L, hs with
    | [w0, w1, w2, w3, w4, w5], _ => exact ⟨w0, w1, w2, w3, w4, w5, rfl⟩
  have hw := fun d (hd : d ∈ tables_1) => atoms_spec (ws := Jvm.Cond.code x code maxLocals ret :: tables_1) hat d (List.mem_cons_of_mem _ hd)
  have hfit : Fit s := fun {y c} hc i hi => by
    obtain ⟨ha, rfl⟩ := Array.getElem?_eq_some_iff.mp hc
    have q := List.all_eq_true.mp ((Array.all_eq_true_iff_forall_mem.mp hF) _ (Array.getElem_mem ha)) i (List.mem_range.mpr hi)
    simpa [Array.getElem?_eq_getElem hi] using q
  obtain ⟨i0, ei0⟩ := isL_v gv2a
  obtain rfl : w0 = (.long i0) := Option.some.inj ei0
  obtain ⟨i1, ei1⟩ := isL_v gv3a
  obtain rfl : w1 = (.long i1) := Option.some.inj ei1
  obtain ⟨i2, ei2⟩ := isL_v gv4a
  obtain rfl : w2 = (.long i2) := Option.some.inj ei2
  obtain ⟨i3, ei3⟩ := isL_v gv5a
  obtain rfl : w3 = (.long i3) := Option.some.inj ei3
  obtain ⟨i4, ei4⟩ := is_v gv6a
  obtain rfl : w4 = (.int i4) := Option.some.inj ei4
  obtain ⟨i5, ei5⟩ := is_v gv6b
  obtain rfl : w5 = (.int i5) := Option.some.inj ei5
  obtain ⟨n, o, h1, h2, h3, _, L, rfl, ⟨rfl, N⟩, hq⟩ := rm_law l s _ hw tables_1 i0 i1 i2 i3 i4 i5 s.heap s.heap.size (Nat.le_refl _)  p e ha hc hk s m _ below hf ((Spec.applies_iff_loose hf).mp happ).1 ⟨rfl, State.Warmed39.refl s, rfl⟩ trivial
  refine ⟨n, _, h1, h2, h3, hpost _ _ _ _ _ _ ⟨Cond.after_iff.mpr rfl, Cond.after_iff.mpr (eq_i res_at (Term.int_eval (1)) rfl), trivial⟩ ⟨hq.1, hq.2.1, (hq.2.2.sift fun y hy => Or.inr (N y hy)).mono (by decide) (by decide)⟩⟩
theorem main_1_1 : Claimed_1_1 := comes_1 fun _ _ _ _ _ _ h hF => ⟨h.1, hF⟩
theorem main_1_2 : Claimed_1_2 := comes_1 fun _ _ _ _ _ _ h hF => ⟨h.2.1, hF⟩
end Jvm.Pilot.@@N@@
namespace Jvm.Pilot.@@N@@
open Jvm Jvm.ClassFile Sem Op Lib Jvm.Free Jvm.Stand Jvm.Pilot.@@N@@.Jvm.D
/-! MADE BY PROGRAM (witnessworld.py) out of the Statement's table words and the real class files: 18 classes; the members and pool entries that the words name. The judged class is class 1, her method 2. -/
namespace start1
open Jvm.ClassFile
def u (s : String) : CpInfo := .utf8 (stringToUtf16 s)
/-- a pool by its gaps: so many unusable entries, then the entry; so many at the end -/
def gap : Nat → List CpInfo → List CpInfo
  | 0, r => r
  | n + 1, r => .unusable :: gap n r
def poolList (es : List (Nat × CpInfo)) (last : Nat) : List CpInfo := es.foldr (fun e r => gap e.1 (e.2 :: r)) (gap last [])
def pool (es : List (Nat × CpInfo)) (last : Nat) : Array CpInfo := ⟨poolList es last⟩
def fileOf (pool : Array CpInfo) (this : Nat) (attrs : Array Attribute := #[]) (ms : Array MethodInfo := #[]) (fl : Nat := 33) (sup : Nat := 0) (ifs : Array Nat := #[]) (fds : Array FieldInfo := #[]) : ClassFile where
  minorVersion := 0
  majorVersion := 65
  constantPool := pool
  accessFlags := fl
  thisClass := this
  superClass := sup
  interfaces := ifs
  fields := fds
  methods := ms
  attributes := attrs
def plain (name : String) (sup : Option ClassId) : Class where
  name := name
  kind := .ordinary
  loader := none
  accessFlags := 33
  super := sup
  interfaces := #[]
  cf := none
  fields := #[]
  methods := #[]
  instanceTypes := #[]
  staticTypes := #[]
  resolved := #[]
  callSites := []
  init := .initialized
  statics := none
  mirror := none

def pool0 : Array CpInfo := pool [(5, u "<init>"), (0, u "()V"), (1, .class_ 10), (1, u "java/lang/Object")] 113

def k0c0 : Code := { maxStack := 0, maxLocals := 1, code := object_method_1_code, exceptionTable := #[], attributes := #[] }
def k0m0 : Method := { name := "<init>", desc := "()V", sig := { parameters := [], returnType := none }, accessFlags := 1, code := some k0c0 }
/-- java/lang/Object -/
def k0 : Class := { plain "java/lang/Object" none with
  accessFlags := 33
  interfaces := #[]
  cf := some (fileOf pool0 8 #[] #[{ accessFlags := 1, nameIndex := 5, descriptorIndex := 6, attributes := #[] }] 33 0 #[] #[])
  fields := #[]
  methods := #[k0m0]
  instanceTypes := #[]
  staticTypes := #[]
  resolved := Array.replicate 124 none
  statics := none }

def pool1 : Array CpInfo := pool [(2, .class_ 4), (0, .nameAndType 5 6), (0, u "java/lang/Object"), (0, u "<init>"), (0, u "()V"), (0, .long 9223372036854775807), (1, .class_ 10), (0, u "com/example/signalbox/signalbox/history/LongIntMap"), (0, .methodref 9 3), (0, .methodref 9 13), (0, .nameAndType 14 15), (0, u "put"), (0, u "(JI)V"), (0, .methodref 9 17), (0, .nameAndType 18 19), (0, u "get"), (0, u "(JI)I"), (0, .methodref 21 22), (0, .class_ 23), (0, .nameAndType 24 25), (0, u "com/example/signalbox/signalbox/history/LongIntMapGetPinLaw"), (0, u "expect"), (0, u "(JJJJIII)I"), (3, u "law"), (0, u "(JJJJII)Z")] 2

def k1m0 : Method := { name := "<init>", desc := "()V", sig := { parameters := [], returnType := none }, accessFlags := 1, code := none }
def k1c1 : Code := { maxStack := 4, maxLocals := 11, code := method_2_code, exceptionTable := #[], attributes := #[] }
def k1m1 : Method := { name := "expect", desc := "(JJJJIII)I", sig := { parameters := [.long, .long, .long, .long, .int, .int, .int], returnType := some .int }, accessFlags := 10, code := some k1c1 }
def k1c2 : Code := { maxStack := 12, maxLocals := 25, code := code, exceptionTable := #[], attributes := #[] }
def k1m2 : Method := { name := "law", desc := "(JJJJII)Z", sig := { parameters := [.long, .long, .long, .long, .int, .int], returnType := some .boolean }, accessFlags := 9, code := some k1c2 }
/-- com/example/signalbox/signalbox/history/LongIntMapGetPinLaw -/
def k1 : Class := { plain "com/example/signalbox/signalbox/history/LongIntMapGetPinLaw" (some 0) with
  accessFlags := 49
  interfaces := #[]
  cf := some (fileOf pool1 21 #[] #[{ accessFlags := 1, nameIndex := 5, descriptorIndex := 6, attributes := #[] }, { accessFlags := 10, nameIndex := 24, descriptorIndex := 25, attributes := #[] }, { accessFlags := 9, nameIndex := 29, descriptorIndex := 30, attributes := #[] }] 49 2 #[] #[])
  fields := #[]
  methods := #[k1m0, k1m1, k1m2]
  instanceTypes := #[]
  staticTypes := #[]
  resolved := Array.replicate 33 none
  statics := none }

def pool2 : Array CpInfo := pool [(1, .class_ 2), (0, u "com/example/signalbox/signalbox/history/LongIntMap"), (0, .methodref 4 5), (0, .class_ 6), (0, .nameAndType 7 8), (0, u "java/lang/Object"), (0, u "<init>"), (0, u "()V"), (0, .methodref 1 10), (0, .nameAndType 11 12), (0, u "allocate"), (0, u "(I)V"), (0, .fieldref 1 14), (0, .nameAndType 15 16), (0, u "keys"), (0, u "[J"), (0, .methodref 1 18), (0, .nameAndType 19 20), (0, u "slot"), (0, u "(J)I"), (0, .fieldref 1 22), (0, .nameAndType 23 24), (0, u "values"), (0, u "[I"), (0, .long 18446744073709551615), (10, .fieldref 1 37), (0, .nameAndType 38 39), (0, u "size"), (0, u "I"), (0, .integer 805306368), (8, .long 11400714819323198485), (1, .fieldref 1 52), (0, .nameAndType 53 39), (0, u "shift"), (0, .methodref 55 56), (0, .class_ 57), (0, .nameAndType 58 59), (0, u "java/util/Arrays"), (0, u "fill"), (0, u "([JJ)V"), (0, .methodref 61 62), (0, .class_ 63), (0, .nameAndType 64 20), (0, u "java/lang/Long"), (0, u "numberOfLeadingZeros"), (0, u "MAX_SLOTS"), (2, u "MAX_SIZE"), (0, u "FREE"), (0, u "J"), (0, u "SPREAD"), (2, u "get"), (0, u "(JI)I"), (1, u "put"), (0, u "(JI)V")] 20

def k2c0 : Code := { maxStack := 2, maxLocals := 1, code := prog_69_method_1_code, exceptionTable := #[], attributes := #[] }
def k2m0 : Method := { name := "<init>", desc := "()V", sig := { parameters := [], returnType := none }, accessFlags := 0, code := some k2c0 }
def k2c1 : Code := { maxStack := 4, maxLocals := 6, code := prog_69_method_2_code, exceptionTable := #[], attributes := #[] }
def k2m1 : Method := { name := "get", desc := "(JI)I", sig := { parameters := [.long, .int], returnType := some .int }, accessFlags := 0, code := some k2c1 }
def k2c2 : Code := { maxStack := 4, maxLocals := 6, code := prog_69_method_3_code, exceptionTable := #[], attributes := #[] }
def k2m2 : Method := { name := "put", desc := "(JI)V", sig := { parameters := [.long, .int], returnType := none }, accessFlags := 0, code := some k2c2 }
def k2c3 : Code := { maxStack := 4, maxLocals := 3, code := prog_69_method_5_code, exceptionTable := #[], attributes := #[] }
def k2m3 : Method := { name := "slot", desc := "(J)I", sig := { parameters := [.long], returnType := some .int }, accessFlags := 2, code := some k2c3 }
def k2c4 : Code := { maxStack := 3, maxLocals := 2, code := prog_69_method_6_code, exceptionTable := #[], attributes := #[] }
def k2m4 : Method := { name := "allocate", desc := "(I)V", sig := { parameters := [.int], returnType := none }, accessFlags := 2, code := some k2c4 }
/-- com/example/signalbox/signalbox/history/LongIntMap -/
def k2 : Class := { plain "com/example/signalbox/signalbox/history/LongIntMap" (some 0) with
  accessFlags := 48
  interfaces := #[]
  cf := some (fileOf pool2 1 #[] #[{ accessFlags := 0, nameIndex := 7, descriptorIndex := 8, attributes := #[] }, { accessFlags := 0, nameIndex := 74, descriptorIndex := 75, attributes := #[] }, { accessFlags := 0, nameIndex := 77, descriptorIndex := 78, attributes := #[] }, { accessFlags := 2, nameIndex := 19, descriptorIndex := 20, attributes := #[] }, { accessFlags := 2, nameIndex := 11, descriptorIndex := 12, attributes := #[] }] 48 4 #[] #[{ accessFlags := 26, nameIndex := 65, descriptorIndex := 39, attributes := #[] }, { accessFlags := 24, nameIndex := 68, descriptorIndex := 39, attributes := #[] }, { accessFlags := 26, nameIndex := 69, descriptorIndex := 70, attributes := #[] }, { accessFlags := 26, nameIndex := 71, descriptorIndex := 70, attributes := #[] }, { accessFlags := 2, nameIndex := 15, descriptorIndex := 16, attributes := #[] }, { accessFlags := 2, nameIndex := 23, descriptorIndex := 24, attributes := #[] }, { accessFlags := 2, nameIndex := 38, descriptorIndex := 39, attributes := #[] }, { accessFlags := 2, nameIndex := 53, descriptorIndex := 39, attributes := #[] }])
  fields := #[{ name := "MAX_SLOTS", type := .int, accessFlags := 26, slot := 0, constantValue := 0 }, { name := "MAX_SIZE", type := .int, accessFlags := 24, slot := 1, constantValue := 0 }, { name := "FREE", type := .long, accessFlags := 26, slot := 2, constantValue := 0 }, { name := "SPREAD", type := .long, accessFlags := 26, slot := 3, constantValue := 0 }, { name := "keys", type := (.array .long), accessFlags := 2, slot := 0, constantValue := 0 }, { name := "values", type := (.array .int), accessFlags := 2, slot := 1, constantValue := 0 }, { name := "size", type := .int, accessFlags := 2, slot := 2, constantValue := 0 }, { name := "shift", type := .int, accessFlags := 2, slot := 3, constantValue := 0 }]
  methods := #[k2m0, k2m1, k2m2, k2m3, k2m4]
  instanceTypes := #[(.array .long), (.array .int), .int, .int]
  staticTypes := #[.int, .int, .long, .long]
  resolved := Array.replicate 99 none
  statics := none }

def pool3 : Array CpInfo := pool [(2, .class_ 4), (1, u "java/lang/Object"), (0, u "<init>"), (0, u "()V"), (7, .class_ 16), (1, u "java/util/Arrays"), (57, .class_ 76), (1, u "java/util/Arrays$NaturalOrder"), (36, .class_ 115), (1, u "java/util/Arrays$LegacyMergeSort"), (1, u "Z"), (257, .class_ 376), (0, u "java/util/Arrays$ArrayList"), (68, u "$assertionsDisabled"), (269, u "MIN_ARRAY_SORT_GRAN"), (0, u "I"), (2, u "INSERTIONSORT_THRESHOLD"), (120, u "fill"), (0, u "([JJ)V"), (133, .class_ 976), (0, u "java/util/Arrays$ArrayItr")] 52

def k3m0 : Method := { name := "<init>", desc := "()V", sig := { parameters := [], returnType := none }, accessFlags := 2, code := none }
def k3c1 : Code := { maxStack := 4, maxLocals := 5, code := jdk_65_method_101_code, exceptionTable := #[], attributes := #[] }
def k3m1 : Method := { name := "fill", desc := "([JJ)V", sig := { parameters := [(.array .long), .long], returnType := none }, accessFlags := 9, code := some k3c1 }
/-- java/util/Arrays -/
def k3 : Class := { plain "java/util/Arrays" (some 0) with
  accessFlags := 49
  interfaces := #[]
  cf := some (fileOf pool3 14 #[.nestMembers #[975, 375, 113, 74]] #[{ accessFlags := 2, nameIndex := 5, descriptorIndex := 6, attributes := #[] }, { accessFlags := 9, nameIndex := 840, descriptorIndex := 841, attributes := #[] }] 49 2 #[] #[{ accessFlags := 26, nameIndex := 715, descriptorIndex := 716, attributes := #[] }, { accessFlags := 26, nameIndex := 719, descriptorIndex := 716, attributes := #[] }, { accessFlags := 4120, nameIndex := 445, descriptorIndex := 117, attributes := #[] }])
  fields := #[{ name := "MIN_ARRAY_SORT_GRAN", type := .int, accessFlags := 26, slot := 0, constantValue := 0 }, { name := "INSERTIONSORT_THRESHOLD", type := .int, accessFlags := 26, slot := 1, constantValue := 0 }, { name := "$assertionsDisabled", type := .boolean, accessFlags := 4120, slot := 2, constantValue := 0 }]
  methods := #[k3m0, k3m1]
  instanceTypes := #[]
  staticTypes := #[.int, .int, .boolean]
  resolved := Array.replicate 1029 none
  statics := none }

def pool4 : Array CpInfo := pool [(1, .class_ 2), (0, u "java/io/Serializable"), (0, .class_ 4), (0, u "java/lang/Object")] 2

/-- java/io/Serializable -/
def k4 : Class := { plain "java/io/Serializable" (some 0) with
  accessFlags := 1537
  interfaces := #[]
  cf := some (fileOf pool4 1 #[] #[] 1537 3 #[] #[])
  fields := #[]
  methods := #[]
  instanceTypes := #[]
  staticTypes := #[]
  resolved := Array.replicate 7 none
  statics := none }

def pool5 : Array CpInfo := pool [(2, .class_ 4), (1, u "java/lang/Object"), (0, u "<init>"), (0, u "()V"), (1, .class_ 10), (1, u "java/lang/Number"), (2, .class_ 14), (0, u "java/io/Serializable"), (0, u "serialVersionUID"), (0, u "J")] 20

def k5m0 : Method := { name := "<init>", desc := "()V", sig := { parameters := [], returnType := none }, accessFlags := 1, code := none }
/-- java/lang/Number -/
def k5 : Class := { plain "java/lang/Number" (some 0) with
  accessFlags := 1057
  interfaces := #[4]
  cf := some (fileOf pool5 8 #[] #[{ accessFlags := 1, nameIndex := 5, descriptorIndex := 6, attributes := #[] }] 1057 2 #[13] #[{ accessFlags := 26, nameIndex := 15, descriptorIndex := 16, attributes := #[] }])
  fields := #[{ name := "serialVersionUID", type := .long, accessFlags := 26, slot := 0, constantValue := 0 }]
  methods := #[k5m0]
  instanceTypes := #[]
  staticTypes := #[.long]
  resolved := Array.replicate 37 none
  statics := none }

def pool6 : Array CpInfo := pool [(1, .class_ 2), (0, u "java/lang/Comparable"), (0, .class_ 4), (0, u "java/lang/Object")] 7

/-- java/lang/Comparable -/
def k6 : Class := { plain "java/lang/Comparable" (some 0) with
  accessFlags := 1537
  interfaces := #[]
  cf := some (fileOf pool6 1 #[] #[] 1537 3 #[] #[])
  fields := #[]
  methods := #[]
  instanceTypes := #[]
  staticTypes := #[]
  resolved := Array.replicate 12 none
  statics := none }

def pool7 : Array CpInfo := pool [(1, .class_ 2), (0, u "java/lang/constant/Constable"), (0, .class_ 4), (0, u "java/lang/Object")] 6

/-- java/lang/constant/Constable -/
def k7 : Class := { plain "java/lang/constant/Constable" (some 0) with
  accessFlags := 1537
  interfaces := #[]
  cf := some (fileOf pool7 1 #[] #[] 1537 3 #[] #[])
  fields := #[]
  methods := #[]
  instanceTypes := #[]
  staticTypes := #[]
  resolved := Array.replicate 11 none
  statics := none }

def pool8 : Array CpInfo := pool [(1, .class_ 2), (0, u "java/lang/constant/ConstantDesc"), (0, .class_ 4), (0, u "java/lang/Object")] 32

/-- java/lang/constant/ConstantDesc -/
def k8 : Class := { plain "java/lang/constant/ConstantDesc" (some 0) with
  accessFlags := 1537
  interfaces := #[]
  cf := some (fileOf pool8 1 #[] #[] 1537 3 #[] #[])
  fields := #[]
  methods := #[]
  instanceTypes := #[]
  staticTypes := #[]
  resolved := Array.replicate 37 none
  statics := none }

def pool9 : Array CpInfo := pool [(1, .class_ 2), (0, u "java/lang/Long"), (15, .class_ 20), (1, u "java/lang/Integer"), (79, u "numberOfLeadingZeros"), (0, u "(J)I"), (133, .class_ 237), (1, u "java/lang/Long$LongCache"), (33, .class_ 272), (0, u "java/lang/Number"), (2, u "value"), (0, u "J"), (31, .methodref 18 309), (0, .nameAndType 100 310), (0, u "(I)I"), (50, u "TYPE"), (0, u "Ljava/lang/Class;"), (0, .class_ 364), (0, u "java/lang/Comparable"), (0, .class_ 366), (0, u "java/lang/constant/Constable"), (0, .class_ 368), (0, u "java/lang/constant/ConstantDesc"), (0, u "MIN_VALUE"), (1, u "MAX_VALUE"), (4, u "SIZE"), (0, u "I"), (1, u "BYTES"), (1, u "serialVersionUID")] 142

def k9c0 : Code := { maxStack := 3, maxLocals := 3, code := jdk_35_method_48_code, exceptionTable := #[], attributes := #[] }
def k9m0 : Method := { name := "numberOfLeadingZeros", desc := "(J)I", sig := { parameters := [.long], returnType := some .int }, accessFlags := 9, code := some k9c0 }
/-- java/lang/Long -/
def k9 : Class := { plain "java/lang/Long" (some 5) with
  accessFlags := 49
  interfaces := #[6, 7, 8]
  cf := some (fileOf pool9 1 #[.nestMembers #[235]] #[{ accessFlags := 9, nameIndex := 100, descriptorIndex := 101, attributes := #[] }] 49 271 #[363, 365, 367] #[{ accessFlags := 25, nameIndex := 369, descriptorIndex := 276, attributes := #[] }, { accessFlags := 25, nameIndex := 371, descriptorIndex := 276, attributes := #[] }, { accessFlags := 25, nameIndex := 361, descriptorIndex := 362, attributes := #[] }, { accessFlags := 18, nameIndex := 275, descriptorIndex := 276, attributes := #[] }, { accessFlags := 25, nameIndex := 376, descriptorIndex := 377, attributes := #[] }, { accessFlags := 25, nameIndex := 379, descriptorIndex := 377, attributes := #[] }, { accessFlags := 26, nameIndex := 381, descriptorIndex := 276, attributes := #[] }])
  fields := #[{ name := "MIN_VALUE", type := .long, accessFlags := 25, slot := 0, constantValue := 0 }, { name := "MAX_VALUE", type := .long, accessFlags := 25, slot := 1, constantValue := 0 }, { name := "TYPE", type := (.object "java/lang/Class"), accessFlags := 25, slot := 2, constantValue := 0 }, { name := "value", type := .long, accessFlags := 18, slot := 0, constantValue := 0 }, { name := "SIZE", type := .int, accessFlags := 25, slot := 3, constantValue := 0 }, { name := "BYTES", type := .int, accessFlags := 25, slot := 4, constantValue := 0 }, { name := "serialVersionUID", type := .long, accessFlags := 26, slot := 5, constantValue := 0 }]
  methods := #[k9m0]
  instanceTypes := #[.long]
  staticTypes := #[.long, .long, (.object "java/lang/Class"), .int, .int, .long]
  resolved := Array.replicate 524 none
  statics := none }

def pool10 : Array CpInfo := pool [(1, .class_ 2), (0, u "java/lang/Integer"), (16, u "digits"), (0, u "[C"), (32, u "numberOfLeadingZeros"), (0, u "(I)I"), (30, u "DigitOnes"), (0, u "[B"), (2, u "DigitTens"), (99, .class_ 190), (0, u "java/lang/Integer$IntegerCache"), (3, u "I"), (8, .class_ 204), (0, u "java/lang/Number"), (2, u "value"), (56, .integer 65536), (37, u "TYPE"), (0, u "Ljava/lang/Class;"), (0, .class_ 305), (0, u "java/lang/Comparable"), (0, .class_ 307), (0, u "java/lang/constant/Constable"), (0, .class_ 309), (0, u "java/lang/constant/ConstantDesc"), (0, u "MIN_VALUE"), (1, u "MAX_VALUE"), (3, u "SIZE"), (1, u "BYTES"), (1, u "serialVersionUID"), (0, u "J")] 131

def k10c0 : Code := { maxStack := 3, maxLocals := 2, code := jdk_33_method_47_code, exceptionTable := #[], attributes := #[] }
def k10m0 : Method := { name := "numberOfLeadingZeros", desc := "(I)I", sig := { parameters := [.int], returnType := some .int }, accessFlags := 9, code := some k10c0 }
/-- java/lang/Integer -/
def k10 : Class := { plain "java/lang/Integer" (some 5) with
  accessFlags := 49
  interfaces := #[6, 7, 8]
  cf := some (fileOf pool10 1 #[.nestMembers #[189]] #[{ accessFlags := 9, nameIndex := 53, descriptorIndex := 54, attributes := #[] }] 49 203 #[304, 306, 308] #[{ accessFlags := 25, nameIndex := 310, descriptorIndex := 194, attributes := #[] }, { accessFlags := 25, nameIndex := 312, descriptorIndex := 194, attributes := #[] }, { accessFlags := 25, nameIndex := 302, descriptorIndex := 303, attributes := #[] }, { accessFlags := 24, nameIndex := 19, descriptorIndex := 20, attributes := #[] }, { accessFlags := 24, nameIndex := 89, descriptorIndex := 86, attributes := #[] }, { accessFlags := 24, nameIndex := 85, descriptorIndex := 86, attributes := #[] }, { accessFlags := 18, nameIndex := 207, descriptorIndex := 194, attributes := #[] }, { accessFlags := 25, nameIndex := 316, descriptorIndex := 194, attributes := #[] }, { accessFlags := 25, nameIndex := 318, descriptorIndex := 194, attributes := #[] }, { accessFlags := 26, nameIndex := 320, descriptorIndex := 321, attributes := #[] }])
  fields := #[{ name := "MIN_VALUE", type := .int, accessFlags := 25, slot := 0, constantValue := 0 }, { name := "MAX_VALUE", type := .int, accessFlags := 25, slot := 1, constantValue := 0 }, { name := "TYPE", type := (.object "java/lang/Class"), accessFlags := 25, slot := 2, constantValue := 0 }, { name := "digits", type := (.array .char), accessFlags := 24, slot := 3, constantValue := 0 }, { name := "DigitTens", type := (.array .byte), accessFlags := 24, slot := 4, constantValue := 0 }, { name := "DigitOnes", type := (.array .byte), accessFlags := 24, slot := 5, constantValue := 0 }, { name := "value", type := .int, accessFlags := 18, slot := 0, constantValue := 0 }, { name := "SIZE", type := .int, accessFlags := 25, slot := 6, constantValue := 0 }, { name := "BYTES", type := .int, accessFlags := 25, slot := 7, constantValue := 0 }, { name := "serialVersionUID", type := .long, accessFlags := 26, slot := 8, constantValue := 0 }]
  methods := #[k10m0]
  instanceTypes := #[.int]
  staticTypes := #[.int, .int, (.object "java/lang/Class"), (.array .char), (.array .byte), (.array .byte), .int, .int, .long]
  resolved := Array.replicate 453 none
  statics := none }

def pool11 : Array CpInfo := pool [(1, u "java/lang/Cloneable"), (0, .class_ 1), (0, u "java/lang/Object"), (0, .class_ 3)] 3

/-- java/lang/Cloneable -/
def k11 : Class := { plain "java/lang/Cloneable" (some 0) with
  accessFlags := 1537
  interfaces := #[]
  cf := some (fileOf pool11 2 #[] #[] 1537 4 #[] #[])
  fields := #[]
  methods := #[]
  instanceTypes := #[]
  staticTypes := #[]
  resolved := Array.replicate 8 none
  statics := none }

/-- the primitive byte -/
def k12 : Class := { plain "byte" none with kind := .primitive 'B', accessFlags := 0x411 }
/-- [B -/
def k13 : Class := { plain "[B" (some 0) with kind := .array 12 .byte, interfaces := #[11, 4], accessFlags := 1041 }

/-- the primitive int -/
def k14 : Class := { plain "int" none with kind := .primitive 'I', accessFlags := 0x411 }
/-- [I -/
def k15 : Class := { plain "[I" (some 0) with kind := .array 14 .int, interfaces := #[11, 4], accessFlags := 1041 }

/-- the primitive long -/
def k16 : Class := { plain "long" none with kind := .primitive 'J', accessFlags := 0x411 }
/-- [J -/
def k17 : Class := { plain "[J" (some 0) with kind := .array 16 .long, interfaces := #[11, 4], accessFlags := 1041 }

def heap : Heap := #[]
def classes : Array Class := #[k0, k1, k2, k3, k4, k5, k6, k7, k8, k9, k10, k11, k12, k13, k14, k15, k16, k17]
def interned : List (Array UInt16 × Addr) := []
def slotsUsed : Nat := 0
def theMethod : MethodId := ⟨1, 2⟩
def args0 : Array Value := #[.long 3, .long 3, .long 7, .long 2, .int 2, .int 7]
def aboutOver (below : List Frame) : State where
  vm := { classes := classes, interned := interned.toArray }
  heap := heap
  slotsUsed := slotsUsed
  threads := #[{ frames := .invoking theMethod args0 :: below }]
def below0 : List Frame := [.native { method := ⟨0, 0⟩, args := #[] }]
def about1 : State := aboutOver below0
def p0 : Program := .bare "" "" ""
def e0 : Env := launch0.env 0 0 0
theorem w_frames : about1.frames = Frame.invoking theMethod args0 :: below0 := rfl
set_option maxRecDepth 65536 in
theorem w_args : argsFit about1.vm theMethod args0 = true := by decide +kernel
set_option maxRecDepth 65536 in
theorem w_heap : heapFits about1 = true := by decide +kernel
set_option maxRecDepth 65536 in
theorem w_runnable : about1.curStatus? = some .runnable := by decide +kernel
set_option maxRecDepth 65536 in
theorem w_alone : about1.alone = true := by decide +kernel
set_option maxRecDepth 65536 in
theorem w_named : about1.methodNamed? x = some theMethod := by decide +kernel
set_option maxRecDepth 65536 in
theorem w_hears : about1.hears theMethod below0 = true := by decide +kernel
set_option maxRecDepth 65536 in
theorem w_ripe : about1.ripe theMethod args0 below0 = true := by decide +kernel
theorem w_running : about1.status = .running := rfl
set_option maxRecDepth 65536 in
theorem w_room : about1.hasRoom e0.platform room_1 = true :=
  launch0.hasRoom_least _ room_1 (by decide +kernel) (by decide +kernel) (by decide +kernel) (by decide +kernel) (by decide +kernel) (by decide +kernel)
theorem allAtoms_all (ts : List Jvm.Cond) (a : Array Jvm.Value) (st : Jvm.State) : (allAtoms ts).before a st = ts.all (fun c => c.before a st) := by
  induction ts with
  | nil => rfl
  | cons c t ih =>
    show (Jvm.Cond.and c (allAtoms t)).before a st = _
    rw [Jvm.Cond.before_and, ih, List.all_cons]
def words1 : List Jvm.Cond := Jvm.Cond.code x code maxLocals ret :: tables_1
/-- a 'code' word, met by the world's own term for the bytes: nothing is compared byte by byte -/
theorem code_word {y : MethodName} {bytes : ByteArray} {mx : Nat} {rt : Option FieldType} {a : Array Value} {s : State} {m : MethodId} {meth : Method} {c : Code} (h1 : s.methodNamed? y = some m) (h2 : s.vm.method? m = some meth) (h3 : meth.code = some c) (h4 : c.code = bytes)
    (h5 : (c.maxLocals == mx && c.exceptionTable.isEmpty && decide (c.maxStack ≤ mostOperands) && decide (meth.sig.returnType = rt) && !meth.locks && decide (parseMethodDescriptor y.desc = some meth.sig)) = true) : (Jvm.Cond.code y bytes mx rt).before a s = true := by
  simp only [Bool.and_eq_true, beq_iff_eq, Bool.not_eq_true', decide_eq_true_eq] at h5
  obtain ⟨⟨⟨⟨⟨g1, g2⟩, g3⟩, g4⟩, g5⟩, g6⟩ := h5
  simp [Cond.before, Cond.holds, Cond.value, h1, h2, h3, h4, g1, g2, g3, g4, g5, g6]
def isCode : Jvm.Cond → Bool
  | .code _ _ _ _ => true
  | _ => false
theorem all_split {L : List Jvm.Cond} {P : Jvm.Cond → Bool} (h1 : L.all (fun c => isCode c || P c) = true) (h2 : ∀ c ∈ L.filter isCode, P c = true) : L.all P = true := by
  refine List.all_eq_true.mpr fun c hc => ?_
  have h := List.all_eq_true.mp h1 c hc
  rcases Bool.eq_false_or_eq_true (isCode c) with hi | hi
  · exact h2 c (List.mem_filter.mpr ⟨hc, hi⟩)
  · simpa [hi] using h
set_option maxRecDepth 65536 in
theorem w_c0 : (Jvm.Cond.code x code maxLocals ret).before args0 about1 = true := code_word (m := ⟨1, 2⟩) (meth := k1m2) (c := k1c2) (by decide +kernel) rfl rfl rfl (by decide +kernel)
set_option maxRecDepth 65536 in
theorem w_c1 : (Jvm.Cond.code ({ cls := "com/example/signalbox/signalbox/history/LongIntMap", name := "<init>", desc := "()V" } : Jvm.MethodName) prog_69_method_1_code (1 : Nat) (Option.none : Option Jvm.ClassFile.FieldType)).before args0 about1 = true := code_word (m := ⟨2, 0⟩) (meth := k2m0) (c := k2c0) (by decide +kernel) rfl rfl rfl (by decide +kernel)
set_option maxRecDepth 65536 in
theorem w_c2 : (Jvm.Cond.code ({ cls := "java/lang/Object", name := "<init>", desc := "()V" } : Jvm.MethodName) object_method_1_code (1 : Nat) (Option.none : Option Jvm.ClassFile.FieldType)).before args0 about1 = true := code_word (m := ⟨0, 0⟩) (meth := k0m0) (c := k0c0) (by decide +kernel) rfl rfl rfl (by decide +kernel)
set_option maxRecDepth 65536 in
theorem w_c3 : (Jvm.Cond.code ({ cls := "com/example/signalbox/signalbox/history/LongIntMap", name := "allocate", desc := "(I)V" } : Jvm.MethodName) prog_69_method_6_code (2 : Nat) (Option.none : Option Jvm.ClassFile.FieldType)).before args0 about1 = true := code_word (m := ⟨2, 4⟩) (meth := k2m4) (c := k2c4) (by decide +kernel) rfl rfl rfl (by decide +kernel)
set_option maxRecDepth 65536 in
theorem w_c4 : (Jvm.Cond.code ({ cls := "java/util/Arrays", name := "fill", desc := "([JJ)V" } : Jvm.MethodName) jdk_65_method_101_code (5 : Nat) (Option.none : Option Jvm.ClassFile.FieldType)).before args0 about1 = true := code_word (m := ⟨3, 1⟩) (meth := k3m1) (c := k3c1) (by decide +kernel) rfl rfl rfl (by decide +kernel)
set_option maxRecDepth 65536 in
theorem w_c5 : (Jvm.Cond.code ({ cls := "java/lang/Long", name := "numberOfLeadingZeros", desc := "(J)I" } : Jvm.MethodName) jdk_35_method_48_code (3 : Nat) (Option.some Jvm.ClassFile.FieldType.int)).before args0 about1 = true := code_word (m := ⟨9, 0⟩) (meth := k9m0) (c := k9c0) (by decide +kernel) rfl rfl rfl (by decide +kernel)
set_option maxRecDepth 65536 in
theorem w_c6 : (Jvm.Cond.code ({ cls := "java/lang/Integer", name := "numberOfLeadingZeros", desc := "(I)I" } : Jvm.MethodName) jdk_33_method_47_code (2 : Nat) (Option.some Jvm.ClassFile.FieldType.int)).before args0 about1 = true := code_word (m := ⟨10, 0⟩) (meth := k10m0) (c := k10c0) (by decide +kernel) rfl rfl rfl (by decide +kernel)
set_option maxRecDepth 65536 in
theorem w_c7 : (Jvm.Cond.code ({ cls := "com/example/signalbox/signalbox/history/LongIntMap", name := "put", desc := "(JI)V" } : Jvm.MethodName) prog_69_method_3_code (6 : Nat) (Option.none : Option Jvm.ClassFile.FieldType)).before args0 about1 = true := code_word (m := ⟨2, 2⟩) (meth := k2m2) (c := k2c2) (by decide +kernel) rfl rfl rfl (by decide +kernel)
set_option maxRecDepth 65536 in
theorem w_c8 : (Jvm.Cond.code ({ cls := "com/example/signalbox/signalbox/history/LongIntMap", name := "slot", desc := "(J)I" } : Jvm.MethodName) prog_69_method_5_code (3 : Nat) (Option.some Jvm.ClassFile.FieldType.int)).before args0 about1 = true := code_word (m := ⟨2, 3⟩) (meth := k2m3) (c := k2c3) (by decide +kernel) rfl rfl rfl (by decide +kernel)
set_option maxRecDepth 65536 in
theorem w_c9 : (Jvm.Cond.code ({ cls := "com/example/signalbox/signalbox/history/LongIntMap", name := "get", desc := "(JI)I" } : Jvm.MethodName) prog_69_method_2_code (6 : Nat) (Option.some Jvm.ClassFile.FieldType.int)).before args0 about1 = true := code_word (m := ⟨2, 1⟩) (meth := k2m1) (c := k2c1) (by decide +kernel) rfl rfl rfl (by decide +kernel)
set_option maxRecDepth 65536 in
theorem w_c10 : (Jvm.Cond.code ({ cls := "com/example/signalbox/signalbox/history/LongIntMapGetPinLaw", name := "expect", desc := "(JJJJIII)I" } : Jvm.MethodName) method_2_code (11 : Nat) (Option.some Jvm.ClassFile.FieldType.int)).before args0 about1 = true := code_word (m := ⟨1, 1⟩) (meth := k1m1) (c := k1c1) (by decide +kernel) rfl rfl rfl (by decide +kernel)
def codes1 : List Jvm.Cond := [Jvm.Cond.code x code maxLocals ret, Jvm.Cond.code ({ cls := "com/example/signalbox/signalbox/history/LongIntMap", name := "<init>", desc := "()V" } : Jvm.MethodName) prog_69_method_1_code (1 : Nat) (Option.none : Option Jvm.ClassFile.FieldType), Jvm.Cond.code ({ cls := "java/lang/Object", name := "<init>", desc := "()V" } : Jvm.MethodName) object_method_1_code (1 : Nat) (Option.none : Option Jvm.ClassFile.FieldType), Jvm.Cond.code ({ cls := "com/example/signalbox/signalbox/history/LongIntMap", name := "allocate", desc := "(I)V" } : Jvm.MethodName) prog_69_method_6_code (2 : Nat) (Option.none : Option Jvm.ClassFile.FieldType), Jvm.Cond.code ({ cls := "java/util/Arrays", name := "fill", desc := "([JJ)V" } : Jvm.MethodName) jdk_65_method_101_code (5 : Nat) (Option.none : Option Jvm.ClassFile.FieldType), Jvm.Cond.code ({ cls := "java/lang/Long", name := "numberOfLeadingZeros", desc := "(J)I" } : Jvm.MethodName) jdk_35_method_48_code (3 : Nat) (Option.some Jvm.ClassFile.FieldType.int), Jvm.Cond.code ({ cls := "java/lang/Integer", name := "numberOfLeadingZeros", desc := "(I)I" } : Jvm.MethodName) jdk_33_method_47_code (2 : Nat) (Option.some Jvm.ClassFile.FieldType.int), Jvm.Cond.code ({ cls := "com/example/signalbox/signalbox/history/LongIntMap", name := "put", desc := "(JI)V" } : Jvm.MethodName) prog_69_method_3_code (6 : Nat) (Option.none : Option Jvm.ClassFile.FieldType), Jvm.Cond.code ({ cls := "com/example/signalbox/signalbox/history/LongIntMap", name := "slot", desc := "(J)I" } : Jvm.MethodName) prog_69_method_5_code (3 : Nat) (Option.some Jvm.ClassFile.FieldType.int), Jvm.Cond.code ({ cls := "com/example/signalbox/signalbox/history/LongIntMap", name := "get", desc := "(JI)I" } : Jvm.MethodName) prog_69_method_2_code (6 : Nat) (Option.some Jvm.ClassFile.FieldType.int), Jvm.Cond.code ({ cls := "com/example/signalbox/signalbox/history/LongIntMapGetPinLaw", name := "expect", desc := "(JJJJIII)I" } : Jvm.MethodName) method_2_code (11 : Nat) (Option.some Jvm.ClassFile.FieldType.int)]
set_option maxRecDepth 65536 in
theorem codes_eq : words1.filter isCode = codes1 := rfl
theorem w_codes : ∀ c ∈ words1.filter isCode, c.before args0 about1 = true := by
  rw [codes_eq]
  intro c hc
  simp only [codes1, List.mem_cons, List.not_mem_nil, or_false] at hc
  rcases hc with rfl | rfl | rfl | rfl | rfl | rfl | rfl | rfl | rfl | rfl | rfl
  · exact w_c0
  · exact w_c1
  · exact w_c2
  · exact w_c3
  · exact w_c4
  · exact w_c5
  · exact w_c6
  · exact w_c7
  · exact w_c8
  · exact w_c9
  · exact w_c10
set_option maxRecDepth 65536 in
theorem w_t1 : (words1.take 24).all (fun c => isCode c || c.before args0 about1) = true := by decide +kernel
set_option maxRecDepth 65536 in
theorem w_t2 : ((words1.drop 24).take 24).all (fun c => isCode c || c.before args0 about1) = true := by decide +kernel
set_option maxRecDepth 65536 in
theorem w_t3 : ((words1.drop 24).drop 24).all (fun c => isCode c || c.before args0 about1) = true := by decide +kernel
theorem w_tables : (allAtoms (Jvm.Cond.code x code maxLocals ret :: tables_1)).before args0 about1 = true := by
  rw [allAtoms_all]
  show words1.all (fun c => c.before args0 about1) = true
  refine all_split ?_ w_codes
  rw [← List.take_append_drop 24 words1, List.all_append, w_t1, ← List.take_append_drop 24 (words1.drop 24), List.all_append, w_t2, w_t3]
  rfl
set_option maxRecDepth 65536 in
theorem w_case : (Jvm.Cond.and given_1 narrow_1).before args0 about1 = true := by decide +kernel
theorem w_applies : (headSpec (Jvm.Cond.code x code maxLocals ret :: tables_1) room_1).applies x e0.platform about1 = true :=
  (Spec.applies_iff w_frames).mpr ⟨w_running, w_runnable, w_alone, w_named, w_hears, w_ripe, w_room, w_tables⟩
theorem atStart : AtStart classFile x code maxLocals ret World_1 tables_1 room_1 Calls_1 rest_1 Pre_1 launch0 p0 e0 about1 theMethod args0 below0 :=
  ⟨lists_1, trivial, launch0.admits_env _ _ _, launch0.least_env, fairChoices_fair.cas, fairChoices_fair.clock, w_frames, w_args, w_heap, w_applies, trivial, trivial, w_case⟩
end start1
theorem witness_1 : WitnessClaimed_1 := ⟨start1.p0, start1.e0, start1.about1, start1.theMethod, start1.args0, start1.below0, start1.atStart⟩
end Jvm.Pilot.@@N@@
