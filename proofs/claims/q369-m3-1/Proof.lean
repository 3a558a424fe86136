import JvmDerived
import JvmDerived.Pilot.@@N@@Statement
import JvmDerived.Pilot.@@N@@Code
set_option linter.unusedVariables false
set_option linter.unusedSimpArgs false
@@BLOCK:NumsL.lean.txt@@
@@BLOCK:Masks.lean.txt@@
namespace Jvm.RoadKit
open Sem ClassFile Op Lib Jvm.Stand Jvm.Free Jvm.LawKit
section New
variable {p : Program} {l : Launch} {e : Env} {R : Room} {s : State} {m : MethodId} {args : Array Value} {below : List Frame} {meth : Method} {c : Code} {T : State} {locs : List Loc} {cells slots : Nat}
theorem retI (X : Stand p l e R s m args below meth c T locs cells slots) (hx : p.tables.exec = Jvm.exec) {pc : Nat} {Ls : Array Slot} {z : Int32} {rest : List Value} (hret : meth.sig.returnType = some .int) (hd : decode c.code pc = .ok (.ireturn, 1)) {fs : List Frame}
    (hl : ∀ (f : JFrame) (acts : List Action), f.method = m → f.locked = none → f.entered = [] → (doReturn e (T.setTop f) acts (some (.int z))).1 = T.setFrames fs) : Steps p.tables e below (T.setTop (mkF m pc Ls (.int z :: rest))) (T.setFrames fs) := by
  have hm' : T.vm.method? m = some meth := X.method'
  have hn : narrow .int (.int z) = .int z := rfl
  show Steps p.tables e below (T.setTop { method := m, pc := pc, locals := Ls, stack := _ :: rest, locked := none }) _
  jvm_step X.here [X.here.top, hx, hd, hm', hret, hn]
  first | (intro acts; rw [hl _ acts rfl rfl rfl]) | rw [hl _ _ rfl rfl rfl]
  exact Steps.refl _
end New
end Jvm.RoadKit
namespace Jvm.Pilot.@@N@@
open Jvm Jvm.ClassFile Sem Op Lib Jvm.Free Jvm.Stand Jvm.LawKit Jvm.RoadKit Bundle Jvm.Pilot.@@N@@.Jvm.D
/-- from S0 the run comes to T with the frame g on top -/
abbrev Pth (p : Program) (e : Env) (below : List Frame) (S0 T : State) (g : JFrame) : Prop := ∀ t, Steps p.tables e below (T.setTop g) t → Steps p.tables e below S0 t
theorem ef_nlz (m : MethodId) (x0 : Int32)  : entryFrame m #[(.int x0)] 2 = mkF m 0 #[.val (.int x0), .unset] [] := by first | (simp [entryFrame, mkF, argsToLocals, Value.category]; done) | rfl
theorem pn_java_lang_Integer : plainName "java/lang/Integer" = true := by first | (simp [plainName, overriddenIn]; done) | decide +kernel
theorem d_nlz_0 : decode jdk_33_method_47_code 0 = .ok (.iload_n 0, 1) := by decide +kernel
theorem d_nlz_1 : decode jdk_33_method_47_code 1 = .ok (.ifCond .gt 14, 3) := by decide +kernel
theorem d_nlz_15 : decode jdk_33_method_47_code 15 = .ok (.bipush 31, 2) := by decide +kernel
theorem d_nlz_17 : decode jdk_33_method_47_code 17 = .ok (.istore_n 1, 1) := by decide +kernel
theorem d_nlz_18 : decode jdk_33_method_47_code 18 = .ok (.iload_n 0, 1) := by decide +kernel
theorem d_nlz_19 : decode jdk_33_method_47_code 19 = .ok (.ldc_w 264, 3) := by decide +kernel
theorem d_nlz_22 : decode jdk_33_method_47_code 22 = .ok (.if_icmp .lt 11, 3) := by decide +kernel
theorem d_nlz_25 : decode jdk_33_method_47_code 25 = .ok (.iinc 1 (-16), 3) := by decide +kernel
theorem d_nlz_28 : decode jdk_33_method_47_code 28 = .ok (.iload_n 0, 1) := by decide +kernel
theorem d_nlz_29 : decode jdk_33_method_47_code 29 = .ok (.bipush 16, 2) := by decide +kernel
theorem d_nlz_31 : decode jdk_33_method_47_code 31 = .ok (.iushr, 1) := by decide +kernel
theorem d_nlz_32 : decode jdk_33_method_47_code 32 = .ok (.istore_n 0, 1) := by decide +kernel
theorem d_nlz_33 : decode jdk_33_method_47_code 33 = .ok (.iload_n 0, 1) := by decide +kernel
theorem d_nlz_34 : decode jdk_33_method_47_code 34 = .ok (.sipush 256, 3) := by decide +kernel
theorem d_nlz_37 : decode jdk_33_method_47_code 37 = .ok (.if_icmp .lt 11, 3) := by decide +kernel
theorem d_nlz_40 : decode jdk_33_method_47_code 40 = .ok (.iinc 1 (-8), 3) := by decide +kernel
theorem d_nlz_43 : decode jdk_33_method_47_code 43 = .ok (.iload_n 0, 1) := by decide +kernel
theorem d_nlz_44 : decode jdk_33_method_47_code 44 = .ok (.bipush 8, 2) := by decide +kernel
theorem d_nlz_46 : decode jdk_33_method_47_code 46 = .ok (.iushr, 1) := by decide +kernel
theorem d_nlz_47 : decode jdk_33_method_47_code 47 = .ok (.istore_n 0, 1) := by decide +kernel
theorem d_nlz_48 : decode jdk_33_method_47_code 48 = .ok (.iload_n 0, 1) := by decide +kernel
theorem d_nlz_49 : decode jdk_33_method_47_code 49 = .ok (.bipush 16, 2) := by decide +kernel
theorem d_nlz_51 : decode jdk_33_method_47_code 51 = .ok (.if_icmp .lt 10, 3) := by decide +kernel
theorem d_nlz_54 : decode jdk_33_method_47_code 54 = .ok (.iinc 1 (-4), 3) := by decide +kernel
theorem d_nlz_57 : decode jdk_33_method_47_code 57 = .ok (.iload_n 0, 1) := by decide +kernel
theorem d_nlz_58 : decode jdk_33_method_47_code 58 = .ok (.iconst 4, 1) := by decide +kernel
theorem d_nlz_59 : decode jdk_33_method_47_code 59 = .ok (.iushr, 1) := by decide +kernel
theorem d_nlz_60 : decode jdk_33_method_47_code 60 = .ok (.istore_n 0, 1) := by decide +kernel
theorem d_nlz_61 : decode jdk_33_method_47_code 61 = .ok (.iload_n 0, 1) := by decide +kernel
theorem d_nlz_62 : decode jdk_33_method_47_code 62 = .ok (.iconst 4, 1) := by decide +kernel
theorem d_nlz_63 : decode jdk_33_method_47_code 63 = .ok (.if_icmp .lt 10, 3) := by decide +kernel
theorem d_nlz_66 : decode jdk_33_method_47_code 66 = .ok (.iinc 1 (-2), 3) := by decide +kernel
theorem d_nlz_69 : decode jdk_33_method_47_code 69 = .ok (.iload_n 0, 1) := by decide +kernel
theorem d_nlz_70 : decode jdk_33_method_47_code 70 = .ok (.iconst 2, 1) := by decide +kernel
theorem d_nlz_71 : decode jdk_33_method_47_code 71 = .ok (.iushr, 1) := by decide +kernel
theorem d_nlz_72 : decode jdk_33_method_47_code 72 = .ok (.istore_n 0, 1) := by decide +kernel
theorem d_nlz_73 : decode jdk_33_method_47_code 73 = .ok (.iload_n 1, 1) := by decide +kernel
theorem d_nlz_74 : decode jdk_33_method_47_code 74 = .ok (.iload_n 0, 1) := by decide +kernel
theorem d_nlz_75 : decode jdk_33_method_47_code 75 = .ok (.iconst 1, 1) := by decide +kernel
theorem d_nlz_76 : decode jdk_33_method_47_code 76 = .ok (.iushr, 1) := by decide +kernel
theorem d_nlz_77 : decode jdk_33_method_47_code 77 = .ok (.isub, 1) := by decide +kernel
theorem d_nlz_78 : decode jdk_33_method_47_code 78 = .ok (.ireturn, 1) := by decide +kernel
theorem d_nlz_4 : decode jdk_33_method_47_code 4 = .ok (.iload_n 0, 1) := by decide +kernel
theorem d_nlz_5 : decode jdk_33_method_47_code 5 = .ok (.ifCond .ne 8, 3) := by decide +kernel
theorem d_nlz_8 : decode jdk_33_method_47_code 8 = .ok (.bipush 32, 2) := by decide +kernel
theorem d_nlz_10 : decode jdk_33_method_47_code 10 = .ok (.goto 4, 3) := by decide +kernel
theorem d_nlz_14 : decode jdk_33_method_47_code 14 = .ok (.ireturn, 1) := by decide +kernel
theorem d_nlz_13 : decode jdk_33_method_47_code 13 = .ok (.iconst 0, 1) := by decide +kernel
theorem ef_hob (m : MethodId) (x0 : Int32)  : entryFrame m #[(.int x0)] 1 = mkF m 0 #[.val (.int x0)] [] := by first | (simp [entryFrame, mkF, argsToLocals, Value.category]; done) | rfl
theorem d_hob_0 : decode jdk_33_method_45_code 0 = .ok (.iload_n 0, 1) := by decide +kernel
theorem d_hob_1 : decode jdk_33_method_45_code 1 = .ok (.ldc 127, 2) := by decide +kernel
theorem d_hob_3 : decode jdk_33_method_45_code 3 = .ok (.iload_n 0, 1) := by decide +kernel
theorem d_hob_4 : decode jdk_33_method_45_code 4 = .ok (.invokestatic 51, 3) := by decide +kernel
theorem pd__I_I : parseMethodDescriptor "(I)I" = some ⟨[.int], some .int⟩ := by decide +kernel
theorem d_hob_7 : decode jdk_33_method_45_code 7 = .ok (.iushr, 1) := by decide +kernel
theorem d_hob_8 : decode jdk_33_method_45_code 8 = .ok (.iand, 1) := by decide +kernel
theorem d_hob_9 : decode jdk_33_method_45_code 9 = .ok (.ireturn, 1) := by decide +kernel
theorem ef_max (m : MethodId) (x0 : Int32) (x1 : Int32)  : entryFrame m #[(.int x0), (.int x1)] 2 = mkF m 0 #[.val (.int x0), .val (.int x1)] [] := by first | (simp [entryFrame, mkF, argsToLocals, Value.category]; done) | rfl
theorem d_max_0 : decode jdk_29_method_65_code 0 = .ok (.iload_n 0, 1) := by decide +kernel
theorem d_max_1 : decode jdk_29_method_65_code 1 = .ok (.iload_n 1, 1) := by decide +kernel
theorem d_max_2 : decode jdk_29_method_65_code 2 = .ok (.if_icmp .lt 7, 3) := by decide +kernel
theorem d_max_9 : decode jdk_29_method_65_code 9 = .ok (.iload_n 1, 1) := by decide +kernel
theorem d_max_10 : decode jdk_29_method_65_code 10 = .ok (.ireturn, 1) := by decide +kernel
theorem d_max_5 : decode jdk_29_method_65_code 5 = .ok (.iload_n 0, 1) := by decide +kernel
theorem d_max_6 : decode jdk_29_method_65_code 6 = .ok (.goto 4, 3) := by decide +kernel
theorem ef_ini (m : MethodId) (x0 : Addr) (x1 : Int32)  : entryFrame m #[(.ref x0), (.int x1)] 2 = mkF m 0 #[.val (.ref x0), .val (.int x1)] [] := by first | (simp [entryFrame, mkF, argsToLocals, Value.category]; done) | rfl
theorem pn_com_example_tagwire_tagwire_dictionary_TagTable : plainName "com/example/tagwire/tagwire/dictionary/TagTable" = true := by first | (simp [plainName, overriddenIn]; done) | decide +kernel
theorem d_ini_0 : decode prog_48_method_1_code 0 = .ok (.aload_n 0, 1) := by decide +kernel
theorem d_ini_1 : decode prog_48_method_1_code 1 = .ok (.invokespecial 1, 3) := by decide +kernel
theorem d_ini_4 : decode prog_48_method_1_code 4 = .ok (.aload_n 0, 1) := by decide +kernel
theorem d_ini_5 : decode prog_48_method_1_code 5 = .ok (.iconst 2, 1) := by decide +kernel
theorem d_ini_6 : decode prog_48_method_1_code 6 = .ok (.iconst 2, 1) := by decide +kernel
theorem d_ini_7 : decode prog_48_method_1_code 7 = .ok (.iconst 2, 1) := by decide +kernel
theorem d_ini_8 : decode prog_48_method_1_code 8 = .ok (.iload_n 1, 1) := by decide +kernel
theorem d_ini_9 : decode prog_48_method_1_code 9 = .ok (.imul, 1) := by decide +kernel
theorem d_ini_10 : decode prog_48_method_1_code 10 = .ok (.invokestatic 7, 3) := by decide +kernel
theorem pd__II_I : parseMethodDescriptor "(II)I" = some ⟨[.int, .int], some .int⟩ := by decide +kernel
theorem d_ini_13 : decode prog_48_method_1_code 13 = .ok (.iconst 1, 1) := by decide +kernel
theorem d_ini_14 : decode prog_48_method_1_code 14 = .ok (.isub, 1) := by decide +kernel
theorem d_ini_15 : decode prog_48_method_1_code 15 = .ok (.invokestatic 13, 3) := by decide +kernel
theorem d_ini_18 : decode prog_48_method_1_code 18 = .ok (.iconst 1, 1) := by decide +kernel
theorem d_ini_19 : decode prog_48_method_1_code 19 = .ok (.ishl, 1) := by decide +kernel
theorem d_ini_20 : decode prog_48_method_1_code 20 = .ok (.imul, 1) := by decide +kernel
theorem d_ini_21 : decode prog_48_method_1_code 21 = .ok (.newarray .int, 2) := by decide +kernel
theorem d_ini_23 : decode prog_48_method_1_code 23 = .ok (.putfield 19, 3) := by decide +kernel
theorem d_ini_26 : decode prog_48_method_1_code 26 = .ok (.aload_n 0, 1) := by decide +kernel
theorem d_ini_27 : decode prog_48_method_1_code 27 = .ok (.iload_n 1, 1) := by decide +kernel
theorem d_ini_28 : decode prog_48_method_1_code 28 = .ok (.putfield 25, 3) := by decide +kernel
theorem d_ini_31 : decode prog_48_method_1_code 31 = .ok (.return_, 1) := by decide +kernel
theorem ef_slot (m : MethodId) (x0 : Addr) (x1 : Int32)  : entryFrame m #[(.ref x0), (.int x1)] 5 = mkF m 0 #[.val (.ref x0), .val (.int x1), .unset, .unset, .unset] [] := by first | (simp [entryFrame, mkF, argsToLocals, Value.category]; done) | rfl
theorem d_slot_0 : decode prog_48_method_4_code 0 = .ok (.aload_n 0, 1) := by decide +kernel
theorem d_slot_1 : decode prog_48_method_4_code 1 = .ok (.getfield 19, 3) := by decide +kernel
theorem d_slot_4 : decode prog_48_method_4_code 4 = .ok (.arraylength, 1) := by decide +kernel
theorem d_slot_5 : decode prog_48_method_4_code 5 = .ok (.iconst 2, 1) := by decide +kernel
theorem d_slot_6 : decode prog_48_method_4_code 6 = .ok (.idiv, 1) := by decide +kernel
theorem d_slot_7 : decode prog_48_method_4_code 7 = .ok (.iconst 1, 1) := by decide +kernel
theorem d_slot_8 : decode prog_48_method_4_code 8 = .ok (.isub, 1) := by decide +kernel
theorem d_slot_9 : decode prog_48_method_4_code 9 = .ok (.istore_n 2, 1) := by decide +kernel
theorem d_slot_10 : decode prog_48_method_4_code 10 = .ok (.iload_n 1, 1) := by decide +kernel
theorem d_slot_11 : decode prog_48_method_4_code 11 = .ok (.ldc 44, 2) := by decide +kernel
theorem d_slot_13 : decode prog_48_method_4_code 13 = .ok (.imul, 1) := by decide +kernel
theorem d_slot_14 : decode prog_48_method_4_code 14 = .ok (.istore_n 3, 1) := by decide +kernel
theorem d_slot_15 : decode prog_48_method_4_code 15 = .ok (.iload_n 3, 1) := by decide +kernel
theorem d_slot_16 : decode prog_48_method_4_code 16 = .ok (.iload_n 3, 1) := by decide +kernel
theorem d_slot_17 : decode prog_48_method_4_code 17 = .ok (.bipush 16, 2) := by decide +kernel
theorem d_slot_19 : decode prog_48_method_4_code 19 = .ok (.iushr, 1) := by decide +kernel
theorem d_slot_20 : decode prog_48_method_4_code 20 = .ok (.ixor, 1) := by decide +kernel
theorem d_slot_21 : decode prog_48_method_4_code 21 = .ok (.iload_n 2, 1) := by decide +kernel
theorem d_slot_22 : decode prog_48_method_4_code 22 = .ok (.iand, 1) := by decide +kernel
theorem d_slot_23 : decode prog_48_method_4_code 23 = .ok (.istore 4, 2) := by decide +kernel
theorem d_slot_25 : decode prog_48_method_4_code 25 = .ok (.aload_n 0, 1) := by decide +kernel
theorem d_slot_26 : decode prog_48_method_4_code 26 = .ok (.getfield 19, 3) := by decide +kernel
theorem d_slot_29 : decode prog_48_method_4_code 29 = .ok (.iconst 2, 1) := by decide +kernel
theorem d_slot_30 : decode prog_48_method_4_code 30 = .ok (.iload 4, 2) := by decide +kernel
theorem d_slot_32 : decode prog_48_method_4_code 32 = .ok (.imul, 1) := by decide +kernel
theorem d_slot_33 : decode prog_48_method_4_code 33 = .ok (.iconst 1, 1) := by decide +kernel
theorem d_slot_34 : decode prog_48_method_4_code 34 = .ok (.iadd, 1) := by decide +kernel
theorem d_slot_35 : decode prog_48_method_4_code 35 = .ok (.iaload, 1) := by decide +kernel
theorem d_slot_36 : decode prog_48_method_4_code 36 = .ok (.ifCond .eq 27, 3) := by decide +kernel
theorem d_slot_39 : decode prog_48_method_4_code 39 = .ok (.aload_n 0, 1) := by decide +kernel
theorem d_slot_40 : decode prog_48_method_4_code 40 = .ok (.getfield 19, 3) := by decide +kernel
theorem d_slot_43 : decode prog_48_method_4_code 43 = .ok (.iconst 2, 1) := by decide +kernel
theorem d_slot_44 : decode prog_48_method_4_code 44 = .ok (.iload 4, 2) := by decide +kernel
theorem d_slot_46 : decode prog_48_method_4_code 46 = .ok (.imul, 1) := by decide +kernel
theorem d_slot_47 : decode prog_48_method_4_code 47 = .ok (.iaload, 1) := by decide +kernel
theorem d_slot_48 : decode prog_48_method_4_code 48 = .ok (.iload_n 1, 1) := by decide +kernel
theorem d_slot_49 : decode prog_48_method_4_code 49 = .ok (.if_icmp .eq 14, 3) := by decide +kernel
theorem d_slot_52 : decode prog_48_method_4_code 52 = .ok (.iload 4, 2) := by decide +kernel
theorem d_slot_54 : decode prog_48_method_4_code 54 = .ok (.iconst 1, 1) := by decide +kernel
theorem d_slot_55 : decode prog_48_method_4_code 55 = .ok (.iadd, 1) := by decide +kernel
theorem d_slot_56 : decode prog_48_method_4_code 56 = .ok (.iload_n 2, 1) := by decide +kernel
theorem d_slot_57 : decode prog_48_method_4_code 57 = .ok (.iand, 1) := by decide +kernel
theorem d_slot_58 : decode prog_48_method_4_code 58 = .ok (.istore 4, 2) := by decide +kernel
theorem d_slot_60 : decode prog_48_method_4_code 60 = .ok (.goto (-35), 3) := by decide +kernel
theorem d_slot_63 : decode prog_48_method_4_code 63 = .ok (.iconst 2, 1) := by decide +kernel
theorem d_slot_64 : decode prog_48_method_4_code 64 = .ok (.iload 4, 2) := by decide +kernel
theorem d_slot_66 : decode prog_48_method_4_code 66 = .ok (.imul, 1) := by decide +kernel
theorem d_slot_67 : decode prog_48_method_4_code 67 = .ok (.ireturn, 1) := by decide +kernel
theorem ef_get (m : MethodId) (x0 : Addr) (x1 : Int32)  : entryFrame m #[(.ref x0), (.int x1)] 2 = mkF m 0 #[.val (.ref x0), .val (.int x1)] [] := by first | (simp [entryFrame, mkF, argsToLocals, Value.category]; done) | rfl
theorem d_get_0 : decode prog_48_method_3_code 0 = .ok (.aload_n 0, 1) := by decide +kernel
theorem d_get_1 : decode prog_48_method_3_code 1 = .ok (.getfield 19, 3) := by decide +kernel
theorem d_get_4 : decode prog_48_method_3_code 4 = .ok (.aload_n 0, 1) := by decide +kernel
theorem d_get_5 : decode prog_48_method_3_code 5 = .ok (.iload_n 1, 1) := by decide +kernel
theorem d_get_6 : decode prog_48_method_3_code 6 = .ok (.invokevirtual 29, 3) := by decide +kernel
theorem d_get_9 : decode prog_48_method_3_code 9 = .ok (.iconst 1, 1) := by decide +kernel
theorem d_get_10 : decode prog_48_method_3_code 10 = .ok (.iadd, 1) := by decide +kernel
theorem d_get_11 : decode prog_48_method_3_code 11 = .ok (.iaload, 1) := by decide +kernel
theorem d_get_12 : decode prog_48_method_3_code 12 = .ok (.iconst 1, 1) := by decide +kernel
theorem d_get_13 : decode prog_48_method_3_code 13 = .ok (.isub, 1) := by decide +kernel
theorem d_get_14 : decode prog_48_method_3_code 14 = .ok (.ireturn, 1) := by decide +kernel
theorem ef_put (m : MethodId) (x0 : Addr) (x1 : Int32) (x2 : Int32)  : entryFrame m #[(.ref x0), (.int x1), (.int x2)] 4 = mkF m 0 #[.val (.ref x0), .val (.int x1), .val (.int x2), .unset] [] := by first | (simp [entryFrame, mkF, argsToLocals, Value.category]; done) | rfl
theorem d_put_0 : decode prog_48_method_2_code 0 = .ok (.aload_n 0, 1) := by decide +kernel
theorem d_put_1 : decode prog_48_method_2_code 1 = .ok (.iload_n 1, 1) := by decide +kernel
theorem d_put_2 : decode prog_48_method_2_code 2 = .ok (.invokevirtual 29, 3) := by decide +kernel
theorem d_put_5 : decode prog_48_method_2_code 5 = .ok (.istore_n 3, 1) := by decide +kernel
theorem d_put_6 : decode prog_48_method_2_code 6 = .ok (.aload_n 0, 1) := by decide +kernel
theorem d_put_7 : decode prog_48_method_2_code 7 = .ok (.getfield 19, 3) := by decide +kernel
theorem d_put_10 : decode prog_48_method_2_code 10 = .ok (.iload_n 3, 1) := by decide +kernel
theorem d_put_11 : decode prog_48_method_2_code 11 = .ok (.iconst 1, 1) := by decide +kernel
theorem d_put_12 : decode prog_48_method_2_code 12 = .ok (.iadd, 1) := by decide +kernel
theorem d_put_13 : decode prog_48_method_2_code 13 = .ok (.iaload, 1) := by decide +kernel
theorem d_put_14 : decode prog_48_method_2_code 14 = .ok (.ifCond .eq 5, 3) := by decide +kernel
theorem d_put_19 : decode prog_48_method_2_code 19 = .ok (.aload_n 0, 1) := by decide +kernel
theorem d_put_20 : decode prog_48_method_2_code 20 = .ok (.getfield 32, 3) := by decide +kernel
theorem d_put_23 : decode prog_48_method_2_code 23 = .ok (.aload_n 0, 1) := by decide +kernel
theorem d_put_24 : decode prog_48_method_2_code 24 = .ok (.getfield 25, 3) := by decide +kernel
theorem d_put_27 : decode prog_48_method_2_code 27 = .ok (.if_icmp .ne 20, 3) := by decide +kernel
theorem d_put_47 : decode prog_48_method_2_code 47 = .ok (.aload_n 0, 1) := by decide +kernel
theorem d_put_48 : decode prog_48_method_2_code 48 = .ok (.dup, 1) := by decide +kernel
theorem d_put_49 : decode prog_48_method_2_code 49 = .ok (.getfield 32, 3) := by decide +kernel
theorem d_put_52 : decode prog_48_method_2_code 52 = .ok (.iconst 1, 1) := by decide +kernel
theorem d_put_53 : decode prog_48_method_2_code 53 = .ok (.iadd, 1) := by decide +kernel
theorem d_put_54 : decode prog_48_method_2_code 54 = .ok (.putfield 32, 3) := by decide +kernel
theorem d_put_57 : decode prog_48_method_2_code 57 = .ok (.aload_n 0, 1) := by decide +kernel
theorem d_put_58 : decode prog_48_method_2_code 58 = .ok (.getfield 19, 3) := by decide +kernel
theorem d_put_61 : decode prog_48_method_2_code 61 = .ok (.iload_n 3, 1) := by decide +kernel
theorem d_put_62 : decode prog_48_method_2_code 62 = .ok (.iload_n 1, 1) := by decide +kernel
theorem d_put_63 : decode prog_48_method_2_code 63 = .ok (.iastore, 1) := by decide +kernel
theorem d_put_64 : decode prog_48_method_2_code 64 = .ok (.aload_n 0, 1) := by decide +kernel
theorem d_put_65 : decode prog_48_method_2_code 65 = .ok (.getfield 19, 3) := by decide +kernel
theorem d_put_68 : decode prog_48_method_2_code 68 = .ok (.iload_n 3, 1) := by decide +kernel
theorem d_put_69 : decode prog_48_method_2_code 69 = .ok (.iconst 1, 1) := by decide +kernel
theorem d_put_70 : decode prog_48_method_2_code 70 = .ok (.iadd, 1) := by decide +kernel
theorem d_put_71 : decode prog_48_method_2_code 71 = .ok (.iload_n 2, 1) := by decide +kernel
theorem d_put_72 : decode prog_48_method_2_code 72 = .ok (.iconst 1, 1) := by decide +kernel
theorem d_put_73 : decode prog_48_method_2_code 73 = .ok (.iadd, 1) := by decide +kernel
theorem d_put_74 : decode prog_48_method_2_code 74 = .ok (.iastore, 1) := by decide +kernel
theorem d_put_75 : decode prog_48_method_2_code 75 = .ok (.iconst 1, 1) := by decide +kernel
theorem d_put_76 : decode prog_48_method_2_code 76 = .ok (.ireturn, 1) := by decide +kernel
theorem d_put_17 : decode prog_48_method_2_code 17 = .ok (.iconst 0, 1) := by decide +kernel
theorem d_put_18 : decode prog_48_method_2_code 18 = .ok (.ireturn, 1) := by decide +kernel
theorem ef_exp (m : MethodId) (x0 : Int32) (x1 : Int32) (x2 : Int32) (x3 : Int32) (x4 : Int32) (x5 : Int32) (x6 : Int32) (x7 : Int32)  : entryFrame m #[(.int x0), (.int x1), (.int x2), (.int x3), (.int x4), (.int x5), (.int x6), (.int x7)] 8 = mkF m 0 #[.val (.int x0), .val (.int x1), .val (.int x2), .val (.int x3), .val (.int x4), .val (.int x5), .val (.int x6), .val (.int x7)] [] := by first | (simp [entryFrame, mkF, argsToLocals, Value.category]; done) | rfl
theorem pn_com_example_tagwire_tagwire_dictionary_TagTableGetPinLaw : plainName "com/example/tagwire/tagwire/dictionary/TagTableGetPinLaw" = true := by first | (simp [plainName, overriddenIn]; done) | decide +kernel
theorem d_exp_0 : decode method_2_code 0 = .ok (.iload_n 0, 1) := by decide +kernel
theorem d_exp_1 : decode method_2_code 1 = .ok (.iconst 1, 1) := by decide +kernel
theorem d_exp_2 : decode method_2_code 2 = .ok (.if_icmp .lt 11, 3) := by decide +kernel
theorem d_exp_13 : decode method_2_code 13 = .ok (.iload_n 0, 1) := by decide +kernel
theorem d_exp_14 : decode method_2_code 14 = .ok (.iconst 2, 1) := by decide +kernel
theorem d_exp_15 : decode method_2_code 15 = .ok (.if_icmp .lt 12, 3) := by decide +kernel
theorem d_exp_27 : decode method_2_code 27 = .ok (.iload_n 0, 1) := by decide +kernel
theorem d_exp_28 : decode method_2_code 28 = .ok (.iconst 3, 1) := by decide +kernel
theorem d_exp_29 : decode method_2_code 29 = .ok (.if_icmp .lt 13, 3) := by decide +kernel
theorem d_exp_42 : decode method_2_code 42 = .ok (.iconst (-1), 1) := by decide +kernel
theorem d_exp_43 : decode method_2_code 43 = .ok (.ireturn, 1) := by decide +kernel
theorem d_exp_32 : decode method_2_code 32 = .ok (.iload 7, 2) := by decide +kernel
theorem d_exp_34 : decode method_2_code 34 = .ok (.iload 5, 2) := by decide +kernel
theorem d_exp_36 : decode method_2_code 36 = .ok (.if_icmp .ne 6, 3) := by decide +kernel
theorem d_exp_39 : decode method_2_code 39 = .ok (.iload 6, 2) := by decide +kernel
theorem d_exp_41 : decode method_2_code 41 = .ok (.ireturn, 1) := by decide +kernel
theorem d_exp_18 : decode method_2_code 18 = .ok (.iload 7, 2) := by decide +kernel
theorem d_exp_20 : decode method_2_code 20 = .ok (.iload_n 3, 1) := by decide +kernel
theorem d_exp_21 : decode method_2_code 21 = .ok (.if_icmp .ne 6, 3) := by decide +kernel
theorem d_exp_24 : decode method_2_code 24 = .ok (.iload 4, 2) := by decide +kernel
theorem d_exp_26 : decode method_2_code 26 = .ok (.ireturn, 1) := by decide +kernel
theorem d_exp_5 : decode method_2_code 5 = .ok (.iload 7, 2) := by decide +kernel
theorem d_exp_7 : decode method_2_code 7 = .ok (.iload_n 1, 1) := by decide +kernel
theorem d_exp_8 : decode method_2_code 8 = .ok (.if_icmp .ne 5, 3) := by decide +kernel
theorem d_exp_11 : decode method_2_code 11 = .ok (.iload_n 2, 1) := by decide +kernel
theorem d_exp_12 : decode method_2_code 12 = .ok (.ireturn, 1) := by decide +kernel
theorem ef_law (m : MethodId) (x0 : Int32) (x1 : Int32) (x2 : Int32) (x3 : Int32) (x4 : Int32) (x5 : Int64)  : entryFrame m #[(.int x0), (.int x1), (.int x2), (.int x3), (.int x4), (.long x5)] maxLocals = mkF m 0 #[.val (.int x0), .val (.int x1), .val (.int x2), .val (.int x3), .val (.int x4), .val (.long x5), .second, .unset, .unset, .unset, .unset, .unset, .unset, .unset, .unset, .unset] [] := by first | (simp [entryFrame, mkF, argsToLocals, Value.category, maxLocals]; done) | rfl
theorem pd__I_V : parseMethodDescriptor "(I)V" = some ⟨[.int], none⟩ := by decide +kernel
theorem pd__IIIIIIII_I : parseMethodDescriptor "(IIIIIIII)I" = some ⟨[.int, .int, .int, .int, .int, .int, .int, .int], some .int⟩ := by decide +kernel
theorem pd__II_Z : parseMethodDescriptor "(II)Z" = some ⟨[.int, .int], some .boolean⟩ := by decide +kernel
theorem own_priv {s : State} {args : Array Value} {y : MethodName} {n : Nat} (hi : (Jvm.Cond.instantiable y.cls n).before args s = true) (hp : s.PrivateAt y) (hinst : (Jvm.Cond.instanceMethod y).before args s = true) (hy : y.cls ≠ "java/lang/invoke/MethodHandle" ∧ y.cls ≠ "java/lang/invoke/VarHandle") : (Jvm.Cond.selects y.cls y y).before args s = true := by
  obtain ⟨c, k, h1, h2, -, h4, -⟩ := Cond.instantiable_spec hi
  exact Jvm.Stand.selects_self_of_private h1 h2 (Bool.or_eq_false_iff.mp h4).1 hp hinst hy
def own_st (c k : Int32) (q : Int32 × Int32) : Int32 × Int32 := if q.1 < c then q else ((q.1.toUInt32 >>> (k &&& 31).toUInt32).toInt32, q.2 + (-k))
def own_fin (q : Int32 × Int32) : Int32 := q.2 - (q.1.toUInt32 >>> ((1 : Int32) &&& 31).toUInt32).toInt32
def own_nlz (x : Int32) : Int32 := if 0 < x then own_fin (own_st 4 2 (own_st 16 4 (own_st 256 8 (own_st 65536 16 (x, 31))))) else if x = 0 then 32 else 0
def own_hob (x : Int32) : Int32 := x &&& (((-2147483648 : Int32).toUInt32 >>> (own_nlz x &&& 31).toUInt32).toInt32)
def own_max (a b : Int32) : Int32 := if a < b then b else a
/-- the array at a has n places, of kind ty, and holds f -/
def OFun (Z : State) (h : Heap) (a : Addr) (ty : FieldType) (n : Nat) (f : Nat → Value) : Prop := ∃ c : Cell, Arr Z h a c ty ∧ c.slots.size = n ∧ ∀ j, j < n → c.slots[j]? = some (f j)
theorem OFun.lt {Z : State} {h : Heap} {a : Addr} {ty : FieldType} {n : Nat} {f : Nat → Value} (F : OFun Z h a ty n f) : a < h.size := by obtain ⟨c, A, -⟩ := F; exact A.lt
theorem OFun.ext {Z : State} {h h' : Heap} {a : Addr} {ty : FieldType} {n : Nat} {f : Nat → Value} (F : OFun Z h a ty n f) (E : Ext h h') : OFun Z h' a ty n f := by obtain ⟨c, A, r⟩ := F; exact ⟨c, A.ext E, r⟩
theorem OFun.other {Z : State} {h h' : Heap} {a b : Addr} {ty : FieldType} {n sl : Nat} {v : Value} {f : Nat → Value} (F : OFun Z h a ty n f) (W : Wr h h' b sl v) (q : a ≠ b) : OFun Z h' a ty n f := by obtain ⟨c, A, r⟩ := F; exact ⟨c, A.other W q, r⟩
theorem OFun.keep {Z : State} {h h' : Heap} {a : Addr} {ty : FieldType} {n : Nat} {ws : List Addr} {f : Nat → Value} (F : OFun Z h a ty n f) (K : Keep h h' ws) (q : a ∉ ws) : OFun Z h' a ty n f := by obtain ⟨c, A, r⟩ := F; exact ⟨c, ⟨K.2.1 a c A.1 q, A.2⟩, r⟩
theorem OFun.congr {Z : State} {h : Heap} {a : Addr} {ty : FieldType} {n : Nat} {f g : Nat → Value} (F : OFun Z h a ty n f) (q : ∀ j, j < n → f j = g j) : OFun Z h a ty n g := by obtain ⟨c, A, r1, r2⟩ := F; exact ⟨c, A, r1, fun j hj => by rw [r2 j hj, q j hj]⟩
theorem OFun.new {Z : State} {h : Heap} {a : Addr} {ty : FieldType} {k : ClassId} {z : Int32} (A : Arr Z h a (newA k ty z) ty) : OFun Z h a ty z.toNatClampNeg (fun _ => defaultValue ty) := ⟨_, A, sz_new _ _ _, fun j hj => by simp [newA, hj]⟩
theorem OFun.set {Z : State} {h h' : Heap} {a : Addr} {ty : FieldType} {n i : Nat} {v : Value} {f : Nat → Value} (F : OFun Z h a ty n f) (W : Wr h h' a i v) : OFun Z h' a ty n (fun j => if j = i then v else f j) := by
  obtain ⟨c, A, r1, r2⟩ := F
  refine ⟨_, A.same W, by rw [sz_set]; exact r1, fun j hj => ?_⟩
  by_cases q : j = i
  · subst q
    simp [Cell.setSlot, r1, hj]
  · simp only [q, if_false]
    rw [← r2 j hj]
    simp [Cell.setSlot, Array.getElem?_setIfInBounds, Ne.symm q]
theorem own_ext_wr {h0 h h' : Heap} {a : Addr} {sl : Nat} {v : Value} (E : Ext h0 h) (W : Wr h h' a sl v) (q : h0.size ≤ a) : Ext h0 h' := by
  refine ⟨by rw [W.size]; exact E.1, fun x c hx => ?_⟩
  have hlt := (Array.getElem?_eq_some_iff.mp hx).1
  obtain ⟨c', e1, -, -, -, e5, -⟩ := wr_at W (E.2 x c hx)
  rw [e1, e5 (Nat.ne_of_lt (Nat.lt_of_lt_of_le hlt q))]
theorem own_ext_trans {h0 h h' : Heap} (E : Ext h0 h) (E' : Ext h h') : Ext h0 h' := ⟨Nat.le_trans E.1 E'.1, fun x c hx => E'.2 x c (E.2 x c hx)⟩
theorem own_ext_refl (h : Heap) : Ext h h := ⟨Nat.le_refl _, fun _ _ q => q⟩
theorem own_ext_keep {h0 h h' : Heap} {ws : List Addr} (E : Ext h0 h) (K : Keep h h' ws) (q : ∀ x ∈ ws, h0.size ≤ x) : Ext h0 h' := ⟨Nat.le_trans E.1 K.1, fun x c hx => K.2.1 x c (E.2 x c hx) fun z => by
  have hlt := (Array.getElem?_eq_some_iff.mp hx).1
  exact absurd hlt (Nat.not_lt.mpr (q x z))⟩
theorem own_keep_ext {h h' : Heap} (E : Ext h h') (ws : List Addr) : Keep h h' ws := (Keep.refl h ws).ext E
theorem own_in {j : Int32} {i n : Nat} (h0 : j.toInt = i) (h1 : i < n) : ¬ (j < 0 ∨ n ≤ j.toNatClampNeg) := by
  have e : j.toNatClampNeg = i := by
    show j.toInt.toNat = i
    omega
  rintro (q | q)
  · rw [Int32.lt_iff_toInt_lt] at q
    have z : (0 : Int32).toInt = 0 := rfl
    omega
  · omega
theorem own_cl {j : Int32} {i : Nat} (h0 : j.toInt = i) : j.toNatClampNeg = i := by
  show j.toInt.toNat = i
  omega
theorem own_ofN {n : Nat} (h : n < 2 ^ 31) : (Int32.ofNat n).toInt = n := Int32.toInt_ofNat_of_lt h
def OStop (f : Nat → Int32) (t : Int32) (i : Nat) : Prop := f (2 * i + 1) = 0 ∨ f (2 * i) = t
def own_hx (t m : Int32) : Int32 := (((t * (-1640531527 : Int32)) ^^^ (((t * (-1640531527 : Int32)).toUInt32 >>> ((16 : Int32) &&& 31).toUInt32).toInt32)) &&& m)
def own_hn (t : Int32) (C : Nat) : Nat := (own_hx t (Int32.ofNat (C - 1))).toNatClampNeg
def OSlot (f : Nat → Int32) (C : Nat) (t : Int32) (i : Nat) : Prop := ∃ d, i = (own_hn t C + d) % C ∧ OStop f t i ∧ ∀ e, e < d → ¬ OStop f t ((own_hn t C + e) % C)
theorem OSlot.uniq {f : Nat → Int32} {C : Nat} {t : Int32} {i j : Nat} (h1 : OSlot f C t i) (h2 : OSlot f C t j) : i = j := by
  obtain ⟨d, a1, a2, a3⟩ := h1
  obtain ⟨e, b1, b2, b3⟩ := h2
  rcases Nat.lt_trichotomy d e with q | q | q
  · exact absurd (a1 ▸ a2) (b3 d q)
  · rw [a1, b1, q]
  · exact absurd (b1 ▸ b2) (a3 e q)
theorem own_least {P : Nat → Prop} : ∀ d, P d → ∃ n, P n ∧ ∀ e, e < n → ¬ P e := by
  intro d
  induction d using Nat.strongRecOn with
  | ind d ih =>
    intro hd
    by_cases h : ∃ e, e < d ∧ P e
    · obtain ⟨e, he, hp⟩ := h; exact ih e he hp
    · exact ⟨d, hd, fun e he hp => h ⟨e, he, hp⟩⟩
theorem own_walkd {f : Nat → Int32} {C : Nat} (t : Int32) (hC : own_hn t C < C) (he : ∃ i, i < C ∧ f (2 * i + 1) = 0) : ∃ d, OStop f t ((own_hn t C + d) % C) ∧ ∀ e, e < d → ¬ OStop f t ((own_hn t C + e) % C) := by
  obtain ⟨i, hi, h0⟩ := he
  refine own_least (P := fun d => OStop f t ((own_hn t C + d) % C)) (C - own_hn t C + i) ?_
  have e : (own_hn t C + (C - own_hn t C + i)) % C = i := by
    rw [show own_hn t C + (C - own_hn t C + i) = i + C by omega, Nat.add_mod_right, Nat.mod_eq_of_lt hi]
  show OStop f t ((own_hn t C + (C - own_hn t C + i)) % C)
  rw [e]; exact Or.inl h0
theorem own_ex {f : Nat → Int32} {C : Nat} (t : Int32) (hC : own_hn t C < C) (he : ∃ i, i < C ∧ f (2 * i + 1) = 0) : ∃ i, i < C ∧ OSlot f C t i := by
  obtain ⟨d, h1, h2⟩ := own_walkd t hC he
  exact ⟨_, Nat.mod_lt _ (by omega), d, rfl, h1, h2⟩
theorem own_pigeon : ∀ (C : Nat) (S : List Nat), S.length < C → ∃ i, i < C ∧ i ∉ S := by
  intro C
  induction C with
  | zero => intro S h; exact absurd h (Nat.not_lt_zero _)
  | succ C ih =>
    intro S h
    by_cases q : C ∈ S
    · have hl : (S.erase C).length < C := by
        rw [List.length_erase_of_mem q]
        have := List.length_pos_of_mem q
        omega
      obtain ⟨i, h1, h2⟩ := ih _ hl
      exact ⟨i, by omega, fun r => h2 ((List.mem_erase_of_ne (by omega)).mpr r)⟩
    · exact ⟨C, by omega, q⟩
def OOcc (f : Nat → Int32) (C N : Nat) : Prop := ∃ S : List Nat, S.length ≤ N ∧ ∀ i, i < C → f (2 * i + 1) ≠ 0 → i ∈ S
theorem OOcc.ex {f : Nat → Int32} {C N : Nat} (h : OOcc f C N) (hN : N < C) : ∃ i, i < C ∧ f (2 * i + 1) = 0 := by
  obtain ⟨S, h1, h2⟩ := h
  obtain ⟨i, h3, h4⟩ := own_pigeon C S (by omega)
  refine ⟨i, h3, ?_⟩
  by_cases q : f (2 * i + 1) = 0
  · exact q
  · exact absurd (h2 i h3 q) h4
def OTbl (f : Nat → Int32) (C : Nat) (M : Int32 → Int32) (N : Nat) : Prop := OOcc f C N ∧ (∀ i, i < C → f (2 * i + 1) ≠ 0 → OSlot f C (f (2 * i)) i) ∧ ∀ k i, i < C → OSlot f C k i → f (2 * i + 1) = M k
theorem OTbl.nil (C : Nat) : OTbl (fun _ => 0) C (fun _ => 0) 0 := ⟨⟨[], Nat.le_refl _, fun i _ h => absurd rfl h⟩, fun i _ h => absurd rfl h, fun _ _ _ _ => rfl⟩
def own_upd (M : Int32 → Int32) (t w : Int32) : Int32 → Int32 := if M t = 0 then (fun k => if k = t then w else M k) else M
theorem own_keepM {M : Int32 → Int32} {t w k : Int32} (h : M k ≠ 0) : own_upd M t w k = M k := by
  unfold own_upd
  split
  · rename_i h0
    show (if k = t then w else M k) = M k
    rw [if_neg (fun q => h (by rw [q]; exact h0))]
  · rfl
theorem own_newM {M : Int32 → Int32} {t w : Int32} (h : M t = 0) : own_upd M t w t = w := by
  unfold own_upd
  rw [if_pos h]; exact if_pos rfl
theorem own_neM {M : Int32 → Int32} {t w k : Int32} (h : k ≠ t) : own_upd M t w k = M k := by
  unfold own_upd
  split
  · exact if_neg h
  · rfl
def own_ins (f : Nat → Int32) (i : Nat) (t w : Int32) : Nat → Int32 := fun j => if j = 2 * i + 1 then w else if j = 2 * i then t else f j
theorem own_insV (f : Nat → Int32) (i j : Nat) (t w : Int32) : own_ins f i t w (2 * j + 1) = if j = i then w else f (2 * j + 1) := by
  unfold own_ins
  by_cases q : j = i
  · rw [if_pos (by omega), if_pos q]
  · rw [if_neg (by omega), if_neg (by omega), if_neg q]
theorem own_insK (f : Nat → Int32) (i j : Nat) (t w : Int32) : own_ins f i t w (2 * j) = if j = i then t else f (2 * j) := by
  unfold own_ins
  by_cases q : j = i
  · rw [if_neg (by omega), if_pos (by omega), if_pos q]
  · rw [if_neg (by omega), if_neg (by omega), if_neg q]
theorem own_stopNe {f : Nat → Int32} {i j : Nat} {t w k : Int32} (h : j ≠ i) : OStop (own_ins f i t w) k j ↔ OStop f k j := by
  unfold OStop
  rw [own_insV, own_insK, if_neg h, if_neg h]
theorem own_putIn {f : Nat → Int32} {C N i : Nat} {M : Int32 → Int32} {t w : Int32} (hC : ∀ k, own_hn k C < C) (T : OTbl f C M N) (hN : N < C) (hi : i < C) (hs : OSlot f C t i) (h0 : f (2 * i + 1) = 0) (hw : w ≠ 0) : OTbl (own_ins f i t w) C (own_upd M t w) (N + 1) := by
  obtain ⟨⟨S, s1, s2⟩, I, G⟩ := T
  have hM : M t = 0 := by rw [← G t i hi hs]; exact h0
  have A : ∀ k j, j < C → f (2 * j + 1) ≠ 0 → OSlot f C k j → OSlot (own_ins f i t w) C k j := by
    intro k j hj hn ⟨d, a1, a2, a3⟩
    refine ⟨d, a1, (own_stopNe (fun q => hn (by rw [q]; exact h0))).mpr a2, fun e he hh => ?_⟩
    have q := a3 e he
    exact q ((own_stopNe (fun r => q (Or.inl (by rw [r]; exact h0)))).mp hh)
  have B : OSlot (own_ins f i t w) C t i := by
    obtain ⟨d, a1, a2, a3⟩ := hs
    refine ⟨d, a1, Or.inr (by rw [own_insK, if_pos rfl]), fun e he hh => ?_⟩
    have q := a3 e he
    exact q ((own_stopNe (fun r => q (Or.inl (by rw [r]; exact h0)))).mp hh)
  refine ⟨⟨i :: S, by simp; omega, fun j hj hn => ?_⟩, fun j hj hn => ?_, fun k j hj hk => ?_⟩
  · by_cases q : j = i
    · rw [q]; exact List.mem_cons_self ..
    · rw [own_insV, if_neg q] at hn
      exact List.mem_cons_of_mem _ (s2 j hj hn)
  · by_cases q : j = i
    · subst q
      rw [own_insK, if_pos rfl]; exact B
    · rw [own_insV, if_neg q] at hn
      rw [own_insK, if_neg q]
      exact A _ j hj hn (I j hj hn)
  · by_cases q : k = t
    · subst q
      rw [hk.uniq B, own_insV, if_pos rfl, own_newM hM]
    · rw [own_neM q]
      have ex := own_ex (f := f) k (hC k) (OOcc.ex ⟨S, s1, s2⟩ hN)
      obtain ⟨j0, hj0, hs0⟩ := ex
      by_cases z : f (2 * j0 + 1) = 0
      · rw [← G k j0 hj0 hs0, z]
        by_cases y : own_ins f i t w (2 * j + 1) = 0
        · exact y
        · exfalso
          obtain ⟨d, -, a2, -⟩ := hk
          rcases a2 with a2 | a2
          · exact y a2
          · have ji : j ≠ i := fun r => by
              rw [r, own_insK, if_pos rfl] at a2
              exact q a2.symm
            rw [own_insV, if_neg ji] at y
            rw [own_insK, if_neg ji] at a2
            have hh := I j hj y
            rw [a2] at hh
            rw [hh.uniq hs0] at y
            exact y z
      · have hs1 := A k j0 hj0 z hs0
        rw [hk.uniq hs1, own_insV, if_neg (fun r => z (by rw [r]; exact h0))]
        exact G k j0 hj0 hs0
def OPut (f : Nat → Int32) (C : Nat) (t v : Int32) (f' : Nat → Int32) (r : Int32) : Prop := ∃ i, i < C ∧ OSlot f C t i ∧ ((f (2 * i + 1) ≠ 0 ∧ r = 0 ∧ f' = f) ∨ (f (2 * i + 1) = 0 ∧ r = 1 ∧ f' = own_ins f i t (v + 1)))
theorem own_put {f f' : Nat → Int32} {C N : Nat} {M : Int32 → Int32} {t v r : Int32} (hC : ∀ k, own_hn k C < C) (T : OTbl f C M N) (hN : N < C) (hv : v + 1 ≠ 0) (h : OPut f C t v f' r) : r = (if M t = 0 then 1 else 0) ∧ OTbl f' C (own_upd M t (v + 1)) (N + 1) := by
  obtain ⟨i, hi, hs, ⟨a1, a2, a3⟩ | ⟨a1, a2, a3⟩⟩ := h
  · have hM : M t ≠ 0 := by rw [← T.2.2 t i hi hs]; exact a1
    refine ⟨by rw [if_neg hM]; exact a2, ?_⟩
    unfold own_upd
    rw [if_neg hM, a3]
    obtain ⟨⟨S, s1, s2⟩, r⟩ := T
    exact ⟨⟨S, by omega, s2⟩, r⟩
  · have hM : M t = 0 := by rw [← T.2.2 t i hi hs]; exact a1
    exact ⟨by rw [if_pos hM]; exact a2, by rw [a3]; exact own_putIn hC T hN hi hs a1 hv⟩
def own_pow (C : Nat) : Prop := C = 2 ∨ C = 4 ∨ C = 8 ∨ C = 16
theorem own_pow16 {C : Nat} (h : own_pow C) : C ≤ 16 ∧ 2 ≤ C := by rcases h with rfl | rfl | rfl | rfl <;> decide
theorem own_andlt {x : Int32} {C : Nat} (h : own_pow C) : 0 ≤ (x &&& Int32.ofNat (C - 1)).toInt ∧ (x &&& Int32.ofNat (C - 1)).toInt < C := by
  rcases h with rfl | rfl | rfl | rfl
  · rw [show Int32.ofNat (2 - 1) = 1 from rfl, Jvm.Kit.i32_mask x 1 (k := 1) (by decide) (by decide)]; omega
  · rw [show Int32.ofNat (4 - 1) = 3 from rfl, Jvm.Kit.i32_mask x 3 (k := 2) (by decide) (by decide)]; omega
  · rw [show Int32.ofNat (8 - 1) = 7 from rfl, Jvm.Kit.i32_mask x 7 (k := 3) (by decide) (by decide)]; omega
  · rw [show Int32.ofNat (16 - 1) = 15 from rfl, Jvm.Kit.i32_mask x 15 (k := 4) (by decide) (by decide)]; omega
theorem own_hlt {C : Nat} (h : own_pow C) (t : Int32) : own_hn t C < C := by
  have := own_andlt (x := ((t * (-1640531527 : Int32)) ^^^ (((t * (-1640531527 : Int32)).toUInt32 >>> ((16 : Int32) &&& 31).toUInt32).toInt32))) h
  show (own_hx t (Int32.ofNat (C - 1))).toInt.toNat < C
  unfold own_hx
  omega
theorem own_hval {C : Nat} (h : own_pow C) (t : Int32) : own_hx t (Int32.ofNat (C - 1)) = Int32.ofNat ((own_hn t C + 0) % C) := by
  rw [Nat.add_zero, Nat.mod_eq_of_lt (own_hlt h t)]
  have := own_andlt (x := ((t * (-1640531527 : Int32)) ^^^ (((t * (-1640531527 : Int32)).toUInt32 >>> ((16 : Int32) &&& 31).toUInt32).toInt32))) h
  have hn : ¬ own_hx t (Int32.ofNat (C - 1)) < 0 := by
    rw [Int32.lt_iff_toInt_lt]
    have z : (0 : Int32).toInt = 0 := rfl
    unfold own_hx
    omega
  exact ((back32 hn).1).symm
theorem own_stepAll : ∀ i : Fin 16, ((Int32.ofNat i.val + (1 : Int32)) &&& Int32.ofNat (2 - 1)) = Int32.ofNat ((i.val + 1) % 2) ∧ ((Int32.ofNat i.val + (1 : Int32)) &&& Int32.ofNat (4 - 1)) = Int32.ofNat ((i.val + 1) % 4) ∧ ((Int32.ofNat i.val + (1 : Int32)) &&& Int32.ofNat (8 - 1)) = Int32.ofNat ((i.val + 1) % 8) ∧ ((Int32.ofNat i.val + (1 : Int32)) &&& Int32.ofNat (16 - 1)) = Int32.ofNat ((i.val + 1) % 16) := by decide +kernel
theorem own_step {C s e : Nat} (h : own_pow C) : ((Int32.ofNat ((s + e) % C) + (1 : Int32)) &&& Int32.ofNat (C - 1)) = Int32.ofNat ((s + (e + 1)) % C) := by
  have hc := own_pow16 h
  have hl : (s + e) % C < C := Nat.mod_lt _ (by omega)
  have key := own_stepAll ⟨(s + e) % C, by omega⟩
  have em : ((s + e) % C + 1) % C = (s + (e + 1)) % C := by rw [Nat.mod_add_mod, Nat.add_assoc]
  rw [← em]
  rcases h with rfl | rfl | rfl | rfl
  · exact key.1
  · exact key.2.1
  · exact key.2.2.1
  · exact key.2.2.2
theorem own_maskAll {C : Nat} (h : own_pow C) : (((2 * C).toInt32 / (2 : Int32)) - (1 : Int32)) = Int32.ofNat (C - 1) := by rcases h with rfl | rfl | rfl | rfl <;> decide +kernel
theorem own_idxAll : ∀ i : Fin 16, (((2 : Int32) * Int32.ofNat i.val) + (1 : Int32)).toInt = ((2 * i.val + 1 : Nat) : Int) ∧ ((2 : Int32) * Int32.ofNat i.val).toInt = ((2 * i.val : Nat) : Int) ∧ ((2 : Int32) * Int32.ofNat i.val) = Int32.ofNat (2 * i.val) ∧ (Int32.ofNat (2 * i.val) + (1 : Int32)).toInt = ((2 * i.val + 1 : Nat) : Int) ∧ (Int32.ofNat (2 * i.val)).toInt = ((2 * i.val : Nat) : Int) := by decide +kernel
theorem own_idx {C i : Nat} (h : own_pow C) (hi : i < C) : (((2 : Int32) * Int32.ofNat i) + (1 : Int32)).toInt = ((2 * i + 1 : Nat) : Int) ∧ ((2 : Int32) * Int32.ofNat i).toInt = ((2 * i : Nat) : Int) ∧ ((2 : Int32) * Int32.ofNat i) = Int32.ofNat (2 * i) ∧ (Int32.ofNat (2 * i) + (1 : Int32)).toInt = ((2 * i + 1 : Nat) : Int) ∧ (Int32.ofNat (2 * i)).toInt = ((2 * i : Nat) : Int) := own_idxAll ⟨i, by have := own_pow16 h; omega⟩
def own_cap (n : Nat) : Nat := if n ≤ 1 then 2 else if n = 2 then 4 else if n ≤ 4 then 8 else 16
def own_ln (sz : Int32) : Int32 := ((2 : Int32) * ((own_hob ((own_max (2 : Int32) ((2 : Int32) * sz)) - (1 : Int32))) <<< ((1 : Int32) &&& 31)))
theorem own_lnAll : ∀ k : Fin 7, own_ln (Int32.ofNat k.val) = Int32.ofNat (2 * own_cap k.val) := by decide +kernel
theorem own_capAll : ∀ k : Fin 7, (own_cap k.val = 2 ∨ own_cap k.val = 4 ∨ own_cap k.val = 8 ∨ own_cap k.val = 16) ∧ k.val < own_cap k.val ∧ 2 * own_cap k.val ≤ 32 ∧ (Int32.ofNat (2 * own_cap k.val)).toNatClampNeg = 2 * own_cap k.val ∧ ¬ Int32.ofNat (2 * own_cap k.val) < 0 := by decide +kernel
theorem own_sz {sz : Int32} (h : 0 ≤ sz.toInt ∧ sz.toInt ≤ 6) : ∃ k : Fin 7, sz = Int32.ofNat k.val ∧ sz.toInt = k.val := ⟨⟨sz.toInt.toNat, by omega⟩, Int32.toInt_inj.mp (by rw [own_ofN (by show sz.toInt.toNat < _; omega)]; show sz.toInt = (sz.toInt.toNat : Int); omega), by show sz.toInt = (sz.toInt.toNat : Int); omega⟩
/-- what is known of the table's object -/
def OTab (Z : State) (h : Heap) (a r : Addr) (sz cn : Int32) (C : Nat) (f : Nat → Int32) : Prop := Fld Z h a "com/example/tagwire/tagwire/dictionary/TagTable" "slots" "[I" (.ref r) ∧ Fld Z h a "com/example/tagwire/tagwire/dictionary/TagTable" "size" "I" (.int sz) ∧ Fld Z h a "com/example/tagwire/tagwire/dictionary/TagTable" "count" "I" (.int cn) ∧ Exa Z h a "com/example/tagwire/tagwire/dictionary/TagTable" ∧ OFun Z h r .int (2 * C) (fun j => .int (f j)) ∧ a ≠ r ∧ own_pow C
def own_exp (n t1 v1 t2 v2 t3 v3 x : Int32) : Int32 := if (¬ n < 1 ∧ x = t1) then v1 else if (¬ n < 2 ∧ x = t2) then v2 else if (¬ n < 3 ∧ x = t3) then v3 else -1
theorem own_back (v : Int32) : (v + (1 : Int32)) - (1 : Int32) = v := by
  apply Int32.toBitVec_inj.mp
  rw [Int32.toBitVec_sub, Int32.toBitVec_add, BitVec.add_sub_cancel]
theorem own_nz {v : Int32} (h : 0 ≤ v.toInt) : v + 1 ≠ 0 := fun q => by
  have e := own_back v
  have e2 : v + (1 : Int32) = 0 := q
  rw [e2] at e
  rw [← e] at h
  exact absurd h (by decide)
theorem own_g0 {n t1 v1 t2 v2 t3 v3 x : Int32} (h1 : n < 1) (h2 : n < 2) (h3 : n < 3) : (fun _ => 0 : Int32 → Int32) x - (1 : Int32) = own_exp n t1 v1 t2 v2 t3 v3 x := by
  unfold own_exp
  rw [if_neg (fun q => q.1 h1), if_neg (fun q => q.1 h2), if_neg (fun q => q.1 h3)]; rfl
theorem own_g1 {n t1 v1 t2 v2 t3 v3 x : Int32} (h1 : ¬ n < 1) (h2 : n < 2) (h3 : n < 3) : own_upd (fun _ => 0) t1 (v1 + 1) x - (1 : Int32) = own_exp n t1 v1 t2 v2 t3 v3 x := by
  unfold own_exp
  by_cases q : x = t1
  · subst q
    rw [if_pos ⟨h1, rfl⟩, own_newM rfl, own_back]
  · rw [if_neg (fun r => q r.2), if_neg (fun q => q.1 h2), if_neg (fun q => q.1 h3), own_neM q]; rfl
theorem own_g2 {n t1 v1 t2 v2 t3 v3 x : Int32} (h1 : ¬ n < 1) (h2 : ¬ n < 2) (h3 : n < 3) (w1 : v1 + 1 ≠ 0) : own_upd (own_upd (fun _ => 0) t1 (v1 + 1)) t2 (v2 + 1) x - (1 : Int32) = own_exp n t1 v1 t2 v2 t3 v3 x := by
  unfold own_exp
  by_cases q : x = t1
  · subst q
    have e : own_upd (fun _ => 0) x (v1 + 1) x = v1 + 1 := own_newM rfl
    rw [if_pos ⟨h1, rfl⟩, own_keepM (by rw [e]; exact w1), e, own_back]
  · rw [if_neg (fun r => q r.2)]
    by_cases q2 : x = t2
    · subst q2
      rw [if_pos ⟨h2, rfl⟩, own_newM (by rw [own_neM q]), own_back]
    · rw [if_neg (fun r => q2 r.2), if_neg (fun q => q.1 h3), own_neM q2, own_neM q]; rfl
theorem own_g3 {n t1 v1 t2 v2 t3 v3 x : Int32} (h1 : ¬ n < 1) (h2 : ¬ n < 2) (h3 : ¬ n < 3) (w1 : v1 + 1 ≠ 0) (w2 : v2 + 1 ≠ 0) : own_upd (own_upd (own_upd (fun _ => 0) t1 (v1 + 1)) t2 (v2 + 1)) t3 (v3 + 1) x - (1 : Int32) = own_exp n t1 v1 t2 v2 t3 v3 x := by
  unfold own_exp
  by_cases q : x = t1
  · subst q
    have e : own_upd (fun _ => 0) x (v1 + 1) x = v1 + 1 := own_newM rfl
    have e2 : own_upd (own_upd (fun _ => 0) x (v1 + 1)) t2 (v2 + 1) x = v1 + 1 := by rw [own_keepM (by rw [e]; exact w1), e]
    rw [if_pos ⟨h1, rfl⟩, own_keepM (by rw [e2]; exact w1), e2, own_back]
  · rw [if_neg (fun r => q r.2)]
    by_cases q2 : x = t2
    · subst q2
      have e2 : own_upd (own_upd (fun _ => 0) t1 (v1 + 1)) x (v2 + 1) x = v2 + 1 := own_newM (by rw [own_neM q])
      rw [if_pos ⟨h2, rfl⟩, own_keepM (by rw [e2]; exact w2), e2, own_back]
    · rw [if_neg (fun r => q2 r.2)]
      by_cases q3 : x = t3
      · subst q3
        rw [if_pos ⟨h3, rfl⟩, own_newM (by rw [own_neM q2, own_neM q]), own_back]
      · rw [if_neg (fun r => q3 r.2), own_neM q3, own_neM q2, own_neM q]; rfl
theorem own_r2 {t1 v1 t2 r x : Int32} (w1 : v1 + 1 ≠ 0) (h : r = (if own_upd (fun _ => 0) t1 (v1 + 1) t2 = 0 then 1 else 0)) (hx : x = if t2 = t1 then 0 else 1) : r = x := by
  rw [h, hx]
  by_cases q : t2 = t1
  · subst q
    rw [if_pos rfl, own_newM rfl, if_neg w1]
  · rw [if_neg q, own_neM q, if_pos rfl]
theorem own_r3 {t1 v1 t2 v2 t3 r x : Int32} (w1 : v1 + 1 ≠ 0) (w2 : v2 + 1 ≠ 0) (h : r = (if own_upd (own_upd (fun _ => 0) t1 (v1 + 1)) t2 (v2 + 1) t3 = 0 then 1 else 0)) (hx : x = if t3 = t1 then 0 else if t3 = t2 then 0 else 1) : r = x := by
  rw [h, hx]
  by_cases q : t3 = t1
  · subst q
    have e : own_upd (fun _ => 0) t3 (v1 + 1) t3 = v1 + 1 := own_newM rfl
    rw [if_pos rfl, own_keepM (by rw [e]; exact w1), e, if_neg w1]
  · rw [if_neg q]
    by_cases q2 : t3 = t2
    · subst q2
      rw [if_pos rfl, own_newM (by rw [own_neM q]), if_neg w2]
    · rw [if_neg q2, own_neM q2, own_neM q, if_pos rfl]
theorem own_and3 (x : Int32) : 0 ≤ (x &&& (3 : Int32)).toInt ∧ (x &&& (3 : Int32)).toInt ≤ 3 := by
  rw [Jvm.Kit.i32_mask x 3 (k := 2) (by decide) (by decide)]; omega
theorem own_nsz {n s c x : Int32} (hn : n = (c &&& (3 : Int32))) (hs : s = n + (x &&& (3 : Int32))) : 0 ≤ n.toInt ∧ n.toInt ≤ 3 ∧ 0 ≤ s.toInt ∧ s.toInt ≤ 6 ∧ n.toInt ≤ s.toInt := by
  have h1 := own_and3 c
  have h2 := own_and3 x
  rw [← hn] at h1
  have e : s.toInt = n.toInt + (x &&& (3 : Int32)).toInt := by rw [hs, XT.add32 (by constructor <;> omega)]
  omega
theorem own_nn32 (x : Int32) : 0 ≤ (x &&& (2147483647 : Int32)).toInt := by
  rw [Jvm.Kit.i32_mask x 2147483647 (k := 31) (by decide) (by decide)]; omega
theorem own_shr6 (x : Int32) : 0 ≤ ((x.toUInt32 >>> ((6 : Int32) &&& 31).toUInt32).toInt32).toInt := by
  have h := Jvm.Kit.i32_iushr_nonneg x (n := ((6 : Int32) &&& 31).toUInt32) (k := 6) (by decide) (by decide) (by decide)
  rw [Int32.le_iff_toInt_le] at h
  have z : (0 : Int32).toInt = 0 := rfl
  omega

theorem own_ge1 {n : Int32} (h : ¬ n < (1 : Int32)) : 1 ≤ n.toInt := by
  rw [Int32.lt_iff_toInt_lt] at h
  have z : (1 : Int32).toInt = 1 := rfl
  omega
theorem own_ge2 {n : Int32} (h : ¬ n < (2 : Int32)) : 2 ≤ n.toInt := by
  rw [Int32.lt_iff_toInt_lt] at h
  have z : (2 : Int32).toInt = 2 := rfl
  omega
theorem own_ge3 {n : Int32} (h : ¬ n < (3 : Int32)) : 3 ≤ n.toInt := by
  rw [Int32.lt_iff_toInt_lt] at h
  have z : (3 : Int32).toInt = 3 := rfl
  omega
theorem own_lt2 {n : Int32} (h : n < (1 : Int32)) : n < (2 : Int32) := by
  rw [Int32.lt_iff_toInt_lt] at h ⊢
  have z : (1 : Int32).toInt = 1 := rfl
  have z2 : (2 : Int32).toInt = 2 := rfl
  omega
theorem own_lt3 {n : Int32} (h : n < (2 : Int32)) : n < (3 : Int32) := by
  rw [Int32.lt_iff_toInt_lt] at h ⊢
  have z : (3 : Int32).toInt = 3 := rfl
  have z2 : (2 : Int32).toInt = 2 := rfl
  omega
theorem own_cc1 {cn : Int32} (h : cn = 0 ∨ cn = 0 + 1) : 0 ≤ cn.toInt ∧ cn.toInt ≤ 1 := by
  rcases h with rfl | rfl <;> decide
theorem own_cc2 {cn cn' : Int32} (h0 : 0 ≤ cn.toInt ∧ cn.toInt ≤ 1) (h : cn' = cn ∨ cn' = cn + 1) : 0 ≤ cn'.toInt ∧ cn'.toInt ≤ 2 := by
  have z : (1 : Int32).toInt = 1 := rfl
  rcases h with rfl | rfl
  · omega
  · rw [XT.add32 (by rw [z]; constructor <;> omega), z]; omega

def Q_nlz (Z : State) (x1 : Int32) (h0 : Heap) (n0 : Nat) (v : Option Value) (h : Heap) (L : List Loc) : Prop := v = some (.int (own_nlz x1)) ∧ Fr n0 L ∧ h = h0
set_option maxRecDepth 65536 in
set_option maxHeartbeats 40000000 in
theorem rm_nlz (l : Launch) (Z : State) (a0 : Array Value) (hw : ∀ d ∈ tables_1, d.before a0 Z = true) (ws : List Jvm.Cond) (x1 : Int32) (h0 : Heap) (n0 : Nat)  :
    MetFree l (⟨"java/lang/Integer", "numberOfLeadingZeros", "(I)I"⟩ : MethodName) (head1 (Jvm.Cond.code (⟨"java/lang/Integer", "numberOfLeadingZeros", "(I)I"⟩ : MethodName) jdk_33_method_47_code 2 (some .int) :: ws) ({ frames := 0, cells := 0, slots := 0, locals := 0 } : Room)) (fun a U => a = #[(.int x1)] ∧ Z.Warmed39 U.vm ∧ U.heap = h0) (fun _ _ _ _ _ => True) (fun _ U o U' => ∃ v L, o = .returned v ∧ Q_nlz Z x1 h0 n0 v U'.heap L ∧ FrameEnd U o U' L ({ frames := 0, cells := 0, slots := 0, locals := 0 } : Room).cells ({ frames := 0, cells := 0, slots := 0, locals := 0 } : Room).slots) := by
  refine MetFree.of_bodySF (plainFor_of_name pn_java_lang_Integer) hisR ?_
  intro p e s m args below meth c s₁ Bd hml0 hP hK
  obtain ⟨rfl, hZ, hh⟩ := hP
  have hx := Bd.exec
  have hby := Bd.bytes
  have hml : c.maxLocals = 2 := hml0
  have hown : s.vm.findClass "java/lang/Integer" = some m.cls := findClass_of_methodNamed Bd.named
  have hnm := (name_of_methodNamed Bd.named Bd.method).1
  have X0 : Stand p l e ({ frames := 0, cells := 0, slots := 0, locals := 0 } : Room) s m #[(.int x1)] below meth c s₁ [] 0 0 := Stand.of_body Bd
  have e0 : s₁.heap = h0 := by rw [← hh, Bd.state]; rfl
  have N0 := Fr.nil n0
  obtain ⟨S0, hS0⟩ : ∃ S0, S0 = s₁.setTop (entryFrame m #[(.int x1)] 2) := ⟨_, rfl⟩
  have pre : Pth p e below S0 s₁ (mkF m 0 #[.val (.int x1), .unset] []) := fun t k => by rw [hS0]; exact castTop (ef_nlz m x1) k
  replace pre : Pth p e below S0 s₁ (mkF m 1 #[.val (.int x1), .unset] [(.int x1)]) := fun t k => pre t (by
    show Steps p.tables e below (s₁.setTop (mkF m 0 #[.val (.int x1), .unset] [])) t
    refine XS.iloadN X0.here hx rfl (hb hby d_nlz_0) rfl ?_
    show Steps p.tables e below (s₁.setTop (mkF m 1 #[.val (.int x1), .unset] [(.int x1)])) t
    exact k)
  by_cases z0 : (0 : Int32) < x1
  · replace pre : Pth p e below S0 s₁ (mkF m 18 #[.val (.int x1), .val (.int (31 : Int32))] []) := fun t k => pre t (by
      show Steps p.tables e below (s₁.setTop (mkF m 1 #[.val (.int x1), .unset] [(.int x1)])) t
      refine XS.ifYes X0.here hx rfl (pc0 := 1) (pc' := 15) rfl (hb hby d_nlz_1) rfl (XT.i0_gt_t z0) (by decide) (by decide) ?_
      show Steps p.tables e below (s₁.setTop (mkF m 15 #[.val (.int x1), .unset] [])) t
      refine XS.bipush X0.here hx rfl (hb hby d_nlz_15) ?_
      show Steps p.tables e below (s₁.setTop (mkF m 17 #[.val (.int x1), .unset] [(.int (31 : Int32))])) t
      refine XS.istoreN X0.here hx rfl (hb hby d_nlz_17) rfl (l' := #[.val (.int x1), .val (.int (31 : Int32))]) rfl ?_
      show Steps p.tables e below (s₁.setTop (mkF m 18 #[.val (.int x1), .val (.int (31 : Int32))] [])) t
      exact k)
    obtain ⟨j0, m0, hq0, pre⟩ : ∃ j0 m0 : Int32, (j0, m0) = own_st (65536 : Int32) (16 : Int32) (x1, (31 : Int32)) ∧ Pth p e below S0 s₁ (mkF m 33 #[.val (.int j0), .val (.int m0)] []) := by
      replace pre : Pth p e below S0 s₁ (mkF m 22 #[.val (.int x1), .val (.int (31 : Int32))] [(.int (65536 : Int32)), (.int x1)]) := fun t k => pre t (by
        show Steps p.tables e below (s₁.setTop (mkF m 18 #[.val (.int x1), .val (.int (31 : Int32))] [])) t
        refine XS.iloadN X0.here hx rfl (hb hby d_nlz_18) rfl ?_
        show Steps p.tables e below (s₁.setTop (mkF m 19 #[.val (.int x1), .val (.int (31 : Int32))] [(.int x1)])) t
        refine X0.ldcWInt hx hown (mvT hZ (hw _ (List.mem_of_getElem? (i := 22) rfl))) (g := (mkF m 19 #[.val (.int x1), .val (.int (31 : Int32))] [(.int x1)])) rfl (hb hby d_nlz_19) _ ?_
        show Steps p.tables e below (s₁.setTop (mkF m 22 #[.val (.int x1), .val (.int (31 : Int32))] [(.int (65536 : Int32)), (.int x1)])) t
        exact k)
      by_cases z1 : x1 < (65536 : Int32)
      · replace pre : Pth p e below S0 s₁ (mkF m 33 #[.val (.int x1), .val (.int (31 : Int32))] []) := fun t k => pre t (by
          show Steps p.tables e below (s₁.setTop (mkF m 22 #[.val (.int x1), .val (.int (31 : Int32))] [(.int (65536 : Int32)), (.int x1)])) t
          refine XS.icmpYes X0.here hx rfl (pc0 := 22) (pc' := 33) rfl (hb hby d_nlz_22) rfl (XT.ii_lt_t z1) (by decide) (by decide) ?_
          show Steps p.tables e below (s₁.setTop (mkF m 33 #[.val (.int x1), .val (.int (31 : Int32))] [])) t
          exact k)
        exact ⟨_, _, (if_pos z1).symm, pre⟩
      · replace pre : Pth p e below S0 s₁ (mkF m 33 #[.val (.int ((x1.toUInt32 >>> ((16 : Int32) &&& 31).toUInt32).toInt32)), .val (.int ((31 : Int32) + (-16 : Int32)))] []) := fun t k => pre t (by
          show Steps p.tables e below (s₁.setTop (mkF m 22 #[.val (.int x1), .val (.int (31 : Int32))] [(.int (65536 : Int32)), (.int x1)])) t
          refine XS.icmpNo X0.here hx rfl (hb hby d_nlz_22) rfl (XT.ii_lt_f z1) ?_
          show Steps p.tables e below (s₁.setTop (mkF m 25 #[.val (.int x1), .val (.int (31 : Int32))] [])) t
          refine XS.iinc X0.here hx rfl (hb hby d_nlz_25) rfl (l' := #[.val (.int x1), .val (.int ((31 : Int32) + (-16 : Int32)))]) rfl ?_
          show Steps p.tables e below (s₁.setTop (mkF m 28 #[.val (.int x1), .val (.int ((31 : Int32) + (-16 : Int32)))] [])) t
          refine XS.iloadN X0.here hx rfl (hb hby d_nlz_28) rfl ?_
          show Steps p.tables e below (s₁.setTop (mkF m 29 #[.val (.int x1), .val (.int ((31 : Int32) + (-16 : Int32)))] [(.int x1)])) t
          refine XS.bipush X0.here hx rfl (hb hby d_nlz_29) ?_
          show Steps p.tables e below (s₁.setTop (mkF m 31 #[.val (.int x1), .val (.int ((31 : Int32) + (-16 : Int32)))] [(.int (16 : Int32)), (.int x1)])) t
          refine XS.iushr X0.here hx rfl (hb hby d_nlz_31) rfl ?_
          show Steps p.tables e below (s₁.setTop (mkF m 32 #[.val (.int x1), .val (.int ((31 : Int32) + (-16 : Int32)))] [(.int ((x1.toUInt32 >>> ((16 : Int32) &&& 31).toUInt32).toInt32))])) t
          refine XS.istoreN X0.here hx rfl (hb hby d_nlz_32) rfl (l' := #[.val (.int ((x1.toUInt32 >>> ((16 : Int32) &&& 31).toUInt32).toInt32)), .val (.int ((31 : Int32) + (-16 : Int32)))]) rfl ?_
          show Steps p.tables e below (s₁.setTop (mkF m 33 #[.val (.int ((x1.toUInt32 >>> ((16 : Int32) &&& 31).toUInt32).toInt32)), .val (.int ((31 : Int32) + (-16 : Int32)))] [])) t
          exact k)
        exact ⟨_, _, (if_neg z1).symm, pre⟩
    obtain ⟨j1, m1, hq1, pre⟩ : ∃ j1 m1 : Int32, (j1, m1) = own_st (256 : Int32) (8 : Int32) (j0, m0) ∧ Pth p e below S0 s₁ (mkF m 48 #[.val (.int j1), .val (.int m1)] []) := by
      replace pre : Pth p e below S0 s₁ (mkF m 37 #[.val (.int j0), .val (.int m0)] [(.int (256 : Int32)), (.int j0)]) := fun t k => pre t (by
        show Steps p.tables e below (s₁.setTop (mkF m 33 #[.val (.int j0), .val (.int m0)] [])) t
        refine XS.iloadN X0.here hx rfl (hb hby d_nlz_33) rfl ?_
        show Steps p.tables e below (s₁.setTop (mkF m 34 #[.val (.int j0), .val (.int m0)] [(.int j0)])) t
        refine XS.sipush X0.here hx rfl (hb hby d_nlz_34) ?_
        show Steps p.tables e below (s₁.setTop (mkF m 37 #[.val (.int j0), .val (.int m0)] [(.int (256 : Int32)), (.int j0)])) t
        exact k)
      by_cases z1 : j0 < (256 : Int32)
      · replace pre : Pth p e below S0 s₁ (mkF m 48 #[.val (.int j0), .val (.int m0)] []) := fun t k => pre t (by
          show Steps p.tables e below (s₁.setTop (mkF m 37 #[.val (.int j0), .val (.int m0)] [(.int (256 : Int32)), (.int j0)])) t
          refine XS.icmpYes X0.here hx rfl (pc0 := 37) (pc' := 48) rfl (hb hby d_nlz_37) rfl (XT.ii_lt_t z1) (by decide) (by decide) ?_
          show Steps p.tables e below (s₁.setTop (mkF m 48 #[.val (.int j0), .val (.int m0)] [])) t
          exact k)
        exact ⟨_, _, (if_pos z1).symm, pre⟩
      · replace pre : Pth p e below S0 s₁ (mkF m 48 #[.val (.int ((j0.toUInt32 >>> ((8 : Int32) &&& 31).toUInt32).toInt32)), .val (.int (m0 + (-8 : Int32)))] []) := fun t k => pre t (by
          show Steps p.tables e below (s₁.setTop (mkF m 37 #[.val (.int j0), .val (.int m0)] [(.int (256 : Int32)), (.int j0)])) t
          refine XS.icmpNo X0.here hx rfl (hb hby d_nlz_37) rfl (XT.ii_lt_f z1) ?_
          show Steps p.tables e below (s₁.setTop (mkF m 40 #[.val (.int j0), .val (.int m0)] [])) t
          refine XS.iinc X0.here hx rfl (hb hby d_nlz_40) rfl (l' := #[.val (.int j0), .val (.int (m0 + (-8 : Int32)))]) rfl ?_
          show Steps p.tables e below (s₁.setTop (mkF m 43 #[.val (.int j0), .val (.int (m0 + (-8 : Int32)))] [])) t
          refine XS.iloadN X0.here hx rfl (hb hby d_nlz_43) rfl ?_
          show Steps p.tables e below (s₁.setTop (mkF m 44 #[.val (.int j0), .val (.int (m0 + (-8 : Int32)))] [(.int j0)])) t
          refine XS.bipush X0.here hx rfl (hb hby d_nlz_44) ?_
          show Steps p.tables e below (s₁.setTop (mkF m 46 #[.val (.int j0), .val (.int (m0 + (-8 : Int32)))] [(.int (8 : Int32)), (.int j0)])) t
          refine XS.iushr X0.here hx rfl (hb hby d_nlz_46) rfl ?_
          show Steps p.tables e below (s₁.setTop (mkF m 47 #[.val (.int j0), .val (.int (m0 + (-8 : Int32)))] [(.int ((j0.toUInt32 >>> ((8 : Int32) &&& 31).toUInt32).toInt32))])) t
          refine XS.istoreN X0.here hx rfl (hb hby d_nlz_47) rfl (l' := #[.val (.int ((j0.toUInt32 >>> ((8 : Int32) &&& 31).toUInt32).toInt32)), .val (.int (m0 + (-8 : Int32)))]) rfl ?_
          show Steps p.tables e below (s₁.setTop (mkF m 48 #[.val (.int ((j0.toUInt32 >>> ((8 : Int32) &&& 31).toUInt32).toInt32)), .val (.int (m0 + (-8 : Int32)))] [])) t
          exact k)
        exact ⟨_, _, (if_neg z1).symm, pre⟩
    obtain ⟨j2, m2, hq2, pre⟩ : ∃ j2 m2 : Int32, (j2, m2) = own_st (16 : Int32) (4 : Int32) (j1, m1) ∧ Pth p e below S0 s₁ (mkF m 61 #[.val (.int j2), .val (.int m2)] []) := by
      replace pre : Pth p e below S0 s₁ (mkF m 51 #[.val (.int j1), .val (.int m1)] [(.int (16 : Int32)), (.int j1)]) := fun t k => pre t (by
        show Steps p.tables e below (s₁.setTop (mkF m 48 #[.val (.int j1), .val (.int m1)] [])) t
        refine XS.iloadN X0.here hx rfl (hb hby d_nlz_48) rfl ?_
        show Steps p.tables e below (s₁.setTop (mkF m 49 #[.val (.int j1), .val (.int m1)] [(.int j1)])) t
        refine XS.bipush X0.here hx rfl (hb hby d_nlz_49) ?_
        show Steps p.tables e below (s₁.setTop (mkF m 51 #[.val (.int j1), .val (.int m1)] [(.int (16 : Int32)), (.int j1)])) t
        exact k)
      by_cases z1 : j1 < (16 : Int32)
      · replace pre : Pth p e below S0 s₁ (mkF m 61 #[.val (.int j1), .val (.int m1)] []) := fun t k => pre t (by
          show Steps p.tables e below (s₁.setTop (mkF m 51 #[.val (.int j1), .val (.int m1)] [(.int (16 : Int32)), (.int j1)])) t
          refine XS.icmpYes X0.here hx rfl (pc0 := 51) (pc' := 61) rfl (hb hby d_nlz_51) rfl (XT.ii_lt_t z1) (by decide) (by decide) ?_
          show Steps p.tables e below (s₁.setTop (mkF m 61 #[.val (.int j1), .val (.int m1)] [])) t
          exact k)
        exact ⟨_, _, (if_pos z1).symm, pre⟩
      · replace pre : Pth p e below S0 s₁ (mkF m 61 #[.val (.int ((j1.toUInt32 >>> ((4 : Int32) &&& 31).toUInt32).toInt32)), .val (.int (m1 + (-4 : Int32)))] []) := fun t k => pre t (by
          show Steps p.tables e below (s₁.setTop (mkF m 51 #[.val (.int j1), .val (.int m1)] [(.int (16 : Int32)), (.int j1)])) t
          refine XS.icmpNo X0.here hx rfl (hb hby d_nlz_51) rfl (XT.ii_lt_f z1) ?_
          show Steps p.tables e below (s₁.setTop (mkF m 54 #[.val (.int j1), .val (.int m1)] [])) t
          refine XS.iinc X0.here hx rfl (hb hby d_nlz_54) rfl (l' := #[.val (.int j1), .val (.int (m1 + (-4 : Int32)))]) rfl ?_
          show Steps p.tables e below (s₁.setTop (mkF m 57 #[.val (.int j1), .val (.int (m1 + (-4 : Int32)))] [])) t
          refine XS.iloadN X0.here hx rfl (hb hby d_nlz_57) rfl ?_
          show Steps p.tables e below (s₁.setTop (mkF m 58 #[.val (.int j1), .val (.int (m1 + (-4 : Int32)))] [(.int j1)])) t
          refine XS.iconst X0.here hx rfl (hb hby d_nlz_58) ?_
          show Steps p.tables e below (s₁.setTop (mkF m 59 #[.val (.int j1), .val (.int (m1 + (-4 : Int32)))] [(.int (4 : Int32)), (.int j1)])) t
          refine XS.iushr X0.here hx rfl (hb hby d_nlz_59) rfl ?_
          show Steps p.tables e below (s₁.setTop (mkF m 60 #[.val (.int j1), .val (.int (m1 + (-4 : Int32)))] [(.int ((j1.toUInt32 >>> ((4 : Int32) &&& 31).toUInt32).toInt32))])) t
          refine XS.istoreN X0.here hx rfl (hb hby d_nlz_60) rfl (l' := #[.val (.int ((j1.toUInt32 >>> ((4 : Int32) &&& 31).toUInt32).toInt32)), .val (.int (m1 + (-4 : Int32)))]) rfl ?_
          show Steps p.tables e below (s₁.setTop (mkF m 61 #[.val (.int ((j1.toUInt32 >>> ((4 : Int32) &&& 31).toUInt32).toInt32)), .val (.int (m1 + (-4 : Int32)))] [])) t
          exact k)
        exact ⟨_, _, (if_neg z1).symm, pre⟩
    obtain ⟨j3, m3, hq3, pre⟩ : ∃ j3 m3 : Int32, (j3, m3) = own_st (4 : Int32) (2 : Int32) (j2, m2) ∧ Pth p e below S0 s₁ (mkF m 73 #[.val (.int j3), .val (.int m3)] []) := by
      replace pre : Pth p e below S0 s₁ (mkF m 63 #[.val (.int j2), .val (.int m2)] [(.int (4 : Int32)), (.int j2)]) := fun t k => pre t (by
        show Steps p.tables e below (s₁.setTop (mkF m 61 #[.val (.int j2), .val (.int m2)] [])) t
        refine XS.iloadN X0.here hx rfl (hb hby d_nlz_61) rfl ?_
        show Steps p.tables e below (s₁.setTop (mkF m 62 #[.val (.int j2), .val (.int m2)] [(.int j2)])) t
        refine XS.iconst X0.here hx rfl (hb hby d_nlz_62) ?_
        show Steps p.tables e below (s₁.setTop (mkF m 63 #[.val (.int j2), .val (.int m2)] [(.int (4 : Int32)), (.int j2)])) t
        exact k)
      by_cases z1 : j2 < (4 : Int32)
      · replace pre : Pth p e below S0 s₁ (mkF m 73 #[.val (.int j2), .val (.int m2)] []) := fun t k => pre t (by
          show Steps p.tables e below (s₁.setTop (mkF m 63 #[.val (.int j2), .val (.int m2)] [(.int (4 : Int32)), (.int j2)])) t
          refine XS.icmpYes X0.here hx rfl (pc0 := 63) (pc' := 73) rfl (hb hby d_nlz_63) rfl (XT.ii_lt_t z1) (by decide) (by decide) ?_
          show Steps p.tables e below (s₁.setTop (mkF m 73 #[.val (.int j2), .val (.int m2)] [])) t
          exact k)
        exact ⟨_, _, (if_pos z1).symm, pre⟩
      · replace pre : Pth p e below S0 s₁ (mkF m 73 #[.val (.int ((j2.toUInt32 >>> ((2 : Int32) &&& 31).toUInt32).toInt32)), .val (.int (m2 + (-2 : Int32)))] []) := fun t k => pre t (by
          show Steps p.tables e below (s₁.setTop (mkF m 63 #[.val (.int j2), .val (.int m2)] [(.int (4 : Int32)), (.int j2)])) t
          refine XS.icmpNo X0.here hx rfl (hb hby d_nlz_63) rfl (XT.ii_lt_f z1) ?_
          show Steps p.tables e below (s₁.setTop (mkF m 66 #[.val (.int j2), .val (.int m2)] [])) t
          refine XS.iinc X0.here hx rfl (hb hby d_nlz_66) rfl (l' := #[.val (.int j2), .val (.int (m2 + (-2 : Int32)))]) rfl ?_
          show Steps p.tables e below (s₁.setTop (mkF m 69 #[.val (.int j2), .val (.int (m2 + (-2 : Int32)))] [])) t
          refine XS.iloadN X0.here hx rfl (hb hby d_nlz_69) rfl ?_
          show Steps p.tables e below (s₁.setTop (mkF m 70 #[.val (.int j2), .val (.int (m2 + (-2 : Int32)))] [(.int j2)])) t
          refine XS.iconst X0.here hx rfl (hb hby d_nlz_70) ?_
          show Steps p.tables e below (s₁.setTop (mkF m 71 #[.val (.int j2), .val (.int (m2 + (-2 : Int32)))] [(.int (2 : Int32)), (.int j2)])) t
          refine XS.iushr X0.here hx rfl (hb hby d_nlz_71) rfl ?_
          show Steps p.tables e below (s₁.setTop (mkF m 72 #[.val (.int j2), .val (.int (m2 + (-2 : Int32)))] [(.int ((j2.toUInt32 >>> ((2 : Int32) &&& 31).toUInt32).toInt32))])) t
          refine XS.istoreN X0.here hx rfl (hb hby d_nlz_72) rfl (l' := #[.val (.int ((j2.toUInt32 >>> ((2 : Int32) &&& 31).toUInt32).toInt32)), .val (.int (m2 + (-2 : Int32)))]) rfl ?_
          show Steps p.tables e below (s₁.setTop (mkF m 73 #[.val (.int ((j2.toUInt32 >>> ((2 : Int32) &&& 31).toUInt32).toInt32)), .val (.int (m2 + (-2 : Int32)))] [])) t
          exact k)
        exact ⟨_, _, (if_neg z1).symm, pre⟩
    replace pre : Pth p e below S0 s₁ (mkF m 78 #[.val (.int j3), .val (.int m3)] [(.int (m3 - ((j3.toUInt32 >>> ((1 : Int32) &&& 31).toUInt32).toInt32)))]) := fun t k => pre t (by
      show Steps p.tables e below (s₁.setTop (mkF m 73 #[.val (.int j3), .val (.int m3)] [])) t
      refine XS.iloadN X0.here hx rfl (hb hby d_nlz_73) rfl ?_
      show Steps p.tables e below (s₁.setTop (mkF m 74 #[.val (.int j3), .val (.int m3)] [(.int m3)])) t
      refine XS.iloadN X0.here hx rfl (hb hby d_nlz_74) rfl ?_
      show Steps p.tables e below (s₁.setTop (mkF m 75 #[.val (.int j3), .val (.int m3)] [(.int j3), (.int m3)])) t
      refine XS.iconst X0.here hx rfl (hb hby d_nlz_75) ?_
      show Steps p.tables e below (s₁.setTop (mkF m 76 #[.val (.int j3), .val (.int m3)] [(.int (1 : Int32)), (.int j3), (.int m3)])) t
      refine XS.iushr X0.here hx rfl (hb hby d_nlz_76) rfl ?_
      show Steps p.tables e below (s₁.setTop (mkF m 77 #[.val (.int j3), .val (.int m3)] [(.int ((j3.toUInt32 >>> ((1 : Int32) &&& 31).toUInt32).toInt32)), (.int m3)])) t
      refine XS.isub X0.here hx rfl (hb hby d_nlz_77) rfl ?_
      show Steps p.tables e below (s₁.setTop (mkF m 78 #[.val (.int j3), .val (.int m3)] [(.int (m3 - ((j3.toUInt32 >>> ((1 : Int32) &&& 31).toUInt32).toInt32)))])) t
      exact k)
    obtain ⟨fs, hr, hrun, hended, hW, hsame⟩ := X0.leave (v := some (.int (m3 - ((j3.toUInt32 >>> ((1 : Int32) &&& 31).toUInt32).toInt32)))) (fun h => by rw [Bd.returns] at h; cases h)
    subst hS0
    refine ⟨_, _, pre _ ?_, hrun, hended, _, _, rfl, ?_, ⟨_, rfl⟩, hW, hsame.mono (by decide) (by decide)⟩
    · exact retI X0 hx Bd.returns (hb hby d_nlz_78) hr
    · show Q_nlz Z x1 h0 n0 _ s₁.heap _
      rw [e0]
      exact ⟨by rw [own_nlz, if_pos z0, ← hq0, ← hq1, ← hq2, ← hq3]; rfl, N0, rfl⟩
  · replace pre : Pth p e below S0 s₁ (mkF m 5 #[.val (.int x1), .unset] [(.int x1)]) := fun t k => pre t (by
      show Steps p.tables e below (s₁.setTop (mkF m 1 #[.val (.int x1), .unset] [(.int x1)])) t
      refine XS.ifNo X0.here hx rfl (hb hby d_nlz_1) rfl (XT.i0_gt_f z0) ?_
      show Steps p.tables e below (s₁.setTop (mkF m 4 #[.val (.int x1), .unset] [])) t
      refine XS.iloadN X0.here hx rfl (hb hby d_nlz_4) rfl ?_
      show Steps p.tables e below (s₁.setTop (mkF m 5 #[.val (.int x1), .unset] [(.int x1)])) t
      exact k)
    by_cases z1 : x1 = (0 : Int32)
    · replace pre : Pth p e below S0 s₁ (mkF m 14 #[.val (.int x1), .unset] [(.int (32 : Int32))]) := fun t k => pre t (by
        show Steps p.tables e below (s₁.setTop (mkF m 5 #[.val (.int x1), .unset] [(.int x1)])) t
        refine XS.ifNo X0.here hx rfl (hb hby d_nlz_5) rfl (XT.i0_ne_f z1) ?_
        show Steps p.tables e below (s₁.setTop (mkF m 8 #[.val (.int x1), .unset] [])) t
        refine XS.bipush X0.here hx rfl (hb hby d_nlz_8) ?_
        show Steps p.tables e below (s₁.setTop (mkF m 10 #[.val (.int x1), .unset] [(.int (32 : Int32))])) t
        refine XS.goto X0.here hx rfl (pc0 := 10) (pc' := 14) rfl (hb hby d_nlz_10) (by decide) (by decide) ?_
        show Steps p.tables e below (s₁.setTop (mkF m 14 #[.val (.int x1), .unset] [(.int (32 : Int32))])) t
        exact k)
      obtain ⟨fs, hr, hrun, hended, hW, hsame⟩ := X0.leave (v := some (.int (32 : Int32))) (fun h => by rw [Bd.returns] at h; cases h)
      subst hS0
      refine ⟨_, _, pre _ ?_, hrun, hended, _, _, rfl, ?_, ⟨_, rfl⟩, hW, hsame.mono (by decide) (by decide)⟩
      · exact retI X0 hx Bd.returns (hb hby d_nlz_14) hr
      · show Q_nlz Z x1 h0 n0 _ s₁.heap _
        rw [e0]
        exact ⟨by rw [own_nlz, if_neg z0, if_pos z1], N0, rfl⟩
    · replace pre : Pth p e below S0 s₁ (mkF m 14 #[.val (.int x1), .unset] [(.int (0 : Int32))]) := fun t k => pre t (by
        show Steps p.tables e below (s₁.setTop (mkF m 5 #[.val (.int x1), .unset] [(.int x1)])) t
        refine XS.ifYes X0.here hx rfl (pc0 := 5) (pc' := 13) rfl (hb hby d_nlz_5) rfl (XT.i0_ne_t z1) (by decide) (by decide) ?_
        show Steps p.tables e below (s₁.setTop (mkF m 13 #[.val (.int x1), .unset] [])) t
        refine XS.iconst X0.here hx rfl (hb hby d_nlz_13) ?_
        show Steps p.tables e below (s₁.setTop (mkF m 14 #[.val (.int x1), .unset] [(.int (0 : Int32))])) t
        exact k)
      obtain ⟨fs, hr, hrun, hended, hW, hsame⟩ := X0.leave (v := some (.int (0 : Int32))) (fun h => by rw [Bd.returns] at h; cases h)
      subst hS0
      refine ⟨_, _, pre _ ?_, hrun, hended, _, _, rfl, ?_, ⟨_, rfl⟩, hW, hsame.mono (by decide) (by decide)⟩
      · exact retI X0 hx Bd.returns (hb hby d_nlz_14) hr
      · show Q_nlz Z x1 h0 n0 _ s₁.heap _
        rw [e0]
        exact ⟨by rw [own_nlz, if_neg z0, if_neg z1], N0, rfl⟩
def Q_hob (Z : State) (x1 : Int32) (h0 : Heap) (n0 : Nat) (v : Option Value) (h : Heap) (L : List Loc) : Prop := v = some (.int (own_hob x1)) ∧ Fr n0 L ∧ h = h0
set_option maxRecDepth 65536 in
set_option maxHeartbeats 40000000 in
theorem rm_hob (l : Launch) (Z : State) (a0 : Array Value) (hw : ∀ d ∈ tables_1, d.before a0 Z = true) (ws : List Jvm.Cond) (x1 : Int32) (h0 : Heap) (n0 : Nat)  :
    MetFree l (⟨"java/lang/Integer", "highestOneBit", "(I)I"⟩ : MethodName) (head1 (Jvm.Cond.code (⟨"java/lang/Integer", "highestOneBit", "(I)I"⟩ : MethodName) jdk_33_method_45_code 1 (some .int) :: ws) ({ frames := 1, cells := 0, slots := 0, locals := 15 } : Room)) (fun a U => a = #[(.int x1)] ∧ Z.Warmed39 U.vm ∧ U.heap = h0) (fun _ _ _ _ _ => True) (fun _ U o U' => ∃ v L, o = .returned v ∧ Q_hob Z x1 h0 n0 v U'.heap L ∧ FrameEnd U o U' L ({ frames := 1, cells := 0, slots := 0, locals := 15 } : Room).cells ({ frames := 1, cells := 0, slots := 0, locals := 15 } : Room).slots) := by
  refine MetFree.of_bodySF (plainFor_of_name pn_java_lang_Integer) hisR ?_
  intro p e s m args below meth c s₁ Bd hml0 hP hK
  obtain ⟨rfl, hZ, hh⟩ := hP
  have hx := Bd.exec
  have hby := Bd.bytes
  have hml : c.maxLocals = 1 := hml0
  have hown : s.vm.findClass "java/lang/Integer" = some m.cls := findClass_of_methodNamed Bd.named
  have hnm := (name_of_methodNamed Bd.named Bd.method).1
  have X0 : Stand p l e ({ frames := 1, cells := 0, slots := 0, locals := 15 } : Room) s m #[(.int x1)] below meth c s₁ [] 0 0 := Stand.of_body Bd
  have e0 : s₁.heap = h0 := by rw [← hh, Bd.state]; rfl
  have N0 := Fr.nil n0
  obtain ⟨S0, hS0⟩ : ∃ S0, S0 = s₁.setTop (entryFrame m #[(.int x1)] 1) := ⟨_, rfl⟩
  have pre : Pth p e below S0 s₁ (mkF m 0 #[.val (.int x1)] []) := fun t k => by rw [hS0]; exact castTop (ef_hob m x1) k
  replace pre : Pth p e below S0 s₁ (mkF m 4 #[.val (.int x1)] [(.int x1), (.int (-2147483648 : Int32)), (.int x1)]) := fun t k => pre t (by
    show Steps p.tables e below (s₁.setTop (mkF m 0 #[.val (.int x1)] [])) t
    refine XS.iloadN X0.here hx rfl (hb hby d_hob_0) rfl ?_
    show Steps p.tables e below (s₁.setTop (mkF m 1 #[.val (.int x1)] [(.int x1)])) t
    refine X0.ldcInt hx hown (mvT hZ (hw _ (List.mem_of_getElem? (i := 18) rfl))) (g := (mkF m 1 #[.val (.int x1)] [(.int x1)])) rfl (hb hby d_hob_1) _ ?_
    show Steps p.tables e below (s₁.setTop (mkF m 3 #[.val (.int x1)] [(.int (-2147483648 : Int32)), (.int x1)])) t
    refine XS.iloadN X0.here hx rfl (hb hby d_hob_3) rfl ?_
    show Steps p.tables e below (s₁.setTop (mkF m 4 #[.val (.int x1)] [(.int x1), (.int (-2147483648 : Int32)), (.int x1)])) t
    exact k)
  obtain ⟨_, _, ⟨T1, L1, k1, n1⟩, -, X1, ⟨Lc1, hQ1, l1, y1, z1⟩, st1⟩ := Jvm.LawKit.callS X0 hx (y := (⟨"java/lang/Integer", "numberOfLeadingZeros", "(I)I"⟩ : MethodName)) hown (mvT hZ (hw _ (List.mem_of_getElem? (i := 19) rfl))) (mvT hZ (hw _ (List.mem_of_getElem? (i := 20) rfl))) (mvT hZ (hw _ (List.mem_of_getElem? (i := 16) rfl))) (mvT hZ (hw _ (List.mem_of_getElem? (i := 21) rfl))) (by decide) (backOf (W := 2) (rm_nlz l Z a0 hw [] x1 h0 n0) hZ (hw _ (List.mem_of_getElem? (i := 21) rfl)) (hw _ (List.mem_of_getElem? (i := 16) rfl)) (by decide) (by decide)) (g := (mkF m 4 #[.val (.int x1)] [(.int x1), (.int (-2147483648 : Int32)), (.int x1)])) rfl (by rw [hml]; rfl) (argsL := [(.int x1)]) (rest := [(.int (-2147483648 : Int32)), (.int x1)]) (lenOf pd__I_I rfl) rfl (by show 2 * 0 + _ ≤ _; exact Nat.le_of_eq rfl) (hb hby d_hob_4) (fun _ _ => ⟨rfl, e0, (by decide : 0 + 0 ≤ _), (by decide : 0 + 0 ≤ _)⟩)
  dsimp only [Pt.U, Pt.locs, Pt.cells, Pt.slots] at X1 l1 y1 z1 st1 hQ1
  subst l1 y1 z1
  obtain ⟨rfl, N1q, e1⟩ := hQ1
  have N1 := Fr.app N0 N1q
  replace pre : Pth p e below S0 T1 (mkF m 7 #[.val (.int x1)] [(.int (own_nlz x1)), (.int (-2147483648 : Int32)), (.int x1)]) := fun t k => pre t (st1 _ k)
  replace pre : Pth p e below S0 T1 (mkF m 9 #[.val (.int x1)] [(.int (x1 &&& (((-2147483648 : Int32).toUInt32 >>> ((own_nlz x1) &&& 31).toUInt32).toInt32)))]) := fun t k => pre t (by
    show Steps p.tables e below (T1.setTop (mkF m 7 #[.val (.int x1)] [(.int (own_nlz x1)), (.int (-2147483648 : Int32)), (.int x1)])) t
    refine XS.iushr X1.here hx rfl (hb hby d_hob_7) rfl ?_
    show Steps p.tables e below (T1.setTop (mkF m 8 #[.val (.int x1)] [(.int (((-2147483648 : Int32).toUInt32 >>> ((own_nlz x1) &&& 31).toUInt32).toInt32)), (.int x1)])) t
    refine XS.iand X1.here hx rfl (hb hby d_hob_8) rfl ?_
    show Steps p.tables e below (T1.setTop (mkF m 9 #[.val (.int x1)] [(.int (x1 &&& (((-2147483648 : Int32).toUInt32 >>> ((own_nlz x1) &&& 31).toUInt32).toInt32)))])) t
    exact k)
  obtain ⟨fs, hr, hrun, hended, hW, hsame⟩ := X1.leave (v := some (.int (x1 &&& (((-2147483648 : Int32).toUInt32 >>> ((own_nlz x1) &&& 31).toUInt32).toInt32)))) (fun h => by rw [Bd.returns] at h; cases h)
  subst hS0
  refine ⟨_, _, pre _ ?_, hrun, hended, _, _, rfl, ?_, ⟨_, rfl⟩, hW, hsame.mono (by decide) (by decide)⟩
  · exact retI X1 hx Bd.returns (hb hby d_hob_9) hr
  · show Q_hob Z x1 h0 n0 _ T1.heap _
    rw [e1]
    exact ⟨rfl, N1, rfl⟩
def Q_max (Z : State) (x1 : Int32) (y1 : Int32) (h0 : Heap) (n0 : Nat) (v : Option Value) (h : Heap) (L : List Loc) : Prop := v = some (.int (own_max x1 y1)) ∧ Fr n0 L ∧ h = h0
set_option maxRecDepth 65536 in
set_option maxHeartbeats 40000000 in
theorem rm_max (l : Launch) (Z : State) (a0 : Array Value) (hw : ∀ d ∈ tables_1, d.before a0 Z = true) (ws : List Jvm.Cond) (x1 : Int32) (y1 : Int32) (h0 : Heap) (n0 : Nat)  :
    MetFree l (⟨"java/lang/Math", "max", "(II)I"⟩ : MethodName) (head1 (Jvm.Cond.code (⟨"java/lang/Math", "max", "(II)I"⟩ : MethodName) jdk_29_method_65_code 2 (some .int) :: ws) ({ frames := 0, cells := 0, slots := 0, locals := 0 } : Room)) (fun a U => a = #[(.int x1), (.int y1)] ∧ Z.Warmed39 U.vm ∧ U.heap = h0) (fun _ _ _ _ _ => True) (fun _ U o U' => ∃ v L, o = .returned v ∧ Q_max Z x1 y1 h0 n0 v U'.heap L ∧ FrameEnd U o U' L ({ frames := 0, cells := 0, slots := 0, locals := 0 } : Room).cells ({ frames := 0, cells := 0, slots := 0, locals := 0 } : Room).slots) := by
  refine MetFree.of_bodySF (Jvm.Free.JP.mathPlain rfl (by decide +kernel)) hisR ?_
  intro p e s m args below meth c s₁ Bd hml0 hP hK
  obtain ⟨rfl, hZ, hh⟩ := hP
  have hx := Bd.exec
  have hby := Bd.bytes
  have hml : c.maxLocals = 2 := hml0
  have hown : s.vm.findClass "java/lang/Math" = some m.cls := findClass_of_methodNamed Bd.named
  have hnm := (name_of_methodNamed Bd.named Bd.method).1
  have X0 : Stand p l e ({ frames := 0, cells := 0, slots := 0, locals := 0 } : Room) s m #[(.int x1), (.int y1)] below meth c s₁ [] 0 0 := Stand.of_body Bd
  have e0 : s₁.heap = h0 := by rw [← hh, Bd.state]; rfl
  have N0 := Fr.nil n0
  obtain ⟨S0, hS0⟩ : ∃ S0, S0 = s₁.setTop (entryFrame m #[(.int x1), (.int y1)] 2) := ⟨_, rfl⟩
  have pre : Pth p e below S0 s₁ (mkF m 0 #[.val (.int x1), .val (.int y1)] []) := fun t k => by rw [hS0]; exact castTop (ef_max m x1 y1) k
  replace pre : Pth p e below S0 s₁ (mkF m 2 #[.val (.int x1), .val (.int y1)] [(.int y1), (.int x1)]) := fun t k => pre t (by
    show Steps p.tables e below (s₁.setTop (mkF m 0 #[.val (.int x1), .val (.int y1)] [])) t
    refine XS.iloadN X0.here hx rfl (hb hby d_max_0) rfl ?_
    show Steps p.tables e below (s₁.setTop (mkF m 1 #[.val (.int x1), .val (.int y1)] [(.int x1)])) t
    refine XS.iloadN X0.here hx rfl (hb hby d_max_1) rfl ?_
    show Steps p.tables e below (s₁.setTop (mkF m 2 #[.val (.int x1), .val (.int y1)] [(.int y1), (.int x1)])) t
    exact k)
  by_cases z1 : x1 < y1
  · replace pre : Pth p e below S0 s₁ (mkF m 10 #[.val (.int x1), .val (.int y1)] [(.int y1)]) := fun t k => pre t (by
      show Steps p.tables e below (s₁.setTop (mkF m 2 #[.val (.int x1), .val (.int y1)] [(.int y1), (.int x1)])) t
      refine XS.icmpYes X0.here hx rfl (pc0 := 2) (pc' := 9) rfl (hb hby d_max_2) rfl (XT.ii_lt_t z1) (by decide) (by decide) ?_
      show Steps p.tables e below (s₁.setTop (mkF m 9 #[.val (.int x1), .val (.int y1)] [])) t
      refine XS.iloadN X0.here hx rfl (hb hby d_max_9) rfl ?_
      show Steps p.tables e below (s₁.setTop (mkF m 10 #[.val (.int x1), .val (.int y1)] [(.int y1)])) t
      exact k)
    obtain ⟨fs, hr, hrun, hended, hW, hsame⟩ := X0.leave (v := some (.int y1)) (fun h => by rw [Bd.returns] at h; cases h)
    subst hS0
    refine ⟨_, _, pre _ ?_, hrun, hended, _, _, rfl, ?_, ⟨_, rfl⟩, hW, hsame.mono (by decide) (by decide)⟩
    · exact retI X0 hx Bd.returns (hb hby d_max_10) hr
    · show Q_max Z x1 y1 h0 n0 _ s₁.heap _
      rw [e0]
      exact ⟨by rw [own_max, if_pos z1], N0, rfl⟩
  · replace pre : Pth p e below S0 s₁ (mkF m 10 #[.val (.int x1), .val (.int y1)] [(.int x1)]) := fun t k => pre t (by
      show Steps p.tables e below (s₁.setTop (mkF m 2 #[.val (.int x1), .val (.int y1)] [(.int y1), (.int x1)])) t
      refine XS.icmpNo X0.here hx rfl (hb hby d_max_2) rfl (XT.ii_lt_f z1) ?_
      show Steps p.tables e below (s₁.setTop (mkF m 5 #[.val (.int x1), .val (.int y1)] [])) t
      refine XS.iloadN X0.here hx rfl (hb hby d_max_5) rfl ?_
      show Steps p.tables e below (s₁.setTop (mkF m 6 #[.val (.int x1), .val (.int y1)] [(.int x1)])) t
      refine XS.goto X0.here hx rfl (pc0 := 6) (pc' := 10) rfl (hb hby d_max_6) (by decide) (by decide) ?_
      show Steps p.tables e below (s₁.setTop (mkF m 10 #[.val (.int x1), .val (.int y1)] [(.int x1)])) t
      exact k)
    obtain ⟨fs, hr, hrun, hended, hW, hsame⟩ := X0.leave (v := some (.int x1)) (fun h => by rw [Bd.returns] at h; cases h)
    subst hS0
    refine ⟨_, _, pre _ ?_, hrun, hended, _, _, rfl, ?_, ⟨_, rfl⟩, hW, hsame.mono (by decide) (by decide)⟩
    · exact retI X0 hx Bd.returns (hb hby d_max_10) hr
    · show Q_max Z x1 y1 h0 n0 _ s₁.heap _
      rw [e0]
      exact ⟨by rw [own_max, if_neg z1], N0, rfl⟩
def Q_ini (Z : State) (a1 : Addr) (sz : Int32) (h0 : Heap) (n0 : Nat) (v : Option Value) (h : Heap) (L : List Loc) : Prop := v = none ∧ Fr n0 L ∧ h0.size ≤ h.size ∧ ∃ (r : Addr) (C : Nat), n0 ≤ r ∧ sz.toInt < C ∧ OTab Z h a1 r sz 0 C (fun _ => 0)
set_option maxRecDepth 65536 in
set_option maxHeartbeats 40000000 in
theorem rm_ini (l : Launch) (Z : State) (a0 : Array Value) (hw : ∀ d ∈ tables_1, d.before a0 Z = true) (ws : List Jvm.Cond) (a1 : Addr) (sz : Int32) (h0 : Heap) (n0 : Nat) (Z0 : n0 ≤ h0.size) (ga : n0 ≤ a1) (hs : 0 ≤ sz.toInt ∧ sz.toInt ≤ 6) (Ea : Exa Z h0 a1 "com/example/tagwire/tagwire/dictionary/TagTable") (F1 : Fld Z h0 a1 "com/example/tagwire/tagwire/dictionary/TagTable" "slots" "[I" .null) (F2 : Fld Z h0 a1 "com/example/tagwire/tagwire/dictionary/TagTable" "size" "I" (.int 0)) (F3 : Fld Z h0 a1 "com/example/tagwire/tagwire/dictionary/TagTable" "count" "I" (.int 0)) :
    MetFree l (⟨"com/example/tagwire/tagwire/dictionary/TagTable", "<init>", "(I)V"⟩ : MethodName) (head1 (Jvm.Cond.code (⟨"com/example/tagwire/tagwire/dictionary/TagTable", "<init>", "(I)V"⟩ : MethodName) prog_48_method_1_code 2 none :: ws) ({ frames := 2, cells := 1, slots := 32, locals := 29 } : Room)) (fun a U => a = #[(.ref a1), (.int sz)] ∧ Z.Warmed39 U.vm ∧ U.heap = h0) (fun _ _ _ _ _ => True) (fun _ U o U' => ∃ v L, o = .returned v ∧ Q_ini Z a1 sz h0 n0 v U'.heap L ∧ FrameEnd U o U' L ({ frames := 2, cells := 1, slots := 32, locals := 29 } : Room).cells ({ frames := 2, cells := 1, slots := 32, locals := 29 } : Room).slots) := by
  refine MetFree.of_bodySF (plainFor_of_name pn_com_example_tagwire_tagwire_dictionary_TagTable) hisR ?_
  intro p e s m args below meth c s₁ Bd hml0 hP hK
  obtain ⟨rfl, hZ, hh⟩ := hP
  have hx := Bd.exec
  have hby := Bd.bytes
  have hml : c.maxLocals = 2 := hml0
  have hown : s.vm.findClass "com/example/tagwire/tagwire/dictionary/TagTable" = some m.cls := findClass_of_methodNamed Bd.named
  have hnm := (name_of_methodNamed Bd.named Bd.method).1
  have X0 : Stand p l e ({ frames := 2, cells := 1, slots := 32, locals := 29 } : Room) s m #[(.ref a1), (.int sz)] below meth c s₁ [] 0 0 := Stand.of_body Bd
  have e0 : s₁.heap = h0 := by rw [← hh, Bd.state]; rfl
  have N0 := Fr.nil n0
  obtain ⟨S0, hS0⟩ : ∃ S0, S0 = s₁.setTop (entryFrame m #[(.ref a1), (.int sz)] 2) := ⟨_, rfl⟩
  have pre : Pth p e below S0 s₁ (mkF m 0 #[.val (.ref a1), .val (.int sz)] []) := fun t k => by rw [hS0]; exact castTop (ef_ini m a1 sz) k
  replace pre : Pth p e below S0 s₁ (mkF m 1 #[.val (.ref a1), .val (.int sz)] [(.ref a1)]) := fun t k => pre t (by
    show Steps p.tables e below (s₁.setTop (mkF m 0 #[.val (.ref a1), .val (.int sz)] [])) t
    refine XS.aloadN X0.here hx rfl (hb hby d_ini_0) rfl rfl ?_
    show Steps p.tables e below (s₁.setTop (mkF m 1 #[.val (.ref a1), .val (.int sz)] [(.ref a1)])) t
    exact k)
  obtain ⟨T2, X2, e2, st2⟩ := initO X0 hx hZ hown (hw _ (List.mem_of_getElem? (i := 7) rfl)) (hw _ (List.mem_of_getElem? (i := 8) rfl)) (hw _ (List.mem_of_getElem? (i := 9) rfl)) e0 (g := (mkF m 1 #[.val (.ref a1), .val (.int sz)] [(.ref a1)])) rfl (by rw [hml]; rfl) rfl (hb hby d_ini_1) (by decide) (W := 0) (by show 2 * 0 + _ ≤ _; exact Nat.le_of_eq rfl) (by decide)
  replace pre : Pth p e below S0 T2 (mkF m 4 #[.val (.ref a1), .val (.int sz)] []) := fun t k => pre t (st2 _ k)
  replace pre : Pth p e below S0 T2 (mkF m 10 #[.val (.ref a1), .val (.int sz)] [(.int ((2 : Int32) * sz)), (.int (2 : Int32)), (.int (2 : Int32)), (.ref a1)]) := fun t k => pre t (by
    show Steps p.tables e below (T2.setTop (mkF m 4 #[.val (.ref a1), .val (.int sz)] [])) t
    refine XS.aloadN X2.here hx rfl (hb hby d_ini_4) rfl rfl ?_
    show Steps p.tables e below (T2.setTop (mkF m 5 #[.val (.ref a1), .val (.int sz)] [(.ref a1)])) t
    refine XS.iconst X2.here hx rfl (hb hby d_ini_5) ?_
    show Steps p.tables e below (T2.setTop (mkF m 6 #[.val (.ref a1), .val (.int sz)] [(.int (2 : Int32)), (.ref a1)])) t
    refine XS.iconst X2.here hx rfl (hb hby d_ini_6) ?_
    show Steps p.tables e below (T2.setTop (mkF m 7 #[.val (.ref a1), .val (.int sz)] [(.int (2 : Int32)), (.int (2 : Int32)), (.ref a1)])) t
    refine XS.iconst X2.here hx rfl (hb hby d_ini_7) ?_
    show Steps p.tables e below (T2.setTop (mkF m 8 #[.val (.ref a1), .val (.int sz)] [(.int (2 : Int32)), (.int (2 : Int32)), (.int (2 : Int32)), (.ref a1)])) t
    refine XS.iloadN X2.here hx rfl (hb hby d_ini_8) rfl ?_
    show Steps p.tables e below (T2.setTop (mkF m 9 #[.val (.ref a1), .val (.int sz)] [(.int sz), (.int (2 : Int32)), (.int (2 : Int32)), (.int (2 : Int32)), (.ref a1)])) t
    refine XS.imul X2.here hx rfl (hb hby d_ini_9) rfl ?_
    show Steps p.tables e below (T2.setTop (mkF m 10 #[.val (.ref a1), .val (.int sz)] [(.int ((2 : Int32) * sz)), (.int (2 : Int32)), (.int (2 : Int32)), (.ref a1)])) t
    exact k)
  obtain ⟨_, _, ⟨T3, L3, k3, n3⟩, -, X3, ⟨Lc3, hQ3, l3, y3, z3⟩, st3⟩ := Jvm.LawKit.callS X2 hx (y := (⟨"java/lang/Math", "max", "(II)I"⟩ : MethodName)) hown (mvT hZ (hw _ (List.mem_of_getElem? (i := 10) rfl))) (mvT hZ (hw _ (List.mem_of_getElem? (i := 11) rfl))) (mvT hZ (hw _ (List.mem_of_getElem? (i := 12) rfl))) (mvT hZ (hw _ (List.mem_of_getElem? (i := 13) rfl))) (by decide) (backOf (W := 2) (rm_max l Z a0 hw [] (2 : Int32) ((2 : Int32) * sz) h0 n0) hZ (hw _ (List.mem_of_getElem? (i := 13) rfl)) (hw _ (List.mem_of_getElem? (i := 12) rfl)) (by decide) (by decide)) (g := (mkF m 10 #[.val (.ref a1), .val (.int sz)] [(.int ((2 : Int32) * sz)), (.int (2 : Int32)), (.int (2 : Int32)), (.ref a1)])) rfl (by rw [hml]; rfl) (argsL := [(.int (2 : Int32)), (.int ((2 : Int32) * sz))]) (rest := [(.int (2 : Int32)), (.ref a1)]) (lenOf pd__II_I rfl) rfl (by show 2 * 0 + _ ≤ _; exact Nat.le_of_eq rfl) (hb hby d_ini_10) (fun _ _ => ⟨rfl, e2, (by decide : 0 + 0 ≤ _), (by decide : 0 + 0 ≤ _)⟩)
  dsimp only [Pt.U, Pt.locs, Pt.cells, Pt.slots] at X3 l3 y3 z3 st3 hQ3
  subst l3 y3 z3
  obtain ⟨rfl, N3q, e3⟩ := hQ3
  have N3 := Fr.app N0 N3q
  replace pre : Pth p e below S0 T3 (mkF m 13 #[.val (.ref a1), .val (.int sz)] [(.int (own_max (2 : Int32) ((2 : Int32) * sz))), (.int (2 : Int32)), (.ref a1)]) := fun t k => pre t (st3 _ k)
  replace pre : Pth p e below S0 T3 (mkF m 15 #[.val (.ref a1), .val (.int sz)] [(.int ((own_max (2 : Int32) ((2 : Int32) * sz)) - (1 : Int32))), (.int (2 : Int32)), (.ref a1)]) := fun t k => pre t (by
    show Steps p.tables e below (T3.setTop (mkF m 13 #[.val (.ref a1), .val (.int sz)] [(.int (own_max (2 : Int32) ((2 : Int32) * sz))), (.int (2 : Int32)), (.ref a1)])) t
    refine XS.iconst X3.here hx rfl (hb hby d_ini_13) ?_
    show Steps p.tables e below (T3.setTop (mkF m 14 #[.val (.ref a1), .val (.int sz)] [(.int (1 : Int32)), (.int (own_max (2 : Int32) ((2 : Int32) * sz))), (.int (2 : Int32)), (.ref a1)])) t
    refine XS.isub X3.here hx rfl (hb hby d_ini_14) rfl ?_
    show Steps p.tables e below (T3.setTop (mkF m 15 #[.val (.ref a1), .val (.int sz)] [(.int ((own_max (2 : Int32) ((2 : Int32) * sz)) - (1 : Int32))), (.int (2 : Int32)), (.ref a1)])) t
    exact k)
  obtain ⟨_, _, ⟨T4, L4, k4, n4⟩, -, X4, ⟨Lc4, hQ4, l4, y4, z4⟩, st4⟩ := Jvm.LawKit.callS X3 hx (y := (⟨"java/lang/Integer", "highestOneBit", "(I)I"⟩ : MethodName)) hown (mvT hZ (hw _ (List.mem_of_getElem? (i := 14) rfl))) (mvT hZ (hw _ (List.mem_of_getElem? (i := 15) rfl))) (mvT hZ (hw _ (List.mem_of_getElem? (i := 16) rfl))) (mvT hZ (hw _ (List.mem_of_getElem? (i := 17) rfl))) (by decide) (backOf (W := 2) (rm_hob l Z a0 hw [] ((own_max (2 : Int32) ((2 : Int32) * sz)) - (1 : Int32)) h0 n0) hZ (hw _ (List.mem_of_getElem? (i := 17) rfl)) (hw _ (List.mem_of_getElem? (i := 16) rfl)) (by decide) (by decide)) (g := (mkF m 15 #[.val (.ref a1), .val (.int sz)] [(.int ((own_max (2 : Int32) ((2 : Int32) * sz)) - (1 : Int32))), (.int (2 : Int32)), (.ref a1)])) rfl (by rw [hml]; rfl) (argsL := [(.int ((own_max (2 : Int32) ((2 : Int32) * sz)) - (1 : Int32)))]) (rest := [(.int (2 : Int32)), (.ref a1)]) (lenOf pd__I_I rfl) rfl (by show 2 * 0 + _ ≤ _; exact Nat.le_of_eq rfl) (hb hby d_ini_15) (fun _ _ => ⟨rfl, e3, (by decide : 0 + 0 ≤ _), (by decide : 0 + 0 ≤ _)⟩)
  dsimp only [Pt.U, Pt.locs, Pt.cells, Pt.slots] at X4 l4 y4 z4 st4 hQ4
  subst l4 y4 z4
  obtain ⟨rfl, N4q, e4⟩ := hQ4
  have N4 := Fr.app N3 N4q
  replace pre : Pth p e below S0 T4 (mkF m 18 #[.val (.ref a1), .val (.int sz)] [(.int (own_hob ((own_max (2 : Int32) ((2 : Int32) * sz)) - (1 : Int32)))), (.int (2 : Int32)), (.ref a1)]) := fun t k => pre t (st4 _ k)
  replace pre : Pth p e below S0 T4 (mkF m 21 #[.val (.ref a1), .val (.int sz)] [(.int ((2 : Int32) * ((own_hob ((own_max (2 : Int32) ((2 : Int32) * sz)) - (1 : Int32))) <<< ((1 : Int32) &&& 31)))), (.ref a1)]) := fun t k => pre t (by
    show Steps p.tables e below (T4.setTop (mkF m 18 #[.val (.ref a1), .val (.int sz)] [(.int (own_hob ((own_max (2 : Int32) ((2 : Int32) * sz)) - (1 : Int32)))), (.int (2 : Int32)), (.ref a1)])) t
    refine XS.iconst X4.here hx rfl (hb hby d_ini_18) ?_
    show Steps p.tables e below (T4.setTop (mkF m 19 #[.val (.ref a1), .val (.int sz)] [(.int (1 : Int32)), (.int (own_hob ((own_max (2 : Int32) ((2 : Int32) * sz)) - (1 : Int32)))), (.int (2 : Int32)), (.ref a1)])) t
    refine XS.ishl X4.here hx rfl (hb hby d_ini_19) rfl ?_
    show Steps p.tables e below (T4.setTop (mkF m 20 #[.val (.ref a1), .val (.int sz)] [(.int ((own_hob ((own_max (2 : Int32) ((2 : Int32) * sz)) - (1 : Int32))) <<< ((1 : Int32) &&& 31))), (.int (2 : Int32)), (.ref a1)])) t
    refine XS.imul X4.here hx rfl (hb hby d_ini_20) rfl ?_
    show Steps p.tables e below (T4.setTop (mkF m 21 #[.val (.ref a1), .val (.int sz)] [(.int ((2 : Int32) * ((own_hob ((own_max (2 : Int32) ((2 : Int32) * sz)) - (1 : Int32))) <<< ((1 : Int32) &&& 31)))), (.ref a1)])) t
    exact k)
  obtain ⟨k, hk, hkI⟩ := own_sz hs
  obtain ⟨hp, hlt, hle, hcl, hng⟩ := own_capAll k
  obtain ⟨len, hlen⟩ : ∃ z : Int32, z = ((2 : Int32) * ((own_hob ((own_max (2 : Int32) ((2 : Int32) * sz)) - (1 : Int32))) <<< ((1 : Int32) &&& 31))) := ⟨_, rfl⟩
  rw [← hlen] at pre
  have hln : len = Int32.ofNat (2 * own_cap k.val) := by rw [hlen, hk]; exact own_lnAll k
  obtain ⟨T5, h5, k5, X5, e5, E5, A5, st5⟩ := newP X4 hx hZ (hw _ (List.mem_of_getElem? (i := 23) rfl)) e4 (g := (mkF m 21 #[.val (.ref a1), .val (.int sz)] [(.int len), (.ref a1)])) rfl (hb hby d_ini_21) rfl (by rw [hln]; exact hng) (cap := 32) (by rw [hln, hcl]; exact hle) (by decide) (by decide) (by decide)
  obtain ⟨b5, g5⟩ : ∃ z, z = h0.size := ⟨_, rfl⟩
  rw [← g5] at A5 st5
  have F5 := OFun.new A5
  replace pre : Pth p e below S0 T5 (mkF m 23 #[.val (.ref a1), .val (.int sz)] [(.ref b5), (.ref a1)]) := fun t k => pre t (st5 _ k)
  have F1a := F1.ext E5
  obtain ⟨T6, h6, X6, e6, W6, st6⟩ := putF X5 hx hZ hown (host := "") (Or.inl (hw _ (List.mem_of_getElem? (i := 24) rfl))) Via.refl e5 F1a (Ea.ext E5) (Or.inr ⟨(hw _ (List.mem_of_getElem? (i := 25) rfl)), rfl, hnm⟩) (hw _ (List.mem_of_getElem? (i := 2) rfl)) (ty := (.array .int)) (by decide) rfl rfl (g := (mkF m 23 #[.val (.ref a1), .val (.int sz)] [(.ref b5), (.ref a1)])) rfl rfl (hb hby d_ini_23)
  have N6 := Fr.snoc X6 N4 ga
  replace pre : Pth p e below S0 T6 (mkF m 26 #[.val (.ref a1), .val (.int sz)] []) := fun t k => pre t (st6 _ k)
  have F1b := F1a.same W6
  have F2b := (F2.ext E5).other W6 (Or.inr (slot_ne (Or.inr (hw _ (List.mem_of_getElem? (i := 27) rfl))) (Or.inr (hw _ (List.mem_of_getElem? (i := 25) rfl))) (by decide) (t := .int) (t' := (.array .int)) (by decide) (by decide)))
  have F3b := (F3.ext E5).other W6 (Or.inr (slot_ne (Or.inl (hw _ (List.mem_of_getElem? (i := 48) rfl))) (Or.inr (hw _ (List.mem_of_getElem? (i := 25) rfl))) (by decide) (t := .int) (t' := (.array .int)) (by decide) (by decide)))
  have Eb := (Ea.ext E5).wr W6
  have hne : a1 ≠ b5 := by rw [g5]; exact Nat.ne_of_lt Ea.lt
  have Fb := F5.other W6 hne.symm
  replace pre : Pth p e below S0 T6 (mkF m 28 #[.val (.ref a1), .val (.int sz)] [(.int sz), (.ref a1)]) := fun t k => pre t (by
    show Steps p.tables e below (T6.setTop (mkF m 26 #[.val (.ref a1), .val (.int sz)] [])) t
    refine XS.aloadN X6.here hx rfl (hb hby d_ini_26) rfl rfl ?_
    show Steps p.tables e below (T6.setTop (mkF m 27 #[.val (.ref a1), .val (.int sz)] [(.ref a1)])) t
    refine XS.iloadN X6.here hx rfl (hb hby d_ini_27) rfl ?_
    show Steps p.tables e below (T6.setTop (mkF m 28 #[.val (.ref a1), .val (.int sz)] [(.int sz), (.ref a1)])) t
    exact k)
  obtain ⟨T7, h7, X7, e7, W7, st7⟩ := putF X6 hx hZ hown (host := "") (Or.inl (hw _ (List.mem_of_getElem? (i := 26) rfl))) Via.refl e6 F2b Eb (Or.inr ⟨(hw _ (List.mem_of_getElem? (i := 27) rfl)), rfl, hnm⟩) (hw _ (List.mem_of_getElem? (i := 2) rfl)) (ty := .int) (by decide) rfl rfl (g := (mkF m 28 #[.val (.ref a1), .val (.int sz)] [(.int sz), (.ref a1)])) rfl rfl (hb hby d_ini_28)
  have N7 := Fr.snoc X7 N6 ga
  replace pre : Pth p e below S0 T7 (mkF m 31 #[.val (.ref a1), .val (.int sz)] []) := fun t k => pre t (st7 _ k)
  have hsz : h0.size ≤ h7.size := by rw [W7.size, W6.size]; exact E5.1
  obtain ⟨fs, hr, hrun, hended, hW, hsame⟩ := X7.leave (v := none) (fun _ => rfl)
  subst hS0
  refine ⟨_, _, pre _ ?_, hrun, hended, _, _, rfl, ?_, ⟨_, rfl⟩, hW, hsame.mono (by decide) (by decide)⟩
  · exact X7.returnOut hx Bd.returns (hb hby d_ini_31) hr
  · show Q_ini Z a1 sz h0 n0 _ T7.heap _
    rw [e7]
    refine ⟨rfl, N7, hsz, b5, own_cap k.val, by rw [g5]; exact Z0, by rw [hkI]; exact_mod_cast hlt, F1b.other W7 (Or.inr (slot_ne (Or.inr (hw _ (List.mem_of_getElem? (i := 25) rfl))) (Or.inr (hw _ (List.mem_of_getElem? (i := 27) rfl))) (by decide) (t := (.array .int)) (t' := .int) (by decide) (by decide))), F2b.same W7, F3b.other W7 (Or.inr (slot_ne (Or.inl (hw _ (List.mem_of_getElem? (i := 48) rfl))) (Or.inr (hw _ (List.mem_of_getElem? (i := 27) rfl))) (by decide) (t := .int) (t' := .int) (by decide) (by decide))), Eb.wr W7, ?_, hne, hp⟩
    have Fc := Fb.other W7 hne.symm
    rw [hln, hcl] at Fc
    exact Fc
def Q_slot (Z : State) (a1 : Addr) (t1 : Int32) (r : Addr) (sz cn : Int32) (C : Nat) (f : Nat → Int32) (h0 : Heap) (n0 : Nat) (v : Option Value) (h : Heap) (L : List Loc) : Prop := ∃ i, v = some (.int (Int32.ofNat (2 * i))) ∧ Fr n0 L ∧ h = h0 ∧ i < C ∧ OSlot f C t1 i
set_option maxRecDepth 65536 in
set_option maxHeartbeats 40000000 in
theorem rm_slot (l : Launch) (Z : State) (a0 : Array Value) (hw : ∀ d ∈ tables_1, d.before a0 Z = true) (ws : List Jvm.Cond) (a1 : Addr) (t1 : Int32) (r : Addr) (sz cn : Int32) (C : Nat) (f : Nat → Int32) (h0 : Heap) (n0 : Nat) (hT : OTab Z h0 a1 r sz cn C f) (hex : ∃ i, i < C ∧ f (2 * i + 1) = 0) :
    MetFree l (⟨"com/example/tagwire/tagwire/dictionary/TagTable", "slot", "(I)I"⟩ : MethodName) (head1 (Jvm.Cond.code (⟨"com/example/tagwire/tagwire/dictionary/TagTable", "slot", "(I)I"⟩ : MethodName) prog_48_method_4_code 5 (some .int) :: ws) ({ frames := 0, cells := 0, slots := 0, locals := 0 } : Room)) (fun a U => a = #[(.ref a1), (.int t1)] ∧ Z.Warmed39 U.vm ∧ U.heap = h0) (fun _ _ _ _ _ => True) (fun _ U o U' => ∃ v L, o = .returned v ∧ Q_slot Z a1 t1 r sz cn C f h0 n0 v U'.heap L ∧ FrameEnd U o U' L ({ frames := 0, cells := 0, slots := 0, locals := 0 } : Room).cells ({ frames := 0, cells := 0, slots := 0, locals := 0 } : Room).slots) := by
  refine MetFree.of_bodySF (plainFor_of_name pn_com_example_tagwire_tagwire_dictionary_TagTable) hisR ?_
  intro p e s m args below meth c s₁ Bd hml0 hP hK
  obtain ⟨rfl, hZ, hh⟩ := hP
  have hx := Bd.exec
  have hby := Bd.bytes
  have hml : c.maxLocals = 5 := hml0
  have hown : s.vm.findClass "com/example/tagwire/tagwire/dictionary/TagTable" = some m.cls := findClass_of_methodNamed Bd.named
  have hnm := (name_of_methodNamed Bd.named Bd.method).1
  have X0 : Stand p l e ({ frames := 0, cells := 0, slots := 0, locals := 0 } : Room) s m #[(.ref a1), (.int t1)] below meth c s₁ [] 0 0 := Stand.of_body Bd
  have e0 : s₁.heap = h0 := by rw [← hh, Bd.state]; rfl
  have N0 := Fr.nil n0
  obtain ⟨S0, hS0⟩ : ∃ S0, S0 = s₁.setTop (entryFrame m #[(.ref a1), (.int t1)] 5) := ⟨_, rfl⟩
  have pre : Pth p e below S0 s₁ (mkF m 0 #[.val (.ref a1), .val (.int t1), .unset, .unset, .unset] []) := fun t k => by rw [hS0]; exact castTop (ef_slot m a1 t1) k
  obtain ⟨F1, F2, F3, Ea, Fa, hne, hC⟩ := hT
  have h16 := own_pow16 hC
  obtain ⟨d, hd1, hd2⟩ := own_walkd t1 (own_hlt hC t1) hex
  replace pre : Pth p e below S0 s₁ (mkF m 1 #[.val (.ref a1), .val (.int t1), .unset, .unset, .unset] [(.ref a1)]) := fun t k => pre t (by
    show Steps p.tables e below (s₁.setTop (mkF m 0 #[.val (.ref a1), .val (.int t1), .unset, .unset, .unset] [])) t
    refine XS.aloadN X0.here hx rfl (hb hby d_slot_0) rfl rfl ?_
    show Steps p.tables e below (s₁.setTop (mkF m 1 #[.val (.ref a1), .val (.int t1), .unset, .unset, .unset] [(.ref a1)])) t
    exact k)
  obtain ⟨T8, X8, e8, st8⟩ := getF X0 hx hZ hown (host := "") (Or.inl (hw _ (List.mem_of_getElem? (i := 24) rfl))) Via.refl e0 F1 (g := (mkF m 1 #[.val (.ref a1), .val (.int t1), .unset, .unset, .unset] [(.ref a1)])) rfl rfl (hb hby d_slot_1)
  replace pre : Pth p e below S0 T8 (mkF m 4 #[.val (.ref a1), .val (.int t1), .unset, .unset, .unset] [(.ref r)]) := fun t k => pre t (st8 _ k)
  obtain ⟨cl9, Ar9, Sz9, -⟩ := id Fa
  have hln9 : cl9.slots.size.toInt32 = ((2 * C).toInt32) := (congrArg Nat.toInt32 Sz9).trans (rfl)
  replace pre : Pth p e below S0 T8 (mkF m 10 #[.val (.ref a1), .val (.int t1), .val (.int ((((2 * C).toInt32) / (2 : Int32)) - (1 : Int32))), .unset, .unset] []) := fun t k => pre t (by
    show Steps p.tables e below (T8.setTop (mkF m 4 #[.val (.ref a1), .val (.int t1), .unset, .unset, .unset] [(.ref r)])) t
    refine X8.arraylength hx (by rw [e8]; exact Ar9.1) (State.isArrayOf_alike hZ.alike Ar9.2.1) (g := (mkF m 4 #[.val (.ref a1), .val (.int t1), .unset, .unset, .unset] [(.ref r)])) rfl rfl (hb hby d_slot_4) _ ?_
    rw [hln9]
    show Steps p.tables e below (T8.setTop (mkF m 5 #[.val (.ref a1), .val (.int t1), .unset, .unset, .unset] [(.int ((2 * C).toInt32))])) t
    refine XS.iconst X8.here hx rfl (hb hby d_slot_5) ?_
    show Steps p.tables e below (T8.setTop (mkF m 6 #[.val (.ref a1), .val (.int t1), .unset, .unset, .unset] [(.int (2 : Int32)), (.int ((2 * C).toInt32))])) t
    refine XS.idiv X8.here hx rfl (hb hby d_slot_6) rfl (by decide) ?_
    show Steps p.tables e below (T8.setTop (mkF m 7 #[.val (.ref a1), .val (.int t1), .unset, .unset, .unset] [(.int (((2 * C).toInt32) / (2 : Int32)))])) t
    refine XS.iconst X8.here hx rfl (hb hby d_slot_7) ?_
    show Steps p.tables e below (T8.setTop (mkF m 8 #[.val (.ref a1), .val (.int t1), .unset, .unset, .unset] [(.int (1 : Int32)), (.int (((2 * C).toInt32) / (2 : Int32)))])) t
    refine XS.isub X8.here hx rfl (hb hby d_slot_8) rfl ?_
    show Steps p.tables e below (T8.setTop (mkF m 9 #[.val (.ref a1), .val (.int t1), .unset, .unset, .unset] [(.int ((((2 * C).toInt32) / (2 : Int32)) - (1 : Int32)))])) t
    refine XS.istoreN X8.here hx rfl (hb hby d_slot_9) rfl (l' := #[.val (.ref a1), .val (.int t1), .val (.int ((((2 * C).toInt32) / (2 : Int32)) - (1 : Int32))), .unset, .unset]) rfl ?_
    show Steps p.tables e below (T8.setTop (mkF m 10 #[.val (.ref a1), .val (.int t1), .val (.int ((((2 * C).toInt32) / (2 : Int32)) - (1 : Int32))), .unset, .unset] [])) t
    exact k)
  rw [own_maskAll hC] at pre
  replace pre : Pth p e below S0 T8 (mkF m 25 #[.val (.ref a1), .val (.int t1), .val (.int (Int32.ofNat (C - 1))), .val (.int (t1 * (-1640531527 : Int32))), .val (.int (((t1 * (-1640531527 : Int32)) ^^^ (((t1 * (-1640531527 : Int32)).toUInt32 >>> ((16 : Int32) &&& 31).toUInt32).toInt32)) &&& (Int32.ofNat (C - 1))))] []) := fun t k => pre t (by
    show Steps p.tables e below (T8.setTop (mkF m 10 #[.val (.ref a1), .val (.int t1), .val (.int (Int32.ofNat (C - 1))), .unset, .unset] [])) t
    refine XS.iloadN X8.here hx rfl (hb hby d_slot_10) rfl ?_
    show Steps p.tables e below (T8.setTop (mkF m 11 #[.val (.ref a1), .val (.int t1), .val (.int (Int32.ofNat (C - 1))), .unset, .unset] [(.int t1)])) t
    refine X8.ldcInt hx hown (mvT hZ (hw _ (List.mem_of_getElem? (i := 37) rfl))) (g := (mkF m 11 #[.val (.ref a1), .val (.int t1), .val (.int (Int32.ofNat (C - 1))), .unset, .unset] [(.int t1)])) rfl (hb hby d_slot_11) _ ?_
    show Steps p.tables e below (T8.setTop (mkF m 13 #[.val (.ref a1), .val (.int t1), .val (.int (Int32.ofNat (C - 1))), .unset, .unset] [(.int (-1640531527 : Int32)), (.int t1)])) t
    refine XS.imul X8.here hx rfl (hb hby d_slot_13) rfl ?_
    show Steps p.tables e below (T8.setTop (mkF m 14 #[.val (.ref a1), .val (.int t1), .val (.int (Int32.ofNat (C - 1))), .unset, .unset] [(.int (t1 * (-1640531527 : Int32)))])) t
    refine XS.istoreN X8.here hx rfl (hb hby d_slot_14) rfl (l' := #[.val (.ref a1), .val (.int t1), .val (.int (Int32.ofNat (C - 1))), .val (.int (t1 * (-1640531527 : Int32))), .unset]) rfl ?_
    show Steps p.tables e below (T8.setTop (mkF m 15 #[.val (.ref a1), .val (.int t1), .val (.int (Int32.ofNat (C - 1))), .val (.int (t1 * (-1640531527 : Int32))), .unset] [])) t
    refine XS.iloadN X8.here hx rfl (hb hby d_slot_15) rfl ?_
    show Steps p.tables e below (T8.setTop (mkF m 16 #[.val (.ref a1), .val (.int t1), .val (.int (Int32.ofNat (C - 1))), .val (.int (t1 * (-1640531527 : Int32))), .unset] [(.int (t1 * (-1640531527 : Int32)))])) t
    refine XS.iloadN X8.here hx rfl (hb hby d_slot_16) rfl ?_
    show Steps p.tables e below (T8.setTop (mkF m 17 #[.val (.ref a1), .val (.int t1), .val (.int (Int32.ofNat (C - 1))), .val (.int (t1 * (-1640531527 : Int32))), .unset] [(.int (t1 * (-1640531527 : Int32))), (.int (t1 * (-1640531527 : Int32)))])) t
    refine XS.bipush X8.here hx rfl (hb hby d_slot_17) ?_
    show Steps p.tables e below (T8.setTop (mkF m 19 #[.val (.ref a1), .val (.int t1), .val (.int (Int32.ofNat (C - 1))), .val (.int (t1 * (-1640531527 : Int32))), .unset] [(.int (16 : Int32)), (.int (t1 * (-1640531527 : Int32))), (.int (t1 * (-1640531527 : Int32)))])) t
    refine XS.iushr X8.here hx rfl (hb hby d_slot_19) rfl ?_
    show Steps p.tables e below (T8.setTop (mkF m 20 #[.val (.ref a1), .val (.int t1), .val (.int (Int32.ofNat (C - 1))), .val (.int (t1 * (-1640531527 : Int32))), .unset] [(.int (((t1 * (-1640531527 : Int32)).toUInt32 >>> ((16 : Int32) &&& 31).toUInt32).toInt32)), (.int (t1 * (-1640531527 : Int32)))])) t
    refine XS.ixor X8.here hx rfl (hb hby d_slot_20) rfl ?_
    show Steps p.tables e below (T8.setTop (mkF m 21 #[.val (.ref a1), .val (.int t1), .val (.int (Int32.ofNat (C - 1))), .val (.int (t1 * (-1640531527 : Int32))), .unset] [(.int ((t1 * (-1640531527 : Int32)) ^^^ (((t1 * (-1640531527 : Int32)).toUInt32 >>> ((16 : Int32) &&& 31).toUInt32).toInt32)))])) t
    refine XS.iloadN X8.here hx rfl (hb hby d_slot_21) rfl ?_
    show Steps p.tables e below (T8.setTop (mkF m 22 #[.val (.ref a1), .val (.int t1), .val (.int (Int32.ofNat (C - 1))), .val (.int (t1 * (-1640531527 : Int32))), .unset] [(.int (Int32.ofNat (C - 1))), (.int ((t1 * (-1640531527 : Int32)) ^^^ (((t1 * (-1640531527 : Int32)).toUInt32 >>> ((16 : Int32) &&& 31).toUInt32).toInt32)))])) t
    refine XS.iand X8.here hx rfl (hb hby d_slot_22) rfl ?_
    show Steps p.tables e below (T8.setTop (mkF m 23 #[.val (.ref a1), .val (.int t1), .val (.int (Int32.ofNat (C - 1))), .val (.int (t1 * (-1640531527 : Int32))), .unset] [(.int (((t1 * (-1640531527 : Int32)) ^^^ (((t1 * (-1640531527 : Int32)).toUInt32 >>> ((16 : Int32) &&& 31).toUInt32).toInt32)) &&& (Int32.ofNat (C - 1))))])) t
    refine XS.istore X8.here hx rfl (hb hby d_slot_23) rfl (l' := #[.val (.ref a1), .val (.int t1), .val (.int (Int32.ofNat (C - 1))), .val (.int (t1 * (-1640531527 : Int32))), .val (.int (((t1 * (-1640531527 : Int32)) ^^^ (((t1 * (-1640531527 : Int32)).toUInt32 >>> ((16 : Int32) &&& 31).toUInt32).toInt32)) &&& (Int32.ofNat (C - 1))))]) rfl ?_
    show Steps p.tables e below (T8.setTop (mkF m 25 #[.val (.ref a1), .val (.int t1), .val (.int (Int32.ofNat (C - 1))), .val (.int (t1 * (-1640531527 : Int32))), .val (.int (((t1 * (-1640531527 : Int32)) ^^^ (((t1 * (-1640531527 : Int32)).toUInt32 >>> ((16 : Int32) &&& 31).toUInt32).toInt32)) &&& (Int32.ofNat (C - 1))))] [])) t
    exact k)
  replace pre : Pth p e below S0 T8 (mkF m 25 #[.val (.ref a1), .val (.int t1), .val (.int (Int32.ofNat (C - 1))), .val (.int (t1 * (-1640531527 : Int32))), .val (.int (own_hx t1 (Int32.ofNat (C - 1))))] []) := pre
  rw [own_hval hC t1] at pre
  have loop : ∀ (k e' : Nat) (T : State), e' + k = d → Stand p l e ({ frames := 0, cells := 0, slots := 0, locals := 0 } : Room) s m #[(.ref a1), (.int t1)] below meth c T [] 0 0 → T.heap = h0 → Pth p e below S0 T (mkF m 25 #[.val (.ref a1), .val (.int t1), .val (.int (Int32.ofNat (C - 1))), .val (.int (t1 * (-1640531527 : Int32))), .val (.int (Int32.ofNat ((own_hn t1 C + e') % C)))] []) → ∃ T' : State, Stand p l e ({ frames := 0, cells := 0, slots := 0, locals := 0 } : Room) s m #[(.ref a1), (.int t1)] below meth c T' [] 0 0 ∧ T'.heap = h0 ∧ Pth p e below S0 T' (mkF m 63 #[.val (.ref a1), .val (.int t1), .val (.int (Int32.ofNat (C - 1))), .val (.int (t1 * (-1640531527 : Int32))), .val (.int (Int32.ofNat ((own_hn t1 C + d) % C)))] []) := by
    intro k
    induction k with
    | zero =>
      intro e' T hk X eT pre
      obtain rfl : e' = d := by omega
      have hlt : (own_hn t1 C + e') % C < C := Nat.mod_lt _ (by omega)
      have hix := own_idx hC hlt
      replace pre : Pth p e below S0 T (mkF m 26 #[.val (.ref a1), .val (.int t1), .val (.int (Int32.ofNat (C - 1))), .val (.int (t1 * (-1640531527 : Int32))), .val (.int (Int32.ofNat ((own_hn t1 C + e') % C)))] [(.ref a1)]) := fun t k => pre t (by
        show Steps p.tables e below (T.setTop (mkF m 25 #[.val (.ref a1), .val (.int t1), .val (.int (Int32.ofNat (C - 1))), .val (.int (t1 * (-1640531527 : Int32))), .val (.int (Int32.ofNat ((own_hn t1 C + e') % C)))] [])) t
        refine XS.aloadN X.here hx rfl (hb hby d_slot_25) rfl rfl ?_
        show Steps p.tables e below (T.setTop (mkF m 26 #[.val (.ref a1), .val (.int t1), .val (.int (Int32.ofNat (C - 1))), .val (.int (t1 * (-1640531527 : Int32))), .val (.int (Int32.ofNat ((own_hn t1 C + e') % C)))] [(.ref a1)])) t
        exact k)
      obtain ⟨T10, X10, e10, st10⟩ := getF X hx hZ hown (host := "") (Or.inl (hw _ (List.mem_of_getElem? (i := 24) rfl))) Via.refl eT F1 (g := (mkF m 26 #[.val (.ref a1), .val (.int t1), .val (.int (Int32.ofNat (C - 1))), .val (.int (t1 * (-1640531527 : Int32))), .val (.int (Int32.ofNat ((own_hn t1 C + e') % C)))] [(.ref a1)])) rfl rfl (hb hby d_slot_26)
      replace pre : Pth p e below S0 T10 (mkF m 29 #[.val (.ref a1), .val (.int t1), .val (.int (Int32.ofNat (C - 1))), .val (.int (t1 * (-1640531527 : Int32))), .val (.int (Int32.ofNat ((own_hn t1 C + e') % C)))] [(.ref r)]) := fun t k => pre t (st10 _ k)
      replace pre : Pth p e below S0 T10 (mkF m 35 #[.val (.ref a1), .val (.int t1), .val (.int (Int32.ofNat (C - 1))), .val (.int (t1 * (-1640531527 : Int32))), .val (.int (Int32.ofNat ((own_hn t1 C + e') % C)))] [(.int (((2 : Int32) * (Int32.ofNat ((own_hn t1 C + e') % C))) + (1 : Int32))), (.ref r)]) := fun t k => pre t (by
        show Steps p.tables e below (T10.setTop (mkF m 29 #[.val (.ref a1), .val (.int t1), .val (.int (Int32.ofNat (C - 1))), .val (.int (t1 * (-1640531527 : Int32))), .val (.int (Int32.ofNat ((own_hn t1 C + e') % C)))] [(.ref r)])) t
        refine XS.iconst X10.here hx rfl (hb hby d_slot_29) ?_
        show Steps p.tables e below (T10.setTop (mkF m 30 #[.val (.ref a1), .val (.int t1), .val (.int (Int32.ofNat (C - 1))), .val (.int (t1 * (-1640531527 : Int32))), .val (.int (Int32.ofNat ((own_hn t1 C + e') % C)))] [(.int (2 : Int32)), (.ref r)])) t
        refine XS.iload X10.here hx rfl (hb hby d_slot_30) rfl ?_
        show Steps p.tables e below (T10.setTop (mkF m 32 #[.val (.ref a1), .val (.int t1), .val (.int (Int32.ofNat (C - 1))), .val (.int (t1 * (-1640531527 : Int32))), .val (.int (Int32.ofNat ((own_hn t1 C + e') % C)))] [(.int (Int32.ofNat ((own_hn t1 C + e') % C))), (.int (2 : Int32)), (.ref r)])) t
        refine XS.imul X10.here hx rfl (hb hby d_slot_32) rfl ?_
        show Steps p.tables e below (T10.setTop (mkF m 33 #[.val (.ref a1), .val (.int t1), .val (.int (Int32.ofNat (C - 1))), .val (.int (t1 * (-1640531527 : Int32))), .val (.int (Int32.ofNat ((own_hn t1 C + e') % C)))] [(.int ((2 : Int32) * (Int32.ofNat ((own_hn t1 C + e') % C)))), (.ref r)])) t
        refine XS.iconst X10.here hx rfl (hb hby d_slot_33) ?_
        show Steps p.tables e below (T10.setTop (mkF m 34 #[.val (.ref a1), .val (.int t1), .val (.int (Int32.ofNat (C - 1))), .val (.int (t1 * (-1640531527 : Int32))), .val (.int (Int32.ofNat ((own_hn t1 C + e') % C)))] [(.int (1 : Int32)), (.int ((2 : Int32) * (Int32.ofNat ((own_hn t1 C + e') % C)))), (.ref r)])) t
        refine XS.iadd X10.here hx rfl (hb hby d_slot_34) rfl ?_
        show Steps p.tables e below (T10.setTop (mkF m 35 #[.val (.ref a1), .val (.int t1), .val (.int (Int32.ofNat (C - 1))), .val (.int (t1 * (-1640531527 : Int32))), .val (.int (Int32.ofNat ((own_hn t1 C + e') % C)))] [(.int (((2 : Int32) * (Int32.ofNat ((own_hn t1 C + e') % C))) + (1 : Int32))), (.ref r)])) t
        exact k)
      obtain ⟨cl11, Ar11, Sz11, Gt11⟩ := id Fa
      have hin11 : ¬ ((((2 : Int32) * (Int32.ofNat ((own_hn t1 C + e') % C))) + (1 : Int32)) < 0 ∨ cl11.slots.size ≤ ((((2 : Int32) * (Int32.ofNat ((own_hn t1 C + e') % C))) + (1 : Int32))).toNatClampNeg) := by rw [Sz11]; exact (own_in hix.1 (by omega))
      have hat11 : cl11.slots[((((2 : Int32) * (Int32.ofNat ((own_hn t1 C + e') % C))) + (1 : Int32))).toNatClampNeg]? = some (.int (f (2 * ((own_hn t1 C + e') % C) + 1))) := (Gt11 _ (Nat.lt_of_lt_of_eq (Nat.lt_of_not_le fun q => hin11 (Or.inr q)) Sz11)).trans (congrArg some (by rw [own_cl hix.1]))
      replace pre : Pth p e below S0 T10 (mkF m 36 #[.val (.ref a1), .val (.int t1), .val (.int (Int32.ofNat (C - 1))), .val (.int (t1 * (-1640531527 : Int32))), .val (.int (Int32.ofNat ((own_hn t1 C + e') % C)))] [(.int (f (2 * ((own_hn t1 C + e') % C) + 1)))]) := fun t k => pre t (by
        show Steps p.tables e below (T10.setTop (mkF m 35 #[.val (.ref a1), .val (.int t1), .val (.int (Int32.ofNat (C - 1))), .val (.int (t1 * (-1640531527 : Int32))), .val (.int (Int32.ofNat ((own_hn t1 C + e') % C)))] [(.int (((2 : Int32) * (Int32.ofNat ((own_hn t1 C + e') % C))) + (1 : Int32))), (.ref r)])) t
        refine X10.iaload hx (j := (((2 : Int32) * (Int32.ofNat ((own_hn t1 C + e') % C))) + (1 : Int32))) (v := (.int (f (2 * ((own_hn t1 C + e') % C) + 1)))) (by rw [e10]; exact Ar11.1) (State.isArrayOf_alike hZ.alike Ar11.2.1) Ar11.2.2 hin11 hat11 (g := (mkF m 35 #[.val (.ref a1), .val (.int t1), .val (.int (Int32.ofNat (C - 1))), .val (.int (t1 * (-1640531527 : Int32))), .val (.int (Int32.ofNat ((own_hn t1 C + e') % C)))] [(.int (((2 : Int32) * (Int32.ofNat ((own_hn t1 C + e') % C))) + (1 : Int32))), (.ref r)])) rfl rfl (hb hby d_slot_35) _ ?_
        show Steps p.tables e below (T10.setTop (mkF m 36 #[.val (.ref a1), .val (.int t1), .val (.int (Int32.ofNat (C - 1))), .val (.int (t1 * (-1640531527 : Int32))), .val (.int (Int32.ofNat ((own_hn t1 C + e') % C)))] [(.int (f (2 * ((own_hn t1 C + e') % C) + 1)))])) t
        exact k)
      by_cases z0 : (f (2 * ((own_hn t1 C + e') % C) + 1)) = (0 : Int32)
      · replace pre : Pth p e below S0 T10 (mkF m 63 #[.val (.ref a1), .val (.int t1), .val (.int (Int32.ofNat (C - 1))), .val (.int (t1 * (-1640531527 : Int32))), .val (.int (Int32.ofNat ((own_hn t1 C + e') % C)))] []) := fun t k => pre t (by
          show Steps p.tables e below (T10.setTop (mkF m 36 #[.val (.ref a1), .val (.int t1), .val (.int (Int32.ofNat (C - 1))), .val (.int (t1 * (-1640531527 : Int32))), .val (.int (Int32.ofNat ((own_hn t1 C + e') % C)))] [(.int (f (2 * ((own_hn t1 C + e') % C) + 1)))])) t
          refine XS.ifYes X10.here hx rfl (pc0 := 36) (pc' := 63) rfl (hb hby d_slot_36) rfl (XT.i0_eq_t z0) (by decide) (by decide) ?_
          show Steps p.tables e below (T10.setTop (mkF m 63 #[.val (.ref a1), .val (.int t1), .val (.int (Int32.ofNat (C - 1))), .val (.int (t1 * (-1640531527 : Int32))), .val (.int (Int32.ofNat ((own_hn t1 C + e') % C)))] [])) t
          exact k)
        exact ⟨_, X10, e10, pre⟩
      · replace pre : Pth p e below S0 T10 (mkF m 40 #[.val (.ref a1), .val (.int t1), .val (.int (Int32.ofNat (C - 1))), .val (.int (t1 * (-1640531527 : Int32))), .val (.int (Int32.ofNat ((own_hn t1 C + e') % C)))] [(.ref a1)]) := fun t k => pre t (by
          show Steps p.tables e below (T10.setTop (mkF m 36 #[.val (.ref a1), .val (.int t1), .val (.int (Int32.ofNat (C - 1))), .val (.int (t1 * (-1640531527 : Int32))), .val (.int (Int32.ofNat ((own_hn t1 C + e') % C)))] [(.int (f (2 * ((own_hn t1 C + e') % C) + 1)))])) t
          refine XS.ifNo X10.here hx rfl (hb hby d_slot_36) rfl (XT.i0_eq_f z0) ?_
          show Steps p.tables e below (T10.setTop (mkF m 39 #[.val (.ref a1), .val (.int t1), .val (.int (Int32.ofNat (C - 1))), .val (.int (t1 * (-1640531527 : Int32))), .val (.int (Int32.ofNat ((own_hn t1 C + e') % C)))] [])) t
          refine XS.aloadN X10.here hx rfl (hb hby d_slot_39) rfl rfl ?_
          show Steps p.tables e below (T10.setTop (mkF m 40 #[.val (.ref a1), .val (.int t1), .val (.int (Int32.ofNat (C - 1))), .val (.int (t1 * (-1640531527 : Int32))), .val (.int (Int32.ofNat ((own_hn t1 C + e') % C)))] [(.ref a1)])) t
          exact k)
        obtain ⟨T12, X12, e12, st12⟩ := getF X10 hx hZ hown (host := "") (Or.inl (hw _ (List.mem_of_getElem? (i := 24) rfl))) Via.refl e10 F1 (g := (mkF m 40 #[.val (.ref a1), .val (.int t1), .val (.int (Int32.ofNat (C - 1))), .val (.int (t1 * (-1640531527 : Int32))), .val (.int (Int32.ofNat ((own_hn t1 C + e') % C)))] [(.ref a1)])) rfl rfl (hb hby d_slot_40)
        replace pre : Pth p e below S0 T12 (mkF m 43 #[.val (.ref a1), .val (.int t1), .val (.int (Int32.ofNat (C - 1))), .val (.int (t1 * (-1640531527 : Int32))), .val (.int (Int32.ofNat ((own_hn t1 C + e') % C)))] [(.ref r)]) := fun t k => pre t (st12 _ k)
        replace pre : Pth p e below S0 T12 (mkF m 47 #[.val (.ref a1), .val (.int t1), .val (.int (Int32.ofNat (C - 1))), .val (.int (t1 * (-1640531527 : Int32))), .val (.int (Int32.ofNat ((own_hn t1 C + e') % C)))] [(.int ((2 : Int32) * (Int32.ofNat ((own_hn t1 C + e') % C)))), (.ref r)]) := fun t k => pre t (by
          show Steps p.tables e below (T12.setTop (mkF m 43 #[.val (.ref a1), .val (.int t1), .val (.int (Int32.ofNat (C - 1))), .val (.int (t1 * (-1640531527 : Int32))), .val (.int (Int32.ofNat ((own_hn t1 C + e') % C)))] [(.ref r)])) t
          refine XS.iconst X12.here hx rfl (hb hby d_slot_43) ?_
          show Steps p.tables e below (T12.setTop (mkF m 44 #[.val (.ref a1), .val (.int t1), .val (.int (Int32.ofNat (C - 1))), .val (.int (t1 * (-1640531527 : Int32))), .val (.int (Int32.ofNat ((own_hn t1 C + e') % C)))] [(.int (2 : Int32)), (.ref r)])) t
          refine XS.iload X12.here hx rfl (hb hby d_slot_44) rfl ?_
          show Steps p.tables e below (T12.setTop (mkF m 46 #[.val (.ref a1), .val (.int t1), .val (.int (Int32.ofNat (C - 1))), .val (.int (t1 * (-1640531527 : Int32))), .val (.int (Int32.ofNat ((own_hn t1 C + e') % C)))] [(.int (Int32.ofNat ((own_hn t1 C + e') % C))), (.int (2 : Int32)), (.ref r)])) t
          refine XS.imul X12.here hx rfl (hb hby d_slot_46) rfl ?_
          show Steps p.tables e below (T12.setTop (mkF m 47 #[.val (.ref a1), .val (.int t1), .val (.int (Int32.ofNat (C - 1))), .val (.int (t1 * (-1640531527 : Int32))), .val (.int (Int32.ofNat ((own_hn t1 C + e') % C)))] [(.int ((2 : Int32) * (Int32.ofNat ((own_hn t1 C + e') % C)))), (.ref r)])) t
          exact k)
        obtain ⟨cl13, Ar13, Sz13, Gt13⟩ := id Fa
        have hin13 : ¬ (((2 : Int32) * (Int32.ofNat ((own_hn t1 C + e') % C))) < 0 ∨ cl13.slots.size ≤ (((2 : Int32) * (Int32.ofNat ((own_hn t1 C + e') % C)))).toNatClampNeg) := by rw [Sz13]; exact (own_in hix.2.1 (by omega))
        have hat13 : cl13.slots[(((2 : Int32) * (Int32.ofNat ((own_hn t1 C + e') % C)))).toNatClampNeg]? = some (.int (f (2 * ((own_hn t1 C + e') % C)))) := (Gt13 _ (Nat.lt_of_lt_of_eq (Nat.lt_of_not_le fun q => hin13 (Or.inr q)) Sz13)).trans (congrArg some (by rw [own_cl hix.2.1]))
        replace pre : Pth p e below S0 T12 (mkF m 63 #[.val (.ref a1), .val (.int t1), .val (.int (Int32.ofNat (C - 1))), .val (.int (t1 * (-1640531527 : Int32))), .val (.int (Int32.ofNat ((own_hn t1 C + e') % C)))] []) := fun t k => pre t (by
          show Steps p.tables e below (T12.setTop (mkF m 47 #[.val (.ref a1), .val (.int t1), .val (.int (Int32.ofNat (C - 1))), .val (.int (t1 * (-1640531527 : Int32))), .val (.int (Int32.ofNat ((own_hn t1 C + e') % C)))] [(.int ((2 : Int32) * (Int32.ofNat ((own_hn t1 C + e') % C)))), (.ref r)])) t
          refine X12.iaload hx (j := ((2 : Int32) * (Int32.ofNat ((own_hn t1 C + e') % C)))) (v := (.int (f (2 * ((own_hn t1 C + e') % C))))) (by rw [e12]; exact Ar13.1) (State.isArrayOf_alike hZ.alike Ar13.2.1) Ar13.2.2 hin13 hat13 (g := (mkF m 47 #[.val (.ref a1), .val (.int t1), .val (.int (Int32.ofNat (C - 1))), .val (.int (t1 * (-1640531527 : Int32))), .val (.int (Int32.ofNat ((own_hn t1 C + e') % C)))] [(.int ((2 : Int32) * (Int32.ofNat ((own_hn t1 C + e') % C)))), (.ref r)])) rfl rfl (hb hby d_slot_47) _ ?_
          show Steps p.tables e below (T12.setTop (mkF m 48 #[.val (.ref a1), .val (.int t1), .val (.int (Int32.ofNat (C - 1))), .val (.int (t1 * (-1640531527 : Int32))), .val (.int (Int32.ofNat ((own_hn t1 C + e') % C)))] [(.int (f (2 * ((own_hn t1 C + e') % C))))])) t
          refine XS.iloadN X12.here hx rfl (hb hby d_slot_48) rfl ?_
          show Steps p.tables e below (T12.setTop (mkF m 49 #[.val (.ref a1), .val (.int t1), .val (.int (Int32.ofNat (C - 1))), .val (.int (t1 * (-1640531527 : Int32))), .val (.int (Int32.ofNat ((own_hn t1 C + e') % C)))] [(.int t1), (.int (f (2 * ((own_hn t1 C + e') % C))))])) t
          refine XS.icmpYes X12.here hx rfl (pc0 := 49) (pc' := 63) rfl (hb hby d_slot_49) rfl (XT.ii_eq_t (hd1.resolve_left z0)) (by decide) (by decide) ?_
          show Steps p.tables e below (T12.setTop (mkF m 63 #[.val (.ref a1), .val (.int t1), .val (.int (Int32.ofNat (C - 1))), .val (.int (t1 * (-1640531527 : Int32))), .val (.int (Int32.ofNat ((own_hn t1 C + e') % C)))] [])) t
          exact k)
        exact ⟨_, X12, e12, pre⟩
    | succ k ih =>
      intro e' T hk X eT pre
      have hlt : (own_hn t1 C + e') % C < C := Nat.mod_lt _ (by omega)
      have hix := own_idx hC hlt
      have hns := hd2 e' (by omega)
      replace pre : Pth p e below S0 T (mkF m 26 #[.val (.ref a1), .val (.int t1), .val (.int (Int32.ofNat (C - 1))), .val (.int (t1 * (-1640531527 : Int32))), .val (.int (Int32.ofNat ((own_hn t1 C + e') % C)))] [(.ref a1)]) := fun t k => pre t (by
        show Steps p.tables e below (T.setTop (mkF m 25 #[.val (.ref a1), .val (.int t1), .val (.int (Int32.ofNat (C - 1))), .val (.int (t1 * (-1640531527 : Int32))), .val (.int (Int32.ofNat ((own_hn t1 C + e') % C)))] [])) t
        refine XS.aloadN X.here hx rfl (hb hby d_slot_25) rfl rfl ?_
        show Steps p.tables e below (T.setTop (mkF m 26 #[.val (.ref a1), .val (.int t1), .val (.int (Int32.ofNat (C - 1))), .val (.int (t1 * (-1640531527 : Int32))), .val (.int (Int32.ofNat ((own_hn t1 C + e') % C)))] [(.ref a1)])) t
        exact k)
      obtain ⟨T14, X14, e14, st14⟩ := getF X hx hZ hown (host := "") (Or.inl (hw _ (List.mem_of_getElem? (i := 24) rfl))) Via.refl eT F1 (g := (mkF m 26 #[.val (.ref a1), .val (.int t1), .val (.int (Int32.ofNat (C - 1))), .val (.int (t1 * (-1640531527 : Int32))), .val (.int (Int32.ofNat ((own_hn t1 C + e') % C)))] [(.ref a1)])) rfl rfl (hb hby d_slot_26)
      replace pre : Pth p e below S0 T14 (mkF m 29 #[.val (.ref a1), .val (.int t1), .val (.int (Int32.ofNat (C - 1))), .val (.int (t1 * (-1640531527 : Int32))), .val (.int (Int32.ofNat ((own_hn t1 C + e') % C)))] [(.ref r)]) := fun t k => pre t (st14 _ k)
      replace pre : Pth p e below S0 T14 (mkF m 35 #[.val (.ref a1), .val (.int t1), .val (.int (Int32.ofNat (C - 1))), .val (.int (t1 * (-1640531527 : Int32))), .val (.int (Int32.ofNat ((own_hn t1 C + e') % C)))] [(.int (((2 : Int32) * (Int32.ofNat ((own_hn t1 C + e') % C))) + (1 : Int32))), (.ref r)]) := fun t k => pre t (by
        show Steps p.tables e below (T14.setTop (mkF m 29 #[.val (.ref a1), .val (.int t1), .val (.int (Int32.ofNat (C - 1))), .val (.int (t1 * (-1640531527 : Int32))), .val (.int (Int32.ofNat ((own_hn t1 C + e') % C)))] [(.ref r)])) t
        refine XS.iconst X14.here hx rfl (hb hby d_slot_29) ?_
        show Steps p.tables e below (T14.setTop (mkF m 30 #[.val (.ref a1), .val (.int t1), .val (.int (Int32.ofNat (C - 1))), .val (.int (t1 * (-1640531527 : Int32))), .val (.int (Int32.ofNat ((own_hn t1 C + e') % C)))] [(.int (2 : Int32)), (.ref r)])) t
        refine XS.iload X14.here hx rfl (hb hby d_slot_30) rfl ?_
        show Steps p.tables e below (T14.setTop (mkF m 32 #[.val (.ref a1), .val (.int t1), .val (.int (Int32.ofNat (C - 1))), .val (.int (t1 * (-1640531527 : Int32))), .val (.int (Int32.ofNat ((own_hn t1 C + e') % C)))] [(.int (Int32.ofNat ((own_hn t1 C + e') % C))), (.int (2 : Int32)), (.ref r)])) t
        refine XS.imul X14.here hx rfl (hb hby d_slot_32) rfl ?_
        show Steps p.tables e below (T14.setTop (mkF m 33 #[.val (.ref a1), .val (.int t1), .val (.int (Int32.ofNat (C - 1))), .val (.int (t1 * (-1640531527 : Int32))), .val (.int (Int32.ofNat ((own_hn t1 C + e') % C)))] [(.int ((2 : Int32) * (Int32.ofNat ((own_hn t1 C + e') % C)))), (.ref r)])) t
        refine XS.iconst X14.here hx rfl (hb hby d_slot_33) ?_
        show Steps p.tables e below (T14.setTop (mkF m 34 #[.val (.ref a1), .val (.int t1), .val (.int (Int32.ofNat (C - 1))), .val (.int (t1 * (-1640531527 : Int32))), .val (.int (Int32.ofNat ((own_hn t1 C + e') % C)))] [(.int (1 : Int32)), (.int ((2 : Int32) * (Int32.ofNat ((own_hn t1 C + e') % C)))), (.ref r)])) t
        refine XS.iadd X14.here hx rfl (hb hby d_slot_34) rfl ?_
        show Steps p.tables e below (T14.setTop (mkF m 35 #[.val (.ref a1), .val (.int t1), .val (.int (Int32.ofNat (C - 1))), .val (.int (t1 * (-1640531527 : Int32))), .val (.int (Int32.ofNat ((own_hn t1 C + e') % C)))] [(.int (((2 : Int32) * (Int32.ofNat ((own_hn t1 C + e') % C))) + (1 : Int32))), (.ref r)])) t
        exact k)
      obtain ⟨cl15, Ar15, Sz15, Gt15⟩ := id Fa
      have hin15 : ¬ ((((2 : Int32) * (Int32.ofNat ((own_hn t1 C + e') % C))) + (1 : Int32)) < 0 ∨ cl15.slots.size ≤ ((((2 : Int32) * (Int32.ofNat ((own_hn t1 C + e') % C))) + (1 : Int32))).toNatClampNeg) := by rw [Sz15]; exact (own_in hix.1 (by omega))
      have hat15 : cl15.slots[((((2 : Int32) * (Int32.ofNat ((own_hn t1 C + e') % C))) + (1 : Int32))).toNatClampNeg]? = some (.int (f (2 * ((own_hn t1 C + e') % C) + 1))) := (Gt15 _ (Nat.lt_of_lt_of_eq (Nat.lt_of_not_le fun q => hin15 (Or.inr q)) Sz15)).trans (congrArg some (by rw [own_cl hix.1]))
      replace pre : Pth p e below S0 T14 (mkF m 36 #[.val (.ref a1), .val (.int t1), .val (.int (Int32.ofNat (C - 1))), .val (.int (t1 * (-1640531527 : Int32))), .val (.int (Int32.ofNat ((own_hn t1 C + e') % C)))] [(.int (f (2 * ((own_hn t1 C + e') % C) + 1)))]) := fun t k => pre t (by
        show Steps p.tables e below (T14.setTop (mkF m 35 #[.val (.ref a1), .val (.int t1), .val (.int (Int32.ofNat (C - 1))), .val (.int (t1 * (-1640531527 : Int32))), .val (.int (Int32.ofNat ((own_hn t1 C + e') % C)))] [(.int (((2 : Int32) * (Int32.ofNat ((own_hn t1 C + e') % C))) + (1 : Int32))), (.ref r)])) t
        refine X14.iaload hx (j := (((2 : Int32) * (Int32.ofNat ((own_hn t1 C + e') % C))) + (1 : Int32))) (v := (.int (f (2 * ((own_hn t1 C + e') % C) + 1)))) (by rw [e14]; exact Ar15.1) (State.isArrayOf_alike hZ.alike Ar15.2.1) Ar15.2.2 hin15 hat15 (g := (mkF m 35 #[.val (.ref a1), .val (.int t1), .val (.int (Int32.ofNat (C - 1))), .val (.int (t1 * (-1640531527 : Int32))), .val (.int (Int32.ofNat ((own_hn t1 C + e') % C)))] [(.int (((2 : Int32) * (Int32.ofNat ((own_hn t1 C + e') % C))) + (1 : Int32))), (.ref r)])) rfl rfl (hb hby d_slot_35) _ ?_
        show Steps p.tables e below (T14.setTop (mkF m 36 #[.val (.ref a1), .val (.int t1), .val (.int (Int32.ofNat (C - 1))), .val (.int (t1 * (-1640531527 : Int32))), .val (.int (Int32.ofNat ((own_hn t1 C + e') % C)))] [(.int (f (2 * ((own_hn t1 C + e') % C) + 1)))])) t
        exact k)
      replace pre : Pth p e below S0 T14 (mkF m 40 #[.val (.ref a1), .val (.int t1), .val (.int (Int32.ofNat (C - 1))), .val (.int (t1 * (-1640531527 : Int32))), .val (.int (Int32.ofNat ((own_hn t1 C + e') % C)))] [(.ref a1)]) := fun t k => pre t (by
        show Steps p.tables e below (T14.setTop (mkF m 36 #[.val (.ref a1), .val (.int t1), .val (.int (Int32.ofNat (C - 1))), .val (.int (t1 * (-1640531527 : Int32))), .val (.int (Int32.ofNat ((own_hn t1 C + e') % C)))] [(.int (f (2 * ((own_hn t1 C + e') % C) + 1)))])) t
        refine XS.ifNo X14.here hx rfl (hb hby d_slot_36) rfl (XT.i0_eq_f (fun q => hns (Or.inl q))) ?_
        show Steps p.tables e below (T14.setTop (mkF m 39 #[.val (.ref a1), .val (.int t1), .val (.int (Int32.ofNat (C - 1))), .val (.int (t1 * (-1640531527 : Int32))), .val (.int (Int32.ofNat ((own_hn t1 C + e') % C)))] [])) t
        refine XS.aloadN X14.here hx rfl (hb hby d_slot_39) rfl rfl ?_
        show Steps p.tables e below (T14.setTop (mkF m 40 #[.val (.ref a1), .val (.int t1), .val (.int (Int32.ofNat (C - 1))), .val (.int (t1 * (-1640531527 : Int32))), .val (.int (Int32.ofNat ((own_hn t1 C + e') % C)))] [(.ref a1)])) t
        exact k)
      obtain ⟨T16, X16, e16, st16⟩ := getF X14 hx hZ hown (host := "") (Or.inl (hw _ (List.mem_of_getElem? (i := 24) rfl))) Via.refl e14 F1 (g := (mkF m 40 #[.val (.ref a1), .val (.int t1), .val (.int (Int32.ofNat (C - 1))), .val (.int (t1 * (-1640531527 : Int32))), .val (.int (Int32.ofNat ((own_hn t1 C + e') % C)))] [(.ref a1)])) rfl rfl (hb hby d_slot_40)
      replace pre : Pth p e below S0 T16 (mkF m 43 #[.val (.ref a1), .val (.int t1), .val (.int (Int32.ofNat (C - 1))), .val (.int (t1 * (-1640531527 : Int32))), .val (.int (Int32.ofNat ((own_hn t1 C + e') % C)))] [(.ref r)]) := fun t k => pre t (st16 _ k)
      replace pre : Pth p e below S0 T16 (mkF m 47 #[.val (.ref a1), .val (.int t1), .val (.int (Int32.ofNat (C - 1))), .val (.int (t1 * (-1640531527 : Int32))), .val (.int (Int32.ofNat ((own_hn t1 C + e') % C)))] [(.int ((2 : Int32) * (Int32.ofNat ((own_hn t1 C + e') % C)))), (.ref r)]) := fun t k => pre t (by
        show Steps p.tables e below (T16.setTop (mkF m 43 #[.val (.ref a1), .val (.int t1), .val (.int (Int32.ofNat (C - 1))), .val (.int (t1 * (-1640531527 : Int32))), .val (.int (Int32.ofNat ((own_hn t1 C + e') % C)))] [(.ref r)])) t
        refine XS.iconst X16.here hx rfl (hb hby d_slot_43) ?_
        show Steps p.tables e below (T16.setTop (mkF m 44 #[.val (.ref a1), .val (.int t1), .val (.int (Int32.ofNat (C - 1))), .val (.int (t1 * (-1640531527 : Int32))), .val (.int (Int32.ofNat ((own_hn t1 C + e') % C)))] [(.int (2 : Int32)), (.ref r)])) t
        refine XS.iload X16.here hx rfl (hb hby d_slot_44) rfl ?_
        show Steps p.tables e below (T16.setTop (mkF m 46 #[.val (.ref a1), .val (.int t1), .val (.int (Int32.ofNat (C - 1))), .val (.int (t1 * (-1640531527 : Int32))), .val (.int (Int32.ofNat ((own_hn t1 C + e') % C)))] [(.int (Int32.ofNat ((own_hn t1 C + e') % C))), (.int (2 : Int32)), (.ref r)])) t
        refine XS.imul X16.here hx rfl (hb hby d_slot_46) rfl ?_
        show Steps p.tables e below (T16.setTop (mkF m 47 #[.val (.ref a1), .val (.int t1), .val (.int (Int32.ofNat (C - 1))), .val (.int (t1 * (-1640531527 : Int32))), .val (.int (Int32.ofNat ((own_hn t1 C + e') % C)))] [(.int ((2 : Int32) * (Int32.ofNat ((own_hn t1 C + e') % C)))), (.ref r)])) t
        exact k)
      obtain ⟨cl17, Ar17, Sz17, Gt17⟩ := id Fa
      have hin17 : ¬ (((2 : Int32) * (Int32.ofNat ((own_hn t1 C + e') % C))) < 0 ∨ cl17.slots.size ≤ (((2 : Int32) * (Int32.ofNat ((own_hn t1 C + e') % C)))).toNatClampNeg) := by rw [Sz17]; exact (own_in hix.2.1 (by omega))
      have hat17 : cl17.slots[(((2 : Int32) * (Int32.ofNat ((own_hn t1 C + e') % C)))).toNatClampNeg]? = some (.int (f (2 * ((own_hn t1 C + e') % C)))) := (Gt17 _ (Nat.lt_of_lt_of_eq (Nat.lt_of_not_le fun q => hin17 (Or.inr q)) Sz17)).trans (congrArg some (by rw [own_cl hix.2.1]))
      replace pre : Pth p e below S0 T16 (mkF m 25 #[.val (.ref a1), .val (.int t1), .val (.int (Int32.ofNat (C - 1))), .val (.int (t1 * (-1640531527 : Int32))), .val (.int (((Int32.ofNat ((own_hn t1 C + e') % C)) + (1 : Int32)) &&& (Int32.ofNat (C - 1))))] []) := fun t k => pre t (by
        show Steps p.tables e below (T16.setTop (mkF m 47 #[.val (.ref a1), .val (.int t1), .val (.int (Int32.ofNat (C - 1))), .val (.int (t1 * (-1640531527 : Int32))), .val (.int (Int32.ofNat ((own_hn t1 C + e') % C)))] [(.int ((2 : Int32) * (Int32.ofNat ((own_hn t1 C + e') % C)))), (.ref r)])) t
        refine X16.iaload hx (j := ((2 : Int32) * (Int32.ofNat ((own_hn t1 C + e') % C)))) (v := (.int (f (2 * ((own_hn t1 C + e') % C))))) (by rw [e16]; exact Ar17.1) (State.isArrayOf_alike hZ.alike Ar17.2.1) Ar17.2.2 hin17 hat17 (g := (mkF m 47 #[.val (.ref a1), .val (.int t1), .val (.int (Int32.ofNat (C - 1))), .val (.int (t1 * (-1640531527 : Int32))), .val (.int (Int32.ofNat ((own_hn t1 C + e') % C)))] [(.int ((2 : Int32) * (Int32.ofNat ((own_hn t1 C + e') % C)))), (.ref r)])) rfl rfl (hb hby d_slot_47) _ ?_
        show Steps p.tables e below (T16.setTop (mkF m 48 #[.val (.ref a1), .val (.int t1), .val (.int (Int32.ofNat (C - 1))), .val (.int (t1 * (-1640531527 : Int32))), .val (.int (Int32.ofNat ((own_hn t1 C + e') % C)))] [(.int (f (2 * ((own_hn t1 C + e') % C))))])) t
        refine XS.iloadN X16.here hx rfl (hb hby d_slot_48) rfl ?_
        show Steps p.tables e below (T16.setTop (mkF m 49 #[.val (.ref a1), .val (.int t1), .val (.int (Int32.ofNat (C - 1))), .val (.int (t1 * (-1640531527 : Int32))), .val (.int (Int32.ofNat ((own_hn t1 C + e') % C)))] [(.int t1), (.int (f (2 * ((own_hn t1 C + e') % C))))])) t
        refine XS.icmpNo X16.here hx rfl (hb hby d_slot_49) rfl (XT.ii_eq_f (fun q => hns (Or.inr q))) ?_
        show Steps p.tables e below (T16.setTop (mkF m 52 #[.val (.ref a1), .val (.int t1), .val (.int (Int32.ofNat (C - 1))), .val (.int (t1 * (-1640531527 : Int32))), .val (.int (Int32.ofNat ((own_hn t1 C + e') % C)))] [])) t
        refine XS.iload X16.here hx rfl (hb hby d_slot_52) rfl ?_
        show Steps p.tables e below (T16.setTop (mkF m 54 #[.val (.ref a1), .val (.int t1), .val (.int (Int32.ofNat (C - 1))), .val (.int (t1 * (-1640531527 : Int32))), .val (.int (Int32.ofNat ((own_hn t1 C + e') % C)))] [(.int (Int32.ofNat ((own_hn t1 C + e') % C)))])) t
        refine XS.iconst X16.here hx rfl (hb hby d_slot_54) ?_
        show Steps p.tables e below (T16.setTop (mkF m 55 #[.val (.ref a1), .val (.int t1), .val (.int (Int32.ofNat (C - 1))), .val (.int (t1 * (-1640531527 : Int32))), .val (.int (Int32.ofNat ((own_hn t1 C + e') % C)))] [(.int (1 : Int32)), (.int (Int32.ofNat ((own_hn t1 C + e') % C)))])) t
        refine XS.iadd X16.here hx rfl (hb hby d_slot_55) rfl ?_
        show Steps p.tables e below (T16.setTop (mkF m 56 #[.val (.ref a1), .val (.int t1), .val (.int (Int32.ofNat (C - 1))), .val (.int (t1 * (-1640531527 : Int32))), .val (.int (Int32.ofNat ((own_hn t1 C + e') % C)))] [(.int ((Int32.ofNat ((own_hn t1 C + e') % C)) + (1 : Int32)))])) t
        refine XS.iloadN X16.here hx rfl (hb hby d_slot_56) rfl ?_
        show Steps p.tables e below (T16.setTop (mkF m 57 #[.val (.ref a1), .val (.int t1), .val (.int (Int32.ofNat (C - 1))), .val (.int (t1 * (-1640531527 : Int32))), .val (.int (Int32.ofNat ((own_hn t1 C + e') % C)))] [(.int (Int32.ofNat (C - 1))), (.int ((Int32.ofNat ((own_hn t1 C + e') % C)) + (1 : Int32)))])) t
        refine XS.iand X16.here hx rfl (hb hby d_slot_57) rfl ?_
        show Steps p.tables e below (T16.setTop (mkF m 58 #[.val (.ref a1), .val (.int t1), .val (.int (Int32.ofNat (C - 1))), .val (.int (t1 * (-1640531527 : Int32))), .val (.int (Int32.ofNat ((own_hn t1 C + e') % C)))] [(.int (((Int32.ofNat ((own_hn t1 C + e') % C)) + (1 : Int32)) &&& (Int32.ofNat (C - 1))))])) t
        refine XS.istore X16.here hx rfl (hb hby d_slot_58) rfl (l' := #[.val (.ref a1), .val (.int t1), .val (.int (Int32.ofNat (C - 1))), .val (.int (t1 * (-1640531527 : Int32))), .val (.int (((Int32.ofNat ((own_hn t1 C + e') % C)) + (1 : Int32)) &&& (Int32.ofNat (C - 1))))]) rfl ?_
        show Steps p.tables e below (T16.setTop (mkF m 60 #[.val (.ref a1), .val (.int t1), .val (.int (Int32.ofNat (C - 1))), .val (.int (t1 * (-1640531527 : Int32))), .val (.int (((Int32.ofNat ((own_hn t1 C + e') % C)) + (1 : Int32)) &&& (Int32.ofNat (C - 1))))] [])) t
        refine XS.goto X16.here hx rfl (pc0 := 60) (pc' := 25) rfl (hb hby d_slot_60) (by decide) (by decide) ?_
        show Steps p.tables e below (T16.setTop (mkF m 25 #[.val (.ref a1), .val (.int t1), .val (.int (Int32.ofNat (C - 1))), .val (.int (t1 * (-1640531527 : Int32))), .val (.int (((Int32.ofNat ((own_hn t1 C + e') % C)) + (1 : Int32)) &&& (Int32.ofNat (C - 1))))] [])) t
        exact k)
      rw [own_step hC] at pre
      exact ih (e' + 1) _ (by omega) X16 e16 pre
  obtain ⟨T, X, eT, pre⟩ := loop d 0 _ (Nat.zero_add _) X8 e8 pre
  have hlt : (own_hn t1 C + d) % C < C := Nat.mod_lt _ (by omega)
  replace pre : Pth p e below S0 T (mkF m 67 #[.val (.ref a1), .val (.int t1), .val (.int (Int32.ofNat (C - 1))), .val (.int (t1 * (-1640531527 : Int32))), .val (.int (Int32.ofNat ((own_hn t1 C + d) % C)))] [(.int ((2 : Int32) * (Int32.ofNat ((own_hn t1 C + d) % C))))]) := fun t k => pre t (by
    show Steps p.tables e below (T.setTop (mkF m 63 #[.val (.ref a1), .val (.int t1), .val (.int (Int32.ofNat (C - 1))), .val (.int (t1 * (-1640531527 : Int32))), .val (.int (Int32.ofNat ((own_hn t1 C + d) % C)))] [])) t
    refine XS.iconst X.here hx rfl (hb hby d_slot_63) ?_
    show Steps p.tables e below (T.setTop (mkF m 64 #[.val (.ref a1), .val (.int t1), .val (.int (Int32.ofNat (C - 1))), .val (.int (t1 * (-1640531527 : Int32))), .val (.int (Int32.ofNat ((own_hn t1 C + d) % C)))] [(.int (2 : Int32))])) t
    refine XS.iload X.here hx rfl (hb hby d_slot_64) rfl ?_
    show Steps p.tables e below (T.setTop (mkF m 66 #[.val (.ref a1), .val (.int t1), .val (.int (Int32.ofNat (C - 1))), .val (.int (t1 * (-1640531527 : Int32))), .val (.int (Int32.ofNat ((own_hn t1 C + d) % C)))] [(.int (Int32.ofNat ((own_hn t1 C + d) % C))), (.int (2 : Int32))])) t
    refine XS.imul X.here hx rfl (hb hby d_slot_66) rfl ?_
    show Steps p.tables e below (T.setTop (mkF m 67 #[.val (.ref a1), .val (.int t1), .val (.int (Int32.ofNat (C - 1))), .val (.int (t1 * (-1640531527 : Int32))), .val (.int (Int32.ofNat ((own_hn t1 C + d) % C)))] [(.int ((2 : Int32) * (Int32.ofNat ((own_hn t1 C + d) % C))))])) t
    exact k)
  rw [(own_idx hC hlt).2.2.1] at pre
  obtain ⟨fs, hr, hrun, hended, hW, hsame⟩ := X.leave (v := some (.int (Int32.ofNat (2 * ((own_hn t1 C + d) % C))))) (fun h => by rw [Bd.returns] at h; cases h)
  subst hS0
  refine ⟨_, _, pre _ ?_, hrun, hended, _, _, rfl, ?_, ⟨_, rfl⟩, hW, hsame.mono (by decide) (by decide)⟩
  · exact retI X hx Bd.returns (hb hby d_slot_67) hr
  · show Q_slot Z a1 t1 r sz cn C f h0 n0 _ T.heap _
    rw [eT]
    exact ⟨_, rfl, N0, rfl, hlt, d, rfl, hd1, hd2⟩
def Q_get (Z : State) (a1 : Addr) (t1 : Int32) (r : Addr) (sz cn : Int32) (C : Nat) (f : Nat → Int32) (h0 : Heap) (n0 : Nat) (v : Option Value) (h : Heap) (L : List Loc) : Prop := ∃ i, v = some (.int (f (2 * i + 1) - 1)) ∧ Fr n0 L ∧ h = h0 ∧ i < C ∧ OSlot f C t1 i
set_option maxRecDepth 65536 in
set_option maxHeartbeats 40000000 in
theorem rm_get (l : Launch) (Z : State) (a0 : Array Value) (hw : ∀ d ∈ tables_1, d.before a0 Z = true) (ws : List Jvm.Cond) (a1 : Addr) (t1 : Int32) (r : Addr) (sz cn : Int32) (C : Nat) (f : Nat → Int32) (h0 : Heap) (n0 : Nat) (hT : OTab Z h0 a1 r sz cn C f) (hex : ∃ i, i < C ∧ f (2 * i + 1) = 0) :
    MetFree l (⟨"com/example/tagwire/tagwire/dictionary/TagTable", "get", "(I)I"⟩ : MethodName) (head1 (Jvm.Cond.code (⟨"com/example/tagwire/tagwire/dictionary/TagTable", "get", "(I)I"⟩ : MethodName) prog_48_method_3_code 2 (some .int) :: ws) ({ frames := 1, cells := 0, slots := 0, locals := 17 } : Room)) (fun a U => a = #[(.ref a1), (.int t1)] ∧ Z.Warmed39 U.vm ∧ U.heap = h0) (fun _ _ _ _ _ => True) (fun _ U o U' => ∃ v L, o = .returned v ∧ Q_get Z a1 t1 r sz cn C f h0 n0 v U'.heap L ∧ FrameEnd U o U' L ({ frames := 1, cells := 0, slots := 0, locals := 17 } : Room).cells ({ frames := 1, cells := 0, slots := 0, locals := 17 } : Room).slots) := by
  refine MetFree.of_bodySF (plainFor_of_name pn_com_example_tagwire_tagwire_dictionary_TagTable) hisR ?_
  intro p e s m args below meth c s₁ Bd hml0 hP hK
  obtain ⟨rfl, hZ, hh⟩ := hP
  have hx := Bd.exec
  have hby := Bd.bytes
  have hml : c.maxLocals = 2 := hml0
  have hown : s.vm.findClass "com/example/tagwire/tagwire/dictionary/TagTable" = some m.cls := findClass_of_methodNamed Bd.named
  have hnm := (name_of_methodNamed Bd.named Bd.method).1
  have X0 : Stand p l e ({ frames := 1, cells := 0, slots := 0, locals := 17 } : Room) s m #[(.ref a1), (.int t1)] below meth c s₁ [] 0 0 := Stand.of_body Bd
  have e0 : s₁.heap = h0 := by rw [← hh, Bd.state]; rfl
  have N0 := Fr.nil n0
  obtain ⟨S0, hS0⟩ : ∃ S0, S0 = s₁.setTop (entryFrame m #[(.ref a1), (.int t1)] 2) := ⟨_, rfl⟩
  have pre : Pth p e below S0 s₁ (mkF m 0 #[.val (.ref a1), .val (.int t1)] []) := fun t k => by rw [hS0]; exact castTop (ef_get m a1 t1) k
  have hT' := hT
  obtain ⟨F1, F2, F3, Ea, Fa, hne, hC⟩ := hT'
  replace pre : Pth p e below S0 s₁ (mkF m 1 #[.val (.ref a1), .val (.int t1)] [(.ref a1)]) := fun t k => pre t (by
    show Steps p.tables e below (s₁.setTop (mkF m 0 #[.val (.ref a1), .val (.int t1)] [])) t
    refine XS.aloadN X0.here hx rfl (hb hby d_get_0) rfl rfl ?_
    show Steps p.tables e below (s₁.setTop (mkF m 1 #[.val (.ref a1), .val (.int t1)] [(.ref a1)])) t
    exact k)
  obtain ⟨T18, X18, e18, st18⟩ := getF X0 hx hZ hown (host := "") (Or.inl (hw _ (List.mem_of_getElem? (i := 24) rfl))) Via.refl e0 F1 (g := (mkF m 1 #[.val (.ref a1), .val (.int t1)] [(.ref a1)])) rfl rfl (hb hby d_get_1)
  replace pre : Pth p e below S0 T18 (mkF m 4 #[.val (.ref a1), .val (.int t1)] [(.ref r)]) := fun t k => pre t (st18 _ k)
  replace pre : Pth p e below S0 T18 (mkF m 6 #[.val (.ref a1), .val (.int t1)] [(.int t1), (.ref a1), (.ref r)]) := fun t k => pre t (by
    show Steps p.tables e below (T18.setTop (mkF m 4 #[.val (.ref a1), .val (.int t1)] [(.ref r)])) t
    refine XS.aloadN X18.here hx rfl (hb hby d_get_4) rfl rfl ?_
    show Steps p.tables e below (T18.setTop (mkF m 5 #[.val (.ref a1), .val (.int t1)] [(.ref a1), (.ref r)])) t
    refine XS.iloadN X18.here hx rfl (hb hby d_get_5) rfl ?_
    show Steps p.tables e below (T18.setTop (mkF m 6 #[.val (.ref a1), .val (.int t1)] [(.int t1), (.ref a1), (.ref r)])) t
    exact k)
  obtain ⟨cq19, q19, q19'⟩ := Exa.cell Ea
  obtain ⟨_, _, ⟨T19, L19, k19, n19⟩, -, X19, ⟨Lc19, hQ19, l19, y19, z19⟩, st19⟩ := X18.privateBack hx (y := (⟨"com/example/tagwire/tagwire/dictionary/TagTable", "slot", "(I)I"⟩ : MethodName)) hown (mvT hZ (hw _ (List.mem_of_getElem? (i := 33) rfl))) (mvT hZ (hw _ (List.mem_of_getElem? (i := 34) rfl))) (own_priv (mvT hZ (hw _ (List.mem_of_getElem? (i := 2) rfl))) (Cond.privateMethod_at (mvP hZ (hw _ (List.mem_of_getElem? (i := 35) rfl)) (args := #[]))) (mvT hZ (hw _ (List.mem_of_getElem? (i := 34) rfl))) (by decide)) (Cond.privateMethod_at (mvP hZ (hw _ (List.mem_of_getElem? (i := 35) rfl)) (args := #[]))) (mvT hZ (hw _ (List.mem_of_getElem? (i := 36) rfl))) (by decide) (backOf (W := 1) (rm_slot l Z a0 hw [] a1 t1 r sz cn C f h0 n0 hT hex) hZ (hw _ (List.mem_of_getElem? (i := 36) rfl)) (hw _ (List.mem_of_getElem? (i := 3) rfl)) (by decide) (by decide)) (g := (mkF m 6 #[.val (.ref a1), .val (.int t1)] [(.int t1), (.ref a1), (.ref r)])) rfl (by rw [hml]; rfl) (Steps.refl _) (a := a1) (by rw [e18]; exact q19) q19' (argsL := [(.int t1)]) (rest := [(.ref r)]) (lenOf pd__I_I rfl) rfl (by show 2 * 0 + _ ≤ _; exact Nat.le_of_eq rfl) (hb hby d_get_6) (fun _ _ => ⟨rfl, e18, (by decide : 0 + 0 ≤ _), (by decide : 0 + 0 ≤ _)⟩)
  dsimp only [Pt.U, Pt.locs, Pt.cells, Pt.slots] at X19 l19 y19 z19 st19 hQ19
  subst l19 y19 z19
  obtain ⟨i19, rfl, N19q, e19, hi19, hs19⟩ := hQ19
  have N19 := Fr.app N0 N19q
  replace pre : Pth p e below S0 T19 (mkF m 9 #[.val (.ref a1), .val (.int t1)] [(.int (Int32.ofNat (2 * i19))), (.ref r)]) := fun t k => pre t (st19.trans k)
  have hix := own_idx hC hi19
  replace pre : Pth p e below S0 T19 (mkF m 11 #[.val (.ref a1), .val (.int t1)] [(.int ((Int32.ofNat (2 * i19)) + (1 : Int32))), (.ref r)]) := fun t k => pre t (by
    show Steps p.tables e below (T19.setTop (mkF m 9 #[.val (.ref a1), .val (.int t1)] [(.int (Int32.ofNat (2 * i19))), (.ref r)])) t
    refine XS.iconst X19.here hx rfl (hb hby d_get_9) ?_
    show Steps p.tables e below (T19.setTop (mkF m 10 #[.val (.ref a1), .val (.int t1)] [(.int (1 : Int32)), (.int (Int32.ofNat (2 * i19))), (.ref r)])) t
    refine XS.iadd X19.here hx rfl (hb hby d_get_10) rfl ?_
    show Steps p.tables e below (T19.setTop (mkF m 11 #[.val (.ref a1), .val (.int t1)] [(.int ((Int32.ofNat (2 * i19)) + (1 : Int32))), (.ref r)])) t
    exact k)
  obtain ⟨cl20, Ar20, Sz20, Gt20⟩ := id Fa
  have hin20 : ¬ (((Int32.ofNat (2 * i19)) + (1 : Int32)) < 0 ∨ cl20.slots.size ≤ (((Int32.ofNat (2 * i19)) + (1 : Int32))).toNatClampNeg) := by rw [Sz20]; exact (own_in hix.2.2.2.1 (by omega))
  have hat20 : cl20.slots[(((Int32.ofNat (2 * i19)) + (1 : Int32))).toNatClampNeg]? = some (.int (f (2 * i19 + 1))) := (Gt20 _ (Nat.lt_of_lt_of_eq (Nat.lt_of_not_le fun q => hin20 (Or.inr q)) Sz20)).trans (congrArg some (by rw [own_cl hix.2.2.2.1]))
  replace pre : Pth p e below S0 T19 (mkF m 14 #[.val (.ref a1), .val (.int t1)] [(.int ((f (2 * i19 + 1)) - (1 : Int32)))]) := fun t k => pre t (by
    show Steps p.tables e below (T19.setTop (mkF m 11 #[.val (.ref a1), .val (.int t1)] [(.int ((Int32.ofNat (2 * i19)) + (1 : Int32))), (.ref r)])) t
    refine X19.iaload hx (j := ((Int32.ofNat (2 * i19)) + (1 : Int32))) (v := (.int (f (2 * i19 + 1)))) (by rw [e19]; exact Ar20.1) (State.isArrayOf_alike hZ.alike Ar20.2.1) Ar20.2.2 hin20 hat20 (g := (mkF m 11 #[.val (.ref a1), .val (.int t1)] [(.int ((Int32.ofNat (2 * i19)) + (1 : Int32))), (.ref r)])) rfl rfl (hb hby d_get_11) _ ?_
    show Steps p.tables e below (T19.setTop (mkF m 12 #[.val (.ref a1), .val (.int t1)] [(.int (f (2 * i19 + 1)))])) t
    refine XS.iconst X19.here hx rfl (hb hby d_get_12) ?_
    show Steps p.tables e below (T19.setTop (mkF m 13 #[.val (.ref a1), .val (.int t1)] [(.int (1 : Int32)), (.int (f (2 * i19 + 1)))])) t
    refine XS.isub X19.here hx rfl (hb hby d_get_13) rfl ?_
    show Steps p.tables e below (T19.setTop (mkF m 14 #[.val (.ref a1), .val (.int t1)] [(.int ((f (2 * i19 + 1)) - (1 : Int32)))])) t
    exact k)
  obtain ⟨fs, hr, hrun, hended, hW, hsame⟩ := X19.leave (v := some (.int ((f (2 * i19 + 1)) - (1 : Int32)))) (fun h => by rw [Bd.returns] at h; cases h)
  subst hS0
  refine ⟨_, _, pre _ ?_, hrun, hended, _, _, rfl, ?_, ⟨_, rfl⟩, hW, hsame.mono (by decide) (by decide)⟩
  · exact retI X19 hx Bd.returns (hb hby d_get_14) hr
  · show Q_get Z a1 t1 r sz cn C f h0 n0 _ T19.heap _
    rw [e19]
    exact ⟨i19, rfl, N19, rfl, hi19, hs19⟩
def Q_put (Z : State) (a1 : Addr) (t1 : Int32) (v1 : Int32) (r : Addr) (sz cn : Int32) (C : Nat) (f : Nat → Int32) (h0 : Heap) (n0 : Nat) (v : Option Value) (h : Heap) (L : List Loc) : Prop := ∃ (rr cn' : Int32) (f' : Nat → Int32), v = some (.int rr) ∧ Fr n0 L ∧ h0.size ≤ h.size ∧ OTab Z h a1 r sz cn' C f' ∧ OPut f C t1 v1 f' rr ∧ (cn' = cn ∨ cn' = cn + 1)
set_option maxRecDepth 65536 in
set_option maxHeartbeats 40000000 in
theorem rm_put (l : Launch) (Z : State) (a0 : Array Value) (hw : ∀ d ∈ tables_1, d.before a0 Z = true) (ws : List Jvm.Cond) (a1 : Addr) (t1 : Int32) (v1 : Int32) (r : Addr) (sz cn : Int32) (C : Nat) (f : Nat → Int32) (h0 : Heap) (n0 : Nat) (ga : n0 ≤ a1) (gr : n0 ≤ r) (hT : OTab Z h0 a1 r sz cn C f) (hex : ∃ i, i < C ∧ f (2 * i + 1) = 0) (hcs : ¬ cn = sz) :
    MetFree l (⟨"com/example/tagwire/tagwire/dictionary/TagTable", "put", "(II)Z"⟩ : MethodName) (head1 (Jvm.Cond.code (⟨"com/example/tagwire/tagwire/dictionary/TagTable", "put", "(II)Z"⟩ : MethodName) prog_48_method_2_code 4 (some .boolean) :: ws) ({ frames := 1, cells := 0, slots := 0, locals := 17 } : Room)) (fun a U => a = #[(.ref a1), (.int t1), (.int v1)] ∧ Z.Warmed39 U.vm ∧ U.heap = h0) (fun _ _ _ _ _ => True) (fun _ U o U' => ∃ v L, o = .returned v ∧ Q_put Z a1 t1 v1 r sz cn C f h0 n0 v U'.heap L ∧ FrameEnd U o U' L ({ frames := 1, cells := 0, slots := 0, locals := 17 } : Room).cells ({ frames := 1, cells := 0, slots := 0, locals := 17 } : Room).slots) := by
  refine MetFree.of_bodySF (plainFor_of_name pn_com_example_tagwire_tagwire_dictionary_TagTable) hisR ?_
  intro p e s m args below meth c s₁ Bd hml0 hP hK
  obtain ⟨rfl, hZ, hh⟩ := hP
  have hx := Bd.exec
  have hby := Bd.bytes
  have hml : c.maxLocals = 4 := hml0
  have hown : s.vm.findClass "com/example/tagwire/tagwire/dictionary/TagTable" = some m.cls := findClass_of_methodNamed Bd.named
  have hnm := (name_of_methodNamed Bd.named Bd.method).1
  have X0 : Stand p l e ({ frames := 1, cells := 0, slots := 0, locals := 17 } : Room) s m #[(.ref a1), (.int t1), (.int v1)] below meth c s₁ [] 0 0 := Stand.of_body Bd
  have e0 : s₁.heap = h0 := by rw [← hh, Bd.state]; rfl
  have N0 := Fr.nil n0
  obtain ⟨S0, hS0⟩ : ∃ S0, S0 = s₁.setTop (entryFrame m #[(.ref a1), (.int t1), (.int v1)] 4) := ⟨_, rfl⟩
  have pre : Pth p e below S0 s₁ (mkF m 0 #[.val (.ref a1), .val (.int t1), .val (.int v1), .unset] []) := fun t k => by rw [hS0]; exact castTop (ef_put m a1 t1 v1) k
  have hT' := hT
  obtain ⟨F1, F2, F3, Ea, Fa, hne, hC⟩ := hT'
  replace pre : Pth p e below S0 s₁ (mkF m 2 #[.val (.ref a1), .val (.int t1), .val (.int v1), .unset] [(.int t1), (.ref a1)]) := fun t k => pre t (by
    show Steps p.tables e below (s₁.setTop (mkF m 0 #[.val (.ref a1), .val (.int t1), .val (.int v1), .unset] [])) t
    refine XS.aloadN X0.here hx rfl (hb hby d_put_0) rfl rfl ?_
    show Steps p.tables e below (s₁.setTop (mkF m 1 #[.val (.ref a1), .val (.int t1), .val (.int v1), .unset] [(.ref a1)])) t
    refine XS.iloadN X0.here hx rfl (hb hby d_put_1) rfl ?_
    show Steps p.tables e below (s₁.setTop (mkF m 2 #[.val (.ref a1), .val (.int t1), .val (.int v1), .unset] [(.int t1), (.ref a1)])) t
    exact k)
  obtain ⟨cq21, q21, q21'⟩ := Exa.cell Ea
  obtain ⟨_, _, ⟨T21, L21, k21, n21⟩, -, X21, ⟨Lc21, hQ21, l21, y21, z21⟩, st21⟩ := X0.privateBack hx (y := (⟨"com/example/tagwire/tagwire/dictionary/TagTable", "slot", "(I)I"⟩ : MethodName)) hown (mvT hZ (hw _ (List.mem_of_getElem? (i := 33) rfl))) (mvT hZ (hw _ (List.mem_of_getElem? (i := 34) rfl))) (own_priv (mvT hZ (hw _ (List.mem_of_getElem? (i := 2) rfl))) (Cond.privateMethod_at (mvP hZ (hw _ (List.mem_of_getElem? (i := 35) rfl)) (args := #[]))) (mvT hZ (hw _ (List.mem_of_getElem? (i := 34) rfl))) (by decide)) (Cond.privateMethod_at (mvP hZ (hw _ (List.mem_of_getElem? (i := 35) rfl)) (args := #[]))) (mvT hZ (hw _ (List.mem_of_getElem? (i := 36) rfl))) (by decide) (backOf (W := 0) (rm_slot l Z a0 hw [] a1 t1 r sz cn C f h0 n0 hT hex) hZ (hw _ (List.mem_of_getElem? (i := 36) rfl)) (hw _ (List.mem_of_getElem? (i := 3) rfl)) (by decide) (by decide)) (g := (mkF m 2 #[.val (.ref a1), .val (.int t1), .val (.int v1), .unset] [(.int t1), (.ref a1)])) rfl (by rw [hml]; rfl) (Steps.refl _) (a := a1) (by rw [e0]; exact q21) q21' (argsL := [(.int t1)]) (rest := []) (lenOf pd__I_I rfl) rfl (by show 2 * 0 + _ ≤ _; exact Nat.le_of_eq rfl) (hb hby d_put_2) (fun _ _ => ⟨rfl, e0, (by decide : 0 + 0 ≤ _), (by decide : 0 + 0 ≤ _)⟩)
  dsimp only [Pt.U, Pt.locs, Pt.cells, Pt.slots] at X21 l21 y21 z21 st21 hQ21
  subst l21 y21 z21
  obtain ⟨i21, rfl, N21q, e21, hi21, hs21⟩ := hQ21
  have N21 := Fr.app N0 N21q
  replace pre : Pth p e below S0 T21 (mkF m 5 #[.val (.ref a1), .val (.int t1), .val (.int v1), .unset] [(.int (Int32.ofNat (2 * i21)))]) := fun t k => pre t (st21.trans k)
  have hix := own_idx hC hi21
  replace pre : Pth p e below S0 T21 (mkF m 7 #[.val (.ref a1), .val (.int t1), .val (.int v1), .val (.int (Int32.ofNat (2 * i21)))] [(.ref a1)]) := fun t k => pre t (by
    show Steps p.tables e below (T21.setTop (mkF m 5 #[.val (.ref a1), .val (.int t1), .val (.int v1), .unset] [(.int (Int32.ofNat (2 * i21)))])) t
    refine XS.istoreN X21.here hx rfl (hb hby d_put_5) rfl (l' := #[.val (.ref a1), .val (.int t1), .val (.int v1), .val (.int (Int32.ofNat (2 * i21)))]) rfl ?_
    show Steps p.tables e below (T21.setTop (mkF m 6 #[.val (.ref a1), .val (.int t1), .val (.int v1), .val (.int (Int32.ofNat (2 * i21)))] [])) t
    refine XS.aloadN X21.here hx rfl (hb hby d_put_6) rfl rfl ?_
    show Steps p.tables e below (T21.setTop (mkF m 7 #[.val (.ref a1), .val (.int t1), .val (.int v1), .val (.int (Int32.ofNat (2 * i21)))] [(.ref a1)])) t
    exact k)
  obtain ⟨T22, X22, e22, st22⟩ := getF X21 hx hZ hown (host := "") (Or.inl (hw _ (List.mem_of_getElem? (i := 24) rfl))) Via.refl e21 F1 (g := (mkF m 7 #[.val (.ref a1), .val (.int t1), .val (.int v1), .val (.int (Int32.ofNat (2 * i21)))] [(.ref a1)])) rfl rfl (hb hby d_put_7)
  replace pre : Pth p e below S0 T22 (mkF m 10 #[.val (.ref a1), .val (.int t1), .val (.int v1), .val (.int (Int32.ofNat (2 * i21)))] [(.ref r)]) := fun t k => pre t (st22 _ k)
  replace pre : Pth p e below S0 T22 (mkF m 13 #[.val (.ref a1), .val (.int t1), .val (.int v1), .val (.int (Int32.ofNat (2 * i21)))] [(.int ((Int32.ofNat (2 * i21)) + (1 : Int32))), (.ref r)]) := fun t k => pre t (by
    show Steps p.tables e below (T22.setTop (mkF m 10 #[.val (.ref a1), .val (.int t1), .val (.int v1), .val (.int (Int32.ofNat (2 * i21)))] [(.ref r)])) t
    refine XS.iloadN X22.here hx rfl (hb hby d_put_10) rfl ?_
    show Steps p.tables e below (T22.setTop (mkF m 11 #[.val (.ref a1), .val (.int t1), .val (.int v1), .val (.int (Int32.ofNat (2 * i21)))] [(.int (Int32.ofNat (2 * i21))), (.ref r)])) t
    refine XS.iconst X22.here hx rfl (hb hby d_put_11) ?_
    show Steps p.tables e below (T22.setTop (mkF m 12 #[.val (.ref a1), .val (.int t1), .val (.int v1), .val (.int (Int32.ofNat (2 * i21)))] [(.int (1 : Int32)), (.int (Int32.ofNat (2 * i21))), (.ref r)])) t
    refine XS.iadd X22.here hx rfl (hb hby d_put_12) rfl ?_
    show Steps p.tables e below (T22.setTop (mkF m 13 #[.val (.ref a1), .val (.int t1), .val (.int v1), .val (.int (Int32.ofNat (2 * i21)))] [(.int ((Int32.ofNat (2 * i21)) + (1 : Int32))), (.ref r)])) t
    exact k)
  obtain ⟨cl23, Ar23, Sz23, Gt23⟩ := id Fa
  have hin23 : ¬ (((Int32.ofNat (2 * i21)) + (1 : Int32)) < 0 ∨ cl23.slots.size ≤ (((Int32.ofNat (2 * i21)) + (1 : Int32))).toNatClampNeg) := by rw [Sz23]; exact (own_in hix.2.2.2.1 (by omega))
  have hat23 : cl23.slots[(((Int32.ofNat (2 * i21)) + (1 : Int32))).toNatClampNeg]? = some (.int (f (2 * i21 + 1))) := (Gt23 _ (Nat.lt_of_lt_of_eq (Nat.lt_of_not_le fun q => hin23 (Or.inr q)) Sz23)).trans (congrArg some (by rw [own_cl hix.2.2.2.1]))
  replace pre : Pth p e below S0 T22 (mkF m 14 #[.val (.ref a1), .val (.int t1), .val (.int v1), .val (.int (Int32.ofNat (2 * i21)))] [(.int (f (2 * i21 + 1)))]) := fun t k => pre t (by
    show Steps p.tables e below (T22.setTop (mkF m 13 #[.val (.ref a1), .val (.int t1), .val (.int v1), .val (.int (Int32.ofNat (2 * i21)))] [(.int ((Int32.ofNat (2 * i21)) + (1 : Int32))), (.ref r)])) t
    refine X22.iaload hx (j := ((Int32.ofNat (2 * i21)) + (1 : Int32))) (v := (.int (f (2 * i21 + 1)))) (by rw [e22]; exact Ar23.1) (State.isArrayOf_alike hZ.alike Ar23.2.1) Ar23.2.2 hin23 hat23 (g := (mkF m 13 #[.val (.ref a1), .val (.int t1), .val (.int v1), .val (.int (Int32.ofNat (2 * i21)))] [(.int ((Int32.ofNat (2 * i21)) + (1 : Int32))), (.ref r)])) rfl rfl (hb hby d_put_13) _ ?_
    show Steps p.tables e below (T22.setTop (mkF m 14 #[.val (.ref a1), .val (.int t1), .val (.int v1), .val (.int (Int32.ofNat (2 * i21)))] [(.int (f (2 * i21 + 1)))])) t
    exact k)
  by_cases z0 : (f (2 * i21 + 1)) = (0 : Int32)
  · replace pre : Pth p e below S0 T22 (mkF m 20 #[.val (.ref a1), .val (.int t1), .val (.int v1), .val (.int (Int32.ofNat (2 * i21)))] [(.ref a1)]) := fun t k => pre t (by
      show Steps p.tables e below (T22.setTop (mkF m 14 #[.val (.ref a1), .val (.int t1), .val (.int v1), .val (.int (Int32.ofNat (2 * i21)))] [(.int (f (2 * i21 + 1)))])) t
      refine XS.ifYes X22.here hx rfl (pc0 := 14) (pc' := 19) rfl (hb hby d_put_14) rfl (XT.i0_eq_t z0) (by decide) (by decide) ?_
      show Steps p.tables e below (T22.setTop (mkF m 19 #[.val (.ref a1), .val (.int t1), .val (.int v1), .val (.int (Int32.ofNat (2 * i21)))] [])) t
      refine XS.aloadN X22.here hx rfl (hb hby d_put_19) rfl rfl ?_
      show Steps p.tables e below (T22.setTop (mkF m 20 #[.val (.ref a1), .val (.int t1), .val (.int v1), .val (.int (Int32.ofNat (2 * i21)))] [(.ref a1)])) t
      exact k)
    obtain ⟨T24, X24, e24, st24⟩ := getF X22 hx hZ hown (host := "") (Or.inl (hw _ (List.mem_of_getElem? (i := 47) rfl))) Via.refl e22 F3 (g := (mkF m 20 #[.val (.ref a1), .val (.int t1), .val (.int v1), .val (.int (Int32.ofNat (2 * i21)))] [(.ref a1)])) rfl rfl (hb hby d_put_20)
    replace pre : Pth p e below S0 T24 (mkF m 23 #[.val (.ref a1), .val (.int t1), .val (.int v1), .val (.int (Int32.ofNat (2 * i21)))] [(.int cn)]) := fun t k => pre t (st24 _ k)
    replace pre : Pth p e below S0 T24 (mkF m 24 #[.val (.ref a1), .val (.int t1), .val (.int v1), .val (.int (Int32.ofNat (2 * i21)))] [(.ref a1), (.int cn)]) := fun t k => pre t (by
      show Steps p.tables e below (T24.setTop (mkF m 23 #[.val (.ref a1), .val (.int t1), .val (.int v1), .val (.int (Int32.ofNat (2 * i21)))] [(.int cn)])) t
      refine XS.aloadN X24.here hx rfl (hb hby d_put_23) rfl rfl ?_
      show Steps p.tables e below (T24.setTop (mkF m 24 #[.val (.ref a1), .val (.int t1), .val (.int v1), .val (.int (Int32.ofNat (2 * i21)))] [(.ref a1), (.int cn)])) t
      exact k)
    obtain ⟨T25, X25, e25, st25⟩ := getF X24 hx hZ hown (host := "") (Or.inl (hw _ (List.mem_of_getElem? (i := 26) rfl))) Via.refl e24 F2 (g := (mkF m 24 #[.val (.ref a1), .val (.int t1), .val (.int v1), .val (.int (Int32.ofNat (2 * i21)))] [(.ref a1), (.int cn)])) rfl rfl (hb hby d_put_24)
    replace pre : Pth p e below S0 T25 (mkF m 27 #[.val (.ref a1), .val (.int t1), .val (.int v1), .val (.int (Int32.ofNat (2 * i21)))] [(.int sz), (.int cn)]) := fun t k => pre t (st25 _ k)
    replace pre : Pth p e below S0 T25 (mkF m 49 #[.val (.ref a1), .val (.int t1), .val (.int v1), .val (.int (Int32.ofNat (2 * i21)))] [(.ref a1), (.ref a1)]) := fun t k => pre t (by
      show Steps p.tables e below (T25.setTop (mkF m 27 #[.val (.ref a1), .val (.int t1), .val (.int v1), .val (.int (Int32.ofNat (2 * i21)))] [(.int sz), (.int cn)])) t
      refine XS.icmpYes X25.here hx rfl (pc0 := 27) (pc' := 47) rfl (hb hby d_put_27) rfl (XT.ii_ne_t hcs) (by decide) (by decide) ?_
      show Steps p.tables e below (T25.setTop (mkF m 47 #[.val (.ref a1), .val (.int t1), .val (.int v1), .val (.int (Int32.ofNat (2 * i21)))] [])) t
      refine XS.aloadN X25.here hx rfl (hb hby d_put_47) rfl rfl ?_
      show Steps p.tables e below (T25.setTop (mkF m 48 #[.val (.ref a1), .val (.int t1), .val (.int v1), .val (.int (Int32.ofNat (2 * i21)))] [(.ref a1)])) t
      refine XS.dup X25.here hx rfl (hb hby d_put_48) rfl rfl ?_
      show Steps p.tables e below (T25.setTop (mkF m 49 #[.val (.ref a1), .val (.int t1), .val (.int v1), .val (.int (Int32.ofNat (2 * i21)))] [(.ref a1), (.ref a1)])) t
      exact k)
    obtain ⟨T26, X26, e26, st26⟩ := getF X25 hx hZ hown (host := "") (Or.inl (hw _ (List.mem_of_getElem? (i := 47) rfl))) Via.refl e25 F3 (g := (mkF m 49 #[.val (.ref a1), .val (.int t1), .val (.int v1), .val (.int (Int32.ofNat (2 * i21)))] [(.ref a1), (.ref a1)])) rfl rfl (hb hby d_put_49)
    replace pre : Pth p e below S0 T26 (mkF m 52 #[.val (.ref a1), .val (.int t1), .val (.int v1), .val (.int (Int32.ofNat (2 * i21)))] [(.int cn), (.ref a1)]) := fun t k => pre t (st26 _ k)
    replace pre : Pth p e below S0 T26 (mkF m 54 #[.val (.ref a1), .val (.int t1), .val (.int v1), .val (.int (Int32.ofNat (2 * i21)))] [(.int (cn + (1 : Int32))), (.ref a1)]) := fun t k => pre t (by
      show Steps p.tables e below (T26.setTop (mkF m 52 #[.val (.ref a1), .val (.int t1), .val (.int v1), .val (.int (Int32.ofNat (2 * i21)))] [(.int cn), (.ref a1)])) t
      refine XS.iconst X26.here hx rfl (hb hby d_put_52) ?_
      show Steps p.tables e below (T26.setTop (mkF m 53 #[.val (.ref a1), .val (.int t1), .val (.int v1), .val (.int (Int32.ofNat (2 * i21)))] [(.int (1 : Int32)), (.int cn), (.ref a1)])) t
      refine XS.iadd X26.here hx rfl (hb hby d_put_53) rfl ?_
      show Steps p.tables e below (T26.setTop (mkF m 54 #[.val (.ref a1), .val (.int t1), .val (.int v1), .val (.int (Int32.ofNat (2 * i21)))] [(.int (cn + (1 : Int32))), (.ref a1)])) t
      exact k)
    obtain ⟨T27, h27, X27, e27, W27, st27⟩ := putF X26 hx hZ hown (host := "") (Or.inl (hw _ (List.mem_of_getElem? (i := 47) rfl))) Via.refl e26 F3 Ea (Or.inl (hw _ (List.mem_of_getElem? (i := 48) rfl))) (hw _ (List.mem_of_getElem? (i := 2) rfl)) (ty := .int) (by decide) rfl rfl (g := (mkF m 54 #[.val (.ref a1), .val (.int t1), .val (.int v1), .val (.int (Int32.ofNat (2 * i21)))] [(.int (cn + (1 : Int32))), (.ref a1)])) rfl rfl (hb hby d_put_54)
    have N27 := Fr.snoc X27 N21 ga
    replace pre : Pth p e below S0 T27 (mkF m 57 #[.val (.ref a1), .val (.int t1), .val (.int v1), .val (.int (Int32.ofNat (2 * i21)))] []) := fun t k => pre t (st27 _ k)
    have F1b := F1.other W27 (Or.inr (slot_ne (Or.inr (hw _ (List.mem_of_getElem? (i := 25) rfl))) (Or.inl (hw _ (List.mem_of_getElem? (i := 48) rfl))) (by decide) (t := (.array .int)) (t' := .int) (by decide) (by decide)))
    have F2b := F2.other W27 (Or.inr (slot_ne (Or.inr (hw _ (List.mem_of_getElem? (i := 27) rfl))) (Or.inl (hw _ (List.mem_of_getElem? (i := 48) rfl))) (by decide) (t := .int) (t' := .int) (by decide) (by decide)))
    have F3b := F3.same W27
    have Eb := Ea.wr W27
    have Fb := Fa.other W27 hne.symm
    replace pre : Pth p e below S0 T27 (mkF m 58 #[.val (.ref a1), .val (.int t1), .val (.int v1), .val (.int (Int32.ofNat (2 * i21)))] [(.ref a1)]) := fun t k => pre t (by
      show Steps p.tables e below (T27.setTop (mkF m 57 #[.val (.ref a1), .val (.int t1), .val (.int v1), .val (.int (Int32.ofNat (2 * i21)))] [])) t
      refine XS.aloadN X27.here hx rfl (hb hby d_put_57) rfl rfl ?_
      show Steps p.tables e below (T27.setTop (mkF m 58 #[.val (.ref a1), .val (.int t1), .val (.int v1), .val (.int (Int32.ofNat (2 * i21)))] [(.ref a1)])) t
      exact k)
    obtain ⟨T28, X28, e28, st28⟩ := getF X27 hx hZ hown (host := "") (Or.inl (hw _ (List.mem_of_getElem? (i := 24) rfl))) Via.refl e27 F1b (g := (mkF m 58 #[.val (.ref a1), .val (.int t1), .val (.int v1), .val (.int (Int32.ofNat (2 * i21)))] [(.ref a1)])) rfl rfl (hb hby d_put_58)
    replace pre : Pth p e below S0 T28 (mkF m 61 #[.val (.ref a1), .val (.int t1), .val (.int v1), .val (.int (Int32.ofNat (2 * i21)))] [(.ref r)]) := fun t k => pre t (st28 _ k)
    replace pre : Pth p e below S0 T28 (mkF m 63 #[.val (.ref a1), .val (.int t1), .val (.int v1), .val (.int (Int32.ofNat (2 * i21)))] [(.int t1), (.int (Int32.ofNat (2 * i21))), (.ref r)]) := fun t k => pre t (by
      show Steps p.tables e below (T28.setTop (mkF m 61 #[.val (.ref a1), .val (.int t1), .val (.int v1), .val (.int (Int32.ofNat (2 * i21)))] [(.ref r)])) t
      refine XS.iloadN X28.here hx rfl (hb hby d_put_61) rfl ?_
      show Steps p.tables e below (T28.setTop (mkF m 62 #[.val (.ref a1), .val (.int t1), .val (.int v1), .val (.int (Int32.ofNat (2 * i21)))] [(.int (Int32.ofNat (2 * i21))), (.ref r)])) t
      refine XS.iloadN X28.here hx rfl (hb hby d_put_62) rfl ?_
      show Steps p.tables e below (T28.setTop (mkF m 63 #[.val (.ref a1), .val (.int t1), .val (.int v1), .val (.int (Int32.ofNat (2 * i21)))] [(.int t1), (.int (Int32.ofNat (2 * i21))), (.ref r)])) t
      exact k)
    obtain ⟨cl29, Ar29, Sz29, -⟩ := id Fb
    obtain ⟨T29, h29, X29, e29, W29, st29⟩ := stI X28 hx hZ e28 Ar29 (j := (Int32.ofNat (2 * i21))) (by rw [Sz29]; exact (own_in hix.2.2.2.2 (by omega))) (g := (mkF m 63 #[.val (.ref a1), .val (.int t1), .val (.int v1), .val (.int (Int32.ofNat (2 * i21)))] [(.int t1), (.int (Int32.ofNat (2 * i21))), (.ref r)])) rfl rfl (hb hby d_put_63)
    have F29 := OFun.set Fb W29
    have N29 := Fr.snoc X29 N27 gr
    replace pre : Pth p e below S0 T29 (mkF m 64 #[.val (.ref a1), .val (.int t1), .val (.int v1), .val (.int (Int32.ofNat (2 * i21)))] []) := fun t k => pre t (st29 _ k)
    have F1c := F1b.other W29 (Or.inl hne)
    replace pre : Pth p e below S0 T29 (mkF m 65 #[.val (.ref a1), .val (.int t1), .val (.int v1), .val (.int (Int32.ofNat (2 * i21)))] [(.ref a1)]) := fun t k => pre t (by
      show Steps p.tables e below (T29.setTop (mkF m 64 #[.val (.ref a1), .val (.int t1), .val (.int v1), .val (.int (Int32.ofNat (2 * i21)))] [])) t
      refine XS.aloadN X29.here hx rfl (hb hby d_put_64) rfl rfl ?_
      show Steps p.tables e below (T29.setTop (mkF m 65 #[.val (.ref a1), .val (.int t1), .val (.int v1), .val (.int (Int32.ofNat (2 * i21)))] [(.ref a1)])) t
      exact k)
    obtain ⟨T30, X30, e30, st30⟩ := getF X29 hx hZ hown (host := "") (Or.inl (hw _ (List.mem_of_getElem? (i := 24) rfl))) Via.refl e29 F1c (g := (mkF m 65 #[.val (.ref a1), .val (.int t1), .val (.int v1), .val (.int (Int32.ofNat (2 * i21)))] [(.ref a1)])) rfl rfl (hb hby d_put_65)
    replace pre : Pth p e below S0 T30 (mkF m 68 #[.val (.ref a1), .val (.int t1), .val (.int v1), .val (.int (Int32.ofNat (2 * i21)))] [(.ref r)]) := fun t k => pre t (st30 _ k)
    replace pre : Pth p e below S0 T30 (mkF m 74 #[.val (.ref a1), .val (.int t1), .val (.int v1), .val (.int (Int32.ofNat (2 * i21)))] [(.int (v1 + (1 : Int32))), (.int ((Int32.ofNat (2 * i21)) + (1 : Int32))), (.ref r)]) := fun t k => pre t (by
      show Steps p.tables e below (T30.setTop (mkF m 68 #[.val (.ref a1), .val (.int t1), .val (.int v1), .val (.int (Int32.ofNat (2 * i21)))] [(.ref r)])) t
      refine XS.iloadN X30.here hx rfl (hb hby d_put_68) rfl ?_
      show Steps p.tables e below (T30.setTop (mkF m 69 #[.val (.ref a1), .val (.int t1), .val (.int v1), .val (.int (Int32.ofNat (2 * i21)))] [(.int (Int32.ofNat (2 * i21))), (.ref r)])) t
      refine XS.iconst X30.here hx rfl (hb hby d_put_69) ?_
      show Steps p.tables e below (T30.setTop (mkF m 70 #[.val (.ref a1), .val (.int t1), .val (.int v1), .val (.int (Int32.ofNat (2 * i21)))] [(.int (1 : Int32)), (.int (Int32.ofNat (2 * i21))), (.ref r)])) t
      refine XS.iadd X30.here hx rfl (hb hby d_put_70) rfl ?_
      show Steps p.tables e below (T30.setTop (mkF m 71 #[.val (.ref a1), .val (.int t1), .val (.int v1), .val (.int (Int32.ofNat (2 * i21)))] [(.int ((Int32.ofNat (2 * i21)) + (1 : Int32))), (.ref r)])) t
      refine XS.iloadN X30.here hx rfl (hb hby d_put_71) rfl ?_
      show Steps p.tables e below (T30.setTop (mkF m 72 #[.val (.ref a1), .val (.int t1), .val (.int v1), .val (.int (Int32.ofNat (2 * i21)))] [(.int v1), (.int ((Int32.ofNat (2 * i21)) + (1 : Int32))), (.ref r)])) t
      refine XS.iconst X30.here hx rfl (hb hby d_put_72) ?_
      show Steps p.tables e below (T30.setTop (mkF m 73 #[.val (.ref a1), .val (.int t1), .val (.int v1), .val (.int (Int32.ofNat (2 * i21)))] [(.int (1 : Int32)), (.int v1), (.int ((Int32.ofNat (2 * i21)) + (1 : Int32))), (.ref r)])) t
      refine XS.iadd X30.here hx rfl (hb hby d_put_73) rfl ?_
      show Steps p.tables e below (T30.setTop (mkF m 74 #[.val (.ref a1), .val (.int t1), .val (.int v1), .val (.int (Int32.ofNat (2 * i21)))] [(.int (v1 + (1 : Int32))), (.int ((Int32.ofNat (2 * i21)) + (1 : Int32))), (.ref r)])) t
      exact k)
    obtain ⟨cl31, Ar31, Sz31, -⟩ := id F29
    obtain ⟨T31, h31, X31, e31, W31, st31⟩ := stI X30 hx hZ e30 Ar31 (j := ((Int32.ofNat (2 * i21)) + (1 : Int32))) (by rw [Sz31]; exact (own_in hix.2.2.2.1 (by omega))) (g := (mkF m 74 #[.val (.ref a1), .val (.int t1), .val (.int v1), .val (.int (Int32.ofNat (2 * i21)))] [(.int (v1 + (1 : Int32))), (.int ((Int32.ofNat (2 * i21)) + (1 : Int32))), (.ref r)])) rfl rfl (hb hby d_put_74)
    have F31 := OFun.set F29 W31
    have N31 := Fr.snoc X31 N29 gr
    replace pre : Pth p e below S0 T31 (mkF m 75 #[.val (.ref a1), .val (.int t1), .val (.int v1), .val (.int (Int32.ofNat (2 * i21)))] []) := fun t k => pre t (st31 _ k)
    replace pre : Pth p e below S0 T31 (mkF m 76 #[.val (.ref a1), .val (.int t1), .val (.int v1), .val (.int (Int32.ofNat (2 * i21)))] [(.int (1 : Int32))]) := fun t k => pre t (by
      show Steps p.tables e below (T31.setTop (mkF m 75 #[.val (.ref a1), .val (.int t1), .val (.int v1), .val (.int (Int32.ofNat (2 * i21)))] [])) t
      refine XS.iconst X31.here hx rfl (hb hby d_put_75) ?_
      show Steps p.tables e below (T31.setTop (mkF m 76 #[.val (.ref a1), .val (.int t1), .val (.int v1), .val (.int (Int32.ofNat (2 * i21)))] [(.int (1 : Int32))])) t
      exact k)
    obtain ⟨fs, hr, hrun, hended, hW, hsame⟩ := X31.leave (v := some (.int (1 : Int32))) (fun h => by rw [Bd.returns] at h; cases h)
    subst hS0
    refine ⟨_, _, pre _ ?_, hrun, hended, _, _, rfl, ?_, ⟨_, rfl⟩, hW, hsame.mono (by decide) (by decide)⟩
    · exact retN X31 hx (t := .boolean) Bd.returns (by simp) (hb hby d_put_76) hr
    · show Q_put Z a1 t1 v1 r sz cn C f h0 n0 _ T31.heap _
      rw [e31]
      refine ⟨1, cn + 1, own_ins f i21 t1 (v1 + 1), rfl, N31, by rw [W31.size, W29.size, W27.size]; exact Nat.le_refl _, ⟨F1c.other W31 (Or.inl hne), (F2b.other W29 (Or.inl hne)).other W31 (Or.inl hne), (F3b.other W29 (Or.inl hne)).other W31 (Or.inl hne), (Eb.wr W29).wr W31, F31.congr fun j hj => ?_, hne, hC⟩, ⟨i21, hi21, hs21, Or.inr ⟨z0, rfl, rfl⟩⟩, Or.inr rfl⟩
      rw [own_cl hix.2.2.2.1, own_cl hix.2.2.2.2]
      unfold own_ins
      by_cases q1 : j = 2 * i21 + 1
      · rw [if_pos q1, if_pos q1]
      · rw [if_neg q1, if_neg q1]
        by_cases q2 : j = 2 * i21
        · rw [if_pos q2, if_pos q2]
        · rw [if_neg q2, if_neg q2]
  · replace pre : Pth p e below S0 T22 (mkF m 18 #[.val (.ref a1), .val (.int t1), .val (.int v1), .val (.int (Int32.ofNat (2 * i21)))] [(.int (0 : Int32))]) := fun t k => pre t (by
      show Steps p.tables e below (T22.setTop (mkF m 14 #[.val (.ref a1), .val (.int t1), .val (.int v1), .val (.int (Int32.ofNat (2 * i21)))] [(.int (f (2 * i21 + 1)))])) t
      refine XS.ifNo X22.here hx rfl (hb hby d_put_14) rfl (XT.i0_eq_f z0) ?_
      show Steps p.tables e below (T22.setTop (mkF m 17 #[.val (.ref a1), .val (.int t1), .val (.int v1), .val (.int (Int32.ofNat (2 * i21)))] [])) t
      refine XS.iconst X22.here hx rfl (hb hby d_put_17) ?_
      show Steps p.tables e below (T22.setTop (mkF m 18 #[.val (.ref a1), .val (.int t1), .val (.int v1), .val (.int (Int32.ofNat (2 * i21)))] [(.int (0 : Int32))])) t
      exact k)
    obtain ⟨fs, hr, hrun, hended, hW, hsame⟩ := X22.leave (v := some (.int (0 : Int32))) (fun h => by rw [Bd.returns] at h; cases h)
    subst hS0
    refine ⟨_, _, pre _ ?_, hrun, hended, _, _, rfl, ?_, ⟨_, rfl⟩, hW, hsame.mono (by decide) (by decide)⟩
    · exact retN X22 hx (t := .boolean) Bd.returns (by simp) (hb hby d_put_18) hr
    · show Q_put Z a1 t1 v1 r sz cn C f h0 n0 _ T22.heap _
      rw [e22]
      exact ⟨0, cn, f, rfl, N21, Nat.le_refl _, hT, ⟨i21, hi21, hs21, Or.inl ⟨z0, rfl, rfl⟩⟩, Or.inl rfl⟩
def Q_exp (Z : State) (nn : Int32) (t1 : Int32) (v1 : Int32) (t2 : Int32) (v2 : Int32) (t3 : Int32) (v3 : Int32) (xx : Int32) (h0 : Heap) (n0 : Nat) (v : Option Value) (h : Heap) (L : List Loc) : Prop := v = some (.int (own_exp nn t1 v1 t2 v2 t3 v3 xx)) ∧ Fr n0 L ∧ h = h0
set_option maxRecDepth 65536 in
set_option maxHeartbeats 40000000 in
theorem rm_exp (l : Launch) (Z : State) (a0 : Array Value) (hw : ∀ d ∈ tables_1, d.before a0 Z = true) (ws : List Jvm.Cond) (nn : Int32) (t1 : Int32) (v1 : Int32) (t2 : Int32) (v2 : Int32) (t3 : Int32) (v3 : Int32) (xx : Int32) (h0 : Heap) (n0 : Nat)  :
    MetFree l (⟨"com/example/tagwire/tagwire/dictionary/TagTableGetPinLaw", "expected", "(IIIIIIII)I"⟩ : MethodName) (head1 (Jvm.Cond.code (⟨"com/example/tagwire/tagwire/dictionary/TagTableGetPinLaw", "expected", "(IIIIIIII)I"⟩ : MethodName) method_2_code 8 (some .int) :: ws) ({ frames := 0, cells := 0, slots := 0, locals := 0 } : Room)) (fun a U => a = #[(.int nn), (.int t1), (.int v1), (.int t2), (.int v2), (.int t3), (.int v3), (.int xx)] ∧ Z.Warmed39 U.vm ∧ U.heap = h0) (fun _ _ _ _ _ => True) (fun _ U o U' => ∃ v L, o = .returned v ∧ Q_exp Z nn t1 v1 t2 v2 t3 v3 xx h0 n0 v U'.heap L ∧ FrameEnd U o U' L ({ frames := 0, cells := 0, slots := 0, locals := 0 } : Room).cells ({ frames := 0, cells := 0, slots := 0, locals := 0 } : Room).slots) := by
  refine MetFree.of_bodySF (plainFor_of_name pn_com_example_tagwire_tagwire_dictionary_TagTableGetPinLaw) hisR ?_
  intro p e s m args below meth c s₁ Bd hml0 hP hK
  obtain ⟨rfl, hZ, hh⟩ := hP
  have hx := Bd.exec
  have hby := Bd.bytes
  have hml : c.maxLocals = 8 := hml0
  have hown : s.vm.findClass "com/example/tagwire/tagwire/dictionary/TagTableGetPinLaw" = some m.cls := findClass_of_methodNamed Bd.named
  have hnm := (name_of_methodNamed Bd.named Bd.method).1
  have X0 : Stand p l e ({ frames := 0, cells := 0, slots := 0, locals := 0 } : Room) s m #[(.int nn), (.int t1), (.int v1), (.int t2), (.int v2), (.int t3), (.int v3), (.int xx)] below meth c s₁ [] 0 0 := Stand.of_body Bd
  have e0 : s₁.heap = h0 := by rw [← hh, Bd.state]; rfl
  have N0 := Fr.nil n0
  obtain ⟨S0, hS0⟩ : ∃ S0, S0 = s₁.setTop (entryFrame m #[(.int nn), (.int t1), (.int v1), (.int t2), (.int v2), (.int t3), (.int v3), (.int xx)] 8) := ⟨_, rfl⟩
  have pre : Pth p e below S0 s₁ (mkF m 0 #[.val (.int nn), .val (.int t1), .val (.int v1), .val (.int t2), .val (.int v2), .val (.int t3), .val (.int v3), .val (.int xx)] []) := fun t k => by rw [hS0]; exact castTop (ef_exp m nn t1 v1 t2 v2 t3 v3 xx) k
  replace pre : Pth p e below S0 s₁ (mkF m 2 #[.val (.int nn), .val (.int t1), .val (.int v1), .val (.int t2), .val (.int v2), .val (.int t3), .val (.int v3), .val (.int xx)] [(.int (1 : Int32)), (.int nn)]) := fun t k => pre t (by
    show Steps p.tables e below (s₁.setTop (mkF m 0 #[.val (.int nn), .val (.int t1), .val (.int v1), .val (.int t2), .val (.int v2), .val (.int t3), .val (.int v3), .val (.int xx)] [])) t
    refine XS.iloadN X0.here hx rfl (hb hby d_exp_0) rfl ?_
    show Steps p.tables e below (s₁.setTop (mkF m 1 #[.val (.int nn), .val (.int t1), .val (.int v1), .val (.int t2), .val (.int v2), .val (.int t3), .val (.int v3), .val (.int xx)] [(.int nn)])) t
    refine XS.iconst X0.here hx rfl (hb hby d_exp_1) ?_
    show Steps p.tables e below (s₁.setTop (mkF m 2 #[.val (.int nn), .val (.int t1), .val (.int v1), .val (.int t2), .val (.int v2), .val (.int t3), .val (.int v3), .val (.int xx)] [(.int (1 : Int32)), (.int nn)])) t
    exact k)
  by_cases lt0 : nn < (1 : Int32)
  · replace pre : Pth p e below S0 s₁ (mkF m 15 #[.val (.int nn), .val (.int t1), .val (.int v1), .val (.int t2), .val (.int v2), .val (.int t3), .val (.int v3), .val (.int xx)] [(.int (2 : Int32)), (.int nn)]) := fun t k => pre t (by
      show Steps p.tables e below (s₁.setTop (mkF m 2 #[.val (.int nn), .val (.int t1), .val (.int v1), .val (.int t2), .val (.int v2), .val (.int t3), .val (.int v3), .val (.int xx)] [(.int (1 : Int32)), (.int nn)])) t
      refine XS.icmpYes X0.here hx rfl (pc0 := 2) (pc' := 13) rfl (hb hby d_exp_2) rfl (XT.ii_lt_t lt0) (by decide) (by decide) ?_
      show Steps p.tables e below (s₁.setTop (mkF m 13 #[.val (.int nn), .val (.int t1), .val (.int v1), .val (.int t2), .val (.int v2), .val (.int t3), .val (.int v3), .val (.int xx)] [])) t
      refine XS.iloadN X0.here hx rfl (hb hby d_exp_13) rfl ?_
      show Steps p.tables e below (s₁.setTop (mkF m 14 #[.val (.int nn), .val (.int t1), .val (.int v1), .val (.int t2), .val (.int v2), .val (.int t3), .val (.int v3), .val (.int xx)] [(.int nn)])) t
      refine XS.iconst X0.here hx rfl (hb hby d_exp_14) ?_
      show Steps p.tables e below (s₁.setTop (mkF m 15 #[.val (.int nn), .val (.int t1), .val (.int v1), .val (.int t2), .val (.int v2), .val (.int t3), .val (.int v3), .val (.int xx)] [(.int (2 : Int32)), (.int nn)])) t
      exact k)
    by_cases lt1 : nn < (2 : Int32)
    · replace pre : Pth p e below S0 s₁ (mkF m 29 #[.val (.int nn), .val (.int t1), .val (.int v1), .val (.int t2), .val (.int v2), .val (.int t3), .val (.int v3), .val (.int xx)] [(.int (3 : Int32)), (.int nn)]) := fun t k => pre t (by
        show Steps p.tables e below (s₁.setTop (mkF m 15 #[.val (.int nn), .val (.int t1), .val (.int v1), .val (.int t2), .val (.int v2), .val (.int t3), .val (.int v3), .val (.int xx)] [(.int (2 : Int32)), (.int nn)])) t
        refine XS.icmpYes X0.here hx rfl (pc0 := 15) (pc' := 27) rfl (hb hby d_exp_15) rfl (XT.ii_lt_t lt1) (by decide) (by decide) ?_
        show Steps p.tables e below (s₁.setTop (mkF m 27 #[.val (.int nn), .val (.int t1), .val (.int v1), .val (.int t2), .val (.int v2), .val (.int t3), .val (.int v3), .val (.int xx)] [])) t
        refine XS.iloadN X0.here hx rfl (hb hby d_exp_27) rfl ?_
        show Steps p.tables e below (s₁.setTop (mkF m 28 #[.val (.int nn), .val (.int t1), .val (.int v1), .val (.int t2), .val (.int v2), .val (.int t3), .val (.int v3), .val (.int xx)] [(.int nn)])) t
        refine XS.iconst X0.here hx rfl (hb hby d_exp_28) ?_
        show Steps p.tables e below (s₁.setTop (mkF m 29 #[.val (.int nn), .val (.int t1), .val (.int v1), .val (.int t2), .val (.int v2), .val (.int t3), .val (.int v3), .val (.int xx)] [(.int (3 : Int32)), (.int nn)])) t
        exact k)
      by_cases lt2 : nn < (3 : Int32)
      · replace pre : Pth p e below S0 s₁ (mkF m 43 #[.val (.int nn), .val (.int t1), .val (.int v1), .val (.int t2), .val (.int v2), .val (.int t3), .val (.int v3), .val (.int xx)] [(.int (-1 : Int32))]) := fun t k => pre t (by
          show Steps p.tables e below (s₁.setTop (mkF m 29 #[.val (.int nn), .val (.int t1), .val (.int v1), .val (.int t2), .val (.int v2), .val (.int t3), .val (.int v3), .val (.int xx)] [(.int (3 : Int32)), (.int nn)])) t
          refine XS.icmpYes X0.here hx rfl (pc0 := 29) (pc' := 42) rfl (hb hby d_exp_29) rfl (XT.ii_lt_t lt2) (by decide) (by decide) ?_
          show Steps p.tables e below (s₁.setTop (mkF m 42 #[.val (.int nn), .val (.int t1), .val (.int v1), .val (.int t2), .val (.int v2), .val (.int t3), .val (.int v3), .val (.int xx)] [])) t
          refine XS.iconst X0.here hx rfl (hb hby d_exp_42) ?_
          show Steps p.tables e below (s₁.setTop (mkF m 43 #[.val (.int nn), .val (.int t1), .val (.int v1), .val (.int t2), .val (.int v2), .val (.int t3), .val (.int v3), .val (.int xx)] [(.int (-1 : Int32))])) t
          exact k)
        obtain ⟨fs, hr, hrun, hended, hW, hsame⟩ := X0.leave (v := some (.int (-1 : Int32))) (fun h => by rw [Bd.returns] at h; cases h)
        subst hS0
        refine ⟨_, _, pre _ ?_, hrun, hended, _, _, rfl, ?_, ⟨_, rfl⟩, hW, hsame.mono (by decide) (by decide)⟩
        · exact retI X0 hx Bd.returns (hb hby d_exp_43) hr
        · show Q_exp Z nn t1 v1 t2 v2 t3 v3 xx h0 n0 _ s₁.heap _
          rw [e0]
          exact ⟨by rw [own_exp, if_neg (fun q => q.1 lt0), if_neg (fun q => q.1 lt1), if_neg (fun q => q.1 lt2)], N0, rfl⟩
      · replace pre : Pth p e below S0 s₁ (mkF m 36 #[.val (.int nn), .val (.int t1), .val (.int v1), .val (.int t2), .val (.int v2), .val (.int t3), .val (.int v3), .val (.int xx)] [(.int t3), (.int xx)]) := fun t k => pre t (by
          show Steps p.tables e below (s₁.setTop (mkF m 29 #[.val (.int nn), .val (.int t1), .val (.int v1), .val (.int t2), .val (.int v2), .val (.int t3), .val (.int v3), .val (.int xx)] [(.int (3 : Int32)), (.int nn)])) t
          refine XS.icmpNo X0.here hx rfl (hb hby d_exp_29) rfl (XT.ii_lt_f lt2) ?_
          show Steps p.tables e below (s₁.setTop (mkF m 32 #[.val (.int nn), .val (.int t1), .val (.int v1), .val (.int t2), .val (.int v2), .val (.int t3), .val (.int v3), .val (.int xx)] [])) t
          refine XS.iload X0.here hx rfl (hb hby d_exp_32) rfl ?_
          show Steps p.tables e below (s₁.setTop (mkF m 34 #[.val (.int nn), .val (.int t1), .val (.int v1), .val (.int t2), .val (.int v2), .val (.int t3), .val (.int v3), .val (.int xx)] [(.int xx)])) t
          refine XS.iload X0.here hx rfl (hb hby d_exp_34) rfl ?_
          show Steps p.tables e below (s₁.setTop (mkF m 36 #[.val (.int nn), .val (.int t1), .val (.int v1), .val (.int t2), .val (.int v2), .val (.int t3), .val (.int v3), .val (.int xx)] [(.int t3), (.int xx)])) t
          exact k)
        by_cases eq2 : xx = t3
        · replace pre : Pth p e below S0 s₁ (mkF m 41 #[.val (.int nn), .val (.int t1), .val (.int v1), .val (.int t2), .val (.int v2), .val (.int t3), .val (.int v3), .val (.int xx)] [(.int v3)]) := fun t k => pre t (by
            show Steps p.tables e below (s₁.setTop (mkF m 36 #[.val (.int nn), .val (.int t1), .val (.int v1), .val (.int t2), .val (.int v2), .val (.int t3), .val (.int v3), .val (.int xx)] [(.int t3), (.int xx)])) t
            refine XS.icmpNo X0.here hx rfl (hb hby d_exp_36) rfl (XT.ii_ne_f eq2) ?_
            show Steps p.tables e below (s₁.setTop (mkF m 39 #[.val (.int nn), .val (.int t1), .val (.int v1), .val (.int t2), .val (.int v2), .val (.int t3), .val (.int v3), .val (.int xx)] [])) t
            refine XS.iload X0.here hx rfl (hb hby d_exp_39) rfl ?_
            show Steps p.tables e below (s₁.setTop (mkF m 41 #[.val (.int nn), .val (.int t1), .val (.int v1), .val (.int t2), .val (.int v2), .val (.int t3), .val (.int v3), .val (.int xx)] [(.int v3)])) t
            exact k)
          obtain ⟨fs, hr, hrun, hended, hW, hsame⟩ := X0.leave (v := some (.int v3)) (fun h => by rw [Bd.returns] at h; cases h)
          subst hS0
          refine ⟨_, _, pre _ ?_, hrun, hended, _, _, rfl, ?_, ⟨_, rfl⟩, hW, hsame.mono (by decide) (by decide)⟩
          · exact retI X0 hx Bd.returns (hb hby d_exp_41) hr
          · show Q_exp Z nn t1 v1 t2 v2 t3 v3 xx h0 n0 _ s₁.heap _
            rw [e0]
            exact ⟨by rw [own_exp, if_neg (fun q => q.1 lt0), if_neg (fun q => q.1 lt1), if_pos ⟨lt2, eq2⟩], N0, rfl⟩
        · replace pre : Pth p e below S0 s₁ (mkF m 43 #[.val (.int nn), .val (.int t1), .val (.int v1), .val (.int t2), .val (.int v2), .val (.int t3), .val (.int v3), .val (.int xx)] [(.int (-1 : Int32))]) := fun t k => pre t (by
            show Steps p.tables e below (s₁.setTop (mkF m 36 #[.val (.int nn), .val (.int t1), .val (.int v1), .val (.int t2), .val (.int v2), .val (.int t3), .val (.int v3), .val (.int xx)] [(.int t3), (.int xx)])) t
            refine XS.icmpYes X0.here hx rfl (pc0 := 36) (pc' := 42) rfl (hb hby d_exp_36) rfl (XT.ii_ne_t eq2) (by decide) (by decide) ?_
            show Steps p.tables e below (s₁.setTop (mkF m 42 #[.val (.int nn), .val (.int t1), .val (.int v1), .val (.int t2), .val (.int v2), .val (.int t3), .val (.int v3), .val (.int xx)] [])) t
            refine XS.iconst X0.here hx rfl (hb hby d_exp_42) ?_
            show Steps p.tables e below (s₁.setTop (mkF m 43 #[.val (.int nn), .val (.int t1), .val (.int v1), .val (.int t2), .val (.int v2), .val (.int t3), .val (.int v3), .val (.int xx)] [(.int (-1 : Int32))])) t
            exact k)
          obtain ⟨fs, hr, hrun, hended, hW, hsame⟩ := X0.leave (v := some (.int (-1 : Int32))) (fun h => by rw [Bd.returns] at h; cases h)
          subst hS0
          refine ⟨_, _, pre _ ?_, hrun, hended, _, _, rfl, ?_, ⟨_, rfl⟩, hW, hsame.mono (by decide) (by decide)⟩
          · exact retI X0 hx Bd.returns (hb hby d_exp_43) hr
          · show Q_exp Z nn t1 v1 t2 v2 t3 v3 xx h0 n0 _ s₁.heap _
            rw [e0]
            exact ⟨by rw [own_exp, if_neg (fun q => q.1 lt0), if_neg (fun q => q.1 lt1), if_neg (fun q => eq2 q.2)], N0, rfl⟩
    · replace pre : Pth p e below S0 s₁ (mkF m 21 #[.val (.int nn), .val (.int t1), .val (.int v1), .val (.int t2), .val (.int v2), .val (.int t3), .val (.int v3), .val (.int xx)] [(.int t2), (.int xx)]) := fun t k => pre t (by
        show Steps p.tables e below (s₁.setTop (mkF m 15 #[.val (.int nn), .val (.int t1), .val (.int v1), .val (.int t2), .val (.int v2), .val (.int t3), .val (.int v3), .val (.int xx)] [(.int (2 : Int32)), (.int nn)])) t
        refine XS.icmpNo X0.here hx rfl (hb hby d_exp_15) rfl (XT.ii_lt_f lt1) ?_
        show Steps p.tables e below (s₁.setTop (mkF m 18 #[.val (.int nn), .val (.int t1), .val (.int v1), .val (.int t2), .val (.int v2), .val (.int t3), .val (.int v3), .val (.int xx)] [])) t
        refine XS.iload X0.here hx rfl (hb hby d_exp_18) rfl ?_
        show Steps p.tables e below (s₁.setTop (mkF m 20 #[.val (.int nn), .val (.int t1), .val (.int v1), .val (.int t2), .val (.int v2), .val (.int t3), .val (.int v3), .val (.int xx)] [(.int xx)])) t
        refine XS.iloadN X0.here hx rfl (hb hby d_exp_20) rfl ?_
        show Steps p.tables e below (s₁.setTop (mkF m 21 #[.val (.int nn), .val (.int t1), .val (.int v1), .val (.int t2), .val (.int v2), .val (.int t3), .val (.int v3), .val (.int xx)] [(.int t2), (.int xx)])) t
        exact k)
      by_cases eq1 : xx = t2
      · replace pre : Pth p e below S0 s₁ (mkF m 26 #[.val (.int nn), .val (.int t1), .val (.int v1), .val (.int t2), .val (.int v2), .val (.int t3), .val (.int v3), .val (.int xx)] [(.int v2)]) := fun t k => pre t (by
          show Steps p.tables e below (s₁.setTop (mkF m 21 #[.val (.int nn), .val (.int t1), .val (.int v1), .val (.int t2), .val (.int v2), .val (.int t3), .val (.int v3), .val (.int xx)] [(.int t2), (.int xx)])) t
          refine XS.icmpNo X0.here hx rfl (hb hby d_exp_21) rfl (XT.ii_ne_f eq1) ?_
          show Steps p.tables e below (s₁.setTop (mkF m 24 #[.val (.int nn), .val (.int t1), .val (.int v1), .val (.int t2), .val (.int v2), .val (.int t3), .val (.int v3), .val (.int xx)] [])) t
          refine XS.iload X0.here hx rfl (hb hby d_exp_24) rfl ?_
          show Steps p.tables e below (s₁.setTop (mkF m 26 #[.val (.int nn), .val (.int t1), .val (.int v1), .val (.int t2), .val (.int v2), .val (.int t3), .val (.int v3), .val (.int xx)] [(.int v2)])) t
          exact k)
        obtain ⟨fs, hr, hrun, hended, hW, hsame⟩ := X0.leave (v := some (.int v2)) (fun h => by rw [Bd.returns] at h; cases h)
        subst hS0
        refine ⟨_, _, pre _ ?_, hrun, hended, _, _, rfl, ?_, ⟨_, rfl⟩, hW, hsame.mono (by decide) (by decide)⟩
        · exact retI X0 hx Bd.returns (hb hby d_exp_26) hr
        · show Q_exp Z nn t1 v1 t2 v2 t3 v3 xx h0 n0 _ s₁.heap _
          rw [e0]
          exact ⟨by rw [own_exp, if_neg (fun q => q.1 lt0), if_pos ⟨lt1, eq1⟩], N0, rfl⟩
      · replace pre : Pth p e below S0 s₁ (mkF m 29 #[.val (.int nn), .val (.int t1), .val (.int v1), .val (.int t2), .val (.int v2), .val (.int t3), .val (.int v3), .val (.int xx)] [(.int (3 : Int32)), (.int nn)]) := fun t k => pre t (by
          show Steps p.tables e below (s₁.setTop (mkF m 21 #[.val (.int nn), .val (.int t1), .val (.int v1), .val (.int t2), .val (.int v2), .val (.int t3), .val (.int v3), .val (.int xx)] [(.int t2), (.int xx)])) t
          refine XS.icmpYes X0.here hx rfl (pc0 := 21) (pc' := 27) rfl (hb hby d_exp_21) rfl (XT.ii_ne_t eq1) (by decide) (by decide) ?_
          show Steps p.tables e below (s₁.setTop (mkF m 27 #[.val (.int nn), .val (.int t1), .val (.int v1), .val (.int t2), .val (.int v2), .val (.int t3), .val (.int v3), .val (.int xx)] [])) t
          refine XS.iloadN X0.here hx rfl (hb hby d_exp_27) rfl ?_
          show Steps p.tables e below (s₁.setTop (mkF m 28 #[.val (.int nn), .val (.int t1), .val (.int v1), .val (.int t2), .val (.int v2), .val (.int t3), .val (.int v3), .val (.int xx)] [(.int nn)])) t
          refine XS.iconst X0.here hx rfl (hb hby d_exp_28) ?_
          show Steps p.tables e below (s₁.setTop (mkF m 29 #[.val (.int nn), .val (.int t1), .val (.int v1), .val (.int t2), .val (.int v2), .val (.int t3), .val (.int v3), .val (.int xx)] [(.int (3 : Int32)), (.int nn)])) t
          exact k)
        by_cases lt2 : nn < (3 : Int32)
        · replace pre : Pth p e below S0 s₁ (mkF m 43 #[.val (.int nn), .val (.int t1), .val (.int v1), .val (.int t2), .val (.int v2), .val (.int t3), .val (.int v3), .val (.int xx)] [(.int (-1 : Int32))]) := fun t k => pre t (by
            show Steps p.tables e below (s₁.setTop (mkF m 29 #[.val (.int nn), .val (.int t1), .val (.int v1), .val (.int t2), .val (.int v2), .val (.int t3), .val (.int v3), .val (.int xx)] [(.int (3 : Int32)), (.int nn)])) t
            refine XS.icmpYes X0.here hx rfl (pc0 := 29) (pc' := 42) rfl (hb hby d_exp_29) rfl (XT.ii_lt_t lt2) (by decide) (by decide) ?_
            show Steps p.tables e below (s₁.setTop (mkF m 42 #[.val (.int nn), .val (.int t1), .val (.int v1), .val (.int t2), .val (.int v2), .val (.int t3), .val (.int v3), .val (.int xx)] [])) t
            refine XS.iconst X0.here hx rfl (hb hby d_exp_42) ?_
            show Steps p.tables e below (s₁.setTop (mkF m 43 #[.val (.int nn), .val (.int t1), .val (.int v1), .val (.int t2), .val (.int v2), .val (.int t3), .val (.int v3), .val (.int xx)] [(.int (-1 : Int32))])) t
            exact k)
          obtain ⟨fs, hr, hrun, hended, hW, hsame⟩ := X0.leave (v := some (.int (-1 : Int32))) (fun h => by rw [Bd.returns] at h; cases h)
          subst hS0
          refine ⟨_, _, pre _ ?_, hrun, hended, _, _, rfl, ?_, ⟨_, rfl⟩, hW, hsame.mono (by decide) (by decide)⟩
          · exact retI X0 hx Bd.returns (hb hby d_exp_43) hr
          · show Q_exp Z nn t1 v1 t2 v2 t3 v3 xx h0 n0 _ s₁.heap _
            rw [e0]
            exact ⟨by rw [own_exp, if_neg (fun q => q.1 lt0), if_neg (fun q => eq1 q.2), if_neg (fun q => q.1 lt2)], N0, rfl⟩
        · replace pre : Pth p e below S0 s₁ (mkF m 36 #[.val (.int nn), .val (.int t1), .val (.int v1), .val (.int t2), .val (.int v2), .val (.int t3), .val (.int v3), .val (.int xx)] [(.int t3), (.int xx)]) := fun t k => pre t (by
            show Steps p.tables e below (s₁.setTop (mkF m 29 #[.val (.int nn), .val (.int t1), .val (.int v1), .val (.int t2), .val (.int v2), .val (.int t3), .val (.int v3), .val (.int xx)] [(.int (3 : Int32)), (.int nn)])) t
            refine XS.icmpNo X0.here hx rfl (hb hby d_exp_29) rfl (XT.ii_lt_f lt2) ?_
            show Steps p.tables e below (s₁.setTop (mkF m 32 #[.val (.int nn), .val (.int t1), .val (.int v1), .val (.int t2), .val (.int v2), .val (.int t3), .val (.int v3), .val (.int xx)] [])) t
            refine XS.iload X0.here hx rfl (hb hby d_exp_32) rfl ?_
            show Steps p.tables e below (s₁.setTop (mkF m 34 #[.val (.int nn), .val (.int t1), .val (.int v1), .val (.int t2), .val (.int v2), .val (.int t3), .val (.int v3), .val (.int xx)] [(.int xx)])) t
            refine XS.iload X0.here hx rfl (hb hby d_exp_34) rfl ?_
            show Steps p.tables e below (s₁.setTop (mkF m 36 #[.val (.int nn), .val (.int t1), .val (.int v1), .val (.int t2), .val (.int v2), .val (.int t3), .val (.int v3), .val (.int xx)] [(.int t3), (.int xx)])) t
            exact k)
          by_cases eq2 : xx = t3
          · replace pre : Pth p e below S0 s₁ (mkF m 41 #[.val (.int nn), .val (.int t1), .val (.int v1), .val (.int t2), .val (.int v2), .val (.int t3), .val (.int v3), .val (.int xx)] [(.int v3)]) := fun t k => pre t (by
              show Steps p.tables e below (s₁.setTop (mkF m 36 #[.val (.int nn), .val (.int t1), .val (.int v1), .val (.int t2), .val (.int v2), .val (.int t3), .val (.int v3), .val (.int xx)] [(.int t3), (.int xx)])) t
              refine XS.icmpNo X0.here hx rfl (hb hby d_exp_36) rfl (XT.ii_ne_f eq2) ?_
              show Steps p.tables e below (s₁.setTop (mkF m 39 #[.val (.int nn), .val (.int t1), .val (.int v1), .val (.int t2), .val (.int v2), .val (.int t3), .val (.int v3), .val (.int xx)] [])) t
              refine XS.iload X0.here hx rfl (hb hby d_exp_39) rfl ?_
              show Steps p.tables e below (s₁.setTop (mkF m 41 #[.val (.int nn), .val (.int t1), .val (.int v1), .val (.int t2), .val (.int v2), .val (.int t3), .val (.int v3), .val (.int xx)] [(.int v3)])) t
              exact k)
            obtain ⟨fs, hr, hrun, hended, hW, hsame⟩ := X0.leave (v := some (.int v3)) (fun h => by rw [Bd.returns] at h; cases h)
            subst hS0
            refine ⟨_, _, pre _ ?_, hrun, hended, _, _, rfl, ?_, ⟨_, rfl⟩, hW, hsame.mono (by decide) (by decide)⟩
            · exact retI X0 hx Bd.returns (hb hby d_exp_41) hr
            · show Q_exp Z nn t1 v1 t2 v2 t3 v3 xx h0 n0 _ s₁.heap _
              rw [e0]
              exact ⟨by rw [own_exp, if_neg (fun q => q.1 lt0), if_neg (fun q => eq1 q.2), if_pos ⟨lt2, eq2⟩], N0, rfl⟩
          · replace pre : Pth p e below S0 s₁ (mkF m 43 #[.val (.int nn), .val (.int t1), .val (.int v1), .val (.int t2), .val (.int v2), .val (.int t3), .val (.int v3), .val (.int xx)] [(.int (-1 : Int32))]) := fun t k => pre t (by
              show Steps p.tables e below (s₁.setTop (mkF m 36 #[.val (.int nn), .val (.int t1), .val (.int v1), .val (.int t2), .val (.int v2), .val (.int t3), .val (.int v3), .val (.int xx)] [(.int t3), (.int xx)])) t
              refine XS.icmpYes X0.here hx rfl (pc0 := 36) (pc' := 42) rfl (hb hby d_exp_36) rfl (XT.ii_ne_t eq2) (by decide) (by decide) ?_
              show Steps p.tables e below (s₁.setTop (mkF m 42 #[.val (.int nn), .val (.int t1), .val (.int v1), .val (.int t2), .val (.int v2), .val (.int t3), .val (.int v3), .val (.int xx)] [])) t
              refine XS.iconst X0.here hx rfl (hb hby d_exp_42) ?_
              show Steps p.tables e below (s₁.setTop (mkF m 43 #[.val (.int nn), .val (.int t1), .val (.int v1), .val (.int t2), .val (.int v2), .val (.int t3), .val (.int v3), .val (.int xx)] [(.int (-1 : Int32))])) t
              exact k)
            obtain ⟨fs, hr, hrun, hended, hW, hsame⟩ := X0.leave (v := some (.int (-1 : Int32))) (fun h => by rw [Bd.returns] at h; cases h)
            subst hS0
            refine ⟨_, _, pre _ ?_, hrun, hended, _, _, rfl, ?_, ⟨_, rfl⟩, hW, hsame.mono (by decide) (by decide)⟩
            · exact retI X0 hx Bd.returns (hb hby d_exp_43) hr
            · show Q_exp Z nn t1 v1 t2 v2 t3 v3 xx h0 n0 _ s₁.heap _
              rw [e0]
              exact ⟨by rw [own_exp, if_neg (fun q => q.1 lt0), if_neg (fun q => eq1 q.2), if_neg (fun q => eq2 q.2)], N0, rfl⟩
  · replace pre : Pth p e below S0 s₁ (mkF m 8 #[.val (.int nn), .val (.int t1), .val (.int v1), .val (.int t2), .val (.int v2), .val (.int t3), .val (.int v3), .val (.int xx)] [(.int t1), (.int xx)]) := fun t k => pre t (by
      show Steps p.tables e below (s₁.setTop (mkF m 2 #[.val (.int nn), .val (.int t1), .val (.int v1), .val (.int t2), .val (.int v2), .val (.int t3), .val (.int v3), .val (.int xx)] [(.int (1 : Int32)), (.int nn)])) t
      refine XS.icmpNo X0.here hx rfl (hb hby d_exp_2) rfl (XT.ii_lt_f lt0) ?_
      show Steps p.tables e below (s₁.setTop (mkF m 5 #[.val (.int nn), .val (.int t1), .val (.int v1), .val (.int t2), .val (.int v2), .val (.int t3), .val (.int v3), .val (.int xx)] [])) t
      refine XS.iload X0.here hx rfl (hb hby d_exp_5) rfl ?_
      show Steps p.tables e below (s₁.setTop (mkF m 7 #[.val (.int nn), .val (.int t1), .val (.int v1), .val (.int t2), .val (.int v2), .val (.int t3), .val (.int v3), .val (.int xx)] [(.int xx)])) t
      refine XS.iloadN X0.here hx rfl (hb hby d_exp_7) rfl ?_
      show Steps p.tables e below (s₁.setTop (mkF m 8 #[.val (.int nn), .val (.int t1), .val (.int v1), .val (.int t2), .val (.int v2), .val (.int t3), .val (.int v3), .val (.int xx)] [(.int t1), (.int xx)])) t
      exact k)
    by_cases eq0 : xx = t1
    · replace pre : Pth p e below S0 s₁ (mkF m 12 #[.val (.int nn), .val (.int t1), .val (.int v1), .val (.int t2), .val (.int v2), .val (.int t3), .val (.int v3), .val (.int xx)] [(.int v1)]) := fun t k => pre t (by
        show Steps p.tables e below (s₁.setTop (mkF m 8 #[.val (.int nn), .val (.int t1), .val (.int v1), .val (.int t2), .val (.int v2), .val (.int t3), .val (.int v3), .val (.int xx)] [(.int t1), (.int xx)])) t
        refine XS.icmpNo X0.here hx rfl (hb hby d_exp_8) rfl (XT.ii_ne_f eq0) ?_
        show Steps p.tables e below (s₁.setTop (mkF m 11 #[.val (.int nn), .val (.int t1), .val (.int v1), .val (.int t2), .val (.int v2), .val (.int t3), .val (.int v3), .val (.int xx)] [])) t
        refine XS.iloadN X0.here hx rfl (hb hby d_exp_11) rfl ?_
        show Steps p.tables e below (s₁.setTop (mkF m 12 #[.val (.int nn), .val (.int t1), .val (.int v1), .val (.int t2), .val (.int v2), .val (.int t3), .val (.int v3), .val (.int xx)] [(.int v1)])) t
        exact k)
      obtain ⟨fs, hr, hrun, hended, hW, hsame⟩ := X0.leave (v := some (.int v1)) (fun h => by rw [Bd.returns] at h; cases h)
      subst hS0
      refine ⟨_, _, pre _ ?_, hrun, hended, _, _, rfl, ?_, ⟨_, rfl⟩, hW, hsame.mono (by decide) (by decide)⟩
      · exact retI X0 hx Bd.returns (hb hby d_exp_12) hr
      · show Q_exp Z nn t1 v1 t2 v2 t3 v3 xx h0 n0 _ s₁.heap _
        rw [e0]
        exact ⟨by rw [own_exp, if_pos ⟨lt0, eq0⟩], N0, rfl⟩
    · replace pre : Pth p e below S0 s₁ (mkF m 15 #[.val (.int nn), .val (.int t1), .val (.int v1), .val (.int t2), .val (.int v2), .val (.int t3), .val (.int v3), .val (.int xx)] [(.int (2 : Int32)), (.int nn)]) := fun t k => pre t (by
        show Steps p.tables e below (s₁.setTop (mkF m 8 #[.val (.int nn), .val (.int t1), .val (.int v1), .val (.int t2), .val (.int v2), .val (.int t3), .val (.int v3), .val (.int xx)] [(.int t1), (.int xx)])) t
        refine XS.icmpYes X0.here hx rfl (pc0 := 8) (pc' := 13) rfl (hb hby d_exp_8) rfl (XT.ii_ne_t eq0) (by decide) (by decide) ?_
        show Steps p.tables e below (s₁.setTop (mkF m 13 #[.val (.int nn), .val (.int t1), .val (.int v1), .val (.int t2), .val (.int v2), .val (.int t3), .val (.int v3), .val (.int xx)] [])) t
        refine XS.iloadN X0.here hx rfl (hb hby d_exp_13) rfl ?_
        show Steps p.tables e below (s₁.setTop (mkF m 14 #[.val (.int nn), .val (.int t1), .val (.int v1), .val (.int t2), .val (.int v2), .val (.int t3), .val (.int v3), .val (.int xx)] [(.int nn)])) t
        refine XS.iconst X0.here hx rfl (hb hby d_exp_14) ?_
        show Steps p.tables e below (s₁.setTop (mkF m 15 #[.val (.int nn), .val (.int t1), .val (.int v1), .val (.int t2), .val (.int v2), .val (.int t3), .val (.int v3), .val (.int xx)] [(.int (2 : Int32)), (.int nn)])) t
        exact k)
      by_cases lt1 : nn < (2 : Int32)
      · replace pre : Pth p e below S0 s₁ (mkF m 29 #[.val (.int nn), .val (.int t1), .val (.int v1), .val (.int t2), .val (.int v2), .val (.int t3), .val (.int v3), .val (.int xx)] [(.int (3 : Int32)), (.int nn)]) := fun t k => pre t (by
          show Steps p.tables e below (s₁.setTop (mkF m 15 #[.val (.int nn), .val (.int t1), .val (.int v1), .val (.int t2), .val (.int v2), .val (.int t3), .val (.int v3), .val (.int xx)] [(.int (2 : Int32)), (.int nn)])) t
          refine XS.icmpYes X0.here hx rfl (pc0 := 15) (pc' := 27) rfl (hb hby d_exp_15) rfl (XT.ii_lt_t lt1) (by decide) (by decide) ?_
          show Steps p.tables e below (s₁.setTop (mkF m 27 #[.val (.int nn), .val (.int t1), .val (.int v1), .val (.int t2), .val (.int v2), .val (.int t3), .val (.int v3), .val (.int xx)] [])) t
          refine XS.iloadN X0.here hx rfl (hb hby d_exp_27) rfl ?_
          show Steps p.tables e below (s₁.setTop (mkF m 28 #[.val (.int nn), .val (.int t1), .val (.int v1), .val (.int t2), .val (.int v2), .val (.int t3), .val (.int v3), .val (.int xx)] [(.int nn)])) t
          refine XS.iconst X0.here hx rfl (hb hby d_exp_28) ?_
          show Steps p.tables e below (s₁.setTop (mkF m 29 #[.val (.int nn), .val (.int t1), .val (.int v1), .val (.int t2), .val (.int v2), .val (.int t3), .val (.int v3), .val (.int xx)] [(.int (3 : Int32)), (.int nn)])) t
          exact k)
        by_cases lt2 : nn < (3 : Int32)
        · replace pre : Pth p e below S0 s₁ (mkF m 43 #[.val (.int nn), .val (.int t1), .val (.int v1), .val (.int t2), .val (.int v2), .val (.int t3), .val (.int v3), .val (.int xx)] [(.int (-1 : Int32))]) := fun t k => pre t (by
            show Steps p.tables e below (s₁.setTop (mkF m 29 #[.val (.int nn), .val (.int t1), .val (.int v1), .val (.int t2), .val (.int v2), .val (.int t3), .val (.int v3), .val (.int xx)] [(.int (3 : Int32)), (.int nn)])) t
            refine XS.icmpYes X0.here hx rfl (pc0 := 29) (pc' := 42) rfl (hb hby d_exp_29) rfl (XT.ii_lt_t lt2) (by decide) (by decide) ?_
            show Steps p.tables e below (s₁.setTop (mkF m 42 #[.val (.int nn), .val (.int t1), .val (.int v1), .val (.int t2), .val (.int v2), .val (.int t3), .val (.int v3), .val (.int xx)] [])) t
            refine XS.iconst X0.here hx rfl (hb hby d_exp_42) ?_
            show Steps p.tables e below (s₁.setTop (mkF m 43 #[.val (.int nn), .val (.int t1), .val (.int v1), .val (.int t2), .val (.int v2), .val (.int t3), .val (.int v3), .val (.int xx)] [(.int (-1 : Int32))])) t
            exact k)
          obtain ⟨fs, hr, hrun, hended, hW, hsame⟩ := X0.leave (v := some (.int (-1 : Int32))) (fun h => by rw [Bd.returns] at h; cases h)
          subst hS0
          refine ⟨_, _, pre _ ?_, hrun, hended, _, _, rfl, ?_, ⟨_, rfl⟩, hW, hsame.mono (by decide) (by decide)⟩
          · exact retI X0 hx Bd.returns (hb hby d_exp_43) hr
          · show Q_exp Z nn t1 v1 t2 v2 t3 v3 xx h0 n0 _ s₁.heap _
            rw [e0]
            exact ⟨by rw [own_exp, if_neg (fun q => eq0 q.2), if_neg (fun q => q.1 lt1), if_neg (fun q => q.1 lt2)], N0, rfl⟩
        · replace pre : Pth p e below S0 s₁ (mkF m 36 #[.val (.int nn), .val (.int t1), .val (.int v1), .val (.int t2), .val (.int v2), .val (.int t3), .val (.int v3), .val (.int xx)] [(.int t3), (.int xx)]) := fun t k => pre t (by
            show Steps p.tables e below (s₁.setTop (mkF m 29 #[.val (.int nn), .val (.int t1), .val (.int v1), .val (.int t2), .val (.int v2), .val (.int t3), .val (.int v3), .val (.int xx)] [(.int (3 : Int32)), (.int nn)])) t
            refine XS.icmpNo X0.here hx rfl (hb hby d_exp_29) rfl (XT.ii_lt_f lt2) ?_
            show Steps p.tables e below (s₁.setTop (mkF m 32 #[.val (.int nn), .val (.int t1), .val (.int v1), .val (.int t2), .val (.int v2), .val (.int t3), .val (.int v3), .val (.int xx)] [])) t
            refine XS.iload X0.here hx rfl (hb hby d_exp_32) rfl ?_
            show Steps p.tables e below (s₁.setTop (mkF m 34 #[.val (.int nn), .val (.int t1), .val (.int v1), .val (.int t2), .val (.int v2), .val (.int t3), .val (.int v3), .val (.int xx)] [(.int xx)])) t
            refine XS.iload X0.here hx rfl (hb hby d_exp_34) rfl ?_
            show Steps p.tables e below (s₁.setTop (mkF m 36 #[.val (.int nn), .val (.int t1), .val (.int v1), .val (.int t2), .val (.int v2), .val (.int t3), .val (.int v3), .val (.int xx)] [(.int t3), (.int xx)])) t
            exact k)
          by_cases eq2 : xx = t3
          · replace pre : Pth p e below S0 s₁ (mkF m 41 #[.val (.int nn), .val (.int t1), .val (.int v1), .val (.int t2), .val (.int v2), .val (.int t3), .val (.int v3), .val (.int xx)] [(.int v3)]) := fun t k => pre t (by
              show Steps p.tables e below (s₁.setTop (mkF m 36 #[.val (.int nn), .val (.int t1), .val (.int v1), .val (.int t2), .val (.int v2), .val (.int t3), .val (.int v3), .val (.int xx)] [(.int t3), (.int xx)])) t
              refine XS.icmpNo X0.here hx rfl (hb hby d_exp_36) rfl (XT.ii_ne_f eq2) ?_
              show Steps p.tables e below (s₁.setTop (mkF m 39 #[.val (.int nn), .val (.int t1), .val (.int v1), .val (.int t2), .val (.int v2), .val (.int t3), .val (.int v3), .val (.int xx)] [])) t
              refine XS.iload X0.here hx rfl (hb hby d_exp_39) rfl ?_
              show Steps p.tables e below (s₁.setTop (mkF m 41 #[.val (.int nn), .val (.int t1), .val (.int v1), .val (.int t2), .val (.int v2), .val (.int t3), .val (.int v3), .val (.int xx)] [(.int v3)])) t
              exact k)
            obtain ⟨fs, hr, hrun, hended, hW, hsame⟩ := X0.leave (v := some (.int v3)) (fun h => by rw [Bd.returns] at h; cases h)
            subst hS0
            refine ⟨_, _, pre _ ?_, hrun, hended, _, _, rfl, ?_, ⟨_, rfl⟩, hW, hsame.mono (by decide) (by decide)⟩
            · exact retI X0 hx Bd.returns (hb hby d_exp_41) hr
            · show Q_exp Z nn t1 v1 t2 v2 t3 v3 xx h0 n0 _ s₁.heap _
              rw [e0]
              exact ⟨by rw [own_exp, if_neg (fun q => eq0 q.2), if_neg (fun q => q.1 lt1), if_pos ⟨lt2, eq2⟩], N0, rfl⟩
          · replace pre : Pth p e below S0 s₁ (mkF m 43 #[.val (.int nn), .val (.int t1), .val (.int v1), .val (.int t2), .val (.int v2), .val (.int t3), .val (.int v3), .val (.int xx)] [(.int (-1 : Int32))]) := fun t k => pre t (by
              show Steps p.tables e below (s₁.setTop (mkF m 36 #[.val (.int nn), .val (.int t1), .val (.int v1), .val (.int t2), .val (.int v2), .val (.int t3), .val (.int v3), .val (.int xx)] [(.int t3), (.int xx)])) t
              refine XS.icmpYes X0.here hx rfl (pc0 := 36) (pc' := 42) rfl (hb hby d_exp_36) rfl (XT.ii_ne_t eq2) (by decide) (by decide) ?_
              show Steps p.tables e below (s₁.setTop (mkF m 42 #[.val (.int nn), .val (.int t1), .val (.int v1), .val (.int t2), .val (.int v2), .val (.int t3), .val (.int v3), .val (.int xx)] [])) t
              refine XS.iconst X0.here hx rfl (hb hby d_exp_42) ?_
              show Steps p.tables e below (s₁.setTop (mkF m 43 #[.val (.int nn), .val (.int t1), .val (.int v1), .val (.int t2), .val (.int v2), .val (.int t3), .val (.int v3), .val (.int xx)] [(.int (-1 : Int32))])) t
              exact k)
            obtain ⟨fs, hr, hrun, hended, hW, hsame⟩ := X0.leave (v := some (.int (-1 : Int32))) (fun h => by rw [Bd.returns] at h; cases h)
            subst hS0
            refine ⟨_, _, pre _ ?_, hrun, hended, _, _, rfl, ?_, ⟨_, rfl⟩, hW, hsame.mono (by decide) (by decide)⟩
            · exact retI X0 hx Bd.returns (hb hby d_exp_43) hr
            · show Q_exp Z nn t1 v1 t2 v2 t3 v3 xx h0 n0 _ s₁.heap _
              rw [e0]
              exact ⟨by rw [own_exp, if_neg (fun q => eq0 q.2), if_neg (fun q => q.1 lt1), if_neg (fun q => eq2 q.2)], N0, rfl⟩
      · replace pre : Pth p e below S0 s₁ (mkF m 21 #[.val (.int nn), .val (.int t1), .val (.int v1), .val (.int t2), .val (.int v2), .val (.int t3), .val (.int v3), .val (.int xx)] [(.int t2), (.int xx)]) := fun t k => pre t (by
          show Steps p.tables e below (s₁.setTop (mkF m 15 #[.val (.int nn), .val (.int t1), .val (.int v1), .val (.int t2), .val (.int v2), .val (.int t3), .val (.int v3), .val (.int xx)] [(.int (2 : Int32)), (.int nn)])) t
          refine XS.icmpNo X0.here hx rfl (hb hby d_exp_15) rfl (XT.ii_lt_f lt1) ?_
          show Steps p.tables e below (s₁.setTop (mkF m 18 #[.val (.int nn), .val (.int t1), .val (.int v1), .val (.int t2), .val (.int v2), .val (.int t3), .val (.int v3), .val (.int xx)] [])) t
          refine XS.iload X0.here hx rfl (hb hby d_exp_18) rfl ?_
          show Steps p.tables e below (s₁.setTop (mkF m 20 #[.val (.int nn), .val (.int t1), .val (.int v1), .val (.int t2), .val (.int v2), .val (.int t3), .val (.int v3), .val (.int xx)] [(.int xx)])) t
          refine XS.iloadN X0.here hx rfl (hb hby d_exp_20) rfl ?_
          show Steps p.tables e below (s₁.setTop (mkF m 21 #[.val (.int nn), .val (.int t1), .val (.int v1), .val (.int t2), .val (.int v2), .val (.int t3), .val (.int v3), .val (.int xx)] [(.int t2), (.int xx)])) t
          exact k)
        by_cases eq1 : xx = t2
        · replace pre : Pth p e below S0 s₁ (mkF m 26 #[.val (.int nn), .val (.int t1), .val (.int v1), .val (.int t2), .val (.int v2), .val (.int t3), .val (.int v3), .val (.int xx)] [(.int v2)]) := fun t k => pre t (by
            show Steps p.tables e below (s₁.setTop (mkF m 21 #[.val (.int nn), .val (.int t1), .val (.int v1), .val (.int t2), .val (.int v2), .val (.int t3), .val (.int v3), .val (.int xx)] [(.int t2), (.int xx)])) t
            refine XS.icmpNo X0.here hx rfl (hb hby d_exp_21) rfl (XT.ii_ne_f eq1) ?_
            show Steps p.tables e below (s₁.setTop (mkF m 24 #[.val (.int nn), .val (.int t1), .val (.int v1), .val (.int t2), .val (.int v2), .val (.int t3), .val (.int v3), .val (.int xx)] [])) t
            refine XS.iload X0.here hx rfl (hb hby d_exp_24) rfl ?_
            show Steps p.tables e below (s₁.setTop (mkF m 26 #[.val (.int nn), .val (.int t1), .val (.int v1), .val (.int t2), .val (.int v2), .val (.int t3), .val (.int v3), .val (.int xx)] [(.int v2)])) t
            exact k)
          obtain ⟨fs, hr, hrun, hended, hW, hsame⟩ := X0.leave (v := some (.int v2)) (fun h => by rw [Bd.returns] at h; cases h)
          subst hS0
          refine ⟨_, _, pre _ ?_, hrun, hended, _, _, rfl, ?_, ⟨_, rfl⟩, hW, hsame.mono (by decide) (by decide)⟩
          · exact retI X0 hx Bd.returns (hb hby d_exp_26) hr
          · show Q_exp Z nn t1 v1 t2 v2 t3 v3 xx h0 n0 _ s₁.heap _
            rw [e0]
            exact ⟨by rw [own_exp, if_neg (fun q => eq0 q.2), if_pos ⟨lt1, eq1⟩], N0, rfl⟩
        · replace pre : Pth p e below S0 s₁ (mkF m 29 #[.val (.int nn), .val (.int t1), .val (.int v1), .val (.int t2), .val (.int v2), .val (.int t3), .val (.int v3), .val (.int xx)] [(.int (3 : Int32)), (.int nn)]) := fun t k => pre t (by
            show Steps p.tables e below (s₁.setTop (mkF m 21 #[.val (.int nn), .val (.int t1), .val (.int v1), .val (.int t2), .val (.int v2), .val (.int t3), .val (.int v3), .val (.int xx)] [(.int t2), (.int xx)])) t
            refine XS.icmpYes X0.here hx rfl (pc0 := 21) (pc' := 27) rfl (hb hby d_exp_21) rfl (XT.ii_ne_t eq1) (by decide) (by decide) ?_
            show Steps p.tables e below (s₁.setTop (mkF m 27 #[.val (.int nn), .val (.int t1), .val (.int v1), .val (.int t2), .val (.int v2), .val (.int t3), .val (.int v3), .val (.int xx)] [])) t
            refine XS.iloadN X0.here hx rfl (hb hby d_exp_27) rfl ?_
            show Steps p.tables e below (s₁.setTop (mkF m 28 #[.val (.int nn), .val (.int t1), .val (.int v1), .val (.int t2), .val (.int v2), .val (.int t3), .val (.int v3), .val (.int xx)] [(.int nn)])) t
            refine XS.iconst X0.here hx rfl (hb hby d_exp_28) ?_
            show Steps p.tables e below (s₁.setTop (mkF m 29 #[.val (.int nn), .val (.int t1), .val (.int v1), .val (.int t2), .val (.int v2), .val (.int t3), .val (.int v3), .val (.int xx)] [(.int (3 : Int32)), (.int nn)])) t
            exact k)
          by_cases lt2 : nn < (3 : Int32)
          · replace pre : Pth p e below S0 s₁ (mkF m 43 #[.val (.int nn), .val (.int t1), .val (.int v1), .val (.int t2), .val (.int v2), .val (.int t3), .val (.int v3), .val (.int xx)] [(.int (-1 : Int32))]) := fun t k => pre t (by
              show Steps p.tables e below (s₁.setTop (mkF m 29 #[.val (.int nn), .val (.int t1), .val (.int v1), .val (.int t2), .val (.int v2), .val (.int t3), .val (.int v3), .val (.int xx)] [(.int (3 : Int32)), (.int nn)])) t
              refine XS.icmpYes X0.here hx rfl (pc0 := 29) (pc' := 42) rfl (hb hby d_exp_29) rfl (XT.ii_lt_t lt2) (by decide) (by decide) ?_
              show Steps p.tables e below (s₁.setTop (mkF m 42 #[.val (.int nn), .val (.int t1), .val (.int v1), .val (.int t2), .val (.int v2), .val (.int t3), .val (.int v3), .val (.int xx)] [])) t
              refine XS.iconst X0.here hx rfl (hb hby d_exp_42) ?_
              show Steps p.tables e below (s₁.setTop (mkF m 43 #[.val (.int nn), .val (.int t1), .val (.int v1), .val (.int t2), .val (.int v2), .val (.int t3), .val (.int v3), .val (.int xx)] [(.int (-1 : Int32))])) t
              exact k)
            obtain ⟨fs, hr, hrun, hended, hW, hsame⟩ := X0.leave (v := some (.int (-1 : Int32))) (fun h => by rw [Bd.returns] at h; cases h)
            subst hS0
            refine ⟨_, _, pre _ ?_, hrun, hended, _, _, rfl, ?_, ⟨_, rfl⟩, hW, hsame.mono (by decide) (by decide)⟩
            · exact retI X0 hx Bd.returns (hb hby d_exp_43) hr
            · show Q_exp Z nn t1 v1 t2 v2 t3 v3 xx h0 n0 _ s₁.heap _
              rw [e0]
              exact ⟨by rw [own_exp, if_neg (fun q => eq0 q.2), if_neg (fun q => eq1 q.2), if_neg (fun q => q.1 lt2)], N0, rfl⟩
          · replace pre : Pth p e below S0 s₁ (mkF m 36 #[.val (.int nn), .val (.int t1), .val (.int v1), .val (.int t2), .val (.int v2), .val (.int t3), .val (.int v3), .val (.int xx)] [(.int t3), (.int xx)]) := fun t k => pre t (by
              show Steps p.tables e below (s₁.setTop (mkF m 29 #[.val (.int nn), .val (.int t1), .val (.int v1), .val (.int t2), .val (.int v2), .val (.int t3), .val (.int v3), .val (.int xx)] [(.int (3 : Int32)), (.int nn)])) t
              refine XS.icmpNo X0.here hx rfl (hb hby d_exp_29) rfl (XT.ii_lt_f lt2) ?_
              show Steps p.tables e below (s₁.setTop (mkF m 32 #[.val (.int nn), .val (.int t1), .val (.int v1), .val (.int t2), .val (.int v2), .val (.int t3), .val (.int v3), .val (.int xx)] [])) t
              refine XS.iload X0.here hx rfl (hb hby d_exp_32) rfl ?_
              show Steps p.tables e below (s₁.setTop (mkF m 34 #[.val (.int nn), .val (.int t1), .val (.int v1), .val (.int t2), .val (.int v2), .val (.int t3), .val (.int v3), .val (.int xx)] [(.int xx)])) t
              refine XS.iload X0.here hx rfl (hb hby d_exp_34) rfl ?_
              show Steps p.tables e below (s₁.setTop (mkF m 36 #[.val (.int nn), .val (.int t1), .val (.int v1), .val (.int t2), .val (.int v2), .val (.int t3), .val (.int v3), .val (.int xx)] [(.int t3), (.int xx)])) t
              exact k)
            by_cases eq2 : xx = t3
            · replace pre : Pth p e below S0 s₁ (mkF m 41 #[.val (.int nn), .val (.int t1), .val (.int v1), .val (.int t2), .val (.int v2), .val (.int t3), .val (.int v3), .val (.int xx)] [(.int v3)]) := fun t k => pre t (by
                show Steps p.tables e below (s₁.setTop (mkF m 36 #[.val (.int nn), .val (.int t1), .val (.int v1), .val (.int t2), .val (.int v2), .val (.int t3), .val (.int v3), .val (.int xx)] [(.int t3), (.int xx)])) t
                refine XS.icmpNo X0.here hx rfl (hb hby d_exp_36) rfl (XT.ii_ne_f eq2) ?_
                show Steps p.tables e below (s₁.setTop (mkF m 39 #[.val (.int nn), .val (.int t1), .val (.int v1), .val (.int t2), .val (.int v2), .val (.int t3), .val (.int v3), .val (.int xx)] [])) t
                refine XS.iload X0.here hx rfl (hb hby d_exp_39) rfl ?_
                show Steps p.tables e below (s₁.setTop (mkF m 41 #[.val (.int nn), .val (.int t1), .val (.int v1), .val (.int t2), .val (.int v2), .val (.int t3), .val (.int v3), .val (.int xx)] [(.int v3)])) t
                exact k)
              obtain ⟨fs, hr, hrun, hended, hW, hsame⟩ := X0.leave (v := some (.int v3)) (fun h => by rw [Bd.returns] at h; cases h)
              subst hS0
              refine ⟨_, _, pre _ ?_, hrun, hended, _, _, rfl, ?_, ⟨_, rfl⟩, hW, hsame.mono (by decide) (by decide)⟩
              · exact retI X0 hx Bd.returns (hb hby d_exp_41) hr
              · show Q_exp Z nn t1 v1 t2 v2 t3 v3 xx h0 n0 _ s₁.heap _
                rw [e0]
                exact ⟨by rw [own_exp, if_neg (fun q => eq0 q.2), if_neg (fun q => eq1 q.2), if_pos ⟨lt2, eq2⟩], N0, rfl⟩
            · replace pre : Pth p e below S0 s₁ (mkF m 43 #[.val (.int nn), .val (.int t1), .val (.int v1), .val (.int t2), .val (.int v2), .val (.int t3), .val (.int v3), .val (.int xx)] [(.int (-1 : Int32))]) := fun t k => pre t (by
                show Steps p.tables e below (s₁.setTop (mkF m 36 #[.val (.int nn), .val (.int t1), .val (.int v1), .val (.int t2), .val (.int v2), .val (.int t3), .val (.int v3), .val (.int xx)] [(.int t3), (.int xx)])) t
                refine XS.icmpYes X0.here hx rfl (pc0 := 36) (pc' := 42) rfl (hb hby d_exp_36) rfl (XT.ii_ne_t eq2) (by decide) (by decide) ?_
                show Steps p.tables e below (s₁.setTop (mkF m 42 #[.val (.int nn), .val (.int t1), .val (.int v1), .val (.int t2), .val (.int v2), .val (.int t3), .val (.int v3), .val (.int xx)] [])) t
                refine XS.iconst X0.here hx rfl (hb hby d_exp_42) ?_
                show Steps p.tables e below (s₁.setTop (mkF m 43 #[.val (.int nn), .val (.int t1), .val (.int v1), .val (.int t2), .val (.int v2), .val (.int t3), .val (.int v3), .val (.int xx)] [(.int (-1 : Int32))])) t
                exact k)
              obtain ⟨fs, hr, hrun, hended, hW, hsame⟩ := X0.leave (v := some (.int (-1 : Int32))) (fun h => by rw [Bd.returns] at h; cases h)
              subst hS0
              refine ⟨_, _, pre _ ?_, hrun, hended, _, _, rfl, ?_, ⟨_, rfl⟩, hW, hsame.mono (by decide) (by decide)⟩
              · exact retI X0 hx Bd.returns (hb hby d_exp_43) hr
              · show Q_exp Z nn t1 v1 t2 v2 t3 v3 xx h0 n0 _ s₁.heap _
                rw [e0]
                exact ⟨by rw [own_exp, if_neg (fun q => eq0 q.2), if_neg (fun q => eq1 q.2), if_neg (fun q => eq2 q.2)], N0, rfl⟩
def Q_law (Z : State) (ctl : Int32) (t1 : Int32) (t2 : Int32) (t3 : Int32) (qq : Int32) (vv : Int64) (h0 : Heap) (n0 : Nat) (v : Option Value) (h : Heap) (L : List Loc) : Prop := v = some (.int 1) ∧ Fr n0 L
set_option maxRecDepth 65536 in
set_option maxHeartbeats 40000000 in
theorem rm_law (l : Launch) (Z : State) (a0 : Array Value) (hw : ∀ d ∈ tables_1, d.before a0 Z = true) (ws : List Jvm.Cond) (ctl : Int32) (t1 : Int32) (t2 : Int32) (t3 : Int32) (qq : Int32) (vv : Int64) (h0 : Heap) (n0 : Nat) (Z0 : n0 ≤ h0.size)  :
    MetFree l x (head1 (Jvm.Cond.code x code maxLocals ret :: ws) room_1) (fun a U => a = #[(.int ctl), (.int t1), (.int t2), (.int t3), (.int qq), (.long vv)] ∧ Z.Warmed39 U.vm ∧ U.heap = h0) (fun _ _ _ _ _ => True) (fun _ U o U' => ∃ v L, o = .returned v ∧ Q_law Z ctl t1 t2 t3 qq vv h0 n0 v U'.heap L ∧ FrameEnd U o U' L room_1.cells room_1.slots) := by
  refine MetFree.of_bodySF (plainFor_of_name pn_com_example_tagwire_tagwire_dictionary_TagTableGetPinLaw) hisR ?_
  intro p e s m args below meth c s₁ Bd hml0 hP hK
  obtain ⟨rfl, hZ, hh⟩ := hP
  have hx := Bd.exec
  have hby := Bd.bytes
  have hml : c.maxLocals = 16 := hml0
  have hown : s.vm.findClass "com/example/tagwire/tagwire/dictionary/TagTableGetPinLaw" = some m.cls := findClass_of_methodNamed Bd.named
  have hnm := (name_of_methodNamed Bd.named Bd.method).1
  have X0 : Stand p l e room_1 s m #[(.int ctl), (.int t1), (.int t2), (.int t3), (.int qq), (.long vv)] below meth c s₁ [] 0 0 := Stand.of_body Bd
  have e0 : s₁.heap = h0 := by rw [← hh, Bd.state]; rfl
  have N0 := Fr.nil n0
  obtain ⟨S0, hS0⟩ : ∃ S0, S0 = s₁.setTop (entryFrame m #[(.int ctl), (.int t1), (.int t2), (.int t3), (.int qq), (.long vv)] maxLocals) := ⟨_, rfl⟩
  have pre : Pth p e below S0 s₁ (mkF m 0 #[.val (.int ctl), .val (.int t1), .val (.int t2), .val (.int t3), .val (.int qq), .val (.long vv), .second, .unset, .unset, .unset, .unset, .unset, .unset, .unset, .unset, .unset] []) := fun t k => by rw [hS0]; exact castTop (ef_law m ctl t1 t2 t3 qq vv) k
  replace pre : Pth p e below S0 s₁ (mkF m 5 #[.val (.int ctl), .val (.int t1), .val (.int t2), .val (.int t3), .val (.int qq), .val (.long vv), .second, .val (.int (ctl &&& (3 : Int32))), .unset, .unset, .unset, .unset, .unset, .unset, .unset, .unset] []) := fun t k => pre t (by
    show Steps p.tables e below (s₁.setTop (mkF m 0 #[.val (.int ctl), .val (.int t1), .val (.int t2), .val (.int t3), .val (.int qq), .val (.long vv), .second, .unset, .unset, .unset, .unset, .unset, .unset, .unset, .unset, .unset] [])) t
    refine XS.iloadN X0.here hx rfl (hb hby at_0) rfl ?_
    show Steps p.tables e below (s₁.setTop (mkF m 1 #[.val (.int ctl), .val (.int t1), .val (.int t2), .val (.int t3), .val (.int qq), .val (.long vv), .second, .unset, .unset, .unset, .unset, .unset, .unset, .unset, .unset, .unset] [(.int ctl)])) t
    refine XS.iconst X0.here hx rfl (hb hby at_1) ?_
    show Steps p.tables e below (s₁.setTop (mkF m 2 #[.val (.int ctl), .val (.int t1), .val (.int t2), .val (.int t3), .val (.int qq), .val (.long vv), .second, .unset, .unset, .unset, .unset, .unset, .unset, .unset, .unset, .unset] [(.int (3 : Int32)), (.int ctl)])) t
    refine XS.iand X0.here hx rfl (hb hby at_2) rfl ?_
    show Steps p.tables e below (s₁.setTop (mkF m 3 #[.val (.int ctl), .val (.int t1), .val (.int t2), .val (.int t3), .val (.int qq), .val (.long vv), .second, .unset, .unset, .unset, .unset, .unset, .unset, .unset, .unset, .unset] [(.int (ctl &&& (3 : Int32)))])) t
    refine XS.istore X0.here hx rfl (hb hby at_3) rfl (l' := #[.val (.int ctl), .val (.int t1), .val (.int t2), .val (.int t3), .val (.int qq), .val (.long vv), .second, .val (.int (ctl &&& (3 : Int32))), .unset, .unset, .unset, .unset, .unset, .unset, .unset, .unset]) rfl ?_
    show Steps p.tables e below (s₁.setTop (mkF m 5 #[.val (.int ctl), .val (.int t1), .val (.int t2), .val (.int t3), .val (.int qq), .val (.long vv), .second, .val (.int (ctl &&& (3 : Int32))), .unset, .unset, .unset, .unset, .unset, .unset, .unset, .unset] [])) t
    exact k)
  obtain ⟨nn, hnn⟩ : ∃ z : Int32, z = (ctl &&& (3 : Int32)) := ⟨_, rfl⟩
  rw [← hnn] at pre
  replace pre : Pth p e below S0 s₁ (mkF m 15 #[.val (.int ctl), .val (.int t1), .val (.int t2), .val (.int t3), .val (.int qq), .val (.long vv), .second, .val (.int nn), .val (.int (nn + (((ctl.toUInt32 >>> ((2 : Int32) &&& 31).toUInt32).toInt32) &&& (3 : Int32)))), .unset, .unset, .unset, .unset, .unset, .unset, .unset] []) := fun t k => pre t (by
    show Steps p.tables e below (s₁.setTop (mkF m 5 #[.val (.int ctl), .val (.int t1), .val (.int t2), .val (.int t3), .val (.int qq), .val (.long vv), .second, .val (.int nn), .unset, .unset, .unset, .unset, .unset, .unset, .unset, .unset] [])) t
    refine XS.iload X0.here hx rfl (hb hby at_5) rfl ?_
    show Steps p.tables e below (s₁.setTop (mkF m 7 #[.val (.int ctl), .val (.int t1), .val (.int t2), .val (.int t3), .val (.int qq), .val (.long vv), .second, .val (.int nn), .unset, .unset, .unset, .unset, .unset, .unset, .unset, .unset] [(.int nn)])) t
    refine XS.iloadN X0.here hx rfl (hb hby at_7) rfl ?_
    show Steps p.tables e below (s₁.setTop (mkF m 8 #[.val (.int ctl), .val (.int t1), .val (.int t2), .val (.int t3), .val (.int qq), .val (.long vv), .second, .val (.int nn), .unset, .unset, .unset, .unset, .unset, .unset, .unset, .unset] [(.int ctl), (.int nn)])) t
    refine XS.iconst X0.here hx rfl (hb hby at_8) ?_
    show Steps p.tables e below (s₁.setTop (mkF m 9 #[.val (.int ctl), .val (.int t1), .val (.int t2), .val (.int t3), .val (.int qq), .val (.long vv), .second, .val (.int nn), .unset, .unset, .unset, .unset, .unset, .unset, .unset, .unset] [(.int (2 : Int32)), (.int ctl), (.int nn)])) t
    refine XS.iushr X0.here hx rfl (hb hby at_9) rfl ?_
    show Steps p.tables e below (s₁.setTop (mkF m 10 #[.val (.int ctl), .val (.int t1), .val (.int t2), .val (.int t3), .val (.int qq), .val (.long vv), .second, .val (.int nn), .unset, .unset, .unset, .unset, .unset, .unset, .unset, .unset] [(.int ((ctl.toUInt32 >>> ((2 : Int32) &&& 31).toUInt32).toInt32)), (.int nn)])) t
    refine XS.iconst X0.here hx rfl (hb hby at_10) ?_
    show Steps p.tables e below (s₁.setTop (mkF m 11 #[.val (.int ctl), .val (.int t1), .val (.int t2), .val (.int t3), .val (.int qq), .val (.long vv), .second, .val (.int nn), .unset, .unset, .unset, .unset, .unset, .unset, .unset, .unset] [(.int (3 : Int32)), (.int ((ctl.toUInt32 >>> ((2 : Int32) &&& 31).toUInt32).toInt32)), (.int nn)])) t
    refine XS.iand X0.here hx rfl (hb hby at_11) rfl ?_
    show Steps p.tables e below (s₁.setTop (mkF m 12 #[.val (.int ctl), .val (.int t1), .val (.int t2), .val (.int t3), .val (.int qq), .val (.long vv), .second, .val (.int nn), .unset, .unset, .unset, .unset, .unset, .unset, .unset, .unset] [(.int (((ctl.toUInt32 >>> ((2 : Int32) &&& 31).toUInt32).toInt32) &&& (3 : Int32))), (.int nn)])) t
    refine XS.iadd X0.here hx rfl (hb hby at_12) rfl ?_
    show Steps p.tables e below (s₁.setTop (mkF m 13 #[.val (.int ctl), .val (.int t1), .val (.int t2), .val (.int t3), .val (.int qq), .val (.long vv), .second, .val (.int nn), .unset, .unset, .unset, .unset, .unset, .unset, .unset, .unset] [(.int (nn + (((ctl.toUInt32 >>> ((2 : Int32) &&& 31).toUInt32).toInt32) &&& (3 : Int32))))])) t
    refine XS.istore X0.here hx rfl (hb hby at_13) rfl (l' := #[.val (.int ctl), .val (.int t1), .val (.int t2), .val (.int t3), .val (.int qq), .val (.long vv), .second, .val (.int nn), .val (.int (nn + (((ctl.toUInt32 >>> ((2 : Int32) &&& 31).toUInt32).toInt32) &&& (3 : Int32)))), .unset, .unset, .unset, .unset, .unset, .unset, .unset]) rfl ?_
    show Steps p.tables e below (s₁.setTop (mkF m 15 #[.val (.int ctl), .val (.int t1), .val (.int t2), .val (.int t3), .val (.int qq), .val (.long vv), .second, .val (.int nn), .val (.int (nn + (((ctl.toUInt32 >>> ((2 : Int32) &&& 31).toUInt32).toInt32) &&& (3 : Int32)))), .unset, .unset, .unset, .unset, .unset, .unset, .unset] [])) t
    exact k)
  obtain ⟨sz, hsz⟩ : ∃ z : Int32, z = (nn + (((ctl.toUInt32 >>> ((2 : Int32) &&& 31).toUInt32).toInt32) &&& (3 : Int32))) := ⟨_, rfl⟩
  rw [← hsz] at pre
  replace pre : Pth p e below S0 s₁ (mkF m 22 #[.val (.int ctl), .val (.int t1), .val (.int t2), .val (.int t3), .val (.int qq), .val (.long vv), .second, .val (.int nn), .val (.int sz), .val (.int (((ctl.toUInt32 >>> ((4 : Int32) &&& 31).toUInt32).toInt32) &&& (3 : Int32))), .unset, .unset, .unset, .unset, .unset, .unset] []) := fun t k => pre t (by
    show Steps p.tables e below (s₁.setTop (mkF m 15 #[.val (.int ctl), .val (.int t1), .val (.int t2), .val (.int t3), .val (.int qq), .val (.long vv), .second, .val (.int nn), .val (.int sz), .unset, .unset, .unset, .unset, .unset, .unset, .unset] [])) t
    refine XS.iloadN X0.here hx rfl (hb hby at_15) rfl ?_
    show Steps p.tables e below (s₁.setTop (mkF m 16 #[.val (.int ctl), .val (.int t1), .val (.int t2), .val (.int t3), .val (.int qq), .val (.long vv), .second, .val (.int nn), .val (.int sz), .unset, .unset, .unset, .unset, .unset, .unset, .unset] [(.int ctl)])) t
    refine XS.iconst X0.here hx rfl (hb hby at_16) ?_
    show Steps p.tables e below (s₁.setTop (mkF m 17 #[.val (.int ctl), .val (.int t1), .val (.int t2), .val (.int t3), .val (.int qq), .val (.long vv), .second, .val (.int nn), .val (.int sz), .unset, .unset, .unset, .unset, .unset, .unset, .unset] [(.int (4 : Int32)), (.int ctl)])) t
    refine XS.iushr X0.here hx rfl (hb hby at_17) rfl ?_
    show Steps p.tables e below (s₁.setTop (mkF m 18 #[.val (.int ctl), .val (.int t1), .val (.int t2), .val (.int t3), .val (.int qq), .val (.long vv), .second, .val (.int nn), .val (.int sz), .unset, .unset, .unset, .unset, .unset, .unset, .unset] [(.int ((ctl.toUInt32 >>> ((4 : Int32) &&& 31).toUInt32).toInt32))])) t
    refine XS.iconst X0.here hx rfl (hb hby at_18) ?_
    show Steps p.tables e below (s₁.setTop (mkF m 19 #[.val (.int ctl), .val (.int t1), .val (.int t2), .val (.int t3), .val (.int qq), .val (.long vv), .second, .val (.int nn), .val (.int sz), .unset, .unset, .unset, .unset, .unset, .unset, .unset] [(.int (3 : Int32)), (.int ((ctl.toUInt32 >>> ((4 : Int32) &&& 31).toUInt32).toInt32))])) t
    refine XS.iand X0.here hx rfl (hb hby at_19) rfl ?_
    show Steps p.tables e below (s₁.setTop (mkF m 20 #[.val (.int ctl), .val (.int t1), .val (.int t2), .val (.int t3), .val (.int qq), .val (.long vv), .second, .val (.int nn), .val (.int sz), .unset, .unset, .unset, .unset, .unset, .unset, .unset] [(.int (((ctl.toUInt32 >>> ((4 : Int32) &&& 31).toUInt32).toInt32) &&& (3 : Int32)))])) t
    refine XS.istore X0.here hx rfl (hb hby at_20) rfl (l' := #[.val (.int ctl), .val (.int t1), .val (.int t2), .val (.int t3), .val (.int qq), .val (.long vv), .second, .val (.int nn), .val (.int sz), .val (.int (((ctl.toUInt32 >>> ((4 : Int32) &&& 31).toUInt32).toInt32) &&& (3 : Int32))), .unset, .unset, .unset, .unset, .unset, .unset]) rfl ?_
    show Steps p.tables e below (s₁.setTop (mkF m 22 #[.val (.int ctl), .val (.int t1), .val (.int t2), .val (.int t3), .val (.int qq), .val (.long vv), .second, .val (.int nn), .val (.int sz), .val (.int (((ctl.toUInt32 >>> ((4 : Int32) &&& 31).toUInt32).toInt32) &&& (3 : Int32))), .unset, .unset, .unset, .unset, .unset, .unset] [])) t
    exact k)
  obtain ⟨pk, hpk⟩ : ∃ z : Int32, z = (((ctl.toUInt32 >>> ((4 : Int32) &&& 31).toUInt32).toInt32) &&& (3 : Int32)) := ⟨_, rfl⟩
  rw [← hpk] at pre
  replace pre : Pth p e below S0 s₁ (mkF m 30 #[.val (.int ctl), .val (.int t1), .val (.int t2), .val (.int t3), .val (.int qq), .val (.long vv), .second, .val (.int nn), .val (.int sz), .val (.int pk), .val (.int ((vv.toInt32) &&& (2147483647 : Int32))), .unset, .unset, .unset, .unset, .unset] []) := fun t k => pre t (by
    show Steps p.tables e below (s₁.setTop (mkF m 22 #[.val (.int ctl), .val (.int t1), .val (.int t2), .val (.int t3), .val (.int qq), .val (.long vv), .second, .val (.int nn), .val (.int sz), .val (.int pk), .unset, .unset, .unset, .unset, .unset, .unset] [])) t
    refine XS.lload X0.here hx rfl (hb hby at_22) rfl ?_
    show Steps p.tables e below (s₁.setTop (mkF m 24 #[.val (.int ctl), .val (.int t1), .val (.int t2), .val (.int t3), .val (.int qq), .val (.long vv), .second, .val (.int nn), .val (.int sz), .val (.int pk), .unset, .unset, .unset, .unset, .unset, .unset] [(.long vv)])) t
    refine XS.l2i X0.here hx rfl (hb hby at_24) rfl ?_
    show Steps p.tables e below (s₁.setTop (mkF m 25 #[.val (.int ctl), .val (.int t1), .val (.int t2), .val (.int t3), .val (.int qq), .val (.long vv), .second, .val (.int nn), .val (.int sz), .val (.int pk), .unset, .unset, .unset, .unset, .unset, .unset] [(.int (vv.toInt32))])) t
    refine X0.ldcInt hx hown (mvT hZ (hw _ (List.mem_of_getElem? (i := 0) rfl))) (g := (mkF m 25 #[.val (.int ctl), .val (.int t1), .val (.int t2), .val (.int t3), .val (.int qq), .val (.long vv), .second, .val (.int nn), .val (.int sz), .val (.int pk), .unset, .unset, .unset, .unset, .unset, .unset] [(.int (vv.toInt32))])) rfl (hb hby at_25) _ ?_
    show Steps p.tables e below (s₁.setTop (mkF m 27 #[.val (.int ctl), .val (.int t1), .val (.int t2), .val (.int t3), .val (.int qq), .val (.long vv), .second, .val (.int nn), .val (.int sz), .val (.int pk), .unset, .unset, .unset, .unset, .unset, .unset] [(.int (2147483647 : Int32)), (.int (vv.toInt32))])) t
    refine XS.iand X0.here hx rfl (hb hby at_27) rfl ?_
    show Steps p.tables e below (s₁.setTop (mkF m 28 #[.val (.int ctl), .val (.int t1), .val (.int t2), .val (.int t3), .val (.int qq), .val (.long vv), .second, .val (.int nn), .val (.int sz), .val (.int pk), .unset, .unset, .unset, .unset, .unset, .unset] [(.int ((vv.toInt32) &&& (2147483647 : Int32)))])) t
    refine XS.istore X0.here hx rfl (hb hby at_28) rfl (l' := #[.val (.int ctl), .val (.int t1), .val (.int t2), .val (.int t3), .val (.int qq), .val (.long vv), .second, .val (.int nn), .val (.int sz), .val (.int pk), .val (.int ((vv.toInt32) &&& (2147483647 : Int32))), .unset, .unset, .unset, .unset, .unset]) rfl ?_
    show Steps p.tables e below (s₁.setTop (mkF m 30 #[.val (.int ctl), .val (.int t1), .val (.int t2), .val (.int t3), .val (.int qq), .val (.long vv), .second, .val (.int nn), .val (.int sz), .val (.int pk), .val (.int ((vv.toInt32) &&& (2147483647 : Int32))), .unset, .unset, .unset, .unset, .unset] [])) t
    exact k)
  obtain ⟨v1, hv1⟩ : ∃ z : Int32, z = ((vv.toInt32) &&& (2147483647 : Int32)) := ⟨_, rfl⟩
  rw [← hv1] at pre
  replace pre : Pth p e below S0 s₁ (mkF m 41 #[.val (.int ctl), .val (.int t1), .val (.int t2), .val (.int t3), .val (.int qq), .val (.long vv), .second, .val (.int nn), .val (.int sz), .val (.int pk), .val (.int v1), .val (.int ((((vv.toUInt64 >>> ((32 : Int32) &&& 0x3f).toInt64.toUInt64).toInt64).toInt32) &&& (2147483647 : Int32))), .unset, .unset, .unset, .unset] []) := fun t k => pre t (by
    show Steps p.tables e below (s₁.setTop (mkF m 30 #[.val (.int ctl), .val (.int t1), .val (.int t2), .val (.int t3), .val (.int qq), .val (.long vv), .second, .val (.int nn), .val (.int sz), .val (.int pk), .val (.int v1), .unset, .unset, .unset, .unset, .unset] [])) t
    refine XS.lload X0.here hx rfl (hb hby at_30) rfl ?_
    show Steps p.tables e below (s₁.setTop (mkF m 32 #[.val (.int ctl), .val (.int t1), .val (.int t2), .val (.int t3), .val (.int qq), .val (.long vv), .second, .val (.int nn), .val (.int sz), .val (.int pk), .val (.int v1), .unset, .unset, .unset, .unset, .unset] [(.long vv)])) t
    refine XS.bipush X0.here hx rfl (hb hby at_32) ?_
    show Steps p.tables e below (s₁.setTop (mkF m 34 #[.val (.int ctl), .val (.int t1), .val (.int t2), .val (.int t3), .val (.int qq), .val (.long vv), .second, .val (.int nn), .val (.int sz), .val (.int pk), .val (.int v1), .unset, .unset, .unset, .unset, .unset] [(.int (32 : Int32)), (.long vv)])) t
    refine XS.lushr X0.here hx rfl (hb hby at_34) rfl ?_
    show Steps p.tables e below (s₁.setTop (mkF m 35 #[.val (.int ctl), .val (.int t1), .val (.int t2), .val (.int t3), .val (.int qq), .val (.long vv), .second, .val (.int nn), .val (.int sz), .val (.int pk), .val (.int v1), .unset, .unset, .unset, .unset, .unset] [(.long ((vv.toUInt64 >>> ((32 : Int32) &&& 0x3f).toInt64.toUInt64).toInt64))])) t
    refine XS.l2i X0.here hx rfl (hb hby at_35) rfl ?_
    show Steps p.tables e below (s₁.setTop (mkF m 36 #[.val (.int ctl), .val (.int t1), .val (.int t2), .val (.int t3), .val (.int qq), .val (.long vv), .second, .val (.int nn), .val (.int sz), .val (.int pk), .val (.int v1), .unset, .unset, .unset, .unset, .unset] [(.int (((vv.toUInt64 >>> ((32 : Int32) &&& 0x3f).toInt64.toUInt64).toInt64).toInt32))])) t
    refine X0.ldcInt hx hown (mvT hZ (hw _ (List.mem_of_getElem? (i := 0) rfl))) (g := (mkF m 36 #[.val (.int ctl), .val (.int t1), .val (.int t2), .val (.int t3), .val (.int qq), .val (.long vv), .second, .val (.int nn), .val (.int sz), .val (.int pk), .val (.int v1), .unset, .unset, .unset, .unset, .unset] [(.int (((vv.toUInt64 >>> ((32 : Int32) &&& 0x3f).toInt64.toUInt64).toInt64).toInt32))])) rfl (hb hby at_36) _ ?_
    show Steps p.tables e below (s₁.setTop (mkF m 38 #[.val (.int ctl), .val (.int t1), .val (.int t2), .val (.int t3), .val (.int qq), .val (.long vv), .second, .val (.int nn), .val (.int sz), .val (.int pk), .val (.int v1), .unset, .unset, .unset, .unset, .unset] [(.int (2147483647 : Int32)), (.int (((vv.toUInt64 >>> ((32 : Int32) &&& 0x3f).toInt64.toUInt64).toInt64).toInt32))])) t
    refine XS.iand X0.here hx rfl (hb hby at_38) rfl ?_
    show Steps p.tables e below (s₁.setTop (mkF m 39 #[.val (.int ctl), .val (.int t1), .val (.int t2), .val (.int t3), .val (.int qq), .val (.long vv), .second, .val (.int nn), .val (.int sz), .val (.int pk), .val (.int v1), .unset, .unset, .unset, .unset, .unset] [(.int ((((vv.toUInt64 >>> ((32 : Int32) &&& 0x3f).toInt64.toUInt64).toInt64).toInt32) &&& (2147483647 : Int32)))])) t
    refine XS.istore X0.here hx rfl (hb hby at_39) rfl (l' := #[.val (.int ctl), .val (.int t1), .val (.int t2), .val (.int t3), .val (.int qq), .val (.long vv), .second, .val (.int nn), .val (.int sz), .val (.int pk), .val (.int v1), .val (.int ((((vv.toUInt64 >>> ((32 : Int32) &&& 0x3f).toInt64.toUInt64).toInt64).toInt32) &&& (2147483647 : Int32))), .unset, .unset, .unset, .unset]) rfl ?_
    show Steps p.tables e below (s₁.setTop (mkF m 41 #[.val (.int ctl), .val (.int t1), .val (.int t2), .val (.int t3), .val (.int qq), .val (.long vv), .second, .val (.int nn), .val (.int sz), .val (.int pk), .val (.int v1), .val (.int ((((vv.toUInt64 >>> ((32 : Int32) &&& 0x3f).toInt64.toUInt64).toInt64).toInt32) &&& (2147483647 : Int32))), .unset, .unset, .unset, .unset] [])) t
    exact k)
  obtain ⟨v2, hv2⟩ : ∃ z : Int32, z = ((((vv.toUInt64 >>> ((32 : Int32) &&& 0x3f).toInt64.toUInt64).toInt64).toInt32) &&& (2147483647 : Int32)) := ⟨_, rfl⟩
  rw [← hv2] at pre
  replace pre : Pth p e below S0 s₁ (mkF m 47 #[.val (.int ctl), .val (.int t1), .val (.int t2), .val (.int t3), .val (.int qq), .val (.long vv), .second, .val (.int nn), .val (.int sz), .val (.int pk), .val (.int v1), .val (.int v2), .val (.int ((ctl.toUInt32 >>> ((6 : Int32) &&& 31).toUInt32).toInt32)), .unset, .unset, .unset] []) := fun t k => pre t (by
    show Steps p.tables e below (s₁.setTop (mkF m 41 #[.val (.int ctl), .val (.int t1), .val (.int t2), .val (.int t3), .val (.int qq), .val (.long vv), .second, .val (.int nn), .val (.int sz), .val (.int pk), .val (.int v1), .val (.int v2), .unset, .unset, .unset, .unset] [])) t
    refine XS.iloadN X0.here hx rfl (hb hby at_41) rfl ?_
    show Steps p.tables e below (s₁.setTop (mkF m 42 #[.val (.int ctl), .val (.int t1), .val (.int t2), .val (.int t3), .val (.int qq), .val (.long vv), .second, .val (.int nn), .val (.int sz), .val (.int pk), .val (.int v1), .val (.int v2), .unset, .unset, .unset, .unset] [(.int ctl)])) t
    refine XS.bipush X0.here hx rfl (hb hby at_42) ?_
    show Steps p.tables e below (s₁.setTop (mkF m 44 #[.val (.int ctl), .val (.int t1), .val (.int t2), .val (.int t3), .val (.int qq), .val (.long vv), .second, .val (.int nn), .val (.int sz), .val (.int pk), .val (.int v1), .val (.int v2), .unset, .unset, .unset, .unset] [(.int (6 : Int32)), (.int ctl)])) t
    refine XS.iushr X0.here hx rfl (hb hby at_44) rfl ?_
    show Steps p.tables e below (s₁.setTop (mkF m 45 #[.val (.int ctl), .val (.int t1), .val (.int t2), .val (.int t3), .val (.int qq), .val (.long vv), .second, .val (.int nn), .val (.int sz), .val (.int pk), .val (.int v1), .val (.int v2), .unset, .unset, .unset, .unset] [(.int ((ctl.toUInt32 >>> ((6 : Int32) &&& 31).toUInt32).toInt32))])) t
    refine XS.istore X0.here hx rfl (hb hby at_45) rfl (l' := #[.val (.int ctl), .val (.int t1), .val (.int t2), .val (.int t3), .val (.int qq), .val (.long vv), .second, .val (.int nn), .val (.int sz), .val (.int pk), .val (.int v1), .val (.int v2), .val (.int ((ctl.toUInt32 >>> ((6 : Int32) &&& 31).toUInt32).toInt32)), .unset, .unset, .unset]) rfl ?_
    show Steps p.tables e below (s₁.setTop (mkF m 47 #[.val (.int ctl), .val (.int t1), .val (.int t2), .val (.int t3), .val (.int qq), .val (.long vv), .second, .val (.int nn), .val (.int sz), .val (.int pk), .val (.int v1), .val (.int v2), .val (.int ((ctl.toUInt32 >>> ((6 : Int32) &&& 31).toUInt32).toInt32)), .unset, .unset, .unset] [])) t
    exact k)
  obtain ⟨v3, hv3⟩ : ∃ z : Int32, z = ((ctl.toUInt32 >>> ((6 : Int32) &&& 31).toUInt32).toInt32) := ⟨_, rfl⟩
  rw [← hv3] at pre
  obtain ⟨bn1, bn2, bs1, bs2, bns⟩ := own_nsz hnn hsz
  have w1 : v1 + 1 ≠ 0 := own_nz (by rw [hv1]; exact own_nn32 _)
  have w2 : v2 + 1 ≠ 0 := own_nz (by rw [hv2]; exact own_nn32 _)
  have w3 : v3 + 1 ≠ 0 := own_nz (by rw [hv3]; exact own_shr6 _)
  obtain ⟨T32, h32, X32, e32, E32, A32, D32, -, st32⟩ := newO X0 hx hZ hown (hw _ (List.mem_of_getElem? (i := 1) rfl)) (hw _ (List.mem_of_getElem? (i := 2) rfl)) (hw _ (List.mem_of_getElem? (i := 3) rfl)) e0 (g := (mkF m 47 #[.val (.int ctl), .val (.int t1), .val (.int t2), .val (.int t3), .val (.int qq), .val (.long vv), .second, .val (.int nn), .val (.int sz), .val (.int pk), .val (.int v1), .val (.int v2), .val (.int v3), .unset, .unset, .unset] [])) rfl (hb hby at_47) (by decide) (by decide)
  obtain ⟨b32, g32⟩ : ∃ z, z = h0.size := ⟨_, rfl⟩
  rw [← g32] at A32 D32 st32
  replace pre : Pth p e below S0 T32 (mkF m 50 #[.val (.int ctl), .val (.int t1), .val (.int t2), .val (.int t3), .val (.int qq), .val (.long vv), .second, .val (.int nn), .val (.int sz), .val (.int pk), .val (.int v1), .val (.int v2), .val (.int v3), .unset, .unset, .unset] [(.ref b32)]) := fun t k => pre t (st32 _ k)
  have G_slots : Fld Z h32 b32 "com/example/tagwire/tagwire/dictionary/TagTable" "slots" "[I" .null := D32 (Or.inr (hw _ (List.mem_of_getElem? (i := 25) rfl))) (ty := (.array .int)) (by decide)
  have G_size : Fld Z h32 b32 "com/example/tagwire/tagwire/dictionary/TagTable" "size" "I" (.int (0 : Int32)) := D32 (Or.inr (hw _ (List.mem_of_getElem? (i := 27) rfl))) (ty := .int) (by decide)
  have G_count : Fld Z h32 b32 "com/example/tagwire/tagwire/dictionary/TagTable" "count" "I" (.int (0 : Int32)) := D32 (Or.inl (hw _ (List.mem_of_getElem? (i := 48) rfl))) (ty := .int) (by decide)
  have gb : n0 ≤ b32 := by rw [g32]; exact Z0
  replace pre : Pth p e below S0 T32 (mkF m 53 #[.val (.int ctl), .val (.int t1), .val (.int t2), .val (.int t3), .val (.int qq), .val (.long vv), .second, .val (.int nn), .val (.int sz), .val (.int pk), .val (.int v1), .val (.int v2), .val (.int v3), .unset, .unset, .unset] [(.int sz), (.ref b32), (.ref b32)]) := fun t k => pre t (by
    show Steps p.tables e below (T32.setTop (mkF m 50 #[.val (.int ctl), .val (.int t1), .val (.int t2), .val (.int t3), .val (.int qq), .val (.long vv), .second, .val (.int nn), .val (.int sz), .val (.int pk), .val (.int v1), .val (.int v2), .val (.int v3), .unset, .unset, .unset] [(.ref b32)])) t
    refine XS.dup X32.here hx rfl (hb hby at_50) rfl rfl ?_
    show Steps p.tables e below (T32.setTop (mkF m 51 #[.val (.int ctl), .val (.int t1), .val (.int t2), .val (.int t3), .val (.int qq), .val (.long vv), .second, .val (.int nn), .val (.int sz), .val (.int pk), .val (.int v1), .val (.int v2), .val (.int v3), .unset, .unset, .unset] [(.ref b32), (.ref b32)])) t
    refine XS.iload X32.here hx rfl (hb hby at_51) rfl ?_
    show Steps p.tables e below (T32.setTop (mkF m 53 #[.val (.int ctl), .val (.int t1), .val (.int t2), .val (.int t3), .val (.int qq), .val (.long vv), .second, .val (.int nn), .val (.int sz), .val (.int pk), .val (.int v1), .val (.int v2), .val (.int v3), .unset, .unset, .unset] [(.int sz), (.ref b32), (.ref b32)])) t
    exact k)
  obtain ⟨_, _, ⟨T33, L33, k33, n33⟩, -, X33, ⟨Lc33, hQ33, l33, y33, z33⟩, st33⟩ := X32.specialBack hx (y := (⟨"com/example/tagwire/tagwire/dictionary/TagTable", "<init>", "(I)V"⟩ : MethodName)) rfl hown (mvT hZ (hw _ (List.mem_of_getElem? (i := 4) rfl))) (mvT hZ (hw _ (List.mem_of_getElem? (i := 5) rfl))) (mvT hZ (hw _ (List.mem_of_getElem? (i := 6) rfl))) (by decide) (backOf (W := 1) (rm_ini l Z a0 hw [] b32 sz h32 n0 (Nat.le_trans Z0 E32.1) gb ⟨bs1, bs2⟩ A32 G_slots G_size G_count) hZ (hw _ (List.mem_of_getElem? (i := 6) rfl)) (hw _ (List.mem_of_getElem? (i := 3) rfl)) (by decide) (by decide)) (g := (mkF m 53 #[.val (.int ctl), .val (.int t1), .val (.int t2), .val (.int t3), .val (.int qq), .val (.long vv), .second, .val (.int nn), .val (.int sz), .val (.int pk), .val (.int v1), .val (.int v2), .val (.int v3), .unset, .unset, .unset] [(.int sz), (.ref b32), (.ref b32)])) rfl (by rw [hml]; rfl) (Steps.refl _) (a := b32) (argsL := [(.int sz)]) (rest := [(.ref b32)]) (lenOf pd__I_V rfl) rfl (by show 2 * 0 + _ ≤ _; exact Nat.le_of_eq rfl) (hb hby at_53) (fun _ _ => ⟨rfl, e32, (by decide : 1 + 1 ≤ _), (by decide : 3 + 32 ≤ _)⟩)
  dsimp only [Pt.U, Pt.locs, Pt.cells, Pt.slots] at X33 l33 y33 z33 st33 hQ33
  subst l33 y33 z33
  obtain ⟨rfl, N33q, hs33, r, C, gr, hzC, hT33⟩ := hQ33
  have N33 := Fr.app N0 N33q
  replace pre : Pth p e below S0 T33 (mkF m 56 #[.val (.int ctl), .val (.int t1), .val (.int t2), .val (.int t3), .val (.int qq), .val (.long vv), .second, .val (.int nn), .val (.int sz), .val (.int pk), .val (.int v1), .val (.int v2), .val (.int v3), .unset, .unset, .unset] [(.ref b32)]) := fun t k => pre t (st33.trans k)
  have hC := hT33.2.2.2.2.2.2
  have hH := own_hlt hC
  have tb0 := OTbl.nil C
  replace pre : Pth p e below S0 T33 (mkF m 64 #[.val (.int ctl), .val (.int t1), .val (.int t2), .val (.int t3), .val (.int qq), .val (.long vv), .second, .val (.int nn), .val (.int sz), .val (.int pk), .val (.int v1), .val (.int v2), .val (.int v3), .val (.ref b32), .val (.int (1 : Int32)), .unset] [(.int (1 : Int32)), (.int nn)]) := fun t k => pre t (by
    show Steps p.tables e below (T33.setTop (mkF m 56 #[.val (.int ctl), .val (.int t1), .val (.int t2), .val (.int t3), .val (.int qq), .val (.long vv), .second, .val (.int nn), .val (.int sz), .val (.int pk), .val (.int v1), .val (.int v2), .val (.int v3), .unset, .unset, .unset] [(.ref b32)])) t
    refine XS.astore X33.here hx rfl (hb hby at_56) rfl rfl (l' := #[.val (.int ctl), .val (.int t1), .val (.int t2), .val (.int t3), .val (.int qq), .val (.long vv), .second, .val (.int nn), .val (.int sz), .val (.int pk), .val (.int v1), .val (.int v2), .val (.int v3), .val (.ref b32), .unset, .unset]) rfl ?_
    show Steps p.tables e below (T33.setTop (mkF m 58 #[.val (.int ctl), .val (.int t1), .val (.int t2), .val (.int t3), .val (.int qq), .val (.long vv), .second, .val (.int nn), .val (.int sz), .val (.int pk), .val (.int v1), .val (.int v2), .val (.int v3), .val (.ref b32), .unset, .unset] [])) t
    refine XS.iconst X33.here hx rfl (hb hby at_58) ?_
    show Steps p.tables e below (T33.setTop (mkF m 59 #[.val (.int ctl), .val (.int t1), .val (.int t2), .val (.int t3), .val (.int qq), .val (.long vv), .second, .val (.int nn), .val (.int sz), .val (.int pk), .val (.int v1), .val (.int v2), .val (.int v3), .val (.ref b32), .unset, .unset] [(.int (1 : Int32))])) t
    refine XS.istore X33.here hx rfl (hb hby at_59) rfl (l' := #[.val (.int ctl), .val (.int t1), .val (.int t2), .val (.int t3), .val (.int qq), .val (.long vv), .second, .val (.int nn), .val (.int sz), .val (.int pk), .val (.int v1), .val (.int v2), .val (.int v3), .val (.ref b32), .val (.int (1 : Int32)), .unset]) rfl ?_
    show Steps p.tables e below (T33.setTop (mkF m 61 #[.val (.int ctl), .val (.int t1), .val (.int t2), .val (.int t3), .val (.int qq), .val (.long vv), .second, .val (.int nn), .val (.int sz), .val (.int pk), .val (.int v1), .val (.int v2), .val (.int v3), .val (.ref b32), .val (.int (1 : Int32)), .unset] [])) t
    refine XS.iload X33.here hx rfl (hb hby at_61) rfl ?_
    show Steps p.tables e below (T33.setTop (mkF m 63 #[.val (.int ctl), .val (.int t1), .val (.int t2), .val (.int t3), .val (.int qq), .val (.long vv), .second, .val (.int nn), .val (.int sz), .val (.int pk), .val (.int v1), .val (.int v2), .val (.int v3), .val (.ref b32), .val (.int (1 : Int32)), .unset] [(.int nn)])) t
    refine XS.iconst X33.here hx rfl (hb hby at_63) ?_
    show Steps p.tables e below (T33.setTop (mkF m 64 #[.val (.int ctl), .val (.int t1), .val (.int t2), .val (.int t3), .val (.int qq), .val (.long vv), .second, .val (.int nn), .val (.int sz), .val (.int pk), .val (.int v1), .val (.int v2), .val (.int v3), .val (.ref b32), .val (.int (1 : Int32)), .unset] [(.int (1 : Int32)), (.int nn)])) t
    exact k)
  by_cases n1 : nn < (1 : Int32)
  · replace pre : Pth p e below S0 T33 (mkF m 159 #[.val (.int ctl), .val (.int t1), .val (.int t2), .val (.int t3), .val (.int qq), .val (.long vv), .second, .val (.int nn), .val (.int sz), .val (.int pk), .val (.int v1), .val (.int v2), .val (.int v3), .val (.ref b32), .val (.int (1 : Int32)), .unset] []) := fun t k => pre t (by
      show Steps p.tables e below (T33.setTop (mkF m 64 #[.val (.int ctl), .val (.int t1), .val (.int t2), .val (.int t3), .val (.int qq), .val (.long vv), .second, .val (.int nn), .val (.int sz), .val (.int pk), .val (.int v1), .val (.int v2), .val (.int v3), .val (.ref b32), .val (.int (1 : Int32)), .unset] [(.int (1 : Int32)), (.int nn)])) t
      refine XS.icmpYes X33.here hx rfl (pc0 := 64) (pc' := 80) rfl (hb hby at_64) rfl (XT.ii_lt_t n1) (by decide) (by decide) ?_
      show Steps p.tables e below (T33.setTop (mkF m 80 #[.val (.int ctl), .val (.int t1), .val (.int t2), .val (.int t3), .val (.int qq), .val (.long vv), .second, .val (.int nn), .val (.int sz), .val (.int pk), .val (.int v1), .val (.int v2), .val (.int v3), .val (.ref b32), .val (.int (1 : Int32)), .unset] [])) t
      refine XS.iload X33.here hx rfl (hb hby at_80) rfl ?_
      show Steps p.tables e below (T33.setTop (mkF m 82 #[.val (.int ctl), .val (.int t1), .val (.int t2), .val (.int t3), .val (.int qq), .val (.long vv), .second, .val (.int nn), .val (.int sz), .val (.int pk), .val (.int v1), .val (.int v2), .val (.int v3), .val (.ref b32), .val (.int (1 : Int32)), .unset] [(.int nn)])) t
      refine XS.iconst X33.here hx rfl (hb hby at_82) ?_
      show Steps p.tables e below (T33.setTop (mkF m 83 #[.val (.int ctl), .val (.int t1), .val (.int t2), .val (.int t3), .val (.int qq), .val (.long vv), .second, .val (.int nn), .val (.int sz), .val (.int pk), .val (.int v1), .val (.int v2), .val (.int v3), .val (.ref b32), .val (.int (1 : Int32)), .unset] [(.int (2 : Int32)), (.int nn)])) t
      refine XS.icmpYes X33.here hx rfl (pc0 := 83) (pc' := 117) rfl (hb hby at_83) rfl (XT.ii_lt_t (own_lt2 n1)) (by decide) (by decide) ?_
      show Steps p.tables e below (T33.setTop (mkF m 117 #[.val (.int ctl), .val (.int t1), .val (.int t2), .val (.int t3), .val (.int qq), .val (.long vv), .second, .val (.int nn), .val (.int sz), .val (.int pk), .val (.int v1), .val (.int v2), .val (.int v3), .val (.ref b32), .val (.int (1 : Int32)), .unset] [])) t
      refine XS.iload X33.here hx rfl (hb hby at_117) rfl ?_
      show Steps p.tables e below (T33.setTop (mkF m 119 #[.val (.int ctl), .val (.int t1), .val (.int t2), .val (.int t3), .val (.int qq), .val (.long vv), .second, .val (.int nn), .val (.int sz), .val (.int pk), .val (.int v1), .val (.int v2), .val (.int v3), .val (.ref b32), .val (.int (1 : Int32)), .unset] [(.int nn)])) t
      refine XS.iconst X33.here hx rfl (hb hby at_119) ?_
      show Steps p.tables e below (T33.setTop (mkF m 120 #[.val (.int ctl), .val (.int t1), .val (.int t2), .val (.int t3), .val (.int qq), .val (.long vv), .second, .val (.int nn), .val (.int sz), .val (.int pk), .val (.int v1), .val (.int v2), .val (.int v3), .val (.ref b32), .val (.int (1 : Int32)), .unset] [(.int (3 : Int32)), (.int nn)])) t
      refine XS.icmpYes X33.here hx rfl (pc0 := 120) (pc' := 159) rfl (hb hby at_120) rfl (XT.ii_lt_t (own_lt3 (own_lt2 n1))) (by decide) (by decide) ?_
      show Steps p.tables e below (T33.setTop (mkF m 159 #[.val (.int ctl), .val (.int t1), .val (.int t2), .val (.int t3), .val (.int qq), .val (.long vv), .second, .val (.int nn), .val (.int sz), .val (.int pk), .val (.int v1), .val (.int v2), .val (.int v3), .val (.ref b32), .val (.int (1 : Int32)), .unset] [])) t
      exact k)
    have hexz := OOcc.ex tb0.1 (by omega : 0 < C)
    obtain ⟨xx, pre⟩ : ∃ xx : Int32, Pth p e below S0 T33 (mkF m 190 #[.val (.int ctl), .val (.int t1), .val (.int t2), .val (.int t3), .val (.int qq), .val (.long vv), .second, .val (.int nn), .val (.int sz), .val (.int pk), .val (.int v1), .val (.int v2), .val (.int v3), .val (.ref b32), .val (.int (1 : Int32)), .unset] [(.int xx)]) := by
      replace pre : Pth p e below S0 T33 (mkF m 161 #[.val (.int ctl), .val (.int t1), .val (.int t2), .val (.int t3), .val (.int qq), .val (.long vv), .second, .val (.int nn), .val (.int sz), .val (.int pk), .val (.int v1), .val (.int v2), .val (.int v3), .val (.ref b32), .val (.int (1 : Int32)), .unset] [(.int pk)]) := fun t k => pre t (by
        show Steps p.tables e below (T33.setTop (mkF m 159 #[.val (.int ctl), .val (.int t1), .val (.int t2), .val (.int t3), .val (.int qq), .val (.long vv), .second, .val (.int nn), .val (.int sz), .val (.int pk), .val (.int v1), .val (.int v2), .val (.int v3), .val (.ref b32), .val (.int (1 : Int32)), .unset] [])) t
        refine XS.iload X33.here hx rfl (hb hby at_159) rfl ?_
        show Steps p.tables e below (T33.setTop (mkF m 161 #[.val (.int ctl), .val (.int t1), .val (.int t2), .val (.int t3), .val (.int qq), .val (.long vv), .second, .val (.int nn), .val (.int sz), .val (.int pk), .val (.int v1), .val (.int v2), .val (.int v3), .val (.ref b32), .val (.int (1 : Int32)), .unset] [(.int pk)])) t
        exact k)
      by_cases p0 : pk = (0 : Int32)
      · replace pre : Pth p e below S0 T33 (mkF m 190 #[.val (.int ctl), .val (.int t1), .val (.int t2), .val (.int t3), .val (.int qq), .val (.long vv), .second, .val (.int nn), .val (.int sz), .val (.int pk), .val (.int v1), .val (.int v2), .val (.int v3), .val (.ref b32), .val (.int (1 : Int32)), .unset] [(.int t1)]) := fun t k => pre t (by
          show Steps p.tables e below (T33.setTop (mkF m 161 #[.val (.int ctl), .val (.int t1), .val (.int t2), .val (.int t3), .val (.int qq), .val (.long vv), .second, .val (.int nn), .val (.int sz), .val (.int pk), .val (.int v1), .val (.int v2), .val (.int v3), .val (.ref b32), .val (.int (1 : Int32)), .unset] [(.int pk)])) t
          refine XS.ifNo X33.here hx rfl (hb hby at_161) rfl (XT.i0_ne_f p0) ?_
          show Steps p.tables e below (T33.setTop (mkF m 164 #[.val (.int ctl), .val (.int t1), .val (.int t2), .val (.int t3), .val (.int qq), .val (.long vv), .second, .val (.int nn), .val (.int sz), .val (.int pk), .val (.int v1), .val (.int v2), .val (.int v3), .val (.ref b32), .val (.int (1 : Int32)), .unset] [])) t
          refine XS.iloadN X33.here hx rfl (hb hby at_164) rfl ?_
          show Steps p.tables e below (T33.setTop (mkF m 165 #[.val (.int ctl), .val (.int t1), .val (.int t2), .val (.int t3), .val (.int qq), .val (.long vv), .second, .val (.int nn), .val (.int sz), .val (.int pk), .val (.int v1), .val (.int v2), .val (.int v3), .val (.ref b32), .val (.int (1 : Int32)), .unset] [(.int t1)])) t
          refine XS.goto X33.here hx rfl (pc0 := 165) (pc' := 190) rfl (hb hby at_165) (by decide) (by decide) ?_
          show Steps p.tables e below (T33.setTop (mkF m 190 #[.val (.int ctl), .val (.int t1), .val (.int t2), .val (.int t3), .val (.int qq), .val (.long vv), .second, .val (.int nn), .val (.int sz), .val (.int pk), .val (.int v1), .val (.int v2), .val (.int v3), .val (.ref b32), .val (.int (1 : Int32)), .unset] [(.int t1)])) t
          exact k)
        exact ⟨_, pre⟩
      · replace pre : Pth p e below S0 T33 (mkF m 171 #[.val (.int ctl), .val (.int t1), .val (.int t2), .val (.int t3), .val (.int qq), .val (.long vv), .second, .val (.int nn), .val (.int sz), .val (.int pk), .val (.int v1), .val (.int v2), .val (.int v3), .val (.ref b32), .val (.int (1 : Int32)), .unset] [(.int (1 : Int32)), (.int pk)]) := fun t k => pre t (by
          show Steps p.tables e below (T33.setTop (mkF m 161 #[.val (.int ctl), .val (.int t1), .val (.int t2), .val (.int t3), .val (.int qq), .val (.long vv), .second, .val (.int nn), .val (.int sz), .val (.int pk), .val (.int v1), .val (.int v2), .val (.int v3), .val (.ref b32), .val (.int (1 : Int32)), .unset] [(.int pk)])) t
          refine XS.ifYes X33.here hx rfl (pc0 := 161) (pc' := 168) rfl (hb hby at_161) rfl (XT.i0_ne_t p0) (by decide) (by decide) ?_
          show Steps p.tables e below (T33.setTop (mkF m 168 #[.val (.int ctl), .val (.int t1), .val (.int t2), .val (.int t3), .val (.int qq), .val (.long vv), .second, .val (.int nn), .val (.int sz), .val (.int pk), .val (.int v1), .val (.int v2), .val (.int v3), .val (.ref b32), .val (.int (1 : Int32)), .unset] [])) t
          refine XS.iload X33.here hx rfl (hb hby at_168) rfl ?_
          show Steps p.tables e below (T33.setTop (mkF m 170 #[.val (.int ctl), .val (.int t1), .val (.int t2), .val (.int t3), .val (.int qq), .val (.long vv), .second, .val (.int nn), .val (.int sz), .val (.int pk), .val (.int v1), .val (.int v2), .val (.int v3), .val (.ref b32), .val (.int (1 : Int32)), .unset] [(.int pk)])) t
          refine XS.iconst X33.here hx rfl (hb hby at_170) ?_
          show Steps p.tables e below (T33.setTop (mkF m 171 #[.val (.int ctl), .val (.int t1), .val (.int t2), .val (.int t3), .val (.int qq), .val (.long vv), .second, .val (.int nn), .val (.int sz), .val (.int pk), .val (.int v1), .val (.int v2), .val (.int v3), .val (.ref b32), .val (.int (1 : Int32)), .unset] [(.int (1 : Int32)), (.int pk)])) t
          exact k)
        by_cases p1 : pk = (1 : Int32)
        · replace pre : Pth p e below S0 T33 (mkF m 190 #[.val (.int ctl), .val (.int t1), .val (.int t2), .val (.int t3), .val (.int qq), .val (.long vv), .second, .val (.int nn), .val (.int sz), .val (.int pk), .val (.int v1), .val (.int v2), .val (.int v3), .val (.ref b32), .val (.int (1 : Int32)), .unset] [(.int t2)]) := fun t k => pre t (by
            show Steps p.tables e below (T33.setTop (mkF m 171 #[.val (.int ctl), .val (.int t1), .val (.int t2), .val (.int t3), .val (.int qq), .val (.long vv), .second, .val (.int nn), .val (.int sz), .val (.int pk), .val (.int v1), .val (.int v2), .val (.int v3), .val (.ref b32), .val (.int (1 : Int32)), .unset] [(.int (1 : Int32)), (.int pk)])) t
            refine XS.icmpNo X33.here hx rfl (hb hby at_171) rfl (XT.ii_ne_f p1) ?_
            show Steps p.tables e below (T33.setTop (mkF m 174 #[.val (.int ctl), .val (.int t1), .val (.int t2), .val (.int t3), .val (.int qq), .val (.long vv), .second, .val (.int nn), .val (.int sz), .val (.int pk), .val (.int v1), .val (.int v2), .val (.int v3), .val (.ref b32), .val (.int (1 : Int32)), .unset] [])) t
            refine XS.iloadN X33.here hx rfl (hb hby at_174) rfl ?_
            show Steps p.tables e below (T33.setTop (mkF m 175 #[.val (.int ctl), .val (.int t1), .val (.int t2), .val (.int t3), .val (.int qq), .val (.long vv), .second, .val (.int nn), .val (.int sz), .val (.int pk), .val (.int v1), .val (.int v2), .val (.int v3), .val (.ref b32), .val (.int (1 : Int32)), .unset] [(.int t2)])) t
            refine XS.goto X33.here hx rfl (pc0 := 175) (pc' := 190) rfl (hb hby at_175) (by decide) (by decide) ?_
            show Steps p.tables e below (T33.setTop (mkF m 190 #[.val (.int ctl), .val (.int t1), .val (.int t2), .val (.int t3), .val (.int qq), .val (.long vv), .second, .val (.int nn), .val (.int sz), .val (.int pk), .val (.int v1), .val (.int v2), .val (.int v3), .val (.ref b32), .val (.int (1 : Int32)), .unset] [(.int t2)])) t
            exact k)
          exact ⟨_, pre⟩
        · replace pre : Pth p e below S0 T33 (mkF m 181 #[.val (.int ctl), .val (.int t1), .val (.int t2), .val (.int t3), .val (.int qq), .val (.long vv), .second, .val (.int nn), .val (.int sz), .val (.int pk), .val (.int v1), .val (.int v2), .val (.int v3), .val (.ref b32), .val (.int (1 : Int32)), .unset] [(.int (2 : Int32)), (.int pk)]) := fun t k => pre t (by
            show Steps p.tables e below (T33.setTop (mkF m 171 #[.val (.int ctl), .val (.int t1), .val (.int t2), .val (.int t3), .val (.int qq), .val (.long vv), .second, .val (.int nn), .val (.int sz), .val (.int pk), .val (.int v1), .val (.int v2), .val (.int v3), .val (.ref b32), .val (.int (1 : Int32)), .unset] [(.int (1 : Int32)), (.int pk)])) t
            refine XS.icmpYes X33.here hx rfl (pc0 := 171) (pc' := 178) rfl (hb hby at_171) rfl (XT.ii_ne_t p1) (by decide) (by decide) ?_
            show Steps p.tables e below (T33.setTop (mkF m 178 #[.val (.int ctl), .val (.int t1), .val (.int t2), .val (.int t3), .val (.int qq), .val (.long vv), .second, .val (.int nn), .val (.int sz), .val (.int pk), .val (.int v1), .val (.int v2), .val (.int v3), .val (.ref b32), .val (.int (1 : Int32)), .unset] [])) t
            refine XS.iload X33.here hx rfl (hb hby at_178) rfl ?_
            show Steps p.tables e below (T33.setTop (mkF m 180 #[.val (.int ctl), .val (.int t1), .val (.int t2), .val (.int t3), .val (.int qq), .val (.long vv), .second, .val (.int nn), .val (.int sz), .val (.int pk), .val (.int v1), .val (.int v2), .val (.int v3), .val (.ref b32), .val (.int (1 : Int32)), .unset] [(.int pk)])) t
            refine XS.iconst X33.here hx rfl (hb hby at_180) ?_
            show Steps p.tables e below (T33.setTop (mkF m 181 #[.val (.int ctl), .val (.int t1), .val (.int t2), .val (.int t3), .val (.int qq), .val (.long vv), .second, .val (.int nn), .val (.int sz), .val (.int pk), .val (.int v1), .val (.int v2), .val (.int v3), .val (.ref b32), .val (.int (1 : Int32)), .unset] [(.int (2 : Int32)), (.int pk)])) t
            exact k)
          by_cases p2 : pk = (2 : Int32)
          · replace pre : Pth p e below S0 T33 (mkF m 190 #[.val (.int ctl), .val (.int t1), .val (.int t2), .val (.int t3), .val (.int qq), .val (.long vv), .second, .val (.int nn), .val (.int sz), .val (.int pk), .val (.int v1), .val (.int v2), .val (.int v3), .val (.ref b32), .val (.int (1 : Int32)), .unset] [(.int t3)]) := fun t k => pre t (by
              show Steps p.tables e below (T33.setTop (mkF m 181 #[.val (.int ctl), .val (.int t1), .val (.int t2), .val (.int t3), .val (.int qq), .val (.long vv), .second, .val (.int nn), .val (.int sz), .val (.int pk), .val (.int v1), .val (.int v2), .val (.int v3), .val (.ref b32), .val (.int (1 : Int32)), .unset] [(.int (2 : Int32)), (.int pk)])) t
              refine XS.icmpNo X33.here hx rfl (hb hby at_181) rfl (XT.ii_ne_f p2) ?_
              show Steps p.tables e below (T33.setTop (mkF m 184 #[.val (.int ctl), .val (.int t1), .val (.int t2), .val (.int t3), .val (.int qq), .val (.long vv), .second, .val (.int nn), .val (.int sz), .val (.int pk), .val (.int v1), .val (.int v2), .val (.int v3), .val (.ref b32), .val (.int (1 : Int32)), .unset] [])) t
              refine XS.iloadN X33.here hx rfl (hb hby at_184) rfl ?_
              show Steps p.tables e below (T33.setTop (mkF m 185 #[.val (.int ctl), .val (.int t1), .val (.int t2), .val (.int t3), .val (.int qq), .val (.long vv), .second, .val (.int nn), .val (.int sz), .val (.int pk), .val (.int v1), .val (.int v2), .val (.int v3), .val (.ref b32), .val (.int (1 : Int32)), .unset] [(.int t3)])) t
              refine XS.goto X33.here hx rfl (pc0 := 185) (pc' := 190) rfl (hb hby at_185) (by decide) (by decide) ?_
              show Steps p.tables e below (T33.setTop (mkF m 190 #[.val (.int ctl), .val (.int t1), .val (.int t2), .val (.int t3), .val (.int qq), .val (.long vv), .second, .val (.int nn), .val (.int sz), .val (.int pk), .val (.int v1), .val (.int v2), .val (.int v3), .val (.ref b32), .val (.int (1 : Int32)), .unset] [(.int t3)])) t
              exact k)
            exact ⟨_, pre⟩
          · replace pre : Pth p e below S0 T33 (mkF m 190 #[.val (.int ctl), .val (.int t1), .val (.int t2), .val (.int t3), .val (.int qq), .val (.long vv), .second, .val (.int nn), .val (.int sz), .val (.int pk), .val (.int v1), .val (.int v2), .val (.int v3), .val (.ref b32), .val (.int (1 : Int32)), .unset] [(.int qq)]) := fun t k => pre t (by
              show Steps p.tables e below (T33.setTop (mkF m 181 #[.val (.int ctl), .val (.int t1), .val (.int t2), .val (.int t3), .val (.int qq), .val (.long vv), .second, .val (.int nn), .val (.int sz), .val (.int pk), .val (.int v1), .val (.int v2), .val (.int v3), .val (.ref b32), .val (.int (1 : Int32)), .unset] [(.int (2 : Int32)), (.int pk)])) t
              refine XS.icmpYes X33.here hx rfl (pc0 := 181) (pc' := 188) rfl (hb hby at_181) rfl (XT.ii_ne_t p2) (by decide) (by decide) ?_
              show Steps p.tables e below (T33.setTop (mkF m 188 #[.val (.int ctl), .val (.int t1), .val (.int t2), .val (.int t3), .val (.int qq), .val (.long vv), .second, .val (.int nn), .val (.int sz), .val (.int pk), .val (.int v1), .val (.int v2), .val (.int v3), .val (.ref b32), .val (.int (1 : Int32)), .unset] [])) t
              refine XS.iload X33.here hx rfl (hb hby at_188) rfl ?_
              show Steps p.tables e below (T33.setTop (mkF m 190 #[.val (.int ctl), .val (.int t1), .val (.int t2), .val (.int t3), .val (.int qq), .val (.long vv), .second, .val (.int nn), .val (.int sz), .val (.int pk), .val (.int v1), .val (.int v2), .val (.int v3), .val (.ref b32), .val (.int (1 : Int32)), .unset] [(.int qq)])) t
              exact k)
            exact ⟨_, pre⟩
    replace pre : Pth p e below S0 T33 (mkF m 198 #[.val (.int ctl), .val (.int t1), .val (.int t2), .val (.int t3), .val (.int qq), .val (.long vv), .second, .val (.int nn), .val (.int sz), .val (.int pk), .val (.int v1), .val (.int v2), .val (.int v3), .val (.ref b32), .val (.int (1 : Int32)), .val (.int xx)] [(.int xx), (.ref b32), (.int (1 : Int32))]) := fun t k => pre t (by
      show Steps p.tables e below (T33.setTop (mkF m 190 #[.val (.int ctl), .val (.int t1), .val (.int t2), .val (.int t3), .val (.int qq), .val (.long vv), .second, .val (.int nn), .val (.int sz), .val (.int pk), .val (.int v1), .val (.int v2), .val (.int v3), .val (.ref b32), .val (.int (1 : Int32)), .unset] [(.int xx)])) t
      refine XS.istore X33.here hx rfl (hb hby at_190) rfl (l' := #[.val (.int ctl), .val (.int t1), .val (.int t2), .val (.int t3), .val (.int qq), .val (.long vv), .second, .val (.int nn), .val (.int sz), .val (.int pk), .val (.int v1), .val (.int v2), .val (.int v3), .val (.ref b32), .val (.int (1 : Int32)), .val (.int xx)]) rfl ?_
      show Steps p.tables e below (T33.setTop (mkF m 192 #[.val (.int ctl), .val (.int t1), .val (.int t2), .val (.int t3), .val (.int qq), .val (.long vv), .second, .val (.int nn), .val (.int sz), .val (.int pk), .val (.int v1), .val (.int v2), .val (.int v3), .val (.ref b32), .val (.int (1 : Int32)), .val (.int xx)] [])) t
      refine XS.iload X33.here hx rfl (hb hby at_192) rfl ?_
      show Steps p.tables e below (T33.setTop (mkF m 194 #[.val (.int ctl), .val (.int t1), .val (.int t2), .val (.int t3), .val (.int qq), .val (.long vv), .second, .val (.int nn), .val (.int sz), .val (.int pk), .val (.int v1), .val (.int v2), .val (.int v3), .val (.ref b32), .val (.int (1 : Int32)), .val (.int xx)] [(.int (1 : Int32))])) t
      refine XS.aload X33.here hx rfl (hb hby at_194) rfl rfl ?_
      show Steps p.tables e below (T33.setTop (mkF m 196 #[.val (.int ctl), .val (.int t1), .val (.int t2), .val (.int t3), .val (.int qq), .val (.long vv), .second, .val (.int nn), .val (.int sz), .val (.int pk), .val (.int v1), .val (.int v2), .val (.int v3), .val (.ref b32), .val (.int (1 : Int32)), .val (.int xx)] [(.ref b32), (.int (1 : Int32))])) t
      refine XS.iload X33.here hx rfl (hb hby at_196) rfl ?_
      show Steps p.tables e below (T33.setTop (mkF m 198 #[.val (.int ctl), .val (.int t1), .val (.int t2), .val (.int t3), .val (.int qq), .val (.long vv), .second, .val (.int nn), .val (.int sz), .val (.int pk), .val (.int v1), .val (.int v2), .val (.int v3), .val (.ref b32), .val (.int (1 : Int32)), .val (.int xx)] [(.int xx), (.ref b32), (.int (1 : Int32))])) t
      exact k)
    obtain ⟨cq34, kq34, q34a, q34b, q34c⟩ := isOf hZ rfl hT33.2.2.2.1
    obtain ⟨_, _, ⟨T34, L34, k34, n34⟩, -, X34, ⟨Lc34, hQ34, l34, y34, z34⟩, st34⟩ := X33.virtualBack hx (y := (⟨"com/example/tagwire/tagwire/dictionary/TagTable", "get", "(I)I"⟩ : MethodName)) (z := (⟨"com/example/tagwire/tagwire/dictionary/TagTable", "get", "(I)I"⟩ : MethodName)) hown (mvT hZ (hw _ (List.mem_of_getElem? (i := 28) rfl))) (mvT hZ (hw _ (List.mem_of_getElem? (i := 29) rfl))) (notFace_of_selects (args := #[]) (mvT hZ (hw _ (List.mem_of_getElem? (i := 31) rfl)))) (mvT hZ (hw _ (List.mem_of_getElem? (i := 31) rfl))) (mvT hZ (hw _ (List.mem_of_getElem? (i := 30) rfl))) (by decide) (backOf (W := 1) (rm_get l Z a0 hw [] b32 xx r sz 0 C (fun _ => 0) _ n0 hT33 hexz) hZ (hw _ (List.mem_of_getElem? (i := 32) rfl)) (hw _ (List.mem_of_getElem? (i := 3) rfl)) (by decide) (by decide)) q34a q34c (g := (mkF m 198 #[.val (.int ctl), .val (.int t1), .val (.int t2), .val (.int t3), .val (.int qq), .val (.long vv), .second, .val (.int nn), .val (.int sz), .val (.int pk), .val (.int v1), .val (.int v2), .val (.int v3), .val (.ref b32), .val (.int (1 : Int32)), .val (.int xx)] [(.int xx), (.ref b32), (.int (1 : Int32))])) rfl (by rw [hml]; rfl) (Steps.refl _) (argsL := [(.int xx)]) (rest := [(.int (1 : Int32))]) (lenOf pd__I_I rfl) rfl (by show 2 * 0 + _ ≤ _; exact Nat.le_of_eq rfl) (hb hby at_198) (fun _ _ => ⟨rfl, rfl, (by decide : 2 + 0 ≤ _), (by decide : 35 + 0 ≤ _)⟩)
    dsimp only [Pt.U, Pt.locs, Pt.cells, Pt.slots] at X34 l34 y34 z34 st34 hQ34
    subst l34 y34 z34
    obtain ⟨i34, rfl, N34q, e34, hi34, hs34⟩ := hQ34
    have N34 := Fr.app N33 N34q
    replace pre : Pth p e below S0 T34 (mkF m 201 #[.val (.int ctl), .val (.int t1), .val (.int t2), .val (.int t3), .val (.int qq), .val (.long vv), .second, .val (.int nn), .val (.int sz), .val (.int pk), .val (.int v1), .val (.int v2), .val (.int v3), .val (.ref b32), .val (.int (1 : Int32)), .val (.int xx)] [(.int ((fun _ => 0) (2 * i34 + 1) - 1)), (.int (1 : Int32))]) := fun t k => pre t (st34.trans k)
    replace pre : Pth p e below S0 T34 (mkF m 214 #[.val (.int ctl), .val (.int t1), .val (.int t2), .val (.int t3), .val (.int qq), .val (.long vv), .second, .val (.int nn), .val (.int sz), .val (.int pk), .val (.int v1), .val (.int v2), .val (.int v3), .val (.ref b32), .val (.int (1 : Int32)), .val (.int xx)] [(.int xx), (.int v3), (.int t3), (.int v2), (.int t2), (.int v1), (.int t1), (.int nn), (.int ((fun _ => 0) (2 * i34 + 1) - 1)), (.int (1 : Int32))]) := fun t k => pre t (by
      show Steps p.tables e below (T34.setTop (mkF m 201 #[.val (.int ctl), .val (.int t1), .val (.int t2), .val (.int t3), .val (.int qq), .val (.long vv), .second, .val (.int nn), .val (.int sz), .val (.int pk), .val (.int v1), .val (.int v2), .val (.int v3), .val (.ref b32), .val (.int (1 : Int32)), .val (.int xx)] [(.int ((fun _ => 0) (2 * i34 + 1) - 1)), (.int (1 : Int32))])) t
      refine XS.iload X34.here hx rfl (hb hby at_201) rfl ?_
      show Steps p.tables e below (T34.setTop (mkF m 203 #[.val (.int ctl), .val (.int t1), .val (.int t2), .val (.int t3), .val (.int qq), .val (.long vv), .second, .val (.int nn), .val (.int sz), .val (.int pk), .val (.int v1), .val (.int v2), .val (.int v3), .val (.ref b32), .val (.int (1 : Int32)), .val (.int xx)] [(.int nn), (.int ((fun _ => 0) (2 * i34 + 1) - 1)), (.int (1 : Int32))])) t
      refine XS.iloadN X34.here hx rfl (hb hby at_203) rfl ?_
      show Steps p.tables e below (T34.setTop (mkF m 204 #[.val (.int ctl), .val (.int t1), .val (.int t2), .val (.int t3), .val (.int qq), .val (.long vv), .second, .val (.int nn), .val (.int sz), .val (.int pk), .val (.int v1), .val (.int v2), .val (.int v3), .val (.ref b32), .val (.int (1 : Int32)), .val (.int xx)] [(.int t1), (.int nn), (.int ((fun _ => 0) (2 * i34 + 1) - 1)), (.int (1 : Int32))])) t
      refine XS.iload X34.here hx rfl (hb hby at_204) rfl ?_
      show Steps p.tables e below (T34.setTop (mkF m 206 #[.val (.int ctl), .val (.int t1), .val (.int t2), .val (.int t3), .val (.int qq), .val (.long vv), .second, .val (.int nn), .val (.int sz), .val (.int pk), .val (.int v1), .val (.int v2), .val (.int v3), .val (.ref b32), .val (.int (1 : Int32)), .val (.int xx)] [(.int v1), (.int t1), (.int nn), (.int ((fun _ => 0) (2 * i34 + 1) - 1)), (.int (1 : Int32))])) t
      refine XS.iloadN X34.here hx rfl (hb hby at_206) rfl ?_
      show Steps p.tables e below (T34.setTop (mkF m 207 #[.val (.int ctl), .val (.int t1), .val (.int t2), .val (.int t3), .val (.int qq), .val (.long vv), .second, .val (.int nn), .val (.int sz), .val (.int pk), .val (.int v1), .val (.int v2), .val (.int v3), .val (.ref b32), .val (.int (1 : Int32)), .val (.int xx)] [(.int t2), (.int v1), (.int t1), (.int nn), (.int ((fun _ => 0) (2 * i34 + 1) - 1)), (.int (1 : Int32))])) t
      refine XS.iload X34.here hx rfl (hb hby at_207) rfl ?_
      show Steps p.tables e below (T34.setTop (mkF m 209 #[.val (.int ctl), .val (.int t1), .val (.int t2), .val (.int t3), .val (.int qq), .val (.long vv), .second, .val (.int nn), .val (.int sz), .val (.int pk), .val (.int v1), .val (.int v2), .val (.int v3), .val (.ref b32), .val (.int (1 : Int32)), .val (.int xx)] [(.int v2), (.int t2), (.int v1), (.int t1), (.int nn), (.int ((fun _ => 0) (2 * i34 + 1) - 1)), (.int (1 : Int32))])) t
      refine XS.iloadN X34.here hx rfl (hb hby at_209) rfl ?_
      show Steps p.tables e below (T34.setTop (mkF m 210 #[.val (.int ctl), .val (.int t1), .val (.int t2), .val (.int t3), .val (.int qq), .val (.long vv), .second, .val (.int nn), .val (.int sz), .val (.int pk), .val (.int v1), .val (.int v2), .val (.int v3), .val (.ref b32), .val (.int (1 : Int32)), .val (.int xx)] [(.int t3), (.int v2), (.int t2), (.int v1), (.int t1), (.int nn), (.int ((fun _ => 0) (2 * i34 + 1) - 1)), (.int (1 : Int32))])) t
      refine XS.iload X34.here hx rfl (hb hby at_210) rfl ?_
      show Steps p.tables e below (T34.setTop (mkF m 212 #[.val (.int ctl), .val (.int t1), .val (.int t2), .val (.int t3), .val (.int qq), .val (.long vv), .second, .val (.int nn), .val (.int sz), .val (.int pk), .val (.int v1), .val (.int v2), .val (.int v3), .val (.ref b32), .val (.int (1 : Int32)), .val (.int xx)] [(.int v3), (.int t3), (.int v2), (.int t2), (.int v1), (.int t1), (.int nn), (.int ((fun _ => 0) (2 * i34 + 1) - 1)), (.int (1 : Int32))])) t
      refine XS.iload X34.here hx rfl (hb hby at_212) rfl ?_
      show Steps p.tables e below (T34.setTop (mkF m 214 #[.val (.int ctl), .val (.int t1), .val (.int t2), .val (.int t3), .val (.int qq), .val (.long vv), .second, .val (.int nn), .val (.int sz), .val (.int pk), .val (.int v1), .val (.int v2), .val (.int v3), .val (.ref b32), .val (.int (1 : Int32)), .val (.int xx)] [(.int xx), (.int v3), (.int t3), (.int v2), (.int t2), (.int v1), (.int t1), (.int nn), (.int ((fun _ => 0) (2 * i34 + 1) - 1)), (.int (1 : Int32))])) t
      exact k)
    obtain ⟨_, _, ⟨T35, L35, k35, n35⟩, -, X35, ⟨Lc35, hQ35, l35, y35, z35⟩, st35⟩ := Jvm.LawKit.callS X34 hx (y := (⟨"com/example/tagwire/tagwire/dictionary/TagTableGetPinLaw", "expected", "(IIIIIIII)I"⟩ : MethodName)) hown (mvT hZ (hw _ (List.mem_of_getElem? (i := 38) rfl))) (mvT hZ (hw _ (List.mem_of_getElem? (i := 39) rfl))) (mvT hZ (hw _ (List.mem_of_getElem? (i := 40) rfl))) (mvT hZ (hw _ (List.mem_of_getElem? (i := 41) rfl))) (by decide) (backOf (W := 2) (rm_exp l Z a0 hw [] nn t1 v1 t2 v2 t3 v3 xx _ n0) hZ (hw _ (List.mem_of_getElem? (i := 41) rfl)) (hw _ (List.mem_of_getElem? (i := 40) rfl)) (by decide) (by decide)) (g := (mkF m 214 #[.val (.int ctl), .val (.int t1), .val (.int t2), .val (.int t3), .val (.int qq), .val (.long vv), .second, .val (.int nn), .val (.int sz), .val (.int pk), .val (.int v1), .val (.int v2), .val (.int v3), .val (.ref b32), .val (.int (1 : Int32)), .val (.int xx)] [(.int xx), (.int v3), (.int t3), (.int v2), (.int t2), (.int v1), (.int t1), (.int nn), (.int ((fun _ => 0) (2 * i34 + 1) - 1)), (.int (1 : Int32))])) rfl (by rw [hml]; rfl) (argsL := [(.int nn), (.int t1), (.int v1), (.int t2), (.int v2), (.int t3), (.int v3), (.int xx)]) (rest := [(.int ((fun _ => 0) (2 * i34 + 1) - 1)), (.int (1 : Int32))]) (lenOf pd__IIIIIIII_I rfl) rfl (by show 2 * 0 + _ ≤ _; exact Nat.le_of_eq rfl) (hb hby at_214) (fun _ _ => ⟨rfl, e34, (by decide : 2 + 0 ≤ _), (by decide : 35 + 0 ≤ _)⟩)
    dsimp only [Pt.U, Pt.locs, Pt.cells, Pt.slots] at X35 l35 y35 z35 st35 hQ35
    subst l35 y35 z35
    obtain ⟨rfl, N35q, e35⟩ := hQ35
    have N35 := Fr.app N34 N35q
    replace pre : Pth p e below S0 T35 (mkF m 217 #[.val (.int ctl), .val (.int t1), .val (.int t2), .val (.int t3), .val (.int qq), .val (.long vv), .second, .val (.int nn), .val (.int sz), .val (.int pk), .val (.int v1), .val (.int v2), .val (.int v3), .val (.ref b32), .val (.int (1 : Int32)), .val (.int xx)] [(.int (own_exp nn t1 v1 t2 v2 t3 v3 xx)), (.int ((fun _ => 0) (2 * i34 + 1) - 1)), (.int (1 : Int32))]) := fun t k => pre t (st35 _ k)
    replace pre : Pth p e below S0 T35 (mkF m 234 #[.val (.int ctl), .val (.int t1), .val (.int t2), .val (.int t3), .val (.int qq), .val (.long vv), .second, .val (.int nn), .val (.int sz), .val (.int pk), .val (.int v1), .val (.int v2), .val (.int v3), .val (.ref b32), .val (.int ((1 : Int32) &&& (1 : Int32))), .val (.int xx)] [(.int qq), (.ref b32), (.int ((1 : Int32) &&& (1 : Int32)))]) := fun t k => pre t (by
      show Steps p.tables e below (T35.setTop (mkF m 217 #[.val (.int ctl), .val (.int t1), .val (.int t2), .val (.int t3), .val (.int qq), .val (.long vv), .second, .val (.int nn), .val (.int sz), .val (.int pk), .val (.int v1), .val (.int v2), .val (.int v3), .val (.ref b32), .val (.int (1 : Int32)), .val (.int xx)] [(.int (own_exp nn t1 v1 t2 v2 t3 v3 xx)), (.int ((fun _ => 0) (2 * i34 + 1) - 1)), (.int (1 : Int32))])) t
      refine XS.icmpNo X35.here hx rfl (hb hby at_217) rfl (XT.ii_ne_f (by rw [tb0.2.2 _ _ hi34 hs34]; exact own_g0 n1 (own_lt2 n1) (own_lt3 (own_lt2 n1)))) ?_
      show Steps p.tables e below (T35.setTop (mkF m 220 #[.val (.int ctl), .val (.int t1), .val (.int t2), .val (.int t3), .val (.int qq), .val (.long vv), .second, .val (.int nn), .val (.int sz), .val (.int pk), .val (.int v1), .val (.int v2), .val (.int v3), .val (.ref b32), .val (.int (1 : Int32)), .val (.int xx)] [(.int (1 : Int32))])) t
      refine XS.iconst X35.here hx rfl (hb hby at_220) ?_
      show Steps p.tables e below (T35.setTop (mkF m 221 #[.val (.int ctl), .val (.int t1), .val (.int t2), .val (.int t3), .val (.int qq), .val (.long vv), .second, .val (.int nn), .val (.int sz), .val (.int pk), .val (.int v1), .val (.int v2), .val (.int v3), .val (.ref b32), .val (.int (1 : Int32)), .val (.int xx)] [(.int (1 : Int32)), (.int (1 : Int32))])) t
      refine XS.goto X35.here hx rfl (pc0 := 221) (pc' := 225) rfl (hb hby at_221) (by decide) (by decide) ?_
      show Steps p.tables e below (T35.setTop (mkF m 225 #[.val (.int ctl), .val (.int t1), .val (.int t2), .val (.int t3), .val (.int qq), .val (.long vv), .second, .val (.int nn), .val (.int sz), .val (.int pk), .val (.int v1), .val (.int v2), .val (.int v3), .val (.ref b32), .val (.int (1 : Int32)), .val (.int xx)] [(.int (1 : Int32)), (.int (1 : Int32))])) t
      refine XS.iand X35.here hx rfl (hb hby at_225) rfl ?_
      show Steps p.tables e below (T35.setTop (mkF m 226 #[.val (.int ctl), .val (.int t1), .val (.int t2), .val (.int t3), .val (.int qq), .val (.long vv), .second, .val (.int nn), .val (.int sz), .val (.int pk), .val (.int v1), .val (.int v2), .val (.int v3), .val (.ref b32), .val (.int (1 : Int32)), .val (.int xx)] [(.int ((1 : Int32) &&& (1 : Int32)))])) t
      refine XS.istore X35.here hx rfl (hb hby at_226) rfl (l' := #[.val (.int ctl), .val (.int t1), .val (.int t2), .val (.int t3), .val (.int qq), .val (.long vv), .second, .val (.int nn), .val (.int sz), .val (.int pk), .val (.int v1), .val (.int v2), .val (.int v3), .val (.ref b32), .val (.int ((1 : Int32) &&& (1 : Int32))), .val (.int xx)]) rfl ?_
      show Steps p.tables e below (T35.setTop (mkF m 228 #[.val (.int ctl), .val (.int t1), .val (.int t2), .val (.int t3), .val (.int qq), .val (.long vv), .second, .val (.int nn), .val (.int sz), .val (.int pk), .val (.int v1), .val (.int v2), .val (.int v3), .val (.ref b32), .val (.int ((1 : Int32) &&& (1 : Int32))), .val (.int xx)] [])) t
      refine XS.iload X35.here hx rfl (hb hby at_228) rfl ?_
      show Steps p.tables e below (T35.setTop (mkF m 230 #[.val (.int ctl), .val (.int t1), .val (.int t2), .val (.int t3), .val (.int qq), .val (.long vv), .second, .val (.int nn), .val (.int sz), .val (.int pk), .val (.int v1), .val (.int v2), .val (.int v3), .val (.ref b32), .val (.int ((1 : Int32) &&& (1 : Int32))), .val (.int xx)] [(.int ((1 : Int32) &&& (1 : Int32)))])) t
      refine XS.aload X35.here hx rfl (hb hby at_230) rfl rfl ?_
      show Steps p.tables e below (T35.setTop (mkF m 232 #[.val (.int ctl), .val (.int t1), .val (.int t2), .val (.int t3), .val (.int qq), .val (.long vv), .second, .val (.int nn), .val (.int sz), .val (.int pk), .val (.int v1), .val (.int v2), .val (.int v3), .val (.ref b32), .val (.int ((1 : Int32) &&& (1 : Int32))), .val (.int xx)] [(.ref b32), (.int ((1 : Int32) &&& (1 : Int32)))])) t
      refine XS.iload X35.here hx rfl (hb hby at_232) rfl ?_
      show Steps p.tables e below (T35.setTop (mkF m 234 #[.val (.int ctl), .val (.int t1), .val (.int t2), .val (.int t3), .val (.int qq), .val (.long vv), .second, .val (.int nn), .val (.int sz), .val (.int pk), .val (.int v1), .val (.int v2), .val (.int v3), .val (.ref b32), .val (.int ((1 : Int32) &&& (1 : Int32))), .val (.int xx)] [(.int qq), (.ref b32), (.int ((1 : Int32) &&& (1 : Int32)))])) t
      exact k)
    obtain ⟨cq36, kq36, q36a, q36b, q36c⟩ := isOf hZ e35 hT33.2.2.2.1
    obtain ⟨_, _, ⟨T36, L36, k36, n36⟩, -, X36, ⟨Lc36, hQ36, l36, y36, z36⟩, st36⟩ := X35.virtualBack hx (y := (⟨"com/example/tagwire/tagwire/dictionary/TagTable", "get", "(I)I"⟩ : MethodName)) (z := (⟨"com/example/tagwire/tagwire/dictionary/TagTable", "get", "(I)I"⟩ : MethodName)) hown (mvT hZ (hw _ (List.mem_of_getElem? (i := 28) rfl))) (mvT hZ (hw _ (List.mem_of_getElem? (i := 29) rfl))) (notFace_of_selects (args := #[]) (mvT hZ (hw _ (List.mem_of_getElem? (i := 31) rfl)))) (mvT hZ (hw _ (List.mem_of_getElem? (i := 31) rfl))) (mvT hZ (hw _ (List.mem_of_getElem? (i := 30) rfl))) (by decide) (backOf (W := 1) (rm_get l Z a0 hw [] b32 qq r sz 0 C (fun _ => 0) _ n0 hT33 hexz) hZ (hw _ (List.mem_of_getElem? (i := 32) rfl)) (hw _ (List.mem_of_getElem? (i := 3) rfl)) (by decide) (by decide)) q36a q36c (g := (mkF m 234 #[.val (.int ctl), .val (.int t1), .val (.int t2), .val (.int t3), .val (.int qq), .val (.long vv), .second, .val (.int nn), .val (.int sz), .val (.int pk), .val (.int v1), .val (.int v2), .val (.int v3), .val (.ref b32), .val (.int ((1 : Int32) &&& (1 : Int32))), .val (.int xx)] [(.int qq), (.ref b32), (.int ((1 : Int32) &&& (1 : Int32)))])) rfl (by rw [hml]; rfl) (Steps.refl _) (argsL := [(.int qq)]) (rest := [(.int ((1 : Int32) &&& (1 : Int32)))]) (lenOf pd__I_I rfl) rfl (by show 2 * 0 + _ ≤ _; exact Nat.le_of_eq rfl) (hb hby at_234) (fun _ _ => ⟨rfl, e35, (by decide : 2 + 0 ≤ _), (by decide : 35 + 0 ≤ _)⟩)
    dsimp only [Pt.U, Pt.locs, Pt.cells, Pt.slots] at X36 l36 y36 z36 st36 hQ36
    subst l36 y36 z36
    obtain ⟨i36, rfl, N36q, e36, hi36, hs36⟩ := hQ36
    have N36 := Fr.app N35 N36q
    replace pre : Pth p e below S0 T36 (mkF m 237 #[.val (.int ctl), .val (.int t1), .val (.int t2), .val (.int t3), .val (.int qq), .val (.long vv), .second, .val (.int nn), .val (.int sz), .val (.int pk), .val (.int v1), .val (.int v2), .val (.int v3), .val (.ref b32), .val (.int ((1 : Int32) &&& (1 : Int32))), .val (.int xx)] [(.int ((fun _ => 0) (2 * i36 + 1) - 1)), (.int ((1 : Int32) &&& (1 : Int32)))]) := fun t k => pre t (st36.trans k)
    replace pre : Pth p e below S0 T36 (mkF m 250 #[.val (.int ctl), .val (.int t1), .val (.int t2), .val (.int t3), .val (.int qq), .val (.long vv), .second, .val (.int nn), .val (.int sz), .val (.int pk), .val (.int v1), .val (.int v2), .val (.int v3), .val (.ref b32), .val (.int ((1 : Int32) &&& (1 : Int32))), .val (.int xx)] [(.int qq), (.int v3), (.int t3), (.int v2), (.int t2), (.int v1), (.int t1), (.int nn), (.int ((fun _ => 0) (2 * i36 + 1) - 1)), (.int ((1 : Int32) &&& (1 : Int32)))]) := fun t k => pre t (by
      show Steps p.tables e below (T36.setTop (mkF m 237 #[.val (.int ctl), .val (.int t1), .val (.int t2), .val (.int t3), .val (.int qq), .val (.long vv), .second, .val (.int nn), .val (.int sz), .val (.int pk), .val (.int v1), .val (.int v2), .val (.int v3), .val (.ref b32), .val (.int ((1 : Int32) &&& (1 : Int32))), .val (.int xx)] [(.int ((fun _ => 0) (2 * i36 + 1) - 1)), (.int ((1 : Int32) &&& (1 : Int32)))])) t
      refine XS.iload X36.here hx rfl (hb hby at_237) rfl ?_
      show Steps p.tables e below (T36.setTop (mkF m 239 #[.val (.int ctl), .val (.int t1), .val (.int t2), .val (.int t3), .val (.int qq), .val (.long vv), .second, .val (.int nn), .val (.int sz), .val (.int pk), .val (.int v1), .val (.int v2), .val (.int v3), .val (.ref b32), .val (.int ((1 : Int32) &&& (1 : Int32))), .val (.int xx)] [(.int nn), (.int ((fun _ => 0) (2 * i36 + 1) - 1)), (.int ((1 : Int32) &&& (1 : Int32)))])) t
      refine XS.iloadN X36.here hx rfl (hb hby at_239) rfl ?_
      show Steps p.tables e below (T36.setTop (mkF m 240 #[.val (.int ctl), .val (.int t1), .val (.int t2), .val (.int t3), .val (.int qq), .val (.long vv), .second, .val (.int nn), .val (.int sz), .val (.int pk), .val (.int v1), .val (.int v2), .val (.int v3), .val (.ref b32), .val (.int ((1 : Int32) &&& (1 : Int32))), .val (.int xx)] [(.int t1), (.int nn), (.int ((fun _ => 0) (2 * i36 + 1) - 1)), (.int ((1 : Int32) &&& (1 : Int32)))])) t
      refine XS.iload X36.here hx rfl (hb hby at_240) rfl ?_
      show Steps p.tables e below (T36.setTop (mkF m 242 #[.val (.int ctl), .val (.int t1), .val (.int t2), .val (.int t3), .val (.int qq), .val (.long vv), .second, .val (.int nn), .val (.int sz), .val (.int pk), .val (.int v1), .val (.int v2), .val (.int v3), .val (.ref b32), .val (.int ((1 : Int32) &&& (1 : Int32))), .val (.int xx)] [(.int v1), (.int t1), (.int nn), (.int ((fun _ => 0) (2 * i36 + 1) - 1)), (.int ((1 : Int32) &&& (1 : Int32)))])) t
      refine XS.iloadN X36.here hx rfl (hb hby at_242) rfl ?_
      show Steps p.tables e below (T36.setTop (mkF m 243 #[.val (.int ctl), .val (.int t1), .val (.int t2), .val (.int t3), .val (.int qq), .val (.long vv), .second, .val (.int nn), .val (.int sz), .val (.int pk), .val (.int v1), .val (.int v2), .val (.int v3), .val (.ref b32), .val (.int ((1 : Int32) &&& (1 : Int32))), .val (.int xx)] [(.int t2), (.int v1), (.int t1), (.int nn), (.int ((fun _ => 0) (2 * i36 + 1) - 1)), (.int ((1 : Int32) &&& (1 : Int32)))])) t
      refine XS.iload X36.here hx rfl (hb hby at_243) rfl ?_
      show Steps p.tables e below (T36.setTop (mkF m 245 #[.val (.int ctl), .val (.int t1), .val (.int t2), .val (.int t3), .val (.int qq), .val (.long vv), .second, .val (.int nn), .val (.int sz), .val (.int pk), .val (.int v1), .val (.int v2), .val (.int v3), .val (.ref b32), .val (.int ((1 : Int32) &&& (1 : Int32))), .val (.int xx)] [(.int v2), (.int t2), (.int v1), (.int t1), (.int nn), (.int ((fun _ => 0) (2 * i36 + 1) - 1)), (.int ((1 : Int32) &&& (1 : Int32)))])) t
      refine XS.iloadN X36.here hx rfl (hb hby at_245) rfl ?_
      show Steps p.tables e below (T36.setTop (mkF m 246 #[.val (.int ctl), .val (.int t1), .val (.int t2), .val (.int t3), .val (.int qq), .val (.long vv), .second, .val (.int nn), .val (.int sz), .val (.int pk), .val (.int v1), .val (.int v2), .val (.int v3), .val (.ref b32), .val (.int ((1 : Int32) &&& (1 : Int32))), .val (.int xx)] [(.int t3), (.int v2), (.int t2), (.int v1), (.int t1), (.int nn), (.int ((fun _ => 0) (2 * i36 + 1) - 1)), (.int ((1 : Int32) &&& (1 : Int32)))])) t
      refine XS.iload X36.here hx rfl (hb hby at_246) rfl ?_
      show Steps p.tables e below (T36.setTop (mkF m 248 #[.val (.int ctl), .val (.int t1), .val (.int t2), .val (.int t3), .val (.int qq), .val (.long vv), .second, .val (.int nn), .val (.int sz), .val (.int pk), .val (.int v1), .val (.int v2), .val (.int v3), .val (.ref b32), .val (.int ((1 : Int32) &&& (1 : Int32))), .val (.int xx)] [(.int v3), (.int t3), (.int v2), (.int t2), (.int v1), (.int t1), (.int nn), (.int ((fun _ => 0) (2 * i36 + 1) - 1)), (.int ((1 : Int32) &&& (1 : Int32)))])) t
      refine XS.iload X36.here hx rfl (hb hby at_248) rfl ?_
      show Steps p.tables e below (T36.setTop (mkF m 250 #[.val (.int ctl), .val (.int t1), .val (.int t2), .val (.int t3), .val (.int qq), .val (.long vv), .second, .val (.int nn), .val (.int sz), .val (.int pk), .val (.int v1), .val (.int v2), .val (.int v3), .val (.ref b32), .val (.int ((1 : Int32) &&& (1 : Int32))), .val (.int xx)] [(.int qq), (.int v3), (.int t3), (.int v2), (.int t2), (.int v1), (.int t1), (.int nn), (.int ((fun _ => 0) (2 * i36 + 1) - 1)), (.int ((1 : Int32) &&& (1 : Int32)))])) t
      exact k)
    obtain ⟨_, _, ⟨T37, L37, k37, n37⟩, -, X37, ⟨Lc37, hQ37, l37, y37, z37⟩, st37⟩ := Jvm.LawKit.callS X36 hx (y := (⟨"com/example/tagwire/tagwire/dictionary/TagTableGetPinLaw", "expected", "(IIIIIIII)I"⟩ : MethodName)) hown (mvT hZ (hw _ (List.mem_of_getElem? (i := 38) rfl))) (mvT hZ (hw _ (List.mem_of_getElem? (i := 39) rfl))) (mvT hZ (hw _ (List.mem_of_getElem? (i := 40) rfl))) (mvT hZ (hw _ (List.mem_of_getElem? (i := 41) rfl))) (by decide) (backOf (W := 2) (rm_exp l Z a0 hw [] nn t1 v1 t2 v2 t3 v3 qq _ n0) hZ (hw _ (List.mem_of_getElem? (i := 41) rfl)) (hw _ (List.mem_of_getElem? (i := 40) rfl)) (by decide) (by decide)) (g := (mkF m 250 #[.val (.int ctl), .val (.int t1), .val (.int t2), .val (.int t3), .val (.int qq), .val (.long vv), .second, .val (.int nn), .val (.int sz), .val (.int pk), .val (.int v1), .val (.int v2), .val (.int v3), .val (.ref b32), .val (.int ((1 : Int32) &&& (1 : Int32))), .val (.int xx)] [(.int qq), (.int v3), (.int t3), (.int v2), (.int t2), (.int v1), (.int t1), (.int nn), (.int ((fun _ => 0) (2 * i36 + 1) - 1)), (.int ((1 : Int32) &&& (1 : Int32)))])) rfl (by rw [hml]; rfl) (argsL := [(.int nn), (.int t1), (.int v1), (.int t2), (.int v2), (.int t3), (.int v3), (.int qq)]) (rest := [(.int ((fun _ => 0) (2 * i36 + 1) - 1)), (.int ((1 : Int32) &&& (1 : Int32)))]) (lenOf pd__IIIIIIII_I rfl) rfl (by show 2 * 0 + _ ≤ _; exact Nat.le_of_eq rfl) (hb hby at_250) (fun _ _ => ⟨rfl, e36, (by decide : 2 + 0 ≤ _), (by decide : 35 + 0 ≤ _)⟩)
    dsimp only [Pt.U, Pt.locs, Pt.cells, Pt.slots] at X37 l37 y37 z37 st37 hQ37
    subst l37 y37 z37
    obtain ⟨rfl, N37q, e37⟩ := hQ37
    have N37 := Fr.app N36 N37q
    replace pre : Pth p e below S0 T37 (mkF m 253 #[.val (.int ctl), .val (.int t1), .val (.int t2), .val (.int t3), .val (.int qq), .val (.long vv), .second, .val (.int nn), .val (.int sz), .val (.int pk), .val (.int v1), .val (.int v2), .val (.int v3), .val (.ref b32), .val (.int ((1 : Int32) &&& (1 : Int32))), .val (.int xx)] [(.int (own_exp nn t1 v1 t2 v2 t3 v3 qq)), (.int ((fun _ => 0) (2 * i36 + 1) - 1)), (.int ((1 : Int32) &&& (1 : Int32)))]) := fun t k => pre t (st37 _ k)
    replace pre : Pth p e below S0 T37 (mkF m 266 #[.val (.int ctl), .val (.int t1), .val (.int t2), .val (.int t3), .val (.int qq), .val (.long vv), .second, .val (.int nn), .val (.int sz), .val (.int pk), .val (.int v1), .val (.int v2), .val (.int v3), .val (.ref b32), .val (.int (((1 : Int32) &&& (1 : Int32)) &&& (1 : Int32))), .val (.int xx)] [(.int (((1 : Int32) &&& (1 : Int32)) &&& (1 : Int32)))]) := fun t k => pre t (by
      show Steps p.tables e below (T37.setTop (mkF m 253 #[.val (.int ctl), .val (.int t1), .val (.int t2), .val (.int t3), .val (.int qq), .val (.long vv), .second, .val (.int nn), .val (.int sz), .val (.int pk), .val (.int v1), .val (.int v2), .val (.int v3), .val (.ref b32), .val (.int ((1 : Int32) &&& (1 : Int32))), .val (.int xx)] [(.int (own_exp nn t1 v1 t2 v2 t3 v3 qq)), (.int ((fun _ => 0) (2 * i36 + 1) - 1)), (.int ((1 : Int32) &&& (1 : Int32)))])) t
      refine XS.icmpNo X37.here hx rfl (hb hby at_253) rfl (XT.ii_ne_f (by rw [tb0.2.2 _ _ hi36 hs36]; exact own_g0 n1 (own_lt2 n1) (own_lt3 (own_lt2 n1)))) ?_
      show Steps p.tables e below (T37.setTop (mkF m 256 #[.val (.int ctl), .val (.int t1), .val (.int t2), .val (.int t3), .val (.int qq), .val (.long vv), .second, .val (.int nn), .val (.int sz), .val (.int pk), .val (.int v1), .val (.int v2), .val (.int v3), .val (.ref b32), .val (.int ((1 : Int32) &&& (1 : Int32))), .val (.int xx)] [(.int ((1 : Int32) &&& (1 : Int32)))])) t
      refine XS.iconst X37.here hx rfl (hb hby at_256) ?_
      show Steps p.tables e below (T37.setTop (mkF m 257 #[.val (.int ctl), .val (.int t1), .val (.int t2), .val (.int t3), .val (.int qq), .val (.long vv), .second, .val (.int nn), .val (.int sz), .val (.int pk), .val (.int v1), .val (.int v2), .val (.int v3), .val (.ref b32), .val (.int ((1 : Int32) &&& (1 : Int32))), .val (.int xx)] [(.int (1 : Int32)), (.int ((1 : Int32) &&& (1 : Int32)))])) t
      refine XS.goto X37.here hx rfl (pc0 := 257) (pc' := 261) rfl (hb hby at_257) (by decide) (by decide) ?_
      show Steps p.tables e below (T37.setTop (mkF m 261 #[.val (.int ctl), .val (.int t1), .val (.int t2), .val (.int t3), .val (.int qq), .val (.long vv), .second, .val (.int nn), .val (.int sz), .val (.int pk), .val (.int v1), .val (.int v2), .val (.int v3), .val (.ref b32), .val (.int ((1 : Int32) &&& (1 : Int32))), .val (.int xx)] [(.int (1 : Int32)), (.int ((1 : Int32) &&& (1 : Int32)))])) t
      refine XS.iand X37.here hx rfl (hb hby at_261) rfl ?_
      show Steps p.tables e below (T37.setTop (mkF m 262 #[.val (.int ctl), .val (.int t1), .val (.int t2), .val (.int t3), .val (.int qq), .val (.long vv), .second, .val (.int nn), .val (.int sz), .val (.int pk), .val (.int v1), .val (.int v2), .val (.int v3), .val (.ref b32), .val (.int ((1 : Int32) &&& (1 : Int32))), .val (.int xx)] [(.int (((1 : Int32) &&& (1 : Int32)) &&& (1 : Int32)))])) t
      refine XS.istore X37.here hx rfl (hb hby at_262) rfl (l' := #[.val (.int ctl), .val (.int t1), .val (.int t2), .val (.int t3), .val (.int qq), .val (.long vv), .second, .val (.int nn), .val (.int sz), .val (.int pk), .val (.int v1), .val (.int v2), .val (.int v3), .val (.ref b32), .val (.int (((1 : Int32) &&& (1 : Int32)) &&& (1 : Int32))), .val (.int xx)]) rfl ?_
      show Steps p.tables e below (T37.setTop (mkF m 264 #[.val (.int ctl), .val (.int t1), .val (.int t2), .val (.int t3), .val (.int qq), .val (.long vv), .second, .val (.int nn), .val (.int sz), .val (.int pk), .val (.int v1), .val (.int v2), .val (.int v3), .val (.ref b32), .val (.int (((1 : Int32) &&& (1 : Int32)) &&& (1 : Int32))), .val (.int xx)] [])) t
      refine XS.iload X37.here hx rfl (hb hby at_264) rfl ?_
      show Steps p.tables e below (T37.setTop (mkF m 266 #[.val (.int ctl), .val (.int t1), .val (.int t2), .val (.int t3), .val (.int qq), .val (.long vv), .second, .val (.int nn), .val (.int sz), .val (.int pk), .val (.int v1), .val (.int v2), .val (.int v3), .val (.ref b32), .val (.int (((1 : Int32) &&& (1 : Int32)) &&& (1 : Int32))), .val (.int xx)] [(.int (((1 : Int32) &&& (1 : Int32)) &&& (1 : Int32)))])) t
      exact k)
    obtain ⟨fs, hr, hrun, hended, hW, hsame⟩ := X37.leave (v := some (.int (nar .boolean (((1 : Int32) &&& (1 : Int32)) &&& (1 : Int32))))) (fun h => by rw [Bd.returns] at h; cases h)
    subst hS0
    refine ⟨_, _, pre _ ?_, hrun, hended, _, _, rfl, ?_, ⟨_, rfl⟩, hW, hsame.mono (by decide) (by decide)⟩
    · exact retN X37 hx (t := .boolean) Bd.returns (by simp) (hb hby at_266) hr
    · show Q_law Z ctl t1 t2 t3 qq vv h0 n0 _ T37.heap _
      rw [e37]
      exact ⟨by decide, N37⟩
  · replace pre : Pth p e below S0 T33 (mkF m 67 #[.val (.int ctl), .val (.int t1), .val (.int t2), .val (.int t3), .val (.int qq), .val (.long vv), .second, .val (.int nn), .val (.int sz), .val (.int pk), .val (.int v1), .val (.int v2), .val (.int v3), .val (.ref b32), .val (.int (1 : Int32)), .unset] []) := fun t k => pre t (by
      show Steps p.tables e below (T33.setTop (mkF m 64 #[.val (.int ctl), .val (.int t1), .val (.int t2), .val (.int t3), .val (.int qq), .val (.long vv), .second, .val (.int nn), .val (.int sz), .val (.int pk), .val (.int v1), .val (.int v2), .val (.int v3), .val (.ref b32), .val (.int (1 : Int32)), .unset] [(.int (1 : Int32)), (.int nn)])) t
      refine XS.icmpNo X33.here hx rfl (hb hby at_64) rfl (XT.ii_lt_f n1) ?_
      show Steps p.tables e below (T33.setTop (mkF m 67 #[.val (.int ctl), .val (.int t1), .val (.int t2), .val (.int t3), .val (.int qq), .val (.long vv), .second, .val (.int nn), .val (.int sz), .val (.int pk), .val (.int v1), .val (.int v2), .val (.int v3), .val (.ref b32), .val (.int (1 : Int32)), .unset] [])) t
      exact k)
    have nz1 : 1 ≤ nn.toInt := own_ge1 n1
    replace pre : Pth p e below S0 T33 (mkF m 74 #[.val (.int ctl), .val (.int t1), .val (.int t2), .val (.int t3), .val (.int qq), .val (.long vv), .second, .val (.int nn), .val (.int sz), .val (.int pk), .val (.int v1), .val (.int v2), .val (.int v3), .val (.ref b32), .val (.int (1 : Int32)), .unset] [(.int v1), (.int t1), (.ref b32), (.int (1 : Int32))]) := fun t k => pre t (by
      show Steps p.tables e below (T33.setTop (mkF m 67 #[.val (.int ctl), .val (.int t1), .val (.int t2), .val (.int t3), .val (.int qq), .val (.long vv), .second, .val (.int nn), .val (.int sz), .val (.int pk), .val (.int v1), .val (.int v2), .val (.int v3), .val (.ref b32), .val (.int (1 : Int32)), .unset] [])) t
      refine XS.iload X33.here hx rfl (hb hby at_67) rfl ?_
      show Steps p.tables e below (T33.setTop (mkF m 69 #[.val (.int ctl), .val (.int t1), .val (.int t2), .val (.int t3), .val (.int qq), .val (.long vv), .second, .val (.int nn), .val (.int sz), .val (.int pk), .val (.int v1), .val (.int v2), .val (.int v3), .val (.ref b32), .val (.int (1 : Int32)), .unset] [(.int (1 : Int32))])) t
      refine XS.aload X33.here hx rfl (hb hby at_69) rfl rfl ?_
      show Steps p.tables e below (T33.setTop (mkF m 71 #[.val (.int ctl), .val (.int t1), .val (.int t2), .val (.int t3), .val (.int qq), .val (.long vv), .second, .val (.int nn), .val (.int sz), .val (.int pk), .val (.int v1), .val (.int v2), .val (.int v3), .val (.ref b32), .val (.int (1 : Int32)), .unset] [(.ref b32), (.int (1 : Int32))])) t
      refine XS.iloadN X33.here hx rfl (hb hby at_71) rfl ?_
      show Steps p.tables e below (T33.setTop (mkF m 72 #[.val (.int ctl), .val (.int t1), .val (.int t2), .val (.int t3), .val (.int qq), .val (.long vv), .second, .val (.int nn), .val (.int sz), .val (.int pk), .val (.int v1), .val (.int v2), .val (.int v3), .val (.ref b32), .val (.int (1 : Int32)), .unset] [(.int t1), (.ref b32), (.int (1 : Int32))])) t
      refine XS.iload X33.here hx rfl (hb hby at_72) rfl ?_
      show Steps p.tables e below (T33.setTop (mkF m 74 #[.val (.int ctl), .val (.int t1), .val (.int t2), .val (.int t3), .val (.int qq), .val (.long vv), .second, .val (.int nn), .val (.int sz), .val (.int pk), .val (.int v1), .val (.int v2), .val (.int v3), .val (.ref b32), .val (.int (1 : Int32)), .unset] [(.int v1), (.int t1), (.ref b32), (.int (1 : Int32))])) t
      exact k)
    obtain ⟨cq38, kq38, q38a, q38b, q38c⟩ := isOf hZ rfl hT33.2.2.2.1
    obtain ⟨_, _, ⟨T38, L38, k38, n38⟩, -, X38, ⟨Lc38, hQ38, l38, y38, z38⟩, st38⟩ := X33.virtualBack hx (y := (⟨"com/example/tagwire/tagwire/dictionary/TagTable", "put", "(II)Z"⟩ : MethodName)) (z := (⟨"com/example/tagwire/tagwire/dictionary/TagTable", "put", "(II)Z"⟩ : MethodName)) hown (mvT hZ (hw _ (List.mem_of_getElem? (i := 42) rfl))) (mvT hZ (hw _ (List.mem_of_getElem? (i := 43) rfl))) (notFace_of_selects (args := #[]) (mvT hZ (hw _ (List.mem_of_getElem? (i := 45) rfl)))) (mvT hZ (hw _ (List.mem_of_getElem? (i := 45) rfl))) (mvT hZ (hw _ (List.mem_of_getElem? (i := 44) rfl))) (by decide) (backOf (W := 1) (rm_put l Z a0 hw [] b32 t1 v1 r sz 0 C (fun _ => 0) _ n0 gb gr hT33 (OOcc.ex tb0.1 (by omega : 0 < C)) (fun q => by have q' := congrArg Int32.toInt q; have z : (0 : Int32).toInt = 0 := rfl; omega)) hZ (hw _ (List.mem_of_getElem? (i := 46) rfl)) (hw _ (List.mem_of_getElem? (i := 3) rfl)) (by decide) (by decide)) q38a q38c (g := (mkF m 74 #[.val (.int ctl), .val (.int t1), .val (.int t2), .val (.int t3), .val (.int qq), .val (.long vv), .second, .val (.int nn), .val (.int sz), .val (.int pk), .val (.int v1), .val (.int v2), .val (.int v3), .val (.ref b32), .val (.int (1 : Int32)), .unset] [(.int v1), (.int t1), (.ref b32), (.int (1 : Int32))])) rfl (by rw [hml]; rfl) (Steps.refl _) (argsL := [(.int t1), (.int v1)]) (rest := [(.int (1 : Int32))]) (lenOf pd__II_Z rfl) rfl (by show 2 * 0 + _ ≤ _; exact Nat.le_of_eq rfl) (hb hby at_74) (fun _ _ => ⟨rfl, rfl, (by decide : 2 + 0 ≤ _), (by decide : 35 + 0 ≤ _)⟩)
    dsimp only [Pt.U, Pt.locs, Pt.cells, Pt.slots] at X38 l38 y38 z38 st38 hQ38
    subst l38 y38 z38
    obtain ⟨rr1, cn1, f1, rfl, N38q, hs38, hT1, hp1, hcn1⟩ := hQ38
    have N38 := Fr.app N33 N38q
    replace pre : Pth p e below S0 T38 (mkF m 77 #[.val (.int ctl), .val (.int t1), .val (.int t2), .val (.int t3), .val (.int qq), .val (.long vv), .second, .val (.int nn), .val (.int sz), .val (.int pk), .val (.int v1), .val (.int v2), .val (.int v3), .val (.ref b32), .val (.int (1 : Int32)), .unset] [(.int rr1), (.int (1 : Int32))]) := fun t k => pre t (st38.trans k)
    obtain ⟨hr1, tb1⟩ := own_put hH tb0 (by omega : 0 < C) w1 hp1
    have hc1 := own_cc1 hcn1
    rw [hr1, if_pos rfl] at pre
    replace pre : Pth p e below S0 T38 (mkF m 83 #[.val (.int ctl), .val (.int t1), .val (.int t2), .val (.int t3), .val (.int qq), .val (.long vv), .second, .val (.int nn), .val (.int sz), .val (.int pk), .val (.int v1), .val (.int v2), .val (.int v3), .val (.ref b32), .val (.int ((1 : Int32) &&& (1 : Int32))), .unset] [(.int (2 : Int32)), (.int nn)]) := fun t k => pre t (by
      show Steps p.tables e below (T38.setTop (mkF m 77 #[.val (.int ctl), .val (.int t1), .val (.int t2), .val (.int t3), .val (.int qq), .val (.long vv), .second, .val (.int nn), .val (.int sz), .val (.int pk), .val (.int v1), .val (.int v2), .val (.int v3), .val (.ref b32), .val (.int (1 : Int32)), .unset] [(.int (1 : Int32)), (.int (1 : Int32))])) t
      refine XS.iand X38.here hx rfl (hb hby at_77) rfl ?_
      show Steps p.tables e below (T38.setTop (mkF m 78 #[.val (.int ctl), .val (.int t1), .val (.int t2), .val (.int t3), .val (.int qq), .val (.long vv), .second, .val (.int nn), .val (.int sz), .val (.int pk), .val (.int v1), .val (.int v2), .val (.int v3), .val (.ref b32), .val (.int (1 : Int32)), .unset] [(.int ((1 : Int32) &&& (1 : Int32)))])) t
      refine XS.istore X38.here hx rfl (hb hby at_78) rfl (l' := #[.val (.int ctl), .val (.int t1), .val (.int t2), .val (.int t3), .val (.int qq), .val (.long vv), .second, .val (.int nn), .val (.int sz), .val (.int pk), .val (.int v1), .val (.int v2), .val (.int v3), .val (.ref b32), .val (.int ((1 : Int32) &&& (1 : Int32))), .unset]) rfl ?_
      show Steps p.tables e below (T38.setTop (mkF m 80 #[.val (.int ctl), .val (.int t1), .val (.int t2), .val (.int t3), .val (.int qq), .val (.long vv), .second, .val (.int nn), .val (.int sz), .val (.int pk), .val (.int v1), .val (.int v2), .val (.int v3), .val (.ref b32), .val (.int ((1 : Int32) &&& (1 : Int32))), .unset] [])) t
      refine XS.iload X38.here hx rfl (hb hby at_80) rfl ?_
      show Steps p.tables e below (T38.setTop (mkF m 82 #[.val (.int ctl), .val (.int t1), .val (.int t2), .val (.int t3), .val (.int qq), .val (.long vv), .second, .val (.int nn), .val (.int sz), .val (.int pk), .val (.int v1), .val (.int v2), .val (.int v3), .val (.ref b32), .val (.int ((1 : Int32) &&& (1 : Int32))), .unset] [(.int nn)])) t
      refine XS.iconst X38.here hx rfl (hb hby at_82) ?_
      show Steps p.tables e below (T38.setTop (mkF m 83 #[.val (.int ctl), .val (.int t1), .val (.int t2), .val (.int t3), .val (.int qq), .val (.long vv), .second, .val (.int nn), .val (.int sz), .val (.int pk), .val (.int v1), .val (.int v2), .val (.int v3), .val (.ref b32), .val (.int ((1 : Int32) &&& (1 : Int32))), .unset] [(.int (2 : Int32)), (.int nn)])) t
      exact k)
    by_cases n2 : nn < (2 : Int32)
    · replace pre : Pth p e below S0 T38 (mkF m 159 #[.val (.int ctl), .val (.int t1), .val (.int t2), .val (.int t3), .val (.int qq), .val (.long vv), .second, .val (.int nn), .val (.int sz), .val (.int pk), .val (.int v1), .val (.int v2), .val (.int v3), .val (.ref b32), .val (.int ((1 : Int32) &&& (1 : Int32))), .unset] []) := fun t k => pre t (by
        show Steps p.tables e below (T38.setTop (mkF m 83 #[.val (.int ctl), .val (.int t1), .val (.int t2), .val (.int t3), .val (.int qq), .val (.long vv), .second, .val (.int nn), .val (.int sz), .val (.int pk), .val (.int v1), .val (.int v2), .val (.int v3), .val (.ref b32), .val (.int ((1 : Int32) &&& (1 : Int32))), .unset] [(.int (2 : Int32)), (.int nn)])) t
        refine XS.icmpYes X38.here hx rfl (pc0 := 83) (pc' := 117) rfl (hb hby at_83) rfl (XT.ii_lt_t n2) (by decide) (by decide) ?_
        show Steps p.tables e below (T38.setTop (mkF m 117 #[.val (.int ctl), .val (.int t1), .val (.int t2), .val (.int t3), .val (.int qq), .val (.long vv), .second, .val (.int nn), .val (.int sz), .val (.int pk), .val (.int v1), .val (.int v2), .val (.int v3), .val (.ref b32), .val (.int ((1 : Int32) &&& (1 : Int32))), .unset] [])) t
        refine XS.iload X38.here hx rfl (hb hby at_117) rfl ?_
        show Steps p.tables e below (T38.setTop (mkF m 119 #[.val (.int ctl), .val (.int t1), .val (.int t2), .val (.int t3), .val (.int qq), .val (.long vv), .second, .val (.int nn), .val (.int sz), .val (.int pk), .val (.int v1), .val (.int v2), .val (.int v3), .val (.ref b32), .val (.int ((1 : Int32) &&& (1 : Int32))), .unset] [(.int nn)])) t
        refine XS.iconst X38.here hx rfl (hb hby at_119) ?_
        show Steps p.tables e below (T38.setTop (mkF m 120 #[.val (.int ctl), .val (.int t1), .val (.int t2), .val (.int t3), .val (.int qq), .val (.long vv), .second, .val (.int nn), .val (.int sz), .val (.int pk), .val (.int v1), .val (.int v2), .val (.int v3), .val (.ref b32), .val (.int ((1 : Int32) &&& (1 : Int32))), .unset] [(.int (3 : Int32)), (.int nn)])) t
        refine XS.icmpYes X38.here hx rfl (pc0 := 120) (pc' := 159) rfl (hb hby at_120) rfl (XT.ii_lt_t (own_lt3 n2)) (by decide) (by decide) ?_
        show Steps p.tables e below (T38.setTop (mkF m 159 #[.val (.int ctl), .val (.int t1), .val (.int t2), .val (.int t3), .val (.int qq), .val (.long vv), .second, .val (.int nn), .val (.int sz), .val (.int pk), .val (.int v1), .val (.int v2), .val (.int v3), .val (.ref b32), .val (.int ((1 : Int32) &&& (1 : Int32))), .unset] [])) t
        exact k)
      have hexz := OOcc.ex tb1.1 (by omega : 1 < C)
      obtain ⟨xx, pre⟩ : ∃ xx : Int32, Pth p e below S0 T38 (mkF m 190 #[.val (.int ctl), .val (.int t1), .val (.int t2), .val (.int t3), .val (.int qq), .val (.long vv), .second, .val (.int nn), .val (.int sz), .val (.int pk), .val (.int v1), .val (.int v2), .val (.int v3), .val (.ref b32), .val (.int ((1 : Int32) &&& (1 : Int32))), .unset] [(.int xx)]) := by
        replace pre : Pth p e below S0 T38 (mkF m 161 #[.val (.int ctl), .val (.int t1), .val (.int t2), .val (.int t3), .val (.int qq), .val (.long vv), .second, .val (.int nn), .val (.int sz), .val (.int pk), .val (.int v1), .val (.int v2), .val (.int v3), .val (.ref b32), .val (.int ((1 : Int32) &&& (1 : Int32))), .unset] [(.int pk)]) := fun t k => pre t (by
          show Steps p.tables e below (T38.setTop (mkF m 159 #[.val (.int ctl), .val (.int t1), .val (.int t2), .val (.int t3), .val (.int qq), .val (.long vv), .second, .val (.int nn), .val (.int sz), .val (.int pk), .val (.int v1), .val (.int v2), .val (.int v3), .val (.ref b32), .val (.int ((1 : Int32) &&& (1 : Int32))), .unset] [])) t
          refine XS.iload X38.here hx rfl (hb hby at_159) rfl ?_
          show Steps p.tables e below (T38.setTop (mkF m 161 #[.val (.int ctl), .val (.int t1), .val (.int t2), .val (.int t3), .val (.int qq), .val (.long vv), .second, .val (.int nn), .val (.int sz), .val (.int pk), .val (.int v1), .val (.int v2), .val (.int v3), .val (.ref b32), .val (.int ((1 : Int32) &&& (1 : Int32))), .unset] [(.int pk)])) t
          exact k)
        by_cases p0 : pk = (0 : Int32)
        · replace pre : Pth p e below S0 T38 (mkF m 190 #[.val (.int ctl), .val (.int t1), .val (.int t2), .val (.int t3), .val (.int qq), .val (.long vv), .second, .val (.int nn), .val (.int sz), .val (.int pk), .val (.int v1), .val (.int v2), .val (.int v3), .val (.ref b32), .val (.int ((1 : Int32) &&& (1 : Int32))), .unset] [(.int t1)]) := fun t k => pre t (by
            show Steps p.tables e below (T38.setTop (mkF m 161 #[.val (.int ctl), .val (.int t1), .val (.int t2), .val (.int t3), .val (.int qq), .val (.long vv), .second, .val (.int nn), .val (.int sz), .val (.int pk), .val (.int v1), .val (.int v2), .val (.int v3), .val (.ref b32), .val (.int ((1 : Int32) &&& (1 : Int32))), .unset] [(.int pk)])) t
            refine XS.ifNo X38.here hx rfl (hb hby at_161) rfl (XT.i0_ne_f p0) ?_
            show Steps p.tables e below (T38.setTop (mkF m 164 #[.val (.int ctl), .val (.int t1), .val (.int t2), .val (.int t3), .val (.int qq), .val (.long vv), .second, .val (.int nn), .val (.int sz), .val (.int pk), .val (.int v1), .val (.int v2), .val (.int v3), .val (.ref b32), .val (.int ((1 : Int32) &&& (1 : Int32))), .unset] [])) t
            refine XS.iloadN X38.here hx rfl (hb hby at_164) rfl ?_
            show Steps p.tables e below (T38.setTop (mkF m 165 #[.val (.int ctl), .val (.int t1), .val (.int t2), .val (.int t3), .val (.int qq), .val (.long vv), .second, .val (.int nn), .val (.int sz), .val (.int pk), .val (.int v1), .val (.int v2), .val (.int v3), .val (.ref b32), .val (.int ((1 : Int32) &&& (1 : Int32))), .unset] [(.int t1)])) t
            refine XS.goto X38.here hx rfl (pc0 := 165) (pc' := 190) rfl (hb hby at_165) (by decide) (by decide) ?_
            show Steps p.tables e below (T38.setTop (mkF m 190 #[.val (.int ctl), .val (.int t1), .val (.int t2), .val (.int t3), .val (.int qq), .val (.long vv), .second, .val (.int nn), .val (.int sz), .val (.int pk), .val (.int v1), .val (.int v2), .val (.int v3), .val (.ref b32), .val (.int ((1 : Int32) &&& (1 : Int32))), .unset] [(.int t1)])) t
            exact k)
          exact ⟨_, pre⟩
        · replace pre : Pth p e below S0 T38 (mkF m 171 #[.val (.int ctl), .val (.int t1), .val (.int t2), .val (.int t3), .val (.int qq), .val (.long vv), .second, .val (.int nn), .val (.int sz), .val (.int pk), .val (.int v1), .val (.int v2), .val (.int v3), .val (.ref b32), .val (.int ((1 : Int32) &&& (1 : Int32))), .unset] [(.int (1 : Int32)), (.int pk)]) := fun t k => pre t (by
            show Steps p.tables e below (T38.setTop (mkF m 161 #[.val (.int ctl), .val (.int t1), .val (.int t2), .val (.int t3), .val (.int qq), .val (.long vv), .second, .val (.int nn), .val (.int sz), .val (.int pk), .val (.int v1), .val (.int v2), .val (.int v3), .val (.ref b32), .val (.int ((1 : Int32) &&& (1 : Int32))), .unset] [(.int pk)])) t
            refine XS.ifYes X38.here hx rfl (pc0 := 161) (pc' := 168) rfl (hb hby at_161) rfl (XT.i0_ne_t p0) (by decide) (by decide) ?_
            show Steps p.tables e below (T38.setTop (mkF m 168 #[.val (.int ctl), .val (.int t1), .val (.int t2), .val (.int t3), .val (.int qq), .val (.long vv), .second, .val (.int nn), .val (.int sz), .val (.int pk), .val (.int v1), .val (.int v2), .val (.int v3), .val (.ref b32), .val (.int ((1 : Int32) &&& (1 : Int32))), .unset] [])) t
            refine XS.iload X38.here hx rfl (hb hby at_168) rfl ?_
            show Steps p.tables e below (T38.setTop (mkF m 170 #[.val (.int ctl), .val (.int t1), .val (.int t2), .val (.int t3), .val (.int qq), .val (.long vv), .second, .val (.int nn), .val (.int sz), .val (.int pk), .val (.int v1), .val (.int v2), .val (.int v3), .val (.ref b32), .val (.int ((1 : Int32) &&& (1 : Int32))), .unset] [(.int pk)])) t
            refine XS.iconst X38.here hx rfl (hb hby at_170) ?_
            show Steps p.tables e below (T38.setTop (mkF m 171 #[.val (.int ctl), .val (.int t1), .val (.int t2), .val (.int t3), .val (.int qq), .val (.long vv), .second, .val (.int nn), .val (.int sz), .val (.int pk), .val (.int v1), .val (.int v2), .val (.int v3), .val (.ref b32), .val (.int ((1 : Int32) &&& (1 : Int32))), .unset] [(.int (1 : Int32)), (.int pk)])) t
            exact k)
          by_cases p1 : pk = (1 : Int32)
          · replace pre : Pth p e below S0 T38 (mkF m 190 #[.val (.int ctl), .val (.int t1), .val (.int t2), .val (.int t3), .val (.int qq), .val (.long vv), .second, .val (.int nn), .val (.int sz), .val (.int pk), .val (.int v1), .val (.int v2), .val (.int v3), .val (.ref b32), .val (.int ((1 : Int32) &&& (1 : Int32))), .unset] [(.int t2)]) := fun t k => pre t (by
              show Steps p.tables e below (T38.setTop (mkF m 171 #[.val (.int ctl), .val (.int t1), .val (.int t2), .val (.int t3), .val (.int qq), .val (.long vv), .second, .val (.int nn), .val (.int sz), .val (.int pk), .val (.int v1), .val (.int v2), .val (.int v3), .val (.ref b32), .val (.int ((1 : Int32) &&& (1 : Int32))), .unset] [(.int (1 : Int32)), (.int pk)])) t
              refine XS.icmpNo X38.here hx rfl (hb hby at_171) rfl (XT.ii_ne_f p1) ?_
              show Steps p.tables e below (T38.setTop (mkF m 174 #[.val (.int ctl), .val (.int t1), .val (.int t2), .val (.int t3), .val (.int qq), .val (.long vv), .second, .val (.int nn), .val (.int sz), .val (.int pk), .val (.int v1), .val (.int v2), .val (.int v3), .val (.ref b32), .val (.int ((1 : Int32) &&& (1 : Int32))), .unset] [])) t
              refine XS.iloadN X38.here hx rfl (hb hby at_174) rfl ?_
              show Steps p.tables e below (T38.setTop (mkF m 175 #[.val (.int ctl), .val (.int t1), .val (.int t2), .val (.int t3), .val (.int qq), .val (.long vv), .second, .val (.int nn), .val (.int sz), .val (.int pk), .val (.int v1), .val (.int v2), .val (.int v3), .val (.ref b32), .val (.int ((1 : Int32) &&& (1 : Int32))), .unset] [(.int t2)])) t
              refine XS.goto X38.here hx rfl (pc0 := 175) (pc' := 190) rfl (hb hby at_175) (by decide) (by decide) ?_
              show Steps p.tables e below (T38.setTop (mkF m 190 #[.val (.int ctl), .val (.int t1), .val (.int t2), .val (.int t3), .val (.int qq), .val (.long vv), .second, .val (.int nn), .val (.int sz), .val (.int pk), .val (.int v1), .val (.int v2), .val (.int v3), .val (.ref b32), .val (.int ((1 : Int32) &&& (1 : Int32))), .unset] [(.int t2)])) t
              exact k)
            exact ⟨_, pre⟩
          · replace pre : Pth p e below S0 T38 (mkF m 181 #[.val (.int ctl), .val (.int t1), .val (.int t2), .val (.int t3), .val (.int qq), .val (.long vv), .second, .val (.int nn), .val (.int sz), .val (.int pk), .val (.int v1), .val (.int v2), .val (.int v3), .val (.ref b32), .val (.int ((1 : Int32) &&& (1 : Int32))), .unset] [(.int (2 : Int32)), (.int pk)]) := fun t k => pre t (by
              show Steps p.tables e below (T38.setTop (mkF m 171 #[.val (.int ctl), .val (.int t1), .val (.int t2), .val (.int t3), .val (.int qq), .val (.long vv), .second, .val (.int nn), .val (.int sz), .val (.int pk), .val (.int v1), .val (.int v2), .val (.int v3), .val (.ref b32), .val (.int ((1 : Int32) &&& (1 : Int32))), .unset] [(.int (1 : Int32)), (.int pk)])) t
              refine XS.icmpYes X38.here hx rfl (pc0 := 171) (pc' := 178) rfl (hb hby at_171) rfl (XT.ii_ne_t p1) (by decide) (by decide) ?_
              show Steps p.tables e below (T38.setTop (mkF m 178 #[.val (.int ctl), .val (.int t1), .val (.int t2), .val (.int t3), .val (.int qq), .val (.long vv), .second, .val (.int nn), .val (.int sz), .val (.int pk), .val (.int v1), .val (.int v2), .val (.int v3), .val (.ref b32), .val (.int ((1 : Int32) &&& (1 : Int32))), .unset] [])) t
              refine XS.iload X38.here hx rfl (hb hby at_178) rfl ?_
              show Steps p.tables e below (T38.setTop (mkF m 180 #[.val (.int ctl), .val (.int t1), .val (.int t2), .val (.int t3), .val (.int qq), .val (.long vv), .second, .val (.int nn), .val (.int sz), .val (.int pk), .val (.int v1), .val (.int v2), .val (.int v3), .val (.ref b32), .val (.int ((1 : Int32) &&& (1 : Int32))), .unset] [(.int pk)])) t
              refine XS.iconst X38.here hx rfl (hb hby at_180) ?_
              show Steps p.tables e below (T38.setTop (mkF m 181 #[.val (.int ctl), .val (.int t1), .val (.int t2), .val (.int t3), .val (.int qq), .val (.long vv), .second, .val (.int nn), .val (.int sz), .val (.int pk), .val (.int v1), .val (.int v2), .val (.int v3), .val (.ref b32), .val (.int ((1 : Int32) &&& (1 : Int32))), .unset] [(.int (2 : Int32)), (.int pk)])) t
              exact k)
            by_cases p2 : pk = (2 : Int32)
            · replace pre : Pth p e below S0 T38 (mkF m 190 #[.val (.int ctl), .val (.int t1), .val (.int t2), .val (.int t3), .val (.int qq), .val (.long vv), .second, .val (.int nn), .val (.int sz), .val (.int pk), .val (.int v1), .val (.int v2), .val (.int v3), .val (.ref b32), .val (.int ((1 : Int32) &&& (1 : Int32))), .unset] [(.int t3)]) := fun t k => pre t (by
                show Steps p.tables e below (T38.setTop (mkF m 181 #[.val (.int ctl), .val (.int t1), .val (.int t2), .val (.int t3), .val (.int qq), .val (.long vv), .second, .val (.int nn), .val (.int sz), .val (.int pk), .val (.int v1), .val (.int v2), .val (.int v3), .val (.ref b32), .val (.int ((1 : Int32) &&& (1 : Int32))), .unset] [(.int (2 : Int32)), (.int pk)])) t
                refine XS.icmpNo X38.here hx rfl (hb hby at_181) rfl (XT.ii_ne_f p2) ?_
                show Steps p.tables e below (T38.setTop (mkF m 184 #[.val (.int ctl), .val (.int t1), .val (.int t2), .val (.int t3), .val (.int qq), .val (.long vv), .second, .val (.int nn), .val (.int sz), .val (.int pk), .val (.int v1), .val (.int v2), .val (.int v3), .val (.ref b32), .val (.int ((1 : Int32) &&& (1 : Int32))), .unset] [])) t
                refine XS.iloadN X38.here hx rfl (hb hby at_184) rfl ?_
                show Steps p.tables e below (T38.setTop (mkF m 185 #[.val (.int ctl), .val (.int t1), .val (.int t2), .val (.int t3), .val (.int qq), .val (.long vv), .second, .val (.int nn), .val (.int sz), .val (.int pk), .val (.int v1), .val (.int v2), .val (.int v3), .val (.ref b32), .val (.int ((1 : Int32) &&& (1 : Int32))), .unset] [(.int t3)])) t
                refine XS.goto X38.here hx rfl (pc0 := 185) (pc' := 190) rfl (hb hby at_185) (by decide) (by decide) ?_
                show Steps p.tables e below (T38.setTop (mkF m 190 #[.val (.int ctl), .val (.int t1), .val (.int t2), .val (.int t3), .val (.int qq), .val (.long vv), .second, .val (.int nn), .val (.int sz), .val (.int pk), .val (.int v1), .val (.int v2), .val (.int v3), .val (.ref b32), .val (.int ((1 : Int32) &&& (1 : Int32))), .unset] [(.int t3)])) t
                exact k)
              exact ⟨_, pre⟩
            · replace pre : Pth p e below S0 T38 (mkF m 190 #[.val (.int ctl), .val (.int t1), .val (.int t2), .val (.int t3), .val (.int qq), .val (.long vv), .second, .val (.int nn), .val (.int sz), .val (.int pk), .val (.int v1), .val (.int v2), .val (.int v3), .val (.ref b32), .val (.int ((1 : Int32) &&& (1 : Int32))), .unset] [(.int qq)]) := fun t k => pre t (by
                show Steps p.tables e below (T38.setTop (mkF m 181 #[.val (.int ctl), .val (.int t1), .val (.int t2), .val (.int t3), .val (.int qq), .val (.long vv), .second, .val (.int nn), .val (.int sz), .val (.int pk), .val (.int v1), .val (.int v2), .val (.int v3), .val (.ref b32), .val (.int ((1 : Int32) &&& (1 : Int32))), .unset] [(.int (2 : Int32)), (.int pk)])) t
                refine XS.icmpYes X38.here hx rfl (pc0 := 181) (pc' := 188) rfl (hb hby at_181) rfl (XT.ii_ne_t p2) (by decide) (by decide) ?_
                show Steps p.tables e below (T38.setTop (mkF m 188 #[.val (.int ctl), .val (.int t1), .val (.int t2), .val (.int t3), .val (.int qq), .val (.long vv), .second, .val (.int nn), .val (.int sz), .val (.int pk), .val (.int v1), .val (.int v2), .val (.int v3), .val (.ref b32), .val (.int ((1 : Int32) &&& (1 : Int32))), .unset] [])) t
                refine XS.iload X38.here hx rfl (hb hby at_188) rfl ?_
                show Steps p.tables e below (T38.setTop (mkF m 190 #[.val (.int ctl), .val (.int t1), .val (.int t2), .val (.int t3), .val (.int qq), .val (.long vv), .second, .val (.int nn), .val (.int sz), .val (.int pk), .val (.int v1), .val (.int v2), .val (.int v3), .val (.ref b32), .val (.int ((1 : Int32) &&& (1 : Int32))), .unset] [(.int qq)])) t
                exact k)
              exact ⟨_, pre⟩
      replace pre : Pth p e below S0 T38 (mkF m 198 #[.val (.int ctl), .val (.int t1), .val (.int t2), .val (.int t3), .val (.int qq), .val (.long vv), .second, .val (.int nn), .val (.int sz), .val (.int pk), .val (.int v1), .val (.int v2), .val (.int v3), .val (.ref b32), .val (.int ((1 : Int32) &&& (1 : Int32))), .val (.int xx)] [(.int xx), (.ref b32), (.int ((1 : Int32) &&& (1 : Int32)))]) := fun t k => pre t (by
        show Steps p.tables e below (T38.setTop (mkF m 190 #[.val (.int ctl), .val (.int t1), .val (.int t2), .val (.int t3), .val (.int qq), .val (.long vv), .second, .val (.int nn), .val (.int sz), .val (.int pk), .val (.int v1), .val (.int v2), .val (.int v3), .val (.ref b32), .val (.int ((1 : Int32) &&& (1 : Int32))), .unset] [(.int xx)])) t
        refine XS.istore X38.here hx rfl (hb hby at_190) rfl (l' := #[.val (.int ctl), .val (.int t1), .val (.int t2), .val (.int t3), .val (.int qq), .val (.long vv), .second, .val (.int nn), .val (.int sz), .val (.int pk), .val (.int v1), .val (.int v2), .val (.int v3), .val (.ref b32), .val (.int ((1 : Int32) &&& (1 : Int32))), .val (.int xx)]) rfl ?_
        show Steps p.tables e below (T38.setTop (mkF m 192 #[.val (.int ctl), .val (.int t1), .val (.int t2), .val (.int t3), .val (.int qq), .val (.long vv), .second, .val (.int nn), .val (.int sz), .val (.int pk), .val (.int v1), .val (.int v2), .val (.int v3), .val (.ref b32), .val (.int ((1 : Int32) &&& (1 : Int32))), .val (.int xx)] [])) t
        refine XS.iload X38.here hx rfl (hb hby at_192) rfl ?_
        show Steps p.tables e below (T38.setTop (mkF m 194 #[.val (.int ctl), .val (.int t1), .val (.int t2), .val (.int t3), .val (.int qq), .val (.long vv), .second, .val (.int nn), .val (.int sz), .val (.int pk), .val (.int v1), .val (.int v2), .val (.int v3), .val (.ref b32), .val (.int ((1 : Int32) &&& (1 : Int32))), .val (.int xx)] [(.int ((1 : Int32) &&& (1 : Int32)))])) t
        refine XS.aload X38.here hx rfl (hb hby at_194) rfl rfl ?_
        show Steps p.tables e below (T38.setTop (mkF m 196 #[.val (.int ctl), .val (.int t1), .val (.int t2), .val (.int t3), .val (.int qq), .val (.long vv), .second, .val (.int nn), .val (.int sz), .val (.int pk), .val (.int v1), .val (.int v2), .val (.int v3), .val (.ref b32), .val (.int ((1 : Int32) &&& (1 : Int32))), .val (.int xx)] [(.ref b32), (.int ((1 : Int32) &&& (1 : Int32)))])) t
        refine XS.iload X38.here hx rfl (hb hby at_196) rfl ?_
        show Steps p.tables e below (T38.setTop (mkF m 198 #[.val (.int ctl), .val (.int t1), .val (.int t2), .val (.int t3), .val (.int qq), .val (.long vv), .second, .val (.int nn), .val (.int sz), .val (.int pk), .val (.int v1), .val (.int v2), .val (.int v3), .val (.ref b32), .val (.int ((1 : Int32) &&& (1 : Int32))), .val (.int xx)] [(.int xx), (.ref b32), (.int ((1 : Int32) &&& (1 : Int32)))])) t
        exact k)
      obtain ⟨cq39, kq39, q39a, q39b, q39c⟩ := isOf hZ rfl hT1.2.2.2.1
      obtain ⟨_, _, ⟨T39, L39, k39, n39⟩, -, X39, ⟨Lc39, hQ39, l39, y39, z39⟩, st39⟩ := X38.virtualBack hx (y := (⟨"com/example/tagwire/tagwire/dictionary/TagTable", "get", "(I)I"⟩ : MethodName)) (z := (⟨"com/example/tagwire/tagwire/dictionary/TagTable", "get", "(I)I"⟩ : MethodName)) hown (mvT hZ (hw _ (List.mem_of_getElem? (i := 28) rfl))) (mvT hZ (hw _ (List.mem_of_getElem? (i := 29) rfl))) (notFace_of_selects (args := #[]) (mvT hZ (hw _ (List.mem_of_getElem? (i := 31) rfl)))) (mvT hZ (hw _ (List.mem_of_getElem? (i := 31) rfl))) (mvT hZ (hw _ (List.mem_of_getElem? (i := 30) rfl))) (by decide) (backOf (W := 1) (rm_get l Z a0 hw [] b32 xx r sz cn1 C f1 _ n0 hT1 hexz) hZ (hw _ (List.mem_of_getElem? (i := 32) rfl)) (hw _ (List.mem_of_getElem? (i := 3) rfl)) (by decide) (by decide)) q39a q39c (g := (mkF m 198 #[.val (.int ctl), .val (.int t1), .val (.int t2), .val (.int t3), .val (.int qq), .val (.long vv), .second, .val (.int nn), .val (.int sz), .val (.int pk), .val (.int v1), .val (.int v2), .val (.int v3), .val (.ref b32), .val (.int ((1 : Int32) &&& (1 : Int32))), .val (.int xx)] [(.int xx), (.ref b32), (.int ((1 : Int32) &&& (1 : Int32)))])) rfl (by rw [hml]; rfl) (Steps.refl _) (argsL := [(.int xx)]) (rest := [(.int ((1 : Int32) &&& (1 : Int32)))]) (lenOf pd__I_I rfl) rfl (by show 2 * 0 + _ ≤ _; exact Nat.le_of_eq rfl) (hb hby at_198) (fun _ _ => ⟨rfl, rfl, (by decide : 2 + 0 ≤ _), (by decide : 35 + 0 ≤ _)⟩)
      dsimp only [Pt.U, Pt.locs, Pt.cells, Pt.slots] at X39 l39 y39 z39 st39 hQ39
      subst l39 y39 z39
      obtain ⟨i39, rfl, N39q, e39, hi39, hs39⟩ := hQ39
      have N39 := Fr.app N38 N39q
      replace pre : Pth p e below S0 T39 (mkF m 201 #[.val (.int ctl), .val (.int t1), .val (.int t2), .val (.int t3), .val (.int qq), .val (.long vv), .second, .val (.int nn), .val (.int sz), .val (.int pk), .val (.int v1), .val (.int v2), .val (.int v3), .val (.ref b32), .val (.int ((1 : Int32) &&& (1 : Int32))), .val (.int xx)] [(.int (f1 (2 * i39 + 1) - 1)), (.int ((1 : Int32) &&& (1 : Int32)))]) := fun t k => pre t (st39.trans k)
      replace pre : Pth p e below S0 T39 (mkF m 214 #[.val (.int ctl), .val (.int t1), .val (.int t2), .val (.int t3), .val (.int qq), .val (.long vv), .second, .val (.int nn), .val (.int sz), .val (.int pk), .val (.int v1), .val (.int v2), .val (.int v3), .val (.ref b32), .val (.int ((1 : Int32) &&& (1 : Int32))), .val (.int xx)] [(.int xx), (.int v3), (.int t3), (.int v2), (.int t2), (.int v1), (.int t1), (.int nn), (.int (f1 (2 * i39 + 1) - 1)), (.int ((1 : Int32) &&& (1 : Int32)))]) := fun t k => pre t (by
        show Steps p.tables e below (T39.setTop (mkF m 201 #[.val (.int ctl), .val (.int t1), .val (.int t2), .val (.int t3), .val (.int qq), .val (.long vv), .second, .val (.int nn), .val (.int sz), .val (.int pk), .val (.int v1), .val (.int v2), .val (.int v3), .val (.ref b32), .val (.int ((1 : Int32) &&& (1 : Int32))), .val (.int xx)] [(.int (f1 (2 * i39 + 1) - 1)), (.int ((1 : Int32) &&& (1 : Int32)))])) t
        refine XS.iload X39.here hx rfl (hb hby at_201) rfl ?_
        show Steps p.tables e below (T39.setTop (mkF m 203 #[.val (.int ctl), .val (.int t1), .val (.int t2), .val (.int t3), .val (.int qq), .val (.long vv), .second, .val (.int nn), .val (.int sz), .val (.int pk), .val (.int v1), .val (.int v2), .val (.int v3), .val (.ref b32), .val (.int ((1 : Int32) &&& (1 : Int32))), .val (.int xx)] [(.int nn), (.int (f1 (2 * i39 + 1) - 1)), (.int ((1 : Int32) &&& (1 : Int32)))])) t
        refine XS.iloadN X39.here hx rfl (hb hby at_203) rfl ?_
        show Steps p.tables e below (T39.setTop (mkF m 204 #[.val (.int ctl), .val (.int t1), .val (.int t2), .val (.int t3), .val (.int qq), .val (.long vv), .second, .val (.int nn), .val (.int sz), .val (.int pk), .val (.int v1), .val (.int v2), .val (.int v3), .val (.ref b32), .val (.int ((1 : Int32) &&& (1 : Int32))), .val (.int xx)] [(.int t1), (.int nn), (.int (f1 (2 * i39 + 1) - 1)), (.int ((1 : Int32) &&& (1 : Int32)))])) t
        refine XS.iload X39.here hx rfl (hb hby at_204) rfl ?_
        show Steps p.tables e below (T39.setTop (mkF m 206 #[.val (.int ctl), .val (.int t1), .val (.int t2), .val (.int t3), .val (.int qq), .val (.long vv), .second, .val (.int nn), .val (.int sz), .val (.int pk), .val (.int v1), .val (.int v2), .val (.int v3), .val (.ref b32), .val (.int ((1 : Int32) &&& (1 : Int32))), .val (.int xx)] [(.int v1), (.int t1), (.int nn), (.int (f1 (2 * i39 + 1) - 1)), (.int ((1 : Int32) &&& (1 : Int32)))])) t
        refine XS.iloadN X39.here hx rfl (hb hby at_206) rfl ?_
        show Steps p.tables e below (T39.setTop (mkF m 207 #[.val (.int ctl), .val (.int t1), .val (.int t2), .val (.int t3), .val (.int qq), .val (.long vv), .second, .val (.int nn), .val (.int sz), .val (.int pk), .val (.int v1), .val (.int v2), .val (.int v3), .val (.ref b32), .val (.int ((1 : Int32) &&& (1 : Int32))), .val (.int xx)] [(.int t2), (.int v1), (.int t1), (.int nn), (.int (f1 (2 * i39 + 1) - 1)), (.int ((1 : Int32) &&& (1 : Int32)))])) t
        refine XS.iload X39.here hx rfl (hb hby at_207) rfl ?_
        show Steps p.tables e below (T39.setTop (mkF m 209 #[.val (.int ctl), .val (.int t1), .val (.int t2), .val (.int t3), .val (.int qq), .val (.long vv), .second, .val (.int nn), .val (.int sz), .val (.int pk), .val (.int v1), .val (.int v2), .val (.int v3), .val (.ref b32), .val (.int ((1 : Int32) &&& (1 : Int32))), .val (.int xx)] [(.int v2), (.int t2), (.int v1), (.int t1), (.int nn), (.int (f1 (2 * i39 + 1) - 1)), (.int ((1 : Int32) &&& (1 : Int32)))])) t
        refine XS.iloadN X39.here hx rfl (hb hby at_209) rfl ?_
        show Steps p.tables e below (T39.setTop (mkF m 210 #[.val (.int ctl), .val (.int t1), .val (.int t2), .val (.int t3), .val (.int qq), .val (.long vv), .second, .val (.int nn), .val (.int sz), .val (.int pk), .val (.int v1), .val (.int v2), .val (.int v3), .val (.ref b32), .val (.int ((1 : Int32) &&& (1 : Int32))), .val (.int xx)] [(.int t3), (.int v2), (.int t2), (.int v1), (.int t1), (.int nn), (.int (f1 (2 * i39 + 1) - 1)), (.int ((1 : Int32) &&& (1 : Int32)))])) t
        refine XS.iload X39.here hx rfl (hb hby at_210) rfl ?_
        show Steps p.tables e below (T39.setTop (mkF m 212 #[.val (.int ctl), .val (.int t1), .val (.int t2), .val (.int t3), .val (.int qq), .val (.long vv), .second, .val (.int nn), .val (.int sz), .val (.int pk), .val (.int v1), .val (.int v2), .val (.int v3), .val (.ref b32), .val (.int ((1 : Int32) &&& (1 : Int32))), .val (.int xx)] [(.int v3), (.int t3), (.int v2), (.int t2), (.int v1), (.int t1), (.int nn), (.int (f1 (2 * i39 + 1) - 1)), (.int ((1 : Int32) &&& (1 : Int32)))])) t
        refine XS.iload X39.here hx rfl (hb hby at_212) rfl ?_
        show Steps p.tables e below (T39.setTop (mkF m 214 #[.val (.int ctl), .val (.int t1), .val (.int t2), .val (.int t3), .val (.int qq), .val (.long vv), .second, .val (.int nn), .val (.int sz), .val (.int pk), .val (.int v1), .val (.int v2), .val (.int v3), .val (.ref b32), .val (.int ((1 : Int32) &&& (1 : Int32))), .val (.int xx)] [(.int xx), (.int v3), (.int t3), (.int v2), (.int t2), (.int v1), (.int t1), (.int nn), (.int (f1 (2 * i39 + 1) - 1)), (.int ((1 : Int32) &&& (1 : Int32)))])) t
        exact k)
      obtain ⟨_, _, ⟨T40, L40, k40, n40⟩, -, X40, ⟨Lc40, hQ40, l40, y40, z40⟩, st40⟩ := Jvm.LawKit.callS X39 hx (y := (⟨"com/example/tagwire/tagwire/dictionary/TagTableGetPinLaw", "expected", "(IIIIIIII)I"⟩ : MethodName)) hown (mvT hZ (hw _ (List.mem_of_getElem? (i := 38) rfl))) (mvT hZ (hw _ (List.mem_of_getElem? (i := 39) rfl))) (mvT hZ (hw _ (List.mem_of_getElem? (i := 40) rfl))) (mvT hZ (hw _ (List.mem_of_getElem? (i := 41) rfl))) (by decide) (backOf (W := 2) (rm_exp l Z a0 hw [] nn t1 v1 t2 v2 t3 v3 xx _ n0) hZ (hw _ (List.mem_of_getElem? (i := 41) rfl)) (hw _ (List.mem_of_getElem? (i := 40) rfl)) (by decide) (by decide)) (g := (mkF m 214 #[.val (.int ctl), .val (.int t1), .val (.int t2), .val (.int t3), .val (.int qq), .val (.long vv), .second, .val (.int nn), .val (.int sz), .val (.int pk), .val (.int v1), .val (.int v2), .val (.int v3), .val (.ref b32), .val (.int ((1 : Int32) &&& (1 : Int32))), .val (.int xx)] [(.int xx), (.int v3), (.int t3), (.int v2), (.int t2), (.int v1), (.int t1), (.int nn), (.int (f1 (2 * i39 + 1) - 1)), (.int ((1 : Int32) &&& (1 : Int32)))])) rfl (by rw [hml]; rfl) (argsL := [(.int nn), (.int t1), (.int v1), (.int t2), (.int v2), (.int t3), (.int v3), (.int xx)]) (rest := [(.int (f1 (2 * i39 + 1) - 1)), (.int ((1 : Int32) &&& (1 : Int32)))]) (lenOf pd__IIIIIIII_I rfl) rfl (by show 2 * 0 + _ ≤ _; exact Nat.le_of_eq rfl) (hb hby at_214) (fun _ _ => ⟨rfl, e39, (by decide : 2 + 0 ≤ _), (by decide : 35 + 0 ≤ _)⟩)
      dsimp only [Pt.U, Pt.locs, Pt.cells, Pt.slots] at X40 l40 y40 z40 st40 hQ40
      subst l40 y40 z40
      obtain ⟨rfl, N40q, e40⟩ := hQ40
      have N40 := Fr.app N39 N40q
      replace pre : Pth p e below S0 T40 (mkF m 217 #[.val (.int ctl), .val (.int t1), .val (.int t2), .val (.int t3), .val (.int qq), .val (.long vv), .second, .val (.int nn), .val (.int sz), .val (.int pk), .val (.int v1), .val (.int v2), .val (.int v3), .val (.ref b32), .val (.int ((1 : Int32) &&& (1 : Int32))), .val (.int xx)] [(.int (own_exp nn t1 v1 t2 v2 t3 v3 xx)), (.int (f1 (2 * i39 + 1) - 1)), (.int ((1 : Int32) &&& (1 : Int32)))]) := fun t k => pre t (st40 _ k)
      replace pre : Pth p e below S0 T40 (mkF m 234 #[.val (.int ctl), .val (.int t1), .val (.int t2), .val (.int t3), .val (.int qq), .val (.long vv), .second, .val (.int nn), .val (.int sz), .val (.int pk), .val (.int v1), .val (.int v2), .val (.int v3), .val (.ref b32), .val (.int (((1 : Int32) &&& (1 : Int32)) &&& (1 : Int32))), .val (.int xx)] [(.int qq), (.ref b32), (.int (((1 : Int32) &&& (1 : Int32)) &&& (1 : Int32)))]) := fun t k => pre t (by
        show Steps p.tables e below (T40.setTop (mkF m 217 #[.val (.int ctl), .val (.int t1), .val (.int t2), .val (.int t3), .val (.int qq), .val (.long vv), .second, .val (.int nn), .val (.int sz), .val (.int pk), .val (.int v1), .val (.int v2), .val (.int v3), .val (.ref b32), .val (.int ((1 : Int32) &&& (1 : Int32))), .val (.int xx)] [(.int (own_exp nn t1 v1 t2 v2 t3 v3 xx)), (.int (f1 (2 * i39 + 1) - 1)), (.int ((1 : Int32) &&& (1 : Int32)))])) t
        refine XS.icmpNo X40.here hx rfl (hb hby at_217) rfl (XT.ii_ne_f (by rw [tb1.2.2 _ _ hi39 hs39]; exact own_g1 n1 n2 (own_lt3 n2))) ?_
        show Steps p.tables e below (T40.setTop (mkF m 220 #[.val (.int ctl), .val (.int t1), .val (.int t2), .val (.int t3), .val (.int qq), .val (.long vv), .second, .val (.int nn), .val (.int sz), .val (.int pk), .val (.int v1), .val (.int v2), .val (.int v3), .val (.ref b32), .val (.int ((1 : Int32) &&& (1 : Int32))), .val (.int xx)] [(.int ((1 : Int32) &&& (1 : Int32)))])) t
        refine XS.iconst X40.here hx rfl (hb hby at_220) ?_
        show Steps p.tables e below (T40.setTop (mkF m 221 #[.val (.int ctl), .val (.int t1), .val (.int t2), .val (.int t3), .val (.int qq), .val (.long vv), .second, .val (.int nn), .val (.int sz), .val (.int pk), .val (.int v1), .val (.int v2), .val (.int v3), .val (.ref b32), .val (.int ((1 : Int32) &&& (1 : Int32))), .val (.int xx)] [(.int (1 : Int32)), (.int ((1 : Int32) &&& (1 : Int32)))])) t
        refine XS.goto X40.here hx rfl (pc0 := 221) (pc' := 225) rfl (hb hby at_221) (by decide) (by decide) ?_
        show Steps p.tables e below (T40.setTop (mkF m 225 #[.val (.int ctl), .val (.int t1), .val (.int t2), .val (.int t3), .val (.int qq), .val (.long vv), .second, .val (.int nn), .val (.int sz), .val (.int pk), .val (.int v1), .val (.int v2), .val (.int v3), .val (.ref b32), .val (.int ((1 : Int32) &&& (1 : Int32))), .val (.int xx)] [(.int (1 : Int32)), (.int ((1 : Int32) &&& (1 : Int32)))])) t
        refine XS.iand X40.here hx rfl (hb hby at_225) rfl ?_
        show Steps p.tables e below (T40.setTop (mkF m 226 #[.val (.int ctl), .val (.int t1), .val (.int t2), .val (.int t3), .val (.int qq), .val (.long vv), .second, .val (.int nn), .val (.int sz), .val (.int pk), .val (.int v1), .val (.int v2), .val (.int v3), .val (.ref b32), .val (.int ((1 : Int32) &&& (1 : Int32))), .val (.int xx)] [(.int (((1 : Int32) &&& (1 : Int32)) &&& (1 : Int32)))])) t
        refine XS.istore X40.here hx rfl (hb hby at_226) rfl (l' := #[.val (.int ctl), .val (.int t1), .val (.int t2), .val (.int t3), .val (.int qq), .val (.long vv), .second, .val (.int nn), .val (.int sz), .val (.int pk), .val (.int v1), .val (.int v2), .val (.int v3), .val (.ref b32), .val (.int (((1 : Int32) &&& (1 : Int32)) &&& (1 : Int32))), .val (.int xx)]) rfl ?_
        show Steps p.tables e below (T40.setTop (mkF m 228 #[.val (.int ctl), .val (.int t1), .val (.int t2), .val (.int t3), .val (.int qq), .val (.long vv), .second, .val (.int nn), .val (.int sz), .val (.int pk), .val (.int v1), .val (.int v2), .val (.int v3), .val (.ref b32), .val (.int (((1 : Int32) &&& (1 : Int32)) &&& (1 : Int32))), .val (.int xx)] [])) t
        refine XS.iload X40.here hx rfl (hb hby at_228) rfl ?_
        show Steps p.tables e below (T40.setTop (mkF m 230 #[.val (.int ctl), .val (.int t1), .val (.int t2), .val (.int t3), .val (.int qq), .val (.long vv), .second, .val (.int nn), .val (.int sz), .val (.int pk), .val (.int v1), .val (.int v2), .val (.int v3), .val (.ref b32), .val (.int (((1 : Int32) &&& (1 : Int32)) &&& (1 : Int32))), .val (.int xx)] [(.int (((1 : Int32) &&& (1 : Int32)) &&& (1 : Int32)))])) t
        refine XS.aload X40.here hx rfl (hb hby at_230) rfl rfl ?_
        show Steps p.tables e below (T40.setTop (mkF m 232 #[.val (.int ctl), .val (.int t1), .val (.int t2), .val (.int t3), .val (.int qq), .val (.long vv), .second, .val (.int nn), .val (.int sz), .val (.int pk), .val (.int v1), .val (.int v2), .val (.int v3), .val (.ref b32), .val (.int (((1 : Int32) &&& (1 : Int32)) &&& (1 : Int32))), .val (.int xx)] [(.ref b32), (.int (((1 : Int32) &&& (1 : Int32)) &&& (1 : Int32)))])) t
        refine XS.iload X40.here hx rfl (hb hby at_232) rfl ?_
        show Steps p.tables e below (T40.setTop (mkF m 234 #[.val (.int ctl), .val (.int t1), .val (.int t2), .val (.int t3), .val (.int qq), .val (.long vv), .second, .val (.int nn), .val (.int sz), .val (.int pk), .val (.int v1), .val (.int v2), .val (.int v3), .val (.ref b32), .val (.int (((1 : Int32) &&& (1 : Int32)) &&& (1 : Int32))), .val (.int xx)] [(.int qq), (.ref b32), (.int (((1 : Int32) &&& (1 : Int32)) &&& (1 : Int32)))])) t
        exact k)
      obtain ⟨cq41, kq41, q41a, q41b, q41c⟩ := isOf hZ e40 hT1.2.2.2.1
      obtain ⟨_, _, ⟨T41, L41, k41, n41⟩, -, X41, ⟨Lc41, hQ41, l41, y41, z41⟩, st41⟩ := X40.virtualBack hx (y := (⟨"com/example/tagwire/tagwire/dictionary/TagTable", "get", "(I)I"⟩ : MethodName)) (z := (⟨"com/example/tagwire/tagwire/dictionary/TagTable", "get", "(I)I"⟩ : MethodName)) hown (mvT hZ (hw _ (List.mem_of_getElem? (i := 28) rfl))) (mvT hZ (hw _ (List.mem_of_getElem? (i := 29) rfl))) (notFace_of_selects (args := #[]) (mvT hZ (hw _ (List.mem_of_getElem? (i := 31) rfl)))) (mvT hZ (hw _ (List.mem_of_getElem? (i := 31) rfl))) (mvT hZ (hw _ (List.mem_of_getElem? (i := 30) rfl))) (by decide) (backOf (W := 1) (rm_get l Z a0 hw [] b32 qq r sz cn1 C f1 _ n0 hT1 hexz) hZ (hw _ (List.mem_of_getElem? (i := 32) rfl)) (hw _ (List.mem_of_getElem? (i := 3) rfl)) (by decide) (by decide)) q41a q41c (g := (mkF m 234 #[.val (.int ctl), .val (.int t1), .val (.int t2), .val (.int t3), .val (.int qq), .val (.long vv), .second, .val (.int nn), .val (.int sz), .val (.int pk), .val (.int v1), .val (.int v2), .val (.int v3), .val (.ref b32), .val (.int (((1 : Int32) &&& (1 : Int32)) &&& (1 : Int32))), .val (.int xx)] [(.int qq), (.ref b32), (.int (((1 : Int32) &&& (1 : Int32)) &&& (1 : Int32)))])) rfl (by rw [hml]; rfl) (Steps.refl _) (argsL := [(.int qq)]) (rest := [(.int (((1 : Int32) &&& (1 : Int32)) &&& (1 : Int32)))]) (lenOf pd__I_I rfl) rfl (by show 2 * 0 + _ ≤ _; exact Nat.le_of_eq rfl) (hb hby at_234) (fun _ _ => ⟨rfl, e40, (by decide : 2 + 0 ≤ _), (by decide : 35 + 0 ≤ _)⟩)
      dsimp only [Pt.U, Pt.locs, Pt.cells, Pt.slots] at X41 l41 y41 z41 st41 hQ41
      subst l41 y41 z41
      obtain ⟨i41, rfl, N41q, e41, hi41, hs41⟩ := hQ41
      have N41 := Fr.app N40 N41q
      replace pre : Pth p e below S0 T41 (mkF m 237 #[.val (.int ctl), .val (.int t1), .val (.int t2), .val (.int t3), .val (.int qq), .val (.long vv), .second, .val (.int nn), .val (.int sz), .val (.int pk), .val (.int v1), .val (.int v2), .val (.int v3), .val (.ref b32), .val (.int (((1 : Int32) &&& (1 : Int32)) &&& (1 : Int32))), .val (.int xx)] [(.int (f1 (2 * i41 + 1) - 1)), (.int (((1 : Int32) &&& (1 : Int32)) &&& (1 : Int32)))]) := fun t k => pre t (st41.trans k)
      replace pre : Pth p e below S0 T41 (mkF m 250 #[.val (.int ctl), .val (.int t1), .val (.int t2), .val (.int t3), .val (.int qq), .val (.long vv), .second, .val (.int nn), .val (.int sz), .val (.int pk), .val (.int v1), .val (.int v2), .val (.int v3), .val (.ref b32), .val (.int (((1 : Int32) &&& (1 : Int32)) &&& (1 : Int32))), .val (.int xx)] [(.int qq), (.int v3), (.int t3), (.int v2), (.int t2), (.int v1), (.int t1), (.int nn), (.int (f1 (2 * i41 + 1) - 1)), (.int (((1 : Int32) &&& (1 : Int32)) &&& (1 : Int32)))]) := fun t k => pre t (by
        show Steps p.tables e below (T41.setTop (mkF m 237 #[.val (.int ctl), .val (.int t1), .val (.int t2), .val (.int t3), .val (.int qq), .val (.long vv), .second, .val (.int nn), .val (.int sz), .val (.int pk), .val (.int v1), .val (.int v2), .val (.int v3), .val (.ref b32), .val (.int (((1 : Int32) &&& (1 : Int32)) &&& (1 : Int32))), .val (.int xx)] [(.int (f1 (2 * i41 + 1) - 1)), (.int (((1 : Int32) &&& (1 : Int32)) &&& (1 : Int32)))])) t
        refine XS.iload X41.here hx rfl (hb hby at_237) rfl ?_
        show Steps p.tables e below (T41.setTop (mkF m 239 #[.val (.int ctl), .val (.int t1), .val (.int t2), .val (.int t3), .val (.int qq), .val (.long vv), .second, .val (.int nn), .val (.int sz), .val (.int pk), .val (.int v1), .val (.int v2), .val (.int v3), .val (.ref b32), .val (.int (((1 : Int32) &&& (1 : Int32)) &&& (1 : Int32))), .val (.int xx)] [(.int nn), (.int (f1 (2 * i41 + 1) - 1)), (.int (((1 : Int32) &&& (1 : Int32)) &&& (1 : Int32)))])) t
        refine XS.iloadN X41.here hx rfl (hb hby at_239) rfl ?_
        show Steps p.tables e below (T41.setTop (mkF m 240 #[.val (.int ctl), .val (.int t1), .val (.int t2), .val (.int t3), .val (.int qq), .val (.long vv), .second, .val (.int nn), .val (.int sz), .val (.int pk), .val (.int v1), .val (.int v2), .val (.int v3), .val (.ref b32), .val (.int (((1 : Int32) &&& (1 : Int32)) &&& (1 : Int32))), .val (.int xx)] [(.int t1), (.int nn), (.int (f1 (2 * i41 + 1) - 1)), (.int (((1 : Int32) &&& (1 : Int32)) &&& (1 : Int32)))])) t
        refine XS.iload X41.here hx rfl (hb hby at_240) rfl ?_
        show Steps p.tables e below (T41.setTop (mkF m 242 #[.val (.int ctl), .val (.int t1), .val (.int t2), .val (.int t3), .val (.int qq), .val (.long vv), .second, .val (.int nn), .val (.int sz), .val (.int pk), .val (.int v1), .val (.int v2), .val (.int v3), .val (.ref b32), .val (.int (((1 : Int32) &&& (1 : Int32)) &&& (1 : Int32))), .val (.int xx)] [(.int v1), (.int t1), (.int nn), (.int (f1 (2 * i41 + 1) - 1)), (.int (((1 : Int32) &&& (1 : Int32)) &&& (1 : Int32)))])) t
        refine XS.iloadN X41.here hx rfl (hb hby at_242) rfl ?_
        show Steps p.tables e below (T41.setTop (mkF m 243 #[.val (.int ctl), .val (.int t1), .val (.int t2), .val (.int t3), .val (.int qq), .val (.long vv), .second, .val (.int nn), .val (.int sz), .val (.int pk), .val (.int v1), .val (.int v2), .val (.int v3), .val (.ref b32), .val (.int (((1 : Int32) &&& (1 : Int32)) &&& (1 : Int32))), .val (.int xx)] [(.int t2), (.int v1), (.int t1), (.int nn), (.int (f1 (2 * i41 + 1) - 1)), (.int (((1 : Int32) &&& (1 : Int32)) &&& (1 : Int32)))])) t
        refine XS.iload X41.here hx rfl (hb hby at_243) rfl ?_
        show Steps p.tables e below (T41.setTop (mkF m 245 #[.val (.int ctl), .val (.int t1), .val (.int t2), .val (.int t3), .val (.int qq), .val (.long vv), .second, .val (.int nn), .val (.int sz), .val (.int pk), .val (.int v1), .val (.int v2), .val (.int v3), .val (.ref b32), .val (.int (((1 : Int32) &&& (1 : Int32)) &&& (1 : Int32))), .val (.int xx)] [(.int v2), (.int t2), (.int v1), (.int t1), (.int nn), (.int (f1 (2 * i41 + 1) - 1)), (.int (((1 : Int32) &&& (1 : Int32)) &&& (1 : Int32)))])) t
        refine XS.iloadN X41.here hx rfl (hb hby at_245) rfl ?_
        show Steps p.tables e below (T41.setTop (mkF m 246 #[.val (.int ctl), .val (.int t1), .val (.int t2), .val (.int t3), .val (.int qq), .val (.long vv), .second, .val (.int nn), .val (.int sz), .val (.int pk), .val (.int v1), .val (.int v2), .val (.int v3), .val (.ref b32), .val (.int (((1 : Int32) &&& (1 : Int32)) &&& (1 : Int32))), .val (.int xx)] [(.int t3), (.int v2), (.int t2), (.int v1), (.int t1), (.int nn), (.int (f1 (2 * i41 + 1) - 1)), (.int (((1 : Int32) &&& (1 : Int32)) &&& (1 : Int32)))])) t
        refine XS.iload X41.here hx rfl (hb hby at_246) rfl ?_
        show Steps p.tables e below (T41.setTop (mkF m 248 #[.val (.int ctl), .val (.int t1), .val (.int t2), .val (.int t3), .val (.int qq), .val (.long vv), .second, .val (.int nn), .val (.int sz), .val (.int pk), .val (.int v1), .val (.int v2), .val (.int v3), .val (.ref b32), .val (.int (((1 : Int32) &&& (1 : Int32)) &&& (1 : Int32))), .val (.int xx)] [(.int v3), (.int t3), (.int v2), (.int t2), (.int v1), (.int t1), (.int nn), (.int (f1 (2 * i41 + 1) - 1)), (.int (((1 : Int32) &&& (1 : Int32)) &&& (1 : Int32)))])) t
        refine XS.iload X41.here hx rfl (hb hby at_248) rfl ?_
        show Steps p.tables e below (T41.setTop (mkF m 250 #[.val (.int ctl), .val (.int t1), .val (.int t2), .val (.int t3), .val (.int qq), .val (.long vv), .second, .val (.int nn), .val (.int sz), .val (.int pk), .val (.int v1), .val (.int v2), .val (.int v3), .val (.ref b32), .val (.int (((1 : Int32) &&& (1 : Int32)) &&& (1 : Int32))), .val (.int xx)] [(.int qq), (.int v3), (.int t3), (.int v2), (.int t2), (.int v1), (.int t1), (.int nn), (.int (f1 (2 * i41 + 1) - 1)), (.int (((1 : Int32) &&& (1 : Int32)) &&& (1 : Int32)))])) t
        exact k)
      obtain ⟨_, _, ⟨T42, L42, k42, n42⟩, -, X42, ⟨Lc42, hQ42, l42, y42, z42⟩, st42⟩ := Jvm.LawKit.callS X41 hx (y := (⟨"com/example/tagwire/tagwire/dictionary/TagTableGetPinLaw", "expected", "(IIIIIIII)I"⟩ : MethodName)) hown (mvT hZ (hw _ (List.mem_of_getElem? (i := 38) rfl))) (mvT hZ (hw _ (List.mem_of_getElem? (i := 39) rfl))) (mvT hZ (hw _ (List.mem_of_getElem? (i := 40) rfl))) (mvT hZ (hw _ (List.mem_of_getElem? (i := 41) rfl))) (by decide) (backOf (W := 2) (rm_exp l Z a0 hw [] nn t1 v1 t2 v2 t3 v3 qq _ n0) hZ (hw _ (List.mem_of_getElem? (i := 41) rfl)) (hw _ (List.mem_of_getElem? (i := 40) rfl)) (by decide) (by decide)) (g := (mkF m 250 #[.val (.int ctl), .val (.int t1), .val (.int t2), .val (.int t3), .val (.int qq), .val (.long vv), .second, .val (.int nn), .val (.int sz), .val (.int pk), .val (.int v1), .val (.int v2), .val (.int v3), .val (.ref b32), .val (.int (((1 : Int32) &&& (1 : Int32)) &&& (1 : Int32))), .val (.int xx)] [(.int qq), (.int v3), (.int t3), (.int v2), (.int t2), (.int v1), (.int t1), (.int nn), (.int (f1 (2 * i41 + 1) - 1)), (.int (((1 : Int32) &&& (1 : Int32)) &&& (1 : Int32)))])) rfl (by rw [hml]; rfl) (argsL := [(.int nn), (.int t1), (.int v1), (.int t2), (.int v2), (.int t3), (.int v3), (.int qq)]) (rest := [(.int (f1 (2 * i41 + 1) - 1)), (.int (((1 : Int32) &&& (1 : Int32)) &&& (1 : Int32)))]) (lenOf pd__IIIIIIII_I rfl) rfl (by show 2 * 0 + _ ≤ _; exact Nat.le_of_eq rfl) (hb hby at_250) (fun _ _ => ⟨rfl, e41, (by decide : 2 + 0 ≤ _), (by decide : 35 + 0 ≤ _)⟩)
      dsimp only [Pt.U, Pt.locs, Pt.cells, Pt.slots] at X42 l42 y42 z42 st42 hQ42
      subst l42 y42 z42
      obtain ⟨rfl, N42q, e42⟩ := hQ42
      have N42 := Fr.app N41 N42q
      replace pre : Pth p e below S0 T42 (mkF m 253 #[.val (.int ctl), .val (.int t1), .val (.int t2), .val (.int t3), .val (.int qq), .val (.long vv), .second, .val (.int nn), .val (.int sz), .val (.int pk), .val (.int v1), .val (.int v2), .val (.int v3), .val (.ref b32), .val (.int (((1 : Int32) &&& (1 : Int32)) &&& (1 : Int32))), .val (.int xx)] [(.int (own_exp nn t1 v1 t2 v2 t3 v3 qq)), (.int (f1 (2 * i41 + 1) - 1)), (.int (((1 : Int32) &&& (1 : Int32)) &&& (1 : Int32)))]) := fun t k => pre t (st42 _ k)
      replace pre : Pth p e below S0 T42 (mkF m 266 #[.val (.int ctl), .val (.int t1), .val (.int t2), .val (.int t3), .val (.int qq), .val (.long vv), .second, .val (.int nn), .val (.int sz), .val (.int pk), .val (.int v1), .val (.int v2), .val (.int v3), .val (.ref b32), .val (.int ((((1 : Int32) &&& (1 : Int32)) &&& (1 : Int32)) &&& (1 : Int32))), .val (.int xx)] [(.int ((((1 : Int32) &&& (1 : Int32)) &&& (1 : Int32)) &&& (1 : Int32)))]) := fun t k => pre t (by
        show Steps p.tables e below (T42.setTop (mkF m 253 #[.val (.int ctl), .val (.int t1), .val (.int t2), .val (.int t3), .val (.int qq), .val (.long vv), .second, .val (.int nn), .val (.int sz), .val (.int pk), .val (.int v1), .val (.int v2), .val (.int v3), .val (.ref b32), .val (.int (((1 : Int32) &&& (1 : Int32)) &&& (1 : Int32))), .val (.int xx)] [(.int (own_exp nn t1 v1 t2 v2 t3 v3 qq)), (.int (f1 (2 * i41 + 1) - 1)), (.int (((1 : Int32) &&& (1 : Int32)) &&& (1 : Int32)))])) t
        refine XS.icmpNo X42.here hx rfl (hb hby at_253) rfl (XT.ii_ne_f (by rw [tb1.2.2 _ _ hi41 hs41]; exact own_g1 n1 n2 (own_lt3 n2))) ?_
        show Steps p.tables e below (T42.setTop (mkF m 256 #[.val (.int ctl), .val (.int t1), .val (.int t2), .val (.int t3), .val (.int qq), .val (.long vv), .second, .val (.int nn), .val (.int sz), .val (.int pk), .val (.int v1), .val (.int v2), .val (.int v3), .val (.ref b32), .val (.int (((1 : Int32) &&& (1 : Int32)) &&& (1 : Int32))), .val (.int xx)] [(.int (((1 : Int32) &&& (1 : Int32)) &&& (1 : Int32)))])) t
        refine XS.iconst X42.here hx rfl (hb hby at_256) ?_
        show Steps p.tables e below (T42.setTop (mkF m 257 #[.val (.int ctl), .val (.int t1), .val (.int t2), .val (.int t3), .val (.int qq), .val (.long vv), .second, .val (.int nn), .val (.int sz), .val (.int pk), .val (.int v1), .val (.int v2), .val (.int v3), .val (.ref b32), .val (.int (((1 : Int32) &&& (1 : Int32)) &&& (1 : Int32))), .val (.int xx)] [(.int (1 : Int32)), (.int (((1 : Int32) &&& (1 : Int32)) &&& (1 : Int32)))])) t
        refine XS.goto X42.here hx rfl (pc0 := 257) (pc' := 261) rfl (hb hby at_257) (by decide) (by decide) ?_
        show Steps p.tables e below (T42.setTop (mkF m 261 #[.val (.int ctl), .val (.int t1), .val (.int t2), .val (.int t3), .val (.int qq), .val (.long vv), .second, .val (.int nn), .val (.int sz), .val (.int pk), .val (.int v1), .val (.int v2), .val (.int v3), .val (.ref b32), .val (.int (((1 : Int32) &&& (1 : Int32)) &&& (1 : Int32))), .val (.int xx)] [(.int (1 : Int32)), (.int (((1 : Int32) &&& (1 : Int32)) &&& (1 : Int32)))])) t
        refine XS.iand X42.here hx rfl (hb hby at_261) rfl ?_
        show Steps p.tables e below (T42.setTop (mkF m 262 #[.val (.int ctl), .val (.int t1), .val (.int t2), .val (.int t3), .val (.int qq), .val (.long vv), .second, .val (.int nn), .val (.int sz), .val (.int pk), .val (.int v1), .val (.int v2), .val (.int v3), .val (.ref b32), .val (.int (((1 : Int32) &&& (1 : Int32)) &&& (1 : Int32))), .val (.int xx)] [(.int ((((1 : Int32) &&& (1 : Int32)) &&& (1 : Int32)) &&& (1 : Int32)))])) t
        refine XS.istore X42.here hx rfl (hb hby at_262) rfl (l' := #[.val (.int ctl), .val (.int t1), .val (.int t2), .val (.int t3), .val (.int qq), .val (.long vv), .second, .val (.int nn), .val (.int sz), .val (.int pk), .val (.int v1), .val (.int v2), .val (.int v3), .val (.ref b32), .val (.int ((((1 : Int32) &&& (1 : Int32)) &&& (1 : Int32)) &&& (1 : Int32))), .val (.int xx)]) rfl ?_
        show Steps p.tables e below (T42.setTop (mkF m 264 #[.val (.int ctl), .val (.int t1), .val (.int t2), .val (.int t3), .val (.int qq), .val (.long vv), .second, .val (.int nn), .val (.int sz), .val (.int pk), .val (.int v1), .val (.int v2), .val (.int v3), .val (.ref b32), .val (.int ((((1 : Int32) &&& (1 : Int32)) &&& (1 : Int32)) &&& (1 : Int32))), .val (.int xx)] [])) t
        refine XS.iload X42.here hx rfl (hb hby at_264) rfl ?_
        show Steps p.tables e below (T42.setTop (mkF m 266 #[.val (.int ctl), .val (.int t1), .val (.int t2), .val (.int t3), .val (.int qq), .val (.long vv), .second, .val (.int nn), .val (.int sz), .val (.int pk), .val (.int v1), .val (.int v2), .val (.int v3), .val (.ref b32), .val (.int ((((1 : Int32) &&& (1 : Int32)) &&& (1 : Int32)) &&& (1 : Int32))), .val (.int xx)] [(.int ((((1 : Int32) &&& (1 : Int32)) &&& (1 : Int32)) &&& (1 : Int32)))])) t
        exact k)
      obtain ⟨fs, hr, hrun, hended, hW, hsame⟩ := X42.leave (v := some (.int (nar .boolean ((((1 : Int32) &&& (1 : Int32)) &&& (1 : Int32)) &&& (1 : Int32))))) (fun h => by rw [Bd.returns] at h; cases h)
      subst hS0
      refine ⟨_, _, pre _ ?_, hrun, hended, _, _, rfl, ?_, ⟨_, rfl⟩, hW, hsame.mono (by decide) (by decide)⟩
      · exact retN X42 hx (t := .boolean) Bd.returns (by simp) (hb hby at_266) hr
      · show Q_law Z ctl t1 t2 t3 qq vv h0 n0 _ T42.heap _
        rw [e42]
        exact ⟨by decide, N42⟩
    · replace pre : Pth p e below S0 T38 (mkF m 86 #[.val (.int ctl), .val (.int t1), .val (.int t2), .val (.int t3), .val (.int qq), .val (.long vv), .second, .val (.int nn), .val (.int sz), .val (.int pk), .val (.int v1), .val (.int v2), .val (.int v3), .val (.ref b32), .val (.int ((1 : Int32) &&& (1 : Int32))), .unset] []) := fun t k => pre t (by
        show Steps p.tables e below (T38.setTop (mkF m 83 #[.val (.int ctl), .val (.int t1), .val (.int t2), .val (.int t3), .val (.int qq), .val (.long vv), .second, .val (.int nn), .val (.int sz), .val (.int pk), .val (.int v1), .val (.int v2), .val (.int v3), .val (.ref b32), .val (.int ((1 : Int32) &&& (1 : Int32))), .unset] [(.int (2 : Int32)), (.int nn)])) t
        refine XS.icmpNo X38.here hx rfl (hb hby at_83) rfl (XT.ii_lt_f n2) ?_
        show Steps p.tables e below (T38.setTop (mkF m 86 #[.val (.int ctl), .val (.int t1), .val (.int t2), .val (.int t3), .val (.int qq), .val (.long vv), .second, .val (.int nn), .val (.int sz), .val (.int pk), .val (.int v1), .val (.int v2), .val (.int v3), .val (.ref b32), .val (.int ((1 : Int32) &&& (1 : Int32))), .unset] [])) t
        exact k)
      have nz2 : 2 ≤ nn.toInt := own_ge2 n2
      replace pre : Pth p e below S0 T38 (mkF m 93 #[.val (.int ctl), .val (.int t1), .val (.int t2), .val (.int t3), .val (.int qq), .val (.long vv), .second, .val (.int nn), .val (.int sz), .val (.int pk), .val (.int v1), .val (.int v2), .val (.int v3), .val (.ref b32), .val (.int ((1 : Int32) &&& (1 : Int32))), .unset] [(.int v2), (.int t2), (.ref b32), (.int ((1 : Int32) &&& (1 : Int32)))]) := fun t k => pre t (by
        show Steps p.tables e below (T38.setTop (mkF m 86 #[.val (.int ctl), .val (.int t1), .val (.int t2), .val (.int t3), .val (.int qq), .val (.long vv), .second, .val (.int nn), .val (.int sz), .val (.int pk), .val (.int v1), .val (.int v2), .val (.int v3), .val (.ref b32), .val (.int ((1 : Int32) &&& (1 : Int32))), .unset] [])) t
        refine XS.iload X38.here hx rfl (hb hby at_86) rfl ?_
        show Steps p.tables e below (T38.setTop (mkF m 88 #[.val (.int ctl), .val (.int t1), .val (.int t2), .val (.int t3), .val (.int qq), .val (.long vv), .second, .val (.int nn), .val (.int sz), .val (.int pk), .val (.int v1), .val (.int v2), .val (.int v3), .val (.ref b32), .val (.int ((1 : Int32) &&& (1 : Int32))), .unset] [(.int ((1 : Int32) &&& (1 : Int32)))])) t
        refine XS.aload X38.here hx rfl (hb hby at_88) rfl rfl ?_
        show Steps p.tables e below (T38.setTop (mkF m 90 #[.val (.int ctl), .val (.int t1), .val (.int t2), .val (.int t3), .val (.int qq), .val (.long vv), .second, .val (.int nn), .val (.int sz), .val (.int pk), .val (.int v1), .val (.int v2), .val (.int v3), .val (.ref b32), .val (.int ((1 : Int32) &&& (1 : Int32))), .unset] [(.ref b32), (.int ((1 : Int32) &&& (1 : Int32)))])) t
        refine XS.iloadN X38.here hx rfl (hb hby at_90) rfl ?_
        show Steps p.tables e below (T38.setTop (mkF m 91 #[.val (.int ctl), .val (.int t1), .val (.int t2), .val (.int t3), .val (.int qq), .val (.long vv), .second, .val (.int nn), .val (.int sz), .val (.int pk), .val (.int v1), .val (.int v2), .val (.int v3), .val (.ref b32), .val (.int ((1 : Int32) &&& (1 : Int32))), .unset] [(.int t2), (.ref b32), (.int ((1 : Int32) &&& (1 : Int32)))])) t
        refine XS.iload X38.here hx rfl (hb hby at_91) rfl ?_
        show Steps p.tables e below (T38.setTop (mkF m 93 #[.val (.int ctl), .val (.int t1), .val (.int t2), .val (.int t3), .val (.int qq), .val (.long vv), .second, .val (.int nn), .val (.int sz), .val (.int pk), .val (.int v1), .val (.int v2), .val (.int v3), .val (.ref b32), .val (.int ((1 : Int32) &&& (1 : Int32))), .unset] [(.int v2), (.int t2), (.ref b32), (.int ((1 : Int32) &&& (1 : Int32)))])) t
        exact k)
      obtain ⟨cq43, kq43, q43a, q43b, q43c⟩ := isOf hZ rfl hT1.2.2.2.1
      obtain ⟨_, _, ⟨T43, L43, k43, n43⟩, -, X43, ⟨Lc43, hQ43, l43, y43, z43⟩, st43⟩ := X38.virtualBack hx (y := (⟨"com/example/tagwire/tagwire/dictionary/TagTable", "put", "(II)Z"⟩ : MethodName)) (z := (⟨"com/example/tagwire/tagwire/dictionary/TagTable", "put", "(II)Z"⟩ : MethodName)) hown (mvT hZ (hw _ (List.mem_of_getElem? (i := 42) rfl))) (mvT hZ (hw _ (List.mem_of_getElem? (i := 43) rfl))) (notFace_of_selects (args := #[]) (mvT hZ (hw _ (List.mem_of_getElem? (i := 45) rfl)))) (mvT hZ (hw _ (List.mem_of_getElem? (i := 45) rfl))) (mvT hZ (hw _ (List.mem_of_getElem? (i := 44) rfl))) (by decide) (backOf (W := 1) (rm_put l Z a0 hw [] b32 t2 v2 r sz cn1 C f1 _ n0 gb gr hT1 (OOcc.ex tb1.1 (by omega : 1 < C)) (fun q => by have q' := congrArg Int32.toInt q; have z : (0 : Int32).toInt = 0 := rfl; omega)) hZ (hw _ (List.mem_of_getElem? (i := 46) rfl)) (hw _ (List.mem_of_getElem? (i := 3) rfl)) (by decide) (by decide)) q43a q43c (g := (mkF m 93 #[.val (.int ctl), .val (.int t1), .val (.int t2), .val (.int t3), .val (.int qq), .val (.long vv), .second, .val (.int nn), .val (.int sz), .val (.int pk), .val (.int v1), .val (.int v2), .val (.int v3), .val (.ref b32), .val (.int ((1 : Int32) &&& (1 : Int32))), .unset] [(.int v2), (.int t2), (.ref b32), (.int ((1 : Int32) &&& (1 : Int32)))])) rfl (by rw [hml]; rfl) (Steps.refl _) (argsL := [(.int t2), (.int v2)]) (rest := [(.int ((1 : Int32) &&& (1 : Int32)))]) (lenOf pd__II_Z rfl) rfl (by show 2 * 0 + _ ≤ _; exact Nat.le_of_eq rfl) (hb hby at_93) (fun _ _ => ⟨rfl, rfl, (by decide : 2 + 0 ≤ _), (by decide : 35 + 0 ≤ _)⟩)
      dsimp only [Pt.U, Pt.locs, Pt.cells, Pt.slots] at X43 l43 y43 z43 st43 hQ43
      subst l43 y43 z43
      obtain ⟨rr2, cn2, f2, rfl, N43q, hs43, hT2, hp2, hcn2⟩ := hQ43
      have N43 := Fr.app N38 N43q
      replace pre : Pth p e below S0 T43 (mkF m 96 #[.val (.int ctl), .val (.int t1), .val (.int t2), .val (.int t3), .val (.int qq), .val (.long vv), .second, .val (.int nn), .val (.int sz), .val (.int pk), .val (.int v1), .val (.int v2), .val (.int v3), .val (.ref b32), .val (.int ((1 : Int32) &&& (1 : Int32))), .unset] [(.int rr2), (.int ((1 : Int32) &&& (1 : Int32)))]) := fun t k => pre t (st43.trans k)
      obtain ⟨hr2, tb2⟩ := own_put hH tb1 (by omega : 1 < C) w2 hp2
      have hc2 := own_cc2 hc1 hcn2
      replace pre : Pth p e below S0 T43 (mkF m 98 #[.val (.int ctl), .val (.int t1), .val (.int t2), .val (.int t3), .val (.int qq), .val (.long vv), .second, .val (.int nn), .val (.int sz), .val (.int pk), .val (.int v1), .val (.int v2), .val (.int v3), .val (.ref b32), .val (.int ((1 : Int32) &&& (1 : Int32))), .unset] [(.int t1), (.int t2), (.int rr2), (.int ((1 : Int32) &&& (1 : Int32)))]) := fun t k => pre t (by
        show Steps p.tables e below (T43.setTop (mkF m 96 #[.val (.int ctl), .val (.int t1), .val (.int t2), .val (.int t3), .val (.int qq), .val (.long vv), .second, .val (.int nn), .val (.int sz), .val (.int pk), .val (.int v1), .val (.int v2), .val (.int v3), .val (.ref b32), .val (.int ((1 : Int32) &&& (1 : Int32))), .unset] [(.int rr2), (.int ((1 : Int32) &&& (1 : Int32)))])) t
        refine XS.iloadN X43.here hx rfl (hb hby at_96) rfl ?_
        show Steps p.tables e below (T43.setTop (mkF m 97 #[.val (.int ctl), .val (.int t1), .val (.int t2), .val (.int t3), .val (.int qq), .val (.long vv), .second, .val (.int nn), .val (.int sz), .val (.int pk), .val (.int v1), .val (.int v2), .val (.int v3), .val (.ref b32), .val (.int ((1 : Int32) &&& (1 : Int32))), .unset] [(.int t2), (.int rr2), (.int ((1 : Int32) &&& (1 : Int32)))])) t
        refine XS.iloadN X43.here hx rfl (hb hby at_97) rfl ?_
        show Steps p.tables e below (T43.setTop (mkF m 98 #[.val (.int ctl), .val (.int t1), .val (.int t2), .val (.int t3), .val (.int qq), .val (.long vv), .second, .val (.int nn), .val (.int sz), .val (.int pk), .val (.int v1), .val (.int v2), .val (.int v3), .val (.ref b32), .val (.int ((1 : Int32) &&& (1 : Int32))), .unset] [(.int t1), (.int t2), (.int rr2), (.int ((1 : Int32) &&& (1 : Int32)))])) t
        exact k)
      obtain ⟨x2, hx2, pre⟩ : ∃ x2 : Int32, x2 = (if t2 = t1 then 0 else 1) ∧ Pth p e below S0 T43 (mkF m 106 #[.val (.int ctl), .val (.int t1), .val (.int t2), .val (.int t3), .val (.int qq), .val (.long vv), .second, .val (.int nn), .val (.int sz), .val (.int pk), .val (.int v1), .val (.int v2), .val (.int v3), .val (.ref b32), .val (.int ((1 : Int32) &&& (1 : Int32))), .unset] [(.int x2), (.int rr2), (.int ((1 : Int32) &&& (1 : Int32)))]) := by
        by_cases q1 : t2 = t1
        · replace pre : Pth p e below S0 T43 (mkF m 106 #[.val (.int ctl), .val (.int t1), .val (.int t2), .val (.int t3), .val (.int qq), .val (.long vv), .second, .val (.int nn), .val (.int sz), .val (.int pk), .val (.int v1), .val (.int v2), .val (.int v3), .val (.ref b32), .val (.int ((1 : Int32) &&& (1 : Int32))), .unset] [(.int (0 : Int32)), (.int rr2), (.int ((1 : Int32) &&& (1 : Int32)))]) := fun t k => pre t (by
            show Steps p.tables e below (T43.setTop (mkF m 98 #[.val (.int ctl), .val (.int t1), .val (.int t2), .val (.int t3), .val (.int qq), .val (.long vv), .second, .val (.int nn), .val (.int sz), .val (.int pk), .val (.int v1), .val (.int v2), .val (.int v3), .val (.ref b32), .val (.int ((1 : Int32) &&& (1 : Int32))), .unset] [(.int t1), (.int t2), (.int rr2), (.int ((1 : Int32) &&& (1 : Int32)))])) t
            refine XS.icmpYes X43.here hx rfl (pc0 := 98) (pc' := 105) rfl (hb hby at_98) rfl (XT.ii_eq_t q1) (by decide) (by decide) ?_
            show Steps p.tables e below (T43.setTop (mkF m 105 #[.val (.int ctl), .val (.int t1), .val (.int t2), .val (.int t3), .val (.int qq), .val (.long vv), .second, .val (.int nn), .val (.int sz), .val (.int pk), .val (.int v1), .val (.int v2), .val (.int v3), .val (.ref b32), .val (.int ((1 : Int32) &&& (1 : Int32))), .unset] [(.int rr2), (.int ((1 : Int32) &&& (1 : Int32)))])) t
            refine XS.iconst X43.here hx rfl (hb hby at_105) ?_
            show Steps p.tables e below (T43.setTop (mkF m 106 #[.val (.int ctl), .val (.int t1), .val (.int t2), .val (.int t3), .val (.int qq), .val (.long vv), .second, .val (.int nn), .val (.int sz), .val (.int pk), .val (.int v1), .val (.int v2), .val (.int v3), .val (.ref b32), .val (.int ((1 : Int32) &&& (1 : Int32))), .unset] [(.int (0 : Int32)), (.int rr2), (.int ((1 : Int32) &&& (1 : Int32)))])) t
            exact k)
          exact ⟨_, (if_pos q1).symm, pre⟩
        · replace pre : Pth p e below S0 T43 (mkF m 106 #[.val (.int ctl), .val (.int t1), .val (.int t2), .val (.int t3), .val (.int qq), .val (.long vv), .second, .val (.int nn), .val (.int sz), .val (.int pk), .val (.int v1), .val (.int v2), .val (.int v3), .val (.ref b32), .val (.int ((1 : Int32) &&& (1 : Int32))), .unset] [(.int (1 : Int32)), (.int rr2), (.int ((1 : Int32) &&& (1 : Int32)))]) := fun t k => pre t (by
            show Steps p.tables e below (T43.setTop (mkF m 98 #[.val (.int ctl), .val (.int t1), .val (.int t2), .val (.int t3), .val (.int qq), .val (.long vv), .second, .val (.int nn), .val (.int sz), .val (.int pk), .val (.int v1), .val (.int v2), .val (.int v3), .val (.ref b32), .val (.int ((1 : Int32) &&& (1 : Int32))), .unset] [(.int t1), (.int t2), (.int rr2), (.int ((1 : Int32) &&& (1 : Int32)))])) t
            refine XS.icmpNo X43.here hx rfl (hb hby at_98) rfl (XT.ii_eq_f q1) ?_
            show Steps p.tables e below (T43.setTop (mkF m 101 #[.val (.int ctl), .val (.int t1), .val (.int t2), .val (.int t3), .val (.int qq), .val (.long vv), .second, .val (.int nn), .val (.int sz), .val (.int pk), .val (.int v1), .val (.int v2), .val (.int v3), .val (.ref b32), .val (.int ((1 : Int32) &&& (1 : Int32))), .unset] [(.int rr2), (.int ((1 : Int32) &&& (1 : Int32)))])) t
            refine XS.iconst X43.here hx rfl (hb hby at_101) ?_
            show Steps p.tables e below (T43.setTop (mkF m 102 #[.val (.int ctl), .val (.int t1), .val (.int t2), .val (.int t3), .val (.int qq), .val (.long vv), .second, .val (.int nn), .val (.int sz), .val (.int pk), .val (.int v1), .val (.int v2), .val (.int v3), .val (.ref b32), .val (.int ((1 : Int32) &&& (1 : Int32))), .unset] [(.int (1 : Int32)), (.int rr2), (.int ((1 : Int32) &&& (1 : Int32)))])) t
            refine XS.goto X43.here hx rfl (pc0 := 102) (pc' := 106) rfl (hb hby at_102) (by decide) (by decide) ?_
            show Steps p.tables e below (T43.setTop (mkF m 106 #[.val (.int ctl), .val (.int t1), .val (.int t2), .val (.int t3), .val (.int qq), .val (.long vv), .second, .val (.int nn), .val (.int sz), .val (.int pk), .val (.int v1), .val (.int v2), .val (.int v3), .val (.ref b32), .val (.int ((1 : Int32) &&& (1 : Int32))), .unset] [(.int (1 : Int32)), (.int rr2), (.int ((1 : Int32) &&& (1 : Int32)))])) t
            exact k)
          exact ⟨_, (if_neg q1).symm, pre⟩
      replace pre : Pth p e below S0 T43 (mkF m 120 #[.val (.int ctl), .val (.int t1), .val (.int t2), .val (.int t3), .val (.int qq), .val (.long vv), .second, .val (.int nn), .val (.int sz), .val (.int pk), .val (.int v1), .val (.int v2), .val (.int v3), .val (.ref b32), .val (.int (((1 : Int32) &&& (1 : Int32)) &&& (1 : Int32))), .unset] [(.int (3 : Int32)), (.int nn)]) := fun t k => pre t (by
        show Steps p.tables e below (T43.setTop (mkF m 106 #[.val (.int ctl), .val (.int t1), .val (.int t2), .val (.int t3), .val (.int qq), .val (.long vv), .second, .val (.int nn), .val (.int sz), .val (.int pk), .val (.int v1), .val (.int v2), .val (.int v3), .val (.ref b32), .val (.int ((1 : Int32) &&& (1 : Int32))), .unset] [(.int x2), (.int rr2), (.int ((1 : Int32) &&& (1 : Int32)))])) t
        refine XS.icmpNo X43.here hx rfl (hb hby at_106) rfl (XT.ii_ne_f (own_r2 w1 hr2 hx2)) ?_
        show Steps p.tables e below (T43.setTop (mkF m 109 #[.val (.int ctl), .val (.int t1), .val (.int t2), .val (.int t3), .val (.int qq), .val (.long vv), .second, .val (.int nn), .val (.int sz), .val (.int pk), .val (.int v1), .val (.int v2), .val (.int v3), .val (.ref b32), .val (.int ((1 : Int32) &&& (1 : Int32))), .unset] [(.int ((1 : Int32) &&& (1 : Int32)))])) t
        refine XS.iconst X43.here hx rfl (hb hby at_109) ?_
        show Steps p.tables e below (T43.setTop (mkF m 110 #[.val (.int ctl), .val (.int t1), .val (.int t2), .val (.int t3), .val (.int qq), .val (.long vv), .second, .val (.int nn), .val (.int sz), .val (.int pk), .val (.int v1), .val (.int v2), .val (.int v3), .val (.ref b32), .val (.int ((1 : Int32) &&& (1 : Int32))), .unset] [(.int (1 : Int32)), (.int ((1 : Int32) &&& (1 : Int32)))])) t
        refine XS.goto X43.here hx rfl (pc0 := 110) (pc' := 114) rfl (hb hby at_110) (by decide) (by decide) ?_
        show Steps p.tables e below (T43.setTop (mkF m 114 #[.val (.int ctl), .val (.int t1), .val (.int t2), .val (.int t3), .val (.int qq), .val (.long vv), .second, .val (.int nn), .val (.int sz), .val (.int pk), .val (.int v1), .val (.int v2), .val (.int v3), .val (.ref b32), .val (.int ((1 : Int32) &&& (1 : Int32))), .unset] [(.int (1 : Int32)), (.int ((1 : Int32) &&& (1 : Int32)))])) t
        refine XS.iand X43.here hx rfl (hb hby at_114) rfl ?_
        show Steps p.tables e below (T43.setTop (mkF m 115 #[.val (.int ctl), .val (.int t1), .val (.int t2), .val (.int t3), .val (.int qq), .val (.long vv), .second, .val (.int nn), .val (.int sz), .val (.int pk), .val (.int v1), .val (.int v2), .val (.int v3), .val (.ref b32), .val (.int ((1 : Int32) &&& (1 : Int32))), .unset] [(.int (((1 : Int32) &&& (1 : Int32)) &&& (1 : Int32)))])) t
        refine XS.istore X43.here hx rfl (hb hby at_115) rfl (l' := #[.val (.int ctl), .val (.int t1), .val (.int t2), .val (.int t3), .val (.int qq), .val (.long vv), .second, .val (.int nn), .val (.int sz), .val (.int pk), .val (.int v1), .val (.int v2), .val (.int v3), .val (.ref b32), .val (.int (((1 : Int32) &&& (1 : Int32)) &&& (1 : Int32))), .unset]) rfl ?_
        show Steps p.tables e below (T43.setTop (mkF m 117 #[.val (.int ctl), .val (.int t1), .val (.int t2), .val (.int t3), .val (.int qq), .val (.long vv), .second, .val (.int nn), .val (.int sz), .val (.int pk), .val (.int v1), .val (.int v2), .val (.int v3), .val (.ref b32), .val (.int (((1 : Int32) &&& (1 : Int32)) &&& (1 : Int32))), .unset] [])) t
        refine XS.iload X43.here hx rfl (hb hby at_117) rfl ?_
        show Steps p.tables e below (T43.setTop (mkF m 119 #[.val (.int ctl), .val (.int t1), .val (.int t2), .val (.int t3), .val (.int qq), .val (.long vv), .second, .val (.int nn), .val (.int sz), .val (.int pk), .val (.int v1), .val (.int v2), .val (.int v3), .val (.ref b32), .val (.int (((1 : Int32) &&& (1 : Int32)) &&& (1 : Int32))), .unset] [(.int nn)])) t
        refine XS.iconst X43.here hx rfl (hb hby at_119) ?_
        show Steps p.tables e below (T43.setTop (mkF m 120 #[.val (.int ctl), .val (.int t1), .val (.int t2), .val (.int t3), .val (.int qq), .val (.long vv), .second, .val (.int nn), .val (.int sz), .val (.int pk), .val (.int v1), .val (.int v2), .val (.int v3), .val (.ref b32), .val (.int (((1 : Int32) &&& (1 : Int32)) &&& (1 : Int32))), .unset] [(.int (3 : Int32)), (.int nn)])) t
        exact k)
      by_cases n3 : nn < (3 : Int32)
      · replace pre : Pth p e below S0 T43 (mkF m 159 #[.val (.int ctl), .val (.int t1), .val (.int t2), .val (.int t3), .val (.int qq), .val (.long vv), .second, .val (.int nn), .val (.int sz), .val (.int pk), .val (.int v1), .val (.int v2), .val (.int v3), .val (.ref b32), .val (.int (((1 : Int32) &&& (1 : Int32)) &&& (1 : Int32))), .unset] []) := fun t k => pre t (by
          show Steps p.tables e below (T43.setTop (mkF m 120 #[.val (.int ctl), .val (.int t1), .val (.int t2), .val (.int t3), .val (.int qq), .val (.long vv), .second, .val (.int nn), .val (.int sz), .val (.int pk), .val (.int v1), .val (.int v2), .val (.int v3), .val (.ref b32), .val (.int (((1 : Int32) &&& (1 : Int32)) &&& (1 : Int32))), .unset] [(.int (3 : Int32)), (.int nn)])) t
          refine XS.icmpYes X43.here hx rfl (pc0 := 120) (pc' := 159) rfl (hb hby at_120) rfl (XT.ii_lt_t n3) (by decide) (by decide) ?_
          show Steps p.tables e below (T43.setTop (mkF m 159 #[.val (.int ctl), .val (.int t1), .val (.int t2), .val (.int t3), .val (.int qq), .val (.long vv), .second, .val (.int nn), .val (.int sz), .val (.int pk), .val (.int v1), .val (.int v2), .val (.int v3), .val (.ref b32), .val (.int (((1 : Int32) &&& (1 : Int32)) &&& (1 : Int32))), .unset] [])) t
          exact k)
        have hexz := OOcc.ex tb2.1 (by omega : 2 < C)
        obtain ⟨xx, pre⟩ : ∃ xx : Int32, Pth p e below S0 T43 (mkF m 190 #[.val (.int ctl), .val (.int t1), .val (.int t2), .val (.int t3), .val (.int qq), .val (.long vv), .second, .val (.int nn), .val (.int sz), .val (.int pk), .val (.int v1), .val (.int v2), .val (.int v3), .val (.ref b32), .val (.int (((1 : Int32) &&& (1 : Int32)) &&& (1 : Int32))), .unset] [(.int xx)]) := by
          replace pre : Pth p e below S0 T43 (mkF m 161 #[.val (.int ctl), .val (.int t1), .val (.int t2), .val (.int t3), .val (.int qq), .val (.long vv), .second, .val (.int nn), .val (.int sz), .val (.int pk), .val (.int v1), .val (.int v2), .val (.int v3), .val (.ref b32), .val (.int (((1 : Int32) &&& (1 : Int32)) &&& (1 : Int32))), .unset] [(.int pk)]) := fun t k => pre t (by
            show Steps p.tables e below (T43.setTop (mkF m 159 #[.val (.int ctl), .val (.int t1), .val (.int t2), .val (.int t3), .val (.int qq), .val (.long vv), .second, .val (.int nn), .val (.int sz), .val (.int pk), .val (.int v1), .val (.int v2), .val (.int v3), .val (.ref b32), .val (.int (((1 : Int32) &&& (1 : Int32)) &&& (1 : Int32))), .unset] [])) t
            refine XS.iload X43.here hx rfl (hb hby at_159) rfl ?_
            show Steps p.tables e below (T43.setTop (mkF m 161 #[.val (.int ctl), .val (.int t1), .val (.int t2), .val (.int t3), .val (.int qq), .val (.long vv), .second, .val (.int nn), .val (.int sz), .val (.int pk), .val (.int v1), .val (.int v2), .val (.int v3), .val (.ref b32), .val (.int (((1 : Int32) &&& (1 : Int32)) &&& (1 : Int32))), .unset] [(.int pk)])) t
            exact k)
          by_cases p0 : pk = (0 : Int32)
          · replace pre : Pth p e below S0 T43 (mkF m 190 #[.val (.int ctl), .val (.int t1), .val (.int t2), .val (.int t3), .val (.int qq), .val (.long vv), .second, .val (.int nn), .val (.int sz), .val (.int pk), .val (.int v1), .val (.int v2), .val (.int v3), .val (.ref b32), .val (.int (((1 : Int32) &&& (1 : Int32)) &&& (1 : Int32))), .unset] [(.int t1)]) := fun t k => pre t (by
              show Steps p.tables e below (T43.setTop (mkF m 161 #[.val (.int ctl), .val (.int t1), .val (.int t2), .val (.int t3), .val (.int qq), .val (.long vv), .second, .val (.int nn), .val (.int sz), .val (.int pk), .val (.int v1), .val (.int v2), .val (.int v3), .val (.ref b32), .val (.int (((1 : Int32) &&& (1 : Int32)) &&& (1 : Int32))), .unset] [(.int pk)])) t
              refine XS.ifNo X43.here hx rfl (hb hby at_161) rfl (XT.i0_ne_f p0) ?_
              show Steps p.tables e below (T43.setTop (mkF m 164 #[.val (.int ctl), .val (.int t1), .val (.int t2), .val (.int t3), .val (.int qq), .val (.long vv), .second, .val (.int nn), .val (.int sz), .val (.int pk), .val (.int v1), .val (.int v2), .val (.int v3), .val (.ref b32), .val (.int (((1 : Int32) &&& (1 : Int32)) &&& (1 : Int32))), .unset] [])) t
              refine XS.iloadN X43.here hx rfl (hb hby at_164) rfl ?_
              show Steps p.tables e below (T43.setTop (mkF m 165 #[.val (.int ctl), .val (.int t1), .val (.int t2), .val (.int t3), .val (.int qq), .val (.long vv), .second, .val (.int nn), .val (.int sz), .val (.int pk), .val (.int v1), .val (.int v2), .val (.int v3), .val (.ref b32), .val (.int (((1 : Int32) &&& (1 : Int32)) &&& (1 : Int32))), .unset] [(.int t1)])) t
              refine XS.goto X43.here hx rfl (pc0 := 165) (pc' := 190) rfl (hb hby at_165) (by decide) (by decide) ?_
              show Steps p.tables e below (T43.setTop (mkF m 190 #[.val (.int ctl), .val (.int t1), .val (.int t2), .val (.int t3), .val (.int qq), .val (.long vv), .second, .val (.int nn), .val (.int sz), .val (.int pk), .val (.int v1), .val (.int v2), .val (.int v3), .val (.ref b32), .val (.int (((1 : Int32) &&& (1 : Int32)) &&& (1 : Int32))), .unset] [(.int t1)])) t
              exact k)
            exact ⟨_, pre⟩
          · replace pre : Pth p e below S0 T43 (mkF m 171 #[.val (.int ctl), .val (.int t1), .val (.int t2), .val (.int t3), .val (.int qq), .val (.long vv), .second, .val (.int nn), .val (.int sz), .val (.int pk), .val (.int v1), .val (.int v2), .val (.int v3), .val (.ref b32), .val (.int (((1 : Int32) &&& (1 : Int32)) &&& (1 : Int32))), .unset] [(.int (1 : Int32)), (.int pk)]) := fun t k => pre t (by
              show Steps p.tables e below (T43.setTop (mkF m 161 #[.val (.int ctl), .val (.int t1), .val (.int t2), .val (.int t3), .val (.int qq), .val (.long vv), .second, .val (.int nn), .val (.int sz), .val (.int pk), .val (.int v1), .val (.int v2), .val (.int v3), .val (.ref b32), .val (.int (((1 : Int32) &&& (1 : Int32)) &&& (1 : Int32))), .unset] [(.int pk)])) t
              refine XS.ifYes X43.here hx rfl (pc0 := 161) (pc' := 168) rfl (hb hby at_161) rfl (XT.i0_ne_t p0) (by decide) (by decide) ?_
              show Steps p.tables e below (T43.setTop (mkF m 168 #[.val (.int ctl), .val (.int t1), .val (.int t2), .val (.int t3), .val (.int qq), .val (.long vv), .second, .val (.int nn), .val (.int sz), .val (.int pk), .val (.int v1), .val (.int v2), .val (.int v3), .val (.ref b32), .val (.int (((1 : Int32) &&& (1 : Int32)) &&& (1 : Int32))), .unset] [])) t
              refine XS.iload X43.here hx rfl (hb hby at_168) rfl ?_
              show Steps p.tables e below (T43.setTop (mkF m 170 #[.val (.int ctl), .val (.int t1), .val (.int t2), .val (.int t3), .val (.int qq), .val (.long vv), .second, .val (.int nn), .val (.int sz), .val (.int pk), .val (.int v1), .val (.int v2), .val (.int v3), .val (.ref b32), .val (.int (((1 : Int32) &&& (1 : Int32)) &&& (1 : Int32))), .unset] [(.int pk)])) t
              refine XS.iconst X43.here hx rfl (hb hby at_170) ?_
              show Steps p.tables e below (T43.setTop (mkF m 171 #[.val (.int ctl), .val (.int t1), .val (.int t2), .val (.int t3), .val (.int qq), .val (.long vv), .second, .val (.int nn), .val (.int sz), .val (.int pk), .val (.int v1), .val (.int v2), .val (.int v3), .val (.ref b32), .val (.int (((1 : Int32) &&& (1 : Int32)) &&& (1 : Int32))), .unset] [(.int (1 : Int32)), (.int pk)])) t
              exact k)
            by_cases p1 : pk = (1 : Int32)
            · replace pre : Pth p e below S0 T43 (mkF m 190 #[.val (.int ctl), .val (.int t1), .val (.int t2), .val (.int t3), .val (.int qq), .val (.long vv), .second, .val (.int nn), .val (.int sz), .val (.int pk), .val (.int v1), .val (.int v2), .val (.int v3), .val (.ref b32), .val (.int (((1 : Int32) &&& (1 : Int32)) &&& (1 : Int32))), .unset] [(.int t2)]) := fun t k => pre t (by
                show Steps p.tables e below (T43.setTop (mkF m 171 #[.val (.int ctl), .val (.int t1), .val (.int t2), .val (.int t3), .val (.int qq), .val (.long vv), .second, .val (.int nn), .val (.int sz), .val (.int pk), .val (.int v1), .val (.int v2), .val (.int v3), .val (.ref b32), .val (.int (((1 : Int32) &&& (1 : Int32)) &&& (1 : Int32))), .unset] [(.int (1 : Int32)), (.int pk)])) t
                refine XS.icmpNo X43.here hx rfl (hb hby at_171) rfl (XT.ii_ne_f p1) ?_
                show Steps p.tables e below (T43.setTop (mkF m 174 #[.val (.int ctl), .val (.int t1), .val (.int t2), .val (.int t3), .val (.int qq), .val (.long vv), .second, .val (.int nn), .val (.int sz), .val (.int pk), .val (.int v1), .val (.int v2), .val (.int v3), .val (.ref b32), .val (.int (((1 : Int32) &&& (1 : Int32)) &&& (1 : Int32))), .unset] [])) t
                refine XS.iloadN X43.here hx rfl (hb hby at_174) rfl ?_
                show Steps p.tables e below (T43.setTop (mkF m 175 #[.val (.int ctl), .val (.int t1), .val (.int t2), .val (.int t3), .val (.int qq), .val (.long vv), .second, .val (.int nn), .val (.int sz), .val (.int pk), .val (.int v1), .val (.int v2), .val (.int v3), .val (.ref b32), .val (.int (((1 : Int32) &&& (1 : Int32)) &&& (1 : Int32))), .unset] [(.int t2)])) t
                refine XS.goto X43.here hx rfl (pc0 := 175) (pc' := 190) rfl (hb hby at_175) (by decide) (by decide) ?_
                show Steps p.tables e below (T43.setTop (mkF m 190 #[.val (.int ctl), .val (.int t1), .val (.int t2), .val (.int t3), .val (.int qq), .val (.long vv), .second, .val (.int nn), .val (.int sz), .val (.int pk), .val (.int v1), .val (.int v2), .val (.int v3), .val (.ref b32), .val (.int (((1 : Int32) &&& (1 : Int32)) &&& (1 : Int32))), .unset] [(.int t2)])) t
                exact k)
              exact ⟨_, pre⟩
            · replace pre : Pth p e below S0 T43 (mkF m 181 #[.val (.int ctl), .val (.int t1), .val (.int t2), .val (.int t3), .val (.int qq), .val (.long vv), .second, .val (.int nn), .val (.int sz), .val (.int pk), .val (.int v1), .val (.int v2), .val (.int v3), .val (.ref b32), .val (.int (((1 : Int32) &&& (1 : Int32)) &&& (1 : Int32))), .unset] [(.int (2 : Int32)), (.int pk)]) := fun t k => pre t (by
                show Steps p.tables e below (T43.setTop (mkF m 171 #[.val (.int ctl), .val (.int t1), .val (.int t2), .val (.int t3), .val (.int qq), .val (.long vv), .second, .val (.int nn), .val (.int sz), .val (.int pk), .val (.int v1), .val (.int v2), .val (.int v3), .val (.ref b32), .val (.int (((1 : Int32) &&& (1 : Int32)) &&& (1 : Int32))), .unset] [(.int (1 : Int32)), (.int pk)])) t
                refine XS.icmpYes X43.here hx rfl (pc0 := 171) (pc' := 178) rfl (hb hby at_171) rfl (XT.ii_ne_t p1) (by decide) (by decide) ?_
                show Steps p.tables e below (T43.setTop (mkF m 178 #[.val (.int ctl), .val (.int t1), .val (.int t2), .val (.int t3), .val (.int qq), .val (.long vv), .second, .val (.int nn), .val (.int sz), .val (.int pk), .val (.int v1), .val (.int v2), .val (.int v3), .val (.ref b32), .val (.int (((1 : Int32) &&& (1 : Int32)) &&& (1 : Int32))), .unset] [])) t
                refine XS.iload X43.here hx rfl (hb hby at_178) rfl ?_
                show Steps p.tables e below (T43.setTop (mkF m 180 #[.val (.int ctl), .val (.int t1), .val (.int t2), .val (.int t3), .val (.int qq), .val (.long vv), .second, .val (.int nn), .val (.int sz), .val (.int pk), .val (.int v1), .val (.int v2), .val (.int v3), .val (.ref b32), .val (.int (((1 : Int32) &&& (1 : Int32)) &&& (1 : Int32))), .unset] [(.int pk)])) t
                refine XS.iconst X43.here hx rfl (hb hby at_180) ?_
                show Steps p.tables e below (T43.setTop (mkF m 181 #[.val (.int ctl), .val (.int t1), .val (.int t2), .val (.int t3), .val (.int qq), .val (.long vv), .second, .val (.int nn), .val (.int sz), .val (.int pk), .val (.int v1), .val (.int v2), .val (.int v3), .val (.ref b32), .val (.int (((1 : Int32) &&& (1 : Int32)) &&& (1 : Int32))), .unset] [(.int (2 : Int32)), (.int pk)])) t
                exact k)
              by_cases p2 : pk = (2 : Int32)
              · replace pre : Pth p e below S0 T43 (mkF m 190 #[.val (.int ctl), .val (.int t1), .val (.int t2), .val (.int t3), .val (.int qq), .val (.long vv), .second, .val (.int nn), .val (.int sz), .val (.int pk), .val (.int v1), .val (.int v2), .val (.int v3), .val (.ref b32), .val (.int (((1 : Int32) &&& (1 : Int32)) &&& (1 : Int32))), .unset] [(.int t3)]) := fun t k => pre t (by
                  show Steps p.tables e below (T43.setTop (mkF m 181 #[.val (.int ctl), .val (.int t1), .val (.int t2), .val (.int t3), .val (.int qq), .val (.long vv), .second, .val (.int nn), .val (.int sz), .val (.int pk), .val (.int v1), .val (.int v2), .val (.int v3), .val (.ref b32), .val (.int (((1 : Int32) &&& (1 : Int32)) &&& (1 : Int32))), .unset] [(.int (2 : Int32)), (.int pk)])) t
                  refine XS.icmpNo X43.here hx rfl (hb hby at_181) rfl (XT.ii_ne_f p2) ?_
                  show Steps p.tables e below (T43.setTop (mkF m 184 #[.val (.int ctl), .val (.int t1), .val (.int t2), .val (.int t3), .val (.int qq), .val (.long vv), .second, .val (.int nn), .val (.int sz), .val (.int pk), .val (.int v1), .val (.int v2), .val (.int v3), .val (.ref b32), .val (.int (((1 : Int32) &&& (1 : Int32)) &&& (1 : Int32))), .unset] [])) t
                  refine XS.iloadN X43.here hx rfl (hb hby at_184) rfl ?_
                  show Steps p.tables e below (T43.setTop (mkF m 185 #[.val (.int ctl), .val (.int t1), .val (.int t2), .val (.int t3), .val (.int qq), .val (.long vv), .second, .val (.int nn), .val (.int sz), .val (.int pk), .val (.int v1), .val (.int v2), .val (.int v3), .val (.ref b32), .val (.int (((1 : Int32) &&& (1 : Int32)) &&& (1 : Int32))), .unset] [(.int t3)])) t
                  refine XS.goto X43.here hx rfl (pc0 := 185) (pc' := 190) rfl (hb hby at_185) (by decide) (by decide) ?_
                  show Steps p.tables e below (T43.setTop (mkF m 190 #[.val (.int ctl), .val (.int t1), .val (.int t2), .val (.int t3), .val (.int qq), .val (.long vv), .second, .val (.int nn), .val (.int sz), .val (.int pk), .val (.int v1), .val (.int v2), .val (.int v3), .val (.ref b32), .val (.int (((1 : Int32) &&& (1 : Int32)) &&& (1 : Int32))), .unset] [(.int t3)])) t
                  exact k)
                exact ⟨_, pre⟩
              · replace pre : Pth p e below S0 T43 (mkF m 190 #[.val (.int ctl), .val (.int t1), .val (.int t2), .val (.int t3), .val (.int qq), .val (.long vv), .second, .val (.int nn), .val (.int sz), .val (.int pk), .val (.int v1), .val (.int v2), .val (.int v3), .val (.ref b32), .val (.int (((1 : Int32) &&& (1 : Int32)) &&& (1 : Int32))), .unset] [(.int qq)]) := fun t k => pre t (by
                  show Steps p.tables e below (T43.setTop (mkF m 181 #[.val (.int ctl), .val (.int t1), .val (.int t2), .val (.int t3), .val (.int qq), .val (.long vv), .second, .val (.int nn), .val (.int sz), .val (.int pk), .val (.int v1), .val (.int v2), .val (.int v3), .val (.ref b32), .val (.int (((1 : Int32) &&& (1 : Int32)) &&& (1 : Int32))), .unset] [(.int (2 : Int32)), (.int pk)])) t
                  refine XS.icmpYes X43.here hx rfl (pc0 := 181) (pc' := 188) rfl (hb hby at_181) rfl (XT.ii_ne_t p2) (by decide) (by decide) ?_
                  show Steps p.tables e below (T43.setTop (mkF m 188 #[.val (.int ctl), .val (.int t1), .val (.int t2), .val (.int t3), .val (.int qq), .val (.long vv), .second, .val (.int nn), .val (.int sz), .val (.int pk), .val (.int v1), .val (.int v2), .val (.int v3), .val (.ref b32), .val (.int (((1 : Int32) &&& (1 : Int32)) &&& (1 : Int32))), .unset] [])) t
                  refine XS.iload X43.here hx rfl (hb hby at_188) rfl ?_
                  show Steps p.tables e below (T43.setTop (mkF m 190 #[.val (.int ctl), .val (.int t1), .val (.int t2), .val (.int t3), .val (.int qq), .val (.long vv), .second, .val (.int nn), .val (.int sz), .val (.int pk), .val (.int v1), .val (.int v2), .val (.int v3), .val (.ref b32), .val (.int (((1 : Int32) &&& (1 : Int32)) &&& (1 : Int32))), .unset] [(.int qq)])) t
                  exact k)
                exact ⟨_, pre⟩
        replace pre : Pth p e below S0 T43 (mkF m 198 #[.val (.int ctl), .val (.int t1), .val (.int t2), .val (.int t3), .val (.int qq), .val (.long vv), .second, .val (.int nn), .val (.int sz), .val (.int pk), .val (.int v1), .val (.int v2), .val (.int v3), .val (.ref b32), .val (.int (((1 : Int32) &&& (1 : Int32)) &&& (1 : Int32))), .val (.int xx)] [(.int xx), (.ref b32), (.int (((1 : Int32) &&& (1 : Int32)) &&& (1 : Int32)))]) := fun t k => pre t (by
          show Steps p.tables e below (T43.setTop (mkF m 190 #[.val (.int ctl), .val (.int t1), .val (.int t2), .val (.int t3), .val (.int qq), .val (.long vv), .second, .val (.int nn), .val (.int sz), .val (.int pk), .val (.int v1), .val (.int v2), .val (.int v3), .val (.ref b32), .val (.int (((1 : Int32) &&& (1 : Int32)) &&& (1 : Int32))), .unset] [(.int xx)])) t
          refine XS.istore X43.here hx rfl (hb hby at_190) rfl (l' := #[.val (.int ctl), .val (.int t1), .val (.int t2), .val (.int t3), .val (.int qq), .val (.long vv), .second, .val (.int nn), .val (.int sz), .val (.int pk), .val (.int v1), .val (.int v2), .val (.int v3), .val (.ref b32), .val (.int (((1 : Int32) &&& (1 : Int32)) &&& (1 : Int32))), .val (.int xx)]) rfl ?_
          show Steps p.tables e below (T43.setTop (mkF m 192 #[.val (.int ctl), .val (.int t1), .val (.int t2), .val (.int t3), .val (.int qq), .val (.long vv), .second, .val (.int nn), .val (.int sz), .val (.int pk), .val (.int v1), .val (.int v2), .val (.int v3), .val (.ref b32), .val (.int (((1 : Int32) &&& (1 : Int32)) &&& (1 : Int32))), .val (.int xx)] [])) t
          refine XS.iload X43.here hx rfl (hb hby at_192) rfl ?_
          show Steps p.tables e below (T43.setTop (mkF m 194 #[.val (.int ctl), .val (.int t1), .val (.int t2), .val (.int t3), .val (.int qq), .val (.long vv), .second, .val (.int nn), .val (.int sz), .val (.int pk), .val (.int v1), .val (.int v2), .val (.int v3), .val (.ref b32), .val (.int (((1 : Int32) &&& (1 : Int32)) &&& (1 : Int32))), .val (.int xx)] [(.int (((1 : Int32) &&& (1 : Int32)) &&& (1 : Int32)))])) t
          refine XS.aload X43.here hx rfl (hb hby at_194) rfl rfl ?_
          show Steps p.tables e below (T43.setTop (mkF m 196 #[.val (.int ctl), .val (.int t1), .val (.int t2), .val (.int t3), .val (.int qq), .val (.long vv), .second, .val (.int nn), .val (.int sz), .val (.int pk), .val (.int v1), .val (.int v2), .val (.int v3), .val (.ref b32), .val (.int (((1 : Int32) &&& (1 : Int32)) &&& (1 : Int32))), .val (.int xx)] [(.ref b32), (.int (((1 : Int32) &&& (1 : Int32)) &&& (1 : Int32)))])) t
          refine XS.iload X43.here hx rfl (hb hby at_196) rfl ?_
          show Steps p.tables e below (T43.setTop (mkF m 198 #[.val (.int ctl), .val (.int t1), .val (.int t2), .val (.int t3), .val (.int qq), .val (.long vv), .second, .val (.int nn), .val (.int sz), .val (.int pk), .val (.int v1), .val (.int v2), .val (.int v3), .val (.ref b32), .val (.int (((1 : Int32) &&& (1 : Int32)) &&& (1 : Int32))), .val (.int xx)] [(.int xx), (.ref b32), (.int (((1 : Int32) &&& (1 : Int32)) &&& (1 : Int32)))])) t
          exact k)
        obtain ⟨cq44, kq44, q44a, q44b, q44c⟩ := isOf hZ rfl hT2.2.2.2.1
        obtain ⟨_, _, ⟨T44, L44, k44, n44⟩, -, X44, ⟨Lc44, hQ44, l44, y44, z44⟩, st44⟩ := X43.virtualBack hx (y := (⟨"com/example/tagwire/tagwire/dictionary/TagTable", "get", "(I)I"⟩ : MethodName)) (z := (⟨"com/example/tagwire/tagwire/dictionary/TagTable", "get", "(I)I"⟩ : MethodName)) hown (mvT hZ (hw _ (List.mem_of_getElem? (i := 28) rfl))) (mvT hZ (hw _ (List.mem_of_getElem? (i := 29) rfl))) (notFace_of_selects (args := #[]) (mvT hZ (hw _ (List.mem_of_getElem? (i := 31) rfl)))) (mvT hZ (hw _ (List.mem_of_getElem? (i := 31) rfl))) (mvT hZ (hw _ (List.mem_of_getElem? (i := 30) rfl))) (by decide) (backOf (W := 1) (rm_get l Z a0 hw [] b32 xx r sz cn2 C f2 _ n0 hT2 hexz) hZ (hw _ (List.mem_of_getElem? (i := 32) rfl)) (hw _ (List.mem_of_getElem? (i := 3) rfl)) (by decide) (by decide)) q44a q44c (g := (mkF m 198 #[.val (.int ctl), .val (.int t1), .val (.int t2), .val (.int t3), .val (.int qq), .val (.long vv), .second, .val (.int nn), .val (.int sz), .val (.int pk), .val (.int v1), .val (.int v2), .val (.int v3), .val (.ref b32), .val (.int (((1 : Int32) &&& (1 : Int32)) &&& (1 : Int32))), .val (.int xx)] [(.int xx), (.ref b32), (.int (((1 : Int32) &&& (1 : Int32)) &&& (1 : Int32)))])) rfl (by rw [hml]; rfl) (Steps.refl _) (argsL := [(.int xx)]) (rest := [(.int (((1 : Int32) &&& (1 : Int32)) &&& (1 : Int32)))]) (lenOf pd__I_I rfl) rfl (by show 2 * 0 + _ ≤ _; exact Nat.le_of_eq rfl) (hb hby at_198) (fun _ _ => ⟨rfl, rfl, (by decide : 2 + 0 ≤ _), (by decide : 35 + 0 ≤ _)⟩)
        dsimp only [Pt.U, Pt.locs, Pt.cells, Pt.slots] at X44 l44 y44 z44 st44 hQ44
        subst l44 y44 z44
        obtain ⟨i44, rfl, N44q, e44, hi44, hs44⟩ := hQ44
        have N44 := Fr.app N43 N44q
        replace pre : Pth p e below S0 T44 (mkF m 201 #[.val (.int ctl), .val (.int t1), .val (.int t2), .val (.int t3), .val (.int qq), .val (.long vv), .second, .val (.int nn), .val (.int sz), .val (.int pk), .val (.int v1), .val (.int v2), .val (.int v3), .val (.ref b32), .val (.int (((1 : Int32) &&& (1 : Int32)) &&& (1 : Int32))), .val (.int xx)] [(.int (f2 (2 * i44 + 1) - 1)), (.int (((1 : Int32) &&& (1 : Int32)) &&& (1 : Int32)))]) := fun t k => pre t (st44.trans k)
        replace pre : Pth p e below S0 T44 (mkF m 214 #[.val (.int ctl), .val (.int t1), .val (.int t2), .val (.int t3), .val (.int qq), .val (.long vv), .second, .val (.int nn), .val (.int sz), .val (.int pk), .val (.int v1), .val (.int v2), .val (.int v3), .val (.ref b32), .val (.int (((1 : Int32) &&& (1 : Int32)) &&& (1 : Int32))), .val (.int xx)] [(.int xx), (.int v3), (.int t3), (.int v2), (.int t2), (.int v1), (.int t1), (.int nn), (.int (f2 (2 * i44 + 1) - 1)), (.int (((1 : Int32) &&& (1 : Int32)) &&& (1 : Int32)))]) := fun t k => pre t (by
          show Steps p.tables e below (T44.setTop (mkF m 201 #[.val (.int ctl), .val (.int t1), .val (.int t2), .val (.int t3), .val (.int qq), .val (.long vv), .second, .val (.int nn), .val (.int sz), .val (.int pk), .val (.int v1), .val (.int v2), .val (.int v3), .val (.ref b32), .val (.int (((1 : Int32) &&& (1 : Int32)) &&& (1 : Int32))), .val (.int xx)] [(.int (f2 (2 * i44 + 1) - 1)), (.int (((1 : Int32) &&& (1 : Int32)) &&& (1 : Int32)))])) t
          refine XS.iload X44.here hx rfl (hb hby at_201) rfl ?_
          show Steps p.tables e below (T44.setTop (mkF m 203 #[.val (.int ctl), .val (.int t1), .val (.int t2), .val (.int t3), .val (.int qq), .val (.long vv), .second, .val (.int nn), .val (.int sz), .val (.int pk), .val (.int v1), .val (.int v2), .val (.int v3), .val (.ref b32), .val (.int (((1 : Int32) &&& (1 : Int32)) &&& (1 : Int32))), .val (.int xx)] [(.int nn), (.int (f2 (2 * i44 + 1) - 1)), (.int (((1 : Int32) &&& (1 : Int32)) &&& (1 : Int32)))])) t
          refine XS.iloadN X44.here hx rfl (hb hby at_203) rfl ?_
          show Steps p.tables e below (T44.setTop (mkF m 204 #[.val (.int ctl), .val (.int t1), .val (.int t2), .val (.int t3), .val (.int qq), .val (.long vv), .second, .val (.int nn), .val (.int sz), .val (.int pk), .val (.int v1), .val (.int v2), .val (.int v3), .val (.ref b32), .val (.int (((1 : Int32) &&& (1 : Int32)) &&& (1 : Int32))), .val (.int xx)] [(.int t1), (.int nn), (.int (f2 (2 * i44 + 1) - 1)), (.int (((1 : Int32) &&& (1 : Int32)) &&& (1 : Int32)))])) t
          refine XS.iload X44.here hx rfl (hb hby at_204) rfl ?_
          show Steps p.tables e below (T44.setTop (mkF m 206 #[.val (.int ctl), .val (.int t1), .val (.int t2), .val (.int t3), .val (.int qq), .val (.long vv), .second, .val (.int nn), .val (.int sz), .val (.int pk), .val (.int v1), .val (.int v2), .val (.int v3), .val (.ref b32), .val (.int (((1 : Int32) &&& (1 : Int32)) &&& (1 : Int32))), .val (.int xx)] [(.int v1), (.int t1), (.int nn), (.int (f2 (2 * i44 + 1) - 1)), (.int (((1 : Int32) &&& (1 : Int32)) &&& (1 : Int32)))])) t
          refine XS.iloadN X44.here hx rfl (hb hby at_206) rfl ?_
          show Steps p.tables e below (T44.setTop (mkF m 207 #[.val (.int ctl), .val (.int t1), .val (.int t2), .val (.int t3), .val (.int qq), .val (.long vv), .second, .val (.int nn), .val (.int sz), .val (.int pk), .val (.int v1), .val (.int v2), .val (.int v3), .val (.ref b32), .val (.int (((1 : Int32) &&& (1 : Int32)) &&& (1 : Int32))), .val (.int xx)] [(.int t2), (.int v1), (.int t1), (.int nn), (.int (f2 (2 * i44 + 1) - 1)), (.int (((1 : Int32) &&& (1 : Int32)) &&& (1 : Int32)))])) t
          refine XS.iload X44.here hx rfl (hb hby at_207) rfl ?_
          show Steps p.tables e below (T44.setTop (mkF m 209 #[.val (.int ctl), .val (.int t1), .val (.int t2), .val (.int t3), .val (.int qq), .val (.long vv), .second, .val (.int nn), .val (.int sz), .val (.int pk), .val (.int v1), .val (.int v2), .val (.int v3), .val (.ref b32), .val (.int (((1 : Int32) &&& (1 : Int32)) &&& (1 : Int32))), .val (.int xx)] [(.int v2), (.int t2), (.int v1), (.int t1), (.int nn), (.int (f2 (2 * i44 + 1) - 1)), (.int (((1 : Int32) &&& (1 : Int32)) &&& (1 : Int32)))])) t
          refine XS.iloadN X44.here hx rfl (hb hby at_209) rfl ?_
          show Steps p.tables e below (T44.setTop (mkF m 210 #[.val (.int ctl), .val (.int t1), .val (.int t2), .val (.int t3), .val (.int qq), .val (.long vv), .second, .val (.int nn), .val (.int sz), .val (.int pk), .val (.int v1), .val (.int v2), .val (.int v3), .val (.ref b32), .val (.int (((1 : Int32) &&& (1 : Int32)) &&& (1 : Int32))), .val (.int xx)] [(.int t3), (.int v2), (.int t2), (.int v1), (.int t1), (.int nn), (.int (f2 (2 * i44 + 1) - 1)), (.int (((1 : Int32) &&& (1 : Int32)) &&& (1 : Int32)))])) t
          refine XS.iload X44.here hx rfl (hb hby at_210) rfl ?_
          show Steps p.tables e below (T44.setTop (mkF m 212 #[.val (.int ctl), .val (.int t1), .val (.int t2), .val (.int t3), .val (.int qq), .val (.long vv), .second, .val (.int nn), .val (.int sz), .val (.int pk), .val (.int v1), .val (.int v2), .val (.int v3), .val (.ref b32), .val (.int (((1 : Int32) &&& (1 : Int32)) &&& (1 : Int32))), .val (.int xx)] [(.int v3), (.int t3), (.int v2), (.int t2), (.int v1), (.int t1), (.int nn), (.int (f2 (2 * i44 + 1) - 1)), (.int (((1 : Int32) &&& (1 : Int32)) &&& (1 : Int32)))])) t
          refine XS.iload X44.here hx rfl (hb hby at_212) rfl ?_
          show Steps p.tables e below (T44.setTop (mkF m 214 #[.val (.int ctl), .val (.int t1), .val (.int t2), .val (.int t3), .val (.int qq), .val (.long vv), .second, .val (.int nn), .val (.int sz), .val (.int pk), .val (.int v1), .val (.int v2), .val (.int v3), .val (.ref b32), .val (.int (((1 : Int32) &&& (1 : Int32)) &&& (1 : Int32))), .val (.int xx)] [(.int xx), (.int v3), (.int t3), (.int v2), (.int t2), (.int v1), (.int t1), (.int nn), (.int (f2 (2 * i44 + 1) - 1)), (.int (((1 : Int32) &&& (1 : Int32)) &&& (1 : Int32)))])) t
          exact k)
        obtain ⟨_, _, ⟨T45, L45, k45, n45⟩, -, X45, ⟨Lc45, hQ45, l45, y45, z45⟩, st45⟩ := Jvm.LawKit.callS X44 hx (y := (⟨"com/example/tagwire/tagwire/dictionary/TagTableGetPinLaw", "expected", "(IIIIIIII)I"⟩ : MethodName)) hown (mvT hZ (hw _ (List.mem_of_getElem? (i := 38) rfl))) (mvT hZ (hw _ (List.mem_of_getElem? (i := 39) rfl))) (mvT hZ (hw _ (List.mem_of_getElem? (i := 40) rfl))) (mvT hZ (hw _ (List.mem_of_getElem? (i := 41) rfl))) (by decide) (backOf (W := 2) (rm_exp l Z a0 hw [] nn t1 v1 t2 v2 t3 v3 xx _ n0) hZ (hw _ (List.mem_of_getElem? (i := 41) rfl)) (hw _ (List.mem_of_getElem? (i := 40) rfl)) (by decide) (by decide)) (g := (mkF m 214 #[.val (.int ctl), .val (.int t1), .val (.int t2), .val (.int t3), .val (.int qq), .val (.long vv), .second, .val (.int nn), .val (.int sz), .val (.int pk), .val (.int v1), .val (.int v2), .val (.int v3), .val (.ref b32), .val (.int (((1 : Int32) &&& (1 : Int32)) &&& (1 : Int32))), .val (.int xx)] [(.int xx), (.int v3), (.int t3), (.int v2), (.int t2), (.int v1), (.int t1), (.int nn), (.int (f2 (2 * i44 + 1) - 1)), (.int (((1 : Int32) &&& (1 : Int32)) &&& (1 : Int32)))])) rfl (by rw [hml]; rfl) (argsL := [(.int nn), (.int t1), (.int v1), (.int t2), (.int v2), (.int t3), (.int v3), (.int xx)]) (rest := [(.int (f2 (2 * i44 + 1) - 1)), (.int (((1 : Int32) &&& (1 : Int32)) &&& (1 : Int32)))]) (lenOf pd__IIIIIIII_I rfl) rfl (by show 2 * 0 + _ ≤ _; exact Nat.le_of_eq rfl) (hb hby at_214) (fun _ _ => ⟨rfl, e44, (by decide : 2 + 0 ≤ _), (by decide : 35 + 0 ≤ _)⟩)
        dsimp only [Pt.U, Pt.locs, Pt.cells, Pt.slots] at X45 l45 y45 z45 st45 hQ45
        subst l45 y45 z45
        obtain ⟨rfl, N45q, e45⟩ := hQ45
        have N45 := Fr.app N44 N45q
        replace pre : Pth p e below S0 T45 (mkF m 217 #[.val (.int ctl), .val (.int t1), .val (.int t2), .val (.int t3), .val (.int qq), .val (.long vv), .second, .val (.int nn), .val (.int sz), .val (.int pk), .val (.int v1), .val (.int v2), .val (.int v3), .val (.ref b32), .val (.int (((1 : Int32) &&& (1 : Int32)) &&& (1 : Int32))), .val (.int xx)] [(.int (own_exp nn t1 v1 t2 v2 t3 v3 xx)), (.int (f2 (2 * i44 + 1) - 1)), (.int (((1 : Int32) &&& (1 : Int32)) &&& (1 : Int32)))]) := fun t k => pre t (st45 _ k)
        replace pre : Pth p e below S0 T45 (mkF m 234 #[.val (.int ctl), .val (.int t1), .val (.int t2), .val (.int t3), .val (.int qq), .val (.long vv), .second, .val (.int nn), .val (.int sz), .val (.int pk), .val (.int v1), .val (.int v2), .val (.int v3), .val (.ref b32), .val (.int ((((1 : Int32) &&& (1 : Int32)) &&& (1 : Int32)) &&& (1 : Int32))), .val (.int xx)] [(.int qq), (.ref b32), (.int ((((1 : Int32) &&& (1 : Int32)) &&& (1 : Int32)) &&& (1 : Int32)))]) := fun t k => pre t (by
          show Steps p.tables e below (T45.setTop (mkF m 217 #[.val (.int ctl), .val (.int t1), .val (.int t2), .val (.int t3), .val (.int qq), .val (.long vv), .second, .val (.int nn), .val (.int sz), .val (.int pk), .val (.int v1), .val (.int v2), .val (.int v3), .val (.ref b32), .val (.int (((1 : Int32) &&& (1 : Int32)) &&& (1 : Int32))), .val (.int xx)] [(.int (own_exp nn t1 v1 t2 v2 t3 v3 xx)), (.int (f2 (2 * i44 + 1) - 1)), (.int (((1 : Int32) &&& (1 : Int32)) &&& (1 : Int32)))])) t
          refine XS.icmpNo X45.here hx rfl (hb hby at_217) rfl (XT.ii_ne_f (by rw [tb2.2.2 _ _ hi44 hs44]; exact own_g2 n1 n2 n3 w1)) ?_
          show Steps p.tables e below (T45.setTop (mkF m 220 #[.val (.int ctl), .val (.int t1), .val (.int t2), .val (.int t3), .val (.int qq), .val (.long vv), .second, .val (.int nn), .val (.int sz), .val (.int pk), .val (.int v1), .val (.int v2), .val (.int v3), .val (.ref b32), .val (.int (((1 : Int32) &&& (1 : Int32)) &&& (1 : Int32))), .val (.int xx)] [(.int (((1 : Int32) &&& (1 : Int32)) &&& (1 : Int32)))])) t
          refine XS.iconst X45.here hx rfl (hb hby at_220) ?_
          show Steps p.tables e below (T45.setTop (mkF m 221 #[.val (.int ctl), .val (.int t1), .val (.int t2), .val (.int t3), .val (.int qq), .val (.long vv), .second, .val (.int nn), .val (.int sz), .val (.int pk), .val (.int v1), .val (.int v2), .val (.int v3), .val (.ref b32), .val (.int (((1 : Int32) &&& (1 : Int32)) &&& (1 : Int32))), .val (.int xx)] [(.int (1 : Int32)), (.int (((1 : Int32) &&& (1 : Int32)) &&& (1 : Int32)))])) t
          refine XS.goto X45.here hx rfl (pc0 := 221) (pc' := 225) rfl (hb hby at_221) (by decide) (by decide) ?_
          show Steps p.tables e below (T45.setTop (mkF m 225 #[.val (.int ctl), .val (.int t1), .val (.int t2), .val (.int t3), .val (.int qq), .val (.long vv), .second, .val (.int nn), .val (.int sz), .val (.int pk), .val (.int v1), .val (.int v2), .val (.int v3), .val (.ref b32), .val (.int (((1 : Int32) &&& (1 : Int32)) &&& (1 : Int32))), .val (.int xx)] [(.int (1 : Int32)), (.int (((1 : Int32) &&& (1 : Int32)) &&& (1 : Int32)))])) t
          refine XS.iand X45.here hx rfl (hb hby at_225) rfl ?_
          show Steps p.tables e below (T45.setTop (mkF m 226 #[.val (.int ctl), .val (.int t1), .val (.int t2), .val (.int t3), .val (.int qq), .val (.long vv), .second, .val (.int nn), .val (.int sz), .val (.int pk), .val (.int v1), .val (.int v2), .val (.int v3), .val (.ref b32), .val (.int (((1 : Int32) &&& (1 : Int32)) &&& (1 : Int32))), .val (.int xx)] [(.int ((((1 : Int32) &&& (1 : Int32)) &&& (1 : Int32)) &&& (1 : Int32)))])) t
          refine XS.istore X45.here hx rfl (hb hby at_226) rfl (l' := #[.val (.int ctl), .val (.int t1), .val (.int t2), .val (.int t3), .val (.int qq), .val (.long vv), .second, .val (.int nn), .val (.int sz), .val (.int pk), .val (.int v1), .val (.int v2), .val (.int v3), .val (.ref b32), .val (.int ((((1 : Int32) &&& (1 : Int32)) &&& (1 : Int32)) &&& (1 : Int32))), .val (.int xx)]) rfl ?_
          show Steps p.tables e below (T45.setTop (mkF m 228 #[.val (.int ctl), .val (.int t1), .val (.int t2), .val (.int t3), .val (.int qq), .val (.long vv), .second, .val (.int nn), .val (.int sz), .val (.int pk), .val (.int v1), .val (.int v2), .val (.int v3), .val (.ref b32), .val (.int ((((1 : Int32) &&& (1 : Int32)) &&& (1 : Int32)) &&& (1 : Int32))), .val (.int xx)] [])) t
          refine XS.iload X45.here hx rfl (hb hby at_228) rfl ?_
          show Steps p.tables e below (T45.setTop (mkF m 230 #[.val (.int ctl), .val (.int t1), .val (.int t2), .val (.int t3), .val (.int qq), .val (.long vv), .second, .val (.int nn), .val (.int sz), .val (.int pk), .val (.int v1), .val (.int v2), .val (.int v3), .val (.ref b32), .val (.int ((((1 : Int32) &&& (1 : Int32)) &&& (1 : Int32)) &&& (1 : Int32))), .val (.int xx)] [(.int ((((1 : Int32) &&& (1 : Int32)) &&& (1 : Int32)) &&& (1 : Int32)))])) t
          refine XS.aload X45.here hx rfl (hb hby at_230) rfl rfl ?_
          show Steps p.tables e below (T45.setTop (mkF m 232 #[.val (.int ctl), .val (.int t1), .val (.int t2), .val (.int t3), .val (.int qq), .val (.long vv), .second, .val (.int nn), .val (.int sz), .val (.int pk), .val (.int v1), .val (.int v2), .val (.int v3), .val (.ref b32), .val (.int ((((1 : Int32) &&& (1 : Int32)) &&& (1 : Int32)) &&& (1 : Int32))), .val (.int xx)] [(.ref b32), (.int ((((1 : Int32) &&& (1 : Int32)) &&& (1 : Int32)) &&& (1 : Int32)))])) t
          refine XS.iload X45.here hx rfl (hb hby at_232) rfl ?_
          show Steps p.tables e below (T45.setTop (mkF m 234 #[.val (.int ctl), .val (.int t1), .val (.int t2), .val (.int t3), .val (.int qq), .val (.long vv), .second, .val (.int nn), .val (.int sz), .val (.int pk), .val (.int v1), .val (.int v2), .val (.int v3), .val (.ref b32), .val (.int ((((1 : Int32) &&& (1 : Int32)) &&& (1 : Int32)) &&& (1 : Int32))), .val (.int xx)] [(.int qq), (.ref b32), (.int ((((1 : Int32) &&& (1 : Int32)) &&& (1 : Int32)) &&& (1 : Int32)))])) t
          exact k)
        obtain ⟨cq46, kq46, q46a, q46b, q46c⟩ := isOf hZ e45 hT2.2.2.2.1
        obtain ⟨_, _, ⟨T46, L46, k46, n46⟩, -, X46, ⟨Lc46, hQ46, l46, y46, z46⟩, st46⟩ := X45.virtualBack hx (y := (⟨"com/example/tagwire/tagwire/dictionary/TagTable", "get", "(I)I"⟩ : MethodName)) (z := (⟨"com/example/tagwire/tagwire/dictionary/TagTable", "get", "(I)I"⟩ : MethodName)) hown (mvT hZ (hw _ (List.mem_of_getElem? (i := 28) rfl))) (mvT hZ (hw _ (List.mem_of_getElem? (i := 29) rfl))) (notFace_of_selects (args := #[]) (mvT hZ (hw _ (List.mem_of_getElem? (i := 31) rfl)))) (mvT hZ (hw _ (List.mem_of_getElem? (i := 31) rfl))) (mvT hZ (hw _ (List.mem_of_getElem? (i := 30) rfl))) (by decide) (backOf (W := 1) (rm_get l Z a0 hw [] b32 qq r sz cn2 C f2 _ n0 hT2 hexz) hZ (hw _ (List.mem_of_getElem? (i := 32) rfl)) (hw _ (List.mem_of_getElem? (i := 3) rfl)) (by decide) (by decide)) q46a q46c (g := (mkF m 234 #[.val (.int ctl), .val (.int t1), .val (.int t2), .val (.int t3), .val (.int qq), .val (.long vv), .second, .val (.int nn), .val (.int sz), .val (.int pk), .val (.int v1), .val (.int v2), .val (.int v3), .val (.ref b32), .val (.int ((((1 : Int32) &&& (1 : Int32)) &&& (1 : Int32)) &&& (1 : Int32))), .val (.int xx)] [(.int qq), (.ref b32), (.int ((((1 : Int32) &&& (1 : Int32)) &&& (1 : Int32)) &&& (1 : Int32)))])) rfl (by rw [hml]; rfl) (Steps.refl _) (argsL := [(.int qq)]) (rest := [(.int ((((1 : Int32) &&& (1 : Int32)) &&& (1 : Int32)) &&& (1 : Int32)))]) (lenOf pd__I_I rfl) rfl (by show 2 * 0 + _ ≤ _; exact Nat.le_of_eq rfl) (hb hby at_234) (fun _ _ => ⟨rfl, e45, (by decide : 2 + 0 ≤ _), (by decide : 35 + 0 ≤ _)⟩)
        dsimp only [Pt.U, Pt.locs, Pt.cells, Pt.slots] at X46 l46 y46 z46 st46 hQ46
        subst l46 y46 z46
        obtain ⟨i46, rfl, N46q, e46, hi46, hs46⟩ := hQ46
        have N46 := Fr.app N45 N46q
        replace pre : Pth p e below S0 T46 (mkF m 237 #[.val (.int ctl), .val (.int t1), .val (.int t2), .val (.int t3), .val (.int qq), .val (.long vv), .second, .val (.int nn), .val (.int sz), .val (.int pk), .val (.int v1), .val (.int v2), .val (.int v3), .val (.ref b32), .val (.int ((((1 : Int32) &&& (1 : Int32)) &&& (1 : Int32)) &&& (1 : Int32))), .val (.int xx)] [(.int (f2 (2 * i46 + 1) - 1)), (.int ((((1 : Int32) &&& (1 : Int32)) &&& (1 : Int32)) &&& (1 : Int32)))]) := fun t k => pre t (st46.trans k)
        replace pre : Pth p e below S0 T46 (mkF m 250 #[.val (.int ctl), .val (.int t1), .val (.int t2), .val (.int t3), .val (.int qq), .val (.long vv), .second, .val (.int nn), .val (.int sz), .val (.int pk), .val (.int v1), .val (.int v2), .val (.int v3), .val (.ref b32), .val (.int ((((1 : Int32) &&& (1 : Int32)) &&& (1 : Int32)) &&& (1 : Int32))), .val (.int xx)] [(.int qq), (.int v3), (.int t3), (.int v2), (.int t2), (.int v1), (.int t1), (.int nn), (.int (f2 (2 * i46 + 1) - 1)), (.int ((((1 : Int32) &&& (1 : Int32)) &&& (1 : Int32)) &&& (1 : Int32)))]) := fun t k => pre t (by
          show Steps p.tables e below (T46.setTop (mkF m 237 #[.val (.int ctl), .val (.int t1), .val (.int t2), .val (.int t3), .val (.int qq), .val (.long vv), .second, .val (.int nn), .val (.int sz), .val (.int pk), .val (.int v1), .val (.int v2), .val (.int v3), .val (.ref b32), .val (.int ((((1 : Int32) &&& (1 : Int32)) &&& (1 : Int32)) &&& (1 : Int32))), .val (.int xx)] [(.int (f2 (2 * i46 + 1) - 1)), (.int ((((1 : Int32) &&& (1 : Int32)) &&& (1 : Int32)) &&& (1 : Int32)))])) t
          refine XS.iload X46.here hx rfl (hb hby at_237) rfl ?_
          show Steps p.tables e below (T46.setTop (mkF m 239 #[.val (.int ctl), .val (.int t1), .val (.int t2), .val (.int t3), .val (.int qq), .val (.long vv), .second, .val (.int nn), .val (.int sz), .val (.int pk), .val (.int v1), .val (.int v2), .val (.int v3), .val (.ref b32), .val (.int ((((1 : Int32) &&& (1 : Int32)) &&& (1 : Int32)) &&& (1 : Int32))), .val (.int xx)] [(.int nn), (.int (f2 (2 * i46 + 1) - 1)), (.int ((((1 : Int32) &&& (1 : Int32)) &&& (1 : Int32)) &&& (1 : Int32)))])) t
          refine XS.iloadN X46.here hx rfl (hb hby at_239) rfl ?_
          show Steps p.tables e below (T46.setTop (mkF m 240 #[.val (.int ctl), .val (.int t1), .val (.int t2), .val (.int t3), .val (.int qq), .val (.long vv), .second, .val (.int nn), .val (.int sz), .val (.int pk), .val (.int v1), .val (.int v2), .val (.int v3), .val (.ref b32), .val (.int ((((1 : Int32) &&& (1 : Int32)) &&& (1 : Int32)) &&& (1 : Int32))), .val (.int xx)] [(.int t1), (.int nn), (.int (f2 (2 * i46 + 1) - 1)), (.int ((((1 : Int32) &&& (1 : Int32)) &&& (1 : Int32)) &&& (1 : Int32)))])) t
          refine XS.iload X46.here hx rfl (hb hby at_240) rfl ?_
          show Steps p.tables e below (T46.setTop (mkF m 242 #[.val (.int ctl), .val (.int t1), .val (.int t2), .val (.int t3), .val (.int qq), .val (.long vv), .second, .val (.int nn), .val (.int sz), .val (.int pk), .val (.int v1), .val (.int v2), .val (.int v3), .val (.ref b32), .val (.int ((((1 : Int32) &&& (1 : Int32)) &&& (1 : Int32)) &&& (1 : Int32))), .val (.int xx)] [(.int v1), (.int t1), (.int nn), (.int (f2 (2 * i46 + 1) - 1)), (.int ((((1 : Int32) &&& (1 : Int32)) &&& (1 : Int32)) &&& (1 : Int32)))])) t
          refine XS.iloadN X46.here hx rfl (hb hby at_242) rfl ?_
          show Steps p.tables e below (T46.setTop (mkF m 243 #[.val (.int ctl), .val (.int t1), .val (.int t2), .val (.int t3), .val (.int qq), .val (.long vv), .second, .val (.int nn), .val (.int sz), .val (.int pk), .val (.int v1), .val (.int v2), .val (.int v3), .val (.ref b32), .val (.int ((((1 : Int32) &&& (1 : Int32)) &&& (1 : Int32)) &&& (1 : Int32))), .val (.int xx)] [(.int t2), (.int v1), (.int t1), (.int nn), (.int (f2 (2 * i46 + 1) - 1)), (.int ((((1 : Int32) &&& (1 : Int32)) &&& (1 : Int32)) &&& (1 : Int32)))])) t
          refine XS.iload X46.here hx rfl (hb hby at_243) rfl ?_
          show Steps p.tables e below (T46.setTop (mkF m 245 #[.val (.int ctl), .val (.int t1), .val (.int t2), .val (.int t3), .val (.int qq), .val (.long vv), .second, .val (.int nn), .val (.int sz), .val (.int pk), .val (.int v1), .val (.int v2), .val (.int v3), .val (.ref b32), .val (.int ((((1 : Int32) &&& (1 : Int32)) &&& (1 : Int32)) &&& (1 : Int32))), .val (.int xx)] [(.int v2), (.int t2), (.int v1), (.int t1), (.int nn), (.int (f2 (2 * i46 + 1) - 1)), (.int ((((1 : Int32) &&& (1 : Int32)) &&& (1 : Int32)) &&& (1 : Int32)))])) t
          refine XS.iloadN X46.here hx rfl (hb hby at_245) rfl ?_
          show Steps p.tables e below (T46.setTop (mkF m 246 #[.val (.int ctl), .val (.int t1), .val (.int t2), .val (.int t3), .val (.int qq), .val (.long vv), .second, .val (.int nn), .val (.int sz), .val (.int pk), .val (.int v1), .val (.int v2), .val (.int v3), .val (.ref b32), .val (.int ((((1 : Int32) &&& (1 : Int32)) &&& (1 : Int32)) &&& (1 : Int32))), .val (.int xx)] [(.int t3), (.int v2), (.int t2), (.int v1), (.int t1), (.int nn), (.int (f2 (2 * i46 + 1) - 1)), (.int ((((1 : Int32) &&& (1 : Int32)) &&& (1 : Int32)) &&& (1 : Int32)))])) t
          refine XS.iload X46.here hx rfl (hb hby at_246) rfl ?_
          show Steps p.tables e below (T46.setTop (mkF m 248 #[.val (.int ctl), .val (.int t1), .val (.int t2), .val (.int t3), .val (.int qq), .val (.long vv), .second, .val (.int nn), .val (.int sz), .val (.int pk), .val (.int v1), .val (.int v2), .val (.int v3), .val (.ref b32), .val (.int ((((1 : Int32) &&& (1 : Int32)) &&& (1 : Int32)) &&& (1 : Int32))), .val (.int xx)] [(.int v3), (.int t3), (.int v2), (.int t2), (.int v1), (.int t1), (.int nn), (.int (f2 (2 * i46 + 1) - 1)), (.int ((((1 : Int32) &&& (1 : Int32)) &&& (1 : Int32)) &&& (1 : Int32)))])) t
          refine XS.iload X46.here hx rfl (hb hby at_248) rfl ?_
          show Steps p.tables e below (T46.setTop (mkF m 250 #[.val (.int ctl), .val (.int t1), .val (.int t2), .val (.int t3), .val (.int qq), .val (.long vv), .second, .val (.int nn), .val (.int sz), .val (.int pk), .val (.int v1), .val (.int v2), .val (.int v3), .val (.ref b32), .val (.int ((((1 : Int32) &&& (1 : Int32)) &&& (1 : Int32)) &&& (1 : Int32))), .val (.int xx)] [(.int qq), (.int v3), (.int t3), (.int v2), (.int t2), (.int v1), (.int t1), (.int nn), (.int (f2 (2 * i46 + 1) - 1)), (.int ((((1 : Int32) &&& (1 : Int32)) &&& (1 : Int32)) &&& (1 : Int32)))])) t
          exact k)
        obtain ⟨_, _, ⟨T47, L47, k47, n47⟩, -, X47, ⟨Lc47, hQ47, l47, y47, z47⟩, st47⟩ := Jvm.LawKit.callS X46 hx (y := (⟨"com/example/tagwire/tagwire/dictionary/TagTableGetPinLaw", "expected", "(IIIIIIII)I"⟩ : MethodName)) hown (mvT hZ (hw _ (List.mem_of_getElem? (i := 38) rfl))) (mvT hZ (hw _ (List.mem_of_getElem? (i := 39) rfl))) (mvT hZ (hw _ (List.mem_of_getElem? (i := 40) rfl))) (mvT hZ (hw _ (List.mem_of_getElem? (i := 41) rfl))) (by decide) (backOf (W := 2) (rm_exp l Z a0 hw [] nn t1 v1 t2 v2 t3 v3 qq _ n0) hZ (hw _ (List.mem_of_getElem? (i := 41) rfl)) (hw _ (List.mem_of_getElem? (i := 40) rfl)) (by decide) (by decide)) (g := (mkF m 250 #[.val (.int ctl), .val (.int t1), .val (.int t2), .val (.int t3), .val (.int qq), .val (.long vv), .second, .val (.int nn), .val (.int sz), .val (.int pk), .val (.int v1), .val (.int v2), .val (.int v3), .val (.ref b32), .val (.int ((((1 : Int32) &&& (1 : Int32)) &&& (1 : Int32)) &&& (1 : Int32))), .val (.int xx)] [(.int qq), (.int v3), (.int t3), (.int v2), (.int t2), (.int v1), (.int t1), (.int nn), (.int (f2 (2 * i46 + 1) - 1)), (.int ((((1 : Int32) &&& (1 : Int32)) &&& (1 : Int32)) &&& (1 : Int32)))])) rfl (by rw [hml]; rfl) (argsL := [(.int nn), (.int t1), (.int v1), (.int t2), (.int v2), (.int t3), (.int v3), (.int qq)]) (rest := [(.int (f2 (2 * i46 + 1) - 1)), (.int ((((1 : Int32) &&& (1 : Int32)) &&& (1 : Int32)) &&& (1 : Int32)))]) (lenOf pd__IIIIIIII_I rfl) rfl (by show 2 * 0 + _ ≤ _; exact Nat.le_of_eq rfl) (hb hby at_250) (fun _ _ => ⟨rfl, e46, (by decide : 2 + 0 ≤ _), (by decide : 35 + 0 ≤ _)⟩)
        dsimp only [Pt.U, Pt.locs, Pt.cells, Pt.slots] at X47 l47 y47 z47 st47 hQ47
        subst l47 y47 z47
        obtain ⟨rfl, N47q, e47⟩ := hQ47
        have N47 := Fr.app N46 N47q
        replace pre : Pth p e below S0 T47 (mkF m 253 #[.val (.int ctl), .val (.int t1), .val (.int t2), .val (.int t3), .val (.int qq), .val (.long vv), .second, .val (.int nn), .val (.int sz), .val (.int pk), .val (.int v1), .val (.int v2), .val (.int v3), .val (.ref b32), .val (.int ((((1 : Int32) &&& (1 : Int32)) &&& (1 : Int32)) &&& (1 : Int32))), .val (.int xx)] [(.int (own_exp nn t1 v1 t2 v2 t3 v3 qq)), (.int (f2 (2 * i46 + 1) - 1)), (.int ((((1 : Int32) &&& (1 : Int32)) &&& (1 : Int32)) &&& (1 : Int32)))]) := fun t k => pre t (st47 _ k)
        replace pre : Pth p e below S0 T47 (mkF m 266 #[.val (.int ctl), .val (.int t1), .val (.int t2), .val (.int t3), .val (.int qq), .val (.long vv), .second, .val (.int nn), .val (.int sz), .val (.int pk), .val (.int v1), .val (.int v2), .val (.int v3), .val (.ref b32), .val (.int (((((1 : Int32) &&& (1 : Int32)) &&& (1 : Int32)) &&& (1 : Int32)) &&& (1 : Int32))), .val (.int xx)] [(.int (((((1 : Int32) &&& (1 : Int32)) &&& (1 : Int32)) &&& (1 : Int32)) &&& (1 : Int32)))]) := fun t k => pre t (by
          show Steps p.tables e below (T47.setTop (mkF m 253 #[.val (.int ctl), .val (.int t1), .val (.int t2), .val (.int t3), .val (.int qq), .val (.long vv), .second, .val (.int nn), .val (.int sz), .val (.int pk), .val (.int v1), .val (.int v2), .val (.int v3), .val (.ref b32), .val (.int ((((1 : Int32) &&& (1 : Int32)) &&& (1 : Int32)) &&& (1 : Int32))), .val (.int xx)] [(.int (own_exp nn t1 v1 t2 v2 t3 v3 qq)), (.int (f2 (2 * i46 + 1) - 1)), (.int ((((1 : Int32) &&& (1 : Int32)) &&& (1 : Int32)) &&& (1 : Int32)))])) t
          refine XS.icmpNo X47.here hx rfl (hb hby at_253) rfl (XT.ii_ne_f (by rw [tb2.2.2 _ _ hi46 hs46]; exact own_g2 n1 n2 n3 w1)) ?_
          show Steps p.tables e below (T47.setTop (mkF m 256 #[.val (.int ctl), .val (.int t1), .val (.int t2), .val (.int t3), .val (.int qq), .val (.long vv), .second, .val (.int nn), .val (.int sz), .val (.int pk), .val (.int v1), .val (.int v2), .val (.int v3), .val (.ref b32), .val (.int ((((1 : Int32) &&& (1 : Int32)) &&& (1 : Int32)) &&& (1 : Int32))), .val (.int xx)] [(.int ((((1 : Int32) &&& (1 : Int32)) &&& (1 : Int32)) &&& (1 : Int32)))])) t
          refine XS.iconst X47.here hx rfl (hb hby at_256) ?_
          show Steps p.tables e below (T47.setTop (mkF m 257 #[.val (.int ctl), .val (.int t1), .val (.int t2), .val (.int t3), .val (.int qq), .val (.long vv), .second, .val (.int nn), .val (.int sz), .val (.int pk), .val (.int v1), .val (.int v2), .val (.int v3), .val (.ref b32), .val (.int ((((1 : Int32) &&& (1 : Int32)) &&& (1 : Int32)) &&& (1 : Int32))), .val (.int xx)] [(.int (1 : Int32)), (.int ((((1 : Int32) &&& (1 : Int32)) &&& (1 : Int32)) &&& (1 : Int32)))])) t
          refine XS.goto X47.here hx rfl (pc0 := 257) (pc' := 261) rfl (hb hby at_257) (by decide) (by decide) ?_
          show Steps p.tables e below (T47.setTop (mkF m 261 #[.val (.int ctl), .val (.int t1), .val (.int t2), .val (.int t3), .val (.int qq), .val (.long vv), .second, .val (.int nn), .val (.int sz), .val (.int pk), .val (.int v1), .val (.int v2), .val (.int v3), .val (.ref b32), .val (.int ((((1 : Int32) &&& (1 : Int32)) &&& (1 : Int32)) &&& (1 : Int32))), .val (.int xx)] [(.int (1 : Int32)), (.int ((((1 : Int32) &&& (1 : Int32)) &&& (1 : Int32)) &&& (1 : Int32)))])) t
          refine XS.iand X47.here hx rfl (hb hby at_261) rfl ?_
          show Steps p.tables e below (T47.setTop (mkF m 262 #[.val (.int ctl), .val (.int t1), .val (.int t2), .val (.int t3), .val (.int qq), .val (.long vv), .second, .val (.int nn), .val (.int sz), .val (.int pk), .val (.int v1), .val (.int v2), .val (.int v3), .val (.ref b32), .val (.int ((((1 : Int32) &&& (1 : Int32)) &&& (1 : Int32)) &&& (1 : Int32))), .val (.int xx)] [(.int (((((1 : Int32) &&& (1 : Int32)) &&& (1 : Int32)) &&& (1 : Int32)) &&& (1 : Int32)))])) t
          refine XS.istore X47.here hx rfl (hb hby at_262) rfl (l' := #[.val (.int ctl), .val (.int t1), .val (.int t2), .val (.int t3), .val (.int qq), .val (.long vv), .second, .val (.int nn), .val (.int sz), .val (.int pk), .val (.int v1), .val (.int v2), .val (.int v3), .val (.ref b32), .val (.int (((((1 : Int32) &&& (1 : Int32)) &&& (1 : Int32)) &&& (1 : Int32)) &&& (1 : Int32))), .val (.int xx)]) rfl ?_
          show Steps p.tables e below (T47.setTop (mkF m 264 #[.val (.int ctl), .val (.int t1), .val (.int t2), .val (.int t3), .val (.int qq), .val (.long vv), .second, .val (.int nn), .val (.int sz), .val (.int pk), .val (.int v1), .val (.int v2), .val (.int v3), .val (.ref b32), .val (.int (((((1 : Int32) &&& (1 : Int32)) &&& (1 : Int32)) &&& (1 : Int32)) &&& (1 : Int32))), .val (.int xx)] [])) t
          refine XS.iload X47.here hx rfl (hb hby at_264) rfl ?_
          show Steps p.tables e below (T47.setTop (mkF m 266 #[.val (.int ctl), .val (.int t1), .val (.int t2), .val (.int t3), .val (.int qq), .val (.long vv), .second, .val (.int nn), .val (.int sz), .val (.int pk), .val (.int v1), .val (.int v2), .val (.int v3), .val (.ref b32), .val (.int (((((1 : Int32) &&& (1 : Int32)) &&& (1 : Int32)) &&& (1 : Int32)) &&& (1 : Int32))), .val (.int xx)] [(.int (((((1 : Int32) &&& (1 : Int32)) &&& (1 : Int32)) &&& (1 : Int32)) &&& (1 : Int32)))])) t
          exact k)
        obtain ⟨fs, hr, hrun, hended, hW, hsame⟩ := X47.leave (v := some (.int (nar .boolean (((((1 : Int32) &&& (1 : Int32)) &&& (1 : Int32)) &&& (1 : Int32)) &&& (1 : Int32))))) (fun h => by rw [Bd.returns] at h; cases h)
        subst hS0
        refine ⟨_, _, pre _ ?_, hrun, hended, _, _, rfl, ?_, ⟨_, rfl⟩, hW, hsame.mono (by decide) (by decide)⟩
        · exact retN X47 hx (t := .boolean) Bd.returns (by simp) (hb hby at_266) hr
        · show Q_law Z ctl t1 t2 t3 qq vv h0 n0 _ T47.heap _
          rw [e47]
          exact ⟨by decide, N47⟩
      · replace pre : Pth p e below S0 T43 (mkF m 123 #[.val (.int ctl), .val (.int t1), .val (.int t2), .val (.int t3), .val (.int qq), .val (.long vv), .second, .val (.int nn), .val (.int sz), .val (.int pk), .val (.int v1), .val (.int v2), .val (.int v3), .val (.ref b32), .val (.int (((1 : Int32) &&& (1 : Int32)) &&& (1 : Int32))), .unset] []) := fun t k => pre t (by
          show Steps p.tables e below (T43.setTop (mkF m 120 #[.val (.int ctl), .val (.int t1), .val (.int t2), .val (.int t3), .val (.int qq), .val (.long vv), .second, .val (.int nn), .val (.int sz), .val (.int pk), .val (.int v1), .val (.int v2), .val (.int v3), .val (.ref b32), .val (.int (((1 : Int32) &&& (1 : Int32)) &&& (1 : Int32))), .unset] [(.int (3 : Int32)), (.int nn)])) t
          refine XS.icmpNo X43.here hx rfl (hb hby at_120) rfl (XT.ii_lt_f n3) ?_
          show Steps p.tables e below (T43.setTop (mkF m 123 #[.val (.int ctl), .val (.int t1), .val (.int t2), .val (.int t3), .val (.int qq), .val (.long vv), .second, .val (.int nn), .val (.int sz), .val (.int pk), .val (.int v1), .val (.int v2), .val (.int v3), .val (.ref b32), .val (.int (((1 : Int32) &&& (1 : Int32)) &&& (1 : Int32))), .unset] [])) t
          exact k)
        have nz3 : 3 ≤ nn.toInt := own_ge3 n3
        replace pre : Pth p e below S0 T43 (mkF m 130 #[.val (.int ctl), .val (.int t1), .val (.int t2), .val (.int t3), .val (.int qq), .val (.long vv), .second, .val (.int nn), .val (.int sz), .val (.int pk), .val (.int v1), .val (.int v2), .val (.int v3), .val (.ref b32), .val (.int (((1 : Int32) &&& (1 : Int32)) &&& (1 : Int32))), .unset] [(.int v3), (.int t3), (.ref b32), (.int (((1 : Int32) &&& (1 : Int32)) &&& (1 : Int32)))]) := fun t k => pre t (by
          show Steps p.tables e below (T43.setTop (mkF m 123 #[.val (.int ctl), .val (.int t1), .val (.int t2), .val (.int t3), .val (.int qq), .val (.long vv), .second, .val (.int nn), .val (.int sz), .val (.int pk), .val (.int v1), .val (.int v2), .val (.int v3), .val (.ref b32), .val (.int (((1 : Int32) &&& (1 : Int32)) &&& (1 : Int32))), .unset] [])) t
          refine XS.iload X43.here hx rfl (hb hby at_123) rfl ?_
          show Steps p.tables e below (T43.setTop (mkF m 125 #[.val (.int ctl), .val (.int t1), .val (.int t2), .val (.int t3), .val (.int qq), .val (.long vv), .second, .val (.int nn), .val (.int sz), .val (.int pk), .val (.int v1), .val (.int v2), .val (.int v3), .val (.ref b32), .val (.int (((1 : Int32) &&& (1 : Int32)) &&& (1 : Int32))), .unset] [(.int (((1 : Int32) &&& (1 : Int32)) &&& (1 : Int32)))])) t
          refine XS.aload X43.here hx rfl (hb hby at_125) rfl rfl ?_
          show Steps p.tables e below (T43.setTop (mkF m 127 #[.val (.int ctl), .val (.int t1), .val (.int t2), .val (.int t3), .val (.int qq), .val (.long vv), .second, .val (.int nn), .val (.int sz), .val (.int pk), .val (.int v1), .val (.int v2), .val (.int v3), .val (.ref b32), .val (.int (((1 : Int32) &&& (1 : Int32)) &&& (1 : Int32))), .unset] [(.ref b32), (.int (((1 : Int32) &&& (1 : Int32)) &&& (1 : Int32)))])) t
          refine XS.iloadN X43.here hx rfl (hb hby at_127) rfl ?_
          show Steps p.tables e below (T43.setTop (mkF m 128 #[.val (.int ctl), .val (.int t1), .val (.int t2), .val (.int t3), .val (.int qq), .val (.long vv), .second, .val (.int nn), .val (.int sz), .val (.int pk), .val (.int v1), .val (.int v2), .val (.int v3), .val (.ref b32), .val (.int (((1 : Int32) &&& (1 : Int32)) &&& (1 : Int32))), .unset] [(.int t3), (.ref b32), (.int (((1 : Int32) &&& (1 : Int32)) &&& (1 : Int32)))])) t
          refine XS.iload X43.here hx rfl (hb hby at_128) rfl ?_
          show Steps p.tables e below (T43.setTop (mkF m 130 #[.val (.int ctl), .val (.int t1), .val (.int t2), .val (.int t3), .val (.int qq), .val (.long vv), .second, .val (.int nn), .val (.int sz), .val (.int pk), .val (.int v1), .val (.int v2), .val (.int v3), .val (.ref b32), .val (.int (((1 : Int32) &&& (1 : Int32)) &&& (1 : Int32))), .unset] [(.int v3), (.int t3), (.ref b32), (.int (((1 : Int32) &&& (1 : Int32)) &&& (1 : Int32)))])) t
          exact k)
        obtain ⟨cq48, kq48, q48a, q48b, q48c⟩ := isOf hZ rfl hT2.2.2.2.1
        obtain ⟨_, _, ⟨T48, L48, k48, n48⟩, -, X48, ⟨Lc48, hQ48, l48, y48, z48⟩, st48⟩ := X43.virtualBack hx (y := (⟨"com/example/tagwire/tagwire/dictionary/TagTable", "put", "(II)Z"⟩ : MethodName)) (z := (⟨"com/example/tagwire/tagwire/dictionary/TagTable", "put", "(II)Z"⟩ : MethodName)) hown (mvT hZ (hw _ (List.mem_of_getElem? (i := 42) rfl))) (mvT hZ (hw _ (List.mem_of_getElem? (i := 43) rfl))) (notFace_of_selects (args := #[]) (mvT hZ (hw _ (List.mem_of_getElem? (i := 45) rfl)))) (mvT hZ (hw _ (List.mem_of_getElem? (i := 45) rfl))) (mvT hZ (hw _ (List.mem_of_getElem? (i := 44) rfl))) (by decide) (backOf (W := 1) (rm_put l Z a0 hw [] b32 t3 v3 r sz cn2 C f2 _ n0 gb gr hT2 (OOcc.ex tb2.1 (by omega : 2 < C)) (fun q => by have q' := congrArg Int32.toInt q; have z : (0 : Int32).toInt = 0 := rfl; omega)) hZ (hw _ (List.mem_of_getElem? (i := 46) rfl)) (hw _ (List.mem_of_getElem? (i := 3) rfl)) (by decide) (by decide)) q48a q48c (g := (mkF m 130 #[.val (.int ctl), .val (.int t1), .val (.int t2), .val (.int t3), .val (.int qq), .val (.long vv), .second, .val (.int nn), .val (.int sz), .val (.int pk), .val (.int v1), .val (.int v2), .val (.int v3), .val (.ref b32), .val (.int (((1 : Int32) &&& (1 : Int32)) &&& (1 : Int32))), .unset] [(.int v3), (.int t3), (.ref b32), (.int (((1 : Int32) &&& (1 : Int32)) &&& (1 : Int32)))])) rfl (by rw [hml]; rfl) (Steps.refl _) (argsL := [(.int t3), (.int v3)]) (rest := [(.int (((1 : Int32) &&& (1 : Int32)) &&& (1 : Int32)))]) (lenOf pd__II_Z rfl) rfl (by show 2 * 0 + _ ≤ _; exact Nat.le_of_eq rfl) (hb hby at_130) (fun _ _ => ⟨rfl, rfl, (by decide : 2 + 0 ≤ _), (by decide : 35 + 0 ≤ _)⟩)
        dsimp only [Pt.U, Pt.locs, Pt.cells, Pt.slots] at X48 l48 y48 z48 st48 hQ48
        subst l48 y48 z48
        obtain ⟨rr3, cn3, f3, rfl, N48q, hs48, hT3, hp3, hcn3⟩ := hQ48
        have N48 := Fr.app N43 N48q
        replace pre : Pth p e below S0 T48 (mkF m 133 #[.val (.int ctl), .val (.int t1), .val (.int t2), .val (.int t3), .val (.int qq), .val (.long vv), .second, .val (.int nn), .val (.int sz), .val (.int pk), .val (.int v1), .val (.int v2), .val (.int v3), .val (.ref b32), .val (.int (((1 : Int32) &&& (1 : Int32)) &&& (1 : Int32))), .unset] [(.int rr3), (.int (((1 : Int32) &&& (1 : Int32)) &&& (1 : Int32)))]) := fun t k => pre t (st48.trans k)
        obtain ⟨hr3, tb3⟩ := own_put hH tb2 (by omega : 2 < C) w3 hp3
        replace pre : Pth p e below S0 T48 (mkF m 135 #[.val (.int ctl), .val (.int t1), .val (.int t2), .val (.int t3), .val (.int qq), .val (.long vv), .second, .val (.int nn), .val (.int sz), .val (.int pk), .val (.int v1), .val (.int v2), .val (.int v3), .val (.ref b32), .val (.int (((1 : Int32) &&& (1 : Int32)) &&& (1 : Int32))), .unset] [(.int t1), (.int t3), (.int rr3), (.int (((1 : Int32) &&& (1 : Int32)) &&& (1 : Int32)))]) := fun t k => pre t (by
          show Steps p.tables e below (T48.setTop (mkF m 133 #[.val (.int ctl), .val (.int t1), .val (.int t2), .val (.int t3), .val (.int qq), .val (.long vv), .second, .val (.int nn), .val (.int sz), .val (.int pk), .val (.int v1), .val (.int v2), .val (.int v3), .val (.ref b32), .val (.int (((1 : Int32) &&& (1 : Int32)) &&& (1 : Int32))), .unset] [(.int rr3), (.int (((1 : Int32) &&& (1 : Int32)) &&& (1 : Int32)))])) t
          refine XS.iloadN X48.here hx rfl (hb hby at_133) rfl ?_
          show Steps p.tables e below (T48.setTop (mkF m 134 #[.val (.int ctl), .val (.int t1), .val (.int t2), .val (.int t3), .val (.int qq), .val (.long vv), .second, .val (.int nn), .val (.int sz), .val (.int pk), .val (.int v1), .val (.int v2), .val (.int v3), .val (.ref b32), .val (.int (((1 : Int32) &&& (1 : Int32)) &&& (1 : Int32))), .unset] [(.int t3), (.int rr3), (.int (((1 : Int32) &&& (1 : Int32)) &&& (1 : Int32)))])) t
          refine XS.iloadN X48.here hx rfl (hb hby at_134) rfl ?_
          show Steps p.tables e below (T48.setTop (mkF m 135 #[.val (.int ctl), .val (.int t1), .val (.int t2), .val (.int t3), .val (.int qq), .val (.long vv), .second, .val (.int nn), .val (.int sz), .val (.int pk), .val (.int v1), .val (.int v2), .val (.int v3), .val (.ref b32), .val (.int (((1 : Int32) &&& (1 : Int32)) &&& (1 : Int32))), .unset] [(.int t1), (.int t3), (.int rr3), (.int (((1 : Int32) &&& (1 : Int32)) &&& (1 : Int32)))])) t
          exact k)
        obtain ⟨x3, hx3, pre⟩ : ∃ x3 : Int32, x3 = (if t3 = t1 then 0 else if t3 = t2 then 0 else 1) ∧ Pth p e below S0 T48 (mkF m 148 #[.val (.int ctl), .val (.int t1), .val (.int t2), .val (.int t3), .val (.int qq), .val (.long vv), .second, .val (.int nn), .val (.int sz), .val (.int pk), .val (.int v1), .val (.int v2), .val (.int v3), .val (.ref b32), .val (.int (((1 : Int32) &&& (1 : Int32)) &&& (1 : Int32))), .unset] [(.int x3), (.int rr3), (.int (((1 : Int32) &&& (1 : Int32)) &&& (1 : Int32)))]) := by
          by_cases q1 : t3 = t1
          · replace pre : Pth p e below S0 T48 (mkF m 148 #[.val (.int ctl), .val (.int t1), .val (.int t2), .val (.int t3), .val (.int qq), .val (.long vv), .second, .val (.int nn), .val (.int sz), .val (.int pk), .val (.int v1), .val (.int v2), .val (.int v3), .val (.ref b32), .val (.int (((1 : Int32) &&& (1 : Int32)) &&& (1 : Int32))), .unset] [(.int (0 : Int32)), (.int rr3), (.int (((1 : Int32) &&& (1 : Int32)) &&& (1 : Int32)))]) := fun t k => pre t (by
              show Steps p.tables e below (T48.setTop (mkF m 135 #[.val (.int ctl), .val (.int t1), .val (.int t2), .val (.int t3), .val (.int qq), .val (.long vv), .second, .val (.int nn), .val (.int sz), .val (.int pk), .val (.int v1), .val (.int v2), .val (.int v3), .val (.ref b32), .val (.int (((1 : Int32) &&& (1 : Int32)) &&& (1 : Int32))), .unset] [(.int t1), (.int t3), (.int rr3), (.int (((1 : Int32) &&& (1 : Int32)) &&& (1 : Int32)))])) t
              refine XS.icmpYes X48.here hx rfl (pc0 := 135) (pc' := 147) rfl (hb hby at_135) rfl (XT.ii_eq_t q1) (by decide) (by decide) ?_
              show Steps p.tables e below (T48.setTop (mkF m 147 #[.val (.int ctl), .val (.int t1), .val (.int t2), .val (.int t3), .val (.int qq), .val (.long vv), .second, .val (.int nn), .val (.int sz), .val (.int pk), .val (.int v1), .val (.int v2), .val (.int v3), .val (.ref b32), .val (.int (((1 : Int32) &&& (1 : Int32)) &&& (1 : Int32))), .unset] [(.int rr3), (.int (((1 : Int32) &&& (1 : Int32)) &&& (1 : Int32)))])) t
              refine XS.iconst X48.here hx rfl (hb hby at_147) ?_
              show Steps p.tables e below (T48.setTop (mkF m 148 #[.val (.int ctl), .val (.int t1), .val (.int t2), .val (.int t3), .val (.int qq), .val (.long vv), .second, .val (.int nn), .val (.int sz), .val (.int pk), .val (.int v1), .val (.int v2), .val (.int v3), .val (.ref b32), .val (.int (((1 : Int32) &&& (1 : Int32)) &&& (1 : Int32))), .unset] [(.int (0 : Int32)), (.int rr3), (.int (((1 : Int32) &&& (1 : Int32)) &&& (1 : Int32)))])) t
              exact k)
            exact ⟨_, (if_pos q1).symm, pre⟩
          · replace pre : Pth p e below S0 T48 (mkF m 140 #[.val (.int ctl), .val (.int t1), .val (.int t2), .val (.int t3), .val (.int qq), .val (.long vv), .second, .val (.int nn), .val (.int sz), .val (.int pk), .val (.int v1), .val (.int v2), .val (.int v3), .val (.ref b32), .val (.int (((1 : Int32) &&& (1 : Int32)) &&& (1 : Int32))), .unset] [(.int t2), (.int t3), (.int rr3), (.int (((1 : Int32) &&& (1 : Int32)) &&& (1 : Int32)))]) := fun t k => pre t (by
              show Steps p.tables e below (T48.setTop (mkF m 135 #[.val (.int ctl), .val (.int t1), .val (.int t2), .val (.int t3), .val (.int qq), .val (.long vv), .second, .val (.int nn), .val (.int sz), .val (.int pk), .val (.int v1), .val (.int v2), .val (.int v3), .val (.ref b32), .val (.int (((1 : Int32) &&& (1 : Int32)) &&& (1 : Int32))), .unset] [(.int t1), (.int t3), (.int rr3), (.int (((1 : Int32) &&& (1 : Int32)) &&& (1 : Int32)))])) t
              refine XS.icmpNo X48.here hx rfl (hb hby at_135) rfl (XT.ii_eq_f q1) ?_
              show Steps p.tables e below (T48.setTop (mkF m 138 #[.val (.int ctl), .val (.int t1), .val (.int t2), .val (.int t3), .val (.int qq), .val (.long vv), .second, .val (.int nn), .val (.int sz), .val (.int pk), .val (.int v1), .val (.int v2), .val (.int v3), .val (.ref b32), .val (.int (((1 : Int32) &&& (1 : Int32)) &&& (1 : Int32))), .unset] [(.int rr3), (.int (((1 : Int32) &&& (1 : Int32)) &&& (1 : Int32)))])) t
              refine XS.iloadN X48.here hx rfl (hb hby at_138) rfl ?_
              show Steps p.tables e below (T48.setTop (mkF m 139 #[.val (.int ctl), .val (.int t1), .val (.int t2), .val (.int t3), .val (.int qq), .val (.long vv), .second, .val (.int nn), .val (.int sz), .val (.int pk), .val (.int v1), .val (.int v2), .val (.int v3), .val (.ref b32), .val (.int (((1 : Int32) &&& (1 : Int32)) &&& (1 : Int32))), .unset] [(.int t3), (.int rr3), (.int (((1 : Int32) &&& (1 : Int32)) &&& (1 : Int32)))])) t
              refine XS.iloadN X48.here hx rfl (hb hby at_139) rfl ?_
              show Steps p.tables e below (T48.setTop (mkF m 140 #[.val (.int ctl), .val (.int t1), .val (.int t2), .val (.int t3), .val (.int qq), .val (.long vv), .second, .val (.int nn), .val (.int sz), .val (.int pk), .val (.int v1), .val (.int v2), .val (.int v3), .val (.ref b32), .val (.int (((1 : Int32) &&& (1 : Int32)) &&& (1 : Int32))), .unset] [(.int t2), (.int t3), (.int rr3), (.int (((1 : Int32) &&& (1 : Int32)) &&& (1 : Int32)))])) t
              exact k)
            by_cases q2 : t3 = t2
            · replace pre : Pth p e below S0 T48 (mkF m 148 #[.val (.int ctl), .val (.int t1), .val (.int t2), .val (.int t3), .val (.int qq), .val (.long vv), .second, .val (.int nn), .val (.int sz), .val (.int pk), .val (.int v1), .val (.int v2), .val (.int v3), .val (.ref b32), .val (.int (((1 : Int32) &&& (1 : Int32)) &&& (1 : Int32))), .unset] [(.int (0 : Int32)), (.int rr3), (.int (((1 : Int32) &&& (1 : Int32)) &&& (1 : Int32)))]) := fun t k => pre t (by
                show Steps p.tables e below (T48.setTop (mkF m 140 #[.val (.int ctl), .val (.int t1), .val (.int t2), .val (.int t3), .val (.int qq), .val (.long vv), .second, .val (.int nn), .val (.int sz), .val (.int pk), .val (.int v1), .val (.int v2), .val (.int v3), .val (.ref b32), .val (.int (((1 : Int32) &&& (1 : Int32)) &&& (1 : Int32))), .unset] [(.int t2), (.int t3), (.int rr3), (.int (((1 : Int32) &&& (1 : Int32)) &&& (1 : Int32)))])) t
                refine XS.icmpYes X48.here hx rfl (pc0 := 140) (pc' := 147) rfl (hb hby at_140) rfl (XT.ii_eq_t q2) (by decide) (by decide) ?_
                show Steps p.tables e below (T48.setTop (mkF m 147 #[.val (.int ctl), .val (.int t1), .val (.int t2), .val (.int t3), .val (.int qq), .val (.long vv), .second, .val (.int nn), .val (.int sz), .val (.int pk), .val (.int v1), .val (.int v2), .val (.int v3), .val (.ref b32), .val (.int (((1 : Int32) &&& (1 : Int32)) &&& (1 : Int32))), .unset] [(.int rr3), (.int (((1 : Int32) &&& (1 : Int32)) &&& (1 : Int32)))])) t
                refine XS.iconst X48.here hx rfl (hb hby at_147) ?_
                show Steps p.tables e below (T48.setTop (mkF m 148 #[.val (.int ctl), .val (.int t1), .val (.int t2), .val (.int t3), .val (.int qq), .val (.long vv), .second, .val (.int nn), .val (.int sz), .val (.int pk), .val (.int v1), .val (.int v2), .val (.int v3), .val (.ref b32), .val (.int (((1 : Int32) &&& (1 : Int32)) &&& (1 : Int32))), .unset] [(.int (0 : Int32)), (.int rr3), (.int (((1 : Int32) &&& (1 : Int32)) &&& (1 : Int32)))])) t
                exact k)
              exact ⟨_, by rw [if_neg q1, if_pos q2], pre⟩
            · replace pre : Pth p e below S0 T48 (mkF m 148 #[.val (.int ctl), .val (.int t1), .val (.int t2), .val (.int t3), .val (.int qq), .val (.long vv), .second, .val (.int nn), .val (.int sz), .val (.int pk), .val (.int v1), .val (.int v2), .val (.int v3), .val (.ref b32), .val (.int (((1 : Int32) &&& (1 : Int32)) &&& (1 : Int32))), .unset] [(.int (1 : Int32)), (.int rr3), (.int (((1 : Int32) &&& (1 : Int32)) &&& (1 : Int32)))]) := fun t k => pre t (by
                show Steps p.tables e below (T48.setTop (mkF m 140 #[.val (.int ctl), .val (.int t1), .val (.int t2), .val (.int t3), .val (.int qq), .val (.long vv), .second, .val (.int nn), .val (.int sz), .val (.int pk), .val (.int v1), .val (.int v2), .val (.int v3), .val (.ref b32), .val (.int (((1 : Int32) &&& (1 : Int32)) &&& (1 : Int32))), .unset] [(.int t2), (.int t3), (.int rr3), (.int (((1 : Int32) &&& (1 : Int32)) &&& (1 : Int32)))])) t
                refine XS.icmpNo X48.here hx rfl (hb hby at_140) rfl (XT.ii_eq_f q2) ?_
                show Steps p.tables e below (T48.setTop (mkF m 143 #[.val (.int ctl), .val (.int t1), .val (.int t2), .val (.int t3), .val (.int qq), .val (.long vv), .second, .val (.int nn), .val (.int sz), .val (.int pk), .val (.int v1), .val (.int v2), .val (.int v3), .val (.ref b32), .val (.int (((1 : Int32) &&& (1 : Int32)) &&& (1 : Int32))), .unset] [(.int rr3), (.int (((1 : Int32) &&& (1 : Int32)) &&& (1 : Int32)))])) t
                refine XS.iconst X48.here hx rfl (hb hby at_143) ?_
                show Steps p.tables e below (T48.setTop (mkF m 144 #[.val (.int ctl), .val (.int t1), .val (.int t2), .val (.int t3), .val (.int qq), .val (.long vv), .second, .val (.int nn), .val (.int sz), .val (.int pk), .val (.int v1), .val (.int v2), .val (.int v3), .val (.ref b32), .val (.int (((1 : Int32) &&& (1 : Int32)) &&& (1 : Int32))), .unset] [(.int (1 : Int32)), (.int rr3), (.int (((1 : Int32) &&& (1 : Int32)) &&& (1 : Int32)))])) t
                refine XS.goto X48.here hx rfl (pc0 := 144) (pc' := 148) rfl (hb hby at_144) (by decide) (by decide) ?_
                show Steps p.tables e below (T48.setTop (mkF m 148 #[.val (.int ctl), .val (.int t1), .val (.int t2), .val (.int t3), .val (.int qq), .val (.long vv), .second, .val (.int nn), .val (.int sz), .val (.int pk), .val (.int v1), .val (.int v2), .val (.int v3), .val (.ref b32), .val (.int (((1 : Int32) &&& (1 : Int32)) &&& (1 : Int32))), .unset] [(.int (1 : Int32)), (.int rr3), (.int (((1 : Int32) &&& (1 : Int32)) &&& (1 : Int32)))])) t
                exact k)
              exact ⟨_, by rw [if_neg q1, if_neg q2], pre⟩
        replace pre : Pth p e below S0 T48 (mkF m 159 #[.val (.int ctl), .val (.int t1), .val (.int t2), .val (.int t3), .val (.int qq), .val (.long vv), .second, .val (.int nn), .val (.int sz), .val (.int pk), .val (.int v1), .val (.int v2), .val (.int v3), .val (.ref b32), .val (.int ((((1 : Int32) &&& (1 : Int32)) &&& (1 : Int32)) &&& (1 : Int32))), .unset] []) := fun t k => pre t (by
          show Steps p.tables e below (T48.setTop (mkF m 148 #[.val (.int ctl), .val (.int t1), .val (.int t2), .val (.int t3), .val (.int qq), .val (.long vv), .second, .val (.int nn), .val (.int sz), .val (.int pk), .val (.int v1), .val (.int v2), .val (.int v3), .val (.ref b32), .val (.int (((1 : Int32) &&& (1 : Int32)) &&& (1 : Int32))), .unset] [(.int x3), (.int rr3), (.int (((1 : Int32) &&& (1 : Int32)) &&& (1 : Int32)))])) t
          refine XS.icmpNo X48.here hx rfl (hb hby at_148) rfl (XT.ii_ne_f (own_r3 w1 w2 hr3 hx3)) ?_
          show Steps p.tables e below (T48.setTop (mkF m 151 #[.val (.int ctl), .val (.int t1), .val (.int t2), .val (.int t3), .val (.int qq), .val (.long vv), .second, .val (.int nn), .val (.int sz), .val (.int pk), .val (.int v1), .val (.int v2), .val (.int v3), .val (.ref b32), .val (.int (((1 : Int32) &&& (1 : Int32)) &&& (1 : Int32))), .unset] [(.int (((1 : Int32) &&& (1 : Int32)) &&& (1 : Int32)))])) t
          refine XS.iconst X48.here hx rfl (hb hby at_151) ?_
          show Steps p.tables e below (T48.setTop (mkF m 152 #[.val (.int ctl), .val (.int t1), .val (.int t2), .val (.int t3), .val (.int qq), .val (.long vv), .second, .val (.int nn), .val (.int sz), .val (.int pk), .val (.int v1), .val (.int v2), .val (.int v3), .val (.ref b32), .val (.int (((1 : Int32) &&& (1 : Int32)) &&& (1 : Int32))), .unset] [(.int (1 : Int32)), (.int (((1 : Int32) &&& (1 : Int32)) &&& (1 : Int32)))])) t
          refine XS.goto X48.here hx rfl (pc0 := 152) (pc' := 156) rfl (hb hby at_152) (by decide) (by decide) ?_
          show Steps p.tables e below (T48.setTop (mkF m 156 #[.val (.int ctl), .val (.int t1), .val (.int t2), .val (.int t3), .val (.int qq), .val (.long vv), .second, .val (.int nn), .val (.int sz), .val (.int pk), .val (.int v1), .val (.int v2), .val (.int v3), .val (.ref b32), .val (.int (((1 : Int32) &&& (1 : Int32)) &&& (1 : Int32))), .unset] [(.int (1 : Int32)), (.int (((1 : Int32) &&& (1 : Int32)) &&& (1 : Int32)))])) t
          refine XS.iand X48.here hx rfl (hb hby at_156) rfl ?_
          show Steps p.tables e below (T48.setTop (mkF m 157 #[.val (.int ctl), .val (.int t1), .val (.int t2), .val (.int t3), .val (.int qq), .val (.long vv), .second, .val (.int nn), .val (.int sz), .val (.int pk), .val (.int v1), .val (.int v2), .val (.int v3), .val (.ref b32), .val (.int (((1 : Int32) &&& (1 : Int32)) &&& (1 : Int32))), .unset] [(.int ((((1 : Int32) &&& (1 : Int32)) &&& (1 : Int32)) &&& (1 : Int32)))])) t
          refine XS.istore X48.here hx rfl (hb hby at_157) rfl (l' := #[.val (.int ctl), .val (.int t1), .val (.int t2), .val (.int t3), .val (.int qq), .val (.long vv), .second, .val (.int nn), .val (.int sz), .val (.int pk), .val (.int v1), .val (.int v2), .val (.int v3), .val (.ref b32), .val (.int ((((1 : Int32) &&& (1 : Int32)) &&& (1 : Int32)) &&& (1 : Int32))), .unset]) rfl ?_
          show Steps p.tables e below (T48.setTop (mkF m 159 #[.val (.int ctl), .val (.int t1), .val (.int t2), .val (.int t3), .val (.int qq), .val (.long vv), .second, .val (.int nn), .val (.int sz), .val (.int pk), .val (.int v1), .val (.int v2), .val (.int v3), .val (.ref b32), .val (.int ((((1 : Int32) &&& (1 : Int32)) &&& (1 : Int32)) &&& (1 : Int32))), .unset] [])) t
          exact k)
        have hexz := OOcc.ex tb3.1 (by omega : 3 < C)
        obtain ⟨xx, pre⟩ : ∃ xx : Int32, Pth p e below S0 T48 (mkF m 190 #[.val (.int ctl), .val (.int t1), .val (.int t2), .val (.int t3), .val (.int qq), .val (.long vv), .second, .val (.int nn), .val (.int sz), .val (.int pk), .val (.int v1), .val (.int v2), .val (.int v3), .val (.ref b32), .val (.int ((((1 : Int32) &&& (1 : Int32)) &&& (1 : Int32)) &&& (1 : Int32))), .unset] [(.int xx)]) := by
          replace pre : Pth p e below S0 T48 (mkF m 161 #[.val (.int ctl), .val (.int t1), .val (.int t2), .val (.int t3), .val (.int qq), .val (.long vv), .second, .val (.int nn), .val (.int sz), .val (.int pk), .val (.int v1), .val (.int v2), .val (.int v3), .val (.ref b32), .val (.int ((((1 : Int32) &&& (1 : Int32)) &&& (1 : Int32)) &&& (1 : Int32))), .unset] [(.int pk)]) := fun t k => pre t (by
            show Steps p.tables e below (T48.setTop (mkF m 159 #[.val (.int ctl), .val (.int t1), .val (.int t2), .val (.int t3), .val (.int qq), .val (.long vv), .second, .val (.int nn), .val (.int sz), .val (.int pk), .val (.int v1), .val (.int v2), .val (.int v3), .val (.ref b32), .val (.int ((((1 : Int32) &&& (1 : Int32)) &&& (1 : Int32)) &&& (1 : Int32))), .unset] [])) t
            refine XS.iload X48.here hx rfl (hb hby at_159) rfl ?_
            show Steps p.tables e below (T48.setTop (mkF m 161 #[.val (.int ctl), .val (.int t1), .val (.int t2), .val (.int t3), .val (.int qq), .val (.long vv), .second, .val (.int nn), .val (.int sz), .val (.int pk), .val (.int v1), .val (.int v2), .val (.int v3), .val (.ref b32), .val (.int ((((1 : Int32) &&& (1 : Int32)) &&& (1 : Int32)) &&& (1 : Int32))), .unset] [(.int pk)])) t
            exact k)
          by_cases p0 : pk = (0 : Int32)
          · replace pre : Pth p e below S0 T48 (mkF m 190 #[.val (.int ctl), .val (.int t1), .val (.int t2), .val (.int t3), .val (.int qq), .val (.long vv), .second, .val (.int nn), .val (.int sz), .val (.int pk), .val (.int v1), .val (.int v2), .val (.int v3), .val (.ref b32), .val (.int ((((1 : Int32) &&& (1 : Int32)) &&& (1 : Int32)) &&& (1 : Int32))), .unset] [(.int t1)]) := fun t k => pre t (by
              show Steps p.tables e below (T48.setTop (mkF m 161 #[.val (.int ctl), .val (.int t1), .val (.int t2), .val (.int t3), .val (.int qq), .val (.long vv), .second, .val (.int nn), .val (.int sz), .val (.int pk), .val (.int v1), .val (.int v2), .val (.int v3), .val (.ref b32), .val (.int ((((1 : Int32) &&& (1 : Int32)) &&& (1 : Int32)) &&& (1 : Int32))), .unset] [(.int pk)])) t
              refine XS.ifNo X48.here hx rfl (hb hby at_161) rfl (XT.i0_ne_f p0) ?_
              show Steps p.tables e below (T48.setTop (mkF m 164 #[.val (.int ctl), .val (.int t1), .val (.int t2), .val (.int t3), .val (.int qq), .val (.long vv), .second, .val (.int nn), .val (.int sz), .val (.int pk), .val (.int v1), .val (.int v2), .val (.int v3), .val (.ref b32), .val (.int ((((1 : Int32) &&& (1 : Int32)) &&& (1 : Int32)) &&& (1 : Int32))), .unset] [])) t
              refine XS.iloadN X48.here hx rfl (hb hby at_164) rfl ?_
              show Steps p.tables e below (T48.setTop (mkF m 165 #[.val (.int ctl), .val (.int t1), .val (.int t2), .val (.int t3), .val (.int qq), .val (.long vv), .second, .val (.int nn), .val (.int sz), .val (.int pk), .val (.int v1), .val (.int v2), .val (.int v3), .val (.ref b32), .val (.int ((((1 : Int32) &&& (1 : Int32)) &&& (1 : Int32)) &&& (1 : Int32))), .unset] [(.int t1)])) t
              refine XS.goto X48.here hx rfl (pc0 := 165) (pc' := 190) rfl (hb hby at_165) (by decide) (by decide) ?_
              show Steps p.tables e below (T48.setTop (mkF m 190 #[.val (.int ctl), .val (.int t1), .val (.int t2), .val (.int t3), .val (.int qq), .val (.long vv), .second, .val (.int nn), .val (.int sz), .val (.int pk), .val (.int v1), .val (.int v2), .val (.int v3), .val (.ref b32), .val (.int ((((1 : Int32) &&& (1 : Int32)) &&& (1 : Int32)) &&& (1 : Int32))), .unset] [(.int t1)])) t
              exact k)
            exact ⟨_, pre⟩
          · replace pre : Pth p e below S0 T48 (mkF m 171 #[.val (.int ctl), .val (.int t1), .val (.int t2), .val (.int t3), .val (.int qq), .val (.long vv), .second, .val (.int nn), .val (.int sz), .val (.int pk), .val (.int v1), .val (.int v2), .val (.int v3), .val (.ref b32), .val (.int ((((1 : Int32) &&& (1 : Int32)) &&& (1 : Int32)) &&& (1 : Int32))), .unset] [(.int (1 : Int32)), (.int pk)]) := fun t k => pre t (by
              show Steps p.tables e below (T48.setTop (mkF m 161 #[.val (.int ctl), .val (.int t1), .val (.int t2), .val (.int t3), .val (.int qq), .val (.long vv), .second, .val (.int nn), .val (.int sz), .val (.int pk), .val (.int v1), .val (.int v2), .val (.int v3), .val (.ref b32), .val (.int ((((1 : Int32) &&& (1 : Int32)) &&& (1 : Int32)) &&& (1 : Int32))), .unset] [(.int pk)])) t
              refine XS.ifYes X48.here hx rfl (pc0 := 161) (pc' := 168) rfl (hb hby at_161) rfl (XT.i0_ne_t p0) (by decide) (by decide) ?_
              show Steps p.tables e below (T48.setTop (mkF m 168 #[.val (.int ctl), .val (.int t1), .val (.int t2), .val (.int t3), .val (.int qq), .val (.long vv), .second, .val (.int nn), .val (.int sz), .val (.int pk), .val (.int v1), .val (.int v2), .val (.int v3), .val (.ref b32), .val (.int ((((1 : Int32) &&& (1 : Int32)) &&& (1 : Int32)) &&& (1 : Int32))), .unset] [])) t
              refine XS.iload X48.here hx rfl (hb hby at_168) rfl ?_
              show Steps p.tables e below (T48.setTop (mkF m 170 #[.val (.int ctl), .val (.int t1), .val (.int t2), .val (.int t3), .val (.int qq), .val (.long vv), .second, .val (.int nn), .val (.int sz), .val (.int pk), .val (.int v1), .val (.int v2), .val (.int v3), .val (.ref b32), .val (.int ((((1 : Int32) &&& (1 : Int32)) &&& (1 : Int32)) &&& (1 : Int32))), .unset] [(.int pk)])) t
              refine XS.iconst X48.here hx rfl (hb hby at_170) ?_
              show Steps p.tables e below (T48.setTop (mkF m 171 #[.val (.int ctl), .val (.int t1), .val (.int t2), .val (.int t3), .val (.int qq), .val (.long vv), .second, .val (.int nn), .val (.int sz), .val (.int pk), .val (.int v1), .val (.int v2), .val (.int v3), .val (.ref b32), .val (.int ((((1 : Int32) &&& (1 : Int32)) &&& (1 : Int32)) &&& (1 : Int32))), .unset] [(.int (1 : Int32)), (.int pk)])) t
              exact k)
            by_cases p1 : pk = (1 : Int32)
            · replace pre : Pth p e below S0 T48 (mkF m 190 #[.val (.int ctl), .val (.int t1), .val (.int t2), .val (.int t3), .val (.int qq), .val (.long vv), .second, .val (.int nn), .val (.int sz), .val (.int pk), .val (.int v1), .val (.int v2), .val (.int v3), .val (.ref b32), .val (.int ((((1 : Int32) &&& (1 : Int32)) &&& (1 : Int32)) &&& (1 : Int32))), .unset] [(.int t2)]) := fun t k => pre t (by
                show Steps p.tables e below (T48.setTop (mkF m 171 #[.val (.int ctl), .val (.int t1), .val (.int t2), .val (.int t3), .val (.int qq), .val (.long vv), .second, .val (.int nn), .val (.int sz), .val (.int pk), .val (.int v1), .val (.int v2), .val (.int v3), .val (.ref b32), .val (.int ((((1 : Int32) &&& (1 : Int32)) &&& (1 : Int32)) &&& (1 : Int32))), .unset] [(.int (1 : Int32)), (.int pk)])) t
                refine XS.icmpNo X48.here hx rfl (hb hby at_171) rfl (XT.ii_ne_f p1) ?_
                show Steps p.tables e below (T48.setTop (mkF m 174 #[.val (.int ctl), .val (.int t1), .val (.int t2), .val (.int t3), .val (.int qq), .val (.long vv), .second, .val (.int nn), .val (.int sz), .val (.int pk), .val (.int v1), .val (.int v2), .val (.int v3), .val (.ref b32), .val (.int ((((1 : Int32) &&& (1 : Int32)) &&& (1 : Int32)) &&& (1 : Int32))), .unset] [])) t
                refine XS.iloadN X48.here hx rfl (hb hby at_174) rfl ?_
                show Steps p.tables e below (T48.setTop (mkF m 175 #[.val (.int ctl), .val (.int t1), .val (.int t2), .val (.int t3), .val (.int qq), .val (.long vv), .second, .val (.int nn), .val (.int sz), .val (.int pk), .val (.int v1), .val (.int v2), .val (.int v3), .val (.ref b32), .val (.int ((((1 : Int32) &&& (1 : Int32)) &&& (1 : Int32)) &&& (1 : Int32))), .unset] [(.int t2)])) t
                refine XS.goto X48.here hx rfl (pc0 := 175) (pc' := 190) rfl (hb hby at_175) (by decide) (by decide) ?_
                show Steps p.tables e below (T48.setTop (mkF m 190 #[.val (.int ctl), .val (.int t1), .val (.int t2), .val (.int t3), .val (.int qq), .val (.long vv), .second, .val (.int nn), .val (.int sz), .val (.int pk), .val (.int v1), .val (.int v2), .val (.int v3), .val (.ref b32), .val (.int ((((1 : Int32) &&& (1 : Int32)) &&& (1 : Int32)) &&& (1 : Int32))), .unset] [(.int t2)])) t
                exact k)
              exact ⟨_, pre⟩
            · replace pre : Pth p e below S0 T48 (mkF m 181 #[.val (.int ctl), .val (.int t1), .val (.int t2), .val (.int t3), .val (.int qq), .val (.long vv), .second, .val (.int nn), .val (.int sz), .val (.int pk), .val (.int v1), .val (.int v2), .val (.int v3), .val (.ref b32), .val (.int ((((1 : Int32) &&& (1 : Int32)) &&& (1 : Int32)) &&& (1 : Int32))), .unset] [(.int (2 : Int32)), (.int pk)]) := fun t k => pre t (by
                show Steps p.tables e below (T48.setTop (mkF m 171 #[.val (.int ctl), .val (.int t1), .val (.int t2), .val (.int t3), .val (.int qq), .val (.long vv), .second, .val (.int nn), .val (.int sz), .val (.int pk), .val (.int v1), .val (.int v2), .val (.int v3), .val (.ref b32), .val (.int ((((1 : Int32) &&& (1 : Int32)) &&& (1 : Int32)) &&& (1 : Int32))), .unset] [(.int (1 : Int32)), (.int pk)])) t
                refine XS.icmpYes X48.here hx rfl (pc0 := 171) (pc' := 178) rfl (hb hby at_171) rfl (XT.ii_ne_t p1) (by decide) (by decide) ?_
                show Steps p.tables e below (T48.setTop (mkF m 178 #[.val (.int ctl), .val (.int t1), .val (.int t2), .val (.int t3), .val (.int qq), .val (.long vv), .second, .val (.int nn), .val (.int sz), .val (.int pk), .val (.int v1), .val (.int v2), .val (.int v3), .val (.ref b32), .val (.int ((((1 : Int32) &&& (1 : Int32)) &&& (1 : Int32)) &&& (1 : Int32))), .unset] [])) t
                refine XS.iload X48.here hx rfl (hb hby at_178) rfl ?_
                show Steps p.tables e below (T48.setTop (mkF m 180 #[.val (.int ctl), .val (.int t1), .val (.int t2), .val (.int t3), .val (.int qq), .val (.long vv), .second, .val (.int nn), .val (.int sz), .val (.int pk), .val (.int v1), .val (.int v2), .val (.int v3), .val (.ref b32), .val (.int ((((1 : Int32) &&& (1 : Int32)) &&& (1 : Int32)) &&& (1 : Int32))), .unset] [(.int pk)])) t
                refine XS.iconst X48.here hx rfl (hb hby at_180) ?_
                show Steps p.tables e below (T48.setTop (mkF m 181 #[.val (.int ctl), .val (.int t1), .val (.int t2), .val (.int t3), .val (.int qq), .val (.long vv), .second, .val (.int nn), .val (.int sz), .val (.int pk), .val (.int v1), .val (.int v2), .val (.int v3), .val (.ref b32), .val (.int ((((1 : Int32) &&& (1 : Int32)) &&& (1 : Int32)) &&& (1 : Int32))), .unset] [(.int (2 : Int32)), (.int pk)])) t
                exact k)
              by_cases p2 : pk = (2 : Int32)
              · replace pre : Pth p e below S0 T48 (mkF m 190 #[.val (.int ctl), .val (.int t1), .val (.int t2), .val (.int t3), .val (.int qq), .val (.long vv), .second, .val (.int nn), .val (.int sz), .val (.int pk), .val (.int v1), .val (.int v2), .val (.int v3), .val (.ref b32), .val (.int ((((1 : Int32) &&& (1 : Int32)) &&& (1 : Int32)) &&& (1 : Int32))), .unset] [(.int t3)]) := fun t k => pre t (by
                  show Steps p.tables e below (T48.setTop (mkF m 181 #[.val (.int ctl), .val (.int t1), .val (.int t2), .val (.int t3), .val (.int qq), .val (.long vv), .second, .val (.int nn), .val (.int sz), .val (.int pk), .val (.int v1), .val (.int v2), .val (.int v3), .val (.ref b32), .val (.int ((((1 : Int32) &&& (1 : Int32)) &&& (1 : Int32)) &&& (1 : Int32))), .unset] [(.int (2 : Int32)), (.int pk)])) t
                  refine XS.icmpNo X48.here hx rfl (hb hby at_181) rfl (XT.ii_ne_f p2) ?_
                  show Steps p.tables e below (T48.setTop (mkF m 184 #[.val (.int ctl), .val (.int t1), .val (.int t2), .val (.int t3), .val (.int qq), .val (.long vv), .second, .val (.int nn), .val (.int sz), .val (.int pk), .val (.int v1), .val (.int v2), .val (.int v3), .val (.ref b32), .val (.int ((((1 : Int32) &&& (1 : Int32)) &&& (1 : Int32)) &&& (1 : Int32))), .unset] [])) t
                  refine XS.iloadN X48.here hx rfl (hb hby at_184) rfl ?_
                  show Steps p.tables e below (T48.setTop (mkF m 185 #[.val (.int ctl), .val (.int t1), .val (.int t2), .val (.int t3), .val (.int qq), .val (.long vv), .second, .val (.int nn), .val (.int sz), .val (.int pk), .val (.int v1), .val (.int v2), .val (.int v3), .val (.ref b32), .val (.int ((((1 : Int32) &&& (1 : Int32)) &&& (1 : Int32)) &&& (1 : Int32))), .unset] [(.int t3)])) t
                  refine XS.goto X48.here hx rfl (pc0 := 185) (pc' := 190) rfl (hb hby at_185) (by decide) (by decide) ?_
                  show Steps p.tables e below (T48.setTop (mkF m 190 #[.val (.int ctl), .val (.int t1), .val (.int t2), .val (.int t3), .val (.int qq), .val (.long vv), .second, .val (.int nn), .val (.int sz), .val (.int pk), .val (.int v1), .val (.int v2), .val (.int v3), .val (.ref b32), .val (.int ((((1 : Int32) &&& (1 : Int32)) &&& (1 : Int32)) &&& (1 : Int32))), .unset] [(.int t3)])) t
                  exact k)
                exact ⟨_, pre⟩
              · replace pre : Pth p e below S0 T48 (mkF m 190 #[.val (.int ctl), .val (.int t1), .val (.int t2), .val (.int t3), .val (.int qq), .val (.long vv), .second, .val (.int nn), .val (.int sz), .val (.int pk), .val (.int v1), .val (.int v2), .val (.int v3), .val (.ref b32), .val (.int ((((1 : Int32) &&& (1 : Int32)) &&& (1 : Int32)) &&& (1 : Int32))), .unset] [(.int qq)]) := fun t k => pre t (by
                  show Steps p.tables e below (T48.setTop (mkF m 181 #[.val (.int ctl), .val (.int t1), .val (.int t2), .val (.int t3), .val (.int qq), .val (.long vv), .second, .val (.int nn), .val (.int sz), .val (.int pk), .val (.int v1), .val (.int v2), .val (.int v3), .val (.ref b32), .val (.int ((((1 : Int32) &&& (1 : Int32)) &&& (1 : Int32)) &&& (1 : Int32))), .unset] [(.int (2 : Int32)), (.int pk)])) t
                  refine XS.icmpYes X48.here hx rfl (pc0 := 181) (pc' := 188) rfl (hb hby at_181) rfl (XT.ii_ne_t p2) (by decide) (by decide) ?_
                  show Steps p.tables e below (T48.setTop (mkF m 188 #[.val (.int ctl), .val (.int t1), .val (.int t2), .val (.int t3), .val (.int qq), .val (.long vv), .second, .val (.int nn), .val (.int sz), .val (.int pk), .val (.int v1), .val (.int v2), .val (.int v3), .val (.ref b32), .val (.int ((((1 : Int32) &&& (1 : Int32)) &&& (1 : Int32)) &&& (1 : Int32))), .unset] [])) t
                  refine XS.iload X48.here hx rfl (hb hby at_188) rfl ?_
                  show Steps p.tables e below (T48.setTop (mkF m 190 #[.val (.int ctl), .val (.int t1), .val (.int t2), .val (.int t3), .val (.int qq), .val (.long vv), .second, .val (.int nn), .val (.int sz), .val (.int pk), .val (.int v1), .val (.int v2), .val (.int v3), .val (.ref b32), .val (.int ((((1 : Int32) &&& (1 : Int32)) &&& (1 : Int32)) &&& (1 : Int32))), .unset] [(.int qq)])) t
                  exact k)
                exact ⟨_, pre⟩
        replace pre : Pth p e below S0 T48 (mkF m 198 #[.val (.int ctl), .val (.int t1), .val (.int t2), .val (.int t3), .val (.int qq), .val (.long vv), .second, .val (.int nn), .val (.int sz), .val (.int pk), .val (.int v1), .val (.int v2), .val (.int v3), .val (.ref b32), .val (.int ((((1 : Int32) &&& (1 : Int32)) &&& (1 : Int32)) &&& (1 : Int32))), .val (.int xx)] [(.int xx), (.ref b32), (.int ((((1 : Int32) &&& (1 : Int32)) &&& (1 : Int32)) &&& (1 : Int32)))]) := fun t k => pre t (by
          show Steps p.tables e below (T48.setTop (mkF m 190 #[.val (.int ctl), .val (.int t1), .val (.int t2), .val (.int t3), .val (.int qq), .val (.long vv), .second, .val (.int nn), .val (.int sz), .val (.int pk), .val (.int v1), .val (.int v2), .val (.int v3), .val (.ref b32), .val (.int ((((1 : Int32) &&& (1 : Int32)) &&& (1 : Int32)) &&& (1 : Int32))), .unset] [(.int xx)])) t
          refine XS.istore X48.here hx rfl (hb hby at_190) rfl (l' := #[.val (.int ctl), .val (.int t1), .val (.int t2), .val (.int t3), .val (.int qq), .val (.long vv), .second, .val (.int nn), .val (.int sz), .val (.int pk), .val (.int v1), .val (.int v2), .val (.int v3), .val (.ref b32), .val (.int ((((1 : Int32) &&& (1 : Int32)) &&& (1 : Int32)) &&& (1 : Int32))), .val (.int xx)]) rfl ?_
          show Steps p.tables e below (T48.setTop (mkF m 192 #[.val (.int ctl), .val (.int t1), .val (.int t2), .val (.int t3), .val (.int qq), .val (.long vv), .second, .val (.int nn), .val (.int sz), .val (.int pk), .val (.int v1), .val (.int v2), .val (.int v3), .val (.ref b32), .val (.int ((((1 : Int32) &&& (1 : Int32)) &&& (1 : Int32)) &&& (1 : Int32))), .val (.int xx)] [])) t
          refine XS.iload X48.here hx rfl (hb hby at_192) rfl ?_
          show Steps p.tables e below (T48.setTop (mkF m 194 #[.val (.int ctl), .val (.int t1), .val (.int t2), .val (.int t3), .val (.int qq), .val (.long vv), .second, .val (.int nn), .val (.int sz), .val (.int pk), .val (.int v1), .val (.int v2), .val (.int v3), .val (.ref b32), .val (.int ((((1 : Int32) &&& (1 : Int32)) &&& (1 : Int32)) &&& (1 : Int32))), .val (.int xx)] [(.int ((((1 : Int32) &&& (1 : Int32)) &&& (1 : Int32)) &&& (1 : Int32)))])) t
          refine XS.aload X48.here hx rfl (hb hby at_194) rfl rfl ?_
          show Steps p.tables e below (T48.setTop (mkF m 196 #[.val (.int ctl), .val (.int t1), .val (.int t2), .val (.int t3), .val (.int qq), .val (.long vv), .second, .val (.int nn), .val (.int sz), .val (.int pk), .val (.int v1), .val (.int v2), .val (.int v3), .val (.ref b32), .val (.int ((((1 : Int32) &&& (1 : Int32)) &&& (1 : Int32)) &&& (1 : Int32))), .val (.int xx)] [(.ref b32), (.int ((((1 : Int32) &&& (1 : Int32)) &&& (1 : Int32)) &&& (1 : Int32)))])) t
          refine XS.iload X48.here hx rfl (hb hby at_196) rfl ?_
          show Steps p.tables e below (T48.setTop (mkF m 198 #[.val (.int ctl), .val (.int t1), .val (.int t2), .val (.int t3), .val (.int qq), .val (.long vv), .second, .val (.int nn), .val (.int sz), .val (.int pk), .val (.int v1), .val (.int v2), .val (.int v3), .val (.ref b32), .val (.int ((((1 : Int32) &&& (1 : Int32)) &&& (1 : Int32)) &&& (1 : Int32))), .val (.int xx)] [(.int xx), (.ref b32), (.int ((((1 : Int32) &&& (1 : Int32)) &&& (1 : Int32)) &&& (1 : Int32)))])) t
          exact k)
        obtain ⟨cq49, kq49, q49a, q49b, q49c⟩ := isOf hZ rfl hT3.2.2.2.1
        obtain ⟨_, _, ⟨T49, L49, k49, n49⟩, -, X49, ⟨Lc49, hQ49, l49, y49, z49⟩, st49⟩ := X48.virtualBack hx (y := (⟨"com/example/tagwire/tagwire/dictionary/TagTable", "get", "(I)I"⟩ : MethodName)) (z := (⟨"com/example/tagwire/tagwire/dictionary/TagTable", "get", "(I)I"⟩ : MethodName)) hown (mvT hZ (hw _ (List.mem_of_getElem? (i := 28) rfl))) (mvT hZ (hw _ (List.mem_of_getElem? (i := 29) rfl))) (notFace_of_selects (args := #[]) (mvT hZ (hw _ (List.mem_of_getElem? (i := 31) rfl)))) (mvT hZ (hw _ (List.mem_of_getElem? (i := 31) rfl))) (mvT hZ (hw _ (List.mem_of_getElem? (i := 30) rfl))) (by decide) (backOf (W := 1) (rm_get l Z a0 hw [] b32 xx r sz cn3 C f3 _ n0 hT3 hexz) hZ (hw _ (List.mem_of_getElem? (i := 32) rfl)) (hw _ (List.mem_of_getElem? (i := 3) rfl)) (by decide) (by decide)) q49a q49c (g := (mkF m 198 #[.val (.int ctl), .val (.int t1), .val (.int t2), .val (.int t3), .val (.int qq), .val (.long vv), .second, .val (.int nn), .val (.int sz), .val (.int pk), .val (.int v1), .val (.int v2), .val (.int v3), .val (.ref b32), .val (.int ((((1 : Int32) &&& (1 : Int32)) &&& (1 : Int32)) &&& (1 : Int32))), .val (.int xx)] [(.int xx), (.ref b32), (.int ((((1 : Int32) &&& (1 : Int32)) &&& (1 : Int32)) &&& (1 : Int32)))])) rfl (by rw [hml]; rfl) (Steps.refl _) (argsL := [(.int xx)]) (rest := [(.int ((((1 : Int32) &&& (1 : Int32)) &&& (1 : Int32)) &&& (1 : Int32)))]) (lenOf pd__I_I rfl) rfl (by show 2 * 0 + _ ≤ _; exact Nat.le_of_eq rfl) (hb hby at_198) (fun _ _ => ⟨rfl, rfl, (by decide : 2 + 0 ≤ _), (by decide : 35 + 0 ≤ _)⟩)
        dsimp only [Pt.U, Pt.locs, Pt.cells, Pt.slots] at X49 l49 y49 z49 st49 hQ49
        subst l49 y49 z49
        obtain ⟨i49, rfl, N49q, e49, hi49, hs49⟩ := hQ49
        have N49 := Fr.app N48 N49q
        replace pre : Pth p e below S0 T49 (mkF m 201 #[.val (.int ctl), .val (.int t1), .val (.int t2), .val (.int t3), .val (.int qq), .val (.long vv), .second, .val (.int nn), .val (.int sz), .val (.int pk), .val (.int v1), .val (.int v2), .val (.int v3), .val (.ref b32), .val (.int ((((1 : Int32) &&& (1 : Int32)) &&& (1 : Int32)) &&& (1 : Int32))), .val (.int xx)] [(.int (f3 (2 * i49 + 1) - 1)), (.int ((((1 : Int32) &&& (1 : Int32)) &&& (1 : Int32)) &&& (1 : Int32)))]) := fun t k => pre t (st49.trans k)
        replace pre : Pth p e below S0 T49 (mkF m 214 #[.val (.int ctl), .val (.int t1), .val (.int t2), .val (.int t3), .val (.int qq), .val (.long vv), .second, .val (.int nn), .val (.int sz), .val (.int pk), .val (.int v1), .val (.int v2), .val (.int v3), .val (.ref b32), .val (.int ((((1 : Int32) &&& (1 : Int32)) &&& (1 : Int32)) &&& (1 : Int32))), .val (.int xx)] [(.int xx), (.int v3), (.int t3), (.int v2), (.int t2), (.int v1), (.int t1), (.int nn), (.int (f3 (2 * i49 + 1) - 1)), (.int ((((1 : Int32) &&& (1 : Int32)) &&& (1 : Int32)) &&& (1 : Int32)))]) := fun t k => pre t (by
          show Steps p.tables e below (T49.setTop (mkF m 201 #[.val (.int ctl), .val (.int t1), .val (.int t2), .val (.int t3), .val (.int qq), .val (.long vv), .second, .val (.int nn), .val (.int sz), .val (.int pk), .val (.int v1), .val (.int v2), .val (.int v3), .val (.ref b32), .val (.int ((((1 : Int32) &&& (1 : Int32)) &&& (1 : Int32)) &&& (1 : Int32))), .val (.int xx)] [(.int (f3 (2 * i49 + 1) - 1)), (.int ((((1 : Int32) &&& (1 : Int32)) &&& (1 : Int32)) &&& (1 : Int32)))])) t
          refine XS.iload X49.here hx rfl (hb hby at_201) rfl ?_
          show Steps p.tables e below (T49.setTop (mkF m 203 #[.val (.int ctl), .val (.int t1), .val (.int t2), .val (.int t3), .val (.int qq), .val (.long vv), .second, .val (.int nn), .val (.int sz), .val (.int pk), .val (.int v1), .val (.int v2), .val (.int v3), .val (.ref b32), .val (.int ((((1 : Int32) &&& (1 : Int32)) &&& (1 : Int32)) &&& (1 : Int32))), .val (.int xx)] [(.int nn), (.int (f3 (2 * i49 + 1) - 1)), (.int ((((1 : Int32) &&& (1 : Int32)) &&& (1 : Int32)) &&& (1 : Int32)))])) t
          refine XS.iloadN X49.here hx rfl (hb hby at_203) rfl ?_
          show Steps p.tables e below (T49.setTop (mkF m 204 #[.val (.int ctl), .val (.int t1), .val (.int t2), .val (.int t3), .val (.int qq), .val (.long vv), .second, .val (.int nn), .val (.int sz), .val (.int pk), .val (.int v1), .val (.int v2), .val (.int v3), .val (.ref b32), .val (.int ((((1 : Int32) &&& (1 : Int32)) &&& (1 : Int32)) &&& (1 : Int32))), .val (.int xx)] [(.int t1), (.int nn), (.int (f3 (2 * i49 + 1) - 1)), (.int ((((1 : Int32) &&& (1 : Int32)) &&& (1 : Int32)) &&& (1 : Int32)))])) t
          refine XS.iload X49.here hx rfl (hb hby at_204) rfl ?_
          show Steps p.tables e below (T49.setTop (mkF m 206 #[.val (.int ctl), .val (.int t1), .val (.int t2), .val (.int t3), .val (.int qq), .val (.long vv), .second, .val (.int nn), .val (.int sz), .val (.int pk), .val (.int v1), .val (.int v2), .val (.int v3), .val (.ref b32), .val (.int ((((1 : Int32) &&& (1 : Int32)) &&& (1 : Int32)) &&& (1 : Int32))), .val (.int xx)] [(.int v1), (.int t1), (.int nn), (.int (f3 (2 * i49 + 1) - 1)), (.int ((((1 : Int32) &&& (1 : Int32)) &&& (1 : Int32)) &&& (1 : Int32)))])) t
          refine XS.iloadN X49.here hx rfl (hb hby at_206) rfl ?_
          show Steps p.tables e below (T49.setTop (mkF m 207 #[.val (.int ctl), .val (.int t1), .val (.int t2), .val (.int t3), .val (.int qq), .val (.long vv), .second, .val (.int nn), .val (.int sz), .val (.int pk), .val (.int v1), .val (.int v2), .val (.int v3), .val (.ref b32), .val (.int ((((1 : Int32) &&& (1 : Int32)) &&& (1 : Int32)) &&& (1 : Int32))), .val (.int xx)] [(.int t2), (.int v1), (.int t1), (.int nn), (.int (f3 (2 * i49 + 1) - 1)), (.int ((((1 : Int32) &&& (1 : Int32)) &&& (1 : Int32)) &&& (1 : Int32)))])) t
          refine XS.iload X49.here hx rfl (hb hby at_207) rfl ?_
          show Steps p.tables e below (T49.setTop (mkF m 209 #[.val (.int ctl), .val (.int t1), .val (.int t2), .val (.int t3), .val (.int qq), .val (.long vv), .second, .val (.int nn), .val (.int sz), .val (.int pk), .val (.int v1), .val (.int v2), .val (.int v3), .val (.ref b32), .val (.int ((((1 : Int32) &&& (1 : Int32)) &&& (1 : Int32)) &&& (1 : Int32))), .val (.int xx)] [(.int v2), (.int t2), (.int v1), (.int t1), (.int nn), (.int (f3 (2 * i49 + 1) - 1)), (.int ((((1 : Int32) &&& (1 : Int32)) &&& (1 : Int32)) &&& (1 : Int32)))])) t
          refine XS.iloadN X49.here hx rfl (hb hby at_209) rfl ?_
          show Steps p.tables e below (T49.setTop (mkF m 210 #[.val (.int ctl), .val (.int t1), .val (.int t2), .val (.int t3), .val (.int qq), .val (.long vv), .second, .val (.int nn), .val (.int sz), .val (.int pk), .val (.int v1), .val (.int v2), .val (.int v3), .val (.ref b32), .val (.int ((((1 : Int32) &&& (1 : Int32)) &&& (1 : Int32)) &&& (1 : Int32))), .val (.int xx)] [(.int t3), (.int v2), (.int t2), (.int v1), (.int t1), (.int nn), (.int (f3 (2 * i49 + 1) - 1)), (.int ((((1 : Int32) &&& (1 : Int32)) &&& (1 : Int32)) &&& (1 : Int32)))])) t
          refine XS.iload X49.here hx rfl (hb hby at_210) rfl ?_
          show Steps p.tables e below (T49.setTop (mkF m 212 #[.val (.int ctl), .val (.int t1), .val (.int t2), .val (.int t3), .val (.int qq), .val (.long vv), .second, .val (.int nn), .val (.int sz), .val (.int pk), .val (.int v1), .val (.int v2), .val (.int v3), .val (.ref b32), .val (.int ((((1 : Int32) &&& (1 : Int32)) &&& (1 : Int32)) &&& (1 : Int32))), .val (.int xx)] [(.int v3), (.int t3), (.int v2), (.int t2), (.int v1), (.int t1), (.int nn), (.int (f3 (2 * i49 + 1) - 1)), (.int ((((1 : Int32) &&& (1 : Int32)) &&& (1 : Int32)) &&& (1 : Int32)))])) t
          refine XS.iload X49.here hx rfl (hb hby at_212) rfl ?_
          show Steps p.tables e below (T49.setTop (mkF m 214 #[.val (.int ctl), .val (.int t1), .val (.int t2), .val (.int t3), .val (.int qq), .val (.long vv), .second, .val (.int nn), .val (.int sz), .val (.int pk), .val (.int v1), .val (.int v2), .val (.int v3), .val (.ref b32), .val (.int ((((1 : Int32) &&& (1 : Int32)) &&& (1 : Int32)) &&& (1 : Int32))), .val (.int xx)] [(.int xx), (.int v3), (.int t3), (.int v2), (.int t2), (.int v1), (.int t1), (.int nn), (.int (f3 (2 * i49 + 1) - 1)), (.int ((((1 : Int32) &&& (1 : Int32)) &&& (1 : Int32)) &&& (1 : Int32)))])) t
          exact k)
        obtain ⟨_, _, ⟨T50, L50, k50, n50⟩, -, X50, ⟨Lc50, hQ50, l50, y50, z50⟩, st50⟩ := Jvm.LawKit.callS X49 hx (y := (⟨"com/example/tagwire/tagwire/dictionary/TagTableGetPinLaw", "expected", "(IIIIIIII)I"⟩ : MethodName)) hown (mvT hZ (hw _ (List.mem_of_getElem? (i := 38) rfl))) (mvT hZ (hw _ (List.mem_of_getElem? (i := 39) rfl))) (mvT hZ (hw _ (List.mem_of_getElem? (i := 40) rfl))) (mvT hZ (hw _ (List.mem_of_getElem? (i := 41) rfl))) (by decide) (backOf (W := 2) (rm_exp l Z a0 hw [] nn t1 v1 t2 v2 t3 v3 xx _ n0) hZ (hw _ (List.mem_of_getElem? (i := 41) rfl)) (hw _ (List.mem_of_getElem? (i := 40) rfl)) (by decide) (by decide)) (g := (mkF m 214 #[.val (.int ctl), .val (.int t1), .val (.int t2), .val (.int t3), .val (.int qq), .val (.long vv), .second, .val (.int nn), .val (.int sz), .val (.int pk), .val (.int v1), .val (.int v2), .val (.int v3), .val (.ref b32), .val (.int ((((1 : Int32) &&& (1 : Int32)) &&& (1 : Int32)) &&& (1 : Int32))), .val (.int xx)] [(.int xx), (.int v3), (.int t3), (.int v2), (.int t2), (.int v1), (.int t1), (.int nn), (.int (f3 (2 * i49 + 1) - 1)), (.int ((((1 : Int32) &&& (1 : Int32)) &&& (1 : Int32)) &&& (1 : Int32)))])) rfl (by rw [hml]; rfl) (argsL := [(.int nn), (.int t1), (.int v1), (.int t2), (.int v2), (.int t3), (.int v3), (.int xx)]) (rest := [(.int (f3 (2 * i49 + 1) - 1)), (.int ((((1 : Int32) &&& (1 : Int32)) &&& (1 : Int32)) &&& (1 : Int32)))]) (lenOf pd__IIIIIIII_I rfl) rfl (by show 2 * 0 + _ ≤ _; exact Nat.le_of_eq rfl) (hb hby at_214) (fun _ _ => ⟨rfl, e49, (by decide : 2 + 0 ≤ _), (by decide : 35 + 0 ≤ _)⟩)
        dsimp only [Pt.U, Pt.locs, Pt.cells, Pt.slots] at X50 l50 y50 z50 st50 hQ50
        subst l50 y50 z50
        obtain ⟨rfl, N50q, e50⟩ := hQ50
        have N50 := Fr.app N49 N50q
        replace pre : Pth p e below S0 T50 (mkF m 217 #[.val (.int ctl), .val (.int t1), .val (.int t2), .val (.int t3), .val (.int qq), .val (.long vv), .second, .val (.int nn), .val (.int sz), .val (.int pk), .val (.int v1), .val (.int v2), .val (.int v3), .val (.ref b32), .val (.int ((((1 : Int32) &&& (1 : Int32)) &&& (1 : Int32)) &&& (1 : Int32))), .val (.int xx)] [(.int (own_exp nn t1 v1 t2 v2 t3 v3 xx)), (.int (f3 (2 * i49 + 1) - 1)), (.int ((((1 : Int32) &&& (1 : Int32)) &&& (1 : Int32)) &&& (1 : Int32)))]) := fun t k => pre t (st50 _ k)
        replace pre : Pth p e below S0 T50 (mkF m 234 #[.val (.int ctl), .val (.int t1), .val (.int t2), .val (.int t3), .val (.int qq), .val (.long vv), .second, .val (.int nn), .val (.int sz), .val (.int pk), .val (.int v1), .val (.int v2), .val (.int v3), .val (.ref b32), .val (.int (((((1 : Int32) &&& (1 : Int32)) &&& (1 : Int32)) &&& (1 : Int32)) &&& (1 : Int32))), .val (.int xx)] [(.int qq), (.ref b32), (.int (((((1 : Int32) &&& (1 : Int32)) &&& (1 : Int32)) &&& (1 : Int32)) &&& (1 : Int32)))]) := fun t k => pre t (by
          show Steps p.tables e below (T50.setTop (mkF m 217 #[.val (.int ctl), .val (.int t1), .val (.int t2), .val (.int t3), .val (.int qq), .val (.long vv), .second, .val (.int nn), .val (.int sz), .val (.int pk), .val (.int v1), .val (.int v2), .val (.int v3), .val (.ref b32), .val (.int ((((1 : Int32) &&& (1 : Int32)) &&& (1 : Int32)) &&& (1 : Int32))), .val (.int xx)] [(.int (own_exp nn t1 v1 t2 v2 t3 v3 xx)), (.int (f3 (2 * i49 + 1) - 1)), (.int ((((1 : Int32) &&& (1 : Int32)) &&& (1 : Int32)) &&& (1 : Int32)))])) t
          refine XS.icmpNo X50.here hx rfl (hb hby at_217) rfl (XT.ii_ne_f (by rw [tb3.2.2 _ _ hi49 hs49]; exact own_g3 n1 n2 n3 w1 w2)) ?_
          show Steps p.tables e below (T50.setTop (mkF m 220 #[.val (.int ctl), .val (.int t1), .val (.int t2), .val (.int t3), .val (.int qq), .val (.long vv), .second, .val (.int nn), .val (.int sz), .val (.int pk), .val (.int v1), .val (.int v2), .val (.int v3), .val (.ref b32), .val (.int ((((1 : Int32) &&& (1 : Int32)) &&& (1 : Int32)) &&& (1 : Int32))), .val (.int xx)] [(.int ((((1 : Int32) &&& (1 : Int32)) &&& (1 : Int32)) &&& (1 : Int32)))])) t
          refine XS.iconst X50.here hx rfl (hb hby at_220) ?_
          show Steps p.tables e below (T50.setTop (mkF m 221 #[.val (.int ctl), .val (.int t1), .val (.int t2), .val (.int t3), .val (.int qq), .val (.long vv), .second, .val (.int nn), .val (.int sz), .val (.int pk), .val (.int v1), .val (.int v2), .val (.int v3), .val (.ref b32), .val (.int ((((1 : Int32) &&& (1 : Int32)) &&& (1 : Int32)) &&& (1 : Int32))), .val (.int xx)] [(.int (1 : Int32)), (.int ((((1 : Int32) &&& (1 : Int32)) &&& (1 : Int32)) &&& (1 : Int32)))])) t
          refine XS.goto X50.here hx rfl (pc0 := 221) (pc' := 225) rfl (hb hby at_221) (by decide) (by decide) ?_
          show Steps p.tables e below (T50.setTop (mkF m 225 #[.val (.int ctl), .val (.int t1), .val (.int t2), .val (.int t3), .val (.int qq), .val (.long vv), .second, .val (.int nn), .val (.int sz), .val (.int pk), .val (.int v1), .val (.int v2), .val (.int v3), .val (.ref b32), .val (.int ((((1 : Int32) &&& (1 : Int32)) &&& (1 : Int32)) &&& (1 : Int32))), .val (.int xx)] [(.int (1 : Int32)), (.int ((((1 : Int32) &&& (1 : Int32)) &&& (1 : Int32)) &&& (1 : Int32)))])) t
          refine XS.iand X50.here hx rfl (hb hby at_225) rfl ?_
          show Steps p.tables e below (T50.setTop (mkF m 226 #[.val (.int ctl), .val (.int t1), .val (.int t2), .val (.int t3), .val (.int qq), .val (.long vv), .second, .val (.int nn), .val (.int sz), .val (.int pk), .val (.int v1), .val (.int v2), .val (.int v3), .val (.ref b32), .val (.int ((((1 : Int32) &&& (1 : Int32)) &&& (1 : Int32)) &&& (1 : Int32))), .val (.int xx)] [(.int (((((1 : Int32) &&& (1 : Int32)) &&& (1 : Int32)) &&& (1 : Int32)) &&& (1 : Int32)))])) t
          refine XS.istore X50.here hx rfl (hb hby at_226) rfl (l' := #[.val (.int ctl), .val (.int t1), .val (.int t2), .val (.int t3), .val (.int qq), .val (.long vv), .second, .val (.int nn), .val (.int sz), .val (.int pk), .val (.int v1), .val (.int v2), .val (.int v3), .val (.ref b32), .val (.int (((((1 : Int32) &&& (1 : Int32)) &&& (1 : Int32)) &&& (1 : Int32)) &&& (1 : Int32))), .val (.int xx)]) rfl ?_
          show Steps p.tables e below (T50.setTop (mkF m 228 #[.val (.int ctl), .val (.int t1), .val (.int t2), .val (.int t3), .val (.int qq), .val (.long vv), .second, .val (.int nn), .val (.int sz), .val (.int pk), .val (.int v1), .val (.int v2), .val (.int v3), .val (.ref b32), .val (.int (((((1 : Int32) &&& (1 : Int32)) &&& (1 : Int32)) &&& (1 : Int32)) &&& (1 : Int32))), .val (.int xx)] [])) t
          refine XS.iload X50.here hx rfl (hb hby at_228) rfl ?_
          show Steps p.tables e below (T50.setTop (mkF m 230 #[.val (.int ctl), .val (.int t1), .val (.int t2), .val (.int t3), .val (.int qq), .val (.long vv), .second, .val (.int nn), .val (.int sz), .val (.int pk), .val (.int v1), .val (.int v2), .val (.int v3), .val (.ref b32), .val (.int (((((1 : Int32) &&& (1 : Int32)) &&& (1 : Int32)) &&& (1 : Int32)) &&& (1 : Int32))), .val (.int xx)] [(.int (((((1 : Int32) &&& (1 : Int32)) &&& (1 : Int32)) &&& (1 : Int32)) &&& (1 : Int32)))])) t
          refine XS.aload X50.here hx rfl (hb hby at_230) rfl rfl ?_
          show Steps p.tables e below (T50.setTop (mkF m 232 #[.val (.int ctl), .val (.int t1), .val (.int t2), .val (.int t3), .val (.int qq), .val (.long vv), .second, .val (.int nn), .val (.int sz), .val (.int pk), .val (.int v1), .val (.int v2), .val (.int v3), .val (.ref b32), .val (.int (((((1 : Int32) &&& (1 : Int32)) &&& (1 : Int32)) &&& (1 : Int32)) &&& (1 : Int32))), .val (.int xx)] [(.ref b32), (.int (((((1 : Int32) &&& (1 : Int32)) &&& (1 : Int32)) &&& (1 : Int32)) &&& (1 : Int32)))])) t
          refine XS.iload X50.here hx rfl (hb hby at_232) rfl ?_
          show Steps p.tables e below (T50.setTop (mkF m 234 #[.val (.int ctl), .val (.int t1), .val (.int t2), .val (.int t3), .val (.int qq), .val (.long vv), .second, .val (.int nn), .val (.int sz), .val (.int pk), .val (.int v1), .val (.int v2), .val (.int v3), .val (.ref b32), .val (.int (((((1 : Int32) &&& (1 : Int32)) &&& (1 : Int32)) &&& (1 : Int32)) &&& (1 : Int32))), .val (.int xx)] [(.int qq), (.ref b32), (.int (((((1 : Int32) &&& (1 : Int32)) &&& (1 : Int32)) &&& (1 : Int32)) &&& (1 : Int32)))])) t
          exact k)
        obtain ⟨cq51, kq51, q51a, q51b, q51c⟩ := isOf hZ e50 hT3.2.2.2.1
        obtain ⟨_, _, ⟨T51, L51, k51, n51⟩, -, X51, ⟨Lc51, hQ51, l51, y51, z51⟩, st51⟩ := X50.virtualBack hx (y := (⟨"com/example/tagwire/tagwire/dictionary/TagTable", "get", "(I)I"⟩ : MethodName)) (z := (⟨"com/example/tagwire/tagwire/dictionary/TagTable", "get", "(I)I"⟩ : MethodName)) hown (mvT hZ (hw _ (List.mem_of_getElem? (i := 28) rfl))) (mvT hZ (hw _ (List.mem_of_getElem? (i := 29) rfl))) (notFace_of_selects (args := #[]) (mvT hZ (hw _ (List.mem_of_getElem? (i := 31) rfl)))) (mvT hZ (hw _ (List.mem_of_getElem? (i := 31) rfl))) (mvT hZ (hw _ (List.mem_of_getElem? (i := 30) rfl))) (by decide) (backOf (W := 1) (rm_get l Z a0 hw [] b32 qq r sz cn3 C f3 _ n0 hT3 hexz) hZ (hw _ (List.mem_of_getElem? (i := 32) rfl)) (hw _ (List.mem_of_getElem? (i := 3) rfl)) (by decide) (by decide)) q51a q51c (g := (mkF m 234 #[.val (.int ctl), .val (.int t1), .val (.int t2), .val (.int t3), .val (.int qq), .val (.long vv), .second, .val (.int nn), .val (.int sz), .val (.int pk), .val (.int v1), .val (.int v2), .val (.int v3), .val (.ref b32), .val (.int (((((1 : Int32) &&& (1 : Int32)) &&& (1 : Int32)) &&& (1 : Int32)) &&& (1 : Int32))), .val (.int xx)] [(.int qq), (.ref b32), (.int (((((1 : Int32) &&& (1 : Int32)) &&& (1 : Int32)) &&& (1 : Int32)) &&& (1 : Int32)))])) rfl (by rw [hml]; rfl) (Steps.refl _) (argsL := [(.int qq)]) (rest := [(.int (((((1 : Int32) &&& (1 : Int32)) &&& (1 : Int32)) &&& (1 : Int32)) &&& (1 : Int32)))]) (lenOf pd__I_I rfl) rfl (by show 2 * 0 + _ ≤ _; exact Nat.le_of_eq rfl) (hb hby at_234) (fun _ _ => ⟨rfl, e50, (by decide : 2 + 0 ≤ _), (by decide : 35 + 0 ≤ _)⟩)
        dsimp only [Pt.U, Pt.locs, Pt.cells, Pt.slots] at X51 l51 y51 z51 st51 hQ51
        subst l51 y51 z51
        obtain ⟨i51, rfl, N51q, e51, hi51, hs51⟩ := hQ51
        have N51 := Fr.app N50 N51q
        replace pre : Pth p e below S0 T51 (mkF m 237 #[.val (.int ctl), .val (.int t1), .val (.int t2), .val (.int t3), .val (.int qq), .val (.long vv), .second, .val (.int nn), .val (.int sz), .val (.int pk), .val (.int v1), .val (.int v2), .val (.int v3), .val (.ref b32), .val (.int (((((1 : Int32) &&& (1 : Int32)) &&& (1 : Int32)) &&& (1 : Int32)) &&& (1 : Int32))), .val (.int xx)] [(.int (f3 (2 * i51 + 1) - 1)), (.int (((((1 : Int32) &&& (1 : Int32)) &&& (1 : Int32)) &&& (1 : Int32)) &&& (1 : Int32)))]) := fun t k => pre t (st51.trans k)
        replace pre : Pth p e below S0 T51 (mkF m 250 #[.val (.int ctl), .val (.int t1), .val (.int t2), .val (.int t3), .val (.int qq), .val (.long vv), .second, .val (.int nn), .val (.int sz), .val (.int pk), .val (.int v1), .val (.int v2), .val (.int v3), .val (.ref b32), .val (.int (((((1 : Int32) &&& (1 : Int32)) &&& (1 : Int32)) &&& (1 : Int32)) &&& (1 : Int32))), .val (.int xx)] [(.int qq), (.int v3), (.int t3), (.int v2), (.int t2), (.int v1), (.int t1), (.int nn), (.int (f3 (2 * i51 + 1) - 1)), (.int (((((1 : Int32) &&& (1 : Int32)) &&& (1 : Int32)) &&& (1 : Int32)) &&& (1 : Int32)))]) := fun t k => pre t (by
          show Steps p.tables e below (T51.setTop (mkF m 237 #[.val (.int ctl), .val (.int t1), .val (.int t2), .val (.int t3), .val (.int qq), .val (.long vv), .second, .val (.int nn), .val (.int sz), .val (.int pk), .val (.int v1), .val (.int v2), .val (.int v3), .val (.ref b32), .val (.int (((((1 : Int32) &&& (1 : Int32)) &&& (1 : Int32)) &&& (1 : Int32)) &&& (1 : Int32))), .val (.int xx)] [(.int (f3 (2 * i51 + 1) - 1)), (.int (((((1 : Int32) &&& (1 : Int32)) &&& (1 : Int32)) &&& (1 : Int32)) &&& (1 : Int32)))])) t
          refine XS.iload X51.here hx rfl (hb hby at_237) rfl ?_
          show Steps p.tables e below (T51.setTop (mkF m 239 #[.val (.int ctl), .val (.int t1), .val (.int t2), .val (.int t3), .val (.int qq), .val (.long vv), .second, .val (.int nn), .val (.int sz), .val (.int pk), .val (.int v1), .val (.int v2), .val (.int v3), .val (.ref b32), .val (.int (((((1 : Int32) &&& (1 : Int32)) &&& (1 : Int32)) &&& (1 : Int32)) &&& (1 : Int32))), .val (.int xx)] [(.int nn), (.int (f3 (2 * i51 + 1) - 1)), (.int (((((1 : Int32) &&& (1 : Int32)) &&& (1 : Int32)) &&& (1 : Int32)) &&& (1 : Int32)))])) t
          refine XS.iloadN X51.here hx rfl (hb hby at_239) rfl ?_
          show Steps p.tables e below (T51.setTop (mkF m 240 #[.val (.int ctl), .val (.int t1), .val (.int t2), .val (.int t3), .val (.int qq), .val (.long vv), .second, .val (.int nn), .val (.int sz), .val (.int pk), .val (.int v1), .val (.int v2), .val (.int v3), .val (.ref b32), .val (.int (((((1 : Int32) &&& (1 : Int32)) &&& (1 : Int32)) &&& (1 : Int32)) &&& (1 : Int32))), .val (.int xx)] [(.int t1), (.int nn), (.int (f3 (2 * i51 + 1) - 1)), (.int (((((1 : Int32) &&& (1 : Int32)) &&& (1 : Int32)) &&& (1 : Int32)) &&& (1 : Int32)))])) t
          refine XS.iload X51.here hx rfl (hb hby at_240) rfl ?_
          show Steps p.tables e below (T51.setTop (mkF m 242 #[.val (.int ctl), .val (.int t1), .val (.int t2), .val (.int t3), .val (.int qq), .val (.long vv), .second, .val (.int nn), .val (.int sz), .val (.int pk), .val (.int v1), .val (.int v2), .val (.int v3), .val (.ref b32), .val (.int (((((1 : Int32) &&& (1 : Int32)) &&& (1 : Int32)) &&& (1 : Int32)) &&& (1 : Int32))), .val (.int xx)] [(.int v1), (.int t1), (.int nn), (.int (f3 (2 * i51 + 1) - 1)), (.int (((((1 : Int32) &&& (1 : Int32)) &&& (1 : Int32)) &&& (1 : Int32)) &&& (1 : Int32)))])) t
          refine XS.iloadN X51.here hx rfl (hb hby at_242) rfl ?_
          show Steps p.tables e below (T51.setTop (mkF m 243 #[.val (.int ctl), .val (.int t1), .val (.int t2), .val (.int t3), .val (.int qq), .val (.long vv), .second, .val (.int nn), .val (.int sz), .val (.int pk), .val (.int v1), .val (.int v2), .val (.int v3), .val (.ref b32), .val (.int (((((1 : Int32) &&& (1 : Int32)) &&& (1 : Int32)) &&& (1 : Int32)) &&& (1 : Int32))), .val (.int xx)] [(.int t2), (.int v1), (.int t1), (.int nn), (.int (f3 (2 * i51 + 1) - 1)), (.int (((((1 : Int32) &&& (1 : Int32)) &&& (1 : Int32)) &&& (1 : Int32)) &&& (1 : Int32)))])) t
          refine XS.iload X51.here hx rfl (hb hby at_243) rfl ?_
          show Steps p.tables e below (T51.setTop (mkF m 245 #[.val (.int ctl), .val (.int t1), .val (.int t2), .val (.int t3), .val (.int qq), .val (.long vv), .second, .val (.int nn), .val (.int sz), .val (.int pk), .val (.int v1), .val (.int v2), .val (.int v3), .val (.ref b32), .val (.int (((((1 : Int32) &&& (1 : Int32)) &&& (1 : Int32)) &&& (1 : Int32)) &&& (1 : Int32))), .val (.int xx)] [(.int v2), (.int t2), (.int v1), (.int t1), (.int nn), (.int (f3 (2 * i51 + 1) - 1)), (.int (((((1 : Int32) &&& (1 : Int32)) &&& (1 : Int32)) &&& (1 : Int32)) &&& (1 : Int32)))])) t
          refine XS.iloadN X51.here hx rfl (hb hby at_245) rfl ?_
          show Steps p.tables e below (T51.setTop (mkF m 246 #[.val (.int ctl), .val (.int t1), .val (.int t2), .val (.int t3), .val (.int qq), .val (.long vv), .second, .val (.int nn), .val (.int sz), .val (.int pk), .val (.int v1), .val (.int v2), .val (.int v3), .val (.ref b32), .val (.int (((((1 : Int32) &&& (1 : Int32)) &&& (1 : Int32)) &&& (1 : Int32)) &&& (1 : Int32))), .val (.int xx)] [(.int t3), (.int v2), (.int t2), (.int v1), (.int t1), (.int nn), (.int (f3 (2 * i51 + 1) - 1)), (.int (((((1 : Int32) &&& (1 : Int32)) &&& (1 : Int32)) &&& (1 : Int32)) &&& (1 : Int32)))])) t
          refine XS.iload X51.here hx rfl (hb hby at_246) rfl ?_
          show Steps p.tables e below (T51.setTop (mkF m 248 #[.val (.int ctl), .val (.int t1), .val (.int t2), .val (.int t3), .val (.int qq), .val (.long vv), .second, .val (.int nn), .val (.int sz), .val (.int pk), .val (.int v1), .val (.int v2), .val (.int v3), .val (.ref b32), .val (.int (((((1 : Int32) &&& (1 : Int32)) &&& (1 : Int32)) &&& (1 : Int32)) &&& (1 : Int32))), .val (.int xx)] [(.int v3), (.int t3), (.int v2), (.int t2), (.int v1), (.int t1), (.int nn), (.int (f3 (2 * i51 + 1) - 1)), (.int (((((1 : Int32) &&& (1 : Int32)) &&& (1 : Int32)) &&& (1 : Int32)) &&& (1 : Int32)))])) t
          refine XS.iload X51.here hx rfl (hb hby at_248) rfl ?_
          show Steps p.tables e below (T51.setTop (mkF m 250 #[.val (.int ctl), .val (.int t1), .val (.int t2), .val (.int t3), .val (.int qq), .val (.long vv), .second, .val (.int nn), .val (.int sz), .val (.int pk), .val (.int v1), .val (.int v2), .val (.int v3), .val (.ref b32), .val (.int (((((1 : Int32) &&& (1 : Int32)) &&& (1 : Int32)) &&& (1 : Int32)) &&& (1 : Int32))), .val (.int xx)] [(.int qq), (.int v3), (.int t3), (.int v2), (.int t2), (.int v1), (.int t1), (.int nn), (.int (f3 (2 * i51 + 1) - 1)), (.int (((((1 : Int32) &&& (1 : Int32)) &&& (1 : Int32)) &&& (1 : Int32)) &&& (1 : Int32)))])) t
          exact k)
        obtain ⟨_, _, ⟨T52, L52, k52, n52⟩, -, X52, ⟨Lc52, hQ52, l52, y52, z52⟩, st52⟩ := Jvm.LawKit.callS X51 hx (y := (⟨"com/example/tagwire/tagwire/dictionary/TagTableGetPinLaw", "expected", "(IIIIIIII)I"⟩ : MethodName)) hown (mvT hZ (hw _ (List.mem_of_getElem? (i := 38) rfl))) (mvT hZ (hw _ (List.mem_of_getElem? (i := 39) rfl))) (mvT hZ (hw _ (List.mem_of_getElem? (i := 40) rfl))) (mvT hZ (hw _ (List.mem_of_getElem? (i := 41) rfl))) (by decide) (backOf (W := 2) (rm_exp l Z a0 hw [] nn t1 v1 t2 v2 t3 v3 qq _ n0) hZ (hw _ (List.mem_of_getElem? (i := 41) rfl)) (hw _ (List.mem_of_getElem? (i := 40) rfl)) (by decide) (by decide)) (g := (mkF m 250 #[.val (.int ctl), .val (.int t1), .val (.int t2), .val (.int t3), .val (.int qq), .val (.long vv), .second, .val (.int nn), .val (.int sz), .val (.int pk), .val (.int v1), .val (.int v2), .val (.int v3), .val (.ref b32), .val (.int (((((1 : Int32) &&& (1 : Int32)) &&& (1 : Int32)) &&& (1 : Int32)) &&& (1 : Int32))), .val (.int xx)] [(.int qq), (.int v3), (.int t3), (.int v2), (.int t2), (.int v1), (.int t1), (.int nn), (.int (f3 (2 * i51 + 1) - 1)), (.int (((((1 : Int32) &&& (1 : Int32)) &&& (1 : Int32)) &&& (1 : Int32)) &&& (1 : Int32)))])) rfl (by rw [hml]; rfl) (argsL := [(.int nn), (.int t1), (.int v1), (.int t2), (.int v2), (.int t3), (.int v3), (.int qq)]) (rest := [(.int (f3 (2 * i51 + 1) - 1)), (.int (((((1 : Int32) &&& (1 : Int32)) &&& (1 : Int32)) &&& (1 : Int32)) &&& (1 : Int32)))]) (lenOf pd__IIIIIIII_I rfl) rfl (by show 2 * 0 + _ ≤ _; exact Nat.le_of_eq rfl) (hb hby at_250) (fun _ _ => ⟨rfl, e51, (by decide : 2 + 0 ≤ _), (by decide : 35 + 0 ≤ _)⟩)
        dsimp only [Pt.U, Pt.locs, Pt.cells, Pt.slots] at X52 l52 y52 z52 st52 hQ52
        subst l52 y52 z52
        obtain ⟨rfl, N52q, e52⟩ := hQ52
        have N52 := Fr.app N51 N52q
        replace pre : Pth p e below S0 T52 (mkF m 253 #[.val (.int ctl), .val (.int t1), .val (.int t2), .val (.int t3), .val (.int qq), .val (.long vv), .second, .val (.int nn), .val (.int sz), .val (.int pk), .val (.int v1), .val (.int v2), .val (.int v3), .val (.ref b32), .val (.int (((((1 : Int32) &&& (1 : Int32)) &&& (1 : Int32)) &&& (1 : Int32)) &&& (1 : Int32))), .val (.int xx)] [(.int (own_exp nn t1 v1 t2 v2 t3 v3 qq)), (.int (f3 (2 * i51 + 1) - 1)), (.int (((((1 : Int32) &&& (1 : Int32)) &&& (1 : Int32)) &&& (1 : Int32)) &&& (1 : Int32)))]) := fun t k => pre t (st52 _ k)
        replace pre : Pth p e below S0 T52 (mkF m 266 #[.val (.int ctl), .val (.int t1), .val (.int t2), .val (.int t3), .val (.int qq), .val (.long vv), .second, .val (.int nn), .val (.int sz), .val (.int pk), .val (.int v1), .val (.int v2), .val (.int v3), .val (.ref b32), .val (.int ((((((1 : Int32) &&& (1 : Int32)) &&& (1 : Int32)) &&& (1 : Int32)) &&& (1 : Int32)) &&& (1 : Int32))), .val (.int xx)] [(.int ((((((1 : Int32) &&& (1 : Int32)) &&& (1 : Int32)) &&& (1 : Int32)) &&& (1 : Int32)) &&& (1 : Int32)))]) := fun t k => pre t (by
          show Steps p.tables e below (T52.setTop (mkF m 253 #[.val (.int ctl), .val (.int t1), .val (.int t2), .val (.int t3), .val (.int qq), .val (.long vv), .second, .val (.int nn), .val (.int sz), .val (.int pk), .val (.int v1), .val (.int v2), .val (.int v3), .val (.ref b32), .val (.int (((((1 : Int32) &&& (1 : Int32)) &&& (1 : Int32)) &&& (1 : Int32)) &&& (1 : Int32))), .val (.int xx)] [(.int (own_exp nn t1 v1 t2 v2 t3 v3 qq)), (.int (f3 (2 * i51 + 1) - 1)), (.int (((((1 : Int32) &&& (1 : Int32)) &&& (1 : Int32)) &&& (1 : Int32)) &&& (1 : Int32)))])) t
          refine XS.icmpNo X52.here hx rfl (hb hby at_253) rfl (XT.ii_ne_f (by rw [tb3.2.2 _ _ hi51 hs51]; exact own_g3 n1 n2 n3 w1 w2)) ?_
          show Steps p.tables e below (T52.setTop (mkF m 256 #[.val (.int ctl), .val (.int t1), .val (.int t2), .val (.int t3), .val (.int qq), .val (.long vv), .second, .val (.int nn), .val (.int sz), .val (.int pk), .val (.int v1), .val (.int v2), .val (.int v3), .val (.ref b32), .val (.int (((((1 : Int32) &&& (1 : Int32)) &&& (1 : Int32)) &&& (1 : Int32)) &&& (1 : Int32))), .val (.int xx)] [(.int (((((1 : Int32) &&& (1 : Int32)) &&& (1 : Int32)) &&& (1 : Int32)) &&& (1 : Int32)))])) t
          refine XS.iconst X52.here hx rfl (hb hby at_256) ?_
          show Steps p.tables e below (T52.setTop (mkF m 257 #[.val (.int ctl), .val (.int t1), .val (.int t2), .val (.int t3), .val (.int qq), .val (.long vv), .second, .val (.int nn), .val (.int sz), .val (.int pk), .val (.int v1), .val (.int v2), .val (.int v3), .val (.ref b32), .val (.int (((((1 : Int32) &&& (1 : Int32)) &&& (1 : Int32)) &&& (1 : Int32)) &&& (1 : Int32))), .val (.int xx)] [(.int (1 : Int32)), (.int (((((1 : Int32) &&& (1 : Int32)) &&& (1 : Int32)) &&& (1 : Int32)) &&& (1 : Int32)))])) t
          refine XS.goto X52.here hx rfl (pc0 := 257) (pc' := 261) rfl (hb hby at_257) (by decide) (by decide) ?_
          show Steps p.tables e below (T52.setTop (mkF m 261 #[.val (.int ctl), .val (.int t1), .val (.int t2), .val (.int t3), .val (.int qq), .val (.long vv), .second, .val (.int nn), .val (.int sz), .val (.int pk), .val (.int v1), .val (.int v2), .val (.int v3), .val (.ref b32), .val (.int (((((1 : Int32) &&& (1 : Int32)) &&& (1 : Int32)) &&& (1 : Int32)) &&& (1 : Int32))), .val (.int xx)] [(.int (1 : Int32)), (.int (((((1 : Int32) &&& (1 : Int32)) &&& (1 : Int32)) &&& (1 : Int32)) &&& (1 : Int32)))])) t
          refine XS.iand X52.here hx rfl (hb hby at_261) rfl ?_
          show Steps p.tables e below (T52.setTop (mkF m 262 #[.val (.int ctl), .val (.int t1), .val (.int t2), .val (.int t3), .val (.int qq), .val (.long vv), .second, .val (.int nn), .val (.int sz), .val (.int pk), .val (.int v1), .val (.int v2), .val (.int v3), .val (.ref b32), .val (.int (((((1 : Int32) &&& (1 : Int32)) &&& (1 : Int32)) &&& (1 : Int32)) &&& (1 : Int32))), .val (.int xx)] [(.int ((((((1 : Int32) &&& (1 : Int32)) &&& (1 : Int32)) &&& (1 : Int32)) &&& (1 : Int32)) &&& (1 : Int32)))])) t
          refine XS.istore X52.here hx rfl (hb hby at_262) rfl (l' := #[.val (.int ctl), .val (.int t1), .val (.int t2), .val (.int t3), .val (.int qq), .val (.long vv), .second, .val (.int nn), .val (.int sz), .val (.int pk), .val (.int v1), .val (.int v2), .val (.int v3), .val (.ref b32), .val (.int ((((((1 : Int32) &&& (1 : Int32)) &&& (1 : Int32)) &&& (1 : Int32)) &&& (1 : Int32)) &&& (1 : Int32))), .val (.int xx)]) rfl ?_
          show Steps p.tables e below (T52.setTop (mkF m 264 #[.val (.int ctl), .val (.int t1), .val (.int t2), .val (.int t3), .val (.int qq), .val (.long vv), .second, .val (.int nn), .val (.int sz), .val (.int pk), .val (.int v1), .val (.int v2), .val (.int v3), .val (.ref b32), .val (.int ((((((1 : Int32) &&& (1 : Int32)) &&& (1 : Int32)) &&& (1 : Int32)) &&& (1 : Int32)) &&& (1 : Int32))), .val (.int xx)] [])) t
          refine XS.iload X52.here hx rfl (hb hby at_264) rfl ?_
          show Steps p.tables e below (T52.setTop (mkF m 266 #[.val (.int ctl), .val (.int t1), .val (.int t2), .val (.int t3), .val (.int qq), .val (.long vv), .second, .val (.int nn), .val (.int sz), .val (.int pk), .val (.int v1), .val (.int v2), .val (.int v3), .val (.ref b32), .val (.int ((((((1 : Int32) &&& (1 : Int32)) &&& (1 : Int32)) &&& (1 : Int32)) &&& (1 : Int32)) &&& (1 : Int32))), .val (.int xx)] [(.int ((((((1 : Int32) &&& (1 : Int32)) &&& (1 : Int32)) &&& (1 : Int32)) &&& (1 : Int32)) &&& (1 : Int32)))])) t
          exact k)
        obtain ⟨fs, hr, hrun, hended, hW, hsame⟩ := X52.leave (v := some (.int (nar .boolean ((((((1 : Int32) &&& (1 : Int32)) &&& (1 : Int32)) &&& (1 : Int32)) &&& (1 : Int32)) &&& (1 : Int32))))) (fun h => by rw [Bd.returns] at h; cases h)
        subst hS0
        refine ⟨_, _, pre _ ?_, hrun, hended, _, _, rfl, ?_, ⟨_, rfl⟩, hW, hsame.mono (by decide) (by decide)⟩
        · exact retN X52 hx (t := .boolean) Bd.returns (by simp) (hb hby at_266) hr
        · show Q_law Z ctl t1 t2 t3 qq vv h0 n0 _ T52.heap _
          rw [e52]
          exact ⟨by decide, N52⟩
set_option maxRecDepth 65536 in
set_option maxHeartbeats 40000000 in
theorem comes_1 {Post : Tables → Env → Array Value → State → Outcome → State → Prop} (hpost : ∀ tb e args s v u, (limb_1_1.after args s (.returned v) u = true ∧ limb_1_2.after args s (.returned v) u = true ∧ True) → FrameEnd s (.returned v) u (Jvm.fieldLocs frame_1_writes args s ++ Jvm.arrayLocs frame_1_arrays args s ++ Jvm.staticLocs frame_1_statics s) 16 192 → Post tb e args s (.returned v) u) :
    ArmFor flags0 classFile x code maxLocals ret World_1 tables_1 room_1 Calls_1 rest_1 Pre_1 Post := by
  intro l hfl _ _ p e ha hc hk s m args below hf hA hF happ hP
  obtain ⟨hcalls, hrest, hpre⟩ := hP
  obtain ⟨-, -, -, hnamed, -, -, -, hat⟩ := (Spec.applies_iff hf).mp happ
  obtain ⟨hg, hn⟩ := and_e (Cond.before_iff.mp (show (Jvm.Cond.and given_1 narrow_1).before args s = true from hpre))
  obtain ⟨gv1a, gv1b⟩ := and_e hg
  obtain ⟨gv2a, gv2b⟩ := and_e gv1b
  obtain ⟨gv3a, gv3b⟩ := and_e gv2b
  obtain ⟨gv4a, gv4b⟩ := and_e gv3b
  obtain ⟨gv5a, gv5b⟩ := and_e gv4b
  obtain ⟨gv6a, gv6b⟩ := and_e gv5b
  obtain ⟨w0, w1, w2, w3, w4, w5, rfl⟩ : ∃ w0 w1 w2 w3 w4 w5 : Value, args = #[w0, w1, w2, w3, w4, w5] := by
    have hs : args.size = 6 := by simpa [Cond.value, given_1] using gv1a
    obtain ⟨L⟩ := args
    match L, hs with
    | [w0, w1, w2, w3, w4, w5], _ => exact ⟨w0, w1, w2, w3, w4, w5, rfl⟩
  have hw := fun d (hd : d ∈ tables_1) => atoms_spec (ws := Jvm.Cond.code x code maxLocals ret :: tables_1) hat d (List.mem_cons_of_mem _ hd)
  have hfit : Fit s := fun {y c} hc i hi => by
    obtain ⟨ha, rfl⟩ := Array.getElem?_eq_some_iff.mp hc
    have q := List.all_eq_true.mp ((Array.all_eq_true_iff_forall_mem.mp hF) _ (Array.getElem_mem ha)) i (List.mem_range.mpr hi)
    simpa [Array.getElem?_eq_getElem hi] using q
  obtain ⟨i0, ei0⟩ := is_v gv2a
  obtain rfl : w0 = (.int i0) := Option.some.inj ei0
  obtain ⟨i1, ei1⟩ := is_v gv3a
  obtain rfl : w1 = (.int i1) := Option.some.inj ei1
  obtain ⟨i2, ei2⟩ := is_v gv4a
  obtain rfl : w2 = (.int i2) := Option.some.inj ei2
  obtain ⟨i3, ei3⟩ := is_v gv5a
  obtain rfl : w3 = (.int i3) := Option.some.inj ei3
  obtain ⟨i4, ei4⟩ := is_v gv6a
  obtain rfl : w4 = (.int i4) := Option.some.inj ei4
  obtain ⟨i5, ei5⟩ := isL_v gv6b
  obtain rfl : w5 = (.long i5) := Option.some.inj ei5
  obtain ⟨n, o, h1, h2, h3, _, L, rfl, ⟨rfl, N⟩, hq⟩ := rm_law l s _ hw tables_1 i0 i1 i2 i3 i4 i5 s.heap s.heap.size (Nat.le_refl _)  p e ha hc hk s m _ below hf ((Spec.applies_iff_loose hf).mp happ).1 ⟨rfl, State.Warmed39.refl s, rfl⟩ trivial
  refine ⟨n, _, h1, h2, h3, hpost _ _ _ _ _ _ ⟨Cond.after_iff.mpr rfl, Cond.after_iff.mpr (eq_i res_at (Term.int_eval (1)) rfl), trivial⟩ ⟨hq.1, hq.2.1, (hq.2.2.sift fun y hy => Or.inr (N y hy)).mono (by decide) (by decide)⟩⟩
theorem main_1_1 : Claimed_1_1 := comes_1 fun _ _ _ _ _ _ h hF => ⟨h.1, hF⟩
theorem main_1_2 : Claimed_1_2 := comes_1 fun _ _ _ _ _ _ h hF => ⟨h.2.1, hF⟩
end Jvm.Pilot.@@N@@
namespace Jvm.Pilot.@@N@@
open Jvm Jvm.ClassFile Sem Op Lib Jvm.Free Jvm.Stand Jvm.Pilot.@@N@@.Jvm.D
/-! MADE BY PROGRAM (witnessworld.py) out of the Statement's table words and the real class files: 15 classes; the members and pool entries that the words name. The judged class is class 1, her method 2. -/
namespace start1
open Jvm.ClassFile
def u (s : String) : CpInfo := .utf8 (stringToUtf16 s)
/-- a pool by its gaps: so many unusable entries, then the entry; so many at the end -/
def gap : Nat → List CpInfo → List CpInfo
  | 0, r => r
  | n + 1, r => .unusable :: gap n r
def poolList (es : List (Nat × CpInfo)) (last : Nat) : List CpInfo := es.foldr (fun e r => gap e.1 (e.2 :: r)) (gap last [])
def pool (es : List (Nat × CpInfo)) (last : Nat) : Array CpInfo := ⟨poolList es last⟩
def fileOf (pool : Array CpInfo) (this : Nat) (attrs : Array Attribute := #[]) (ms : Array MethodInfo := #[]) (fl : Nat := 33) (sup : Nat := 0) (ifs : Array Nat := #[]) (fds : Array FieldInfo := #[]) : ClassFile where
  minorVersion := 0
  majorVersion := 65
  constantPool := pool
  accessFlags := fl
  thisClass := this
  superClass := sup
  interfaces := ifs
  fields := fds
  methods := ms
  attributes := attrs
def plain (name : String) (sup : Option ClassId) : Class where
  name := name
  kind := .ordinary
  loader := none
  accessFlags := 33
  super := sup
  interfaces := #[]
  cf := none
  fields := #[]
  methods := #[]
  instanceTypes := #[]
  staticTypes := #[]
  resolved := #[]
  callSites := []
  init := .initialized
  statics := none
  mirror := none

def pool0 : Array CpInfo := pool [(5, u "<init>"), (0, u "()V"), (1, .class_ 10), (1, u "java/lang/Object")] 113

def k0c0 : Code := { maxStack := 0, maxLocals := 1, code := object_method_1_code, exceptionTable := #[], attributes := #[] }
def k0m0 : Method := { name := "<init>", desc := "()V", sig := { parameters := [], returnType := none }, accessFlags := 1, code := some k0c0 }
/-- java/lang/Object -/
def k0 : Class := { plain "java/lang/Object" none with
  accessFlags := 33
  interfaces := #[]
  cf := some (fileOf pool0 8 #[] #[{ accessFlags := 1, nameIndex := 5, descriptorIndex := 6, attributes := #[] }] 33 0 #[] #[])
  fields := #[]
  methods := #[k0m0]
  instanceTypes := #[]
  staticTypes := #[]
  resolved := Array.replicate 124 none
  statics := none }

def pool1 : Array CpInfo := pool [(2, .class_ 4), (1, u "java/lang/Object"), (0, u "<init>"), (0, u "()V"), (0, .integer 2147483647), (0, .class_ 9), (0, u "com/example/tagwire/tagwire/dictionary/TagTable"), (0, .methodref 8 11), (0, .nameAndType 5 12), (0, u "(I)V"), (0, .methodref 8 14), (0, .nameAndType 15 16), (0, u "put"), (0, u "(II)Z"), (0, .methodref 8 18), (0, .nameAndType 19 20), (0, u "get"), (0, u "(I)I"), (0, .methodref 22 23), (0, .class_ 24), (0, .nameAndType 25 26), (0, u "com/example/tagwire/tagwire/dictionary/TagTableGetPinLaw"), (0, u "expected"), (0, u "(IIIIIIII)I"), (3, u "law"), (0, u "(IIIIIJ)Z")] 2

def k1m0 : Method := { name := "<init>", desc := "()V", sig := { parameters := [], returnType := none }, accessFlags := 1, code := none }
def k1c1 : Code := { maxStack := 2, maxLocals := 8, code := method_2_code, exceptionTable := #[], attributes := #[] }
def k1m1 : Method := { name := "expected", desc := "(IIIIIIII)I", sig := { parameters := [.int, .int, .int, .int, .int, .int, .int, .int], returnType := some .int }, accessFlags := 10, code := some k1c1 }
def k1c2 : Code := { maxStack := 10, maxLocals := 16, code := code, exceptionTable := #[], attributes := #[] }
def k1m2 : Method := { name := "law", desc := "(IIIIIJ)Z", sig := { parameters := [.int, .int, .int, .int, .int, .long], returnType := some .boolean }, accessFlags := 9, code := some k1c2 }
/-- com/example/tagwire/tagwire/dictionary/TagTableGetPinLaw -/
def k1 : Class := { plain "com/example/tagwire/tagwire/dictionary/TagTableGetPinLaw" (some 0) with
  accessFlags := 49
  interfaces := #[]
  cf := some (fileOf pool1 22 #[] #[{ accessFlags := 1, nameIndex := 5, descriptorIndex := 6, attributes := #[] }, { accessFlags := 10, nameIndex := 25, descriptorIndex := 26, attributes := #[] }, { accessFlags := 9, nameIndex := 30, descriptorIndex := 31, attributes := #[] }] 49 2 #[] #[])
  fields := #[]
  methods := #[k1m0, k1m1, k1m2]
  instanceTypes := #[]
  staticTypes := #[]
  resolved := Array.replicate 34 none
  statics := none }

def pool2 : Array CpInfo := pool [(1, .methodref 2 3), (0, .class_ 4), (0, .nameAndType 5 6), (0, u "java/lang/Object"), (0, u "<init>"), (0, u "()V"), (0, .methodref 8 9), (0, .class_ 10), (0, .nameAndType 11 12), (0, u "java/lang/Math"), (0, u "max"), (0, u "(II)I"), (0, .methodref 14 15), (0, .class_ 16), (0, .nameAndType 17 18), (0, u "java/lang/Integer"), (0, u "highestOneBit"), (0, u "(I)I"), (0, .fieldref 20 21), (0, .class_ 22), (0, .nameAndType 23 24), (0, u "com/example/tagwire/tagwire/dictionary/TagTable"), (0, u "slots"), (0, u "[I"), (0, .fieldref 20 26), (0, .nameAndType 27 28), (0, u "size"), (0, u "I"), (0, .methodref 20 30), (0, .nameAndType 31 18), (0, u "slot"), (0, .fieldref 20 33), (0, .nameAndType 34 28), (0, u "count"), (9, .integer 2654435769), (2, u "SPREAD"), (1, u "(I)V"), (2, u "put"), (0, u "(II)Z"), (1, u "get")] 17

def k2c0 : Code := { maxStack := 5, maxLocals := 2, code := prog_48_method_1_code, exceptionTable := #[], attributes := #[] }
def k2m0 : Method := { name := "<init>", desc := "(I)V", sig := { parameters := [.int], returnType := none }, accessFlags := 0, code := some k2c0 }
def k2c1 : Code := { maxStack := 4, maxLocals := 4, code := prog_48_method_2_code, exceptionTable := #[], attributes := #[] }
def k2m1 : Method := { name := "put", desc := "(II)Z", sig := { parameters := [.int, .int], returnType := some .boolean }, accessFlags := 0, code := some k2c1 }
def k2c2 : Code := { maxStack := 3, maxLocals := 2, code := prog_48_method_3_code, exceptionTable := #[], attributes := #[] }
def k2m2 : Method := { name := "get", desc := "(I)I", sig := { parameters := [.int], returnType := some .int }, accessFlags := 0, code := some k2c2 }
def k2c3 : Code := { maxStack := 3, maxLocals := 5, code := prog_48_method_4_code, exceptionTable := #[], attributes := #[] }
def k2m3 : Method := { name := "slot", desc := "(I)I", sig := { parameters := [.int], returnType := some .int }, accessFlags := 2, code := some k2c3 }
/-- com/example/tagwire/tagwire/dictionary/TagTable -/
def k2 : Class := { plain "com/example/tagwire/tagwire/dictionary/TagTable" (some 0) with
  accessFlags := 48
  interfaces := #[]
  cf := some (fileOf pool2 20 #[] #[{ accessFlags := 0, nameIndex := 5, descriptorIndex := 49, attributes := #[] }, { accessFlags := 0, nameIndex := 52, descriptorIndex := 53, attributes := #[] }, { accessFlags := 0, nameIndex := 55, descriptorIndex := 18, attributes := #[] }, { accessFlags := 2, nameIndex := 31, descriptorIndex := 18, attributes := #[] }] 48 2 #[] #[{ accessFlags := 26, nameIndex := 47, descriptorIndex := 28, attributes := #[] }, { accessFlags := 18, nameIndex := 23, descriptorIndex := 24, attributes := #[] }, { accessFlags := 18, nameIndex := 27, descriptorIndex := 28, attributes := #[] }, { accessFlags := 2, nameIndex := 34, descriptorIndex := 28, attributes := #[] }])
  fields := #[{ name := "SPREAD", type := .int, accessFlags := 26, slot := 0, constantValue := 0 }, { name := "slots", type := (.array .int), accessFlags := 18, slot := 0, constantValue := 0 }, { name := "size", type := .int, accessFlags := 18, slot := 1, constantValue := 0 }, { name := "count", type := .int, accessFlags := 2, slot := 2, constantValue := 0 }]
  methods := #[k2m0, k2m1, k2m2, k2m3]
  instanceTypes := #[(.array .int), .int, .int]
  staticTypes := #[.int]
  resolved := Array.replicate 73 none
  statics := none }

def pool3 : Array CpInfo := pool [(1, .class_ 2), (0, u "java/lang/Math"), (1, .class_ 6), (1, u "java/lang/Object"), (0, u "<init>"), (0, u "()V"), (89, .class_ 100), (1, u "java/lang/Math$RandomNumberGeneratorHolder"), (71, u "negativeZeroFloatBits"), (0, u "J"), (2, u "negativeZeroDoubleBits"), (21, u "max"), (46, u "$assertionsDisabled"), (0, u "Z"), (88, u "(II)I"), (2, u "twoToTheDoubleScaleDown"), (0, u "D"), (4, u "twoToTheDoubleScaleUp"), (9, u "E"), (3, u "PI"), (2, u "TAU"), (2, u "DEGREES_TO_RADIANS"), (0, u "RADIANS_TO_DEGREES")] 94

def k3m0 : Method := { name := "<init>", desc := "()V", sig := { parameters := [], returnType := none }, accessFlags := 2, code := none }
def k3c1 : Code := { maxStack := 2, maxLocals := 2, code := jdk_29_method_65_code, exceptionTable := #[], attributes := #[] }
def k3m1 : Method := { name := "max", desc := "(II)I", sig := { parameters := [.int, .int], returnType := some .int }, accessFlags := 9, code := some k3c1 }
/-- java/lang/Math -/
def k3 : Class := { plain "java/lang/Math" (some 0) with
  accessFlags := 49
  interfaces := #[]
  cf := some (fileOf pool3 1 #[.nestMembers #[98]] #[{ accessFlags := 2, nameIndex := 7, descriptorIndex := 8, attributes := #[] }, { accessFlags := 9, nameIndex := 198, descriptorIndex := 335, attributes := #[] }] 49 4 #[] #[{ accessFlags := 25, nameIndex := 354, descriptorIndex := 339, attributes := #[] }, { accessFlags := 25, nameIndex := 358, descriptorIndex := 339, attributes := #[] }, { accessFlags := 25, nameIndex := 361, descriptorIndex := 339, attributes := #[] }, { accessFlags := 26, nameIndex := 364, descriptorIndex := 339, attributes := #[] }, { accessFlags := 26, nameIndex := 365, descriptorIndex := 339, attributes := #[] }, { accessFlags := 26, nameIndex := 172, descriptorIndex := 173, attributes := #[] }, { accessFlags := 26, nameIndex := 176, descriptorIndex := 173, attributes := #[] }, { accessFlags := 8, nameIndex := 344, descriptorIndex := 339, attributes := #[] }, { accessFlags := 8, nameIndex := 338, descriptorIndex := 339, attributes := #[] }, { accessFlags := 4120, nameIndex := 245, descriptorIndex := 246, attributes := #[] }])
  fields := #[{ name := "E", type := .double, accessFlags := 25, slot := 0, constantValue := 0 }, { name := "PI", type := .double, accessFlags := 25, slot := 1, constantValue := 0 }, { name := "TAU", type := .double, accessFlags := 25, slot := 2, constantValue := 0 }, { name := "DEGREES_TO_RADIANS", type := .double, accessFlags := 26, slot := 3, constantValue := 0 }, { name := "RADIANS_TO_DEGREES", type := .double, accessFlags := 26, slot := 4, constantValue := 0 }, { name := "negativeZeroFloatBits", type := .long, accessFlags := 26, slot := 5, constantValue := 0 }, { name := "negativeZeroDoubleBits", type := .long, accessFlags := 26, slot := 6, constantValue := 0 }, { name := "twoToTheDoubleScaleUp", type := .double, accessFlags := 8, slot := 7, constantValue := 0 }, { name := "twoToTheDoubleScaleDown", type := .double, accessFlags := 8, slot := 8, constantValue := 0 }, { name := "$assertionsDisabled", type := .boolean, accessFlags := 4120, slot := 9, constantValue := 0 }]
  methods := #[k3m0, k3m1]
  instanceTypes := #[]
  staticTypes := #[.double, .double, .double, .double, .double, .long, .long, .double, .double, .boolean]
  resolved := Array.replicate 460 none
  statics := none }

def pool4 : Array CpInfo := pool [(1, .class_ 2), (0, u "java/io/Serializable"), (0, .class_ 4), (0, u "java/lang/Object")] 2

/-- java/io/Serializable -/
def k4 : Class := { plain "java/io/Serializable" (some 0) with
  accessFlags := 1537
  interfaces := #[]
  cf := some (fileOf pool4 1 #[] #[] 1537 3 #[] #[])
  fields := #[]
  methods := #[]
  instanceTypes := #[]
  staticTypes := #[]
  resolved := Array.replicate 7 none
  statics := none }

def pool5 : Array CpInfo := pool [(2, .class_ 4), (1, u "java/lang/Object"), (0, u "<init>"), (0, u "()V"), (1, .class_ 10), (1, u "java/lang/Number"), (2, .class_ 14), (0, u "java/io/Serializable"), (0, u "serialVersionUID"), (0, u "J")] 20

def k5m0 : Method := { name := "<init>", desc := "()V", sig := { parameters := [], returnType := none }, accessFlags := 1, code := none }
/-- java/lang/Number -/
def k5 : Class := { plain "java/lang/Number" (some 0) with
  accessFlags := 1057
  interfaces := #[4]
  cf := some (fileOf pool5 8 #[] #[{ accessFlags := 1, nameIndex := 5, descriptorIndex := 6, attributes := #[] }] 1057 2 #[13] #[{ accessFlags := 26, nameIndex := 15, descriptorIndex := 16, attributes := #[] }])
  fields := #[{ name := "serialVersionUID", type := .long, accessFlags := 26, slot := 0, constantValue := 0 }]
  methods := #[k5m0]
  instanceTypes := #[]
  staticTypes := #[.long]
  resolved := Array.replicate 37 none
  statics := none }

def pool6 : Array CpInfo := pool [(1, .class_ 2), (0, u "java/lang/Comparable"), (0, .class_ 4), (0, u "java/lang/Object")] 7

/-- java/lang/Comparable -/
def k6 : Class := { plain "java/lang/Comparable" (some 0) with
  accessFlags := 1537
  interfaces := #[]
  cf := some (fileOf pool6 1 #[] #[] 1537 3 #[] #[])
  fields := #[]
  methods := #[]
  instanceTypes := #[]
  staticTypes := #[]
  resolved := Array.replicate 12 none
  statics := none }

def pool7 : Array CpInfo := pool [(1, .class_ 2), (0, u "java/lang/constant/Constable"), (0, .class_ 4), (0, u "java/lang/Object")] 6

/-- java/lang/constant/Constable -/
def k7 : Class := { plain "java/lang/constant/Constable" (some 0) with
  accessFlags := 1537
  interfaces := #[]
  cf := some (fileOf pool7 1 #[] #[] 1537 3 #[] #[])
  fields := #[]
  methods := #[]
  instanceTypes := #[]
  staticTypes := #[]
  resolved := Array.replicate 11 none
  statics := none }

def pool8 : Array CpInfo := pool [(1, .class_ 2), (0, u "java/lang/constant/ConstantDesc"), (0, .class_ 4), (0, u "java/lang/Object")] 32

/-- java/lang/constant/ConstantDesc -/
def k8 : Class := { plain "java/lang/constant/ConstantDesc" (some 0) with
  accessFlags := 1537
  interfaces := #[]
  cf := some (fileOf pool8 1 #[] #[] 1537 3 #[] #[])
  fields := #[]
  methods := #[]
  instanceTypes := #[]
  staticTypes := #[]
  resolved := Array.replicate 37 none
  statics := none }

def pool9 : Array CpInfo := pool [(1, .class_ 2), (0, u "java/lang/Integer"), (16, u "digits"), (0, u "[C"), (30, .methodref 1 52), (0, .nameAndType 53 54), (0, u "numberOfLeadingZeros"), (0, u "(I)I"), (30, u "DigitOnes"), (0, u "[B"), (2, u "DigitTens"), (37, .integer 2147483648), (61, .class_ 190), (0, u "java/lang/Integer$IntegerCache"), (3, u "I"), (8, .class_ 204), (0, u "java/lang/Number"), (2, u "value"), (56, .integer 65536), (37, u "TYPE"), (0, u "Ljava/lang/Class;"), (0, .class_ 305), (0, u "java/lang/Comparable"), (0, .class_ 307), (0, u "java/lang/constant/Constable"), (0, .class_ 309), (0, u "java/lang/constant/ConstantDesc"), (0, u "MIN_VALUE"), (1, u "MAX_VALUE"), (3, u "SIZE"), (1, u "BYTES"), (1, u "serialVersionUID"), (0, u "J"), (81, u "highestOneBit")] 49

def k9c0 : Code := { maxStack := 3, maxLocals := 1, code := jdk_33_method_45_code, exceptionTable := #[], attributes := #[] }
def k9m0 : Method := { name := "highestOneBit", desc := "(I)I", sig := { parameters := [.int], returnType := some .int }, accessFlags := 9, code := some k9c0 }
def k9c1 : Code := { maxStack := 3, maxLocals := 2, code := jdk_33_method_47_code, exceptionTable := #[], attributes := #[] }
def k9m1 : Method := { name := "numberOfLeadingZeros", desc := "(I)I", sig := { parameters := [.int], returnType := some .int }, accessFlags := 9, code := some k9c1 }
/-- java/lang/Integer -/
def k9 : Class := { plain "java/lang/Integer" (some 5) with
  accessFlags := 49
  interfaces := #[6, 7, 8]
  cf := some (fileOf pool9 1 #[.nestMembers #[189]] #[{ accessFlags := 9, nameIndex := 403, descriptorIndex := 54, attributes := #[] }, { accessFlags := 9, nameIndex := 53, descriptorIndex := 54, attributes := #[] }] 49 203 #[304, 306, 308] #[{ accessFlags := 25, nameIndex := 310, descriptorIndex := 194, attributes := #[] }, { accessFlags := 25, nameIndex := 312, descriptorIndex := 194, attributes := #[] }, { accessFlags := 25, nameIndex := 302, descriptorIndex := 303, attributes := #[] }, { accessFlags := 24, nameIndex := 19, descriptorIndex := 20, attributes := #[] }, { accessFlags := 24, nameIndex := 89, descriptorIndex := 86, attributes := #[] }, { accessFlags := 24, nameIndex := 85, descriptorIndex := 86, attributes := #[] }, { accessFlags := 18, nameIndex := 207, descriptorIndex := 194, attributes := #[] }, { accessFlags := 25, nameIndex := 316, descriptorIndex := 194, attributes := #[] }, { accessFlags := 25, nameIndex := 318, descriptorIndex := 194, attributes := #[] }, { accessFlags := 26, nameIndex := 320, descriptorIndex := 321, attributes := #[] }])
  fields := #[{ name := "MIN_VALUE", type := .int, accessFlags := 25, slot := 0, constantValue := 0 }, { name := "MAX_VALUE", type := .int, accessFlags := 25, slot := 1, constantValue := 0 }, { name := "TYPE", type := (.object "java/lang/Class"), accessFlags := 25, slot := 2, constantValue := 0 }, { name := "digits", type := (.array .char), accessFlags := 24, slot := 3, constantValue := 0 }, { name := "DigitTens", type := (.array .byte), accessFlags := 24, slot := 4, constantValue := 0 }, { name := "DigitOnes", type := (.array .byte), accessFlags := 24, slot := 5, constantValue := 0 }, { name := "value", type := .int, accessFlags := 18, slot := 0, constantValue := 0 }, { name := "SIZE", type := .int, accessFlags := 25, slot := 6, constantValue := 0 }, { name := "BYTES", type := .int, accessFlags := 25, slot := 7, constantValue := 0 }, { name := "serialVersionUID", type := .long, accessFlags := 26, slot := 8, constantValue := 0 }]
  methods := #[k9m0, k9m1]
  instanceTypes := #[.int]
  staticTypes := #[.int, .int, (.object "java/lang/Class"), (.array .char), (.array .byte), (.array .byte), .int, .int, .long]
  resolved := Array.replicate 453 none
  statics := none }

def pool10 : Array CpInfo := pool [(1, u "java/lang/Cloneable"), (0, .class_ 1), (0, u "java/lang/Object"), (0, .class_ 3)] 3

/-- java/lang/Cloneable -/
def k10 : Class := { plain "java/lang/Cloneable" (some 0) with
  accessFlags := 1537
  interfaces := #[]
  cf := some (fileOf pool10 2 #[] #[] 1537 4 #[] #[])
  fields := #[]
  methods := #[]
  instanceTypes := #[]
  staticTypes := #[]
  resolved := Array.replicate 8 none
  statics := none }

/-- the primitive byte -/
def k11 : Class := { plain "byte" none with kind := .primitive 'B', accessFlags := 0x411 }
/-- [B -/
def k12 : Class := { plain "[B" (some 0) with kind := .array 11 .byte, interfaces := #[10, 4], accessFlags := 1041 }

/-- the primitive int -/
def k13 : Class := { plain "int" none with kind := .primitive 'I', accessFlags := 0x411 }
/-- [I -/
def k14 : Class := { plain "[I" (some 0) with kind := .array 13 .int, interfaces := #[10, 4], accessFlags := 1041 }

def heap : Heap := #[]
def classes : Array Class := #[k0, k1, k2, k3, k4, k5, k6, k7, k8, k9, k10, k11, k12, k13, k14]
def interned : List (Array UInt16 × Addr) := []
def slotsUsed : Nat := 0
def theMethod : MethodId := ⟨1, 2⟩
def args0 : Array Value := #[.int 3, .int 3, .int 7, .int 2, .int 2, .long 7]
def aboutOver (below : List Frame) : State where
  vm := { classes := classes, interned := interned.toArray }
  heap := heap
  slotsUsed := slotsUsed
  threads := #[{ frames := .invoking theMethod args0 :: below }]
def below0 : List Frame := [.native { method := ⟨0, 0⟩, args := #[] }]
def about1 : State := aboutOver below0
def p0 : Program := .bare "" "" ""
def e0 : Env := launch0.env 0 0 0
theorem w_frames : about1.frames = Frame.invoking theMethod args0 :: below0 := rfl
set_option maxRecDepth 65536 in
theorem w_args : argsFit about1.vm theMethod args0 = true := by decide +kernel
set_option maxRecDepth 65536 in
theorem w_heap : heapFits about1 = true := by decide +kernel
set_option maxRecDepth 65536 in
theorem w_runnable : about1.curStatus? = some .runnable := by decide +kernel
set_option maxRecDepth 65536 in
theorem w_alone : about1.alone = true := by decide +kernel
set_option maxRecDepth 65536 in
theorem w_named : about1.methodNamed? x = some theMethod := by decide +kernel
set_option maxRecDepth 65536 in
theorem w_hears : about1.hears theMethod below0 = true := by decide +kernel
set_option maxRecDepth 65536 in
theorem w_ripe : about1.ripe theMethod args0 below0 = true := by decide +kernel
theorem w_running : about1.status = .running := rfl
set_option maxRecDepth 65536 in
theorem w_room : about1.hasRoom e0.platform room_1 = true :=
  launch0.hasRoom_least _ room_1 (by decide +kernel) (by decide +kernel) (by decide +kernel) (by decide +kernel) (by decide +kernel) (by decide +kernel)
theorem allAtoms_all (ts : List Jvm.Cond) (a : Array Jvm.Value) (st : Jvm.State) : (allAtoms ts).before a st = ts.all (fun c => c.before a st) := by
  induction ts with
  | nil => rfl
  | cons c t ih =>
    show (Jvm.Cond.and c (allAtoms t)).before a st = _
    rw [Jvm.Cond.before_and, ih, List.all_cons]
def words1 : List Jvm.Cond := Jvm.Cond.code x code maxLocals ret :: tables_1
/-- a 'code' word, met by the world's own term for the bytes: nothing is compared byte by byte -/
theorem code_word {y : MethodName} {bytes : ByteArray} {mx : Nat} {rt : Option FieldType} {a : Array Value} {s : State} {m : MethodId} {meth : Method} {c : Code} (h1 : s.methodNamed? y = some m) (h2 : s.vm.method? m = some meth) (h3 : meth.code = some c) (h4 : c.code = bytes)
    (h5 : (c.maxLocals == mx && c.exceptionTable.isEmpty && decide (c.maxStack ≤ mostOperands) && decide (meth.sig.returnType = rt) && !meth.locks && decide (parseMethodDescriptor y.desc = some meth.sig)) = true) : (Jvm.Cond.code y bytes mx rt).before a s = true := by
  simp only [Bool.and_eq_true, beq_iff_eq, Bool.not_eq_true', decide_eq_true_eq] at h5
  obtain ⟨⟨⟨⟨⟨g1, g2⟩, g3⟩, g4⟩, g5⟩, g6⟩ := h5
  simp [Cond.before, Cond.holds, Cond.value, h1, h2, h3, h4, g1, g2, g3, g4, g5, g6]
def isCode : Jvm.Cond → Bool
  | .code _ _ _ _ => true
  | _ => false
theorem all_split {L : List Jvm.Cond} {P : Jvm.Cond → Bool} (h1 : L.all (fun c => isCode c || P c) = true) (h2 : ∀ c ∈ L.filter isCode, P c = true) : L.all P = true := by
  refine List.all_eq_true.mpr fun c hc => ?_
  have h := List.all_eq_true.mp h1 c hc
  rcases Bool.eq_false_or_eq_true (isCode c) with hi | hi
  · exact h2 c (List.mem_filter.mpr ⟨hc, hi⟩)
  · simpa [hi] using h
set_option maxRecDepth 65536 in
theorem w_c0 : (Jvm.Cond.code x code maxLocals ret).before args0 about1 = true := code_word (m := ⟨1, 2⟩) (meth := k1m2) (c := k1c2) (by decide +kernel) rfl rfl rfl (by decide +kernel)
set_option maxRecDepth 65536 in
theorem w_c1 : (Jvm.Cond.code ({ cls := "com/example/tagwire/tagwire/dictionary/TagTable", name := "<init>", desc := "(I)V" } : Jvm.MethodName) prog_48_method_1_code (2 : Nat) (Option.none : Option Jvm.ClassFile.FieldType)).before args0 about1 = true := code_word (m := ⟨2, 0⟩) (meth := k2m0) (c := k2c0) (by decide +kernel) rfl rfl rfl (by decide +kernel)
set_option maxRecDepth 65536 in
theorem w_c2 : (Jvm.Cond.code ({ cls := "java/lang/Object", name := "<init>", desc := "()V" } : Jvm.MethodName) object_method_1_code (1 : Nat) (Option.none : Option Jvm.ClassFile.FieldType)).before args0 about1 = true := code_word (m := ⟨0, 0⟩) (meth := k0m0) (c := k0c0) (by decide +kernel) rfl rfl rfl (by decide +kernel)
set_option maxRecDepth 65536 in
theorem w_c3 : (Jvm.Cond.code ({ cls := "java/lang/Math", name := "max", desc := "(II)I" } : Jvm.MethodName) jdk_29_method_65_code (2 : Nat) (Option.some Jvm.ClassFile.FieldType.int)).before args0 about1 = true := code_word (m := ⟨3, 1⟩) (meth := k3m1) (c := k3c1) (by decide +kernel) rfl rfl rfl (by decide +kernel)
set_option maxRecDepth 65536 in
theorem w_c4 : (Jvm.Cond.code ({ cls := "java/lang/Integer", name := "highestOneBit", desc := "(I)I" } : Jvm.MethodName) jdk_33_method_45_code (1 : Nat) (Option.some Jvm.ClassFile.FieldType.int)).before args0 about1 = true := code_word (m := ⟨9, 0⟩) (meth := k9m0) (c := k9c0) (by decide +kernel) rfl rfl rfl (by decide +kernel)
set_option maxRecDepth 65536 in
theorem w_c5 : (Jvm.Cond.code ({ cls := "java/lang/Integer", name := "numberOfLeadingZeros", desc := "(I)I" } : Jvm.MethodName) jdk_33_method_47_code (2 : Nat) (Option.some Jvm.ClassFile.FieldType.int)).before args0 about1 = true := code_word (m := ⟨9, 1⟩) (meth := k9m1) (c := k9c1) (by decide +kernel) rfl rfl rfl (by decide +kernel)
set_option maxRecDepth 65536 in
theorem w_c6 : (Jvm.Cond.code ({ cls := "com/example/tagwire/tagwire/dictionary/TagTable", name := "get", desc := "(I)I" } : Jvm.MethodName) prog_48_method_3_code (2 : Nat) (Option.some Jvm.ClassFile.FieldType.int)).before args0 about1 = true := code_word (m := ⟨2, 2⟩) (meth := k2m2) (c := k2c2) (by decide +kernel) rfl rfl rfl (by decide +kernel)
set_option maxRecDepth 65536 in
theorem w_c7 : (Jvm.Cond.code ({ cls := "com/example/tagwire/tagwire/dictionary/TagTable", name := "slot", desc := "(I)I" } : Jvm.MethodName) prog_48_method_4_code (5 : Nat) (Option.some Jvm.ClassFile.FieldType.int)).before args0 about1 = true := code_word (m := ⟨2, 3⟩) (meth := k2m3) (c := k2c3) (by decide +kernel) rfl rfl rfl (by decide +kernel)
set_option maxRecDepth 65536 in
theorem w_c8 : (Jvm.Cond.code ({ cls := "com/example/tagwire/tagwire/dictionary/TagTableGetPinLaw", name := "expected", desc := "(IIIIIIII)I" } : Jvm.MethodName) method_2_code (8 : Nat) (Option.some Jvm.ClassFile.FieldType.int)).before args0 about1 = true := code_word (m := ⟨1, 1⟩) (meth := k1m1) (c := k1c1) (by decide +kernel) rfl rfl rfl (by decide +kernel)
set_option maxRecDepth 65536 in
theorem w_c9 : (Jvm.Cond.code ({ cls := "com/example/tagwire/tagwire/dictionary/TagTable", name := "put", desc := "(II)Z" } : Jvm.MethodName) prog_48_method_2_code (4 : Nat) (Option.some Jvm.ClassFile.FieldType.boolean)).before args0 about1 = true := code_word (m := ⟨2, 1⟩) (meth := k2m1) (c := k2c1) (by decide +kernel) rfl rfl rfl (by decide +kernel)
def codes1 : List Jvm.Cond := [Jvm.Cond.code x code maxLocals ret, Jvm.Cond.code ({ cls := "com/example/tagwire/tagwire/dictionary/TagTable", name := "<init>", desc := "(I)V" } : Jvm.MethodName) prog_48_method_1_code (2 : Nat) (Option.none : Option Jvm.ClassFile.FieldType), Jvm.Cond.code ({ cls := "java/lang/Object", name := "<init>", desc := "()V" } : Jvm.MethodName) object_method_1_code (1 : Nat) (Option.none : Option Jvm.ClassFile.FieldType), Jvm.Cond.code ({ cls := "java/lang/Math", name := "max", desc := "(II)I" } : Jvm.MethodName) jdk_29_method_65_code (2 : Nat) (Option.some Jvm.ClassFile.FieldType.int), Jvm.Cond.code ({ cls := "java/lang/Integer", name := "highestOneBit", desc := "(I)I" } : Jvm.MethodName) jdk_33_method_45_code (1 : Nat) (Option.some Jvm.ClassFile.FieldType.int), Jvm.Cond.code ({ cls := "java/lang/Integer", name := "numberOfLeadingZeros", desc := "(I)I" } : Jvm.MethodName) jdk_33_method_47_code (2 : Nat) (Option.some Jvm.ClassFile.FieldType.int), Jvm.Cond.code ({ cls := "com/example/tagwire/tagwire/dictionary/TagTable", name := "get", desc := "(I)I" } : Jvm.MethodName) prog_48_method_3_code (2 : Nat) (Option.some Jvm.ClassFile.FieldType.int), Jvm.Cond.code ({ cls := "com/example/tagwire/tagwire/dictionary/TagTable", name := "slot", desc := "(I)I" } : Jvm.MethodName) prog_48_method_4_code (5 : Nat) (Option.some Jvm.ClassFile.FieldType.int), Jvm.Cond.code ({ cls := "com/example/tagwire/tagwire/dictionary/TagTableGetPinLaw", name := "expected", desc := "(IIIIIIII)I" } : Jvm.MethodName) method_2_code (8 : Nat) (Option.some Jvm.ClassFile.FieldType.int), Jvm.Cond.code ({ cls := "com/example/tagwire/tagwire/dictionary/TagTable", name := "put", desc := "(II)Z" } : Jvm.MethodName) prog_48_method_2_code (4 : Nat) (Option.some Jvm.ClassFile.FieldType.boolean)]
set_option maxRecDepth 65536 in
theorem codes_eq : words1.filter isCode = codes1 := rfl
theorem w_codes : ∀ c ∈ words1.filter isCode, c.before args0 about1 = true := by
  rw [codes_eq]
  intro c hc
  simp only [codes1, List.mem_cons, List.not_mem_nil, or_false] at hc
  rcases hc with rfl | rfl | rfl | rfl | rfl | rfl | rfl | rfl | rfl | rfl
  · exact w_c0
  · exact w_c1
  · exact w_c2
  · exact w_c3
  · exact w_c4
  · exact w_c5
  · exact w_c6
  · exact w_c7
  · exact w_c8
  · exact w_c9
set_option maxRecDepth 65536 in
theorem w_t1 : (words1.take 24).all (fun c => isCode c || c.before args0 about1) = true := by decide +kernel
set_option maxRecDepth 65536 in
theorem w_t2 : ((words1.drop 24).take 24).all (fun c => isCode c || c.before args0 about1) = true := by decide +kernel
set_option maxRecDepth 65536 in
theorem w_t3 : ((words1.drop 24).drop 24).all (fun c => isCode c || c.before args0 about1) = true := by decide +kernel
theorem w_tables : (allAtoms (Jvm.Cond.code x code maxLocals ret :: tables_1)).before args0 about1 = true := by
  rw [allAtoms_all]
  show words1.all (fun c => c.before args0 about1) = true
  refine all_split ?_ w_codes
  rw [← List.take_append_drop 24 words1, List.all_append, w_t1, ← List.take_append_drop 24 (words1.drop 24), List.all_append, w_t2, w_t3]
  rfl
set_option maxRecDepth 65536 in
theorem w_case : (Jvm.Cond.and given_1 narrow_1).before args0 about1 = true := by decide +kernel
theorem w_applies : (headSpec (Jvm.Cond.code x code maxLocals ret :: tables_1) room_1).applies x e0.platform about1 = true :=
  (Spec.applies_iff w_frames).mpr ⟨w_running, w_runnable, w_alone, w_named, w_hears, w_ripe, w_room, w_tables⟩
theorem atStart : AtStart classFile x code maxLocals ret World_1 tables_1 room_1 Calls_1 rest_1 Pre_1 launch0 p0 e0 about1 theMethod args0 below0 :=
  ⟨lists_1, trivial, launch0.admits_env _ _ _, launch0.least_env, fairChoices_fair.cas, fairChoices_fair.clock, w_frames, w_args, w_heap, w_applies, trivial, trivial, w_case⟩
end start1
theorem witness_1 : WitnessClaimed_1 := ⟨start1.p0, start1.e0, start1.about1, start1.theMethod, start1.args0, start1.below0, start1.atStart⟩
end Jvm.Pilot.@@N@@
