import JvmDerived
import JvmDerived.Pilot.@@N@@Statement
import JvmDerived.Pilot.@@N@@Code
set_option linter.unusedVariables false
set_option linter.unusedSimpArgs false
@@BLOCK:NumsL.lean.txt@@
namespace Jvm.RoadKit
open Sem ClassFile Op Lib Jvm.Stand Jvm.Free Jvm.LawKit
theorem retI {p : Program} {l : Launch} {e : Env} {R : Room} {s : State} {m : MethodId} {args : Array Value} {below : List Frame} {meth : Method} {c : Code} {T : State} {locs : List Loc} {cells slots : Nat} (X : Stand p l e R s m args below meth c T locs cells slots) (hx : p.tables.exec = Jvm.exec) {pc : Nat} {Ls : Array Slot} {z : Int32} {rest : List Value} (hret : meth.sig.returnType = some .int) (hd : decode c.code pc = .ok (.ireturn, 1)) {fs : List Frame}
    (hl : ∀ (f : JFrame) (acts : List Action), f.method = m → f.locked = none → f.entered = [] → (doReturn e (T.setTop f) acts (some (.int z))).1 = T.setFrames fs) : Steps p.tables e below (T.setTop (mkF m pc Ls (.int z :: rest))) (T.setFrames fs) :=
  retOut X hx hret rfl (Or.inl ⟨rfl, Or.inl rfl, z, rfl⟩) hd hl
end Jvm.RoadKit

namespace Jvm.Pilot.@@N@@
open Jvm Jvm.ClassFile Sem Op Lib Jvm.Free Jvm.Stand Jvm.LawKit Jvm.RoadKit Bundle Jvm.Pilot.@@N@@.Jvm.D
theorem d1_0 : decode jdk_29_method_65_code 0 = .ok (.iload_n 0, 1) := by decide +kernel
theorem d1_1 : decode jdk_29_method_65_code 1 = .ok (.iload_n 1, 1) := by decide +kernel
theorem d1_2 : decode jdk_29_method_65_code 2 = .ok (.if_icmp .lt 7, 3) := by decide +kernel
theorem d1_5 : decode jdk_29_method_65_code 5 = .ok (.iload_n 0, 1) := by decide +kernel
theorem d1_6 : decode jdk_29_method_65_code 6 = .ok (.goto 4, 3) := by decide +kernel
theorem d1_9 : decode jdk_29_method_65_code 9 = .ok (.iload_n 1, 1) := by decide +kernel
theorem d1_10 : decode jdk_29_method_65_code 10 = .ok (.ireturn, 1) := by decide +kernel
theorem d2_0 : decode method_2_code 0 = .ok (.iload_n 0, 1) := by decide +kernel
theorem d2_1 : decode method_2_code 1 = .ok (.iconst 1, 1) := by decide +kernel
theorem d2_2 : decode method_2_code 2 = .ok (.iushr, 1) := by decide +kernel
theorem d2_3 : decode method_2_code 3 = .ok (.ldc 7, 2) := by decide +kernel
theorem d2_5 : decode method_2_code 5 = .ok (.iand, 1) := by decide +kernel
theorem d2_6 : decode method_2_code 6 = .ok (.istore_n 1, 1) := by decide +kernel
theorem d2_7 : decode method_2_code 7 = .ok (.iload_n 1, 1) := by decide +kernel
theorem d2_8 : decode method_2_code 8 = .ok (.ifCond .ne 5, 3) := by decide +kernel
theorem d2_11 : decode method_2_code 11 = .ok (.iconst 1, 1) := by decide +kernel
theorem d2_12 : decode method_2_code 12 = .ok (.ireturn, 1) := by decide +kernel
theorem d2_13 : decode method_2_code 13 = .ok (.iload_n 1, 1) := by decide +kernel
theorem d2_14 : decode method_2_code 14 = .ok (.ldc 8, 2) := by decide +kernel
theorem d2_16 : decode method_2_code 16 = .ok (.if_icmp .lt 16, 3) := by decide +kernel
theorem d2_19 : decode method_2_code 19 = .ok (.iload_n 1, 1) := by decide +kernel
theorem d2_20 : decode method_2_code 20 = .ok (.ldc 9, 2) := by decide +kernel
theorem d2_22 : decode method_2_code 22 = .ok (.if_icmp .gt 10, 3) := by decide +kernel
theorem d2_25 : decode method_2_code 25 = .ok (.iload_n 1, 1) := by decide +kernel
theorem d2_26 : decode method_2_code 26 = .ok (.sipush 2048, 3) := by decide +kernel
theorem d2_29 : decode method_2_code 29 = .ok (.isub, 1) := by decide +kernel
theorem d2_30 : decode method_2_code 30 = .ok (.i2c, 1) := by decide +kernel
theorem d2_31 : decode method_2_code 31 = .ok (.ireturn, 1) := by decide +kernel
theorem d2_32 : decode method_2_code 32 = .ok (.iload_n 1, 1) := by decide +kernel
theorem d2_33 : decode method_2_code 33 = .ok (.i2c, 1) := by decide +kernel
theorem d2_34 : decode method_2_code 34 = .ok (.ireturn, 1) := by decide +kernel
theorem d3_0 : decode jdk_42_method_3_code 0 = .ok (.aload_n 0, 1) := by decide +kernel
theorem d3_1 : decode jdk_42_method_3_code 1 = .ok (.aload_n 1, 1) := by decide +kernel
theorem d3_2 : decode jdk_42_method_3_code 2 = .ok (.iconst 0, 1) := by decide +kernel
theorem d3_3 : decode jdk_42_method_3_code 3 = .ok (.aload_n 1, 1) := by decide +kernel
theorem d3_4 : decode jdk_42_method_3_code 4 = .ok (.arraylength, 1) := by decide +kernel
theorem d3_5 : decode jdk_42_method_3_code 5 = .ok (.aconst_null, 1) := by decide +kernel
theorem d3_6 : decode jdk_42_method_3_code 6 = .ok (.invokespecial 27, 3) := by decide +kernel
theorem d3_9 : decode jdk_42_method_3_code 9 = .ok (.return_, 1) := by decide +kernel
theorem d4_0 : decode jdk_42_method_149_code 0 = .ok (.aload_n 0, 1) := by decide +kernel
theorem d4_1 : decode jdk_42_method_149_code 1 = .ok (.invokespecial 1, 3) := by decide +kernel
theorem d4_4 : decode jdk_42_method_149_code 4 = .ok (.iload_n 3, 1) := by decide +kernel
theorem d4_5 : decode jdk_42_method_149_code 5 = .ok (.ifCond .ne 22, 3) := by decide +kernel
theorem d4_27 : decode jdk_42_method_149_code 27 = .ok (.getstatic 38, 3) := by decide +kernel
theorem d4_30 : decode jdk_42_method_149_code 30 = .ok (.ifCond .eq 28, 3) := by decide +kernel
theorem d4_33 : decode jdk_42_method_149_code 33 = .ok (.aload_n 1, 1) := by decide +kernel
theorem d4_34 : decode jdk_42_method_149_code 34 = .ok (.iload_n 2, 1) := by decide +kernel
theorem d4_35 : decode jdk_42_method_149_code 35 = .ok (.iload_n 3, 1) := by decide +kernel
theorem d4_36 : decode jdk_42_method_149_code 36 = .ok (.invokestatic 177, 3) := by decide +kernel
theorem d4_39 : decode jdk_42_method_149_code 39 = .ok (.astore 5, 2) := by decide +kernel
theorem d4_41 : decode jdk_42_method_149_code 41 = .ok (.aload_n 0, 1) := by decide +kernel
theorem d4_42 : decode jdk_42_method_149_code 42 = .ok (.aload 5, 2) := by decide +kernel
theorem d4_44 : decode jdk_42_method_149_code 44 = .ok (.iload_n 3, 1) := by decide +kernel
theorem d4_45 : decode jdk_42_method_149_code 45 = .ok (.invokestatic 47, 3) := by decide +kernel
theorem d4_48 : decode jdk_42_method_149_code 48 = .ok (.putfield 15, 3) := by decide +kernel
theorem d4_51 : decode jdk_42_method_149_code 51 = .ok (.aload_n 0, 1) := by decide +kernel
theorem d4_52 : decode jdk_42_method_149_code 52 = .ok (.aload 5, 2) := by decide +kernel
theorem d4_54 : decode jdk_42_method_149_code 54 = .ok (.putfield 9, 3) := by decide +kernel
theorem d4_57 : decode jdk_42_method_149_code 57 = .ok (.return_, 1) := by decide +kernel
theorem d6_0 : decode jdk_52_method_16_code 0 = .ok (.iload_n 2, 1) := by decide +kernel
theorem d6_1 : decode jdk_52_method_16_code 1 = .ok (.newarray .byte, 2) := by decide +kernel
theorem d6_3 : decode jdk_52_method_16_code 3 = .ok (.astore_n 3, 1) := by decide +kernel
theorem d6_4 : decode jdk_52_method_16_code 4 = .ok (.aload_n 0, 1) := by decide +kernel
theorem d6_5 : decode jdk_52_method_16_code 5 = .ok (.iload_n 1, 1) := by decide +kernel
theorem d6_6 : decode jdk_52_method_16_code 6 = .ok (.aload_n 3, 1) := by decide +kernel
theorem d6_7 : decode jdk_52_method_16_code 7 = .ok (.iconst 0, 1) := by decide +kernel
theorem d6_8 : decode jdk_52_method_16_code 8 = .ok (.iload_n 2, 1) := by decide +kernel
theorem d6_9 : decode jdk_52_method_16_code 9 = .ok (.invokestatic 115, 3) := by decide +kernel
theorem d6_12 : decode jdk_52_method_16_code 12 = .ok (.istore 4, 2) := by decide +kernel
theorem d6_14 : decode jdk_52_method_16_code 14 = .ok (.iload 4, 2) := by decide +kernel
theorem d6_16 : decode jdk_52_method_16_code 16 = .ok (.iload_n 2, 1) := by decide +kernel
theorem d6_17 : decode jdk_52_method_16_code 17 = .ok (.if_icmp .eq 40, 3) := by decide +kernel
theorem d6_20 : decode jdk_52_method_16_code 20 = .ok (.aload_n 0, 1) := by decide +kernel
theorem d6_21 : decode jdk_52_method_16_code 21 = .ok (.iload_n 1, 1) := by decide +kernel
theorem d6_22 : decode jdk_52_method_16_code 22 = .ok (.iload_n 2, 1) := by decide +kernel
theorem d6_23 : decode jdk_52_method_16_code 23 = .ok (.invokestatic 119, 3) := by decide +kernel
theorem d6_26 : decode jdk_52_method_16_code 26 = .ok (.astore 5, 2) := by decide +kernel
theorem d6_28 : decode jdk_52_method_16_code 28 = .ok (.aload 5, 2) := by decide +kernel
theorem d6_30 : decode jdk_52_method_16_code 30 = .ok (.iload 4, 2) := by decide +kernel
theorem d6_32 : decode jdk_52_method_16_code 32 = .ok (.invokestatic 71, 3) := by decide +kernel
theorem d6_35 : decode jdk_52_method_16_code 35 = .ok (.sipush 255, 3) := by decide +kernel
theorem d6_38 : decode jdk_52_method_16_code 38 = .ok (.if_icmp .gt 16, 3) := by decide +kernel
theorem d6_54 : decode jdk_52_method_16_code 54 = .ok (.aload 5, 2) := by decide +kernel
theorem d6_56 : decode jdk_52_method_16_code 56 = .ok (.areturn, 1) := by decide +kernel
theorem d6_57 : decode jdk_52_method_16_code 57 = .ok (.aload_n 3, 1) := by decide +kernel
theorem d6_58 : decode jdk_52_method_16_code 58 = .ok (.areturn, 1) := by decide +kernel
theorem d7_0 : decode jdk_52_method_21_code 0 = .ok (.iconst 0, 1) := by decide +kernel
theorem d7_1 : decode jdk_52_method_21_code 1 = .ok (.istore 5, 2) := by decide +kernel
theorem d7_3 : decode jdk_52_method_21_code 3 = .ok (.iload 5, 2) := by decide +kernel
theorem d7_5 : decode jdk_52_method_21_code 5 = .ok (.iload 4, 2) := by decide +kernel
theorem d7_7 : decode jdk_52_method_21_code 7 = .ok (.if_icmp .ge 37, 3) := by decide +kernel
theorem d7_10 : decode jdk_52_method_21_code 10 = .ok (.aload_n 0, 1) := by decide +kernel
theorem d7_11 : decode jdk_52_method_21_code 11 = .ok (.iload_n 1, 1) := by decide +kernel
theorem d7_12 : decode jdk_52_method_21_code 12 = .ok (.caload, 1) := by decide +kernel
theorem d7_13 : decode jdk_52_method_21_code 13 = .ok (.istore 6, 2) := by decide +kernel
theorem d7_15 : decode jdk_52_method_21_code 15 = .ok (.iload 6, 2) := by decide +kernel
theorem d7_17 : decode jdk_52_method_21_code 17 = .ok (.sipush 255, 3) := by decide +kernel
theorem d7_20 : decode jdk_52_method_21_code 20 = .ok (.if_icmp .le 6, 3) := by decide +kernel
theorem d7_23 : decode jdk_52_method_21_code 23 = .ok (.iload 5, 2) := by decide +kernel
theorem d7_25 : decode jdk_52_method_21_code 25 = .ok (.ireturn, 1) := by decide +kernel
theorem d7_26 : decode jdk_52_method_21_code 26 = .ok (.aload_n 2, 1) := by decide +kernel
theorem d7_27 : decode jdk_52_method_21_code 27 = .ok (.iload_n 3, 1) := by decide +kernel
theorem d7_28 : decode jdk_52_method_21_code 28 = .ok (.iload 6, 2) := by decide +kernel
theorem d7_30 : decode jdk_52_method_21_code 30 = .ok (.i2b, 1) := by decide +kernel
theorem d7_31 : decode jdk_52_method_21_code 31 = .ok (.bastore, 1) := by decide +kernel
theorem d7_32 : decode jdk_52_method_21_code 32 = .ok (.iinc 1 1, 3) := by decide +kernel
theorem d7_35 : decode jdk_52_method_21_code 35 = .ok (.iinc 3 1, 3) := by decide +kernel
theorem d7_38 : decode jdk_52_method_21_code 38 = .ok (.iinc 5 1, 3) := by decide +kernel
theorem d7_41 : decode jdk_52_method_21_code 41 = .ok (.goto (-38), 3) := by decide +kernel
theorem d7_44 : decode jdk_52_method_21_code 44 = .ok (.iload 4, 2) := by decide +kernel
theorem d7_46 : decode jdk_52_method_21_code 46 = .ok (.ireturn, 1) := by decide +kernel
theorem d8_0 : decode jdk_52_method_15_code 0 = .ok (.iload_n 1, 1) := by decide +kernel
theorem d8_1 : decode jdk_52_method_15_code 1 = .ok (.aload_n 0, 1) := by decide +kernel
theorem d8_2 : decode jdk_52_method_15_code 2 = .ok (.arraylength, 1) := by decide +kernel
theorem d8_3 : decode jdk_52_method_15_code 3 = .ok (.isub, 1) := by decide +kernel
theorem d8_4 : decode jdk_52_method_15_code 4 = .ok (.bipush 31, 2) := by decide +kernel
theorem d8_6 : decode jdk_52_method_15_code 6 = .ok (.iushr, 1) := by decide +kernel
theorem d8_7 : decode jdk_52_method_15_code 7 = .ok (.i2b, 1) := by decide +kernel
theorem d8_8 : decode jdk_52_method_15_code 8 = .ok (.ireturn, 1) := by decide +kernel
theorem d9_0 : decode prog_8_method_2_code 0 = .ok (.iconst 0, 1) := by decide +kernel
theorem d9_1 : decode prog_8_method_2_code 1 = .ok (.istore_n 3, 1) := by decide +kernel
theorem d9_2 : decode prog_8_method_2_code 2 = .ok (.iconst 0, 1) := by decide +kernel
theorem d9_3 : decode prog_8_method_2_code 3 = .ok (.istore 4, 2) := by decide +kernel
theorem d9_5 : decode prog_8_method_2_code 5 = .ok (.iload 4, 2) := by decide +kernel
theorem d9_7 : decode prog_8_method_2_code 7 = .ok (.aload_n 0, 1) := by decide +kernel
theorem d9_8 : decode prog_8_method_2_code 8 = .ok (.invokevirtual 7, 3) := by decide +kernel
theorem d9_11 : decode prog_8_method_2_code 11 = .ok (.if_icmp .ge 101, 3) := by decide +kernel
theorem d9_14 : decode prog_8_method_2_code 14 = .ok (.aload_n 0, 1) := by decide +kernel
theorem d9_15 : decode prog_8_method_2_code 15 = .ok (.iload 4, 2) := by decide +kernel
theorem d9_17 : decode prog_8_method_2_code 17 = .ok (.invokevirtual 13, 3) := by decide +kernel
theorem d9_20 : decode prog_8_method_2_code 20 = .ok (.istore 5, 2) := by decide +kernel
theorem d9_22 : decode prog_8_method_2_code 22 = .ok (.iinc 3 1, 3) := by decide +kernel
theorem d9_25 : decode prog_8_method_2_code 25 = .ok (.iload 5, 2) := by decide +kernel
theorem d9_27 : decode prog_8_method_2_code 27 = .ok (.ifCond .ne 18, 3) := by decide +kernel
theorem d9_45 : decode prog_8_method_2_code 45 = .ok (.iload 5, 2) := by decide +kernel
theorem d9_47 : decode prog_8_method_2_code 47 = .ok (.ldc 28, 2) := by decide +kernel
theorem d9_49 : decode prog_8_method_2_code 49 = .ok (.if_icmp .lt 46, 3) := by decide +kernel
theorem d9_52 : decode prog_8_method_2_code 52 = .ok (.iload 5, 2) := by decide +kernel
theorem d9_54 : decode prog_8_method_2_code 54 = .ok (.ldc 29, 2) := by decide +kernel
theorem d9_56 : decode prog_8_method_2_code 56 = .ok (.if_icmp .gt 39, 3) := by decide +kernel
theorem d9_95 : decode prog_8_method_2_code 95 = .ok (.iload 4, 2) := by decide +kernel
theorem d9_97 : decode prog_8_method_2_code 97 = .ok (.aload_n 0, 1) := by decide +kernel
theorem d9_98 : decode prog_8_method_2_code 98 = .ok (.iload 4, 2) := by decide +kernel
theorem d9_100 : decode prog_8_method_2_code 100 = .ok (.invokevirtual 13, 3) := by decide +kernel
theorem d9_103 : decode prog_8_method_2_code 103 = .ok (.invokestatic 42, 3) := by decide +kernel
theorem d9_106 : decode prog_8_method_2_code 106 = .ok (.iadd, 1) := by decide +kernel
theorem d9_107 : decode prog_8_method_2_code 107 = .ok (.istore 4, 2) := by decide +kernel
theorem d9_109 : decode prog_8_method_2_code 109 = .ok (.goto (-104), 3) := by decide +kernel
theorem d9_112 : decode prog_8_method_2_code 112 = .ok (.iload_n 3, 1) := by decide +kernel
theorem d9_113 : decode prog_8_method_2_code 113 = .ok (.ifCond .eq 8, 3) := by decide +kernel
theorem d9_116 : decode prog_8_method_2_code 116 = .ok (.iload_n 3, 1) := by decide +kernel
theorem d9_117 : decode prog_8_method_2_code 117 = .ok (.iload_n 2, 1) := by decide +kernel
theorem d9_118 : decode prog_8_method_2_code 118 = .ok (.if_icmp .le 19, 3) := by decide +kernel
theorem d9_137 : decode prog_8_method_2_code 137 = .ok (.return_, 1) := by decide +kernel
theorem d10_0 : decode jdk_42_method_54_code 0 = .ok (.aload_n 0, 1) := by decide +kernel
theorem d10_1 : decode jdk_42_method_54_code 1 = .ok (.getfield 9, 3) := by decide +kernel
theorem d10_4 : decode jdk_42_method_54_code 4 = .ok (.arraylength, 1) := by decide +kernel
theorem d10_5 : decode jdk_42_method_54_code 5 = .ok (.aload_n 0, 1) := by decide +kernel
theorem d10_6 : decode jdk_42_method_54_code 6 = .ok (.invokevirtual 335, 3) := by decide +kernel
theorem d10_9 : decode jdk_42_method_54_code 9 = .ok (.ishr, 1) := by decide +kernel
theorem d10_10 : decode jdk_42_method_54_code 10 = .ok (.ireturn, 1) := by decide +kernel
theorem d11_0 : decode jdk_42_method_152_code 0 = .ok (.getstatic 38, 3) := by decide +kernel
theorem d11_3 : decode jdk_42_method_152_code 3 = .ok (.ifCond .eq 10, 3) := by decide +kernel
theorem d11_6 : decode jdk_42_method_152_code 6 = .ok (.aload_n 0, 1) := by decide +kernel
theorem d11_7 : decode jdk_42_method_152_code 7 = .ok (.getfield 15, 3) := by decide +kernel
theorem d11_10 : decode jdk_42_method_152_code 10 = .ok (.goto 4, 3) := by decide +kernel
theorem d11_14 : decode jdk_42_method_152_code 14 = .ok (.ireturn, 1) := by decide +kernel
theorem d12_0 : decode jdk_42_method_57_code 0 = .ok (.aload_n 0, 1) := by decide +kernel
theorem d12_1 : decode jdk_42_method_57_code 1 = .ok (.invokevirtual 492, 3) := by decide +kernel
theorem d12_4 : decode jdk_42_method_57_code 4 = .ok (.ifCond .eq 23, 3) := by decide +kernel
theorem d12_7 : decode jdk_42_method_57_code 7 = .ok (.iload_n 1, 1) := by decide +kernel
theorem d12_8 : decode jdk_42_method_57_code 8 = .ok (.aload_n 0, 1) := by decide +kernel
theorem d12_9 : decode jdk_42_method_57_code 9 = .ok (.getfield 9, 3) := by decide +kernel
theorem d12_12 : decode jdk_42_method_57_code 12 = .ok (.arraylength, 1) := by decide +kernel
theorem d12_13 : decode jdk_42_method_57_code 13 = .ok (.invokestatic 499, 3) := by decide +kernel
theorem d12_16 : decode jdk_42_method_57_code 16 = .ok (.aload_n 0, 1) := by decide +kernel
theorem d12_17 : decode jdk_42_method_57_code 17 = .ok (.getfield 9, 3) := by decide +kernel
theorem d12_20 : decode jdk_42_method_57_code 20 = .ok (.iload_n 1, 1) := by decide +kernel
theorem d12_21 : decode jdk_42_method_57_code 21 = .ok (.baload, 1) := by decide +kernel
theorem d12_22 : decode jdk_42_method_57_code 22 = .ok (.sipush 255, 3) := by decide +kernel
theorem d12_25 : decode jdk_42_method_57_code 25 = .ok (.iand, 1) := by decide +kernel
theorem d12_26 : decode jdk_42_method_57_code 26 = .ok (.ireturn, 1) := by decide +kernel
theorem d12_27 : decode jdk_42_method_57_code 27 = .ok (.aload_n 0, 1) := by decide +kernel
theorem d12_28 : decode jdk_42_method_57_code 28 = .ok (.getfield 9, 3) := by decide +kernel
theorem d12_31 : decode jdk_42_method_57_code 31 = .ok (.arraylength, 1) := by decide +kernel
theorem d12_32 : decode jdk_42_method_57_code 32 = .ok (.iconst 1, 1) := by decide +kernel
theorem d12_33 : decode jdk_42_method_57_code 33 = .ok (.ishr, 1) := by decide +kernel
theorem d12_34 : decode jdk_42_method_57_code 34 = .ok (.istore_n 2, 1) := by decide +kernel
theorem d12_35 : decode jdk_42_method_57_code 35 = .ok (.iload_n 1, 1) := by decide +kernel
theorem d12_36 : decode jdk_42_method_57_code 36 = .ok (.iload_n 2, 1) := by decide +kernel
theorem d12_37 : decode jdk_42_method_57_code 37 = .ok (.invokestatic 499, 3) := by decide +kernel
theorem d12_40 : decode jdk_42_method_57_code 40 = .ok (.aload_n 0, 1) := by decide +kernel
theorem d12_41 : decode jdk_42_method_57_code 41 = .ok (.getfield 9, 3) := by decide +kernel
theorem d12_44 : decode jdk_42_method_57_code 44 = .ok (.iload_n 1, 1) := by decide +kernel
theorem d12_45 : decode jdk_42_method_57_code 45 = .ok (.iload_n 2, 1) := by decide +kernel
theorem d12_46 : decode jdk_42_method_57_code 46 = .ok (.invokestatic 502, 3) := by decide +kernel
theorem d12_49 : decode jdk_42_method_57_code 49 = .ok (.ireturn, 1) := by decide +kernel
theorem d13_0 : decode jdk_42_method_154_code 0 = .ok (.getstatic 38, 3) := by decide +kernel
theorem d13_3 : decode jdk_42_method_154_code 3 = .ok (.ifCond .eq 14, 3) := by decide +kernel
theorem d13_6 : decode jdk_42_method_154_code 6 = .ok (.aload_n 0, 1) := by decide +kernel
theorem d13_7 : decode jdk_42_method_154_code 7 = .ok (.getfield 15, 3) := by decide +kernel
theorem d13_10 : decode jdk_42_method_154_code 10 = .ok (.ifCond .ne 7, 3) := by decide +kernel
theorem d13_13 : decode jdk_42_method_154_code 13 = .ok (.iconst 1, 1) := by decide +kernel
theorem d13_14 : decode jdk_42_method_154_code 14 = .ok (.goto 4, 3) := by decide +kernel
theorem d13_17 : decode jdk_42_method_154_code 17 = .ok (.iconst 0, 1) := by decide +kernel
theorem d13_18 : decode jdk_42_method_154_code 18 = .ok (.ireturn, 1) := by decide +kernel
theorem d14_0 : decode jdk_42_method_155_code 0 = .ok (.iload_n 0, 1) := by decide +kernel
theorem d14_1 : decode jdk_42_method_155_code 1 = .ok (.iload_n 1, 1) := by decide +kernel
theorem d14_2 : decode jdk_42_method_155_code 2 = .ok (.getstatic 1053, 3) := by decide +kernel
theorem d14_5 : decode jdk_42_method_155_code 5 = .ok (.invokestatic 1059, 3) := by decide +kernel
theorem d14_8 : decode jdk_42_method_155_code 8 = .ok (.pop, 1) := by decide +kernel
theorem d14_9 : decode jdk_42_method_155_code 9 = .ok (.return_, 1) := by decide +kernel
theorem d15_0 : decode jdk_41_method_11_code 0 = .ok (.iload_n 0, 1) := by decide +kernel
theorem d15_1 : decode jdk_41_method_11_code 1 = .ok (.ifCond .lt 8, 3) := by decide +kernel
theorem d15_4 : decode jdk_41_method_11_code 4 = .ok (.iload_n 0, 1) := by decide +kernel
theorem d15_5 : decode jdk_41_method_11_code 5 = .ok (.iload_n 1, 1) := by decide +kernel
theorem d15_6 : decode jdk_41_method_11_code 6 = .ok (.if_icmp .lt 10, 3) := by decide +kernel
theorem d15_16 : decode jdk_41_method_11_code 16 = .ok (.iload_n 0, 1) := by decide +kernel
theorem d15_17 : decode jdk_41_method_11_code 17 = .ok (.ireturn, 1) := by decide +kernel
theorem d16_0 : decode jdk_89_method_18_code 0 = .ok (.iload_n 0, 1) := by decide +kernel
theorem d16_1 : decode jdk_89_method_18_code 1 = .ok (.ldc 73, 2) := by decide +kernel
theorem d16_3 : decode jdk_89_method_18_code 3 = .ok (.if_icmp .lt 7, 3) := by decide +kernel
theorem d16_6 : decode jdk_89_method_18_code 6 = .ok (.iconst 2, 1) := by decide +kernel
theorem d16_7 : decode jdk_89_method_18_code 7 = .ok (.goto 4, 3) := by decide +kernel
theorem d16_10 : decode jdk_89_method_18_code 10 = .ok (.iconst 1, 1) := by decide +kernel
theorem d16_11 : decode jdk_89_method_18_code 11 = .ok (.ireturn, 1) := by decide +kernel
theorem d17_0 : decode method_3_code 0 = .ok (.iload_n 0, 1) := by decide +kernel
theorem d17_1 : decode method_3_code 1 = .ok (.iconst 1, 1) := by decide +kernel
theorem d17_2 : decode method_3_code 2 = .ok (.iushr, 1) := by decide +kernel
theorem d17_3 : decode method_3_code 3 = .ok (.ldc 10, 2) := by decide +kernel
theorem d17_5 : decode method_3_code 5 = .ok (.irem, 1) := by decide +kernel
theorem d17_6 : decode method_3_code 6 = .ok (.istore_n 1, 1) := by decide +kernel
theorem d17_7 : decode method_3_code 7 = .ok (.ldc 8, 2) := by decide +kernel
theorem d17_9 : decode method_3_code 9 = .ok (.iload_n 1, 1) := by decide +kernel
theorem d17_10 : decode method_3_code 10 = .ok (.bipush 10, 2) := by decide +kernel
theorem d17_12 : decode method_3_code 12 = .ok (.iushr, 1) := by decide +kernel
theorem d17_13 : decode method_3_code 13 = .ok (.iadd, 1) := by decide +kernel
theorem d17_14 : decode method_3_code 14 = .ok (.i2c, 1) := by decide +kernel
theorem d17_15 : decode method_3_code 15 = .ok (.ireturn, 1) := by decide +kernel
theorem d18_0 : decode method_4_code 0 = .ok (.iload_n 0, 1) := by decide +kernel
theorem d18_1 : decode method_4_code 1 = .ok (.iconst 1, 1) := by decide +kernel
theorem d18_2 : decode method_4_code 2 = .ok (.iushr, 1) := by decide +kernel
theorem d18_3 : decode method_4_code 3 = .ok (.ldc 10, 2) := by decide +kernel
theorem d18_5 : decode method_4_code 5 = .ok (.irem, 1) := by decide +kernel
theorem d18_6 : decode method_4_code 6 = .ok (.istore_n 1, 1) := by decide +kernel
theorem d18_7 : decode method_4_code 7 = .ok (.ldc 11, 2) := by decide +kernel
theorem d18_9 : decode method_4_code 9 = .ok (.iload_n 1, 1) := by decide +kernel
theorem d18_10 : decode method_4_code 10 = .ok (.sipush 1023, 3) := by decide +kernel
theorem d18_13 : decode method_4_code 13 = .ok (.iand, 1) := by decide +kernel
theorem d18_14 : decode method_4_code 14 = .ok (.iadd, 1) := by decide +kernel
theorem d18_15 : decode method_4_code 15 = .ok (.i2c, 1) := by decide +kernel
theorem d18_16 : decode method_4_code 16 = .ok (.ireturn, 1) := by decide +kernel
theorem d19_0 : decode jdk_52_method_14_code 0 = .ok (.iload_n 2, 1) := by decide +kernel
theorem d19_1 : decode jdk_52_method_14_code 1 = .ok (.invokestatic 107, 3) := by decide +kernel
theorem d19_4 : decode jdk_52_method_14_code 4 = .ok (.astore_n 3, 1) := by decide +kernel
theorem d19_5 : decode jdk_52_method_14_code 5 = .ok (.iconst 0, 1) := by decide +kernel
theorem d19_6 : decode jdk_52_method_14_code 6 = .ok (.istore 4, 2) := by decide +kernel
theorem d19_8 : decode jdk_52_method_14_code 8 = .ok (.iload 4, 2) := by decide +kernel
theorem d19_10 : decode jdk_52_method_14_code 10 = .ok (.iload_n 2, 1) := by decide +kernel
theorem d19_11 : decode jdk_52_method_14_code 11 = .ok (.if_icmp .ge 21, 3) := by decide +kernel
theorem d19_14 : decode jdk_52_method_14_code 14 = .ok (.aload_n 3, 1) := by decide +kernel
theorem d19_15 : decode jdk_52_method_14_code 15 = .ok (.iload 4, 2) := by decide +kernel
theorem d19_17 : decode jdk_52_method_14_code 17 = .ok (.aload_n 0, 1) := by decide +kernel
theorem d19_18 : decode jdk_52_method_14_code 18 = .ok (.iload_n 1, 1) := by decide +kernel
theorem d19_19 : decode jdk_52_method_14_code 19 = .ok (.caload, 1) := by decide +kernel
theorem d19_20 : decode jdk_52_method_14_code 20 = .ok (.invokestatic 111, 3) := by decide +kernel
theorem d19_23 : decode jdk_52_method_14_code 23 = .ok (.iinc 1 1, 3) := by decide +kernel
theorem d19_26 : decode jdk_52_method_14_code 26 = .ok (.iinc 4 1, 3) := by decide +kernel
theorem d19_29 : decode jdk_52_method_14_code 29 = .ok (.goto (-21), 3) := by decide +kernel
theorem d19_32 : decode jdk_52_method_14_code 32 = .ok (.aload_n 3, 1) := by decide +kernel
theorem d19_33 : decode jdk_52_method_14_code 33 = .ok (.areturn, 1) := by decide +kernel
theorem d20_0 : decode jdk_52_method_2_code 0 = .ok (.iload_n 0, 1) := by decide +kernel
theorem d20_1 : decode jdk_52_method_2_code 1 = .ok (.invokestatic 11, 3) := by decide +kernel
theorem d20_4 : decode jdk_52_method_2_code 4 = .ok (.newarray .byte, 2) := by decide +kernel
theorem d20_6 : decode jdk_52_method_2_code 6 = .ok (.areturn, 1) := by decide +kernel
theorem d21_0 : decode jdk_52_method_3_code 0 = .ok (.iload_n 0, 1) := by decide +kernel
theorem d21_1 : decode jdk_52_method_3_code 1 = .ok (.ifCond .ge 11, 3) := by decide +kernel
theorem d21_12 : decode jdk_52_method_3_code 12 = .ok (.iload_n 0, 1) := by decide +kernel
theorem d21_13 : decode jdk_52_method_3_code 13 = .ok (.ldc 20, 2) := by decide +kernel
theorem d21_15 : decode jdk_52_method_3_code 15 = .ok (.if_icmp .lt 40, 3) := by decide +kernel
theorem d21_55 : decode jdk_52_method_3_code 55 = .ok (.iload_n 0, 1) := by decide +kernel
theorem d21_56 : decode jdk_52_method_3_code 56 = .ok (.iconst 1, 1) := by decide +kernel
theorem d21_57 : decode jdk_52_method_3_code 57 = .ok (.ishl, 1) := by decide +kernel
theorem d21_58 : decode jdk_52_method_3_code 58 = .ok (.ireturn, 1) := by decide +kernel
theorem d22_0 : decode jdk_52_method_4_code 0 = .ok (.getstatic 44, 3) := by decide +kernel
theorem d22_3 : decode jdk_52_method_4_code 3 = .ok (.ifCond .ne 25, 3) := by decide +kernel
theorem d22_28 : decode jdk_52_method_4_code 28 = .ok (.iload_n 1, 1) := by decide +kernel
theorem d22_29 : decode jdk_52_method_4_code 29 = .ok (.iconst 1, 1) := by decide +kernel
theorem d22_30 : decode jdk_52_method_4_code 30 = .ok (.ishl, 1) := by decide +kernel
theorem d22_31 : decode jdk_52_method_4_code 31 = .ok (.istore_n 1, 1) := by decide +kernel
theorem d22_32 : decode jdk_52_method_4_code 32 = .ok (.aload_n 0, 1) := by decide +kernel
theorem d22_33 : decode jdk_52_method_4_code 33 = .ok (.iload_n 1, 1) := by decide +kernel
theorem d22_34 : decode jdk_52_method_4_code 34 = .ok (.iinc 1 1, 3) := by decide +kernel
theorem d22_37 : decode jdk_52_method_4_code 37 = .ok (.iload_n 2, 1) := by decide +kernel
theorem d22_38 : decode jdk_52_method_4_code 38 = .ok (.getstatic 59, 3) := by decide +kernel
theorem d22_41 : decode jdk_52_method_4_code 41 = .ok (.ishr, 1) := by decide +kernel
theorem d22_42 : decode jdk_52_method_4_code 42 = .ok (.i2b, 1) := by decide +kernel
theorem d22_43 : decode jdk_52_method_4_code 43 = .ok (.bastore, 1) := by decide +kernel
theorem d22_44 : decode jdk_52_method_4_code 44 = .ok (.aload_n 0, 1) := by decide +kernel
theorem d22_45 : decode jdk_52_method_4_code 45 = .ok (.iload_n 1, 1) := by decide +kernel
theorem d22_46 : decode jdk_52_method_4_code 46 = .ok (.iload_n 2, 1) := by decide +kernel
theorem d22_47 : decode jdk_52_method_4_code 47 = .ok (.getstatic 63, 3) := by decide +kernel
theorem d22_50 : decode jdk_52_method_4_code 50 = .ok (.ishr, 1) := by decide +kernel
theorem d22_51 : decode jdk_52_method_4_code 51 = .ok (.i2b, 1) := by decide +kernel
theorem d22_52 : decode jdk_52_method_4_code 52 = .ok (.bastore, 1) := by decide +kernel
theorem d22_53 : decode jdk_52_method_4_code 53 = .ok (.return_, 1) := by decide +kernel
theorem d23_0 : decode jdk_52_method_5_code 0 = .ok (.getstatic 44, 3) := by decide +kernel
theorem d23_3 : decode jdk_52_method_5_code 3 = .ok (.ifCond .ne 25, 3) := by decide +kernel
theorem d23_28 : decode jdk_52_method_5_code 28 = .ok (.iload_n 1, 1) := by decide +kernel
theorem d23_29 : decode jdk_52_method_5_code 29 = .ok (.iconst 1, 1) := by decide +kernel
theorem d23_30 : decode jdk_52_method_5_code 30 = .ok (.ishl, 1) := by decide +kernel
theorem d23_31 : decode jdk_52_method_5_code 31 = .ok (.istore_n 1, 1) := by decide +kernel
theorem d23_32 : decode jdk_52_method_5_code 32 = .ok (.aload_n 0, 1) := by decide +kernel
theorem d23_33 : decode jdk_52_method_5_code 33 = .ok (.iload_n 1, 1) := by decide +kernel
theorem d23_34 : decode jdk_52_method_5_code 34 = .ok (.iinc 1 1, 3) := by decide +kernel
theorem d23_37 : decode jdk_52_method_5_code 37 = .ok (.baload, 1) := by decide +kernel
theorem d23_38 : decode jdk_52_method_5_code 38 = .ok (.sipush 255, 3) := by decide +kernel
theorem d23_41 : decode jdk_52_method_5_code 41 = .ok (.iand, 1) := by decide +kernel
theorem d23_42 : decode jdk_52_method_5_code 42 = .ok (.getstatic 59, 3) := by decide +kernel
theorem d23_45 : decode jdk_52_method_5_code 45 = .ok (.ishl, 1) := by decide +kernel
theorem d23_46 : decode jdk_52_method_5_code 46 = .ok (.aload_n 0, 1) := by decide +kernel
theorem d23_47 : decode jdk_52_method_5_code 47 = .ok (.iload_n 1, 1) := by decide +kernel
theorem d23_48 : decode jdk_52_method_5_code 48 = .ok (.baload, 1) := by decide +kernel
theorem d23_49 : decode jdk_52_method_5_code 49 = .ok (.sipush 255, 3) := by decide +kernel
theorem d23_52 : decode jdk_52_method_5_code 52 = .ok (.iand, 1) := by decide +kernel
theorem d23_53 : decode jdk_52_method_5_code 53 = .ok (.getstatic 63, 3) := by decide +kernel
theorem d23_56 : decode jdk_52_method_5_code 56 = .ok (.ishl, 1) := by decide +kernel
theorem d23_57 : decode jdk_52_method_5_code 57 = .ok (.ior, 1) := by decide +kernel
theorem d23_58 : decode jdk_52_method_5_code 58 = .ok (.i2c, 1) := by decide +kernel
theorem d23_59 : decode jdk_52_method_5_code 59 = .ok (.ireturn, 1) := by decide +kernel
theorem d24_0 : decode jdk_52_method_8_code 0 = .ok (.aload_n 0, 1) := by decide +kernel
theorem d24_1 : decode jdk_52_method_8_code 1 = .ok (.iload_n 1, 1) := by decide +kernel
theorem d24_2 : decode jdk_52_method_8_code 2 = .ok (.iload_n 2, 1) := by decide +kernel
theorem d24_3 : decode jdk_52_method_8_code 3 = .ok (.iconst 0, 1) := by decide +kernel
theorem d24_4 : decode jdk_52_method_8_code 4 = .ok (.invokestatic 88, 3) := by decide +kernel
theorem d24_7 : decode jdk_52_method_8_code 7 = .ok (.ireturn, 1) := by decide +kernel
theorem d25_0 : decode jdk_52_method_7_code 0 = .ok (.getstatic 44, 3) := by decide +kernel
theorem d25_3 : decode jdk_52_method_7_code 3 = .ok (.ifCond .ne 16, 3) := by decide +kernel
theorem d25_19 : decode jdk_52_method_7_code 19 = .ok (.iload_n 3, 1) := by decide +kernel
theorem d25_20 : decode jdk_52_method_7_code 20 = .ok (.ifCond .eq 8, 3) := by decide +kernel
theorem d25_28 : decode jdk_52_method_7_code 28 = .ok (.aload_n 0, 1) := by decide +kernel
theorem d25_29 : decode jdk_52_method_7_code 29 = .ok (.iload_n 1, 1) := by decide +kernel
theorem d25_30 : decode jdk_52_method_7_code 30 = .ok (.invokestatic 71, 3) := by decide +kernel
theorem d25_33 : decode jdk_52_method_7_code 33 = .ok (.istore 4, 2) := by decide +kernel
theorem d25_35 : decode jdk_52_method_7_code 35 = .ok (.iload 4, 2) := by decide +kernel
theorem d25_37 : decode jdk_52_method_7_code 37 = .ok (.invokestatic 75, 3) := by decide +kernel
theorem d25_40 : decode jdk_52_method_7_code 40 = .ok (.ifCond .eq 43, 3) := by decide +kernel
theorem d25_43 : decode jdk_52_method_7_code 43 = .ok (.iinc 1 1, 3) := by decide +kernel
theorem d25_46 : decode jdk_52_method_7_code 46 = .ok (.iload_n 1, 1) := by decide +kernel
theorem d25_47 : decode jdk_52_method_7_code 47 = .ok (.iload_n 2, 1) := by decide +kernel
theorem d25_48 : decode jdk_52_method_7_code 48 = .ok (.if_icmp .ge 35, 3) := by decide +kernel
theorem d25_51 : decode jdk_52_method_7_code 51 = .ok (.iload_n 3, 1) := by decide +kernel
theorem d25_52 : decode jdk_52_method_7_code 52 = .ok (.ifCond .eq 8, 3) := by decide +kernel
theorem d25_60 : decode jdk_52_method_7_code 60 = .ok (.aload_n 0, 1) := by decide +kernel
theorem d25_61 : decode jdk_52_method_7_code 61 = .ok (.iload_n 1, 1) := by decide +kernel
theorem d25_62 : decode jdk_52_method_7_code 62 = .ok (.invokestatic 71, 3) := by decide +kernel
theorem d25_65 : decode jdk_52_method_7_code 65 = .ok (.istore 5, 2) := by decide +kernel
theorem d25_67 : decode jdk_52_method_7_code 67 = .ok (.iload 5, 2) := by decide +kernel
theorem d25_69 : decode jdk_52_method_7_code 69 = .ok (.invokestatic 81, 3) := by decide +kernel
theorem d25_72 : decode jdk_52_method_7_code 72 = .ok (.ifCond .eq 11, 3) := by decide +kernel
theorem d25_75 : decode jdk_52_method_7_code 75 = .ok (.iload 4, 2) := by decide +kernel
theorem d25_77 : decode jdk_52_method_7_code 77 = .ok (.iload 5, 2) := by decide +kernel
theorem d25_79 : decode jdk_52_method_7_code 79 = .ok (.invokestatic 84, 3) := by decide +kernel
theorem d25_82 : decode jdk_52_method_7_code 82 = .ok (.ireturn, 1) := by decide +kernel
theorem d25_83 : decode jdk_52_method_7_code 83 = .ok (.iload 4, 2) := by decide +kernel
theorem d25_85 : decode jdk_52_method_7_code 85 = .ok (.ireturn, 1) := by decide +kernel
theorem d26_0 : decode jdk_89_method_14_code 0 = .ok (.iload_n 0, 1) := by decide +kernel
theorem d26_1 : decode jdk_89_method_14_code 1 = .ok (.ldc 75, 2) := by decide +kernel
theorem d26_3 : decode jdk_89_method_14_code 3 = .ok (.if_icmp .lt 13, 3) := by decide +kernel
theorem d26_6 : decode jdk_89_method_14_code 6 = .ok (.iload_n 0, 1) := by decide +kernel
theorem d26_7 : decode jdk_89_method_14_code 7 = .ok (.ldc 76, 2) := by decide +kernel
theorem d26_9 : decode jdk_89_method_14_code 9 = .ok (.if_icmp .ge 7, 3) := by decide +kernel
theorem d26_12 : decode jdk_89_method_14_code 12 = .ok (.iconst 1, 1) := by decide +kernel
theorem d26_13 : decode jdk_89_method_14_code 13 = .ok (.goto 4, 3) := by decide +kernel
theorem d26_16 : decode jdk_89_method_14_code 16 = .ok (.iconst 0, 1) := by decide +kernel
theorem d26_17 : decode jdk_89_method_14_code 17 = .ok (.ireturn, 1) := by decide +kernel
theorem d27_0 : decode jdk_89_method_15_code 0 = .ok (.iload_n 0, 1) := by decide +kernel
theorem d27_1 : decode jdk_89_method_15_code 1 = .ok (.ldc 76, 2) := by decide +kernel
theorem d27_3 : decode jdk_89_method_15_code 3 = .ok (.if_icmp .lt 13, 3) := by decide +kernel
theorem d27_6 : decode jdk_89_method_15_code 6 = .ok (.iload_n 0, 1) := by decide +kernel
theorem d27_7 : decode jdk_89_method_15_code 7 = .ok (.ldc 77, 2) := by decide +kernel
theorem d27_9 : decode jdk_89_method_15_code 9 = .ok (.if_icmp .ge 7, 3) := by decide +kernel
theorem d27_12 : decode jdk_89_method_15_code 12 = .ok (.iconst 1, 1) := by decide +kernel
theorem d27_13 : decode jdk_89_method_15_code 13 = .ok (.goto 4, 3) := by decide +kernel
theorem d27_16 : decode jdk_89_method_15_code 16 = .ok (.iconst 0, 1) := by decide +kernel
theorem d27_17 : decode jdk_89_method_15_code 17 = .ok (.ireturn, 1) := by decide +kernel
theorem d28_0 : decode jdk_89_method_19_code 0 = .ok (.iload_n 0, 1) := by decide +kernel
theorem d28_1 : decode jdk_89_method_19_code 1 = .ok (.bipush 10, 2) := by decide +kernel
theorem d28_3 : decode jdk_89_method_19_code 3 = .ok (.ishl, 1) := by decide +kernel
theorem d28_4 : decode jdk_89_method_19_code 4 = .ok (.iload_n 1, 1) := by decide +kernel
theorem d28_5 : decode jdk_89_method_19_code 5 = .ok (.iadd, 1) := by decide +kernel
theorem d28_6 : decode jdk_89_method_19_code 6 = .ok (.ldc 85, 2) := by decide +kernel
theorem d28_8 : decode jdk_89_method_19_code 8 = .ok (.iadd, 1) := by decide +kernel
theorem d28_9 : decode jdk_89_method_19_code 9 = .ok (.ireturn, 1) := by decide +kernel
theorem pn_0 : plainName "com/example/chitragupta/chitragupta/core/CharactersCheckPinLaw" = true := by first | (simp [plainName, overriddenIn]; done) | decide +kernel
theorem pn_1 : plainName "java/lang/Character" = true := by first | (simp [plainName, overriddenIn]; done) | decide +kernel
theorem pn_2 : plainName "java/lang/StringUTF16" = true := by first | (simp [plainName, overriddenIn]; done) | decide +kernel
theorem pn_3 : plainName "java/lang/String" = true := by first | (simp [plainName, overriddenIn]; done) | decide +kernel
theorem pn_4 : plainName "jdk/internal/util/Preconditions" = true := by first | (simp [plainName, overriddenIn]; done) | decide +kernel
theorem pn_5 : plainName "com/example/chitragupta/chitragupta/core/Characters" = true := by first | (simp [plainName, overriddenIn]; done) | decide +kernel
theorem pd_0 : parseMethodDescriptor "(I)I" = some ⟨[.int], some .int⟩ := by decide +kernel
theorem pd_1 : parseMethodDescriptor "(I)[B" = some ⟨[.int], some (.array .byte)⟩ := by decide +kernel
theorem pd_2 : parseMethodDescriptor "([BII)V" = some ⟨[(.array .byte), .int, .int], none⟩ := by decide +kernel
theorem pd_3 : parseMethodDescriptor "([CI[BII)I" = some ⟨[(.array .char), .int, (.array .byte), .int, .int], some .int⟩ := by decide +kernel
theorem pd_4 : parseMethodDescriptor "([CII)[B" = some ⟨[(.array .char), .int, .int], some (.array .byte)⟩ := by decide +kernel
theorem pd_5 : parseMethodDescriptor "([BI)C" = some ⟨[(.array .byte), .int], some .char⟩ := by decide +kernel
theorem pd_6 : parseMethodDescriptor "([BI)B" = some ⟨[(.array .byte), .int], some .byte⟩ := by decide +kernel
theorem pd_7 : parseMethodDescriptor "([CIILjava/lang/Void;)V" = some ⟨[(.array .char), .int, .int, (.object "java/lang/Void")], none⟩ := by decide +kernel
theorem pd_8 : parseMethodDescriptor "()B" = some ⟨[], some .byte⟩ := by decide +kernel
theorem pd_9 : parseMethodDescriptor "(IILjava/util/function/BiFunction;)I" = some ⟨[.int, .int, (.object "java/util/function/BiFunction")], some .int⟩ := by decide +kernel
theorem pd_10 : parseMethodDescriptor "(C)Z" = some ⟨[.char], some .boolean⟩ := by decide +kernel
theorem pd_11 : parseMethodDescriptor "([BIIZ)I" = some ⟨[(.array .byte), .int, .int, .boolean], some .int⟩ := by decide +kernel
theorem pd_12 : parseMethodDescriptor "()Z" = some ⟨[], some .boolean⟩ := by decide +kernel
theorem pd_13 : parseMethodDescriptor "(II)V" = some ⟨[.int, .int], none⟩ := by decide +kernel
theorem pd_14 : parseMethodDescriptor "([BII)I" = some ⟨[(.array .byte), .int, .int], some .int⟩ := by decide +kernel
theorem pd_15 : parseMethodDescriptor "(CC)I" = some ⟨[.char, .char], some .int⟩ := by decide +kernel
theorem pd_16 : parseMethodDescriptor "()I" = some ⟨[], some .int⟩ := by decide +kernel
theorem pd_17 : parseMethodDescriptor "(II)I" = some ⟨[.int, .int], some .int⟩ := by decide +kernel
theorem pd_18 : parseMethodDescriptor "(I)C" = some ⟨[.int], some .char⟩ := by decide +kernel
theorem pd_19 : parseMethodDescriptor "([C)V" = some ⟨[(.array .char)], none⟩ := by decide +kernel
theorem pd_20 : parseMethodDescriptor "(Ljava/lang/String;Ljava/lang/String;I)V" = some ⟨[(.object "java/lang/String"), (.object "java/lang/String"), .int], none⟩ := by decide +kernel
theorem own_rwh {T : State} {h : Heap} {a : Addr} {c : Cell} (e : T.heap = h) (q : h[a]? = some c) : T.heap[a]? = some c := e ▸ q
theorem own_osz {Z : State} {n0 : Nat} {h : Heap} (O : Old Z n0 h) : n0 ≤ h.size := O.1 ▸ O.2.1
theorem own_safe0 {Z : State} {vm : Vm} {h : Heap} {x : Addr} : Safe Z [] vm h x := fun B => by obtain ⟨p, hp, -⟩ := B; cases hp

theorem own_eqint {s : State} {args : Array Value} {a : Term} {k : Int32} (h : (Cond.eq a (Term.int k)).value args s none s [] = some true) : a.eval args s none [] s = some (.int k) := by
  obtain ⟨x, y, h1, h2, h3, h4⟩ := cmp_v (Or.inl h)
  have hy : y = .int k := by simpa [Term.eval] using h2.symm
  subst hy
  obtain ⟨z, rfl⟩ := h4
  have : (Cond.eq a (Term.int k)).value args s none s [] = some (decide (z = k)) := by simp [Cond.value, h1, Term.int_eval]
  rw [h1, gotT this h]

def own_EL : List (String × Nat) := []
theorem own_EW {Z : State} {a0 : Array Value} (hw : ∀ d ∈ tables_1, d.before a0 Z = true) : EW Z a0 own_EL := EW.nil
theorem own_SA {Z : State} {a0 : Array Value} (hw : ∀ d ∈ tables_1, d.before a0 Z = true) : ∀ a ∈ Bundle.stringAtoms, a.before a0 Z = true := fun d hd => hw d ((by decide +kernel : ∀ d ∈ Bundle.stringAtoms, d ∈ tables_1) d hd)
theorem own_mem {p : String × Nat} (h : p ∈ own_EL) : p ∈ own_EL := h

abbrev lbt (x : Int32) : Int32 := ((x >>> ((0 : Int32) &&& 31)).toInt8.toInt32.toInt8.toInt32)
abbrev hbt (x : Int32) : Int32 := ((x >>> ((8 : Int32) &&& 31)).toInt8.toInt32.toInt8.toInt32)
abbrev llt (x : Int32) : Int32 := (x.toInt8.toInt32.toInt8.toInt32)
abbrev ub1 (a : Int32) : List Value := [.int (lbt a), .int (hbt a)]
abbrev ub2 (a b : Int32) : List Value := [.int (lbt a), .int (hbt a), .int (lbt b), .int (hbt b)]
abbrev ub3 (a b c : Int32) : List Value := [.int (lbt a), .int (hbt a), .int (lbt b), .int (hbt b), .int (lbt c), .int (hbt c)]
abbrev ub4 (a b c d : Int32) : List Value := [.int (lbt a), .int (hbt a), .int (lbt b), .int (hbt b), .int (lbt c), .int (hbt c), .int (lbt d), .int (hbt d)]
abbrev lu1 (a : Int32) : List Value := [.int (llt a)]
abbrev lu2 (a b : Int32) : List Value := [.int (llt a), .int (llt b)]
theorem own_ltz {a j z : Int32} (h : a < z) (e : j.toInt ≤ a.toInt) : j < z := by rw [Int32.lt_iff_toInt_lt] at h ⊢; omega
theorem own_nge {a j z : Int32} (h : a < z) (e : j.toInt ≤ a.toInt) : ¬ ¬ j < z := fun q => q (own_ltz h e)
theorem own_sl {vs : List Value} {n k : Nat} (h : n < vs.length) (e : k ≤ n) : k < vs.length := Nat.lt_of_le_of_lt e h
theorem own_sl1 {vs : List Value} {n k i : Nat} {v : Value} (h : n < vs.length) (e : k ≤ n) : k < (vs.set i v).length := by rw [List.length_set]; omega
def CR (x : Int32) : Prop := ¬ x < (0 : Int32) ∧ ¬ (65535 : Int32) < x
def HS (x : Int32) : Prop := CR x ∧ ¬ x < (55296 : Int32) ∧ x < (56320 : Int32)
def LS (x : Int32) : Prop := CR x ∧ ¬ x < (56320 : Int32) ∧ x < (57344 : Int32)
def BM (x : Int32) : Prop := CR x ∧ ¬ x = (0 : Int32) ∧ (x < (55296 : Int32) ∨ (57343 : Int32) < x)
def tcp (a b : Int32) : Int32 := ((a <<< ((10 : Int32) &&& 31)) + b) + (-56613888 : Int32)
theorem CR.int {x : Int32} (h : CR x) : 0 ≤ x.toInt ∧ x.toInt ≤ 65535 := by
  have e0 : (0 : Int32).toInt = 0 := rfl
  have e2 : (65535 : Int32).toInt = 65535 := rfl
  have h1 := h.1; have h2 := h.2
  rw [Int32.lt_iff_toInt_lt] at h1 h2; omega
theorem CR.of {x : Int32} (h1 : 0 ≤ x.toInt) (h2 : x.toInt ≤ 65535) : CR x := by
  have e0 : (0 : Int32).toInt = 0 := rfl
  have e2 : (65535 : Int32).toInt = 65535 := rfl
  constructor <;> rw [Int32.lt_iff_toInt_lt] <;> omega
theorem own_un (z : Int32) : z.toInt = ((z.toUInt32.toNat : Nat) : Int).bmod (2 ^ 32) := BitVec.toInt_eq_toNat_bmod z.toBitVec
theorem own_chi (z : Int32) : (z.toUInt32.toUInt16.toUInt32.toInt32).toInt = z.toInt % 65536 := by
  have h1 := own_un z
  have h2 := own_un (z.toUInt32.toUInt16.toUInt32.toInt32)
  have e : (z.toUInt32.toUInt16.toUInt32.toInt32).toUInt32.toNat = z.toUInt32.toNat % 65536 := by
    show (z.toUInt32.toUInt16.toUInt32).toNat = _
    rw [UInt16.toNat_toUInt32, UInt32.toNat_toUInt16]
  have l := z.toUInt32.toNat_lt
  rw [e] at h2
  rw [Int.bmod_def] at h1 h2
  split at h1 <;> split at h2 <;> omega
theorem own_ush {p k : Int32} {n : Nat} (hk : (k &&& 31).toUInt32.toNat % 32 = n) (hn : 1 ≤ n) : ((p.toUInt32 >>> (k &&& 31).toUInt32).toInt32).toInt = ((p.toUInt32.toNat / 2 ^ n : Nat) : Int) := by
  have h2 := own_un ((p.toUInt32 >>> (k &&& 31).toUInt32).toInt32)
  have e : ((p.toUInt32 >>> (k &&& 31).toUInt32).toInt32).toUInt32.toNat = p.toUInt32.toNat / 2 ^ n := by
    show (p.toUInt32 >>> (k &&& 31).toUInt32).toNat = _
    rw [UInt32.toNat_shiftRight, hk, Nat.shiftRight_eq_div_pow]
  have l := p.toUInt32.toNat_lt
  have d : p.toUInt32.toNat / 2 ^ n ≤ p.toUInt32.toNat / 2 := Nat.div_le_div_left (Nat.le_trans (by decide : 2 ≤ 2 ^ 1) (Nat.pow_le_pow_right (by decide) hn)) (by decide)
  rw [e] at h2
  rw [Int.bmod_def] at h2
  split at h2 <;> omega
theorem own_nnat {z : Int32} (h : 0 ≤ z.toInt) : ((z.toUInt32.toNat : Nat) : Int) = z.toInt := by
  have h1 := own_un z
  have l := z.toUInt32.toNat_lt
  rw [Int.bmod_def] at h1
  split at h1 <;> omega
theorem own_ncr {x : Int32} (h : CR x) : nar .char x = x := by
  apply Int32.toInt_inj.mp
  have := h.int
  show (x.toUInt32.toUInt16.toUInt32.toInt32).toInt = _
  rw [own_chi]; omega
theorem own_ncc (z : Int32) : nar .char (z.toUInt32.toUInt16.toUInt32.toInt32) = z.toUInt32.toUInt16.toUInt32.toInt32 := own_ncr (CR.of (by rw [own_chi]; omega) (by rw [own_chi]; omega))
theorem own_by (y : Int32) : (y.toInt8.toInt32.toInt8.toInt32 &&& (255 : Int32)).toInt = y.toInt % 256 := by
  have m : (y.toInt8.toInt32.toInt8.toInt32 &&& (255 : Int32)).toInt = (y.toInt8.toInt32.toInt8.toInt32).toInt % 2 ^ 8 := Jvm.Kit.i32_mask _ _ (by decide) (by decide)
  rw [m, Int8.toInt_toInt32, Int32.toInt_toInt8, Int8.toInt_toInt32, Int32.toInt_toInt8]
  rw [Int.bmod_def, Int.bmod_def]
  split <;> split <;> omega
theorem own_lat8 {x : Int32} (h : CR x) (hl : ¬ (255 : Int32) < x) : (x.toInt8.toInt32.toInt8.toInt32 &&& (255 : Int32)) = x := by
  apply Int32.toInt_inj.mp
  have := h.int
  have e2 : (255 : Int32).toInt = 255 := rfl
  rw [Int32.lt_iff_toInt_lt] at hl
  rw [own_by]; omega
theorem own_sh0 (x : Int32) : x >>> ((0 : Int32) &&& 31) = x := by
  have : ((0 : Int32) &&& 31) = 0 := by decide
  rw [this]; simp
theorem own_sl0 (x : Int32) : x <<< ((0 : Int32) &&& 31) = x := by
  have : ((0 : Int32) &&& 31) = 0 := by decide
  rw [this]; simp
theorem own_or {a b : Int32} (ha : 0 ≤ a.toInt ∧ a.toInt < 256) (hb : 0 ≤ b.toInt ∧ b.toInt < 256) : (a ||| (b <<< ((8 : Int32) &&& 31))).toInt = a.toInt + 256 * b.toInt := by
  have ea := own_nnat ha.1; have eb := own_nnat hb.1
  have h2 := own_un (a ||| (b <<< ((8 : Int32) &&& 31)))
  have e : (a ||| (b <<< ((8 : Int32) &&& 31))).toUInt32.toNat = 2 ^ 8 * b.toUInt32.toNat + a.toUInt32.toNat := by
    have e8 : ((8 : Int32) &&& 31) = 8 := by decide
    rw [e8]
    show (a.toUInt32 ||| (b <<< (8 : Int32)).toUInt32).toNat = _
    have eb8 : (b <<< (8 : Int32)).toUInt32 = b.toUInt32 <<< (8 : UInt32) := by rfl
    rw [eb8, UInt32.toNat_or, UInt32.toNat_shiftLeft]
    have : (8 : UInt32).toNat % 32 = 8 := rfl
    rw [this, Nat.shiftLeft_eq, Nat.mod_eq_of_lt (by omega), Nat.two_pow_add_eq_or_of_lt (by omega), Nat.mul_comm, Nat.or_comm]
  rw [e] at h2
  rw [Int.bmod_def] at h2
  split at h2 <;> omega
theorem own_getput {x u : Int32} (h : CR x) (hu : u = ((((((x >>> ((0 : Int32) &&& 31)).toInt8.toInt32.toInt8.toInt32) &&& (255 : Int32)) <<< ((0 : Int32) &&& 31)) ||| ((((x >>> ((8 : Int32) &&& 31)).toInt8.toInt32.toInt8.toInt32) &&& (255 : Int32)) <<< ((8 : Int32) &&& 31))).toUInt32.toUInt16.toUInt32.toInt32)) : u = x := by
  have hx := h.int
  have a1 := own_by (x >>> ((0 : Int32) &&& 31))
  have b1 := own_by (x >>> ((8 : Int32) &&& 31))
  have s8 : (x >>> ((8 : Int32) &&& 31)).toInt = x.toInt / 256 := by
    have e8 : ((8 : Int32) &&& 31) = 8 := by decide
    rw [e8]
    show (x.toBitVec.sshiftRight' _).toInt = _
    rw [BitVec.sshiftRight', BitVec.toInt_sshiftRight, Int.shiftRight_eq_div_pow]; rfl
  rw [own_sh0] at a1
  apply Int32.toInt_inj.mp
  rw [hu, own_sl0, own_sh0, own_chi, own_or (by omega) (by omega), a1, b1, s8]
  omega
theorem own_cnt {p k k' : Int32} (h : ¬ p < k) (e : k' = k) : ¬ p < k' := e ▸ h
theorem HS.int {x : Int32} (h : HS x) : 55296 ≤ x.toInt ∧ x.toInt < 56320 := by
  have e0 : (55296 : Int32).toInt = 55296 := rfl
  have e2 : (56320 : Int32).toInt = 56320 := rfl
  have h1 := h.2.1; have h2 := h.2.2
  rw [Int32.lt_iff_toInt_lt] at h1 h2; omega
theorem LS.int {x : Int32} (h : LS x) : 56320 ≤ x.toInt ∧ x.toInt < 57344 := by
  have e0 : (57344 : Int32).toInt = 57344 := rfl
  have e2 : (56320 : Int32).toInt = 56320 := rfl
  have h1 := h.2.1; have h2 := h.2.2
  rw [Int32.lt_iff_toInt_lt] at h1 h2; omega
theorem own_nhs {x r : Int32} (h : BM x) (hr : r = (if x < (55296 : Int32) then (0 : Int32) else (if x < (56320 : Int32) then (1 : Int32) else (0 : Int32)))) : r = (0 : Int32) := by
  rw [hr]; rcases h.2.2 with q | q
  · rw [if_pos q]
  · have e0 : (55296 : Int32).toInt = 55296 := rfl
    have e1 : (57343 : Int32).toInt = 57343 := rfl
    have e2 : (56320 : Int32).toInt = 56320 := rfl
    rw [Int32.lt_iff_toInt_lt] at q
    rw [if_neg (by rw [Int32.lt_iff_toInt_lt]; omega), if_neg (by rw [Int32.lt_iff_toInt_lt]; omega)]
theorem own_ihs {x r : Int32} (h : HS x) (hr : r = (if x < (55296 : Int32) then (0 : Int32) else (if x < (56320 : Int32) then (1 : Int32) else (0 : Int32)))) : ¬ r = (0 : Int32) := by
  rw [hr, if_neg h.2.1, if_pos h.2.2]; decide
theorem own_ils {x r : Int32} (h : LS x) (hr : r = (if x < (56320 : Int32) then (0 : Int32) else (if x < (57344 : Int32) then (1 : Int32) else (0 : Int32)))) : ¬ r = (0 : Int32) := by
  rw [hr, if_neg h.2.1, if_pos h.2.2]; decide
theorem own_tcp {a b : Int32} (ha : HS a) (hb : LS b) : 65536 ≤ (tcp a b).toInt ∧ (tcp a b).toInt < 1114112 := by
  have h1 := ha.int; have h2 := hb.int
  have em : (-56613888 : Int32).toInt = -56613888 := rfl
  have ea := own_nnat (z := a) (by omega)
  have s : (a <<< ((10 : Int32) &&& 31)).toInt = a.toInt * 1024 := by
    have h3 := own_un (a <<< ((10 : Int32) &&& 31))
    have e10 : ((10 : Int32) &&& 31) = 10 := by decide
    have e : (a <<< ((10 : Int32) &&& 31)).toUInt32.toNat = a.toUInt32.toNat * 1024 := by
      rw [e10]
      have eb8 : (a <<< (10 : Int32)).toUInt32 = a.toUInt32 <<< (10 : UInt32) := by rfl
      rw [eb8, UInt32.toNat_shiftLeft]
      have : (10 : UInt32).toNat % 32 = 10 := rfl
      rw [this, Nat.shiftLeft_eq, Nat.mod_eq_of_lt (by omega)]
    rw [e] at h3
    rw [Int.bmod_def] at h3
    split at h3 <;> omega
  unfold tcp
  have t1 : ((a <<< ((10 : Int32) &&& 31)) + b).toInt = a.toInt * 1024 + b.toInt := by rw [Jvm.Kit.i32_add (by omega) (by omega), s]
  rw [Jvm.Kit.i32_add (by omega) (by omega), t1, em]; omega
theorem own_cp0 {a b r : Int32} (ha : HS a) (hb : LS b) (hr : r = (tcp a b)) : ¬ r = (0 : Int32) := fun e => by
  have := own_tcp ha hb; rw [← hr, e] at this; exact absurd this.1 (by decide)
theorem own_cp1 {a b r : Int32} (ha : HS a) (hb : LS b) (hr : r = (tcp a b)) : ¬ r < (55296 : Int32) := by
  have := own_tcp ha hb; have e0 : (55296 : Int32).toInt = 55296 := rfl
  rw [← hr] at this; rw [Int32.lt_iff_toInt_lt]; omega
theorem own_cp2 {a b r : Int32} (ha : HS a) (hb : LS b) (hr : r = (tcp a b)) : (57343 : Int32) < r := by
  have := own_tcp ha hb; have e0 : (57343 : Int32).toInt = 57343 := rfl
  rw [← hr] at this; rw [Int32.lt_iff_toInt_lt]; omega
theorem own_cc1 {x r : Int32} (h : BM x) (hr : r = (if x < (65536 : Int32) then (1 : Int32) else (2 : Int32))) : r = (1 : Int32) := by
  have := h.1.int; have e0 : (65536 : Int32).toInt = 65536 := rfl
  rw [hr, if_pos (by rw [Int32.lt_iff_toInt_lt]; omega)]
theorem own_cc2 {a b y r : Int32} (ha : HS a) (hb : LS b) (hy : y = (tcp a b)) (hr : r = (if y < (65536 : Int32) then (1 : Int32) else (2 : Int32))) : r = (2 : Int32) := by
  have := own_tcp ha hb; have e0 : (65536 : Int32).toInt = 65536 := rfl
  rw [hr, hy, if_neg (by rw [Int32.lt_iff_toInt_lt]; omega)]
theorem own_hiF {p r : Int32} (h : r = (((55296 : Int32) + (((((p.toUInt32 >>> ((1 : Int32) &&& 31).toUInt32).toInt32) % (1048576 : Int32)).toUInt32 >>> ((10 : Int32) &&& 31).toUInt32).toInt32)).toUInt32.toUInt16.toUInt32.toInt32)) : HS (nar .char r) := by
  have e1 : (1048576 : Int32).toInt = 1048576 := rfl
  have u1 := own_ush (p := p) (k := 1) (n := 1) (by decide) (by decide)
  have u1' : 0 ≤ ((p.toUInt32 >>> ((1 : Int32) &&& 31).toUInt32).toInt32).toInt := by rw [u1]; omega
  have m : (((p.toUInt32 >>> ((1 : Int32) &&& 31).toUInt32).toInt32) % (1048576 : Int32)).toInt = ((p.toUInt32 >>> ((1 : Int32) &&& 31).toUInt32).toInt32).toInt % 1048576 := by rw [Int32.toInt_mod, e1, Int.tmod_eq_emod_of_nonneg u1']
  have u2 := own_ush (p := ((p.toUInt32 >>> ((1 : Int32) &&& 31).toUInt32).toInt32) % (1048576 : Int32)) (k := 10) (n := 10) (by decide) (by decide)
  have n2 := own_nnat (z := ((p.toUInt32 >>> ((1 : Int32) &&& 31).toUInt32).toInt32) % (1048576 : Int32)) (by rw [m]; omega)
  have e5 : (55296 : Int32).toInt = 55296 := rfl
  have e6 : (56320 : Int32).toInt = 56320 := rfl
  have er : r.toInt = 55296 + (((((p.toUInt32 >>> ((1 : Int32) &&& 31).toUInt32).toInt32) % (1048576 : Int32)).toUInt32 >>> ((10 : Int32) &&& 31).toUInt32).toInt32).toInt := by
    rw [h, own_chi, Jvm.Kit.i32_add (by omega) (by omega), e5]; omega
  have cr : CR r := CR.of (by omega) (by omega)
  rw [own_ncr cr]
  refine ⟨cr, ?_, ?_⟩ <;> rw [Int32.lt_iff_toInt_lt] <;> omega
theorem own_loF {p r : Int32} (h : r = (((56320 : Int32) + ((((p.toUInt32 >>> ((1 : Int32) &&& 31).toUInt32).toInt32) % (1048576 : Int32)) &&& (1023 : Int32))).toUInt32.toUInt16.toUInt32.toInt32)) : LS (nar .char r) := by
  have m : ((((p.toUInt32 >>> ((1 : Int32) &&& 31).toUInt32).toInt32) % (1048576 : Int32)) &&& (1023 : Int32)).toInt = (((p.toUInt32 >>> ((1 : Int32) &&& 31).toUInt32).toInt32) % (1048576 : Int32)).toInt % 2 ^ 10 := Jvm.Kit.i32_mask _ _ (by decide) (by decide)
  have e5 : (57344 : Int32).toInt = 57344 := rfl
  have e6 : (56320 : Int32).toInt = 56320 := rfl
  have er : r.toInt = 56320 + ((((p.toUInt32 >>> ((1 : Int32) &&& 31).toUInt32).toInt32) % (1048576 : Int32)) &&& (1023 : Int32)).toInt := by
    rw [h, own_chi, Jvm.Kit.i32_add (by omega) (by omega), e6]; omega
  have cr : CR r := CR.of (by omega) (by omega)
  rw [own_ncr cr]
  refine ⟨cr, ?_, ?_⟩ <;> rw [Int32.lt_iff_toInt_lt] <;> omega
theorem own_bmF {p r : Int32} (h : r = (if (((p.toUInt32 >>> ((1 : Int32) &&& 31).toUInt32).toInt32) &&& (65535 : Int32)) = (0 : Int32) then (1 : Int32) else (if (((p.toUInt32 >>> ((1 : Int32) &&& 31).toUInt32).toInt32) &&& (65535 : Int32)) < (55296 : Int32) then ((((p.toUInt32 >>> ((1 : Int32) &&& 31).toUInt32).toInt32) &&& (65535 : Int32)).toUInt32.toUInt16.toUInt32.toInt32) else (if (57343 : Int32) < (((p.toUInt32 >>> ((1 : Int32) &&& 31).toUInt32).toInt32) &&& (65535 : Int32)) then ((((p.toUInt32 >>> ((1 : Int32) &&& 31).toUInt32).toInt32) &&& (65535 : Int32)).toUInt32.toUInt16.toUInt32.toInt32) else (((((p.toUInt32 >>> ((1 : Int32) &&& 31).toUInt32).toInt32) &&& (65535 : Int32)) - (2048 : Int32)).toUInt32.toUInt16.toUInt32.toInt32))))) : BM (nar .char r) := by
  have m : (((p.toUInt32 >>> ((1 : Int32) &&& 31).toUInt32).toInt32) &&& (65535 : Int32)).toInt = ((p.toUInt32 >>> ((1 : Int32) &&& 31).toUInt32).toInt32).toInt % 2 ^ 16 := Jvm.Kit.i32_mask _ _ (by decide) (by decide)
  generalize ((p.toUInt32 >>> ((1 : Int32) &&& 31).toUInt32).toInt32) &&& (65535 : Int32) = y at h m
  have e0 : (0 : Int32).toInt = 0 := rfl
  have e1 : (1 : Int32).toInt = 1 := rfl
  have e2 : (2048 : Int32).toInt = 2048 := rfl
  have e5 : (55296 : Int32).toInt = 55296 := rfl
  have e6 : (57343 : Int32).toInt = 57343 := rfl
  have key : r.toInt = 1 ∨ (r.toInt = y.toInt ∧ y.toInt ≠ 0 ∧ (y.toInt < 55296 ∨ 57343 < y.toInt)) ∨ (r.toInt = y.toInt - 2048 ∧ 55296 ≤ y.toInt ∧ y.toInt ≤ 57343) := by
    by_cases q0 : y = 0
    · rw [if_pos q0] at h; exact Or.inl (by rw [h, e1])
    · have q0' : y.toInt ≠ 0 := fun e => q0 (Int32.toInt_inj.mp (by rw [e, e0]))
      rw [if_neg q0] at h
      by_cases q1 : y < (55296 : Int32)
      · rw [if_pos q1] at h; rw [Int32.lt_iff_toInt_lt] at q1; exact Or.inr (Or.inl ⟨by rw [h, own_chi]; omega, q0', by omega⟩)
      · rw [if_neg q1] at h; rw [Int32.lt_iff_toInt_lt] at q1
        by_cases q2 : (57343 : Int32) < y
        · rw [if_pos q2] at h; rw [Int32.lt_iff_toInt_lt] at q2; exact Or.inr (Or.inl ⟨by rw [h, own_chi]; omega, q0', by omega⟩)
        · rw [if_neg q2] at h; rw [Int32.lt_iff_toInt_lt] at q2; exact Or.inr (Or.inr ⟨by rw [h, own_chi, Jvm.Kit.i32_sub (by omega) (by omega), e2]; omega, by omega, by omega⟩)
  have cr : CR r := CR.of (by omega) (by omega)
  rw [own_ncr cr]
  refine ⟨cr, fun e => ?_, ?_⟩
  · rw [e, e0] at key; omega
  · rw [Int32.lt_iff_toInt_lt, Int32.lt_iff_toInt_lt, e5, e6]; omega
theorem own_arne {Z : State} {h : Heap} {a b : Addr} {ka kb : ClassId} {t t' : FieldType} {z z' : Int32} {vs vs' : List Value} {d d' : Value} (A : Arv Z h a ka t z vs d) (B : Arv Z h b kb t' z' vs' d') (hn : t ≠ t') : a ≠ b := fun e => by
  subst e
  obtain ⟨c, A, -⟩ := A; obtain ⟨c', B, -⟩ := B
  obtain ⟨a1, ⟨-, k, hk, cc, ek⟩, -⟩ := A
  obtain ⟨b1, ⟨-, k', hk', cc', ek'⟩, -⟩ := B
  cases a1.symm.trans b1
  cases hk.symm.trans hk'
  rw [ek] at ek'
  cases ek'; exact hn rfl
theorem own_max {l p r : Int32} (h : r = (if l < p then p else l)) : ¬ r < l := by
  rw [h]; split
  · rename_i q; rw [Int32.lt_iff_toInt_lt] at q ⊢; omega
  · rw [Int32.lt_iff_toInt_lt]; omega

theorem own_big {x : Int32} (h : HS x) : (255 : Int32) < x := by
  have := h.int; have e : (255 : Int32).toInt = 255 := rfl
  rw [Int32.lt_iff_toInt_lt]; omega
theorem own_lim1 {l p r f : Int32} (h : r = (if l < p then p else l)) (hl : l = (if f = (0 : Int32) then (1 : Int32) else (2 : Int32))) (hf : f = (0 : Int32)) : ¬ r < (1 : Int32) := by
  have := own_max h; rw [if_pos hf] at hl; rw [hl] at this; exact this
theorem own_lim2 {l p r f : Int32} (h : r = (if l < p then p else l)) (hl : l = (if f = (0 : Int32) then (1 : Int32) else (2 : Int32))) (hf : ¬ f = (0 : Int32)) : ¬ r < (2 : Int32) := by
  have := own_max h; rw [if_neg hf] at hl; rw [hl] at this; exact this

theorem tw {a0 : Array Value} {Z : State} (hw : ∀ d ∈ tables_1, d.before a0 Z = true) (i : Nat) {d : Jvm.Cond} (e : tables_1[i]? = some d) : d.before a0 Z = true := hw d (List.mem_of_getElem? e)
theorem sn {a0 : Array Value} {Z : State} {C O n d O' n' d' : String} {p : Prop} (t t' : FieldType) (L : Laid Z a0 C O n d) (L' : Laid Z a0 C O' n' d') (hn : n ≠ n' := by decide) (ht : parseFieldDescriptor d = some t := by decide) (ht' : parseFieldDescriptor d' = some t' := by decide) : p ∨ Jvm.RoadKit.slotOf Z O n d ≠ Jvm.RoadKit.slotOf Z O' n' d' := Or.inr (slot_ne L L' hn ht ht')
abbrev Rf (a : Addr) : Slot := .val (.ref a)
abbrev It (z : Int32) : Slot := .val (.int z)
abbrev rk (f c s l : Nat) : Room := { frames := f, cells := c, slots := s, locals := l }
abbrev SG (tb : Tables) (e : Env) (bl : List Frame) (A B : State) : Prop := ∀ target, Steps tb e bl A target → Steps tb e bl B target
theorem w0 {g : JFrame} {rest : List Value} {W : Nat} (h : 2 * g.monitorRoom + (rest.map fun v => v.category).sum = W) : 2 * g.monitorRoom + (rest.map fun v => v.category).sum ≤ W := Nat.le_of_eq h
theorem own_pre {tb : Tables} {e : Env} {bl : List Frame} {s : State} {F G : JFrame} (q : F = G) : ∀ t, Steps tb e bl (s.setTop G) t → Steps tb e bl (s.setTop F) t := fun t k => castTop q k
theorem tm {a0 a1 : Array Value} {Z s : State} (hZ : Z.Warmed39 s.vm) (hw : ∀ d ∈ tables_1, d.before a0 Z = true) (i : Nat) {d : Jvm.Cond} (e : tables_1[i]? = some d) (hd : d.before a0 Z = true → d.before a1 s = true) : d.before a1 s = true := hd (tw hw i e)
set_option maxRecDepth 65536
set_option maxHeartbeats 40000000
abbrev m_0 : MethodName := ⟨"java/lang/Math", "max", "(II)I"⟩
abbrev m_1 : MethodName := ⟨"com/example/chitragupta/chitragupta/core/CharactersCheckPinLaw", "bmp", "(I)C"⟩
abbrev m_2 : MethodName := ⟨"com/example/chitragupta/chitragupta/core/CharactersCheckPinLaw", "hi", "(I)C"⟩
abbrev m_3 : MethodName := ⟨"com/example/chitragupta/chitragupta/core/CharactersCheckPinLaw", "lo", "(I)C"⟩
abbrev m_4 : MethodName := ⟨"java/lang/Character", "charCount", "(I)I"⟩
abbrev m_5 : MethodName := ⟨"java/lang/Character", "isHighSurrogate", "(C)Z"⟩
abbrev m_6 : MethodName := ⟨"java/lang/Character", "isLowSurrogate", "(C)Z"⟩
abbrev m_7 : MethodName := ⟨"java/lang/Character", "toCodePoint", "(CC)I"⟩
abbrev m_8 : MethodName := ⟨"java/lang/StringUTF16", "putChar", "([BII)V"⟩
abbrev m_9 : MethodName := ⟨"java/lang/StringUTF16", "getChar", "([BI)C"⟩
abbrev m_10 : MethodName := ⟨"java/lang/StringUTF16", "newBytesLength", "(I)I"⟩
abbrev m_11 : MethodName := ⟨"java/lang/StringUTF16", "newBytesFor", "(I)[B"⟩
abbrev m_12 : MethodName := ⟨"java/lang/StringUTF16", "toBytes", "([CII)[B"⟩
abbrev m_13 : MethodName := ⟨"java/lang/StringUTF16", "compress", "([CI[BII)I"⟩
abbrev m_14 : MethodName := ⟨"java/lang/StringUTF16", "compress", "([CII)[B"⟩
abbrev m_15 : MethodName := ⟨"java/lang/StringUTF16", "coderFromArrayLen", "([BI)B"⟩
abbrev m_16 : MethodName := ⟨"java/lang/String", "<init>", "([CIILjava/lang/Void;)V"⟩
abbrev m_17 : MethodName := ⟨"java/lang/String", "<init>", "([C)V"⟩
abbrev m_18 : MethodName := ⟨"java/lang/String", "coder", "()B"⟩
abbrev m_19 : MethodName := ⟨"java/lang/String", "isLatin1", "()Z"⟩
abbrev m_20 : MethodName := ⟨"java/lang/String", "length", "()I"⟩
abbrev m_21 : MethodName := ⟨"jdk/internal/util/Preconditions", "checkIndex", "(IILjava/util/function/BiFunction;)I"⟩
abbrev m_22 : MethodName := ⟨"java/lang/String", "checkIndex", "(II)V"⟩
abbrev m_23 : MethodName := ⟨"java/lang/StringUTF16", "codePointAt", "([BIIZ)I"⟩
abbrev m_24 : MethodName := ⟨"java/lang/StringUTF16", "codePointAt", "([BII)I"⟩
abbrev m_25 : MethodName := ⟨"java/lang/String", "codePointAt", "(I)I"⟩
abbrev m_26 : MethodName := ⟨"com/example/chitragupta/chitragupta/core/Characters", "check", "(Ljava/lang/String;Ljava/lang/String;I)V"⟩
abbrev TS_0 (Z : State) : Prop := Sta Z Z.heap "java/lang/StringUTF16" "$assertionsDisabled" "Z" (.int (1 : Int32))
abbrev TS_1 (Z : State) : Prop := Sta Z Z.heap "java/lang/StringUTF16" "HI_BYTE_SHIFT" "I" (.int (0 : Int32))
abbrev TS_2 (Z : State) : Prop := Sta Z Z.heap "java/lang/StringUTF16" "LO_BYTE_SHIFT" "I" (.int (8 : Int32))
abbrev TS_3 (Z : State) (zC : Int32) : Prop := Sta Z Z.heap "java/lang/String" "COMPACT_STRINGS" "Z" (.int zC)
abbrev TS_4 (Z : State) : Prop := Sta Z Z.heap "jdk/internal/util/Preconditions" "SIOOBE_FORMATTER" "Ljava/util/function/BiFunction;" .null
abbrev TS_5 (Z : State) (wF : Addr) : Prop := Sta Z Z.heap "jdk/internal/util/Preconditions" "SIOOBE_FORMATTER" "Ljava/util/function/BiFunction;" (.ref wF)
abbrev TS_6 (Z : State) (vFM : Value) : Prop := Sta Z Z.heap "jdk/internal/util/Preconditions" "SIOOBE_FORMATTER" "Ljava/util/function/BiFunction;" vFM
def Q1 (Z : State) (p1 : Int32) (p2 : Int32) (h0 : Heap) (n0 : Nat) (v : Option Value) (h : Heap) (L : List Loc) : Prop := v = some (.int (if p1 < p2 then p2 else p1)) ∧ Fr n0 L ∧ h = h0
theorem ef_1 (m : MethodId) (x0 : Int32) (x1 : Int32) : entryFrame m #[(.int x0), (.int x1)] 2 = mkF m 0 #[.val (.int x0), .val (.int x1)] [] := by first | (simp [entryFrame, mkF, argsToLocals, Value.category]; done) | rfl
theorem rm1 (l : Launch) (Z : State) (a0 : Array Value) (hw : ∀ d ∈ tables_1, d.before a0 Z = true) (ws : List Jvm.Cond) (p1 : Int32) (p2 : Int32) (h0 : Heap) (n0 : Nat) (O0 : Old Z n0 h0) :
    MetFree l m_0 (head1 (Jvm.Cond.code m_0 jdk_29_method_65_code 2 (some .int) :: ws) (rk 0 0 0 0)) (fun a U => a = #[(.int p1), (.int p2)] ∧ Z.Warmed39 U.vm ∧ U.heap = h0) (fun _ _ _ _ _ => True) (fun _ U o U' => ∃ v L, o = .returned v ∧ Q1 Z p1 p2 h0 n0 v U'.heap L ∧ FrameEnd U o U' L (rk 0 0 0 0).cells (rk 0 0 0 0).slots) := by
  refine MetFree.of_bodySF (Jvm.Free.JP.mathPlain rfl (by decide +kernel)) hisR ?_
  intro p e s m args below meth c s₁ Bd hml0 hP hK
  obtain ⟨rfl, hZ, hh⟩ := hP
  have hx := Bd.exec
  have hby := Bd.bytes
  have hml : c.maxLocals = 2 := hml0
  have hown : s.vm.findClass "java/lang/Math" = some m.cls := findClass_of_methodNamed Bd.named
  have X0 : Stand p l e (rk 0 0 0 0) s m #[(.int p1), (.int p2)] below meth c s₁ [] 0 0 := Stand.of_body Bd
  have e0 : s₁.heap = h0 := by rw [← hh, Bd.state]; rfl
  have N0 := Fr.nil n0
  have pre0 := own_pre (tb := p.tables) (e := e) (bl := below) (s := s₁) (ef_1 m p1 p2)
  have sg1 : SG p.tables e below (s₁.setTop (mkF m 2 #[It p1, It p2] [(.int p2), (.int p1)])) (s₁.setTop (mkF m 0 #[It p1, It p2] [])) := by
    intro target kt
    show Steps _ _ _ (s₁.setTop (mkF m 0 #[It p1, It p2] [])) _
    refine XS.iloadN X0.here hx rfl (hb hby d1_0) rfl ?_
    refine XS.iloadN X0.here hx rfl (hb hby d1_1) rfl ?_
    exact kt
  by_cases hc2 : p1 < p2
  · have sg3 : SG p.tables e below (s₁.setTop (mkF m 10 #[It p1, It p2] [(.int p2)])) (s₁.setTop (mkF m 2 #[It p1, It p2] [(.int p2), (.int p1)])) := by
      intro target kt
      show Steps _ _ _ (s₁.setTop (mkF m 2 #[It p1, It p2] [(.int p2), (.int p1)])) _
      refine XS.icmpYes X0.here hx rfl (pc0 := 2) (pc' := 9) rfl (hb hby d1_2) rfl (tlt hc2).1 (by decide) (by decide) ?_
      refine XS.iloadN X0.here hx rfl (hb hby d1_9) rfl ?_
      exact kt
    obtain ⟨fs, hr, hrun, hended, hW, hsame⟩ := X0.leave (v := some (.int p2)) (fun h => by rw [Bd.returns] at h; cases h)
    refine ⟨_, _, pre0 _ (sg1 _ (sg3 _ (?_))), hrun, hended, _, _, rfl, ?_, ⟨_, rfl⟩, hW, hsame.mono (by decide) (by decide)⟩
    · show Steps _ _ _ (s₁.setTop (mkF m 10 #[It p1, It p2] [(.int p2)])) _
      exact retI X0 hx Bd.returns (hb hby d1_10) hr
    · show Q1 Z p1 p2 h0 n0 _ s₁.heap _
      rw [e0]
      exact ⟨(by rw [if_pos hc2]), N0, rfl⟩
  · have sg4 : SG p.tables e below (s₁.setTop (mkF m 10 #[It p1, It p2] [(.int p1)])) (s₁.setTop (mkF m 2 #[It p1, It p2] [(.int p2), (.int p1)])) := by
      intro target kt
      show Steps _ _ _ (s₁.setTop (mkF m 2 #[It p1, It p2] [(.int p2), (.int p1)])) _
      refine XS.icmpNo X0.here hx rfl (hb hby d1_2) rfl (flt hc2).1 ?_
      refine XS.iloadN X0.here hx rfl (hb hby d1_5) rfl ?_
      refine XS.goto X0.here hx rfl (pc0 := 6) (pc' := 10) rfl (hb hby d1_6) (by decide) (by decide) ?_
      exact kt
    obtain ⟨fs, hr, hrun, hended, hW, hsame⟩ := X0.leave (v := some (.int p1)) (fun h => by rw [Bd.returns] at h; cases h)
    refine ⟨_, _, pre0 _ (sg1 _ (sg4 _ (?_))), hrun, hended, _, _, rfl, ?_, ⟨_, rfl⟩, hW, hsame.mono (by decide) (by decide)⟩
    · show Steps _ _ _ (s₁.setTop (mkF m 10 #[It p1, It p2] [(.int p1)])) _
      exact retI X0 hx Bd.returns (hb hby d1_10) hr
    · show Q1 Z p1 p2 h0 n0 _ s₁.heap _
      rw [e0]
      exact ⟨(by rw [if_neg hc2]), N0, rfl⟩
def Q2 (Z : State) (p1 : Int32) (h0 : Heap) (n0 : Nat) (v : Option Value) (h : Heap) (L : List Loc) : Prop := v = some (.int (if (((p1.toUInt32 >>> ((1 : Int32) &&& 31).toUInt32).toInt32) &&& (65535 : Int32)) = (0 : Int32) then (1 : Int32) else (if (((p1.toUInt32 >>> ((1 : Int32) &&& 31).toUInt32).toInt32) &&& (65535 : Int32)) < (55296 : Int32) then ((((p1.toUInt32 >>> ((1 : Int32) &&& 31).toUInt32).toInt32) &&& (65535 : Int32)).toUInt32.toUInt16.toUInt32.toInt32) else (if (57343 : Int32) < (((p1.toUInt32 >>> ((1 : Int32) &&& 31).toUInt32).toInt32) &&& (65535 : Int32)) then ((((p1.toUInt32 >>> ((1 : Int32) &&& 31).toUInt32).toInt32) &&& (65535 : Int32)).toUInt32.toUInt16.toUInt32.toInt32) else (((((p1.toUInt32 >>> ((1 : Int32) &&& 31).toUInt32).toInt32) &&& (65535 : Int32)) - (2048 : Int32)).toUInt32.toUInt16.toUInt32.toInt32))))) ∧ Fr n0 L ∧ h = h0
theorem ef_2 (m : MethodId) (x0 : Int32) : entryFrame m #[(.int x0)] 2 = mkF m 0 #[.val (.int x0), .unset] [] := by first | (simp [entryFrame, mkF, argsToLocals, Value.category]; done) | rfl
theorem rm2 (l : Launch) (Z : State) (a0 : Array Value) (hw : ∀ d ∈ tables_1, d.before a0 Z = true) (ws : List Jvm.Cond) (p1 : Int32) (h0 : Heap) (n0 : Nat) (O0 : Old Z n0 h0) :
    MetFree l m_1 (head1 (Jvm.Cond.code m_1 method_2_code 2 (some .char) :: ws) (rk 0 0 0 0)) (fun a U => a = #[(.int p1)] ∧ Z.Warmed39 U.vm ∧ U.heap = h0) (fun _ _ _ _ _ => True) (fun _ U o U' => ∃ v L, o = .returned v ∧ Q2 Z p1 h0 n0 v U'.heap L ∧ FrameEnd U o U' L (rk 0 0 0 0).cells (rk 0 0 0 0).slots) := by
  refine MetFree.of_bodySF (plainFor_of_name pn_0) hisR ?_
  intro p e s m args below meth c s₁ Bd hml0 hP hK
  obtain ⟨rfl, hZ, hh⟩ := hP
  have hx := Bd.exec
  have hby := Bd.bytes
  have hml : c.maxLocals = 2 := hml0
  have hown : s.vm.findClass "com/example/chitragupta/chitragupta/core/CharactersCheckPinLaw" = some m.cls := findClass_of_methodNamed Bd.named
  have X0 : Stand p l e (rk 0 0 0 0) s m #[(.int p1)] below meth c s₁ [] 0 0 := Stand.of_body Bd
  have e0 : s₁.heap = h0 := by rw [← hh, Bd.state]; rfl
  have N0 := Fr.nil n0
  have pre0 := own_pre (tb := p.tables) (e := e) (bl := below) (s := s₁) (ef_2 m p1)
  have sg1 : SG p.tables e below (s₁.setTop (mkF m 8 #[It p1, .val (.int (((p1.toUInt32 >>> ((1 : Int32) &&& 31).toUInt32).toInt32) &&& (65535 : Int32)))] [(.int (((p1.toUInt32 >>> ((1 : Int32) &&& 31).toUInt32).toInt32) &&& (65535 : Int32)))])) (s₁.setTop (mkF m 0 #[It p1, .unset] [])) := by
    intro target kt
    show Steps _ _ _ (s₁.setTop (mkF m 0 #[It p1, .unset] [])) _
    refine XS.iloadN X0.here hx rfl (hb hby d2_0) rfl ?_
    refine XS.iconst X0.here hx rfl (hb hby d2_1) ?_
    refine XS.iushr X0.here hx rfl (hb hby d2_2) rfl ?_
    refine X0.ldcInt hx hown (mvT hZ (tw hw 12 rfl)) (g := (mkF m 3 #[It p1, .unset] [(.int ((p1.toUInt32 >>> ((1 : Int32) &&& 31).toUInt32).toInt32))])) rfl (hb hby d2_3) _ ?_
    refine XS.iand X0.here hx rfl (hb hby d2_5) rfl ?_
    refine XS.istoreN X0.here hx rfl (hb hby d2_6) rfl (l' := #[It p1, .val (.int (((p1.toUInt32 >>> ((1 : Int32) &&& 31).toUInt32).toInt32) &&& (65535 : Int32)))]) rfl ?_
    refine XS.iloadN X0.here hx rfl (hb hby d2_7) rfl ?_
    exact kt
  by_cases hc2 : (((p1.toUInt32 >>> ((1 : Int32) &&& 31).toUInt32).toInt32) &&& (65535 : Int32)) = (0 : Int32)
  · have sg3 : SG p.tables e below (s₁.setTop (mkF m 12 #[It p1, .val (.int (((p1.toUInt32 >>> ((1 : Int32) &&& 31).toUInt32).toInt32) &&& (65535 : Int32)))] [(.int (1 : Int32))])) (s₁.setTop (mkF m 8 #[It p1, .val (.int (((p1.toUInt32 >>> ((1 : Int32) &&& 31).toUInt32).toInt32) &&& (65535 : Int32)))] [(.int (((p1.toUInt32 >>> ((1 : Int32) &&& 31).toUInt32).toInt32) &&& (65535 : Int32)))])) := by
      intro target kt
      show Steps _ _ _ (s₁.setTop (mkF m 8 #[It p1, .val (.int (((p1.toUInt32 >>> ((1 : Int32) &&& 31).toUInt32).toInt32) &&& (65535 : Int32)))] [(.int (((p1.toUInt32 >>> ((1 : Int32) &&& 31).toUInt32).toInt32) &&& (65535 : Int32)))])) _
      refine XS.ifNo X0.here hx rfl (hb hby d2_8) rfl ((if0 _ _).trans (teq hc2).2) ?_
      refine XS.iconst X0.here hx rfl (hb hby d2_11) ?_
      exact kt
    obtain ⟨fs, hr, hrun, hended, hW, hsame⟩ := X0.leave (v := some (.int (1 : Int32))) (fun h => by rw [Bd.returns] at h; cases h)
    refine ⟨_, _, pre0 _ (sg1 _ (sg3 _ (?_))), hrun, hended, _, _, rfl, ?_, ⟨_, rfl⟩, hW, hsame.mono (by decide) (by decide)⟩
    · show Steps _ _ _ (s₁.setTop (mkF m 12 #[It p1, .val (.int (((p1.toUInt32 >>> ((1 : Int32) &&& 31).toUInt32).toInt32) &&& (65535 : Int32)))] [(.int (1 : Int32))])) _
      exact retN X0 hx (t := .char) Bd.returns (by simp) (hb hby d2_12) hr
    · show Q2 Z p1 h0 n0 _ s₁.heap _
      rw [e0]
      exact ⟨(by rw [if_pos hc2]), N0, rfl⟩
  · have sg4 : SG p.tables e below (s₁.setTop (mkF m 16 #[It p1, .val (.int (((p1.toUInt32 >>> ((1 : Int32) &&& 31).toUInt32).toInt32) &&& (65535 : Int32)))] [(.int (55296 : Int32)), (.int (((p1.toUInt32 >>> ((1 : Int32) &&& 31).toUInt32).toInt32) &&& (65535 : Int32)))])) (s₁.setTop (mkF m 8 #[It p1, .val (.int (((p1.toUInt32 >>> ((1 : Int32) &&& 31).toUInt32).toInt32) &&& (65535 : Int32)))] [(.int (((p1.toUInt32 >>> ((1 : Int32) &&& 31).toUInt32).toInt32) &&& (65535 : Int32)))])) := by
      intro target kt
      show Steps _ _ _ (s₁.setTop (mkF m 8 #[It p1, .val (.int (((p1.toUInt32 >>> ((1 : Int32) &&& 31).toUInt32).toInt32) &&& (65535 : Int32)))] [(.int (((p1.toUInt32 >>> ((1 : Int32) &&& 31).toUInt32).toInt32) &&& (65535 : Int32)))])) _
      refine XS.ifYes X0.here hx rfl (pc0 := 8) (pc' := 13) rfl (hb hby d2_8) rfl ((if0 _ _).trans (feq hc2).2) (by decide) (by decide) ?_
      refine XS.iloadN X0.here hx rfl (hb hby d2_13) rfl ?_
      refine X0.ldcInt hx hown (mvT hZ (tw hw 80 rfl)) (g := (mkF m 14 #[It p1, .val (.int (((p1.toUInt32 >>> ((1 : Int32) &&& 31).toUInt32).toInt32) &&& (65535 : Int32)))] [(.int (((p1.toUInt32 >>> ((1 : Int32) &&& 31).toUInt32).toInt32) &&& (65535 : Int32)))])) rfl (hb hby d2_14) _ ?_
      exact kt
    by_cases hc5 : (((p1.toUInt32 >>> ((1 : Int32) &&& 31).toUInt32).toInt32) &&& (65535 : Int32)) < (55296 : Int32)
    · have sg6 : SG p.tables e below (s₁.setTop (mkF m 34 #[It p1, .val (.int (((p1.toUInt32 >>> ((1 : Int32) &&& 31).toUInt32).toInt32) &&& (65535 : Int32)))] [(.int ((((p1.toUInt32 >>> ((1 : Int32) &&& 31).toUInt32).toInt32) &&& (65535 : Int32)).toUInt32.toUInt16.toUInt32.toInt32))])) (s₁.setTop (mkF m 16 #[It p1, .val (.int (((p1.toUInt32 >>> ((1 : Int32) &&& 31).toUInt32).toInt32) &&& (65535 : Int32)))] [(.int (55296 : Int32)), (.int (((p1.toUInt32 >>> ((1 : Int32) &&& 31).toUInt32).toInt32) &&& (65535 : Int32)))])) := by
        intro target kt
        show Steps _ _ _ (s₁.setTop (mkF m 16 #[It p1, .val (.int (((p1.toUInt32 >>> ((1 : Int32) &&& 31).toUInt32).toInt32) &&& (65535 : Int32)))] [(.int (55296 : Int32)), (.int (((p1.toUInt32 >>> ((1 : Int32) &&& 31).toUInt32).toInt32) &&& (65535 : Int32)))])) _
        refine XS.icmpYes X0.here hx rfl (pc0 := 16) (pc' := 32) rfl (hb hby d2_16) rfl (tlt hc5).1 (by decide) (by decide) ?_
        refine XS.iloadN X0.here hx rfl (hb hby d2_32) rfl ?_
        refine XS.i2c X0.here hx rfl (hb hby d2_33) rfl ?_
        exact kt
      have hnar : nar .char ((((p1.toUInt32 >>> ((1 : Int32) &&& 31).toUInt32).toInt32) &&& (65535 : Int32)).toUInt32.toUInt16.toUInt32.toInt32) = ((((p1.toUInt32 >>> ((1 : Int32) &&& 31).toUInt32).toInt32) &&& (65535 : Int32)).toUInt32.toUInt16.toUInt32.toInt32) := own_ncc _
      obtain ⟨fs, hr, hrun, hended, hW, hsame⟩ := X0.leave (v := some (.int ((((p1.toUInt32 >>> ((1 : Int32) &&& 31).toUInt32).toInt32) &&& (65535 : Int32)).toUInt32.toUInt16.toUInt32.toInt32))) (fun h => by rw [Bd.returns] at h; cases h)
      rw [← hnar] at hr
      refine ⟨_, _, pre0 _ (sg1 _ (sg4 _ (sg6 _ (?_)))), hrun, hended, _, _, rfl, ?_, ⟨_, rfl⟩, hW, hsame.mono (by decide) (by decide)⟩
      · show Steps _ _ _ (s₁.setTop (mkF m 34 #[It p1, .val (.int (((p1.toUInt32 >>> ((1 : Int32) &&& 31).toUInt32).toInt32) &&& (65535 : Int32)))] [(.int ((((p1.toUInt32 >>> ((1 : Int32) &&& 31).toUInt32).toInt32) &&& (65535 : Int32)).toUInt32.toUInt16.toUInt32.toInt32))])) _
        exact retN X0 hx (t := .char) Bd.returns (by simp) (hb hby d2_34) hr
      · show Q2 Z p1 h0 n0 _ s₁.heap _
        rw [e0]
        exact ⟨(by rw [if_neg hc2, if_pos hc5]), N0, rfl⟩
    · have sg7 : SG p.tables e below (s₁.setTop (mkF m 22 #[It p1, .val (.int (((p1.toUInt32 >>> ((1 : Int32) &&& 31).toUInt32).toInt32) &&& (65535 : Int32)))] [(.int (57343 : Int32)), (.int (((p1.toUInt32 >>> ((1 : Int32) &&& 31).toUInt32).toInt32) &&& (65535 : Int32)))])) (s₁.setTop (mkF m 16 #[It p1, .val (.int (((p1.toUInt32 >>> ((1 : Int32) &&& 31).toUInt32).toInt32) &&& (65535 : Int32)))] [(.int (55296 : Int32)), (.int (((p1.toUInt32 >>> ((1 : Int32) &&& 31).toUInt32).toInt32) &&& (65535 : Int32)))])) := by
        intro target kt
        show Steps _ _ _ (s₁.setTop (mkF m 16 #[It p1, .val (.int (((p1.toUInt32 >>> ((1 : Int32) &&& 31).toUInt32).toInt32) &&& (65535 : Int32)))] [(.int (55296 : Int32)), (.int (((p1.toUInt32 >>> ((1 : Int32) &&& 31).toUInt32).toInt32) &&& (65535 : Int32)))])) _
        refine XS.icmpNo X0.here hx rfl (hb hby d2_16) rfl (flt hc5).1 ?_
        refine XS.iloadN X0.here hx rfl (hb hby d2_19) rfl ?_
        refine X0.ldcInt hx hown (mvT hZ (tw hw 128 rfl)) (g := (mkF m 20 #[It p1, .val (.int (((p1.toUInt32 >>> ((1 : Int32) &&& 31).toUInt32).toInt32) &&& (65535 : Int32)))] [(.int (((p1.toUInt32 >>> ((1 : Int32) &&& 31).toUInt32).toInt32) &&& (65535 : Int32)))])) rfl (hb hby d2_20) _ ?_
        exact kt
      by_cases hc8 : (57343 : Int32) < (((p1.toUInt32 >>> ((1 : Int32) &&& 31).toUInt32).toInt32) &&& (65535 : Int32))
      · have sg9 : SG p.tables e below (s₁.setTop (mkF m 34 #[It p1, .val (.int (((p1.toUInt32 >>> ((1 : Int32) &&& 31).toUInt32).toInt32) &&& (65535 : Int32)))] [(.int ((((p1.toUInt32 >>> ((1 : Int32) &&& 31).toUInt32).toInt32) &&& (65535 : Int32)).toUInt32.toUInt16.toUInt32.toInt32))])) (s₁.setTop (mkF m 22 #[It p1, .val (.int (((p1.toUInt32 >>> ((1 : Int32) &&& 31).toUInt32).toInt32) &&& (65535 : Int32)))] [(.int (57343 : Int32)), (.int (((p1.toUInt32 >>> ((1 : Int32) &&& 31).toUInt32).toInt32) &&& (65535 : Int32)))])) := by
          intro target kt
          show Steps _ _ _ (s₁.setTop (mkF m 22 #[It p1, .val (.int (((p1.toUInt32 >>> ((1 : Int32) &&& 31).toUInt32).toInt32) &&& (65535 : Int32)))] [(.int (57343 : Int32)), (.int (((p1.toUInt32 >>> ((1 : Int32) &&& 31).toUInt32).toInt32) &&& (65535 : Int32)))])) _
          refine XS.icmpYes X0.here hx rfl (pc0 := 22) (pc' := 32) rfl (hb hby d2_22) rfl (tlt hc8).2.2.1 (by decide) (by decide) ?_
          refine XS.iloadN X0.here hx rfl (hb hby d2_32) rfl ?_
          refine XS.i2c X0.here hx rfl (hb hby d2_33) rfl ?_
          exact kt
        have hnar : nar .char ((((p1.toUInt32 >>> ((1 : Int32) &&& 31).toUInt32).toInt32) &&& (65535 : Int32)).toUInt32.toUInt16.toUInt32.toInt32) = ((((p1.toUInt32 >>> ((1 : Int32) &&& 31).toUInt32).toInt32) &&& (65535 : Int32)).toUInt32.toUInt16.toUInt32.toInt32) := own_ncc _
        obtain ⟨fs, hr, hrun, hended, hW, hsame⟩ := X0.leave (v := some (.int ((((p1.toUInt32 >>> ((1 : Int32) &&& 31).toUInt32).toInt32) &&& (65535 : Int32)).toUInt32.toUInt16.toUInt32.toInt32))) (fun h => by rw [Bd.returns] at h; cases h)
        rw [← hnar] at hr
        refine ⟨_, _, pre0 _ (sg1 _ (sg4 _ (sg7 _ (sg9 _ (?_))))), hrun, hended, _, _, rfl, ?_, ⟨_, rfl⟩, hW, hsame.mono (by decide) (by decide)⟩
        · show Steps _ _ _ (s₁.setTop (mkF m 34 #[It p1, .val (.int (((p1.toUInt32 >>> ((1 : Int32) &&& 31).toUInt32).toInt32) &&& (65535 : Int32)))] [(.int ((((p1.toUInt32 >>> ((1 : Int32) &&& 31).toUInt32).toInt32) &&& (65535 : Int32)).toUInt32.toUInt16.toUInt32.toInt32))])) _
          exact retN X0 hx (t := .char) Bd.returns (by simp) (hb hby d2_34) hr
        · show Q2 Z p1 h0 n0 _ s₁.heap _
          rw [e0]
          exact ⟨(by rw [if_neg hc2, if_neg hc5, if_pos hc8]), N0, rfl⟩
      · have sg10 : SG p.tables e below (s₁.setTop (mkF m 31 #[It p1, .val (.int (((p1.toUInt32 >>> ((1 : Int32) &&& 31).toUInt32).toInt32) &&& (65535 : Int32)))] [(.int (((((p1.toUInt32 >>> ((1 : Int32) &&& 31).toUInt32).toInt32) &&& (65535 : Int32)) - (2048 : Int32)).toUInt32.toUInt16.toUInt32.toInt32))])) (s₁.setTop (mkF m 22 #[It p1, .val (.int (((p1.toUInt32 >>> ((1 : Int32) &&& 31).toUInt32).toInt32) &&& (65535 : Int32)))] [(.int (57343 : Int32)), (.int (((p1.toUInt32 >>> ((1 : Int32) &&& 31).toUInt32).toInt32) &&& (65535 : Int32)))])) := by
          intro target kt
          show Steps _ _ _ (s₁.setTop (mkF m 22 #[It p1, .val (.int (((p1.toUInt32 >>> ((1 : Int32) &&& 31).toUInt32).toInt32) &&& (65535 : Int32)))] [(.int (57343 : Int32)), (.int (((p1.toUInt32 >>> ((1 : Int32) &&& 31).toUInt32).toInt32) &&& (65535 : Int32)))])) _
          refine XS.icmpNo X0.here hx rfl (hb hby d2_22) rfl (flt hc8).2.2.1 ?_
          refine XS.iloadN X0.here hx rfl (hb hby d2_25) rfl ?_
          refine XS.sipush X0.here hx rfl (hb hby d2_26) ?_
          refine XS.isub X0.here hx rfl (hb hby d2_29) rfl ?_
          refine XS.i2c X0.here hx rfl (hb hby d2_30) rfl ?_
          exact kt
        have hnar : nar .char (((((p1.toUInt32 >>> ((1 : Int32) &&& 31).toUInt32).toInt32) &&& (65535 : Int32)) - (2048 : Int32)).toUInt32.toUInt16.toUInt32.toInt32) = (((((p1.toUInt32 >>> ((1 : Int32) &&& 31).toUInt32).toInt32) &&& (65535 : Int32)) - (2048 : Int32)).toUInt32.toUInt16.toUInt32.toInt32) := own_ncc _
        obtain ⟨fs, hr, hrun, hended, hW, hsame⟩ := X0.leave (v := some (.int (((((p1.toUInt32 >>> ((1 : Int32) &&& 31).toUInt32).toInt32) &&& (65535 : Int32)) - (2048 : Int32)).toUInt32.toUInt16.toUInt32.toInt32))) (fun h => by rw [Bd.returns] at h; cases h)
        rw [← hnar] at hr
        refine ⟨_, _, pre0 _ (sg1 _ (sg4 _ (sg7 _ (sg10 _ (?_))))), hrun, hended, _, _, rfl, ?_, ⟨_, rfl⟩, hW, hsame.mono (by decide) (by decide)⟩
        · show Steps _ _ _ (s₁.setTop (mkF m 31 #[It p1, .val (.int (((p1.toUInt32 >>> ((1 : Int32) &&& 31).toUInt32).toInt32) &&& (65535 : Int32)))] [(.int (((((p1.toUInt32 >>> ((1 : Int32) &&& 31).toUInt32).toInt32) &&& (65535 : Int32)) - (2048 : Int32)).toUInt32.toUInt16.toUInt32.toInt32))])) _
          exact retN X0 hx (t := .char) Bd.returns (by simp) (hb hby d2_31) hr
        · show Q2 Z p1 h0 n0 _ s₁.heap _
          rw [e0]
          exact ⟨(by rw [if_neg hc2, if_neg hc5, if_neg hc8]), N0, rfl⟩
def Q17 (Z : State) (p1 : Int32) (h0 : Heap) (n0 : Nat) (v : Option Value) (h : Heap) (L : List Loc) : Prop := v = some (.int (((55296 : Int32) + (((((p1.toUInt32 >>> ((1 : Int32) &&& 31).toUInt32).toInt32) % (1048576 : Int32)).toUInt32 >>> ((10 : Int32) &&& 31).toUInt32).toInt32)).toUInt32.toUInt16.toUInt32.toInt32)) ∧ Fr n0 L ∧ h = h0
theorem rm17 (l : Launch) (Z : State) (a0 : Array Value) (hw : ∀ d ∈ tables_1, d.before a0 Z = true) (ws : List Jvm.Cond) (p1 : Int32) (h0 : Heap) (n0 : Nat) (O0 : Old Z n0 h0) :
    MetFree l m_2 (head1 (Jvm.Cond.code m_2 method_3_code 2 (some .char) :: ws) (rk 0 0 0 0)) (fun a U => a = #[(.int p1)] ∧ Z.Warmed39 U.vm ∧ U.heap = h0) (fun _ _ _ _ _ => True) (fun _ U o U' => ∃ v L, o = .returned v ∧ Q17 Z p1 h0 n0 v U'.heap L ∧ FrameEnd U o U' L (rk 0 0 0 0).cells (rk 0 0 0 0).slots) := by
  refine MetFree.of_bodySF (plainFor_of_name pn_0) hisR ?_
  intro p e s m args below meth c s₁ Bd hml0 hP hK
  obtain ⟨rfl, hZ, hh⟩ := hP
  have hx := Bd.exec
  have hby := Bd.bytes
  have hml : c.maxLocals = 2 := hml0
  have hown : s.vm.findClass "com/example/chitragupta/chitragupta/core/CharactersCheckPinLaw" = some m.cls := findClass_of_methodNamed Bd.named
  have X0 : Stand p l e (rk 0 0 0 0) s m #[(.int p1)] below meth c s₁ [] 0 0 := Stand.of_body Bd
  have e0 : s₁.heap = h0 := by rw [← hh, Bd.state]; rfl
  have N0 := Fr.nil n0
  have pre0 := own_pre (tb := p.tables) (e := e) (bl := below) (s := s₁) (ef_2 m p1)
  have sg1 : SG p.tables e below (s₁.setTop (mkF m 15 #[It p1, .val (.int (((p1.toUInt32 >>> ((1 : Int32) &&& 31).toUInt32).toInt32) % (1048576 : Int32)))] [(.int (((55296 : Int32) + (((((p1.toUInt32 >>> ((1 : Int32) &&& 31).toUInt32).toInt32) % (1048576 : Int32)).toUInt32 >>> ((10 : Int32) &&& 31).toUInt32).toInt32)).toUInt32.toUInt16.toUInt32.toInt32))])) (s₁.setTop (mkF m 0 #[It p1, .unset] [])) := by
    intro target kt
    show Steps _ _ _ (s₁.setTop (mkF m 0 #[It p1, .unset] [])) _
    refine XS.iloadN X0.here hx rfl (hb hby d17_0) rfl ?_
    refine XS.iconst X0.here hx rfl (hb hby d17_1) ?_
    refine XS.iushr X0.here hx rfl (hb hby d17_2) rfl ?_
    refine X0.ldcInt hx hown (mvT hZ (tw hw 84 rfl)) (g := (mkF m 3 #[It p1, .unset] [(.int ((p1.toUInt32 >>> ((1 : Int32) &&& 31).toUInt32).toInt32))])) rfl (hb hby d17_3) _ ?_
    refine iremM (g := (mkF m 5 #[It p1, .unset] [(.int (1048576 : Int32)), (.int ((p1.toUInt32 >>> ((1 : Int32) &&& 31).toUInt32).toInt32))])) X0 hx rfl (hb hby d17_5) rfl (by decide) ?_
    refine XS.istoreN X0.here hx rfl (hb hby d17_6) rfl (l' := #[It p1, .val (.int (((p1.toUInt32 >>> ((1 : Int32) &&& 31).toUInt32).toInt32) % (1048576 : Int32)))]) rfl ?_
    refine X0.ldcInt hx hown (mvT hZ (tw hw 80 rfl)) (g := (mkF m 7 #[It p1, .val (.int (((p1.toUInt32 >>> ((1 : Int32) &&& 31).toUInt32).toInt32) % (1048576 : Int32)))] [])) rfl (hb hby d17_7) _ ?_
    refine XS.iloadN X0.here hx rfl (hb hby d17_9) rfl ?_
    refine XS.bipush X0.here hx rfl (hb hby d17_10) ?_
    refine XS.iushr X0.here hx rfl (hb hby d17_12) rfl ?_
    refine XS.iadd X0.here hx rfl (hb hby d17_13) rfl ?_
    refine XS.i2c X0.here hx rfl (hb hby d17_14) rfl ?_
    exact kt
  have hnar : nar .char (((55296 : Int32) + (((((p1.toUInt32 >>> ((1 : Int32) &&& 31).toUInt32).toInt32) % (1048576 : Int32)).toUInt32 >>> ((10 : Int32) &&& 31).toUInt32).toInt32)).toUInt32.toUInt16.toUInt32.toInt32) = (((55296 : Int32) + (((((p1.toUInt32 >>> ((1 : Int32) &&& 31).toUInt32).toInt32) % (1048576 : Int32)).toUInt32 >>> ((10 : Int32) &&& 31).toUInt32).toInt32)).toUInt32.toUInt16.toUInt32.toInt32) := own_ncc _
  obtain ⟨fs, hr, hrun, hended, hW, hsame⟩ := X0.leave (v := some (.int (((55296 : Int32) + (((((p1.toUInt32 >>> ((1 : Int32) &&& 31).toUInt32).toInt32) % (1048576 : Int32)).toUInt32 >>> ((10 : Int32) &&& 31).toUInt32).toInt32)).toUInt32.toUInt16.toUInt32.toInt32))) (fun h => by rw [Bd.returns] at h; cases h)
  rw [← hnar] at hr
  refine ⟨_, _, pre0 _ (sg1 _ (?_)), hrun, hended, _, _, rfl, ?_, ⟨_, rfl⟩, hW, hsame.mono (by decide) (by decide)⟩
  · show Steps _ _ _ (s₁.setTop (mkF m 15 #[It p1, .val (.int (((p1.toUInt32 >>> ((1 : Int32) &&& 31).toUInt32).toInt32) % (1048576 : Int32)))] [(.int (((55296 : Int32) + (((((p1.toUInt32 >>> ((1 : Int32) &&& 31).toUInt32).toInt32) % (1048576 : Int32)).toUInt32 >>> ((10 : Int32) &&& 31).toUInt32).toInt32)).toUInt32.toUInt16.toUInt32.toInt32))])) _
    exact retN X0 hx (t := .char) Bd.returns (by simp) (hb hby d17_15) hr
  · show Q17 Z p1 h0 n0 _ s₁.heap _
    rw [e0]
    exact ⟨rfl, N0, rfl⟩
def Q18 (Z : State) (p1 : Int32) (h0 : Heap) (n0 : Nat) (v : Option Value) (h : Heap) (L : List Loc) : Prop := v = some (.int (((56320 : Int32) + ((((p1.toUInt32 >>> ((1 : Int32) &&& 31).toUInt32).toInt32) % (1048576 : Int32)) &&& (1023 : Int32))).toUInt32.toUInt16.toUInt32.toInt32)) ∧ Fr n0 L ∧ h = h0
theorem rm18 (l : Launch) (Z : State) (a0 : Array Value) (hw : ∀ d ∈ tables_1, d.before a0 Z = true) (ws : List Jvm.Cond) (p1 : Int32) (h0 : Heap) (n0 : Nat) (O0 : Old Z n0 h0) :
    MetFree l m_3 (head1 (Jvm.Cond.code m_3 method_4_code 2 (some .char) :: ws) (rk 0 0 0 0)) (fun a U => a = #[(.int p1)] ∧ Z.Warmed39 U.vm ∧ U.heap = h0) (fun _ _ _ _ _ => True) (fun _ U o U' => ∃ v L, o = .returned v ∧ Q18 Z p1 h0 n0 v U'.heap L ∧ FrameEnd U o U' L (rk 0 0 0 0).cells (rk 0 0 0 0).slots) := by
  refine MetFree.of_bodySF (plainFor_of_name pn_0) hisR ?_
  intro p e s m args below meth c s₁ Bd hml0 hP hK
  obtain ⟨rfl, hZ, hh⟩ := hP
  have hx := Bd.exec
  have hby := Bd.bytes
  have hml : c.maxLocals = 2 := hml0
  have hown : s.vm.findClass "com/example/chitragupta/chitragupta/core/CharactersCheckPinLaw" = some m.cls := findClass_of_methodNamed Bd.named
  have X0 : Stand p l e (rk 0 0 0 0) s m #[(.int p1)] below meth c s₁ [] 0 0 := Stand.of_body Bd
  have e0 : s₁.heap = h0 := by rw [← hh, Bd.state]; rfl
  have N0 := Fr.nil n0
  have pre0 := own_pre (tb := p.tables) (e := e) (bl := below) (s := s₁) (ef_2 m p1)
  have sg1 : SG p.tables e below (s₁.setTop (mkF m 16 #[It p1, .val (.int (((p1.toUInt32 >>> ((1 : Int32) &&& 31).toUInt32).toInt32) % (1048576 : Int32)))] [(.int (((56320 : Int32) + ((((p1.toUInt32 >>> ((1 : Int32) &&& 31).toUInt32).toInt32) % (1048576 : Int32)) &&& (1023 : Int32))).toUInt32.toUInt16.toUInt32.toInt32))])) (s₁.setTop (mkF m 0 #[It p1, .unset] [])) := by
    intro target kt
    show Steps _ _ _ (s₁.setTop (mkF m 0 #[It p1, .unset] [])) _
    refine XS.iloadN X0.here hx rfl (hb hby d18_0) rfl ?_
    refine XS.iconst X0.here hx rfl (hb hby d18_1) ?_
    refine XS.iushr X0.here hx rfl (hb hby d18_2) rfl ?_
    refine X0.ldcInt hx hown (mvT hZ (tw hw 84 rfl)) (g := (mkF m 3 #[It p1, .unset] [(.int ((p1.toUInt32 >>> ((1 : Int32) &&& 31).toUInt32).toInt32))])) rfl (hb hby d18_3) _ ?_
    refine iremM (g := (mkF m 5 #[It p1, .unset] [(.int (1048576 : Int32)), (.int ((p1.toUInt32 >>> ((1 : Int32) &&& 31).toUInt32).toInt32))])) X0 hx rfl (hb hby d18_5) rfl (by decide) ?_
    refine XS.istoreN X0.here hx rfl (hb hby d18_6) rfl (l' := #[It p1, .val (.int (((p1.toUInt32 >>> ((1 : Int32) &&& 31).toUInt32).toInt32) % (1048576 : Int32)))]) rfl ?_
    refine X0.ldcInt hx hown (mvT hZ (tw hw 88 rfl)) (g := (mkF m 7 #[It p1, .val (.int (((p1.toUInt32 >>> ((1 : Int32) &&& 31).toUInt32).toInt32) % (1048576 : Int32)))] [])) rfl (hb hby d18_7) _ ?_
    refine XS.iloadN X0.here hx rfl (hb hby d18_9) rfl ?_
    refine XS.sipush X0.here hx rfl (hb hby d18_10) ?_
    refine XS.iand X0.here hx rfl (hb hby d18_13) rfl ?_
    refine XS.iadd X0.here hx rfl (hb hby d18_14) rfl ?_
    refine XS.i2c X0.here hx rfl (hb hby d18_15) rfl ?_
    exact kt
  have hnar : nar .char (((56320 : Int32) + ((((p1.toUInt32 >>> ((1 : Int32) &&& 31).toUInt32).toInt32) % (1048576 : Int32)) &&& (1023 : Int32))).toUInt32.toUInt16.toUInt32.toInt32) = (((56320 : Int32) + ((((p1.toUInt32 >>> ((1 : Int32) &&& 31).toUInt32).toInt32) % (1048576 : Int32)) &&& (1023 : Int32))).toUInt32.toUInt16.toUInt32.toInt32) := own_ncc _
  obtain ⟨fs, hr, hrun, hended, hW, hsame⟩ := X0.leave (v := some (.int (((56320 : Int32) + ((((p1.toUInt32 >>> ((1 : Int32) &&& 31).toUInt32).toInt32) % (1048576 : Int32)) &&& (1023 : Int32))).toUInt32.toUInt16.toUInt32.toInt32))) (fun h => by rw [Bd.returns] at h; cases h)
  rw [← hnar] at hr
  refine ⟨_, _, pre0 _ (sg1 _ (?_)), hrun, hended, _, _, rfl, ?_, ⟨_, rfl⟩, hW, hsame.mono (by decide) (by decide)⟩
  · show Steps _ _ _ (s₁.setTop (mkF m 16 #[It p1, .val (.int (((p1.toUInt32 >>> ((1 : Int32) &&& 31).toUInt32).toInt32) % (1048576 : Int32)))] [(.int (((56320 : Int32) + ((((p1.toUInt32 >>> ((1 : Int32) &&& 31).toUInt32).toInt32) % (1048576 : Int32)) &&& (1023 : Int32))).toUInt32.toUInt16.toUInt32.toInt32))])) _
    exact retN X0 hx (t := .char) Bd.returns (by simp) (hb hby d18_16) hr
  · show Q18 Z p1 h0 n0 _ s₁.heap _
    rw [e0]
    exact ⟨rfl, N0, rfl⟩
def Q16 (Z : State) (p1 : Int32) (h0 : Heap) (n0 : Nat) (v : Option Value) (h : Heap) (L : List Loc) : Prop := v = some (.int (if p1 < (65536 : Int32) then (1 : Int32) else (2 : Int32))) ∧ Fr n0 L ∧ h = h0
theorem ef_16 (m : MethodId) (x0 : Int32) : entryFrame m #[(.int x0)] 1 = mkF m 0 #[.val (.int x0)] [] := by first | (simp [entryFrame, mkF, argsToLocals, Value.category]; done) | rfl
theorem rm16 (l : Launch) (Z : State) (a0 : Array Value) (hw : ∀ d ∈ tables_1, d.before a0 Z = true) (ws : List Jvm.Cond) (p1 : Int32) (h0 : Heap) (n0 : Nat) (O0 : Old Z n0 h0) :
    MetFree l m_4 (head1 (Jvm.Cond.code m_4 jdk_89_method_18_code 1 (some .int) :: ws) (rk 0 0 0 0)) (fun a U => a = #[(.int p1)] ∧ Z.Warmed39 U.vm ∧ U.heap = h0) (fun _ _ _ _ _ => True) (fun _ U o U' => ∃ v L, o = .returned v ∧ Q16 Z p1 h0 n0 v U'.heap L ∧ FrameEnd U o U' L (rk 0 0 0 0).cells (rk 0 0 0 0).slots) := by
  refine MetFree.of_bodySF (plainFor_of_name pn_1) hisR ?_
  intro p e s m args below meth c s₁ Bd hml0 hP hK
  obtain ⟨rfl, hZ, hh⟩ := hP
  have hx := Bd.exec
  have hby := Bd.bytes
  have hml : c.maxLocals = 1 := hml0
  have hown : s.vm.findClass "java/lang/Character" = some m.cls := findClass_of_methodNamed Bd.named
  have X0 : Stand p l e (rk 0 0 0 0) s m #[(.int p1)] below meth c s₁ [] 0 0 := Stand.of_body Bd
  have e0 : s₁.heap = h0 := by rw [← hh, Bd.state]; rfl
  have N0 := Fr.nil n0
  have pre0 := own_pre (tb := p.tables) (e := e) (bl := below) (s := s₁) (ef_16 m p1)
  have sg1 : SG p.tables e below (s₁.setTop (mkF m 3 #[It p1] [(.int (65536 : Int32)), (.int p1)])) (s₁.setTop (mkF m 0 #[It p1] [])) := by
    intro target kt
    show Steps _ _ _ (s₁.setTop (mkF m 0 #[It p1] [])) _
    refine XS.iloadN X0.here hx rfl (hb hby d16_0) rfl ?_
    refine X0.ldcInt hx hown (mvT hZ (tw hw 79 rfl)) (g := (mkF m 1 #[It p1] [(.int p1)])) rfl (hb hby d16_1) _ ?_
    exact kt
  by_cases hc2 : p1 < (65536 : Int32)
  · have sg3 : SG p.tables e below (s₁.setTop (mkF m 11 #[It p1] [(.int (1 : Int32))])) (s₁.setTop (mkF m 3 #[It p1] [(.int (65536 : Int32)), (.int p1)])) := by
      intro target kt
      show Steps _ _ _ (s₁.setTop (mkF m 3 #[It p1] [(.int (65536 : Int32)), (.int p1)])) _
      refine XS.icmpYes X0.here hx rfl (pc0 := 3) (pc' := 10) rfl (hb hby d16_3) rfl (tlt hc2).1 (by decide) (by decide) ?_
      refine XS.iconst X0.here hx rfl (hb hby d16_10) ?_
      exact kt
    obtain ⟨fs, hr, hrun, hended, hW, hsame⟩ := X0.leave (v := some (.int (1 : Int32))) (fun h => by rw [Bd.returns] at h; cases h)
    refine ⟨_, _, pre0 _ (sg1 _ (sg3 _ (?_))), hrun, hended, _, _, rfl, ?_, ⟨_, rfl⟩, hW, hsame.mono (by decide) (by decide)⟩
    · show Steps _ _ _ (s₁.setTop (mkF m 11 #[It p1] [(.int (1 : Int32))])) _
      exact retI X0 hx Bd.returns (hb hby d16_11) hr
    · show Q16 Z p1 h0 n0 _ s₁.heap _
      rw [e0]
      exact ⟨(by rw [if_pos hc2]), N0, rfl⟩
  · have sg4 : SG p.tables e below (s₁.setTop (mkF m 11 #[It p1] [(.int (2 : Int32))])) (s₁.setTop (mkF m 3 #[It p1] [(.int (65536 : Int32)), (.int p1)])) := by
      intro target kt
      show Steps _ _ _ (s₁.setTop (mkF m 3 #[It p1] [(.int (65536 : Int32)), (.int p1)])) _
      refine XS.icmpNo X0.here hx rfl (hb hby d16_3) rfl (flt hc2).1 ?_
      refine XS.iconst X0.here hx rfl (hb hby d16_6) ?_
      refine XS.goto X0.here hx rfl (pc0 := 7) (pc' := 11) rfl (hb hby d16_7) (by decide) (by decide) ?_
      exact kt
    obtain ⟨fs, hr, hrun, hended, hW, hsame⟩ := X0.leave (v := some (.int (2 : Int32))) (fun h => by rw [Bd.returns] at h; cases h)
    refine ⟨_, _, pre0 _ (sg1 _ (sg4 _ (?_))), hrun, hended, _, _, rfl, ?_, ⟨_, rfl⟩, hW, hsame.mono (by decide) (by decide)⟩
    · show Steps _ _ _ (s₁.setTop (mkF m 11 #[It p1] [(.int (2 : Int32))])) _
      exact retI X0 hx Bd.returns (hb hby d16_11) hr
    · show Q16 Z p1 h0 n0 _ s₁.heap _
      rw [e0]
      exact ⟨(by rw [if_neg hc2]), N0, rfl⟩
def Q26 (Z : State) (p1 : Int32) (h0 : Heap) (n0 : Nat) (v : Option Value) (h : Heap) (L : List Loc) : Prop := v = some (.int (if p1 < (55296 : Int32) then (0 : Int32) else (if p1 < (56320 : Int32) then (1 : Int32) else (0 : Int32)))) ∧ Fr n0 L ∧ h = h0
theorem rm26 (l : Launch) (Z : State) (a0 : Array Value) (hw : ∀ d ∈ tables_1, d.before a0 Z = true) (ws : List Jvm.Cond) (p1 : Int32) (h0 : Heap) (n0 : Nat) (O0 : Old Z n0 h0) :
    MetFree l m_5 (head1 (Jvm.Cond.code m_5 jdk_89_method_14_code 1 (some .boolean) :: ws) (rk 0 0 0 0)) (fun a U => a = #[(.int p1)] ∧ Z.Warmed39 U.vm ∧ U.heap = h0) (fun _ _ _ _ _ => True) (fun _ U o U' => ∃ v L, o = .returned v ∧ Q26 Z p1 h0 n0 v U'.heap L ∧ FrameEnd U o U' L (rk 0 0 0 0).cells (rk 0 0 0 0).slots) := by
  refine MetFree.of_bodySF (plainFor_of_name pn_1) hisR ?_
  intro p e s m args below meth c s₁ Bd hml0 hP hK
  obtain ⟨rfl, hZ, hh⟩ := hP
  have hx := Bd.exec
  have hby := Bd.bytes
  have hml : c.maxLocals = 1 := hml0
  have hown : s.vm.findClass "java/lang/Character" = some m.cls := findClass_of_methodNamed Bd.named
  have X0 : Stand p l e (rk 0 0 0 0) s m #[(.int p1)] below meth c s₁ [] 0 0 := Stand.of_body Bd
  have e0 : s₁.heap = h0 := by rw [← hh, Bd.state]; rfl
  have N0 := Fr.nil n0
  have pre0 := own_pre (tb := p.tables) (e := e) (bl := below) (s := s₁) (ef_16 m p1)
  have sg1 : SG p.tables e below (s₁.setTop (mkF m 3 #[It p1] [(.int (55296 : Int32)), (.int p1)])) (s₁.setTop (mkF m 0 #[It p1] [])) := by
    intro target kt
    show Steps _ _ _ (s₁.setTop (mkF m 0 #[It p1] [])) _
    refine XS.iloadN X0.here hx rfl (hb hby d26_0) rfl ?_
    refine X0.ldcInt hx hown (mvT hZ (tw hw 117 rfl)) (g := (mkF m 1 #[It p1] [(.int p1)])) rfl (hb hby d26_1) _ ?_
    exact kt
  by_cases hc2 : p1 < (55296 : Int32)
  · have sg3 : SG p.tables e below (s₁.setTop (mkF m 17 #[It p1] [(.int (0 : Int32))])) (s₁.setTop (mkF m 3 #[It p1] [(.int (55296 : Int32)), (.int p1)])) := by
      intro target kt
      show Steps _ _ _ (s₁.setTop (mkF m 3 #[It p1] [(.int (55296 : Int32)), (.int p1)])) _
      refine XS.icmpYes X0.here hx rfl (pc0 := 3) (pc' := 16) rfl (hb hby d26_3) rfl (tlt hc2).1 (by decide) (by decide) ?_
      refine XS.iconst X0.here hx rfl (hb hby d26_16) ?_
      exact kt
    obtain ⟨fs, hr, hrun, hended, hW, hsame⟩ := X0.leave (v := some (.int (0 : Int32))) (fun h => by rw [Bd.returns] at h; cases h)
    refine ⟨_, _, pre0 _ (sg1 _ (sg3 _ (?_))), hrun, hended, _, _, rfl, ?_, ⟨_, rfl⟩, hW, hsame.mono (by decide) (by decide)⟩
    · show Steps _ _ _ (s₁.setTop (mkF m 17 #[It p1] [(.int (0 : Int32))])) _
      exact retN X0 hx (t := .boolean) Bd.returns (by simp) (hb hby d26_17) hr
    · show Q26 Z p1 h0 n0 _ s₁.heap _
      rw [e0]
      exact ⟨(by rw [if_pos hc2]), N0, rfl⟩
  · have sg4 : SG p.tables e below (s₁.setTop (mkF m 9 #[It p1] [(.int (56320 : Int32)), (.int p1)])) (s₁.setTop (mkF m 3 #[It p1] [(.int (55296 : Int32)), (.int p1)])) := by
      intro target kt
      show Steps _ _ _ (s₁.setTop (mkF m 3 #[It p1] [(.int (55296 : Int32)), (.int p1)])) _
      refine XS.icmpNo X0.here hx rfl (hb hby d26_3) rfl (flt hc2).1 ?_
      refine XS.iloadN X0.here hx rfl (hb hby d26_6) rfl ?_
      refine X0.ldcInt hx hown (mvT hZ (tw hw 118 rfl)) (g := (mkF m 7 #[It p1] [(.int p1)])) rfl (hb hby d26_7) _ ?_
      exact kt
    by_cases hc5 : p1 < (56320 : Int32)
    · have sg6 : SG p.tables e below (s₁.setTop (mkF m 17 #[It p1] [(.int (1 : Int32))])) (s₁.setTop (mkF m 9 #[It p1] [(.int (56320 : Int32)), (.int p1)])) := by
        intro target kt
        show Steps _ _ _ (s₁.setTop (mkF m 9 #[It p1] [(.int (56320 : Int32)), (.int p1)])) _
        refine XS.icmpNo X0.here hx rfl (hb hby d26_9) rfl (tlt hc5).2.1 ?_
        refine XS.iconst X0.here hx rfl (hb hby d26_12) ?_
        refine XS.goto X0.here hx rfl (pc0 := 13) (pc' := 17) rfl (hb hby d26_13) (by decide) (by decide) ?_
        exact kt
      obtain ⟨fs, hr, hrun, hended, hW, hsame⟩ := X0.leave (v := some (.int (1 : Int32))) (fun h => by rw [Bd.returns] at h; cases h)
      refine ⟨_, _, pre0 _ (sg1 _ (sg4 _ (sg6 _ (?_)))), hrun, hended, _, _, rfl, ?_, ⟨_, rfl⟩, hW, hsame.mono (by decide) (by decide)⟩
      · show Steps _ _ _ (s₁.setTop (mkF m 17 #[It p1] [(.int (1 : Int32))])) _
        exact retN X0 hx (t := .boolean) Bd.returns (by simp) (hb hby d26_17) hr
      · show Q26 Z p1 h0 n0 _ s₁.heap _
        rw [e0]
        exact ⟨(by rw [if_neg hc2, if_pos hc5]), N0, rfl⟩
    · have sg7 : SG p.tables e below (s₁.setTop (mkF m 17 #[It p1] [(.int (0 : Int32))])) (s₁.setTop (mkF m 9 #[It p1] [(.int (56320 : Int32)), (.int p1)])) := by
        intro target kt
        show Steps _ _ _ (s₁.setTop (mkF m 9 #[It p1] [(.int (56320 : Int32)), (.int p1)])) _
        refine XS.icmpYes X0.here hx rfl (pc0 := 9) (pc' := 16) rfl (hb hby d26_9) rfl (flt hc5).2.1 (by decide) (by decide) ?_
        refine XS.iconst X0.here hx rfl (hb hby d26_16) ?_
        exact kt
      obtain ⟨fs, hr, hrun, hended, hW, hsame⟩ := X0.leave (v := some (.int (0 : Int32))) (fun h => by rw [Bd.returns] at h; cases h)
      refine ⟨_, _, pre0 _ (sg1 _ (sg4 _ (sg7 _ (?_)))), hrun, hended, _, _, rfl, ?_, ⟨_, rfl⟩, hW, hsame.mono (by decide) (by decide)⟩
      · show Steps _ _ _ (s₁.setTop (mkF m 17 #[It p1] [(.int (0 : Int32))])) _
        exact retN X0 hx (t := .boolean) Bd.returns (by simp) (hb hby d26_17) hr
      · show Q26 Z p1 h0 n0 _ s₁.heap _
        rw [e0]
        exact ⟨(by rw [if_neg hc2, if_neg hc5]), N0, rfl⟩
def Q27 (Z : State) (p1 : Int32) (h0 : Heap) (n0 : Nat) (v : Option Value) (h : Heap) (L : List Loc) : Prop := v = some (.int (if p1 < (56320 : Int32) then (0 : Int32) else (if p1 < (57344 : Int32) then (1 : Int32) else (0 : Int32)))) ∧ Fr n0 L ∧ h = h0
theorem rm27 (l : Launch) (Z : State) (a0 : Array Value) (hw : ∀ d ∈ tables_1, d.before a0 Z = true) (ws : List Jvm.Cond) (p1 : Int32) (h0 : Heap) (n0 : Nat) (O0 : Old Z n0 h0) :
    MetFree l m_6 (head1 (Jvm.Cond.code m_6 jdk_89_method_15_code 1 (some .boolean) :: ws) (rk 0 0 0 0)) (fun a U => a = #[(.int p1)] ∧ Z.Warmed39 U.vm ∧ U.heap = h0) (fun _ _ _ _ _ => True) (fun _ U o U' => ∃ v L, o = .returned v ∧ Q27 Z p1 h0 n0 v U'.heap L ∧ FrameEnd U o U' L (rk 0 0 0 0).cells (rk 0 0 0 0).slots) := by
  refine MetFree.of_bodySF (plainFor_of_name pn_1) hisR ?_
  intro p e s m args below meth c s₁ Bd hml0 hP hK
  obtain ⟨rfl, hZ, hh⟩ := hP
  have hx := Bd.exec
  have hby := Bd.bytes
  have hml : c.maxLocals = 1 := hml0
  have hown : s.vm.findClass "java/lang/Character" = some m.cls := findClass_of_methodNamed Bd.named
  have X0 : Stand p l e (rk 0 0 0 0) s m #[(.int p1)] below meth c s₁ [] 0 0 := Stand.of_body Bd
  have e0 : s₁.heap = h0 := by rw [← hh, Bd.state]; rfl
  have N0 := Fr.nil n0
  have pre0 := own_pre (tb := p.tables) (e := e) (bl := below) (s := s₁) (ef_16 m p1)
  have sg1 : SG p.tables e below (s₁.setTop (mkF m 3 #[It p1] [(.int (56320 : Int32)), (.int p1)])) (s₁.setTop (mkF m 0 #[It p1] [])) := by
    intro target kt
    show Steps _ _ _ (s₁.setTop (mkF m 0 #[It p1] [])) _
    refine XS.iloadN X0.here hx rfl (hb hby d27_0) rfl ?_
    refine X0.ldcInt hx hown (mvT hZ (tw hw 118 rfl)) (g := (mkF m 1 #[It p1] [(.int p1)])) rfl (hb hby d27_1) _ ?_
    exact kt
  by_cases hc2 : p1 < (56320 : Int32)
  · have sg3 : SG p.tables e below (s₁.setTop (mkF m 17 #[It p1] [(.int (0 : Int32))])) (s₁.setTop (mkF m 3 #[It p1] [(.int (56320 : Int32)), (.int p1)])) := by
      intro target kt
      show Steps _ _ _ (s₁.setTop (mkF m 3 #[It p1] [(.int (56320 : Int32)), (.int p1)])) _
      refine XS.icmpYes X0.here hx rfl (pc0 := 3) (pc' := 16) rfl (hb hby d27_3) rfl (tlt hc2).1 (by decide) (by decide) ?_
      refine XS.iconst X0.here hx rfl (hb hby d27_16) ?_
      exact kt
    obtain ⟨fs, hr, hrun, hended, hW, hsame⟩ := X0.leave (v := some (.int (0 : Int32))) (fun h => by rw [Bd.returns] at h; cases h)
    refine ⟨_, _, pre0 _ (sg1 _ (sg3 _ (?_))), hrun, hended, _, _, rfl, ?_, ⟨_, rfl⟩, hW, hsame.mono (by decide) (by decide)⟩
    · show Steps _ _ _ (s₁.setTop (mkF m 17 #[It p1] [(.int (0 : Int32))])) _
      exact retN X0 hx (t := .boolean) Bd.returns (by simp) (hb hby d27_17) hr
    · show Q27 Z p1 h0 n0 _ s₁.heap _
      rw [e0]
      exact ⟨(by rw [if_pos hc2]), N0, rfl⟩
  · have sg4 : SG p.tables e below (s₁.setTop (mkF m 9 #[It p1] [(.int (57344 : Int32)), (.int p1)])) (s₁.setTop (mkF m 3 #[It p1] [(.int (56320 : Int32)), (.int p1)])) := by
      intro target kt
      show Steps _ _ _ (s₁.setTop (mkF m 3 #[It p1] [(.int (56320 : Int32)), (.int p1)])) _
      refine XS.icmpNo X0.here hx rfl (hb hby d27_3) rfl (flt hc2).1 ?_
      refine XS.iloadN X0.here hx rfl (hb hby d27_6) rfl ?_
      refine X0.ldcInt hx hown (mvT hZ (tw hw 122 rfl)) (g := (mkF m 7 #[It p1] [(.int p1)])) rfl (hb hby d27_7) _ ?_
      exact kt
    by_cases hc5 : p1 < (57344 : Int32)
    · have sg6 : SG p.tables e below (s₁.setTop (mkF m 17 #[It p1] [(.int (1 : Int32))])) (s₁.setTop (mkF m 9 #[It p1] [(.int (57344 : Int32)), (.int p1)])) := by
        intro target kt
        show Steps _ _ _ (s₁.setTop (mkF m 9 #[It p1] [(.int (57344 : Int32)), (.int p1)])) _
        refine XS.icmpNo X0.here hx rfl (hb hby d27_9) rfl (tlt hc5).2.1 ?_
        refine XS.iconst X0.here hx rfl (hb hby d27_12) ?_
        refine XS.goto X0.here hx rfl (pc0 := 13) (pc' := 17) rfl (hb hby d27_13) (by decide) (by decide) ?_
        exact kt
      obtain ⟨fs, hr, hrun, hended, hW, hsame⟩ := X0.leave (v := some (.int (1 : Int32))) (fun h => by rw [Bd.returns] at h; cases h)
      refine ⟨_, _, pre0 _ (sg1 _ (sg4 _ (sg6 _ (?_)))), hrun, hended, _, _, rfl, ?_, ⟨_, rfl⟩, hW, hsame.mono (by decide) (by decide)⟩
      · show Steps _ _ _ (s₁.setTop (mkF m 17 #[It p1] [(.int (1 : Int32))])) _
        exact retN X0 hx (t := .boolean) Bd.returns (by simp) (hb hby d27_17) hr
      · show Q27 Z p1 h0 n0 _ s₁.heap _
        rw [e0]
        exact ⟨(by rw [if_neg hc2, if_pos hc5]), N0, rfl⟩
    · have sg7 : SG p.tables e below (s₁.setTop (mkF m 17 #[It p1] [(.int (0 : Int32))])) (s₁.setTop (mkF m 9 #[It p1] [(.int (57344 : Int32)), (.int p1)])) := by
        intro target kt
        show Steps _ _ _ (s₁.setTop (mkF m 9 #[It p1] [(.int (57344 : Int32)), (.int p1)])) _
        refine XS.icmpYes X0.here hx rfl (pc0 := 9) (pc' := 16) rfl (hb hby d27_9) rfl (flt hc5).2.1 (by decide) (by decide) ?_
        refine XS.iconst X0.here hx rfl (hb hby d27_16) ?_
        exact kt
      obtain ⟨fs, hr, hrun, hended, hW, hsame⟩ := X0.leave (v := some (.int (0 : Int32))) (fun h => by rw [Bd.returns] at h; cases h)
      refine ⟨_, _, pre0 _ (sg1 _ (sg4 _ (sg7 _ (?_)))), hrun, hended, _, _, rfl, ?_, ⟨_, rfl⟩, hW, hsame.mono (by decide) (by decide)⟩
      · show Steps _ _ _ (s₁.setTop (mkF m 17 #[It p1] [(.int (0 : Int32))])) _
        exact retN X0 hx (t := .boolean) Bd.returns (by simp) (hb hby d27_17) hr
      · show Q27 Z p1 h0 n0 _ s₁.heap _
        rw [e0]
        exact ⟨(by rw [if_neg hc2, if_neg hc5]), N0, rfl⟩
def Q28 (Z : State) (p1 : Int32) (p2 : Int32) (h0 : Heap) (n0 : Nat) (v : Option Value) (h : Heap) (L : List Loc) : Prop := v = some (.int (((p1 <<< ((10 : Int32) &&& 31)) + p2) + (-56613888 : Int32))) ∧ Fr n0 L ∧ h = h0
theorem rm28 (l : Launch) (Z : State) (a0 : Array Value) (hw : ∀ d ∈ tables_1, d.before a0 Z = true) (ws : List Jvm.Cond) (p1 : Int32) (p2 : Int32) (h0 : Heap) (n0 : Nat) (O0 : Old Z n0 h0) :
    MetFree l m_7 (head1 (Jvm.Cond.code m_7 jdk_89_method_19_code 2 (some .int) :: ws) (rk 0 0 0 0)) (fun a U => a = #[(.int p1), (.int p2)] ∧ Z.Warmed39 U.vm ∧ U.heap = h0) (fun _ _ _ _ _ => True) (fun _ U o U' => ∃ v L, o = .returned v ∧ Q28 Z p1 p2 h0 n0 v U'.heap L ∧ FrameEnd U o U' L (rk 0 0 0 0).cells (rk 0 0 0 0).slots) := by
  refine MetFree.of_bodySF (plainFor_of_name pn_1) hisR ?_
  intro p e s m args below meth c s₁ Bd hml0 hP hK
  obtain ⟨rfl, hZ, hh⟩ := hP
  have hx := Bd.exec
  have hby := Bd.bytes
  have hml : c.maxLocals = 2 := hml0
  have hown : s.vm.findClass "java/lang/Character" = some m.cls := findClass_of_methodNamed Bd.named
  have X0 : Stand p l e (rk 0 0 0 0) s m #[(.int p1), (.int p2)] below meth c s₁ [] 0 0 := Stand.of_body Bd
  have e0 : s₁.heap = h0 := by rw [← hh, Bd.state]; rfl
  have N0 := Fr.nil n0
  have pre0 := own_pre (tb := p.tables) (e := e) (bl := below) (s := s₁) (ef_1 m p1 p2)
  have sg1 : SG p.tables e below (s₁.setTop (mkF m 9 #[It p1, It p2] [(.int (((p1 <<< ((10 : Int32) &&& 31)) + p2) + (-56613888 : Int32)))])) (s₁.setTop (mkF m 0 #[It p1, It p2] [])) := by
    intro target kt
    show Steps _ _ _ (s₁.setTop (mkF m 0 #[It p1, It p2] [])) _
    refine XS.iloadN X0.here hx rfl (hb hby d28_0) rfl ?_
    refine XS.bipush X0.here hx rfl (hb hby d28_1) ?_
    refine XS.ishl X0.here hx rfl (hb hby d28_3) rfl ?_
    refine XS.iloadN X0.here hx rfl (hb hby d28_4) rfl ?_
    refine XS.iadd X0.here hx rfl (hb hby d28_5) rfl ?_
    refine X0.ldcInt hx hown (mvT hZ (tw hw 126 rfl)) (g := (mkF m 6 #[It p1, It p2] [(.int ((p1 <<< ((10 : Int32) &&& 31)) + p2))])) rfl (hb hby d28_6) _ ?_
    refine XS.iadd X0.here hx rfl (hb hby d28_8) rfl ?_
    exact kt
  obtain ⟨fs, hr, hrun, hended, hW, hsame⟩ := X0.leave (v := some (.int (((p1 <<< ((10 : Int32) &&& 31)) + p2) + (-56613888 : Int32)))) (fun h => by rw [Bd.returns] at h; cases h)
  refine ⟨_, _, pre0 _ (sg1 _ (?_)), hrun, hended, _, _, rfl, ?_, ⟨_, rfl⟩, hW, hsame.mono (by decide) (by decide)⟩
  · show Steps _ _ _ (s₁.setTop (mkF m 9 #[It p1, It p2] [(.int (((p1 <<< ((10 : Int32) &&& 31)) + p2) + (-56613888 : Int32)))])) _
    exact retI X0 hx Bd.returns (hb hby d28_9) hr
  · show Q28 Z p1 p2 h0 n0 _ s₁.heap _
    rw [e0]
    exact ⟨rfl, N0, rfl⟩
def Q22_0 (Z : State) (a1 : Addr) (x1 : Int32) (zz : Int32) (vs : List Value) (ka : ClassId) (h0 : Heap) (n0 : Nat) (v : Option Value) (h : Heap) (L : List Loc) : Prop := v = none ∧ Fr n0 L ∧ Keep h0 h [a1] ∧ Old Z n0 h ∧ Arv Z h a1 ka .byte zz ((vs.set 0 (.int (lbt x1))).set 1 (.int (hbt x1))) (.int (0 : Int32))
theorem ef_22_0 (m : MethodId) (x0 : Addr) (x1 : Int32) (x2 : Int32) : entryFrame m #[(.ref x0), (.int x1), (.int x2)] 3 = mkF m 0 #[.val (.ref x0), .val (.int x1), .val (.int x2)] [] := by first | (simp [entryFrame, mkF, argsToLocals, Value.category]; done) | rfl
theorem rm22_0 (l : Launch) (Z : State) (a0 : Array Value) (hw : ∀ d ∈ tables_1, d.before a0 Z = true) (ws : List Jvm.Cond) (a1 : Addr) (x1 : Int32) (zz : Int32) (vs : List Value) (ka : ClassId) (h0 : Heap) (n0 : Nat) (O0 : Old Z n0 h0) (sA : TS_0 Z) (sH : TS_1 Z) (sL : TS_2 Z) (h_z : (1 : Int32) < zz) (h_n : 1 < vs.length) (A_a1 : Arv Z h0 a1 ka .byte zz vs (.int (0 : Int32))) (ge_a1 : n0 ≤ a1) :
    MetFree l m_8 (head1 (Jvm.Cond.code m_8 jdk_52_method_4_code 3 none :: ws) (rk 0 0 0 0)) (fun a U => a = #[(.ref a1), (.int (0 : Int32)), (.int x1)] ∧ Z.Warmed39 U.vm ∧ U.heap = h0) (fun _ _ _ _ _ => True) (fun _ U o U' => ∃ v L, o = .returned v ∧ Q22_0 Z a1 x1 zz vs ka h0 n0 v U'.heap L ∧ FrameEnd U o U' L (rk 0 0 0 0).cells (rk 0 0 0 0).slots) := by
  refine MetFree.of_bodySF (plainFor_of_name pn_2) hisR ?_
  intro p e s m args below meth c s₁ Bd hml0 hP hK
  obtain ⟨rfl, hZ, hh⟩ := hP
  have hx := Bd.exec
  have hby := Bd.bytes
  have hml : c.maxLocals = 3 := hml0
  have hown : s.vm.findClass "java/lang/StringUTF16" = some m.cls := findClass_of_methodNamed Bd.named
  have X0 : Stand p l e (rk 0 0 0 0) s m #[(.ref a1), (.int (0 : Int32)), (.int x1)] below meth c s₁ [] 0 0 := Stand.of_body Bd
  have e0 : s₁.heap = h0 := by rw [← hh, Bd.state]; rfl
  have N0 := Fr.nil n0
  have pre0 := own_pre (tb := p.tables) (e := e) (bl := below) (s := s₁) (ef_22_0 m a1 (0 : Int32) x1)
  have K0 := Keep.refl h0 [a1]
  obtain ⟨T1, X1, e1, st1⟩ := getS2 X0 hx hZ hown (host := "") (Or.inl (tw hw 102 rfl)) Via.refl e0 (sA.ext O0.2) (g := (mkF m 0 #[Rf a1, It (0 : Int32), It x1] [])) rfl (hb hby d22_0)
  obtain ⟨T2, X2, e2, st2⟩ := getS2 X1 hx hZ hown (host := "") (Or.inl (tw hw 103 rfl)) Via.refl e1 (sH.ext O0.2) (g := (mkF m 38 #[Rf a1, .val (.int (((0 : Int32) <<< ((1 : Int32) &&& 31)) + (1 : Int32))), It x1] [(.int x1), (.int ((0 : Int32) <<< ((1 : Int32) &&& 31))), (.ref a1)])) rfl (hb hby d22_38)
  obtain ⟨cl3, Ar3, q3, Sz3, Nn3, Hh3, Gg3⟩ := id A_a1
  have hin3 : ¬ (((0 : Int32) <<< ((1 : Int32) &&& 31)) < 0 ∨ cl3.slots.size ≤ (((0 : Int32) <<< ((1 : Int32) &&& 31))).toNatClampNeg) := inb_of Sz3 ⟨by decide, own_ltz h_z (by decide)⟩
  obtain ⟨T4, h4, X4, e4, W4, st4⟩ := stB X2 hx hZ e2 Ar3 (j := ((0 : Int32) <<< ((1 : Int32) &&& 31))) hin3 (g := (mkF m 43 #[Rf a1, .val (.int (((0 : Int32) <<< ((1 : Int32) &&& 31)) + (1 : Int32))), It x1] [(.int ((x1 >>> ((0 : Int32) &&& 31)).toInt8.toInt32)), (.int ((0 : Int32) <<< ((1 : Int32) &&& 31))), (.ref a1)])) rfl rfl (hb hby d22_43)
  have V4 : Arv Z h4 a1 ka .byte zz (vs.set 0 (.int (((x1 >>> ((0 : Int32) &&& 31)).toInt8.toInt32).toInt8.toInt32))) (.int (0 : Int32)) := Arv.set Ar3 q3 Sz3 Nn3 Hh3 Gg3 (fits_nar_byte _) W4 0 (by decide) (own_sl h_n (by decide))
  have N4 := Fr.snoc X4 N0 ge_a1
  have O5 := O0.wr W4 ge_a1
  have K4 := K0.wr W4 (Or.inl (List.mem_of_getElem? (i := 0) rfl))
  obtain ⟨T6, X6, e6, st6⟩ := getS2 X4 hx hZ hown (host := "") (Or.inl (tw hw 104 rfl)) Via.refl e4 (sL.ext O5.2) (g := (mkF m 47 #[Rf a1, .val (.int (((0 : Int32) <<< ((1 : Int32) &&& 31)) + (1 : Int32))), It x1] [(.int x1), (.int (((0 : Int32) <<< ((1 : Int32) &&& 31)) + (1 : Int32))), (.ref a1)])) rfl (hb hby d22_47)
  obtain ⟨cl7, Ar7, q7, Sz7, Nn7, Hh7, Gg7⟩ := id V4
  have hin7 : ¬ ((((0 : Int32) <<< ((1 : Int32) &&& 31)) + (1 : Int32)) < 0 ∨ cl7.slots.size ≤ ((((0 : Int32) <<< ((1 : Int32) &&& 31)) + (1 : Int32))).toNatClampNeg) := inb_of Sz7 ⟨by decide, own_ltz h_z (by decide)⟩
  obtain ⟨T8, h8, X8, e8, W8, st8⟩ := stB X6 hx hZ e6 Ar7 (j := (((0 : Int32) <<< ((1 : Int32) &&& 31)) + (1 : Int32))) hin7 (g := (mkF m 52 #[Rf a1, .val (.int (((0 : Int32) <<< ((1 : Int32) &&& 31)) + (1 : Int32))), It x1] [(.int ((x1 >>> ((8 : Int32) &&& 31)).toInt8.toInt32)), (.int (((0 : Int32) <<< ((1 : Int32) &&& 31)) + (1 : Int32))), (.ref a1)])) rfl rfl (hb hby d22_52)
  have V8 : Arv Z h8 a1 ka .byte zz ((vs.set 0 (.int (((x1 >>> ((0 : Int32) &&& 31)).toInt8.toInt32).toInt8.toInt32))).set 1 (.int (((x1 >>> ((8 : Int32) &&& 31)).toInt8.toInt32).toInt8.toInt32))) (.int (0 : Int32)) := Arv.set Ar7 q7 Sz7 Nn7 Hh7 Gg7 (fits_nar_byte _) W8 1 (by decide) (own_sl1 h_n (by decide))
  have N8 := Fr.snoc X8 N4 ge_a1
  have O9 := O5.wr W8 ge_a1
  have K8 := K4.wr W8 (Or.inl (List.mem_of_getElem? (i := 0) rfl))
  have sg10 : SG p.tables e below (T8.setTop (mkF m 53 #[Rf a1, .val (.int (((0 : Int32) <<< ((1 : Int32) &&& 31)) + (1 : Int32))), It x1] [])) (s₁.setTop (mkF m 0 #[Rf a1, It (0 : Int32), It x1] [])) := by
    intro target kt
    show Steps _ _ _ (s₁.setTop (mkF m 0 #[Rf a1, It (0 : Int32), It x1] [])) _
    refine st1 _ ?_
    refine XS.ifYes X1.here hx rfl (pc0 := 3) (pc' := 28) rfl (hb hby d22_3) rfl ((if0 _ _).trans (feq (by decide : ¬ ((1 : Int32) = (0 : Int32)))).2) (by decide) (by decide) ?_
    refine XS.iloadN X1.here hx rfl (hb hby d22_28) rfl ?_
    refine XS.iconst X1.here hx rfl (hb hby d22_29) ?_
    refine XS.ishl X1.here hx rfl (hb hby d22_30) rfl ?_
    refine XS.istoreN X1.here hx rfl (hb hby d22_31) rfl (l' := #[Rf a1, .val (.int ((0 : Int32) <<< ((1 : Int32) &&& 31))), It x1]) rfl ?_
    refine XS.aloadN X1.here hx rfl (hb hby d22_32) rfl rfl ?_
    refine XS.iloadN X1.here hx rfl (hb hby d22_33) rfl ?_
    refine XS.iinc X1.here hx rfl (hb hby d22_34) rfl (l' := #[Rf a1, .val (.int (((0 : Int32) <<< ((1 : Int32) &&& 31)) + (1 : Int32))), It x1]) rfl ?_
    refine XS.iloadN X1.here hx rfl (hb hby d22_37) rfl ?_
    refine st2 _ ?_
    refine XS.ishr X2.here hx rfl (hb hby d22_41) rfl ?_
    refine XS.i2b X2.here hx rfl (hb hby d22_42) rfl ?_
    refine st4 _ ?_
    refine XS.aloadN X4.here hx rfl (hb hby d22_44) rfl rfl ?_
    refine XS.iloadN X4.here hx rfl (hb hby d22_45) rfl ?_
    refine XS.iloadN X4.here hx rfl (hb hby d22_46) rfl ?_
    refine st6 _ ?_
    refine XS.ishr X6.here hx rfl (hb hby d22_50) rfl ?_
    refine XS.i2b X6.here hx rfl (hb hby d22_51) rfl ?_
    refine st8 _ ?_
    exact kt
  obtain ⟨fs, hr, hrun, hended, hW, hsame⟩ := X8.leave (v := none) (fun _ => rfl)
  refine ⟨_, _, pre0 _ (sg10 _ (?_)), hrun, hended, _, _, rfl, ?_, ⟨_, rfl⟩, hW, hsame.mono (by decide) (by decide)⟩
  · show Steps _ _ _ (T8.setTop (mkF m 53 #[Rf a1, .val (.int (((0 : Int32) <<< ((1 : Int32) &&& 31)) + (1 : Int32))), It x1] [])) _
    exact X8.returnOut hx Bd.returns (hb hby d22_53) hr
  · show Q22_0 Z a1 x1 zz vs ka h0 n0 _ T8.heap _
    rw [e8]
    exact ⟨rfl, N8, K8, O9, V8⟩
def Q23_0 (Z : State) (a1 : Addr) (x1 : Int32) (zz : Int32) (vs : List Value) (ka : ClassId) (h0 : Heap) (n0 : Nat) (v : Option Value) (h : Heap) (L : List Loc) : Prop := v = some (.int x1) ∧ Fr n0 L ∧ h = h0
theorem ef_23_0 (m : MethodId) (x0 : Addr) (x1 : Int32) : entryFrame m #[(.ref x0), (.int x1)] 2 = mkF m 0 #[.val (.ref x0), .val (.int x1)] [] := by first | (simp [entryFrame, mkF, argsToLocals, Value.category]; done) | rfl
theorem rm23_0 (l : Launch) (Z : State) (a0 : Array Value) (hw : ∀ d ∈ tables_1, d.before a0 Z = true) (ws : List Jvm.Cond) (a1 : Addr) (x1 : Int32) (zz : Int32) (vs : List Value) (ka : ClassId) (h0 : Heap) (n0 : Nat) (O0 : Old Z n0 h0) (sA : TS_0 Z) (sH : TS_1 Z) (sL : TS_2 Z) (h_z : (1 : Int32) < zz) (g0 : vs.getD 0 (.int (0 : Int32)) = .int (lbt x1)) (g1 : vs.getD 1 (.int (0 : Int32)) = .int (hbt x1)) (h_x : CR x1) (A_a1 : Arv Z h0 a1 ka .byte zz vs (.int (0 : Int32))) :
    MetFree l m_9 (head1 (Jvm.Cond.code m_9 jdk_52_method_5_code 2 (some .char) :: ws) (rk 0 0 0 0)) (fun a U => a = #[(.ref a1), (.int (0 : Int32))] ∧ Z.Warmed39 U.vm ∧ U.heap = h0) (fun _ _ _ _ _ => True) (fun _ U o U' => ∃ v L, o = .returned v ∧ Q23_0 Z a1 x1 zz vs ka h0 n0 v U'.heap L ∧ FrameEnd U o U' L (rk 0 0 0 0).cells (rk 0 0 0 0).slots) := by
  refine MetFree.of_bodySF (plainFor_of_name pn_2) hisR ?_
  intro p e s m args below meth c s₁ Bd hml0 hP hK
  obtain ⟨rfl, hZ, hh⟩ := hP
  have hx := Bd.exec
  have hby := Bd.bytes
  have hml : c.maxLocals = 2 := hml0
  have hown : s.vm.findClass "java/lang/StringUTF16" = some m.cls := findClass_of_methodNamed Bd.named
  have X0 : Stand p l e (rk 0 0 0 0) s m #[(.ref a1), (.int (0 : Int32))] below meth c s₁ [] 0 0 := Stand.of_body Bd
  have e0 : s₁.heap = h0 := by rw [← hh, Bd.state]; rfl
  have N0 := Fr.nil n0
  have pre0 := own_pre (tb := p.tables) (e := e) (bl := below) (s := s₁) (ef_23_0 m a1 (0 : Int32))
  obtain ⟨T1, X1, e1, st1⟩ := getS2 X0 hx hZ hown (host := "") (Or.inl (tw hw 102 rfl)) Via.refl e0 (sA.ext O0.2) (g := (mkF m 0 #[Rf a1, It (0 : Int32)] [])) rfl (hb hby d23_0)
  obtain ⟨cl2, Ar2, -, Sz2, Nn2, Hh2, -⟩ := id A_a1
  have hin2 : ¬ (((0 : Int32) <<< ((1 : Int32) &&& 31)) < 0 ∨ cl2.slots.size ≤ (((0 : Int32) <<< ((1 : Int32) &&& 31))).toNatClampNeg) := inb_of Sz2 ⟨by decide, own_ltz h_z (by decide)⟩
  have hat2 : cl2.slots[(((0 : Int32) <<< ((1 : Int32) &&& 31))).toNatClampNeg]? = some (.int (lbt x1)) := Has.at Hh2 hin2 g0
  obtain ⟨T3, X3, e3, st3⟩ := getS2 X1 hx hZ hown (host := "") (Or.inl (tw hw 103 rfl)) Via.refl e1 (sH.ext O0.2) (g := (mkF m 42 #[Rf a1, .val (.int (((0 : Int32) <<< ((1 : Int32) &&& 31)) + (1 : Int32)))] [(.int ((lbt x1) &&& (255 : Int32)))])) rfl (hb hby d23_42)
  obtain ⟨cl4, Ar4, -, Sz4, Nn4, Hh4, -⟩ := id A_a1
  have hin4 : ¬ ((((0 : Int32) <<< ((1 : Int32) &&& 31)) + (1 : Int32)) < 0 ∨ cl4.slots.size ≤ ((((0 : Int32) <<< ((1 : Int32) &&& 31)) + (1 : Int32))).toNatClampNeg) := inb_of Sz4 ⟨by decide, own_ltz h_z (by decide)⟩
  have hat4 : cl4.slots[((((0 : Int32) <<< ((1 : Int32) &&& 31)) + (1 : Int32))).toNatClampNeg]? = some (.int (hbt x1)) := Has.at Hh4 hin4 g1
  obtain ⟨T5, X5, e5, st5⟩ := getS2 X3 hx hZ hown (host := "") (Or.inl (tw hw 104 rfl)) Via.refl e3 (sL.ext O0.2) (g := (mkF m 53 #[Rf a1, .val (.int (((0 : Int32) <<< ((1 : Int32) &&& 31)) + (1 : Int32)))] [(.int ((hbt x1) &&& (255 : Int32))), (.int (((lbt x1) &&& (255 : Int32)) <<< ((0 : Int32) &&& 31)))])) rfl (hb hby d23_53)
  obtain ⟨u6, hu6⟩ : ∃ z, z = (((((lbt x1) &&& (255 : Int32)) <<< ((0 : Int32) &&& 31)) ||| (((hbt x1) &&& (255 : Int32)) <<< ((8 : Int32) &&& 31))).toUInt32.toUInt16.toUInt32.toInt32) := ⟨_, rfl⟩
  have sg7 : SG p.tables e below (T5.setTop (mkF m 59 #[Rf a1, .val (.int (((0 : Int32) <<< ((1 : Int32) &&& 31)) + (1 : Int32)))] [(.int u6)])) (s₁.setTop (mkF m 0 #[Rf a1, It (0 : Int32)] [])) := by
    intro target kt
    subst hu6
    show Steps _ _ _ (s₁.setTop (mkF m 0 #[Rf a1, It (0 : Int32)] [])) _
    refine st1 _ ?_
    refine XS.ifYes X1.here hx rfl (pc0 := 3) (pc' := 28) rfl (hb hby d23_3) rfl ((if0 _ _).trans (feq (by decide : ¬ ((1 : Int32) = (0 : Int32)))).2) (by decide) (by decide) ?_
    refine XS.iloadN X1.here hx rfl (hb hby d23_28) rfl ?_
    refine XS.iconst X1.here hx rfl (hb hby d23_29) ?_
    refine XS.ishl X1.here hx rfl (hb hby d23_30) rfl ?_
    refine XS.istoreN X1.here hx rfl (hb hby d23_31) rfl (l' := #[Rf a1, .val (.int ((0 : Int32) <<< ((1 : Int32) &&& 31)))]) rfl ?_
    refine XS.aloadN X1.here hx rfl (hb hby d23_32) rfl rfl ?_
    refine XS.iloadN X1.here hx rfl (hb hby d23_33) rfl ?_
    refine XS.iinc X1.here hx rfl (hb hby d23_34) rfl (l' := #[Rf a1, .val (.int (((0 : Int32) <<< ((1 : Int32) &&& 31)) + (1 : Int32)))]) rfl ?_
    refine X1.baloadBytes hx (j := ((0 : Int32) <<< ((1 : Int32) &&& 31))) (v := (.int (lbt x1))) (own_rwh e1 Ar2.1) (State.isArrayOf_alike hZ.alike Ar2.2.1) Ar2.2.2 hin2 hat2 (g := (mkF m 37 #[Rf a1, .val (.int (((0 : Int32) <<< ((1 : Int32) &&& 31)) + (1 : Int32)))] [(.int ((0 : Int32) <<< ((1 : Int32) &&& 31))), (.ref a1)])) rfl rfl (hb hby d23_37) _ ?_
    refine XS.sipush X1.here hx rfl (hb hby d23_38) ?_
    refine XS.iand X1.here hx rfl (hb hby d23_41) rfl ?_
    refine st3 _ ?_
    refine XS.ishl X3.here hx rfl (hb hby d23_45) rfl ?_
    refine XS.aloadN X3.here hx rfl (hb hby d23_46) rfl rfl ?_
    refine XS.iloadN X3.here hx rfl (hb hby d23_47) rfl ?_
    refine X3.baloadBytes hx (j := (((0 : Int32) <<< ((1 : Int32) &&& 31)) + (1 : Int32))) (v := (.int (hbt x1))) (own_rwh e3 Ar4.1) (State.isArrayOf_alike hZ.alike Ar4.2.1) Ar4.2.2 hin4 hat4 (g := (mkF m 48 #[Rf a1, .val (.int (((0 : Int32) <<< ((1 : Int32) &&& 31)) + (1 : Int32)))] [(.int (((0 : Int32) <<< ((1 : Int32) &&& 31)) + (1 : Int32))), (.ref a1), (.int (((lbt x1) &&& (255 : Int32)) <<< ((0 : Int32) &&& 31)))])) rfl rfl (hb hby d23_48) _ ?_
    refine XS.sipush X3.here hx rfl (hb hby d23_49) ?_
    refine XS.iand X3.here hx rfl (hb hby d23_52) rfl ?_
    refine st5 _ ?_
    refine XS.ishl X5.here hx rfl (hb hby d23_56) rfl ?_
    refine XS.ior X5.here hx rfl (hb hby d23_57) rfl ?_
    refine XS.i2c X5.here hx rfl (hb hby d23_58) rfl ?_
    exact kt
  have hg : u6 = x1 := own_getput h_x hu6
  have hnar : nar .char u6 = u6 := (by rw [hg]; exact own_ncr h_x)
  obtain ⟨fs, hr, hrun, hended, hW, hsame⟩ := X5.leave (v := some (.int u6)) (fun h => by rw [Bd.returns] at h; cases h)
  rw [← hnar] at hr
  refine ⟨_, _, pre0 _ (sg7 _ (?_)), hrun, hended, _, _, rfl, ?_, ⟨_, rfl⟩, hW, hsame.mono (by decide) (by decide)⟩
  · show Steps _ _ _ (T5.setTop (mkF m 59 #[Rf a1, .val (.int (((0 : Int32) <<< ((1 : Int32) &&& 31)) + (1 : Int32)))] [(.int u6)])) _
    exact retN X5 hx (t := .char) Bd.returns (by simp) (hb hby d23_59) hr
  · show Q23_0 Z a1 x1 zz vs ka h0 n0 _ T5.heap _
    rw [e5]
    exact ⟨(by rw [hg]), N0, rfl⟩
def Q22_1 (Z : State) (a1 : Addr) (x1 : Int32) (zz : Int32) (vs : List Value) (ka : ClassId) (h0 : Heap) (n0 : Nat) (v : Option Value) (h : Heap) (L : List Loc) : Prop := v = none ∧ Fr n0 L ∧ Keep h0 h [a1] ∧ Old Z n0 h ∧ Arv Z h a1 ka .byte zz ((vs.set 2 (.int (lbt x1))).set 3 (.int (hbt x1))) (.int (0 : Int32))
theorem rm22_1 (l : Launch) (Z : State) (a0 : Array Value) (hw : ∀ d ∈ tables_1, d.before a0 Z = true) (ws : List Jvm.Cond) (a1 : Addr) (x1 : Int32) (zz : Int32) (vs : List Value) (ka : ClassId) (h0 : Heap) (n0 : Nat) (O0 : Old Z n0 h0) (sA : TS_0 Z) (sH : TS_1 Z) (sL : TS_2 Z) (h_z : (3 : Int32) < zz) (h_n : 3 < vs.length) (A_a1 : Arv Z h0 a1 ka .byte zz vs (.int (0 : Int32))) (ge_a1 : n0 ≤ a1) :
    MetFree l m_8 (head1 (Jvm.Cond.code m_8 jdk_52_method_4_code 3 none :: ws) (rk 0 0 0 0)) (fun a U => a = #[(.ref a1), (.int (1 : Int32)), (.int x1)] ∧ Z.Warmed39 U.vm ∧ U.heap = h0) (fun _ _ _ _ _ => True) (fun _ U o U' => ∃ v L, o = .returned v ∧ Q22_1 Z a1 x1 zz vs ka h0 n0 v U'.heap L ∧ FrameEnd U o U' L (rk 0 0 0 0).cells (rk 0 0 0 0).slots) := by
  refine MetFree.of_bodySF (plainFor_of_name pn_2) hisR ?_
  intro p e s m args below meth c s₁ Bd hml0 hP hK
  obtain ⟨rfl, hZ, hh⟩ := hP
  have hx := Bd.exec
  have hby := Bd.bytes
  have hml : c.maxLocals = 3 := hml0
  have hown : s.vm.findClass "java/lang/StringUTF16" = some m.cls := findClass_of_methodNamed Bd.named
  have X0 : Stand p l e (rk 0 0 0 0) s m #[(.ref a1), (.int (1 : Int32)), (.int x1)] below meth c s₁ [] 0 0 := Stand.of_body Bd
  have e0 : s₁.heap = h0 := by rw [← hh, Bd.state]; rfl
  have N0 := Fr.nil n0
  have pre0 := own_pre (tb := p.tables) (e := e) (bl := below) (s := s₁) (ef_22_0 m a1 (1 : Int32) x1)
  have K0 := Keep.refl h0 [a1]
  obtain ⟨T1, X1, e1, st1⟩ := getS2 X0 hx hZ hown (host := "") (Or.inl (tw hw 102 rfl)) Via.refl e0 (sA.ext O0.2) (g := (mkF m 0 #[Rf a1, It (1 : Int32), It x1] [])) rfl (hb hby d22_0)
  obtain ⟨T2, X2, e2, st2⟩ := getS2 X1 hx hZ hown (host := "") (Or.inl (tw hw 103 rfl)) Via.refl e1 (sH.ext O0.2) (g := (mkF m 38 #[Rf a1, .val (.int (((1 : Int32) <<< ((1 : Int32) &&& 31)) + (1 : Int32))), It x1] [(.int x1), (.int ((1 : Int32) <<< ((1 : Int32) &&& 31))), (.ref a1)])) rfl (hb hby d22_38)
  obtain ⟨cl3, Ar3, q3, Sz3, Nn3, Hh3, Gg3⟩ := id A_a1
  have hin3 : ¬ (((1 : Int32) <<< ((1 : Int32) &&& 31)) < 0 ∨ cl3.slots.size ≤ (((1 : Int32) <<< ((1 : Int32) &&& 31))).toNatClampNeg) := inb_of Sz3 ⟨by decide, own_ltz h_z (by decide)⟩
  obtain ⟨T4, h4, X4, e4, W4, st4⟩ := stB X2 hx hZ e2 Ar3 (j := ((1 : Int32) <<< ((1 : Int32) &&& 31))) hin3 (g := (mkF m 43 #[Rf a1, .val (.int (((1 : Int32) <<< ((1 : Int32) &&& 31)) + (1 : Int32))), It x1] [(.int ((x1 >>> ((0 : Int32) &&& 31)).toInt8.toInt32)), (.int ((1 : Int32) <<< ((1 : Int32) &&& 31))), (.ref a1)])) rfl rfl (hb hby d22_43)
  have V4 : Arv Z h4 a1 ka .byte zz (vs.set 2 (.int (((x1 >>> ((0 : Int32) &&& 31)).toInt8.toInt32).toInt8.toInt32))) (.int (0 : Int32)) := Arv.set Ar3 q3 Sz3 Nn3 Hh3 Gg3 (fits_nar_byte _) W4 2 (by decide) (own_sl h_n (by decide))
  have N4 := Fr.snoc X4 N0 ge_a1
  have O5 := O0.wr W4 ge_a1
  have K4 := K0.wr W4 (Or.inl (List.mem_of_getElem? (i := 0) rfl))
  obtain ⟨T6, X6, e6, st6⟩ := getS2 X4 hx hZ hown (host := "") (Or.inl (tw hw 104 rfl)) Via.refl e4 (sL.ext O5.2) (g := (mkF m 47 #[Rf a1, .val (.int (((1 : Int32) <<< ((1 : Int32) &&& 31)) + (1 : Int32))), It x1] [(.int x1), (.int (((1 : Int32) <<< ((1 : Int32) &&& 31)) + (1 : Int32))), (.ref a1)])) rfl (hb hby d22_47)
  obtain ⟨cl7, Ar7, q7, Sz7, Nn7, Hh7, Gg7⟩ := id V4
  have hin7 : ¬ ((((1 : Int32) <<< ((1 : Int32) &&& 31)) + (1 : Int32)) < 0 ∨ cl7.slots.size ≤ ((((1 : Int32) <<< ((1 : Int32) &&& 31)) + (1 : Int32))).toNatClampNeg) := inb_of Sz7 ⟨by decide, own_ltz h_z (by decide)⟩
  obtain ⟨T8, h8, X8, e8, W8, st8⟩ := stB X6 hx hZ e6 Ar7 (j := (((1 : Int32) <<< ((1 : Int32) &&& 31)) + (1 : Int32))) hin7 (g := (mkF m 52 #[Rf a1, .val (.int (((1 : Int32) <<< ((1 : Int32) &&& 31)) + (1 : Int32))), It x1] [(.int ((x1 >>> ((8 : Int32) &&& 31)).toInt8.toInt32)), (.int (((1 : Int32) <<< ((1 : Int32) &&& 31)) + (1 : Int32))), (.ref a1)])) rfl rfl (hb hby d22_52)
  have V8 : Arv Z h8 a1 ka .byte zz ((vs.set 2 (.int (((x1 >>> ((0 : Int32) &&& 31)).toInt8.toInt32).toInt8.toInt32))).set 3 (.int (((x1 >>> ((8 : Int32) &&& 31)).toInt8.toInt32).toInt8.toInt32))) (.int (0 : Int32)) := Arv.set Ar7 q7 Sz7 Nn7 Hh7 Gg7 (fits_nar_byte _) W8 3 (by decide) (own_sl1 h_n (by decide))
  have N8 := Fr.snoc X8 N4 ge_a1
  have O9 := O5.wr W8 ge_a1
  have K8 := K4.wr W8 (Or.inl (List.mem_of_getElem? (i := 0) rfl))
  have sg10 : SG p.tables e below (T8.setTop (mkF m 53 #[Rf a1, .val (.int (((1 : Int32) <<< ((1 : Int32) &&& 31)) + (1 : Int32))), It x1] [])) (s₁.setTop (mkF m 0 #[Rf a1, It (1 : Int32), It x1] [])) := by
    intro target kt
    show Steps _ _ _ (s₁.setTop (mkF m 0 #[Rf a1, It (1 : Int32), It x1] [])) _
    refine st1 _ ?_
    refine XS.ifYes X1.here hx rfl (pc0 := 3) (pc' := 28) rfl (hb hby d22_3) rfl ((if0 _ _).trans (feq (by decide : ¬ ((1 : Int32) = (0 : Int32)))).2) (by decide) (by decide) ?_
    refine XS.iloadN X1.here hx rfl (hb hby d22_28) rfl ?_
    refine XS.iconst X1.here hx rfl (hb hby d22_29) ?_
    refine XS.ishl X1.here hx rfl (hb hby d22_30) rfl ?_
    refine XS.istoreN X1.here hx rfl (hb hby d22_31) rfl (l' := #[Rf a1, .val (.int ((1 : Int32) <<< ((1 : Int32) &&& 31))), It x1]) rfl ?_
    refine XS.aloadN X1.here hx rfl (hb hby d22_32) rfl rfl ?_
    refine XS.iloadN X1.here hx rfl (hb hby d22_33) rfl ?_
    refine XS.iinc X1.here hx rfl (hb hby d22_34) rfl (l' := #[Rf a1, .val (.int (((1 : Int32) <<< ((1 : Int32) &&& 31)) + (1 : Int32))), It x1]) rfl ?_
    refine XS.iloadN X1.here hx rfl (hb hby d22_37) rfl ?_
    refine st2 _ ?_
    refine XS.ishr X2.here hx rfl (hb hby d22_41) rfl ?_
    refine XS.i2b X2.here hx rfl (hb hby d22_42) rfl ?_
    refine st4 _ ?_
    refine XS.aloadN X4.here hx rfl (hb hby d22_44) rfl rfl ?_
    refine XS.iloadN X4.here hx rfl (hb hby d22_45) rfl ?_
    refine XS.iloadN X4.here hx rfl (hb hby d22_46) rfl ?_
    refine st6 _ ?_
    refine XS.ishr X6.here hx rfl (hb hby d22_50) rfl ?_
    refine XS.i2b X6.here hx rfl (hb hby d22_51) rfl ?_
    refine st8 _ ?_
    exact kt
  obtain ⟨fs, hr, hrun, hended, hW, hsame⟩ := X8.leave (v := none) (fun _ => rfl)
  refine ⟨_, _, pre0 _ (sg10 _ (?_)), hrun, hended, _, _, rfl, ?_, ⟨_, rfl⟩, hW, hsame.mono (by decide) (by decide)⟩
  · show Steps _ _ _ (T8.setTop (mkF m 53 #[Rf a1, .val (.int (((1 : Int32) <<< ((1 : Int32) &&& 31)) + (1 : Int32))), It x1] [])) _
    exact X8.returnOut hx Bd.returns (hb hby d22_53) hr
  · show Q22_1 Z a1 x1 zz vs ka h0 n0 _ T8.heap _
    rw [e8]
    exact ⟨rfl, N8, K8, O9, V8⟩
def Q23_1 (Z : State) (a1 : Addr) (x1 : Int32) (zz : Int32) (vs : List Value) (ka : ClassId) (h0 : Heap) (n0 : Nat) (v : Option Value) (h : Heap) (L : List Loc) : Prop := v = some (.int x1) ∧ Fr n0 L ∧ h = h0
theorem rm23_1 (l : Launch) (Z : State) (a0 : Array Value) (hw : ∀ d ∈ tables_1, d.before a0 Z = true) (ws : List Jvm.Cond) (a1 : Addr) (x1 : Int32) (zz : Int32) (vs : List Value) (ka : ClassId) (h0 : Heap) (n0 : Nat) (O0 : Old Z n0 h0) (sA : TS_0 Z) (sH : TS_1 Z) (sL : TS_2 Z) (h_z : (3 : Int32) < zz) (g0 : vs.getD 2 (.int (0 : Int32)) = .int (lbt x1)) (g1 : vs.getD 3 (.int (0 : Int32)) = .int (hbt x1)) (h_x : CR x1) (A_a1 : Arv Z h0 a1 ka .byte zz vs (.int (0 : Int32))) :
    MetFree l m_9 (head1 (Jvm.Cond.code m_9 jdk_52_method_5_code 2 (some .char) :: ws) (rk 0 0 0 0)) (fun a U => a = #[(.ref a1), (.int (1 : Int32))] ∧ Z.Warmed39 U.vm ∧ U.heap = h0) (fun _ _ _ _ _ => True) (fun _ U o U' => ∃ v L, o = .returned v ∧ Q23_1 Z a1 x1 zz vs ka h0 n0 v U'.heap L ∧ FrameEnd U o U' L (rk 0 0 0 0).cells (rk 0 0 0 0).slots) := by
  refine MetFree.of_bodySF (plainFor_of_name pn_2) hisR ?_
  intro p e s m args below meth c s₁ Bd hml0 hP hK
  obtain ⟨rfl, hZ, hh⟩ := hP
  have hx := Bd.exec
  have hby := Bd.bytes
  have hml : c.maxLocals = 2 := hml0
  have hown : s.vm.findClass "java/lang/StringUTF16" = some m.cls := findClass_of_methodNamed Bd.named
  have X0 : Stand p l e (rk 0 0 0 0) s m #[(.ref a1), (.int (1 : Int32))] below meth c s₁ [] 0 0 := Stand.of_body Bd
  have e0 : s₁.heap = h0 := by rw [← hh, Bd.state]; rfl
  have N0 := Fr.nil n0
  have pre0 := own_pre (tb := p.tables) (e := e) (bl := below) (s := s₁) (ef_23_0 m a1 (1 : Int32))
  obtain ⟨T1, X1, e1, st1⟩ := getS2 X0 hx hZ hown (host := "") (Or.inl (tw hw 102 rfl)) Via.refl e0 (sA.ext O0.2) (g := (mkF m 0 #[Rf a1, It (1 : Int32)] [])) rfl (hb hby d23_0)
  obtain ⟨cl2, Ar2, -, Sz2, Nn2, Hh2, -⟩ := id A_a1
  have hin2 : ¬ (((1 : Int32) <<< ((1 : Int32) &&& 31)) < 0 ∨ cl2.slots.size ≤ (((1 : Int32) <<< ((1 : Int32) &&& 31))).toNatClampNeg) := inb_of Sz2 ⟨by decide, own_ltz h_z (by decide)⟩
  have hat2 : cl2.slots[(((1 : Int32) <<< ((1 : Int32) &&& 31))).toNatClampNeg]? = some (.int (lbt x1)) := Has.at Hh2 hin2 g0
  obtain ⟨T3, X3, e3, st3⟩ := getS2 X1 hx hZ hown (host := "") (Or.inl (tw hw 103 rfl)) Via.refl e1 (sH.ext O0.2) (g := (mkF m 42 #[Rf a1, .val (.int (((1 : Int32) <<< ((1 : Int32) &&& 31)) + (1 : Int32)))] [(.int ((lbt x1) &&& (255 : Int32)))])) rfl (hb hby d23_42)
  obtain ⟨cl4, Ar4, -, Sz4, Nn4, Hh4, -⟩ := id A_a1
  have hin4 : ¬ ((((1 : Int32) <<< ((1 : Int32) &&& 31)) + (1 : Int32)) < 0 ∨ cl4.slots.size ≤ ((((1 : Int32) <<< ((1 : Int32) &&& 31)) + (1 : Int32))).toNatClampNeg) := inb_of Sz4 ⟨by decide, own_ltz h_z (by decide)⟩
  have hat4 : cl4.slots[((((1 : Int32) <<< ((1 : Int32) &&& 31)) + (1 : Int32))).toNatClampNeg]? = some (.int (hbt x1)) := Has.at Hh4 hin4 g1
  obtain ⟨T5, X5, e5, st5⟩ := getS2 X3 hx hZ hown (host := "") (Or.inl (tw hw 104 rfl)) Via.refl e3 (sL.ext O0.2) (g := (mkF m 53 #[Rf a1, .val (.int (((1 : Int32) <<< ((1 : Int32) &&& 31)) + (1 : Int32)))] [(.int ((hbt x1) &&& (255 : Int32))), (.int (((lbt x1) &&& (255 : Int32)) <<< ((0 : Int32) &&& 31)))])) rfl (hb hby d23_53)
  obtain ⟨u6, hu6⟩ : ∃ z, z = (((((lbt x1) &&& (255 : Int32)) <<< ((0 : Int32) &&& 31)) ||| (((hbt x1) &&& (255 : Int32)) <<< ((8 : Int32) &&& 31))).toUInt32.toUInt16.toUInt32.toInt32) := ⟨_, rfl⟩
  have sg7 : SG p.tables e below (T5.setTop (mkF m 59 #[Rf a1, .val (.int (((1 : Int32) <<< ((1 : Int32) &&& 31)) + (1 : Int32)))] [(.int u6)])) (s₁.setTop (mkF m 0 #[Rf a1, It (1 : Int32)] [])) := by
    intro target kt
    subst hu6
    show Steps _ _ _ (s₁.setTop (mkF m 0 #[Rf a1, It (1 : Int32)] [])) _
    refine st1 _ ?_
    refine XS.ifYes X1.here hx rfl (pc0 := 3) (pc' := 28) rfl (hb hby d23_3) rfl ((if0 _ _).trans (feq (by decide : ¬ ((1 : Int32) = (0 : Int32)))).2) (by decide) (by decide) ?_
    refine XS.iloadN X1.here hx rfl (hb hby d23_28) rfl ?_
    refine XS.iconst X1.here hx rfl (hb hby d23_29) ?_
    refine XS.ishl X1.here hx rfl (hb hby d23_30) rfl ?_
    refine XS.istoreN X1.here hx rfl (hb hby d23_31) rfl (l' := #[Rf a1, .val (.int ((1 : Int32) <<< ((1 : Int32) &&& 31)))]) rfl ?_
    refine XS.aloadN X1.here hx rfl (hb hby d23_32) rfl rfl ?_
    refine XS.iloadN X1.here hx rfl (hb hby d23_33) rfl ?_
    refine XS.iinc X1.here hx rfl (hb hby d23_34) rfl (l' := #[Rf a1, .val (.int (((1 : Int32) <<< ((1 : Int32) &&& 31)) + (1 : Int32)))]) rfl ?_
    refine X1.baloadBytes hx (j := ((1 : Int32) <<< ((1 : Int32) &&& 31))) (v := (.int (lbt x1))) (own_rwh e1 Ar2.1) (State.isArrayOf_alike hZ.alike Ar2.2.1) Ar2.2.2 hin2 hat2 (g := (mkF m 37 #[Rf a1, .val (.int (((1 : Int32) <<< ((1 : Int32) &&& 31)) + (1 : Int32)))] [(.int ((1 : Int32) <<< ((1 : Int32) &&& 31))), (.ref a1)])) rfl rfl (hb hby d23_37) _ ?_
    refine XS.sipush X1.here hx rfl (hb hby d23_38) ?_
    refine XS.iand X1.here hx rfl (hb hby d23_41) rfl ?_
    refine st3 _ ?_
    refine XS.ishl X3.here hx rfl (hb hby d23_45) rfl ?_
    refine XS.aloadN X3.here hx rfl (hb hby d23_46) rfl rfl ?_
    refine XS.iloadN X3.here hx rfl (hb hby d23_47) rfl ?_
    refine X3.baloadBytes hx (j := (((1 : Int32) <<< ((1 : Int32) &&& 31)) + (1 : Int32))) (v := (.int (hbt x1))) (own_rwh e3 Ar4.1) (State.isArrayOf_alike hZ.alike Ar4.2.1) Ar4.2.2 hin4 hat4 (g := (mkF m 48 #[Rf a1, .val (.int (((1 : Int32) <<< ((1 : Int32) &&& 31)) + (1 : Int32)))] [(.int (((1 : Int32) <<< ((1 : Int32) &&& 31)) + (1 : Int32))), (.ref a1), (.int (((lbt x1) &&& (255 : Int32)) <<< ((0 : Int32) &&& 31)))])) rfl rfl (hb hby d23_48) _ ?_
    refine XS.sipush X3.here hx rfl (hb hby d23_49) ?_
    refine XS.iand X3.here hx rfl (hb hby d23_52) rfl ?_
    refine st5 _ ?_
    refine XS.ishl X5.here hx rfl (hb hby d23_56) rfl ?_
    refine XS.ior X5.here hx rfl (hb hby d23_57) rfl ?_
    refine XS.i2c X5.here hx rfl (hb hby d23_58) rfl ?_
    exact kt
  have hg : u6 = x1 := own_getput h_x hu6
  have hnar : nar .char u6 = u6 := (by rw [hg]; exact own_ncr h_x)
  obtain ⟨fs, hr, hrun, hended, hW, hsame⟩ := X5.leave (v := some (.int u6)) (fun h => by rw [Bd.returns] at h; cases h)
  rw [← hnar] at hr
  refine ⟨_, _, pre0 _ (sg7 _ (?_)), hrun, hended, _, _, rfl, ?_, ⟨_, rfl⟩, hW, hsame.mono (by decide) (by decide)⟩
  · show Steps _ _ _ (T5.setTop (mkF m 59 #[Rf a1, .val (.int (((1 : Int32) <<< ((1 : Int32) &&& 31)) + (1 : Int32)))] [(.int u6)])) _
    exact retN X5 hx (t := .char) Bd.returns (by simp) (hb hby d23_59) hr
  · show Q23_1 Z a1 x1 zz vs ka h0 n0 _ T5.heap _
    rw [e5]
    exact ⟨(by rw [hg]), N0, rfl⟩
def Q22_2 (Z : State) (a1 : Addr) (x1 : Int32) (zz : Int32) (vs : List Value) (ka : ClassId) (h0 : Heap) (n0 : Nat) (v : Option Value) (h : Heap) (L : List Loc) : Prop := v = none ∧ Fr n0 L ∧ Keep h0 h [a1] ∧ Old Z n0 h ∧ Arv Z h a1 ka .byte zz ((vs.set 4 (.int (lbt x1))).set 5 (.int (hbt x1))) (.int (0 : Int32))
theorem rm22_2 (l : Launch) (Z : State) (a0 : Array Value) (hw : ∀ d ∈ tables_1, d.before a0 Z = true) (ws : List Jvm.Cond) (a1 : Addr) (x1 : Int32) (zz : Int32) (vs : List Value) (ka : ClassId) (h0 : Heap) (n0 : Nat) (O0 : Old Z n0 h0) (sA : TS_0 Z) (sH : TS_1 Z) (sL : TS_2 Z) (h_z : (5 : Int32) < zz) (h_n : 5 < vs.length) (A_a1 : Arv Z h0 a1 ka .byte zz vs (.int (0 : Int32))) (ge_a1 : n0 ≤ a1) :
    MetFree l m_8 (head1 (Jvm.Cond.code m_8 jdk_52_method_4_code 3 none :: ws) (rk 0 0 0 0)) (fun a U => a = #[(.ref a1), (.int (2 : Int32)), (.int x1)] ∧ Z.Warmed39 U.vm ∧ U.heap = h0) (fun _ _ _ _ _ => True) (fun _ U o U' => ∃ v L, o = .returned v ∧ Q22_2 Z a1 x1 zz vs ka h0 n0 v U'.heap L ∧ FrameEnd U o U' L (rk 0 0 0 0).cells (rk 0 0 0 0).slots) := by
  refine MetFree.of_bodySF (plainFor_of_name pn_2) hisR ?_
  intro p e s m args below meth c s₁ Bd hml0 hP hK
  obtain ⟨rfl, hZ, hh⟩ := hP
  have hx := Bd.exec
  have hby := Bd.bytes
  have hml : c.maxLocals = 3 := hml0
  have hown : s.vm.findClass "java/lang/StringUTF16" = some m.cls := findClass_of_methodNamed Bd.named
  have X0 : Stand p l e (rk 0 0 0 0) s m #[(.ref a1), (.int (2 : Int32)), (.int x1)] below meth c s₁ [] 0 0 := Stand.of_body Bd
  have e0 : s₁.heap = h0 := by rw [← hh, Bd.state]; rfl
  have N0 := Fr.nil n0
  have pre0 := own_pre (tb := p.tables) (e := e) (bl := below) (s := s₁) (ef_22_0 m a1 (2 : Int32) x1)
  have K0 := Keep.refl h0 [a1]
  obtain ⟨T1, X1, e1, st1⟩ := getS2 X0 hx hZ hown (host := "") (Or.inl (tw hw 102 rfl)) Via.refl e0 (sA.ext O0.2) (g := (mkF m 0 #[Rf a1, It (2 : Int32), It x1] [])) rfl (hb hby d22_0)
  obtain ⟨T2, X2, e2, st2⟩ := getS2 X1 hx hZ hown (host := "") (Or.inl (tw hw 103 rfl)) Via.refl e1 (sH.ext O0.2) (g := (mkF m 38 #[Rf a1, .val (.int (((2 : Int32) <<< ((1 : Int32) &&& 31)) + (1 : Int32))), It x1] [(.int x1), (.int ((2 : Int32) <<< ((1 : Int32) &&& 31))), (.ref a1)])) rfl (hb hby d22_38)
  obtain ⟨cl3, Ar3, q3, Sz3, Nn3, Hh3, Gg3⟩ := id A_a1
  have hin3 : ¬ (((2 : Int32) <<< ((1 : Int32) &&& 31)) < 0 ∨ cl3.slots.size ≤ (((2 : Int32) <<< ((1 : Int32) &&& 31))).toNatClampNeg) := inb_of Sz3 ⟨by decide, own_ltz h_z (by decide)⟩
  obtain ⟨T4, h4, X4, e4, W4, st4⟩ := stB X2 hx hZ e2 Ar3 (j := ((2 : Int32) <<< ((1 : Int32) &&& 31))) hin3 (g := (mkF m 43 #[Rf a1, .val (.int (((2 : Int32) <<< ((1 : Int32) &&& 31)) + (1 : Int32))), It x1] [(.int ((x1 >>> ((0 : Int32) &&& 31)).toInt8.toInt32)), (.int ((2 : Int32) <<< ((1 : Int32) &&& 31))), (.ref a1)])) rfl rfl (hb hby d22_43)
  have V4 : Arv Z h4 a1 ka .byte zz (vs.set 4 (.int (((x1 >>> ((0 : Int32) &&& 31)).toInt8.toInt32).toInt8.toInt32))) (.int (0 : Int32)) := Arv.set Ar3 q3 Sz3 Nn3 Hh3 Gg3 (fits_nar_byte _) W4 4 (by decide) (own_sl h_n (by decide))
  have N4 := Fr.snoc X4 N0 ge_a1
  have O5 := O0.wr W4 ge_a1
  have K4 := K0.wr W4 (Or.inl (List.mem_of_getElem? (i := 0) rfl))
  obtain ⟨T6, X6, e6, st6⟩ := getS2 X4 hx hZ hown (host := "") (Or.inl (tw hw 104 rfl)) Via.refl e4 (sL.ext O5.2) (g := (mkF m 47 #[Rf a1, .val (.int (((2 : Int32) <<< ((1 : Int32) &&& 31)) + (1 : Int32))), It x1] [(.int x1), (.int (((2 : Int32) <<< ((1 : Int32) &&& 31)) + (1 : Int32))), (.ref a1)])) rfl (hb hby d22_47)
  obtain ⟨cl7, Ar7, q7, Sz7, Nn7, Hh7, Gg7⟩ := id V4
  have hin7 : ¬ ((((2 : Int32) <<< ((1 : Int32) &&& 31)) + (1 : Int32)) < 0 ∨ cl7.slots.size ≤ ((((2 : Int32) <<< ((1 : Int32) &&& 31)) + (1 : Int32))).toNatClampNeg) := inb_of Sz7 ⟨by decide, own_ltz h_z (by decide)⟩
  obtain ⟨T8, h8, X8, e8, W8, st8⟩ := stB X6 hx hZ e6 Ar7 (j := (((2 : Int32) <<< ((1 : Int32) &&& 31)) + (1 : Int32))) hin7 (g := (mkF m 52 #[Rf a1, .val (.int (((2 : Int32) <<< ((1 : Int32) &&& 31)) + (1 : Int32))), It x1] [(.int ((x1 >>> ((8 : Int32) &&& 31)).toInt8.toInt32)), (.int (((2 : Int32) <<< ((1 : Int32) &&& 31)) + (1 : Int32))), (.ref a1)])) rfl rfl (hb hby d22_52)
  have V8 : Arv Z h8 a1 ka .byte zz ((vs.set 4 (.int (((x1 >>> ((0 : Int32) &&& 31)).toInt8.toInt32).toInt8.toInt32))).set 5 (.int (((x1 >>> ((8 : Int32) &&& 31)).toInt8.toInt32).toInt8.toInt32))) (.int (0 : Int32)) := Arv.set Ar7 q7 Sz7 Nn7 Hh7 Gg7 (fits_nar_byte _) W8 5 (by decide) (own_sl1 h_n (by decide))
  have N8 := Fr.snoc X8 N4 ge_a1
  have O9 := O5.wr W8 ge_a1
  have K8 := K4.wr W8 (Or.inl (List.mem_of_getElem? (i := 0) rfl))
  have sg10 : SG p.tables e below (T8.setTop (mkF m 53 #[Rf a1, .val (.int (((2 : Int32) <<< ((1 : Int32) &&& 31)) + (1 : Int32))), It x1] [])) (s₁.setTop (mkF m 0 #[Rf a1, It (2 : Int32), It x1] [])) := by
    intro target kt
    show Steps _ _ _ (s₁.setTop (mkF m 0 #[Rf a1, It (2 : Int32), It x1] [])) _
    refine st1 _ ?_
    refine XS.ifYes X1.here hx rfl (pc0 := 3) (pc' := 28) rfl (hb hby d22_3) rfl ((if0 _ _).trans (feq (by decide : ¬ ((1 : Int32) = (0 : Int32)))).2) (by decide) (by decide) ?_
    refine XS.iloadN X1.here hx rfl (hb hby d22_28) rfl ?_
    refine XS.iconst X1.here hx rfl (hb hby d22_29) ?_
    refine XS.ishl X1.here hx rfl (hb hby d22_30) rfl ?_
    refine XS.istoreN X1.here hx rfl (hb hby d22_31) rfl (l' := #[Rf a1, .val (.int ((2 : Int32) <<< ((1 : Int32) &&& 31))), It x1]) rfl ?_
    refine XS.aloadN X1.here hx rfl (hb hby d22_32) rfl rfl ?_
    refine XS.iloadN X1.here hx rfl (hb hby d22_33) rfl ?_
    refine XS.iinc X1.here hx rfl (hb hby d22_34) rfl (l' := #[Rf a1, .val (.int (((2 : Int32) <<< ((1 : Int32) &&& 31)) + (1 : Int32))), It x1]) rfl ?_
    refine XS.iloadN X1.here hx rfl (hb hby d22_37) rfl ?_
    refine st2 _ ?_
    refine XS.ishr X2.here hx rfl (hb hby d22_41) rfl ?_
    refine XS.i2b X2.here hx rfl (hb hby d22_42) rfl ?_
    refine st4 _ ?_
    refine XS.aloadN X4.here hx rfl (hb hby d22_44) rfl rfl ?_
    refine XS.iloadN X4.here hx rfl (hb hby d22_45) rfl ?_
    refine XS.iloadN X4.here hx rfl (hb hby d22_46) rfl ?_
    refine st6 _ ?_
    refine XS.ishr X6.here hx rfl (hb hby d22_50) rfl ?_
    refine XS.i2b X6.here hx rfl (hb hby d22_51) rfl ?_
    refine st8 _ ?_
    exact kt
  obtain ⟨fs, hr, hrun, hended, hW, hsame⟩ := X8.leave (v := none) (fun _ => rfl)
  refine ⟨_, _, pre0 _ (sg10 _ (?_)), hrun, hended, _, _, rfl, ?_, ⟨_, rfl⟩, hW, hsame.mono (by decide) (by decide)⟩
  · show Steps _ _ _ (T8.setTop (mkF m 53 #[Rf a1, .val (.int (((2 : Int32) <<< ((1 : Int32) &&& 31)) + (1 : Int32))), It x1] [])) _
    exact X8.returnOut hx Bd.returns (hb hby d22_53) hr
  · show Q22_2 Z a1 x1 zz vs ka h0 n0 _ T8.heap _
    rw [e8]
    exact ⟨rfl, N8, K8, O9, V8⟩
def Q23_2 (Z : State) (a1 : Addr) (x1 : Int32) (zz : Int32) (vs : List Value) (ka : ClassId) (h0 : Heap) (n0 : Nat) (v : Option Value) (h : Heap) (L : List Loc) : Prop := v = some (.int x1) ∧ Fr n0 L ∧ h = h0
theorem rm23_2 (l : Launch) (Z : State) (a0 : Array Value) (hw : ∀ d ∈ tables_1, d.before a0 Z = true) (ws : List Jvm.Cond) (a1 : Addr) (x1 : Int32) (zz : Int32) (vs : List Value) (ka : ClassId) (h0 : Heap) (n0 : Nat) (O0 : Old Z n0 h0) (sA : TS_0 Z) (sH : TS_1 Z) (sL : TS_2 Z) (h_z : (5 : Int32) < zz) (g0 : vs.getD 4 (.int (0 : Int32)) = .int (lbt x1)) (g1 : vs.getD 5 (.int (0 : Int32)) = .int (hbt x1)) (h_x : CR x1) (A_a1 : Arv Z h0 a1 ka .byte zz vs (.int (0 : Int32))) :
    MetFree l m_9 (head1 (Jvm.Cond.code m_9 jdk_52_method_5_code 2 (some .char) :: ws) (rk 0 0 0 0)) (fun a U => a = #[(.ref a1), (.int (2 : Int32))] ∧ Z.Warmed39 U.vm ∧ U.heap = h0) (fun _ _ _ _ _ => True) (fun _ U o U' => ∃ v L, o = .returned v ∧ Q23_2 Z a1 x1 zz vs ka h0 n0 v U'.heap L ∧ FrameEnd U o U' L (rk 0 0 0 0).cells (rk 0 0 0 0).slots) := by
  refine MetFree.of_bodySF (plainFor_of_name pn_2) hisR ?_
  intro p e s m args below meth c s₁ Bd hml0 hP hK
  obtain ⟨rfl, hZ, hh⟩ := hP
  have hx := Bd.exec
  have hby := Bd.bytes
  have hml : c.maxLocals = 2 := hml0
  have hown : s.vm.findClass "java/lang/StringUTF16" = some m.cls := findClass_of_methodNamed Bd.named
  have X0 : Stand p l e (rk 0 0 0 0) s m #[(.ref a1), (.int (2 : Int32))] below meth c s₁ [] 0 0 := Stand.of_body Bd
  have e0 : s₁.heap = h0 := by rw [← hh, Bd.state]; rfl
  have N0 := Fr.nil n0
  have pre0 := own_pre (tb := p.tables) (e := e) (bl := below) (s := s₁) (ef_23_0 m a1 (2 : Int32))
  obtain ⟨T1, X1, e1, st1⟩ := getS2 X0 hx hZ hown (host := "") (Or.inl (tw hw 102 rfl)) Via.refl e0 (sA.ext O0.2) (g := (mkF m 0 #[Rf a1, It (2 : Int32)] [])) rfl (hb hby d23_0)
  obtain ⟨cl2, Ar2, -, Sz2, Nn2, Hh2, -⟩ := id A_a1
  have hin2 : ¬ (((2 : Int32) <<< ((1 : Int32) &&& 31)) < 0 ∨ cl2.slots.size ≤ (((2 : Int32) <<< ((1 : Int32) &&& 31))).toNatClampNeg) := inb_of Sz2 ⟨by decide, own_ltz h_z (by decide)⟩
  have hat2 : cl2.slots[(((2 : Int32) <<< ((1 : Int32) &&& 31))).toNatClampNeg]? = some (.int (lbt x1)) := Has.at Hh2 hin2 g0
  obtain ⟨T3, X3, e3, st3⟩ := getS2 X1 hx hZ hown (host := "") (Or.inl (tw hw 103 rfl)) Via.refl e1 (sH.ext O0.2) (g := (mkF m 42 #[Rf a1, .val (.int (((2 : Int32) <<< ((1 : Int32) &&& 31)) + (1 : Int32)))] [(.int ((lbt x1) &&& (255 : Int32)))])) rfl (hb hby d23_42)
  obtain ⟨cl4, Ar4, -, Sz4, Nn4, Hh4, -⟩ := id A_a1
  have hin4 : ¬ ((((2 : Int32) <<< ((1 : Int32) &&& 31)) + (1 : Int32)) < 0 ∨ cl4.slots.size ≤ ((((2 : Int32) <<< ((1 : Int32) &&& 31)) + (1 : Int32))).toNatClampNeg) := inb_of Sz4 ⟨by decide, own_ltz h_z (by decide)⟩
  have hat4 : cl4.slots[((((2 : Int32) <<< ((1 : Int32) &&& 31)) + (1 : Int32))).toNatClampNeg]? = some (.int (hbt x1)) := Has.at Hh4 hin4 g1
  obtain ⟨T5, X5, e5, st5⟩ := getS2 X3 hx hZ hown (host := "") (Or.inl (tw hw 104 rfl)) Via.refl e3 (sL.ext O0.2) (g := (mkF m 53 #[Rf a1, .val (.int (((2 : Int32) <<< ((1 : Int32) &&& 31)) + (1 : Int32)))] [(.int ((hbt x1) &&& (255 : Int32))), (.int (((lbt x1) &&& (255 : Int32)) <<< ((0 : Int32) &&& 31)))])) rfl (hb hby d23_53)
  obtain ⟨u6, hu6⟩ : ∃ z, z = (((((lbt x1) &&& (255 : Int32)) <<< ((0 : Int32) &&& 31)) ||| (((hbt x1) &&& (255 : Int32)) <<< ((8 : Int32) &&& 31))).toUInt32.toUInt16.toUInt32.toInt32) := ⟨_, rfl⟩
  have sg7 : SG p.tables e below (T5.setTop (mkF m 59 #[Rf a1, .val (.int (((2 : Int32) <<< ((1 : Int32) &&& 31)) + (1 : Int32)))] [(.int u6)])) (s₁.setTop (mkF m 0 #[Rf a1, It (2 : Int32)] [])) := by
    intro target kt
    subst hu6
    show Steps _ _ _ (s₁.setTop (mkF m 0 #[Rf a1, It (2 : Int32)] [])) _
    refine st1 _ ?_
    refine XS.ifYes X1.here hx rfl (pc0 := 3) (pc' := 28) rfl (hb hby d23_3) rfl ((if0 _ _).trans (feq (by decide : ¬ ((1 : Int32) = (0 : Int32)))).2) (by decide) (by decide) ?_
    refine XS.iloadN X1.here hx rfl (hb hby d23_28) rfl ?_
    refine XS.iconst X1.here hx rfl (hb hby d23_29) ?_
    refine XS.ishl X1.here hx rfl (hb hby d23_30) rfl ?_
    refine XS.istoreN X1.here hx rfl (hb hby d23_31) rfl (l' := #[Rf a1, .val (.int ((2 : Int32) <<< ((1 : Int32) &&& 31)))]) rfl ?_
    refine XS.aloadN X1.here hx rfl (hb hby d23_32) rfl rfl ?_
    refine XS.iloadN X1.here hx rfl (hb hby d23_33) rfl ?_
    refine XS.iinc X1.here hx rfl (hb hby d23_34) rfl (l' := #[Rf a1, .val (.int (((2 : Int32) <<< ((1 : Int32) &&& 31)) + (1 : Int32)))]) rfl ?_
    refine X1.baloadBytes hx (j := ((2 : Int32) <<< ((1 : Int32) &&& 31))) (v := (.int (lbt x1))) (own_rwh e1 Ar2.1) (State.isArrayOf_alike hZ.alike Ar2.2.1) Ar2.2.2 hin2 hat2 (g := (mkF m 37 #[Rf a1, .val (.int (((2 : Int32) <<< ((1 : Int32) &&& 31)) + (1 : Int32)))] [(.int ((2 : Int32) <<< ((1 : Int32) &&& 31))), (.ref a1)])) rfl rfl (hb hby d23_37) _ ?_
    refine XS.sipush X1.here hx rfl (hb hby d23_38) ?_
    refine XS.iand X1.here hx rfl (hb hby d23_41) rfl ?_
    refine st3 _ ?_
    refine XS.ishl X3.here hx rfl (hb hby d23_45) rfl ?_
    refine XS.aloadN X3.here hx rfl (hb hby d23_46) rfl rfl ?_
    refine XS.iloadN X3.here hx rfl (hb hby d23_47) rfl ?_
    refine X3.baloadBytes hx (j := (((2 : Int32) <<< ((1 : Int32) &&& 31)) + (1 : Int32))) (v := (.int (hbt x1))) (own_rwh e3 Ar4.1) (State.isArrayOf_alike hZ.alike Ar4.2.1) Ar4.2.2 hin4 hat4 (g := (mkF m 48 #[Rf a1, .val (.int (((2 : Int32) <<< ((1 : Int32) &&& 31)) + (1 : Int32)))] [(.int (((2 : Int32) <<< ((1 : Int32) &&& 31)) + (1 : Int32))), (.ref a1), (.int (((lbt x1) &&& (255 : Int32)) <<< ((0 : Int32) &&& 31)))])) rfl rfl (hb hby d23_48) _ ?_
    refine XS.sipush X3.here hx rfl (hb hby d23_49) ?_
    refine XS.iand X3.here hx rfl (hb hby d23_52) rfl ?_
    refine st5 _ ?_
    refine XS.ishl X5.here hx rfl (hb hby d23_56) rfl ?_
    refine XS.ior X5.here hx rfl (hb hby d23_57) rfl ?_
    refine XS.i2c X5.here hx rfl (hb hby d23_58) rfl ?_
    exact kt
  have hg : u6 = x1 := own_getput h_x hu6
  have hnar : nar .char u6 = u6 := (by rw [hg]; exact own_ncr h_x)
  obtain ⟨fs, hr, hrun, hended, hW, hsame⟩ := X5.leave (v := some (.int u6)) (fun h => by rw [Bd.returns] at h; cases h)
  rw [← hnar] at hr
  refine ⟨_, _, pre0 _ (sg7 _ (?_)), hrun, hended, _, _, rfl, ?_, ⟨_, rfl⟩, hW, hsame.mono (by decide) (by decide)⟩
  · show Steps _ _ _ (T5.setTop (mkF m 59 #[Rf a1, .val (.int (((2 : Int32) <<< ((1 : Int32) &&& 31)) + (1 : Int32)))] [(.int u6)])) _
    exact retN X5 hx (t := .char) Bd.returns (by simp) (hb hby d23_59) hr
  · show Q23_2 Z a1 x1 zz vs ka h0 n0 _ T5.heap _
    rw [e5]
    exact ⟨(by rw [hg]), N0, rfl⟩
def Q22_3 (Z : State) (a1 : Addr) (x1 : Int32) (zz : Int32) (vs : List Value) (ka : ClassId) (h0 : Heap) (n0 : Nat) (v : Option Value) (h : Heap) (L : List Loc) : Prop := v = none ∧ Fr n0 L ∧ Keep h0 h [a1] ∧ Old Z n0 h ∧ Arv Z h a1 ka .byte zz ((vs.set 6 (.int (lbt x1))).set 7 (.int (hbt x1))) (.int (0 : Int32))
theorem rm22_3 (l : Launch) (Z : State) (a0 : Array Value) (hw : ∀ d ∈ tables_1, d.before a0 Z = true) (ws : List Jvm.Cond) (a1 : Addr) (x1 : Int32) (zz : Int32) (vs : List Value) (ka : ClassId) (h0 : Heap) (n0 : Nat) (O0 : Old Z n0 h0) (sA : TS_0 Z) (sH : TS_1 Z) (sL : TS_2 Z) (h_z : (7 : Int32) < zz) (h_n : 7 < vs.length) (A_a1 : Arv Z h0 a1 ka .byte zz vs (.int (0 : Int32))) (ge_a1 : n0 ≤ a1) :
    MetFree l m_8 (head1 (Jvm.Cond.code m_8 jdk_52_method_4_code 3 none :: ws) (rk 0 0 0 0)) (fun a U => a = #[(.ref a1), (.int (3 : Int32)), (.int x1)] ∧ Z.Warmed39 U.vm ∧ U.heap = h0) (fun _ _ _ _ _ => True) (fun _ U o U' => ∃ v L, o = .returned v ∧ Q22_3 Z a1 x1 zz vs ka h0 n0 v U'.heap L ∧ FrameEnd U o U' L (rk 0 0 0 0).cells (rk 0 0 0 0).slots) := by
  refine MetFree.of_bodySF (plainFor_of_name pn_2) hisR ?_
  intro p e s m args below meth c s₁ Bd hml0 hP hK
  obtain ⟨rfl, hZ, hh⟩ := hP
  have hx := Bd.exec
  have hby := Bd.bytes
  have hml : c.maxLocals = 3 := hml0
  have hown : s.vm.findClass "java/lang/StringUTF16" = some m.cls := findClass_of_methodNamed Bd.named
  have X0 : Stand p l e (rk 0 0 0 0) s m #[(.ref a1), (.int (3 : Int32)), (.int x1)] below meth c s₁ [] 0 0 := Stand.of_body Bd
  have e0 : s₁.heap = h0 := by rw [← hh, Bd.state]; rfl
  have N0 := Fr.nil n0
  have pre0 := own_pre (tb := p.tables) (e := e) (bl := below) (s := s₁) (ef_22_0 m a1 (3 : Int32) x1)
  have K0 := Keep.refl h0 [a1]
  obtain ⟨T1, X1, e1, st1⟩ := getS2 X0 hx hZ hown (host := "") (Or.inl (tw hw 102 rfl)) Via.refl e0 (sA.ext O0.2) (g := (mkF m 0 #[Rf a1, It (3 : Int32), It x1] [])) rfl (hb hby d22_0)
  obtain ⟨T2, X2, e2, st2⟩ := getS2 X1 hx hZ hown (host := "") (Or.inl (tw hw 103 rfl)) Via.refl e1 (sH.ext O0.2) (g := (mkF m 38 #[Rf a1, .val (.int (((3 : Int32) <<< ((1 : Int32) &&& 31)) + (1 : Int32))), It x1] [(.int x1), (.int ((3 : Int32) <<< ((1 : Int32) &&& 31))), (.ref a1)])) rfl (hb hby d22_38)
  obtain ⟨cl3, Ar3, q3, Sz3, Nn3, Hh3, Gg3⟩ := id A_a1
  have hin3 : ¬ (((3 : Int32) <<< ((1 : Int32) &&& 31)) < 0 ∨ cl3.slots.size ≤ (((3 : Int32) <<< ((1 : Int32) &&& 31))).toNatClampNeg) := inb_of Sz3 ⟨by decide, own_ltz h_z (by decide)⟩
  obtain ⟨T4, h4, X4, e4, W4, st4⟩ := stB X2 hx hZ e2 Ar3 (j := ((3 : Int32) <<< ((1 : Int32) &&& 31))) hin3 (g := (mkF m 43 #[Rf a1, .val (.int (((3 : Int32) <<< ((1 : Int32) &&& 31)) + (1 : Int32))), It x1] [(.int ((x1 >>> ((0 : Int32) &&& 31)).toInt8.toInt32)), (.int ((3 : Int32) <<< ((1 : Int32) &&& 31))), (.ref a1)])) rfl rfl (hb hby d22_43)
  have V4 : Arv Z h4 a1 ka .byte zz (vs.set 6 (.int (((x1 >>> ((0 : Int32) &&& 31)).toInt8.toInt32).toInt8.toInt32))) (.int (0 : Int32)) := Arv.set Ar3 q3 Sz3 Nn3 Hh3 Gg3 (fits_nar_byte _) W4 6 (by decide) (own_sl h_n (by decide))
  have N4 := Fr.snoc X4 N0 ge_a1
  have O5 := O0.wr W4 ge_a1
  have K4 := K0.wr W4 (Or.inl (List.mem_of_getElem? (i := 0) rfl))
  obtain ⟨T6, X6, e6, st6⟩ := getS2 X4 hx hZ hown (host := "") (Or.inl (tw hw 104 rfl)) Via.refl e4 (sL.ext O5.2) (g := (mkF m 47 #[Rf a1, .val (.int (((3 : Int32) <<< ((1 : Int32) &&& 31)) + (1 : Int32))), It x1] [(.int x1), (.int (((3 : Int32) <<< ((1 : Int32) &&& 31)) + (1 : Int32))), (.ref a1)])) rfl (hb hby d22_47)
  obtain ⟨cl7, Ar7, q7, Sz7, Nn7, Hh7, Gg7⟩ := id V4
  have hin7 : ¬ ((((3 : Int32) <<< ((1 : Int32) &&& 31)) + (1 : Int32)) < 0 ∨ cl7.slots.size ≤ ((((3 : Int32) <<< ((1 : Int32) &&& 31)) + (1 : Int32))).toNatClampNeg) := inb_of Sz7 ⟨by decide, own_ltz h_z (by decide)⟩
  obtain ⟨T8, h8, X8, e8, W8, st8⟩ := stB X6 hx hZ e6 Ar7 (j := (((3 : Int32) <<< ((1 : Int32) &&& 31)) + (1 : Int32))) hin7 (g := (mkF m 52 #[Rf a1, .val (.int (((3 : Int32) <<< ((1 : Int32) &&& 31)) + (1 : Int32))), It x1] [(.int ((x1 >>> ((8 : Int32) &&& 31)).toInt8.toInt32)), (.int (((3 : Int32) <<< ((1 : Int32) &&& 31)) + (1 : Int32))), (.ref a1)])) rfl rfl (hb hby d22_52)
  have V8 : Arv Z h8 a1 ka .byte zz ((vs.set 6 (.int (((x1 >>> ((0 : Int32) &&& 31)).toInt8.toInt32).toInt8.toInt32))).set 7 (.int (((x1 >>> ((8 : Int32) &&& 31)).toInt8.toInt32).toInt8.toInt32))) (.int (0 : Int32)) := Arv.set Ar7 q7 Sz7 Nn7 Hh7 Gg7 (fits_nar_byte _) W8 7 (by decide) (own_sl1 h_n (by decide))
  have N8 := Fr.snoc X8 N4 ge_a1
  have O9 := O5.wr W8 ge_a1
  have K8 := K4.wr W8 (Or.inl (List.mem_of_getElem? (i := 0) rfl))
  have sg10 : SG p.tables e below (T8.setTop (mkF m 53 #[Rf a1, .val (.int (((3 : Int32) <<< ((1 : Int32) &&& 31)) + (1 : Int32))), It x1] [])) (s₁.setTop (mkF m 0 #[Rf a1, It (3 : Int32), It x1] [])) := by
    intro target kt
    show Steps _ _ _ (s₁.setTop (mkF m 0 #[Rf a1, It (3 : Int32), It x1] [])) _
    refine st1 _ ?_
    refine XS.ifYes X1.here hx rfl (pc0 := 3) (pc' := 28) rfl (hb hby d22_3) rfl ((if0 _ _).trans (feq (by decide : ¬ ((1 : Int32) = (0 : Int32)))).2) (by decide) (by decide) ?_
    refine XS.iloadN X1.here hx rfl (hb hby d22_28) rfl ?_
    refine XS.iconst X1.here hx rfl (hb hby d22_29) ?_
    refine XS.ishl X1.here hx rfl (hb hby d22_30) rfl ?_
    refine XS.istoreN X1.here hx rfl (hb hby d22_31) rfl (l' := #[Rf a1, .val (.int ((3 : Int32) <<< ((1 : Int32) &&& 31))), It x1]) rfl ?_
    refine XS.aloadN X1.here hx rfl (hb hby d22_32) rfl rfl ?_
    refine XS.iloadN X1.here hx rfl (hb hby d22_33) rfl ?_
    refine XS.iinc X1.here hx rfl (hb hby d22_34) rfl (l' := #[Rf a1, .val (.int (((3 : Int32) <<< ((1 : Int32) &&& 31)) + (1 : Int32))), It x1]) rfl ?_
    refine XS.iloadN X1.here hx rfl (hb hby d22_37) rfl ?_
    refine st2 _ ?_
    refine XS.ishr X2.here hx rfl (hb hby d22_41) rfl ?_
    refine XS.i2b X2.here hx rfl (hb hby d22_42) rfl ?_
    refine st4 _ ?_
    refine XS.aloadN X4.here hx rfl (hb hby d22_44) rfl rfl ?_
    refine XS.iloadN X4.here hx rfl (hb hby d22_45) rfl ?_
    refine XS.iloadN X4.here hx rfl (hb hby d22_46) rfl ?_
    refine st6 _ ?_
    refine XS.ishr X6.here hx rfl (hb hby d22_50) rfl ?_
    refine XS.i2b X6.here hx rfl (hb hby d22_51) rfl ?_
    refine st8 _ ?_
    exact kt
  obtain ⟨fs, hr, hrun, hended, hW, hsame⟩ := X8.leave (v := none) (fun _ => rfl)
  refine ⟨_, _, pre0 _ (sg10 _ (?_)), hrun, hended, _, _, rfl, ?_, ⟨_, rfl⟩, hW, hsame.mono (by decide) (by decide)⟩
  · show Steps _ _ _ (T8.setTop (mkF m 53 #[Rf a1, .val (.int (((3 : Int32) <<< ((1 : Int32) &&& 31)) + (1 : Int32))), It x1] [])) _
    exact X8.returnOut hx Bd.returns (hb hby d22_53) hr
  · show Q22_3 Z a1 x1 zz vs ka h0 n0 _ T8.heap _
    rw [e8]
    exact ⟨rfl, N8, K8, O9, V8⟩
def Q23_3 (Z : State) (a1 : Addr) (x1 : Int32) (zz : Int32) (vs : List Value) (ka : ClassId) (h0 : Heap) (n0 : Nat) (v : Option Value) (h : Heap) (L : List Loc) : Prop := v = some (.int x1) ∧ Fr n0 L ∧ h = h0
theorem rm23_3 (l : Launch) (Z : State) (a0 : Array Value) (hw : ∀ d ∈ tables_1, d.before a0 Z = true) (ws : List Jvm.Cond) (a1 : Addr) (x1 : Int32) (zz : Int32) (vs : List Value) (ka : ClassId) (h0 : Heap) (n0 : Nat) (O0 : Old Z n0 h0) (sA : TS_0 Z) (sH : TS_1 Z) (sL : TS_2 Z) (h_z : (7 : Int32) < zz) (g0 : vs.getD 6 (.int (0 : Int32)) = .int (lbt x1)) (g1 : vs.getD 7 (.int (0 : Int32)) = .int (hbt x1)) (h_x : CR x1) (A_a1 : Arv Z h0 a1 ka .byte zz vs (.int (0 : Int32))) :
    MetFree l m_9 (head1 (Jvm.Cond.code m_9 jdk_52_method_5_code 2 (some .char) :: ws) (rk 0 0 0 0)) (fun a U => a = #[(.ref a1), (.int (3 : Int32))] ∧ Z.Warmed39 U.vm ∧ U.heap = h0) (fun _ _ _ _ _ => True) (fun _ U o U' => ∃ v L, o = .returned v ∧ Q23_3 Z a1 x1 zz vs ka h0 n0 v U'.heap L ∧ FrameEnd U o U' L (rk 0 0 0 0).cells (rk 0 0 0 0).slots) := by
  refine MetFree.of_bodySF (plainFor_of_name pn_2) hisR ?_
  intro p e s m args below meth c s₁ Bd hml0 hP hK
  obtain ⟨rfl, hZ, hh⟩ := hP
  have hx := Bd.exec
  have hby := Bd.bytes
  have hml : c.maxLocals = 2 := hml0
  have hown : s.vm.findClass "java/lang/StringUTF16" = some m.cls := findClass_of_methodNamed Bd.named
  have X0 : Stand p l e (rk 0 0 0 0) s m #[(.ref a1), (.int (3 : Int32))] below meth c s₁ [] 0 0 := Stand.of_body Bd
  have e0 : s₁.heap = h0 := by rw [← hh, Bd.state]; rfl
  have N0 := Fr.nil n0
  have pre0 := own_pre (tb := p.tables) (e := e) (bl := below) (s := s₁) (ef_23_0 m a1 (3 : Int32))
  obtain ⟨T1, X1, e1, st1⟩ := getS2 X0 hx hZ hown (host := "") (Or.inl (tw hw 102 rfl)) Via.refl e0 (sA.ext O0.2) (g := (mkF m 0 #[Rf a1, It (3 : Int32)] [])) rfl (hb hby d23_0)
  obtain ⟨cl2, Ar2, -, Sz2, Nn2, Hh2, -⟩ := id A_a1
  have hin2 : ¬ (((3 : Int32) <<< ((1 : Int32) &&& 31)) < 0 ∨ cl2.slots.size ≤ (((3 : Int32) <<< ((1 : Int32) &&& 31))).toNatClampNeg) := inb_of Sz2 ⟨by decide, own_ltz h_z (by decide)⟩
  have hat2 : cl2.slots[(((3 : Int32) <<< ((1 : Int32) &&& 31))).toNatClampNeg]? = some (.int (lbt x1)) := Has.at Hh2 hin2 g0
  obtain ⟨T3, X3, e3, st3⟩ := getS2 X1 hx hZ hown (host := "") (Or.inl (tw hw 103 rfl)) Via.refl e1 (sH.ext O0.2) (g := (mkF m 42 #[Rf a1, .val (.int (((3 : Int32) <<< ((1 : Int32) &&& 31)) + (1 : Int32)))] [(.int ((lbt x1) &&& (255 : Int32)))])) rfl (hb hby d23_42)
  obtain ⟨cl4, Ar4, -, Sz4, Nn4, Hh4, -⟩ := id A_a1
  have hin4 : ¬ ((((3 : Int32) <<< ((1 : Int32) &&& 31)) + (1 : Int32)) < 0 ∨ cl4.slots.size ≤ ((((3 : Int32) <<< ((1 : Int32) &&& 31)) + (1 : Int32))).toNatClampNeg) := inb_of Sz4 ⟨by decide, own_ltz h_z (by decide)⟩
  have hat4 : cl4.slots[((((3 : Int32) <<< ((1 : Int32) &&& 31)) + (1 : Int32))).toNatClampNeg]? = some (.int (hbt x1)) := Has.at Hh4 hin4 g1
  obtain ⟨T5, X5, e5, st5⟩ := getS2 X3 hx hZ hown (host := "") (Or.inl (tw hw 104 rfl)) Via.refl e3 (sL.ext O0.2) (g := (mkF m 53 #[Rf a1, .val (.int (((3 : Int32) <<< ((1 : Int32) &&& 31)) + (1 : Int32)))] [(.int ((hbt x1) &&& (255 : Int32))), (.int (((lbt x1) &&& (255 : Int32)) <<< ((0 : Int32) &&& 31)))])) rfl (hb hby d23_53)
  obtain ⟨u6, hu6⟩ : ∃ z, z = (((((lbt x1) &&& (255 : Int32)) <<< ((0 : Int32) &&& 31)) ||| (((hbt x1) &&& (255 : Int32)) <<< ((8 : Int32) &&& 31))).toUInt32.toUInt16.toUInt32.toInt32) := ⟨_, rfl⟩
  have sg7 : SG p.tables e below (T5.setTop (mkF m 59 #[Rf a1, .val (.int (((3 : Int32) <<< ((1 : Int32) &&& 31)) + (1 : Int32)))] [(.int u6)])) (s₁.setTop (mkF m 0 #[Rf a1, It (3 : Int32)] [])) := by
    intro target kt
    subst hu6
    show Steps _ _ _ (s₁.setTop (mkF m 0 #[Rf a1, It (3 : Int32)] [])) _
    refine st1 _ ?_
    refine XS.ifYes X1.here hx rfl (pc0 := 3) (pc' := 28) rfl (hb hby d23_3) rfl ((if0 _ _).trans (feq (by decide : ¬ ((1 : Int32) = (0 : Int32)))).2) (by decide) (by decide) ?_
    refine XS.iloadN X1.here hx rfl (hb hby d23_28) rfl ?_
    refine XS.iconst X1.here hx rfl (hb hby d23_29) ?_
    refine XS.ishl X1.here hx rfl (hb hby d23_30) rfl ?_
    refine XS.istoreN X1.here hx rfl (hb hby d23_31) rfl (l' := #[Rf a1, .val (.int ((3 : Int32) <<< ((1 : Int32) &&& 31)))]) rfl ?_
    refine XS.aloadN X1.here hx rfl (hb hby d23_32) rfl rfl ?_
    refine XS.iloadN X1.here hx rfl (hb hby d23_33) rfl ?_
    refine XS.iinc X1.here hx rfl (hb hby d23_34) rfl (l' := #[Rf a1, .val (.int (((3 : Int32) <<< ((1 : Int32) &&& 31)) + (1 : Int32)))]) rfl ?_
    refine X1.baloadBytes hx (j := ((3 : Int32) <<< ((1 : Int32) &&& 31))) (v := (.int (lbt x1))) (own_rwh e1 Ar2.1) (State.isArrayOf_alike hZ.alike Ar2.2.1) Ar2.2.2 hin2 hat2 (g := (mkF m 37 #[Rf a1, .val (.int (((3 : Int32) <<< ((1 : Int32) &&& 31)) + (1 : Int32)))] [(.int ((3 : Int32) <<< ((1 : Int32) &&& 31))), (.ref a1)])) rfl rfl (hb hby d23_37) _ ?_
    refine XS.sipush X1.here hx rfl (hb hby d23_38) ?_
    refine XS.iand X1.here hx rfl (hb hby d23_41) rfl ?_
    refine st3 _ ?_
    refine XS.ishl X3.here hx rfl (hb hby d23_45) rfl ?_
    refine XS.aloadN X3.here hx rfl (hb hby d23_46) rfl rfl ?_
    refine XS.iloadN X3.here hx rfl (hb hby d23_47) rfl ?_
    refine X3.baloadBytes hx (j := (((3 : Int32) <<< ((1 : Int32) &&& 31)) + (1 : Int32))) (v := (.int (hbt x1))) (own_rwh e3 Ar4.1) (State.isArrayOf_alike hZ.alike Ar4.2.1) Ar4.2.2 hin4 hat4 (g := (mkF m 48 #[Rf a1, .val (.int (((3 : Int32) <<< ((1 : Int32) &&& 31)) + (1 : Int32)))] [(.int (((3 : Int32) <<< ((1 : Int32) &&& 31)) + (1 : Int32))), (.ref a1), (.int (((lbt x1) &&& (255 : Int32)) <<< ((0 : Int32) &&& 31)))])) rfl rfl (hb hby d23_48) _ ?_
    refine XS.sipush X3.here hx rfl (hb hby d23_49) ?_
    refine XS.iand X3.here hx rfl (hb hby d23_52) rfl ?_
    refine st5 _ ?_
    refine XS.ishl X5.here hx rfl (hb hby d23_56) rfl ?_
    refine XS.ior X5.here hx rfl (hb hby d23_57) rfl ?_
    refine XS.i2c X5.here hx rfl (hb hby d23_58) rfl ?_
    exact kt
  have hg : u6 = x1 := own_getput h_x hu6
  have hnar : nar .char u6 = u6 := (by rw [hg]; exact own_ncr h_x)
  obtain ⟨fs, hr, hrun, hended, hW, hsame⟩ := X5.leave (v := some (.int u6)) (fun h => by rw [Bd.returns] at h; cases h)
  rw [← hnar] at hr
  refine ⟨_, _, pre0 _ (sg7 _ (?_)), hrun, hended, _, _, rfl, ?_, ⟨_, rfl⟩, hW, hsame.mono (by decide) (by decide)⟩
  · show Steps _ _ _ (T5.setTop (mkF m 59 #[Rf a1, .val (.int (((3 : Int32) <<< ((1 : Int32) &&& 31)) + (1 : Int32)))] [(.int u6)])) _
    exact retN X5 hx (t := .char) Bd.returns (by simp) (hb hby d23_59) hr
  · show Q23_3 Z a1 x1 zz vs ka h0 n0 _ T5.heap _
    rw [e5]
    exact ⟨(by rw [hg]), N0, rfl⟩
def Q21_1 (Z : State)  (h0 : Heap) (n0 : Nat) (v : Option Value) (h : Heap) (L : List Loc) : Prop := v = some (.int (2 : Int32)) ∧ Fr n0 L ∧ h = h0
theorem rm21_1 (l : Launch) (Z : State) (a0 : Array Value) (hw : ∀ d ∈ tables_1, d.before a0 Z = true) (ws : List Jvm.Cond)  (h0 : Heap) (n0 : Nat) (O0 : Old Z n0 h0) :
    MetFree l m_10 (head1 (Jvm.Cond.code m_10 jdk_52_method_3_code 1 (some .int) :: ws) (rk 0 0 0 0)) (fun a U => a = #[(.int (1 : Int32))] ∧ Z.Warmed39 U.vm ∧ U.heap = h0) (fun _ _ _ _ _ => True) (fun _ U o U' => ∃ v L, o = .returned v ∧ Q21_1 Z  h0 n0 v U'.heap L ∧ FrameEnd U o U' L (rk 0 0 0 0).cells (rk 0 0 0 0).slots) := by
  refine MetFree.of_bodySF (plainFor_of_name pn_2) hisR ?_
  intro p e s m args below meth c s₁ Bd hml0 hP hK
  obtain ⟨rfl, hZ, hh⟩ := hP
  have hx := Bd.exec
  have hby := Bd.bytes
  have hml : c.maxLocals = 1 := hml0
  have hown : s.vm.findClass "java/lang/StringUTF16" = some m.cls := findClass_of_methodNamed Bd.named
  have X0 : Stand p l e (rk 0 0 0 0) s m #[(.int (1 : Int32))] below meth c s₁ [] 0 0 := Stand.of_body Bd
  have e0 : s₁.heap = h0 := by rw [← hh, Bd.state]; rfl
  have N0 := Fr.nil n0
  have pre0 := own_pre (tb := p.tables) (e := e) (bl := below) (s := s₁) (ef_16 m (1 : Int32))
  have sg1 : SG p.tables e below (s₁.setTop (mkF m 58 #[It (1 : Int32)] [(.int ((1 : Int32) <<< ((1 : Int32) &&& 31)))])) (s₁.setTop (mkF m 0 #[It (1 : Int32)] [])) := by
    intro target kt
    show Steps _ _ _ (s₁.setTop (mkF m 0 #[It (1 : Int32)] [])) _
    refine XS.iloadN X0.here hx rfl (hb hby d21_0) rfl ?_
    refine XS.ifYes X0.here hx rfl (pc0 := 1) (pc' := 12) rfl (hb hby d21_1) rfl ((if0 _ _).trans (flt (by decide : ¬ ((1 : Int32) < (0 : Int32)))).2.1) (by decide) (by decide) ?_
    refine XS.iloadN X0.here hx rfl (hb hby d21_12) rfl ?_
    refine X0.ldcInt hx hown (mvT hZ (tw hw 98 rfl)) (g := (mkF m 13 #[It (1 : Int32)] [(.int (1 : Int32))])) rfl (hb hby d21_13) _ ?_
    refine XS.icmpYes X0.here hx rfl (pc0 := 15) (pc' := 55) rfl (hb hby d21_15) rfl (tlt (by decide : (1 : Int32) < (1073741823 : Int32))).1 (by decide) (by decide) ?_
    refine XS.iloadN X0.here hx rfl (hb hby d21_55) rfl ?_
    refine XS.iconst X0.here hx rfl (hb hby d21_56) ?_
    refine XS.ishl X0.here hx rfl (hb hby d21_57) rfl ?_
    exact kt
  obtain ⟨fs, hr, hrun, hended, hW, hsame⟩ := X0.leave (v := some (.int ((1 : Int32) <<< ((1 : Int32) &&& 31)))) (fun h => by rw [Bd.returns] at h; cases h)
  refine ⟨_, _, pre0 _ (sg1 _ (?_)), hrun, hended, _, _, rfl, ?_, ⟨_, rfl⟩, hW, hsame.mono (by decide) (by decide)⟩
  · show Steps _ _ _ (s₁.setTop (mkF m 58 #[It (1 : Int32)] [(.int ((1 : Int32) <<< ((1 : Int32) &&& 31)))])) _
    exact retI X0 hx Bd.returns (hb hby d21_58) hr
  · show Q21_1 Z  h0 n0 _ s₁.heap _
    rw [e0]
    exact ⟨(by decide), N0, rfl⟩
def Q20_1 (Z : State)  (h0 : Heap) (n0 : Nat) (v : Option Value) (h : Heap) (L : List Loc) : Prop := ∃ ro : Addr, ∃ ko : ClassId, v = some (.ref ro) ∧ Fr n0 L ∧ Keep h0 h [] ∧ Old Z n0 h ∧ Arv Z h ro ko .byte (2 : Int32) [(.int (0 : Int32)), (.int (0 : Int32))] (.int (0 : Int32)) ∧ n0 ≤ ro ∧ h0.size ≤ ro
theorem rm20_1 (l : Launch) (Z : State) (a0 : Array Value) (hw : ∀ d ∈ tables_1, d.before a0 Z = true) (ws : List Jvm.Cond)  (h0 : Heap) (n0 : Nat) (O0 : Old Z n0 h0) :
    MetFree l m_11 (head1 (Jvm.Cond.code m_11 jdk_52_method_2_code 1 (some (.array .byte)) :: ws) (rk 1 1 2 12)) (fun a U => a = #[(.int (1 : Int32))] ∧ Z.Warmed39 U.vm ∧ U.heap = h0) (fun _ _ _ _ _ => True) (fun _ U o U' => ∃ v L, o = .returned v ∧ Q20_1 Z  h0 n0 v U'.heap L ∧ FrameEnd U o U' L (rk 1 1 2 12).cells (rk 1 1 2 12).slots) := by
  refine MetFree.of_bodySF (plainFor_of_name pn_2) hisR ?_
  intro p e s m args below meth c s₁ Bd hml0 hP hK
  obtain ⟨rfl, hZ, hh⟩ := hP
  have hx := Bd.exec
  have hby := Bd.bytes
  have hml : c.maxLocals = 1 := hml0
  have hown : s.vm.findClass "java/lang/StringUTF16" = some m.cls := findClass_of_methodNamed Bd.named
  have X0 : Stand p l e (rk 1 1 2 12) s m #[(.int (1 : Int32))] below meth c s₁ [] 0 0 := Stand.of_body Bd
  have e0 : s₁.heap = h0 := by rw [← hh, Bd.state]; rfl
  have N0 := Fr.nil n0
  have pre0 := own_pre (tb := p.tables) (e := e) (bl := below) (s := s₁) (ef_16 m (1 : Int32))
  have K0 := Keep.refl h0 []
  obtain ⟨_, _, ⟨T1, L1, k1, n1⟩, -, X1, ⟨Lc1, hQ1, l1, y1, z1⟩, st1⟩ := Jvm.LawKit.callS X0 hx (y := m_10) hown (mvT hZ (tw hw 95 rfl)) (mvT hZ (tw hw 96 rfl)) (mvT hZ (tw hw 26 rfl)) (mvT hZ (tw hw 97 rfl)) (by decide) (backOf (W := 0) (rm21_1 l Z a0 hw []  h0 n0 O0 ) hZ (tw hw 97 rfl) (tw hw 26 rfl) (by decide) (by decide)) (g := (mkF m 1 #[It (1 : Int32)] [(.int (1 : Int32))])) rfl (by rw [hml]; rfl) (argsL := [(.int (1 : Int32))]) (rest := []) (lenOf pd_0 rfl) rfl (w0 rfl) (hb hby d20_1) (fun _ _ => ⟨rfl, e0, (by decide : 0 + 0 ≤ _), (by decide : 0 + 0 ≤ _)⟩)
  dsimp only [Pt.U, Pt.locs, Pt.cells, Pt.slots] at X1 l1 y1 z1 st1 hQ1
  subst l1 y1 z1
  obtain ⟨rfl, N1q, e1⟩ := hQ1
  have N1 := Fr.app N0 N1q
  obtain ⟨T2, h2, k2, X2, e2, E2, A2, st2⟩ := newP X1 hx hZ (tw hw 28 rfl) e1 (g := (mkF m 4 #[It (1 : Int32)] [(.int (2 : Int32))])) rfl (hb hby d20_4) rfl (by decide) (cap := 2) (by decide) (by decide) (by decide) (by decide)
  obtain ⟨b2, g2⟩ : ∃ z, z = h0.size := ⟨_, rfl⟩
  rw [← g2] at A2 st2
  have ge_b2 : n0 ≤ b2 := Nat.le_trans (own_osz O0) (Nat.le_of_eq g2.symm)
  have sz_b2 : h0.size ≤ b2 := Nat.le_trans K0.1 (Nat.le_of_eq g2.symm)
  have O3 := O0.ext E2
  have K2 := K0.ext E2
  have V_b2 : Arv Z h2 b2 k2 .byte (2 : Int32) [(.int (0 : Int32)), (.int (0 : Int32))] (.int (0 : Int32)) := (Arv.new A2 (by decide)).pad (pad_rep [] (.int (0 : Int32)) 2)
  have sg4 : SG p.tables e below (T2.setTop (mkF m 6 #[It (1 : Int32)] [(.ref b2)])) (s₁.setTop (mkF m 0 #[It (1 : Int32)] [])) := by
    intro target kt
    show Steps _ _ _ (s₁.setTop (mkF m 0 #[It (1 : Int32)] [])) _
    refine XS.iloadN X0.here hx rfl (hb hby d20_0) rfl ?_
    refine st1 _ ?_
    refine st2 _ ?_
    exact kt
  obtain ⟨fs, hr, hrun, hended, hW, hsame⟩ := X2.leave (v := some (.ref b2)) (fun h => by rw [Bd.returns] at h; cases h)
  refine ⟨_, _, pre0 _ (sg4 _ (?_)), hrun, hended, _, _, rfl, ?_, ⟨_, rfl⟩, hW, hsame.mono (by decide) (by decide)⟩
  · show Steps _ _ _ (T2.setTop (mkF m 6 #[It (1 : Int32)] [(.ref b2)])) _
    jvm_step X2.here [X2.here.top, hx, (hb hby d20_6), X2.method', Bd.returns, Value.isRef, FieldType.isReference]
    first | (intro acts; rw [hr _ acts rfl rfl rfl]) | rw [hr _ _ rfl rfl rfl]
    exact Steps.refl _
  · show Q20_1 Z  h0 n0 _ T2.heap _
    rw [e2]
    exact ⟨b2, k2, rfl, N1, K2, O3, V_b2, ge_b2, sz_b2⟩
def Q19_1 (Z : State) (a1 : Addr) (x1 : Int32) (ka : ClassId) (h0 : Heap) (n0 : Nat) (v : Option Value) (h : Heap) (L : List Loc) : Prop := ∃ ro : Addr, ∃ ko : ClassId, v = some (.ref ro) ∧ Fr n0 L ∧ Keep h0 h [] ∧ Old Z n0 h ∧ Arv Z h ro ko .byte (2 : Int32) (ub1 x1) (.int (0 : Int32)) ∧ n0 ≤ ro ∧ h0.size ≤ ro
theorem ef_19_1 (m : MethodId) (x0 : Addr) (x1 : Int32) (x2 : Int32) : entryFrame m #[(.ref x0), (.int x1), (.int x2)] 5 = mkF m 0 #[.val (.ref x0), .val (.int x1), .val (.int x2), .unset, .unset] [] := by first | (simp [entryFrame, mkF, argsToLocals, Value.category]; done) | rfl
theorem rm19_1 (l : Launch) (Z : State) (a0 : Array Value) (hw : ∀ d ∈ tables_1, d.before a0 Z = true) (ws : List Jvm.Cond) (a1 : Addr) (x1 : Int32) (ka : ClassId) (h0 : Heap) (n0 : Nat) (O0 : Old Z n0 h0) (sA : TS_0 Z) (sH : TS_1 Z) (sL : TS_2 Z) (A_a1 : Arv Z h0 a1 ka .char (1 : Int32) [(.int x1)] (.int (0 : Int32))) :
    MetFree l m_12 (head1 (Jvm.Cond.code m_12 jdk_52_method_14_code 5 (some (.array .byte)) :: ws) (rk 2 1 2 24)) (fun a U => a = #[(.ref a1), (.int (0 : Int32)), (.int (1 : Int32))] ∧ Z.Warmed39 U.vm ∧ U.heap = h0) (fun _ _ _ _ _ => True) (fun _ U o U' => ∃ v L, o = .returned v ∧ Q19_1 Z a1 x1 ka h0 n0 v U'.heap L ∧ FrameEnd U o U' L (rk 2 1 2 24).cells (rk 2 1 2 24).slots) := by
  refine MetFree.of_bodySF (plainFor_of_name pn_2) hisR ?_
  intro p e s m args below meth c s₁ Bd hml0 hP hK
  obtain ⟨rfl, hZ, hh⟩ := hP
  have hx := Bd.exec
  have hby := Bd.bytes
  have hml : c.maxLocals = 5 := hml0
  have hown : s.vm.findClass "java/lang/StringUTF16" = some m.cls := findClass_of_methodNamed Bd.named
  have X0 : Stand p l e (rk 2 1 2 24) s m #[(.ref a1), (.int (0 : Int32)), (.int (1 : Int32))] below meth c s₁ [] 0 0 := Stand.of_body Bd
  have e0 : s₁.heap = h0 := by rw [← hh, Bd.state]; rfl
  have N0 := Fr.nil n0
  have pre0 := own_pre (tb := p.tables) (e := e) (bl := below) (s := s₁) (ef_19_1 m a1 (0 : Int32) (1 : Int32))
  have K0 := Keep.refl h0 []
  obtain ⟨_, _, ⟨T1, L1, k1, n1⟩, -, X1, ⟨Lc1, hQ1, l1, y1, z1⟩, st1⟩ := Jvm.LawKit.callS X0 hx (y := m_11) hown (mvT hZ (tw hw 92 rfl)) (mvT hZ (tw hw 93 rfl)) (mvT hZ (tw hw 26 rfl)) (mvT hZ (tw hw 94 rfl)) (by decide) (backOf (W := 0) (rm20_1 l Z a0 hw []  h0 n0 O0 ) hZ (tw hw 94 rfl) (tw hw 26 rfl) (by decide) (by decide)) (g := (mkF m 1 #[Rf a1, It (0 : Int32), It (1 : Int32), .unset, .unset] [(.int (1 : Int32))])) rfl (by rw [hml]; rfl) (argsL := [(.int (1 : Int32))]) (rest := []) (lenOf pd_1 rfl) rfl (w0 rfl) (hb hby d19_1) (fun _ _ => ⟨rfl, e0, (by decide : 0 + 1 ≤ _), (by decide : 0 + 2 ≤ _)⟩)
  dsimp only [Pt.U, Pt.locs, Pt.cells, Pt.slots] at X1 l1 y1 z1 st1 hQ1
  subst l1 y1 z1
  obtain ⟨ro_1, ko_1, rfl, N1q, K1q, O1, f1_0, f1_1, f1_2⟩ := hQ1
  have N1 := Fr.app N0 N1q
  have K1 := K0.trans K1q all0
  obtain ⟨cl2, Ar2, -, Sz2, Nn2, Hh2, -⟩ := id (A_a1.keep K1q nin0)
  have hin2 : ¬ ((0 : Int32) < 0 ∨ cl2.slots.size ≤ ((0 : Int32)).toNatClampNeg) := inb_of Sz2 ⟨by decide, by decide⟩
  have hat2 : cl2.slots[((0 : Int32)).toNatClampNeg]? = some (.int x1) := Has.at Hh2 hin2 rfl
  obtain ⟨_, _, ⟨T3, L3, k3, n3⟩, -, X3, ⟨Lc3, hQ3, l3, y3, z3⟩, st3⟩ := Jvm.LawKit.callS X1 hx (y := m_8) hown (mvT hZ (tw hw 99 rfl)) (mvT hZ (tw hw 100 rfl)) (mvT hZ (tw hw 26 rfl)) (mvT hZ (tw hw 101 rfl)) (by decide) (backOf (W := 0) (rm22_0 l Z a0 hw [] ro_1 x1 (2 : Int32) ([(.int (0 : Int32)), (.int (0 : Int32))]) ko_1 T1.heap n0 O1 sA sH sL (by decide) (Nat.le_of_ble_eq_true rfl) f1_0 f1_1) hZ (tw hw 101 rfl) (tw hw 26 rfl) (by decide) (by decide)) (g := (mkF m 20 #[Rf a1, It (0 : Int32), It (1 : Int32), Rf ro_1, It (0 : Int32)] [(.int x1), (.int (0 : Int32)), (.ref ro_1)])) rfl (by rw [hml]; rfl) (argsL := [(.ref ro_1), (.int (0 : Int32)), (.int x1)]) (rest := []) (lenOf pd_2 rfl) rfl (w0 rfl) (hb hby d19_20) (fun _ _ => ⟨rfl, rfl, (by decide : 1 + 0 ≤ _), (by decide : 2 + 0 ≤ _)⟩)
  dsimp only [Pt.U, Pt.locs, Pt.cells, Pt.slots] at X3 l3 y3 z3 st3 hQ3
  subst l3 y3 z3
  obtain ⟨rfl, N3q, K3q, O3, f3_0⟩ := hQ3
  have N3 := Fr.app N1 N3q
  have K3 := K1.trans K3q (allS (Or.inr (Nat.le_trans K0.1 f1_2)) all0)
  have VX3 : Arv Z T3.heap ro_1 ko_1 .byte (2 : Int32) [(.int (lbt x1)), (.int (hbt x1))] (.int (0 : Int32)) := f3_0
  have sg4 : SG p.tables e below (T3.setTop (mkF m 33 #[Rf a1, .val (.int ((0 : Int32) + (1 : Int32))), It (1 : Int32), Rf ro_1, .val (.int ((0 : Int32) + (1 : Int32)))] [(.ref ro_1)])) (s₁.setTop (mkF m 0 #[Rf a1, It (0 : Int32), It (1 : Int32), .unset, .unset] [])) := by
    intro target kt
    show Steps _ _ _ (s₁.setTop (mkF m 0 #[Rf a1, It (0 : Int32), It (1 : Int32), .unset, .unset] [])) _
    refine XS.iloadN X0.here hx rfl (hb hby d19_0) rfl ?_
    refine st1 _ ?_
    refine XS.astoreN X1.here hx rfl (hb hby d19_4) rfl rfl (l' := #[Rf a1, It (0 : Int32), It (1 : Int32), Rf ro_1, .unset]) rfl ?_
    refine XS.iconst X1.here hx rfl (hb hby d19_5) ?_
    refine XS.istore X1.here hx rfl (hb hby d19_6) rfl (l' := #[Rf a1, It (0 : Int32), It (1 : Int32), Rf ro_1, It (0 : Int32)]) rfl ?_
    refine XS.iload X1.here hx rfl (hb hby d19_8) rfl ?_
    refine XS.iloadN X1.here hx rfl (hb hby d19_10) rfl ?_
    refine XS.icmpNo X1.here hx rfl (hb hby d19_11) rfl (tlt (by decide : (0 : Int32) < (1 : Int32))).2.1 ?_
    refine XS.aloadN X1.here hx rfl (hb hby d19_14) rfl rfl ?_
    refine XS.iload X1.here hx rfl (hb hby d19_15) rfl ?_
    refine XS.aloadN X1.here hx rfl (hb hby d19_17) rfl rfl ?_
    refine XS.iloadN X1.here hx rfl (hb hby d19_18) rfl ?_
    refine X1.caload hx (j := (0 : Int32)) (v := (.int x1)) (own_rwh rfl Ar2.1) (State.isArrayOf_alike hZ.alike Ar2.2.1) Ar2.2.2 hin2 hat2 (g := (mkF m 19 #[Rf a1, It (0 : Int32), It (1 : Int32), Rf ro_1, It (0 : Int32)] [(.int (0 : Int32)), (.ref a1), (.int (0 : Int32)), (.ref ro_1)])) rfl rfl (hb hby d19_19) _ ?_
    refine st3 _ ?_
    refine XS.iinc X3.here hx rfl (hb hby d19_23) rfl (l' := #[Rf a1, .val (.int ((0 : Int32) + (1 : Int32))), It (1 : Int32), Rf ro_1, It (0 : Int32)]) rfl ?_
    refine XS.iinc X3.here hx rfl (hb hby d19_26) rfl (l' := #[Rf a1, .val (.int ((0 : Int32) + (1 : Int32))), It (1 : Int32), Rf ro_1, .val (.int ((0 : Int32) + (1 : Int32)))]) rfl ?_
    refine XS.goto X3.here hx rfl (pc0 := 29) (pc' := 8) rfl (hb hby d19_29) (by decide) (by decide) ?_
    refine XS.iload X3.here hx rfl (hb hby d19_8) rfl ?_
    refine XS.iloadN X3.here hx rfl (hb hby d19_10) rfl ?_
    refine XS.icmpYes X3.here hx rfl (pc0 := 11) (pc' := 32) rfl (hb hby d19_11) rfl (flt (by decide : ¬ (((0 : Int32) + (1 : Int32)) < (1 : Int32)))).2.1 (by decide) (by decide) ?_
    refine XS.aloadN X3.here hx rfl (hb hby d19_32) rfl rfl ?_
    exact kt
  obtain ⟨fs, hr, hrun, hended, hW, hsame⟩ := X3.leave (v := some (.ref ro_1)) (fun h => by rw [Bd.returns] at h; cases h)
  refine ⟨_, _, pre0 _ (sg4 _ (?_)), hrun, hended, _, _, rfl, ?_, ⟨_, rfl⟩, hW, hsame.mono (by decide) (by decide)⟩
  · show Steps _ _ _ (T3.setTop (mkF m 33 #[Rf a1, .val (.int ((0 : Int32) + (1 : Int32))), It (1 : Int32), Rf ro_1, .val (.int ((0 : Int32) + (1 : Int32)))] [(.ref ro_1)])) _
    jvm_step X3.here [X3.here.top, hx, (hb hby d19_33), X3.method', Bd.returns, Value.isRef, FieldType.isReference]
    first | (intro acts; rw [hr _ acts rfl rfl rfl]) | rw [hr _ _ rfl rfl rfl]
    exact Steps.refl _
  · show Q19_1 Z a1 x1 ka h0 n0 _ T3.heap _
    exact ⟨ro_1, ko_1, rfl, N3, K3, O3, VX3, f1_1, (Nat.le_trans K0.1 f1_2)⟩
def Q21_2 (Z : State)  (h0 : Heap) (n0 : Nat) (v : Option Value) (h : Heap) (L : List Loc) : Prop := v = some (.int (4 : Int32)) ∧ Fr n0 L ∧ h = h0
theorem rm21_2 (l : Launch) (Z : State) (a0 : Array Value) (hw : ∀ d ∈ tables_1, d.before a0 Z = true) (ws : List Jvm.Cond)  (h0 : Heap) (n0 : Nat) (O0 : Old Z n0 h0) :
    MetFree l m_10 (head1 (Jvm.Cond.code m_10 jdk_52_method_3_code 1 (some .int) :: ws) (rk 0 0 0 0)) (fun a U => a = #[(.int (2 : Int32))] ∧ Z.Warmed39 U.vm ∧ U.heap = h0) (fun _ _ _ _ _ => True) (fun _ U o U' => ∃ v L, o = .returned v ∧ Q21_2 Z  h0 n0 v U'.heap L ∧ FrameEnd U o U' L (rk 0 0 0 0).cells (rk 0 0 0 0).slots) := by
  refine MetFree.of_bodySF (plainFor_of_name pn_2) hisR ?_
  intro p e s m args below meth c s₁ Bd hml0 hP hK
  obtain ⟨rfl, hZ, hh⟩ := hP
  have hx := Bd.exec
  have hby := Bd.bytes
  have hml : c.maxLocals = 1 := hml0
  have hown : s.vm.findClass "java/lang/StringUTF16" = some m.cls := findClass_of_methodNamed Bd.named
  have X0 : Stand p l e (rk 0 0 0 0) s m #[(.int (2 : Int32))] below meth c s₁ [] 0 0 := Stand.of_body Bd
  have e0 : s₁.heap = h0 := by rw [← hh, Bd.state]; rfl
  have N0 := Fr.nil n0
  have pre0 := own_pre (tb := p.tables) (e := e) (bl := below) (s := s₁) (ef_16 m (2 : Int32))
  have sg1 : SG p.tables e below (s₁.setTop (mkF m 58 #[It (2 : Int32)] [(.int ((2 : Int32) <<< ((1 : Int32) &&& 31)))])) (s₁.setTop (mkF m 0 #[It (2 : Int32)] [])) := by
    intro target kt
    show Steps _ _ _ (s₁.setTop (mkF m 0 #[It (2 : Int32)] [])) _
    refine XS.iloadN X0.here hx rfl (hb hby d21_0) rfl ?_
    refine XS.ifYes X0.here hx rfl (pc0 := 1) (pc' := 12) rfl (hb hby d21_1) rfl ((if0 _ _).trans (flt (by decide : ¬ ((2 : Int32) < (0 : Int32)))).2.1) (by decide) (by decide) ?_
    refine XS.iloadN X0.here hx rfl (hb hby d21_12) rfl ?_
    refine X0.ldcInt hx hown (mvT hZ (tw hw 98 rfl)) (g := (mkF m 13 #[It (2 : Int32)] [(.int (2 : Int32))])) rfl (hb hby d21_13) _ ?_
    refine XS.icmpYes X0.here hx rfl (pc0 := 15) (pc' := 55) rfl (hb hby d21_15) rfl (tlt (by decide : (2 : Int32) < (1073741823 : Int32))).1 (by decide) (by decide) ?_
    refine XS.iloadN X0.here hx rfl (hb hby d21_55) rfl ?_
    refine XS.iconst X0.here hx rfl (hb hby d21_56) ?_
    refine XS.ishl X0.here hx rfl (hb hby d21_57) rfl ?_
    exact kt
  obtain ⟨fs, hr, hrun, hended, hW, hsame⟩ := X0.leave (v := some (.int ((2 : Int32) <<< ((1 : Int32) &&& 31)))) (fun h => by rw [Bd.returns] at h; cases h)
  refine ⟨_, _, pre0 _ (sg1 _ (?_)), hrun, hended, _, _, rfl, ?_, ⟨_, rfl⟩, hW, hsame.mono (by decide) (by decide)⟩
  · show Steps _ _ _ (s₁.setTop (mkF m 58 #[It (2 : Int32)] [(.int ((2 : Int32) <<< ((1 : Int32) &&& 31)))])) _
    exact retI X0 hx Bd.returns (hb hby d21_58) hr
  · show Q21_2 Z  h0 n0 _ s₁.heap _
    rw [e0]
    exact ⟨(by decide), N0, rfl⟩
def Q20_2 (Z : State)  (h0 : Heap) (n0 : Nat) (v : Option Value) (h : Heap) (L : List Loc) : Prop := ∃ ro : Addr, ∃ ko : ClassId, v = some (.ref ro) ∧ Fr n0 L ∧ Keep h0 h [] ∧ Old Z n0 h ∧ Arv Z h ro ko .byte (4 : Int32) [(.int (0 : Int32)), (.int (0 : Int32)), (.int (0 : Int32)), (.int (0 : Int32))] (.int (0 : Int32)) ∧ n0 ≤ ro ∧ h0.size ≤ ro
theorem rm20_2 (l : Launch) (Z : State) (a0 : Array Value) (hw : ∀ d ∈ tables_1, d.before a0 Z = true) (ws : List Jvm.Cond)  (h0 : Heap) (n0 : Nat) (O0 : Old Z n0 h0) :
    MetFree l m_11 (head1 (Jvm.Cond.code m_11 jdk_52_method_2_code 1 (some (.array .byte)) :: ws) (rk 1 1 4 12)) (fun a U => a = #[(.int (2 : Int32))] ∧ Z.Warmed39 U.vm ∧ U.heap = h0) (fun _ _ _ _ _ => True) (fun _ U o U' => ∃ v L, o = .returned v ∧ Q20_2 Z  h0 n0 v U'.heap L ∧ FrameEnd U o U' L (rk 1 1 4 12).cells (rk 1 1 4 12).slots) := by
  refine MetFree.of_bodySF (plainFor_of_name pn_2) hisR ?_
  intro p e s m args below meth c s₁ Bd hml0 hP hK
  obtain ⟨rfl, hZ, hh⟩ := hP
  have hx := Bd.exec
  have hby := Bd.bytes
  have hml : c.maxLocals = 1 := hml0
  have hown : s.vm.findClass "java/lang/StringUTF16" = some m.cls := findClass_of_methodNamed Bd.named
  have X0 : Stand p l e (rk 1 1 4 12) s m #[(.int (2 : Int32))] below meth c s₁ [] 0 0 := Stand.of_body Bd
  have e0 : s₁.heap = h0 := by rw [← hh, Bd.state]; rfl
  have N0 := Fr.nil n0
  have pre0 := own_pre (tb := p.tables) (e := e) (bl := below) (s := s₁) (ef_16 m (2 : Int32))
  have K0 := Keep.refl h0 []
  obtain ⟨_, _, ⟨T1, L1, k1, n1⟩, -, X1, ⟨Lc1, hQ1, l1, y1, z1⟩, st1⟩ := Jvm.LawKit.callS X0 hx (y := m_10) hown (mvT hZ (tw hw 95 rfl)) (mvT hZ (tw hw 96 rfl)) (mvT hZ (tw hw 26 rfl)) (mvT hZ (tw hw 97 rfl)) (by decide) (backOf (W := 0) (rm21_2 l Z a0 hw []  h0 n0 O0 ) hZ (tw hw 97 rfl) (tw hw 26 rfl) (by decide) (by decide)) (g := (mkF m 1 #[It (2 : Int32)] [(.int (2 : Int32))])) rfl (by rw [hml]; rfl) (argsL := [(.int (2 : Int32))]) (rest := []) (lenOf pd_0 rfl) rfl (w0 rfl) (hb hby d20_1) (fun _ _ => ⟨rfl, e0, (by decide : 0 + 0 ≤ _), (by decide : 0 + 0 ≤ _)⟩)
  dsimp only [Pt.U, Pt.locs, Pt.cells, Pt.slots] at X1 l1 y1 z1 st1 hQ1
  subst l1 y1 z1
  obtain ⟨rfl, N1q, e1⟩ := hQ1
  have N1 := Fr.app N0 N1q
  obtain ⟨T2, h2, k2, X2, e2, E2, A2, st2⟩ := newP X1 hx hZ (tw hw 28 rfl) e1 (g := (mkF m 4 #[It (2 : Int32)] [(.int (4 : Int32))])) rfl (hb hby d20_4) rfl (by decide) (cap := 4) (by decide) (by decide) (by decide) (by decide)
  obtain ⟨b2, g2⟩ : ∃ z, z = h0.size := ⟨_, rfl⟩
  rw [← g2] at A2 st2
  have ge_b2 : n0 ≤ b2 := Nat.le_trans (own_osz O0) (Nat.le_of_eq g2.symm)
  have sz_b2 : h0.size ≤ b2 := Nat.le_trans K0.1 (Nat.le_of_eq g2.symm)
  have O3 := O0.ext E2
  have K2 := K0.ext E2
  have V_b2 : Arv Z h2 b2 k2 .byte (4 : Int32) [(.int (0 : Int32)), (.int (0 : Int32)), (.int (0 : Int32)), (.int (0 : Int32))] (.int (0 : Int32)) := (Arv.new A2 (by decide)).pad (pad_rep [] (.int (0 : Int32)) 4)
  have sg4 : SG p.tables e below (T2.setTop (mkF m 6 #[It (2 : Int32)] [(.ref b2)])) (s₁.setTop (mkF m 0 #[It (2 : Int32)] [])) := by
    intro target kt
    show Steps _ _ _ (s₁.setTop (mkF m 0 #[It (2 : Int32)] [])) _
    refine XS.iloadN X0.here hx rfl (hb hby d20_0) rfl ?_
    refine st1 _ ?_
    refine st2 _ ?_
    exact kt
  obtain ⟨fs, hr, hrun, hended, hW, hsame⟩ := X2.leave (v := some (.ref b2)) (fun h => by rw [Bd.returns] at h; cases h)
  refine ⟨_, _, pre0 _ (sg4 _ (?_)), hrun, hended, _, _, rfl, ?_, ⟨_, rfl⟩, hW, hsame.mono (by decide) (by decide)⟩
  · show Steps _ _ _ (T2.setTop (mkF m 6 #[It (2 : Int32)] [(.ref b2)])) _
    jvm_step X2.here [X2.here.top, hx, (hb hby d20_6), X2.method', Bd.returns, Value.isRef, FieldType.isReference]
    first | (intro acts; rw [hr _ acts rfl rfl rfl]) | rw [hr _ _ rfl rfl rfl]
    exact Steps.refl _
  · show Q20_2 Z  h0 n0 _ T2.heap _
    rw [e2]
    exact ⟨b2, k2, rfl, N1, K2, O3, V_b2, ge_b2, sz_b2⟩
def Q19_2 (Z : State) (a1 : Addr) (x1 : Int32) (x2 : Int32) (ka : ClassId) (h0 : Heap) (n0 : Nat) (v : Option Value) (h : Heap) (L : List Loc) : Prop := ∃ ro : Addr, ∃ ko : ClassId, v = some (.ref ro) ∧ Fr n0 L ∧ Keep h0 h [] ∧ Old Z n0 h ∧ Arv Z h ro ko .byte (4 : Int32) (ub2 x1 x2) (.int (0 : Int32)) ∧ n0 ≤ ro ∧ h0.size ≤ ro
theorem rm19_2 (l : Launch) (Z : State) (a0 : Array Value) (hw : ∀ d ∈ tables_1, d.before a0 Z = true) (ws : List Jvm.Cond) (a1 : Addr) (x1 : Int32) (x2 : Int32) (ka : ClassId) (h0 : Heap) (n0 : Nat) (O0 : Old Z n0 h0) (sA : TS_0 Z) (sH : TS_1 Z) (sL : TS_2 Z) (A_a1 : Arv Z h0 a1 ka .char (2 : Int32) [(.int x1), (.int x2)] (.int (0 : Int32))) :
    MetFree l m_12 (head1 (Jvm.Cond.code m_12 jdk_52_method_14_code 5 (some (.array .byte)) :: ws) (rk 2 1 4 24)) (fun a U => a = #[(.ref a1), (.int (0 : Int32)), (.int (2 : Int32))] ∧ Z.Warmed39 U.vm ∧ U.heap = h0) (fun _ _ _ _ _ => True) (fun _ U o U' => ∃ v L, o = .returned v ∧ Q19_2 Z a1 x1 x2 ka h0 n0 v U'.heap L ∧ FrameEnd U o U' L (rk 2 1 4 24).cells (rk 2 1 4 24).slots) := by
  refine MetFree.of_bodySF (plainFor_of_name pn_2) hisR ?_
  intro p e s m args below meth c s₁ Bd hml0 hP hK
  obtain ⟨rfl, hZ, hh⟩ := hP
  have hx := Bd.exec
  have hby := Bd.bytes
  have hml : c.maxLocals = 5 := hml0
  have hown : s.vm.findClass "java/lang/StringUTF16" = some m.cls := findClass_of_methodNamed Bd.named
  have X0 : Stand p l e (rk 2 1 4 24) s m #[(.ref a1), (.int (0 : Int32)), (.int (2 : Int32))] below meth c s₁ [] 0 0 := Stand.of_body Bd
  have e0 : s₁.heap = h0 := by rw [← hh, Bd.state]; rfl
  have N0 := Fr.nil n0
  have pre0 := own_pre (tb := p.tables) (e := e) (bl := below) (s := s₁) (ef_19_1 m a1 (0 : Int32) (2 : Int32))
  have K0 := Keep.refl h0 []
  obtain ⟨_, _, ⟨T1, L1, k1, n1⟩, -, X1, ⟨Lc1, hQ1, l1, y1, z1⟩, st1⟩ := Jvm.LawKit.callS X0 hx (y := m_11) hown (mvT hZ (tw hw 92 rfl)) (mvT hZ (tw hw 93 rfl)) (mvT hZ (tw hw 26 rfl)) (mvT hZ (tw hw 94 rfl)) (by decide) (backOf (W := 0) (rm20_2 l Z a0 hw []  h0 n0 O0 ) hZ (tw hw 94 rfl) (tw hw 26 rfl) (by decide) (by decide)) (g := (mkF m 1 #[Rf a1, It (0 : Int32), It (2 : Int32), .unset, .unset] [(.int (2 : Int32))])) rfl (by rw [hml]; rfl) (argsL := [(.int (2 : Int32))]) (rest := []) (lenOf pd_1 rfl) rfl (w0 rfl) (hb hby d19_1) (fun _ _ => ⟨rfl, e0, (by decide : 0 + 1 ≤ _), (by decide : 0 + 4 ≤ _)⟩)
  dsimp only [Pt.U, Pt.locs, Pt.cells, Pt.slots] at X1 l1 y1 z1 st1 hQ1
  subst l1 y1 z1
  obtain ⟨ro_1, ko_1, rfl, N1q, K1q, O1, f1_0, f1_1, f1_2⟩ := hQ1
  have N1 := Fr.app N0 N1q
  have K1 := K0.trans K1q all0
  obtain ⟨cl2, Ar2, -, Sz2, Nn2, Hh2, -⟩ := id (A_a1.keep K1q nin0)
  have hin2 : ¬ ((0 : Int32) < 0 ∨ cl2.slots.size ≤ ((0 : Int32)).toNatClampNeg) := inb_of Sz2 ⟨by decide, by decide⟩
  have hat2 : cl2.slots[((0 : Int32)).toNatClampNeg]? = some (.int x1) := Has.at Hh2 hin2 rfl
  obtain ⟨_, _, ⟨T3, L3, k3, n3⟩, -, X3, ⟨Lc3, hQ3, l3, y3, z3⟩, st3⟩ := Jvm.LawKit.callS X1 hx (y := m_8) hown (mvT hZ (tw hw 99 rfl)) (mvT hZ (tw hw 100 rfl)) (mvT hZ (tw hw 26 rfl)) (mvT hZ (tw hw 101 rfl)) (by decide) (backOf (W := 0) (rm22_0 l Z a0 hw [] ro_1 x1 (4 : Int32) ([(.int (0 : Int32)), (.int (0 : Int32)), (.int (0 : Int32)), (.int (0 : Int32))]) ko_1 T1.heap n0 O1 sA sH sL (by decide) (Nat.le_of_ble_eq_true rfl) f1_0 f1_1) hZ (tw hw 101 rfl) (tw hw 26 rfl) (by decide) (by decide)) (g := (mkF m 20 #[Rf a1, It (0 : Int32), It (2 : Int32), Rf ro_1, It (0 : Int32)] [(.int x1), (.int (0 : Int32)), (.ref ro_1)])) rfl (by rw [hml]; rfl) (argsL := [(.ref ro_1), (.int (0 : Int32)), (.int x1)]) (rest := []) (lenOf pd_2 rfl) rfl (w0 rfl) (hb hby d19_20) (fun _ _ => ⟨rfl, rfl, (by decide : 1 + 0 ≤ _), (by decide : 4 + 0 ≤ _)⟩)
  dsimp only [Pt.U, Pt.locs, Pt.cells, Pt.slots] at X3 l3 y3 z3 st3 hQ3
  subst l3 y3 z3
  obtain ⟨rfl, N3q, K3q, O3, f3_0⟩ := hQ3
  have N3 := Fr.app N1 N3q
  have K3 := K1.trans K3q (allS (Or.inr (Nat.le_trans K0.1 f1_2)) all0)
  have VX3 : Arv Z T3.heap ro_1 ko_1 .byte (4 : Int32) [(.int (lbt x1)), (.int (hbt x1)), (.int (0 : Int32)), (.int (0 : Int32))] (.int (0 : Int32)) := f3_0
  obtain ⟨cl4, Ar4, -, Sz4, Nn4, Hh4, -⟩ := id ((A_a1.keep K1q nin0).keep K3q (ninS (Nat.ne_of_lt (Nat.lt_of_lt_of_le A_a1.lt f1_2)) nin0))
  have hin4 : ¬ (((0 : Int32) + (1 : Int32)) < 0 ∨ cl4.slots.size ≤ (((0 : Int32) + (1 : Int32))).toNatClampNeg) := inb_of Sz4 ⟨by decide, by decide⟩
  have hat4 : cl4.slots[(((0 : Int32) + (1 : Int32))).toNatClampNeg]? = some (.int x2) := Has.at Hh4 hin4 rfl
  obtain ⟨_, _, ⟨T5, L5, k5, n5⟩, -, X5, ⟨Lc5, hQ5, l5, y5, z5⟩, st5⟩ := Jvm.LawKit.callS X3 hx (y := m_8) hown (mvT hZ (tw hw 99 rfl)) (mvT hZ (tw hw 100 rfl)) (mvT hZ (tw hw 26 rfl)) (mvT hZ (tw hw 101 rfl)) (by decide) (backOf (W := 0) (rm22_1 l Z a0 hw [] ro_1 x2 (4 : Int32) ([(.int (lbt x1)), (.int (hbt x1)), (.int (0 : Int32)), (.int (0 : Int32))]) ko_1 T3.heap n0 O3 sA sH sL (by decide) (Nat.le_of_ble_eq_true rfl) VX3 f1_1) hZ (tw hw 101 rfl) (tw hw 26 rfl) (by decide) (by decide)) (g := (mkF m 20 #[Rf a1, .val (.int ((0 : Int32) + (1 : Int32))), It (2 : Int32), Rf ro_1, .val (.int ((0 : Int32) + (1 : Int32)))] [(.int x2), (.int ((0 : Int32) + (1 : Int32))), (.ref ro_1)])) rfl (by rw [hml]; rfl) (argsL := [(.ref ro_1), (.int ((0 : Int32) + (1 : Int32))), (.int x2)]) (rest := []) (lenOf pd_2 rfl) rfl (w0 rfl) (hb hby d19_20) (fun _ _ => ⟨rfl, rfl, (by decide : 1 + 0 ≤ _), (by decide : 4 + 0 ≤ _)⟩)
  dsimp only [Pt.U, Pt.locs, Pt.cells, Pt.slots] at X5 l5 y5 z5 st5 hQ5
  subst l5 y5 z5
  obtain ⟨rfl, N5q, K5q, O5, f5_0⟩ := hQ5
  have N5 := Fr.app N3 N5q
  have K5 := K3.trans K5q (allS (Or.inr (Nat.le_trans K0.1 f1_2)) all0)
  have VX5 : Arv Z T5.heap ro_1 ko_1 .byte (4 : Int32) [(.int (lbt x1)), (.int (hbt x1)), (.int (lbt x2)), (.int (hbt x2))] (.int (0 : Int32)) := f5_0
  have sg6 : SG p.tables e below (T5.setTop (mkF m 33 #[Rf a1, .val (.int (((0 : Int32) + (1 : Int32)) + (1 : Int32))), It (2 : Int32), Rf ro_1, .val (.int (((0 : Int32) + (1 : Int32)) + (1 : Int32)))] [(.ref ro_1)])) (s₁.setTop (mkF m 0 #[Rf a1, It (0 : Int32), It (2 : Int32), .unset, .unset] [])) := by
    intro target kt
    show Steps _ _ _ (s₁.setTop (mkF m 0 #[Rf a1, It (0 : Int32), It (2 : Int32), .unset, .unset] [])) _
    refine XS.iloadN X0.here hx rfl (hb hby d19_0) rfl ?_
    refine st1 _ ?_
    refine XS.astoreN X1.here hx rfl (hb hby d19_4) rfl rfl (l' := #[Rf a1, It (0 : Int32), It (2 : Int32), Rf ro_1, .unset]) rfl ?_
    refine XS.iconst X1.here hx rfl (hb hby d19_5) ?_
    refine XS.istore X1.here hx rfl (hb hby d19_6) rfl (l' := #[Rf a1, It (0 : Int32), It (2 : Int32), Rf ro_1, It (0 : Int32)]) rfl ?_
    refine XS.iload X1.here hx rfl (hb hby d19_8) rfl ?_
    refine XS.iloadN X1.here hx rfl (hb hby d19_10) rfl ?_
    refine XS.icmpNo X1.here hx rfl (hb hby d19_11) rfl (tlt (by decide : (0 : Int32) < (2 : Int32))).2.1 ?_
    refine XS.aloadN X1.here hx rfl (hb hby d19_14) rfl rfl ?_
    refine XS.iload X1.here hx rfl (hb hby d19_15) rfl ?_
    refine XS.aloadN X1.here hx rfl (hb hby d19_17) rfl rfl ?_
    refine XS.iloadN X1.here hx rfl (hb hby d19_18) rfl ?_
    refine X1.caload hx (j := (0 : Int32)) (v := (.int x1)) (own_rwh rfl Ar2.1) (State.isArrayOf_alike hZ.alike Ar2.2.1) Ar2.2.2 hin2 hat2 (g := (mkF m 19 #[Rf a1, It (0 : Int32), It (2 : Int32), Rf ro_1, It (0 : Int32)] [(.int (0 : Int32)), (.ref a1), (.int (0 : Int32)), (.ref ro_1)])) rfl rfl (hb hby d19_19) _ ?_
    refine st3 _ ?_
    refine XS.iinc X3.here hx rfl (hb hby d19_23) rfl (l' := #[Rf a1, .val (.int ((0 : Int32) + (1 : Int32))), It (2 : Int32), Rf ro_1, It (0 : Int32)]) rfl ?_
    refine XS.iinc X3.here hx rfl (hb hby d19_26) rfl (l' := #[Rf a1, .val (.int ((0 : Int32) + (1 : Int32))), It (2 : Int32), Rf ro_1, .val (.int ((0 : Int32) + (1 : Int32)))]) rfl ?_
    refine XS.goto X3.here hx rfl (pc0 := 29) (pc' := 8) rfl (hb hby d19_29) (by decide) (by decide) ?_
    refine XS.iload X3.here hx rfl (hb hby d19_8) rfl ?_
    refine XS.iloadN X3.here hx rfl (hb hby d19_10) rfl ?_
    refine XS.icmpNo X3.here hx rfl (hb hby d19_11) rfl (tlt (by decide : ((0 : Int32) + (1 : Int32)) < (2 : Int32))).2.1 ?_
    refine XS.aloadN X3.here hx rfl (hb hby d19_14) rfl rfl ?_
    refine XS.iload X3.here hx rfl (hb hby d19_15) rfl ?_
    refine XS.aloadN X3.here hx rfl (hb hby d19_17) rfl rfl ?_
    refine XS.iloadN X3.here hx rfl (hb hby d19_18) rfl ?_
    refine X3.caload hx (j := ((0 : Int32) + (1 : Int32))) (v := (.int x2)) (own_rwh rfl Ar4.1) (State.isArrayOf_alike hZ.alike Ar4.2.1) Ar4.2.2 hin4 hat4 (g := (mkF m 19 #[Rf a1, .val (.int ((0 : Int32) + (1 : Int32))), It (2 : Int32), Rf ro_1, .val (.int ((0 : Int32) + (1 : Int32)))] [(.int ((0 : Int32) + (1 : Int32))), (.ref a1), (.int ((0 : Int32) + (1 : Int32))), (.ref ro_1)])) rfl rfl (hb hby d19_19) _ ?_
    refine st5 _ ?_
    refine XS.iinc X5.here hx rfl (hb hby d19_23) rfl (l' := #[Rf a1, .val (.int (((0 : Int32) + (1 : Int32)) + (1 : Int32))), It (2 : Int32), Rf ro_1, .val (.int ((0 : Int32) + (1 : Int32)))]) rfl ?_
    refine XS.iinc X5.here hx rfl (hb hby d19_26) rfl (l' := #[Rf a1, .val (.int (((0 : Int32) + (1 : Int32)) + (1 : Int32))), It (2 : Int32), Rf ro_1, .val (.int (((0 : Int32) + (1 : Int32)) + (1 : Int32)))]) rfl ?_
    refine XS.goto X5.here hx rfl (pc0 := 29) (pc' := 8) rfl (hb hby d19_29) (by decide) (by decide) ?_
    refine XS.iload X5.here hx rfl (hb hby d19_8) rfl ?_
    show Steps _ _ _ (T5.setTop (mkF m 10 #[Rf a1, .val (.int (((0 : Int32) + (1 : Int32)) + (1 : Int32))), It (2 : Int32), Rf ro_1, .val (.int (((0 : Int32) + (1 : Int32)) + (1 : Int32)))] [(.int (((0 : Int32) + (1 : Int32)) + (1 : Int32)))])) _
    refine XS.iloadN X5.here hx rfl (hb hby d19_10) rfl ?_
    refine XS.icmpYes X5.here hx rfl (pc0 := 11) (pc' := 32) rfl (hb hby d19_11) rfl (flt (by decide : ¬ ((((0 : Int32) + (1 : Int32)) + (1 : Int32)) < (2 : Int32)))).2.1 (by decide) (by decide) ?_
    refine XS.aloadN X5.here hx rfl (hb hby d19_32) rfl rfl ?_
    exact kt
  obtain ⟨fs, hr, hrun, hended, hW, hsame⟩ := X5.leave (v := some (.ref ro_1)) (fun h => by rw [Bd.returns] at h; cases h)
  refine ⟨_, _, pre0 _ (sg6 _ (?_)), hrun, hended, _, _, rfl, ?_, ⟨_, rfl⟩, hW, hsame.mono (by decide) (by decide)⟩
  · show Steps _ _ _ (T5.setTop (mkF m 33 #[Rf a1, .val (.int (((0 : Int32) + (1 : Int32)) + (1 : Int32))), It (2 : Int32), Rf ro_1, .val (.int (((0 : Int32) + (1 : Int32)) + (1 : Int32)))] [(.ref ro_1)])) _
    jvm_step X5.here [X5.here.top, hx, (hb hby d19_33), X5.method', Bd.returns, Value.isRef, FieldType.isReference]
    first | (intro acts; rw [hr _ acts rfl rfl rfl]) | rw [hr _ _ rfl rfl rfl]
    exact Steps.refl _
  · show Q19_2 Z a1 x1 x2 ka h0 n0 _ T5.heap _
    exact ⟨ro_1, ko_1, rfl, N5, K5, O5, VX5, f1_1, (Nat.le_trans K0.1 f1_2)⟩
def Q21_3 (Z : State)  (h0 : Heap) (n0 : Nat) (v : Option Value) (h : Heap) (L : List Loc) : Prop := v = some (.int (6 : Int32)) ∧ Fr n0 L ∧ h = h0
theorem rm21_3 (l : Launch) (Z : State) (a0 : Array Value) (hw : ∀ d ∈ tables_1, d.before a0 Z = true) (ws : List Jvm.Cond)  (h0 : Heap) (n0 : Nat) (O0 : Old Z n0 h0) :
    MetFree l m_10 (head1 (Jvm.Cond.code m_10 jdk_52_method_3_code 1 (some .int) :: ws) (rk 0 0 0 0)) (fun a U => a = #[(.int (3 : Int32))] ∧ Z.Warmed39 U.vm ∧ U.heap = h0) (fun _ _ _ _ _ => True) (fun _ U o U' => ∃ v L, o = .returned v ∧ Q21_3 Z  h0 n0 v U'.heap L ∧ FrameEnd U o U' L (rk 0 0 0 0).cells (rk 0 0 0 0).slots) := by
  refine MetFree.of_bodySF (plainFor_of_name pn_2) hisR ?_
  intro p e s m args below meth c s₁ Bd hml0 hP hK
  obtain ⟨rfl, hZ, hh⟩ := hP
  have hx := Bd.exec
  have hby := Bd.bytes
  have hml : c.maxLocals = 1 := hml0
  have hown : s.vm.findClass "java/lang/StringUTF16" = some m.cls := findClass_of_methodNamed Bd.named
  have X0 : Stand p l e (rk 0 0 0 0) s m #[(.int (3 : Int32))] below meth c s₁ [] 0 0 := Stand.of_body Bd
  have e0 : s₁.heap = h0 := by rw [← hh, Bd.state]; rfl
  have N0 := Fr.nil n0
  have pre0 := own_pre (tb := p.tables) (e := e) (bl := below) (s := s₁) (ef_16 m (3 : Int32))
  have sg1 : SG p.tables e below (s₁.setTop (mkF m 58 #[It (3 : Int32)] [(.int ((3 : Int32) <<< ((1 : Int32) &&& 31)))])) (s₁.setTop (mkF m 0 #[It (3 : Int32)] [])) := by
    intro target kt
    show Steps _ _ _ (s₁.setTop (mkF m 0 #[It (3 : Int32)] [])) _
    refine XS.iloadN X0.here hx rfl (hb hby d21_0) rfl ?_
    refine XS.ifYes X0.here hx rfl (pc0 := 1) (pc' := 12) rfl (hb hby d21_1) rfl ((if0 _ _).trans (flt (by decide : ¬ ((3 : Int32) < (0 : Int32)))).2.1) (by decide) (by decide) ?_
    refine XS.iloadN X0.here hx rfl (hb hby d21_12) rfl ?_
    refine X0.ldcInt hx hown (mvT hZ (tw hw 98 rfl)) (g := (mkF m 13 #[It (3 : Int32)] [(.int (3 : Int32))])) rfl (hb hby d21_13) _ ?_
    refine XS.icmpYes X0.here hx rfl (pc0 := 15) (pc' := 55) rfl (hb hby d21_15) rfl (tlt (by decide : (3 : Int32) < (1073741823 : Int32))).1 (by decide) (by decide) ?_
    refine XS.iloadN X0.here hx rfl (hb hby d21_55) rfl ?_
    refine XS.iconst X0.here hx rfl (hb hby d21_56) ?_
    refine XS.ishl X0.here hx rfl (hb hby d21_57) rfl ?_
    exact kt
  obtain ⟨fs, hr, hrun, hended, hW, hsame⟩ := X0.leave (v := some (.int ((3 : Int32) <<< ((1 : Int32) &&& 31)))) (fun h => by rw [Bd.returns] at h; cases h)
  refine ⟨_, _, pre0 _ (sg1 _ (?_)), hrun, hended, _, _, rfl, ?_, ⟨_, rfl⟩, hW, hsame.mono (by decide) (by decide)⟩
  · show Steps _ _ _ (s₁.setTop (mkF m 58 #[It (3 : Int32)] [(.int ((3 : Int32) <<< ((1 : Int32) &&& 31)))])) _
    exact retI X0 hx Bd.returns (hb hby d21_58) hr
  · show Q21_3 Z  h0 n0 _ s₁.heap _
    rw [e0]
    exact ⟨(by decide), N0, rfl⟩
def Q20_3 (Z : State)  (h0 : Heap) (n0 : Nat) (v : Option Value) (h : Heap) (L : List Loc) : Prop := ∃ ro : Addr, ∃ ko : ClassId, v = some (.ref ro) ∧ Fr n0 L ∧ Keep h0 h [] ∧ Old Z n0 h ∧ Arv Z h ro ko .byte (6 : Int32) [(.int (0 : Int32)), (.int (0 : Int32)), (.int (0 : Int32)), (.int (0 : Int32)), (.int (0 : Int32)), (.int (0 : Int32))] (.int (0 : Int32)) ∧ n0 ≤ ro ∧ h0.size ≤ ro
theorem rm20_3 (l : Launch) (Z : State) (a0 : Array Value) (hw : ∀ d ∈ tables_1, d.before a0 Z = true) (ws : List Jvm.Cond)  (h0 : Heap) (n0 : Nat) (O0 : Old Z n0 h0) :
    MetFree l m_11 (head1 (Jvm.Cond.code m_11 jdk_52_method_2_code 1 (some (.array .byte)) :: ws) (rk 1 1 6 12)) (fun a U => a = #[(.int (3 : Int32))] ∧ Z.Warmed39 U.vm ∧ U.heap = h0) (fun _ _ _ _ _ => True) (fun _ U o U' => ∃ v L, o = .returned v ∧ Q20_3 Z  h0 n0 v U'.heap L ∧ FrameEnd U o U' L (rk 1 1 6 12).cells (rk 1 1 6 12).slots) := by
  refine MetFree.of_bodySF (plainFor_of_name pn_2) hisR ?_
  intro p e s m args below meth c s₁ Bd hml0 hP hK
  obtain ⟨rfl, hZ, hh⟩ := hP
  have hx := Bd.exec
  have hby := Bd.bytes
  have hml : c.maxLocals = 1 := hml0
  have hown : s.vm.findClass "java/lang/StringUTF16" = some m.cls := findClass_of_methodNamed Bd.named
  have X0 : Stand p l e (rk 1 1 6 12) s m #[(.int (3 : Int32))] below meth c s₁ [] 0 0 := Stand.of_body Bd
  have e0 : s₁.heap = h0 := by rw [← hh, Bd.state]; rfl
  have N0 := Fr.nil n0
  have pre0 := own_pre (tb := p.tables) (e := e) (bl := below) (s := s₁) (ef_16 m (3 : Int32))
  have K0 := Keep.refl h0 []
  obtain ⟨_, _, ⟨T1, L1, k1, n1⟩, -, X1, ⟨Lc1, hQ1, l1, y1, z1⟩, st1⟩ := Jvm.LawKit.callS X0 hx (y := m_10) hown (mvT hZ (tw hw 95 rfl)) (mvT hZ (tw hw 96 rfl)) (mvT hZ (tw hw 26 rfl)) (mvT hZ (tw hw 97 rfl)) (by decide) (backOf (W := 0) (rm21_3 l Z a0 hw []  h0 n0 O0 ) hZ (tw hw 97 rfl) (tw hw 26 rfl) (by decide) (by decide)) (g := (mkF m 1 #[It (3 : Int32)] [(.int (3 : Int32))])) rfl (by rw [hml]; rfl) (argsL := [(.int (3 : Int32))]) (rest := []) (lenOf pd_0 rfl) rfl (w0 rfl) (hb hby d20_1) (fun _ _ => ⟨rfl, e0, (by decide : 0 + 0 ≤ _), (by decide : 0 + 0 ≤ _)⟩)
  dsimp only [Pt.U, Pt.locs, Pt.cells, Pt.slots] at X1 l1 y1 z1 st1 hQ1
  subst l1 y1 z1
  obtain ⟨rfl, N1q, e1⟩ := hQ1
  have N1 := Fr.app N0 N1q
  obtain ⟨T2, h2, k2, X2, e2, E2, A2, st2⟩ := newP X1 hx hZ (tw hw 28 rfl) e1 (g := (mkF m 4 #[It (3 : Int32)] [(.int (6 : Int32))])) rfl (hb hby d20_4) rfl (by decide) (cap := 6) (by decide) (by decide) (by decide) (by decide)
  obtain ⟨b2, g2⟩ : ∃ z, z = h0.size := ⟨_, rfl⟩
  rw [← g2] at A2 st2
  have ge_b2 : n0 ≤ b2 := Nat.le_trans (own_osz O0) (Nat.le_of_eq g2.symm)
  have sz_b2 : h0.size ≤ b2 := Nat.le_trans K0.1 (Nat.le_of_eq g2.symm)
  have O3 := O0.ext E2
  have K2 := K0.ext E2
  have V_b2 : Arv Z h2 b2 k2 .byte (6 : Int32) [(.int (0 : Int32)), (.int (0 : Int32)), (.int (0 : Int32)), (.int (0 : Int32)), (.int (0 : Int32)), (.int (0 : Int32))] (.int (0 : Int32)) := (Arv.new A2 (by decide)).pad (pad_rep [] (.int (0 : Int32)) 6)
  have sg4 : SG p.tables e below (T2.setTop (mkF m 6 #[It (3 : Int32)] [(.ref b2)])) (s₁.setTop (mkF m 0 #[It (3 : Int32)] [])) := by
    intro target kt
    show Steps _ _ _ (s₁.setTop (mkF m 0 #[It (3 : Int32)] [])) _
    refine XS.iloadN X0.here hx rfl (hb hby d20_0) rfl ?_
    refine st1 _ ?_
    refine st2 _ ?_
    exact kt
  obtain ⟨fs, hr, hrun, hended, hW, hsame⟩ := X2.leave (v := some (.ref b2)) (fun h => by rw [Bd.returns] at h; cases h)
  refine ⟨_, _, pre0 _ (sg4 _ (?_)), hrun, hended, _, _, rfl, ?_, ⟨_, rfl⟩, hW, hsame.mono (by decide) (by decide)⟩
  · show Steps _ _ _ (T2.setTop (mkF m 6 #[It (3 : Int32)] [(.ref b2)])) _
    jvm_step X2.here [X2.here.top, hx, (hb hby d20_6), X2.method', Bd.returns, Value.isRef, FieldType.isReference]
    first | (intro acts; rw [hr _ acts rfl rfl rfl]) | rw [hr _ _ rfl rfl rfl]
    exact Steps.refl _
  · show Q20_3 Z  h0 n0 _ T2.heap _
    rw [e2]
    exact ⟨b2, k2, rfl, N1, K2, O3, V_b2, ge_b2, sz_b2⟩
def Q19_3 (Z : State) (a1 : Addr) (x1 : Int32) (x2 : Int32) (x3 : Int32) (ka : ClassId) (h0 : Heap) (n0 : Nat) (v : Option Value) (h : Heap) (L : List Loc) : Prop := ∃ ro : Addr, ∃ ko : ClassId, v = some (.ref ro) ∧ Fr n0 L ∧ Keep h0 h [] ∧ Old Z n0 h ∧ Arv Z h ro ko .byte (6 : Int32) (ub3 x1 x2 x3) (.int (0 : Int32)) ∧ n0 ≤ ro ∧ h0.size ≤ ro
theorem rm19_3 (l : Launch) (Z : State) (a0 : Array Value) (hw : ∀ d ∈ tables_1, d.before a0 Z = true) (ws : List Jvm.Cond) (a1 : Addr) (x1 : Int32) (x2 : Int32) (x3 : Int32) (ka : ClassId) (h0 : Heap) (n0 : Nat) (O0 : Old Z n0 h0) (sA : TS_0 Z) (sH : TS_1 Z) (sL : TS_2 Z) (A_a1 : Arv Z h0 a1 ka .char (3 : Int32) [(.int x1), (.int x2), (.int x3)] (.int (0 : Int32))) :
    MetFree l m_12 (head1 (Jvm.Cond.code m_12 jdk_52_method_14_code 5 (some (.array .byte)) :: ws) (rk 2 1 6 24)) (fun a U => a = #[(.ref a1), (.int (0 : Int32)), (.int (3 : Int32))] ∧ Z.Warmed39 U.vm ∧ U.heap = h0) (fun _ _ _ _ _ => True) (fun _ U o U' => ∃ v L, o = .returned v ∧ Q19_3 Z a1 x1 x2 x3 ka h0 n0 v U'.heap L ∧ FrameEnd U o U' L (rk 2 1 6 24).cells (rk 2 1 6 24).slots) := by
  refine MetFree.of_bodySF (plainFor_of_name pn_2) hisR ?_
  intro p e s m args below meth c s₁ Bd hml0 hP hK
  obtain ⟨rfl, hZ, hh⟩ := hP
  have hx := Bd.exec
  have hby := Bd.bytes
  have hml : c.maxLocals = 5 := hml0
  have hown : s.vm.findClass "java/lang/StringUTF16" = some m.cls := findClass_of_methodNamed Bd.named
  have X0 : Stand p l e (rk 2 1 6 24) s m #[(.ref a1), (.int (0 : Int32)), (.int (3 : Int32))] below meth c s₁ [] 0 0 := Stand.of_body Bd
  have e0 : s₁.heap = h0 := by rw [← hh, Bd.state]; rfl
  have N0 := Fr.nil n0
  have pre0 := own_pre (tb := p.tables) (e := e) (bl := below) (s := s₁) (ef_19_1 m a1 (0 : Int32) (3 : Int32))
  have K0 := Keep.refl h0 []
  obtain ⟨_, _, ⟨T1, L1, k1, n1⟩, -, X1, ⟨Lc1, hQ1, l1, y1, z1⟩, st1⟩ := Jvm.LawKit.callS X0 hx (y := m_11) hown (mvT hZ (tw hw 92 rfl)) (mvT hZ (tw hw 93 rfl)) (mvT hZ (tw hw 26 rfl)) (mvT hZ (tw hw 94 rfl)) (by decide) (backOf (W := 0) (rm20_3 l Z a0 hw []  h0 n0 O0 ) hZ (tw hw 94 rfl) (tw hw 26 rfl) (by decide) (by decide)) (g := (mkF m 1 #[Rf a1, It (0 : Int32), It (3 : Int32), .unset, .unset] [(.int (3 : Int32))])) rfl (by rw [hml]; rfl) (argsL := [(.int (3 : Int32))]) (rest := []) (lenOf pd_1 rfl) rfl (w0 rfl) (hb hby d19_1) (fun _ _ => ⟨rfl, e0, (by decide : 0 + 1 ≤ _), (by decide : 0 + 6 ≤ _)⟩)
  dsimp only [Pt.U, Pt.locs, Pt.cells, Pt.slots] at X1 l1 y1 z1 st1 hQ1
  subst l1 y1 z1
  obtain ⟨ro_1, ko_1, rfl, N1q, K1q, O1, f1_0, f1_1, f1_2⟩ := hQ1
  have N1 := Fr.app N0 N1q
  have K1 := K0.trans K1q all0
  obtain ⟨cl2, Ar2, -, Sz2, Nn2, Hh2, -⟩ := id (A_a1.keep K1q nin0)
  have hin2 : ¬ ((0 : Int32) < 0 ∨ cl2.slots.size ≤ ((0 : Int32)).toNatClampNeg) := inb_of Sz2 ⟨by decide, by decide⟩
  have hat2 : cl2.slots[((0 : Int32)).toNatClampNeg]? = some (.int x1) := Has.at Hh2 hin2 rfl
  obtain ⟨_, _, ⟨T3, L3, k3, n3⟩, -, X3, ⟨Lc3, hQ3, l3, y3, z3⟩, st3⟩ := Jvm.LawKit.callS X1 hx (y := m_8) hown (mvT hZ (tw hw 99 rfl)) (mvT hZ (tw hw 100 rfl)) (mvT hZ (tw hw 26 rfl)) (mvT hZ (tw hw 101 rfl)) (by decide) (backOf (W := 0) (rm22_0 l Z a0 hw [] ro_1 x1 (6 : Int32) ([(.int (0 : Int32)), (.int (0 : Int32)), (.int (0 : Int32)), (.int (0 : Int32)), (.int (0 : Int32)), (.int (0 : Int32))]) ko_1 T1.heap n0 O1 sA sH sL (by decide) (Nat.le_of_ble_eq_true rfl) f1_0 f1_1) hZ (tw hw 101 rfl) (tw hw 26 rfl) (by decide) (by decide)) (g := (mkF m 20 #[Rf a1, It (0 : Int32), It (3 : Int32), Rf ro_1, It (0 : Int32)] [(.int x1), (.int (0 : Int32)), (.ref ro_1)])) rfl (by rw [hml]; rfl) (argsL := [(.ref ro_1), (.int (0 : Int32)), (.int x1)]) (rest := []) (lenOf pd_2 rfl) rfl (w0 rfl) (hb hby d19_20) (fun _ _ => ⟨rfl, rfl, (by decide : 1 + 0 ≤ _), (by decide : 6 + 0 ≤ _)⟩)
  dsimp only [Pt.U, Pt.locs, Pt.cells, Pt.slots] at X3 l3 y3 z3 st3 hQ3
  subst l3 y3 z3
  obtain ⟨rfl, N3q, K3q, O3, f3_0⟩ := hQ3
  have N3 := Fr.app N1 N3q
  have K3 := K1.trans K3q (allS (Or.inr (Nat.le_trans K0.1 f1_2)) all0)
  have VX3 : Arv Z T3.heap ro_1 ko_1 .byte (6 : Int32) [(.int (lbt x1)), (.int (hbt x1)), (.int (0 : Int32)), (.int (0 : Int32)), (.int (0 : Int32)), (.int (0 : Int32))] (.int (0 : Int32)) := f3_0
  obtain ⟨cl4, Ar4, -, Sz4, Nn4, Hh4, -⟩ := id ((A_a1.keep K1q nin0).keep K3q (ninS (Nat.ne_of_lt (Nat.lt_of_lt_of_le A_a1.lt f1_2)) nin0))
  have hin4 : ¬ (((0 : Int32) + (1 : Int32)) < 0 ∨ cl4.slots.size ≤ (((0 : Int32) + (1 : Int32))).toNatClampNeg) := inb_of Sz4 ⟨by decide, by decide⟩
  have hat4 : cl4.slots[(((0 : Int32) + (1 : Int32))).toNatClampNeg]? = some (.int x2) := Has.at Hh4 hin4 rfl
  obtain ⟨_, _, ⟨T5, L5, k5, n5⟩, -, X5, ⟨Lc5, hQ5, l5, y5, z5⟩, st5⟩ := Jvm.LawKit.callS X3 hx (y := m_8) hown (mvT hZ (tw hw 99 rfl)) (mvT hZ (tw hw 100 rfl)) (mvT hZ (tw hw 26 rfl)) (mvT hZ (tw hw 101 rfl)) (by decide) (backOf (W := 0) (rm22_1 l Z a0 hw [] ro_1 x2 (6 : Int32) ([(.int (lbt x1)), (.int (hbt x1)), (.int (0 : Int32)), (.int (0 : Int32)), (.int (0 : Int32)), (.int (0 : Int32))]) ko_1 T3.heap n0 O3 sA sH sL (by decide) (Nat.le_of_ble_eq_true rfl) VX3 f1_1) hZ (tw hw 101 rfl) (tw hw 26 rfl) (by decide) (by decide)) (g := (mkF m 20 #[Rf a1, .val (.int ((0 : Int32) + (1 : Int32))), It (3 : Int32), Rf ro_1, .val (.int ((0 : Int32) + (1 : Int32)))] [(.int x2), (.int ((0 : Int32) + (1 : Int32))), (.ref ro_1)])) rfl (by rw [hml]; rfl) (argsL := [(.ref ro_1), (.int ((0 : Int32) + (1 : Int32))), (.int x2)]) (rest := []) (lenOf pd_2 rfl) rfl (w0 rfl) (hb hby d19_20) (fun _ _ => ⟨rfl, rfl, (by decide : 1 + 0 ≤ _), (by decide : 6 + 0 ≤ _)⟩)
  dsimp only [Pt.U, Pt.locs, Pt.cells, Pt.slots] at X5 l5 y5 z5 st5 hQ5
  subst l5 y5 z5
  obtain ⟨rfl, N5q, K5q, O5, f5_0⟩ := hQ5
  have N5 := Fr.app N3 N5q
  have K5 := K3.trans K5q (allS (Or.inr (Nat.le_trans K0.1 f1_2)) all0)
  have VX5 : Arv Z T5.heap ro_1 ko_1 .byte (6 : Int32) [(.int (lbt x1)), (.int (hbt x1)), (.int (lbt x2)), (.int (hbt x2)), (.int (0 : Int32)), (.int (0 : Int32))] (.int (0 : Int32)) := f5_0
  obtain ⟨cl6, Ar6, -, Sz6, Nn6, Hh6, -⟩ := id (((A_a1.keep K1q nin0).keep K3q (ninS (Nat.ne_of_lt (Nat.lt_of_lt_of_le A_a1.lt f1_2)) nin0)).keep K5q (ninS (Nat.ne_of_lt (Nat.lt_of_lt_of_le A_a1.lt f1_2)) nin0))
  have hin6 : ¬ ((((0 : Int32) + (1 : Int32)) + (1 : Int32)) < 0 ∨ cl6.slots.size ≤ ((((0 : Int32) + (1 : Int32)) + (1 : Int32))).toNatClampNeg) := inb_of Sz6 ⟨by decide, by decide⟩
  have hat6 : cl6.slots[((((0 : Int32) + (1 : Int32)) + (1 : Int32))).toNatClampNeg]? = some (.int x3) := Has.at Hh6 hin6 rfl
  obtain ⟨_, _, ⟨T7, L7, k7, n7⟩, -, X7, ⟨Lc7, hQ7, l7, y7, z7⟩, st7⟩ := Jvm.LawKit.callS X5 hx (y := m_8) hown (mvT hZ (tw hw 99 rfl)) (mvT hZ (tw hw 100 rfl)) (mvT hZ (tw hw 26 rfl)) (mvT hZ (tw hw 101 rfl)) (by decide) (backOf (W := 0) (rm22_2 l Z a0 hw [] ro_1 x3 (6 : Int32) ([(.int (lbt x1)), (.int (hbt x1)), (.int (lbt x2)), (.int (hbt x2)), (.int (0 : Int32)), (.int (0 : Int32))]) ko_1 T5.heap n0 O5 sA sH sL (by decide) (Nat.le_of_ble_eq_true rfl) VX5 f1_1) hZ (tw hw 101 rfl) (tw hw 26 rfl) (by decide) (by decide)) (g := (mkF m 20 #[Rf a1, .val (.int (((0 : Int32) + (1 : Int32)) + (1 : Int32))), It (3 : Int32), Rf ro_1, .val (.int (((0 : Int32) + (1 : Int32)) + (1 : Int32)))] [(.int x3), (.int (((0 : Int32) + (1 : Int32)) + (1 : Int32))), (.ref ro_1)])) rfl (by rw [hml]; rfl) (argsL := [(.ref ro_1), (.int (((0 : Int32) + (1 : Int32)) + (1 : Int32))), (.int x3)]) (rest := []) (lenOf pd_2 rfl) rfl (w0 rfl) (hb hby d19_20) (fun _ _ => ⟨rfl, rfl, (by decide : 1 + 0 ≤ _), (by decide : 6 + 0 ≤ _)⟩)
  dsimp only [Pt.U, Pt.locs, Pt.cells, Pt.slots] at X7 l7 y7 z7 st7 hQ7
  subst l7 y7 z7
  obtain ⟨rfl, N7q, K7q, O7, f7_0⟩ := hQ7
  have N7 := Fr.app N5 N7q
  have K7 := K5.trans K7q (allS (Or.inr (Nat.le_trans K0.1 f1_2)) all0)
  have VX7 : Arv Z T7.heap ro_1 ko_1 .byte (6 : Int32) [(.int (lbt x1)), (.int (hbt x1)), (.int (lbt x2)), (.int (hbt x2)), (.int (lbt x3)), (.int (hbt x3))] (.int (0 : Int32)) := f7_0
  have sg8 : SG p.tables e below (T7.setTop (mkF m 33 #[Rf a1, .val (.int ((((0 : Int32) + (1 : Int32)) + (1 : Int32)) + (1 : Int32))), It (3 : Int32), Rf ro_1, .val (.int ((((0 : Int32) + (1 : Int32)) + (1 : Int32)) + (1 : Int32)))] [(.ref ro_1)])) (s₁.setTop (mkF m 0 #[Rf a1, It (0 : Int32), It (3 : Int32), .unset, .unset] [])) := by
    intro target kt
    show Steps _ _ _ (s₁.setTop (mkF m 0 #[Rf a1, It (0 : Int32), It (3 : Int32), .unset, .unset] [])) _
    refine XS.iloadN X0.here hx rfl (hb hby d19_0) rfl ?_
    refine st1 _ ?_
    refine XS.astoreN X1.here hx rfl (hb hby d19_4) rfl rfl (l' := #[Rf a1, It (0 : Int32), It (3 : Int32), Rf ro_1, .unset]) rfl ?_
    refine XS.iconst X1.here hx rfl (hb hby d19_5) ?_
    refine XS.istore X1.here hx rfl (hb hby d19_6) rfl (l' := #[Rf a1, It (0 : Int32), It (3 : Int32), Rf ro_1, It (0 : Int32)]) rfl ?_
    refine XS.iload X1.here hx rfl (hb hby d19_8) rfl ?_
    refine XS.iloadN X1.here hx rfl (hb hby d19_10) rfl ?_
    refine XS.icmpNo X1.here hx rfl (hb hby d19_11) rfl (tlt (by decide : (0 : Int32) < (3 : Int32))).2.1 ?_
    refine XS.aloadN X1.here hx rfl (hb hby d19_14) rfl rfl ?_
    refine XS.iload X1.here hx rfl (hb hby d19_15) rfl ?_
    refine XS.aloadN X1.here hx rfl (hb hby d19_17) rfl rfl ?_
    refine XS.iloadN X1.here hx rfl (hb hby d19_18) rfl ?_
    refine X1.caload hx (j := (0 : Int32)) (v := (.int x1)) (own_rwh rfl Ar2.1) (State.isArrayOf_alike hZ.alike Ar2.2.1) Ar2.2.2 hin2 hat2 (g := (mkF m 19 #[Rf a1, It (0 : Int32), It (3 : Int32), Rf ro_1, It (0 : Int32)] [(.int (0 : Int32)), (.ref a1), (.int (0 : Int32)), (.ref ro_1)])) rfl rfl (hb hby d19_19) _ ?_
    refine st3 _ ?_
    refine XS.iinc X3.here hx rfl (hb hby d19_23) rfl (l' := #[Rf a1, .val (.int ((0 : Int32) + (1 : Int32))), It (3 : Int32), Rf ro_1, It (0 : Int32)]) rfl ?_
    refine XS.iinc X3.here hx rfl (hb hby d19_26) rfl (l' := #[Rf a1, .val (.int ((0 : Int32) + (1 : Int32))), It (3 : Int32), Rf ro_1, .val (.int ((0 : Int32) + (1 : Int32)))]) rfl ?_
    refine XS.goto X3.here hx rfl (pc0 := 29) (pc' := 8) rfl (hb hby d19_29) (by decide) (by decide) ?_
    refine XS.iload X3.here hx rfl (hb hby d19_8) rfl ?_
    refine XS.iloadN X3.here hx rfl (hb hby d19_10) rfl ?_
    refine XS.icmpNo X3.here hx rfl (hb hby d19_11) rfl (tlt (by decide : ((0 : Int32) + (1 : Int32)) < (3 : Int32))).2.1 ?_
    refine XS.aloadN X3.here hx rfl (hb hby d19_14) rfl rfl ?_
    refine XS.iload X3.here hx rfl (hb hby d19_15) rfl ?_
    refine XS.aloadN X3.here hx rfl (hb hby d19_17) rfl rfl ?_
    refine XS.iloadN X3.here hx rfl (hb hby d19_18) rfl ?_
    refine X3.caload hx (j := ((0 : Int32) + (1 : Int32))) (v := (.int x2)) (own_rwh rfl Ar4.1) (State.isArrayOf_alike hZ.alike Ar4.2.1) Ar4.2.2 hin4 hat4 (g := (mkF m 19 #[Rf a1, .val (.int ((0 : Int32) + (1 : Int32))), It (3 : Int32), Rf ro_1, .val (.int ((0 : Int32) + (1 : Int32)))] [(.int ((0 : Int32) + (1 : Int32))), (.ref a1), (.int ((0 : Int32) + (1 : Int32))), (.ref ro_1)])) rfl rfl (hb hby d19_19) _ ?_
    refine st5 _ ?_
    refine XS.iinc X5.here hx rfl (hb hby d19_23) rfl (l' := #[Rf a1, .val (.int (((0 : Int32) + (1 : Int32)) + (1 : Int32))), It (3 : Int32), Rf ro_1, .val (.int ((0 : Int32) + (1 : Int32)))]) rfl ?_
    refine XS.iinc X5.here hx rfl (hb hby d19_26) rfl (l' := #[Rf a1, .val (.int (((0 : Int32) + (1 : Int32)) + (1 : Int32))), It (3 : Int32), Rf ro_1, .val (.int (((0 : Int32) + (1 : Int32)) + (1 : Int32)))]) rfl ?_
    refine XS.goto X5.here hx rfl (pc0 := 29) (pc' := 8) rfl (hb hby d19_29) (by decide) (by decide) ?_
    refine XS.iload X5.here hx rfl (hb hby d19_8) rfl ?_
    show Steps _ _ _ (T5.setTop (mkF m 10 #[Rf a1, .val (.int (((0 : Int32) + (1 : Int32)) + (1 : Int32))), It (3 : Int32), Rf ro_1, .val (.int (((0 : Int32) + (1 : Int32)) + (1 : Int32)))] [(.int (((0 : Int32) + (1 : Int32)) + (1 : Int32)))])) _
    refine XS.iloadN X5.here hx rfl (hb hby d19_10) rfl ?_
    refine XS.icmpNo X5.here hx rfl (hb hby d19_11) rfl (tlt (by decide : (((0 : Int32) + (1 : Int32)) + (1 : Int32)) < (3 : Int32))).2.1 ?_
    refine XS.aloadN X5.here hx rfl (hb hby d19_14) rfl rfl ?_
    refine XS.iload X5.here hx rfl (hb hby d19_15) rfl ?_
    refine XS.aloadN X5.here hx rfl (hb hby d19_17) rfl rfl ?_
    refine XS.iloadN X5.here hx rfl (hb hby d19_18) rfl ?_
    refine X5.caload hx (j := (((0 : Int32) + (1 : Int32)) + (1 : Int32))) (v := (.int x3)) (own_rwh rfl Ar6.1) (State.isArrayOf_alike hZ.alike Ar6.2.1) Ar6.2.2 hin6 hat6 (g := (mkF m 19 #[Rf a1, .val (.int (((0 : Int32) + (1 : Int32)) + (1 : Int32))), It (3 : Int32), Rf ro_1, .val (.int (((0 : Int32) + (1 : Int32)) + (1 : Int32)))] [(.int (((0 : Int32) + (1 : Int32)) + (1 : Int32))), (.ref a1), (.int (((0 : Int32) + (1 : Int32)) + (1 : Int32))), (.ref ro_1)])) rfl rfl (hb hby d19_19) _ ?_
    refine st7 _ ?_
    refine XS.iinc X7.here hx rfl (hb hby d19_23) rfl (l' := #[Rf a1, .val (.int ((((0 : Int32) + (1 : Int32)) + (1 : Int32)) + (1 : Int32))), It (3 : Int32), Rf ro_1, .val (.int (((0 : Int32) + (1 : Int32)) + (1 : Int32)))]) rfl ?_
    refine XS.iinc X7.here hx rfl (hb hby d19_26) rfl (l' := #[Rf a1, .val (.int ((((0 : Int32) + (1 : Int32)) + (1 : Int32)) + (1 : Int32))), It (3 : Int32), Rf ro_1, .val (.int ((((0 : Int32) + (1 : Int32)) + (1 : Int32)) + (1 : Int32)))]) rfl ?_
    refine XS.goto X7.here hx rfl (pc0 := 29) (pc' := 8) rfl (hb hby d19_29) (by decide) (by decide) ?_
    refine XS.iload X7.here hx rfl (hb hby d19_8) rfl ?_
    refine XS.iloadN X7.here hx rfl (hb hby d19_10) rfl ?_
    refine XS.icmpYes X7.here hx rfl (pc0 := 11) (pc' := 32) rfl (hb hby d19_11) rfl (flt (by decide : ¬ (((((0 : Int32) + (1 : Int32)) + (1 : Int32)) + (1 : Int32)) < (3 : Int32)))).2.1 (by decide) (by decide) ?_
    refine XS.aloadN X7.here hx rfl (hb hby d19_32) rfl rfl ?_
    exact kt
  obtain ⟨fs, hr, hrun, hended, hW, hsame⟩ := X7.leave (v := some (.ref ro_1)) (fun h => by rw [Bd.returns] at h; cases h)
  refine ⟨_, _, pre0 _ (sg8 _ (?_)), hrun, hended, _, _, rfl, ?_, ⟨_, rfl⟩, hW, hsame.mono (by decide) (by decide)⟩
  · show Steps _ _ _ (T7.setTop (mkF m 33 #[Rf a1, .val (.int ((((0 : Int32) + (1 : Int32)) + (1 : Int32)) + (1 : Int32))), It (3 : Int32), Rf ro_1, .val (.int ((((0 : Int32) + (1 : Int32)) + (1 : Int32)) + (1 : Int32)))] [(.ref ro_1)])) _
    jvm_step X7.here [X7.here.top, hx, (hb hby d19_33), X7.method', Bd.returns, Value.isRef, FieldType.isReference]
    first | (intro acts; rw [hr _ acts rfl rfl rfl]) | rw [hr _ _ rfl rfl rfl]
    exact Steps.refl _
  · show Q19_3 Z a1 x1 x2 x3 ka h0 n0 _ T7.heap _
    exact ⟨ro_1, ko_1, rfl, N7, K7, O7, VX7, f1_1, (Nat.le_trans K0.1 f1_2)⟩
def Q21_4 (Z : State)  (h0 : Heap) (n0 : Nat) (v : Option Value) (h : Heap) (L : List Loc) : Prop := v = some (.int (8 : Int32)) ∧ Fr n0 L ∧ h = h0
theorem rm21_4 (l : Launch) (Z : State) (a0 : Array Value) (hw : ∀ d ∈ tables_1, d.before a0 Z = true) (ws : List Jvm.Cond)  (h0 : Heap) (n0 : Nat) (O0 : Old Z n0 h0) :
    MetFree l m_10 (head1 (Jvm.Cond.code m_10 jdk_52_method_3_code 1 (some .int) :: ws) (rk 0 0 0 0)) (fun a U => a = #[(.int (4 : Int32))] ∧ Z.Warmed39 U.vm ∧ U.heap = h0) (fun _ _ _ _ _ => True) (fun _ U o U' => ∃ v L, o = .returned v ∧ Q21_4 Z  h0 n0 v U'.heap L ∧ FrameEnd U o U' L (rk 0 0 0 0).cells (rk 0 0 0 0).slots) := by
  refine MetFree.of_bodySF (plainFor_of_name pn_2) hisR ?_
  intro p e s m args below meth c s₁ Bd hml0 hP hK
  obtain ⟨rfl, hZ, hh⟩ := hP
  have hx := Bd.exec
  have hby := Bd.bytes
  have hml : c.maxLocals = 1 := hml0
  have hown : s.vm.findClass "java/lang/StringUTF16" = some m.cls := findClass_of_methodNamed Bd.named
  have X0 : Stand p l e (rk 0 0 0 0) s m #[(.int (4 : Int32))] below meth c s₁ [] 0 0 := Stand.of_body Bd
  have e0 : s₁.heap = h0 := by rw [← hh, Bd.state]; rfl
  have N0 := Fr.nil n0
  have pre0 := own_pre (tb := p.tables) (e := e) (bl := below) (s := s₁) (ef_16 m (4 : Int32))
  have sg1 : SG p.tables e below (s₁.setTop (mkF m 58 #[It (4 : Int32)] [(.int ((4 : Int32) <<< ((1 : Int32) &&& 31)))])) (s₁.setTop (mkF m 0 #[It (4 : Int32)] [])) := by
    intro target kt
    show Steps _ _ _ (s₁.setTop (mkF m 0 #[It (4 : Int32)] [])) _
    refine XS.iloadN X0.here hx rfl (hb hby d21_0) rfl ?_
    refine XS.ifYes X0.here hx rfl (pc0 := 1) (pc' := 12) rfl (hb hby d21_1) rfl ((if0 _ _).trans (flt (by decide : ¬ ((4 : Int32) < (0 : Int32)))).2.1) (by decide) (by decide) ?_
    refine XS.iloadN X0.here hx rfl (hb hby d21_12) rfl ?_
    refine X0.ldcInt hx hown (mvT hZ (tw hw 98 rfl)) (g := (mkF m 13 #[It (4 : Int32)] [(.int (4 : Int32))])) rfl (hb hby d21_13) _ ?_
    refine XS.icmpYes X0.here hx rfl (pc0 := 15) (pc' := 55) rfl (hb hby d21_15) rfl (tlt (by decide : (4 : Int32) < (1073741823 : Int32))).1 (by decide) (by decide) ?_
    refine XS.iloadN X0.here hx rfl (hb hby d21_55) rfl ?_
    refine XS.iconst X0.here hx rfl (hb hby d21_56) ?_
    refine XS.ishl X0.here hx rfl (hb hby d21_57) rfl ?_
    exact kt
  obtain ⟨fs, hr, hrun, hended, hW, hsame⟩ := X0.leave (v := some (.int ((4 : Int32) <<< ((1 : Int32) &&& 31)))) (fun h => by rw [Bd.returns] at h; cases h)
  refine ⟨_, _, pre0 _ (sg1 _ (?_)), hrun, hended, _, _, rfl, ?_, ⟨_, rfl⟩, hW, hsame.mono (by decide) (by decide)⟩
  · show Steps _ _ _ (s₁.setTop (mkF m 58 #[It (4 : Int32)] [(.int ((4 : Int32) <<< ((1 : Int32) &&& 31)))])) _
    exact retI X0 hx Bd.returns (hb hby d21_58) hr
  · show Q21_4 Z  h0 n0 _ s₁.heap _
    rw [e0]
    exact ⟨(by decide), N0, rfl⟩
def Q20_4 (Z : State)  (h0 : Heap) (n0 : Nat) (v : Option Value) (h : Heap) (L : List Loc) : Prop := ∃ ro : Addr, ∃ ko : ClassId, v = some (.ref ro) ∧ Fr n0 L ∧ Keep h0 h [] ∧ Old Z n0 h ∧ Arv Z h ro ko .byte (8 : Int32) [(.int (0 : Int32)), (.int (0 : Int32)), (.int (0 : Int32)), (.int (0 : Int32)), (.int (0 : Int32)), (.int (0 : Int32)), (.int (0 : Int32)), (.int (0 : Int32))] (.int (0 : Int32)) ∧ n0 ≤ ro ∧ h0.size ≤ ro
theorem rm20_4 (l : Launch) (Z : State) (a0 : Array Value) (hw : ∀ d ∈ tables_1, d.before a0 Z = true) (ws : List Jvm.Cond)  (h0 : Heap) (n0 : Nat) (O0 : Old Z n0 h0) :
    MetFree l m_11 (head1 (Jvm.Cond.code m_11 jdk_52_method_2_code 1 (some (.array .byte)) :: ws) (rk 1 1 8 12)) (fun a U => a = #[(.int (4 : Int32))] ∧ Z.Warmed39 U.vm ∧ U.heap = h0) (fun _ _ _ _ _ => True) (fun _ U o U' => ∃ v L, o = .returned v ∧ Q20_4 Z  h0 n0 v U'.heap L ∧ FrameEnd U o U' L (rk 1 1 8 12).cells (rk 1 1 8 12).slots) := by
  refine MetFree.of_bodySF (plainFor_of_name pn_2) hisR ?_
  intro p e s m args below meth c s₁ Bd hml0 hP hK
  obtain ⟨rfl, hZ, hh⟩ := hP
  have hx := Bd.exec
  have hby := Bd.bytes
  have hml : c.maxLocals = 1 := hml0
  have hown : s.vm.findClass "java/lang/StringUTF16" = some m.cls := findClass_of_methodNamed Bd.named
  have X0 : Stand p l e (rk 1 1 8 12) s m #[(.int (4 : Int32))] below meth c s₁ [] 0 0 := Stand.of_body Bd
  have e0 : s₁.heap = h0 := by rw [← hh, Bd.state]; rfl
  have N0 := Fr.nil n0
  have pre0 := own_pre (tb := p.tables) (e := e) (bl := below) (s := s₁) (ef_16 m (4 : Int32))
  have K0 := Keep.refl h0 []
  obtain ⟨_, _, ⟨T1, L1, k1, n1⟩, -, X1, ⟨Lc1, hQ1, l1, y1, z1⟩, st1⟩ := Jvm.LawKit.callS X0 hx (y := m_10) hown (mvT hZ (tw hw 95 rfl)) (mvT hZ (tw hw 96 rfl)) (mvT hZ (tw hw 26 rfl)) (mvT hZ (tw hw 97 rfl)) (by decide) (backOf (W := 0) (rm21_4 l Z a0 hw []  h0 n0 O0 ) hZ (tw hw 97 rfl) (tw hw 26 rfl) (by decide) (by decide)) (g := (mkF m 1 #[It (4 : Int32)] [(.int (4 : Int32))])) rfl (by rw [hml]; rfl) (argsL := [(.int (4 : Int32))]) (rest := []) (lenOf pd_0 rfl) rfl (w0 rfl) (hb hby d20_1) (fun _ _ => ⟨rfl, e0, (by decide : 0 + 0 ≤ _), (by decide : 0 + 0 ≤ _)⟩)
  dsimp only [Pt.U, Pt.locs, Pt.cells, Pt.slots] at X1 l1 y1 z1 st1 hQ1
  subst l1 y1 z1
  obtain ⟨rfl, N1q, e1⟩ := hQ1
  have N1 := Fr.app N0 N1q
  obtain ⟨T2, h2, k2, X2, e2, E2, A2, st2⟩ := newP X1 hx hZ (tw hw 28 rfl) e1 (g := (mkF m 4 #[It (4 : Int32)] [(.int (8 : Int32))])) rfl (hb hby d20_4) rfl (by decide) (cap := 8) (by decide) (by decide) (by decide) (by decide)
  obtain ⟨b2, g2⟩ : ∃ z, z = h0.size := ⟨_, rfl⟩
  rw [← g2] at A2 st2
  have ge_b2 : n0 ≤ b2 := Nat.le_trans (own_osz O0) (Nat.le_of_eq g2.symm)
  have sz_b2 : h0.size ≤ b2 := Nat.le_trans K0.1 (Nat.le_of_eq g2.symm)
  have O3 := O0.ext E2
  have K2 := K0.ext E2
  have V_b2 : Arv Z h2 b2 k2 .byte (8 : Int32) [(.int (0 : Int32)), (.int (0 : Int32)), (.int (0 : Int32)), (.int (0 : Int32)), (.int (0 : Int32)), (.int (0 : Int32)), (.int (0 : Int32)), (.int (0 : Int32))] (.int (0 : Int32)) := (Arv.new A2 (by decide)).pad (pad_rep [] (.int (0 : Int32)) 8)
  have sg4 : SG p.tables e below (T2.setTop (mkF m 6 #[It (4 : Int32)] [(.ref b2)])) (s₁.setTop (mkF m 0 #[It (4 : Int32)] [])) := by
    intro target kt
    show Steps _ _ _ (s₁.setTop (mkF m 0 #[It (4 : Int32)] [])) _
    refine XS.iloadN X0.here hx rfl (hb hby d20_0) rfl ?_
    refine st1 _ ?_
    refine st2 _ ?_
    exact kt
  obtain ⟨fs, hr, hrun, hended, hW, hsame⟩ := X2.leave (v := some (.ref b2)) (fun h => by rw [Bd.returns] at h; cases h)
  refine ⟨_, _, pre0 _ (sg4 _ (?_)), hrun, hended, _, _, rfl, ?_, ⟨_, rfl⟩, hW, hsame.mono (by decide) (by decide)⟩
  · show Steps _ _ _ (T2.setTop (mkF m 6 #[It (4 : Int32)] [(.ref b2)])) _
    jvm_step X2.here [X2.here.top, hx, (hb hby d20_6), X2.method', Bd.returns, Value.isRef, FieldType.isReference]
    first | (intro acts; rw [hr _ acts rfl rfl rfl]) | rw [hr _ _ rfl rfl rfl]
    exact Steps.refl _
  · show Q20_4 Z  h0 n0 _ T2.heap _
    rw [e2]
    exact ⟨b2, k2, rfl, N1, K2, O3, V_b2, ge_b2, sz_b2⟩
def Q19_4 (Z : State) (a1 : Addr) (x1 : Int32) (x2 : Int32) (x3 : Int32) (x4 : Int32) (ka : ClassId) (h0 : Heap) (n0 : Nat) (v : Option Value) (h : Heap) (L : List Loc) : Prop := ∃ ro : Addr, ∃ ko : ClassId, v = some (.ref ro) ∧ Fr n0 L ∧ Keep h0 h [] ∧ Old Z n0 h ∧ Arv Z h ro ko .byte (8 : Int32) (ub4 x1 x2 x3 x4) (.int (0 : Int32)) ∧ n0 ≤ ro ∧ h0.size ≤ ro
theorem rm19_4 (l : Launch) (Z : State) (a0 : Array Value) (hw : ∀ d ∈ tables_1, d.before a0 Z = true) (ws : List Jvm.Cond) (a1 : Addr) (x1 : Int32) (x2 : Int32) (x3 : Int32) (x4 : Int32) (ka : ClassId) (h0 : Heap) (n0 : Nat) (O0 : Old Z n0 h0) (sA : TS_0 Z) (sH : TS_1 Z) (sL : TS_2 Z) (A_a1 : Arv Z h0 a1 ka .char (4 : Int32) [(.int x1), (.int x2), (.int x3), (.int x4)] (.int (0 : Int32))) :
    MetFree l m_12 (head1 (Jvm.Cond.code m_12 jdk_52_method_14_code 5 (some (.array .byte)) :: ws) (rk 2 1 8 24)) (fun a U => a = #[(.ref a1), (.int (0 : Int32)), (.int (4 : Int32))] ∧ Z.Warmed39 U.vm ∧ U.heap = h0) (fun _ _ _ _ _ => True) (fun _ U o U' => ∃ v L, o = .returned v ∧ Q19_4 Z a1 x1 x2 x3 x4 ka h0 n0 v U'.heap L ∧ FrameEnd U o U' L (rk 2 1 8 24).cells (rk 2 1 8 24).slots) := by
  refine MetFree.of_bodySF (plainFor_of_name pn_2) hisR ?_
  intro p e s m args below meth c s₁ Bd hml0 hP hK
  obtain ⟨rfl, hZ, hh⟩ := hP
  have hx := Bd.exec
  have hby := Bd.bytes
  have hml : c.maxLocals = 5 := hml0
  have hown : s.vm.findClass "java/lang/StringUTF16" = some m.cls := findClass_of_methodNamed Bd.named
  have X0 : Stand p l e (rk 2 1 8 24) s m #[(.ref a1), (.int (0 : Int32)), (.int (4 : Int32))] below meth c s₁ [] 0 0 := Stand.of_body Bd
  have e0 : s₁.heap = h0 := by rw [← hh, Bd.state]; rfl
  have N0 := Fr.nil n0
  have pre0 := own_pre (tb := p.tables) (e := e) (bl := below) (s := s₁) (ef_19_1 m a1 (0 : Int32) (4 : Int32))
  have K0 := Keep.refl h0 []
  obtain ⟨_, _, ⟨T1, L1, k1, n1⟩, -, X1, ⟨Lc1, hQ1, l1, y1, z1⟩, st1⟩ := Jvm.LawKit.callS X0 hx (y := m_11) hown (mvT hZ (tw hw 92 rfl)) (mvT hZ (tw hw 93 rfl)) (mvT hZ (tw hw 26 rfl)) (mvT hZ (tw hw 94 rfl)) (by decide) (backOf (W := 0) (rm20_4 l Z a0 hw []  h0 n0 O0 ) hZ (tw hw 94 rfl) (tw hw 26 rfl) (by decide) (by decide)) (g := (mkF m 1 #[Rf a1, It (0 : Int32), It (4 : Int32), .unset, .unset] [(.int (4 : Int32))])) rfl (by rw [hml]; rfl) (argsL := [(.int (4 : Int32))]) (rest := []) (lenOf pd_1 rfl) rfl (w0 rfl) (hb hby d19_1) (fun _ _ => ⟨rfl, e0, (by decide : 0 + 1 ≤ _), (by decide : 0 + 8 ≤ _)⟩)
  dsimp only [Pt.U, Pt.locs, Pt.cells, Pt.slots] at X1 l1 y1 z1 st1 hQ1
  subst l1 y1 z1
  obtain ⟨ro_1, ko_1, rfl, N1q, K1q, O1, f1_0, f1_1, f1_2⟩ := hQ1
  have N1 := Fr.app N0 N1q
  have K1 := K0.trans K1q all0
  obtain ⟨cl2, Ar2, -, Sz2, Nn2, Hh2, -⟩ := id (A_a1.keep K1q nin0)
  have hin2 : ¬ ((0 : Int32) < 0 ∨ cl2.slots.size ≤ ((0 : Int32)).toNatClampNeg) := inb_of Sz2 ⟨by decide, by decide⟩
  have hat2 : cl2.slots[((0 : Int32)).toNatClampNeg]? = some (.int x1) := Has.at Hh2 hin2 rfl
  obtain ⟨_, _, ⟨T3, L3, k3, n3⟩, -, X3, ⟨Lc3, hQ3, l3, y3, z3⟩, st3⟩ := Jvm.LawKit.callS X1 hx (y := m_8) hown (mvT hZ (tw hw 99 rfl)) (mvT hZ (tw hw 100 rfl)) (mvT hZ (tw hw 26 rfl)) (mvT hZ (tw hw 101 rfl)) (by decide) (backOf (W := 0) (rm22_0 l Z a0 hw [] ro_1 x1 (8 : Int32) ([(.int (0 : Int32)), (.int (0 : Int32)), (.int (0 : Int32)), (.int (0 : Int32)), (.int (0 : Int32)), (.int (0 : Int32)), (.int (0 : Int32)), (.int (0 : Int32))]) ko_1 T1.heap n0 O1 sA sH sL (by decide) (Nat.le_of_ble_eq_true rfl) f1_0 f1_1) hZ (tw hw 101 rfl) (tw hw 26 rfl) (by decide) (by decide)) (g := (mkF m 20 #[Rf a1, It (0 : Int32), It (4 : Int32), Rf ro_1, It (0 : Int32)] [(.int x1), (.int (0 : Int32)), (.ref ro_1)])) rfl (by rw [hml]; rfl) (argsL := [(.ref ro_1), (.int (0 : Int32)), (.int x1)]) (rest := []) (lenOf pd_2 rfl) rfl (w0 rfl) (hb hby d19_20) (fun _ _ => ⟨rfl, rfl, (by decide : 1 + 0 ≤ _), (by decide : 8 + 0 ≤ _)⟩)
  dsimp only [Pt.U, Pt.locs, Pt.cells, Pt.slots] at X3 l3 y3 z3 st3 hQ3
  subst l3 y3 z3
  obtain ⟨rfl, N3q, K3q, O3, f3_0⟩ := hQ3
  have N3 := Fr.app N1 N3q
  have K3 := K1.trans K3q (allS (Or.inr (Nat.le_trans K0.1 f1_2)) all0)
  have VX3 : Arv Z T3.heap ro_1 ko_1 .byte (8 : Int32) [(.int (lbt x1)), (.int (hbt x1)), (.int (0 : Int32)), (.int (0 : Int32)), (.int (0 : Int32)), (.int (0 : Int32)), (.int (0 : Int32)), (.int (0 : Int32))] (.int (0 : Int32)) := f3_0
  obtain ⟨cl4, Ar4, -, Sz4, Nn4, Hh4, -⟩ := id ((A_a1.keep K1q nin0).keep K3q (ninS (Nat.ne_of_lt (Nat.lt_of_lt_of_le A_a1.lt f1_2)) nin0))
  have hin4 : ¬ (((0 : Int32) + (1 : Int32)) < 0 ∨ cl4.slots.size ≤ (((0 : Int32) + (1 : Int32))).toNatClampNeg) := inb_of Sz4 ⟨by decide, by decide⟩
  have hat4 : cl4.slots[(((0 : Int32) + (1 : Int32))).toNatClampNeg]? = some (.int x2) := Has.at Hh4 hin4 rfl
  obtain ⟨_, _, ⟨T5, L5, k5, n5⟩, -, X5, ⟨Lc5, hQ5, l5, y5, z5⟩, st5⟩ := Jvm.LawKit.callS X3 hx (y := m_8) hown (mvT hZ (tw hw 99 rfl)) (mvT hZ (tw hw 100 rfl)) (mvT hZ (tw hw 26 rfl)) (mvT hZ (tw hw 101 rfl)) (by decide) (backOf (W := 0) (rm22_1 l Z a0 hw [] ro_1 x2 (8 : Int32) ([(.int (lbt x1)), (.int (hbt x1)), (.int (0 : Int32)), (.int (0 : Int32)), (.int (0 : Int32)), (.int (0 : Int32)), (.int (0 : Int32)), (.int (0 : Int32))]) ko_1 T3.heap n0 O3 sA sH sL (by decide) (Nat.le_of_ble_eq_true rfl) VX3 f1_1) hZ (tw hw 101 rfl) (tw hw 26 rfl) (by decide) (by decide)) (g := (mkF m 20 #[Rf a1, .val (.int ((0 : Int32) + (1 : Int32))), It (4 : Int32), Rf ro_1, .val (.int ((0 : Int32) + (1 : Int32)))] [(.int x2), (.int ((0 : Int32) + (1 : Int32))), (.ref ro_1)])) rfl (by rw [hml]; rfl) (argsL := [(.ref ro_1), (.int ((0 : Int32) + (1 : Int32))), (.int x2)]) (rest := []) (lenOf pd_2 rfl) rfl (w0 rfl) (hb hby d19_20) (fun _ _ => ⟨rfl, rfl, (by decide : 1 + 0 ≤ _), (by decide : 8 + 0 ≤ _)⟩)
  dsimp only [Pt.U, Pt.locs, Pt.cells, Pt.slots] at X5 l5 y5 z5 st5 hQ5
  subst l5 y5 z5
  obtain ⟨rfl, N5q, K5q, O5, f5_0⟩ := hQ5
  have N5 := Fr.app N3 N5q
  have K5 := K3.trans K5q (allS (Or.inr (Nat.le_trans K0.1 f1_2)) all0)
  have VX5 : Arv Z T5.heap ro_1 ko_1 .byte (8 : Int32) [(.int (lbt x1)), (.int (hbt x1)), (.int (lbt x2)), (.int (hbt x2)), (.int (0 : Int32)), (.int (0 : Int32)), (.int (0 : Int32)), (.int (0 : Int32))] (.int (0 : Int32)) := f5_0
  obtain ⟨cl6, Ar6, -, Sz6, Nn6, Hh6, -⟩ := id (((A_a1.keep K1q nin0).keep K3q (ninS (Nat.ne_of_lt (Nat.lt_of_lt_of_le A_a1.lt f1_2)) nin0)).keep K5q (ninS (Nat.ne_of_lt (Nat.lt_of_lt_of_le A_a1.lt f1_2)) nin0))
  have hin6 : ¬ ((((0 : Int32) + (1 : Int32)) + (1 : Int32)) < 0 ∨ cl6.slots.size ≤ ((((0 : Int32) + (1 : Int32)) + (1 : Int32))).toNatClampNeg) := inb_of Sz6 ⟨by decide, by decide⟩
  have hat6 : cl6.slots[((((0 : Int32) + (1 : Int32)) + (1 : Int32))).toNatClampNeg]? = some (.int x3) := Has.at Hh6 hin6 rfl
  obtain ⟨_, _, ⟨T7, L7, k7, n7⟩, -, X7, ⟨Lc7, hQ7, l7, y7, z7⟩, st7⟩ := Jvm.LawKit.callS X5 hx (y := m_8) hown (mvT hZ (tw hw 99 rfl)) (mvT hZ (tw hw 100 rfl)) (mvT hZ (tw hw 26 rfl)) (mvT hZ (tw hw 101 rfl)) (by decide) (backOf (W := 0) (rm22_2 l Z a0 hw [] ro_1 x3 (8 : Int32) ([(.int (lbt x1)), (.int (hbt x1)), (.int (lbt x2)), (.int (hbt x2)), (.int (0 : Int32)), (.int (0 : Int32)), (.int (0 : Int32)), (.int (0 : Int32))]) ko_1 T5.heap n0 O5 sA sH sL (by decide) (Nat.le_of_ble_eq_true rfl) VX5 f1_1) hZ (tw hw 101 rfl) (tw hw 26 rfl) (by decide) (by decide)) (g := (mkF m 20 #[Rf a1, .val (.int (((0 : Int32) + (1 : Int32)) + (1 : Int32))), It (4 : Int32), Rf ro_1, .val (.int (((0 : Int32) + (1 : Int32)) + (1 : Int32)))] [(.int x3), (.int (((0 : Int32) + (1 : Int32)) + (1 : Int32))), (.ref ro_1)])) rfl (by rw [hml]; rfl) (argsL := [(.ref ro_1), (.int (((0 : Int32) + (1 : Int32)) + (1 : Int32))), (.int x3)]) (rest := []) (lenOf pd_2 rfl) rfl (w0 rfl) (hb hby d19_20) (fun _ _ => ⟨rfl, rfl, (by decide : 1 + 0 ≤ _), (by decide : 8 + 0 ≤ _)⟩)
  dsimp only [Pt.U, Pt.locs, Pt.cells, Pt.slots] at X7 l7 y7 z7 st7 hQ7
  subst l7 y7 z7
  obtain ⟨rfl, N7q, K7q, O7, f7_0⟩ := hQ7
  have N7 := Fr.app N5 N7q
  have K7 := K5.trans K7q (allS (Or.inr (Nat.le_trans K0.1 f1_2)) all0)
  have VX7 : Arv Z T7.heap ro_1 ko_1 .byte (8 : Int32) [(.int (lbt x1)), (.int (hbt x1)), (.int (lbt x2)), (.int (hbt x2)), (.int (lbt x3)), (.int (hbt x3)), (.int (0 : Int32)), (.int (0 : Int32))] (.int (0 : Int32)) := f7_0
  obtain ⟨cl8, Ar8, -, Sz8, Nn8, Hh8, -⟩ := id ((((A_a1.keep K1q nin0).keep K3q (ninS (Nat.ne_of_lt (Nat.lt_of_lt_of_le A_a1.lt f1_2)) nin0)).keep K5q (ninS (Nat.ne_of_lt (Nat.lt_of_lt_of_le A_a1.lt f1_2)) nin0)).keep K7q (ninS (Nat.ne_of_lt (Nat.lt_of_lt_of_le A_a1.lt f1_2)) nin0))
  have hin8 : ¬ (((((0 : Int32) + (1 : Int32)) + (1 : Int32)) + (1 : Int32)) < 0 ∨ cl8.slots.size ≤ (((((0 : Int32) + (1 : Int32)) + (1 : Int32)) + (1 : Int32))).toNatClampNeg) := inb_of Sz8 ⟨by decide, by decide⟩
  have hat8 : cl8.slots[(((((0 : Int32) + (1 : Int32)) + (1 : Int32)) + (1 : Int32))).toNatClampNeg]? = some (.int x4) := Has.at Hh8 hin8 rfl
  obtain ⟨_, _, ⟨T9, L9, k9, n9⟩, -, X9, ⟨Lc9, hQ9, l9, y9, z9⟩, st9⟩ := Jvm.LawKit.callS X7 hx (y := m_8) hown (mvT hZ (tw hw 99 rfl)) (mvT hZ (tw hw 100 rfl)) (mvT hZ (tw hw 26 rfl)) (mvT hZ (tw hw 101 rfl)) (by decide) (backOf (W := 0) (rm22_3 l Z a0 hw [] ro_1 x4 (8 : Int32) ([(.int (lbt x1)), (.int (hbt x1)), (.int (lbt x2)), (.int (hbt x2)), (.int (lbt x3)), (.int (hbt x3)), (.int (0 : Int32)), (.int (0 : Int32))]) ko_1 T7.heap n0 O7 sA sH sL (by decide) (Nat.le_of_ble_eq_true rfl) VX7 f1_1) hZ (tw hw 101 rfl) (tw hw 26 rfl) (by decide) (by decide)) (g := (mkF m 20 #[Rf a1, .val (.int ((((0 : Int32) + (1 : Int32)) + (1 : Int32)) + (1 : Int32))), It (4 : Int32), Rf ro_1, .val (.int ((((0 : Int32) + (1 : Int32)) + (1 : Int32)) + (1 : Int32)))] [(.int x4), (.int ((((0 : Int32) + (1 : Int32)) + (1 : Int32)) + (1 : Int32))), (.ref ro_1)])) rfl (by rw [hml]; rfl) (argsL := [(.ref ro_1), (.int ((((0 : Int32) + (1 : Int32)) + (1 : Int32)) + (1 : Int32))), (.int x4)]) (rest := []) (lenOf pd_2 rfl) rfl (w0 rfl) (hb hby d19_20) (fun _ _ => ⟨rfl, rfl, (by decide : 1 + 0 ≤ _), (by decide : 8 + 0 ≤ _)⟩)
  dsimp only [Pt.U, Pt.locs, Pt.cells, Pt.slots] at X9 l9 y9 z9 st9 hQ9
  subst l9 y9 z9
  obtain ⟨rfl, N9q, K9q, O9, f9_0⟩ := hQ9
  have N9 := Fr.app N7 N9q
  have K9 := K7.trans K9q (allS (Or.inr (Nat.le_trans K0.1 f1_2)) all0)
  have VX9 : Arv Z T9.heap ro_1 ko_1 .byte (8 : Int32) [(.int (lbt x1)), (.int (hbt x1)), (.int (lbt x2)), (.int (hbt x2)), (.int (lbt x3)), (.int (hbt x3)), (.int (lbt x4)), (.int (hbt x4))] (.int (0 : Int32)) := f9_0
  have sg10 : SG p.tables e below (T9.setTop (mkF m 33 #[Rf a1, .val (.int (((((0 : Int32) + (1 : Int32)) + (1 : Int32)) + (1 : Int32)) + (1 : Int32))), It (4 : Int32), Rf ro_1, .val (.int (((((0 : Int32) + (1 : Int32)) + (1 : Int32)) + (1 : Int32)) + (1 : Int32)))] [(.ref ro_1)])) (s₁.setTop (mkF m 0 #[Rf a1, It (0 : Int32), It (4 : Int32), .unset, .unset] [])) := by
    intro target kt
    show Steps _ _ _ (s₁.setTop (mkF m 0 #[Rf a1, It (0 : Int32), It (4 : Int32), .unset, .unset] [])) _
    refine XS.iloadN X0.here hx rfl (hb hby d19_0) rfl ?_
    refine st1 _ ?_
    refine XS.astoreN X1.here hx rfl (hb hby d19_4) rfl rfl (l' := #[Rf a1, It (0 : Int32), It (4 : Int32), Rf ro_1, .unset]) rfl ?_
    refine XS.iconst X1.here hx rfl (hb hby d19_5) ?_
    refine XS.istore X1.here hx rfl (hb hby d19_6) rfl (l' := #[Rf a1, It (0 : Int32), It (4 : Int32), Rf ro_1, It (0 : Int32)]) rfl ?_
    refine XS.iload X1.here hx rfl (hb hby d19_8) rfl ?_
    refine XS.iloadN X1.here hx rfl (hb hby d19_10) rfl ?_
    refine XS.icmpNo X1.here hx rfl (hb hby d19_11) rfl (tlt (by decide : (0 : Int32) < (4 : Int32))).2.1 ?_
    refine XS.aloadN X1.here hx rfl (hb hby d19_14) rfl rfl ?_
    refine XS.iload X1.here hx rfl (hb hby d19_15) rfl ?_
    refine XS.aloadN X1.here hx rfl (hb hby d19_17) rfl rfl ?_
    refine XS.iloadN X1.here hx rfl (hb hby d19_18) rfl ?_
    refine X1.caload hx (j := (0 : Int32)) (v := (.int x1)) (own_rwh rfl Ar2.1) (State.isArrayOf_alike hZ.alike Ar2.2.1) Ar2.2.2 hin2 hat2 (g := (mkF m 19 #[Rf a1, It (0 : Int32), It (4 : Int32), Rf ro_1, It (0 : Int32)] [(.int (0 : Int32)), (.ref a1), (.int (0 : Int32)), (.ref ro_1)])) rfl rfl (hb hby d19_19) _ ?_
    refine st3 _ ?_
    refine XS.iinc X3.here hx rfl (hb hby d19_23) rfl (l' := #[Rf a1, .val (.int ((0 : Int32) + (1 : Int32))), It (4 : Int32), Rf ro_1, It (0 : Int32)]) rfl ?_
    refine XS.iinc X3.here hx rfl (hb hby d19_26) rfl (l' := #[Rf a1, .val (.int ((0 : Int32) + (1 : Int32))), It (4 : Int32), Rf ro_1, .val (.int ((0 : Int32) + (1 : Int32)))]) rfl ?_
    refine XS.goto X3.here hx rfl (pc0 := 29) (pc' := 8) rfl (hb hby d19_29) (by decide) (by decide) ?_
    refine XS.iload X3.here hx rfl (hb hby d19_8) rfl ?_
    refine XS.iloadN X3.here hx rfl (hb hby d19_10) rfl ?_
    refine XS.icmpNo X3.here hx rfl (hb hby d19_11) rfl (tlt (by decide : ((0 : Int32) + (1 : Int32)) < (4 : Int32))).2.1 ?_
    refine XS.aloadN X3.here hx rfl (hb hby d19_14) rfl rfl ?_
    refine XS.iload X3.here hx rfl (hb hby d19_15) rfl ?_
    refine XS.aloadN X3.here hx rfl (hb hby d19_17) rfl rfl ?_
    refine XS.iloadN X3.here hx rfl (hb hby d19_18) rfl ?_
    refine X3.caload hx (j := ((0 : Int32) + (1 : Int32))) (v := (.int x2)) (own_rwh rfl Ar4.1) (State.isArrayOf_alike hZ.alike Ar4.2.1) Ar4.2.2 hin4 hat4 (g := (mkF m 19 #[Rf a1, .val (.int ((0 : Int32) + (1 : Int32))), It (4 : Int32), Rf ro_1, .val (.int ((0 : Int32) + (1 : Int32)))] [(.int ((0 : Int32) + (1 : Int32))), (.ref a1), (.int ((0 : Int32) + (1 : Int32))), (.ref ro_1)])) rfl rfl (hb hby d19_19) _ ?_
    refine st5 _ ?_
    refine XS.iinc X5.here hx rfl (hb hby d19_23) rfl (l' := #[Rf a1, .val (.int (((0 : Int32) + (1 : Int32)) + (1 : Int32))), It (4 : Int32), Rf ro_1, .val (.int ((0 : Int32) + (1 : Int32)))]) rfl ?_
    refine XS.iinc X5.here hx rfl (hb hby d19_26) rfl (l' := #[Rf a1, .val (.int (((0 : Int32) + (1 : Int32)) + (1 : Int32))), It (4 : Int32), Rf ro_1, .val (.int (((0 : Int32) + (1 : Int32)) + (1 : Int32)))]) rfl ?_
    refine XS.goto X5.here hx rfl (pc0 := 29) (pc' := 8) rfl (hb hby d19_29) (by decide) (by decide) ?_
    refine XS.iload X5.here hx rfl (hb hby d19_8) rfl ?_
    show Steps _ _ _ (T5.setTop (mkF m 10 #[Rf a1, .val (.int (((0 : Int32) + (1 : Int32)) + (1 : Int32))), It (4 : Int32), Rf ro_1, .val (.int (((0 : Int32) + (1 : Int32)) + (1 : Int32)))] [(.int (((0 : Int32) + (1 : Int32)) + (1 : Int32)))])) _
    refine XS.iloadN X5.here hx rfl (hb hby d19_10) rfl ?_
    refine XS.icmpNo X5.here hx rfl (hb hby d19_11) rfl (tlt (by decide : (((0 : Int32) + (1 : Int32)) + (1 : Int32)) < (4 : Int32))).2.1 ?_
    refine XS.aloadN X5.here hx rfl (hb hby d19_14) rfl rfl ?_
    refine XS.iload X5.here hx rfl (hb hby d19_15) rfl ?_
    refine XS.aloadN X5.here hx rfl (hb hby d19_17) rfl rfl ?_
    refine XS.iloadN X5.here hx rfl (hb hby d19_18) rfl ?_
    refine X5.caload hx (j := (((0 : Int32) + (1 : Int32)) + (1 : Int32))) (v := (.int x3)) (own_rwh rfl Ar6.1) (State.isArrayOf_alike hZ.alike Ar6.2.1) Ar6.2.2 hin6 hat6 (g := (mkF m 19 #[Rf a1, .val (.int (((0 : Int32) + (1 : Int32)) + (1 : Int32))), It (4 : Int32), Rf ro_1, .val (.int (((0 : Int32) + (1 : Int32)) + (1 : Int32)))] [(.int (((0 : Int32) + (1 : Int32)) + (1 : Int32))), (.ref a1), (.int (((0 : Int32) + (1 : Int32)) + (1 : Int32))), (.ref ro_1)])) rfl rfl (hb hby d19_19) _ ?_
    refine st7 _ ?_
    refine XS.iinc X7.here hx rfl (hb hby d19_23) rfl (l' := #[Rf a1, .val (.int ((((0 : Int32) + (1 : Int32)) + (1 : Int32)) + (1 : Int32))), It (4 : Int32), Rf ro_1, .val (.int (((0 : Int32) + (1 : Int32)) + (1 : Int32)))]) rfl ?_
    refine XS.iinc X7.here hx rfl (hb hby d19_26) rfl (l' := #[Rf a1, .val (.int ((((0 : Int32) + (1 : Int32)) + (1 : Int32)) + (1 : Int32))), It (4 : Int32), Rf ro_1, .val (.int ((((0 : Int32) + (1 : Int32)) + (1 : Int32)) + (1 : Int32)))]) rfl ?_
    refine XS.goto X7.here hx rfl (pc0 := 29) (pc' := 8) rfl (hb hby d19_29) (by decide) (by decide) ?_
    refine XS.iload X7.here hx rfl (hb hby d19_8) rfl ?_
    refine XS.iloadN X7.here hx rfl (hb hby d19_10) rfl ?_
    refine XS.icmpNo X7.here hx rfl (hb hby d19_11) rfl (tlt (by decide : ((((0 : Int32) + (1 : Int32)) + (1 : Int32)) + (1 : Int32)) < (4 : Int32))).2.1 ?_
    refine XS.aloadN X7.here hx rfl (hb hby d19_14) rfl rfl ?_
    refine XS.iload X7.here hx rfl (hb hby d19_15) rfl ?_
    refine XS.aloadN X7.here hx rfl (hb hby d19_17) rfl rfl ?_
    refine XS.iloadN X7.here hx rfl (hb hby d19_18) rfl ?_
    refine X7.caload hx (j := ((((0 : Int32) + (1 : Int32)) + (1 : Int32)) + (1 : Int32))) (v := (.int x4)) (own_rwh rfl Ar8.1) (State.isArrayOf_alike hZ.alike Ar8.2.1) Ar8.2.2 hin8 hat8 (g := (mkF m 19 #[Rf a1, .val (.int ((((0 : Int32) + (1 : Int32)) + (1 : Int32)) + (1 : Int32))), It (4 : Int32), Rf ro_1, .val (.int ((((0 : Int32) + (1 : Int32)) + (1 : Int32)) + (1 : Int32)))] [(.int ((((0 : Int32) + (1 : Int32)) + (1 : Int32)) + (1 : Int32))), (.ref a1), (.int ((((0 : Int32) + (1 : Int32)) + (1 : Int32)) + (1 : Int32))), (.ref ro_1)])) rfl rfl (hb hby d19_19) _ ?_
    refine st9 _ ?_
    refine XS.iinc X9.here hx rfl (hb hby d19_23) rfl (l' := #[Rf a1, .val (.int (((((0 : Int32) + (1 : Int32)) + (1 : Int32)) + (1 : Int32)) + (1 : Int32))), It (4 : Int32), Rf ro_1, .val (.int ((((0 : Int32) + (1 : Int32)) + (1 : Int32)) + (1 : Int32)))]) rfl ?_
    refine XS.iinc X9.here hx rfl (hb hby d19_26) rfl (l' := #[Rf a1, .val (.int (((((0 : Int32) + (1 : Int32)) + (1 : Int32)) + (1 : Int32)) + (1 : Int32))), It (4 : Int32), Rf ro_1, .val (.int (((((0 : Int32) + (1 : Int32)) + (1 : Int32)) + (1 : Int32)) + (1 : Int32)))]) rfl ?_
    refine XS.goto X9.here hx rfl (pc0 := 29) (pc' := 8) rfl (hb hby d19_29) (by decide) (by decide) ?_
    refine XS.iload X9.here hx rfl (hb hby d19_8) rfl ?_
    refine XS.iloadN X9.here hx rfl (hb hby d19_10) rfl ?_
    refine XS.icmpYes X9.here hx rfl (pc0 := 11) (pc' := 32) rfl (hb hby d19_11) rfl (flt (by decide : ¬ ((((((0 : Int32) + (1 : Int32)) + (1 : Int32)) + (1 : Int32)) + (1 : Int32)) < (4 : Int32)))).2.1 (by decide) (by decide) ?_
    refine XS.aloadN X9.here hx rfl (hb hby d19_32) rfl rfl ?_
    exact kt
  obtain ⟨fs, hr, hrun, hended, hW, hsame⟩ := X9.leave (v := some (.ref ro_1)) (fun h => by rw [Bd.returns] at h; cases h)
  refine ⟨_, _, pre0 _ (sg10 _ (?_)), hrun, hended, _, _, rfl, ?_, ⟨_, rfl⟩, hW, hsame.mono (by decide) (by decide)⟩
  · show Steps _ _ _ (T9.setTop (mkF m 33 #[Rf a1, .val (.int (((((0 : Int32) + (1 : Int32)) + (1 : Int32)) + (1 : Int32)) + (1 : Int32))), It (4 : Int32), Rf ro_1, .val (.int (((((0 : Int32) + (1 : Int32)) + (1 : Int32)) + (1 : Int32)) + (1 : Int32)))] [(.ref ro_1)])) _
    jvm_step X9.here [X9.here.top, hx, (hb hby d19_33), X9.method', Bd.returns, Value.isRef, FieldType.isReference]
    first | (intro acts; rw [hr _ acts rfl rfl rfl]) | rw [hr _ _ rfl rfl rfl]
    exact Steps.refl _
  · show Q19_4 Z a1 x1 x2 x3 x4 ka h0 n0 _ T9.heap _
    exact ⟨ro_1, ko_1, rfl, N9, K9, O9, VX9, f1_1, (Nat.le_trans K0.1 f1_2)⟩
def Q7_01 (Z : State) (a1 : Addr) (a3 : Addr) (p5 : Int32) (x1 : Int32) (x2 : Int32) (zz : Int32) (zb : Int32) (vs : List Value) (vb : List Value) (ka : ClassId) (kb : ClassId) (h0 : Heap) (n0 : Nat) (v : Option Value) (h : Heap) (L : List Loc) : Prop := v = some (.int (1 : Int32)) ∧ Fr n0 L ∧ Keep h0 h [a3] ∧ Old Z n0 h
theorem ef_7_01 (m : MethodId) (x0 : Addr) (x1 : Int32) (x2 : Addr) (x3 : Int32) (x4 : Int32) : entryFrame m #[(.ref x0), (.int x1), (.ref x2), (.int x3), (.int x4)] 7 = mkF m 0 #[.val (.ref x0), .val (.int x1), .val (.ref x2), .val (.int x3), .val (.int x4), .unset, .unset] [] := by first | (simp [entryFrame, mkF, argsToLocals, Value.category]; done) | rfl
theorem rm7_01 (l : Launch) (Z : State) (a0 : Array Value) (hw : ∀ d ∈ tables_1, d.before a0 Z = true) (ws : List Jvm.Cond) (a1 : Addr) (a3 : Addr) (p5 : Int32) (x1 : Int32) (x2 : Int32) (zz : Int32) (zb : Int32) (vs : List Value) (vb : List Value) (ka : ClassId) (kb : ClassId) (h0 : Heap) (n0 : Nat) (O0 : Old Z n0 h0) (h_z : (1 : Int32) < zz) (h_zb : (1 : Int32) < zb) (h_nb : 1 < vb.length) (g0 : vs.getD 0 (.int (0 : Int32)) = .int x1) (g1 : vs.getD 1 (.int (0 : Int32)) = .int x2) (h_k : (1 : Int32) < p5) (A_a1 : Arv Z h0 a1 ka .char zz vs (.int (0 : Int32))) (A_a3 : Arv Z h0 a3 kb .byte zb vb (.int (0 : Int32))) (ge_a3 : n0 ≤ a3) (h_l1 : ¬ (255 : Int32) < x1) (h_g : (255 : Int32) < x2) :
    MetFree l m_13 (head1 (Jvm.Cond.code m_13 jdk_52_method_21_code 7 (some .int) :: ws) (rk 0 0 0 0)) (fun a U => a = #[(.ref a1), (.int (0 : Int32)), (.ref a3), (.int (0 : Int32)), (.int p5)] ∧ Z.Warmed39 U.vm ∧ U.heap = h0) (fun _ _ _ _ _ => True) (fun _ U o U' => ∃ v L, o = .returned v ∧ Q7_01 Z a1 a3 p5 x1 x2 zz zb vs vb ka kb h0 n0 v U'.heap L ∧ FrameEnd U o U' L (rk 0 0 0 0).cells (rk 0 0 0 0).slots) := by
  refine MetFree.of_bodySF (plainFor_of_name pn_2) hisR ?_
  intro p e s m args below meth c s₁ Bd hml0 hP hK
  obtain ⟨rfl, hZ, hh⟩ := hP
  have hx := Bd.exec
  have hby := Bd.bytes
  have hml : c.maxLocals = 7 := hml0
  have hown : s.vm.findClass "java/lang/StringUTF16" = some m.cls := findClass_of_methodNamed Bd.named
  have X0 : Stand p l e (rk 0 0 0 0) s m #[(.ref a1), (.int (0 : Int32)), (.ref a3), (.int (0 : Int32)), (.int p5)] below meth c s₁ [] 0 0 := Stand.of_body Bd
  have e0 : s₁.heap = h0 := by rw [← hh, Bd.state]; rfl
  have N0 := Fr.nil n0
  have pre0 := own_pre (tb := p.tables) (e := e) (bl := below) (s := s₁) (ef_7_01 m a1 (0 : Int32) a3 (0 : Int32) p5)
  have K0 := Keep.refl h0 [a3]
  obtain ⟨cl1, Ar1, -, Sz1, Nn1, Hh1, -⟩ := id A_a1
  have hin1 : ¬ ((0 : Int32) < 0 ∨ cl1.slots.size ≤ ((0 : Int32)).toNatClampNeg) := inb_of Sz1 ⟨by decide, own_ltz h_z (by decide)⟩
  have hat1 : cl1.slots[((0 : Int32)).toNatClampNeg]? = some (.int x1) := Has.at Hh1 hin1 g0
  obtain ⟨cl2, Ar2, q2, Sz2, Nn2, Hh2, Gg2⟩ := id A_a3
  have hin2 : ¬ ((0 : Int32) < 0 ∨ cl2.slots.size ≤ ((0 : Int32)).toNatClampNeg) := inb_of Sz2 ⟨by decide, own_ltz h_zb (by decide)⟩
  obtain ⟨T3, h3, X3, e3, W3, st3⟩ := stB X0 hx hZ e0 Ar2 (j := (0 : Int32)) hin2 (g := (mkF m 31 #[Rf a1, It (0 : Int32), Rf a3, It (0 : Int32), It p5, It (0 : Int32), It x1] [(.int (x1.toInt8.toInt32)), (.int (0 : Int32)), (.ref a3)])) rfl rfl (hb hby d7_31)
  have V3 : Arv Z h3 a3 kb .byte zb (vb.set 0 (.int ((x1.toInt8.toInt32).toInt8.toInt32))) (.int (0 : Int32)) := Arv.set Ar2 q2 Sz2 Nn2 Hh2 Gg2 (fits_nar_byte _) W3 0 (by decide) (own_sl h_nb (by decide))
  have N3 := Fr.snoc X3 N0 ge_a3
  have O4 := O0.wr W3 ge_a3
  have K3 := K0.wr W3 (Or.inl (List.mem_of_getElem? (i := 0) rfl))
  obtain ⟨cl5, Ar5, -, Sz5, Nn5, Hh5, -⟩ := id (A_a1.other W3 (own_arne A_a1 A_a3 (by decide)))
  have hin5 : ¬ (((0 : Int32) + (1 : Int32)) < 0 ∨ cl5.slots.size ≤ (((0 : Int32) + (1 : Int32))).toNatClampNeg) := inb_of Sz5 ⟨by decide, own_ltz h_z (by decide)⟩
  have hat5 : cl5.slots[(((0 : Int32) + (1 : Int32))).toNatClampNeg]? = some (.int x2) := Has.at Hh5 hin5 g1
  have sg6 : SG p.tables e below (T3.setTop (mkF m 25 #[Rf a1, .val (.int ((0 : Int32) + (1 : Int32))), Rf a3, .val (.int ((0 : Int32) + (1 : Int32))), It p5, .val (.int ((0 : Int32) + (1 : Int32))), It x2] [(.int ((0 : Int32) + (1 : Int32)))])) (s₁.setTop (mkF m 0 #[Rf a1, It (0 : Int32), Rf a3, It (0 : Int32), It p5, .unset, .unset] [])) := by
    intro target kt
    show Steps _ _ _ (s₁.setTop (mkF m 0 #[Rf a1, It (0 : Int32), Rf a3, It (0 : Int32), It p5, .unset, .unset] [])) _
    refine XS.iconst X0.here hx rfl (hb hby d7_0) ?_
    refine XS.istore X0.here hx rfl (hb hby d7_1) rfl (l' := #[Rf a1, It (0 : Int32), Rf a3, It (0 : Int32), It p5, It (0 : Int32), .unset]) rfl ?_
    refine XS.iload X0.here hx rfl (hb hby d7_3) rfl ?_
    refine XS.iload X0.here hx rfl (hb hby d7_5) rfl ?_
    refine XS.icmpNo X0.here hx rfl (hb hby d7_7) rfl (tlt (own_ltz h_k (by decide))).2.1 ?_
    refine XS.aloadN X0.here hx rfl (hb hby d7_10) rfl rfl ?_
    refine XS.iloadN X0.here hx rfl (hb hby d7_11) rfl ?_
    refine X0.caload hx (j := (0 : Int32)) (v := (.int x1)) (own_rwh e0 Ar1.1) (State.isArrayOf_alike hZ.alike Ar1.2.1) Ar1.2.2 hin1 hat1 (g := (mkF m 12 #[Rf a1, It (0 : Int32), Rf a3, It (0 : Int32), It p5, It (0 : Int32), .unset] [(.int (0 : Int32)), (.ref a1)])) rfl rfl (hb hby d7_12) _ ?_
    refine XS.istore X0.here hx rfl (hb hby d7_13) rfl (l' := #[Rf a1, It (0 : Int32), Rf a3, It (0 : Int32), It p5, It (0 : Int32), It x1]) rfl ?_
    refine XS.iload X0.here hx rfl (hb hby d7_15) rfl ?_
    refine XS.sipush X0.here hx rfl (hb hby d7_17) ?_
    refine XS.icmpYes X0.here hx rfl (pc0 := 20) (pc' := 26) rfl (hb hby d7_20) rfl (flt h_l1).2.2.2 (by decide) (by decide) ?_
    refine XS.aloadN X0.here hx rfl (hb hby d7_26) rfl rfl ?_
    refine XS.iloadN X0.here hx rfl (hb hby d7_27) rfl ?_
    refine XS.iload X0.here hx rfl (hb hby d7_28) rfl ?_
    refine XS.i2b X0.here hx rfl (hb hby d7_30) rfl ?_
    refine st3 _ ?_
    refine XS.iinc X3.here hx rfl (hb hby d7_32) rfl (l' := #[Rf a1, .val (.int ((0 : Int32) + (1 : Int32))), Rf a3, It (0 : Int32), It p5, It (0 : Int32), It x1]) rfl ?_
    refine XS.iinc X3.here hx rfl (hb hby d7_35) rfl (l' := #[Rf a1, .val (.int ((0 : Int32) + (1 : Int32))), Rf a3, .val (.int ((0 : Int32) + (1 : Int32))), It p5, It (0 : Int32), It x1]) rfl ?_
    refine XS.iinc X3.here hx rfl (hb hby d7_38) rfl (l' := #[Rf a1, .val (.int ((0 : Int32) + (1 : Int32))), Rf a3, .val (.int ((0 : Int32) + (1 : Int32))), It p5, .val (.int ((0 : Int32) + (1 : Int32))), It x1]) rfl ?_
    refine XS.goto X3.here hx rfl (pc0 := 41) (pc' := 3) rfl (hb hby d7_41) (by decide) (by decide) ?_
    refine XS.iload X3.here hx rfl (hb hby d7_3) rfl ?_
    refine XS.iload X3.here hx rfl (hb hby d7_5) rfl ?_
    refine XS.icmpNo X3.here hx rfl (hb hby d7_7) rfl (tlt (own_ltz h_k (by decide))).2.1 ?_
    refine XS.aloadN X3.here hx rfl (hb hby d7_10) rfl rfl ?_
    refine XS.iloadN X3.here hx rfl (hb hby d7_11) rfl ?_
    refine X3.caload hx (j := ((0 : Int32) + (1 : Int32))) (v := (.int x2)) (own_rwh e3 Ar5.1) (State.isArrayOf_alike hZ.alike Ar5.2.1) Ar5.2.2 hin5 hat5 (g := (mkF m 12 #[Rf a1, .val (.int ((0 : Int32) + (1 : Int32))), Rf a3, .val (.int ((0 : Int32) + (1 : Int32))), It p5, .val (.int ((0 : Int32) + (1 : Int32))), It x1] [(.int ((0 : Int32) + (1 : Int32))), (.ref a1)])) rfl rfl (hb hby d7_12) _ ?_
    refine XS.istore X3.here hx rfl (hb hby d7_13) rfl (l' := #[Rf a1, .val (.int ((0 : Int32) + (1 : Int32))), Rf a3, .val (.int ((0 : Int32) + (1 : Int32))), It p5, .val (.int ((0 : Int32) + (1 : Int32))), It x2]) rfl ?_
    refine XS.iload X3.here hx rfl (hb hby d7_15) rfl ?_
    refine XS.sipush X3.here hx rfl (hb hby d7_17) ?_
    show Steps _ _ _ (T3.setTop (mkF m 20 #[Rf a1, .val (.int ((0 : Int32) + (1 : Int32))), Rf a3, .val (.int ((0 : Int32) + (1 : Int32))), It p5, .val (.int ((0 : Int32) + (1 : Int32))), It x2] [(.int (255 : Int32)), (.int x2)])) _
    refine XS.icmpNo X3.here hx rfl (hb hby d7_20) rfl (tlt h_g).2.2.2 ?_
    refine XS.iload X3.here hx rfl (hb hby d7_23) rfl ?_
    exact kt
  obtain ⟨fs, hr, hrun, hended, hW, hsame⟩ := X3.leave (v := some (.int ((0 : Int32) + (1 : Int32)))) (fun h => by rw [Bd.returns] at h; cases h)
  refine ⟨_, _, pre0 _ (sg6 _ (?_)), hrun, hended, _, _, rfl, ?_, ⟨_, rfl⟩, hW, hsame.mono (by decide) (by decide)⟩
  · show Steps _ _ _ (T3.setTop (mkF m 25 #[Rf a1, .val (.int ((0 : Int32) + (1 : Int32))), Rf a3, .val (.int ((0 : Int32) + (1 : Int32))), It p5, .val (.int ((0 : Int32) + (1 : Int32))), It x2] [(.int ((0 : Int32) + (1 : Int32)))])) _
    exact retI X3 hx Bd.returns (hb hby d7_25) hr
  · show Q7_01 Z a1 a3 p5 x1 x2 zz zb vs vb ka kb h0 n0 _ T3.heap _
    rw [e3]
    exact ⟨(by decide), N3, K3, O4⟩
def Q7_00 (Z : State) (a1 : Addr) (a3 : Addr) (p5 : Int32) (x1 : Int32) (zz : Int32) (zb : Int32) (vs : List Value) (vb : List Value) (ka : ClassId) (kb : ClassId) (h0 : Heap) (n0 : Nat) (v : Option Value) (h : Heap) (L : List Loc) : Prop := v = some (.int (0 : Int32)) ∧ Fr n0 L ∧ Keep h0 h [a3] ∧ Old Z n0 h
theorem rm7_00 (l : Launch) (Z : State) (a0 : Array Value) (hw : ∀ d ∈ tables_1, d.before a0 Z = true) (ws : List Jvm.Cond) (a1 : Addr) (a3 : Addr) (p5 : Int32) (x1 : Int32) (zz : Int32) (zb : Int32) (vs : List Value) (vb : List Value) (ka : ClassId) (kb : ClassId) (h0 : Heap) (n0 : Nat) (O0 : Old Z n0 h0) (h_z : (0 : Int32) < zz) (h_zb : (0 : Int32) < zb) (h_nb : 0 < vb.length) (g0 : vs.getD 0 (.int (0 : Int32)) = .int x1) (h_k : (0 : Int32) < p5) (A_a1 : Arv Z h0 a1 ka .char zz vs (.int (0 : Int32))) (A_a3 : Arv Z h0 a3 kb .byte zb vb (.int (0 : Int32))) (ge_a3 : n0 ≤ a3) (h_g : (255 : Int32) < x1) :
    MetFree l m_13 (head1 (Jvm.Cond.code m_13 jdk_52_method_21_code 7 (some .int) :: ws) (rk 0 0 0 0)) (fun a U => a = #[(.ref a1), (.int (0 : Int32)), (.ref a3), (.int (0 : Int32)), (.int p5)] ∧ Z.Warmed39 U.vm ∧ U.heap = h0) (fun _ _ _ _ _ => True) (fun _ U o U' => ∃ v L, o = .returned v ∧ Q7_00 Z a1 a3 p5 x1 zz zb vs vb ka kb h0 n0 v U'.heap L ∧ FrameEnd U o U' L (rk 0 0 0 0).cells (rk 0 0 0 0).slots) := by
  refine MetFree.of_bodySF (plainFor_of_name pn_2) hisR ?_
  intro p e s m args below meth c s₁ Bd hml0 hP hK
  obtain ⟨rfl, hZ, hh⟩ := hP
  have hx := Bd.exec
  have hby := Bd.bytes
  have hml : c.maxLocals = 7 := hml0
  have hown : s.vm.findClass "java/lang/StringUTF16" = some m.cls := findClass_of_methodNamed Bd.named
  have X0 : Stand p l e (rk 0 0 0 0) s m #[(.ref a1), (.int (0 : Int32)), (.ref a3), (.int (0 : Int32)), (.int p5)] below meth c s₁ [] 0 0 := Stand.of_body Bd
  have e0 : s₁.heap = h0 := by rw [← hh, Bd.state]; rfl
  have N0 := Fr.nil n0
  have pre0 := own_pre (tb := p.tables) (e := e) (bl := below) (s := s₁) (ef_7_01 m a1 (0 : Int32) a3 (0 : Int32) p5)
  have K0 := Keep.refl h0 [a3]
  obtain ⟨cl1, Ar1, -, Sz1, Nn1, Hh1, -⟩ := id A_a1
  have hin1 : ¬ ((0 : Int32) < 0 ∨ cl1.slots.size ≤ ((0 : Int32)).toNatClampNeg) := inb_of Sz1 ⟨by decide, own_ltz h_z (by decide)⟩
  have hat1 : cl1.slots[((0 : Int32)).toNatClampNeg]? = some (.int x1) := Has.at Hh1 hin1 g0
  have sg2 : SG p.tables e below (s₁.setTop (mkF m 25 #[Rf a1, It (0 : Int32), Rf a3, It (0 : Int32), It p5, It (0 : Int32), It x1] [(.int (0 : Int32))])) (s₁.setTop (mkF m 0 #[Rf a1, It (0 : Int32), Rf a3, It (0 : Int32), It p5, .unset, .unset] [])) := by
    intro target kt
    show Steps _ _ _ (s₁.setTop (mkF m 0 #[Rf a1, It (0 : Int32), Rf a3, It (0 : Int32), It p5, .unset, .unset] [])) _
    refine XS.iconst X0.here hx rfl (hb hby d7_0) ?_
    refine XS.istore X0.here hx rfl (hb hby d7_1) rfl (l' := #[Rf a1, It (0 : Int32), Rf a3, It (0 : Int32), It p5, It (0 : Int32), .unset]) rfl ?_
    refine XS.iload X0.here hx rfl (hb hby d7_3) rfl ?_
    refine XS.iload X0.here hx rfl (hb hby d7_5) rfl ?_
    refine XS.icmpNo X0.here hx rfl (hb hby d7_7) rfl (tlt (own_ltz h_k (by decide))).2.1 ?_
    refine XS.aloadN X0.here hx rfl (hb hby d7_10) rfl rfl ?_
    refine XS.iloadN X0.here hx rfl (hb hby d7_11) rfl ?_
    refine X0.caload hx (j := (0 : Int32)) (v := (.int x1)) (own_rwh e0 Ar1.1) (State.isArrayOf_alike hZ.alike Ar1.2.1) Ar1.2.2 hin1 hat1 (g := (mkF m 12 #[Rf a1, It (0 : Int32), Rf a3, It (0 : Int32), It p5, It (0 : Int32), .unset] [(.int (0 : Int32)), (.ref a1)])) rfl rfl (hb hby d7_12) _ ?_
    refine XS.istore X0.here hx rfl (hb hby d7_13) rfl (l' := #[Rf a1, It (0 : Int32), Rf a3, It (0 : Int32), It p5, It (0 : Int32), It x1]) rfl ?_
    refine XS.iload X0.here hx rfl (hb hby d7_15) rfl ?_
    refine XS.sipush X0.here hx rfl (hb hby d7_17) ?_
    refine XS.icmpNo X0.here hx rfl (hb hby d7_20) rfl (tlt h_g).2.2.2 ?_
    refine XS.iload X0.here hx rfl (hb hby d7_23) rfl ?_
    exact kt
  obtain ⟨fs, hr, hrun, hended, hW, hsame⟩ := X0.leave (v := some (.int (0 : Int32))) (fun h => by rw [Bd.returns] at h; cases h)
  refine ⟨_, _, pre0 _ (sg2 _ (?_)), hrun, hended, _, _, rfl, ?_, ⟨_, rfl⟩, hW, hsame.mono (by decide) (by decide)⟩
  · show Steps _ _ _ (s₁.setTop (mkF m 25 #[Rf a1, It (0 : Int32), Rf a3, It (0 : Int32), It p5, It (0 : Int32), It x1] [(.int (0 : Int32))])) _
    exact retI X0 hx Bd.returns (hb hby d7_25) hr
  · show Q7_00 Z a1 a3 p5 x1 zz zb vs vb ka kb h0 n0 _ s₁.heap _
    rw [e0]
    exact ⟨(by decide), N0, K0, O0⟩
def Q6_10 (Z : State) (a1 : Addr) (x1 : Int32) (ka : ClassId) (h0 : Heap) (n0 : Nat) (v : Option Value) (h : Heap) (L : List Loc) : Prop := ∃ ro : Addr, ∃ ko : ClassId, v = some (.ref ro) ∧ Fr n0 L ∧ Keep h0 h [] ∧ Old Z n0 h ∧ Arv Z h ro ko .byte (2 : Int32) (ub1 x1) (.int (0 : Int32)) ∧ n0 ≤ ro ∧ h0.size ≤ ro
theorem ef_6_10 (m : MethodId) (x0 : Addr) (x1 : Int32) (x2 : Int32) : entryFrame m #[(.ref x0), (.int x1), (.int x2)] 6 = mkF m 0 #[.val (.ref x0), .val (.int x1), .val (.int x2), .unset, .unset, .unset] [] := by first | (simp [entryFrame, mkF, argsToLocals, Value.category]; done) | rfl
theorem rm6_10 (l : Launch) (Z : State) (a0 : Array Value) (hw : ∀ d ∈ tables_1, d.before a0 Z = true) (ws : List Jvm.Cond) (a1 : Addr) (x1 : Int32) (ka : ClassId) (h0 : Heap) (n0 : Nat) (O0 : Old Z n0 h0) (sA : TS_0 Z) (sH : TS_1 Z) (sL : TS_2 Z) (A_a1 : Arv Z h0 a1 ka .char (1 : Int32) [(.int x1)] (.int (0 : Int32))) (h_g : (255 : Int32) < x1) (h_x : CR x1) :
    MetFree l m_14 (head1 (Jvm.Cond.code m_14 jdk_52_method_16_code 6 (some (.array .byte)) :: ws) (rk 3 2 3 40)) (fun a U => a = #[(.ref a1), (.int (0 : Int32)), (.int (1 : Int32))] ∧ Z.Warmed39 U.vm ∧ U.heap = h0) (fun _ _ _ _ _ => True) (fun _ U o U' => ∃ v L, o = .returned v ∧ Q6_10 Z a1 x1 ka h0 n0 v U'.heap L ∧ FrameEnd U o U' L (rk 3 2 3 40).cells (rk 3 2 3 40).slots) := by
  refine MetFree.of_bodySF (plainFor_of_name pn_2) hisR ?_
  intro p e s m args below meth c s₁ Bd hml0 hP hK
  obtain ⟨rfl, hZ, hh⟩ := hP
  have hx := Bd.exec
  have hby := Bd.bytes
  have hml : c.maxLocals = 6 := hml0
  have hown : s.vm.findClass "java/lang/StringUTF16" = some m.cls := findClass_of_methodNamed Bd.named
  have X0 : Stand p l e (rk 3 2 3 40) s m #[(.ref a1), (.int (0 : Int32)), (.int (1 : Int32))] below meth c s₁ [] 0 0 := Stand.of_body Bd
  have e0 : s₁.heap = h0 := by rw [← hh, Bd.state]; rfl
  have N0 := Fr.nil n0
  have pre0 := own_pre (tb := p.tables) (e := e) (bl := below) (s := s₁) (ef_6_10 m a1 (0 : Int32) (1 : Int32))
  have K0 := Keep.refl h0 []
  obtain ⟨T1, h1, k1, X1, e1, E1, A1, st1⟩ := newP X0 hx hZ (tw hw 28 rfl) e0 (g := (mkF m 1 #[Rf a1, It (0 : Int32), It (1 : Int32), .unset, .unset, .unset] [(.int (1 : Int32))])) rfl (hb hby d6_1) rfl (by decide) (cap := 1) (by decide) (by decide) (by decide) (by decide)
  obtain ⟨b1, g1⟩ : ∃ z, z = h0.size := ⟨_, rfl⟩
  rw [← g1] at A1 st1
  have ge_b1 : n0 ≤ b1 := Nat.le_trans (own_osz O0) (Nat.le_of_eq g1.symm)
  have sz_b1 : h0.size ≤ b1 := Nat.le_trans K0.1 (Nat.le_of_eq g1.symm)
  have O2 := O0.ext E1
  have K1 := K0.ext E1
  have V_b1 : Arv Z h1 b1 k1 .byte (1 : Int32) [(.int (0 : Int32))] (.int (0 : Int32)) := (Arv.new A1 (by decide)).pad (pad_rep [] (.int (0 : Int32)) 1)
  obtain ⟨_, _, ⟨T3, L3, k3, n3⟩, -, X3, ⟨Lc3, hQ3, l3, y3, z3⟩, st3⟩ := Jvm.LawKit.callS X1 hx (y := m_13) hown (mvT hZ (tw hw 29 rfl)) (mvT hZ (tw hw 30 rfl)) (mvT hZ (tw hw 26 rfl)) (mvT hZ (tw hw 31 rfl)) (by decide) (backOf (W := 0) (rm7_00 l Z a0 hw [] a1 b1 (1 : Int32) x1 (1 : Int32) (1 : Int32) ([(.int x1)]) ([(.int (0 : Int32))]) ka k1 h1 n0 O2 (by decide) (by decide) (Nat.le_of_ble_eq_true rfl) rfl (by decide) (A_a1.ext E1) V_b1 ge_b1 h_g) hZ (tw hw 31 rfl) (tw hw 26 rfl) (by decide) (by decide)) (g := (mkF m 9 #[Rf a1, It (0 : Int32), It (1 : Int32), Rf b1, .unset, .unset] [(.int (1 : Int32)), (.int (0 : Int32)), (.ref b1), (.int (0 : Int32)), (.ref a1)])) rfl (by rw [hml]; rfl) (argsL := [(.ref a1), (.int (0 : Int32)), (.ref b1), (.int (0 : Int32)), (.int (1 : Int32))]) (rest := []) (lenOf pd_3 rfl) rfl (w0 rfl) (hb hby d6_9) (fun _ _ => ⟨rfl, e1, (by decide : 1 + 0 ≤ _), (by decide : 1 + 0 ≤ _)⟩)
  dsimp only [Pt.U, Pt.locs, Pt.cells, Pt.slots] at X3 l3 y3 z3 st3 hQ3
  subst l3 y3 z3
  obtain ⟨rfl, N3q, K3q, O3⟩ := hQ3
  have N3 := Fr.app N0 N3q
  have K3 := K1.trans K3q (allS (Or.inr sz_b1) all0)
  obtain ⟨_, _, ⟨T4, L4, k4, n4⟩, -, X4, ⟨Lc4, hQ4, l4, y4, z4⟩, st4⟩ := Jvm.LawKit.callS X3 hx (y := m_12) hown (mvT hZ (tw hw 89 rfl)) (mvT hZ (tw hw 90 rfl)) (mvT hZ (tw hw 26 rfl)) (mvT hZ (tw hw 91 rfl)) (by decide) (backOf (W := 0) (rm19_1 l Z a0 hw [] a1 x1 ka T3.heap n0 O3 sA sH sL ((A_a1.ext E1).keep K3q (ninS (Nat.ne_of_lt (Nat.lt_of_lt_of_le A_a1.lt (Nat.le_of_eq g1.symm))) nin0))) hZ (tw hw 91 rfl) (tw hw 26 rfl) (by decide) (by decide)) (g := (mkF m 23 #[Rf a1, It (0 : Int32), It (1 : Int32), Rf b1, It (0 : Int32), .unset] [(.int (1 : Int32)), (.int (0 : Int32)), (.ref a1)])) rfl (by rw [hml]; rfl) (argsL := [(.ref a1), (.int (0 : Int32)), (.int (1 : Int32))]) (rest := []) (lenOf pd_4 rfl) rfl (w0 rfl) (hb hby d6_23) (fun _ _ => ⟨rfl, rfl, (by decide : 1 + 1 ≤ _), (by decide : 1 + 2 ≤ _)⟩)
  dsimp only [Pt.U, Pt.locs, Pt.cells, Pt.slots] at X4 l4 y4 z4 st4 hQ4
  subst l4 y4 z4
  obtain ⟨ro_4, ko_4, rfl, N4q, K4q, O4, f4_0, f4_1, f4_2⟩ := hQ4
  have N4 := Fr.app N3 N4q
  have K4 := K3.trans K4q all0
  obtain ⟨_, _, ⟨T5, L5, k5, n5⟩, -, X5, ⟨Lc5, hQ5, l5, y5, z5⟩, st5⟩ := Jvm.LawKit.callS X4 hx (y := m_9) hown (mvT hZ (tw hw 105 rfl)) (mvT hZ (tw hw 106 rfl)) (mvT hZ (tw hw 26 rfl)) (mvT hZ (tw hw 107 rfl)) (by decide) (backOf (W := 0) (rm23_0 l Z a0 hw [] ro_4 x1 (2 : Int32) (ub1 x1) ko_4 T4.heap n0 O4 sA sH sL (by decide) rfl rfl h_x f4_0) hZ (tw hw 107 rfl) (tw hw 26 rfl) (by decide) (by decide)) (g := (mkF m 32 #[Rf a1, It (0 : Int32), It (1 : Int32), Rf b1, It (0 : Int32), Rf ro_4] [(.int (0 : Int32)), (.ref ro_4)])) rfl (by rw [hml]; rfl) (argsL := [(.ref ro_4), (.int (0 : Int32))]) (rest := []) (lenOf pd_5 rfl) rfl (w0 rfl) (hb hby d6_32) (fun _ _ => ⟨rfl, rfl, (by decide : 2 + 0 ≤ _), (by decide : 3 + 0 ≤ _)⟩)
  dsimp only [Pt.U, Pt.locs, Pt.cells, Pt.slots] at X5 l5 y5 z5 st5 hQ5
  subst l5 y5 z5
  obtain ⟨rfl, N5q, e5⟩ := hQ5
  have N5 := Fr.app N4 N5q
  have sg6 : SG p.tables e below (T5.setTop (mkF m 56 #[Rf a1, It (0 : Int32), It (1 : Int32), Rf b1, It (0 : Int32), Rf ro_4] [(.ref ro_4)])) (s₁.setTop (mkF m 0 #[Rf a1, It (0 : Int32), It (1 : Int32), .unset, .unset, .unset] [])) := by
    intro target kt
    show Steps _ _ _ (s₁.setTop (mkF m 0 #[Rf a1, It (0 : Int32), It (1 : Int32), .unset, .unset, .unset] [])) _
    refine XS.iloadN X0.here hx rfl (hb hby d6_0) rfl ?_
    refine st1 _ ?_
    refine XS.astoreN X1.here hx rfl (hb hby d6_3) rfl rfl (l' := #[Rf a1, It (0 : Int32), It (1 : Int32), Rf b1, .unset, .unset]) rfl ?_
    refine XS.aloadN X1.here hx rfl (hb hby d6_4) rfl rfl ?_
    refine XS.iloadN X1.here hx rfl (hb hby d6_5) rfl ?_
    refine XS.aloadN X1.here hx rfl (hb hby d6_6) rfl rfl ?_
    refine XS.iconst X1.here hx rfl (hb hby d6_7) ?_
    refine XS.iloadN X1.here hx rfl (hb hby d6_8) rfl ?_
    refine st3 _ ?_
    refine XS.istore X3.here hx rfl (hb hby d6_12) rfl (l' := #[Rf a1, It (0 : Int32), It (1 : Int32), Rf b1, It (0 : Int32), .unset]) rfl ?_
    refine XS.iload X3.here hx rfl (hb hby d6_14) rfl ?_
    refine XS.iloadN X3.here hx rfl (hb hby d6_16) rfl ?_
    refine XS.icmpNo X3.here hx rfl (hb hby d6_17) rfl (feq (by decide : ¬ ((0 : Int32) = (1 : Int32)))).1 ?_
    refine XS.aloadN X3.here hx rfl (hb hby d6_20) rfl rfl ?_
    refine XS.iloadN X3.here hx rfl (hb hby d6_21) rfl ?_
    refine XS.iloadN X3.here hx rfl (hb hby d6_22) rfl ?_
    refine st4 _ ?_
    refine XS.astore X4.here hx rfl (hb hby d6_26) rfl rfl (l' := #[Rf a1, It (0 : Int32), It (1 : Int32), Rf b1, It (0 : Int32), Rf ro_4]) rfl ?_
    refine XS.aload X4.here hx rfl (hb hby d6_28) rfl rfl ?_
    refine XS.iload X4.here hx rfl (hb hby d6_30) rfl ?_
    refine st5 _ ?_
    refine XS.sipush X5.here hx rfl (hb hby d6_35) ?_
    refine XS.icmpYes X5.here hx rfl (pc0 := 38) (pc' := 54) rfl (hb hby d6_38) rfl (tlt h_g).2.2.1 (by decide) (by decide) ?_
    refine XS.aload X5.here hx rfl (hb hby d6_54) rfl rfl ?_
    exact kt
  obtain ⟨fs, hr, hrun, hended, hW, hsame⟩ := X5.leave (v := some (.ref ro_4)) (fun h => by rw [Bd.returns] at h; cases h)
  refine ⟨_, _, pre0 _ (sg6 _ (?_)), hrun, hended, _, _, rfl, ?_, ⟨_, rfl⟩, hW, hsame.mono (by decide) (by decide)⟩
  · show Steps _ _ _ (T5.setTop (mkF m 56 #[Rf a1, It (0 : Int32), It (1 : Int32), Rf b1, It (0 : Int32), Rf ro_4] [(.ref ro_4)])) _
    jvm_step X5.here [X5.here.top, hx, (hb hby d6_56), X5.method', Bd.returns, Value.isRef, FieldType.isReference]
    first | (intro acts; rw [hr _ acts rfl rfl rfl]) | rw [hr _ _ rfl rfl rfl]
    exact Steps.refl _
  · show Q6_10 Z a1 x1 ka h0 n0 _ T5.heap _
    rw [e5]
    exact ⟨ro_4, ko_4, rfl, N5, K4, O4, f4_0, f4_1, (Nat.le_trans K3.1 f4_2)⟩
def Q8_12 (Z : State) (a1 : Addr) (vs : List Value) (ka : ClassId) (h0 : Heap) (n0 : Nat) (v : Option Value) (h : Heap) (L : List Loc) : Prop := v = some (.int (1 : Int32)) ∧ Fr n0 L ∧ h = h0
theorem rm8_12 (l : Launch) (Z : State) (a0 : Array Value) (hw : ∀ d ∈ tables_1, d.before a0 Z = true) (ws : List Jvm.Cond) (a1 : Addr) (vs : List Value) (ka : ClassId) (h0 : Heap) (n0 : Nat) (O0 : Old Z n0 h0) (A_a1 : Arv Z h0 a1 ka .byte (2 : Int32) vs (.int (0 : Int32))) :
    MetFree l m_15 (head1 (Jvm.Cond.code m_15 jdk_52_method_15_code 2 (some .byte) :: ws) (rk 0 0 0 0)) (fun a U => a = #[(.ref a1), (.int (1 : Int32))] ∧ Z.Warmed39 U.vm ∧ U.heap = h0) (fun _ _ _ _ _ => True) (fun _ U o U' => ∃ v L, o = .returned v ∧ Q8_12 Z a1 vs ka h0 n0 v U'.heap L ∧ FrameEnd U o U' L (rk 0 0 0 0).cells (rk 0 0 0 0).slots) := by
  refine MetFree.of_bodySF (plainFor_of_name pn_2) hisR ?_
  intro p e s m args below meth c s₁ Bd hml0 hP hK
  obtain ⟨rfl, hZ, hh⟩ := hP
  have hx := Bd.exec
  have hby := Bd.bytes
  have hml : c.maxLocals = 2 := hml0
  have hown : s.vm.findClass "java/lang/StringUTF16" = some m.cls := findClass_of_methodNamed Bd.named
  have X0 : Stand p l e (rk 0 0 0 0) s m #[(.ref a1), (.int (1 : Int32))] below meth c s₁ [] 0 0 := Stand.of_body Bd
  have e0 : s₁.heap = h0 := by rw [← hh, Bd.state]; rfl
  have N0 := Fr.nil n0
  have pre0 := own_pre (tb := p.tables) (e := e) (bl := below) (s := s₁) (ef_23_0 m a1 (1 : Int32))
  obtain ⟨cl1, Ar1, -, Sz1, Nn1, -, -⟩ := id A_a1
  have sg2 : SG p.tables e below (s₁.setTop (mkF m 8 #[Rf a1, It (1 : Int32)] [(.int (((((1 : Int32) - (2 : Int32)).toUInt32 >>> ((31 : Int32) &&& 31).toUInt32).toInt32).toInt8.toInt32))])) (s₁.setTop (mkF m 0 #[Rf a1, It (1 : Int32)] [])) := by
    intro target kt
    show Steps _ _ _ (s₁.setTop (mkF m 0 #[Rf a1, It (1 : Int32)] [])) _
    refine XS.iloadN X0.here hx rfl (hb hby d8_0) rfl ?_
    refine XS.aloadN X0.here hx rfl (hb hby d8_1) rfl rfl ?_
    refine X0.arraylength hx (own_rwh e0 Ar1.1) (State.isArrayOf_alike hZ.alike Ar1.2.1) (g := (mkF m 2 #[Rf a1, It (1 : Int32)] [(.ref a1), (.int (1 : Int32))])) rfl rfl (hb hby d8_2) _ ?_
    rw [len_of Sz1 Nn1]
    show Steps _ _ _ (s₁.setTop (mkF m 3 #[Rf a1, It (1 : Int32)] [(.int (2 : Int32)), (.int (1 : Int32))])) _
    refine XS.isub X0.here hx rfl (hb hby d8_3) rfl ?_
    refine XS.bipush X0.here hx rfl (hb hby d8_4) ?_
    refine XS.iushr X0.here hx rfl (hb hby d8_6) rfl ?_
    refine XS.i2b X0.here hx rfl (hb hby d8_7) rfl ?_
    exact kt
  have hnar : nar .byte (((((1 : Int32) - (2 : Int32)).toUInt32 >>> ((31 : Int32) &&& 31).toUInt32).toInt32).toInt8.toInt32) = (((((1 : Int32) - (2 : Int32)).toUInt32 >>> ((31 : Int32) &&& 31).toUInt32).toInt32).toInt8.toInt32) := (by decide)
  obtain ⟨fs, hr, hrun, hended, hW, hsame⟩ := X0.leave (v := some (.int (((((1 : Int32) - (2 : Int32)).toUInt32 >>> ((31 : Int32) &&& 31).toUInt32).toInt32).toInt8.toInt32))) (fun h => by rw [Bd.returns] at h; cases h)
  rw [← hnar] at hr
  refine ⟨_, _, pre0 _ (sg2 _ (?_)), hrun, hended, _, _, rfl, ?_, ⟨_, rfl⟩, hW, hsame.mono (by decide) (by decide)⟩
  · show Steps _ _ _ (s₁.setTop (mkF m 8 #[Rf a1, It (1 : Int32)] [(.int (((((1 : Int32) - (2 : Int32)).toUInt32 >>> ((31 : Int32) &&& 31).toUInt32).toInt32).toInt8.toInt32))])) _
    exact retN X0 hx (t := .byte) Bd.returns (by simp) (hb hby d8_8) hr
  · show Q8_12 Z a1 vs ka h0 n0 _ s₁.heap _
    rw [e0]
    exact ⟨(by decide), N0, rfl⟩
def Q4_10 (Z : State) (a1 : Addr) (a2 : Addr) (x1 : Int32) (zC : Int32) (ka : ClassId) (h0 : Heap) (n0 : Nat) (v : Option Value) (h : Heap) (L : List Loc) : Prop := ∃ ro : Addr, ∃ ko : ClassId, v = none ∧ Fr n0 L ∧ Keep h0 h [a1] ∧ Old Z n0 h ∧ Fld Z h a1 "java/lang/String" "coder" "B" (.int (1 : Int32)) ∧ Fld Z h a1 "java/lang/String" "value" "[B" (.ref ro) ∧ Arv Z h ro ko .byte (2 : Int32) (ub1 x1) (.int (0 : Int32)) ∧ n0 ≤ ro ∧ h0.size ≤ ro
theorem ef_4_10 (m : MethodId) (x0 : Addr) (x1 : Addr) (x2 : Int32) (x3 : Int32) : entryFrame m #[(.ref x0), (.ref x1), (.int x2), (.int x3), .null] 6 = mkF m 0 #[.val (.ref x0), .val (.ref x1), .val (.int x2), .val (.int x3), .val .null, .unset] [] := by first | (simp [entryFrame, mkF, argsToLocals, Value.category]; done) | rfl
theorem rm4_10 (l : Launch) (Z : State) (a0 : Array Value) (hw : ∀ d ∈ tables_1, d.before a0 Z = true) (ws : List Jvm.Cond) (a1 : Addr) (a2 : Addr) (x1 : Int32) (zC : Int32) (ka : ClassId) (h0 : Heap) (n0 : Nat) (O0 : Old Z n0 h0) (sC : TS_3 Z zC) (sA : TS_0 Z) (sH : TS_1 Z) (sL : TS_2 Z) (E_a1 : Exa Z h0 a1 "java/lang/String") (F_value_a1 : Fld Z h0 a1 "java/lang/String" "value" "[B" .null) (F_coder_a1 : Fld Z h0 a1 "java/lang/String" "coder" "B" (.int (0 : Int32))) (ge_a1 : n0 ≤ a1) (hCS : ¬ zC = 0) (A_a2 : Arv Z h0 a2 ka .char (1 : Int32) [(.int x1)] (.int (0 : Int32))) (h_g : (255 : Int32) < x1) (h_x : CR x1) :
    MetFree l m_16 (head1 (Jvm.Cond.code m_16 jdk_42_method_149_code 6 none :: ws) (rk 4 2 3 57)) (fun a U => a = #[(.ref a1), (.ref a2), (.int (0 : Int32)), (.int (1 : Int32)), .null] ∧ Z.Warmed39 U.vm ∧ U.heap = h0) (fun _ _ _ _ _ => True) (fun _ U o U' => ∃ v L, o = .returned v ∧ Q4_10 Z a1 a2 x1 zC ka h0 n0 v U'.heap L ∧ FrameEnd U o U' L (rk 4 2 3 57).cells (rk 4 2 3 57).slots) := by
  refine MetFree.of_bodySF (plainFor_of_name pn_3) hisR ?_
  intro p e s m args below meth c s₁ Bd hml0 hP hK
  obtain ⟨rfl, hZ, hh⟩ := hP
  have hx := Bd.exec
  have hby := Bd.bytes
  have hml : c.maxLocals = 6 := hml0
  have hown : s.vm.findClass "java/lang/String" = some m.cls := findClass_of_methodNamed Bd.named
  have hnm := (name_of_methodNamed Bd.named Bd.method).1
  have X0 : Stand p l e (rk 4 2 3 57) s m #[(.ref a1), (.ref a2), (.int (0 : Int32)), (.int (1 : Int32)), .null] below meth c s₁ [] 0 0 := Stand.of_body Bd
  have e0 : s₁.heap = h0 := by rw [← hh, Bd.state]; rfl
  have N0 := Fr.nil n0
  have pre0 := own_pre (tb := p.tables) (e := e) (bl := below) (s := s₁) (ef_4_10 m a1 a2 (0 : Int32) (1 : Int32))
  have K0 := Keep.refl h0 [a1]
  obtain ⟨T1, X1, e1, st1⟩ := initO X0 hx hZ hown (tw hw 20 rfl) (tw hw 21 rfl) (tw hw 22 rfl) e0 (g := (mkF m 1 #[Rf a1, Rf a2, It (0 : Int32), It (1 : Int32), .val .null, .unset] [(.ref a1)])) rfl (by rw [hml]; rfl) rfl (hb hby d4_1) (by decide) (W := 0) (w0 rfl) (by decide)
  obtain ⟨T2, X2, e2, st2⟩ := getS2 X1 hx hZ hown (host := "") (Or.inl (tw hw 23 rfl)) Via.refl e1 (sC.ext O0.2) (g := (mkF m 27 #[Rf a1, Rf a2, It (0 : Int32), It (1 : Int32), .val .null, .unset] [])) rfl (hb hby d4_27)
  obtain ⟨_, _, ⟨T3, L3, k3, n3⟩, -, X3, ⟨Lc3, hQ3, l3, y3, z3⟩, st3⟩ := Jvm.LawKit.callS X2 hx (y := m_14) hown (mvT hZ (tw hw 24 rfl)) (mvT hZ (tw hw 25 rfl)) (mvT hZ (tw hw 26 rfl)) (mvT hZ (tw hw 27 rfl)) (by decide) (backOf (W := 0) (rm6_10 l Z a0 hw [] a2 x1 ka h0 n0 O0 sA sH sL A_a2 h_g h_x) hZ (tw hw 27 rfl) (tw hw 26 rfl) (by decide) (by decide)) (g := (mkF m 36 #[Rf a1, Rf a2, It (0 : Int32), It (1 : Int32), .val .null, .unset] [(.int (1 : Int32)), (.int (0 : Int32)), (.ref a2)])) rfl (by rw [hml]; rfl) (argsL := [(.ref a2), (.int (0 : Int32)), (.int (1 : Int32))]) (rest := []) (lenOf pd_4 rfl) rfl (w0 rfl) (hb hby d4_36) (fun _ _ => ⟨rfl, e2, (by decide : 0 + 2 ≤ _), (by decide : 0 + 3 ≤ _)⟩)
  dsimp only [Pt.U, Pt.locs, Pt.cells, Pt.slots] at X3 l3 y3 z3 st3 hQ3
  subst l3 y3 z3
  obtain ⟨ro_3, ko_3, rfl, N3q, K3q, O3, f3_0, f3_1, f3_2⟩ := hQ3
  have N3 := Fr.app N0 N3q
  have K3 := K0.trans K3q all0
  obtain ⟨_, _, ⟨T4, L4, k4, n4⟩, -, X4, ⟨Lc4, hQ4, l4, y4, z4⟩, st4⟩ := Jvm.LawKit.callS X3 hx (y := m_15) hown (mvT hZ (tw hw 32 rfl)) (mvT hZ (tw hw 33 rfl)) (mvT hZ (tw hw 26 rfl)) (mvT hZ (tw hw 34 rfl)) (by decide) (backOf (W := 1) (rm8_12 l Z a0 hw [] ro_3 (ub1 x1) ko_3 T3.heap n0 O3 f3_0) hZ (tw hw 34 rfl) (tw hw 26 rfl) (by decide) (by decide)) (g := (mkF m 45 #[Rf a1, Rf a2, It (0 : Int32), It (1 : Int32), .val .null, Rf ro_3] [(.int (1 : Int32)), (.ref ro_3), (.ref a1)])) rfl (by rw [hml]; rfl) (argsL := [(.ref ro_3), (.int (1 : Int32))]) (rest := [(.ref a1)]) (lenOf pd_6 rfl) rfl (w0 rfl) (hb hby d4_45) (fun _ _ => ⟨rfl, rfl, (by decide : 2 + 0 ≤ _), (by decide : 3 + 0 ≤ _)⟩)
  dsimp only [Pt.U, Pt.locs, Pt.cells, Pt.slots] at X4 l4 y4 z4 st4 hQ4
  subst l4 y4 z4
  obtain ⟨rfl, N4q, e4⟩ := hQ4
  have N4 := Fr.app N3 N4q
  obtain ⟨T5, h5, X5, e5, W5, st5⟩ := putFN X4 hx hZ hown (tw hw 35 rfl) Via.refl e4 (F_coder_a1.keep K3q nin0) (E_a1.keep K3q) (Or.inr ⟨(tw hw 36 rfl), rfl, hnm⟩) (tw hw 5 rfl) (ty := .byte) (v' := .int ((1 : Int32).toInt8.toInt32)) (by decide) rfl (fits_nar_byte _) (g := (mkF m 48 #[Rf a1, Rf a2, It (0 : Int32), It (1 : Int32), .val .null, Rf ro_3] [(.int (1 : Int32)), (.ref a1)])) rfl rfl (hb hby d4_48)
  have Fw5 := (F_coder_a1.keep K3q nin0).same W5
  have N5 := Fr.snoc X5 N4 ge_a1
  have O6 := O3.wr W5 ge_a1
  have K5 := K3.wr W5 (Or.inl (List.mem_of_getElem? (i := 0) rfl))
  obtain ⟨T7, h7, X7, e7, W7, st7⟩ := putF X5 hx hZ hown (host := "") (Or.inl (tw hw 37 rfl)) Via.refl e5 ((F_value_a1.keep K3q nin0).other W5 (sn (.array .byte) .byte (Or.inr (tw hw 38 rfl)) (Or.inr (tw hw 36 rfl)))) ((E_a1.keep K3q).wr W5) (Or.inr ⟨(tw hw 38 rfl), rfl, hnm⟩) (tw hw 5 rfl) (ty := (.array .byte)) (by decide) rfl rfl (g := (mkF m 54 #[Rf a1, Rf a2, It (0 : Int32), It (1 : Int32), .val .null, Rf ro_3] [(.ref ro_3), (.ref a1)])) rfl rfl (hb hby d4_54)
  have Fw7 := ((F_value_a1.keep K3q nin0).other W5 (sn (.array .byte) .byte (Or.inr (tw hw 38 rfl)) (Or.inr (tw hw 36 rfl)))).same W7
  have N7 := Fr.snoc X7 N5 ge_a1
  have O8 := O6.wr W7 ge_a1
  have K7 := K5.wr W7 (Or.inl (List.mem_of_getElem? (i := 0) rfl))
  have sg9 : SG p.tables e below (T7.setTop (mkF m 57 #[Rf a1, Rf a2, It (0 : Int32), It (1 : Int32), .val .null, Rf ro_3] [])) (s₁.setTop (mkF m 0 #[Rf a1, Rf a2, It (0 : Int32), It (1 : Int32), .val .null, .unset] [])) := by
    intro target kt
    show Steps _ _ _ (s₁.setTop (mkF m 0 #[Rf a1, Rf a2, It (0 : Int32), It (1 : Int32), .val .null, .unset] [])) _
    refine XS.aloadN X0.here hx rfl (hb hby d4_0) rfl rfl ?_
    refine st1 _ ?_
    refine XS.iloadN X1.here hx rfl (hb hby d4_4) rfl ?_
    refine XS.ifYes X1.here hx rfl (pc0 := 5) (pc' := 27) rfl (hb hby d4_5) rfl ((if0 _ _).trans (feq (by decide : ¬ ((1 : Int32) = (0 : Int32)))).2) (by decide) (by decide) ?_
    refine st2 _ ?_
    refine XS.ifNo X2.here hx rfl (hb hby d4_30) rfl ((if0 _ _).trans (feq hCS).1) ?_
    refine XS.aloadN X2.here hx rfl (hb hby d4_33) rfl rfl ?_
    refine XS.iloadN X2.here hx rfl (hb hby d4_34) rfl ?_
    refine XS.iloadN X2.here hx rfl (hb hby d4_35) rfl ?_
    refine st3 _ ?_
    refine XS.astore X3.here hx rfl (hb hby d4_39) rfl rfl (l' := #[Rf a1, Rf a2, It (0 : Int32), It (1 : Int32), .val .null, Rf ro_3]) rfl ?_
    refine XS.aloadN X3.here hx rfl (hb hby d4_41) rfl rfl ?_
    refine XS.aload X3.here hx rfl (hb hby d4_42) rfl rfl ?_
    refine XS.iloadN X3.here hx rfl (hb hby d4_44) rfl ?_
    refine st4 _ ?_
    refine st5 _ ?_
    refine XS.aloadN X5.here hx rfl (hb hby d4_51) rfl rfl ?_
    refine XS.aload X5.here hx rfl (hb hby d4_52) rfl rfl ?_
    refine st7 _ ?_
    exact kt
  obtain ⟨fs, hr, hrun, hended, hW, hsame⟩ := X7.leave (v := none) (fun _ => rfl)
  refine ⟨_, _, pre0 _ (sg9 _ (?_)), hrun, hended, _, _, rfl, ?_, ⟨_, rfl⟩, hW, hsame.mono (by decide) (by decide)⟩
  · show Steps _ _ _ (T7.setTop (mkF m 57 #[Rf a1, Rf a2, It (0 : Int32), It (1 : Int32), .val .null, Rf ro_3] [])) _
    exact X7.returnOut hx Bd.returns (hb hby d4_57) hr
  · show Q4_10 Z a1 a2 x1 zC ka h0 n0 _ T7.heap _
    rw [e7]
    exact ⟨ro_3, ko_3, rfl, N7, K7, O8, (Fw5.other W7 (sn .byte (.array .byte) (Or.inr (tw hw 36 rfl)) (Or.inr (tw hw 38 rfl)))), Fw7, ((f3_0.other W5 (Ne.symm (Nat.ne_of_lt (Nat.lt_of_lt_of_le E_a1.lt f3_2)))).other W7 (Ne.symm (Nat.ne_of_lt (Nat.lt_of_lt_of_le E_a1.lt f3_2)))), f3_1, (Nat.le_trans K0.1 f3_2)⟩
def Q3_10 (Z : State) (a1 : Addr) (a2 : Addr) (x1 : Int32) (zC : Int32) (ka : ClassId) (h0 : Heap) (n0 : Nat) (v : Option Value) (h : Heap) (L : List Loc) : Prop := ∃ ro : Addr, ∃ ko : ClassId, v = none ∧ Fr n0 L ∧ Keep h0 h [a1] ∧ Old Z n0 h ∧ Fld Z h a1 "java/lang/String" "coder" "B" (.int (1 : Int32)) ∧ Fld Z h a1 "java/lang/String" "value" "[B" (.ref ro) ∧ Arv Z h ro ko .byte (2 : Int32) (ub1 x1) (.int (0 : Int32)) ∧ n0 ≤ ro ∧ h0.size ≤ ro
theorem ef_3_10 (m : MethodId) (x0 : Addr) (x1 : Addr) : entryFrame m #[(.ref x0), (.ref x1)] 2 = mkF m 0 #[.val (.ref x0), .val (.ref x1)] [] := by first | (simp [entryFrame, mkF, argsToLocals, Value.category]; done) | rfl
theorem rm3_10 (l : Launch) (Z : State) (a0 : Array Value) (hw : ∀ d ∈ tables_1, d.before a0 Z = true) (ws : List Jvm.Cond) (a1 : Addr) (a2 : Addr) (x1 : Int32) (zC : Int32) (ka : ClassId) (h0 : Heap) (n0 : Nat) (O0 : Old Z n0 h0) (sC : TS_3 Z zC) (sA : TS_0 Z) (sH : TS_1 Z) (sL : TS_2 Z) (E_a1 : Exa Z h0 a1 "java/lang/String") (F_value_a1 : Fld Z h0 a1 "java/lang/String" "value" "[B" .null) (F_coder_a1 : Fld Z h0 a1 "java/lang/String" "coder" "B" (.int (0 : Int32))) (ge_a1 : n0 ≤ a1) (hCS : ¬ zC = 0) (A_a2 : Arv Z h0 a2 ka .char (1 : Int32) [(.int x1)] (.int (0 : Int32))) (h_g : (255 : Int32) < x1) (h_x : CR x1) :
    MetFree l m_17 (head1 (Jvm.Cond.code m_17 jdk_42_method_3_code 2 none :: ws) (rk 5 2 3 74)) (fun a U => a = #[(.ref a1), (.ref a2)] ∧ Z.Warmed39 U.vm ∧ U.heap = h0) (fun _ _ _ _ _ => True) (fun _ U o U' => ∃ v L, o = .returned v ∧ Q3_10 Z a1 a2 x1 zC ka h0 n0 v U'.heap L ∧ FrameEnd U o U' L (rk 5 2 3 74).cells (rk 5 2 3 74).slots) := by
  refine MetFree.of_bodySF (plainFor_of_name pn_3) hisR ?_
  intro p e s m args below meth c s₁ Bd hml0 hP hK
  obtain ⟨rfl, hZ, hh⟩ := hP
  have hx := Bd.exec
  have hby := Bd.bytes
  have hml : c.maxLocals = 2 := hml0
  have hown : s.vm.findClass "java/lang/String" = some m.cls := findClass_of_methodNamed Bd.named
  have X0 : Stand p l e (rk 5 2 3 74) s m #[(.ref a1), (.ref a2)] below meth c s₁ [] 0 0 := Stand.of_body Bd
  have e0 : s₁.heap = h0 := by rw [← hh, Bd.state]; rfl
  have N0 := Fr.nil n0
  have pre0 := own_pre (tb := p.tables) (e := e) (bl := below) (s := s₁) (ef_3_10 m a1 a2)
  have K0 := Keep.refl h0 [a1]
  obtain ⟨cl1, Ar1, -, Sz1, Nn1, -, -⟩ := id A_a2
  obtain ⟨_, _, ⟨T2, L2, k2, n2⟩, -, X2, ⟨Lc2, hQ2, l2, y2, z2⟩, st2⟩ := X0.specialBack hx (y := m_16) rfl hown (mvT hZ (tw hw 16 rfl)) (mvT hZ (tw hw 17 rfl)) (mvT hZ (tw hw 19 rfl)) (by decide) (backOf (W := 0) (rm4_10 l Z a0 hw [] a1 a2 x1 zC ka h0 n0 O0 sC sA sH sL E_a1 F_value_a1 F_coder_a1 ge_a1 hCS A_a2 h_g h_x) hZ (tw hw 19 rfl) (tw hw 6 rfl) (by decide) (by decide)) (g := (mkF m 6 #[Rf a1, Rf a2] [.null, (.int (1 : Int32)), (.int (0 : Int32)), (.ref a2), (.ref a1)])) rfl (by rw [hml]; rfl) (Steps.refl _) (a := a1) (argsL := [(.ref a2), (.int (0 : Int32)), (.int (1 : Int32)), .null]) (rest := []) (lenOf pd_7 rfl) rfl (w0 rfl) (hb hby d3_6) (fun _ _ => ⟨rfl, e0, (by decide : 0 + 2 ≤ _), (by decide : 0 + 3 ≤ _)⟩)
  dsimp only [Pt.U, Pt.locs, Pt.cells, Pt.slots] at X2 l2 y2 z2 st2 hQ2
  subst l2 y2 z2
  obtain ⟨ro_2, ko_2, rfl, N2q, K2q, O2, f2_0, f2_1, f2_2, f2_3, f2_4⟩ := hQ2
  have N2 := Fr.app N0 N2q
  have K2 := K0.trans K2q (allS (Or.inl (List.mem_of_getElem? (i := 0) rfl)) all0)
  have sg3 : SG p.tables e below (T2.setTop (mkF m 9 #[Rf a1, Rf a2] [])) (s₁.setTop (mkF m 0 #[Rf a1, Rf a2] [])) := by
    intro target kt
    show Steps _ _ _ (s₁.setTop (mkF m 0 #[Rf a1, Rf a2] [])) _
    refine XS.aloadN X0.here hx rfl (hb hby d3_0) rfl rfl ?_
    refine XS.aloadN X0.here hx rfl (hb hby d3_1) rfl rfl ?_
    refine XS.iconst X0.here hx rfl (hb hby d3_2) ?_
    refine XS.aloadN X0.here hx rfl (hb hby d3_3) rfl rfl ?_
    refine X0.arraylength hx (own_rwh e0 Ar1.1) (State.isArrayOf_alike hZ.alike Ar1.2.1) (g := (mkF m 4 #[Rf a1, Rf a2] [(.ref a2), (.int (0 : Int32)), (.ref a2), (.ref a1)])) rfl rfl (hb hby d3_4) _ ?_
    rw [len_of Sz1 Nn1]
    show Steps _ _ _ (s₁.setTop (mkF m 5 #[Rf a1, Rf a2] [(.int (1 : Int32)), (.int (0 : Int32)), (.ref a2), (.ref a1)])) _
    refine XS.aconstNull X0.here hx rfl (hb hby d3_5) ?_
    refine st2.trans ?_
    exact kt
  obtain ⟨fs, hr, hrun, hended, hW, hsame⟩ := X2.leave (v := none) (fun _ => rfl)
  refine ⟨_, _, pre0 _ (sg3 _ (?_)), hrun, hended, _, _, rfl, ?_, ⟨_, rfl⟩, hW, hsame.mono (by decide) (by decide)⟩
  · show Steps _ _ _ (T2.setTop (mkF m 9 #[Rf a1, Rf a2] [])) _
    exact X2.returnOut hx Bd.returns (hb hby d3_9) hr
  · show Q3_10 Z a1 a2 x1 zC ka h0 n0 _ T2.heap _
    exact ⟨ro_2, ko_2, rfl, N2, K2, O2, f2_0, f2_1, f2_2, f2_3, (Nat.le_trans K0.1 f2_4)⟩
def Q7_11 (Z : State) (a1 : Addr) (a3 : Addr) (x1 : Int32) (ka : ClassId) (kb : ClassId) (h0 : Heap) (n0 : Nat) (v : Option Value) (h : Heap) (L : List Loc) : Prop := v = some (.int (1 : Int32)) ∧ Fr n0 L ∧ Keep h0 h [a3] ∧ Old Z n0 h ∧ Arv Z h a3 kb .byte (1 : Int32) (lu1 x1) (.int (0 : Int32))
theorem rm7_11 (l : Launch) (Z : State) (a0 : Array Value) (hw : ∀ d ∈ tables_1, d.before a0 Z = true) (ws : List Jvm.Cond) (a1 : Addr) (a3 : Addr) (x1 : Int32) (ka : ClassId) (kb : ClassId) (h0 : Heap) (n0 : Nat) (O0 : Old Z n0 h0) (A_a1 : Arv Z h0 a1 ka .char (1 : Int32) [(.int x1)] (.int (0 : Int32))) (A_a3 : Arv Z h0 a3 kb .byte (1 : Int32) [(.int (0 : Int32))] (.int (0 : Int32))) (ge_a3 : n0 ≤ a3) (h_l1 : ¬ (255 : Int32) < x1) :
    MetFree l m_13 (head1 (Jvm.Cond.code m_13 jdk_52_method_21_code 7 (some .int) :: ws) (rk 0 0 0 0)) (fun a U => a = #[(.ref a1), (.int (0 : Int32)), (.ref a3), (.int (0 : Int32)), (.int (1 : Int32))] ∧ Z.Warmed39 U.vm ∧ U.heap = h0) (fun _ _ _ _ _ => True) (fun _ U o U' => ∃ v L, o = .returned v ∧ Q7_11 Z a1 a3 x1 ka kb h0 n0 v U'.heap L ∧ FrameEnd U o U' L (rk 0 0 0 0).cells (rk 0 0 0 0).slots) := by
  refine MetFree.of_bodySF (plainFor_of_name pn_2) hisR ?_
  intro p e s m args below meth c s₁ Bd hml0 hP hK
  obtain ⟨rfl, hZ, hh⟩ := hP
  have hx := Bd.exec
  have hby := Bd.bytes
  have hml : c.maxLocals = 7 := hml0
  have hown : s.vm.findClass "java/lang/StringUTF16" = some m.cls := findClass_of_methodNamed Bd.named
  have X0 : Stand p l e (rk 0 0 0 0) s m #[(.ref a1), (.int (0 : Int32)), (.ref a3), (.int (0 : Int32)), (.int (1 : Int32))] below meth c s₁ [] 0 0 := Stand.of_body Bd
  have e0 : s₁.heap = h0 := by rw [← hh, Bd.state]; rfl
  have N0 := Fr.nil n0
  have pre0 := own_pre (tb := p.tables) (e := e) (bl := below) (s := s₁) (ef_7_01 m a1 (0 : Int32) a3 (0 : Int32) (1 : Int32))
  have K0 := Keep.refl h0 [a3]
  obtain ⟨cl1, Ar1, -, Sz1, Nn1, Hh1, -⟩ := id A_a1
  have hin1 : ¬ ((0 : Int32) < 0 ∨ cl1.slots.size ≤ ((0 : Int32)).toNatClampNeg) := inb_of Sz1 ⟨by decide, by decide⟩
  have hat1 : cl1.slots[((0 : Int32)).toNatClampNeg]? = some (.int x1) := Has.at Hh1 hin1 rfl
  obtain ⟨cl2, Ar2, q2, Sz2, Nn2, Hh2, Gg2⟩ := id A_a3
  have hin2 : ¬ ((0 : Int32) < 0 ∨ cl2.slots.size ≤ ((0 : Int32)).toNatClampNeg) := inb_of Sz2 ⟨by decide, by decide⟩
  obtain ⟨T3, h3, X3, e3, W3, st3⟩ := stB X0 hx hZ e0 Ar2 (j := (0 : Int32)) hin2 (g := (mkF m 31 #[Rf a1, It (0 : Int32), Rf a3, It (0 : Int32), It (1 : Int32), It (0 : Int32), It x1] [(.int (x1.toInt8.toInt32)), (.int (0 : Int32)), (.ref a3)])) rfl rfl (hb hby d7_31)
  have V3 : Arv Z h3 a3 kb .byte (1 : Int32) [(.int ((x1.toInt8.toInt32).toInt8.toInt32))] (.int (0 : Int32)) := Arv.set Ar2 q2 Sz2 Nn2 Hh2 Gg2 (fits_nar_byte _) W3 0 rfl (Nat.le_of_ble_eq_true rfl)
  have N3 := Fr.snoc X3 N0 ge_a3
  have O4 := O0.wr W3 ge_a3
  have K3 := K0.wr W3 (Or.inl (List.mem_of_getElem? (i := 0) rfl))
  have sg5 : SG p.tables e below (T3.setTop (mkF m 46 #[Rf a1, .val (.int ((0 : Int32) + (1 : Int32))), Rf a3, .val (.int ((0 : Int32) + (1 : Int32))), It (1 : Int32), .val (.int ((0 : Int32) + (1 : Int32))), It x1] [(.int (1 : Int32))])) (s₁.setTop (mkF m 0 #[Rf a1, It (0 : Int32), Rf a3, It (0 : Int32), It (1 : Int32), .unset, .unset] [])) := by
    intro target kt
    show Steps _ _ _ (s₁.setTop (mkF m 0 #[Rf a1, It (0 : Int32), Rf a3, It (0 : Int32), It (1 : Int32), .unset, .unset] [])) _
    refine XS.iconst X0.here hx rfl (hb hby d7_0) ?_
    refine XS.istore X0.here hx rfl (hb hby d7_1) rfl (l' := #[Rf a1, It (0 : Int32), Rf a3, It (0 : Int32), It (1 : Int32), It (0 : Int32), .unset]) rfl ?_
    refine XS.iload X0.here hx rfl (hb hby d7_3) rfl ?_
    refine XS.iload X0.here hx rfl (hb hby d7_5) rfl ?_
    refine XS.icmpNo X0.here hx rfl (hb hby d7_7) rfl (tlt (by decide : (0 : Int32) < (1 : Int32))).2.1 ?_
    refine XS.aloadN X0.here hx rfl (hb hby d7_10) rfl rfl ?_
    refine XS.iloadN X0.here hx rfl (hb hby d7_11) rfl ?_
    refine X0.caload hx (j := (0 : Int32)) (v := (.int x1)) (own_rwh e0 Ar1.1) (State.isArrayOf_alike hZ.alike Ar1.2.1) Ar1.2.2 hin1 hat1 (g := (mkF m 12 #[Rf a1, It (0 : Int32), Rf a3, It (0 : Int32), It (1 : Int32), It (0 : Int32), .unset] [(.int (0 : Int32)), (.ref a1)])) rfl rfl (hb hby d7_12) _ ?_
    refine XS.istore X0.here hx rfl (hb hby d7_13) rfl (l' := #[Rf a1, It (0 : Int32), Rf a3, It (0 : Int32), It (1 : Int32), It (0 : Int32), It x1]) rfl ?_
    refine XS.iload X0.here hx rfl (hb hby d7_15) rfl ?_
    refine XS.sipush X0.here hx rfl (hb hby d7_17) ?_
    refine XS.icmpYes X0.here hx rfl (pc0 := 20) (pc' := 26) rfl (hb hby d7_20) rfl (flt h_l1).2.2.2 (by decide) (by decide) ?_
    refine XS.aloadN X0.here hx rfl (hb hby d7_26) rfl rfl ?_
    refine XS.iloadN X0.here hx rfl (hb hby d7_27) rfl ?_
    refine XS.iload X0.here hx rfl (hb hby d7_28) rfl ?_
    refine XS.i2b X0.here hx rfl (hb hby d7_30) rfl ?_
    refine st3 _ ?_
    refine XS.iinc X3.here hx rfl (hb hby d7_32) rfl (l' := #[Rf a1, .val (.int ((0 : Int32) + (1 : Int32))), Rf a3, It (0 : Int32), It (1 : Int32), It (0 : Int32), It x1]) rfl ?_
    refine XS.iinc X3.here hx rfl (hb hby d7_35) rfl (l' := #[Rf a1, .val (.int ((0 : Int32) + (1 : Int32))), Rf a3, .val (.int ((0 : Int32) + (1 : Int32))), It (1 : Int32), It (0 : Int32), It x1]) rfl ?_
    refine XS.iinc X3.here hx rfl (hb hby d7_38) rfl (l' := #[Rf a1, .val (.int ((0 : Int32) + (1 : Int32))), Rf a3, .val (.int ((0 : Int32) + (1 : Int32))), It (1 : Int32), .val (.int ((0 : Int32) + (1 : Int32))), It x1]) rfl ?_
    refine XS.goto X3.here hx rfl (pc0 := 41) (pc' := 3) rfl (hb hby d7_41) (by decide) (by decide) ?_
    refine XS.iload X3.here hx rfl (hb hby d7_3) rfl ?_
    refine XS.iload X3.here hx rfl (hb hby d7_5) rfl ?_
    refine XS.icmpYes X3.here hx rfl (pc0 := 7) (pc' := 44) rfl (hb hby d7_7) rfl (flt (by decide : ¬ (((0 : Int32) + (1 : Int32)) < (1 : Int32)))).2.1 (by decide) (by decide) ?_
    refine XS.iload X3.here hx rfl (hb hby d7_44) rfl ?_
    exact kt
  obtain ⟨fs, hr, hrun, hended, hW, hsame⟩ := X3.leave (v := some (.int (1 : Int32))) (fun h => by rw [Bd.returns] at h; cases h)
  refine ⟨_, _, pre0 _ (sg5 _ (?_)), hrun, hended, _, _, rfl, ?_, ⟨_, rfl⟩, hW, hsame.mono (by decide) (by decide)⟩
  · show Steps _ _ _ (T3.setTop (mkF m 46 #[Rf a1, .val (.int ((0 : Int32) + (1 : Int32))), Rf a3, .val (.int ((0 : Int32) + (1 : Int32))), It (1 : Int32), .val (.int ((0 : Int32) + (1 : Int32))), It x1] [(.int (1 : Int32))])) _
    exact retI X3 hx Bd.returns (hb hby d7_46) hr
  · show Q7_11 Z a1 a3 x1 ka kb h0 n0 _ T3.heap _
    rw [e3]
    exact ⟨(by decide), N3, K3, O4, V3⟩
def Q6_11 (Z : State) (a1 : Addr) (x1 : Int32) (ka : ClassId) (h0 : Heap) (n0 : Nat) (v : Option Value) (h : Heap) (L : List Loc) : Prop := ∃ ro : Addr, ∃ ko : ClassId, v = some (.ref ro) ∧ Fr n0 L ∧ Keep h0 h [] ∧ Old Z n0 h ∧ Arv Z h ro ko .byte (1 : Int32) (lu1 x1) (.int (0 : Int32)) ∧ n0 ≤ ro ∧ h0.size ≤ ro
theorem rm6_11 (l : Launch) (Z : State) (a0 : Array Value) (hw : ∀ d ∈ tables_1, d.before a0 Z = true) (ws : List Jvm.Cond) (a1 : Addr) (x1 : Int32) (ka : ClassId) (h0 : Heap) (n0 : Nat) (O0 : Old Z n0 h0) (A_a1 : Arv Z h0 a1 ka .char (1 : Int32) [(.int x1)] (.int (0 : Int32))) (h_l1 : ¬ (255 : Int32) < x1) :
    MetFree l m_14 (head1 (Jvm.Cond.code m_14 jdk_52_method_16_code 6 (some (.array .byte)) :: ws) (rk 1 1 1 18)) (fun a U => a = #[(.ref a1), (.int (0 : Int32)), (.int (1 : Int32))] ∧ Z.Warmed39 U.vm ∧ U.heap = h0) (fun _ _ _ _ _ => True) (fun _ U o U' => ∃ v L, o = .returned v ∧ Q6_11 Z a1 x1 ka h0 n0 v U'.heap L ∧ FrameEnd U o U' L (rk 1 1 1 18).cells (rk 1 1 1 18).slots) := by
  refine MetFree.of_bodySF (plainFor_of_name pn_2) hisR ?_
  intro p e s m args below meth c s₁ Bd hml0 hP hK
  obtain ⟨rfl, hZ, hh⟩ := hP
  have hx := Bd.exec
  have hby := Bd.bytes
  have hml : c.maxLocals = 6 := hml0
  have hown : s.vm.findClass "java/lang/StringUTF16" = some m.cls := findClass_of_methodNamed Bd.named
  have X0 : Stand p l e (rk 1 1 1 18) s m #[(.ref a1), (.int (0 : Int32)), (.int (1 : Int32))] below meth c s₁ [] 0 0 := Stand.of_body Bd
  have e0 : s₁.heap = h0 := by rw [← hh, Bd.state]; rfl
  have N0 := Fr.nil n0
  have pre0 := own_pre (tb := p.tables) (e := e) (bl := below) (s := s₁) (ef_6_10 m a1 (0 : Int32) (1 : Int32))
  have K0 := Keep.refl h0 []
  obtain ⟨T1, h1, k1, X1, e1, E1, A1, st1⟩ := newP X0 hx hZ (tw hw 28 rfl) e0 (g := (mkF m 1 #[Rf a1, It (0 : Int32), It (1 : Int32), .unset, .unset, .unset] [(.int (1 : Int32))])) rfl (hb hby d6_1) rfl (by decide) (cap := 1) (by decide) (by decide) (by decide) (by decide)
  obtain ⟨b1, g1⟩ : ∃ z, z = h0.size := ⟨_, rfl⟩
  rw [← g1] at A1 st1
  have ge_b1 : n0 ≤ b1 := Nat.le_trans (own_osz O0) (Nat.le_of_eq g1.symm)
  have sz_b1 : h0.size ≤ b1 := Nat.le_trans K0.1 (Nat.le_of_eq g1.symm)
  have O2 := O0.ext E1
  have K1 := K0.ext E1
  have V_b1 : Arv Z h1 b1 k1 .byte (1 : Int32) [(.int (0 : Int32))] (.int (0 : Int32)) := (Arv.new A1 (by decide)).pad (pad_rep [] (.int (0 : Int32)) 1)
  obtain ⟨_, _, ⟨T3, L3, k3, n3⟩, -, X3, ⟨Lc3, hQ3, l3, y3, z3⟩, st3⟩ := Jvm.LawKit.callS X1 hx (y := m_13) hown (mvT hZ (tw hw 29 rfl)) (mvT hZ (tw hw 30 rfl)) (mvT hZ (tw hw 26 rfl)) (mvT hZ (tw hw 31 rfl)) (by decide) (backOf (W := 0) (rm7_11 l Z a0 hw [] a1 b1 x1 ka k1 h1 n0 O2 (A_a1.ext E1) V_b1 ge_b1 h_l1) hZ (tw hw 31 rfl) (tw hw 26 rfl) (by decide) (by decide)) (g := (mkF m 9 #[Rf a1, It (0 : Int32), It (1 : Int32), Rf b1, .unset, .unset] [(.int (1 : Int32)), (.int (0 : Int32)), (.ref b1), (.int (0 : Int32)), (.ref a1)])) rfl (by rw [hml]; rfl) (argsL := [(.ref a1), (.int (0 : Int32)), (.ref b1), (.int (0 : Int32)), (.int (1 : Int32))]) (rest := []) (lenOf pd_3 rfl) rfl (w0 rfl) (hb hby d6_9) (fun _ _ => ⟨rfl, e1, (by decide : 1 + 0 ≤ _), (by decide : 1 + 0 ≤ _)⟩)
  dsimp only [Pt.U, Pt.locs, Pt.cells, Pt.slots] at X3 l3 y3 z3 st3 hQ3
  subst l3 y3 z3
  obtain ⟨rfl, N3q, K3q, O3, f3_0⟩ := hQ3
  have N3 := Fr.app N0 N3q
  have K3 := K1.trans K3q (allS (Or.inr sz_b1) all0)
  have sg4 : SG p.tables e below (T3.setTop (mkF m 58 #[Rf a1, It (0 : Int32), It (1 : Int32), Rf b1, It (1 : Int32), .unset] [(.ref b1)])) (s₁.setTop (mkF m 0 #[Rf a1, It (0 : Int32), It (1 : Int32), .unset, .unset, .unset] [])) := by
    intro target kt
    show Steps _ _ _ (s₁.setTop (mkF m 0 #[Rf a1, It (0 : Int32), It (1 : Int32), .unset, .unset, .unset] [])) _
    refine XS.iloadN X0.here hx rfl (hb hby d6_0) rfl ?_
    refine st1 _ ?_
    refine XS.astoreN X1.here hx rfl (hb hby d6_3) rfl rfl (l' := #[Rf a1, It (0 : Int32), It (1 : Int32), Rf b1, .unset, .unset]) rfl ?_
    refine XS.aloadN X1.here hx rfl (hb hby d6_4) rfl rfl ?_
    refine XS.iloadN X1.here hx rfl (hb hby d6_5) rfl ?_
    refine XS.aloadN X1.here hx rfl (hb hby d6_6) rfl rfl ?_
    refine XS.iconst X1.here hx rfl (hb hby d6_7) ?_
    refine XS.iloadN X1.here hx rfl (hb hby d6_8) rfl ?_
    refine st3 _ ?_
    refine XS.istore X3.here hx rfl (hb hby d6_12) rfl (l' := #[Rf a1, It (0 : Int32), It (1 : Int32), Rf b1, It (1 : Int32), .unset]) rfl ?_
    refine XS.iload X3.here hx rfl (hb hby d6_14) rfl ?_
    refine XS.iloadN X3.here hx rfl (hb hby d6_16) rfl ?_
    refine XS.icmpYes X3.here hx rfl (pc0 := 17) (pc' := 57) rfl (hb hby d6_17) rfl (teq (by decide : (1 : Int32) = (1 : Int32))).1 (by decide) (by decide) ?_
    refine XS.aloadN X3.here hx rfl (hb hby d6_57) rfl rfl ?_
    exact kt
  obtain ⟨fs, hr, hrun, hended, hW, hsame⟩ := X3.leave (v := some (.ref b1)) (fun h => by rw [Bd.returns] at h; cases h)
  refine ⟨_, _, pre0 _ (sg4 _ (?_)), hrun, hended, _, _, rfl, ?_, ⟨_, rfl⟩, hW, hsame.mono (by decide) (by decide)⟩
  · show Steps _ _ _ (T3.setTop (mkF m 58 #[Rf a1, It (0 : Int32), It (1 : Int32), Rf b1, It (1 : Int32), .unset] [(.ref b1)])) _
    jvm_step X3.here [X3.here.top, hx, (hb hby d6_58), X3.method', Bd.returns, Value.isRef, FieldType.isReference]
    first | (intro acts; rw [hr _ acts rfl rfl rfl]) | rw [hr _ _ rfl rfl rfl]
    exact Steps.refl _
  · show Q6_11 Z a1 x1 ka h0 n0 _ T3.heap _
    exact ⟨b1, k1, rfl, N3, K3, O3, f3_0, ge_b1, sz_b1⟩
def Q8_11 (Z : State) (a1 : Addr) (vs : List Value) (ka : ClassId) (h0 : Heap) (n0 : Nat) (v : Option Value) (h : Heap) (L : List Loc) : Prop := v = some (.int (0 : Int32)) ∧ Fr n0 L ∧ h = h0
theorem rm8_11 (l : Launch) (Z : State) (a0 : Array Value) (hw : ∀ d ∈ tables_1, d.before a0 Z = true) (ws : List Jvm.Cond) (a1 : Addr) (vs : List Value) (ka : ClassId) (h0 : Heap) (n0 : Nat) (O0 : Old Z n0 h0) (A_a1 : Arv Z h0 a1 ka .byte (1 : Int32) vs (.int (0 : Int32))) :
    MetFree l m_15 (head1 (Jvm.Cond.code m_15 jdk_52_method_15_code 2 (some .byte) :: ws) (rk 0 0 0 0)) (fun a U => a = #[(.ref a1), (.int (1 : Int32))] ∧ Z.Warmed39 U.vm ∧ U.heap = h0) (fun _ _ _ _ _ => True) (fun _ U o U' => ∃ v L, o = .returned v ∧ Q8_11 Z a1 vs ka h0 n0 v U'.heap L ∧ FrameEnd U o U' L (rk 0 0 0 0).cells (rk 0 0 0 0).slots) := by
  refine MetFree.of_bodySF (plainFor_of_name pn_2) hisR ?_
  intro p e s m args below meth c s₁ Bd hml0 hP hK
  obtain ⟨rfl, hZ, hh⟩ := hP
  have hx := Bd.exec
  have hby := Bd.bytes
  have hml : c.maxLocals = 2 := hml0
  have hown : s.vm.findClass "java/lang/StringUTF16" = some m.cls := findClass_of_methodNamed Bd.named
  have X0 : Stand p l e (rk 0 0 0 0) s m #[(.ref a1), (.int (1 : Int32))] below meth c s₁ [] 0 0 := Stand.of_body Bd
  have e0 : s₁.heap = h0 := by rw [← hh, Bd.state]; rfl
  have N0 := Fr.nil n0
  have pre0 := own_pre (tb := p.tables) (e := e) (bl := below) (s := s₁) (ef_23_0 m a1 (1 : Int32))
  obtain ⟨cl1, Ar1, -, Sz1, Nn1, -, -⟩ := id A_a1
  have sg2 : SG p.tables e below (s₁.setTop (mkF m 8 #[Rf a1, It (1 : Int32)] [(.int (((((1 : Int32) - (1 : Int32)).toUInt32 >>> ((31 : Int32) &&& 31).toUInt32).toInt32).toInt8.toInt32))])) (s₁.setTop (mkF m 0 #[Rf a1, It (1 : Int32)] [])) := by
    intro target kt
    show Steps _ _ _ (s₁.setTop (mkF m 0 #[Rf a1, It (1 : Int32)] [])) _
    refine XS.iloadN X0.here hx rfl (hb hby d8_0) rfl ?_
    refine XS.aloadN X0.here hx rfl (hb hby d8_1) rfl rfl ?_
    refine X0.arraylength hx (own_rwh e0 Ar1.1) (State.isArrayOf_alike hZ.alike Ar1.2.1) (g := (mkF m 2 #[Rf a1, It (1 : Int32)] [(.ref a1), (.int (1 : Int32))])) rfl rfl (hb hby d8_2) _ ?_
    rw [len_of Sz1 Nn1]
    show Steps _ _ _ (s₁.setTop (mkF m 3 #[Rf a1, It (1 : Int32)] [(.int (1 : Int32)), (.int (1 : Int32))])) _
    refine XS.isub X0.here hx rfl (hb hby d8_3) rfl ?_
    refine XS.bipush X0.here hx rfl (hb hby d8_4) ?_
    refine XS.iushr X0.here hx rfl (hb hby d8_6) rfl ?_
    refine XS.i2b X0.here hx rfl (hb hby d8_7) rfl ?_
    exact kt
  have hnar : nar .byte (((((1 : Int32) - (1 : Int32)).toUInt32 >>> ((31 : Int32) &&& 31).toUInt32).toInt32).toInt8.toInt32) = (((((1 : Int32) - (1 : Int32)).toUInt32 >>> ((31 : Int32) &&& 31).toUInt32).toInt32).toInt8.toInt32) := (by decide)
  obtain ⟨fs, hr, hrun, hended, hW, hsame⟩ := X0.leave (v := some (.int (((((1 : Int32) - (1 : Int32)).toUInt32 >>> ((31 : Int32) &&& 31).toUInt32).toInt32).toInt8.toInt32))) (fun h => by rw [Bd.returns] at h; cases h)
  rw [← hnar] at hr
  refine ⟨_, _, pre0 _ (sg2 _ (?_)), hrun, hended, _, _, rfl, ?_, ⟨_, rfl⟩, hW, hsame.mono (by decide) (by decide)⟩
  · show Steps _ _ _ (s₁.setTop (mkF m 8 #[Rf a1, It (1 : Int32)] [(.int (((((1 : Int32) - (1 : Int32)).toUInt32 >>> ((31 : Int32) &&& 31).toUInt32).toInt32).toInt8.toInt32))])) _
    exact retN X0 hx (t := .byte) Bd.returns (by simp) (hb hby d8_8) hr
  · show Q8_11 Z a1 vs ka h0 n0 _ s₁.heap _
    rw [e0]
    exact ⟨(by decide), N0, rfl⟩
def Q4_11 (Z : State) (a1 : Addr) (a2 : Addr) (x1 : Int32) (zC : Int32) (ka : ClassId) (h0 : Heap) (n0 : Nat) (v : Option Value) (h : Heap) (L : List Loc) : Prop := ∃ ro : Addr, ∃ ko : ClassId, v = none ∧ Fr n0 L ∧ Keep h0 h [a1] ∧ Old Z n0 h ∧ Fld Z h a1 "java/lang/String" "coder" "B" (.int (0 : Int32)) ∧ Fld Z h a1 "java/lang/String" "value" "[B" (.ref ro) ∧ Arv Z h ro ko .byte (1 : Int32) (lu1 x1) (.int (0 : Int32)) ∧ n0 ≤ ro ∧ h0.size ≤ ro
theorem rm4_11 (l : Launch) (Z : State) (a0 : Array Value) (hw : ∀ d ∈ tables_1, d.before a0 Z = true) (ws : List Jvm.Cond) (a1 : Addr) (a2 : Addr) (x1 : Int32) (zC : Int32) (ka : ClassId) (h0 : Heap) (n0 : Nat) (O0 : Old Z n0 h0) (sC : TS_3 Z zC) (E_a1 : Exa Z h0 a1 "java/lang/String") (F_value_a1 : Fld Z h0 a1 "java/lang/String" "value" "[B" .null) (F_coder_a1 : Fld Z h0 a1 "java/lang/String" "coder" "B" (.int (0 : Int32))) (ge_a1 : n0 ≤ a1) (hCS : ¬ zC = 0) (A_a2 : Arv Z h0 a2 ka .char (1 : Int32) [(.int x1)] (.int (0 : Int32))) (h_l1 : ¬ (255 : Int32) < x1) :
    MetFree l m_16 (head1 (Jvm.Cond.code m_16 jdk_42_method_149_code 6 none :: ws) (rk 2 1 1 35)) (fun a U => a = #[(.ref a1), (.ref a2), (.int (0 : Int32)), (.int (1 : Int32)), .null] ∧ Z.Warmed39 U.vm ∧ U.heap = h0) (fun _ _ _ _ _ => True) (fun _ U o U' => ∃ v L, o = .returned v ∧ Q4_11 Z a1 a2 x1 zC ka h0 n0 v U'.heap L ∧ FrameEnd U o U' L (rk 2 1 1 35).cells (rk 2 1 1 35).slots) := by
  refine MetFree.of_bodySF (plainFor_of_name pn_3) hisR ?_
  intro p e s m args below meth c s₁ Bd hml0 hP hK
  obtain ⟨rfl, hZ, hh⟩ := hP
  have hx := Bd.exec
  have hby := Bd.bytes
  have hml : c.maxLocals = 6 := hml0
  have hown : s.vm.findClass "java/lang/String" = some m.cls := findClass_of_methodNamed Bd.named
  have hnm := (name_of_methodNamed Bd.named Bd.method).1
  have X0 : Stand p l e (rk 2 1 1 35) s m #[(.ref a1), (.ref a2), (.int (0 : Int32)), (.int (1 : Int32)), .null] below meth c s₁ [] 0 0 := Stand.of_body Bd
  have e0 : s₁.heap = h0 := by rw [← hh, Bd.state]; rfl
  have N0 := Fr.nil n0
  have pre0 := own_pre (tb := p.tables) (e := e) (bl := below) (s := s₁) (ef_4_10 m a1 a2 (0 : Int32) (1 : Int32))
  have K0 := Keep.refl h0 [a1]
  obtain ⟨T1, X1, e1, st1⟩ := initO X0 hx hZ hown (tw hw 20 rfl) (tw hw 21 rfl) (tw hw 22 rfl) e0 (g := (mkF m 1 #[Rf a1, Rf a2, It (0 : Int32), It (1 : Int32), .val .null, .unset] [(.ref a1)])) rfl (by rw [hml]; rfl) rfl (hb hby d4_1) (by decide) (W := 0) (w0 rfl) (by decide)
  obtain ⟨T2, X2, e2, st2⟩ := getS2 X1 hx hZ hown (host := "") (Or.inl (tw hw 23 rfl)) Via.refl e1 (sC.ext O0.2) (g := (mkF m 27 #[Rf a1, Rf a2, It (0 : Int32), It (1 : Int32), .val .null, .unset] [])) rfl (hb hby d4_27)
  obtain ⟨_, _, ⟨T3, L3, k3, n3⟩, -, X3, ⟨Lc3, hQ3, l3, y3, z3⟩, st3⟩ := Jvm.LawKit.callS X2 hx (y := m_14) hown (mvT hZ (tw hw 24 rfl)) (mvT hZ (tw hw 25 rfl)) (mvT hZ (tw hw 26 rfl)) (mvT hZ (tw hw 27 rfl)) (by decide) (backOf (W := 0) (rm6_11 l Z a0 hw [] a2 x1 ka h0 n0 O0 A_a2 h_l1) hZ (tw hw 27 rfl) (tw hw 26 rfl) (by decide) (by decide)) (g := (mkF m 36 #[Rf a1, Rf a2, It (0 : Int32), It (1 : Int32), .val .null, .unset] [(.int (1 : Int32)), (.int (0 : Int32)), (.ref a2)])) rfl (by rw [hml]; rfl) (argsL := [(.ref a2), (.int (0 : Int32)), (.int (1 : Int32))]) (rest := []) (lenOf pd_4 rfl) rfl (w0 rfl) (hb hby d4_36) (fun _ _ => ⟨rfl, e2, (by decide : 0 + 1 ≤ _), (by decide : 0 + 1 ≤ _)⟩)
  dsimp only [Pt.U, Pt.locs, Pt.cells, Pt.slots] at X3 l3 y3 z3 st3 hQ3
  subst l3 y3 z3
  obtain ⟨ro_3, ko_3, rfl, N3q, K3q, O3, f3_0, f3_1, f3_2⟩ := hQ3
  have N3 := Fr.app N0 N3q
  have K3 := K0.trans K3q all0
  obtain ⟨_, _, ⟨T4, L4, k4, n4⟩, -, X4, ⟨Lc4, hQ4, l4, y4, z4⟩, st4⟩ := Jvm.LawKit.callS X3 hx (y := m_15) hown (mvT hZ (tw hw 32 rfl)) (mvT hZ (tw hw 33 rfl)) (mvT hZ (tw hw 26 rfl)) (mvT hZ (tw hw 34 rfl)) (by decide) (backOf (W := 1) (rm8_11 l Z a0 hw [] ro_3 (lu1 x1) ko_3 T3.heap n0 O3 f3_0) hZ (tw hw 34 rfl) (tw hw 26 rfl) (by decide) (by decide)) (g := (mkF m 45 #[Rf a1, Rf a2, It (0 : Int32), It (1 : Int32), .val .null, Rf ro_3] [(.int (1 : Int32)), (.ref ro_3), (.ref a1)])) rfl (by rw [hml]; rfl) (argsL := [(.ref ro_3), (.int (1 : Int32))]) (rest := [(.ref a1)]) (lenOf pd_6 rfl) rfl (w0 rfl) (hb hby d4_45) (fun _ _ => ⟨rfl, rfl, (by decide : 1 + 0 ≤ _), (by decide : 1 + 0 ≤ _)⟩)
  dsimp only [Pt.U, Pt.locs, Pt.cells, Pt.slots] at X4 l4 y4 z4 st4 hQ4
  subst l4 y4 z4
  obtain ⟨rfl, N4q, e4⟩ := hQ4
  have N4 := Fr.app N3 N4q
  obtain ⟨T5, h5, X5, e5, W5, st5⟩ := putFN X4 hx hZ hown (tw hw 35 rfl) Via.refl e4 (F_coder_a1.keep K3q nin0) (E_a1.keep K3q) (Or.inr ⟨(tw hw 36 rfl), rfl, hnm⟩) (tw hw 5 rfl) (ty := .byte) (v' := .int ((0 : Int32).toInt8.toInt32)) (by decide) rfl (fits_nar_byte _) (g := (mkF m 48 #[Rf a1, Rf a2, It (0 : Int32), It (1 : Int32), .val .null, Rf ro_3] [(.int (0 : Int32)), (.ref a1)])) rfl rfl (hb hby d4_48)
  have Fw5 := (F_coder_a1.keep K3q nin0).same W5
  have N5 := Fr.snoc X5 N4 ge_a1
  have O6 := O3.wr W5 ge_a1
  have K5 := K3.wr W5 (Or.inl (List.mem_of_getElem? (i := 0) rfl))
  obtain ⟨T7, h7, X7, e7, W7, st7⟩ := putF X5 hx hZ hown (host := "") (Or.inl (tw hw 37 rfl)) Via.refl e5 ((F_value_a1.keep K3q nin0).other W5 (sn (.array .byte) .byte (Or.inr (tw hw 38 rfl)) (Or.inr (tw hw 36 rfl)))) ((E_a1.keep K3q).wr W5) (Or.inr ⟨(tw hw 38 rfl), rfl, hnm⟩) (tw hw 5 rfl) (ty := (.array .byte)) (by decide) rfl rfl (g := (mkF m 54 #[Rf a1, Rf a2, It (0 : Int32), It (1 : Int32), .val .null, Rf ro_3] [(.ref ro_3), (.ref a1)])) rfl rfl (hb hby d4_54)
  have Fw7 := ((F_value_a1.keep K3q nin0).other W5 (sn (.array .byte) .byte (Or.inr (tw hw 38 rfl)) (Or.inr (tw hw 36 rfl)))).same W7
  have N7 := Fr.snoc X7 N5 ge_a1
  have O8 := O6.wr W7 ge_a1
  have K7 := K5.wr W7 (Or.inl (List.mem_of_getElem? (i := 0) rfl))
  have sg9 : SG p.tables e below (T7.setTop (mkF m 57 #[Rf a1, Rf a2, It (0 : Int32), It (1 : Int32), .val .null, Rf ro_3] [])) (s₁.setTop (mkF m 0 #[Rf a1, Rf a2, It (0 : Int32), It (1 : Int32), .val .null, .unset] [])) := by
    intro target kt
    show Steps _ _ _ (s₁.setTop (mkF m 0 #[Rf a1, Rf a2, It (0 : Int32), It (1 : Int32), .val .null, .unset] [])) _
    refine XS.aloadN X0.here hx rfl (hb hby d4_0) rfl rfl ?_
    refine st1 _ ?_
    refine XS.iloadN X1.here hx rfl (hb hby d4_4) rfl ?_
    refine XS.ifYes X1.here hx rfl (pc0 := 5) (pc' := 27) rfl (hb hby d4_5) rfl ((if0 _ _).trans (feq (by decide : ¬ ((1 : Int32) = (0 : Int32)))).2) (by decide) (by decide) ?_
    refine st2 _ ?_
    refine XS.ifNo X2.here hx rfl (hb hby d4_30) rfl ((if0 _ _).trans (feq hCS).1) ?_
    refine XS.aloadN X2.here hx rfl (hb hby d4_33) rfl rfl ?_
    refine XS.iloadN X2.here hx rfl (hb hby d4_34) rfl ?_
    refine XS.iloadN X2.here hx rfl (hb hby d4_35) rfl ?_
    refine st3 _ ?_
    refine XS.astore X3.here hx rfl (hb hby d4_39) rfl rfl (l' := #[Rf a1, Rf a2, It (0 : Int32), It (1 : Int32), .val .null, Rf ro_3]) rfl ?_
    refine XS.aloadN X3.here hx rfl (hb hby d4_41) rfl rfl ?_
    refine XS.aload X3.here hx rfl (hb hby d4_42) rfl rfl ?_
    refine XS.iloadN X3.here hx rfl (hb hby d4_44) rfl ?_
    refine st4 _ ?_
    refine st5 _ ?_
    refine XS.aloadN X5.here hx rfl (hb hby d4_51) rfl rfl ?_
    refine XS.aload X5.here hx rfl (hb hby d4_52) rfl rfl ?_
    refine st7 _ ?_
    exact kt
  obtain ⟨fs, hr, hrun, hended, hW, hsame⟩ := X7.leave (v := none) (fun _ => rfl)
  refine ⟨_, _, pre0 _ (sg9 _ (?_)), hrun, hended, _, _, rfl, ?_, ⟨_, rfl⟩, hW, hsame.mono (by decide) (by decide)⟩
  · show Steps _ _ _ (T7.setTop (mkF m 57 #[Rf a1, Rf a2, It (0 : Int32), It (1 : Int32), .val .null, Rf ro_3] [])) _
    exact X7.returnOut hx Bd.returns (hb hby d4_57) hr
  · show Q4_11 Z a1 a2 x1 zC ka h0 n0 _ T7.heap _
    rw [e7]
    exact ⟨ro_3, ko_3, rfl, N7, K7, O8, (Fw5.other W7 (sn .byte (.array .byte) (Or.inr (tw hw 36 rfl)) (Or.inr (tw hw 38 rfl)))), Fw7, ((f3_0.other W5 (Ne.symm (Nat.ne_of_lt (Nat.lt_of_lt_of_le E_a1.lt f3_2)))).other W7 (Ne.symm (Nat.ne_of_lt (Nat.lt_of_lt_of_le E_a1.lt f3_2)))), f3_1, (Nat.le_trans K0.1 f3_2)⟩
def Q3_11 (Z : State) (a1 : Addr) (a2 : Addr) (x1 : Int32) (zC : Int32) (ka : ClassId) (h0 : Heap) (n0 : Nat) (v : Option Value) (h : Heap) (L : List Loc) : Prop := ∃ ro : Addr, ∃ ko : ClassId, v = none ∧ Fr n0 L ∧ Keep h0 h [a1] ∧ Old Z n0 h ∧ Fld Z h a1 "java/lang/String" "coder" "B" (.int (0 : Int32)) ∧ Fld Z h a1 "java/lang/String" "value" "[B" (.ref ro) ∧ Arv Z h ro ko .byte (1 : Int32) (lu1 x1) (.int (0 : Int32)) ∧ n0 ≤ ro ∧ h0.size ≤ ro
theorem rm3_11 (l : Launch) (Z : State) (a0 : Array Value) (hw : ∀ d ∈ tables_1, d.before a0 Z = true) (ws : List Jvm.Cond) (a1 : Addr) (a2 : Addr) (x1 : Int32) (zC : Int32) (ka : ClassId) (h0 : Heap) (n0 : Nat) (O0 : Old Z n0 h0) (sC : TS_3 Z zC) (E_a1 : Exa Z h0 a1 "java/lang/String") (F_value_a1 : Fld Z h0 a1 "java/lang/String" "value" "[B" .null) (F_coder_a1 : Fld Z h0 a1 "java/lang/String" "coder" "B" (.int (0 : Int32))) (ge_a1 : n0 ≤ a1) (hCS : ¬ zC = 0) (A_a2 : Arv Z h0 a2 ka .char (1 : Int32) [(.int x1)] (.int (0 : Int32))) (h_l1 : ¬ (255 : Int32) < x1) :
    MetFree l m_17 (head1 (Jvm.Cond.code m_17 jdk_42_method_3_code 2 none :: ws) (rk 3 1 1 52)) (fun a U => a = #[(.ref a1), (.ref a2)] ∧ Z.Warmed39 U.vm ∧ U.heap = h0) (fun _ _ _ _ _ => True) (fun _ U o U' => ∃ v L, o = .returned v ∧ Q3_11 Z a1 a2 x1 zC ka h0 n0 v U'.heap L ∧ FrameEnd U o U' L (rk 3 1 1 52).cells (rk 3 1 1 52).slots) := by
  refine MetFree.of_bodySF (plainFor_of_name pn_3) hisR ?_
  intro p e s m args below meth c s₁ Bd hml0 hP hK
  obtain ⟨rfl, hZ, hh⟩ := hP
  have hx := Bd.exec
  have hby := Bd.bytes
  have hml : c.maxLocals = 2 := hml0
  have hown : s.vm.findClass "java/lang/String" = some m.cls := findClass_of_methodNamed Bd.named
  have X0 : Stand p l e (rk 3 1 1 52) s m #[(.ref a1), (.ref a2)] below meth c s₁ [] 0 0 := Stand.of_body Bd
  have e0 : s₁.heap = h0 := by rw [← hh, Bd.state]; rfl
  have N0 := Fr.nil n0
  have pre0 := own_pre (tb := p.tables) (e := e) (bl := below) (s := s₁) (ef_3_10 m a1 a2)
  have K0 := Keep.refl h0 [a1]
  obtain ⟨cl1, Ar1, -, Sz1, Nn1, -, -⟩ := id A_a2
  obtain ⟨_, _, ⟨T2, L2, k2, n2⟩, -, X2, ⟨Lc2, hQ2, l2, y2, z2⟩, st2⟩ := X0.specialBack hx (y := m_16) rfl hown (mvT hZ (tw hw 16 rfl)) (mvT hZ (tw hw 17 rfl)) (mvT hZ (tw hw 19 rfl)) (by decide) (backOf (W := 0) (rm4_11 l Z a0 hw [] a1 a2 x1 zC ka h0 n0 O0 sC E_a1 F_value_a1 F_coder_a1 ge_a1 hCS A_a2 h_l1) hZ (tw hw 19 rfl) (tw hw 6 rfl) (by decide) (by decide)) (g := (mkF m 6 #[Rf a1, Rf a2] [.null, (.int (1 : Int32)), (.int (0 : Int32)), (.ref a2), (.ref a1)])) rfl (by rw [hml]; rfl) (Steps.refl _) (a := a1) (argsL := [(.ref a2), (.int (0 : Int32)), (.int (1 : Int32)), .null]) (rest := []) (lenOf pd_7 rfl) rfl (w0 rfl) (hb hby d3_6) (fun _ _ => ⟨rfl, e0, (by decide : 0 + 1 ≤ _), (by decide : 0 + 1 ≤ _)⟩)
  dsimp only [Pt.U, Pt.locs, Pt.cells, Pt.slots] at X2 l2 y2 z2 st2 hQ2
  subst l2 y2 z2
  obtain ⟨ro_2, ko_2, rfl, N2q, K2q, O2, f2_0, f2_1, f2_2, f2_3, f2_4⟩ := hQ2
  have N2 := Fr.app N0 N2q
  have K2 := K0.trans K2q (allS (Or.inl (List.mem_of_getElem? (i := 0) rfl)) all0)
  have sg3 : SG p.tables e below (T2.setTop (mkF m 9 #[Rf a1, Rf a2] [])) (s₁.setTop (mkF m 0 #[Rf a1, Rf a2] [])) := by
    intro target kt
    show Steps _ _ _ (s₁.setTop (mkF m 0 #[Rf a1, Rf a2] [])) _
    refine XS.aloadN X0.here hx rfl (hb hby d3_0) rfl rfl ?_
    refine XS.aloadN X0.here hx rfl (hb hby d3_1) rfl rfl ?_
    refine XS.iconst X0.here hx rfl (hb hby d3_2) ?_
    refine XS.aloadN X0.here hx rfl (hb hby d3_3) rfl rfl ?_
    refine X0.arraylength hx (own_rwh e0 Ar1.1) (State.isArrayOf_alike hZ.alike Ar1.2.1) (g := (mkF m 4 #[Rf a1, Rf a2] [(.ref a2), (.int (0 : Int32)), (.ref a2), (.ref a1)])) rfl rfl (hb hby d3_4) _ ?_
    rw [len_of Sz1 Nn1]
    show Steps _ _ _ (s₁.setTop (mkF m 5 #[Rf a1, Rf a2] [(.int (1 : Int32)), (.int (0 : Int32)), (.ref a2), (.ref a1)])) _
    refine XS.aconstNull X0.here hx rfl (hb hby d3_5) ?_
    refine st2.trans ?_
    exact kt
  obtain ⟨fs, hr, hrun, hended, hW, hsame⟩ := X2.leave (v := none) (fun _ => rfl)
  refine ⟨_, _, pre0 _ (sg3 _ (?_)), hrun, hended, _, _, rfl, ?_, ⟨_, rfl⟩, hW, hsame.mono (by decide) (by decide)⟩
  · show Steps _ _ _ (T2.setTop (mkF m 9 #[Rf a1, Rf a2] [])) _
    exact X2.returnOut hx Bd.returns (hb hby d3_9) hr
  · show Q3_11 Z a1 a2 x1 zC ka h0 n0 _ T2.heap _
    exact ⟨ro_2, ko_2, rfl, N2, K2, O2, f2_0, f2_1, f2_2, f2_3, (Nat.le_trans K0.1 f2_4)⟩
def Q6_20 (Z : State) (a1 : Addr) (x1 : Int32) (x2 : Int32) (ka : ClassId) (h0 : Heap) (n0 : Nat) (v : Option Value) (h : Heap) (L : List Loc) : Prop := ∃ ro : Addr, ∃ ko : ClassId, v = some (.ref ro) ∧ Fr n0 L ∧ Keep h0 h [] ∧ Old Z n0 h ∧ Arv Z h ro ko .byte (4 : Int32) (ub2 x1 x2) (.int (0 : Int32)) ∧ n0 ≤ ro ∧ h0.size ≤ ro
theorem rm6_20 (l : Launch) (Z : State) (a0 : Array Value) (hw : ∀ d ∈ tables_1, d.before a0 Z = true) (ws : List Jvm.Cond) (a1 : Addr) (x1 : Int32) (x2 : Int32) (ka : ClassId) (h0 : Heap) (n0 : Nat) (O0 : Old Z n0 h0) (sA : TS_0 Z) (sH : TS_1 Z) (sL : TS_2 Z) (A_a1 : Arv Z h0 a1 ka .char (2 : Int32) [(.int x1), (.int x2)] (.int (0 : Int32))) (h_u : (255 : Int32) < x1 ∨ (255 : Int32) < x2) (h_x1 : CR x1) (h_x2 : CR x2) :
    MetFree l m_14 (head1 (Jvm.Cond.code m_14 jdk_52_method_16_code 6 (some (.array .byte)) :: ws) (rk 3 2 6 40)) (fun a U => a = #[(.ref a1), (.int (0 : Int32)), (.int (2 : Int32))] ∧ Z.Warmed39 U.vm ∧ U.heap = h0) (fun _ _ _ _ _ => True) (fun _ U o U' => ∃ v L, o = .returned v ∧ Q6_20 Z a1 x1 x2 ka h0 n0 v U'.heap L ∧ FrameEnd U o U' L (rk 3 2 6 40).cells (rk 3 2 6 40).slots) := by
  refine MetFree.of_bodySF (plainFor_of_name pn_2) hisR ?_
  intro p e s m args below meth c s₁ Bd hml0 hP hK
  obtain ⟨rfl, hZ, hh⟩ := hP
  have hx := Bd.exec
  have hby := Bd.bytes
  have hml : c.maxLocals = 6 := hml0
  have hown : s.vm.findClass "java/lang/StringUTF16" = some m.cls := findClass_of_methodNamed Bd.named
  have X0 : Stand p l e (rk 3 2 6 40) s m #[(.ref a1), (.int (0 : Int32)), (.int (2 : Int32))] below meth c s₁ [] 0 0 := Stand.of_body Bd
  have e0 : s₁.heap = h0 := by rw [← hh, Bd.state]; rfl
  have N0 := Fr.nil n0
  have pre0 := own_pre (tb := p.tables) (e := e) (bl := below) (s := s₁) (ef_6_10 m a1 (0 : Int32) (2 : Int32))
  have K0 := Keep.refl h0 []
  obtain ⟨T1, h1, k1, X1, e1, E1, A1, st1⟩ := newP X0 hx hZ (tw hw 28 rfl) e0 (g := (mkF m 1 #[Rf a1, It (0 : Int32), It (2 : Int32), .unset, .unset, .unset] [(.int (2 : Int32))])) rfl (hb hby d6_1) rfl (by decide) (cap := 2) (by decide) (by decide) (by decide) (by decide)
  obtain ⟨b1, g1⟩ : ∃ z, z = h0.size := ⟨_, rfl⟩
  rw [← g1] at A1 st1
  have ge_b1 : n0 ≤ b1 := Nat.le_trans (own_osz O0) (Nat.le_of_eq g1.symm)
  have sz_b1 : h0.size ≤ b1 := Nat.le_trans K0.1 (Nat.le_of_eq g1.symm)
  have O2 := O0.ext E1
  have K1 := K0.ext E1
  have V_b1 : Arv Z h1 b1 k1 .byte (2 : Int32) [(.int (0 : Int32)), (.int (0 : Int32))] (.int (0 : Int32)) := (Arv.new A1 (by decide)).pad (pad_rep [] (.int (0 : Int32)) 2)
  have sg3 : SG p.tables e below (T1.setTop (mkF m 9 #[Rf a1, It (0 : Int32), It (2 : Int32), Rf b1, .unset, .unset] [(.int (2 : Int32)), (.int (0 : Int32)), (.ref b1), (.int (0 : Int32)), (.ref a1)])) (s₁.setTop (mkF m 0 #[Rf a1, It (0 : Int32), It (2 : Int32), .unset, .unset, .unset] [])) := by
    intro target kt
    show Steps _ _ _ (s₁.setTop (mkF m 0 #[Rf a1, It (0 : Int32), It (2 : Int32), .unset, .unset, .unset] [])) _
    refine XS.iloadN X0.here hx rfl (hb hby d6_0) rfl ?_
    refine st1 _ ?_
    refine XS.astoreN X1.here hx rfl (hb hby d6_3) rfl rfl (l' := #[Rf a1, It (0 : Int32), It (2 : Int32), Rf b1, .unset, .unset]) rfl ?_
    refine XS.aloadN X1.here hx rfl (hb hby d6_4) rfl rfl ?_
    refine XS.iloadN X1.here hx rfl (hb hby d6_5) rfl ?_
    refine XS.aloadN X1.here hx rfl (hb hby d6_6) rfl rfl ?_
    refine XS.iconst X1.here hx rfl (hb hby d6_7) ?_
    refine XS.iloadN X1.here hx rfl (hb hby d6_8) rfl ?_
    exact kt
  by_cases hc4 : (255 : Int32) < x1
  · obtain ⟨_, _, ⟨T5, L5, k5, n5⟩, -, X5, ⟨Lc5, hQ5, l5, y5, z5⟩, st5⟩ := Jvm.LawKit.callS X1 hx (y := m_13) hown (mvT hZ (tw hw 29 rfl)) (mvT hZ (tw hw 30 rfl)) (mvT hZ (tw hw 26 rfl)) (mvT hZ (tw hw 31 rfl)) (by decide) (backOf (W := 0) (rm7_00 l Z a0 hw [] a1 b1 (2 : Int32) x1 (2 : Int32) (2 : Int32) ([(.int x1), (.int x2)]) ([(.int (0 : Int32)), (.int (0 : Int32))]) ka k1 h1 n0 O2 (by decide) (by decide) (Nat.le_of_ble_eq_true rfl) rfl (by decide) (A_a1.ext E1) V_b1 ge_b1 hc4) hZ (tw hw 31 rfl) (tw hw 26 rfl) (by decide) (by decide)) (g := (mkF m 9 #[Rf a1, It (0 : Int32), It (2 : Int32), Rf b1, .unset, .unset] [(.int (2 : Int32)), (.int (0 : Int32)), (.ref b1), (.int (0 : Int32)), (.ref a1)])) rfl (by rw [hml]; rfl) (argsL := [(.ref a1), (.int (0 : Int32)), (.ref b1), (.int (0 : Int32)), (.int (2 : Int32))]) (rest := []) (lenOf pd_3 rfl) rfl (w0 rfl) (hb hby d6_9) (fun _ _ => ⟨rfl, e1, (by decide : 1 + 0 ≤ _), (by decide : 2 + 0 ≤ _)⟩)
    dsimp only [Pt.U, Pt.locs, Pt.cells, Pt.slots] at X5 l5 y5 z5 st5 hQ5
    subst l5 y5 z5
    obtain ⟨rfl, N5q, K5q, O5⟩ := hQ5
    have N5 := Fr.app N0 N5q
    have K5 := K1.trans K5q (allS (Or.inr sz_b1) all0)
    obtain ⟨_, _, ⟨T6, L6, k6, n6⟩, -, X6, ⟨Lc6, hQ6, l6, y6, z6⟩, st6⟩ := Jvm.LawKit.callS X5 hx (y := m_12) hown (mvT hZ (tw hw 89 rfl)) (mvT hZ (tw hw 90 rfl)) (mvT hZ (tw hw 26 rfl)) (mvT hZ (tw hw 91 rfl)) (by decide) (backOf (W := 0) (rm19_2 l Z a0 hw [] a1 x1 x2 ka T5.heap n0 O5 sA sH sL ((A_a1.ext E1).keep K5q (ninS (Nat.ne_of_lt (Nat.lt_of_lt_of_le A_a1.lt (Nat.le_of_eq g1.symm))) nin0))) hZ (tw hw 91 rfl) (tw hw 26 rfl) (by decide) (by decide)) (g := (mkF m 23 #[Rf a1, It (0 : Int32), It (2 : Int32), Rf b1, It (0 : Int32), .unset] [(.int (2 : Int32)), (.int (0 : Int32)), (.ref a1)])) rfl (by rw [hml]; rfl) (argsL := [(.ref a1), (.int (0 : Int32)), (.int (2 : Int32))]) (rest := []) (lenOf pd_4 rfl) rfl (w0 rfl) (hb hby d6_23) (fun _ _ => ⟨rfl, rfl, (by decide : 1 + 1 ≤ _), (by decide : 2 + 4 ≤ _)⟩)
    dsimp only [Pt.U, Pt.locs, Pt.cells, Pt.slots] at X6 l6 y6 z6 st6 hQ6
    subst l6 y6 z6
    obtain ⟨ro_6, ko_6, rfl, N6q, K6q, O6, f6_0, f6_1, f6_2⟩ := hQ6
    have N6 := Fr.app N5 N6q
    have K6 := K5.trans K6q all0
    obtain ⟨_, _, ⟨T7, L7, k7, n7⟩, -, X7, ⟨Lc7, hQ7, l7, y7, z7⟩, st7⟩ := Jvm.LawKit.callS X6 hx (y := m_9) hown (mvT hZ (tw hw 105 rfl)) (mvT hZ (tw hw 106 rfl)) (mvT hZ (tw hw 26 rfl)) (mvT hZ (tw hw 107 rfl)) (by decide) (backOf (W := 0) (rm23_0 l Z a0 hw [] ro_6 x1 (4 : Int32) (ub2 x1 x2) ko_6 T6.heap n0 O6 sA sH sL (by decide) rfl rfl h_x1 f6_0) hZ (tw hw 107 rfl) (tw hw 26 rfl) (by decide) (by decide)) (g := (mkF m 32 #[Rf a1, It (0 : Int32), It (2 : Int32), Rf b1, It (0 : Int32), Rf ro_6] [(.int (0 : Int32)), (.ref ro_6)])) rfl (by rw [hml]; rfl) (argsL := [(.ref ro_6), (.int (0 : Int32))]) (rest := []) (lenOf pd_5 rfl) rfl (w0 rfl) (hb hby d6_32) (fun _ _ => ⟨rfl, rfl, (by decide : 2 + 0 ≤ _), (by decide : 6 + 0 ≤ _)⟩)
    dsimp only [Pt.U, Pt.locs, Pt.cells, Pt.slots] at X7 l7 y7 z7 st7 hQ7
    subst l7 y7 z7
    obtain ⟨rfl, N7q, e7⟩ := hQ7
    have N7 := Fr.app N6 N7q
    have sg8 : SG p.tables e below (T7.setTop (mkF m 56 #[Rf a1, It (0 : Int32), It (2 : Int32), Rf b1, It (0 : Int32), Rf ro_6] [(.ref ro_6)])) (T1.setTop (mkF m 9 #[Rf a1, It (0 : Int32), It (2 : Int32), Rf b1, .unset, .unset] [(.int (2 : Int32)), (.int (0 : Int32)), (.ref b1), (.int (0 : Int32)), (.ref a1)])) := by
      intro target kt
      show Steps _ _ _ (T1.setTop (mkF m 9 #[Rf a1, It (0 : Int32), It (2 : Int32), Rf b1, .unset, .unset] [(.int (2 : Int32)), (.int (0 : Int32)), (.ref b1), (.int (0 : Int32)), (.ref a1)])) _
      refine st5 _ ?_
      refine XS.istore X5.here hx rfl (hb hby d6_12) rfl (l' := #[Rf a1, It (0 : Int32), It (2 : Int32), Rf b1, It (0 : Int32), .unset]) rfl ?_
      refine XS.iload X5.here hx rfl (hb hby d6_14) rfl ?_
      refine XS.iloadN X5.here hx rfl (hb hby d6_16) rfl ?_
      refine XS.icmpNo X5.here hx rfl (hb hby d6_17) rfl (feq (by decide : ¬ ((0 : Int32) = (2 : Int32)))).1 ?_
      refine XS.aloadN X5.here hx rfl (hb hby d6_20) rfl rfl ?_
      refine XS.iloadN X5.here hx rfl (hb hby d6_21) rfl ?_
      refine XS.iloadN X5.here hx rfl (hb hby d6_22) rfl ?_
      refine st6 _ ?_
      refine XS.astore X6.here hx rfl (hb hby d6_26) rfl rfl (l' := #[Rf a1, It (0 : Int32), It (2 : Int32), Rf b1, It (0 : Int32), Rf ro_6]) rfl ?_
      refine XS.aload X6.here hx rfl (hb hby d6_28) rfl rfl ?_
      refine XS.iload X6.here hx rfl (hb hby d6_30) rfl ?_
      refine st7 _ ?_
      refine XS.sipush X7.here hx rfl (hb hby d6_35) ?_
      refine XS.icmpYes X7.here hx rfl (pc0 := 38) (pc' := 54) rfl (hb hby d6_38) rfl (tlt hc4).2.2.1 (by decide) (by decide) ?_
      refine XS.aload X7.here hx rfl (hb hby d6_54) rfl rfl ?_
      exact kt
    obtain ⟨fs, hr, hrun, hended, hW, hsame⟩ := X7.leave (v := some (.ref ro_6)) (fun h => by rw [Bd.returns] at h; cases h)
    refine ⟨_, _, pre0 _ (sg3 _ (sg8 _ (?_))), hrun, hended, _, _, rfl, ?_, ⟨_, rfl⟩, hW, hsame.mono (by decide) (by decide)⟩
    · show Steps _ _ _ (T7.setTop (mkF m 56 #[Rf a1, It (0 : Int32), It (2 : Int32), Rf b1, It (0 : Int32), Rf ro_6] [(.ref ro_6)])) _
      jvm_step X7.here [X7.here.top, hx, (hb hby d6_56), X7.method', Bd.returns, Value.isRef, FieldType.isReference]
      first | (intro acts; rw [hr _ acts rfl rfl rfl]) | rw [hr _ _ rfl rfl rfl]
      exact Steps.refl _
    · show Q6_20 Z a1 x1 x2 ka h0 n0 _ T7.heap _
      rw [e7]
      exact ⟨ro_6, ko_6, rfl, N7, K6, O6, f6_0, f6_1, (Nat.le_trans K5.1 f6_2)⟩
  · obtain ⟨_, _, ⟨T9, L9, k9, n9⟩, -, X9, ⟨Lc9, hQ9, l9, y9, z9⟩, st9⟩ := Jvm.LawKit.callS X1 hx (y := m_13) hown (mvT hZ (tw hw 29 rfl)) (mvT hZ (tw hw 30 rfl)) (mvT hZ (tw hw 26 rfl)) (mvT hZ (tw hw 31 rfl)) (by decide) (backOf (W := 0) (rm7_01 l Z a0 hw [] a1 b1 (2 : Int32) x1 x2 (2 : Int32) (2 : Int32) ([(.int x1), (.int x2)]) ([(.int (0 : Int32)), (.int (0 : Int32))]) ka k1 h1 n0 O2 (by decide) (by decide) (Nat.le_of_ble_eq_true rfl) rfl rfl (by decide) (A_a1.ext E1) V_b1 ge_b1 hc4 (h_u.resolve_left hc4)) hZ (tw hw 31 rfl) (tw hw 26 rfl) (by decide) (by decide)) (g := (mkF m 9 #[Rf a1, It (0 : Int32), It (2 : Int32), Rf b1, .unset, .unset] [(.int (2 : Int32)), (.int (0 : Int32)), (.ref b1), (.int (0 : Int32)), (.ref a1)])) rfl (by rw [hml]; rfl) (argsL := [(.ref a1), (.int (0 : Int32)), (.ref b1), (.int (0 : Int32)), (.int (2 : Int32))]) (rest := []) (lenOf pd_3 rfl) rfl (w0 rfl) (hb hby d6_9) (fun _ _ => ⟨rfl, e1, (by decide : 1 + 0 ≤ _), (by decide : 2 + 0 ≤ _)⟩)
    dsimp only [Pt.U, Pt.locs, Pt.cells, Pt.slots] at X9 l9 y9 z9 st9 hQ9
    subst l9 y9 z9
    obtain ⟨rfl, N9q, K9q, O9⟩ := hQ9
    have N9 := Fr.app N0 N9q
    have K9 := K1.trans K9q (allS (Or.inr sz_b1) all0)
    obtain ⟨_, _, ⟨T10, L10, k10, n10⟩, -, X10, ⟨Lc10, hQ10, l10, y10, z10⟩, st10⟩ := Jvm.LawKit.callS X9 hx (y := m_12) hown (mvT hZ (tw hw 89 rfl)) (mvT hZ (tw hw 90 rfl)) (mvT hZ (tw hw 26 rfl)) (mvT hZ (tw hw 91 rfl)) (by decide) (backOf (W := 0) (rm19_2 l Z a0 hw [] a1 x1 x2 ka T9.heap n0 O9 sA sH sL ((A_a1.ext E1).keep K9q (ninS (Nat.ne_of_lt (Nat.lt_of_lt_of_le A_a1.lt (Nat.le_of_eq g1.symm))) nin0))) hZ (tw hw 91 rfl) (tw hw 26 rfl) (by decide) (by decide)) (g := (mkF m 23 #[Rf a1, It (0 : Int32), It (2 : Int32), Rf b1, It (1 : Int32), .unset] [(.int (2 : Int32)), (.int (0 : Int32)), (.ref a1)])) rfl (by rw [hml]; rfl) (argsL := [(.ref a1), (.int (0 : Int32)), (.int (2 : Int32))]) (rest := []) (lenOf pd_4 rfl) rfl (w0 rfl) (hb hby d6_23) (fun _ _ => ⟨rfl, rfl, (by decide : 1 + 1 ≤ _), (by decide : 2 + 4 ≤ _)⟩)
    dsimp only [Pt.U, Pt.locs, Pt.cells, Pt.slots] at X10 l10 y10 z10 st10 hQ10
    subst l10 y10 z10
    obtain ⟨ro_10, ko_10, rfl, N10q, K10q, O10, f10_0, f10_1, f10_2⟩ := hQ10
    have N10 := Fr.app N9 N10q
    have K10 := K9.trans K10q all0
    obtain ⟨_, _, ⟨T11, L11, k11, n11⟩, -, X11, ⟨Lc11, hQ11, l11, y11, z11⟩, st11⟩ := Jvm.LawKit.callS X10 hx (y := m_9) hown (mvT hZ (tw hw 105 rfl)) (mvT hZ (tw hw 106 rfl)) (mvT hZ (tw hw 26 rfl)) (mvT hZ (tw hw 107 rfl)) (by decide) (backOf (W := 0) (rm23_1 l Z a0 hw [] ro_10 x2 (4 : Int32) (ub2 x1 x2) ko_10 T10.heap n0 O10 sA sH sL (by decide) rfl rfl h_x2 f10_0) hZ (tw hw 107 rfl) (tw hw 26 rfl) (by decide) (by decide)) (g := (mkF m 32 #[Rf a1, It (0 : Int32), It (2 : Int32), Rf b1, It (1 : Int32), Rf ro_10] [(.int (1 : Int32)), (.ref ro_10)])) rfl (by rw [hml]; rfl) (argsL := [(.ref ro_10), (.int (1 : Int32))]) (rest := []) (lenOf pd_5 rfl) rfl (w0 rfl) (hb hby d6_32) (fun _ _ => ⟨rfl, rfl, (by decide : 2 + 0 ≤ _), (by decide : 6 + 0 ≤ _)⟩)
    dsimp only [Pt.U, Pt.locs, Pt.cells, Pt.slots] at X11 l11 y11 z11 st11 hQ11
    subst l11 y11 z11
    obtain ⟨rfl, N11q, e11⟩ := hQ11
    have N11 := Fr.app N10 N11q
    have sg12 : SG p.tables e below (T11.setTop (mkF m 56 #[Rf a1, It (0 : Int32), It (2 : Int32), Rf b1, It (1 : Int32), Rf ro_10] [(.ref ro_10)])) (T1.setTop (mkF m 9 #[Rf a1, It (0 : Int32), It (2 : Int32), Rf b1, .unset, .unset] [(.int (2 : Int32)), (.int (0 : Int32)), (.ref b1), (.int (0 : Int32)), (.ref a1)])) := by
      intro target kt
      show Steps _ _ _ (T1.setTop (mkF m 9 #[Rf a1, It (0 : Int32), It (2 : Int32), Rf b1, .unset, .unset] [(.int (2 : Int32)), (.int (0 : Int32)), (.ref b1), (.int (0 : Int32)), (.ref a1)])) _
      refine st9 _ ?_
      refine XS.istore X9.here hx rfl (hb hby d6_12) rfl (l' := #[Rf a1, It (0 : Int32), It (2 : Int32), Rf b1, It (1 : Int32), .unset]) rfl ?_
      refine XS.iload X9.here hx rfl (hb hby d6_14) rfl ?_
      refine XS.iloadN X9.here hx rfl (hb hby d6_16) rfl ?_
      refine XS.icmpNo X9.here hx rfl (hb hby d6_17) rfl (feq (by decide : ¬ ((1 : Int32) = (2 : Int32)))).1 ?_
      refine XS.aloadN X9.here hx rfl (hb hby d6_20) rfl rfl ?_
      refine XS.iloadN X9.here hx rfl (hb hby d6_21) rfl ?_
      refine XS.iloadN X9.here hx rfl (hb hby d6_22) rfl ?_
      refine st10 _ ?_
      refine XS.astore X10.here hx rfl (hb hby d6_26) rfl rfl (l' := #[Rf a1, It (0 : Int32), It (2 : Int32), Rf b1, It (1 : Int32), Rf ro_10]) rfl ?_
      refine XS.aload X10.here hx rfl (hb hby d6_28) rfl rfl ?_
      refine XS.iload X10.here hx rfl (hb hby d6_30) rfl ?_
      refine st11 _ ?_
      refine XS.sipush X11.here hx rfl (hb hby d6_35) ?_
      refine XS.icmpYes X11.here hx rfl (pc0 := 38) (pc' := 54) rfl (hb hby d6_38) rfl (tlt (h_u.resolve_left hc4)).2.2.1 (by decide) (by decide) ?_
      refine XS.aload X11.here hx rfl (hb hby d6_54) rfl rfl ?_
      exact kt
    obtain ⟨fs, hr, hrun, hended, hW, hsame⟩ := X11.leave (v := some (.ref ro_10)) (fun h => by rw [Bd.returns] at h; cases h)
    refine ⟨_, _, pre0 _ (sg3 _ (sg12 _ (?_))), hrun, hended, _, _, rfl, ?_, ⟨_, rfl⟩, hW, hsame.mono (by decide) (by decide)⟩
    · show Steps _ _ _ (T11.setTop (mkF m 56 #[Rf a1, It (0 : Int32), It (2 : Int32), Rf b1, It (1 : Int32), Rf ro_10] [(.ref ro_10)])) _
      jvm_step X11.here [X11.here.top, hx, (hb hby d6_56), X11.method', Bd.returns, Value.isRef, FieldType.isReference]
      first | (intro acts; rw [hr _ acts rfl rfl rfl]) | rw [hr _ _ rfl rfl rfl]
      exact Steps.refl _
    · show Q6_20 Z a1 x1 x2 ka h0 n0 _ T11.heap _
      rw [e11]
      exact ⟨ro_10, ko_10, rfl, N11, K10, O10, f10_0, f10_1, (Nat.le_trans K9.1 f10_2)⟩
def Q8_24 (Z : State) (a1 : Addr) (vs : List Value) (ka : ClassId) (h0 : Heap) (n0 : Nat) (v : Option Value) (h : Heap) (L : List Loc) : Prop := v = some (.int (1 : Int32)) ∧ Fr n0 L ∧ h = h0
theorem rm8_24 (l : Launch) (Z : State) (a0 : Array Value) (hw : ∀ d ∈ tables_1, d.before a0 Z = true) (ws : List Jvm.Cond) (a1 : Addr) (vs : List Value) (ka : ClassId) (h0 : Heap) (n0 : Nat) (O0 : Old Z n0 h0) (A_a1 : Arv Z h0 a1 ka .byte (4 : Int32) vs (.int (0 : Int32))) :
    MetFree l m_15 (head1 (Jvm.Cond.code m_15 jdk_52_method_15_code 2 (some .byte) :: ws) (rk 0 0 0 0)) (fun a U => a = #[(.ref a1), (.int (2 : Int32))] ∧ Z.Warmed39 U.vm ∧ U.heap = h0) (fun _ _ _ _ _ => True) (fun _ U o U' => ∃ v L, o = .returned v ∧ Q8_24 Z a1 vs ka h0 n0 v U'.heap L ∧ FrameEnd U o U' L (rk 0 0 0 0).cells (rk 0 0 0 0).slots) := by
  refine MetFree.of_bodySF (plainFor_of_name pn_2) hisR ?_
  intro p e s m args below meth c s₁ Bd hml0 hP hK
  obtain ⟨rfl, hZ, hh⟩ := hP
  have hx := Bd.exec
  have hby := Bd.bytes
  have hml : c.maxLocals = 2 := hml0
  have hown : s.vm.findClass "java/lang/StringUTF16" = some m.cls := findClass_of_methodNamed Bd.named
  have X0 : Stand p l e (rk 0 0 0 0) s m #[(.ref a1), (.int (2 : Int32))] below meth c s₁ [] 0 0 := Stand.of_body Bd
  have e0 : s₁.heap = h0 := by rw [← hh, Bd.state]; rfl
  have N0 := Fr.nil n0
  have pre0 := own_pre (tb := p.tables) (e := e) (bl := below) (s := s₁) (ef_23_0 m a1 (2 : Int32))
  obtain ⟨cl1, Ar1, -, Sz1, Nn1, -, -⟩ := id A_a1
  have sg2 : SG p.tables e below (s₁.setTop (mkF m 8 #[Rf a1, It (2 : Int32)] [(.int (((((2 : Int32) - (4 : Int32)).toUInt32 >>> ((31 : Int32) &&& 31).toUInt32).toInt32).toInt8.toInt32))])) (s₁.setTop (mkF m 0 #[Rf a1, It (2 : Int32)] [])) := by
    intro target kt
    show Steps _ _ _ (s₁.setTop (mkF m 0 #[Rf a1, It (2 : Int32)] [])) _
    refine XS.iloadN X0.here hx rfl (hb hby d8_0) rfl ?_
    refine XS.aloadN X0.here hx rfl (hb hby d8_1) rfl rfl ?_
    refine X0.arraylength hx (own_rwh e0 Ar1.1) (State.isArrayOf_alike hZ.alike Ar1.2.1) (g := (mkF m 2 #[Rf a1, It (2 : Int32)] [(.ref a1), (.int (2 : Int32))])) rfl rfl (hb hby d8_2) _ ?_
    rw [len_of Sz1 Nn1]
    show Steps _ _ _ (s₁.setTop (mkF m 3 #[Rf a1, It (2 : Int32)] [(.int (4 : Int32)), (.int (2 : Int32))])) _
    refine XS.isub X0.here hx rfl (hb hby d8_3) rfl ?_
    refine XS.bipush X0.here hx rfl (hb hby d8_4) ?_
    refine XS.iushr X0.here hx rfl (hb hby d8_6) rfl ?_
    refine XS.i2b X0.here hx rfl (hb hby d8_7) rfl ?_
    exact kt
  have hnar : nar .byte (((((2 : Int32) - (4 : Int32)).toUInt32 >>> ((31 : Int32) &&& 31).toUInt32).toInt32).toInt8.toInt32) = (((((2 : Int32) - (4 : Int32)).toUInt32 >>> ((31 : Int32) &&& 31).toUInt32).toInt32).toInt8.toInt32) := (by decide)
  obtain ⟨fs, hr, hrun, hended, hW, hsame⟩ := X0.leave (v := some (.int (((((2 : Int32) - (4 : Int32)).toUInt32 >>> ((31 : Int32) &&& 31).toUInt32).toInt32).toInt8.toInt32))) (fun h => by rw [Bd.returns] at h; cases h)
  rw [← hnar] at hr
  refine ⟨_, _, pre0 _ (sg2 _ (?_)), hrun, hended, _, _, rfl, ?_, ⟨_, rfl⟩, hW, hsame.mono (by decide) (by decide)⟩
  · show Steps _ _ _ (s₁.setTop (mkF m 8 #[Rf a1, It (2 : Int32)] [(.int (((((2 : Int32) - (4 : Int32)).toUInt32 >>> ((31 : Int32) &&& 31).toUInt32).toInt32).toInt8.toInt32))])) _
    exact retN X0 hx (t := .byte) Bd.returns (by simp) (hb hby d8_8) hr
  · show Q8_24 Z a1 vs ka h0 n0 _ s₁.heap _
    rw [e0]
    exact ⟨(by decide), N0, rfl⟩
def Q4_20 (Z : State) (a1 : Addr) (a2 : Addr) (x1 : Int32) (x2 : Int32) (zC : Int32) (ka : ClassId) (h0 : Heap) (n0 : Nat) (v : Option Value) (h : Heap) (L : List Loc) : Prop := ∃ ro : Addr, ∃ ko : ClassId, v = none ∧ Fr n0 L ∧ Keep h0 h [a1] ∧ Old Z n0 h ∧ Fld Z h a1 "java/lang/String" "coder" "B" (.int (1 : Int32)) ∧ Fld Z h a1 "java/lang/String" "value" "[B" (.ref ro) ∧ Arv Z h ro ko .byte (4 : Int32) (ub2 x1 x2) (.int (0 : Int32)) ∧ n0 ≤ ro ∧ h0.size ≤ ro
theorem rm4_20 (l : Launch) (Z : State) (a0 : Array Value) (hw : ∀ d ∈ tables_1, d.before a0 Z = true) (ws : List Jvm.Cond) (a1 : Addr) (a2 : Addr) (x1 : Int32) (x2 : Int32) (zC : Int32) (ka : ClassId) (h0 : Heap) (n0 : Nat) (O0 : Old Z n0 h0) (sC : TS_3 Z zC) (sA : TS_0 Z) (sH : TS_1 Z) (sL : TS_2 Z) (E_a1 : Exa Z h0 a1 "java/lang/String") (F_value_a1 : Fld Z h0 a1 "java/lang/String" "value" "[B" .null) (F_coder_a1 : Fld Z h0 a1 "java/lang/String" "coder" "B" (.int (0 : Int32))) (ge_a1 : n0 ≤ a1) (hCS : ¬ zC = 0) (A_a2 : Arv Z h0 a2 ka .char (2 : Int32) [(.int x1), (.int x2)] (.int (0 : Int32))) (h_u : (255 : Int32) < x1 ∨ (255 : Int32) < x2) (h_x1 : CR x1) (h_x2 : CR x2) :
    MetFree l m_16 (head1 (Jvm.Cond.code m_16 jdk_42_method_149_code 6 none :: ws) (rk 4 2 6 57)) (fun a U => a = #[(.ref a1), (.ref a2), (.int (0 : Int32)), (.int (2 : Int32)), .null] ∧ Z.Warmed39 U.vm ∧ U.heap = h0) (fun _ _ _ _ _ => True) (fun _ U o U' => ∃ v L, o = .returned v ∧ Q4_20 Z a1 a2 x1 x2 zC ka h0 n0 v U'.heap L ∧ FrameEnd U o U' L (rk 4 2 6 57).cells (rk 4 2 6 57).slots) := by
  refine MetFree.of_bodySF (plainFor_of_name pn_3) hisR ?_
  intro p e s m args below meth c s₁ Bd hml0 hP hK
  obtain ⟨rfl, hZ, hh⟩ := hP
  have hx := Bd.exec
  have hby := Bd.bytes
  have hml : c.maxLocals = 6 := hml0
  have hown : s.vm.findClass "java/lang/String" = some m.cls := findClass_of_methodNamed Bd.named
  have hnm := (name_of_methodNamed Bd.named Bd.method).1
  have X0 : Stand p l e (rk 4 2 6 57) s m #[(.ref a1), (.ref a2), (.int (0 : Int32)), (.int (2 : Int32)), .null] below meth c s₁ [] 0 0 := Stand.of_body Bd
  have e0 : s₁.heap = h0 := by rw [← hh, Bd.state]; rfl
  have N0 := Fr.nil n0
  have pre0 := own_pre (tb := p.tables) (e := e) (bl := below) (s := s₁) (ef_4_10 m a1 a2 (0 : Int32) (2 : Int32))
  have K0 := Keep.refl h0 [a1]
  obtain ⟨T1, X1, e1, st1⟩ := initO X0 hx hZ hown (tw hw 20 rfl) (tw hw 21 rfl) (tw hw 22 rfl) e0 (g := (mkF m 1 #[Rf a1, Rf a2, It (0 : Int32), It (2 : Int32), .val .null, .unset] [(.ref a1)])) rfl (by rw [hml]; rfl) rfl (hb hby d4_1) (by decide) (W := 0) (w0 rfl) (by decide)
  obtain ⟨T2, X2, e2, st2⟩ := getS2 X1 hx hZ hown (host := "") (Or.inl (tw hw 23 rfl)) Via.refl e1 (sC.ext O0.2) (g := (mkF m 27 #[Rf a1, Rf a2, It (0 : Int32), It (2 : Int32), .val .null, .unset] [])) rfl (hb hby d4_27)
  obtain ⟨_, _, ⟨T3, L3, k3, n3⟩, -, X3, ⟨Lc3, hQ3, l3, y3, z3⟩, st3⟩ := Jvm.LawKit.callS X2 hx (y := m_14) hown (mvT hZ (tw hw 24 rfl)) (mvT hZ (tw hw 25 rfl)) (mvT hZ (tw hw 26 rfl)) (mvT hZ (tw hw 27 rfl)) (by decide) (backOf (W := 0) (rm6_20 l Z a0 hw [] a2 x1 x2 ka h0 n0 O0 sA sH sL A_a2 h_u h_x1 h_x2) hZ (tw hw 27 rfl) (tw hw 26 rfl) (by decide) (by decide)) (g := (mkF m 36 #[Rf a1, Rf a2, It (0 : Int32), It (2 : Int32), .val .null, .unset] [(.int (2 : Int32)), (.int (0 : Int32)), (.ref a2)])) rfl (by rw [hml]; rfl) (argsL := [(.ref a2), (.int (0 : Int32)), (.int (2 : Int32))]) (rest := []) (lenOf pd_4 rfl) rfl (w0 rfl) (hb hby d4_36) (fun _ _ => ⟨rfl, e2, (by decide : 0 + 2 ≤ _), (by decide : 0 + 6 ≤ _)⟩)
  dsimp only [Pt.U, Pt.locs, Pt.cells, Pt.slots] at X3 l3 y3 z3 st3 hQ3
  subst l3 y3 z3
  obtain ⟨ro_3, ko_3, rfl, N3q, K3q, O3, f3_0, f3_1, f3_2⟩ := hQ3
  have N3 := Fr.app N0 N3q
  have K3 := K0.trans K3q all0
  obtain ⟨_, _, ⟨T4, L4, k4, n4⟩, -, X4, ⟨Lc4, hQ4, l4, y4, z4⟩, st4⟩ := Jvm.LawKit.callS X3 hx (y := m_15) hown (mvT hZ (tw hw 32 rfl)) (mvT hZ (tw hw 33 rfl)) (mvT hZ (tw hw 26 rfl)) (mvT hZ (tw hw 34 rfl)) (by decide) (backOf (W := 1) (rm8_24 l Z a0 hw [] ro_3 (ub2 x1 x2) ko_3 T3.heap n0 O3 f3_0) hZ (tw hw 34 rfl) (tw hw 26 rfl) (by decide) (by decide)) (g := (mkF m 45 #[Rf a1, Rf a2, It (0 : Int32), It (2 : Int32), .val .null, Rf ro_3] [(.int (2 : Int32)), (.ref ro_3), (.ref a1)])) rfl (by rw [hml]; rfl) (argsL := [(.ref ro_3), (.int (2 : Int32))]) (rest := [(.ref a1)]) (lenOf pd_6 rfl) rfl (w0 rfl) (hb hby d4_45) (fun _ _ => ⟨rfl, rfl, (by decide : 2 + 0 ≤ _), (by decide : 6 + 0 ≤ _)⟩)
  dsimp only [Pt.U, Pt.locs, Pt.cells, Pt.slots] at X4 l4 y4 z4 st4 hQ4
  subst l4 y4 z4
  obtain ⟨rfl, N4q, e4⟩ := hQ4
  have N4 := Fr.app N3 N4q
  obtain ⟨T5, h5, X5, e5, W5, st5⟩ := putFN X4 hx hZ hown (tw hw 35 rfl) Via.refl e4 (F_coder_a1.keep K3q nin0) (E_a1.keep K3q) (Or.inr ⟨(tw hw 36 rfl), rfl, hnm⟩) (tw hw 5 rfl) (ty := .byte) (v' := .int ((1 : Int32).toInt8.toInt32)) (by decide) rfl (fits_nar_byte _) (g := (mkF m 48 #[Rf a1, Rf a2, It (0 : Int32), It (2 : Int32), .val .null, Rf ro_3] [(.int (1 : Int32)), (.ref a1)])) rfl rfl (hb hby d4_48)
  have Fw5 := (F_coder_a1.keep K3q nin0).same W5
  have N5 := Fr.snoc X5 N4 ge_a1
  have O6 := O3.wr W5 ge_a1
  have K5 := K3.wr W5 (Or.inl (List.mem_of_getElem? (i := 0) rfl))
  obtain ⟨T7, h7, X7, e7, W7, st7⟩ := putF X5 hx hZ hown (host := "") (Or.inl (tw hw 37 rfl)) Via.refl e5 ((F_value_a1.keep K3q nin0).other W5 (sn (.array .byte) .byte (Or.inr (tw hw 38 rfl)) (Or.inr (tw hw 36 rfl)))) ((E_a1.keep K3q).wr W5) (Or.inr ⟨(tw hw 38 rfl), rfl, hnm⟩) (tw hw 5 rfl) (ty := (.array .byte)) (by decide) rfl rfl (g := (mkF m 54 #[Rf a1, Rf a2, It (0 : Int32), It (2 : Int32), .val .null, Rf ro_3] [(.ref ro_3), (.ref a1)])) rfl rfl (hb hby d4_54)
  have Fw7 := ((F_value_a1.keep K3q nin0).other W5 (sn (.array .byte) .byte (Or.inr (tw hw 38 rfl)) (Or.inr (tw hw 36 rfl)))).same W7
  have N7 := Fr.snoc X7 N5 ge_a1
  have O8 := O6.wr W7 ge_a1
  have K7 := K5.wr W7 (Or.inl (List.mem_of_getElem? (i := 0) rfl))
  have sg9 : SG p.tables e below (T7.setTop (mkF m 57 #[Rf a1, Rf a2, It (0 : Int32), It (2 : Int32), .val .null, Rf ro_3] [])) (s₁.setTop (mkF m 0 #[Rf a1, Rf a2, It (0 : Int32), It (2 : Int32), .val .null, .unset] [])) := by
    intro target kt
    show Steps _ _ _ (s₁.setTop (mkF m 0 #[Rf a1, Rf a2, It (0 : Int32), It (2 : Int32), .val .null, .unset] [])) _
    refine XS.aloadN X0.here hx rfl (hb hby d4_0) rfl rfl ?_
    refine st1 _ ?_
    refine XS.iloadN X1.here hx rfl (hb hby d4_4) rfl ?_
    refine XS.ifYes X1.here hx rfl (pc0 := 5) (pc' := 27) rfl (hb hby d4_5) rfl ((if0 _ _).trans (feq (by decide : ¬ ((2 : Int32) = (0 : Int32)))).2) (by decide) (by decide) ?_
    refine st2 _ ?_
    refine XS.ifNo X2.here hx rfl (hb hby d4_30) rfl ((if0 _ _).trans (feq hCS).1) ?_
    refine XS.aloadN X2.here hx rfl (hb hby d4_33) rfl rfl ?_
    refine XS.iloadN X2.here hx rfl (hb hby d4_34) rfl ?_
    refine XS.iloadN X2.here hx rfl (hb hby d4_35) rfl ?_
    refine st3 _ ?_
    refine XS.astore X3.here hx rfl (hb hby d4_39) rfl rfl (l' := #[Rf a1, Rf a2, It (0 : Int32), It (2 : Int32), .val .null, Rf ro_3]) rfl ?_
    refine XS.aloadN X3.here hx rfl (hb hby d4_41) rfl rfl ?_
    refine XS.aload X3.here hx rfl (hb hby d4_42) rfl rfl ?_
    refine XS.iloadN X3.here hx rfl (hb hby d4_44) rfl ?_
    refine st4 _ ?_
    refine st5 _ ?_
    refine XS.aloadN X5.here hx rfl (hb hby d4_51) rfl rfl ?_
    refine XS.aload X5.here hx rfl (hb hby d4_52) rfl rfl ?_
    refine st7 _ ?_
    exact kt
  obtain ⟨fs, hr, hrun, hended, hW, hsame⟩ := X7.leave (v := none) (fun _ => rfl)
  refine ⟨_, _, pre0 _ (sg9 _ (?_)), hrun, hended, _, _, rfl, ?_, ⟨_, rfl⟩, hW, hsame.mono (by decide) (by decide)⟩
  · show Steps _ _ _ (T7.setTop (mkF m 57 #[Rf a1, Rf a2, It (0 : Int32), It (2 : Int32), .val .null, Rf ro_3] [])) _
    exact X7.returnOut hx Bd.returns (hb hby d4_57) hr
  · show Q4_20 Z a1 a2 x1 x2 zC ka h0 n0 _ T7.heap _
    rw [e7]
    exact ⟨ro_3, ko_3, rfl, N7, K7, O8, (Fw5.other W7 (sn .byte (.array .byte) (Or.inr (tw hw 36 rfl)) (Or.inr (tw hw 38 rfl)))), Fw7, ((f3_0.other W5 (Ne.symm (Nat.ne_of_lt (Nat.lt_of_lt_of_le E_a1.lt f3_2)))).other W7 (Ne.symm (Nat.ne_of_lt (Nat.lt_of_lt_of_le E_a1.lt f3_2)))), f3_1, (Nat.le_trans K0.1 f3_2)⟩
def Q3_20 (Z : State) (a1 : Addr) (a2 : Addr) (x1 : Int32) (x2 : Int32) (zC : Int32) (ka : ClassId) (h0 : Heap) (n0 : Nat) (v : Option Value) (h : Heap) (L : List Loc) : Prop := ∃ ro : Addr, ∃ ko : ClassId, v = none ∧ Fr n0 L ∧ Keep h0 h [a1] ∧ Old Z n0 h ∧ Fld Z h a1 "java/lang/String" "coder" "B" (.int (1 : Int32)) ∧ Fld Z h a1 "java/lang/String" "value" "[B" (.ref ro) ∧ Arv Z h ro ko .byte (4 : Int32) (ub2 x1 x2) (.int (0 : Int32)) ∧ n0 ≤ ro ∧ h0.size ≤ ro
theorem rm3_20 (l : Launch) (Z : State) (a0 : Array Value) (hw : ∀ d ∈ tables_1, d.before a0 Z = true) (ws : List Jvm.Cond) (a1 : Addr) (a2 : Addr) (x1 : Int32) (x2 : Int32) (zC : Int32) (ka : ClassId) (h0 : Heap) (n0 : Nat) (O0 : Old Z n0 h0) (sC : TS_3 Z zC) (sA : TS_0 Z) (sH : TS_1 Z) (sL : TS_2 Z) (E_a1 : Exa Z h0 a1 "java/lang/String") (F_value_a1 : Fld Z h0 a1 "java/lang/String" "value" "[B" .null) (F_coder_a1 : Fld Z h0 a1 "java/lang/String" "coder" "B" (.int (0 : Int32))) (ge_a1 : n0 ≤ a1) (hCS : ¬ zC = 0) (A_a2 : Arv Z h0 a2 ka .char (2 : Int32) [(.int x1), (.int x2)] (.int (0 : Int32))) (h_u : (255 : Int32) < x1 ∨ (255 : Int32) < x2) (h_x1 : CR x1) (h_x2 : CR x2) :
    MetFree l m_17 (head1 (Jvm.Cond.code m_17 jdk_42_method_3_code 2 none :: ws) (rk 5 2 6 74)) (fun a U => a = #[(.ref a1), (.ref a2)] ∧ Z.Warmed39 U.vm ∧ U.heap = h0) (fun _ _ _ _ _ => True) (fun _ U o U' => ∃ v L, o = .returned v ∧ Q3_20 Z a1 a2 x1 x2 zC ka h0 n0 v U'.heap L ∧ FrameEnd U o U' L (rk 5 2 6 74).cells (rk 5 2 6 74).slots) := by
  refine MetFree.of_bodySF (plainFor_of_name pn_3) hisR ?_
  intro p e s m args below meth c s₁ Bd hml0 hP hK
  obtain ⟨rfl, hZ, hh⟩ := hP
  have hx := Bd.exec
  have hby := Bd.bytes
  have hml : c.maxLocals = 2 := hml0
  have hown : s.vm.findClass "java/lang/String" = some m.cls := findClass_of_methodNamed Bd.named
  have X0 : Stand p l e (rk 5 2 6 74) s m #[(.ref a1), (.ref a2)] below meth c s₁ [] 0 0 := Stand.of_body Bd
  have e0 : s₁.heap = h0 := by rw [← hh, Bd.state]; rfl
  have N0 := Fr.nil n0
  have pre0 := own_pre (tb := p.tables) (e := e) (bl := below) (s := s₁) (ef_3_10 m a1 a2)
  have K0 := Keep.refl h0 [a1]
  obtain ⟨cl1, Ar1, -, Sz1, Nn1, -, -⟩ := id A_a2
  obtain ⟨_, _, ⟨T2, L2, k2, n2⟩, -, X2, ⟨Lc2, hQ2, l2, y2, z2⟩, st2⟩ := X0.specialBack hx (y := m_16) rfl hown (mvT hZ (tw hw 16 rfl)) (mvT hZ (tw hw 17 rfl)) (mvT hZ (tw hw 19 rfl)) (by decide) (backOf (W := 0) (rm4_20 l Z a0 hw [] a1 a2 x1 x2 zC ka h0 n0 O0 sC sA sH sL E_a1 F_value_a1 F_coder_a1 ge_a1 hCS A_a2 h_u h_x1 h_x2) hZ (tw hw 19 rfl) (tw hw 6 rfl) (by decide) (by decide)) (g := (mkF m 6 #[Rf a1, Rf a2] [.null, (.int (2 : Int32)), (.int (0 : Int32)), (.ref a2), (.ref a1)])) rfl (by rw [hml]; rfl) (Steps.refl _) (a := a1) (argsL := [(.ref a2), (.int (0 : Int32)), (.int (2 : Int32)), .null]) (rest := []) (lenOf pd_7 rfl) rfl (w0 rfl) (hb hby d3_6) (fun _ _ => ⟨rfl, e0, (by decide : 0 + 2 ≤ _), (by decide : 0 + 6 ≤ _)⟩)
  dsimp only [Pt.U, Pt.locs, Pt.cells, Pt.slots] at X2 l2 y2 z2 st2 hQ2
  subst l2 y2 z2
  obtain ⟨ro_2, ko_2, rfl, N2q, K2q, O2, f2_0, f2_1, f2_2, f2_3, f2_4⟩ := hQ2
  have N2 := Fr.app N0 N2q
  have K2 := K0.trans K2q (allS (Or.inl (List.mem_of_getElem? (i := 0) rfl)) all0)
  have sg3 : SG p.tables e below (T2.setTop (mkF m 9 #[Rf a1, Rf a2] [])) (s₁.setTop (mkF m 0 #[Rf a1, Rf a2] [])) := by
    intro target kt
    show Steps _ _ _ (s₁.setTop (mkF m 0 #[Rf a1, Rf a2] [])) _
    refine XS.aloadN X0.here hx rfl (hb hby d3_0) rfl rfl ?_
    refine XS.aloadN X0.here hx rfl (hb hby d3_1) rfl rfl ?_
    refine XS.iconst X0.here hx rfl (hb hby d3_2) ?_
    refine XS.aloadN X0.here hx rfl (hb hby d3_3) rfl rfl ?_
    refine X0.arraylength hx (own_rwh e0 Ar1.1) (State.isArrayOf_alike hZ.alike Ar1.2.1) (g := (mkF m 4 #[Rf a1, Rf a2] [(.ref a2), (.int (0 : Int32)), (.ref a2), (.ref a1)])) rfl rfl (hb hby d3_4) _ ?_
    rw [len_of Sz1 Nn1]
    show Steps _ _ _ (s₁.setTop (mkF m 5 #[Rf a1, Rf a2] [(.int (2 : Int32)), (.int (0 : Int32)), (.ref a2), (.ref a1)])) _
    refine XS.aconstNull X0.here hx rfl (hb hby d3_5) ?_
    refine st2.trans ?_
    exact kt
  obtain ⟨fs, hr, hrun, hended, hW, hsame⟩ := X2.leave (v := none) (fun _ => rfl)
  refine ⟨_, _, pre0 _ (sg3 _ (?_)), hrun, hended, _, _, rfl, ?_, ⟨_, rfl⟩, hW, hsame.mono (by decide) (by decide)⟩
  · show Steps _ _ _ (T2.setTop (mkF m 9 #[Rf a1, Rf a2] [])) _
    exact X2.returnOut hx Bd.returns (hb hby d3_9) hr
  · show Q3_20 Z a1 a2 x1 x2 zC ka h0 n0 _ T2.heap _
    exact ⟨ro_2, ko_2, rfl, N2, K2, O2, f2_0, f2_1, f2_2, f2_3, (Nat.le_trans K0.1 f2_4)⟩
def Q7_22 (Z : State) (a1 : Addr) (a3 : Addr) (x1 : Int32) (x2 : Int32) (ka : ClassId) (kb : ClassId) (h0 : Heap) (n0 : Nat) (v : Option Value) (h : Heap) (L : List Loc) : Prop := v = some (.int (2 : Int32)) ∧ Fr n0 L ∧ Keep h0 h [a3] ∧ Old Z n0 h ∧ Arv Z h a3 kb .byte (2 : Int32) (lu2 x1 x2) (.int (0 : Int32))
theorem rm7_22 (l : Launch) (Z : State) (a0 : Array Value) (hw : ∀ d ∈ tables_1, d.before a0 Z = true) (ws : List Jvm.Cond) (a1 : Addr) (a3 : Addr) (x1 : Int32) (x2 : Int32) (ka : ClassId) (kb : ClassId) (h0 : Heap) (n0 : Nat) (O0 : Old Z n0 h0) (A_a1 : Arv Z h0 a1 ka .char (2 : Int32) [(.int x1), (.int x2)] (.int (0 : Int32))) (A_a3 : Arv Z h0 a3 kb .byte (2 : Int32) [(.int (0 : Int32)), (.int (0 : Int32))] (.int (0 : Int32))) (ge_a3 : n0 ≤ a3) (h_l1 : ¬ (255 : Int32) < x1) (h_l2 : ¬ (255 : Int32) < x2) :
    MetFree l m_13 (head1 (Jvm.Cond.code m_13 jdk_52_method_21_code 7 (some .int) :: ws) (rk 0 0 0 0)) (fun a U => a = #[(.ref a1), (.int (0 : Int32)), (.ref a3), (.int (0 : Int32)), (.int (2 : Int32))] ∧ Z.Warmed39 U.vm ∧ U.heap = h0) (fun _ _ _ _ _ => True) (fun _ U o U' => ∃ v L, o = .returned v ∧ Q7_22 Z a1 a3 x1 x2 ka kb h0 n0 v U'.heap L ∧ FrameEnd U o U' L (rk 0 0 0 0).cells (rk 0 0 0 0).slots) := by
  refine MetFree.of_bodySF (plainFor_of_name pn_2) hisR ?_
  intro p e s m args below meth c s₁ Bd hml0 hP hK
  obtain ⟨rfl, hZ, hh⟩ := hP
  have hx := Bd.exec
  have hby := Bd.bytes
  have hml : c.maxLocals = 7 := hml0
  have hown : s.vm.findClass "java/lang/StringUTF16" = some m.cls := findClass_of_methodNamed Bd.named
  have X0 : Stand p l e (rk 0 0 0 0) s m #[(.ref a1), (.int (0 : Int32)), (.ref a3), (.int (0 : Int32)), (.int (2 : Int32))] below meth c s₁ [] 0 0 := Stand.of_body Bd
  have e0 : s₁.heap = h0 := by rw [← hh, Bd.state]; rfl
  have N0 := Fr.nil n0
  have pre0 := own_pre (tb := p.tables) (e := e) (bl := below) (s := s₁) (ef_7_01 m a1 (0 : Int32) a3 (0 : Int32) (2 : Int32))
  have K0 := Keep.refl h0 [a3]
  obtain ⟨cl1, Ar1, -, Sz1, Nn1, Hh1, -⟩ := id A_a1
  have hin1 : ¬ ((0 : Int32) < 0 ∨ cl1.slots.size ≤ ((0 : Int32)).toNatClampNeg) := inb_of Sz1 ⟨by decide, by decide⟩
  have hat1 : cl1.slots[((0 : Int32)).toNatClampNeg]? = some (.int x1) := Has.at Hh1 hin1 rfl
  obtain ⟨cl2, Ar2, q2, Sz2, Nn2, Hh2, Gg2⟩ := id A_a3
  have hin2 : ¬ ((0 : Int32) < 0 ∨ cl2.slots.size ≤ ((0 : Int32)).toNatClampNeg) := inb_of Sz2 ⟨by decide, by decide⟩
  obtain ⟨T3, h3, X3, e3, W3, st3⟩ := stB X0 hx hZ e0 Ar2 (j := (0 : Int32)) hin2 (g := (mkF m 31 #[Rf a1, It (0 : Int32), Rf a3, It (0 : Int32), It (2 : Int32), It (0 : Int32), It x1] [(.int (x1.toInt8.toInt32)), (.int (0 : Int32)), (.ref a3)])) rfl rfl (hb hby d7_31)
  have V3 : Arv Z h3 a3 kb .byte (2 : Int32) [(.int ((x1.toInt8.toInt32).toInt8.toInt32)), (.int (0 : Int32))] (.int (0 : Int32)) := Arv.set Ar2 q2 Sz2 Nn2 Hh2 Gg2 (fits_nar_byte _) W3 0 rfl (Nat.le_of_ble_eq_true rfl)
  have N3 := Fr.snoc X3 N0 ge_a3
  have O4 := O0.wr W3 ge_a3
  have K3 := K0.wr W3 (Or.inl (List.mem_of_getElem? (i := 0) rfl))
  obtain ⟨cl5, Ar5, -, Sz5, Nn5, Hh5, -⟩ := id (A_a1.other W3 (own_arne A_a1 A_a3 (by decide)))
  have hin5 : ¬ (((0 : Int32) + (1 : Int32)) < 0 ∨ cl5.slots.size ≤ (((0 : Int32) + (1 : Int32))).toNatClampNeg) := inb_of Sz5 ⟨by decide, by decide⟩
  have hat5 : cl5.slots[(((0 : Int32) + (1 : Int32))).toNatClampNeg]? = some (.int x2) := Has.at Hh5 hin5 rfl
  obtain ⟨cl6, Ar6, q6, Sz6, Nn6, Hh6, Gg6⟩ := id V3
  have hin6 : ¬ (((0 : Int32) + (1 : Int32)) < 0 ∨ cl6.slots.size ≤ (((0 : Int32) + (1 : Int32))).toNatClampNeg) := inb_of Sz6 ⟨by decide, by decide⟩
  obtain ⟨T7, h7, X7, e7, W7, st7⟩ := stB X3 hx hZ e3 Ar6 (j := ((0 : Int32) + (1 : Int32))) hin6 (g := (mkF m 31 #[Rf a1, .val (.int ((0 : Int32) + (1 : Int32))), Rf a3, .val (.int ((0 : Int32) + (1 : Int32))), It (2 : Int32), .val (.int ((0 : Int32) + (1 : Int32))), It x2] [(.int (x2.toInt8.toInt32)), (.int ((0 : Int32) + (1 : Int32))), (.ref a3)])) rfl rfl (hb hby d7_31)
  have V7 : Arv Z h7 a3 kb .byte (2 : Int32) [(.int ((x1.toInt8.toInt32).toInt8.toInt32)), (.int ((x2.toInt8.toInt32).toInt8.toInt32))] (.int (0 : Int32)) := Arv.set Ar6 q6 Sz6 Nn6 Hh6 Gg6 (fits_nar_byte _) W7 1 (by decide) (Nat.le_of_ble_eq_true rfl)
  have N7 := Fr.snoc X7 N3 ge_a3
  have O8 := O4.wr W7 ge_a3
  have K7 := K3.wr W7 (Or.inl (List.mem_of_getElem? (i := 0) rfl))
  have sg9 : SG p.tables e below (T7.setTop (mkF m 46 #[Rf a1, .val (.int (((0 : Int32) + (1 : Int32)) + (1 : Int32))), Rf a3, .val (.int (((0 : Int32) + (1 : Int32)) + (1 : Int32))), It (2 : Int32), .val (.int (((0 : Int32) + (1 : Int32)) + (1 : Int32))), It x2] [(.int (2 : Int32))])) (s₁.setTop (mkF m 0 #[Rf a1, It (0 : Int32), Rf a3, It (0 : Int32), It (2 : Int32), .unset, .unset] [])) := by
    intro target kt
    show Steps _ _ _ (s₁.setTop (mkF m 0 #[Rf a1, It (0 : Int32), Rf a3, It (0 : Int32), It (2 : Int32), .unset, .unset] [])) _
    refine XS.iconst X0.here hx rfl (hb hby d7_0) ?_
    refine XS.istore X0.here hx rfl (hb hby d7_1) rfl (l' := #[Rf a1, It (0 : Int32), Rf a3, It (0 : Int32), It (2 : Int32), It (0 : Int32), .unset]) rfl ?_
    refine XS.iload X0.here hx rfl (hb hby d7_3) rfl ?_
    refine XS.iload X0.here hx rfl (hb hby d7_5) rfl ?_
    refine XS.icmpNo X0.here hx rfl (hb hby d7_7) rfl (tlt (by decide : (0 : Int32) < (2 : Int32))).2.1 ?_
    refine XS.aloadN X0.here hx rfl (hb hby d7_10) rfl rfl ?_
    refine XS.iloadN X0.here hx rfl (hb hby d7_11) rfl ?_
    refine X0.caload hx (j := (0 : Int32)) (v := (.int x1)) (own_rwh e0 Ar1.1) (State.isArrayOf_alike hZ.alike Ar1.2.1) Ar1.2.2 hin1 hat1 (g := (mkF m 12 #[Rf a1, It (0 : Int32), Rf a3, It (0 : Int32), It (2 : Int32), It (0 : Int32), .unset] [(.int (0 : Int32)), (.ref a1)])) rfl rfl (hb hby d7_12) _ ?_
    refine XS.istore X0.here hx rfl (hb hby d7_13) rfl (l' := #[Rf a1, It (0 : Int32), Rf a3, It (0 : Int32), It (2 : Int32), It (0 : Int32), It x1]) rfl ?_
    refine XS.iload X0.here hx rfl (hb hby d7_15) rfl ?_
    refine XS.sipush X0.here hx rfl (hb hby d7_17) ?_
    refine XS.icmpYes X0.here hx rfl (pc0 := 20) (pc' := 26) rfl (hb hby d7_20) rfl (flt h_l1).2.2.2 (by decide) (by decide) ?_
    refine XS.aloadN X0.here hx rfl (hb hby d7_26) rfl rfl ?_
    refine XS.iloadN X0.here hx rfl (hb hby d7_27) rfl ?_
    refine XS.iload X0.here hx rfl (hb hby d7_28) rfl ?_
    refine XS.i2b X0.here hx rfl (hb hby d7_30) rfl ?_
    refine st3 _ ?_
    refine XS.iinc X3.here hx rfl (hb hby d7_32) rfl (l' := #[Rf a1, .val (.int ((0 : Int32) + (1 : Int32))), Rf a3, It (0 : Int32), It (2 : Int32), It (0 : Int32), It x1]) rfl ?_
    refine XS.iinc X3.here hx rfl (hb hby d7_35) rfl (l' := #[Rf a1, .val (.int ((0 : Int32) + (1 : Int32))), Rf a3, .val (.int ((0 : Int32) + (1 : Int32))), It (2 : Int32), It (0 : Int32), It x1]) rfl ?_
    refine XS.iinc X3.here hx rfl (hb hby d7_38) rfl (l' := #[Rf a1, .val (.int ((0 : Int32) + (1 : Int32))), Rf a3, .val (.int ((0 : Int32) + (1 : Int32))), It (2 : Int32), .val (.int ((0 : Int32) + (1 : Int32))), It x1]) rfl ?_
    refine XS.goto X3.here hx rfl (pc0 := 41) (pc' := 3) rfl (hb hby d7_41) (by decide) (by decide) ?_
    refine XS.iload X3.here hx rfl (hb hby d7_3) rfl ?_
    refine XS.iload X3.here hx rfl (hb hby d7_5) rfl ?_
    refine XS.icmpNo X3.here hx rfl (hb hby d7_7) rfl (tlt (by decide : ((0 : Int32) + (1 : Int32)) < (2 : Int32))).2.1 ?_
    refine XS.aloadN X3.here hx rfl (hb hby d7_10) rfl rfl ?_
    refine XS.iloadN X3.here hx rfl (hb hby d7_11) rfl ?_
    refine X3.caload hx (j := ((0 : Int32) + (1 : Int32))) (v := (.int x2)) (own_rwh e3 Ar5.1) (State.isArrayOf_alike hZ.alike Ar5.2.1) Ar5.2.2 hin5 hat5 (g := (mkF m 12 #[Rf a1, .val (.int ((0 : Int32) + (1 : Int32))), Rf a3, .val (.int ((0 : Int32) + (1 : Int32))), It (2 : Int32), .val (.int ((0 : Int32) + (1 : Int32))), It x1] [(.int ((0 : Int32) + (1 : Int32))), (.ref a1)])) rfl rfl (hb hby d7_12) _ ?_
    refine XS.istore X3.here hx rfl (hb hby d7_13) rfl (l' := #[Rf a1, .val (.int ((0 : Int32) + (1 : Int32))), Rf a3, .val (.int ((0 : Int32) + (1 : Int32))), It (2 : Int32), .val (.int ((0 : Int32) + (1 : Int32))), It x2]) rfl ?_
    refine XS.iload X3.here hx rfl (hb hby d7_15) rfl ?_
    refine XS.sipush X3.here hx rfl (hb hby d7_17) ?_
    show Steps _ _ _ (T3.setTop (mkF m 20 #[Rf a1, .val (.int ((0 : Int32) + (1 : Int32))), Rf a3, .val (.int ((0 : Int32) + (1 : Int32))), It (2 : Int32), .val (.int ((0 : Int32) + (1 : Int32))), It x2] [(.int (255 : Int32)), (.int x2)])) _
    refine XS.icmpYes X3.here hx rfl (pc0 := 20) (pc' := 26) rfl (hb hby d7_20) rfl (flt h_l2).2.2.2 (by decide) (by decide) ?_
    refine XS.aloadN X3.here hx rfl (hb hby d7_26) rfl rfl ?_
    refine XS.iloadN X3.here hx rfl (hb hby d7_27) rfl ?_
    refine XS.iload X3.here hx rfl (hb hby d7_28) rfl ?_
    refine XS.i2b X3.here hx rfl (hb hby d7_30) rfl ?_
    refine st7 _ ?_
    refine XS.iinc X7.here hx rfl (hb hby d7_32) rfl (l' := #[Rf a1, .val (.int (((0 : Int32) + (1 : Int32)) + (1 : Int32))), Rf a3, .val (.int ((0 : Int32) + (1 : Int32))), It (2 : Int32), .val (.int ((0 : Int32) + (1 : Int32))), It x2]) rfl ?_
    refine XS.iinc X7.here hx rfl (hb hby d7_35) rfl (l' := #[Rf a1, .val (.int (((0 : Int32) + (1 : Int32)) + (1 : Int32))), Rf a3, .val (.int (((0 : Int32) + (1 : Int32)) + (1 : Int32))), It (2 : Int32), .val (.int ((0 : Int32) + (1 : Int32))), It x2]) rfl ?_
    refine XS.iinc X7.here hx rfl (hb hby d7_38) rfl (l' := #[Rf a1, .val (.int (((0 : Int32) + (1 : Int32)) + (1 : Int32))), Rf a3, .val (.int (((0 : Int32) + (1 : Int32)) + (1 : Int32))), It (2 : Int32), .val (.int (((0 : Int32) + (1 : Int32)) + (1 : Int32))), It x2]) rfl ?_
    refine XS.goto X7.here hx rfl (pc0 := 41) (pc' := 3) rfl (hb hby d7_41) (by decide) (by decide) ?_
    refine XS.iload X7.here hx rfl (hb hby d7_3) rfl ?_
    refine XS.iload X7.here hx rfl (hb hby d7_5) rfl ?_
    refine XS.icmpYes X7.here hx rfl (pc0 := 7) (pc' := 44) rfl (hb hby d7_7) rfl (flt (by decide : ¬ ((((0 : Int32) + (1 : Int32)) + (1 : Int32)) < (2 : Int32)))).2.1 (by decide) (by decide) ?_
    refine XS.iload X7.here hx rfl (hb hby d7_44) rfl ?_
    exact kt
  obtain ⟨fs, hr, hrun, hended, hW, hsame⟩ := X7.leave (v := some (.int (2 : Int32))) (fun h => by rw [Bd.returns] at h; cases h)
  refine ⟨_, _, pre0 _ (sg9 _ (?_)), hrun, hended, _, _, rfl, ?_, ⟨_, rfl⟩, hW, hsame.mono (by decide) (by decide)⟩
  · show Steps _ _ _ (T7.setTop (mkF m 46 #[Rf a1, .val (.int (((0 : Int32) + (1 : Int32)) + (1 : Int32))), Rf a3, .val (.int (((0 : Int32) + (1 : Int32)) + (1 : Int32))), It (2 : Int32), .val (.int (((0 : Int32) + (1 : Int32)) + (1 : Int32))), It x2] [(.int (2 : Int32))])) _
    exact retI X7 hx Bd.returns (hb hby d7_46) hr
  · show Q7_22 Z a1 a3 x1 x2 ka kb h0 n0 _ T7.heap _
    rw [e7]
    exact ⟨(by decide), N7, K7, O8, V7⟩
def Q6_22 (Z : State) (a1 : Addr) (x1 : Int32) (x2 : Int32) (ka : ClassId) (h0 : Heap) (n0 : Nat) (v : Option Value) (h : Heap) (L : List Loc) : Prop := ∃ ro : Addr, ∃ ko : ClassId, v = some (.ref ro) ∧ Fr n0 L ∧ Keep h0 h [] ∧ Old Z n0 h ∧ Arv Z h ro ko .byte (2 : Int32) (lu2 x1 x2) (.int (0 : Int32)) ∧ n0 ≤ ro ∧ h0.size ≤ ro
theorem rm6_22 (l : Launch) (Z : State) (a0 : Array Value) (hw : ∀ d ∈ tables_1, d.before a0 Z = true) (ws : List Jvm.Cond) (a1 : Addr) (x1 : Int32) (x2 : Int32) (ka : ClassId) (h0 : Heap) (n0 : Nat) (O0 : Old Z n0 h0) (A_a1 : Arv Z h0 a1 ka .char (2 : Int32) [(.int x1), (.int x2)] (.int (0 : Int32))) (h_l1 : ¬ (255 : Int32) < x1) (h_l2 : ¬ (255 : Int32) < x2) :
    MetFree l m_14 (head1 (Jvm.Cond.code m_14 jdk_52_method_16_code 6 (some (.array .byte)) :: ws) (rk 1 1 2 18)) (fun a U => a = #[(.ref a1), (.int (0 : Int32)), (.int (2 : Int32))] ∧ Z.Warmed39 U.vm ∧ U.heap = h0) (fun _ _ _ _ _ => True) (fun _ U o U' => ∃ v L, o = .returned v ∧ Q6_22 Z a1 x1 x2 ka h0 n0 v U'.heap L ∧ FrameEnd U o U' L (rk 1 1 2 18).cells (rk 1 1 2 18).slots) := by
  refine MetFree.of_bodySF (plainFor_of_name pn_2) hisR ?_
  intro p e s m args below meth c s₁ Bd hml0 hP hK
  obtain ⟨rfl, hZ, hh⟩ := hP
  have hx := Bd.exec
  have hby := Bd.bytes
  have hml : c.maxLocals = 6 := hml0
  have hown : s.vm.findClass "java/lang/StringUTF16" = some m.cls := findClass_of_methodNamed Bd.named
  have X0 : Stand p l e (rk 1 1 2 18) s m #[(.ref a1), (.int (0 : Int32)), (.int (2 : Int32))] below meth c s₁ [] 0 0 := Stand.of_body Bd
  have e0 : s₁.heap = h0 := by rw [← hh, Bd.state]; rfl
  have N0 := Fr.nil n0
  have pre0 := own_pre (tb := p.tables) (e := e) (bl := below) (s := s₁) (ef_6_10 m a1 (0 : Int32) (2 : Int32))
  have K0 := Keep.refl h0 []
  obtain ⟨T1, h1, k1, X1, e1, E1, A1, st1⟩ := newP X0 hx hZ (tw hw 28 rfl) e0 (g := (mkF m 1 #[Rf a1, It (0 : Int32), It (2 : Int32), .unset, .unset, .unset] [(.int (2 : Int32))])) rfl (hb hby d6_1) rfl (by decide) (cap := 2) (by decide) (by decide) (by decide) (by decide)
  obtain ⟨b1, g1⟩ : ∃ z, z = h0.size := ⟨_, rfl⟩
  rw [← g1] at A1 st1
  have ge_b1 : n0 ≤ b1 := Nat.le_trans (own_osz O0) (Nat.le_of_eq g1.symm)
  have sz_b1 : h0.size ≤ b1 := Nat.le_trans K0.1 (Nat.le_of_eq g1.symm)
  have O2 := O0.ext E1
  have K1 := K0.ext E1
  have V_b1 : Arv Z h1 b1 k1 .byte (2 : Int32) [(.int (0 : Int32)), (.int (0 : Int32))] (.int (0 : Int32)) := (Arv.new A1 (by decide)).pad (pad_rep [] (.int (0 : Int32)) 2)
  obtain ⟨_, _, ⟨T3, L3, k3, n3⟩, -, X3, ⟨Lc3, hQ3, l3, y3, z3⟩, st3⟩ := Jvm.LawKit.callS X1 hx (y := m_13) hown (mvT hZ (tw hw 29 rfl)) (mvT hZ (tw hw 30 rfl)) (mvT hZ (tw hw 26 rfl)) (mvT hZ (tw hw 31 rfl)) (by decide) (backOf (W := 0) (rm7_22 l Z a0 hw [] a1 b1 x1 x2 ka k1 h1 n0 O2 (A_a1.ext E1) V_b1 ge_b1 h_l1 h_l2) hZ (tw hw 31 rfl) (tw hw 26 rfl) (by decide) (by decide)) (g := (mkF m 9 #[Rf a1, It (0 : Int32), It (2 : Int32), Rf b1, .unset, .unset] [(.int (2 : Int32)), (.int (0 : Int32)), (.ref b1), (.int (0 : Int32)), (.ref a1)])) rfl (by rw [hml]; rfl) (argsL := [(.ref a1), (.int (0 : Int32)), (.ref b1), (.int (0 : Int32)), (.int (2 : Int32))]) (rest := []) (lenOf pd_3 rfl) rfl (w0 rfl) (hb hby d6_9) (fun _ _ => ⟨rfl, e1, (by decide : 1 + 0 ≤ _), (by decide : 2 + 0 ≤ _)⟩)
  dsimp only [Pt.U, Pt.locs, Pt.cells, Pt.slots] at X3 l3 y3 z3 st3 hQ3
  subst l3 y3 z3
  obtain ⟨rfl, N3q, K3q, O3, f3_0⟩ := hQ3
  have N3 := Fr.app N0 N3q
  have K3 := K1.trans K3q (allS (Or.inr sz_b1) all0)
  have sg4 : SG p.tables e below (T3.setTop (mkF m 58 #[Rf a1, It (0 : Int32), It (2 : Int32), Rf b1, It (2 : Int32), .unset] [(.ref b1)])) (s₁.setTop (mkF m 0 #[Rf a1, It (0 : Int32), It (2 : Int32), .unset, .unset, .unset] [])) := by
    intro target kt
    show Steps _ _ _ (s₁.setTop (mkF m 0 #[Rf a1, It (0 : Int32), It (2 : Int32), .unset, .unset, .unset] [])) _
    refine XS.iloadN X0.here hx rfl (hb hby d6_0) rfl ?_
    refine st1 _ ?_
    refine XS.astoreN X1.here hx rfl (hb hby d6_3) rfl rfl (l' := #[Rf a1, It (0 : Int32), It (2 : Int32), Rf b1, .unset, .unset]) rfl ?_
    refine XS.aloadN X1.here hx rfl (hb hby d6_4) rfl rfl ?_
    refine XS.iloadN X1.here hx rfl (hb hby d6_5) rfl ?_
    refine XS.aloadN X1.here hx rfl (hb hby d6_6) rfl rfl ?_
    refine XS.iconst X1.here hx rfl (hb hby d6_7) ?_
    refine XS.iloadN X1.here hx rfl (hb hby d6_8) rfl ?_
    refine st3 _ ?_
    refine XS.istore X3.here hx rfl (hb hby d6_12) rfl (l' := #[Rf a1, It (0 : Int32), It (2 : Int32), Rf b1, It (2 : Int32), .unset]) rfl ?_
    refine XS.iload X3.here hx rfl (hb hby d6_14) rfl ?_
    refine XS.iloadN X3.here hx rfl (hb hby d6_16) rfl ?_
    refine XS.icmpYes X3.here hx rfl (pc0 := 17) (pc' := 57) rfl (hb hby d6_17) rfl (teq (by decide : (2 : Int32) = (2 : Int32))).1 (by decide) (by decide) ?_
    refine XS.aloadN X3.here hx rfl (hb hby d6_57) rfl rfl ?_
    exact kt
  obtain ⟨fs, hr, hrun, hended, hW, hsame⟩ := X3.leave (v := some (.ref b1)) (fun h => by rw [Bd.returns] at h; cases h)
  refine ⟨_, _, pre0 _ (sg4 _ (?_)), hrun, hended, _, _, rfl, ?_, ⟨_, rfl⟩, hW, hsame.mono (by decide) (by decide)⟩
  · show Steps _ _ _ (T3.setTop (mkF m 58 #[Rf a1, It (0 : Int32), It (2 : Int32), Rf b1, It (2 : Int32), .unset] [(.ref b1)])) _
    jvm_step X3.here [X3.here.top, hx, (hb hby d6_58), X3.method', Bd.returns, Value.isRef, FieldType.isReference]
    first | (intro acts; rw [hr _ acts rfl rfl rfl]) | rw [hr _ _ rfl rfl rfl]
    exact Steps.refl _
  · show Q6_22 Z a1 x1 x2 ka h0 n0 _ T3.heap _
    exact ⟨b1, k1, rfl, N3, K3, O3, f3_0, ge_b1, sz_b1⟩
def Q8_22 (Z : State) (a1 : Addr) (vs : List Value) (ka : ClassId) (h0 : Heap) (n0 : Nat) (v : Option Value) (h : Heap) (L : List Loc) : Prop := v = some (.int (0 : Int32)) ∧ Fr n0 L ∧ h = h0
theorem rm8_22 (l : Launch) (Z : State) (a0 : Array Value) (hw : ∀ d ∈ tables_1, d.before a0 Z = true) (ws : List Jvm.Cond) (a1 : Addr) (vs : List Value) (ka : ClassId) (h0 : Heap) (n0 : Nat) (O0 : Old Z n0 h0) (A_a1 : Arv Z h0 a1 ka .byte (2 : Int32) vs (.int (0 : Int32))) :
    MetFree l m_15 (head1 (Jvm.Cond.code m_15 jdk_52_method_15_code 2 (some .byte) :: ws) (rk 0 0 0 0)) (fun a U => a = #[(.ref a1), (.int (2 : Int32))] ∧ Z.Warmed39 U.vm ∧ U.heap = h0) (fun _ _ _ _ _ => True) (fun _ U o U' => ∃ v L, o = .returned v ∧ Q8_22 Z a1 vs ka h0 n0 v U'.heap L ∧ FrameEnd U o U' L (rk 0 0 0 0).cells (rk 0 0 0 0).slots) := by
  refine MetFree.of_bodySF (plainFor_of_name pn_2) hisR ?_
  intro p e s m args below meth c s₁ Bd hml0 hP hK
  obtain ⟨rfl, hZ, hh⟩ := hP
  have hx := Bd.exec
  have hby := Bd.bytes
  have hml : c.maxLocals = 2 := hml0
  have hown : s.vm.findClass "java/lang/StringUTF16" = some m.cls := findClass_of_methodNamed Bd.named
  have X0 : Stand p l e (rk 0 0 0 0) s m #[(.ref a1), (.int (2 : Int32))] below meth c s₁ [] 0 0 := Stand.of_body Bd
  have e0 : s₁.heap = h0 := by rw [← hh, Bd.state]; rfl
  have N0 := Fr.nil n0
  have pre0 := own_pre (tb := p.tables) (e := e) (bl := below) (s := s₁) (ef_23_0 m a1 (2 : Int32))
  obtain ⟨cl1, Ar1, -, Sz1, Nn1, -, -⟩ := id A_a1
  have sg2 : SG p.tables e below (s₁.setTop (mkF m 8 #[Rf a1, It (2 : Int32)] [(.int (((((2 : Int32) - (2 : Int32)).toUInt32 >>> ((31 : Int32) &&& 31).toUInt32).toInt32).toInt8.toInt32))])) (s₁.setTop (mkF m 0 #[Rf a1, It (2 : Int32)] [])) := by
    intro target kt
    show Steps _ _ _ (s₁.setTop (mkF m 0 #[Rf a1, It (2 : Int32)] [])) _
    refine XS.iloadN X0.here hx rfl (hb hby d8_0) rfl ?_
    refine XS.aloadN X0.here hx rfl (hb hby d8_1) rfl rfl ?_
    refine X0.arraylength hx (own_rwh e0 Ar1.1) (State.isArrayOf_alike hZ.alike Ar1.2.1) (g := (mkF m 2 #[Rf a1, It (2 : Int32)] [(.ref a1), (.int (2 : Int32))])) rfl rfl (hb hby d8_2) _ ?_
    rw [len_of Sz1 Nn1]
    show Steps _ _ _ (s₁.setTop (mkF m 3 #[Rf a1, It (2 : Int32)] [(.int (2 : Int32)), (.int (2 : Int32))])) _
    refine XS.isub X0.here hx rfl (hb hby d8_3) rfl ?_
    refine XS.bipush X0.here hx rfl (hb hby d8_4) ?_
    refine XS.iushr X0.here hx rfl (hb hby d8_6) rfl ?_
    refine XS.i2b X0.here hx rfl (hb hby d8_7) rfl ?_
    exact kt
  have hnar : nar .byte (((((2 : Int32) - (2 : Int32)).toUInt32 >>> ((31 : Int32) &&& 31).toUInt32).toInt32).toInt8.toInt32) = (((((2 : Int32) - (2 : Int32)).toUInt32 >>> ((31 : Int32) &&& 31).toUInt32).toInt32).toInt8.toInt32) := (by decide)
  obtain ⟨fs, hr, hrun, hended, hW, hsame⟩ := X0.leave (v := some (.int (((((2 : Int32) - (2 : Int32)).toUInt32 >>> ((31 : Int32) &&& 31).toUInt32).toInt32).toInt8.toInt32))) (fun h => by rw [Bd.returns] at h; cases h)
  rw [← hnar] at hr
  refine ⟨_, _, pre0 _ (sg2 _ (?_)), hrun, hended, _, _, rfl, ?_, ⟨_, rfl⟩, hW, hsame.mono (by decide) (by decide)⟩
  · show Steps _ _ _ (s₁.setTop (mkF m 8 #[Rf a1, It (2 : Int32)] [(.int (((((2 : Int32) - (2 : Int32)).toUInt32 >>> ((31 : Int32) &&& 31).toUInt32).toInt32).toInt8.toInt32))])) _
    exact retN X0 hx (t := .byte) Bd.returns (by simp) (hb hby d8_8) hr
  · show Q8_22 Z a1 vs ka h0 n0 _ s₁.heap _
    rw [e0]
    exact ⟨(by decide), N0, rfl⟩
def Q4_22 (Z : State) (a1 : Addr) (a2 : Addr) (x1 : Int32) (x2 : Int32) (zC : Int32) (ka : ClassId) (h0 : Heap) (n0 : Nat) (v : Option Value) (h : Heap) (L : List Loc) : Prop := ∃ ro : Addr, ∃ ko : ClassId, v = none ∧ Fr n0 L ∧ Keep h0 h [a1] ∧ Old Z n0 h ∧ Fld Z h a1 "java/lang/String" "coder" "B" (.int (0 : Int32)) ∧ Fld Z h a1 "java/lang/String" "value" "[B" (.ref ro) ∧ Arv Z h ro ko .byte (2 : Int32) (lu2 x1 x2) (.int (0 : Int32)) ∧ n0 ≤ ro ∧ h0.size ≤ ro
theorem rm4_22 (l : Launch) (Z : State) (a0 : Array Value) (hw : ∀ d ∈ tables_1, d.before a0 Z = true) (ws : List Jvm.Cond) (a1 : Addr) (a2 : Addr) (x1 : Int32) (x2 : Int32) (zC : Int32) (ka : ClassId) (h0 : Heap) (n0 : Nat) (O0 : Old Z n0 h0) (sC : TS_3 Z zC) (E_a1 : Exa Z h0 a1 "java/lang/String") (F_value_a1 : Fld Z h0 a1 "java/lang/String" "value" "[B" .null) (F_coder_a1 : Fld Z h0 a1 "java/lang/String" "coder" "B" (.int (0 : Int32))) (ge_a1 : n0 ≤ a1) (hCS : ¬ zC = 0) (A_a2 : Arv Z h0 a2 ka .char (2 : Int32) [(.int x1), (.int x2)] (.int (0 : Int32))) (h_l1 : ¬ (255 : Int32) < x1) (h_l2 : ¬ (255 : Int32) < x2) :
    MetFree l m_16 (head1 (Jvm.Cond.code m_16 jdk_42_method_149_code 6 none :: ws) (rk 2 1 2 35)) (fun a U => a = #[(.ref a1), (.ref a2), (.int (0 : Int32)), (.int (2 : Int32)), .null] ∧ Z.Warmed39 U.vm ∧ U.heap = h0) (fun _ _ _ _ _ => True) (fun _ U o U' => ∃ v L, o = .returned v ∧ Q4_22 Z a1 a2 x1 x2 zC ka h0 n0 v U'.heap L ∧ FrameEnd U o U' L (rk 2 1 2 35).cells (rk 2 1 2 35).slots) := by
  refine MetFree.of_bodySF (plainFor_of_name pn_3) hisR ?_
  intro p e s m args below meth c s₁ Bd hml0 hP hK
  obtain ⟨rfl, hZ, hh⟩ := hP
  have hx := Bd.exec
  have hby := Bd.bytes
  have hml : c.maxLocals = 6 := hml0
  have hown : s.vm.findClass "java/lang/String" = some m.cls := findClass_of_methodNamed Bd.named
  have hnm := (name_of_methodNamed Bd.named Bd.method).1
  have X0 : Stand p l e (rk 2 1 2 35) s m #[(.ref a1), (.ref a2), (.int (0 : Int32)), (.int (2 : Int32)), .null] below meth c s₁ [] 0 0 := Stand.of_body Bd
  have e0 : s₁.heap = h0 := by rw [← hh, Bd.state]; rfl
  have N0 := Fr.nil n0
  have pre0 := own_pre (tb := p.tables) (e := e) (bl := below) (s := s₁) (ef_4_10 m a1 a2 (0 : Int32) (2 : Int32))
  have K0 := Keep.refl h0 [a1]
  obtain ⟨T1, X1, e1, st1⟩ := initO X0 hx hZ hown (tw hw 20 rfl) (tw hw 21 rfl) (tw hw 22 rfl) e0 (g := (mkF m 1 #[Rf a1, Rf a2, It (0 : Int32), It (2 : Int32), .val .null, .unset] [(.ref a1)])) rfl (by rw [hml]; rfl) rfl (hb hby d4_1) (by decide) (W := 0) (w0 rfl) (by decide)
  obtain ⟨T2, X2, e2, st2⟩ := getS2 X1 hx hZ hown (host := "") (Or.inl (tw hw 23 rfl)) Via.refl e1 (sC.ext O0.2) (g := (mkF m 27 #[Rf a1, Rf a2, It (0 : Int32), It (2 : Int32), .val .null, .unset] [])) rfl (hb hby d4_27)
  obtain ⟨_, _, ⟨T3, L3, k3, n3⟩, -, X3, ⟨Lc3, hQ3, l3, y3, z3⟩, st3⟩ := Jvm.LawKit.callS X2 hx (y := m_14) hown (mvT hZ (tw hw 24 rfl)) (mvT hZ (tw hw 25 rfl)) (mvT hZ (tw hw 26 rfl)) (mvT hZ (tw hw 27 rfl)) (by decide) (backOf (W := 0) (rm6_22 l Z a0 hw [] a2 x1 x2 ka h0 n0 O0 A_a2 h_l1 h_l2) hZ (tw hw 27 rfl) (tw hw 26 rfl) (by decide) (by decide)) (g := (mkF m 36 #[Rf a1, Rf a2, It (0 : Int32), It (2 : Int32), .val .null, .unset] [(.int (2 : Int32)), (.int (0 : Int32)), (.ref a2)])) rfl (by rw [hml]; rfl) (argsL := [(.ref a2), (.int (0 : Int32)), (.int (2 : Int32))]) (rest := []) (lenOf pd_4 rfl) rfl (w0 rfl) (hb hby d4_36) (fun _ _ => ⟨rfl, e2, (by decide : 0 + 1 ≤ _), (by decide : 0 + 2 ≤ _)⟩)
  dsimp only [Pt.U, Pt.locs, Pt.cells, Pt.slots] at X3 l3 y3 z3 st3 hQ3
  subst l3 y3 z3
  obtain ⟨ro_3, ko_3, rfl, N3q, K3q, O3, f3_0, f3_1, f3_2⟩ := hQ3
  have N3 := Fr.app N0 N3q
  have K3 := K0.trans K3q all0
  obtain ⟨_, _, ⟨T4, L4, k4, n4⟩, -, X4, ⟨Lc4, hQ4, l4, y4, z4⟩, st4⟩ := Jvm.LawKit.callS X3 hx (y := m_15) hown (mvT hZ (tw hw 32 rfl)) (mvT hZ (tw hw 33 rfl)) (mvT hZ (tw hw 26 rfl)) (mvT hZ (tw hw 34 rfl)) (by decide) (backOf (W := 1) (rm8_22 l Z a0 hw [] ro_3 (lu2 x1 x2) ko_3 T3.heap n0 O3 f3_0) hZ (tw hw 34 rfl) (tw hw 26 rfl) (by decide) (by decide)) (g := (mkF m 45 #[Rf a1, Rf a2, It (0 : Int32), It (2 : Int32), .val .null, Rf ro_3] [(.int (2 : Int32)), (.ref ro_3), (.ref a1)])) rfl (by rw [hml]; rfl) (argsL := [(.ref ro_3), (.int (2 : Int32))]) (rest := [(.ref a1)]) (lenOf pd_6 rfl) rfl (w0 rfl) (hb hby d4_45) (fun _ _ => ⟨rfl, rfl, (by decide : 1 + 0 ≤ _), (by decide : 2 + 0 ≤ _)⟩)
  dsimp only [Pt.U, Pt.locs, Pt.cells, Pt.slots] at X4 l4 y4 z4 st4 hQ4
  subst l4 y4 z4
  obtain ⟨rfl, N4q, e4⟩ := hQ4
  have N4 := Fr.app N3 N4q
  obtain ⟨T5, h5, X5, e5, W5, st5⟩ := putFN X4 hx hZ hown (tw hw 35 rfl) Via.refl e4 (F_coder_a1.keep K3q nin0) (E_a1.keep K3q) (Or.inr ⟨(tw hw 36 rfl), rfl, hnm⟩) (tw hw 5 rfl) (ty := .byte) (v' := .int ((0 : Int32).toInt8.toInt32)) (by decide) rfl (fits_nar_byte _) (g := (mkF m 48 #[Rf a1, Rf a2, It (0 : Int32), It (2 : Int32), .val .null, Rf ro_3] [(.int (0 : Int32)), (.ref a1)])) rfl rfl (hb hby d4_48)
  have Fw5 := (F_coder_a1.keep K3q nin0).same W5
  have N5 := Fr.snoc X5 N4 ge_a1
  have O6 := O3.wr W5 ge_a1
  have K5 := K3.wr W5 (Or.inl (List.mem_of_getElem? (i := 0) rfl))
  obtain ⟨T7, h7, X7, e7, W7, st7⟩ := putF X5 hx hZ hown (host := "") (Or.inl (tw hw 37 rfl)) Via.refl e5 ((F_value_a1.keep K3q nin0).other W5 (sn (.array .byte) .byte (Or.inr (tw hw 38 rfl)) (Or.inr (tw hw 36 rfl)))) ((E_a1.keep K3q).wr W5) (Or.inr ⟨(tw hw 38 rfl), rfl, hnm⟩) (tw hw 5 rfl) (ty := (.array .byte)) (by decide) rfl rfl (g := (mkF m 54 #[Rf a1, Rf a2, It (0 : Int32), It (2 : Int32), .val .null, Rf ro_3] [(.ref ro_3), (.ref a1)])) rfl rfl (hb hby d4_54)
  have Fw7 := ((F_value_a1.keep K3q nin0).other W5 (sn (.array .byte) .byte (Or.inr (tw hw 38 rfl)) (Or.inr (tw hw 36 rfl)))).same W7
  have N7 := Fr.snoc X7 N5 ge_a1
  have O8 := O6.wr W7 ge_a1
  have K7 := K5.wr W7 (Or.inl (List.mem_of_getElem? (i := 0) rfl))
  have sg9 : SG p.tables e below (T7.setTop (mkF m 57 #[Rf a1, Rf a2, It (0 : Int32), It (2 : Int32), .val .null, Rf ro_3] [])) (s₁.setTop (mkF m 0 #[Rf a1, Rf a2, It (0 : Int32), It (2 : Int32), .val .null, .unset] [])) := by
    intro target kt
    show Steps _ _ _ (s₁.setTop (mkF m 0 #[Rf a1, Rf a2, It (0 : Int32), It (2 : Int32), .val .null, .unset] [])) _
    refine XS.aloadN X0.here hx rfl (hb hby d4_0) rfl rfl ?_
    refine st1 _ ?_
    refine XS.iloadN X1.here hx rfl (hb hby d4_4) rfl ?_
    refine XS.ifYes X1.here hx rfl (pc0 := 5) (pc' := 27) rfl (hb hby d4_5) rfl ((if0 _ _).trans (feq (by decide : ¬ ((2 : Int32) = (0 : Int32)))).2) (by decide) (by decide) ?_
    refine st2 _ ?_
    refine XS.ifNo X2.here hx rfl (hb hby d4_30) rfl ((if0 _ _).trans (feq hCS).1) ?_
    refine XS.aloadN X2.here hx rfl (hb hby d4_33) rfl rfl ?_
    refine XS.iloadN X2.here hx rfl (hb hby d4_34) rfl ?_
    refine XS.iloadN X2.here hx rfl (hb hby d4_35) rfl ?_
    refine st3 _ ?_
    refine XS.astore X3.here hx rfl (hb hby d4_39) rfl rfl (l' := #[Rf a1, Rf a2, It (0 : Int32), It (2 : Int32), .val .null, Rf ro_3]) rfl ?_
    refine XS.aloadN X3.here hx rfl (hb hby d4_41) rfl rfl ?_
    refine XS.aload X3.here hx rfl (hb hby d4_42) rfl rfl ?_
    refine XS.iloadN X3.here hx rfl (hb hby d4_44) rfl ?_
    refine st4 _ ?_
    refine st5 _ ?_
    refine XS.aloadN X5.here hx rfl (hb hby d4_51) rfl rfl ?_
    refine XS.aload X5.here hx rfl (hb hby d4_52) rfl rfl ?_
    refine st7 _ ?_
    exact kt
  obtain ⟨fs, hr, hrun, hended, hW, hsame⟩ := X7.leave (v := none) (fun _ => rfl)
  refine ⟨_, _, pre0 _ (sg9 _ (?_)), hrun, hended, _, _, rfl, ?_, ⟨_, rfl⟩, hW, hsame.mono (by decide) (by decide)⟩
  · show Steps _ _ _ (T7.setTop (mkF m 57 #[Rf a1, Rf a2, It (0 : Int32), It (2 : Int32), .val .null, Rf ro_3] [])) _
    exact X7.returnOut hx Bd.returns (hb hby d4_57) hr
  · show Q4_22 Z a1 a2 x1 x2 zC ka h0 n0 _ T7.heap _
    rw [e7]
    exact ⟨ro_3, ko_3, rfl, N7, K7, O8, (Fw5.other W7 (sn .byte (.array .byte) (Or.inr (tw hw 36 rfl)) (Or.inr (tw hw 38 rfl)))), Fw7, ((f3_0.other W5 (Ne.symm (Nat.ne_of_lt (Nat.lt_of_lt_of_le E_a1.lt f3_2)))).other W7 (Ne.symm (Nat.ne_of_lt (Nat.lt_of_lt_of_le E_a1.lt f3_2)))), f3_1, (Nat.le_trans K0.1 f3_2)⟩
def Q3_22 (Z : State) (a1 : Addr) (a2 : Addr) (x1 : Int32) (x2 : Int32) (zC : Int32) (ka : ClassId) (h0 : Heap) (n0 : Nat) (v : Option Value) (h : Heap) (L : List Loc) : Prop := ∃ ro : Addr, ∃ ko : ClassId, v = none ∧ Fr n0 L ∧ Keep h0 h [a1] ∧ Old Z n0 h ∧ Fld Z h a1 "java/lang/String" "coder" "B" (.int (0 : Int32)) ∧ Fld Z h a1 "java/lang/String" "value" "[B" (.ref ro) ∧ Arv Z h ro ko .byte (2 : Int32) (lu2 x1 x2) (.int (0 : Int32)) ∧ n0 ≤ ro ∧ h0.size ≤ ro
theorem rm3_22 (l : Launch) (Z : State) (a0 : Array Value) (hw : ∀ d ∈ tables_1, d.before a0 Z = true) (ws : List Jvm.Cond) (a1 : Addr) (a2 : Addr) (x1 : Int32) (x2 : Int32) (zC : Int32) (ka : ClassId) (h0 : Heap) (n0 : Nat) (O0 : Old Z n0 h0) (sC : TS_3 Z zC) (E_a1 : Exa Z h0 a1 "java/lang/String") (F_value_a1 : Fld Z h0 a1 "java/lang/String" "value" "[B" .null) (F_coder_a1 : Fld Z h0 a1 "java/lang/String" "coder" "B" (.int (0 : Int32))) (ge_a1 : n0 ≤ a1) (hCS : ¬ zC = 0) (A_a2 : Arv Z h0 a2 ka .char (2 : Int32) [(.int x1), (.int x2)] (.int (0 : Int32))) (h_l1 : ¬ (255 : Int32) < x1) (h_l2 : ¬ (255 : Int32) < x2) :
    MetFree l m_17 (head1 (Jvm.Cond.code m_17 jdk_42_method_3_code 2 none :: ws) (rk 3 1 2 52)) (fun a U => a = #[(.ref a1), (.ref a2)] ∧ Z.Warmed39 U.vm ∧ U.heap = h0) (fun _ _ _ _ _ => True) (fun _ U o U' => ∃ v L, o = .returned v ∧ Q3_22 Z a1 a2 x1 x2 zC ka h0 n0 v U'.heap L ∧ FrameEnd U o U' L (rk 3 1 2 52).cells (rk 3 1 2 52).slots) := by
  refine MetFree.of_bodySF (plainFor_of_name pn_3) hisR ?_
  intro p e s m args below meth c s₁ Bd hml0 hP hK
  obtain ⟨rfl, hZ, hh⟩ := hP
  have hx := Bd.exec
  have hby := Bd.bytes
  have hml : c.maxLocals = 2 := hml0
  have hown : s.vm.findClass "java/lang/String" = some m.cls := findClass_of_methodNamed Bd.named
  have X0 : Stand p l e (rk 3 1 2 52) s m #[(.ref a1), (.ref a2)] below meth c s₁ [] 0 0 := Stand.of_body Bd
  have e0 : s₁.heap = h0 := by rw [← hh, Bd.state]; rfl
  have N0 := Fr.nil n0
  have pre0 := own_pre (tb := p.tables) (e := e) (bl := below) (s := s₁) (ef_3_10 m a1 a2)
  have K0 := Keep.refl h0 [a1]
  obtain ⟨cl1, Ar1, -, Sz1, Nn1, -, -⟩ := id A_a2
  obtain ⟨_, _, ⟨T2, L2, k2, n2⟩, -, X2, ⟨Lc2, hQ2, l2, y2, z2⟩, st2⟩ := X0.specialBack hx (y := m_16) rfl hown (mvT hZ (tw hw 16 rfl)) (mvT hZ (tw hw 17 rfl)) (mvT hZ (tw hw 19 rfl)) (by decide) (backOf (W := 0) (rm4_22 l Z a0 hw [] a1 a2 x1 x2 zC ka h0 n0 O0 sC E_a1 F_value_a1 F_coder_a1 ge_a1 hCS A_a2 h_l1 h_l2) hZ (tw hw 19 rfl) (tw hw 6 rfl) (by decide) (by decide)) (g := (mkF m 6 #[Rf a1, Rf a2] [.null, (.int (2 : Int32)), (.int (0 : Int32)), (.ref a2), (.ref a1)])) rfl (by rw [hml]; rfl) (Steps.refl _) (a := a1) (argsL := [(.ref a2), (.int (0 : Int32)), (.int (2 : Int32)), .null]) (rest := []) (lenOf pd_7 rfl) rfl (w0 rfl) (hb hby d3_6) (fun _ _ => ⟨rfl, e0, (by decide : 0 + 1 ≤ _), (by decide : 0 + 2 ≤ _)⟩)
  dsimp only [Pt.U, Pt.locs, Pt.cells, Pt.slots] at X2 l2 y2 z2 st2 hQ2
  subst l2 y2 z2
  obtain ⟨ro_2, ko_2, rfl, N2q, K2q, O2, f2_0, f2_1, f2_2, f2_3, f2_4⟩ := hQ2
  have N2 := Fr.app N0 N2q
  have K2 := K0.trans K2q (allS (Or.inl (List.mem_of_getElem? (i := 0) rfl)) all0)
  have sg3 : SG p.tables e below (T2.setTop (mkF m 9 #[Rf a1, Rf a2] [])) (s₁.setTop (mkF m 0 #[Rf a1, Rf a2] [])) := by
    intro target kt
    show Steps _ _ _ (s₁.setTop (mkF m 0 #[Rf a1, Rf a2] [])) _
    refine XS.aloadN X0.here hx rfl (hb hby d3_0) rfl rfl ?_
    refine XS.aloadN X0.here hx rfl (hb hby d3_1) rfl rfl ?_
    refine XS.iconst X0.here hx rfl (hb hby d3_2) ?_
    refine XS.aloadN X0.here hx rfl (hb hby d3_3) rfl rfl ?_
    refine X0.arraylength hx (own_rwh e0 Ar1.1) (State.isArrayOf_alike hZ.alike Ar1.2.1) (g := (mkF m 4 #[Rf a1, Rf a2] [(.ref a2), (.int (0 : Int32)), (.ref a2), (.ref a1)])) rfl rfl (hb hby d3_4) _ ?_
    rw [len_of Sz1 Nn1]
    show Steps _ _ _ (s₁.setTop (mkF m 5 #[Rf a1, Rf a2] [(.int (2 : Int32)), (.int (0 : Int32)), (.ref a2), (.ref a1)])) _
    refine XS.aconstNull X0.here hx rfl (hb hby d3_5) ?_
    refine st2.trans ?_
    exact kt
  obtain ⟨fs, hr, hrun, hended, hW, hsame⟩ := X2.leave (v := none) (fun _ => rfl)
  refine ⟨_, _, pre0 _ (sg3 _ (?_)), hrun, hended, _, _, rfl, ?_, ⟨_, rfl⟩, hW, hsame.mono (by decide) (by decide)⟩
  · show Steps _ _ _ (T2.setTop (mkF m 9 #[Rf a1, Rf a2] [])) _
    exact X2.returnOut hx Bd.returns (hb hby d3_9) hr
  · show Q3_22 Z a1 a2 x1 x2 zC ka h0 n0 _ T2.heap _
    exact ⟨ro_2, ko_2, rfl, N2, K2, O2, f2_0, f2_1, f2_2, f2_3, (Nat.le_trans K0.1 f2_4)⟩
def Q6_30 (Z : State) (a1 : Addr) (x1 : Int32) (x2 : Int32) (x3 : Int32) (ka : ClassId) (h0 : Heap) (n0 : Nat) (v : Option Value) (h : Heap) (L : List Loc) : Prop := ∃ ro : Addr, ∃ ko : ClassId, v = some (.ref ro) ∧ Fr n0 L ∧ Keep h0 h [] ∧ Old Z n0 h ∧ Arv Z h ro ko .byte (6 : Int32) (ub3 x1 x2 x3) (.int (0 : Int32)) ∧ n0 ≤ ro ∧ h0.size ≤ ro
theorem rm6_30 (l : Launch) (Z : State) (a0 : Array Value) (hw : ∀ d ∈ tables_1, d.before a0 Z = true) (ws : List Jvm.Cond) (a1 : Addr) (x1 : Int32) (x2 : Int32) (x3 : Int32) (ka : ClassId) (h0 : Heap) (n0 : Nat) (O0 : Old Z n0 h0) (sA : TS_0 Z) (sH : TS_1 Z) (sL : TS_2 Z) (A_a1 : Arv Z h0 a1 ka .char (3 : Int32) [(.int x1), (.int x2), (.int x3)] (.int (0 : Int32))) (h_u : (255 : Int32) < x1 ∨ (255 : Int32) < x2) (h_x1 : CR x1) (h_x2 : CR x2) :
    MetFree l m_14 (head1 (Jvm.Cond.code m_14 jdk_52_method_16_code 6 (some (.array .byte)) :: ws) (rk 3 2 9 40)) (fun a U => a = #[(.ref a1), (.int (0 : Int32)), (.int (3 : Int32))] ∧ Z.Warmed39 U.vm ∧ U.heap = h0) (fun _ _ _ _ _ => True) (fun _ U o U' => ∃ v L, o = .returned v ∧ Q6_30 Z a1 x1 x2 x3 ka h0 n0 v U'.heap L ∧ FrameEnd U o U' L (rk 3 2 9 40).cells (rk 3 2 9 40).slots) := by
  refine MetFree.of_bodySF (plainFor_of_name pn_2) hisR ?_
  intro p e s m args below meth c s₁ Bd hml0 hP hK
  obtain ⟨rfl, hZ, hh⟩ := hP
  have hx := Bd.exec
  have hby := Bd.bytes
  have hml : c.maxLocals = 6 := hml0
  have hown : s.vm.findClass "java/lang/StringUTF16" = some m.cls := findClass_of_methodNamed Bd.named
  have X0 : Stand p l e (rk 3 2 9 40) s m #[(.ref a1), (.int (0 : Int32)), (.int (3 : Int32))] below meth c s₁ [] 0 0 := Stand.of_body Bd
  have e0 : s₁.heap = h0 := by rw [← hh, Bd.state]; rfl
  have N0 := Fr.nil n0
  have pre0 := own_pre (tb := p.tables) (e := e) (bl := below) (s := s₁) (ef_6_10 m a1 (0 : Int32) (3 : Int32))
  have K0 := Keep.refl h0 []
  obtain ⟨T1, h1, k1, X1, e1, E1, A1, st1⟩ := newP X0 hx hZ (tw hw 28 rfl) e0 (g := (mkF m 1 #[Rf a1, It (0 : Int32), It (3 : Int32), .unset, .unset, .unset] [(.int (3 : Int32))])) rfl (hb hby d6_1) rfl (by decide) (cap := 3) (by decide) (by decide) (by decide) (by decide)
  obtain ⟨b1, g1⟩ : ∃ z, z = h0.size := ⟨_, rfl⟩
  rw [← g1] at A1 st1
  have ge_b1 : n0 ≤ b1 := Nat.le_trans (own_osz O0) (Nat.le_of_eq g1.symm)
  have sz_b1 : h0.size ≤ b1 := Nat.le_trans K0.1 (Nat.le_of_eq g1.symm)
  have O2 := O0.ext E1
  have K1 := K0.ext E1
  have V_b1 : Arv Z h1 b1 k1 .byte (3 : Int32) [(.int (0 : Int32)), (.int (0 : Int32)), (.int (0 : Int32))] (.int (0 : Int32)) := (Arv.new A1 (by decide)).pad (pad_rep [] (.int (0 : Int32)) 3)
  have sg3 : SG p.tables e below (T1.setTop (mkF m 9 #[Rf a1, It (0 : Int32), It (3 : Int32), Rf b1, .unset, .unset] [(.int (3 : Int32)), (.int (0 : Int32)), (.ref b1), (.int (0 : Int32)), (.ref a1)])) (s₁.setTop (mkF m 0 #[Rf a1, It (0 : Int32), It (3 : Int32), .unset, .unset, .unset] [])) := by
    intro target kt
    show Steps _ _ _ (s₁.setTop (mkF m 0 #[Rf a1, It (0 : Int32), It (3 : Int32), .unset, .unset, .unset] [])) _
    refine XS.iloadN X0.here hx rfl (hb hby d6_0) rfl ?_
    refine st1 _ ?_
    refine XS.astoreN X1.here hx rfl (hb hby d6_3) rfl rfl (l' := #[Rf a1, It (0 : Int32), It (3 : Int32), Rf b1, .unset, .unset]) rfl ?_
    refine XS.aloadN X1.here hx rfl (hb hby d6_4) rfl rfl ?_
    refine XS.iloadN X1.here hx rfl (hb hby d6_5) rfl ?_
    refine XS.aloadN X1.here hx rfl (hb hby d6_6) rfl rfl ?_
    refine XS.iconst X1.here hx rfl (hb hby d6_7) ?_
    refine XS.iloadN X1.here hx rfl (hb hby d6_8) rfl ?_
    exact kt
  by_cases hc4 : (255 : Int32) < x1
  · obtain ⟨_, _, ⟨T5, L5, k5, n5⟩, -, X5, ⟨Lc5, hQ5, l5, y5, z5⟩, st5⟩ := Jvm.LawKit.callS X1 hx (y := m_13) hown (mvT hZ (tw hw 29 rfl)) (mvT hZ (tw hw 30 rfl)) (mvT hZ (tw hw 26 rfl)) (mvT hZ (tw hw 31 rfl)) (by decide) (backOf (W := 0) (rm7_00 l Z a0 hw [] a1 b1 (3 : Int32) x1 (3 : Int32) (3 : Int32) ([(.int x1), (.int x2), (.int x3)]) ([(.int (0 : Int32)), (.int (0 : Int32)), (.int (0 : Int32))]) ka k1 h1 n0 O2 (by decide) (by decide) (Nat.le_of_ble_eq_true rfl) rfl (by decide) (A_a1.ext E1) V_b1 ge_b1 hc4) hZ (tw hw 31 rfl) (tw hw 26 rfl) (by decide) (by decide)) (g := (mkF m 9 #[Rf a1, It (0 : Int32), It (3 : Int32), Rf b1, .unset, .unset] [(.int (3 : Int32)), (.int (0 : Int32)), (.ref b1), (.int (0 : Int32)), (.ref a1)])) rfl (by rw [hml]; rfl) (argsL := [(.ref a1), (.int (0 : Int32)), (.ref b1), (.int (0 : Int32)), (.int (3 : Int32))]) (rest := []) (lenOf pd_3 rfl) rfl (w0 rfl) (hb hby d6_9) (fun _ _ => ⟨rfl, e1, (by decide : 1 + 0 ≤ _), (by decide : 3 + 0 ≤ _)⟩)
    dsimp only [Pt.U, Pt.locs, Pt.cells, Pt.slots] at X5 l5 y5 z5 st5 hQ5
    subst l5 y5 z5
    obtain ⟨rfl, N5q, K5q, O5⟩ := hQ5
    have N5 := Fr.app N0 N5q
    have K5 := K1.trans K5q (allS (Or.inr sz_b1) all0)
    obtain ⟨_, _, ⟨T6, L6, k6, n6⟩, -, X6, ⟨Lc6, hQ6, l6, y6, z6⟩, st6⟩ := Jvm.LawKit.callS X5 hx (y := m_12) hown (mvT hZ (tw hw 89 rfl)) (mvT hZ (tw hw 90 rfl)) (mvT hZ (tw hw 26 rfl)) (mvT hZ (tw hw 91 rfl)) (by decide) (backOf (W := 0) (rm19_3 l Z a0 hw [] a1 x1 x2 x3 ka T5.heap n0 O5 sA sH sL ((A_a1.ext E1).keep K5q (ninS (Nat.ne_of_lt (Nat.lt_of_lt_of_le A_a1.lt (Nat.le_of_eq g1.symm))) nin0))) hZ (tw hw 91 rfl) (tw hw 26 rfl) (by decide) (by decide)) (g := (mkF m 23 #[Rf a1, It (0 : Int32), It (3 : Int32), Rf b1, It (0 : Int32), .unset] [(.int (3 : Int32)), (.int (0 : Int32)), (.ref a1)])) rfl (by rw [hml]; rfl) (argsL := [(.ref a1), (.int (0 : Int32)), (.int (3 : Int32))]) (rest := []) (lenOf pd_4 rfl) rfl (w0 rfl) (hb hby d6_23) (fun _ _ => ⟨rfl, rfl, (by decide : 1 + 1 ≤ _), (by decide : 3 + 6 ≤ _)⟩)
    dsimp only [Pt.U, Pt.locs, Pt.cells, Pt.slots] at X6 l6 y6 z6 st6 hQ6
    subst l6 y6 z6
    obtain ⟨ro_6, ko_6, rfl, N6q, K6q, O6, f6_0, f6_1, f6_2⟩ := hQ6
    have N6 := Fr.app N5 N6q
    have K6 := K5.trans K6q all0
    obtain ⟨_, _, ⟨T7, L7, k7, n7⟩, -, X7, ⟨Lc7, hQ7, l7, y7, z7⟩, st7⟩ := Jvm.LawKit.callS X6 hx (y := m_9) hown (mvT hZ (tw hw 105 rfl)) (mvT hZ (tw hw 106 rfl)) (mvT hZ (tw hw 26 rfl)) (mvT hZ (tw hw 107 rfl)) (by decide) (backOf (W := 0) (rm23_0 l Z a0 hw [] ro_6 x1 (6 : Int32) (ub3 x1 x2 x3) ko_6 T6.heap n0 O6 sA sH sL (by decide) rfl rfl h_x1 f6_0) hZ (tw hw 107 rfl) (tw hw 26 rfl) (by decide) (by decide)) (g := (mkF m 32 #[Rf a1, It (0 : Int32), It (3 : Int32), Rf b1, It (0 : Int32), Rf ro_6] [(.int (0 : Int32)), (.ref ro_6)])) rfl (by rw [hml]; rfl) (argsL := [(.ref ro_6), (.int (0 : Int32))]) (rest := []) (lenOf pd_5 rfl) rfl (w0 rfl) (hb hby d6_32) (fun _ _ => ⟨rfl, rfl, (by decide : 2 + 0 ≤ _), (by decide : 9 + 0 ≤ _)⟩)
    dsimp only [Pt.U, Pt.locs, Pt.cells, Pt.slots] at X7 l7 y7 z7 st7 hQ7
    subst l7 y7 z7
    obtain ⟨rfl, N7q, e7⟩ := hQ7
    have N7 := Fr.app N6 N7q
    have sg8 : SG p.tables e below (T7.setTop (mkF m 56 #[Rf a1, It (0 : Int32), It (3 : Int32), Rf b1, It (0 : Int32), Rf ro_6] [(.ref ro_6)])) (T1.setTop (mkF m 9 #[Rf a1, It (0 : Int32), It (3 : Int32), Rf b1, .unset, .unset] [(.int (3 : Int32)), (.int (0 : Int32)), (.ref b1), (.int (0 : Int32)), (.ref a1)])) := by
      intro target kt
      show Steps _ _ _ (T1.setTop (mkF m 9 #[Rf a1, It (0 : Int32), It (3 : Int32), Rf b1, .unset, .unset] [(.int (3 : Int32)), (.int (0 : Int32)), (.ref b1), (.int (0 : Int32)), (.ref a1)])) _
      refine st5 _ ?_
      refine XS.istore X5.here hx rfl (hb hby d6_12) rfl (l' := #[Rf a1, It (0 : Int32), It (3 : Int32), Rf b1, It (0 : Int32), .unset]) rfl ?_
      refine XS.iload X5.here hx rfl (hb hby d6_14) rfl ?_
      refine XS.iloadN X5.here hx rfl (hb hby d6_16) rfl ?_
      refine XS.icmpNo X5.here hx rfl (hb hby d6_17) rfl (feq (by decide : ¬ ((0 : Int32) = (3 : Int32)))).1 ?_
      refine XS.aloadN X5.here hx rfl (hb hby d6_20) rfl rfl ?_
      refine XS.iloadN X5.here hx rfl (hb hby d6_21) rfl ?_
      refine XS.iloadN X5.here hx rfl (hb hby d6_22) rfl ?_
      refine st6 _ ?_
      refine XS.astore X6.here hx rfl (hb hby d6_26) rfl rfl (l' := #[Rf a1, It (0 : Int32), It (3 : Int32), Rf b1, It (0 : Int32), Rf ro_6]) rfl ?_
      refine XS.aload X6.here hx rfl (hb hby d6_28) rfl rfl ?_
      refine XS.iload X6.here hx rfl (hb hby d6_30) rfl ?_
      refine st7 _ ?_
      refine XS.sipush X7.here hx rfl (hb hby d6_35) ?_
      refine XS.icmpYes X7.here hx rfl (pc0 := 38) (pc' := 54) rfl (hb hby d6_38) rfl (tlt hc4).2.2.1 (by decide) (by decide) ?_
      refine XS.aload X7.here hx rfl (hb hby d6_54) rfl rfl ?_
      exact kt
    obtain ⟨fs, hr, hrun, hended, hW, hsame⟩ := X7.leave (v := some (.ref ro_6)) (fun h => by rw [Bd.returns] at h; cases h)
    refine ⟨_, _, pre0 _ (sg3 _ (sg8 _ (?_))), hrun, hended, _, _, rfl, ?_, ⟨_, rfl⟩, hW, hsame.mono (by decide) (by decide)⟩
    · show Steps _ _ _ (T7.setTop (mkF m 56 #[Rf a1, It (0 : Int32), It (3 : Int32), Rf b1, It (0 : Int32), Rf ro_6] [(.ref ro_6)])) _
      jvm_step X7.here [X7.here.top, hx, (hb hby d6_56), X7.method', Bd.returns, Value.isRef, FieldType.isReference]
      first | (intro acts; rw [hr _ acts rfl rfl rfl]) | rw [hr _ _ rfl rfl rfl]
      exact Steps.refl _
    · show Q6_30 Z a1 x1 x2 x3 ka h0 n0 _ T7.heap _
      rw [e7]
      exact ⟨ro_6, ko_6, rfl, N7, K6, O6, f6_0, f6_1, (Nat.le_trans K5.1 f6_2)⟩
  · obtain ⟨_, _, ⟨T9, L9, k9, n9⟩, -, X9, ⟨Lc9, hQ9, l9, y9, z9⟩, st9⟩ := Jvm.LawKit.callS X1 hx (y := m_13) hown (mvT hZ (tw hw 29 rfl)) (mvT hZ (tw hw 30 rfl)) (mvT hZ (tw hw 26 rfl)) (mvT hZ (tw hw 31 rfl)) (by decide) (backOf (W := 0) (rm7_01 l Z a0 hw [] a1 b1 (3 : Int32) x1 x2 (3 : Int32) (3 : Int32) ([(.int x1), (.int x2), (.int x3)]) ([(.int (0 : Int32)), (.int (0 : Int32)), (.int (0 : Int32))]) ka k1 h1 n0 O2 (by decide) (by decide) (Nat.le_of_ble_eq_true rfl) rfl rfl (by decide) (A_a1.ext E1) V_b1 ge_b1 hc4 (h_u.resolve_left hc4)) hZ (tw hw 31 rfl) (tw hw 26 rfl) (by decide) (by decide)) (g := (mkF m 9 #[Rf a1, It (0 : Int32), It (3 : Int32), Rf b1, .unset, .unset] [(.int (3 : Int32)), (.int (0 : Int32)), (.ref b1), (.int (0 : Int32)), (.ref a1)])) rfl (by rw [hml]; rfl) (argsL := [(.ref a1), (.int (0 : Int32)), (.ref b1), (.int (0 : Int32)), (.int (3 : Int32))]) (rest := []) (lenOf pd_3 rfl) rfl (w0 rfl) (hb hby d6_9) (fun _ _ => ⟨rfl, e1, (by decide : 1 + 0 ≤ _), (by decide : 3 + 0 ≤ _)⟩)
    dsimp only [Pt.U, Pt.locs, Pt.cells, Pt.slots] at X9 l9 y9 z9 st9 hQ9
    subst l9 y9 z9
    obtain ⟨rfl, N9q, K9q, O9⟩ := hQ9
    have N9 := Fr.app N0 N9q
    have K9 := K1.trans K9q (allS (Or.inr sz_b1) all0)
    obtain ⟨_, _, ⟨T10, L10, k10, n10⟩, -, X10, ⟨Lc10, hQ10, l10, y10, z10⟩, st10⟩ := Jvm.LawKit.callS X9 hx (y := m_12) hown (mvT hZ (tw hw 89 rfl)) (mvT hZ (tw hw 90 rfl)) (mvT hZ (tw hw 26 rfl)) (mvT hZ (tw hw 91 rfl)) (by decide) (backOf (W := 0) (rm19_3 l Z a0 hw [] a1 x1 x2 x3 ka T9.heap n0 O9 sA sH sL ((A_a1.ext E1).keep K9q (ninS (Nat.ne_of_lt (Nat.lt_of_lt_of_le A_a1.lt (Nat.le_of_eq g1.symm))) nin0))) hZ (tw hw 91 rfl) (tw hw 26 rfl) (by decide) (by decide)) (g := (mkF m 23 #[Rf a1, It (0 : Int32), It (3 : Int32), Rf b1, It (1 : Int32), .unset] [(.int (3 : Int32)), (.int (0 : Int32)), (.ref a1)])) rfl (by rw [hml]; rfl) (argsL := [(.ref a1), (.int (0 : Int32)), (.int (3 : Int32))]) (rest := []) (lenOf pd_4 rfl) rfl (w0 rfl) (hb hby d6_23) (fun _ _ => ⟨rfl, rfl, (by decide : 1 + 1 ≤ _), (by decide : 3 + 6 ≤ _)⟩)
    dsimp only [Pt.U, Pt.locs, Pt.cells, Pt.slots] at X10 l10 y10 z10 st10 hQ10
    subst l10 y10 z10
    obtain ⟨ro_10, ko_10, rfl, N10q, K10q, O10, f10_0, f10_1, f10_2⟩ := hQ10
    have N10 := Fr.app N9 N10q
    have K10 := K9.trans K10q all0
    obtain ⟨_, _, ⟨T11, L11, k11, n11⟩, -, X11, ⟨Lc11, hQ11, l11, y11, z11⟩, st11⟩ := Jvm.LawKit.callS X10 hx (y := m_9) hown (mvT hZ (tw hw 105 rfl)) (mvT hZ (tw hw 106 rfl)) (mvT hZ (tw hw 26 rfl)) (mvT hZ (tw hw 107 rfl)) (by decide) (backOf (W := 0) (rm23_1 l Z a0 hw [] ro_10 x2 (6 : Int32) (ub3 x1 x2 x3) ko_10 T10.heap n0 O10 sA sH sL (by decide) rfl rfl h_x2 f10_0) hZ (tw hw 107 rfl) (tw hw 26 rfl) (by decide) (by decide)) (g := (mkF m 32 #[Rf a1, It (0 : Int32), It (3 : Int32), Rf b1, It (1 : Int32), Rf ro_10] [(.int (1 : Int32)), (.ref ro_10)])) rfl (by rw [hml]; rfl) (argsL := [(.ref ro_10), (.int (1 : Int32))]) (rest := []) (lenOf pd_5 rfl) rfl (w0 rfl) (hb hby d6_32) (fun _ _ => ⟨rfl, rfl, (by decide : 2 + 0 ≤ _), (by decide : 9 + 0 ≤ _)⟩)
    dsimp only [Pt.U, Pt.locs, Pt.cells, Pt.slots] at X11 l11 y11 z11 st11 hQ11
    subst l11 y11 z11
    obtain ⟨rfl, N11q, e11⟩ := hQ11
    have N11 := Fr.app N10 N11q
    have sg12 : SG p.tables e below (T11.setTop (mkF m 56 #[Rf a1, It (0 : Int32), It (3 : Int32), Rf b1, It (1 : Int32), Rf ro_10] [(.ref ro_10)])) (T1.setTop (mkF m 9 #[Rf a1, It (0 : Int32), It (3 : Int32), Rf b1, .unset, .unset] [(.int (3 : Int32)), (.int (0 : Int32)), (.ref b1), (.int (0 : Int32)), (.ref a1)])) := by
      intro target kt
      show Steps _ _ _ (T1.setTop (mkF m 9 #[Rf a1, It (0 : Int32), It (3 : Int32), Rf b1, .unset, .unset] [(.int (3 : Int32)), (.int (0 : Int32)), (.ref b1), (.int (0 : Int32)), (.ref a1)])) _
      refine st9 _ ?_
      refine XS.istore X9.here hx rfl (hb hby d6_12) rfl (l' := #[Rf a1, It (0 : Int32), It (3 : Int32), Rf b1, It (1 : Int32), .unset]) rfl ?_
      refine XS.iload X9.here hx rfl (hb hby d6_14) rfl ?_
      refine XS.iloadN X9.here hx rfl (hb hby d6_16) rfl ?_
      refine XS.icmpNo X9.here hx rfl (hb hby d6_17) rfl (feq (by decide : ¬ ((1 : Int32) = (3 : Int32)))).1 ?_
      refine XS.aloadN X9.here hx rfl (hb hby d6_20) rfl rfl ?_
      refine XS.iloadN X9.here hx rfl (hb hby d6_21) rfl ?_
      refine XS.iloadN X9.here hx rfl (hb hby d6_22) rfl ?_
      refine st10 _ ?_
      refine XS.astore X10.here hx rfl (hb hby d6_26) rfl rfl (l' := #[Rf a1, It (0 : Int32), It (3 : Int32), Rf b1, It (1 : Int32), Rf ro_10]) rfl ?_
      refine XS.aload X10.here hx rfl (hb hby d6_28) rfl rfl ?_
      refine XS.iload X10.here hx rfl (hb hby d6_30) rfl ?_
      refine st11 _ ?_
      refine XS.sipush X11.here hx rfl (hb hby d6_35) ?_
      refine XS.icmpYes X11.here hx rfl (pc0 := 38) (pc' := 54) rfl (hb hby d6_38) rfl (tlt (h_u.resolve_left hc4)).2.2.1 (by decide) (by decide) ?_
      refine XS.aload X11.here hx rfl (hb hby d6_54) rfl rfl ?_
      exact kt
    obtain ⟨fs, hr, hrun, hended, hW, hsame⟩ := X11.leave (v := some (.ref ro_10)) (fun h => by rw [Bd.returns] at h; cases h)
    refine ⟨_, _, pre0 _ (sg3 _ (sg12 _ (?_))), hrun, hended, _, _, rfl, ?_, ⟨_, rfl⟩, hW, hsame.mono (by decide) (by decide)⟩
    · show Steps _ _ _ (T11.setTop (mkF m 56 #[Rf a1, It (0 : Int32), It (3 : Int32), Rf b1, It (1 : Int32), Rf ro_10] [(.ref ro_10)])) _
      jvm_step X11.here [X11.here.top, hx, (hb hby d6_56), X11.method', Bd.returns, Value.isRef, FieldType.isReference]
      first | (intro acts; rw [hr _ acts rfl rfl rfl]) | rw [hr _ _ rfl rfl rfl]
      exact Steps.refl _
    · show Q6_30 Z a1 x1 x2 x3 ka h0 n0 _ T11.heap _
      rw [e11]
      exact ⟨ro_10, ko_10, rfl, N11, K10, O10, f10_0, f10_1, (Nat.le_trans K9.1 f10_2)⟩
def Q8_36 (Z : State) (a1 : Addr) (vs : List Value) (ka : ClassId) (h0 : Heap) (n0 : Nat) (v : Option Value) (h : Heap) (L : List Loc) : Prop := v = some (.int (1 : Int32)) ∧ Fr n0 L ∧ h = h0
theorem rm8_36 (l : Launch) (Z : State) (a0 : Array Value) (hw : ∀ d ∈ tables_1, d.before a0 Z = true) (ws : List Jvm.Cond) (a1 : Addr) (vs : List Value) (ka : ClassId) (h0 : Heap) (n0 : Nat) (O0 : Old Z n0 h0) (A_a1 : Arv Z h0 a1 ka .byte (6 : Int32) vs (.int (0 : Int32))) :
    MetFree l m_15 (head1 (Jvm.Cond.code m_15 jdk_52_method_15_code 2 (some .byte) :: ws) (rk 0 0 0 0)) (fun a U => a = #[(.ref a1), (.int (3 : Int32))] ∧ Z.Warmed39 U.vm ∧ U.heap = h0) (fun _ _ _ _ _ => True) (fun _ U o U' => ∃ v L, o = .returned v ∧ Q8_36 Z a1 vs ka h0 n0 v U'.heap L ∧ FrameEnd U o U' L (rk 0 0 0 0).cells (rk 0 0 0 0).slots) := by
  refine MetFree.of_bodySF (plainFor_of_name pn_2) hisR ?_
  intro p e s m args below meth c s₁ Bd hml0 hP hK
  obtain ⟨rfl, hZ, hh⟩ := hP
  have hx := Bd.exec
  have hby := Bd.bytes
  have hml : c.maxLocals = 2 := hml0
  have hown : s.vm.findClass "java/lang/StringUTF16" = some m.cls := findClass_of_methodNamed Bd.named
  have X0 : Stand p l e (rk 0 0 0 0) s m #[(.ref a1), (.int (3 : Int32))] below meth c s₁ [] 0 0 := Stand.of_body Bd
  have e0 : s₁.heap = h0 := by rw [← hh, Bd.state]; rfl
  have N0 := Fr.nil n0
  have pre0 := own_pre (tb := p.tables) (e := e) (bl := below) (s := s₁) (ef_23_0 m a1 (3 : Int32))
  obtain ⟨cl1, Ar1, -, Sz1, Nn1, -, -⟩ := id A_a1
  have sg2 : SG p.tables e below (s₁.setTop (mkF m 8 #[Rf a1, It (3 : Int32)] [(.int (((((3 : Int32) - (6 : Int32)).toUInt32 >>> ((31 : Int32) &&& 31).toUInt32).toInt32).toInt8.toInt32))])) (s₁.setTop (mkF m 0 #[Rf a1, It (3 : Int32)] [])) := by
    intro target kt
    show Steps _ _ _ (s₁.setTop (mkF m 0 #[Rf a1, It (3 : Int32)] [])) _
    refine XS.iloadN X0.here hx rfl (hb hby d8_0) rfl ?_
    refine XS.aloadN X0.here hx rfl (hb hby d8_1) rfl rfl ?_
    refine X0.arraylength hx (own_rwh e0 Ar1.1) (State.isArrayOf_alike hZ.alike Ar1.2.1) (g := (mkF m 2 #[Rf a1, It (3 : Int32)] [(.ref a1), (.int (3 : Int32))])) rfl rfl (hb hby d8_2) _ ?_
    rw [len_of Sz1 Nn1]
    show Steps _ _ _ (s₁.setTop (mkF m 3 #[Rf a1, It (3 : Int32)] [(.int (6 : Int32)), (.int (3 : Int32))])) _
    refine XS.isub X0.here hx rfl (hb hby d8_3) rfl ?_
    refine XS.bipush X0.here hx rfl (hb hby d8_4) ?_
    refine XS.iushr X0.here hx rfl (hb hby d8_6) rfl ?_
    refine XS.i2b X0.here hx rfl (hb hby d8_7) rfl ?_
    exact kt
  have hnar : nar .byte (((((3 : Int32) - (6 : Int32)).toUInt32 >>> ((31 : Int32) &&& 31).toUInt32).toInt32).toInt8.toInt32) = (((((3 : Int32) - (6 : Int32)).toUInt32 >>> ((31 : Int32) &&& 31).toUInt32).toInt32).toInt8.toInt32) := (by decide)
  obtain ⟨fs, hr, hrun, hended, hW, hsame⟩ := X0.leave (v := some (.int (((((3 : Int32) - (6 : Int32)).toUInt32 >>> ((31 : Int32) &&& 31).toUInt32).toInt32).toInt8.toInt32))) (fun h => by rw [Bd.returns] at h; cases h)
  rw [← hnar] at hr
  refine ⟨_, _, pre0 _ (sg2 _ (?_)), hrun, hended, _, _, rfl, ?_, ⟨_, rfl⟩, hW, hsame.mono (by decide) (by decide)⟩
  · show Steps _ _ _ (s₁.setTop (mkF m 8 #[Rf a1, It (3 : Int32)] [(.int (((((3 : Int32) - (6 : Int32)).toUInt32 >>> ((31 : Int32) &&& 31).toUInt32).toInt32).toInt8.toInt32))])) _
    exact retN X0 hx (t := .byte) Bd.returns (by simp) (hb hby d8_8) hr
  · show Q8_36 Z a1 vs ka h0 n0 _ s₁.heap _
    rw [e0]
    exact ⟨(by decide), N0, rfl⟩
def Q4_30 (Z : State) (a1 : Addr) (a2 : Addr) (x1 : Int32) (x2 : Int32) (x3 : Int32) (zC : Int32) (ka : ClassId) (h0 : Heap) (n0 : Nat) (v : Option Value) (h : Heap) (L : List Loc) : Prop := ∃ ro : Addr, ∃ ko : ClassId, v = none ∧ Fr n0 L ∧ Keep h0 h [a1] ∧ Old Z n0 h ∧ Fld Z h a1 "java/lang/String" "coder" "B" (.int (1 : Int32)) ∧ Fld Z h a1 "java/lang/String" "value" "[B" (.ref ro) ∧ Arv Z h ro ko .byte (6 : Int32) (ub3 x1 x2 x3) (.int (0 : Int32)) ∧ n0 ≤ ro ∧ h0.size ≤ ro
theorem rm4_30 (l : Launch) (Z : State) (a0 : Array Value) (hw : ∀ d ∈ tables_1, d.before a0 Z = true) (ws : List Jvm.Cond) (a1 : Addr) (a2 : Addr) (x1 : Int32) (x2 : Int32) (x3 : Int32) (zC : Int32) (ka : ClassId) (h0 : Heap) (n0 : Nat) (O0 : Old Z n0 h0) (sC : TS_3 Z zC) (sA : TS_0 Z) (sH : TS_1 Z) (sL : TS_2 Z) (E_a1 : Exa Z h0 a1 "java/lang/String") (F_value_a1 : Fld Z h0 a1 "java/lang/String" "value" "[B" .null) (F_coder_a1 : Fld Z h0 a1 "java/lang/String" "coder" "B" (.int (0 : Int32))) (ge_a1 : n0 ≤ a1) (hCS : ¬ zC = 0) (A_a2 : Arv Z h0 a2 ka .char (3 : Int32) [(.int x1), (.int x2), (.int x3)] (.int (0 : Int32))) (h_u : (255 : Int32) < x1 ∨ (255 : Int32) < x2) (h_x1 : CR x1) (h_x2 : CR x2) :
    MetFree l m_16 (head1 (Jvm.Cond.code m_16 jdk_42_method_149_code 6 none :: ws) (rk 4 2 9 57)) (fun a U => a = #[(.ref a1), (.ref a2), (.int (0 : Int32)), (.int (3 : Int32)), .null] ∧ Z.Warmed39 U.vm ∧ U.heap = h0) (fun _ _ _ _ _ => True) (fun _ U o U' => ∃ v L, o = .returned v ∧ Q4_30 Z a1 a2 x1 x2 x3 zC ka h0 n0 v U'.heap L ∧ FrameEnd U o U' L (rk 4 2 9 57).cells (rk 4 2 9 57).slots) := by
  refine MetFree.of_bodySF (plainFor_of_name pn_3) hisR ?_
  intro p e s m args below meth c s₁ Bd hml0 hP hK
  obtain ⟨rfl, hZ, hh⟩ := hP
  have hx := Bd.exec
  have hby := Bd.bytes
  have hml : c.maxLocals = 6 := hml0
  have hown : s.vm.findClass "java/lang/String" = some m.cls := findClass_of_methodNamed Bd.named
  have hnm := (name_of_methodNamed Bd.named Bd.method).1
  have X0 : Stand p l e (rk 4 2 9 57) s m #[(.ref a1), (.ref a2), (.int (0 : Int32)), (.int (3 : Int32)), .null] below meth c s₁ [] 0 0 := Stand.of_body Bd
  have e0 : s₁.heap = h0 := by rw [← hh, Bd.state]; rfl
  have N0 := Fr.nil n0
  have pre0 := own_pre (tb := p.tables) (e := e) (bl := below) (s := s₁) (ef_4_10 m a1 a2 (0 : Int32) (3 : Int32))
  have K0 := Keep.refl h0 [a1]
  obtain ⟨T1, X1, e1, st1⟩ := initO X0 hx hZ hown (tw hw 20 rfl) (tw hw 21 rfl) (tw hw 22 rfl) e0 (g := (mkF m 1 #[Rf a1, Rf a2, It (0 : Int32), It (3 : Int32), .val .null, .unset] [(.ref a1)])) rfl (by rw [hml]; rfl) rfl (hb hby d4_1) (by decide) (W := 0) (w0 rfl) (by decide)
  obtain ⟨T2, X2, e2, st2⟩ := getS2 X1 hx hZ hown (host := "") (Or.inl (tw hw 23 rfl)) Via.refl e1 (sC.ext O0.2) (g := (mkF m 27 #[Rf a1, Rf a2, It (0 : Int32), It (3 : Int32), .val .null, .unset] [])) rfl (hb hby d4_27)
  obtain ⟨_, _, ⟨T3, L3, k3, n3⟩, -, X3, ⟨Lc3, hQ3, l3, y3, z3⟩, st3⟩ := Jvm.LawKit.callS X2 hx (y := m_14) hown (mvT hZ (tw hw 24 rfl)) (mvT hZ (tw hw 25 rfl)) (mvT hZ (tw hw 26 rfl)) (mvT hZ (tw hw 27 rfl)) (by decide) (backOf (W := 0) (rm6_30 l Z a0 hw [] a2 x1 x2 x3 ka h0 n0 O0 sA sH sL A_a2 h_u h_x1 h_x2) hZ (tw hw 27 rfl) (tw hw 26 rfl) (by decide) (by decide)) (g := (mkF m 36 #[Rf a1, Rf a2, It (0 : Int32), It (3 : Int32), .val .null, .unset] [(.int (3 : Int32)), (.int (0 : Int32)), (.ref a2)])) rfl (by rw [hml]; rfl) (argsL := [(.ref a2), (.int (0 : Int32)), (.int (3 : Int32))]) (rest := []) (lenOf pd_4 rfl) rfl (w0 rfl) (hb hby d4_36) (fun _ _ => ⟨rfl, e2, (by decide : 0 + 2 ≤ _), (by decide : 0 + 9 ≤ _)⟩)
  dsimp only [Pt.U, Pt.locs, Pt.cells, Pt.slots] at X3 l3 y3 z3 st3 hQ3
  subst l3 y3 z3
  obtain ⟨ro_3, ko_3, rfl, N3q, K3q, O3, f3_0, f3_1, f3_2⟩ := hQ3
  have N3 := Fr.app N0 N3q
  have K3 := K0.trans K3q all0
  obtain ⟨_, _, ⟨T4, L4, k4, n4⟩, -, X4, ⟨Lc4, hQ4, l4, y4, z4⟩, st4⟩ := Jvm.LawKit.callS X3 hx (y := m_15) hown (mvT hZ (tw hw 32 rfl)) (mvT hZ (tw hw 33 rfl)) (mvT hZ (tw hw 26 rfl)) (mvT hZ (tw hw 34 rfl)) (by decide) (backOf (W := 1) (rm8_36 l Z a0 hw [] ro_3 (ub3 x1 x2 x3) ko_3 T3.heap n0 O3 f3_0) hZ (tw hw 34 rfl) (tw hw 26 rfl) (by decide) (by decide)) (g := (mkF m 45 #[Rf a1, Rf a2, It (0 : Int32), It (3 : Int32), .val .null, Rf ro_3] [(.int (3 : Int32)), (.ref ro_3), (.ref a1)])) rfl (by rw [hml]; rfl) (argsL := [(.ref ro_3), (.int (3 : Int32))]) (rest := [(.ref a1)]) (lenOf pd_6 rfl) rfl (w0 rfl) (hb hby d4_45) (fun _ _ => ⟨rfl, rfl, (by decide : 2 + 0 ≤ _), (by decide : 9 + 0 ≤ _)⟩)
  dsimp only [Pt.U, Pt.locs, Pt.cells, Pt.slots] at X4 l4 y4 z4 st4 hQ4
  subst l4 y4 z4
  obtain ⟨rfl, N4q, e4⟩ := hQ4
  have N4 := Fr.app N3 N4q
  obtain ⟨T5, h5, X5, e5, W5, st5⟩ := putFN X4 hx hZ hown (tw hw 35 rfl) Via.refl e4 (F_coder_a1.keep K3q nin0) (E_a1.keep K3q) (Or.inr ⟨(tw hw 36 rfl), rfl, hnm⟩) (tw hw 5 rfl) (ty := .byte) (v' := .int ((1 : Int32).toInt8.toInt32)) (by decide) rfl (fits_nar_byte _) (g := (mkF m 48 #[Rf a1, Rf a2, It (0 : Int32), It (3 : Int32), .val .null, Rf ro_3] [(.int (1 : Int32)), (.ref a1)])) rfl rfl (hb hby d4_48)
  have Fw5 := (F_coder_a1.keep K3q nin0).same W5
  have N5 := Fr.snoc X5 N4 ge_a1
  have O6 := O3.wr W5 ge_a1
  have K5 := K3.wr W5 (Or.inl (List.mem_of_getElem? (i := 0) rfl))
  obtain ⟨T7, h7, X7, e7, W7, st7⟩ := putF X5 hx hZ hown (host := "") (Or.inl (tw hw 37 rfl)) Via.refl e5 ((F_value_a1.keep K3q nin0).other W5 (sn (.array .byte) .byte (Or.inr (tw hw 38 rfl)) (Or.inr (tw hw 36 rfl)))) ((E_a1.keep K3q).wr W5) (Or.inr ⟨(tw hw 38 rfl), rfl, hnm⟩) (tw hw 5 rfl) (ty := (.array .byte)) (by decide) rfl rfl (g := (mkF m 54 #[Rf a1, Rf a2, It (0 : Int32), It (3 : Int32), .val .null, Rf ro_3] [(.ref ro_3), (.ref a1)])) rfl rfl (hb hby d4_54)
  have Fw7 := ((F_value_a1.keep K3q nin0).other W5 (sn (.array .byte) .byte (Or.inr (tw hw 38 rfl)) (Or.inr (tw hw 36 rfl)))).same W7
  have N7 := Fr.snoc X7 N5 ge_a1
  have O8 := O6.wr W7 ge_a1
  have K7 := K5.wr W7 (Or.inl (List.mem_of_getElem? (i := 0) rfl))
  have sg9 : SG p.tables e below (T7.setTop (mkF m 57 #[Rf a1, Rf a2, It (0 : Int32), It (3 : Int32), .val .null, Rf ro_3] [])) (s₁.setTop (mkF m 0 #[Rf a1, Rf a2, It (0 : Int32), It (3 : Int32), .val .null, .unset] [])) := by
    intro target kt
    show Steps _ _ _ (s₁.setTop (mkF m 0 #[Rf a1, Rf a2, It (0 : Int32), It (3 : Int32), .val .null, .unset] [])) _
    refine XS.aloadN X0.here hx rfl (hb hby d4_0) rfl rfl ?_
    refine st1 _ ?_
    refine XS.iloadN X1.here hx rfl (hb hby d4_4) rfl ?_
    refine XS.ifYes X1.here hx rfl (pc0 := 5) (pc' := 27) rfl (hb hby d4_5) rfl ((if0 _ _).trans (feq (by decide : ¬ ((3 : Int32) = (0 : Int32)))).2) (by decide) (by decide) ?_
    refine st2 _ ?_
    refine XS.ifNo X2.here hx rfl (hb hby d4_30) rfl ((if0 _ _).trans (feq hCS).1) ?_
    refine XS.aloadN X2.here hx rfl (hb hby d4_33) rfl rfl ?_
    refine XS.iloadN X2.here hx rfl (hb hby d4_34) rfl ?_
    refine XS.iloadN X2.here hx rfl (hb hby d4_35) rfl ?_
    refine st3 _ ?_
    refine XS.astore X3.here hx rfl (hb hby d4_39) rfl rfl (l' := #[Rf a1, Rf a2, It (0 : Int32), It (3 : Int32), .val .null, Rf ro_3]) rfl ?_
    refine XS.aloadN X3.here hx rfl (hb hby d4_41) rfl rfl ?_
    refine XS.aload X3.here hx rfl (hb hby d4_42) rfl rfl ?_
    refine XS.iloadN X3.here hx rfl (hb hby d4_44) rfl ?_
    refine st4 _ ?_
    refine st5 _ ?_
    refine XS.aloadN X5.here hx rfl (hb hby d4_51) rfl rfl ?_
    refine XS.aload X5.here hx rfl (hb hby d4_52) rfl rfl ?_
    refine st7 _ ?_
    exact kt
  obtain ⟨fs, hr, hrun, hended, hW, hsame⟩ := X7.leave (v := none) (fun _ => rfl)
  refine ⟨_, _, pre0 _ (sg9 _ (?_)), hrun, hended, _, _, rfl, ?_, ⟨_, rfl⟩, hW, hsame.mono (by decide) (by decide)⟩
  · show Steps _ _ _ (T7.setTop (mkF m 57 #[Rf a1, Rf a2, It (0 : Int32), It (3 : Int32), .val .null, Rf ro_3] [])) _
    exact X7.returnOut hx Bd.returns (hb hby d4_57) hr
  · show Q4_30 Z a1 a2 x1 x2 x3 zC ka h0 n0 _ T7.heap _
    rw [e7]
    exact ⟨ro_3, ko_3, rfl, N7, K7, O8, (Fw5.other W7 (sn .byte (.array .byte) (Or.inr (tw hw 36 rfl)) (Or.inr (tw hw 38 rfl)))), Fw7, ((f3_0.other W5 (Ne.symm (Nat.ne_of_lt (Nat.lt_of_lt_of_le E_a1.lt f3_2)))).other W7 (Ne.symm (Nat.ne_of_lt (Nat.lt_of_lt_of_le E_a1.lt f3_2)))), f3_1, (Nat.le_trans K0.1 f3_2)⟩
def Q3_30 (Z : State) (a1 : Addr) (a2 : Addr) (x1 : Int32) (x2 : Int32) (x3 : Int32) (zC : Int32) (ka : ClassId) (h0 : Heap) (n0 : Nat) (v : Option Value) (h : Heap) (L : List Loc) : Prop := ∃ ro : Addr, ∃ ko : ClassId, v = none ∧ Fr n0 L ∧ Keep h0 h [a1] ∧ Old Z n0 h ∧ Fld Z h a1 "java/lang/String" "coder" "B" (.int (1 : Int32)) ∧ Fld Z h a1 "java/lang/String" "value" "[B" (.ref ro) ∧ Arv Z h ro ko .byte (6 : Int32) (ub3 x1 x2 x3) (.int (0 : Int32)) ∧ n0 ≤ ro ∧ h0.size ≤ ro
theorem rm3_30 (l : Launch) (Z : State) (a0 : Array Value) (hw : ∀ d ∈ tables_1, d.before a0 Z = true) (ws : List Jvm.Cond) (a1 : Addr) (a2 : Addr) (x1 : Int32) (x2 : Int32) (x3 : Int32) (zC : Int32) (ka : ClassId) (h0 : Heap) (n0 : Nat) (O0 : Old Z n0 h0) (sC : TS_3 Z zC) (sA : TS_0 Z) (sH : TS_1 Z) (sL : TS_2 Z) (E_a1 : Exa Z h0 a1 "java/lang/String") (F_value_a1 : Fld Z h0 a1 "java/lang/String" "value" "[B" .null) (F_coder_a1 : Fld Z h0 a1 "java/lang/String" "coder" "B" (.int (0 : Int32))) (ge_a1 : n0 ≤ a1) (hCS : ¬ zC = 0) (A_a2 : Arv Z h0 a2 ka .char (3 : Int32) [(.int x1), (.int x2), (.int x3)] (.int (0 : Int32))) (h_u : (255 : Int32) < x1 ∨ (255 : Int32) < x2) (h_x1 : CR x1) (h_x2 : CR x2) :
    MetFree l m_17 (head1 (Jvm.Cond.code m_17 jdk_42_method_3_code 2 none :: ws) (rk 5 2 9 74)) (fun a U => a = #[(.ref a1), (.ref a2)] ∧ Z.Warmed39 U.vm ∧ U.heap = h0) (fun _ _ _ _ _ => True) (fun _ U o U' => ∃ v L, o = .returned v ∧ Q3_30 Z a1 a2 x1 x2 x3 zC ka h0 n0 v U'.heap L ∧ FrameEnd U o U' L (rk 5 2 9 74).cells (rk 5 2 9 74).slots) := by
  refine MetFree.of_bodySF (plainFor_of_name pn_3) hisR ?_
  intro p e s m args below meth c s₁ Bd hml0 hP hK
  obtain ⟨rfl, hZ, hh⟩ := hP
  have hx := Bd.exec
  have hby := Bd.bytes
  have hml : c.maxLocals = 2 := hml0
  have hown : s.vm.findClass "java/lang/String" = some m.cls := findClass_of_methodNamed Bd.named
  have X0 : Stand p l e (rk 5 2 9 74) s m #[(.ref a1), (.ref a2)] below meth c s₁ [] 0 0 := Stand.of_body Bd
  have e0 : s₁.heap = h0 := by rw [← hh, Bd.state]; rfl
  have N0 := Fr.nil n0
  have pre0 := own_pre (tb := p.tables) (e := e) (bl := below) (s := s₁) (ef_3_10 m a1 a2)
  have K0 := Keep.refl h0 [a1]
  obtain ⟨cl1, Ar1, -, Sz1, Nn1, -, -⟩ := id A_a2
  obtain ⟨_, _, ⟨T2, L2, k2, n2⟩, -, X2, ⟨Lc2, hQ2, l2, y2, z2⟩, st2⟩ := X0.specialBack hx (y := m_16) rfl hown (mvT hZ (tw hw 16 rfl)) (mvT hZ (tw hw 17 rfl)) (mvT hZ (tw hw 19 rfl)) (by decide) (backOf (W := 0) (rm4_30 l Z a0 hw [] a1 a2 x1 x2 x3 zC ka h0 n0 O0 sC sA sH sL E_a1 F_value_a1 F_coder_a1 ge_a1 hCS A_a2 h_u h_x1 h_x2) hZ (tw hw 19 rfl) (tw hw 6 rfl) (by decide) (by decide)) (g := (mkF m 6 #[Rf a1, Rf a2] [.null, (.int (3 : Int32)), (.int (0 : Int32)), (.ref a2), (.ref a1)])) rfl (by rw [hml]; rfl) (Steps.refl _) (a := a1) (argsL := [(.ref a2), (.int (0 : Int32)), (.int (3 : Int32)), .null]) (rest := []) (lenOf pd_7 rfl) rfl (w0 rfl) (hb hby d3_6) (fun _ _ => ⟨rfl, e0, (by decide : 0 + 2 ≤ _), (by decide : 0 + 9 ≤ _)⟩)
  dsimp only [Pt.U, Pt.locs, Pt.cells, Pt.slots] at X2 l2 y2 z2 st2 hQ2
  subst l2 y2 z2
  obtain ⟨ro_2, ko_2, rfl, N2q, K2q, O2, f2_0, f2_1, f2_2, f2_3, f2_4⟩ := hQ2
  have N2 := Fr.app N0 N2q
  have K2 := K0.trans K2q (allS (Or.inl (List.mem_of_getElem? (i := 0) rfl)) all0)
  have sg3 : SG p.tables e below (T2.setTop (mkF m 9 #[Rf a1, Rf a2] [])) (s₁.setTop (mkF m 0 #[Rf a1, Rf a2] [])) := by
    intro target kt
    show Steps _ _ _ (s₁.setTop (mkF m 0 #[Rf a1, Rf a2] [])) _
    refine XS.aloadN X0.here hx rfl (hb hby d3_0) rfl rfl ?_
    refine XS.aloadN X0.here hx rfl (hb hby d3_1) rfl rfl ?_
    refine XS.iconst X0.here hx rfl (hb hby d3_2) ?_
    refine XS.aloadN X0.here hx rfl (hb hby d3_3) rfl rfl ?_
    refine X0.arraylength hx (own_rwh e0 Ar1.1) (State.isArrayOf_alike hZ.alike Ar1.2.1) (g := (mkF m 4 #[Rf a1, Rf a2] [(.ref a2), (.int (0 : Int32)), (.ref a2), (.ref a1)])) rfl rfl (hb hby d3_4) _ ?_
    rw [len_of Sz1 Nn1]
    show Steps _ _ _ (s₁.setTop (mkF m 5 #[Rf a1, Rf a2] [(.int (3 : Int32)), (.int (0 : Int32)), (.ref a2), (.ref a1)])) _
    refine XS.aconstNull X0.here hx rfl (hb hby d3_5) ?_
    refine st2.trans ?_
    exact kt
  obtain ⟨fs, hr, hrun, hended, hW, hsame⟩ := X2.leave (v := none) (fun _ => rfl)
  refine ⟨_, _, pre0 _ (sg3 _ (?_)), hrun, hended, _, _, rfl, ?_, ⟨_, rfl⟩, hW, hsame.mono (by decide) (by decide)⟩
  · show Steps _ _ _ (T2.setTop (mkF m 9 #[Rf a1, Rf a2] [])) _
    exact X2.returnOut hx Bd.returns (hb hby d3_9) hr
  · show Q3_30 Z a1 a2 x1 x2 x3 zC ka h0 n0 _ T2.heap _
    exact ⟨ro_2, ko_2, rfl, N2, K2, O2, f2_0, f2_1, f2_2, f2_3, (Nat.le_trans K0.1 f2_4)⟩
def Q6_40 (Z : State) (a1 : Addr) (x1 : Int32) (x2 : Int32) (x3 : Int32) (x4 : Int32) (ka : ClassId) (h0 : Heap) (n0 : Nat) (v : Option Value) (h : Heap) (L : List Loc) : Prop := ∃ ro : Addr, ∃ ko : ClassId, v = some (.ref ro) ∧ Fr n0 L ∧ Keep h0 h [] ∧ Old Z n0 h ∧ Arv Z h ro ko .byte (8 : Int32) (ub4 x1 x2 x3 x4) (.int (0 : Int32)) ∧ n0 ≤ ro ∧ h0.size ≤ ro
theorem rm6_40 (l : Launch) (Z : State) (a0 : Array Value) (hw : ∀ d ∈ tables_1, d.before a0 Z = true) (ws : List Jvm.Cond) (a1 : Addr) (x1 : Int32) (x2 : Int32) (x3 : Int32) (x4 : Int32) (ka : ClassId) (h0 : Heap) (n0 : Nat) (O0 : Old Z n0 h0) (sA : TS_0 Z) (sH : TS_1 Z) (sL : TS_2 Z) (A_a1 : Arv Z h0 a1 ka .char (4 : Int32) [(.int x1), (.int x2), (.int x3), (.int x4)] (.int (0 : Int32))) (h_g : (255 : Int32) < x1) (h_x : CR x1) :
    MetFree l m_14 (head1 (Jvm.Cond.code m_14 jdk_52_method_16_code 6 (some (.array .byte)) :: ws) (rk 3 2 12 40)) (fun a U => a = #[(.ref a1), (.int (0 : Int32)), (.int (4 : Int32))] ∧ Z.Warmed39 U.vm ∧ U.heap = h0) (fun _ _ _ _ _ => True) (fun _ U o U' => ∃ v L, o = .returned v ∧ Q6_40 Z a1 x1 x2 x3 x4 ka h0 n0 v U'.heap L ∧ FrameEnd U o U' L (rk 3 2 12 40).cells (rk 3 2 12 40).slots) := by
  refine MetFree.of_bodySF (plainFor_of_name pn_2) hisR ?_
  intro p e s m args below meth c s₁ Bd hml0 hP hK
  obtain ⟨rfl, hZ, hh⟩ := hP
  have hx := Bd.exec
  have hby := Bd.bytes
  have hml : c.maxLocals = 6 := hml0
  have hown : s.vm.findClass "java/lang/StringUTF16" = some m.cls := findClass_of_methodNamed Bd.named
  have X0 : Stand p l e (rk 3 2 12 40) s m #[(.ref a1), (.int (0 : Int32)), (.int (4 : Int32))] below meth c s₁ [] 0 0 := Stand.of_body Bd
  have e0 : s₁.heap = h0 := by rw [← hh, Bd.state]; rfl
  have N0 := Fr.nil n0
  have pre0 := own_pre (tb := p.tables) (e := e) (bl := below) (s := s₁) (ef_6_10 m a1 (0 : Int32) (4 : Int32))
  have K0 := Keep.refl h0 []
  obtain ⟨T1, h1, k1, X1, e1, E1, A1, st1⟩ := newP X0 hx hZ (tw hw 28 rfl) e0 (g := (mkF m 1 #[Rf a1, It (0 : Int32), It (4 : Int32), .unset, .unset, .unset] [(.int (4 : Int32))])) rfl (hb hby d6_1) rfl (by decide) (cap := 4) (by decide) (by decide) (by decide) (by decide)
  obtain ⟨b1, g1⟩ : ∃ z, z = h0.size := ⟨_, rfl⟩
  rw [← g1] at A1 st1
  have ge_b1 : n0 ≤ b1 := Nat.le_trans (own_osz O0) (Nat.le_of_eq g1.symm)
  have sz_b1 : h0.size ≤ b1 := Nat.le_trans K0.1 (Nat.le_of_eq g1.symm)
  have O2 := O0.ext E1
  have K1 := K0.ext E1
  have V_b1 : Arv Z h1 b1 k1 .byte (4 : Int32) [(.int (0 : Int32)), (.int (0 : Int32)), (.int (0 : Int32)), (.int (0 : Int32))] (.int (0 : Int32)) := (Arv.new A1 (by decide)).pad (pad_rep [] (.int (0 : Int32)) 4)
  obtain ⟨_, _, ⟨T3, L3, k3, n3⟩, -, X3, ⟨Lc3, hQ3, l3, y3, z3⟩, st3⟩ := Jvm.LawKit.callS X1 hx (y := m_13) hown (mvT hZ (tw hw 29 rfl)) (mvT hZ (tw hw 30 rfl)) (mvT hZ (tw hw 26 rfl)) (mvT hZ (tw hw 31 rfl)) (by decide) (backOf (W := 0) (rm7_00 l Z a0 hw [] a1 b1 (4 : Int32) x1 (4 : Int32) (4 : Int32) ([(.int x1), (.int x2), (.int x3), (.int x4)]) ([(.int (0 : Int32)), (.int (0 : Int32)), (.int (0 : Int32)), (.int (0 : Int32))]) ka k1 h1 n0 O2 (by decide) (by decide) (Nat.le_of_ble_eq_true rfl) rfl (by decide) (A_a1.ext E1) V_b1 ge_b1 h_g) hZ (tw hw 31 rfl) (tw hw 26 rfl) (by decide) (by decide)) (g := (mkF m 9 #[Rf a1, It (0 : Int32), It (4 : Int32), Rf b1, .unset, .unset] [(.int (4 : Int32)), (.int (0 : Int32)), (.ref b1), (.int (0 : Int32)), (.ref a1)])) rfl (by rw [hml]; rfl) (argsL := [(.ref a1), (.int (0 : Int32)), (.ref b1), (.int (0 : Int32)), (.int (4 : Int32))]) (rest := []) (lenOf pd_3 rfl) rfl (w0 rfl) (hb hby d6_9) (fun _ _ => ⟨rfl, e1, (by decide : 1 + 0 ≤ _), (by decide : 4 + 0 ≤ _)⟩)
  dsimp only [Pt.U, Pt.locs, Pt.cells, Pt.slots] at X3 l3 y3 z3 st3 hQ3
  subst l3 y3 z3
  obtain ⟨rfl, N3q, K3q, O3⟩ := hQ3
  have N3 := Fr.app N0 N3q
  have K3 := K1.trans K3q (allS (Or.inr sz_b1) all0)
  obtain ⟨_, _, ⟨T4, L4, k4, n4⟩, -, X4, ⟨Lc4, hQ4, l4, y4, z4⟩, st4⟩ := Jvm.LawKit.callS X3 hx (y := m_12) hown (mvT hZ (tw hw 89 rfl)) (mvT hZ (tw hw 90 rfl)) (mvT hZ (tw hw 26 rfl)) (mvT hZ (tw hw 91 rfl)) (by decide) (backOf (W := 0) (rm19_4 l Z a0 hw [] a1 x1 x2 x3 x4 ka T3.heap n0 O3 sA sH sL ((A_a1.ext E1).keep K3q (ninS (Nat.ne_of_lt (Nat.lt_of_lt_of_le A_a1.lt (Nat.le_of_eq g1.symm))) nin0))) hZ (tw hw 91 rfl) (tw hw 26 rfl) (by decide) (by decide)) (g := (mkF m 23 #[Rf a1, It (0 : Int32), It (4 : Int32), Rf b1, It (0 : Int32), .unset] [(.int (4 : Int32)), (.int (0 : Int32)), (.ref a1)])) rfl (by rw [hml]; rfl) (argsL := [(.ref a1), (.int (0 : Int32)), (.int (4 : Int32))]) (rest := []) (lenOf pd_4 rfl) rfl (w0 rfl) (hb hby d6_23) (fun _ _ => ⟨rfl, rfl, (by decide : 1 + 1 ≤ _), (by decide : 4 + 8 ≤ _)⟩)
  dsimp only [Pt.U, Pt.locs, Pt.cells, Pt.slots] at X4 l4 y4 z4 st4 hQ4
  subst l4 y4 z4
  obtain ⟨ro_4, ko_4, rfl, N4q, K4q, O4, f4_0, f4_1, f4_2⟩ := hQ4
  have N4 := Fr.app N3 N4q
  have K4 := K3.trans K4q all0
  obtain ⟨_, _, ⟨T5, L5, k5, n5⟩, -, X5, ⟨Lc5, hQ5, l5, y5, z5⟩, st5⟩ := Jvm.LawKit.callS X4 hx (y := m_9) hown (mvT hZ (tw hw 105 rfl)) (mvT hZ (tw hw 106 rfl)) (mvT hZ (tw hw 26 rfl)) (mvT hZ (tw hw 107 rfl)) (by decide) (backOf (W := 0) (rm23_0 l Z a0 hw [] ro_4 x1 (8 : Int32) (ub4 x1 x2 x3 x4) ko_4 T4.heap n0 O4 sA sH sL (by decide) rfl rfl h_x f4_0) hZ (tw hw 107 rfl) (tw hw 26 rfl) (by decide) (by decide)) (g := (mkF m 32 #[Rf a1, It (0 : Int32), It (4 : Int32), Rf b1, It (0 : Int32), Rf ro_4] [(.int (0 : Int32)), (.ref ro_4)])) rfl (by rw [hml]; rfl) (argsL := [(.ref ro_4), (.int (0 : Int32))]) (rest := []) (lenOf pd_5 rfl) rfl (w0 rfl) (hb hby d6_32) (fun _ _ => ⟨rfl, rfl, (by decide : 2 + 0 ≤ _), (by decide : 12 + 0 ≤ _)⟩)
  dsimp only [Pt.U, Pt.locs, Pt.cells, Pt.slots] at X5 l5 y5 z5 st5 hQ5
  subst l5 y5 z5
  obtain ⟨rfl, N5q, e5⟩ := hQ5
  have N5 := Fr.app N4 N5q
  have sg6 : SG p.tables e below (T5.setTop (mkF m 56 #[Rf a1, It (0 : Int32), It (4 : Int32), Rf b1, It (0 : Int32), Rf ro_4] [(.ref ro_4)])) (s₁.setTop (mkF m 0 #[Rf a1, It (0 : Int32), It (4 : Int32), .unset, .unset, .unset] [])) := by
    intro target kt
    show Steps _ _ _ (s₁.setTop (mkF m 0 #[Rf a1, It (0 : Int32), It (4 : Int32), .unset, .unset, .unset] [])) _
    refine XS.iloadN X0.here hx rfl (hb hby d6_0) rfl ?_
    refine st1 _ ?_
    refine XS.astoreN X1.here hx rfl (hb hby d6_3) rfl rfl (l' := #[Rf a1, It (0 : Int32), It (4 : Int32), Rf b1, .unset, .unset]) rfl ?_
    refine XS.aloadN X1.here hx rfl (hb hby d6_4) rfl rfl ?_
    refine XS.iloadN X1.here hx rfl (hb hby d6_5) rfl ?_
    refine XS.aloadN X1.here hx rfl (hb hby d6_6) rfl rfl ?_
    refine XS.iconst X1.here hx rfl (hb hby d6_7) ?_
    refine XS.iloadN X1.here hx rfl (hb hby d6_8) rfl ?_
    refine st3 _ ?_
    refine XS.istore X3.here hx rfl (hb hby d6_12) rfl (l' := #[Rf a1, It (0 : Int32), It (4 : Int32), Rf b1, It (0 : Int32), .unset]) rfl ?_
    refine XS.iload X3.here hx rfl (hb hby d6_14) rfl ?_
    refine XS.iloadN X3.here hx rfl (hb hby d6_16) rfl ?_
    refine XS.icmpNo X3.here hx rfl (hb hby d6_17) rfl (feq (by decide : ¬ ((0 : Int32) = (4 : Int32)))).1 ?_
    refine XS.aloadN X3.here hx rfl (hb hby d6_20) rfl rfl ?_
    refine XS.iloadN X3.here hx rfl (hb hby d6_21) rfl ?_
    refine XS.iloadN X3.here hx rfl (hb hby d6_22) rfl ?_
    refine st4 _ ?_
    refine XS.astore X4.here hx rfl (hb hby d6_26) rfl rfl (l' := #[Rf a1, It (0 : Int32), It (4 : Int32), Rf b1, It (0 : Int32), Rf ro_4]) rfl ?_
    refine XS.aload X4.here hx rfl (hb hby d6_28) rfl rfl ?_
    refine XS.iload X4.here hx rfl (hb hby d6_30) rfl ?_
    refine st5 _ ?_
    refine XS.sipush X5.here hx rfl (hb hby d6_35) ?_
    refine XS.icmpYes X5.here hx rfl (pc0 := 38) (pc' := 54) rfl (hb hby d6_38) rfl (tlt h_g).2.2.1 (by decide) (by decide) ?_
    refine XS.aload X5.here hx rfl (hb hby d6_54) rfl rfl ?_
    exact kt
  obtain ⟨fs, hr, hrun, hended, hW, hsame⟩ := X5.leave (v := some (.ref ro_4)) (fun h => by rw [Bd.returns] at h; cases h)
  refine ⟨_, _, pre0 _ (sg6 _ (?_)), hrun, hended, _, _, rfl, ?_, ⟨_, rfl⟩, hW, hsame.mono (by decide) (by decide)⟩
  · show Steps _ _ _ (T5.setTop (mkF m 56 #[Rf a1, It (0 : Int32), It (4 : Int32), Rf b1, It (0 : Int32), Rf ro_4] [(.ref ro_4)])) _
    jvm_step X5.here [X5.here.top, hx, (hb hby d6_56), X5.method', Bd.returns, Value.isRef, FieldType.isReference]
    first | (intro acts; rw [hr _ acts rfl rfl rfl]) | rw [hr _ _ rfl rfl rfl]
    exact Steps.refl _
  · show Q6_40 Z a1 x1 x2 x3 x4 ka h0 n0 _ T5.heap _
    rw [e5]
    exact ⟨ro_4, ko_4, rfl, N5, K4, O4, f4_0, f4_1, (Nat.le_trans K3.1 f4_2)⟩
def Q8_48 (Z : State) (a1 : Addr) (vs : List Value) (ka : ClassId) (h0 : Heap) (n0 : Nat) (v : Option Value) (h : Heap) (L : List Loc) : Prop := v = some (.int (1 : Int32)) ∧ Fr n0 L ∧ h = h0
theorem rm8_48 (l : Launch) (Z : State) (a0 : Array Value) (hw : ∀ d ∈ tables_1, d.before a0 Z = true) (ws : List Jvm.Cond) (a1 : Addr) (vs : List Value) (ka : ClassId) (h0 : Heap) (n0 : Nat) (O0 : Old Z n0 h0) (A_a1 : Arv Z h0 a1 ka .byte (8 : Int32) vs (.int (0 : Int32))) :
    MetFree l m_15 (head1 (Jvm.Cond.code m_15 jdk_52_method_15_code 2 (some .byte) :: ws) (rk 0 0 0 0)) (fun a U => a = #[(.ref a1), (.int (4 : Int32))] ∧ Z.Warmed39 U.vm ∧ U.heap = h0) (fun _ _ _ _ _ => True) (fun _ U o U' => ∃ v L, o = .returned v ∧ Q8_48 Z a1 vs ka h0 n0 v U'.heap L ∧ FrameEnd U o U' L (rk 0 0 0 0).cells (rk 0 0 0 0).slots) := by
  refine MetFree.of_bodySF (plainFor_of_name pn_2) hisR ?_
  intro p e s m args below meth c s₁ Bd hml0 hP hK
  obtain ⟨rfl, hZ, hh⟩ := hP
  have hx := Bd.exec
  have hby := Bd.bytes
  have hml : c.maxLocals = 2 := hml0
  have hown : s.vm.findClass "java/lang/StringUTF16" = some m.cls := findClass_of_methodNamed Bd.named
  have X0 : Stand p l e (rk 0 0 0 0) s m #[(.ref a1), (.int (4 : Int32))] below meth c s₁ [] 0 0 := Stand.of_body Bd
  have e0 : s₁.heap = h0 := by rw [← hh, Bd.state]; rfl
  have N0 := Fr.nil n0
  have pre0 := own_pre (tb := p.tables) (e := e) (bl := below) (s := s₁) (ef_23_0 m a1 (4 : Int32))
  obtain ⟨cl1, Ar1, -, Sz1, Nn1, -, -⟩ := id A_a1
  have sg2 : SG p.tables e below (s₁.setTop (mkF m 8 #[Rf a1, It (4 : Int32)] [(.int (((((4 : Int32) - (8 : Int32)).toUInt32 >>> ((31 : Int32) &&& 31).toUInt32).toInt32).toInt8.toInt32))])) (s₁.setTop (mkF m 0 #[Rf a1, It (4 : Int32)] [])) := by
    intro target kt
    show Steps _ _ _ (s₁.setTop (mkF m 0 #[Rf a1, It (4 : Int32)] [])) _
    refine XS.iloadN X0.here hx rfl (hb hby d8_0) rfl ?_
    refine XS.aloadN X0.here hx rfl (hb hby d8_1) rfl rfl ?_
    refine X0.arraylength hx (own_rwh e0 Ar1.1) (State.isArrayOf_alike hZ.alike Ar1.2.1) (g := (mkF m 2 #[Rf a1, It (4 : Int32)] [(.ref a1), (.int (4 : Int32))])) rfl rfl (hb hby d8_2) _ ?_
    rw [len_of Sz1 Nn1]
    show Steps _ _ _ (s₁.setTop (mkF m 3 #[Rf a1, It (4 : Int32)] [(.int (8 : Int32)), (.int (4 : Int32))])) _
    refine XS.isub X0.here hx rfl (hb hby d8_3) rfl ?_
    refine XS.bipush X0.here hx rfl (hb hby d8_4) ?_
    refine XS.iushr X0.here hx rfl (hb hby d8_6) rfl ?_
    refine XS.i2b X0.here hx rfl (hb hby d8_7) rfl ?_
    exact kt
  have hnar : nar .byte (((((4 : Int32) - (8 : Int32)).toUInt32 >>> ((31 : Int32) &&& 31).toUInt32).toInt32).toInt8.toInt32) = (((((4 : Int32) - (8 : Int32)).toUInt32 >>> ((31 : Int32) &&& 31).toUInt32).toInt32).toInt8.toInt32) := (by decide)
  obtain ⟨fs, hr, hrun, hended, hW, hsame⟩ := X0.leave (v := some (.int (((((4 : Int32) - (8 : Int32)).toUInt32 >>> ((31 : Int32) &&& 31).toUInt32).toInt32).toInt8.toInt32))) (fun h => by rw [Bd.returns] at h; cases h)
  rw [← hnar] at hr
  refine ⟨_, _, pre0 _ (sg2 _ (?_)), hrun, hended, _, _, rfl, ?_, ⟨_, rfl⟩, hW, hsame.mono (by decide) (by decide)⟩
  · show Steps _ _ _ (s₁.setTop (mkF m 8 #[Rf a1, It (4 : Int32)] [(.int (((((4 : Int32) - (8 : Int32)).toUInt32 >>> ((31 : Int32) &&& 31).toUInt32).toInt32).toInt8.toInt32))])) _
    exact retN X0 hx (t := .byte) Bd.returns (by simp) (hb hby d8_8) hr
  · show Q8_48 Z a1 vs ka h0 n0 _ s₁.heap _
    rw [e0]
    exact ⟨(by decide), N0, rfl⟩
def Q4_40 (Z : State) (a1 : Addr) (a2 : Addr) (x1 : Int32) (x2 : Int32) (x3 : Int32) (x4 : Int32) (zC : Int32) (ka : ClassId) (h0 : Heap) (n0 : Nat) (v : Option Value) (h : Heap) (L : List Loc) : Prop := ∃ ro : Addr, ∃ ko : ClassId, v = none ∧ Fr n0 L ∧ Keep h0 h [a1] ∧ Old Z n0 h ∧ Fld Z h a1 "java/lang/String" "coder" "B" (.int (1 : Int32)) ∧ Fld Z h a1 "java/lang/String" "value" "[B" (.ref ro) ∧ Arv Z h ro ko .byte (8 : Int32) (ub4 x1 x2 x3 x4) (.int (0 : Int32)) ∧ n0 ≤ ro ∧ h0.size ≤ ro
theorem rm4_40 (l : Launch) (Z : State) (a0 : Array Value) (hw : ∀ d ∈ tables_1, d.before a0 Z = true) (ws : List Jvm.Cond) (a1 : Addr) (a2 : Addr) (x1 : Int32) (x2 : Int32) (x3 : Int32) (x4 : Int32) (zC : Int32) (ka : ClassId) (h0 : Heap) (n0 : Nat) (O0 : Old Z n0 h0) (sC : TS_3 Z zC) (sA : TS_0 Z) (sH : TS_1 Z) (sL : TS_2 Z) (E_a1 : Exa Z h0 a1 "java/lang/String") (F_value_a1 : Fld Z h0 a1 "java/lang/String" "value" "[B" .null) (F_coder_a1 : Fld Z h0 a1 "java/lang/String" "coder" "B" (.int (0 : Int32))) (ge_a1 : n0 ≤ a1) (hCS : ¬ zC = 0) (A_a2 : Arv Z h0 a2 ka .char (4 : Int32) [(.int x1), (.int x2), (.int x3), (.int x4)] (.int (0 : Int32))) (h_g : (255 : Int32) < x1) (h_x : CR x1) :
    MetFree l m_16 (head1 (Jvm.Cond.code m_16 jdk_42_method_149_code 6 none :: ws) (rk 4 2 12 57)) (fun a U => a = #[(.ref a1), (.ref a2), (.int (0 : Int32)), (.int (4 : Int32)), .null] ∧ Z.Warmed39 U.vm ∧ U.heap = h0) (fun _ _ _ _ _ => True) (fun _ U o U' => ∃ v L, o = .returned v ∧ Q4_40 Z a1 a2 x1 x2 x3 x4 zC ka h0 n0 v U'.heap L ∧ FrameEnd U o U' L (rk 4 2 12 57).cells (rk 4 2 12 57).slots) := by
  refine MetFree.of_bodySF (plainFor_of_name pn_3) hisR ?_
  intro p e s m args below meth c s₁ Bd hml0 hP hK
  obtain ⟨rfl, hZ, hh⟩ := hP
  have hx := Bd.exec
  have hby := Bd.bytes
  have hml : c.maxLocals = 6 := hml0
  have hown : s.vm.findClass "java/lang/String" = some m.cls := findClass_of_methodNamed Bd.named
  have hnm := (name_of_methodNamed Bd.named Bd.method).1
  have X0 : Stand p l e (rk 4 2 12 57) s m #[(.ref a1), (.ref a2), (.int (0 : Int32)), (.int (4 : Int32)), .null] below meth c s₁ [] 0 0 := Stand.of_body Bd
  have e0 : s₁.heap = h0 := by rw [← hh, Bd.state]; rfl
  have N0 := Fr.nil n0
  have pre0 := own_pre (tb := p.tables) (e := e) (bl := below) (s := s₁) (ef_4_10 m a1 a2 (0 : Int32) (4 : Int32))
  have K0 := Keep.refl h0 [a1]
  obtain ⟨T1, X1, e1, st1⟩ := initO X0 hx hZ hown (tw hw 20 rfl) (tw hw 21 rfl) (tw hw 22 rfl) e0 (g := (mkF m 1 #[Rf a1, Rf a2, It (0 : Int32), It (4 : Int32), .val .null, .unset] [(.ref a1)])) rfl (by rw [hml]; rfl) rfl (hb hby d4_1) (by decide) (W := 0) (w0 rfl) (by decide)
  obtain ⟨T2, X2, e2, st2⟩ := getS2 X1 hx hZ hown (host := "") (Or.inl (tw hw 23 rfl)) Via.refl e1 (sC.ext O0.2) (g := (mkF m 27 #[Rf a1, Rf a2, It (0 : Int32), It (4 : Int32), .val .null, .unset] [])) rfl (hb hby d4_27)
  obtain ⟨_, _, ⟨T3, L3, k3, n3⟩, -, X3, ⟨Lc3, hQ3, l3, y3, z3⟩, st3⟩ := Jvm.LawKit.callS X2 hx (y := m_14) hown (mvT hZ (tw hw 24 rfl)) (mvT hZ (tw hw 25 rfl)) (mvT hZ (tw hw 26 rfl)) (mvT hZ (tw hw 27 rfl)) (by decide) (backOf (W := 0) (rm6_40 l Z a0 hw [] a2 x1 x2 x3 x4 ka h0 n0 O0 sA sH sL A_a2 h_g h_x) hZ (tw hw 27 rfl) (tw hw 26 rfl) (by decide) (by decide)) (g := (mkF m 36 #[Rf a1, Rf a2, It (0 : Int32), It (4 : Int32), .val .null, .unset] [(.int (4 : Int32)), (.int (0 : Int32)), (.ref a2)])) rfl (by rw [hml]; rfl) (argsL := [(.ref a2), (.int (0 : Int32)), (.int (4 : Int32))]) (rest := []) (lenOf pd_4 rfl) rfl (w0 rfl) (hb hby d4_36) (fun _ _ => ⟨rfl, e2, (by decide : 0 + 2 ≤ _), (by decide : 0 + 12 ≤ _)⟩)
  dsimp only [Pt.U, Pt.locs, Pt.cells, Pt.slots] at X3 l3 y3 z3 st3 hQ3
  subst l3 y3 z3
  obtain ⟨ro_3, ko_3, rfl, N3q, K3q, O3, f3_0, f3_1, f3_2⟩ := hQ3
  have N3 := Fr.app N0 N3q
  have K3 := K0.trans K3q all0
  obtain ⟨_, _, ⟨T4, L4, k4, n4⟩, -, X4, ⟨Lc4, hQ4, l4, y4, z4⟩, st4⟩ := Jvm.LawKit.callS X3 hx (y := m_15) hown (mvT hZ (tw hw 32 rfl)) (mvT hZ (tw hw 33 rfl)) (mvT hZ (tw hw 26 rfl)) (mvT hZ (tw hw 34 rfl)) (by decide) (backOf (W := 1) (rm8_48 l Z a0 hw [] ro_3 (ub4 x1 x2 x3 x4) ko_3 T3.heap n0 O3 f3_0) hZ (tw hw 34 rfl) (tw hw 26 rfl) (by decide) (by decide)) (g := (mkF m 45 #[Rf a1, Rf a2, It (0 : Int32), It (4 : Int32), .val .null, Rf ro_3] [(.int (4 : Int32)), (.ref ro_3), (.ref a1)])) rfl (by rw [hml]; rfl) (argsL := [(.ref ro_3), (.int (4 : Int32))]) (rest := [(.ref a1)]) (lenOf pd_6 rfl) rfl (w0 rfl) (hb hby d4_45) (fun _ _ => ⟨rfl, rfl, (by decide : 2 + 0 ≤ _), (by decide : 12 + 0 ≤ _)⟩)
  dsimp only [Pt.U, Pt.locs, Pt.cells, Pt.slots] at X4 l4 y4 z4 st4 hQ4
  subst l4 y4 z4
  obtain ⟨rfl, N4q, e4⟩ := hQ4
  have N4 := Fr.app N3 N4q
  obtain ⟨T5, h5, X5, e5, W5, st5⟩ := putFN X4 hx hZ hown (tw hw 35 rfl) Via.refl e4 (F_coder_a1.keep K3q nin0) (E_a1.keep K3q) (Or.inr ⟨(tw hw 36 rfl), rfl, hnm⟩) (tw hw 5 rfl) (ty := .byte) (v' := .int ((1 : Int32).toInt8.toInt32)) (by decide) rfl (fits_nar_byte _) (g := (mkF m 48 #[Rf a1, Rf a2, It (0 : Int32), It (4 : Int32), .val .null, Rf ro_3] [(.int (1 : Int32)), (.ref a1)])) rfl rfl (hb hby d4_48)
  have Fw5 := (F_coder_a1.keep K3q nin0).same W5
  have N5 := Fr.snoc X5 N4 ge_a1
  have O6 := O3.wr W5 ge_a1
  have K5 := K3.wr W5 (Or.inl (List.mem_of_getElem? (i := 0) rfl))
  obtain ⟨T7, h7, X7, e7, W7, st7⟩ := putF X5 hx hZ hown (host := "") (Or.inl (tw hw 37 rfl)) Via.refl e5 ((F_value_a1.keep K3q nin0).other W5 (sn (.array .byte) .byte (Or.inr (tw hw 38 rfl)) (Or.inr (tw hw 36 rfl)))) ((E_a1.keep K3q).wr W5) (Or.inr ⟨(tw hw 38 rfl), rfl, hnm⟩) (tw hw 5 rfl) (ty := (.array .byte)) (by decide) rfl rfl (g := (mkF m 54 #[Rf a1, Rf a2, It (0 : Int32), It (4 : Int32), .val .null, Rf ro_3] [(.ref ro_3), (.ref a1)])) rfl rfl (hb hby d4_54)
  have Fw7 := ((F_value_a1.keep K3q nin0).other W5 (sn (.array .byte) .byte (Or.inr (tw hw 38 rfl)) (Or.inr (tw hw 36 rfl)))).same W7
  have N7 := Fr.snoc X7 N5 ge_a1
  have O8 := O6.wr W7 ge_a1
  have K7 := K5.wr W7 (Or.inl (List.mem_of_getElem? (i := 0) rfl))
  have sg9 : SG p.tables e below (T7.setTop (mkF m 57 #[Rf a1, Rf a2, It (0 : Int32), It (4 : Int32), .val .null, Rf ro_3] [])) (s₁.setTop (mkF m 0 #[Rf a1, Rf a2, It (0 : Int32), It (4 : Int32), .val .null, .unset] [])) := by
    intro target kt
    show Steps _ _ _ (s₁.setTop (mkF m 0 #[Rf a1, Rf a2, It (0 : Int32), It (4 : Int32), .val .null, .unset] [])) _
    refine XS.aloadN X0.here hx rfl (hb hby d4_0) rfl rfl ?_
    refine st1 _ ?_
    refine XS.iloadN X1.here hx rfl (hb hby d4_4) rfl ?_
    refine XS.ifYes X1.here hx rfl (pc0 := 5) (pc' := 27) rfl (hb hby d4_5) rfl ((if0 _ _).trans (feq (by decide : ¬ ((4 : Int32) = (0 : Int32)))).2) (by decide) (by decide) ?_
    refine st2 _ ?_
    refine XS.ifNo X2.here hx rfl (hb hby d4_30) rfl ((if0 _ _).trans (feq hCS).1) ?_
    refine XS.aloadN X2.here hx rfl (hb hby d4_33) rfl rfl ?_
    refine XS.iloadN X2.here hx rfl (hb hby d4_34) rfl ?_
    refine XS.iloadN X2.here hx rfl (hb hby d4_35) rfl ?_
    refine st3 _ ?_
    refine XS.astore X3.here hx rfl (hb hby d4_39) rfl rfl (l' := #[Rf a1, Rf a2, It (0 : Int32), It (4 : Int32), .val .null, Rf ro_3]) rfl ?_
    refine XS.aloadN X3.here hx rfl (hb hby d4_41) rfl rfl ?_
    refine XS.aload X3.here hx rfl (hb hby d4_42) rfl rfl ?_
    refine XS.iloadN X3.here hx rfl (hb hby d4_44) rfl ?_
    refine st4 _ ?_
    refine st5 _ ?_
    refine XS.aloadN X5.here hx rfl (hb hby d4_51) rfl rfl ?_
    refine XS.aload X5.here hx rfl (hb hby d4_52) rfl rfl ?_
    refine st7 _ ?_
    exact kt
  obtain ⟨fs, hr, hrun, hended, hW, hsame⟩ := X7.leave (v := none) (fun _ => rfl)
  refine ⟨_, _, pre0 _ (sg9 _ (?_)), hrun, hended, _, _, rfl, ?_, ⟨_, rfl⟩, hW, hsame.mono (by decide) (by decide)⟩
  · show Steps _ _ _ (T7.setTop (mkF m 57 #[Rf a1, Rf a2, It (0 : Int32), It (4 : Int32), .val .null, Rf ro_3] [])) _
    exact X7.returnOut hx Bd.returns (hb hby d4_57) hr
  · show Q4_40 Z a1 a2 x1 x2 x3 x4 zC ka h0 n0 _ T7.heap _
    rw [e7]
    exact ⟨ro_3, ko_3, rfl, N7, K7, O8, (Fw5.other W7 (sn .byte (.array .byte) (Or.inr (tw hw 36 rfl)) (Or.inr (tw hw 38 rfl)))), Fw7, ((f3_0.other W5 (Ne.symm (Nat.ne_of_lt (Nat.lt_of_lt_of_le E_a1.lt f3_2)))).other W7 (Ne.symm (Nat.ne_of_lt (Nat.lt_of_lt_of_le E_a1.lt f3_2)))), f3_1, (Nat.le_trans K0.1 f3_2)⟩
def Q3_40 (Z : State) (a1 : Addr) (a2 : Addr) (x1 : Int32) (x2 : Int32) (x3 : Int32) (x4 : Int32) (zC : Int32) (ka : ClassId) (h0 : Heap) (n0 : Nat) (v : Option Value) (h : Heap) (L : List Loc) : Prop := ∃ ro : Addr, ∃ ko : ClassId, v = none ∧ Fr n0 L ∧ Keep h0 h [a1] ∧ Old Z n0 h ∧ Fld Z h a1 "java/lang/String" "coder" "B" (.int (1 : Int32)) ∧ Fld Z h a1 "java/lang/String" "value" "[B" (.ref ro) ∧ Arv Z h ro ko .byte (8 : Int32) (ub4 x1 x2 x3 x4) (.int (0 : Int32)) ∧ n0 ≤ ro ∧ h0.size ≤ ro
theorem rm3_40 (l : Launch) (Z : State) (a0 : Array Value) (hw : ∀ d ∈ tables_1, d.before a0 Z = true) (ws : List Jvm.Cond) (a1 : Addr) (a2 : Addr) (x1 : Int32) (x2 : Int32) (x3 : Int32) (x4 : Int32) (zC : Int32) (ka : ClassId) (h0 : Heap) (n0 : Nat) (O0 : Old Z n0 h0) (sC : TS_3 Z zC) (sA : TS_0 Z) (sH : TS_1 Z) (sL : TS_2 Z) (E_a1 : Exa Z h0 a1 "java/lang/String") (F_value_a1 : Fld Z h0 a1 "java/lang/String" "value" "[B" .null) (F_coder_a1 : Fld Z h0 a1 "java/lang/String" "coder" "B" (.int (0 : Int32))) (ge_a1 : n0 ≤ a1) (hCS : ¬ zC = 0) (A_a2 : Arv Z h0 a2 ka .char (4 : Int32) [(.int x1), (.int x2), (.int x3), (.int x4)] (.int (0 : Int32))) (h_g : (255 : Int32) < x1) (h_x : CR x1) :
    MetFree l m_17 (head1 (Jvm.Cond.code m_17 jdk_42_method_3_code 2 none :: ws) (rk 5 2 12 74)) (fun a U => a = #[(.ref a1), (.ref a2)] ∧ Z.Warmed39 U.vm ∧ U.heap = h0) (fun _ _ _ _ _ => True) (fun _ U o U' => ∃ v L, o = .returned v ∧ Q3_40 Z a1 a2 x1 x2 x3 x4 zC ka h0 n0 v U'.heap L ∧ FrameEnd U o U' L (rk 5 2 12 74).cells (rk 5 2 12 74).slots) := by
  refine MetFree.of_bodySF (plainFor_of_name pn_3) hisR ?_
  intro p e s m args below meth c s₁ Bd hml0 hP hK
  obtain ⟨rfl, hZ, hh⟩ := hP
  have hx := Bd.exec
  have hby := Bd.bytes
  have hml : c.maxLocals = 2 := hml0
  have hown : s.vm.findClass "java/lang/String" = some m.cls := findClass_of_methodNamed Bd.named
  have X0 : Stand p l e (rk 5 2 12 74) s m #[(.ref a1), (.ref a2)] below meth c s₁ [] 0 0 := Stand.of_body Bd
  have e0 : s₁.heap = h0 := by rw [← hh, Bd.state]; rfl
  have N0 := Fr.nil n0
  have pre0 := own_pre (tb := p.tables) (e := e) (bl := below) (s := s₁) (ef_3_10 m a1 a2)
  have K0 := Keep.refl h0 [a1]
  obtain ⟨cl1, Ar1, -, Sz1, Nn1, -, -⟩ := id A_a2
  obtain ⟨_, _, ⟨T2, L2, k2, n2⟩, -, X2, ⟨Lc2, hQ2, l2, y2, z2⟩, st2⟩ := X0.specialBack hx (y := m_16) rfl hown (mvT hZ (tw hw 16 rfl)) (mvT hZ (tw hw 17 rfl)) (mvT hZ (tw hw 19 rfl)) (by decide) (backOf (W := 0) (rm4_40 l Z a0 hw [] a1 a2 x1 x2 x3 x4 zC ka h0 n0 O0 sC sA sH sL E_a1 F_value_a1 F_coder_a1 ge_a1 hCS A_a2 h_g h_x) hZ (tw hw 19 rfl) (tw hw 6 rfl) (by decide) (by decide)) (g := (mkF m 6 #[Rf a1, Rf a2] [.null, (.int (4 : Int32)), (.int (0 : Int32)), (.ref a2), (.ref a1)])) rfl (by rw [hml]; rfl) (Steps.refl _) (a := a1) (argsL := [(.ref a2), (.int (0 : Int32)), (.int (4 : Int32)), .null]) (rest := []) (lenOf pd_7 rfl) rfl (w0 rfl) (hb hby d3_6) (fun _ _ => ⟨rfl, e0, (by decide : 0 + 2 ≤ _), (by decide : 0 + 12 ≤ _)⟩)
  dsimp only [Pt.U, Pt.locs, Pt.cells, Pt.slots] at X2 l2 y2 z2 st2 hQ2
  subst l2 y2 z2
  obtain ⟨ro_2, ko_2, rfl, N2q, K2q, O2, f2_0, f2_1, f2_2, f2_3, f2_4⟩ := hQ2
  have N2 := Fr.app N0 N2q
  have K2 := K0.trans K2q (allS (Or.inl (List.mem_of_getElem? (i := 0) rfl)) all0)
  have sg3 : SG p.tables e below (T2.setTop (mkF m 9 #[Rf a1, Rf a2] [])) (s₁.setTop (mkF m 0 #[Rf a1, Rf a2] [])) := by
    intro target kt
    show Steps _ _ _ (s₁.setTop (mkF m 0 #[Rf a1, Rf a2] [])) _
    refine XS.aloadN X0.here hx rfl (hb hby d3_0) rfl rfl ?_
    refine XS.aloadN X0.here hx rfl (hb hby d3_1) rfl rfl ?_
    refine XS.iconst X0.here hx rfl (hb hby d3_2) ?_
    refine XS.aloadN X0.here hx rfl (hb hby d3_3) rfl rfl ?_
    refine X0.arraylength hx (own_rwh e0 Ar1.1) (State.isArrayOf_alike hZ.alike Ar1.2.1) (g := (mkF m 4 #[Rf a1, Rf a2] [(.ref a2), (.int (0 : Int32)), (.ref a2), (.ref a1)])) rfl rfl (hb hby d3_4) _ ?_
    rw [len_of Sz1 Nn1]
    show Steps _ _ _ (s₁.setTop (mkF m 5 #[Rf a1, Rf a2] [(.int (4 : Int32)), (.int (0 : Int32)), (.ref a2), (.ref a1)])) _
    refine XS.aconstNull X0.here hx rfl (hb hby d3_5) ?_
    refine st2.trans ?_
    exact kt
  obtain ⟨fs, hr, hrun, hended, hW, hsame⟩ := X2.leave (v := none) (fun _ => rfl)
  refine ⟨_, _, pre0 _ (sg3 _ (?_)), hrun, hended, _, _, rfl, ?_, ⟨_, rfl⟩, hW, hsame.mono (by decide) (by decide)⟩
  · show Steps _ _ _ (T2.setTop (mkF m 9 #[Rf a1, Rf a2] [])) _
    exact X2.returnOut hx Bd.returns (hb hby d3_9) hr
  · show Q3_40 Z a1 a2 x1 x2 x3 x4 zC ka h0 n0 _ T2.heap _
    exact ⟨ro_2, ko_2, rfl, N2, K2, O2, f2_0, f2_1, f2_2, f2_3, (Nat.le_trans K0.1 f2_4)⟩
def Q11_0 (Z : State) (a1 : Addr) (zC : Int32) (h0 : Heap) (n0 : Nat) (v : Option Value) (h : Heap) (L : List Loc) : Prop := v = some (.int (0 : Int32)) ∧ Fr n0 L ∧ h = h0
theorem ef_11_0 (m : MethodId) (x0 : Addr) : entryFrame m #[(.ref x0)] 1 = mkF m 0 #[.val (.ref x0)] [] := by first | (simp [entryFrame, mkF, argsToLocals, Value.category]; done) | rfl
theorem rm11_0 (l : Launch) (Z : State) (a0 : Array Value) (hw : ∀ d ∈ tables_1, d.before a0 Z = true) (ws : List Jvm.Cond) (a1 : Addr) (zC : Int32) (h0 : Heap) (n0 : Nat) (O0 : Old Z n0 h0) (hCS : ¬ zC = 0) (sC : TS_3 Z zC) (F_coder_a1 : Fld Z h0 a1 "java/lang/String" "coder" "B" (.int (0 : Int32))) :
    MetFree l m_18 (head1 (Jvm.Cond.code m_18 jdk_42_method_152_code 1 (some .byte) :: ws) (rk 0 0 0 0)) (fun a U => a = #[(.ref a1)] ∧ Z.Warmed39 U.vm ∧ U.heap = h0) (fun _ _ _ _ _ => True) (fun _ U o U' => ∃ v L, o = .returned v ∧ Q11_0 Z a1 zC h0 n0 v U'.heap L ∧ FrameEnd U o U' L (rk 0 0 0 0).cells (rk 0 0 0 0).slots) := by
  refine MetFree.of_bodySF (plainFor_of_name pn_3) hisR ?_
  intro p e s m args below meth c s₁ Bd hml0 hP hK
  obtain ⟨rfl, hZ, hh⟩ := hP
  have hx := Bd.exec
  have hby := Bd.bytes
  have hml : c.maxLocals = 1 := hml0
  have hown : s.vm.findClass "java/lang/String" = some m.cls := findClass_of_methodNamed Bd.named
  have X0 : Stand p l e (rk 0 0 0 0) s m #[(.ref a1)] below meth c s₁ [] 0 0 := Stand.of_body Bd
  have e0 : s₁.heap = h0 := by rw [← hh, Bd.state]; rfl
  have N0 := Fr.nil n0
  have pre0 := own_pre (tb := p.tables) (e := e) (bl := below) (s := s₁) (ef_11_0 m a1)
  obtain ⟨T1, X1, e1, st1⟩ := getS2 X0 hx hZ hown (host := "") (Or.inl (tw hw 23 rfl)) Via.refl e0 (sC.ext O0.2) (g := (mkF m 0 #[Rf a1] [])) rfl (hb hby d11_0)
  obtain ⟨T2, X2, e2, st2⟩ := getF X1 hx hZ hown (host := "") (Or.inl (tw hw 35 rfl)) Via.refl e1 F_coder_a1 (g := (mkF m 7 #[Rf a1] [(.ref a1)])) rfl rfl (hb hby d11_7)
  have sg3 : SG p.tables e below (T2.setTop (mkF m 14 #[Rf a1] [(.int (0 : Int32))])) (s₁.setTop (mkF m 0 #[Rf a1] [])) := by
    intro target kt
    show Steps _ _ _ (s₁.setTop (mkF m 0 #[Rf a1] [])) _
    refine st1 _ ?_
    refine XS.ifNo X1.here hx rfl (hb hby d11_3) rfl ((if0 _ _).trans (feq hCS).1) ?_
    refine XS.aloadN X1.here hx rfl (hb hby d11_6) rfl rfl ?_
    refine st2 _ ?_
    refine XS.goto X2.here hx rfl (pc0 := 10) (pc' := 14) rfl (hb hby d11_10) (by decide) (by decide) ?_
    exact kt
  obtain ⟨fs, hr, hrun, hended, hW, hsame⟩ := X2.leave (v := some (.int (0 : Int32))) (fun h => by rw [Bd.returns] at h; cases h)
  refine ⟨_, _, pre0 _ (sg3 _ (?_)), hrun, hended, _, _, rfl, ?_, ⟨_, rfl⟩, hW, hsame.mono (by decide) (by decide)⟩
  · show Steps _ _ _ (T2.setTop (mkF m 14 #[Rf a1] [(.int (0 : Int32))])) _
    exact retN X2 hx (t := .byte) Bd.returns (by simp) (hb hby d11_14) hr
  · show Q11_0 Z a1 zC h0 n0 _ T2.heap _
    rw [e2]
    exact ⟨rfl, N0, rfl⟩
def Q13_0 (Z : State) (a1 : Addr) (zC : Int32) (h0 : Heap) (n0 : Nat) (v : Option Value) (h : Heap) (L : List Loc) : Prop := v = some (.int (1 : Int32)) ∧ Fr n0 L ∧ h = h0
theorem rm13_0 (l : Launch) (Z : State) (a0 : Array Value) (hw : ∀ d ∈ tables_1, d.before a0 Z = true) (ws : List Jvm.Cond) (a1 : Addr) (zC : Int32) (h0 : Heap) (n0 : Nat) (O0 : Old Z n0 h0) (hCS : ¬ zC = 0) (sC : TS_3 Z zC) (F_coder_a1 : Fld Z h0 a1 "java/lang/String" "coder" "B" (.int (0 : Int32))) :
    MetFree l m_19 (head1 (Jvm.Cond.code m_19 jdk_42_method_154_code 1 (some .boolean) :: ws) (rk 0 0 0 0)) (fun a U => a = #[(.ref a1)] ∧ Z.Warmed39 U.vm ∧ U.heap = h0) (fun _ _ _ _ _ => True) (fun _ U o U' => ∃ v L, o = .returned v ∧ Q13_0 Z a1 zC h0 n0 v U'.heap L ∧ FrameEnd U o U' L (rk 0 0 0 0).cells (rk 0 0 0 0).slots) := by
  refine MetFree.of_bodySF (plainFor_of_name pn_3) hisR ?_
  intro p e s m args below meth c s₁ Bd hml0 hP hK
  obtain ⟨rfl, hZ, hh⟩ := hP
  have hx := Bd.exec
  have hby := Bd.bytes
  have hml : c.maxLocals = 1 := hml0
  have hown : s.vm.findClass "java/lang/String" = some m.cls := findClass_of_methodNamed Bd.named
  have X0 : Stand p l e (rk 0 0 0 0) s m #[(.ref a1)] below meth c s₁ [] 0 0 := Stand.of_body Bd
  have e0 : s₁.heap = h0 := by rw [← hh, Bd.state]; rfl
  have N0 := Fr.nil n0
  have pre0 := own_pre (tb := p.tables) (e := e) (bl := below) (s := s₁) (ef_11_0 m a1)
  obtain ⟨T1, X1, e1, st1⟩ := getS2 X0 hx hZ hown (host := "") (Or.inl (tw hw 23 rfl)) Via.refl e0 (sC.ext O0.2) (g := (mkF m 0 #[Rf a1] [])) rfl (hb hby d13_0)
  obtain ⟨T2, X2, e2, st2⟩ := getF X1 hx hZ hown (host := "") (Or.inl (tw hw 35 rfl)) Via.refl e1 F_coder_a1 (g := (mkF m 7 #[Rf a1] [(.ref a1)])) rfl rfl (hb hby d13_7)
  have sg3 : SG p.tables e below (T2.setTop (mkF m 18 #[Rf a1] [(.int (1 : Int32))])) (s₁.setTop (mkF m 0 #[Rf a1] [])) := by
    intro target kt
    show Steps _ _ _ (s₁.setTop (mkF m 0 #[Rf a1] [])) _
    refine st1 _ ?_
    refine XS.ifNo X1.here hx rfl (hb hby d13_3) rfl ((if0 _ _).trans (feq hCS).1) ?_
    refine XS.aloadN X1.here hx rfl (hb hby d13_6) rfl rfl ?_
    refine st2 _ ?_
    refine XS.ifNo X2.here hx rfl (hb hby d13_10) rfl ((if0 _ _).trans (teq (by decide : (0 : Int32) = (0 : Int32))).2) ?_
    refine XS.iconst X2.here hx rfl (hb hby d13_13) ?_
    refine XS.goto X2.here hx rfl (pc0 := 14) (pc' := 18) rfl (hb hby d13_14) (by decide) (by decide) ?_
    exact kt
  obtain ⟨fs, hr, hrun, hended, hW, hsame⟩ := X2.leave (v := some (.int (1 : Int32))) (fun h => by rw [Bd.returns] at h; cases h)
  refine ⟨_, _, pre0 _ (sg3 _ (?_)), hrun, hended, _, _, rfl, ?_, ⟨_, rfl⟩, hW, hsame.mono (by decide) (by decide)⟩
  · show Steps _ _ _ (T2.setTop (mkF m 18 #[Rf a1] [(.int (1 : Int32))])) _
    exact retN X2 hx (t := .boolean) Bd.returns (by simp) (hb hby d13_18) hr
  · show Q13_0 Z a1 zC h0 n0 _ T2.heap _
    rw [e2]
    exact ⟨rfl, N0, rfl⟩
def Q11_1 (Z : State) (a1 : Addr) (zC : Int32) (h0 : Heap) (n0 : Nat) (v : Option Value) (h : Heap) (L : List Loc) : Prop := v = some (.int (1 : Int32)) ∧ Fr n0 L ∧ h = h0
theorem rm11_1 (l : Launch) (Z : State) (a0 : Array Value) (hw : ∀ d ∈ tables_1, d.before a0 Z = true) (ws : List Jvm.Cond) (a1 : Addr) (zC : Int32) (h0 : Heap) (n0 : Nat) (O0 : Old Z n0 h0) (hCS : ¬ zC = 0) (sC : TS_3 Z zC) (F_coder_a1 : Fld Z h0 a1 "java/lang/String" "coder" "B" (.int (1 : Int32))) :
    MetFree l m_18 (head1 (Jvm.Cond.code m_18 jdk_42_method_152_code 1 (some .byte) :: ws) (rk 0 0 0 0)) (fun a U => a = #[(.ref a1)] ∧ Z.Warmed39 U.vm ∧ U.heap = h0) (fun _ _ _ _ _ => True) (fun _ U o U' => ∃ v L, o = .returned v ∧ Q11_1 Z a1 zC h0 n0 v U'.heap L ∧ FrameEnd U o U' L (rk 0 0 0 0).cells (rk 0 0 0 0).slots) := by
  refine MetFree.of_bodySF (plainFor_of_name pn_3) hisR ?_
  intro p e s m args below meth c s₁ Bd hml0 hP hK
  obtain ⟨rfl, hZ, hh⟩ := hP
  have hx := Bd.exec
  have hby := Bd.bytes
  have hml : c.maxLocals = 1 := hml0
  have hown : s.vm.findClass "java/lang/String" = some m.cls := findClass_of_methodNamed Bd.named
  have X0 : Stand p l e (rk 0 0 0 0) s m #[(.ref a1)] below meth c s₁ [] 0 0 := Stand.of_body Bd
  have e0 : s₁.heap = h0 := by rw [← hh, Bd.state]; rfl
  have N0 := Fr.nil n0
  have pre0 := own_pre (tb := p.tables) (e := e) (bl := below) (s := s₁) (ef_11_0 m a1)
  obtain ⟨T1, X1, e1, st1⟩ := getS2 X0 hx hZ hown (host := "") (Or.inl (tw hw 23 rfl)) Via.refl e0 (sC.ext O0.2) (g := (mkF m 0 #[Rf a1] [])) rfl (hb hby d11_0)
  obtain ⟨T2, X2, e2, st2⟩ := getF X1 hx hZ hown (host := "") (Or.inl (tw hw 35 rfl)) Via.refl e1 F_coder_a1 (g := (mkF m 7 #[Rf a1] [(.ref a1)])) rfl rfl (hb hby d11_7)
  have sg3 : SG p.tables e below (T2.setTop (mkF m 14 #[Rf a1] [(.int (1 : Int32))])) (s₁.setTop (mkF m 0 #[Rf a1] [])) := by
    intro target kt
    show Steps _ _ _ (s₁.setTop (mkF m 0 #[Rf a1] [])) _
    refine st1 _ ?_
    refine XS.ifNo X1.here hx rfl (hb hby d11_3) rfl ((if0 _ _).trans (feq hCS).1) ?_
    refine XS.aloadN X1.here hx rfl (hb hby d11_6) rfl rfl ?_
    refine st2 _ ?_
    refine XS.goto X2.here hx rfl (pc0 := 10) (pc' := 14) rfl (hb hby d11_10) (by decide) (by decide) ?_
    exact kt
  obtain ⟨fs, hr, hrun, hended, hW, hsame⟩ := X2.leave (v := some (.int (1 : Int32))) (fun h => by rw [Bd.returns] at h; cases h)
  refine ⟨_, _, pre0 _ (sg3 _ (?_)), hrun, hended, _, _, rfl, ?_, ⟨_, rfl⟩, hW, hsame.mono (by decide) (by decide)⟩
  · show Steps _ _ _ (T2.setTop (mkF m 14 #[Rf a1] [(.int (1 : Int32))])) _
    exact retN X2 hx (t := .byte) Bd.returns (by simp) (hb hby d11_14) hr
  · show Q11_1 Z a1 zC h0 n0 _ T2.heap _
    rw [e2]
    exact ⟨rfl, N0, rfl⟩
def Q13_1 (Z : State) (a1 : Addr) (zC : Int32) (h0 : Heap) (n0 : Nat) (v : Option Value) (h : Heap) (L : List Loc) : Prop := v = some (.int (0 : Int32)) ∧ Fr n0 L ∧ h = h0
theorem rm13_1 (l : Launch) (Z : State) (a0 : Array Value) (hw : ∀ d ∈ tables_1, d.before a0 Z = true) (ws : List Jvm.Cond) (a1 : Addr) (zC : Int32) (h0 : Heap) (n0 : Nat) (O0 : Old Z n0 h0) (hCS : ¬ zC = 0) (sC : TS_3 Z zC) (F_coder_a1 : Fld Z h0 a1 "java/lang/String" "coder" "B" (.int (1 : Int32))) :
    MetFree l m_19 (head1 (Jvm.Cond.code m_19 jdk_42_method_154_code 1 (some .boolean) :: ws) (rk 0 0 0 0)) (fun a U => a = #[(.ref a1)] ∧ Z.Warmed39 U.vm ∧ U.heap = h0) (fun _ _ _ _ _ => True) (fun _ U o U' => ∃ v L, o = .returned v ∧ Q13_1 Z a1 zC h0 n0 v U'.heap L ∧ FrameEnd U o U' L (rk 0 0 0 0).cells (rk 0 0 0 0).slots) := by
  refine MetFree.of_bodySF (plainFor_of_name pn_3) hisR ?_
  intro p e s m args below meth c s₁ Bd hml0 hP hK
  obtain ⟨rfl, hZ, hh⟩ := hP
  have hx := Bd.exec
  have hby := Bd.bytes
  have hml : c.maxLocals = 1 := hml0
  have hown : s.vm.findClass "java/lang/String" = some m.cls := findClass_of_methodNamed Bd.named
  have X0 : Stand p l e (rk 0 0 0 0) s m #[(.ref a1)] below meth c s₁ [] 0 0 := Stand.of_body Bd
  have e0 : s₁.heap = h0 := by rw [← hh, Bd.state]; rfl
  have N0 := Fr.nil n0
  have pre0 := own_pre (tb := p.tables) (e := e) (bl := below) (s := s₁) (ef_11_0 m a1)
  obtain ⟨T1, X1, e1, st1⟩ := getS2 X0 hx hZ hown (host := "") (Or.inl (tw hw 23 rfl)) Via.refl e0 (sC.ext O0.2) (g := (mkF m 0 #[Rf a1] [])) rfl (hb hby d13_0)
  obtain ⟨T2, X2, e2, st2⟩ := getF X1 hx hZ hown (host := "") (Or.inl (tw hw 35 rfl)) Via.refl e1 F_coder_a1 (g := (mkF m 7 #[Rf a1] [(.ref a1)])) rfl rfl (hb hby d13_7)
  have sg3 : SG p.tables e below (T2.setTop (mkF m 18 #[Rf a1] [(.int (0 : Int32))])) (s₁.setTop (mkF m 0 #[Rf a1] [])) := by
    intro target kt
    show Steps _ _ _ (s₁.setTop (mkF m 0 #[Rf a1] [])) _
    refine st1 _ ?_
    refine XS.ifNo X1.here hx rfl (hb hby d13_3) rfl ((if0 _ _).trans (feq hCS).1) ?_
    refine XS.aloadN X1.here hx rfl (hb hby d13_6) rfl rfl ?_
    refine st2 _ ?_
    refine XS.ifYes X2.here hx rfl (pc0 := 10) (pc' := 17) rfl (hb hby d13_10) rfl ((if0 _ _).trans (feq (by decide : ¬ ((1 : Int32) = (0 : Int32)))).2) (by decide) (by decide) ?_
    refine XS.iconst X2.here hx rfl (hb hby d13_17) ?_
    exact kt
  obtain ⟨fs, hr, hrun, hended, hW, hsame⟩ := X2.leave (v := some (.int (0 : Int32))) (fun h => by rw [Bd.returns] at h; cases h)
  refine ⟨_, _, pre0 _ (sg3 _ (?_)), hrun, hended, _, _, rfl, ?_, ⟨_, rfl⟩, hW, hsame.mono (by decide) (by decide)⟩
  · show Steps _ _ _ (T2.setTop (mkF m 18 #[Rf a1] [(.int (0 : Int32))])) _
    exact retN X2 hx (t := .boolean) Bd.returns (by simp) (hb hby d13_18) hr
  · show Q13_1 Z a1 zC h0 n0 _ T2.heap _
    rw [e2]
    exact ⟨rfl, N0, rfl⟩
def Q10_0 (Z : State) (a1 : Addr) (zz : Int32) (kk : Int32) (vs : List Value) (tv : Addr) (zC : Int32) (kt : ClassId) (h0 : Heap) (n0 : Nat) (v : Option Value) (h : Heap) (L : List Loc) : Prop := v = some (.int kk) ∧ Fr n0 L ∧ h = h0
theorem rm10_0 (l : Launch) (Z : State) (a0 : Array Value) (hw : ∀ d ∈ tables_1, d.before a0 Z = true) (ws : List Jvm.Cond) (a1 : Addr) (zz : Int32) (kk : Int32) (vs : List Value) (tv : Addr) (zC : Int32) (kt : ClassId) (h0 : Heap) (n0 : Nat) (O0 : Old Z n0 h0) (hCS : ¬ zC = 0) (h_k : (zz >>> ((0 : Int32) &&& 31)) = kk) (sC : TS_3 Z zC) (E_a1 : Exa Z h0 a1 "java/lang/String") (F_coder_a1 : Fld Z h0 a1 "java/lang/String" "coder" "B" (.int (0 : Int32))) (F_value_a1 : Fld Z h0 a1 "java/lang/String" "value" "[B" (.ref tv)) (A_tv : Arv Z h0 tv kt .byte zz vs (.int (0 : Int32))) :
    MetFree l m_20 (head1 (Jvm.Cond.code m_20 jdk_42_method_54_code 1 (some .int) :: ws) (rk 1 0 0 13)) (fun a U => a = #[(.ref a1)] ∧ Z.Warmed39 U.vm ∧ U.heap = h0) (fun _ _ _ _ _ => True) (fun _ U o U' => ∃ v L, o = .returned v ∧ Q10_0 Z a1 zz kk vs tv zC kt h0 n0 v U'.heap L ∧ FrameEnd U o U' L (rk 1 0 0 13).cells (rk 1 0 0 13).slots) := by
  refine MetFree.of_bodySF (plainFor_of_name pn_3) hisR ?_
  intro p e s m args below meth c s₁ Bd hml0 hP hK
  obtain ⟨rfl, hZ, hh⟩ := hP
  have hx := Bd.exec
  have hby := Bd.bytes
  have hml : c.maxLocals = 1 := hml0
  have hown : s.vm.findClass "java/lang/String" = some m.cls := findClass_of_methodNamed Bd.named
  have X0 : Stand p l e (rk 1 0 0 13) s m #[(.ref a1)] below meth c s₁ [] 0 0 := Stand.of_body Bd
  have e0 : s₁.heap = h0 := by rw [← hh, Bd.state]; rfl
  have N0 := Fr.nil n0
  have pre0 := own_pre (tb := p.tables) (e := e) (bl := below) (s := s₁) (ef_11_0 m a1)
  obtain ⟨T1, X1, e1, st1⟩ := getF X0 hx hZ hown (host := "") (Or.inl (tw hw 37 rfl)) Via.refl e0 F_value_a1 (g := (mkF m 1 #[Rf a1] [(.ref a1)])) rfl rfl (hb hby d10_1)
  obtain ⟨cl2, Ar2, -, Sz2, Nn2, -, -⟩ := id A_tv
  obtain ⟨cq3, kq3, q3a, q3b, q3c⟩ := isOf hZ e1 E_a1
  obtain ⟨_, _, ⟨T3, L3, k3, n3⟩, -, X3, ⟨Lc3, hQ3, l3, y3, z3⟩, st3⟩ := X1.virtualBack hx (y := m_18) (z := m_18) hown (mvT hZ (tw hw 51 rfl)) (mvT hZ (tw hw 52 rfl)) (notFace_of_selects (args := #[]) (mvT hZ (tw hw 54 rfl))) (mvT hZ (tw hw 54 rfl)) (mvT hZ (tw hw 53 rfl)) (by decide) (backOf (W := 1) (rm11_0 l Z a0 hw [] a1 zC h0 n0 O0 hCS sC F_coder_a1) hZ (tw hw 55 rfl) (tw hw 6 rfl) (by decide) (by decide)) q3a q3c (g := (mkF m 6 #[Rf a1] [(.ref a1), (.int zz)])) rfl (by rw [hml]; rfl) (Steps.refl _) (argsL := []) (rest := [(.int zz)]) (lenOf pd_8 rfl) rfl (w0 rfl) (hb hby d10_6) (fun _ _ => ⟨rfl, e1, (by decide : 0 + 0 ≤ _), (by decide : 0 + 0 ≤ _)⟩)
  dsimp only [Pt.U, Pt.locs, Pt.cells, Pt.slots] at X3 l3 y3 z3 st3 hQ3
  subst l3 y3 z3
  obtain ⟨rfl, N3q, e3⟩ := hQ3
  have N3 := Fr.app N0 N3q
  have sg4 : SG p.tables e below (T3.setTop (mkF m 10 #[Rf a1] [(.int (zz >>> ((0 : Int32) &&& 31)))])) (s₁.setTop (mkF m 0 #[Rf a1] [])) := by
    intro target kt
    show Steps _ _ _ (s₁.setTop (mkF m 0 #[Rf a1] [])) _
    refine XS.aloadN X0.here hx rfl (hb hby d10_0) rfl rfl ?_
    refine st1 _ ?_
    refine X1.arraylength hx (own_rwh e1 Ar2.1) (State.isArrayOf_alike hZ.alike Ar2.2.1) (g := (mkF m 4 #[Rf a1] [(.ref tv)])) rfl rfl (hb hby d10_4) _ ?_
    rw [len_of Sz2 Nn2]
    show Steps _ _ _ (T1.setTop (mkF m 5 #[Rf a1] [(.int zz)])) _
    refine XS.aloadN X1.here hx rfl (hb hby d10_5) rfl rfl ?_
    refine st3.trans ?_
    refine XS.ishr X3.here hx rfl (hb hby d10_9) rfl ?_
    exact kt
  obtain ⟨fs, hr, hrun, hended, hW, hsame⟩ := X3.leave (v := some (.int (zz >>> ((0 : Int32) &&& 31)))) (fun h => by rw [Bd.returns] at h; cases h)
  refine ⟨_, _, pre0 _ (sg4 _ (?_)), hrun, hended, _, _, rfl, ?_, ⟨_, rfl⟩, hW, hsame.mono (by decide) (by decide)⟩
  · show Steps _ _ _ (T3.setTop (mkF m 10 #[Rf a1] [(.int (zz >>> ((0 : Int32) &&& 31)))])) _
    exact retI X3 hx Bd.returns (hb hby d10_10) hr
  · show Q10_0 Z a1 zz kk vs tv zC kt h0 n0 _ T3.heap _
    rw [e3]
    exact ⟨(by rw [h_k]), N3, rfl⟩
def Q10_1 (Z : State) (a1 : Addr) (zz : Int32) (kk : Int32) (vs : List Value) (tv : Addr) (zC : Int32) (kt : ClassId) (h0 : Heap) (n0 : Nat) (v : Option Value) (h : Heap) (L : List Loc) : Prop := v = some (.int kk) ∧ Fr n0 L ∧ h = h0
theorem rm10_1 (l : Launch) (Z : State) (a0 : Array Value) (hw : ∀ d ∈ tables_1, d.before a0 Z = true) (ws : List Jvm.Cond) (a1 : Addr) (zz : Int32) (kk : Int32) (vs : List Value) (tv : Addr) (zC : Int32) (kt : ClassId) (h0 : Heap) (n0 : Nat) (O0 : Old Z n0 h0) (hCS : ¬ zC = 0) (h_k : (zz >>> ((1 : Int32) &&& 31)) = kk) (sC : TS_3 Z zC) (E_a1 : Exa Z h0 a1 "java/lang/String") (F_coder_a1 : Fld Z h0 a1 "java/lang/String" "coder" "B" (.int (1 : Int32))) (F_value_a1 : Fld Z h0 a1 "java/lang/String" "value" "[B" (.ref tv)) (A_tv : Arv Z h0 tv kt .byte zz vs (.int (0 : Int32))) :
    MetFree l m_20 (head1 (Jvm.Cond.code m_20 jdk_42_method_54_code 1 (some .int) :: ws) (rk 1 0 0 13)) (fun a U => a = #[(.ref a1)] ∧ Z.Warmed39 U.vm ∧ U.heap = h0) (fun _ _ _ _ _ => True) (fun _ U o U' => ∃ v L, o = .returned v ∧ Q10_1 Z a1 zz kk vs tv zC kt h0 n0 v U'.heap L ∧ FrameEnd U o U' L (rk 1 0 0 13).cells (rk 1 0 0 13).slots) := by
  refine MetFree.of_bodySF (plainFor_of_name pn_3) hisR ?_
  intro p e s m args below meth c s₁ Bd hml0 hP hK
  obtain ⟨rfl, hZ, hh⟩ := hP
  have hx := Bd.exec
  have hby := Bd.bytes
  have hml : c.maxLocals = 1 := hml0
  have hown : s.vm.findClass "java/lang/String" = some m.cls := findClass_of_methodNamed Bd.named
  have X0 : Stand p l e (rk 1 0 0 13) s m #[(.ref a1)] below meth c s₁ [] 0 0 := Stand.of_body Bd
  have e0 : s₁.heap = h0 := by rw [← hh, Bd.state]; rfl
  have N0 := Fr.nil n0
  have pre0 := own_pre (tb := p.tables) (e := e) (bl := below) (s := s₁) (ef_11_0 m a1)
  obtain ⟨T1, X1, e1, st1⟩ := getF X0 hx hZ hown (host := "") (Or.inl (tw hw 37 rfl)) Via.refl e0 F_value_a1 (g := (mkF m 1 #[Rf a1] [(.ref a1)])) rfl rfl (hb hby d10_1)
  obtain ⟨cl2, Ar2, -, Sz2, Nn2, -, -⟩ := id A_tv
  obtain ⟨cq3, kq3, q3a, q3b, q3c⟩ := isOf hZ e1 E_a1
  obtain ⟨_, _, ⟨T3, L3, k3, n3⟩, -, X3, ⟨Lc3, hQ3, l3, y3, z3⟩, st3⟩ := X1.virtualBack hx (y := m_18) (z := m_18) hown (mvT hZ (tw hw 51 rfl)) (mvT hZ (tw hw 52 rfl)) (notFace_of_selects (args := #[]) (mvT hZ (tw hw 54 rfl))) (mvT hZ (tw hw 54 rfl)) (mvT hZ (tw hw 53 rfl)) (by decide) (backOf (W := 1) (rm11_1 l Z a0 hw [] a1 zC h0 n0 O0 hCS sC F_coder_a1) hZ (tw hw 55 rfl) (tw hw 6 rfl) (by decide) (by decide)) q3a q3c (g := (mkF m 6 #[Rf a1] [(.ref a1), (.int zz)])) rfl (by rw [hml]; rfl) (Steps.refl _) (argsL := []) (rest := [(.int zz)]) (lenOf pd_8 rfl) rfl (w0 rfl) (hb hby d10_6) (fun _ _ => ⟨rfl, e1, (by decide : 0 + 0 ≤ _), (by decide : 0 + 0 ≤ _)⟩)
  dsimp only [Pt.U, Pt.locs, Pt.cells, Pt.slots] at X3 l3 y3 z3 st3 hQ3
  subst l3 y3 z3
  obtain ⟨rfl, N3q, e3⟩ := hQ3
  have N3 := Fr.app N0 N3q
  have sg4 : SG p.tables e below (T3.setTop (mkF m 10 #[Rf a1] [(.int (zz >>> ((1 : Int32) &&& 31)))])) (s₁.setTop (mkF m 0 #[Rf a1] [])) := by
    intro target kt
    show Steps _ _ _ (s₁.setTop (mkF m 0 #[Rf a1] [])) _
    refine XS.aloadN X0.here hx rfl (hb hby d10_0) rfl rfl ?_
    refine st1 _ ?_
    refine X1.arraylength hx (own_rwh e1 Ar2.1) (State.isArrayOf_alike hZ.alike Ar2.2.1) (g := (mkF m 4 #[Rf a1] [(.ref tv)])) rfl rfl (hb hby d10_4) _ ?_
    rw [len_of Sz2 Nn2]
    show Steps _ _ _ (T1.setTop (mkF m 5 #[Rf a1] [(.int zz)])) _
    refine XS.aloadN X1.here hx rfl (hb hby d10_5) rfl rfl ?_
    refine st3.trans ?_
    refine XS.ishr X3.here hx rfl (hb hby d10_9) rfl ?_
    exact kt
  obtain ⟨fs, hr, hrun, hended, hW, hsame⟩ := X3.leave (v := some (.int (zz >>> ((1 : Int32) &&& 31)))) (fun h => by rw [Bd.returns] at h; cases h)
  refine ⟨_, _, pre0 _ (sg4 _ (?_)), hrun, hended, _, _, rfl, ?_, ⟨_, rfl⟩, hW, hsame.mono (by decide) (by decide)⟩
  · show Steps _ _ _ (T3.setTop (mkF m 10 #[Rf a1] [(.int (zz >>> ((1 : Int32) &&& 31)))])) _
    exact retI X3 hx Bd.returns (hb hby d10_10) hr
  · show Q10_1 Z a1 zz kk vs tv zC kt h0 n0 _ T3.heap _
    rw [e3]
    exact ⟨(by rw [h_k]), N3, rfl⟩
def Q15_n (Z : State) (p1 : Int32) (p2 : Int32) (h0 : Heap) (n0 : Nat) (v : Option Value) (h : Heap) (L : List Loc) : Prop := v = some (.int p1) ∧ Fr n0 L ∧ h = h0
theorem ef_15_n (m : MethodId) (x0 : Int32) (x1 : Int32) : entryFrame m #[(.int x0), (.int x1), .null] 3 = mkF m 0 #[.val (.int x0), .val (.int x1), .val .null] [] := by first | (simp [entryFrame, mkF, argsToLocals, Value.category]; done) | rfl
theorem rm15_n (l : Launch) (Z : State) (a0 : Array Value) (hw : ∀ d ∈ tables_1, d.before a0 Z = true) (ws : List Jvm.Cond) (p1 : Int32) (p2 : Int32) (h0 : Heap) (n0 : Nat) (O0 : Old Z n0 h0) (h1 : ¬ p1 < (0 : Int32)) (h2 : p1 < p2) :
    MetFree l m_21 (head1 (Jvm.Cond.code m_21 jdk_41_method_11_code 3 (some .int) :: ws) (rk 0 0 0 0)) (fun a U => a = #[(.int p1), (.int p2), .null] ∧ Z.Warmed39 U.vm ∧ U.heap = h0) (fun _ _ _ _ _ => True) (fun _ U o U' => ∃ v L, o = .returned v ∧ Q15_n Z p1 p2 h0 n0 v U'.heap L ∧ FrameEnd U o U' L (rk 0 0 0 0).cells (rk 0 0 0 0).slots) := by
  refine MetFree.of_bodySF (plainFor_of_name pn_4) hisR ?_
  intro p e s m args below meth c s₁ Bd hml0 hP hK
  obtain ⟨rfl, hZ, hh⟩ := hP
  have hx := Bd.exec
  have hby := Bd.bytes
  have hml : c.maxLocals = 3 := hml0
  have hown : s.vm.findClass "jdk/internal/util/Preconditions" = some m.cls := findClass_of_methodNamed Bd.named
  have X0 : Stand p l e (rk 0 0 0 0) s m #[(.int p1), (.int p2), .null] below meth c s₁ [] 0 0 := Stand.of_body Bd
  have e0 : s₁.heap = h0 := by rw [← hh, Bd.state]; rfl
  have N0 := Fr.nil n0
  have pre0 := own_pre (tb := p.tables) (e := e) (bl := below) (s := s₁) (ef_15_n m p1 p2)
  have sg1 : SG p.tables e below (s₁.setTop (mkF m 17 #[It p1, It p2, .val .null] [(.int p1)])) (s₁.setTop (mkF m 0 #[It p1, It p2, .val .null] [])) := by
    intro target kt
    show Steps _ _ _ (s₁.setTop (mkF m 0 #[It p1, It p2, .val .null] [])) _
    refine XS.iloadN X0.here hx rfl (hb hby d15_0) rfl ?_
    refine XS.ifNo X0.here hx rfl (hb hby d15_1) rfl ((if0 _ _).trans (flt h1).1) ?_
    refine XS.iloadN X0.here hx rfl (hb hby d15_4) rfl ?_
    refine XS.iloadN X0.here hx rfl (hb hby d15_5) rfl ?_
    refine XS.icmpYes X0.here hx rfl (pc0 := 6) (pc' := 16) rfl (hb hby d15_6) rfl (tlt h2).1 (by decide) (by decide) ?_
    refine XS.iloadN X0.here hx rfl (hb hby d15_16) rfl ?_
    exact kt
  obtain ⟨fs, hr, hrun, hended, hW, hsame⟩ := X0.leave (v := some (.int p1)) (fun h => by rw [Bd.returns] at h; cases h)
  refine ⟨_, _, pre0 _ (sg1 _ (?_)), hrun, hended, _, _, rfl, ?_, ⟨_, rfl⟩, hW, hsame.mono (by decide) (by decide)⟩
  · show Steps _ _ _ (s₁.setTop (mkF m 17 #[It p1, It p2, .val .null] [(.int p1)])) _
    exact retI X0 hx Bd.returns (hb hby d15_17) hr
  · show Q15_n Z p1 p2 h0 n0 _ s₁.heap _
    rw [e0]
    exact ⟨rfl, N0, rfl⟩
def Q14_n (Z : State) (p1 : Int32) (p2 : Int32) (h0 : Heap) (n0 : Nat) (v : Option Value) (h : Heap) (L : List Loc) : Prop := v = none ∧ Fr n0 L ∧ h = h0
theorem rm14_n (l : Launch) (Z : State) (a0 : Array Value) (hw : ∀ d ∈ tables_1, d.before a0 Z = true) (ws : List Jvm.Cond) (p1 : Int32) (p2 : Int32) (h0 : Heap) (n0 : Nat) (O0 : Old Z n0 h0) (h1 : ¬ p1 < (0 : Int32)) (h2 : p1 < p2) (sF : TS_4 Z) :
    MetFree l m_22 (head1 (Jvm.Cond.code m_22 jdk_42_method_155_code 2 none :: ws) (rk 1 0 0 14)) (fun a U => a = #[(.int p1), (.int p2)] ∧ Z.Warmed39 U.vm ∧ U.heap = h0) (fun _ _ _ _ _ => True) (fun _ U o U' => ∃ v L, o = .returned v ∧ Q14_n Z p1 p2 h0 n0 v U'.heap L ∧ FrameEnd U o U' L (rk 1 0 0 14).cells (rk 1 0 0 14).slots) := by
  refine MetFree.of_bodySF (plainFor_of_name pn_3) hisR ?_
  intro p e s m args below meth c s₁ Bd hml0 hP hK
  obtain ⟨rfl, hZ, hh⟩ := hP
  have hx := Bd.exec
  have hby := Bd.bytes
  have hml : c.maxLocals = 2 := hml0
  have hown : s.vm.findClass "java/lang/String" = some m.cls := findClass_of_methodNamed Bd.named
  have X0 : Stand p l e (rk 1 0 0 14) s m #[(.int p1), (.int p2)] below meth c s₁ [] 0 0 := Stand.of_body Bd
  have e0 : s₁.heap = h0 := by rw [← hh, Bd.state]; rfl
  have N0 := Fr.nil n0
  have pre0 := own_pre (tb := p.tables) (e := e) (bl := below) (s := s₁) (ef_1 m p1 p2)
  obtain ⟨T1, X1, e1, st1⟩ := getS2 X0 hx hZ hown (host := "") (Or.inl (tw hw 69 rfl)) Via.refl e0 (sF.ext O0.2) (g := (mkF m 2 #[It p1, It p2] [(.int p2), (.int p1)])) rfl (hb hby d14_2)
  obtain ⟨_, _, ⟨T2, L2, k2, n2⟩, -, X2, ⟨Lc2, hQ2, l2, y2, z2⟩, st2⟩ := Jvm.LawKit.callS X1 hx (y := m_21) hown (mvT hZ (tw hw 71 rfl)) (mvT hZ (tw hw 72 rfl)) (mvT hZ (tw hw 70 rfl)) (mvT hZ (tw hw 73 rfl)) (by decide) (backOf (W := 0) (rm15_n l Z a0 hw [] p1 p2 h0 n0 O0 h1 h2) hZ (tw hw 73 rfl) (tw hw 70 rfl) (by decide) (by decide)) (g := (mkF m 5 #[It p1, It p2] [.null, (.int p2), (.int p1)])) rfl (by rw [hml]; rfl) (argsL := [(.int p1), (.int p2), .null]) (rest := []) (lenOf pd_9 rfl) rfl (w0 rfl) (hb hby d14_5) (fun _ _ => ⟨rfl, e1, (by decide : 0 + 0 ≤ _), (by decide : 0 + 0 ≤ _)⟩)
  dsimp only [Pt.U, Pt.locs, Pt.cells, Pt.slots] at X2 l2 y2 z2 st2 hQ2
  subst l2 y2 z2
  obtain ⟨rfl, N2q, e2⟩ := hQ2
  have N2 := Fr.app N0 N2q
  have sg3 : SG p.tables e below (T2.setTop (mkF m 9 #[It p1, It p2] [])) (s₁.setTop (mkF m 0 #[It p1, It p2] [])) := by
    intro target kt
    show Steps _ _ _ (s₁.setTop (mkF m 0 #[It p1, It p2] [])) _
    refine XS.iloadN X0.here hx rfl (hb hby d14_0) rfl ?_
    refine XS.iloadN X0.here hx rfl (hb hby d14_1) rfl ?_
    refine st1 _ ?_
    refine st2 _ ?_
    refine XS.pop X2.here hx rfl (hb hby d14_8) rfl rfl ?_
    exact kt
  obtain ⟨fs, hr, hrun, hended, hW, hsame⟩ := X2.leave (v := none) (fun _ => rfl)
  refine ⟨_, _, pre0 _ (sg3 _ (?_)), hrun, hended, _, _, rfl, ?_, ⟨_, rfl⟩, hW, hsame.mono (by decide) (by decide)⟩
  · show Steps _ _ _ (T2.setTop (mkF m 9 #[It p1, It p2] [])) _
    exact X2.returnOut hx Bd.returns (hb hby d14_9) hr
  · show Q14_n Z p1 p2 h0 n0 _ T2.heap _
    rw [e2]
    exact ⟨rfl, N2, rfl⟩
def Q15_r (Z : State) (p1 : Int32) (p2 : Int32) (a3 : Addr) (h0 : Heap) (n0 : Nat) (v : Option Value) (h : Heap) (L : List Loc) : Prop := v = some (.int p1) ∧ Fr n0 L ∧ h = h0
theorem ef_15_r (m : MethodId) (x0 : Int32) (x1 : Int32) (x2 : Addr) : entryFrame m #[(.int x0), (.int x1), (.ref x2)] 3 = mkF m 0 #[.val (.int x0), .val (.int x1), .val (.ref x2)] [] := by first | (simp [entryFrame, mkF, argsToLocals, Value.category]; done) | rfl
theorem rm15_r (l : Launch) (Z : State) (a0 : Array Value) (hw : ∀ d ∈ tables_1, d.before a0 Z = true) (ws : List Jvm.Cond) (p1 : Int32) (p2 : Int32) (a3 : Addr) (h0 : Heap) (n0 : Nat) (O0 : Old Z n0 h0) (h1 : ¬ p1 < (0 : Int32)) (h2 : p1 < p2) :
    MetFree l m_21 (head1 (Jvm.Cond.code m_21 jdk_41_method_11_code 3 (some .int) :: ws) (rk 0 0 0 0)) (fun a U => a = #[(.int p1), (.int p2), (.ref a3)] ∧ Z.Warmed39 U.vm ∧ U.heap = h0) (fun _ _ _ _ _ => True) (fun _ U o U' => ∃ v L, o = .returned v ∧ Q15_r Z p1 p2 a3 h0 n0 v U'.heap L ∧ FrameEnd U o U' L (rk 0 0 0 0).cells (rk 0 0 0 0).slots) := by
  refine MetFree.of_bodySF (plainFor_of_name pn_4) hisR ?_
  intro p e s m args below meth c s₁ Bd hml0 hP hK
  obtain ⟨rfl, hZ, hh⟩ := hP
  have hx := Bd.exec
  have hby := Bd.bytes
  have hml : c.maxLocals = 3 := hml0
  have hown : s.vm.findClass "jdk/internal/util/Preconditions" = some m.cls := findClass_of_methodNamed Bd.named
  have X0 : Stand p l e (rk 0 0 0 0) s m #[(.int p1), (.int p2), (.ref a3)] below meth c s₁ [] 0 0 := Stand.of_body Bd
  have e0 : s₁.heap = h0 := by rw [← hh, Bd.state]; rfl
  have N0 := Fr.nil n0
  have pre0 := own_pre (tb := p.tables) (e := e) (bl := below) (s := s₁) (ef_15_r m p1 p2 a3)
  have sg1 : SG p.tables e below (s₁.setTop (mkF m 17 #[It p1, It p2, Rf a3] [(.int p1)])) (s₁.setTop (mkF m 0 #[It p1, It p2, Rf a3] [])) := by
    intro target kt
    show Steps _ _ _ (s₁.setTop (mkF m 0 #[It p1, It p2, Rf a3] [])) _
    refine XS.iloadN X0.here hx rfl (hb hby d15_0) rfl ?_
    refine XS.ifNo X0.here hx rfl (hb hby d15_1) rfl ((if0 _ _).trans (flt h1).1) ?_
    refine XS.iloadN X0.here hx rfl (hb hby d15_4) rfl ?_
    refine XS.iloadN X0.here hx rfl (hb hby d15_5) rfl ?_
    refine XS.icmpYes X0.here hx rfl (pc0 := 6) (pc' := 16) rfl (hb hby d15_6) rfl (tlt h2).1 (by decide) (by decide) ?_
    refine XS.iloadN X0.here hx rfl (hb hby d15_16) rfl ?_
    exact kt
  obtain ⟨fs, hr, hrun, hended, hW, hsame⟩ := X0.leave (v := some (.int p1)) (fun h => by rw [Bd.returns] at h; cases h)
  refine ⟨_, _, pre0 _ (sg1 _ (?_)), hrun, hended, _, _, rfl, ?_, ⟨_, rfl⟩, hW, hsame.mono (by decide) (by decide)⟩
  · show Steps _ _ _ (s₁.setTop (mkF m 17 #[It p1, It p2, Rf a3] [(.int p1)])) _
    exact retI X0 hx Bd.returns (hb hby d15_17) hr
  · show Q15_r Z p1 p2 a3 h0 n0 _ s₁.heap _
    rw [e0]
    exact ⟨rfl, N0, rfl⟩
def Q14_r (Z : State) (p1 : Int32) (p2 : Int32) (wF : Addr) (h0 : Heap) (n0 : Nat) (v : Option Value) (h : Heap) (L : List Loc) : Prop := v = none ∧ Fr n0 L ∧ h = h0
theorem rm14_r (l : Launch) (Z : State) (a0 : Array Value) (hw : ∀ d ∈ tables_1, d.before a0 Z = true) (ws : List Jvm.Cond) (p1 : Int32) (p2 : Int32) (wF : Addr) (h0 : Heap) (n0 : Nat) (O0 : Old Z n0 h0) (h1 : ¬ p1 < (0 : Int32)) (h2 : p1 < p2) (sF : TS_5 Z wF) :
    MetFree l m_22 (head1 (Jvm.Cond.code m_22 jdk_42_method_155_code 2 none :: ws) (rk 1 0 0 14)) (fun a U => a = #[(.int p1), (.int p2)] ∧ Z.Warmed39 U.vm ∧ U.heap = h0) (fun _ _ _ _ _ => True) (fun _ U o U' => ∃ v L, o = .returned v ∧ Q14_r Z p1 p2 wF h0 n0 v U'.heap L ∧ FrameEnd U o U' L (rk 1 0 0 14).cells (rk 1 0 0 14).slots) := by
  refine MetFree.of_bodySF (plainFor_of_name pn_3) hisR ?_
  intro p e s m args below meth c s₁ Bd hml0 hP hK
  obtain ⟨rfl, hZ, hh⟩ := hP
  have hx := Bd.exec
  have hby := Bd.bytes
  have hml : c.maxLocals = 2 := hml0
  have hown : s.vm.findClass "java/lang/String" = some m.cls := findClass_of_methodNamed Bd.named
  have X0 : Stand p l e (rk 1 0 0 14) s m #[(.int p1), (.int p2)] below meth c s₁ [] 0 0 := Stand.of_body Bd
  have e0 : s₁.heap = h0 := by rw [← hh, Bd.state]; rfl
  have N0 := Fr.nil n0
  have pre0 := own_pre (tb := p.tables) (e := e) (bl := below) (s := s₁) (ef_1 m p1 p2)
  obtain ⟨T1, X1, e1, st1⟩ := getS2 X0 hx hZ hown (host := "") (Or.inl (tw hw 69 rfl)) Via.refl e0 (sF.ext O0.2) (g := (mkF m 2 #[It p1, It p2] [(.int p2), (.int p1)])) rfl (hb hby d14_2)
  obtain ⟨_, _, ⟨T2, L2, k2, n2⟩, -, X2, ⟨Lc2, hQ2, l2, y2, z2⟩, st2⟩ := Jvm.LawKit.callS X1 hx (y := m_21) hown (mvT hZ (tw hw 71 rfl)) (mvT hZ (tw hw 72 rfl)) (mvT hZ (tw hw 70 rfl)) (mvT hZ (tw hw 73 rfl)) (by decide) (backOf (W := 0) (rm15_r l Z a0 hw [] p1 p2 wF h0 n0 O0 h1 h2) hZ (tw hw 73 rfl) (tw hw 70 rfl) (by decide) (by decide)) (g := (mkF m 5 #[It p1, It p2] [(.ref wF), (.int p2), (.int p1)])) rfl (by rw [hml]; rfl) (argsL := [(.int p1), (.int p2), (.ref wF)]) (rest := []) (lenOf pd_9 rfl) rfl (w0 rfl) (hb hby d14_5) (fun _ _ => ⟨rfl, e1, (by decide : 0 + 0 ≤ _), (by decide : 0 + 0 ≤ _)⟩)
  dsimp only [Pt.U, Pt.locs, Pt.cells, Pt.slots] at X2 l2 y2 z2 st2 hQ2
  subst l2 y2 z2
  obtain ⟨rfl, N2q, e2⟩ := hQ2
  have N2 := Fr.app N0 N2q
  have sg3 : SG p.tables e below (T2.setTop (mkF m 9 #[It p1, It p2] [])) (s₁.setTop (mkF m 0 #[It p1, It p2] [])) := by
    intro target kt
    show Steps _ _ _ (s₁.setTop (mkF m 0 #[It p1, It p2] [])) _
    refine XS.iloadN X0.here hx rfl (hb hby d14_0) rfl ?_
    refine XS.iloadN X0.here hx rfl (hb hby d14_1) rfl ?_
    refine st1 _ ?_
    refine st2 _ ?_
    refine XS.pop X2.here hx rfl (hb hby d14_8) rfl rfl ?_
    exact kt
  obtain ⟨fs, hr, hrun, hended, hW, hsame⟩ := X2.leave (v := none) (fun _ => rfl)
  refine ⟨_, _, pre0 _ (sg3 _ (?_)), hrun, hended, _, _, rfl, ?_, ⟨_, rfl⟩, hW, hsame.mono (by decide) (by decide)⟩
  · show Steps _ _ _ (T2.setTop (mkF m 9 #[It p1, It p2] [])) _
    exact X2.returnOut hx Bd.returns (hb hby d14_9) hr
  · show Q14_r Z p1 p2 wF h0 n0 _ T2.heap _
    rw [e2]
    exact ⟨rfl, N2, rfl⟩
def Q14 (Z : State) (p1 : Int32) (p2 : Int32) (vFM : Value) (h0 : Heap) (n0 : Nat) (v : Option Value) (h : Heap) (L : List Loc) : Prop := v = none ∧ Fr n0 L ∧ h = h0
theorem rm14 (l : Launch) (Z : State) (a0 : Array Value) (hw : ∀ d ∈ tables_1, d.before a0 Z = true) (ws : List Jvm.Cond) (p1 : Int32) (p2 : Int32) (vFM : Value) (h0 : Heap) (n0 : Nat) (O0 : Old Z n0 h0) (hFM : vFM.isRef = true) (h1 : ¬ p1 < (0 : Int32)) (h2 : p1 < p2) (sF : TS_6 Z vFM) :
    MetFree l m_22 (head1 (Jvm.Cond.code m_22 jdk_42_method_155_code 2 none :: ws) (rk 1 0 0 14)) (fun a U => a = #[(.int p1), (.int p2)] ∧ Z.Warmed39 U.vm ∧ U.heap = h0) (fun _ _ _ _ _ => True) (fun _ U o U' => ∃ v L, o = .returned v ∧ Q14 Z p1 p2 vFM h0 n0 v U'.heap L ∧ FrameEnd U o U' L (rk 1 0 0 14).cells (rk 1 0 0 14).slots) := by
  rcases ref_cases hFM with e | ⟨b, e⟩
  · subst e; exact rm14_n l Z a0 hw ws p1 p2 h0 n0 O0 h1 h2 sF
  · subst e; exact rm14_r l Z a0 hw ws p1 p2 b h0 n0 O0 h1 h2 sF
def Q25_B0 (Z : State) (a1 : Addr) (p3 : Int32) (x1 : Int32) (zz : Int32) (vs : List Value) (ka : ClassId) (h0 : Heap) (n0 : Nat) (v : Option Value) (h : Heap) (L : List Loc) : Prop := v = some (.int x1) ∧ Fr n0 L ∧ h = h0
theorem ef_25_B0 (m : MethodId) (x0 : Addr) (x1 : Int32) (x2 : Int32) (x3 : Int32) : entryFrame m #[(.ref x0), (.int x1), (.int x2), (.int x3)] 6 = mkF m 0 #[.val (.ref x0), .val (.int x1), .val (.int x2), .val (.int x3), .unset, .unset] [] := by first | (simp [entryFrame, mkF, argsToLocals, Value.category]; done) | rfl
theorem rm25_B0 (l : Launch) (Z : State) (a0 : Array Value) (hw : ∀ d ∈ tables_1, d.before a0 Z = true) (ws : List Jvm.Cond) (a1 : Addr) (p3 : Int32) (x1 : Int32) (zz : Int32) (vs : List Value) (ka : ClassId) (h0 : Heap) (n0 : Nat) (O0 : Old Z n0 h0) (sA : TS_0 Z) (sH : TS_1 Z) (sL : TS_2 Z) (h_z : (1 : Int32) < zz) (h_i : (0 : Int32) < p3) (h_b1 : BM x1) (g0 : vs.getD 0 (.int (0 : Int32)) = .int (lbt x1)) (g1 : vs.getD 1 (.int (0 : Int32)) = .int (hbt x1)) (A_a1 : Arv Z h0 a1 ka .byte zz vs (.int (0 : Int32))) :
    MetFree l m_23 (head1 (Jvm.Cond.code m_23 jdk_52_method_7_code 6 (some .int) :: ws) (rk 1 0 0 13)) (fun a U => a = #[(.ref a1), (.int (0 : Int32)), (.int p3), (.int (0 : Int32))] ∧ Z.Warmed39 U.vm ∧ U.heap = h0) (fun _ _ _ _ _ => True) (fun _ U o U' => ∃ v L, o = .returned v ∧ Q25_B0 Z a1 p3 x1 zz vs ka h0 n0 v U'.heap L ∧ FrameEnd U o U' L (rk 1 0 0 13).cells (rk 1 0 0 13).slots) := by
  refine MetFree.of_bodySF (plainFor_of_name pn_2) hisR ?_
  intro p e s m args below meth c s₁ Bd hml0 hP hK
  obtain ⟨rfl, hZ, hh⟩ := hP
  have hx := Bd.exec
  have hby := Bd.bytes
  have hml : c.maxLocals = 6 := hml0
  have hown : s.vm.findClass "java/lang/StringUTF16" = some m.cls := findClass_of_methodNamed Bd.named
  have X0 : Stand p l e (rk 1 0 0 13) s m #[(.ref a1), (.int (0 : Int32)), (.int p3), (.int (0 : Int32))] below meth c s₁ [] 0 0 := Stand.of_body Bd
  have e0 : s₁.heap = h0 := by rw [← hh, Bd.state]; rfl
  have N0 := Fr.nil n0
  have pre0 := own_pre (tb := p.tables) (e := e) (bl := below) (s := s₁) (ef_25_B0 m a1 (0 : Int32) p3 (0 : Int32))
  obtain ⟨T1, X1, e1, st1⟩ := getS2 X0 hx hZ hown (host := "") (Or.inl (tw hw 102 rfl)) Via.refl e0 (sA.ext O0.2) (g := (mkF m 0 #[Rf a1, It (0 : Int32), It p3, It (0 : Int32), .unset, .unset] [])) rfl (hb hby d25_0)
  obtain ⟨_, _, ⟨T2, L2, k2, n2⟩, -, X2, ⟨Lc2, hQ2, l2, y2, z2⟩, st2⟩ := Jvm.LawKit.callS X1 hx (y := m_9) hown (mvT hZ (tw hw 105 rfl)) (mvT hZ (tw hw 106 rfl)) (mvT hZ (tw hw 26 rfl)) (mvT hZ (tw hw 107 rfl)) (by decide) (backOf (W := 0) (rm23_0 l Z a0 hw [] a1 x1 zz vs ka h0 n0 O0 sA sH sL h_z g0 g1 h_b1.1 A_a1) hZ (tw hw 107 rfl) (tw hw 26 rfl) (by decide) (by decide)) (g := (mkF m 30 #[Rf a1, It (0 : Int32), It p3, It (0 : Int32), .unset, .unset] [(.int (0 : Int32)), (.ref a1)])) rfl (by rw [hml]; rfl) (argsL := [(.ref a1), (.int (0 : Int32))]) (rest := []) (lenOf pd_5 rfl) rfl (w0 rfl) (hb hby d25_30) (fun _ _ => ⟨rfl, e1, (by decide : 0 + 0 ≤ _), (by decide : 0 + 0 ≤ _)⟩)
  dsimp only [Pt.U, Pt.locs, Pt.cells, Pt.slots] at X2 l2 y2 z2 st2 hQ2
  subst l2 y2 z2
  obtain ⟨rfl, N2q, e2⟩ := hQ2
  have N2 := Fr.app N0 N2q
  obtain ⟨_, _, ⟨T3, L3, k3, n3⟩, -, X3, ⟨Lc3, hQ3, l3, y3, z3⟩, st3⟩ := Jvm.LawKit.callS X2 hx (y := m_5) hown (mvT hZ (tw hw 114 rfl)) (mvT hZ (tw hw 115 rfl)) (mvT hZ (tw hw 77 rfl)) (mvT hZ (tw hw 116 rfl)) (by decide) (backOf (W := 0) (rm26 l Z a0 hw [] x1 h0 n0 O0 ) hZ (tw hw 116 rfl) (tw hw 77 rfl) (by decide) (by decide)) (g := (mkF m 37 #[Rf a1, It (0 : Int32), It p3, It (0 : Int32), It x1, .unset] [(.int x1)])) rfl (by rw [hml]; rfl) (argsL := [(.int x1)]) (rest := []) (lenOf pd_10 rfl) rfl (w0 rfl) (hb hby d25_37) (fun _ _ => ⟨rfl, e2, (by decide : 0 + 0 ≤ _), (by decide : 0 + 0 ≤ _)⟩)
  dsimp only [Pt.U, Pt.locs, Pt.cells, Pt.slots] at X3 l3 y3 z3 st3 hQ3
  subst l3 y3 z3
  obtain ⟨rfl, N3q, e3⟩ := hQ3
  have N3 := Fr.app N2 N3q
  obtain ⟨r3, hr3⟩ : ∃ z, z = (if x1 < (55296 : Int32) then (0 : Int32) else (if x1 < (56320 : Int32) then (1 : Int32) else (0 : Int32))) := ⟨_, rfl⟩
  rw [← hr3] at st3
  have sg4 : SG p.tables e below (T3.setTop (mkF m 85 #[Rf a1, It (0 : Int32), It p3, It (0 : Int32), It x1, .unset] [(.int x1)])) (s₁.setTop (mkF m 0 #[Rf a1, It (0 : Int32), It p3, It (0 : Int32), .unset, .unset] [])) := by
    intro target kt
    show Steps _ _ _ (s₁.setTop (mkF m 0 #[Rf a1, It (0 : Int32), It p3, It (0 : Int32), .unset, .unset] [])) _
    refine st1 _ ?_
    refine XS.ifYes X1.here hx rfl (pc0 := 3) (pc' := 19) rfl (hb hby d25_3) rfl ((if0 _ _).trans (feq (by decide : ¬ ((1 : Int32) = (0 : Int32)))).2) (by decide) (by decide) ?_
    refine XS.iloadN X1.here hx rfl (hb hby d25_19) rfl ?_
    refine XS.ifYes X1.here hx rfl (pc0 := 20) (pc' := 28) rfl (hb hby d25_20) rfl ((if0 _ _).trans (teq (by decide : (0 : Int32) = (0 : Int32))).1) (by decide) (by decide) ?_
    refine XS.aloadN X1.here hx rfl (hb hby d25_28) rfl rfl ?_
    refine XS.iloadN X1.here hx rfl (hb hby d25_29) rfl ?_
    refine st2 _ ?_
    refine XS.istore X2.here hx rfl (hb hby d25_33) rfl (l' := #[Rf a1, It (0 : Int32), It p3, It (0 : Int32), It x1, .unset]) rfl ?_
    refine XS.iload X2.here hx rfl (hb hby d25_35) rfl ?_
    refine st3 _ ?_
    refine XS.ifYes X3.here hx rfl (pc0 := 40) (pc' := 83) rfl (hb hby d25_40) rfl ((if0 _ _).trans (teq (own_nhs h_b1 hr3)).1) (by decide) (by decide) ?_
    refine XS.iload X3.here hx rfl (hb hby d25_83) rfl ?_
    exact kt
  obtain ⟨fs, hr, hrun, hended, hW, hsame⟩ := X3.leave (v := some (.int x1)) (fun h => by rw [Bd.returns] at h; cases h)
  refine ⟨_, _, pre0 _ (sg4 _ (?_)), hrun, hended, _, _, rfl, ?_, ⟨_, rfl⟩, hW, hsame.mono (by decide) (by decide)⟩
  · show Steps _ _ _ (T3.setTop (mkF m 85 #[Rf a1, It (0 : Int32), It p3, It (0 : Int32), It x1, .unset] [(.int x1)])) _
    exact retI X3 hx Bd.returns (hb hby d25_85) hr
  · show Q25_B0 Z a1 p3 x1 zz vs ka h0 n0 _ T3.heap _
    rw [e3]
    exact ⟨rfl, N3, rfl⟩
def Q24_B0 (Z : State) (a1 : Addr) (p3 : Int32) (x1 : Int32) (zz : Int32) (vs : List Value) (ka : ClassId) (h0 : Heap) (n0 : Nat) (v : Option Value) (h : Heap) (L : List Loc) : Prop := v = some (.int x1) ∧ Fr n0 L ∧ h = h0
theorem rm24_B0 (l : Launch) (Z : State) (a0 : Array Value) (hw : ∀ d ∈ tables_1, d.before a0 Z = true) (ws : List Jvm.Cond) (a1 : Addr) (p3 : Int32) (x1 : Int32) (zz : Int32) (vs : List Value) (ka : ClassId) (h0 : Heap) (n0 : Nat) (O0 : Old Z n0 h0) (sA : TS_0 Z) (sH : TS_1 Z) (sL : TS_2 Z) (h_z : (1 : Int32) < zz) (h_i : (0 : Int32) < p3) (h_b1 : BM x1) (g0 : vs.getD 0 (.int (0 : Int32)) = .int (lbt x1)) (g1 : vs.getD 1 (.int (0 : Int32)) = .int (hbt x1)) (A_a1 : Arv Z h0 a1 ka .byte zz vs (.int (0 : Int32))) :
    MetFree l m_24 (head1 (Jvm.Cond.code m_24 jdk_52_method_8_code 3 (some .int) :: ws) (rk 2 0 0 30)) (fun a U => a = #[(.ref a1), (.int (0 : Int32)), (.int p3)] ∧ Z.Warmed39 U.vm ∧ U.heap = h0) (fun _ _ _ _ _ => True) (fun _ U o U' => ∃ v L, o = .returned v ∧ Q24_B0 Z a1 p3 x1 zz vs ka h0 n0 v U'.heap L ∧ FrameEnd U o U' L (rk 2 0 0 30).cells (rk 2 0 0 30).slots) := by
  refine MetFree.of_bodySF (plainFor_of_name pn_2) hisR ?_
  intro p e s m args below meth c s₁ Bd hml0 hP hK
  obtain ⟨rfl, hZ, hh⟩ := hP
  have hx := Bd.exec
  have hby := Bd.bytes
  have hml : c.maxLocals = 3 := hml0
  have hown : s.vm.findClass "java/lang/StringUTF16" = some m.cls := findClass_of_methodNamed Bd.named
  have X0 : Stand p l e (rk 2 0 0 30) s m #[(.ref a1), (.int (0 : Int32)), (.int p3)] below meth c s₁ [] 0 0 := Stand.of_body Bd
  have e0 : s₁.heap = h0 := by rw [← hh, Bd.state]; rfl
  have N0 := Fr.nil n0
  have pre0 := own_pre (tb := p.tables) (e := e) (bl := below) (s := s₁) (ef_22_0 m a1 (0 : Int32) p3)
  obtain ⟨_, _, ⟨T1, L1, k1, n1⟩, -, X1, ⟨Lc1, hQ1, l1, y1, z1⟩, st1⟩ := Jvm.LawKit.callS X0 hx (y := m_23) hown (mvT hZ (tw hw 111 rfl)) (mvT hZ (tw hw 112 rfl)) (mvT hZ (tw hw 26 rfl)) (mvT hZ (tw hw 113 rfl)) (by decide) (backOf (W := 0) (rm25_B0 l Z a0 hw [] a1 p3 x1 zz vs ka h0 n0 O0 sA sH sL h_z h_i h_b1 g0 g1 A_a1) hZ (tw hw 113 rfl) (tw hw 26 rfl) (by decide) (by decide)) (g := (mkF m 4 #[Rf a1, It (0 : Int32), It p3] [(.int (0 : Int32)), (.int p3), (.int (0 : Int32)), (.ref a1)])) rfl (by rw [hml]; rfl) (argsL := [(.ref a1), (.int (0 : Int32)), (.int p3), (.int (0 : Int32))]) (rest := []) (lenOf pd_11 rfl) rfl (w0 rfl) (hb hby d24_4) (fun _ _ => ⟨rfl, e0, (by decide : 0 + 0 ≤ _), (by decide : 0 + 0 ≤ _)⟩)
  dsimp only [Pt.U, Pt.locs, Pt.cells, Pt.slots] at X1 l1 y1 z1 st1 hQ1
  subst l1 y1 z1
  obtain ⟨rfl, N1q, e1⟩ := hQ1
  have N1 := Fr.app N0 N1q
  have sg2 : SG p.tables e below (T1.setTop (mkF m 7 #[Rf a1, It (0 : Int32), It p3] [(.int x1)])) (s₁.setTop (mkF m 0 #[Rf a1, It (0 : Int32), It p3] [])) := by
    intro target kt
    show Steps _ _ _ (s₁.setTop (mkF m 0 #[Rf a1, It (0 : Int32), It p3] [])) _
    refine XS.aloadN X0.here hx rfl (hb hby d24_0) rfl rfl ?_
    refine XS.iloadN X0.here hx rfl (hb hby d24_1) rfl ?_
    refine XS.iloadN X0.here hx rfl (hb hby d24_2) rfl ?_
    refine XS.iconst X0.here hx rfl (hb hby d24_3) ?_
    refine st1 _ ?_
    exact kt
  obtain ⟨fs, hr, hrun, hended, hW, hsame⟩ := X1.leave (v := some (.int x1)) (fun h => by rw [Bd.returns] at h; cases h)
  refine ⟨_, _, pre0 _ (sg2 _ (?_)), hrun, hended, _, _, rfl, ?_, ⟨_, rfl⟩, hW, hsame.mono (by decide) (by decide)⟩
  · show Steps _ _ _ (T1.setTop (mkF m 7 #[Rf a1, It (0 : Int32), It p3] [(.int x1)])) _
    exact retI X1 hx Bd.returns (hb hby d24_7) hr
  · show Q24_B0 Z a1 p3 x1 zz vs ka h0 n0 _ T1.heap _
    rw [e1]
    exact ⟨rfl, N1, rfl⟩
def Q12_B0 (Z : State) (a1 : Addr) (x1 : Int32) (zz : Int32) (vs : List Value) (kk : Int32) (tv : Addr) (vFM : Value) (zC : Int32) (kt : ClassId) (h0 : Heap) (n0 : Nat) (v : Option Value) (h : Heap) (L : List Loc) : Prop := v = some (.int x1) ∧ Fr n0 L ∧ h = h0
theorem ef_12_B0 (m : MethodId) (x0 : Addr) (x1 : Int32) : entryFrame m #[(.ref x0), (.int x1)] 3 = mkF m 0 #[.val (.ref x0), .val (.int x1), .unset] [] := by first | (simp [entryFrame, mkF, argsToLocals, Value.category]; done) | rfl
theorem rm12_B0 (l : Launch) (Z : State) (a0 : Array Value) (hw : ∀ d ∈ tables_1, d.before a0 Z = true) (ws : List Jvm.Cond) (a1 : Addr) (x1 : Int32) (zz : Int32) (vs : List Value) (kk : Int32) (tv : Addr) (vFM : Value) (zC : Int32) (kt : ClassId) (h0 : Heap) (n0 : Nat) (O0 : Old Z n0 h0) (hCS : ¬ zC = 0) (hFM : vFM.isRef = true) (h_z : (1 : Int32) < zz) (h_k : (zz >>> ((1 : Int32) &&& 31)) = kk) (h_i : (0 : Int32) < kk) (sC : TS_3 Z zC) (sA : TS_0 Z) (sH : TS_1 Z) (sL : TS_2 Z) (sF : TS_6 Z vFM) (E_a1 : Exa Z h0 a1 "java/lang/String") (F_coder_a1 : Fld Z h0 a1 "java/lang/String" "coder" "B" (.int (1 : Int32))) (F_value_a1 : Fld Z h0 a1 "java/lang/String" "value" "[B" (.ref tv)) (h_b1 : BM x1) (g0 : vs.getD 0 (.int (0 : Int32)) = .int (lbt x1)) (g1 : vs.getD 1 (.int (0 : Int32)) = .int (hbt x1)) (A_tv : Arv Z h0 tv kt .byte zz vs (.int (0 : Int32))) :
    MetFree l m_25 (head1 (Jvm.Cond.code m_25 jdk_42_method_57_code 3 (some .int) :: ws) (rk 3 0 0 44)) (fun a U => a = #[(.ref a1), (.int (0 : Int32))] ∧ Z.Warmed39 U.vm ∧ U.heap = h0) (fun _ _ _ _ _ => True) (fun _ U o U' => ∃ v L, o = .returned v ∧ Q12_B0 Z a1 x1 zz vs kk tv vFM zC kt h0 n0 v U'.heap L ∧ FrameEnd U o U' L (rk 3 0 0 44).cells (rk 3 0 0 44).slots) := by
  refine MetFree.of_bodySF (plainFor_of_name pn_3) hisR ?_
  intro p e s m args below meth c s₁ Bd hml0 hP hK
  obtain ⟨rfl, hZ, hh⟩ := hP
  have hx := Bd.exec
  have hby := Bd.bytes
  have hml : c.maxLocals = 3 := hml0
  have hown : s.vm.findClass "java/lang/String" = some m.cls := findClass_of_methodNamed Bd.named
  have X0 : Stand p l e (rk 3 0 0 44) s m #[(.ref a1), (.int (0 : Int32))] below meth c s₁ [] 0 0 := Stand.of_body Bd
  have e0 : s₁.heap = h0 := by rw [← hh, Bd.state]; rfl
  have N0 := Fr.nil n0
  have pre0 := own_pre (tb := p.tables) (e := e) (bl := below) (s := s₁) (ef_12_B0 m a1 (0 : Int32))
  obtain ⟨cq1, kq1, q1a, q1b, q1c⟩ := isOf hZ e0 E_a1
  obtain ⟨_, _, ⟨T1, L1, k1, n1⟩, -, X1, ⟨Lc1, hQ1, l1, y1, z1⟩, st1⟩ := X0.virtualBack hx (y := m_19) (z := m_19) hown (mvT hZ (tw hw 61 rfl)) (mvT hZ (tw hw 62 rfl)) (notFace_of_selects (args := #[]) (mvT hZ (tw hw 64 rfl))) (mvT hZ (tw hw 64 rfl)) (mvT hZ (tw hw 63 rfl)) (by decide) (backOf (W := 0) (rm13_1 l Z a0 hw [] a1 zC h0 n0 O0 hCS sC F_coder_a1) hZ (tw hw 65 rfl) (tw hw 6 rfl) (by decide) (by decide)) q1a q1c (g := (mkF m 1 #[Rf a1, It (0 : Int32), .unset] [(.ref a1)])) rfl (by rw [hml]; rfl) (Steps.refl _) (argsL := []) (rest := []) (lenOf pd_12 rfl) rfl (w0 rfl) (hb hby d12_1) (fun _ _ => ⟨rfl, e0, (by decide : 0 + 0 ≤ _), (by decide : 0 + 0 ≤ _)⟩)
  dsimp only [Pt.U, Pt.locs, Pt.cells, Pt.slots] at X1 l1 y1 z1 st1 hQ1
  subst l1 y1 z1
  obtain ⟨rfl, N1q, e1⟩ := hQ1
  have N1 := Fr.app N0 N1q
  obtain ⟨T2, X2, e2, st2⟩ := getF X1 hx hZ hown (host := "") (Or.inl (tw hw 37 rfl)) Via.refl e1 F_value_a1 (g := (mkF m 28 #[Rf a1, It (0 : Int32), .unset] [(.ref a1)])) rfl rfl (hb hby d12_28)
  obtain ⟨cl3, Ar3, -, Sz3, Nn3, -, -⟩ := id A_tv
  obtain ⟨u4, hu4⟩ : ∃ z, z = (zz >>> ((1 : Int32) &&& 31)) := ⟨_, rfl⟩
  have sg5 : SG p.tables e below (T2.setTop (mkF m 34 #[Rf a1, It (0 : Int32), .unset] [(.int u4)])) (s₁.setTop (mkF m 0 #[Rf a1, It (0 : Int32), .unset] [])) := by
    intro target kt
    subst hu4
    show Steps _ _ _ (s₁.setTop (mkF m 0 #[Rf a1, It (0 : Int32), .unset] [])) _
    refine XS.aloadN X0.here hx rfl (hb hby d12_0) rfl rfl ?_
    refine st1.trans ?_
    refine XS.ifYes X1.here hx rfl (pc0 := 4) (pc' := 27) rfl (hb hby d12_4) rfl ((if0 _ _).trans (teq (by decide : (0 : Int32) = (0 : Int32))).1) (by decide) (by decide) ?_
    refine XS.aloadN X1.here hx rfl (hb hby d12_27) rfl rfl ?_
    refine st2 _ ?_
    refine X2.arraylength hx (own_rwh e2 Ar3.1) (State.isArrayOf_alike hZ.alike Ar3.2.1) (g := (mkF m 31 #[Rf a1, It (0 : Int32), .unset] [(.ref tv)])) rfl rfl (hb hby d12_31) _ ?_
    rw [len_of Sz3 Nn3]
    show Steps _ _ _ (T2.setTop (mkF m 32 #[Rf a1, It (0 : Int32), .unset] [(.int zz)])) _
    refine XS.iconst X2.here hx rfl (hb hby d12_32) ?_
    refine XS.ishr X2.here hx rfl (hb hby d12_33) rfl ?_
    exact kt
  have hkk : u4 = kk := hu4.trans h_k
  have hik : (0 : Int32) < u4 := by rw [hkk]; exact h_i
  obtain ⟨_, _, ⟨T6, L6, k6, n6⟩, -, X6, ⟨Lc6, hQ6, l6, y6, z6⟩, st6⟩ := Jvm.LawKit.callS X2 hx (y := m_22) hown (mvT hZ (tw hw 66 rfl)) (mvT hZ (tw hw 67 rfl)) (mvT hZ (tw hw 6 rfl)) (mvT hZ (tw hw 68 rfl)) (by decide) (backOf (W := 0) (rm14 l Z a0 hw [] (0 : Int32) u4 vFM h0 n0 O0 hFM (by decide) (own_ltz hik (by decide)) sF) hZ (tw hw 68 rfl) (tw hw 6 rfl) (by decide) (by decide)) (g := (mkF m 37 #[Rf a1, It (0 : Int32), It u4] [(.int u4), (.int (0 : Int32))])) rfl (by rw [hml]; rfl) (argsL := [(.int (0 : Int32)), (.int u4)]) (rest := []) (lenOf pd_13 rfl) rfl (w0 rfl) (hb hby d12_37) (fun _ _ => ⟨rfl, e2, (by decide : 0 + 0 ≤ _), (by decide : 0 + 0 ≤ _)⟩)
  dsimp only [Pt.U, Pt.locs, Pt.cells, Pt.slots] at X6 l6 y6 z6 st6 hQ6
  subst l6 y6 z6
  obtain ⟨rfl, N6q, e6⟩ := hQ6
  have N6 := Fr.app N1 N6q
  obtain ⟨T7, X7, e7, st7⟩ := getF X6 hx hZ hown (host := "") (Or.inl (tw hw 37 rfl)) Via.refl e6 F_value_a1 (g := (mkF m 41 #[Rf a1, It (0 : Int32), It u4] [(.ref a1)])) rfl rfl (hb hby d12_41)
  obtain ⟨_, _, ⟨T8, L8, k8, n8⟩, -, X8, ⟨Lc8, hQ8, l8, y8, z8⟩, st8⟩ := Jvm.LawKit.callS X7 hx (y := m_24) hown (mvT hZ (tw hw 108 rfl)) (mvT hZ (tw hw 109 rfl)) (mvT hZ (tw hw 26 rfl)) (mvT hZ (tw hw 110 rfl)) (by decide) (backOf (W := 0) (rm24_B0 l Z a0 hw [] tv u4 x1 zz vs kt h0 n0 O0 sA sH sL h_z hik h_b1 g0 g1 A_tv) hZ (tw hw 110 rfl) (tw hw 26 rfl) (by decide) (by decide)) (g := (mkF m 46 #[Rf a1, It (0 : Int32), It u4] [(.int u4), (.int (0 : Int32)), (.ref tv)])) rfl (by rw [hml]; rfl) (argsL := [(.ref tv), (.int (0 : Int32)), (.int u4)]) (rest := []) (lenOf pd_14 rfl) rfl (w0 rfl) (hb hby d12_46) (fun _ _ => ⟨rfl, e7, (by decide : 0 + 0 ≤ _), (by decide : 0 + 0 ≤ _)⟩)
  dsimp only [Pt.U, Pt.locs, Pt.cells, Pt.slots] at X8 l8 y8 z8 st8 hQ8
  subst l8 y8 z8
  obtain ⟨rfl, N8q, e8⟩ := hQ8
  have N8 := Fr.app N6 N8q
  have sg9 : SG p.tables e below (T8.setTop (mkF m 49 #[Rf a1, It (0 : Int32), It u4] [(.int x1)])) (T2.setTop (mkF m 34 #[Rf a1, It (0 : Int32), .unset] [(.int u4)])) := by
    intro target kt
    show Steps _ _ _ (T2.setTop (mkF m 34 #[Rf a1, It (0 : Int32), .unset] [(.int u4)])) _
    refine XS.istoreN X2.here hx rfl (hb hby d12_34) rfl (l' := #[Rf a1, It (0 : Int32), It u4]) rfl ?_
    refine XS.iloadN X2.here hx rfl (hb hby d12_35) rfl ?_
    refine XS.iloadN X2.here hx rfl (hb hby d12_36) rfl ?_
    refine st6 _ ?_
    refine XS.aloadN X6.here hx rfl (hb hby d12_40) rfl rfl ?_
    refine st7 _ ?_
    refine XS.iloadN X7.here hx rfl (hb hby d12_44) rfl ?_
    refine XS.iloadN X7.here hx rfl (hb hby d12_45) rfl ?_
    refine st8 _ ?_
    exact kt
  obtain ⟨fs, hr, hrun, hended, hW, hsame⟩ := X8.leave (v := some (.int x1)) (fun h => by rw [Bd.returns] at h; cases h)
  refine ⟨_, _, pre0 _ (sg5 _ (sg9 _ (?_))), hrun, hended, _, _, rfl, ?_, ⟨_, rfl⟩, hW, hsame.mono (by decide) (by decide)⟩
  · show Steps _ _ _ (T8.setTop (mkF m 49 #[Rf a1, It (0 : Int32), It u4] [(.int x1)])) _
    exact retI X8 hx Bd.returns (hb hby d12_49) hr
  · show Q12_B0 Z a1 x1 zz vs kk tv vFM zC kt h0 n0 _ T8.heap _
    rw [e8]
    exact ⟨rfl, N8, rfl⟩
def Q25_B1 (Z : State) (a1 : Addr) (p3 : Int32) (x1 : Int32) (zz : Int32) (vs : List Value) (ka : ClassId) (h0 : Heap) (n0 : Nat) (v : Option Value) (h : Heap) (L : List Loc) : Prop := v = some (.int x1) ∧ Fr n0 L ∧ h = h0
theorem rm25_B1 (l : Launch) (Z : State) (a0 : Array Value) (hw : ∀ d ∈ tables_1, d.before a0 Z = true) (ws : List Jvm.Cond) (a1 : Addr) (p3 : Int32) (x1 : Int32) (zz : Int32) (vs : List Value) (ka : ClassId) (h0 : Heap) (n0 : Nat) (O0 : Old Z n0 h0) (sA : TS_0 Z) (sH : TS_1 Z) (sL : TS_2 Z) (h_z : (3 : Int32) < zz) (h_i : (1 : Int32) < p3) (h_b1 : BM x1) (g0 : vs.getD 2 (.int (0 : Int32)) = .int (lbt x1)) (g1 : vs.getD 3 (.int (0 : Int32)) = .int (hbt x1)) (A_a1 : Arv Z h0 a1 ka .byte zz vs (.int (0 : Int32))) :
    MetFree l m_23 (head1 (Jvm.Cond.code m_23 jdk_52_method_7_code 6 (some .int) :: ws) (rk 1 0 0 13)) (fun a U => a = #[(.ref a1), (.int (1 : Int32)), (.int p3), (.int (0 : Int32))] ∧ Z.Warmed39 U.vm ∧ U.heap = h0) (fun _ _ _ _ _ => True) (fun _ U o U' => ∃ v L, o = .returned v ∧ Q25_B1 Z a1 p3 x1 zz vs ka h0 n0 v U'.heap L ∧ FrameEnd U o U' L (rk 1 0 0 13).cells (rk 1 0 0 13).slots) := by
  refine MetFree.of_bodySF (plainFor_of_name pn_2) hisR ?_
  intro p e s m args below meth c s₁ Bd hml0 hP hK
  obtain ⟨rfl, hZ, hh⟩ := hP
  have hx := Bd.exec
  have hby := Bd.bytes
  have hml : c.maxLocals = 6 := hml0
  have hown : s.vm.findClass "java/lang/StringUTF16" = some m.cls := findClass_of_methodNamed Bd.named
  have X0 : Stand p l e (rk 1 0 0 13) s m #[(.ref a1), (.int (1 : Int32)), (.int p3), (.int (0 : Int32))] below meth c s₁ [] 0 0 := Stand.of_body Bd
  have e0 : s₁.heap = h0 := by rw [← hh, Bd.state]; rfl
  have N0 := Fr.nil n0
  have pre0 := own_pre (tb := p.tables) (e := e) (bl := below) (s := s₁) (ef_25_B0 m a1 (1 : Int32) p3 (0 : Int32))
  obtain ⟨T1, X1, e1, st1⟩ := getS2 X0 hx hZ hown (host := "") (Or.inl (tw hw 102 rfl)) Via.refl e0 (sA.ext O0.2) (g := (mkF m 0 #[Rf a1, It (1 : Int32), It p3, It (0 : Int32), .unset, .unset] [])) rfl (hb hby d25_0)
  obtain ⟨_, _, ⟨T2, L2, k2, n2⟩, -, X2, ⟨Lc2, hQ2, l2, y2, z2⟩, st2⟩ := Jvm.LawKit.callS X1 hx (y := m_9) hown (mvT hZ (tw hw 105 rfl)) (mvT hZ (tw hw 106 rfl)) (mvT hZ (tw hw 26 rfl)) (mvT hZ (tw hw 107 rfl)) (by decide) (backOf (W := 0) (rm23_1 l Z a0 hw [] a1 x1 zz vs ka h0 n0 O0 sA sH sL h_z g0 g1 h_b1.1 A_a1) hZ (tw hw 107 rfl) (tw hw 26 rfl) (by decide) (by decide)) (g := (mkF m 30 #[Rf a1, It (1 : Int32), It p3, It (0 : Int32), .unset, .unset] [(.int (1 : Int32)), (.ref a1)])) rfl (by rw [hml]; rfl) (argsL := [(.ref a1), (.int (1 : Int32))]) (rest := []) (lenOf pd_5 rfl) rfl (w0 rfl) (hb hby d25_30) (fun _ _ => ⟨rfl, e1, (by decide : 0 + 0 ≤ _), (by decide : 0 + 0 ≤ _)⟩)
  dsimp only [Pt.U, Pt.locs, Pt.cells, Pt.slots] at X2 l2 y2 z2 st2 hQ2
  subst l2 y2 z2
  obtain ⟨rfl, N2q, e2⟩ := hQ2
  have N2 := Fr.app N0 N2q
  obtain ⟨_, _, ⟨T3, L3, k3, n3⟩, -, X3, ⟨Lc3, hQ3, l3, y3, z3⟩, st3⟩ := Jvm.LawKit.callS X2 hx (y := m_5) hown (mvT hZ (tw hw 114 rfl)) (mvT hZ (tw hw 115 rfl)) (mvT hZ (tw hw 77 rfl)) (mvT hZ (tw hw 116 rfl)) (by decide) (backOf (W := 0) (rm26 l Z a0 hw [] x1 h0 n0 O0 ) hZ (tw hw 116 rfl) (tw hw 77 rfl) (by decide) (by decide)) (g := (mkF m 37 #[Rf a1, It (1 : Int32), It p3, It (0 : Int32), It x1, .unset] [(.int x1)])) rfl (by rw [hml]; rfl) (argsL := [(.int x1)]) (rest := []) (lenOf pd_10 rfl) rfl (w0 rfl) (hb hby d25_37) (fun _ _ => ⟨rfl, e2, (by decide : 0 + 0 ≤ _), (by decide : 0 + 0 ≤ _)⟩)
  dsimp only [Pt.U, Pt.locs, Pt.cells, Pt.slots] at X3 l3 y3 z3 st3 hQ3
  subst l3 y3 z3
  obtain ⟨rfl, N3q, e3⟩ := hQ3
  have N3 := Fr.app N2 N3q
  obtain ⟨r3, hr3⟩ : ∃ z, z = (if x1 < (55296 : Int32) then (0 : Int32) else (if x1 < (56320 : Int32) then (1 : Int32) else (0 : Int32))) := ⟨_, rfl⟩
  rw [← hr3] at st3
  have sg4 : SG p.tables e below (T3.setTop (mkF m 85 #[Rf a1, It (1 : Int32), It p3, It (0 : Int32), It x1, .unset] [(.int x1)])) (s₁.setTop (mkF m 0 #[Rf a1, It (1 : Int32), It p3, It (0 : Int32), .unset, .unset] [])) := by
    intro target kt
    show Steps _ _ _ (s₁.setTop (mkF m 0 #[Rf a1, It (1 : Int32), It p3, It (0 : Int32), .unset, .unset] [])) _
    refine st1 _ ?_
    refine XS.ifYes X1.here hx rfl (pc0 := 3) (pc' := 19) rfl (hb hby d25_3) rfl ((if0 _ _).trans (feq (by decide : ¬ ((1 : Int32) = (0 : Int32)))).2) (by decide) (by decide) ?_
    refine XS.iloadN X1.here hx rfl (hb hby d25_19) rfl ?_
    refine XS.ifYes X1.here hx rfl (pc0 := 20) (pc' := 28) rfl (hb hby d25_20) rfl ((if0 _ _).trans (teq (by decide : (0 : Int32) = (0 : Int32))).1) (by decide) (by decide) ?_
    refine XS.aloadN X1.here hx rfl (hb hby d25_28) rfl rfl ?_
    refine XS.iloadN X1.here hx rfl (hb hby d25_29) rfl ?_
    refine st2 _ ?_
    refine XS.istore X2.here hx rfl (hb hby d25_33) rfl (l' := #[Rf a1, It (1 : Int32), It p3, It (0 : Int32), It x1, .unset]) rfl ?_
    refine XS.iload X2.here hx rfl (hb hby d25_35) rfl ?_
    refine st3 _ ?_
    refine XS.ifYes X3.here hx rfl (pc0 := 40) (pc' := 83) rfl (hb hby d25_40) rfl ((if0 _ _).trans (teq (own_nhs h_b1 hr3)).1) (by decide) (by decide) ?_
    refine XS.iload X3.here hx rfl (hb hby d25_83) rfl ?_
    exact kt
  obtain ⟨fs, hr, hrun, hended, hW, hsame⟩ := X3.leave (v := some (.int x1)) (fun h => by rw [Bd.returns] at h; cases h)
  refine ⟨_, _, pre0 _ (sg4 _ (?_)), hrun, hended, _, _, rfl, ?_, ⟨_, rfl⟩, hW, hsame.mono (by decide) (by decide)⟩
  · show Steps _ _ _ (T3.setTop (mkF m 85 #[Rf a1, It (1 : Int32), It p3, It (0 : Int32), It x1, .unset] [(.int x1)])) _
    exact retI X3 hx Bd.returns (hb hby d25_85) hr
  · show Q25_B1 Z a1 p3 x1 zz vs ka h0 n0 _ T3.heap _
    rw [e3]
    exact ⟨rfl, N3, rfl⟩
def Q24_B1 (Z : State) (a1 : Addr) (p3 : Int32) (x1 : Int32) (zz : Int32) (vs : List Value) (ka : ClassId) (h0 : Heap) (n0 : Nat) (v : Option Value) (h : Heap) (L : List Loc) : Prop := v = some (.int x1) ∧ Fr n0 L ∧ h = h0
theorem rm24_B1 (l : Launch) (Z : State) (a0 : Array Value) (hw : ∀ d ∈ tables_1, d.before a0 Z = true) (ws : List Jvm.Cond) (a1 : Addr) (p3 : Int32) (x1 : Int32) (zz : Int32) (vs : List Value) (ka : ClassId) (h0 : Heap) (n0 : Nat) (O0 : Old Z n0 h0) (sA : TS_0 Z) (sH : TS_1 Z) (sL : TS_2 Z) (h_z : (3 : Int32) < zz) (h_i : (1 : Int32) < p3) (h_b1 : BM x1) (g0 : vs.getD 2 (.int (0 : Int32)) = .int (lbt x1)) (g1 : vs.getD 3 (.int (0 : Int32)) = .int (hbt x1)) (A_a1 : Arv Z h0 a1 ka .byte zz vs (.int (0 : Int32))) :
    MetFree l m_24 (head1 (Jvm.Cond.code m_24 jdk_52_method_8_code 3 (some .int) :: ws) (rk 2 0 0 30)) (fun a U => a = #[(.ref a1), (.int (1 : Int32)), (.int p3)] ∧ Z.Warmed39 U.vm ∧ U.heap = h0) (fun _ _ _ _ _ => True) (fun _ U o U' => ∃ v L, o = .returned v ∧ Q24_B1 Z a1 p3 x1 zz vs ka h0 n0 v U'.heap L ∧ FrameEnd U o U' L (rk 2 0 0 30).cells (rk 2 0 0 30).slots) := by
  refine MetFree.of_bodySF (plainFor_of_name pn_2) hisR ?_
  intro p e s m args below meth c s₁ Bd hml0 hP hK
  obtain ⟨rfl, hZ, hh⟩ := hP
  have hx := Bd.exec
  have hby := Bd.bytes
  have hml : c.maxLocals = 3 := hml0
  have hown : s.vm.findClass "java/lang/StringUTF16" = some m.cls := findClass_of_methodNamed Bd.named
  have X0 : Stand p l e (rk 2 0 0 30) s m #[(.ref a1), (.int (1 : Int32)), (.int p3)] below meth c s₁ [] 0 0 := Stand.of_body Bd
  have e0 : s₁.heap = h0 := by rw [← hh, Bd.state]; rfl
  have N0 := Fr.nil n0
  have pre0 := own_pre (tb := p.tables) (e := e) (bl := below) (s := s₁) (ef_22_0 m a1 (1 : Int32) p3)
  obtain ⟨_, _, ⟨T1, L1, k1, n1⟩, -, X1, ⟨Lc1, hQ1, l1, y1, z1⟩, st1⟩ := Jvm.LawKit.callS X0 hx (y := m_23) hown (mvT hZ (tw hw 111 rfl)) (mvT hZ (tw hw 112 rfl)) (mvT hZ (tw hw 26 rfl)) (mvT hZ (tw hw 113 rfl)) (by decide) (backOf (W := 0) (rm25_B1 l Z a0 hw [] a1 p3 x1 zz vs ka h0 n0 O0 sA sH sL h_z h_i h_b1 g0 g1 A_a1) hZ (tw hw 113 rfl) (tw hw 26 rfl) (by decide) (by decide)) (g := (mkF m 4 #[Rf a1, It (1 : Int32), It p3] [(.int (0 : Int32)), (.int p3), (.int (1 : Int32)), (.ref a1)])) rfl (by rw [hml]; rfl) (argsL := [(.ref a1), (.int (1 : Int32)), (.int p3), (.int (0 : Int32))]) (rest := []) (lenOf pd_11 rfl) rfl (w0 rfl) (hb hby d24_4) (fun _ _ => ⟨rfl, e0, (by decide : 0 + 0 ≤ _), (by decide : 0 + 0 ≤ _)⟩)
  dsimp only [Pt.U, Pt.locs, Pt.cells, Pt.slots] at X1 l1 y1 z1 st1 hQ1
  subst l1 y1 z1
  obtain ⟨rfl, N1q, e1⟩ := hQ1
  have N1 := Fr.app N0 N1q
  have sg2 : SG p.tables e below (T1.setTop (mkF m 7 #[Rf a1, It (1 : Int32), It p3] [(.int x1)])) (s₁.setTop (mkF m 0 #[Rf a1, It (1 : Int32), It p3] [])) := by
    intro target kt
    show Steps _ _ _ (s₁.setTop (mkF m 0 #[Rf a1, It (1 : Int32), It p3] [])) _
    refine XS.aloadN X0.here hx rfl (hb hby d24_0) rfl rfl ?_
    refine XS.iloadN X0.here hx rfl (hb hby d24_1) rfl ?_
    refine XS.iloadN X0.here hx rfl (hb hby d24_2) rfl ?_
    refine XS.iconst X0.here hx rfl (hb hby d24_3) ?_
    refine st1 _ ?_
    exact kt
  obtain ⟨fs, hr, hrun, hended, hW, hsame⟩ := X1.leave (v := some (.int x1)) (fun h => by rw [Bd.returns] at h; cases h)
  refine ⟨_, _, pre0 _ (sg2 _ (?_)), hrun, hended, _, _, rfl, ?_, ⟨_, rfl⟩, hW, hsame.mono (by decide) (by decide)⟩
  · show Steps _ _ _ (T1.setTop (mkF m 7 #[Rf a1, It (1 : Int32), It p3] [(.int x1)])) _
    exact retI X1 hx Bd.returns (hb hby d24_7) hr
  · show Q24_B1 Z a1 p3 x1 zz vs ka h0 n0 _ T1.heap _
    rw [e1]
    exact ⟨rfl, N1, rfl⟩
def Q12_B1 (Z : State) (a1 : Addr) (x1 : Int32) (zz : Int32) (vs : List Value) (kk : Int32) (tv : Addr) (vFM : Value) (zC : Int32) (kt : ClassId) (h0 : Heap) (n0 : Nat) (v : Option Value) (h : Heap) (L : List Loc) : Prop := v = some (.int x1) ∧ Fr n0 L ∧ h = h0
theorem rm12_B1 (l : Launch) (Z : State) (a0 : Array Value) (hw : ∀ d ∈ tables_1, d.before a0 Z = true) (ws : List Jvm.Cond) (a1 : Addr) (x1 : Int32) (zz : Int32) (vs : List Value) (kk : Int32) (tv : Addr) (vFM : Value) (zC : Int32) (kt : ClassId) (h0 : Heap) (n0 : Nat) (O0 : Old Z n0 h0) (hCS : ¬ zC = 0) (hFM : vFM.isRef = true) (h_z : (3 : Int32) < zz) (h_k : (zz >>> ((1 : Int32) &&& 31)) = kk) (h_i : (1 : Int32) < kk) (sC : TS_3 Z zC) (sA : TS_0 Z) (sH : TS_1 Z) (sL : TS_2 Z) (sF : TS_6 Z vFM) (E_a1 : Exa Z h0 a1 "java/lang/String") (F_coder_a1 : Fld Z h0 a1 "java/lang/String" "coder" "B" (.int (1 : Int32))) (F_value_a1 : Fld Z h0 a1 "java/lang/String" "value" "[B" (.ref tv)) (h_b1 : BM x1) (g0 : vs.getD 2 (.int (0 : Int32)) = .int (lbt x1)) (g1 : vs.getD 3 (.int (0 : Int32)) = .int (hbt x1)) (A_tv : Arv Z h0 tv kt .byte zz vs (.int (0 : Int32))) :
    MetFree l m_25 (head1 (Jvm.Cond.code m_25 jdk_42_method_57_code 3 (some .int) :: ws) (rk 3 0 0 44)) (fun a U => a = #[(.ref a1), (.int (1 : Int32))] ∧ Z.Warmed39 U.vm ∧ U.heap = h0) (fun _ _ _ _ _ => True) (fun _ U o U' => ∃ v L, o = .returned v ∧ Q12_B1 Z a1 x1 zz vs kk tv vFM zC kt h0 n0 v U'.heap L ∧ FrameEnd U o U' L (rk 3 0 0 44).cells (rk 3 0 0 44).slots) := by
  refine MetFree.of_bodySF (plainFor_of_name pn_3) hisR ?_
  intro p e s m args below meth c s₁ Bd hml0 hP hK
  obtain ⟨rfl, hZ, hh⟩ := hP
  have hx := Bd.exec
  have hby := Bd.bytes
  have hml : c.maxLocals = 3 := hml0
  have hown : s.vm.findClass "java/lang/String" = some m.cls := findClass_of_methodNamed Bd.named
  have X0 : Stand p l e (rk 3 0 0 44) s m #[(.ref a1), (.int (1 : Int32))] below meth c s₁ [] 0 0 := Stand.of_body Bd
  have e0 : s₁.heap = h0 := by rw [← hh, Bd.state]; rfl
  have N0 := Fr.nil n0
  have pre0 := own_pre (tb := p.tables) (e := e) (bl := below) (s := s₁) (ef_12_B0 m a1 (1 : Int32))
  obtain ⟨cq1, kq1, q1a, q1b, q1c⟩ := isOf hZ e0 E_a1
  obtain ⟨_, _, ⟨T1, L1, k1, n1⟩, -, X1, ⟨Lc1, hQ1, l1, y1, z1⟩, st1⟩ := X0.virtualBack hx (y := m_19) (z := m_19) hown (mvT hZ (tw hw 61 rfl)) (mvT hZ (tw hw 62 rfl)) (notFace_of_selects (args := #[]) (mvT hZ (tw hw 64 rfl))) (mvT hZ (tw hw 64 rfl)) (mvT hZ (tw hw 63 rfl)) (by decide) (backOf (W := 0) (rm13_1 l Z a0 hw [] a1 zC h0 n0 O0 hCS sC F_coder_a1) hZ (tw hw 65 rfl) (tw hw 6 rfl) (by decide) (by decide)) q1a q1c (g := (mkF m 1 #[Rf a1, It (1 : Int32), .unset] [(.ref a1)])) rfl (by rw [hml]; rfl) (Steps.refl _) (argsL := []) (rest := []) (lenOf pd_12 rfl) rfl (w0 rfl) (hb hby d12_1) (fun _ _ => ⟨rfl, e0, (by decide : 0 + 0 ≤ _), (by decide : 0 + 0 ≤ _)⟩)
  dsimp only [Pt.U, Pt.locs, Pt.cells, Pt.slots] at X1 l1 y1 z1 st1 hQ1
  subst l1 y1 z1
  obtain ⟨rfl, N1q, e1⟩ := hQ1
  have N1 := Fr.app N0 N1q
  obtain ⟨T2, X2, e2, st2⟩ := getF X1 hx hZ hown (host := "") (Or.inl (tw hw 37 rfl)) Via.refl e1 F_value_a1 (g := (mkF m 28 #[Rf a1, It (1 : Int32), .unset] [(.ref a1)])) rfl rfl (hb hby d12_28)
  obtain ⟨cl3, Ar3, -, Sz3, Nn3, -, -⟩ := id A_tv
  obtain ⟨u4, hu4⟩ : ∃ z, z = (zz >>> ((1 : Int32) &&& 31)) := ⟨_, rfl⟩
  have sg5 : SG p.tables e below (T2.setTop (mkF m 34 #[Rf a1, It (1 : Int32), .unset] [(.int u4)])) (s₁.setTop (mkF m 0 #[Rf a1, It (1 : Int32), .unset] [])) := by
    intro target kt
    subst hu4
    show Steps _ _ _ (s₁.setTop (mkF m 0 #[Rf a1, It (1 : Int32), .unset] [])) _
    refine XS.aloadN X0.here hx rfl (hb hby d12_0) rfl rfl ?_
    refine st1.trans ?_
    refine XS.ifYes X1.here hx rfl (pc0 := 4) (pc' := 27) rfl (hb hby d12_4) rfl ((if0 _ _).trans (teq (by decide : (0 : Int32) = (0 : Int32))).1) (by decide) (by decide) ?_
    refine XS.aloadN X1.here hx rfl (hb hby d12_27) rfl rfl ?_
    refine st2 _ ?_
    refine X2.arraylength hx (own_rwh e2 Ar3.1) (State.isArrayOf_alike hZ.alike Ar3.2.1) (g := (mkF m 31 #[Rf a1, It (1 : Int32), .unset] [(.ref tv)])) rfl rfl (hb hby d12_31) _ ?_
    rw [len_of Sz3 Nn3]
    show Steps _ _ _ (T2.setTop (mkF m 32 #[Rf a1, It (1 : Int32), .unset] [(.int zz)])) _
    refine XS.iconst X2.here hx rfl (hb hby d12_32) ?_
    refine XS.ishr X2.here hx rfl (hb hby d12_33) rfl ?_
    exact kt
  have hkk : u4 = kk := hu4.trans h_k
  have hik : (1 : Int32) < u4 := by rw [hkk]; exact h_i
  obtain ⟨_, _, ⟨T6, L6, k6, n6⟩, -, X6, ⟨Lc6, hQ6, l6, y6, z6⟩, st6⟩ := Jvm.LawKit.callS X2 hx (y := m_22) hown (mvT hZ (tw hw 66 rfl)) (mvT hZ (tw hw 67 rfl)) (mvT hZ (tw hw 6 rfl)) (mvT hZ (tw hw 68 rfl)) (by decide) (backOf (W := 0) (rm14 l Z a0 hw [] (1 : Int32) u4 vFM h0 n0 O0 hFM (by decide) (own_ltz hik (by decide)) sF) hZ (tw hw 68 rfl) (tw hw 6 rfl) (by decide) (by decide)) (g := (mkF m 37 #[Rf a1, It (1 : Int32), It u4] [(.int u4), (.int (1 : Int32))])) rfl (by rw [hml]; rfl) (argsL := [(.int (1 : Int32)), (.int u4)]) (rest := []) (lenOf pd_13 rfl) rfl (w0 rfl) (hb hby d12_37) (fun _ _ => ⟨rfl, e2, (by decide : 0 + 0 ≤ _), (by decide : 0 + 0 ≤ _)⟩)
  dsimp only [Pt.U, Pt.locs, Pt.cells, Pt.slots] at X6 l6 y6 z6 st6 hQ6
  subst l6 y6 z6
  obtain ⟨rfl, N6q, e6⟩ := hQ6
  have N6 := Fr.app N1 N6q
  obtain ⟨T7, X7, e7, st7⟩ := getF X6 hx hZ hown (host := "") (Or.inl (tw hw 37 rfl)) Via.refl e6 F_value_a1 (g := (mkF m 41 #[Rf a1, It (1 : Int32), It u4] [(.ref a1)])) rfl rfl (hb hby d12_41)
  obtain ⟨_, _, ⟨T8, L8, k8, n8⟩, -, X8, ⟨Lc8, hQ8, l8, y8, z8⟩, st8⟩ := Jvm.LawKit.callS X7 hx (y := m_24) hown (mvT hZ (tw hw 108 rfl)) (mvT hZ (tw hw 109 rfl)) (mvT hZ (tw hw 26 rfl)) (mvT hZ (tw hw 110 rfl)) (by decide) (backOf (W := 0) (rm24_B1 l Z a0 hw [] tv u4 x1 zz vs kt h0 n0 O0 sA sH sL h_z hik h_b1 g0 g1 A_tv) hZ (tw hw 110 rfl) (tw hw 26 rfl) (by decide) (by decide)) (g := (mkF m 46 #[Rf a1, It (1 : Int32), It u4] [(.int u4), (.int (1 : Int32)), (.ref tv)])) rfl (by rw [hml]; rfl) (argsL := [(.ref tv), (.int (1 : Int32)), (.int u4)]) (rest := []) (lenOf pd_14 rfl) rfl (w0 rfl) (hb hby d12_46) (fun _ _ => ⟨rfl, e7, (by decide : 0 + 0 ≤ _), (by decide : 0 + 0 ≤ _)⟩)
  dsimp only [Pt.U, Pt.locs, Pt.cells, Pt.slots] at X8 l8 y8 z8 st8 hQ8
  subst l8 y8 z8
  obtain ⟨rfl, N8q, e8⟩ := hQ8
  have N8 := Fr.app N6 N8q
  have sg9 : SG p.tables e below (T8.setTop (mkF m 49 #[Rf a1, It (1 : Int32), It u4] [(.int x1)])) (T2.setTop (mkF m 34 #[Rf a1, It (1 : Int32), .unset] [(.int u4)])) := by
    intro target kt
    show Steps _ _ _ (T2.setTop (mkF m 34 #[Rf a1, It (1 : Int32), .unset] [(.int u4)])) _
    refine XS.istoreN X2.here hx rfl (hb hby d12_34) rfl (l' := #[Rf a1, It (1 : Int32), It u4]) rfl ?_
    refine XS.iloadN X2.here hx rfl (hb hby d12_35) rfl ?_
    refine XS.iloadN X2.here hx rfl (hb hby d12_36) rfl ?_
    refine st6 _ ?_
    refine XS.aloadN X6.here hx rfl (hb hby d12_40) rfl rfl ?_
    refine st7 _ ?_
    refine XS.iloadN X7.here hx rfl (hb hby d12_44) rfl ?_
    refine XS.iloadN X7.here hx rfl (hb hby d12_45) rfl ?_
    refine st8 _ ?_
    exact kt
  obtain ⟨fs, hr, hrun, hended, hW, hsame⟩ := X8.leave (v := some (.int x1)) (fun h => by rw [Bd.returns] at h; cases h)
  refine ⟨_, _, pre0 _ (sg5 _ (sg9 _ (?_))), hrun, hended, _, _, rfl, ?_, ⟨_, rfl⟩, hW, hsame.mono (by decide) (by decide)⟩
  · show Steps _ _ _ (T8.setTop (mkF m 49 #[Rf a1, It (1 : Int32), It u4] [(.int x1)])) _
    exact retI X8 hx Bd.returns (hb hby d12_49) hr
  · show Q12_B1 Z a1 x1 zz vs kk tv vFM zC kt h0 n0 _ T8.heap _
    rw [e8]
    exact ⟨rfl, N8, rfl⟩
def Q25_B2 (Z : State) (a1 : Addr) (p3 : Int32) (x1 : Int32) (zz : Int32) (vs : List Value) (ka : ClassId) (h0 : Heap) (n0 : Nat) (v : Option Value) (h : Heap) (L : List Loc) : Prop := v = some (.int x1) ∧ Fr n0 L ∧ h = h0
theorem rm25_B2 (l : Launch) (Z : State) (a0 : Array Value) (hw : ∀ d ∈ tables_1, d.before a0 Z = true) (ws : List Jvm.Cond) (a1 : Addr) (p3 : Int32) (x1 : Int32) (zz : Int32) (vs : List Value) (ka : ClassId) (h0 : Heap) (n0 : Nat) (O0 : Old Z n0 h0) (sA : TS_0 Z) (sH : TS_1 Z) (sL : TS_2 Z) (h_z : (5 : Int32) < zz) (h_i : (2 : Int32) < p3) (h_b1 : BM x1) (g0 : vs.getD 4 (.int (0 : Int32)) = .int (lbt x1)) (g1 : vs.getD 5 (.int (0 : Int32)) = .int (hbt x1)) (A_a1 : Arv Z h0 a1 ka .byte zz vs (.int (0 : Int32))) :
    MetFree l m_23 (head1 (Jvm.Cond.code m_23 jdk_52_method_7_code 6 (some .int) :: ws) (rk 1 0 0 13)) (fun a U => a = #[(.ref a1), (.int (2 : Int32)), (.int p3), (.int (0 : Int32))] ∧ Z.Warmed39 U.vm ∧ U.heap = h0) (fun _ _ _ _ _ => True) (fun _ U o U' => ∃ v L, o = .returned v ∧ Q25_B2 Z a1 p3 x1 zz vs ka h0 n0 v U'.heap L ∧ FrameEnd U o U' L (rk 1 0 0 13).cells (rk 1 0 0 13).slots) := by
  refine MetFree.of_bodySF (plainFor_of_name pn_2) hisR ?_
  intro p e s m args below meth c s₁ Bd hml0 hP hK
  obtain ⟨rfl, hZ, hh⟩ := hP
  have hx := Bd.exec
  have hby := Bd.bytes
  have hml : c.maxLocals = 6 := hml0
  have hown : s.vm.findClass "java/lang/StringUTF16" = some m.cls := findClass_of_methodNamed Bd.named
  have X0 : Stand p l e (rk 1 0 0 13) s m #[(.ref a1), (.int (2 : Int32)), (.int p3), (.int (0 : Int32))] below meth c s₁ [] 0 0 := Stand.of_body Bd
  have e0 : s₁.heap = h0 := by rw [← hh, Bd.state]; rfl
  have N0 := Fr.nil n0
  have pre0 := own_pre (tb := p.tables) (e := e) (bl := below) (s := s₁) (ef_25_B0 m a1 (2 : Int32) p3 (0 : Int32))
  obtain ⟨T1, X1, e1, st1⟩ := getS2 X0 hx hZ hown (host := "") (Or.inl (tw hw 102 rfl)) Via.refl e0 (sA.ext O0.2) (g := (mkF m 0 #[Rf a1, It (2 : Int32), It p3, It (0 : Int32), .unset, .unset] [])) rfl (hb hby d25_0)
  obtain ⟨_, _, ⟨T2, L2, k2, n2⟩, -, X2, ⟨Lc2, hQ2, l2, y2, z2⟩, st2⟩ := Jvm.LawKit.callS X1 hx (y := m_9) hown (mvT hZ (tw hw 105 rfl)) (mvT hZ (tw hw 106 rfl)) (mvT hZ (tw hw 26 rfl)) (mvT hZ (tw hw 107 rfl)) (by decide) (backOf (W := 0) (rm23_2 l Z a0 hw [] a1 x1 zz vs ka h0 n0 O0 sA sH sL h_z g0 g1 h_b1.1 A_a1) hZ (tw hw 107 rfl) (tw hw 26 rfl) (by decide) (by decide)) (g := (mkF m 30 #[Rf a1, It (2 : Int32), It p3, It (0 : Int32), .unset, .unset] [(.int (2 : Int32)), (.ref a1)])) rfl (by rw [hml]; rfl) (argsL := [(.ref a1), (.int (2 : Int32))]) (rest := []) (lenOf pd_5 rfl) rfl (w0 rfl) (hb hby d25_30) (fun _ _ => ⟨rfl, e1, (by decide : 0 + 0 ≤ _), (by decide : 0 + 0 ≤ _)⟩)
  dsimp only [Pt.U, Pt.locs, Pt.cells, Pt.slots] at X2 l2 y2 z2 st2 hQ2
  subst l2 y2 z2
  obtain ⟨rfl, N2q, e2⟩ := hQ2
  have N2 := Fr.app N0 N2q
  obtain ⟨_, _, ⟨T3, L3, k3, n3⟩, -, X3, ⟨Lc3, hQ3, l3, y3, z3⟩, st3⟩ := Jvm.LawKit.callS X2 hx (y := m_5) hown (mvT hZ (tw hw 114 rfl)) (mvT hZ (tw hw 115 rfl)) (mvT hZ (tw hw 77 rfl)) (mvT hZ (tw hw 116 rfl)) (by decide) (backOf (W := 0) (rm26 l Z a0 hw [] x1 h0 n0 O0 ) hZ (tw hw 116 rfl) (tw hw 77 rfl) (by decide) (by decide)) (g := (mkF m 37 #[Rf a1, It (2 : Int32), It p3, It (0 : Int32), It x1, .unset] [(.int x1)])) rfl (by rw [hml]; rfl) (argsL := [(.int x1)]) (rest := []) (lenOf pd_10 rfl) rfl (w0 rfl) (hb hby d25_37) (fun _ _ => ⟨rfl, e2, (by decide : 0 + 0 ≤ _), (by decide : 0 + 0 ≤ _)⟩)
  dsimp only [Pt.U, Pt.locs, Pt.cells, Pt.slots] at X3 l3 y3 z3 st3 hQ3
  subst l3 y3 z3
  obtain ⟨rfl, N3q, e3⟩ := hQ3
  have N3 := Fr.app N2 N3q
  obtain ⟨r3, hr3⟩ : ∃ z, z = (if x1 < (55296 : Int32) then (0 : Int32) else (if x1 < (56320 : Int32) then (1 : Int32) else (0 : Int32))) := ⟨_, rfl⟩
  rw [← hr3] at st3
  have sg4 : SG p.tables e below (T3.setTop (mkF m 85 #[Rf a1, It (2 : Int32), It p3, It (0 : Int32), It x1, .unset] [(.int x1)])) (s₁.setTop (mkF m 0 #[Rf a1, It (2 : Int32), It p3, It (0 : Int32), .unset, .unset] [])) := by
    intro target kt
    show Steps _ _ _ (s₁.setTop (mkF m 0 #[Rf a1, It (2 : Int32), It p3, It (0 : Int32), .unset, .unset] [])) _
    refine st1 _ ?_
    refine XS.ifYes X1.here hx rfl (pc0 := 3) (pc' := 19) rfl (hb hby d25_3) rfl ((if0 _ _).trans (feq (by decide : ¬ ((1 : Int32) = (0 : Int32)))).2) (by decide) (by decide) ?_
    refine XS.iloadN X1.here hx rfl (hb hby d25_19) rfl ?_
    refine XS.ifYes X1.here hx rfl (pc0 := 20) (pc' := 28) rfl (hb hby d25_20) rfl ((if0 _ _).trans (teq (by decide : (0 : Int32) = (0 : Int32))).1) (by decide) (by decide) ?_
    refine XS.aloadN X1.here hx rfl (hb hby d25_28) rfl rfl ?_
    refine XS.iloadN X1.here hx rfl (hb hby d25_29) rfl ?_
    refine st2 _ ?_
    refine XS.istore X2.here hx rfl (hb hby d25_33) rfl (l' := #[Rf a1, It (2 : Int32), It p3, It (0 : Int32), It x1, .unset]) rfl ?_
    refine XS.iload X2.here hx rfl (hb hby d25_35) rfl ?_
    refine st3 _ ?_
    refine XS.ifYes X3.here hx rfl (pc0 := 40) (pc' := 83) rfl (hb hby d25_40) rfl ((if0 _ _).trans (teq (own_nhs h_b1 hr3)).1) (by decide) (by decide) ?_
    refine XS.iload X3.here hx rfl (hb hby d25_83) rfl ?_
    exact kt
  obtain ⟨fs, hr, hrun, hended, hW, hsame⟩ := X3.leave (v := some (.int x1)) (fun h => by rw [Bd.returns] at h; cases h)
  refine ⟨_, _, pre0 _ (sg4 _ (?_)), hrun, hended, _, _, rfl, ?_, ⟨_, rfl⟩, hW, hsame.mono (by decide) (by decide)⟩
  · show Steps _ _ _ (T3.setTop (mkF m 85 #[Rf a1, It (2 : Int32), It p3, It (0 : Int32), It x1, .unset] [(.int x1)])) _
    exact retI X3 hx Bd.returns (hb hby d25_85) hr
  · show Q25_B2 Z a1 p3 x1 zz vs ka h0 n0 _ T3.heap _
    rw [e3]
    exact ⟨rfl, N3, rfl⟩
def Q24_B2 (Z : State) (a1 : Addr) (p3 : Int32) (x1 : Int32) (zz : Int32) (vs : List Value) (ka : ClassId) (h0 : Heap) (n0 : Nat) (v : Option Value) (h : Heap) (L : List Loc) : Prop := v = some (.int x1) ∧ Fr n0 L ∧ h = h0
theorem rm24_B2 (l : Launch) (Z : State) (a0 : Array Value) (hw : ∀ d ∈ tables_1, d.before a0 Z = true) (ws : List Jvm.Cond) (a1 : Addr) (p3 : Int32) (x1 : Int32) (zz : Int32) (vs : List Value) (ka : ClassId) (h0 : Heap) (n0 : Nat) (O0 : Old Z n0 h0) (sA : TS_0 Z) (sH : TS_1 Z) (sL : TS_2 Z) (h_z : (5 : Int32) < zz) (h_i : (2 : Int32) < p3) (h_b1 : BM x1) (g0 : vs.getD 4 (.int (0 : Int32)) = .int (lbt x1)) (g1 : vs.getD 5 (.int (0 : Int32)) = .int (hbt x1)) (A_a1 : Arv Z h0 a1 ka .byte zz vs (.int (0 : Int32))) :
    MetFree l m_24 (head1 (Jvm.Cond.code m_24 jdk_52_method_8_code 3 (some .int) :: ws) (rk 2 0 0 30)) (fun a U => a = #[(.ref a1), (.int (2 : Int32)), (.int p3)] ∧ Z.Warmed39 U.vm ∧ U.heap = h0) (fun _ _ _ _ _ => True) (fun _ U o U' => ∃ v L, o = .returned v ∧ Q24_B2 Z a1 p3 x1 zz vs ka h0 n0 v U'.heap L ∧ FrameEnd U o U' L (rk 2 0 0 30).cells (rk 2 0 0 30).slots) := by
  refine MetFree.of_bodySF (plainFor_of_name pn_2) hisR ?_
  intro p e s m args below meth c s₁ Bd hml0 hP hK
  obtain ⟨rfl, hZ, hh⟩ := hP
  have hx := Bd.exec
  have hby := Bd.bytes
  have hml : c.maxLocals = 3 := hml0
  have hown : s.vm.findClass "java/lang/StringUTF16" = some m.cls := findClass_of_methodNamed Bd.named
  have X0 : Stand p l e (rk 2 0 0 30) s m #[(.ref a1), (.int (2 : Int32)), (.int p3)] below meth c s₁ [] 0 0 := Stand.of_body Bd
  have e0 : s₁.heap = h0 := by rw [← hh, Bd.state]; rfl
  have N0 := Fr.nil n0
  have pre0 := own_pre (tb := p.tables) (e := e) (bl := below) (s := s₁) (ef_22_0 m a1 (2 : Int32) p3)
  obtain ⟨_, _, ⟨T1, L1, k1, n1⟩, -, X1, ⟨Lc1, hQ1, l1, y1, z1⟩, st1⟩ := Jvm.LawKit.callS X0 hx (y := m_23) hown (mvT hZ (tw hw 111 rfl)) (mvT hZ (tw hw 112 rfl)) (mvT hZ (tw hw 26 rfl)) (mvT hZ (tw hw 113 rfl)) (by decide) (backOf (W := 0) (rm25_B2 l Z a0 hw [] a1 p3 x1 zz vs ka h0 n0 O0 sA sH sL h_z h_i h_b1 g0 g1 A_a1) hZ (tw hw 113 rfl) (tw hw 26 rfl) (by decide) (by decide)) (g := (mkF m 4 #[Rf a1, It (2 : Int32), It p3] [(.int (0 : Int32)), (.int p3), (.int (2 : Int32)), (.ref a1)])) rfl (by rw [hml]; rfl) (argsL := [(.ref a1), (.int (2 : Int32)), (.int p3), (.int (0 : Int32))]) (rest := []) (lenOf pd_11 rfl) rfl (w0 rfl) (hb hby d24_4) (fun _ _ => ⟨rfl, e0, (by decide : 0 + 0 ≤ _), (by decide : 0 + 0 ≤ _)⟩)
  dsimp only [Pt.U, Pt.locs, Pt.cells, Pt.slots] at X1 l1 y1 z1 st1 hQ1
  subst l1 y1 z1
  obtain ⟨rfl, N1q, e1⟩ := hQ1
  have N1 := Fr.app N0 N1q
  have sg2 : SG p.tables e below (T1.setTop (mkF m 7 #[Rf a1, It (2 : Int32), It p3] [(.int x1)])) (s₁.setTop (mkF m 0 #[Rf a1, It (2 : Int32), It p3] [])) := by
    intro target kt
    show Steps _ _ _ (s₁.setTop (mkF m 0 #[Rf a1, It (2 : Int32), It p3] [])) _
    refine XS.aloadN X0.here hx rfl (hb hby d24_0) rfl rfl ?_
    refine XS.iloadN X0.here hx rfl (hb hby d24_1) rfl ?_
    refine XS.iloadN X0.here hx rfl (hb hby d24_2) rfl ?_
    refine XS.iconst X0.here hx rfl (hb hby d24_3) ?_
    refine st1 _ ?_
    exact kt
  obtain ⟨fs, hr, hrun, hended, hW, hsame⟩ := X1.leave (v := some (.int x1)) (fun h => by rw [Bd.returns] at h; cases h)
  refine ⟨_, _, pre0 _ (sg2 _ (?_)), hrun, hended, _, _, rfl, ?_, ⟨_, rfl⟩, hW, hsame.mono (by decide) (by decide)⟩
  · show Steps _ _ _ (T1.setTop (mkF m 7 #[Rf a1, It (2 : Int32), It p3] [(.int x1)])) _
    exact retI X1 hx Bd.returns (hb hby d24_7) hr
  · show Q24_B2 Z a1 p3 x1 zz vs ka h0 n0 _ T1.heap _
    rw [e1]
    exact ⟨rfl, N1, rfl⟩
def Q12_B2 (Z : State) (a1 : Addr) (x1 : Int32) (zz : Int32) (vs : List Value) (kk : Int32) (tv : Addr) (vFM : Value) (zC : Int32) (kt : ClassId) (h0 : Heap) (n0 : Nat) (v : Option Value) (h : Heap) (L : List Loc) : Prop := v = some (.int x1) ∧ Fr n0 L ∧ h = h0
theorem rm12_B2 (l : Launch) (Z : State) (a0 : Array Value) (hw : ∀ d ∈ tables_1, d.before a0 Z = true) (ws : List Jvm.Cond) (a1 : Addr) (x1 : Int32) (zz : Int32) (vs : List Value) (kk : Int32) (tv : Addr) (vFM : Value) (zC : Int32) (kt : ClassId) (h0 : Heap) (n0 : Nat) (O0 : Old Z n0 h0) (hCS : ¬ zC = 0) (hFM : vFM.isRef = true) (h_z : (5 : Int32) < zz) (h_k : (zz >>> ((1 : Int32) &&& 31)) = kk) (h_i : (2 : Int32) < kk) (sC : TS_3 Z zC) (sA : TS_0 Z) (sH : TS_1 Z) (sL : TS_2 Z) (sF : TS_6 Z vFM) (E_a1 : Exa Z h0 a1 "java/lang/String") (F_coder_a1 : Fld Z h0 a1 "java/lang/String" "coder" "B" (.int (1 : Int32))) (F_value_a1 : Fld Z h0 a1 "java/lang/String" "value" "[B" (.ref tv)) (h_b1 : BM x1) (g0 : vs.getD 4 (.int (0 : Int32)) = .int (lbt x1)) (g1 : vs.getD 5 (.int (0 : Int32)) = .int (hbt x1)) (A_tv : Arv Z h0 tv kt .byte zz vs (.int (0 : Int32))) :
    MetFree l m_25 (head1 (Jvm.Cond.code m_25 jdk_42_method_57_code 3 (some .int) :: ws) (rk 3 0 0 44)) (fun a U => a = #[(.ref a1), (.int (2 : Int32))] ∧ Z.Warmed39 U.vm ∧ U.heap = h0) (fun _ _ _ _ _ => True) (fun _ U o U' => ∃ v L, o = .returned v ∧ Q12_B2 Z a1 x1 zz vs kk tv vFM zC kt h0 n0 v U'.heap L ∧ FrameEnd U o U' L (rk 3 0 0 44).cells (rk 3 0 0 44).slots) := by
  refine MetFree.of_bodySF (plainFor_of_name pn_3) hisR ?_
  intro p e s m args below meth c s₁ Bd hml0 hP hK
  obtain ⟨rfl, hZ, hh⟩ := hP
  have hx := Bd.exec
  have hby := Bd.bytes
  have hml : c.maxLocals = 3 := hml0
  have hown : s.vm.findClass "java/lang/String" = some m.cls := findClass_of_methodNamed Bd.named
  have X0 : Stand p l e (rk 3 0 0 44) s m #[(.ref a1), (.int (2 : Int32))] below meth c s₁ [] 0 0 := Stand.of_body Bd
  have e0 : s₁.heap = h0 := by rw [← hh, Bd.state]; rfl
  have N0 := Fr.nil n0
  have pre0 := own_pre (tb := p.tables) (e := e) (bl := below) (s := s₁) (ef_12_B0 m a1 (2 : Int32))
  obtain ⟨cq1, kq1, q1a, q1b, q1c⟩ := isOf hZ e0 E_a1
  obtain ⟨_, _, ⟨T1, L1, k1, n1⟩, -, X1, ⟨Lc1, hQ1, l1, y1, z1⟩, st1⟩ := X0.virtualBack hx (y := m_19) (z := m_19) hown (mvT hZ (tw hw 61 rfl)) (mvT hZ (tw hw 62 rfl)) (notFace_of_selects (args := #[]) (mvT hZ (tw hw 64 rfl))) (mvT hZ (tw hw 64 rfl)) (mvT hZ (tw hw 63 rfl)) (by decide) (backOf (W := 0) (rm13_1 l Z a0 hw [] a1 zC h0 n0 O0 hCS sC F_coder_a1) hZ (tw hw 65 rfl) (tw hw 6 rfl) (by decide) (by decide)) q1a q1c (g := (mkF m 1 #[Rf a1, It (2 : Int32), .unset] [(.ref a1)])) rfl (by rw [hml]; rfl) (Steps.refl _) (argsL := []) (rest := []) (lenOf pd_12 rfl) rfl (w0 rfl) (hb hby d12_1) (fun _ _ => ⟨rfl, e0, (by decide : 0 + 0 ≤ _), (by decide : 0 + 0 ≤ _)⟩)
  dsimp only [Pt.U, Pt.locs, Pt.cells, Pt.slots] at X1 l1 y1 z1 st1 hQ1
  subst l1 y1 z1
  obtain ⟨rfl, N1q, e1⟩ := hQ1
  have N1 := Fr.app N0 N1q
  obtain ⟨T2, X2, e2, st2⟩ := getF X1 hx hZ hown (host := "") (Or.inl (tw hw 37 rfl)) Via.refl e1 F_value_a1 (g := (mkF m 28 #[Rf a1, It (2 : Int32), .unset] [(.ref a1)])) rfl rfl (hb hby d12_28)
  obtain ⟨cl3, Ar3, -, Sz3, Nn3, -, -⟩ := id A_tv
  obtain ⟨u4, hu4⟩ : ∃ z, z = (zz >>> ((1 : Int32) &&& 31)) := ⟨_, rfl⟩
  have sg5 : SG p.tables e below (T2.setTop (mkF m 34 #[Rf a1, It (2 : Int32), .unset] [(.int u4)])) (s₁.setTop (mkF m 0 #[Rf a1, It (2 : Int32), .unset] [])) := by
    intro target kt
    subst hu4
    show Steps _ _ _ (s₁.setTop (mkF m 0 #[Rf a1, It (2 : Int32), .unset] [])) _
    refine XS.aloadN X0.here hx rfl (hb hby d12_0) rfl rfl ?_
    refine st1.trans ?_
    refine XS.ifYes X1.here hx rfl (pc0 := 4) (pc' := 27) rfl (hb hby d12_4) rfl ((if0 _ _).trans (teq (by decide : (0 : Int32) = (0 : Int32))).1) (by decide) (by decide) ?_
    refine XS.aloadN X1.here hx rfl (hb hby d12_27) rfl rfl ?_
    refine st2 _ ?_
    refine X2.arraylength hx (own_rwh e2 Ar3.1) (State.isArrayOf_alike hZ.alike Ar3.2.1) (g := (mkF m 31 #[Rf a1, It (2 : Int32), .unset] [(.ref tv)])) rfl rfl (hb hby d12_31) _ ?_
    rw [len_of Sz3 Nn3]
    show Steps _ _ _ (T2.setTop (mkF m 32 #[Rf a1, It (2 : Int32), .unset] [(.int zz)])) _
    refine XS.iconst X2.here hx rfl (hb hby d12_32) ?_
    refine XS.ishr X2.here hx rfl (hb hby d12_33) rfl ?_
    exact kt
  have hkk : u4 = kk := hu4.trans h_k
  have hik : (2 : Int32) < u4 := by rw [hkk]; exact h_i
  obtain ⟨_, _, ⟨T6, L6, k6, n6⟩, -, X6, ⟨Lc6, hQ6, l6, y6, z6⟩, st6⟩ := Jvm.LawKit.callS X2 hx (y := m_22) hown (mvT hZ (tw hw 66 rfl)) (mvT hZ (tw hw 67 rfl)) (mvT hZ (tw hw 6 rfl)) (mvT hZ (tw hw 68 rfl)) (by decide) (backOf (W := 0) (rm14 l Z a0 hw [] (2 : Int32) u4 vFM h0 n0 O0 hFM (by decide) (own_ltz hik (by decide)) sF) hZ (tw hw 68 rfl) (tw hw 6 rfl) (by decide) (by decide)) (g := (mkF m 37 #[Rf a1, It (2 : Int32), It u4] [(.int u4), (.int (2 : Int32))])) rfl (by rw [hml]; rfl) (argsL := [(.int (2 : Int32)), (.int u4)]) (rest := []) (lenOf pd_13 rfl) rfl (w0 rfl) (hb hby d12_37) (fun _ _ => ⟨rfl, e2, (by decide : 0 + 0 ≤ _), (by decide : 0 + 0 ≤ _)⟩)
  dsimp only [Pt.U, Pt.locs, Pt.cells, Pt.slots] at X6 l6 y6 z6 st6 hQ6
  subst l6 y6 z6
  obtain ⟨rfl, N6q, e6⟩ := hQ6
  have N6 := Fr.app N1 N6q
  obtain ⟨T7, X7, e7, st7⟩ := getF X6 hx hZ hown (host := "") (Or.inl (tw hw 37 rfl)) Via.refl e6 F_value_a1 (g := (mkF m 41 #[Rf a1, It (2 : Int32), It u4] [(.ref a1)])) rfl rfl (hb hby d12_41)
  obtain ⟨_, _, ⟨T8, L8, k8, n8⟩, -, X8, ⟨Lc8, hQ8, l8, y8, z8⟩, st8⟩ := Jvm.LawKit.callS X7 hx (y := m_24) hown (mvT hZ (tw hw 108 rfl)) (mvT hZ (tw hw 109 rfl)) (mvT hZ (tw hw 26 rfl)) (mvT hZ (tw hw 110 rfl)) (by decide) (backOf (W := 0) (rm24_B2 l Z a0 hw [] tv u4 x1 zz vs kt h0 n0 O0 sA sH sL h_z hik h_b1 g0 g1 A_tv) hZ (tw hw 110 rfl) (tw hw 26 rfl) (by decide) (by decide)) (g := (mkF m 46 #[Rf a1, It (2 : Int32), It u4] [(.int u4), (.int (2 : Int32)), (.ref tv)])) rfl (by rw [hml]; rfl) (argsL := [(.ref tv), (.int (2 : Int32)), (.int u4)]) (rest := []) (lenOf pd_14 rfl) rfl (w0 rfl) (hb hby d12_46) (fun _ _ => ⟨rfl, e7, (by decide : 0 + 0 ≤ _), (by decide : 0 + 0 ≤ _)⟩)
  dsimp only [Pt.U, Pt.locs, Pt.cells, Pt.slots] at X8 l8 y8 z8 st8 hQ8
  subst l8 y8 z8
  obtain ⟨rfl, N8q, e8⟩ := hQ8
  have N8 := Fr.app N6 N8q
  have sg9 : SG p.tables e below (T8.setTop (mkF m 49 #[Rf a1, It (2 : Int32), It u4] [(.int x1)])) (T2.setTop (mkF m 34 #[Rf a1, It (2 : Int32), .unset] [(.int u4)])) := by
    intro target kt
    show Steps _ _ _ (T2.setTop (mkF m 34 #[Rf a1, It (2 : Int32), .unset] [(.int u4)])) _
    refine XS.istoreN X2.here hx rfl (hb hby d12_34) rfl (l' := #[Rf a1, It (2 : Int32), It u4]) rfl ?_
    refine XS.iloadN X2.here hx rfl (hb hby d12_35) rfl ?_
    refine XS.iloadN X2.here hx rfl (hb hby d12_36) rfl ?_
    refine st6 _ ?_
    refine XS.aloadN X6.here hx rfl (hb hby d12_40) rfl rfl ?_
    refine st7 _ ?_
    refine XS.iloadN X7.here hx rfl (hb hby d12_44) rfl ?_
    refine XS.iloadN X7.here hx rfl (hb hby d12_45) rfl ?_
    refine st8 _ ?_
    exact kt
  obtain ⟨fs, hr, hrun, hended, hW, hsame⟩ := X8.leave (v := some (.int x1)) (fun h => by rw [Bd.returns] at h; cases h)
  refine ⟨_, _, pre0 _ (sg5 _ (sg9 _ (?_))), hrun, hended, _, _, rfl, ?_, ⟨_, rfl⟩, hW, hsame.mono (by decide) (by decide)⟩
  · show Steps _ _ _ (T8.setTop (mkF m 49 #[Rf a1, It (2 : Int32), It u4] [(.int x1)])) _
    exact retI X8 hx Bd.returns (hb hby d12_49) hr
  · show Q12_B2 Z a1 x1 zz vs kk tv vFM zC kt h0 n0 _ T8.heap _
    rw [e8]
    exact ⟨rfl, N8, rfl⟩
def Q25_P0 (Z : State) (a1 : Addr) (p3 : Int32) (x1 : Int32) (x2 : Int32) (zz : Int32) (vs : List Value) (ka : ClassId) (h0 : Heap) (n0 : Nat) (v : Option Value) (h : Heap) (L : List Loc) : Prop := v = some (.int (tcp x1 x2)) ∧ Fr n0 L ∧ h = h0
theorem rm25_P0 (l : Launch) (Z : State) (a0 : Array Value) (hw : ∀ d ∈ tables_1, d.before a0 Z = true) (ws : List Jvm.Cond) (a1 : Addr) (p3 : Int32) (x1 : Int32) (x2 : Int32) (zz : Int32) (vs : List Value) (ka : ClassId) (h0 : Heap) (n0 : Nat) (O0 : Old Z n0 h0) (sA : TS_0 Z) (sH : TS_1 Z) (sL : TS_2 Z) (h_z : (3 : Int32) < zz) (h_i : (1 : Int32) < p3) (h_b1 : HS x1) (h_b2 : LS x2) (g0 : vs.getD 0 (.int (0 : Int32)) = .int (lbt x1)) (g1 : vs.getD 1 (.int (0 : Int32)) = .int (hbt x1)) (g2 : vs.getD 2 (.int (0 : Int32)) = .int (lbt x2)) (g3 : vs.getD 3 (.int (0 : Int32)) = .int (hbt x2)) (A_a1 : Arv Z h0 a1 ka .byte zz vs (.int (0 : Int32))) :
    MetFree l m_23 (head1 (Jvm.Cond.code m_23 jdk_52_method_7_code 6 (some .int) :: ws) (rk 1 0 0 13)) (fun a U => a = #[(.ref a1), (.int (0 : Int32)), (.int p3), (.int (0 : Int32))] ∧ Z.Warmed39 U.vm ∧ U.heap = h0) (fun _ _ _ _ _ => True) (fun _ U o U' => ∃ v L, o = .returned v ∧ Q25_P0 Z a1 p3 x1 x2 zz vs ka h0 n0 v U'.heap L ∧ FrameEnd U o U' L (rk 1 0 0 13).cells (rk 1 0 0 13).slots) := by
  refine MetFree.of_bodySF (plainFor_of_name pn_2) hisR ?_
  intro p e s m args below meth c s₁ Bd hml0 hP hK
  obtain ⟨rfl, hZ, hh⟩ := hP
  have hx := Bd.exec
  have hby := Bd.bytes
  have hml : c.maxLocals = 6 := hml0
  have hown : s.vm.findClass "java/lang/StringUTF16" = some m.cls := findClass_of_methodNamed Bd.named
  have X0 : Stand p l e (rk 1 0 0 13) s m #[(.ref a1), (.int (0 : Int32)), (.int p3), (.int (0 : Int32))] below meth c s₁ [] 0 0 := Stand.of_body Bd
  have e0 : s₁.heap = h0 := by rw [← hh, Bd.state]; rfl
  have N0 := Fr.nil n0
  have pre0 := own_pre (tb := p.tables) (e := e) (bl := below) (s := s₁) (ef_25_B0 m a1 (0 : Int32) p3 (0 : Int32))
  obtain ⟨T1, X1, e1, st1⟩ := getS2 X0 hx hZ hown (host := "") (Or.inl (tw hw 102 rfl)) Via.refl e0 (sA.ext O0.2) (g := (mkF m 0 #[Rf a1, It (0 : Int32), It p3, It (0 : Int32), .unset, .unset] [])) rfl (hb hby d25_0)
  obtain ⟨_, _, ⟨T2, L2, k2, n2⟩, -, X2, ⟨Lc2, hQ2, l2, y2, z2⟩, st2⟩ := Jvm.LawKit.callS X1 hx (y := m_9) hown (mvT hZ (tw hw 105 rfl)) (mvT hZ (tw hw 106 rfl)) (mvT hZ (tw hw 26 rfl)) (mvT hZ (tw hw 107 rfl)) (by decide) (backOf (W := 0) (rm23_0 l Z a0 hw [] a1 x1 zz vs ka h0 n0 O0 sA sH sL (own_ltz h_z (by decide)) g0 g1 h_b1.1 A_a1) hZ (tw hw 107 rfl) (tw hw 26 rfl) (by decide) (by decide)) (g := (mkF m 30 #[Rf a1, It (0 : Int32), It p3, It (0 : Int32), .unset, .unset] [(.int (0 : Int32)), (.ref a1)])) rfl (by rw [hml]; rfl) (argsL := [(.ref a1), (.int (0 : Int32))]) (rest := []) (lenOf pd_5 rfl) rfl (w0 rfl) (hb hby d25_30) (fun _ _ => ⟨rfl, e1, (by decide : 0 + 0 ≤ _), (by decide : 0 + 0 ≤ _)⟩)
  dsimp only [Pt.U, Pt.locs, Pt.cells, Pt.slots] at X2 l2 y2 z2 st2 hQ2
  subst l2 y2 z2
  obtain ⟨rfl, N2q, e2⟩ := hQ2
  have N2 := Fr.app N0 N2q
  obtain ⟨_, _, ⟨T3, L3, k3, n3⟩, -, X3, ⟨Lc3, hQ3, l3, y3, z3⟩, st3⟩ := Jvm.LawKit.callS X2 hx (y := m_5) hown (mvT hZ (tw hw 114 rfl)) (mvT hZ (tw hw 115 rfl)) (mvT hZ (tw hw 77 rfl)) (mvT hZ (tw hw 116 rfl)) (by decide) (backOf (W := 0) (rm26 l Z a0 hw [] x1 h0 n0 O0 ) hZ (tw hw 116 rfl) (tw hw 77 rfl) (by decide) (by decide)) (g := (mkF m 37 #[Rf a1, It (0 : Int32), It p3, It (0 : Int32), It x1, .unset] [(.int x1)])) rfl (by rw [hml]; rfl) (argsL := [(.int x1)]) (rest := []) (lenOf pd_10 rfl) rfl (w0 rfl) (hb hby d25_37) (fun _ _ => ⟨rfl, e2, (by decide : 0 + 0 ≤ _), (by decide : 0 + 0 ≤ _)⟩)
  dsimp only [Pt.U, Pt.locs, Pt.cells, Pt.slots] at X3 l3 y3 z3 st3 hQ3
  subst l3 y3 z3
  obtain ⟨rfl, N3q, e3⟩ := hQ3
  have N3 := Fr.app N2 N3q
  obtain ⟨r3, hr3⟩ : ∃ z, z = (if x1 < (55296 : Int32) then (0 : Int32) else (if x1 < (56320 : Int32) then (1 : Int32) else (0 : Int32))) := ⟨_, rfl⟩
  rw [← hr3] at st3
  obtain ⟨_, _, ⟨T4, L4, k4, n4⟩, -, X4, ⟨Lc4, hQ4, l4, y4, z4⟩, st4⟩ := Jvm.LawKit.callS X3 hx (y := m_9) hown (mvT hZ (tw hw 105 rfl)) (mvT hZ (tw hw 106 rfl)) (mvT hZ (tw hw 26 rfl)) (mvT hZ (tw hw 107 rfl)) (by decide) (backOf (W := 0) (rm23_1 l Z a0 hw [] a1 x2 zz vs ka h0 n0 O0 sA sH sL h_z g2 g3 h_b2.1 A_a1) hZ (tw hw 107 rfl) (tw hw 26 rfl) (by decide) (by decide)) (g := (mkF m 62 #[Rf a1, .val (.int ((0 : Int32) + (1 : Int32))), It p3, It (0 : Int32), It x1, .unset] [(.int ((0 : Int32) + (1 : Int32))), (.ref a1)])) rfl (by rw [hml]; rfl) (argsL := [(.ref a1), (.int ((0 : Int32) + (1 : Int32)))]) (rest := []) (lenOf pd_5 rfl) rfl (w0 rfl) (hb hby d25_62) (fun _ _ => ⟨rfl, e3, (by decide : 0 + 0 ≤ _), (by decide : 0 + 0 ≤ _)⟩)
  dsimp only [Pt.U, Pt.locs, Pt.cells, Pt.slots] at X4 l4 y4 z4 st4 hQ4
  subst l4 y4 z4
  obtain ⟨rfl, N4q, e4⟩ := hQ4
  have N4 := Fr.app N3 N4q
  obtain ⟨_, _, ⟨T5, L5, k5, n5⟩, -, X5, ⟨Lc5, hQ5, l5, y5, z5⟩, st5⟩ := Jvm.LawKit.callS X4 hx (y := m_6) hown (mvT hZ (tw hw 119 rfl)) (mvT hZ (tw hw 120 rfl)) (mvT hZ (tw hw 77 rfl)) (mvT hZ (tw hw 121 rfl)) (by decide) (backOf (W := 0) (rm27 l Z a0 hw [] x2 h0 n0 O0 ) hZ (tw hw 121 rfl) (tw hw 77 rfl) (by decide) (by decide)) (g := (mkF m 69 #[Rf a1, .val (.int ((0 : Int32) + (1 : Int32))), It p3, It (0 : Int32), It x1, It x2] [(.int x2)])) rfl (by rw [hml]; rfl) (argsL := [(.int x2)]) (rest := []) (lenOf pd_10 rfl) rfl (w0 rfl) (hb hby d25_69) (fun _ _ => ⟨rfl, e4, (by decide : 0 + 0 ≤ _), (by decide : 0 + 0 ≤ _)⟩)
  dsimp only [Pt.U, Pt.locs, Pt.cells, Pt.slots] at X5 l5 y5 z5 st5 hQ5
  subst l5 y5 z5
  obtain ⟨rfl, N5q, e5⟩ := hQ5
  have N5 := Fr.app N4 N5q
  obtain ⟨r5, hr5⟩ : ∃ z, z = (if x2 < (56320 : Int32) then (0 : Int32) else (if x2 < (57344 : Int32) then (1 : Int32) else (0 : Int32))) := ⟨_, rfl⟩
  rw [← hr5] at st5
  obtain ⟨_, _, ⟨T6, L6, k6, n6⟩, -, X6, ⟨Lc6, hQ6, l6, y6, z6⟩, st6⟩ := Jvm.LawKit.callS X5 hx (y := m_7) hown (mvT hZ (tw hw 123 rfl)) (mvT hZ (tw hw 124 rfl)) (mvT hZ (tw hw 77 rfl)) (mvT hZ (tw hw 125 rfl)) (by decide) (backOf (W := 0) (rm28 l Z a0 hw [] x1 x2 h0 n0 O0 ) hZ (tw hw 125 rfl) (tw hw 77 rfl) (by decide) (by decide)) (g := (mkF m 79 #[Rf a1, .val (.int ((0 : Int32) + (1 : Int32))), It p3, It (0 : Int32), It x1, It x2] [(.int x2), (.int x1)])) rfl (by rw [hml]; rfl) (argsL := [(.int x1), (.int x2)]) (rest := []) (lenOf pd_15 rfl) rfl (w0 rfl) (hb hby d25_79) (fun _ _ => ⟨rfl, e5, (by decide : 0 + 0 ≤ _), (by decide : 0 + 0 ≤ _)⟩)
  dsimp only [Pt.U, Pt.locs, Pt.cells, Pt.slots] at X6 l6 y6 z6 st6 hQ6
  subst l6 y6 z6
  obtain ⟨rfl, N6q, e6⟩ := hQ6
  have N6 := Fr.app N5 N6q
  obtain ⟨r6, hr6⟩ : ∃ z, z = (((x1 <<< ((10 : Int32) &&& 31)) + x2) + (-56613888 : Int32)) := ⟨_, rfl⟩
  rw [← hr6] at st6
  have sg7 : SG p.tables e below (T6.setTop (mkF m 82 #[Rf a1, .val (.int ((0 : Int32) + (1 : Int32))), It p3, It (0 : Int32), It x1, It x2] [(.int r6)])) (s₁.setTop (mkF m 0 #[Rf a1, It (0 : Int32), It p3, It (0 : Int32), .unset, .unset] [])) := by
    intro target kt
    show Steps _ _ _ (s₁.setTop (mkF m 0 #[Rf a1, It (0 : Int32), It p3, It (0 : Int32), .unset, .unset] [])) _
    refine st1 _ ?_
    refine XS.ifYes X1.here hx rfl (pc0 := 3) (pc' := 19) rfl (hb hby d25_3) rfl ((if0 _ _).trans (feq (by decide : ¬ ((1 : Int32) = (0 : Int32)))).2) (by decide) (by decide) ?_
    refine XS.iloadN X1.here hx rfl (hb hby d25_19) rfl ?_
    refine XS.ifYes X1.here hx rfl (pc0 := 20) (pc' := 28) rfl (hb hby d25_20) rfl ((if0 _ _).trans (teq (by decide : (0 : Int32) = (0 : Int32))).1) (by decide) (by decide) ?_
    refine XS.aloadN X1.here hx rfl (hb hby d25_28) rfl rfl ?_
    refine XS.iloadN X1.here hx rfl (hb hby d25_29) rfl ?_
    refine st2 _ ?_
    refine XS.istore X2.here hx rfl (hb hby d25_33) rfl (l' := #[Rf a1, It (0 : Int32), It p3, It (0 : Int32), It x1, .unset]) rfl ?_
    refine XS.iload X2.here hx rfl (hb hby d25_35) rfl ?_
    refine st3 _ ?_
    refine XS.ifNo X3.here hx rfl (hb hby d25_40) rfl ((if0 _ _).trans (feq (own_ihs h_b1 hr3)).1) ?_
    refine XS.iinc X3.here hx rfl (hb hby d25_43) rfl (l' := #[Rf a1, .val (.int ((0 : Int32) + (1 : Int32))), It p3, It (0 : Int32), It x1, .unset]) rfl ?_
    refine XS.iloadN X3.here hx rfl (hb hby d25_46) rfl ?_
    refine XS.iloadN X3.here hx rfl (hb hby d25_47) rfl ?_
    refine XS.icmpNo X3.here hx rfl (hb hby d25_48) rfl (tlt (own_ltz h_i (by decide))).2.1 ?_
    refine XS.iloadN X3.here hx rfl (hb hby d25_51) rfl ?_
    refine XS.ifYes X3.here hx rfl (pc0 := 52) (pc' := 60) rfl (hb hby d25_52) rfl ((if0 _ _).trans (teq (by decide : (0 : Int32) = (0 : Int32))).1) (by decide) (by decide) ?_
    refine XS.aloadN X3.here hx rfl (hb hby d25_60) rfl rfl ?_
    refine XS.iloadN X3.here hx rfl (hb hby d25_61) rfl ?_
    refine st4 _ ?_
    refine XS.istore X4.here hx rfl (hb hby d25_65) rfl (l' := #[Rf a1, .val (.int ((0 : Int32) + (1 : Int32))), It p3, It (0 : Int32), It x1, It x2]) rfl ?_
    refine XS.iload X4.here hx rfl (hb hby d25_67) rfl ?_
    refine st5 _ ?_
    refine XS.ifNo X5.here hx rfl (hb hby d25_72) rfl ((if0 _ _).trans (feq (own_ils h_b2 hr5)).1) ?_
    refine XS.iload X5.here hx rfl (hb hby d25_75) rfl ?_
    refine XS.iload X5.here hx rfl (hb hby d25_77) rfl ?_
    refine st6 _ ?_
    exact kt
  obtain ⟨fs, hr, hrun, hended, hW, hsame⟩ := X6.leave (v := some (.int r6)) (fun h => by rw [Bd.returns] at h; cases h)
  refine ⟨_, _, pre0 _ (sg7 _ (?_)), hrun, hended, _, _, rfl, ?_, ⟨_, rfl⟩, hW, hsame.mono (by decide) (by decide)⟩
  · show Steps _ _ _ (T6.setTop (mkF m 82 #[Rf a1, .val (.int ((0 : Int32) + (1 : Int32))), It p3, It (0 : Int32), It x1, It x2] [(.int r6)])) _
    exact retI X6 hx Bd.returns (hb hby d25_82) hr
  · show Q25_P0 Z a1 p3 x1 x2 zz vs ka h0 n0 _ T6.heap _
    rw [e6]
    exact ⟨(by rw [hr6]; rfl), N6, rfl⟩
def Q24_P0 (Z : State) (a1 : Addr) (p3 : Int32) (x1 : Int32) (x2 : Int32) (zz : Int32) (vs : List Value) (ka : ClassId) (h0 : Heap) (n0 : Nat) (v : Option Value) (h : Heap) (L : List Loc) : Prop := v = some (.int (tcp x1 x2)) ∧ Fr n0 L ∧ h = h0
theorem rm24_P0 (l : Launch) (Z : State) (a0 : Array Value) (hw : ∀ d ∈ tables_1, d.before a0 Z = true) (ws : List Jvm.Cond) (a1 : Addr) (p3 : Int32) (x1 : Int32) (x2 : Int32) (zz : Int32) (vs : List Value) (ka : ClassId) (h0 : Heap) (n0 : Nat) (O0 : Old Z n0 h0) (sA : TS_0 Z) (sH : TS_1 Z) (sL : TS_2 Z) (h_z : (3 : Int32) < zz) (h_i : (1 : Int32) < p3) (h_b1 : HS x1) (h_b2 : LS x2) (g0 : vs.getD 0 (.int (0 : Int32)) = .int (lbt x1)) (g1 : vs.getD 1 (.int (0 : Int32)) = .int (hbt x1)) (g2 : vs.getD 2 (.int (0 : Int32)) = .int (lbt x2)) (g3 : vs.getD 3 (.int (0 : Int32)) = .int (hbt x2)) (A_a1 : Arv Z h0 a1 ka .byte zz vs (.int (0 : Int32))) :
    MetFree l m_24 (head1 (Jvm.Cond.code m_24 jdk_52_method_8_code 3 (some .int) :: ws) (rk 2 0 0 30)) (fun a U => a = #[(.ref a1), (.int (0 : Int32)), (.int p3)] ∧ Z.Warmed39 U.vm ∧ U.heap = h0) (fun _ _ _ _ _ => True) (fun _ U o U' => ∃ v L, o = .returned v ∧ Q24_P0 Z a1 p3 x1 x2 zz vs ka h0 n0 v U'.heap L ∧ FrameEnd U o U' L (rk 2 0 0 30).cells (rk 2 0 0 30).slots) := by
  refine MetFree.of_bodySF (plainFor_of_name pn_2) hisR ?_
  intro p e s m args below meth c s₁ Bd hml0 hP hK
  obtain ⟨rfl, hZ, hh⟩ := hP
  have hx := Bd.exec
  have hby := Bd.bytes
  have hml : c.maxLocals = 3 := hml0
  have hown : s.vm.findClass "java/lang/StringUTF16" = some m.cls := findClass_of_methodNamed Bd.named
  have X0 : Stand p l e (rk 2 0 0 30) s m #[(.ref a1), (.int (0 : Int32)), (.int p3)] below meth c s₁ [] 0 0 := Stand.of_body Bd
  have e0 : s₁.heap = h0 := by rw [← hh, Bd.state]; rfl
  have N0 := Fr.nil n0
  have pre0 := own_pre (tb := p.tables) (e := e) (bl := below) (s := s₁) (ef_22_0 m a1 (0 : Int32) p3)
  obtain ⟨_, _, ⟨T1, L1, k1, n1⟩, -, X1, ⟨Lc1, hQ1, l1, y1, z1⟩, st1⟩ := Jvm.LawKit.callS X0 hx (y := m_23) hown (mvT hZ (tw hw 111 rfl)) (mvT hZ (tw hw 112 rfl)) (mvT hZ (tw hw 26 rfl)) (mvT hZ (tw hw 113 rfl)) (by decide) (backOf (W := 0) (rm25_P0 l Z a0 hw [] a1 p3 x1 x2 zz vs ka h0 n0 O0 sA sH sL h_z h_i h_b1 h_b2 g0 g1 g2 g3 A_a1) hZ (tw hw 113 rfl) (tw hw 26 rfl) (by decide) (by decide)) (g := (mkF m 4 #[Rf a1, It (0 : Int32), It p3] [(.int (0 : Int32)), (.int p3), (.int (0 : Int32)), (.ref a1)])) rfl (by rw [hml]; rfl) (argsL := [(.ref a1), (.int (0 : Int32)), (.int p3), (.int (0 : Int32))]) (rest := []) (lenOf pd_11 rfl) rfl (w0 rfl) (hb hby d24_4) (fun _ _ => ⟨rfl, e0, (by decide : 0 + 0 ≤ _), (by decide : 0 + 0 ≤ _)⟩)
  dsimp only [Pt.U, Pt.locs, Pt.cells, Pt.slots] at X1 l1 y1 z1 st1 hQ1
  subst l1 y1 z1
  obtain ⟨rfl, N1q, e1⟩ := hQ1
  have N1 := Fr.app N0 N1q
  obtain ⟨r1, hr1⟩ : ∃ z, z = (tcp x1 x2) := ⟨_, rfl⟩
  rw [← hr1] at st1
  have sg2 : SG p.tables e below (T1.setTop (mkF m 7 #[Rf a1, It (0 : Int32), It p3] [(.int r1)])) (s₁.setTop (mkF m 0 #[Rf a1, It (0 : Int32), It p3] [])) := by
    intro target kt
    show Steps _ _ _ (s₁.setTop (mkF m 0 #[Rf a1, It (0 : Int32), It p3] [])) _
    refine XS.aloadN X0.here hx rfl (hb hby d24_0) rfl rfl ?_
    refine XS.iloadN X0.here hx rfl (hb hby d24_1) rfl ?_
    refine XS.iloadN X0.here hx rfl (hb hby d24_2) rfl ?_
    refine XS.iconst X0.here hx rfl (hb hby d24_3) ?_
    refine st1 _ ?_
    exact kt
  obtain ⟨fs, hr, hrun, hended, hW, hsame⟩ := X1.leave (v := some (.int r1)) (fun h => by rw [Bd.returns] at h; cases h)
  refine ⟨_, _, pre0 _ (sg2 _ (?_)), hrun, hended, _, _, rfl, ?_, ⟨_, rfl⟩, hW, hsame.mono (by decide) (by decide)⟩
  · show Steps _ _ _ (T1.setTop (mkF m 7 #[Rf a1, It (0 : Int32), It p3] [(.int r1)])) _
    exact retI X1 hx Bd.returns (hb hby d24_7) hr
  · show Q24_P0 Z a1 p3 x1 x2 zz vs ka h0 n0 _ T1.heap _
    rw [e1]
    exact ⟨(by rw [hr1]), N1, rfl⟩
def Q12_P0 (Z : State) (a1 : Addr) (x1 : Int32) (x2 : Int32) (zz : Int32) (vs : List Value) (kk : Int32) (tv : Addr) (vFM : Value) (zC : Int32) (kt : ClassId) (h0 : Heap) (n0 : Nat) (v : Option Value) (h : Heap) (L : List Loc) : Prop := v = some (.int (tcp x1 x2)) ∧ Fr n0 L ∧ h = h0
theorem rm12_P0 (l : Launch) (Z : State) (a0 : Array Value) (hw : ∀ d ∈ tables_1, d.before a0 Z = true) (ws : List Jvm.Cond) (a1 : Addr) (x1 : Int32) (x2 : Int32) (zz : Int32) (vs : List Value) (kk : Int32) (tv : Addr) (vFM : Value) (zC : Int32) (kt : ClassId) (h0 : Heap) (n0 : Nat) (O0 : Old Z n0 h0) (hCS : ¬ zC = 0) (hFM : vFM.isRef = true) (h_z : (3 : Int32) < zz) (h_k : (zz >>> ((1 : Int32) &&& 31)) = kk) (h_i : (1 : Int32) < kk) (sC : TS_3 Z zC) (sA : TS_0 Z) (sH : TS_1 Z) (sL : TS_2 Z) (sF : TS_6 Z vFM) (E_a1 : Exa Z h0 a1 "java/lang/String") (F_coder_a1 : Fld Z h0 a1 "java/lang/String" "coder" "B" (.int (1 : Int32))) (F_value_a1 : Fld Z h0 a1 "java/lang/String" "value" "[B" (.ref tv)) (h_b1 : HS x1) (h_b2 : LS x2) (g0 : vs.getD 0 (.int (0 : Int32)) = .int (lbt x1)) (g1 : vs.getD 1 (.int (0 : Int32)) = .int (hbt x1)) (g2 : vs.getD 2 (.int (0 : Int32)) = .int (lbt x2)) (g3 : vs.getD 3 (.int (0 : Int32)) = .int (hbt x2)) (A_tv : Arv Z h0 tv kt .byte zz vs (.int (0 : Int32))) :
    MetFree l m_25 (head1 (Jvm.Cond.code m_25 jdk_42_method_57_code 3 (some .int) :: ws) (rk 3 0 0 44)) (fun a U => a = #[(.ref a1), (.int (0 : Int32))] ∧ Z.Warmed39 U.vm ∧ U.heap = h0) (fun _ _ _ _ _ => True) (fun _ U o U' => ∃ v L, o = .returned v ∧ Q12_P0 Z a1 x1 x2 zz vs kk tv vFM zC kt h0 n0 v U'.heap L ∧ FrameEnd U o U' L (rk 3 0 0 44).cells (rk 3 0 0 44).slots) := by
  refine MetFree.of_bodySF (plainFor_of_name pn_3) hisR ?_
  intro p e s m args below meth c s₁ Bd hml0 hP hK
  obtain ⟨rfl, hZ, hh⟩ := hP
  have hx := Bd.exec
  have hby := Bd.bytes
  have hml : c.maxLocals = 3 := hml0
  have hown : s.vm.findClass "java/lang/String" = some m.cls := findClass_of_methodNamed Bd.named
  have X0 : Stand p l e (rk 3 0 0 44) s m #[(.ref a1), (.int (0 : Int32))] below meth c s₁ [] 0 0 := Stand.of_body Bd
  have e0 : s₁.heap = h0 := by rw [← hh, Bd.state]; rfl
  have N0 := Fr.nil n0
  have pre0 := own_pre (tb := p.tables) (e := e) (bl := below) (s := s₁) (ef_12_B0 m a1 (0 : Int32))
  obtain ⟨cq1, kq1, q1a, q1b, q1c⟩ := isOf hZ e0 E_a1
  obtain ⟨_, _, ⟨T1, L1, k1, n1⟩, -, X1, ⟨Lc1, hQ1, l1, y1, z1⟩, st1⟩ := X0.virtualBack hx (y := m_19) (z := m_19) hown (mvT hZ (tw hw 61 rfl)) (mvT hZ (tw hw 62 rfl)) (notFace_of_selects (args := #[]) (mvT hZ (tw hw 64 rfl))) (mvT hZ (tw hw 64 rfl)) (mvT hZ (tw hw 63 rfl)) (by decide) (backOf (W := 0) (rm13_1 l Z a0 hw [] a1 zC h0 n0 O0 hCS sC F_coder_a1) hZ (tw hw 65 rfl) (tw hw 6 rfl) (by decide) (by decide)) q1a q1c (g := (mkF m 1 #[Rf a1, It (0 : Int32), .unset] [(.ref a1)])) rfl (by rw [hml]; rfl) (Steps.refl _) (argsL := []) (rest := []) (lenOf pd_12 rfl) rfl (w0 rfl) (hb hby d12_1) (fun _ _ => ⟨rfl, e0, (by decide : 0 + 0 ≤ _), (by decide : 0 + 0 ≤ _)⟩)
  dsimp only [Pt.U, Pt.locs, Pt.cells, Pt.slots] at X1 l1 y1 z1 st1 hQ1
  subst l1 y1 z1
  obtain ⟨rfl, N1q, e1⟩ := hQ1
  have N1 := Fr.app N0 N1q
  obtain ⟨T2, X2, e2, st2⟩ := getF X1 hx hZ hown (host := "") (Or.inl (tw hw 37 rfl)) Via.refl e1 F_value_a1 (g := (mkF m 28 #[Rf a1, It (0 : Int32), .unset] [(.ref a1)])) rfl rfl (hb hby d12_28)
  obtain ⟨cl3, Ar3, -, Sz3, Nn3, -, -⟩ := id A_tv
  obtain ⟨u4, hu4⟩ : ∃ z, z = (zz >>> ((1 : Int32) &&& 31)) := ⟨_, rfl⟩
  have sg5 : SG p.tables e below (T2.setTop (mkF m 34 #[Rf a1, It (0 : Int32), .unset] [(.int u4)])) (s₁.setTop (mkF m 0 #[Rf a1, It (0 : Int32), .unset] [])) := by
    intro target kt
    subst hu4
    show Steps _ _ _ (s₁.setTop (mkF m 0 #[Rf a1, It (0 : Int32), .unset] [])) _
    refine XS.aloadN X0.here hx rfl (hb hby d12_0) rfl rfl ?_
    refine st1.trans ?_
    refine XS.ifYes X1.here hx rfl (pc0 := 4) (pc' := 27) rfl (hb hby d12_4) rfl ((if0 _ _).trans (teq (by decide : (0 : Int32) = (0 : Int32))).1) (by decide) (by decide) ?_
    refine XS.aloadN X1.here hx rfl (hb hby d12_27) rfl rfl ?_
    refine st2 _ ?_
    refine X2.arraylength hx (own_rwh e2 Ar3.1) (State.isArrayOf_alike hZ.alike Ar3.2.1) (g := (mkF m 31 #[Rf a1, It (0 : Int32), .unset] [(.ref tv)])) rfl rfl (hb hby d12_31) _ ?_
    rw [len_of Sz3 Nn3]
    show Steps _ _ _ (T2.setTop (mkF m 32 #[Rf a1, It (0 : Int32), .unset] [(.int zz)])) _
    refine XS.iconst X2.here hx rfl (hb hby d12_32) ?_
    refine XS.ishr X2.here hx rfl (hb hby d12_33) rfl ?_
    exact kt
  have hkk : u4 = kk := hu4.trans h_k
  have hik : (1 : Int32) < u4 := by rw [hkk]; exact h_i
  obtain ⟨_, _, ⟨T6, L6, k6, n6⟩, -, X6, ⟨Lc6, hQ6, l6, y6, z6⟩, st6⟩ := Jvm.LawKit.callS X2 hx (y := m_22) hown (mvT hZ (tw hw 66 rfl)) (mvT hZ (tw hw 67 rfl)) (mvT hZ (tw hw 6 rfl)) (mvT hZ (tw hw 68 rfl)) (by decide) (backOf (W := 0) (rm14 l Z a0 hw [] (0 : Int32) u4 vFM h0 n0 O0 hFM (by decide) (own_ltz hik (by decide)) sF) hZ (tw hw 68 rfl) (tw hw 6 rfl) (by decide) (by decide)) (g := (mkF m 37 #[Rf a1, It (0 : Int32), It u4] [(.int u4), (.int (0 : Int32))])) rfl (by rw [hml]; rfl) (argsL := [(.int (0 : Int32)), (.int u4)]) (rest := []) (lenOf pd_13 rfl) rfl (w0 rfl) (hb hby d12_37) (fun _ _ => ⟨rfl, e2, (by decide : 0 + 0 ≤ _), (by decide : 0 + 0 ≤ _)⟩)
  dsimp only [Pt.U, Pt.locs, Pt.cells, Pt.slots] at X6 l6 y6 z6 st6 hQ6
  subst l6 y6 z6
  obtain ⟨rfl, N6q, e6⟩ := hQ6
  have N6 := Fr.app N1 N6q
  obtain ⟨T7, X7, e7, st7⟩ := getF X6 hx hZ hown (host := "") (Or.inl (tw hw 37 rfl)) Via.refl e6 F_value_a1 (g := (mkF m 41 #[Rf a1, It (0 : Int32), It u4] [(.ref a1)])) rfl rfl (hb hby d12_41)
  obtain ⟨_, _, ⟨T8, L8, k8, n8⟩, -, X8, ⟨Lc8, hQ8, l8, y8, z8⟩, st8⟩ := Jvm.LawKit.callS X7 hx (y := m_24) hown (mvT hZ (tw hw 108 rfl)) (mvT hZ (tw hw 109 rfl)) (mvT hZ (tw hw 26 rfl)) (mvT hZ (tw hw 110 rfl)) (by decide) (backOf (W := 0) (rm24_P0 l Z a0 hw [] tv u4 x1 x2 zz vs kt h0 n0 O0 sA sH sL h_z hik h_b1 h_b2 g0 g1 g2 g3 A_tv) hZ (tw hw 110 rfl) (tw hw 26 rfl) (by decide) (by decide)) (g := (mkF m 46 #[Rf a1, It (0 : Int32), It u4] [(.int u4), (.int (0 : Int32)), (.ref tv)])) rfl (by rw [hml]; rfl) (argsL := [(.ref tv), (.int (0 : Int32)), (.int u4)]) (rest := []) (lenOf pd_14 rfl) rfl (w0 rfl) (hb hby d12_46) (fun _ _ => ⟨rfl, e7, (by decide : 0 + 0 ≤ _), (by decide : 0 + 0 ≤ _)⟩)
  dsimp only [Pt.U, Pt.locs, Pt.cells, Pt.slots] at X8 l8 y8 z8 st8 hQ8
  subst l8 y8 z8
  obtain ⟨rfl, N8q, e8⟩ := hQ8
  have N8 := Fr.app N6 N8q
  obtain ⟨r8, hr8⟩ : ∃ z, z = (tcp x1 x2) := ⟨_, rfl⟩
  rw [← hr8] at st8
  have sg9 : SG p.tables e below (T8.setTop (mkF m 49 #[Rf a1, It (0 : Int32), It u4] [(.int r8)])) (T2.setTop (mkF m 34 #[Rf a1, It (0 : Int32), .unset] [(.int u4)])) := by
    intro target kt
    show Steps _ _ _ (T2.setTop (mkF m 34 #[Rf a1, It (0 : Int32), .unset] [(.int u4)])) _
    refine XS.istoreN X2.here hx rfl (hb hby d12_34) rfl (l' := #[Rf a1, It (0 : Int32), It u4]) rfl ?_
    refine XS.iloadN X2.here hx rfl (hb hby d12_35) rfl ?_
    refine XS.iloadN X2.here hx rfl (hb hby d12_36) rfl ?_
    refine st6 _ ?_
    refine XS.aloadN X6.here hx rfl (hb hby d12_40) rfl rfl ?_
    refine st7 _ ?_
    refine XS.iloadN X7.here hx rfl (hb hby d12_44) rfl ?_
    refine XS.iloadN X7.here hx rfl (hb hby d12_45) rfl ?_
    refine st8 _ ?_
    exact kt
  obtain ⟨fs, hr, hrun, hended, hW, hsame⟩ := X8.leave (v := some (.int r8)) (fun h => by rw [Bd.returns] at h; cases h)
  refine ⟨_, _, pre0 _ (sg5 _ (sg9 _ (?_))), hrun, hended, _, _, rfl, ?_, ⟨_, rfl⟩, hW, hsame.mono (by decide) (by decide)⟩
  · show Steps _ _ _ (T8.setTop (mkF m 49 #[Rf a1, It (0 : Int32), It u4] [(.int r8)])) _
    exact retI X8 hx Bd.returns (hb hby d12_49) hr
  · show Q12_P0 Z a1 x1 x2 zz vs kk tv vFM zC kt h0 n0 _ T8.heap _
    rw [e8]
    exact ⟨(by rw [hr8]), N8, rfl⟩
def Q25_P1 (Z : State) (a1 : Addr) (p3 : Int32) (x1 : Int32) (x2 : Int32) (zz : Int32) (vs : List Value) (ka : ClassId) (h0 : Heap) (n0 : Nat) (v : Option Value) (h : Heap) (L : List Loc) : Prop := v = some (.int (tcp x1 x2)) ∧ Fr n0 L ∧ h = h0
theorem rm25_P1 (l : Launch) (Z : State) (a0 : Array Value) (hw : ∀ d ∈ tables_1, d.before a0 Z = true) (ws : List Jvm.Cond) (a1 : Addr) (p3 : Int32) (x1 : Int32) (x2 : Int32) (zz : Int32) (vs : List Value) (ka : ClassId) (h0 : Heap) (n0 : Nat) (O0 : Old Z n0 h0) (sA : TS_0 Z) (sH : TS_1 Z) (sL : TS_2 Z) (h_z : (5 : Int32) < zz) (h_i : (2 : Int32) < p3) (h_b1 : HS x1) (h_b2 : LS x2) (g0 : vs.getD 2 (.int (0 : Int32)) = .int (lbt x1)) (g1 : vs.getD 3 (.int (0 : Int32)) = .int (hbt x1)) (g2 : vs.getD 4 (.int (0 : Int32)) = .int (lbt x2)) (g3 : vs.getD 5 (.int (0 : Int32)) = .int (hbt x2)) (A_a1 : Arv Z h0 a1 ka .byte zz vs (.int (0 : Int32))) :
    MetFree l m_23 (head1 (Jvm.Cond.code m_23 jdk_52_method_7_code 6 (some .int) :: ws) (rk 1 0 0 13)) (fun a U => a = #[(.ref a1), (.int (1 : Int32)), (.int p3), (.int (0 : Int32))] ∧ Z.Warmed39 U.vm ∧ U.heap = h0) (fun _ _ _ _ _ => True) (fun _ U o U' => ∃ v L, o = .returned v ∧ Q25_P1 Z a1 p3 x1 x2 zz vs ka h0 n0 v U'.heap L ∧ FrameEnd U o U' L (rk 1 0 0 13).cells (rk 1 0 0 13).slots) := by
  refine MetFree.of_bodySF (plainFor_of_name pn_2) hisR ?_
  intro p e s m args below meth c s₁ Bd hml0 hP hK
  obtain ⟨rfl, hZ, hh⟩ := hP
  have hx := Bd.exec
  have hby := Bd.bytes
  have hml : c.maxLocals = 6 := hml0
  have hown : s.vm.findClass "java/lang/StringUTF16" = some m.cls := findClass_of_methodNamed Bd.named
  have X0 : Stand p l e (rk 1 0 0 13) s m #[(.ref a1), (.int (1 : Int32)), (.int p3), (.int (0 : Int32))] below meth c s₁ [] 0 0 := Stand.of_body Bd
  have e0 : s₁.heap = h0 := by rw [← hh, Bd.state]; rfl
  have N0 := Fr.nil n0
  have pre0 := own_pre (tb := p.tables) (e := e) (bl := below) (s := s₁) (ef_25_B0 m a1 (1 : Int32) p3 (0 : Int32))
  obtain ⟨T1, X1, e1, st1⟩ := getS2 X0 hx hZ hown (host := "") (Or.inl (tw hw 102 rfl)) Via.refl e0 (sA.ext O0.2) (g := (mkF m 0 #[Rf a1, It (1 : Int32), It p3, It (0 : Int32), .unset, .unset] [])) rfl (hb hby d25_0)
  obtain ⟨_, _, ⟨T2, L2, k2, n2⟩, -, X2, ⟨Lc2, hQ2, l2, y2, z2⟩, st2⟩ := Jvm.LawKit.callS X1 hx (y := m_9) hown (mvT hZ (tw hw 105 rfl)) (mvT hZ (tw hw 106 rfl)) (mvT hZ (tw hw 26 rfl)) (mvT hZ (tw hw 107 rfl)) (by decide) (backOf (W := 0) (rm23_1 l Z a0 hw [] a1 x1 zz vs ka h0 n0 O0 sA sH sL (own_ltz h_z (by decide)) g0 g1 h_b1.1 A_a1) hZ (tw hw 107 rfl) (tw hw 26 rfl) (by decide) (by decide)) (g := (mkF m 30 #[Rf a1, It (1 : Int32), It p3, It (0 : Int32), .unset, .unset] [(.int (1 : Int32)), (.ref a1)])) rfl (by rw [hml]; rfl) (argsL := [(.ref a1), (.int (1 : Int32))]) (rest := []) (lenOf pd_5 rfl) rfl (w0 rfl) (hb hby d25_30) (fun _ _ => ⟨rfl, e1, (by decide : 0 + 0 ≤ _), (by decide : 0 + 0 ≤ _)⟩)
  dsimp only [Pt.U, Pt.locs, Pt.cells, Pt.slots] at X2 l2 y2 z2 st2 hQ2
  subst l2 y2 z2
  obtain ⟨rfl, N2q, e2⟩ := hQ2
  have N2 := Fr.app N0 N2q
  obtain ⟨_, _, ⟨T3, L3, k3, n3⟩, -, X3, ⟨Lc3, hQ3, l3, y3, z3⟩, st3⟩ := Jvm.LawKit.callS X2 hx (y := m_5) hown (mvT hZ (tw hw 114 rfl)) (mvT hZ (tw hw 115 rfl)) (mvT hZ (tw hw 77 rfl)) (mvT hZ (tw hw 116 rfl)) (by decide) (backOf (W := 0) (rm26 l Z a0 hw [] x1 h0 n0 O0 ) hZ (tw hw 116 rfl) (tw hw 77 rfl) (by decide) (by decide)) (g := (mkF m 37 #[Rf a1, It (1 : Int32), It p3, It (0 : Int32), It x1, .unset] [(.int x1)])) rfl (by rw [hml]; rfl) (argsL := [(.int x1)]) (rest := []) (lenOf pd_10 rfl) rfl (w0 rfl) (hb hby d25_37) (fun _ _ => ⟨rfl, e2, (by decide : 0 + 0 ≤ _), (by decide : 0 + 0 ≤ _)⟩)
  dsimp only [Pt.U, Pt.locs, Pt.cells, Pt.slots] at X3 l3 y3 z3 st3 hQ3
  subst l3 y3 z3
  obtain ⟨rfl, N3q, e3⟩ := hQ3
  have N3 := Fr.app N2 N3q
  obtain ⟨r3, hr3⟩ : ∃ z, z = (if x1 < (55296 : Int32) then (0 : Int32) else (if x1 < (56320 : Int32) then (1 : Int32) else (0 : Int32))) := ⟨_, rfl⟩
  rw [← hr3] at st3
  obtain ⟨_, _, ⟨T4, L4, k4, n4⟩, -, X4, ⟨Lc4, hQ4, l4, y4, z4⟩, st4⟩ := Jvm.LawKit.callS X3 hx (y := m_9) hown (mvT hZ (tw hw 105 rfl)) (mvT hZ (tw hw 106 rfl)) (mvT hZ (tw hw 26 rfl)) (mvT hZ (tw hw 107 rfl)) (by decide) (backOf (W := 0) (rm23_2 l Z a0 hw [] a1 x2 zz vs ka h0 n0 O0 sA sH sL h_z g2 g3 h_b2.1 A_a1) hZ (tw hw 107 rfl) (tw hw 26 rfl) (by decide) (by decide)) (g := (mkF m 62 #[Rf a1, .val (.int ((1 : Int32) + (1 : Int32))), It p3, It (0 : Int32), It x1, .unset] [(.int ((1 : Int32) + (1 : Int32))), (.ref a1)])) rfl (by rw [hml]; rfl) (argsL := [(.ref a1), (.int ((1 : Int32) + (1 : Int32)))]) (rest := []) (lenOf pd_5 rfl) rfl (w0 rfl) (hb hby d25_62) (fun _ _ => ⟨rfl, e3, (by decide : 0 + 0 ≤ _), (by decide : 0 + 0 ≤ _)⟩)
  dsimp only [Pt.U, Pt.locs, Pt.cells, Pt.slots] at X4 l4 y4 z4 st4 hQ4
  subst l4 y4 z4
  obtain ⟨rfl, N4q, e4⟩ := hQ4
  have N4 := Fr.app N3 N4q
  obtain ⟨_, _, ⟨T5, L5, k5, n5⟩, -, X5, ⟨Lc5, hQ5, l5, y5, z5⟩, st5⟩ := Jvm.LawKit.callS X4 hx (y := m_6) hown (mvT hZ (tw hw 119 rfl)) (mvT hZ (tw hw 120 rfl)) (mvT hZ (tw hw 77 rfl)) (mvT hZ (tw hw 121 rfl)) (by decide) (backOf (W := 0) (rm27 l Z a0 hw [] x2 h0 n0 O0 ) hZ (tw hw 121 rfl) (tw hw 77 rfl) (by decide) (by decide)) (g := (mkF m 69 #[Rf a1, .val (.int ((1 : Int32) + (1 : Int32))), It p3, It (0 : Int32), It x1, It x2] [(.int x2)])) rfl (by rw [hml]; rfl) (argsL := [(.int x2)]) (rest := []) (lenOf pd_10 rfl) rfl (w0 rfl) (hb hby d25_69) (fun _ _ => ⟨rfl, e4, (by decide : 0 + 0 ≤ _), (by decide : 0 + 0 ≤ _)⟩)
  dsimp only [Pt.U, Pt.locs, Pt.cells, Pt.slots] at X5 l5 y5 z5 st5 hQ5
  subst l5 y5 z5
  obtain ⟨rfl, N5q, e5⟩ := hQ5
  have N5 := Fr.app N4 N5q
  obtain ⟨r5, hr5⟩ : ∃ z, z = (if x2 < (56320 : Int32) then (0 : Int32) else (if x2 < (57344 : Int32) then (1 : Int32) else (0 : Int32))) := ⟨_, rfl⟩
  rw [← hr5] at st5
  obtain ⟨_, _, ⟨T6, L6, k6, n6⟩, -, X6, ⟨Lc6, hQ6, l6, y6, z6⟩, st6⟩ := Jvm.LawKit.callS X5 hx (y := m_7) hown (mvT hZ (tw hw 123 rfl)) (mvT hZ (tw hw 124 rfl)) (mvT hZ (tw hw 77 rfl)) (mvT hZ (tw hw 125 rfl)) (by decide) (backOf (W := 0) (rm28 l Z a0 hw [] x1 x2 h0 n0 O0 ) hZ (tw hw 125 rfl) (tw hw 77 rfl) (by decide) (by decide)) (g := (mkF m 79 #[Rf a1, .val (.int ((1 : Int32) + (1 : Int32))), It p3, It (0 : Int32), It x1, It x2] [(.int x2), (.int x1)])) rfl (by rw [hml]; rfl) (argsL := [(.int x1), (.int x2)]) (rest := []) (lenOf pd_15 rfl) rfl (w0 rfl) (hb hby d25_79) (fun _ _ => ⟨rfl, e5, (by decide : 0 + 0 ≤ _), (by decide : 0 + 0 ≤ _)⟩)
  dsimp only [Pt.U, Pt.locs, Pt.cells, Pt.slots] at X6 l6 y6 z6 st6 hQ6
  subst l6 y6 z6
  obtain ⟨rfl, N6q, e6⟩ := hQ6
  have N6 := Fr.app N5 N6q
  obtain ⟨r6, hr6⟩ : ∃ z, z = (((x1 <<< ((10 : Int32) &&& 31)) + x2) + (-56613888 : Int32)) := ⟨_, rfl⟩
  rw [← hr6] at st6
  have sg7 : SG p.tables e below (T6.setTop (mkF m 82 #[Rf a1, .val (.int ((1 : Int32) + (1 : Int32))), It p3, It (0 : Int32), It x1, It x2] [(.int r6)])) (s₁.setTop (mkF m 0 #[Rf a1, It (1 : Int32), It p3, It (0 : Int32), .unset, .unset] [])) := by
    intro target kt
    show Steps _ _ _ (s₁.setTop (mkF m 0 #[Rf a1, It (1 : Int32), It p3, It (0 : Int32), .unset, .unset] [])) _
    refine st1 _ ?_
    refine XS.ifYes X1.here hx rfl (pc0 := 3) (pc' := 19) rfl (hb hby d25_3) rfl ((if0 _ _).trans (feq (by decide : ¬ ((1 : Int32) = (0 : Int32)))).2) (by decide) (by decide) ?_
    refine XS.iloadN X1.here hx rfl (hb hby d25_19) rfl ?_
    refine XS.ifYes X1.here hx rfl (pc0 := 20) (pc' := 28) rfl (hb hby d25_20) rfl ((if0 _ _).trans (teq (by decide : (0 : Int32) = (0 : Int32))).1) (by decide) (by decide) ?_
    refine XS.aloadN X1.here hx rfl (hb hby d25_28) rfl rfl ?_
    refine XS.iloadN X1.here hx rfl (hb hby d25_29) rfl ?_
    refine st2 _ ?_
    refine XS.istore X2.here hx rfl (hb hby d25_33) rfl (l' := #[Rf a1, It (1 : Int32), It p3, It (0 : Int32), It x1, .unset]) rfl ?_
    refine XS.iload X2.here hx rfl (hb hby d25_35) rfl ?_
    refine st3 _ ?_
    refine XS.ifNo X3.here hx rfl (hb hby d25_40) rfl ((if0 _ _).trans (feq (own_ihs h_b1 hr3)).1) ?_
    refine XS.iinc X3.here hx rfl (hb hby d25_43) rfl (l' := #[Rf a1, .val (.int ((1 : Int32) + (1 : Int32))), It p3, It (0 : Int32), It x1, .unset]) rfl ?_
    refine XS.iloadN X3.here hx rfl (hb hby d25_46) rfl ?_
    refine XS.iloadN X3.here hx rfl (hb hby d25_47) rfl ?_
    refine XS.icmpNo X3.here hx rfl (hb hby d25_48) rfl (tlt (own_ltz h_i (by decide))).2.1 ?_
    refine XS.iloadN X3.here hx rfl (hb hby d25_51) rfl ?_
    refine XS.ifYes X3.here hx rfl (pc0 := 52) (pc' := 60) rfl (hb hby d25_52) rfl ((if0 _ _).trans (teq (by decide : (0 : Int32) = (0 : Int32))).1) (by decide) (by decide) ?_
    refine XS.aloadN X3.here hx rfl (hb hby d25_60) rfl rfl ?_
    refine XS.iloadN X3.here hx rfl (hb hby d25_61) rfl ?_
    refine st4 _ ?_
    refine XS.istore X4.here hx rfl (hb hby d25_65) rfl (l' := #[Rf a1, .val (.int ((1 : Int32) + (1 : Int32))), It p3, It (0 : Int32), It x1, It x2]) rfl ?_
    refine XS.iload X4.here hx rfl (hb hby d25_67) rfl ?_
    refine st5 _ ?_
    refine XS.ifNo X5.here hx rfl (hb hby d25_72) rfl ((if0 _ _).trans (feq (own_ils h_b2 hr5)).1) ?_
    refine XS.iload X5.here hx rfl (hb hby d25_75) rfl ?_
    refine XS.iload X5.here hx rfl (hb hby d25_77) rfl ?_
    refine st6 _ ?_
    exact kt
  obtain ⟨fs, hr, hrun, hended, hW, hsame⟩ := X6.leave (v := some (.int r6)) (fun h => by rw [Bd.returns] at h; cases h)
  refine ⟨_, _, pre0 _ (sg7 _ (?_)), hrun, hended, _, _, rfl, ?_, ⟨_, rfl⟩, hW, hsame.mono (by decide) (by decide)⟩
  · show Steps _ _ _ (T6.setTop (mkF m 82 #[Rf a1, .val (.int ((1 : Int32) + (1 : Int32))), It p3, It (0 : Int32), It x1, It x2] [(.int r6)])) _
    exact retI X6 hx Bd.returns (hb hby d25_82) hr
  · show Q25_P1 Z a1 p3 x1 x2 zz vs ka h0 n0 _ T6.heap _
    rw [e6]
    exact ⟨(by rw [hr6]; rfl), N6, rfl⟩
def Q24_P1 (Z : State) (a1 : Addr) (p3 : Int32) (x1 : Int32) (x2 : Int32) (zz : Int32) (vs : List Value) (ka : ClassId) (h0 : Heap) (n0 : Nat) (v : Option Value) (h : Heap) (L : List Loc) : Prop := v = some (.int (tcp x1 x2)) ∧ Fr n0 L ∧ h = h0
theorem rm24_P1 (l : Launch) (Z : State) (a0 : Array Value) (hw : ∀ d ∈ tables_1, d.before a0 Z = true) (ws : List Jvm.Cond) (a1 : Addr) (p3 : Int32) (x1 : Int32) (x2 : Int32) (zz : Int32) (vs : List Value) (ka : ClassId) (h0 : Heap) (n0 : Nat) (O0 : Old Z n0 h0) (sA : TS_0 Z) (sH : TS_1 Z) (sL : TS_2 Z) (h_z : (5 : Int32) < zz) (h_i : (2 : Int32) < p3) (h_b1 : HS x1) (h_b2 : LS x2) (g0 : vs.getD 2 (.int (0 : Int32)) = .int (lbt x1)) (g1 : vs.getD 3 (.int (0 : Int32)) = .int (hbt x1)) (g2 : vs.getD 4 (.int (0 : Int32)) = .int (lbt x2)) (g3 : vs.getD 5 (.int (0 : Int32)) = .int (hbt x2)) (A_a1 : Arv Z h0 a1 ka .byte zz vs (.int (0 : Int32))) :
    MetFree l m_24 (head1 (Jvm.Cond.code m_24 jdk_52_method_8_code 3 (some .int) :: ws) (rk 2 0 0 30)) (fun a U => a = #[(.ref a1), (.int (1 : Int32)), (.int p3)] ∧ Z.Warmed39 U.vm ∧ U.heap = h0) (fun _ _ _ _ _ => True) (fun _ U o U' => ∃ v L, o = .returned v ∧ Q24_P1 Z a1 p3 x1 x2 zz vs ka h0 n0 v U'.heap L ∧ FrameEnd U o U' L (rk 2 0 0 30).cells (rk 2 0 0 30).slots) := by
  refine MetFree.of_bodySF (plainFor_of_name pn_2) hisR ?_
  intro p e s m args below meth c s₁ Bd hml0 hP hK
  obtain ⟨rfl, hZ, hh⟩ := hP
  have hx := Bd.exec
  have hby := Bd.bytes
  have hml : c.maxLocals = 3 := hml0
  have hown : s.vm.findClass "java/lang/StringUTF16" = some m.cls := findClass_of_methodNamed Bd.named
  have X0 : Stand p l e (rk 2 0 0 30) s m #[(.ref a1), (.int (1 : Int32)), (.int p3)] below meth c s₁ [] 0 0 := Stand.of_body Bd
  have e0 : s₁.heap = h0 := by rw [← hh, Bd.state]; rfl
  have N0 := Fr.nil n0
  have pre0 := own_pre (tb := p.tables) (e := e) (bl := below) (s := s₁) (ef_22_0 m a1 (1 : Int32) p3)
  obtain ⟨_, _, ⟨T1, L1, k1, n1⟩, -, X1, ⟨Lc1, hQ1, l1, y1, z1⟩, st1⟩ := Jvm.LawKit.callS X0 hx (y := m_23) hown (mvT hZ (tw hw 111 rfl)) (mvT hZ (tw hw 112 rfl)) (mvT hZ (tw hw 26 rfl)) (mvT hZ (tw hw 113 rfl)) (by decide) (backOf (W := 0) (rm25_P1 l Z a0 hw [] a1 p3 x1 x2 zz vs ka h0 n0 O0 sA sH sL h_z h_i h_b1 h_b2 g0 g1 g2 g3 A_a1) hZ (tw hw 113 rfl) (tw hw 26 rfl) (by decide) (by decide)) (g := (mkF m 4 #[Rf a1, It (1 : Int32), It p3] [(.int (0 : Int32)), (.int p3), (.int (1 : Int32)), (.ref a1)])) rfl (by rw [hml]; rfl) (argsL := [(.ref a1), (.int (1 : Int32)), (.int p3), (.int (0 : Int32))]) (rest := []) (lenOf pd_11 rfl) rfl (w0 rfl) (hb hby d24_4) (fun _ _ => ⟨rfl, e0, (by decide : 0 + 0 ≤ _), (by decide : 0 + 0 ≤ _)⟩)
  dsimp only [Pt.U, Pt.locs, Pt.cells, Pt.slots] at X1 l1 y1 z1 st1 hQ1
  subst l1 y1 z1
  obtain ⟨rfl, N1q, e1⟩ := hQ1
  have N1 := Fr.app N0 N1q
  obtain ⟨r1, hr1⟩ : ∃ z, z = (tcp x1 x2) := ⟨_, rfl⟩
  rw [← hr1] at st1
  have sg2 : SG p.tables e below (T1.setTop (mkF m 7 #[Rf a1, It (1 : Int32), It p3] [(.int r1)])) (s₁.setTop (mkF m 0 #[Rf a1, It (1 : Int32), It p3] [])) := by
    intro target kt
    show Steps _ _ _ (s₁.setTop (mkF m 0 #[Rf a1, It (1 : Int32), It p3] [])) _
    refine XS.aloadN X0.here hx rfl (hb hby d24_0) rfl rfl ?_
    refine XS.iloadN X0.here hx rfl (hb hby d24_1) rfl ?_
    refine XS.iloadN X0.here hx rfl (hb hby d24_2) rfl ?_
    refine XS.iconst X0.here hx rfl (hb hby d24_3) ?_
    refine st1 _ ?_
    exact kt
  obtain ⟨fs, hr, hrun, hended, hW, hsame⟩ := X1.leave (v := some (.int r1)) (fun h => by rw [Bd.returns] at h; cases h)
  refine ⟨_, _, pre0 _ (sg2 _ (?_)), hrun, hended, _, _, rfl, ?_, ⟨_, rfl⟩, hW, hsame.mono (by decide) (by decide)⟩
  · show Steps _ _ _ (T1.setTop (mkF m 7 #[Rf a1, It (1 : Int32), It p3] [(.int r1)])) _
    exact retI X1 hx Bd.returns (hb hby d24_7) hr
  · show Q24_P1 Z a1 p3 x1 x2 zz vs ka h0 n0 _ T1.heap _
    rw [e1]
    exact ⟨(by rw [hr1]), N1, rfl⟩
def Q12_P1 (Z : State) (a1 : Addr) (x1 : Int32) (x2 : Int32) (zz : Int32) (vs : List Value) (kk : Int32) (tv : Addr) (vFM : Value) (zC : Int32) (kt : ClassId) (h0 : Heap) (n0 : Nat) (v : Option Value) (h : Heap) (L : List Loc) : Prop := v = some (.int (tcp x1 x2)) ∧ Fr n0 L ∧ h = h0
theorem rm12_P1 (l : Launch) (Z : State) (a0 : Array Value) (hw : ∀ d ∈ tables_1, d.before a0 Z = true) (ws : List Jvm.Cond) (a1 : Addr) (x1 : Int32) (x2 : Int32) (zz : Int32) (vs : List Value) (kk : Int32) (tv : Addr) (vFM : Value) (zC : Int32) (kt : ClassId) (h0 : Heap) (n0 : Nat) (O0 : Old Z n0 h0) (hCS : ¬ zC = 0) (hFM : vFM.isRef = true) (h_z : (5 : Int32) < zz) (h_k : (zz >>> ((1 : Int32) &&& 31)) = kk) (h_i : (2 : Int32) < kk) (sC : TS_3 Z zC) (sA : TS_0 Z) (sH : TS_1 Z) (sL : TS_2 Z) (sF : TS_6 Z vFM) (E_a1 : Exa Z h0 a1 "java/lang/String") (F_coder_a1 : Fld Z h0 a1 "java/lang/String" "coder" "B" (.int (1 : Int32))) (F_value_a1 : Fld Z h0 a1 "java/lang/String" "value" "[B" (.ref tv)) (h_b1 : HS x1) (h_b2 : LS x2) (g0 : vs.getD 2 (.int (0 : Int32)) = .int (lbt x1)) (g1 : vs.getD 3 (.int (0 : Int32)) = .int (hbt x1)) (g2 : vs.getD 4 (.int (0 : Int32)) = .int (lbt x2)) (g3 : vs.getD 5 (.int (0 : Int32)) = .int (hbt x2)) (A_tv : Arv Z h0 tv kt .byte zz vs (.int (0 : Int32))) :
    MetFree l m_25 (head1 (Jvm.Cond.code m_25 jdk_42_method_57_code 3 (some .int) :: ws) (rk 3 0 0 44)) (fun a U => a = #[(.ref a1), (.int (1 : Int32))] ∧ Z.Warmed39 U.vm ∧ U.heap = h0) (fun _ _ _ _ _ => True) (fun _ U o U' => ∃ v L, o = .returned v ∧ Q12_P1 Z a1 x1 x2 zz vs kk tv vFM zC kt h0 n0 v U'.heap L ∧ FrameEnd U o U' L (rk 3 0 0 44).cells (rk 3 0 0 44).slots) := by
  refine MetFree.of_bodySF (plainFor_of_name pn_3) hisR ?_
  intro p e s m args below meth c s₁ Bd hml0 hP hK
  obtain ⟨rfl, hZ, hh⟩ := hP
  have hx := Bd.exec
  have hby := Bd.bytes
  have hml : c.maxLocals = 3 := hml0
  have hown : s.vm.findClass "java/lang/String" = some m.cls := findClass_of_methodNamed Bd.named
  have X0 : Stand p l e (rk 3 0 0 44) s m #[(.ref a1), (.int (1 : Int32))] below meth c s₁ [] 0 0 := Stand.of_body Bd
  have e0 : s₁.heap = h0 := by rw [← hh, Bd.state]; rfl
  have N0 := Fr.nil n0
  have pre0 := own_pre (tb := p.tables) (e := e) (bl := below) (s := s₁) (ef_12_B0 m a1 (1 : Int32))
  obtain ⟨cq1, kq1, q1a, q1b, q1c⟩ := isOf hZ e0 E_a1
  obtain ⟨_, _, ⟨T1, L1, k1, n1⟩, -, X1, ⟨Lc1, hQ1, l1, y1, z1⟩, st1⟩ := X0.virtualBack hx (y := m_19) (z := m_19) hown (mvT hZ (tw hw 61 rfl)) (mvT hZ (tw hw 62 rfl)) (notFace_of_selects (args := #[]) (mvT hZ (tw hw 64 rfl))) (mvT hZ (tw hw 64 rfl)) (mvT hZ (tw hw 63 rfl)) (by decide) (backOf (W := 0) (rm13_1 l Z a0 hw [] a1 zC h0 n0 O0 hCS sC F_coder_a1) hZ (tw hw 65 rfl) (tw hw 6 rfl) (by decide) (by decide)) q1a q1c (g := (mkF m 1 #[Rf a1, It (1 : Int32), .unset] [(.ref a1)])) rfl (by rw [hml]; rfl) (Steps.refl _) (argsL := []) (rest := []) (lenOf pd_12 rfl) rfl (w0 rfl) (hb hby d12_1) (fun _ _ => ⟨rfl, e0, (by decide : 0 + 0 ≤ _), (by decide : 0 + 0 ≤ _)⟩)
  dsimp only [Pt.U, Pt.locs, Pt.cells, Pt.slots] at X1 l1 y1 z1 st1 hQ1
  subst l1 y1 z1
  obtain ⟨rfl, N1q, e1⟩ := hQ1
  have N1 := Fr.app N0 N1q
  obtain ⟨T2, X2, e2, st2⟩ := getF X1 hx hZ hown (host := "") (Or.inl (tw hw 37 rfl)) Via.refl e1 F_value_a1 (g := (mkF m 28 #[Rf a1, It (1 : Int32), .unset] [(.ref a1)])) rfl rfl (hb hby d12_28)
  obtain ⟨cl3, Ar3, -, Sz3, Nn3, -, -⟩ := id A_tv
  obtain ⟨u4, hu4⟩ : ∃ z, z = (zz >>> ((1 : Int32) &&& 31)) := ⟨_, rfl⟩
  have sg5 : SG p.tables e below (T2.setTop (mkF m 34 #[Rf a1, It (1 : Int32), .unset] [(.int u4)])) (s₁.setTop (mkF m 0 #[Rf a1, It (1 : Int32), .unset] [])) := by
    intro target kt
    subst hu4
    show Steps _ _ _ (s₁.setTop (mkF m 0 #[Rf a1, It (1 : Int32), .unset] [])) _
    refine XS.aloadN X0.here hx rfl (hb hby d12_0) rfl rfl ?_
    refine st1.trans ?_
    refine XS.ifYes X1.here hx rfl (pc0 := 4) (pc' := 27) rfl (hb hby d12_4) rfl ((if0 _ _).trans (teq (by decide : (0 : Int32) = (0 : Int32))).1) (by decide) (by decide) ?_
    refine XS.aloadN X1.here hx rfl (hb hby d12_27) rfl rfl ?_
    refine st2 _ ?_
    refine X2.arraylength hx (own_rwh e2 Ar3.1) (State.isArrayOf_alike hZ.alike Ar3.2.1) (g := (mkF m 31 #[Rf a1, It (1 : Int32), .unset] [(.ref tv)])) rfl rfl (hb hby d12_31) _ ?_
    rw [len_of Sz3 Nn3]
    show Steps _ _ _ (T2.setTop (mkF m 32 #[Rf a1, It (1 : Int32), .unset] [(.int zz)])) _
    refine XS.iconst X2.here hx rfl (hb hby d12_32) ?_
    refine XS.ishr X2.here hx rfl (hb hby d12_33) rfl ?_
    exact kt
  have hkk : u4 = kk := hu4.trans h_k
  have hik : (2 : Int32) < u4 := by rw [hkk]; exact h_i
  obtain ⟨_, _, ⟨T6, L6, k6, n6⟩, -, X6, ⟨Lc6, hQ6, l6, y6, z6⟩, st6⟩ := Jvm.LawKit.callS X2 hx (y := m_22) hown (mvT hZ (tw hw 66 rfl)) (mvT hZ (tw hw 67 rfl)) (mvT hZ (tw hw 6 rfl)) (mvT hZ (tw hw 68 rfl)) (by decide) (backOf (W := 0) (rm14 l Z a0 hw [] (1 : Int32) u4 vFM h0 n0 O0 hFM (by decide) (own_ltz hik (by decide)) sF) hZ (tw hw 68 rfl) (tw hw 6 rfl) (by decide) (by decide)) (g := (mkF m 37 #[Rf a1, It (1 : Int32), It u4] [(.int u4), (.int (1 : Int32))])) rfl (by rw [hml]; rfl) (argsL := [(.int (1 : Int32)), (.int u4)]) (rest := []) (lenOf pd_13 rfl) rfl (w0 rfl) (hb hby d12_37) (fun _ _ => ⟨rfl, e2, (by decide : 0 + 0 ≤ _), (by decide : 0 + 0 ≤ _)⟩)
  dsimp only [Pt.U, Pt.locs, Pt.cells, Pt.slots] at X6 l6 y6 z6 st6 hQ6
  subst l6 y6 z6
  obtain ⟨rfl, N6q, e6⟩ := hQ6
  have N6 := Fr.app N1 N6q
  obtain ⟨T7, X7, e7, st7⟩ := getF X6 hx hZ hown (host := "") (Or.inl (tw hw 37 rfl)) Via.refl e6 F_value_a1 (g := (mkF m 41 #[Rf a1, It (1 : Int32), It u4] [(.ref a1)])) rfl rfl (hb hby d12_41)
  obtain ⟨_, _, ⟨T8, L8, k8, n8⟩, -, X8, ⟨Lc8, hQ8, l8, y8, z8⟩, st8⟩ := Jvm.LawKit.callS X7 hx (y := m_24) hown (mvT hZ (tw hw 108 rfl)) (mvT hZ (tw hw 109 rfl)) (mvT hZ (tw hw 26 rfl)) (mvT hZ (tw hw 110 rfl)) (by decide) (backOf (W := 0) (rm24_P1 l Z a0 hw [] tv u4 x1 x2 zz vs kt h0 n0 O0 sA sH sL h_z hik h_b1 h_b2 g0 g1 g2 g3 A_tv) hZ (tw hw 110 rfl) (tw hw 26 rfl) (by decide) (by decide)) (g := (mkF m 46 #[Rf a1, It (1 : Int32), It u4] [(.int u4), (.int (1 : Int32)), (.ref tv)])) rfl (by rw [hml]; rfl) (argsL := [(.ref tv), (.int (1 : Int32)), (.int u4)]) (rest := []) (lenOf pd_14 rfl) rfl (w0 rfl) (hb hby d12_46) (fun _ _ => ⟨rfl, e7, (by decide : 0 + 0 ≤ _), (by decide : 0 + 0 ≤ _)⟩)
  dsimp only [Pt.U, Pt.locs, Pt.cells, Pt.slots] at X8 l8 y8 z8 st8 hQ8
  subst l8 y8 z8
  obtain ⟨rfl, N8q, e8⟩ := hQ8
  have N8 := Fr.app N6 N8q
  obtain ⟨r8, hr8⟩ : ∃ z, z = (tcp x1 x2) := ⟨_, rfl⟩
  rw [← hr8] at st8
  have sg9 : SG p.tables e below (T8.setTop (mkF m 49 #[Rf a1, It (1 : Int32), It u4] [(.int r8)])) (T2.setTop (mkF m 34 #[Rf a1, It (1 : Int32), .unset] [(.int u4)])) := by
    intro target kt
    show Steps _ _ _ (T2.setTop (mkF m 34 #[Rf a1, It (1 : Int32), .unset] [(.int u4)])) _
    refine XS.istoreN X2.here hx rfl (hb hby d12_34) rfl (l' := #[Rf a1, It (1 : Int32), It u4]) rfl ?_
    refine XS.iloadN X2.here hx rfl (hb hby d12_35) rfl ?_
    refine XS.iloadN X2.here hx rfl (hb hby d12_36) rfl ?_
    refine st6 _ ?_
    refine XS.aloadN X6.here hx rfl (hb hby d12_40) rfl rfl ?_
    refine st7 _ ?_
    refine XS.iloadN X7.here hx rfl (hb hby d12_44) rfl ?_
    refine XS.iloadN X7.here hx rfl (hb hby d12_45) rfl ?_
    refine st8 _ ?_
    exact kt
  obtain ⟨fs, hr, hrun, hended, hW, hsame⟩ := X8.leave (v := some (.int r8)) (fun h => by rw [Bd.returns] at h; cases h)
  refine ⟨_, _, pre0 _ (sg5 _ (sg9 _ (?_))), hrun, hended, _, _, rfl, ?_, ⟨_, rfl⟩, hW, hsame.mono (by decide) (by decide)⟩
  · show Steps _ _ _ (T8.setTop (mkF m 49 #[Rf a1, It (1 : Int32), It u4] [(.int r8)])) _
    exact retI X8 hx Bd.returns (hb hby d12_49) hr
  · show Q12_P1 Z a1 x1 x2 zz vs kk tv vFM zC kt h0 n0 _ T8.heap _
    rw [e8]
    exact ⟨(by rw [hr8]), N8, rfl⟩
def Q25_P2 (Z : State) (a1 : Addr) (p3 : Int32) (x1 : Int32) (x2 : Int32) (zz : Int32) (vs : List Value) (ka : ClassId) (h0 : Heap) (n0 : Nat) (v : Option Value) (h : Heap) (L : List Loc) : Prop := v = some (.int (tcp x1 x2)) ∧ Fr n0 L ∧ h = h0
theorem rm25_P2 (l : Launch) (Z : State) (a0 : Array Value) (hw : ∀ d ∈ tables_1, d.before a0 Z = true) (ws : List Jvm.Cond) (a1 : Addr) (p3 : Int32) (x1 : Int32) (x2 : Int32) (zz : Int32) (vs : List Value) (ka : ClassId) (h0 : Heap) (n0 : Nat) (O0 : Old Z n0 h0) (sA : TS_0 Z) (sH : TS_1 Z) (sL : TS_2 Z) (h_z : (7 : Int32) < zz) (h_i : (3 : Int32) < p3) (h_b1 : HS x1) (h_b2 : LS x2) (g0 : vs.getD 4 (.int (0 : Int32)) = .int (lbt x1)) (g1 : vs.getD 5 (.int (0 : Int32)) = .int (hbt x1)) (g2 : vs.getD 6 (.int (0 : Int32)) = .int (lbt x2)) (g3 : vs.getD 7 (.int (0 : Int32)) = .int (hbt x2)) (A_a1 : Arv Z h0 a1 ka .byte zz vs (.int (0 : Int32))) :
    MetFree l m_23 (head1 (Jvm.Cond.code m_23 jdk_52_method_7_code 6 (some .int) :: ws) (rk 1 0 0 13)) (fun a U => a = #[(.ref a1), (.int (2 : Int32)), (.int p3), (.int (0 : Int32))] ∧ Z.Warmed39 U.vm ∧ U.heap = h0) (fun _ _ _ _ _ => True) (fun _ U o U' => ∃ v L, o = .returned v ∧ Q25_P2 Z a1 p3 x1 x2 zz vs ka h0 n0 v U'.heap L ∧ FrameEnd U o U' L (rk 1 0 0 13).cells (rk 1 0 0 13).slots) := by
  refine MetFree.of_bodySF (plainFor_of_name pn_2) hisR ?_
  intro p e s m args below meth c s₁ Bd hml0 hP hK
  obtain ⟨rfl, hZ, hh⟩ := hP
  have hx := Bd.exec
  have hby := Bd.bytes
  have hml : c.maxLocals = 6 := hml0
  have hown : s.vm.findClass "java/lang/StringUTF16" = some m.cls := findClass_of_methodNamed Bd.named
  have X0 : Stand p l e (rk 1 0 0 13) s m #[(.ref a1), (.int (2 : Int32)), (.int p3), (.int (0 : Int32))] below meth c s₁ [] 0 0 := Stand.of_body Bd
  have e0 : s₁.heap = h0 := by rw [← hh, Bd.state]; rfl
  have N0 := Fr.nil n0
  have pre0 := own_pre (tb := p.tables) (e := e) (bl := below) (s := s₁) (ef_25_B0 m a1 (2 : Int32) p3 (0 : Int32))
  obtain ⟨T1, X1, e1, st1⟩ := getS2 X0 hx hZ hown (host := "") (Or.inl (tw hw 102 rfl)) Via.refl e0 (sA.ext O0.2) (g := (mkF m 0 #[Rf a1, It (2 : Int32), It p3, It (0 : Int32), .unset, .unset] [])) rfl (hb hby d25_0)
  obtain ⟨_, _, ⟨T2, L2, k2, n2⟩, -, X2, ⟨Lc2, hQ2, l2, y2, z2⟩, st2⟩ := Jvm.LawKit.callS X1 hx (y := m_9) hown (mvT hZ (tw hw 105 rfl)) (mvT hZ (tw hw 106 rfl)) (mvT hZ (tw hw 26 rfl)) (mvT hZ (tw hw 107 rfl)) (by decide) (backOf (W := 0) (rm23_2 l Z a0 hw [] a1 x1 zz vs ka h0 n0 O0 sA sH sL (own_ltz h_z (by decide)) g0 g1 h_b1.1 A_a1) hZ (tw hw 107 rfl) (tw hw 26 rfl) (by decide) (by decide)) (g := (mkF m 30 #[Rf a1, It (2 : Int32), It p3, It (0 : Int32), .unset, .unset] [(.int (2 : Int32)), (.ref a1)])) rfl (by rw [hml]; rfl) (argsL := [(.ref a1), (.int (2 : Int32))]) (rest := []) (lenOf pd_5 rfl) rfl (w0 rfl) (hb hby d25_30) (fun _ _ => ⟨rfl, e1, (by decide : 0 + 0 ≤ _), (by decide : 0 + 0 ≤ _)⟩)
  dsimp only [Pt.U, Pt.locs, Pt.cells, Pt.slots] at X2 l2 y2 z2 st2 hQ2
  subst l2 y2 z2
  obtain ⟨rfl, N2q, e2⟩ := hQ2
  have N2 := Fr.app N0 N2q
  obtain ⟨_, _, ⟨T3, L3, k3, n3⟩, -, X3, ⟨Lc3, hQ3, l3, y3, z3⟩, st3⟩ := Jvm.LawKit.callS X2 hx (y := m_5) hown (mvT hZ (tw hw 114 rfl)) (mvT hZ (tw hw 115 rfl)) (mvT hZ (tw hw 77 rfl)) (mvT hZ (tw hw 116 rfl)) (by decide) (backOf (W := 0) (rm26 l Z a0 hw [] x1 h0 n0 O0 ) hZ (tw hw 116 rfl) (tw hw 77 rfl) (by decide) (by decide)) (g := (mkF m 37 #[Rf a1, It (2 : Int32), It p3, It (0 : Int32), It x1, .unset] [(.int x1)])) rfl (by rw [hml]; rfl) (argsL := [(.int x1)]) (rest := []) (lenOf pd_10 rfl) rfl (w0 rfl) (hb hby d25_37) (fun _ _ => ⟨rfl, e2, (by decide : 0 + 0 ≤ _), (by decide : 0 + 0 ≤ _)⟩)
  dsimp only [Pt.U, Pt.locs, Pt.cells, Pt.slots] at X3 l3 y3 z3 st3 hQ3
  subst l3 y3 z3
  obtain ⟨rfl, N3q, e3⟩ := hQ3
  have N3 := Fr.app N2 N3q
  obtain ⟨r3, hr3⟩ : ∃ z, z = (if x1 < (55296 : Int32) then (0 : Int32) else (if x1 < (56320 : Int32) then (1 : Int32) else (0 : Int32))) := ⟨_, rfl⟩
  rw [← hr3] at st3
  obtain ⟨_, _, ⟨T4, L4, k4, n4⟩, -, X4, ⟨Lc4, hQ4, l4, y4, z4⟩, st4⟩ := Jvm.LawKit.callS X3 hx (y := m_9) hown (mvT hZ (tw hw 105 rfl)) (mvT hZ (tw hw 106 rfl)) (mvT hZ (tw hw 26 rfl)) (mvT hZ (tw hw 107 rfl)) (by decide) (backOf (W := 0) (rm23_3 l Z a0 hw [] a1 x2 zz vs ka h0 n0 O0 sA sH sL h_z g2 g3 h_b2.1 A_a1) hZ (tw hw 107 rfl) (tw hw 26 rfl) (by decide) (by decide)) (g := (mkF m 62 #[Rf a1, .val (.int ((2 : Int32) + (1 : Int32))), It p3, It (0 : Int32), It x1, .unset] [(.int ((2 : Int32) + (1 : Int32))), (.ref a1)])) rfl (by rw [hml]; rfl) (argsL := [(.ref a1), (.int ((2 : Int32) + (1 : Int32)))]) (rest := []) (lenOf pd_5 rfl) rfl (w0 rfl) (hb hby d25_62) (fun _ _ => ⟨rfl, e3, (by decide : 0 + 0 ≤ _), (by decide : 0 + 0 ≤ _)⟩)
  dsimp only [Pt.U, Pt.locs, Pt.cells, Pt.slots] at X4 l4 y4 z4 st4 hQ4
  subst l4 y4 z4
  obtain ⟨rfl, N4q, e4⟩ := hQ4
  have N4 := Fr.app N3 N4q
  obtain ⟨_, _, ⟨T5, L5, k5, n5⟩, -, X5, ⟨Lc5, hQ5, l5, y5, z5⟩, st5⟩ := Jvm.LawKit.callS X4 hx (y := m_6) hown (mvT hZ (tw hw 119 rfl)) (mvT hZ (tw hw 120 rfl)) (mvT hZ (tw hw 77 rfl)) (mvT hZ (tw hw 121 rfl)) (by decide) (backOf (W := 0) (rm27 l Z a0 hw [] x2 h0 n0 O0 ) hZ (tw hw 121 rfl) (tw hw 77 rfl) (by decide) (by decide)) (g := (mkF m 69 #[Rf a1, .val (.int ((2 : Int32) + (1 : Int32))), It p3, It (0 : Int32), It x1, It x2] [(.int x2)])) rfl (by rw [hml]; rfl) (argsL := [(.int x2)]) (rest := []) (lenOf pd_10 rfl) rfl (w0 rfl) (hb hby d25_69) (fun _ _ => ⟨rfl, e4, (by decide : 0 + 0 ≤ _), (by decide : 0 + 0 ≤ _)⟩)
  dsimp only [Pt.U, Pt.locs, Pt.cells, Pt.slots] at X5 l5 y5 z5 st5 hQ5
  subst l5 y5 z5
  obtain ⟨rfl, N5q, e5⟩ := hQ5
  have N5 := Fr.app N4 N5q
  obtain ⟨r5, hr5⟩ : ∃ z, z = (if x2 < (56320 : Int32) then (0 : Int32) else (if x2 < (57344 : Int32) then (1 : Int32) else (0 : Int32))) := ⟨_, rfl⟩
  rw [← hr5] at st5
  obtain ⟨_, _, ⟨T6, L6, k6, n6⟩, -, X6, ⟨Lc6, hQ6, l6, y6, z6⟩, st6⟩ := Jvm.LawKit.callS X5 hx (y := m_7) hown (mvT hZ (tw hw 123 rfl)) (mvT hZ (tw hw 124 rfl)) (mvT hZ (tw hw 77 rfl)) (mvT hZ (tw hw 125 rfl)) (by decide) (backOf (W := 0) (rm28 l Z a0 hw [] x1 x2 h0 n0 O0 ) hZ (tw hw 125 rfl) (tw hw 77 rfl) (by decide) (by decide)) (g := (mkF m 79 #[Rf a1, .val (.int ((2 : Int32) + (1 : Int32))), It p3, It (0 : Int32), It x1, It x2] [(.int x2), (.int x1)])) rfl (by rw [hml]; rfl) (argsL := [(.int x1), (.int x2)]) (rest := []) (lenOf pd_15 rfl) rfl (w0 rfl) (hb hby d25_79) (fun _ _ => ⟨rfl, e5, (by decide : 0 + 0 ≤ _), (by decide : 0 + 0 ≤ _)⟩)
  dsimp only [Pt.U, Pt.locs, Pt.cells, Pt.slots] at X6 l6 y6 z6 st6 hQ6
  subst l6 y6 z6
  obtain ⟨rfl, N6q, e6⟩ := hQ6
  have N6 := Fr.app N5 N6q
  obtain ⟨r6, hr6⟩ : ∃ z, z = (((x1 <<< ((10 : Int32) &&& 31)) + x2) + (-56613888 : Int32)) := ⟨_, rfl⟩
  rw [← hr6] at st6
  have sg7 : SG p.tables e below (T6.setTop (mkF m 82 #[Rf a1, .val (.int ((2 : Int32) + (1 : Int32))), It p3, It (0 : Int32), It x1, It x2] [(.int r6)])) (s₁.setTop (mkF m 0 #[Rf a1, It (2 : Int32), It p3, It (0 : Int32), .unset, .unset] [])) := by
    intro target kt
    show Steps _ _ _ (s₁.setTop (mkF m 0 #[Rf a1, It (2 : Int32), It p3, It (0 : Int32), .unset, .unset] [])) _
    refine st1 _ ?_
    refine XS.ifYes X1.here hx rfl (pc0 := 3) (pc' := 19) rfl (hb hby d25_3) rfl ((if0 _ _).trans (feq (by decide : ¬ ((1 : Int32) = (0 : Int32)))).2) (by decide) (by decide) ?_
    refine XS.iloadN X1.here hx rfl (hb hby d25_19) rfl ?_
    refine XS.ifYes X1.here hx rfl (pc0 := 20) (pc' := 28) rfl (hb hby d25_20) rfl ((if0 _ _).trans (teq (by decide : (0 : Int32) = (0 : Int32))).1) (by decide) (by decide) ?_
    refine XS.aloadN X1.here hx rfl (hb hby d25_28) rfl rfl ?_
    refine XS.iloadN X1.here hx rfl (hb hby d25_29) rfl ?_
    refine st2 _ ?_
    refine XS.istore X2.here hx rfl (hb hby d25_33) rfl (l' := #[Rf a1, It (2 : Int32), It p3, It (0 : Int32), It x1, .unset]) rfl ?_
    refine XS.iload X2.here hx rfl (hb hby d25_35) rfl ?_
    refine st3 _ ?_
    refine XS.ifNo X3.here hx rfl (hb hby d25_40) rfl ((if0 _ _).trans (feq (own_ihs h_b1 hr3)).1) ?_
    refine XS.iinc X3.here hx rfl (hb hby d25_43) rfl (l' := #[Rf a1, .val (.int ((2 : Int32) + (1 : Int32))), It p3, It (0 : Int32), It x1, .unset]) rfl ?_
    refine XS.iloadN X3.here hx rfl (hb hby d25_46) rfl ?_
    refine XS.iloadN X3.here hx rfl (hb hby d25_47) rfl ?_
    refine XS.icmpNo X3.here hx rfl (hb hby d25_48) rfl (tlt (own_ltz h_i (by decide))).2.1 ?_
    refine XS.iloadN X3.here hx rfl (hb hby d25_51) rfl ?_
    refine XS.ifYes X3.here hx rfl (pc0 := 52) (pc' := 60) rfl (hb hby d25_52) rfl ((if0 _ _).trans (teq (by decide : (0 : Int32) = (0 : Int32))).1) (by decide) (by decide) ?_
    refine XS.aloadN X3.here hx rfl (hb hby d25_60) rfl rfl ?_
    refine XS.iloadN X3.here hx rfl (hb hby d25_61) rfl ?_
    refine st4 _ ?_
    refine XS.istore X4.here hx rfl (hb hby d25_65) rfl (l' := #[Rf a1, .val (.int ((2 : Int32) + (1 : Int32))), It p3, It (0 : Int32), It x1, It x2]) rfl ?_
    refine XS.iload X4.here hx rfl (hb hby d25_67) rfl ?_
    refine st5 _ ?_
    refine XS.ifNo X5.here hx rfl (hb hby d25_72) rfl ((if0 _ _).trans (feq (own_ils h_b2 hr5)).1) ?_
    refine XS.iload X5.here hx rfl (hb hby d25_75) rfl ?_
    refine XS.iload X5.here hx rfl (hb hby d25_77) rfl ?_
    refine st6 _ ?_
    exact kt
  obtain ⟨fs, hr, hrun, hended, hW, hsame⟩ := X6.leave (v := some (.int r6)) (fun h => by rw [Bd.returns] at h; cases h)
  refine ⟨_, _, pre0 _ (sg7 _ (?_)), hrun, hended, _, _, rfl, ?_, ⟨_, rfl⟩, hW, hsame.mono (by decide) (by decide)⟩
  · show Steps _ _ _ (T6.setTop (mkF m 82 #[Rf a1, .val (.int ((2 : Int32) + (1 : Int32))), It p3, It (0 : Int32), It x1, It x2] [(.int r6)])) _
    exact retI X6 hx Bd.returns (hb hby d25_82) hr
  · show Q25_P2 Z a1 p3 x1 x2 zz vs ka h0 n0 _ T6.heap _
    rw [e6]
    exact ⟨(by rw [hr6]; rfl), N6, rfl⟩
def Q24_P2 (Z : State) (a1 : Addr) (p3 : Int32) (x1 : Int32) (x2 : Int32) (zz : Int32) (vs : List Value) (ka : ClassId) (h0 : Heap) (n0 : Nat) (v : Option Value) (h : Heap) (L : List Loc) : Prop := v = some (.int (tcp x1 x2)) ∧ Fr n0 L ∧ h = h0
theorem rm24_P2 (l : Launch) (Z : State) (a0 : Array Value) (hw : ∀ d ∈ tables_1, d.before a0 Z = true) (ws : List Jvm.Cond) (a1 : Addr) (p3 : Int32) (x1 : Int32) (x2 : Int32) (zz : Int32) (vs : List Value) (ka : ClassId) (h0 : Heap) (n0 : Nat) (O0 : Old Z n0 h0) (sA : TS_0 Z) (sH : TS_1 Z) (sL : TS_2 Z) (h_z : (7 : Int32) < zz) (h_i : (3 : Int32) < p3) (h_b1 : HS x1) (h_b2 : LS x2) (g0 : vs.getD 4 (.int (0 : Int32)) = .int (lbt x1)) (g1 : vs.getD 5 (.int (0 : Int32)) = .int (hbt x1)) (g2 : vs.getD 6 (.int (0 : Int32)) = .int (lbt x2)) (g3 : vs.getD 7 (.int (0 : Int32)) = .int (hbt x2)) (A_a1 : Arv Z h0 a1 ka .byte zz vs (.int (0 : Int32))) :
    MetFree l m_24 (head1 (Jvm.Cond.code m_24 jdk_52_method_8_code 3 (some .int) :: ws) (rk 2 0 0 30)) (fun a U => a = #[(.ref a1), (.int (2 : Int32)), (.int p3)] ∧ Z.Warmed39 U.vm ∧ U.heap = h0) (fun _ _ _ _ _ => True) (fun _ U o U' => ∃ v L, o = .returned v ∧ Q24_P2 Z a1 p3 x1 x2 zz vs ka h0 n0 v U'.heap L ∧ FrameEnd U o U' L (rk 2 0 0 30).cells (rk 2 0 0 30).slots) := by
  refine MetFree.of_bodySF (plainFor_of_name pn_2) hisR ?_
  intro p e s m args below meth c s₁ Bd hml0 hP hK
  obtain ⟨rfl, hZ, hh⟩ := hP
  have hx := Bd.exec
  have hby := Bd.bytes
  have hml : c.maxLocals = 3 := hml0
  have hown : s.vm.findClass "java/lang/StringUTF16" = some m.cls := findClass_of_methodNamed Bd.named
  have X0 : Stand p l e (rk 2 0 0 30) s m #[(.ref a1), (.int (2 : Int32)), (.int p3)] below meth c s₁ [] 0 0 := Stand.of_body Bd
  have e0 : s₁.heap = h0 := by rw [← hh, Bd.state]; rfl
  have N0 := Fr.nil n0
  have pre0 := own_pre (tb := p.tables) (e := e) (bl := below) (s := s₁) (ef_22_0 m a1 (2 : Int32) p3)
  obtain ⟨_, _, ⟨T1, L1, k1, n1⟩, -, X1, ⟨Lc1, hQ1, l1, y1, z1⟩, st1⟩ := Jvm.LawKit.callS X0 hx (y := m_23) hown (mvT hZ (tw hw 111 rfl)) (mvT hZ (tw hw 112 rfl)) (mvT hZ (tw hw 26 rfl)) (mvT hZ (tw hw 113 rfl)) (by decide) (backOf (W := 0) (rm25_P2 l Z a0 hw [] a1 p3 x1 x2 zz vs ka h0 n0 O0 sA sH sL h_z h_i h_b1 h_b2 g0 g1 g2 g3 A_a1) hZ (tw hw 113 rfl) (tw hw 26 rfl) (by decide) (by decide)) (g := (mkF m 4 #[Rf a1, It (2 : Int32), It p3] [(.int (0 : Int32)), (.int p3), (.int (2 : Int32)), (.ref a1)])) rfl (by rw [hml]; rfl) (argsL := [(.ref a1), (.int (2 : Int32)), (.int p3), (.int (0 : Int32))]) (rest := []) (lenOf pd_11 rfl) rfl (w0 rfl) (hb hby d24_4) (fun _ _ => ⟨rfl, e0, (by decide : 0 + 0 ≤ _), (by decide : 0 + 0 ≤ _)⟩)
  dsimp only [Pt.U, Pt.locs, Pt.cells, Pt.slots] at X1 l1 y1 z1 st1 hQ1
  subst l1 y1 z1
  obtain ⟨rfl, N1q, e1⟩ := hQ1
  have N1 := Fr.app N0 N1q
  obtain ⟨r1, hr1⟩ : ∃ z, z = (tcp x1 x2) := ⟨_, rfl⟩
  rw [← hr1] at st1
  have sg2 : SG p.tables e below (T1.setTop (mkF m 7 #[Rf a1, It (2 : Int32), It p3] [(.int r1)])) (s₁.setTop (mkF m 0 #[Rf a1, It (2 : Int32), It p3] [])) := by
    intro target kt
    show Steps _ _ _ (s₁.setTop (mkF m 0 #[Rf a1, It (2 : Int32), It p3] [])) _
    refine XS.aloadN X0.here hx rfl (hb hby d24_0) rfl rfl ?_
    refine XS.iloadN X0.here hx rfl (hb hby d24_1) rfl ?_
    refine XS.iloadN X0.here hx rfl (hb hby d24_2) rfl ?_
    refine XS.iconst X0.here hx rfl (hb hby d24_3) ?_
    refine st1 _ ?_
    exact kt
  obtain ⟨fs, hr, hrun, hended, hW, hsame⟩ := X1.leave (v := some (.int r1)) (fun h => by rw [Bd.returns] at h; cases h)
  refine ⟨_, _, pre0 _ (sg2 _ (?_)), hrun, hended, _, _, rfl, ?_, ⟨_, rfl⟩, hW, hsame.mono (by decide) (by decide)⟩
  · show Steps _ _ _ (T1.setTop (mkF m 7 #[Rf a1, It (2 : Int32), It p3] [(.int r1)])) _
    exact retI X1 hx Bd.returns (hb hby d24_7) hr
  · show Q24_P2 Z a1 p3 x1 x2 zz vs ka h0 n0 _ T1.heap _
    rw [e1]
    exact ⟨(by rw [hr1]), N1, rfl⟩
def Q12_P2 (Z : State) (a1 : Addr) (x1 : Int32) (x2 : Int32) (zz : Int32) (vs : List Value) (kk : Int32) (tv : Addr) (vFM : Value) (zC : Int32) (kt : ClassId) (h0 : Heap) (n0 : Nat) (v : Option Value) (h : Heap) (L : List Loc) : Prop := v = some (.int (tcp x1 x2)) ∧ Fr n0 L ∧ h = h0
theorem rm12_P2 (l : Launch) (Z : State) (a0 : Array Value) (hw : ∀ d ∈ tables_1, d.before a0 Z = true) (ws : List Jvm.Cond) (a1 : Addr) (x1 : Int32) (x2 : Int32) (zz : Int32) (vs : List Value) (kk : Int32) (tv : Addr) (vFM : Value) (zC : Int32) (kt : ClassId) (h0 : Heap) (n0 : Nat) (O0 : Old Z n0 h0) (hCS : ¬ zC = 0) (hFM : vFM.isRef = true) (h_z : (7 : Int32) < zz) (h_k : (zz >>> ((1 : Int32) &&& 31)) = kk) (h_i : (3 : Int32) < kk) (sC : TS_3 Z zC) (sA : TS_0 Z) (sH : TS_1 Z) (sL : TS_2 Z) (sF : TS_6 Z vFM) (E_a1 : Exa Z h0 a1 "java/lang/String") (F_coder_a1 : Fld Z h0 a1 "java/lang/String" "coder" "B" (.int (1 : Int32))) (F_value_a1 : Fld Z h0 a1 "java/lang/String" "value" "[B" (.ref tv)) (h_b1 : HS x1) (h_b2 : LS x2) (g0 : vs.getD 4 (.int (0 : Int32)) = .int (lbt x1)) (g1 : vs.getD 5 (.int (0 : Int32)) = .int (hbt x1)) (g2 : vs.getD 6 (.int (0 : Int32)) = .int (lbt x2)) (g3 : vs.getD 7 (.int (0 : Int32)) = .int (hbt x2)) (A_tv : Arv Z h0 tv kt .byte zz vs (.int (0 : Int32))) :
    MetFree l m_25 (head1 (Jvm.Cond.code m_25 jdk_42_method_57_code 3 (some .int) :: ws) (rk 3 0 0 44)) (fun a U => a = #[(.ref a1), (.int (2 : Int32))] ∧ Z.Warmed39 U.vm ∧ U.heap = h0) (fun _ _ _ _ _ => True) (fun _ U o U' => ∃ v L, o = .returned v ∧ Q12_P2 Z a1 x1 x2 zz vs kk tv vFM zC kt h0 n0 v U'.heap L ∧ FrameEnd U o U' L (rk 3 0 0 44).cells (rk 3 0 0 44).slots) := by
  refine MetFree.of_bodySF (plainFor_of_name pn_3) hisR ?_
  intro p e s m args below meth c s₁ Bd hml0 hP hK
  obtain ⟨rfl, hZ, hh⟩ := hP
  have hx := Bd.exec
  have hby := Bd.bytes
  have hml : c.maxLocals = 3 := hml0
  have hown : s.vm.findClass "java/lang/String" = some m.cls := findClass_of_methodNamed Bd.named
  have X0 : Stand p l e (rk 3 0 0 44) s m #[(.ref a1), (.int (2 : Int32))] below meth c s₁ [] 0 0 := Stand.of_body Bd
  have e0 : s₁.heap = h0 := by rw [← hh, Bd.state]; rfl
  have N0 := Fr.nil n0
  have pre0 := own_pre (tb := p.tables) (e := e) (bl := below) (s := s₁) (ef_12_B0 m a1 (2 : Int32))
  obtain ⟨cq1, kq1, q1a, q1b, q1c⟩ := isOf hZ e0 E_a1
  obtain ⟨_, _, ⟨T1, L1, k1, n1⟩, -, X1, ⟨Lc1, hQ1, l1, y1, z1⟩, st1⟩ := X0.virtualBack hx (y := m_19) (z := m_19) hown (mvT hZ (tw hw 61 rfl)) (mvT hZ (tw hw 62 rfl)) (notFace_of_selects (args := #[]) (mvT hZ (tw hw 64 rfl))) (mvT hZ (tw hw 64 rfl)) (mvT hZ (tw hw 63 rfl)) (by decide) (backOf (W := 0) (rm13_1 l Z a0 hw [] a1 zC h0 n0 O0 hCS sC F_coder_a1) hZ (tw hw 65 rfl) (tw hw 6 rfl) (by decide) (by decide)) q1a q1c (g := (mkF m 1 #[Rf a1, It (2 : Int32), .unset] [(.ref a1)])) rfl (by rw [hml]; rfl) (Steps.refl _) (argsL := []) (rest := []) (lenOf pd_12 rfl) rfl (w0 rfl) (hb hby d12_1) (fun _ _ => ⟨rfl, e0, (by decide : 0 + 0 ≤ _), (by decide : 0 + 0 ≤ _)⟩)
  dsimp only [Pt.U, Pt.locs, Pt.cells, Pt.slots] at X1 l1 y1 z1 st1 hQ1
  subst l1 y1 z1
  obtain ⟨rfl, N1q, e1⟩ := hQ1
  have N1 := Fr.app N0 N1q
  obtain ⟨T2, X2, e2, st2⟩ := getF X1 hx hZ hown (host := "") (Or.inl (tw hw 37 rfl)) Via.refl e1 F_value_a1 (g := (mkF m 28 #[Rf a1, It (2 : Int32), .unset] [(.ref a1)])) rfl rfl (hb hby d12_28)
  obtain ⟨cl3, Ar3, -, Sz3, Nn3, -, -⟩ := id A_tv
  obtain ⟨u4, hu4⟩ : ∃ z, z = (zz >>> ((1 : Int32) &&& 31)) := ⟨_, rfl⟩
  have sg5 : SG p.tables e below (T2.setTop (mkF m 34 #[Rf a1, It (2 : Int32), .unset] [(.int u4)])) (s₁.setTop (mkF m 0 #[Rf a1, It (2 : Int32), .unset] [])) := by
    intro target kt
    subst hu4
    show Steps _ _ _ (s₁.setTop (mkF m 0 #[Rf a1, It (2 : Int32), .unset] [])) _
    refine XS.aloadN X0.here hx rfl (hb hby d12_0) rfl rfl ?_
    refine st1.trans ?_
    refine XS.ifYes X1.here hx rfl (pc0 := 4) (pc' := 27) rfl (hb hby d12_4) rfl ((if0 _ _).trans (teq (by decide : (0 : Int32) = (0 : Int32))).1) (by decide) (by decide) ?_
    refine XS.aloadN X1.here hx rfl (hb hby d12_27) rfl rfl ?_
    refine st2 _ ?_
    refine X2.arraylength hx (own_rwh e2 Ar3.1) (State.isArrayOf_alike hZ.alike Ar3.2.1) (g := (mkF m 31 #[Rf a1, It (2 : Int32), .unset] [(.ref tv)])) rfl rfl (hb hby d12_31) _ ?_
    rw [len_of Sz3 Nn3]
    show Steps _ _ _ (T2.setTop (mkF m 32 #[Rf a1, It (2 : Int32), .unset] [(.int zz)])) _
    refine XS.iconst X2.here hx rfl (hb hby d12_32) ?_
    refine XS.ishr X2.here hx rfl (hb hby d12_33) rfl ?_
    exact kt
  have hkk : u4 = kk := hu4.trans h_k
  have hik : (3 : Int32) < u4 := by rw [hkk]; exact h_i
  obtain ⟨_, _, ⟨T6, L6, k6, n6⟩, -, X6, ⟨Lc6, hQ6, l6, y6, z6⟩, st6⟩ := Jvm.LawKit.callS X2 hx (y := m_22) hown (mvT hZ (tw hw 66 rfl)) (mvT hZ (tw hw 67 rfl)) (mvT hZ (tw hw 6 rfl)) (mvT hZ (tw hw 68 rfl)) (by decide) (backOf (W := 0) (rm14 l Z a0 hw [] (2 : Int32) u4 vFM h0 n0 O0 hFM (by decide) (own_ltz hik (by decide)) sF) hZ (tw hw 68 rfl) (tw hw 6 rfl) (by decide) (by decide)) (g := (mkF m 37 #[Rf a1, It (2 : Int32), It u4] [(.int u4), (.int (2 : Int32))])) rfl (by rw [hml]; rfl) (argsL := [(.int (2 : Int32)), (.int u4)]) (rest := []) (lenOf pd_13 rfl) rfl (w0 rfl) (hb hby d12_37) (fun _ _ => ⟨rfl, e2, (by decide : 0 + 0 ≤ _), (by decide : 0 + 0 ≤ _)⟩)
  dsimp only [Pt.U, Pt.locs, Pt.cells, Pt.slots] at X6 l6 y6 z6 st6 hQ6
  subst l6 y6 z6
  obtain ⟨rfl, N6q, e6⟩ := hQ6
  have N6 := Fr.app N1 N6q
  obtain ⟨T7, X7, e7, st7⟩ := getF X6 hx hZ hown (host := "") (Or.inl (tw hw 37 rfl)) Via.refl e6 F_value_a1 (g := (mkF m 41 #[Rf a1, It (2 : Int32), It u4] [(.ref a1)])) rfl rfl (hb hby d12_41)
  obtain ⟨_, _, ⟨T8, L8, k8, n8⟩, -, X8, ⟨Lc8, hQ8, l8, y8, z8⟩, st8⟩ := Jvm.LawKit.callS X7 hx (y := m_24) hown (mvT hZ (tw hw 108 rfl)) (mvT hZ (tw hw 109 rfl)) (mvT hZ (tw hw 26 rfl)) (mvT hZ (tw hw 110 rfl)) (by decide) (backOf (W := 0) (rm24_P2 l Z a0 hw [] tv u4 x1 x2 zz vs kt h0 n0 O0 sA sH sL h_z hik h_b1 h_b2 g0 g1 g2 g3 A_tv) hZ (tw hw 110 rfl) (tw hw 26 rfl) (by decide) (by decide)) (g := (mkF m 46 #[Rf a1, It (2 : Int32), It u4] [(.int u4), (.int (2 : Int32)), (.ref tv)])) rfl (by rw [hml]; rfl) (argsL := [(.ref tv), (.int (2 : Int32)), (.int u4)]) (rest := []) (lenOf pd_14 rfl) rfl (w0 rfl) (hb hby d12_46) (fun _ _ => ⟨rfl, e7, (by decide : 0 + 0 ≤ _), (by decide : 0 + 0 ≤ _)⟩)
  dsimp only [Pt.U, Pt.locs, Pt.cells, Pt.slots] at X8 l8 y8 z8 st8 hQ8
  subst l8 y8 z8
  obtain ⟨rfl, N8q, e8⟩ := hQ8
  have N8 := Fr.app N6 N8q
  obtain ⟨r8, hr8⟩ : ∃ z, z = (tcp x1 x2) := ⟨_, rfl⟩
  rw [← hr8] at st8
  have sg9 : SG p.tables e below (T8.setTop (mkF m 49 #[Rf a1, It (2 : Int32), It u4] [(.int r8)])) (T2.setTop (mkF m 34 #[Rf a1, It (2 : Int32), .unset] [(.int u4)])) := by
    intro target kt
    show Steps _ _ _ (T2.setTop (mkF m 34 #[Rf a1, It (2 : Int32), .unset] [(.int u4)])) _
    refine XS.istoreN X2.here hx rfl (hb hby d12_34) rfl (l' := #[Rf a1, It (2 : Int32), It u4]) rfl ?_
    refine XS.iloadN X2.here hx rfl (hb hby d12_35) rfl ?_
    refine XS.iloadN X2.here hx rfl (hb hby d12_36) rfl ?_
    refine st6 _ ?_
    refine XS.aloadN X6.here hx rfl (hb hby d12_40) rfl rfl ?_
    refine st7 _ ?_
    refine XS.iloadN X7.here hx rfl (hb hby d12_44) rfl ?_
    refine XS.iloadN X7.here hx rfl (hb hby d12_45) rfl ?_
    refine st8 _ ?_
    exact kt
  obtain ⟨fs, hr, hrun, hended, hW, hsame⟩ := X8.leave (v := some (.int r8)) (fun h => by rw [Bd.returns] at h; cases h)
  refine ⟨_, _, pre0 _ (sg5 _ (sg9 _ (?_))), hrun, hended, _, _, rfl, ?_, ⟨_, rfl⟩, hW, hsame.mono (by decide) (by decide)⟩
  · show Steps _ _ _ (T8.setTop (mkF m 49 #[Rf a1, It (2 : Int32), It u4] [(.int r8)])) _
    exact retI X8 hx Bd.returns (hb hby d12_49) hr
  · show Q12_P2 Z a1 x1 x2 zz vs kk tv vFM zC kt h0 n0 _ T8.heap _
    rw [e8]
    exact ⟨(by rw [hr8]), N8, rfl⟩
def Q12_L0 (Z : State) (a1 : Addr) (x1 : Int32) (zz : Int32) (vs : List Value) (tv : Addr) (vFM : Value) (zC : Int32) (kt : ClassId) (h0 : Heap) (n0 : Nat) (v : Option Value) (h : Heap) (L : List Loc) : Prop := v = some (.int x1) ∧ Fr n0 L ∧ h = h0
theorem rm12_L0 (l : Launch) (Z : State) (a0 : Array Value) (hw : ∀ d ∈ tables_1, d.before a0 Z = true) (ws : List Jvm.Cond) (a1 : Addr) (x1 : Int32) (zz : Int32) (vs : List Value) (tv : Addr) (vFM : Value) (zC : Int32) (kt : ClassId) (h0 : Heap) (n0 : Nat) (O0 : Old Z n0 h0) (hCS : ¬ zC = 0) (hFM : vFM.isRef = true) (h_z : (0 : Int32) < zz) (h_b1 : BM x1) (h_l : ¬ (255 : Int32) < x1) (g0 : vs.getD 0 (.int (0 : Int32)) = .int (llt x1)) (sC : TS_3 Z zC) (sF : TS_6 Z vFM) (E_a1 : Exa Z h0 a1 "java/lang/String") (F_coder_a1 : Fld Z h0 a1 "java/lang/String" "coder" "B" (.int (0 : Int32))) (F_value_a1 : Fld Z h0 a1 "java/lang/String" "value" "[B" (.ref tv)) (A_tv : Arv Z h0 tv kt .byte zz vs (.int (0 : Int32))) :
    MetFree l m_25 (head1 (Jvm.Cond.code m_25 jdk_42_method_57_code 3 (some .int) :: ws) (rk 2 0 0 27)) (fun a U => a = #[(.ref a1), (.int (0 : Int32))] ∧ Z.Warmed39 U.vm ∧ U.heap = h0) (fun _ _ _ _ _ => True) (fun _ U o U' => ∃ v L, o = .returned v ∧ Q12_L0 Z a1 x1 zz vs tv vFM zC kt h0 n0 v U'.heap L ∧ FrameEnd U o U' L (rk 2 0 0 27).cells (rk 2 0 0 27).slots) := by
  refine MetFree.of_bodySF (plainFor_of_name pn_3) hisR ?_
  intro p e s m args below meth c s₁ Bd hml0 hP hK
  obtain ⟨rfl, hZ, hh⟩ := hP
  have hx := Bd.exec
  have hby := Bd.bytes
  have hml : c.maxLocals = 3 := hml0
  have hown : s.vm.findClass "java/lang/String" = some m.cls := findClass_of_methodNamed Bd.named
  have X0 : Stand p l e (rk 2 0 0 27) s m #[(.ref a1), (.int (0 : Int32))] below meth c s₁ [] 0 0 := Stand.of_body Bd
  have e0 : s₁.heap = h0 := by rw [← hh, Bd.state]; rfl
  have N0 := Fr.nil n0
  have pre0 := own_pre (tb := p.tables) (e := e) (bl := below) (s := s₁) (ef_12_B0 m a1 (0 : Int32))
  obtain ⟨cq1, kq1, q1a, q1b, q1c⟩ := isOf hZ e0 E_a1
  obtain ⟨_, _, ⟨T1, L1, k1, n1⟩, -, X1, ⟨Lc1, hQ1, l1, y1, z1⟩, st1⟩ := X0.virtualBack hx (y := m_19) (z := m_19) hown (mvT hZ (tw hw 61 rfl)) (mvT hZ (tw hw 62 rfl)) (notFace_of_selects (args := #[]) (mvT hZ (tw hw 64 rfl))) (mvT hZ (tw hw 64 rfl)) (mvT hZ (tw hw 63 rfl)) (by decide) (backOf (W := 0) (rm13_0 l Z a0 hw [] a1 zC h0 n0 O0 hCS sC F_coder_a1) hZ (tw hw 65 rfl) (tw hw 6 rfl) (by decide) (by decide)) q1a q1c (g := (mkF m 1 #[Rf a1, It (0 : Int32), .unset] [(.ref a1)])) rfl (by rw [hml]; rfl) (Steps.refl _) (argsL := []) (rest := []) (lenOf pd_12 rfl) rfl (w0 rfl) (hb hby d12_1) (fun _ _ => ⟨rfl, e0, (by decide : 0 + 0 ≤ _), (by decide : 0 + 0 ≤ _)⟩)
  dsimp only [Pt.U, Pt.locs, Pt.cells, Pt.slots] at X1 l1 y1 z1 st1 hQ1
  subst l1 y1 z1
  obtain ⟨rfl, N1q, e1⟩ := hQ1
  have N1 := Fr.app N0 N1q
  obtain ⟨T2, X2, e2, st2⟩ := getF X1 hx hZ hown (host := "") (Or.inl (tw hw 37 rfl)) Via.refl e1 F_value_a1 (g := (mkF m 9 #[Rf a1, It (0 : Int32), .unset] [(.ref a1), (.int (0 : Int32))])) rfl rfl (hb hby d12_9)
  obtain ⟨cl3, Ar3, -, Sz3, Nn3, -, -⟩ := id A_tv
  obtain ⟨_, _, ⟨T4, L4, k4, n4⟩, -, X4, ⟨Lc4, hQ4, l4, y4, z4⟩, st4⟩ := Jvm.LawKit.callS X2 hx (y := m_22) hown (mvT hZ (tw hw 66 rfl)) (mvT hZ (tw hw 67 rfl)) (mvT hZ (tw hw 6 rfl)) (mvT hZ (tw hw 68 rfl)) (by decide) (backOf (W := 0) (rm14 l Z a0 hw [] (0 : Int32) zz vFM h0 n0 O0 hFM (by decide) h_z sF) hZ (tw hw 68 rfl) (tw hw 6 rfl) (by decide) (by decide)) (g := (mkF m 13 #[Rf a1, It (0 : Int32), .unset] [(.int zz), (.int (0 : Int32))])) rfl (by rw [hml]; rfl) (argsL := [(.int (0 : Int32)), (.int zz)]) (rest := []) (lenOf pd_13 rfl) rfl (w0 rfl) (hb hby d12_13) (fun _ _ => ⟨rfl, e2, (by decide : 0 + 0 ≤ _), (by decide : 0 + 0 ≤ _)⟩)
  dsimp only [Pt.U, Pt.locs, Pt.cells, Pt.slots] at X4 l4 y4 z4 st4 hQ4
  subst l4 y4 z4
  obtain ⟨rfl, N4q, e4⟩ := hQ4
  have N4 := Fr.app N1 N4q
  obtain ⟨T5, X5, e5, st5⟩ := getF X4 hx hZ hown (host := "") (Or.inl (tw hw 37 rfl)) Via.refl e4 F_value_a1 (g := (mkF m 17 #[Rf a1, It (0 : Int32), .unset] [(.ref a1)])) rfl rfl (hb hby d12_17)
  obtain ⟨cl6, Ar6, -, Sz6, Nn6, Hh6, -⟩ := id A_tv
  have hin6 : ¬ ((0 : Int32) < 0 ∨ cl6.slots.size ≤ ((0 : Int32)).toNatClampNeg) := inb_of Sz6 ⟨by decide, own_ltz h_z (by decide)⟩
  have hat6 : cl6.slots[((0 : Int32)).toNatClampNeg]? = some (.int (llt x1)) := Has.at Hh6 hin6 g0
  have sg7 : SG p.tables e below (T5.setTop (mkF m 26 #[Rf a1, It (0 : Int32), .unset] [(.int ((llt x1) &&& (255 : Int32)))])) (s₁.setTop (mkF m 0 #[Rf a1, It (0 : Int32), .unset] [])) := by
    intro target kt
    show Steps _ _ _ (s₁.setTop (mkF m 0 #[Rf a1, It (0 : Int32), .unset] [])) _
    refine XS.aloadN X0.here hx rfl (hb hby d12_0) rfl rfl ?_
    refine st1.trans ?_
    refine XS.ifNo X1.here hx rfl (hb hby d12_4) rfl ((if0 _ _).trans (feq (by decide : ¬ ((1 : Int32) = (0 : Int32)))).1) ?_
    refine XS.iloadN X1.here hx rfl (hb hby d12_7) rfl ?_
    refine XS.aloadN X1.here hx rfl (hb hby d12_8) rfl rfl ?_
    refine st2 _ ?_
    refine X2.arraylength hx (own_rwh e2 Ar3.1) (State.isArrayOf_alike hZ.alike Ar3.2.1) (g := (mkF m 12 #[Rf a1, It (0 : Int32), .unset] [(.ref tv), (.int (0 : Int32))])) rfl rfl (hb hby d12_12) _ ?_
    rw [len_of Sz3 Nn3]
    show Steps _ _ _ (T2.setTop (mkF m 13 #[Rf a1, It (0 : Int32), .unset] [(.int zz), (.int (0 : Int32))])) _
    refine st4 _ ?_
    refine XS.aloadN X4.here hx rfl (hb hby d12_16) rfl rfl ?_
    refine st5 _ ?_
    refine XS.iloadN X5.here hx rfl (hb hby d12_20) rfl ?_
    refine X5.baloadBytes hx (j := (0 : Int32)) (v := (.int (llt x1))) (own_rwh e5 Ar6.1) (State.isArrayOf_alike hZ.alike Ar6.2.1) Ar6.2.2 hin6 hat6 (g := (mkF m 21 #[Rf a1, It (0 : Int32), .unset] [(.int (0 : Int32)), (.ref tv)])) rfl rfl (hb hby d12_21) _ ?_
    refine XS.sipush X5.here hx rfl (hb hby d12_22) ?_
    refine XS.iand X5.here hx rfl (hb hby d12_25) rfl ?_
    exact kt
  obtain ⟨fs, hr, hrun, hended, hW, hsame⟩ := X5.leave (v := some (.int ((llt x1) &&& (255 : Int32)))) (fun h => by rw [Bd.returns] at h; cases h)
  refine ⟨_, _, pre0 _ (sg7 _ (?_)), hrun, hended, _, _, rfl, ?_, ⟨_, rfl⟩, hW, hsame.mono (by decide) (by decide)⟩
  · show Steps _ _ _ (T5.setTop (mkF m 26 #[Rf a1, It (0 : Int32), .unset] [(.int ((llt x1) &&& (255 : Int32)))])) _
    exact retI X5 hx Bd.returns (hb hby d12_26) hr
  · show Q12_L0 Z a1 x1 zz vs tv vFM zC kt h0 n0 _ T5.heap _
    rw [e5]
    exact ⟨(by rw [own_lat8 h_b1.1 h_l]), N4, rfl⟩
def Q12_L1 (Z : State) (a1 : Addr) (x1 : Int32) (zz : Int32) (vs : List Value) (tv : Addr) (vFM : Value) (zC : Int32) (kt : ClassId) (h0 : Heap) (n0 : Nat) (v : Option Value) (h : Heap) (L : List Loc) : Prop := v = some (.int x1) ∧ Fr n0 L ∧ h = h0
theorem rm12_L1 (l : Launch) (Z : State) (a0 : Array Value) (hw : ∀ d ∈ tables_1, d.before a0 Z = true) (ws : List Jvm.Cond) (a1 : Addr) (x1 : Int32) (zz : Int32) (vs : List Value) (tv : Addr) (vFM : Value) (zC : Int32) (kt : ClassId) (h0 : Heap) (n0 : Nat) (O0 : Old Z n0 h0) (hCS : ¬ zC = 0) (hFM : vFM.isRef = true) (h_z : (1 : Int32) < zz) (h_b1 : BM x1) (h_l : ¬ (255 : Int32) < x1) (g0 : vs.getD 1 (.int (0 : Int32)) = .int (llt x1)) (sC : TS_3 Z zC) (sF : TS_6 Z vFM) (E_a1 : Exa Z h0 a1 "java/lang/String") (F_coder_a1 : Fld Z h0 a1 "java/lang/String" "coder" "B" (.int (0 : Int32))) (F_value_a1 : Fld Z h0 a1 "java/lang/String" "value" "[B" (.ref tv)) (A_tv : Arv Z h0 tv kt .byte zz vs (.int (0 : Int32))) :
    MetFree l m_25 (head1 (Jvm.Cond.code m_25 jdk_42_method_57_code 3 (some .int) :: ws) (rk 2 0 0 27)) (fun a U => a = #[(.ref a1), (.int (1 : Int32))] ∧ Z.Warmed39 U.vm ∧ U.heap = h0) (fun _ _ _ _ _ => True) (fun _ U o U' => ∃ v L, o = .returned v ∧ Q12_L1 Z a1 x1 zz vs tv vFM zC kt h0 n0 v U'.heap L ∧ FrameEnd U o U' L (rk 2 0 0 27).cells (rk 2 0 0 27).slots) := by
  refine MetFree.of_bodySF (plainFor_of_name pn_3) hisR ?_
  intro p e s m args below meth c s₁ Bd hml0 hP hK
  obtain ⟨rfl, hZ, hh⟩ := hP
  have hx := Bd.exec
  have hby := Bd.bytes
  have hml : c.maxLocals = 3 := hml0
  have hown : s.vm.findClass "java/lang/String" = some m.cls := findClass_of_methodNamed Bd.named
  have X0 : Stand p l e (rk 2 0 0 27) s m #[(.ref a1), (.int (1 : Int32))] below meth c s₁ [] 0 0 := Stand.of_body Bd
  have e0 : s₁.heap = h0 := by rw [← hh, Bd.state]; rfl
  have N0 := Fr.nil n0
  have pre0 := own_pre (tb := p.tables) (e := e) (bl := below) (s := s₁) (ef_12_B0 m a1 (1 : Int32))
  obtain ⟨cq1, kq1, q1a, q1b, q1c⟩ := isOf hZ e0 E_a1
  obtain ⟨_, _, ⟨T1, L1, k1, n1⟩, -, X1, ⟨Lc1, hQ1, l1, y1, z1⟩, st1⟩ := X0.virtualBack hx (y := m_19) (z := m_19) hown (mvT hZ (tw hw 61 rfl)) (mvT hZ (tw hw 62 rfl)) (notFace_of_selects (args := #[]) (mvT hZ (tw hw 64 rfl))) (mvT hZ (tw hw 64 rfl)) (mvT hZ (tw hw 63 rfl)) (by decide) (backOf (W := 0) (rm13_0 l Z a0 hw [] a1 zC h0 n0 O0 hCS sC F_coder_a1) hZ (tw hw 65 rfl) (tw hw 6 rfl) (by decide) (by decide)) q1a q1c (g := (mkF m 1 #[Rf a1, It (1 : Int32), .unset] [(.ref a1)])) rfl (by rw [hml]; rfl) (Steps.refl _) (argsL := []) (rest := []) (lenOf pd_12 rfl) rfl (w0 rfl) (hb hby d12_1) (fun _ _ => ⟨rfl, e0, (by decide : 0 + 0 ≤ _), (by decide : 0 + 0 ≤ _)⟩)
  dsimp only [Pt.U, Pt.locs, Pt.cells, Pt.slots] at X1 l1 y1 z1 st1 hQ1
  subst l1 y1 z1
  obtain ⟨rfl, N1q, e1⟩ := hQ1
  have N1 := Fr.app N0 N1q
  obtain ⟨T2, X2, e2, st2⟩ := getF X1 hx hZ hown (host := "") (Or.inl (tw hw 37 rfl)) Via.refl e1 F_value_a1 (g := (mkF m 9 #[Rf a1, It (1 : Int32), .unset] [(.ref a1), (.int (1 : Int32))])) rfl rfl (hb hby d12_9)
  obtain ⟨cl3, Ar3, -, Sz3, Nn3, -, -⟩ := id A_tv
  obtain ⟨_, _, ⟨T4, L4, k4, n4⟩, -, X4, ⟨Lc4, hQ4, l4, y4, z4⟩, st4⟩ := Jvm.LawKit.callS X2 hx (y := m_22) hown (mvT hZ (tw hw 66 rfl)) (mvT hZ (tw hw 67 rfl)) (mvT hZ (tw hw 6 rfl)) (mvT hZ (tw hw 68 rfl)) (by decide) (backOf (W := 0) (rm14 l Z a0 hw [] (1 : Int32) zz vFM h0 n0 O0 hFM (by decide) h_z sF) hZ (tw hw 68 rfl) (tw hw 6 rfl) (by decide) (by decide)) (g := (mkF m 13 #[Rf a1, It (1 : Int32), .unset] [(.int zz), (.int (1 : Int32))])) rfl (by rw [hml]; rfl) (argsL := [(.int (1 : Int32)), (.int zz)]) (rest := []) (lenOf pd_13 rfl) rfl (w0 rfl) (hb hby d12_13) (fun _ _ => ⟨rfl, e2, (by decide : 0 + 0 ≤ _), (by decide : 0 + 0 ≤ _)⟩)
  dsimp only [Pt.U, Pt.locs, Pt.cells, Pt.slots] at X4 l4 y4 z4 st4 hQ4
  subst l4 y4 z4
  obtain ⟨rfl, N4q, e4⟩ := hQ4
  have N4 := Fr.app N1 N4q
  obtain ⟨T5, X5, e5, st5⟩ := getF X4 hx hZ hown (host := "") (Or.inl (tw hw 37 rfl)) Via.refl e4 F_value_a1 (g := (mkF m 17 #[Rf a1, It (1 : Int32), .unset] [(.ref a1)])) rfl rfl (hb hby d12_17)
  obtain ⟨cl6, Ar6, -, Sz6, Nn6, Hh6, -⟩ := id A_tv
  have hin6 : ¬ ((1 : Int32) < 0 ∨ cl6.slots.size ≤ ((1 : Int32)).toNatClampNeg) := inb_of Sz6 ⟨by decide, own_ltz h_z (by decide)⟩
  have hat6 : cl6.slots[((1 : Int32)).toNatClampNeg]? = some (.int (llt x1)) := Has.at Hh6 hin6 g0
  have sg7 : SG p.tables e below (T5.setTop (mkF m 26 #[Rf a1, It (1 : Int32), .unset] [(.int ((llt x1) &&& (255 : Int32)))])) (s₁.setTop (mkF m 0 #[Rf a1, It (1 : Int32), .unset] [])) := by
    intro target kt
    show Steps _ _ _ (s₁.setTop (mkF m 0 #[Rf a1, It (1 : Int32), .unset] [])) _
    refine XS.aloadN X0.here hx rfl (hb hby d12_0) rfl rfl ?_
    refine st1.trans ?_
    refine XS.ifNo X1.here hx rfl (hb hby d12_4) rfl ((if0 _ _).trans (feq (by decide : ¬ ((1 : Int32) = (0 : Int32)))).1) ?_
    refine XS.iloadN X1.here hx rfl (hb hby d12_7) rfl ?_
    refine XS.aloadN X1.here hx rfl (hb hby d12_8) rfl rfl ?_
    refine st2 _ ?_
    refine X2.arraylength hx (own_rwh e2 Ar3.1) (State.isArrayOf_alike hZ.alike Ar3.2.1) (g := (mkF m 12 #[Rf a1, It (1 : Int32), .unset] [(.ref tv), (.int (1 : Int32))])) rfl rfl (hb hby d12_12) _ ?_
    rw [len_of Sz3 Nn3]
    show Steps _ _ _ (T2.setTop (mkF m 13 #[Rf a1, It (1 : Int32), .unset] [(.int zz), (.int (1 : Int32))])) _
    refine st4 _ ?_
    refine XS.aloadN X4.here hx rfl (hb hby d12_16) rfl rfl ?_
    refine st5 _ ?_
    refine XS.iloadN X5.here hx rfl (hb hby d12_20) rfl ?_
    refine X5.baloadBytes hx (j := (1 : Int32)) (v := (.int (llt x1))) (own_rwh e5 Ar6.1) (State.isArrayOf_alike hZ.alike Ar6.2.1) Ar6.2.2 hin6 hat6 (g := (mkF m 21 #[Rf a1, It (1 : Int32), .unset] [(.int (1 : Int32)), (.ref tv)])) rfl rfl (hb hby d12_21) _ ?_
    refine XS.sipush X5.here hx rfl (hb hby d12_22) ?_
    refine XS.iand X5.here hx rfl (hb hby d12_25) rfl ?_
    exact kt
  obtain ⟨fs, hr, hrun, hended, hW, hsame⟩ := X5.leave (v := some (.int ((llt x1) &&& (255 : Int32)))) (fun h => by rw [Bd.returns] at h; cases h)
  refine ⟨_, _, pre0 _ (sg7 _ (?_)), hrun, hended, _, _, rfl, ?_, ⟨_, rfl⟩, hW, hsame.mono (by decide) (by decide)⟩
  · show Steps _ _ _ (T5.setTop (mkF m 26 #[Rf a1, It (1 : Int32), .unset] [(.int ((llt x1) &&& (255 : Int32)))])) _
    exact retI X5 hx Bd.returns (hb hby d12_26) hr
  · show Q12_L1 Z a1 x1 zz vs tv vFM zC kt h0 n0 _ T5.heap _
    rw [e5]
    exact ⟨(by rw [own_lat8 h_b1.1 h_l]), N4, rfl⟩
def Q9_B0 (Z : State) (a1 : Addr) (a2 : Addr) (p3 : Int32) (x1 : Int32) (tv : Addr) (vFM : Value) (zC : Int32) (kt : ClassId) (h0 : Heap) (n0 : Nat) (v : Option Value) (h : Heap) (L : List Loc) : Prop := v = none ∧ Fr n0 L ∧ h = h0
theorem ef_9_B0 (m : MethodId) (x0 : Addr) (x1 : Addr) (x2 : Int32) : entryFrame m #[(.ref x0), (.ref x1), (.int x2)] 6 = mkF m 0 #[.val (.ref x0), .val (.ref x1), .val (.int x2), .unset, .unset, .unset] [] := by first | (simp [entryFrame, mkF, argsToLocals, Value.category]; done) | rfl
theorem rm9_B0 (l : Launch) (Z : State) (a0 : Array Value) (hw : ∀ d ∈ tables_1, d.before a0 Z = true) (ws : List Jvm.Cond) (a1 : Addr) (a2 : Addr) (p3 : Int32) (x1 : Int32) (tv : Addr) (vFM : Value) (zC : Int32) (kt : ClassId) (h0 : Heap) (n0 : Nat) (O0 : Old Z n0 h0) (hCS : ¬ zC = 0) (hFM : vFM.isRef = true) (sC : TS_3 Z zC) (sF : TS_6 Z vFM) (E_a1 : Exa Z h0 a1 "java/lang/String") (F_coder_a1 : Fld Z h0 a1 "java/lang/String" "coder" "B" (.int (0 : Int32))) (F_value_a1 : Fld Z h0 a1 "java/lang/String" "value" "[B" (.ref tv)) (A_tv : Arv Z h0 tv kt .byte (1 : Int32) (lu1 x1) (.int (0 : Int32))) (h_b1 : BM x1) (h_p : ¬ p3 < (1 : Int32)) (h_l1 : ¬ (255 : Int32) < x1) :
    MetFree l m_26 (head1 (Jvm.Cond.code m_26 prog_8_method_2_code 6 none :: ws) (rk 3 0 0 42)) (fun a U => a = #[(.ref a1), (.ref a2), (.int p3)] ∧ Z.Warmed39 U.vm ∧ U.heap = h0) (fun _ _ _ _ _ => True) (fun _ U o U' => ∃ v L, o = .returned v ∧ Q9_B0 Z a1 a2 p3 x1 tv vFM zC kt h0 n0 v U'.heap L ∧ FrameEnd U o U' L (rk 3 0 0 42).cells (rk 3 0 0 42).slots) := by
  refine MetFree.of_bodySF (plainFor_of_name pn_5) hisR ?_
  intro p e s m args below meth c s₁ Bd hml0 hP hK
  obtain ⟨rfl, hZ, hh⟩ := hP
  have hx := Bd.exec
  have hby := Bd.bytes
  have hml : c.maxLocals = 6 := hml0
  have hown : s.vm.findClass "com/example/chitragupta/chitragupta/core/Characters" = some m.cls := findClass_of_methodNamed Bd.named
  have X0 : Stand p l e (rk 3 0 0 42) s m #[(.ref a1), (.ref a2), (.int p3)] below meth c s₁ [] 0 0 := Stand.of_body Bd
  have e0 : s₁.heap = h0 := by rw [← hh, Bd.state]; rfl
  have N0 := Fr.nil n0
  have pre0 := own_pre (tb := p.tables) (e := e) (bl := below) (s := s₁) (ef_9_B0 m a1 a2 p3)
  obtain ⟨cq1, kq1, q1a, q1b, q1c⟩ := isOf hZ e0 E_a1
  obtain ⟨_, _, ⟨T1, L1, k1, n1⟩, -, X1, ⟨Lc1, hQ1, l1, y1, z1⟩, st1⟩ := X0.virtualBack hx (y := m_20) (z := m_20) hown (mvT hZ (tw hw 46 rfl)) (mvT hZ (tw hw 47 rfl)) (notFace_of_selects (args := #[]) (mvT hZ (tw hw 49 rfl))) (mvT hZ (tw hw 49 rfl)) (mvT hZ (tw hw 48 rfl)) (by decide) (backOf (W := 1) (rm10_0 l Z a0 hw [] a1 (1 : Int32) (1 : Int32) (lu1 x1) tv zC kt h0 n0 O0 hCS (by decide) sC E_a1 F_coder_a1 F_value_a1 A_tv) hZ (tw hw 50 rfl) (tw hw 6 rfl) (by decide) (by decide)) q1a q1c (g := (mkF m 8 #[Rf a1, Rf a2, It p3, It (0 : Int32), It (0 : Int32), .unset] [(.ref a1), (.int (0 : Int32))])) rfl (by rw [hml]; rfl) (Steps.refl _) (argsL := []) (rest := [(.int (0 : Int32))]) (lenOf pd_16 rfl) rfl (w0 rfl) (hb hby d9_8) (fun _ _ => ⟨rfl, e0, (by decide : 0 + 0 ≤ _), (by decide : 0 + 0 ≤ _)⟩)
  dsimp only [Pt.U, Pt.locs, Pt.cells, Pt.slots] at X1 l1 y1 z1 st1 hQ1
  subst l1 y1 z1
  obtain ⟨rfl, N1q, e1⟩ := hQ1
  have N1 := Fr.app N0 N1q
  obtain ⟨cq2, kq2, q2a, q2b, q2c⟩ := isOf hZ e1 E_a1
  obtain ⟨_, _, ⟨T2, L2, k2, n2⟩, -, X2, ⟨Lc2, hQ2, l2, y2, z2⟩, st2⟩ := X1.virtualBack hx (y := m_25) (z := m_25) hown (mvT hZ (tw hw 56 rfl)) (mvT hZ (tw hw 57 rfl)) (notFace_of_selects (args := #[]) (mvT hZ (tw hw 59 rfl))) (mvT hZ (tw hw 59 rfl)) (mvT hZ (tw hw 58 rfl)) (by decide) (backOf (W := 0) (rm12_L0 l Z a0 hw [] a1 x1 (1 : Int32) (lu1 x1) tv vFM zC kt h0 n0 O0 hCS hFM (by decide) h_b1 h_l1 rfl sC sF E_a1 F_coder_a1 F_value_a1 A_tv) hZ (tw hw 60 rfl) (tw hw 6 rfl) (by decide) (by decide)) q2a q2c (g := (mkF m 17 #[Rf a1, Rf a2, It p3, It (0 : Int32), It (0 : Int32), .unset] [(.int (0 : Int32)), (.ref a1)])) rfl (by rw [hml]; rfl) (Steps.refl _) (argsL := [(.int (0 : Int32))]) (rest := []) (lenOf pd_0 rfl) rfl (w0 rfl) (hb hby d9_17) (fun _ _ => ⟨rfl, e1, (by decide : 0 + 0 ≤ _), (by decide : 0 + 0 ≤ _)⟩)
  dsimp only [Pt.U, Pt.locs, Pt.cells, Pt.slots] at X2 l2 y2 z2 st2 hQ2
  subst l2 y2 z2
  obtain ⟨rfl, N2q, e2⟩ := hQ2
  have N2 := Fr.app N1 N2q
  have sg3 : SG p.tables e below (T2.setTop (mkF m 45 #[Rf a1, Rf a2, It p3, .val (.int ((0 : Int32) + (1 : Int32))), It (0 : Int32), It x1] [])) (s₁.setTop (mkF m 0 #[Rf a1, Rf a2, It p3, .unset, .unset, .unset] [])) := by
    intro target kt
    show Steps _ _ _ (s₁.setTop (mkF m 0 #[Rf a1, Rf a2, It p3, .unset, .unset, .unset] [])) _
    refine XS.iconst X0.here hx rfl (hb hby d9_0) ?_
    refine XS.istoreN X0.here hx rfl (hb hby d9_1) rfl (l' := #[Rf a1, Rf a2, It p3, It (0 : Int32), .unset, .unset]) rfl ?_
    refine XS.iconst X0.here hx rfl (hb hby d9_2) ?_
    refine XS.istore X0.here hx rfl (hb hby d9_3) rfl (l' := #[Rf a1, Rf a2, It p3, It (0 : Int32), It (0 : Int32), .unset]) rfl ?_
    refine XS.iload X0.here hx rfl (hb hby d9_5) rfl ?_
    refine XS.aloadN X0.here hx rfl (hb hby d9_7) rfl rfl ?_
    refine st1.trans ?_
    refine XS.icmpNo X1.here hx rfl (hb hby d9_11) rfl (tlt (by decide : (0 : Int32) < (1 : Int32))).2.1 ?_
    refine XS.aloadN X1.here hx rfl (hb hby d9_14) rfl rfl ?_
    refine XS.iload X1.here hx rfl (hb hby d9_15) rfl ?_
    refine st2.trans ?_
    refine XS.istore X2.here hx rfl (hb hby d9_20) rfl (l' := #[Rf a1, Rf a2, It p3, It (0 : Int32), It (0 : Int32), It x1]) rfl ?_
    refine XS.iinc X2.here hx rfl (hb hby d9_22) rfl (l' := #[Rf a1, Rf a2, It p3, .val (.int ((0 : Int32) + (1 : Int32))), It (0 : Int32), It x1]) rfl ?_
    refine XS.iload X2.here hx rfl (hb hby d9_25) rfl ?_
    refine XS.ifYes X2.here hx rfl (pc0 := 27) (pc' := 45) rfl (hb hby d9_27) rfl ((if0 _ _).trans (feq h_b1.2.1).2) (by decide) (by decide) ?_
    exact kt
  obtain ⟨T8, L8, X8, e8, N8, sg8⟩ : ∃ (T' : State) (L' : List Loc), Stand p l e (rk 3 0 0 42) s m #[(.ref a1), (.ref a2), (.int p3)] below meth c T' L' 0 0 ∧ T'.heap = h0 ∧ Fr n0 L' ∧ ∀ target, Steps p.tables e below (T'.setTop (mkF m 95 #[Rf a1, Rf a2, It p3, .val (.int ((0 : Int32) + (1 : Int32))), It (0 : Int32), It x1] [])) target → Steps p.tables e below (T2.setTop (mkF m 45 #[Rf a1, Rf a2, It p3, .val (.int ((0 : Int32) + (1 : Int32))), It (0 : Int32), It x1] [])) target := by
    have sg4 : SG p.tables e below (T2.setTop (mkF m 49 #[Rf a1, Rf a2, It p3, .val (.int ((0 : Int32) + (1 : Int32))), It (0 : Int32), It x1] [(.int (55296 : Int32)), (.int x1)])) (T2.setTop (mkF m 45 #[Rf a1, Rf a2, It p3, .val (.int ((0 : Int32) + (1 : Int32))), It (0 : Int32), It x1] [])) := by
      intro target kt
      show Steps _ _ _ (T2.setTop (mkF m 45 #[Rf a1, Rf a2, It p3, .val (.int ((0 : Int32) + (1 : Int32))), It (0 : Int32), It x1] [])) _
      refine XS.iload X2.here hx rfl (hb hby d9_45) rfl ?_
      refine X2.ldcInt hx hown (mvT hZ (tw hw 74 rfl)) (g := (mkF m 47 #[Rf a1, Rf a2, It p3, .val (.int ((0 : Int32) + (1 : Int32))), It (0 : Int32), It x1] [(.int x1)])) rfl (hb hby d9_47) _ ?_
      exact kt
    by_cases hc5 : x1 < (55296 : Int32)
    · have sg6 : SG p.tables e below (T2.setTop (mkF m 95 #[Rf a1, Rf a2, It p3, .val (.int ((0 : Int32) + (1 : Int32))), It (0 : Int32), It x1] [])) (T2.setTop (mkF m 49 #[Rf a1, Rf a2, It p3, .val (.int ((0 : Int32) + (1 : Int32))), It (0 : Int32), It x1] [(.int (55296 : Int32)), (.int x1)])) := by
        intro target kt
        show Steps _ _ _ (T2.setTop (mkF m 49 #[Rf a1, Rf a2, It p3, .val (.int ((0 : Int32) + (1 : Int32))), It (0 : Int32), It x1] [(.int (55296 : Int32)), (.int x1)])) _
        refine XS.icmpYes X2.here hx rfl (pc0 := 49) (pc' := 95) rfl (hb hby d9_49) rfl (tlt hc5).1 (by decide) (by decide) ?_
        exact kt
      exact ⟨T2, _, X2.mono (by decide) (by decide), e2, N2, fun target kt => sg4 _ (sg6 _ (kt))⟩
    · have sg7 : SG p.tables e below (T2.setTop (mkF m 95 #[Rf a1, Rf a2, It p3, .val (.int ((0 : Int32) + (1 : Int32))), It (0 : Int32), It x1] [])) (T2.setTop (mkF m 49 #[Rf a1, Rf a2, It p3, .val (.int ((0 : Int32) + (1 : Int32))), It (0 : Int32), It x1] [(.int (55296 : Int32)), (.int x1)])) := by
        intro target kt
        show Steps _ _ _ (T2.setTop (mkF m 49 #[Rf a1, Rf a2, It p3, .val (.int ((0 : Int32) + (1 : Int32))), It (0 : Int32), It x1] [(.int (55296 : Int32)), (.int x1)])) _
        refine XS.icmpNo X2.here hx rfl (hb hby d9_49) rfl (flt hc5).1 ?_
        refine XS.iload X2.here hx rfl (hb hby d9_52) rfl ?_
        refine X2.ldcInt hx hown (mvT hZ (tw hw 127 rfl)) (g := (mkF m 54 #[Rf a1, Rf a2, It p3, .val (.int ((0 : Int32) + (1 : Int32))), It (0 : Int32), It x1] [(.int x1)])) rfl (hb hby d9_54) _ ?_
        refine XS.icmpYes X2.here hx rfl (pc0 := 56) (pc' := 95) rfl (hb hby d9_56) rfl (tlt (h_b1.2.2.resolve_left hc5)).2.2.1 (by decide) (by decide) ?_
        exact kt
      exact ⟨T2, _, X2.mono (by decide) (by decide), e2, N2, fun target kt => sg4 _ (sg7 _ (kt))⟩
  obtain ⟨cq9, kq9, q9a, q9b, q9c⟩ := isOf hZ e8 E_a1
  obtain ⟨_, _, ⟨T9, L9, k9, n9⟩, -, X9, ⟨Lc9, hQ9, l9, y9, z9⟩, st9⟩ := X8.virtualBack hx (y := m_25) (z := m_25) hown (mvT hZ (tw hw 56 rfl)) (mvT hZ (tw hw 57 rfl)) (notFace_of_selects (args := #[]) (mvT hZ (tw hw 59 rfl))) (mvT hZ (tw hw 59 rfl)) (mvT hZ (tw hw 58 rfl)) (by decide) (backOf (W := 1) (rm12_L0 l Z a0 hw [] a1 x1 (1 : Int32) (lu1 x1) tv vFM zC kt h0 n0 O0 hCS hFM (by decide) h_b1 h_l1 rfl sC sF E_a1 F_coder_a1 F_value_a1 A_tv) hZ (tw hw 60 rfl) (tw hw 6 rfl) (by decide) (by decide)) q9a q9c (g := (mkF m 100 #[Rf a1, Rf a2, It p3, .val (.int ((0 : Int32) + (1 : Int32))), It (0 : Int32), It x1] [(.int (0 : Int32)), (.ref a1), (.int (0 : Int32))])) rfl (by rw [hml]; rfl) (Steps.refl _) (argsL := [(.int (0 : Int32))]) (rest := [(.int (0 : Int32))]) (lenOf pd_0 rfl) rfl (w0 rfl) (hb hby d9_100) (fun _ _ => ⟨rfl, e8, (by decide : 0 + 0 ≤ _), (by decide : 0 + 0 ≤ _)⟩)
  dsimp only [Pt.U, Pt.locs, Pt.cells, Pt.slots] at X9 l9 y9 z9 st9 hQ9
  subst l9 y9 z9
  obtain ⟨rfl, N9q, e9⟩ := hQ9
  have N9 := Fr.app N8 N9q
  obtain ⟨_, _, ⟨T10, L10, k10, n10⟩, -, X10, ⟨Lc10, hQ10, l10, y10, z10⟩, st10⟩ := Jvm.LawKit.callS X9 hx (y := m_4) hown (mvT hZ (tw hw 75 rfl)) (mvT hZ (tw hw 76 rfl)) (mvT hZ (tw hw 77 rfl)) (mvT hZ (tw hw 78 rfl)) (by decide) (backOf (W := 1) (rm16 l Z a0 hw [] x1 h0 n0 O0 ) hZ (tw hw 78 rfl) (tw hw 77 rfl) (by decide) (by decide)) (g := (mkF m 103 #[Rf a1, Rf a2, It p3, .val (.int ((0 : Int32) + (1 : Int32))), It (0 : Int32), It x1] [(.int x1), (.int (0 : Int32))])) rfl (by rw [hml]; rfl) (argsL := [(.int x1)]) (rest := [(.int (0 : Int32))]) (lenOf pd_0 rfl) rfl (w0 rfl) (hb hby d9_103) (fun _ _ => ⟨rfl, e9, (by decide : 0 + 0 ≤ _), (by decide : 0 + 0 ≤ _)⟩)
  dsimp only [Pt.U, Pt.locs, Pt.cells, Pt.slots] at X10 l10 y10 z10 st10 hQ10
  subst l10 y10 z10
  obtain ⟨rfl, N10q, e10⟩ := hQ10
  have N10 := Fr.app N9 N10q
  obtain ⟨r10, hr10⟩ : ∃ z, z = (if x1 < (65536 : Int32) then (1 : Int32) else (2 : Int32)) := ⟨_, rfl⟩
  rw [← hr10] at st10
  have hcc10 : r10 = (1 : Int32) := own_cc1 h_b1 hr10
  subst hcc10
  obtain ⟨u11, hu11⟩ : ∃ z, z = ((0 : Int32) + (1 : Int32)) := ⟨_, rfl⟩
  have sg12 : SG p.tables e below (T10.setTop (mkF m 107 #[Rf a1, Rf a2, It p3, .val (.int ((0 : Int32) + (1 : Int32))), It (0 : Int32), It x1] [(.int u11)])) (T8.setTop (mkF m 95 #[Rf a1, Rf a2, It p3, .val (.int ((0 : Int32) + (1 : Int32))), It (0 : Int32), It x1] [])) := by
    intro target kt
    subst hu11
    show Steps _ _ _ (T8.setTop (mkF m 95 #[Rf a1, Rf a2, It p3, .val (.int ((0 : Int32) + (1 : Int32))), It (0 : Int32), It x1] [])) _
    refine XS.iload X8.here hx rfl (hb hby d9_95) rfl ?_
    refine XS.aloadN X8.here hx rfl (hb hby d9_97) rfl rfl ?_
    refine XS.iload X8.here hx rfl (hb hby d9_98) rfl ?_
    refine st9.trans ?_
    refine st10 _ ?_
    refine XS.iadd X10.here hx rfl (hb hby d9_106) rfl ?_
    exact kt
  have hk_u11 : u11 = (1 : Int32) := by rw [hu11]; decide
  subst hk_u11
  obtain ⟨cq13, kq13, q13a, q13b, q13c⟩ := isOf hZ e10 E_a1
  obtain ⟨_, _, ⟨T13, L13, k13, n13⟩, -, X13, ⟨Lc13, hQ13, l13, y13, z13⟩, st13⟩ := X10.virtualBack hx (y := m_20) (z := m_20) hown (mvT hZ (tw hw 46 rfl)) (mvT hZ (tw hw 47 rfl)) (notFace_of_selects (args := #[]) (mvT hZ (tw hw 49 rfl))) (mvT hZ (tw hw 49 rfl)) (mvT hZ (tw hw 48 rfl)) (by decide) (backOf (W := 1) (rm10_0 l Z a0 hw [] a1 (1 : Int32) (1 : Int32) (lu1 x1) tv zC kt h0 n0 O0 hCS (by decide) sC E_a1 F_coder_a1 F_value_a1 A_tv) hZ (tw hw 50 rfl) (tw hw 6 rfl) (by decide) (by decide)) q13a q13c (g := (mkF m 8 #[Rf a1, Rf a2, It p3, .val (.int ((0 : Int32) + (1 : Int32))), It (1 : Int32), It x1] [(.ref a1), (.int (1 : Int32))])) rfl (by rw [hml]; rfl) (Steps.refl _) (argsL := []) (rest := [(.int (1 : Int32))]) (lenOf pd_16 rfl) rfl (w0 rfl) (hb hby d9_8) (fun _ _ => ⟨rfl, e10, (by decide : 0 + 0 ≤ _), (by decide : 0 + 0 ≤ _)⟩)
  dsimp only [Pt.U, Pt.locs, Pt.cells, Pt.slots] at X13 l13 y13 z13 st13 hQ13
  subst l13 y13 z13
  obtain ⟨rfl, N13q, e13⟩ := hQ13
  have N13 := Fr.app N10 N13q
  have sg14 : SG p.tables e below (T13.setTop (mkF m 137 #[Rf a1, Rf a2, It p3, .val (.int ((0 : Int32) + (1 : Int32))), It (1 : Int32), It x1] [])) (T10.setTop (mkF m 107 #[Rf a1, Rf a2, It p3, .val (.int ((0 : Int32) + (1 : Int32))), It (0 : Int32), It x1] [(.int (1 : Int32))])) := by
    intro target kt
    show Steps _ _ _ (T10.setTop (mkF m 107 #[Rf a1, Rf a2, It p3, .val (.int ((0 : Int32) + (1 : Int32))), It (0 : Int32), It x1] [(.int (1 : Int32))])) _
    refine XS.istore X10.here hx rfl (hb hby d9_107) rfl (l' := #[Rf a1, Rf a2, It p3, .val (.int ((0 : Int32) + (1 : Int32))), It (1 : Int32), It x1]) rfl ?_
    refine XS.goto X10.here hx rfl (pc0 := 109) (pc' := 5) rfl (hb hby d9_109) (by decide) (by decide) ?_
    refine XS.iload X10.here hx rfl (hb hby d9_5) rfl ?_
    refine XS.aloadN X10.here hx rfl (hb hby d9_7) rfl rfl ?_
    refine st13.trans ?_
    refine XS.icmpYes X13.here hx rfl (pc0 := 11) (pc' := 112) rfl (hb hby d9_11) rfl (flt (by decide : ¬ ((1 : Int32) < (1 : Int32)))).2.1 (by decide) (by decide) ?_
    refine XS.iloadN X13.here hx rfl (hb hby d9_112) rfl ?_
    refine XS.ifNo X13.here hx rfl (hb hby d9_113) rfl ((if0 _ _).trans (feq (by decide : ¬ (((0 : Int32) + (1 : Int32)) = (0 : Int32)))).1) ?_
    refine XS.iloadN X13.here hx rfl (hb hby d9_116) rfl ?_
    refine XS.iloadN X13.here hx rfl (hb hby d9_117) rfl ?_
    refine XS.icmpYes X13.here hx rfl (pc0 := 118) (pc' := 137) rfl (hb hby d9_118) rfl (flt (own_cnt h_p (by decide))).2.2.2 (by decide) (by decide) ?_
    exact kt
  obtain ⟨fs, hr, hrun, hended, hW, hsame⟩ := X13.leave (v := none) (fun _ => rfl)
  refine ⟨_, _, pre0 _ (sg3 _ (sg8 _ (sg12 _ (sg14 _ (?_))))), hrun, hended, _, _, rfl, ?_, ⟨_, rfl⟩, hW, hsame.mono (by decide) (by decide)⟩
  · show Steps _ _ _ (T13.setTop (mkF m 137 #[Rf a1, Rf a2, It p3, .val (.int ((0 : Int32) + (1 : Int32))), It (1 : Int32), It x1] [])) _
    exact X13.returnOut hx Bd.returns (hb hby d9_137) hr
  · show Q9_B0 Z a1 a2 p3 x1 tv vFM zC kt h0 n0 _ T13.heap _
    rw [e13]
    exact ⟨rfl, N13, rfl⟩
def Q9_B1 (Z : State) (a1 : Addr) (a2 : Addr) (p3 : Int32) (x1 : Int32) (tv : Addr) (vFM : Value) (zC : Int32) (kt : ClassId) (h0 : Heap) (n0 : Nat) (v : Option Value) (h : Heap) (L : List Loc) : Prop := v = none ∧ Fr n0 L ∧ h = h0
theorem rm9_B1 (l : Launch) (Z : State) (a0 : Array Value) (hw : ∀ d ∈ tables_1, d.before a0 Z = true) (ws : List Jvm.Cond) (a1 : Addr) (a2 : Addr) (p3 : Int32) (x1 : Int32) (tv : Addr) (vFM : Value) (zC : Int32) (kt : ClassId) (h0 : Heap) (n0 : Nat) (O0 : Old Z n0 h0) (hCS : ¬ zC = 0) (hFM : vFM.isRef = true) (sC : TS_3 Z zC) (sA : TS_0 Z) (sH : TS_1 Z) (sL : TS_2 Z) (sF : TS_6 Z vFM) (E_a1 : Exa Z h0 a1 "java/lang/String") (F_coder_a1 : Fld Z h0 a1 "java/lang/String" "coder" "B" (.int (1 : Int32))) (F_value_a1 : Fld Z h0 a1 "java/lang/String" "value" "[B" (.ref tv)) (A_tv : Arv Z h0 tv kt .byte (2 : Int32) (ub1 x1) (.int (0 : Int32))) (h_b1 : BM x1) (h_p : ¬ p3 < (1 : Int32)) :
    MetFree l m_26 (head1 (Jvm.Cond.code m_26 prog_8_method_2_code 6 none :: ws) (rk 4 0 0 59)) (fun a U => a = #[(.ref a1), (.ref a2), (.int p3)] ∧ Z.Warmed39 U.vm ∧ U.heap = h0) (fun _ _ _ _ _ => True) (fun _ U o U' => ∃ v L, o = .returned v ∧ Q9_B1 Z a1 a2 p3 x1 tv vFM zC kt h0 n0 v U'.heap L ∧ FrameEnd U o U' L (rk 4 0 0 59).cells (rk 4 0 0 59).slots) := by
  refine MetFree.of_bodySF (plainFor_of_name pn_5) hisR ?_
  intro p e s m args below meth c s₁ Bd hml0 hP hK
  obtain ⟨rfl, hZ, hh⟩ := hP
  have hx := Bd.exec
  have hby := Bd.bytes
  have hml : c.maxLocals = 6 := hml0
  have hown : s.vm.findClass "com/example/chitragupta/chitragupta/core/Characters" = some m.cls := findClass_of_methodNamed Bd.named
  have X0 : Stand p l e (rk 4 0 0 59) s m #[(.ref a1), (.ref a2), (.int p3)] below meth c s₁ [] 0 0 := Stand.of_body Bd
  have e0 : s₁.heap = h0 := by rw [← hh, Bd.state]; rfl
  have N0 := Fr.nil n0
  have pre0 := own_pre (tb := p.tables) (e := e) (bl := below) (s := s₁) (ef_9_B0 m a1 a2 p3)
  obtain ⟨cq1, kq1, q1a, q1b, q1c⟩ := isOf hZ e0 E_a1
  obtain ⟨_, _, ⟨T1, L1, k1, n1⟩, -, X1, ⟨Lc1, hQ1, l1, y1, z1⟩, st1⟩ := X0.virtualBack hx (y := m_20) (z := m_20) hown (mvT hZ (tw hw 46 rfl)) (mvT hZ (tw hw 47 rfl)) (notFace_of_selects (args := #[]) (mvT hZ (tw hw 49 rfl))) (mvT hZ (tw hw 49 rfl)) (mvT hZ (tw hw 48 rfl)) (by decide) (backOf (W := 1) (rm10_1 l Z a0 hw [] a1 (2 : Int32) (1 : Int32) (ub1 x1) tv zC kt h0 n0 O0 hCS (by decide) sC E_a1 F_coder_a1 F_value_a1 A_tv) hZ (tw hw 50 rfl) (tw hw 6 rfl) (by decide) (by decide)) q1a q1c (g := (mkF m 8 #[Rf a1, Rf a2, It p3, It (0 : Int32), It (0 : Int32), .unset] [(.ref a1), (.int (0 : Int32))])) rfl (by rw [hml]; rfl) (Steps.refl _) (argsL := []) (rest := [(.int (0 : Int32))]) (lenOf pd_16 rfl) rfl (w0 rfl) (hb hby d9_8) (fun _ _ => ⟨rfl, e0, (by decide : 0 + 0 ≤ _), (by decide : 0 + 0 ≤ _)⟩)
  dsimp only [Pt.U, Pt.locs, Pt.cells, Pt.slots] at X1 l1 y1 z1 st1 hQ1
  subst l1 y1 z1
  obtain ⟨rfl, N1q, e1⟩ := hQ1
  have N1 := Fr.app N0 N1q
  obtain ⟨cq2, kq2, q2a, q2b, q2c⟩ := isOf hZ e1 E_a1
  obtain ⟨_, _, ⟨T2, L2, k2, n2⟩, -, X2, ⟨Lc2, hQ2, l2, y2, z2⟩, st2⟩ := X1.virtualBack hx (y := m_25) (z := m_25) hown (mvT hZ (tw hw 56 rfl)) (mvT hZ (tw hw 57 rfl)) (notFace_of_selects (args := #[]) (mvT hZ (tw hw 59 rfl))) (mvT hZ (tw hw 59 rfl)) (mvT hZ (tw hw 58 rfl)) (by decide) (backOf (W := 0) (rm12_B0 l Z a0 hw [] a1 x1 (2 : Int32) (ub1 x1) (1 : Int32) tv vFM zC kt h0 n0 O0 hCS hFM (by decide) (by decide) (by decide) sC sA sH sL sF E_a1 F_coder_a1 F_value_a1 h_b1 rfl rfl A_tv) hZ (tw hw 60 rfl) (tw hw 6 rfl) (by decide) (by decide)) q2a q2c (g := (mkF m 17 #[Rf a1, Rf a2, It p3, It (0 : Int32), It (0 : Int32), .unset] [(.int (0 : Int32)), (.ref a1)])) rfl (by rw [hml]; rfl) (Steps.refl _) (argsL := [(.int (0 : Int32))]) (rest := []) (lenOf pd_0 rfl) rfl (w0 rfl) (hb hby d9_17) (fun _ _ => ⟨rfl, e1, (by decide : 0 + 0 ≤ _), (by decide : 0 + 0 ≤ _)⟩)
  dsimp only [Pt.U, Pt.locs, Pt.cells, Pt.slots] at X2 l2 y2 z2 st2 hQ2
  subst l2 y2 z2
  obtain ⟨rfl, N2q, e2⟩ := hQ2
  have N2 := Fr.app N1 N2q
  have sg3 : SG p.tables e below (T2.setTop (mkF m 45 #[Rf a1, Rf a2, It p3, .val (.int ((0 : Int32) + (1 : Int32))), It (0 : Int32), It x1] [])) (s₁.setTop (mkF m 0 #[Rf a1, Rf a2, It p3, .unset, .unset, .unset] [])) := by
    intro target kt
    show Steps _ _ _ (s₁.setTop (mkF m 0 #[Rf a1, Rf a2, It p3, .unset, .unset, .unset] [])) _
    refine XS.iconst X0.here hx rfl (hb hby d9_0) ?_
    refine XS.istoreN X0.here hx rfl (hb hby d9_1) rfl (l' := #[Rf a1, Rf a2, It p3, It (0 : Int32), .unset, .unset]) rfl ?_
    refine XS.iconst X0.here hx rfl (hb hby d9_2) ?_
    refine XS.istore X0.here hx rfl (hb hby d9_3) rfl (l' := #[Rf a1, Rf a2, It p3, It (0 : Int32), It (0 : Int32), .unset]) rfl ?_
    refine XS.iload X0.here hx rfl (hb hby d9_5) rfl ?_
    refine XS.aloadN X0.here hx rfl (hb hby d9_7) rfl rfl ?_
    refine st1.trans ?_
    refine XS.icmpNo X1.here hx rfl (hb hby d9_11) rfl (tlt (by decide : (0 : Int32) < (1 : Int32))).2.1 ?_
    refine XS.aloadN X1.here hx rfl (hb hby d9_14) rfl rfl ?_
    refine XS.iload X1.here hx rfl (hb hby d9_15) rfl ?_
    refine st2.trans ?_
    refine XS.istore X2.here hx rfl (hb hby d9_20) rfl (l' := #[Rf a1, Rf a2, It p3, It (0 : Int32), It (0 : Int32), It x1]) rfl ?_
    refine XS.iinc X2.here hx rfl (hb hby d9_22) rfl (l' := #[Rf a1, Rf a2, It p3, .val (.int ((0 : Int32) + (1 : Int32))), It (0 : Int32), It x1]) rfl ?_
    refine XS.iload X2.here hx rfl (hb hby d9_25) rfl ?_
    refine XS.ifYes X2.here hx rfl (pc0 := 27) (pc' := 45) rfl (hb hby d9_27) rfl ((if0 _ _).trans (feq h_b1.2.1).2) (by decide) (by decide) ?_
    exact kt
  obtain ⟨T8, L8, X8, e8, N8, sg8⟩ : ∃ (T' : State) (L' : List Loc), Stand p l e (rk 4 0 0 59) s m #[(.ref a1), (.ref a2), (.int p3)] below meth c T' L' 0 0 ∧ T'.heap = h0 ∧ Fr n0 L' ∧ ∀ target, Steps p.tables e below (T'.setTop (mkF m 95 #[Rf a1, Rf a2, It p3, .val (.int ((0 : Int32) + (1 : Int32))), It (0 : Int32), It x1] [])) target → Steps p.tables e below (T2.setTop (mkF m 45 #[Rf a1, Rf a2, It p3, .val (.int ((0 : Int32) + (1 : Int32))), It (0 : Int32), It x1] [])) target := by
    have sg4 : SG p.tables e below (T2.setTop (mkF m 49 #[Rf a1, Rf a2, It p3, .val (.int ((0 : Int32) + (1 : Int32))), It (0 : Int32), It x1] [(.int (55296 : Int32)), (.int x1)])) (T2.setTop (mkF m 45 #[Rf a1, Rf a2, It p3, .val (.int ((0 : Int32) + (1 : Int32))), It (0 : Int32), It x1] [])) := by
      intro target kt
      show Steps _ _ _ (T2.setTop (mkF m 45 #[Rf a1, Rf a2, It p3, .val (.int ((0 : Int32) + (1 : Int32))), It (0 : Int32), It x1] [])) _
      refine XS.iload X2.here hx rfl (hb hby d9_45) rfl ?_
      refine X2.ldcInt hx hown (mvT hZ (tw hw 74 rfl)) (g := (mkF m 47 #[Rf a1, Rf a2, It p3, .val (.int ((0 : Int32) + (1 : Int32))), It (0 : Int32), It x1] [(.int x1)])) rfl (hb hby d9_47) _ ?_
      exact kt
    by_cases hc5 : x1 < (55296 : Int32)
    · have sg6 : SG p.tables e below (T2.setTop (mkF m 95 #[Rf a1, Rf a2, It p3, .val (.int ((0 : Int32) + (1 : Int32))), It (0 : Int32), It x1] [])) (T2.setTop (mkF m 49 #[Rf a1, Rf a2, It p3, .val (.int ((0 : Int32) + (1 : Int32))), It (0 : Int32), It x1] [(.int (55296 : Int32)), (.int x1)])) := by
        intro target kt
        show Steps _ _ _ (T2.setTop (mkF m 49 #[Rf a1, Rf a2, It p3, .val (.int ((0 : Int32) + (1 : Int32))), It (0 : Int32), It x1] [(.int (55296 : Int32)), (.int x1)])) _
        refine XS.icmpYes X2.here hx rfl (pc0 := 49) (pc' := 95) rfl (hb hby d9_49) rfl (tlt hc5).1 (by decide) (by decide) ?_
        exact kt
      exact ⟨T2, _, X2.mono (by decide) (by decide), e2, N2, fun target kt => sg4 _ (sg6 _ (kt))⟩
    · have sg7 : SG p.tables e below (T2.setTop (mkF m 95 #[Rf a1, Rf a2, It p3, .val (.int ((0 : Int32) + (1 : Int32))), It (0 : Int32), It x1] [])) (T2.setTop (mkF m 49 #[Rf a1, Rf a2, It p3, .val (.int ((0 : Int32) + (1 : Int32))), It (0 : Int32), It x1] [(.int (55296 : Int32)), (.int x1)])) := by
        intro target kt
        show Steps _ _ _ (T2.setTop (mkF m 49 #[Rf a1, Rf a2, It p3, .val (.int ((0 : Int32) + (1 : Int32))), It (0 : Int32), It x1] [(.int (55296 : Int32)), (.int x1)])) _
        refine XS.icmpNo X2.here hx rfl (hb hby d9_49) rfl (flt hc5).1 ?_
        refine XS.iload X2.here hx rfl (hb hby d9_52) rfl ?_
        refine X2.ldcInt hx hown (mvT hZ (tw hw 127 rfl)) (g := (mkF m 54 #[Rf a1, Rf a2, It p3, .val (.int ((0 : Int32) + (1 : Int32))), It (0 : Int32), It x1] [(.int x1)])) rfl (hb hby d9_54) _ ?_
        refine XS.icmpYes X2.here hx rfl (pc0 := 56) (pc' := 95) rfl (hb hby d9_56) rfl (tlt (h_b1.2.2.resolve_left hc5)).2.2.1 (by decide) (by decide) ?_
        exact kt
      exact ⟨T2, _, X2.mono (by decide) (by decide), e2, N2, fun target kt => sg4 _ (sg7 _ (kt))⟩
  obtain ⟨cq9, kq9, q9a, q9b, q9c⟩ := isOf hZ e8 E_a1
  obtain ⟨_, _, ⟨T9, L9, k9, n9⟩, -, X9, ⟨Lc9, hQ9, l9, y9, z9⟩, st9⟩ := X8.virtualBack hx (y := m_25) (z := m_25) hown (mvT hZ (tw hw 56 rfl)) (mvT hZ (tw hw 57 rfl)) (notFace_of_selects (args := #[]) (mvT hZ (tw hw 59 rfl))) (mvT hZ (tw hw 59 rfl)) (mvT hZ (tw hw 58 rfl)) (by decide) (backOf (W := 1) (rm12_B0 l Z a0 hw [] a1 x1 (2 : Int32) (ub1 x1) (1 : Int32) tv vFM zC kt h0 n0 O0 hCS hFM (by decide) (by decide) (by decide) sC sA sH sL sF E_a1 F_coder_a1 F_value_a1 h_b1 rfl rfl A_tv) hZ (tw hw 60 rfl) (tw hw 6 rfl) (by decide) (by decide)) q9a q9c (g := (mkF m 100 #[Rf a1, Rf a2, It p3, .val (.int ((0 : Int32) + (1 : Int32))), It (0 : Int32), It x1] [(.int (0 : Int32)), (.ref a1), (.int (0 : Int32))])) rfl (by rw [hml]; rfl) (Steps.refl _) (argsL := [(.int (0 : Int32))]) (rest := [(.int (0 : Int32))]) (lenOf pd_0 rfl) rfl (w0 rfl) (hb hby d9_100) (fun _ _ => ⟨rfl, e8, (by decide : 0 + 0 ≤ _), (by decide : 0 + 0 ≤ _)⟩)
  dsimp only [Pt.U, Pt.locs, Pt.cells, Pt.slots] at X9 l9 y9 z9 st9 hQ9
  subst l9 y9 z9
  obtain ⟨rfl, N9q, e9⟩ := hQ9
  have N9 := Fr.app N8 N9q
  obtain ⟨_, _, ⟨T10, L10, k10, n10⟩, -, X10, ⟨Lc10, hQ10, l10, y10, z10⟩, st10⟩ := Jvm.LawKit.callS X9 hx (y := m_4) hown (mvT hZ (tw hw 75 rfl)) (mvT hZ (tw hw 76 rfl)) (mvT hZ (tw hw 77 rfl)) (mvT hZ (tw hw 78 rfl)) (by decide) (backOf (W := 1) (rm16 l Z a0 hw [] x1 h0 n0 O0 ) hZ (tw hw 78 rfl) (tw hw 77 rfl) (by decide) (by decide)) (g := (mkF m 103 #[Rf a1, Rf a2, It p3, .val (.int ((0 : Int32) + (1 : Int32))), It (0 : Int32), It x1] [(.int x1), (.int (0 : Int32))])) rfl (by rw [hml]; rfl) (argsL := [(.int x1)]) (rest := [(.int (0 : Int32))]) (lenOf pd_0 rfl) rfl (w0 rfl) (hb hby d9_103) (fun _ _ => ⟨rfl, e9, (by decide : 0 + 0 ≤ _), (by decide : 0 + 0 ≤ _)⟩)
  dsimp only [Pt.U, Pt.locs, Pt.cells, Pt.slots] at X10 l10 y10 z10 st10 hQ10
  subst l10 y10 z10
  obtain ⟨rfl, N10q, e10⟩ := hQ10
  have N10 := Fr.app N9 N10q
  obtain ⟨r10, hr10⟩ : ∃ z, z = (if x1 < (65536 : Int32) then (1 : Int32) else (2 : Int32)) := ⟨_, rfl⟩
  rw [← hr10] at st10
  have hcc10 : r10 = (1 : Int32) := own_cc1 h_b1 hr10
  subst hcc10
  obtain ⟨u11, hu11⟩ : ∃ z, z = ((0 : Int32) + (1 : Int32)) := ⟨_, rfl⟩
  have sg12 : SG p.tables e below (T10.setTop (mkF m 107 #[Rf a1, Rf a2, It p3, .val (.int ((0 : Int32) + (1 : Int32))), It (0 : Int32), It x1] [(.int u11)])) (T8.setTop (mkF m 95 #[Rf a1, Rf a2, It p3, .val (.int ((0 : Int32) + (1 : Int32))), It (0 : Int32), It x1] [])) := by
    intro target kt
    subst hu11
    show Steps _ _ _ (T8.setTop (mkF m 95 #[Rf a1, Rf a2, It p3, .val (.int ((0 : Int32) + (1 : Int32))), It (0 : Int32), It x1] [])) _
    refine XS.iload X8.here hx rfl (hb hby d9_95) rfl ?_
    refine XS.aloadN X8.here hx rfl (hb hby d9_97) rfl rfl ?_
    refine XS.iload X8.here hx rfl (hb hby d9_98) rfl ?_
    refine st9.trans ?_
    refine st10 _ ?_
    refine XS.iadd X10.here hx rfl (hb hby d9_106) rfl ?_
    exact kt
  have hk_u11 : u11 = (1 : Int32) := by rw [hu11]; decide
  subst hk_u11
  obtain ⟨cq13, kq13, q13a, q13b, q13c⟩ := isOf hZ e10 E_a1
  obtain ⟨_, _, ⟨T13, L13, k13, n13⟩, -, X13, ⟨Lc13, hQ13, l13, y13, z13⟩, st13⟩ := X10.virtualBack hx (y := m_20) (z := m_20) hown (mvT hZ (tw hw 46 rfl)) (mvT hZ (tw hw 47 rfl)) (notFace_of_selects (args := #[]) (mvT hZ (tw hw 49 rfl))) (mvT hZ (tw hw 49 rfl)) (mvT hZ (tw hw 48 rfl)) (by decide) (backOf (W := 1) (rm10_1 l Z a0 hw [] a1 (2 : Int32) (1 : Int32) (ub1 x1) tv zC kt h0 n0 O0 hCS (by decide) sC E_a1 F_coder_a1 F_value_a1 A_tv) hZ (tw hw 50 rfl) (tw hw 6 rfl) (by decide) (by decide)) q13a q13c (g := (mkF m 8 #[Rf a1, Rf a2, It p3, .val (.int ((0 : Int32) + (1 : Int32))), It (1 : Int32), It x1] [(.ref a1), (.int (1 : Int32))])) rfl (by rw [hml]; rfl) (Steps.refl _) (argsL := []) (rest := [(.int (1 : Int32))]) (lenOf pd_16 rfl) rfl (w0 rfl) (hb hby d9_8) (fun _ _ => ⟨rfl, e10, (by decide : 0 + 0 ≤ _), (by decide : 0 + 0 ≤ _)⟩)
  dsimp only [Pt.U, Pt.locs, Pt.cells, Pt.slots] at X13 l13 y13 z13 st13 hQ13
  subst l13 y13 z13
  obtain ⟨rfl, N13q, e13⟩ := hQ13
  have N13 := Fr.app N10 N13q
  have sg14 : SG p.tables e below (T13.setTop (mkF m 137 #[Rf a1, Rf a2, It p3, .val (.int ((0 : Int32) + (1 : Int32))), It (1 : Int32), It x1] [])) (T10.setTop (mkF m 107 #[Rf a1, Rf a2, It p3, .val (.int ((0 : Int32) + (1 : Int32))), It (0 : Int32), It x1] [(.int (1 : Int32))])) := by
    intro target kt
    show Steps _ _ _ (T10.setTop (mkF m 107 #[Rf a1, Rf a2, It p3, .val (.int ((0 : Int32) + (1 : Int32))), It (0 : Int32), It x1] [(.int (1 : Int32))])) _
    refine XS.istore X10.here hx rfl (hb hby d9_107) rfl (l' := #[Rf a1, Rf a2, It p3, .val (.int ((0 : Int32) + (1 : Int32))), It (1 : Int32), It x1]) rfl ?_
    refine XS.goto X10.here hx rfl (pc0 := 109) (pc' := 5) rfl (hb hby d9_109) (by decide) (by decide) ?_
    refine XS.iload X10.here hx rfl (hb hby d9_5) rfl ?_
    refine XS.aloadN X10.here hx rfl (hb hby d9_7) rfl rfl ?_
    refine st13.trans ?_
    refine XS.icmpYes X13.here hx rfl (pc0 := 11) (pc' := 112) rfl (hb hby d9_11) rfl (flt (by decide : ¬ ((1 : Int32) < (1 : Int32)))).2.1 (by decide) (by decide) ?_
    refine XS.iloadN X13.here hx rfl (hb hby d9_112) rfl ?_
    refine XS.ifNo X13.here hx rfl (hb hby d9_113) rfl ((if0 _ _).trans (feq (by decide : ¬ (((0 : Int32) + (1 : Int32)) = (0 : Int32)))).1) ?_
    refine XS.iloadN X13.here hx rfl (hb hby d9_116) rfl ?_
    refine XS.iloadN X13.here hx rfl (hb hby d9_117) rfl ?_
    refine XS.icmpYes X13.here hx rfl (pc0 := 118) (pc' := 137) rfl (hb hby d9_118) rfl (flt (own_cnt h_p (by decide))).2.2.2 (by decide) (by decide) ?_
    exact kt
  obtain ⟨fs, hr, hrun, hended, hW, hsame⟩ := X13.leave (v := none) (fun _ => rfl)
  refine ⟨_, _, pre0 _ (sg3 _ (sg8 _ (sg12 _ (sg14 _ (?_))))), hrun, hended, _, _, rfl, ?_, ⟨_, rfl⟩, hW, hsame.mono (by decide) (by decide)⟩
  · show Steps _ _ _ (T13.setTop (mkF m 137 #[Rf a1, Rf a2, It p3, .val (.int ((0 : Int32) + (1 : Int32))), It (1 : Int32), It x1] [])) _
    exact X13.returnOut hx Bd.returns (hb hby d9_137) hr
  · show Q9_B1 Z a1 a2 p3 x1 tv vFM zC kt h0 n0 _ T13.heap _
    rw [e13]
    exact ⟨rfl, N13, rfl⟩
def Q9_BB0 (Z : State) (a1 : Addr) (a2 : Addr) (p3 : Int32) (x1 : Int32) (x2 : Int32) (tv : Addr) (vFM : Value) (zC : Int32) (kt : ClassId) (h0 : Heap) (n0 : Nat) (v : Option Value) (h : Heap) (L : List Loc) : Prop := v = none ∧ Fr n0 L ∧ h = h0
theorem rm9_BB0 (l : Launch) (Z : State) (a0 : Array Value) (hw : ∀ d ∈ tables_1, d.before a0 Z = true) (ws : List Jvm.Cond) (a1 : Addr) (a2 : Addr) (p3 : Int32) (x1 : Int32) (x2 : Int32) (tv : Addr) (vFM : Value) (zC : Int32) (kt : ClassId) (h0 : Heap) (n0 : Nat) (O0 : Old Z n0 h0) (hCS : ¬ zC = 0) (hFM : vFM.isRef = true) (sC : TS_3 Z zC) (sF : TS_6 Z vFM) (E_a1 : Exa Z h0 a1 "java/lang/String") (F_coder_a1 : Fld Z h0 a1 "java/lang/String" "coder" "B" (.int (0 : Int32))) (F_value_a1 : Fld Z h0 a1 "java/lang/String" "value" "[B" (.ref tv)) (A_tv : Arv Z h0 tv kt .byte (2 : Int32) (lu2 x1 x2) (.int (0 : Int32))) (h_b1 : BM x1) (h_b2 : BM x2) (h_p : ¬ p3 < (2 : Int32)) (h_l1 : ¬ (255 : Int32) < x1) (h_l2 : ¬ (255 : Int32) < x2) :
    MetFree l m_26 (head1 (Jvm.Cond.code m_26 prog_8_method_2_code 6 none :: ws) (rk 3 0 0 42)) (fun a U => a = #[(.ref a1), (.ref a2), (.int p3)] ∧ Z.Warmed39 U.vm ∧ U.heap = h0) (fun _ _ _ _ _ => True) (fun _ U o U' => ∃ v L, o = .returned v ∧ Q9_BB0 Z a1 a2 p3 x1 x2 tv vFM zC kt h0 n0 v U'.heap L ∧ FrameEnd U o U' L (rk 3 0 0 42).cells (rk 3 0 0 42).slots) := by
  refine MetFree.of_bodySF (plainFor_of_name pn_5) hisR ?_
  intro p e s m args below meth c s₁ Bd hml0 hP hK
  obtain ⟨rfl, hZ, hh⟩ := hP
  have hx := Bd.exec
  have hby := Bd.bytes
  have hml : c.maxLocals = 6 := hml0
  have hown : s.vm.findClass "com/example/chitragupta/chitragupta/core/Characters" = some m.cls := findClass_of_methodNamed Bd.named
  have X0 : Stand p l e (rk 3 0 0 42) s m #[(.ref a1), (.ref a2), (.int p3)] below meth c s₁ [] 0 0 := Stand.of_body Bd
  have e0 : s₁.heap = h0 := by rw [← hh, Bd.state]; rfl
  have N0 := Fr.nil n0
  have pre0 := own_pre (tb := p.tables) (e := e) (bl := below) (s := s₁) (ef_9_B0 m a1 a2 p3)
  obtain ⟨cq1, kq1, q1a, q1b, q1c⟩ := isOf hZ e0 E_a1
  obtain ⟨_, _, ⟨T1, L1, k1, n1⟩, -, X1, ⟨Lc1, hQ1, l1, y1, z1⟩, st1⟩ := X0.virtualBack hx (y := m_20) (z := m_20) hown (mvT hZ (tw hw 46 rfl)) (mvT hZ (tw hw 47 rfl)) (notFace_of_selects (args := #[]) (mvT hZ (tw hw 49 rfl))) (mvT hZ (tw hw 49 rfl)) (mvT hZ (tw hw 48 rfl)) (by decide) (backOf (W := 1) (rm10_0 l Z a0 hw [] a1 (2 : Int32) (2 : Int32) (lu2 x1 x2) tv zC kt h0 n0 O0 hCS (by decide) sC E_a1 F_coder_a1 F_value_a1 A_tv) hZ (tw hw 50 rfl) (tw hw 6 rfl) (by decide) (by decide)) q1a q1c (g := (mkF m 8 #[Rf a1, Rf a2, It p3, It (0 : Int32), It (0 : Int32), .unset] [(.ref a1), (.int (0 : Int32))])) rfl (by rw [hml]; rfl) (Steps.refl _) (argsL := []) (rest := [(.int (0 : Int32))]) (lenOf pd_16 rfl) rfl (w0 rfl) (hb hby d9_8) (fun _ _ => ⟨rfl, e0, (by decide : 0 + 0 ≤ _), (by decide : 0 + 0 ≤ _)⟩)
  dsimp only [Pt.U, Pt.locs, Pt.cells, Pt.slots] at X1 l1 y1 z1 st1 hQ1
  subst l1 y1 z1
  obtain ⟨rfl, N1q, e1⟩ := hQ1
  have N1 := Fr.app N0 N1q
  obtain ⟨cq2, kq2, q2a, q2b, q2c⟩ := isOf hZ e1 E_a1
  obtain ⟨_, _, ⟨T2, L2, k2, n2⟩, -, X2, ⟨Lc2, hQ2, l2, y2, z2⟩, st2⟩ := X1.virtualBack hx (y := m_25) (z := m_25) hown (mvT hZ (tw hw 56 rfl)) (mvT hZ (tw hw 57 rfl)) (notFace_of_selects (args := #[]) (mvT hZ (tw hw 59 rfl))) (mvT hZ (tw hw 59 rfl)) (mvT hZ (tw hw 58 rfl)) (by decide) (backOf (W := 0) (rm12_L0 l Z a0 hw [] a1 x1 (2 : Int32) (lu2 x1 x2) tv vFM zC kt h0 n0 O0 hCS hFM (by decide) h_b1 h_l1 rfl sC sF E_a1 F_coder_a1 F_value_a1 A_tv) hZ (tw hw 60 rfl) (tw hw 6 rfl) (by decide) (by decide)) q2a q2c (g := (mkF m 17 #[Rf a1, Rf a2, It p3, It (0 : Int32), It (0 : Int32), .unset] [(.int (0 : Int32)), (.ref a1)])) rfl (by rw [hml]; rfl) (Steps.refl _) (argsL := [(.int (0 : Int32))]) (rest := []) (lenOf pd_0 rfl) rfl (w0 rfl) (hb hby d9_17) (fun _ _ => ⟨rfl, e1, (by decide : 0 + 0 ≤ _), (by decide : 0 + 0 ≤ _)⟩)
  dsimp only [Pt.U, Pt.locs, Pt.cells, Pt.slots] at X2 l2 y2 z2 st2 hQ2
  subst l2 y2 z2
  obtain ⟨rfl, N2q, e2⟩ := hQ2
  have N2 := Fr.app N1 N2q
  have sg3 : SG p.tables e below (T2.setTop (mkF m 45 #[Rf a1, Rf a2, It p3, .val (.int ((0 : Int32) + (1 : Int32))), It (0 : Int32), It x1] [])) (s₁.setTop (mkF m 0 #[Rf a1, Rf a2, It p3, .unset, .unset, .unset] [])) := by
    intro target kt
    show Steps _ _ _ (s₁.setTop (mkF m 0 #[Rf a1, Rf a2, It p3, .unset, .unset, .unset] [])) _
    refine XS.iconst X0.here hx rfl (hb hby d9_0) ?_
    refine XS.istoreN X0.here hx rfl (hb hby d9_1) rfl (l' := #[Rf a1, Rf a2, It p3, It (0 : Int32), .unset, .unset]) rfl ?_
    refine XS.iconst X0.here hx rfl (hb hby d9_2) ?_
    refine XS.istore X0.here hx rfl (hb hby d9_3) rfl (l' := #[Rf a1, Rf a2, It p3, It (0 : Int32), It (0 : Int32), .unset]) rfl ?_
    refine XS.iload X0.here hx rfl (hb hby d9_5) rfl ?_
    refine XS.aloadN X0.here hx rfl (hb hby d9_7) rfl rfl ?_
    refine st1.trans ?_
    refine XS.icmpNo X1.here hx rfl (hb hby d9_11) rfl (tlt (by decide : (0 : Int32) < (2 : Int32))).2.1 ?_
    refine XS.aloadN X1.here hx rfl (hb hby d9_14) rfl rfl ?_
    refine XS.iload X1.here hx rfl (hb hby d9_15) rfl ?_
    refine st2.trans ?_
    refine XS.istore X2.here hx rfl (hb hby d9_20) rfl (l' := #[Rf a1, Rf a2, It p3, It (0 : Int32), It (0 : Int32), It x1]) rfl ?_
    refine XS.iinc X2.here hx rfl (hb hby d9_22) rfl (l' := #[Rf a1, Rf a2, It p3, .val (.int ((0 : Int32) + (1 : Int32))), It (0 : Int32), It x1]) rfl ?_
    refine XS.iload X2.here hx rfl (hb hby d9_25) rfl ?_
    refine XS.ifYes X2.here hx rfl (pc0 := 27) (pc' := 45) rfl (hb hby d9_27) rfl ((if0 _ _).trans (feq h_b1.2.1).2) (by decide) (by decide) ?_
    exact kt
  obtain ⟨T8, L8, X8, e8, N8, sg8⟩ : ∃ (T' : State) (L' : List Loc), Stand p l e (rk 3 0 0 42) s m #[(.ref a1), (.ref a2), (.int p3)] below meth c T' L' 0 0 ∧ T'.heap = h0 ∧ Fr n0 L' ∧ ∀ target, Steps p.tables e below (T'.setTop (mkF m 95 #[Rf a1, Rf a2, It p3, .val (.int ((0 : Int32) + (1 : Int32))), It (0 : Int32), It x1] [])) target → Steps p.tables e below (T2.setTop (mkF m 45 #[Rf a1, Rf a2, It p3, .val (.int ((0 : Int32) + (1 : Int32))), It (0 : Int32), It x1] [])) target := by
    have sg4 : SG p.tables e below (T2.setTop (mkF m 49 #[Rf a1, Rf a2, It p3, .val (.int ((0 : Int32) + (1 : Int32))), It (0 : Int32), It x1] [(.int (55296 : Int32)), (.int x1)])) (T2.setTop (mkF m 45 #[Rf a1, Rf a2, It p3, .val (.int ((0 : Int32) + (1 : Int32))), It (0 : Int32), It x1] [])) := by
      intro target kt
      show Steps _ _ _ (T2.setTop (mkF m 45 #[Rf a1, Rf a2, It p3, .val (.int ((0 : Int32) + (1 : Int32))), It (0 : Int32), It x1] [])) _
      refine XS.iload X2.here hx rfl (hb hby d9_45) rfl ?_
      refine X2.ldcInt hx hown (mvT hZ (tw hw 74 rfl)) (g := (mkF m 47 #[Rf a1, Rf a2, It p3, .val (.int ((0 : Int32) + (1 : Int32))), It (0 : Int32), It x1] [(.int x1)])) rfl (hb hby d9_47) _ ?_
      exact kt
    by_cases hc5 : x1 < (55296 : Int32)
    · have sg6 : SG p.tables e below (T2.setTop (mkF m 95 #[Rf a1, Rf a2, It p3, .val (.int ((0 : Int32) + (1 : Int32))), It (0 : Int32), It x1] [])) (T2.setTop (mkF m 49 #[Rf a1, Rf a2, It p3, .val (.int ((0 : Int32) + (1 : Int32))), It (0 : Int32), It x1] [(.int (55296 : Int32)), (.int x1)])) := by
        intro target kt
        show Steps _ _ _ (T2.setTop (mkF m 49 #[Rf a1, Rf a2, It p3, .val (.int ((0 : Int32) + (1 : Int32))), It (0 : Int32), It x1] [(.int (55296 : Int32)), (.int x1)])) _
        refine XS.icmpYes X2.here hx rfl (pc0 := 49) (pc' := 95) rfl (hb hby d9_49) rfl (tlt hc5).1 (by decide) (by decide) ?_
        exact kt
      exact ⟨T2, _, X2.mono (by decide) (by decide), e2, N2, fun target kt => sg4 _ (sg6 _ (kt))⟩
    · have sg7 : SG p.tables e below (T2.setTop (mkF m 95 #[Rf a1, Rf a2, It p3, .val (.int ((0 : Int32) + (1 : Int32))), It (0 : Int32), It x1] [])) (T2.setTop (mkF m 49 #[Rf a1, Rf a2, It p3, .val (.int ((0 : Int32) + (1 : Int32))), It (0 : Int32), It x1] [(.int (55296 : Int32)), (.int x1)])) := by
        intro target kt
        show Steps _ _ _ (T2.setTop (mkF m 49 #[Rf a1, Rf a2, It p3, .val (.int ((0 : Int32) + (1 : Int32))), It (0 : Int32), It x1] [(.int (55296 : Int32)), (.int x1)])) _
        refine XS.icmpNo X2.here hx rfl (hb hby d9_49) rfl (flt hc5).1 ?_
        refine XS.iload X2.here hx rfl (hb hby d9_52) rfl ?_
        refine X2.ldcInt hx hown (mvT hZ (tw hw 127 rfl)) (g := (mkF m 54 #[Rf a1, Rf a2, It p3, .val (.int ((0 : Int32) + (1 : Int32))), It (0 : Int32), It x1] [(.int x1)])) rfl (hb hby d9_54) _ ?_
        refine XS.icmpYes X2.here hx rfl (pc0 := 56) (pc' := 95) rfl (hb hby d9_56) rfl (tlt (h_b1.2.2.resolve_left hc5)).2.2.1 (by decide) (by decide) ?_
        exact kt
      exact ⟨T2, _, X2.mono (by decide) (by decide), e2, N2, fun target kt => sg4 _ (sg7 _ (kt))⟩
  obtain ⟨cq9, kq9, q9a, q9b, q9c⟩ := isOf hZ e8 E_a1
  obtain ⟨_, _, ⟨T9, L9, k9, n9⟩, -, X9, ⟨Lc9, hQ9, l9, y9, z9⟩, st9⟩ := X8.virtualBack hx (y := m_25) (z := m_25) hown (mvT hZ (tw hw 56 rfl)) (mvT hZ (tw hw 57 rfl)) (notFace_of_selects (args := #[]) (mvT hZ (tw hw 59 rfl))) (mvT hZ (tw hw 59 rfl)) (mvT hZ (tw hw 58 rfl)) (by decide) (backOf (W := 1) (rm12_L0 l Z a0 hw [] a1 x1 (2 : Int32) (lu2 x1 x2) tv vFM zC kt h0 n0 O0 hCS hFM (by decide) h_b1 h_l1 rfl sC sF E_a1 F_coder_a1 F_value_a1 A_tv) hZ (tw hw 60 rfl) (tw hw 6 rfl) (by decide) (by decide)) q9a q9c (g := (mkF m 100 #[Rf a1, Rf a2, It p3, .val (.int ((0 : Int32) + (1 : Int32))), It (0 : Int32), It x1] [(.int (0 : Int32)), (.ref a1), (.int (0 : Int32))])) rfl (by rw [hml]; rfl) (Steps.refl _) (argsL := [(.int (0 : Int32))]) (rest := [(.int (0 : Int32))]) (lenOf pd_0 rfl) rfl (w0 rfl) (hb hby d9_100) (fun _ _ => ⟨rfl, e8, (by decide : 0 + 0 ≤ _), (by decide : 0 + 0 ≤ _)⟩)
  dsimp only [Pt.U, Pt.locs, Pt.cells, Pt.slots] at X9 l9 y9 z9 st9 hQ9
  subst l9 y9 z9
  obtain ⟨rfl, N9q, e9⟩ := hQ9
  have N9 := Fr.app N8 N9q
  obtain ⟨_, _, ⟨T10, L10, k10, n10⟩, -, X10, ⟨Lc10, hQ10, l10, y10, z10⟩, st10⟩ := Jvm.LawKit.callS X9 hx (y := m_4) hown (mvT hZ (tw hw 75 rfl)) (mvT hZ (tw hw 76 rfl)) (mvT hZ (tw hw 77 rfl)) (mvT hZ (tw hw 78 rfl)) (by decide) (backOf (W := 1) (rm16 l Z a0 hw [] x1 h0 n0 O0 ) hZ (tw hw 78 rfl) (tw hw 77 rfl) (by decide) (by decide)) (g := (mkF m 103 #[Rf a1, Rf a2, It p3, .val (.int ((0 : Int32) + (1 : Int32))), It (0 : Int32), It x1] [(.int x1), (.int (0 : Int32))])) rfl (by rw [hml]; rfl) (argsL := [(.int x1)]) (rest := [(.int (0 : Int32))]) (lenOf pd_0 rfl) rfl (w0 rfl) (hb hby d9_103) (fun _ _ => ⟨rfl, e9, (by decide : 0 + 0 ≤ _), (by decide : 0 + 0 ≤ _)⟩)
  dsimp only [Pt.U, Pt.locs, Pt.cells, Pt.slots] at X10 l10 y10 z10 st10 hQ10
  subst l10 y10 z10
  obtain ⟨rfl, N10q, e10⟩ := hQ10
  have N10 := Fr.app N9 N10q
  obtain ⟨r10, hr10⟩ : ∃ z, z = (if x1 < (65536 : Int32) then (1 : Int32) else (2 : Int32)) := ⟨_, rfl⟩
  rw [← hr10] at st10
  have hcc10 : r10 = (1 : Int32) := own_cc1 h_b1 hr10
  subst hcc10
  obtain ⟨u11, hu11⟩ : ∃ z, z = ((0 : Int32) + (1 : Int32)) := ⟨_, rfl⟩
  have sg12 : SG p.tables e below (T10.setTop (mkF m 107 #[Rf a1, Rf a2, It p3, .val (.int ((0 : Int32) + (1 : Int32))), It (0 : Int32), It x1] [(.int u11)])) (T8.setTop (mkF m 95 #[Rf a1, Rf a2, It p3, .val (.int ((0 : Int32) + (1 : Int32))), It (0 : Int32), It x1] [])) := by
    intro target kt
    subst hu11
    show Steps _ _ _ (T8.setTop (mkF m 95 #[Rf a1, Rf a2, It p3, .val (.int ((0 : Int32) + (1 : Int32))), It (0 : Int32), It x1] [])) _
    refine XS.iload X8.here hx rfl (hb hby d9_95) rfl ?_
    refine XS.aloadN X8.here hx rfl (hb hby d9_97) rfl rfl ?_
    refine XS.iload X8.here hx rfl (hb hby d9_98) rfl ?_
    refine st9.trans ?_
    refine st10 _ ?_
    refine XS.iadd X10.here hx rfl (hb hby d9_106) rfl ?_
    exact kt
  have hk_u11 : u11 = (1 : Int32) := by rw [hu11]; decide
  subst hk_u11
  obtain ⟨cq13, kq13, q13a, q13b, q13c⟩ := isOf hZ e10 E_a1
  obtain ⟨_, _, ⟨T13, L13, k13, n13⟩, -, X13, ⟨Lc13, hQ13, l13, y13, z13⟩, st13⟩ := X10.virtualBack hx (y := m_20) (z := m_20) hown (mvT hZ (tw hw 46 rfl)) (mvT hZ (tw hw 47 rfl)) (notFace_of_selects (args := #[]) (mvT hZ (tw hw 49 rfl))) (mvT hZ (tw hw 49 rfl)) (mvT hZ (tw hw 48 rfl)) (by decide) (backOf (W := 1) (rm10_0 l Z a0 hw [] a1 (2 : Int32) (2 : Int32) (lu2 x1 x2) tv zC kt h0 n0 O0 hCS (by decide) sC E_a1 F_coder_a1 F_value_a1 A_tv) hZ (tw hw 50 rfl) (tw hw 6 rfl) (by decide) (by decide)) q13a q13c (g := (mkF m 8 #[Rf a1, Rf a2, It p3, .val (.int ((0 : Int32) + (1 : Int32))), It (1 : Int32), It x1] [(.ref a1), (.int (1 : Int32))])) rfl (by rw [hml]; rfl) (Steps.refl _) (argsL := []) (rest := [(.int (1 : Int32))]) (lenOf pd_16 rfl) rfl (w0 rfl) (hb hby d9_8) (fun _ _ => ⟨rfl, e10, (by decide : 0 + 0 ≤ _), (by decide : 0 + 0 ≤ _)⟩)
  dsimp only [Pt.U, Pt.locs, Pt.cells, Pt.slots] at X13 l13 y13 z13 st13 hQ13
  subst l13 y13 z13
  obtain ⟨rfl, N13q, e13⟩ := hQ13
  have N13 := Fr.app N10 N13q
  obtain ⟨cq14, kq14, q14a, q14b, q14c⟩ := isOf hZ e13 E_a1
  obtain ⟨_, _, ⟨T14, L14, k14, n14⟩, -, X14, ⟨Lc14, hQ14, l14, y14, z14⟩, st14⟩ := X13.virtualBack hx (y := m_25) (z := m_25) hown (mvT hZ (tw hw 56 rfl)) (mvT hZ (tw hw 57 rfl)) (notFace_of_selects (args := #[]) (mvT hZ (tw hw 59 rfl))) (mvT hZ (tw hw 59 rfl)) (mvT hZ (tw hw 58 rfl)) (by decide) (backOf (W := 0) (rm12_L1 l Z a0 hw [] a1 x2 (2 : Int32) (lu2 x1 x2) tv vFM zC kt h0 n0 O0 hCS hFM (by decide) h_b2 h_l2 rfl sC sF E_a1 F_coder_a1 F_value_a1 A_tv) hZ (tw hw 60 rfl) (tw hw 6 rfl) (by decide) (by decide)) q14a q14c (g := (mkF m 17 #[Rf a1, Rf a2, It p3, .val (.int ((0 : Int32) + (1 : Int32))), It (1 : Int32), It x1] [(.int (1 : Int32)), (.ref a1)])) rfl (by rw [hml]; rfl) (Steps.refl _) (argsL := [(.int (1 : Int32))]) (rest := []) (lenOf pd_0 rfl) rfl (w0 rfl) (hb hby d9_17) (fun _ _ => ⟨rfl, e13, (by decide : 0 + 0 ≤ _), (by decide : 0 + 0 ≤ _)⟩)
  dsimp only [Pt.U, Pt.locs, Pt.cells, Pt.slots] at X14 l14 y14 z14 st14 hQ14
  subst l14 y14 z14
  obtain ⟨rfl, N14q, e14⟩ := hQ14
  have N14 := Fr.app N13 N14q
  have sg15 : SG p.tables e below (T14.setTop (mkF m 45 #[Rf a1, Rf a2, It p3, .val (.int (((0 : Int32) + (1 : Int32)) + (1 : Int32))), It (1 : Int32), It x2] [])) (T10.setTop (mkF m 107 #[Rf a1, Rf a2, It p3, .val (.int ((0 : Int32) + (1 : Int32))), It (0 : Int32), It x1] [(.int (1 : Int32))])) := by
    intro target kt
    show Steps _ _ _ (T10.setTop (mkF m 107 #[Rf a1, Rf a2, It p3, .val (.int ((0 : Int32) + (1 : Int32))), It (0 : Int32), It x1] [(.int (1 : Int32))])) _
    refine XS.istore X10.here hx rfl (hb hby d9_107) rfl (l' := #[Rf a1, Rf a2, It p3, .val (.int ((0 : Int32) + (1 : Int32))), It (1 : Int32), It x1]) rfl ?_
    refine XS.goto X10.here hx rfl (pc0 := 109) (pc' := 5) rfl (hb hby d9_109) (by decide) (by decide) ?_
    refine XS.iload X10.here hx rfl (hb hby d9_5) rfl ?_
    refine XS.aloadN X10.here hx rfl (hb hby d9_7) rfl rfl ?_
    refine st13.trans ?_
    refine XS.icmpNo X13.here hx rfl (hb hby d9_11) rfl (tlt (by decide : (1 : Int32) < (2 : Int32))).2.1 ?_
    refine XS.aloadN X13.here hx rfl (hb hby d9_14) rfl rfl ?_
    refine XS.iload X13.here hx rfl (hb hby d9_15) rfl ?_
    refine st14.trans ?_
    refine XS.istore X14.here hx rfl (hb hby d9_20) rfl (l' := #[Rf a1, Rf a2, It p3, .val (.int ((0 : Int32) + (1 : Int32))), It (1 : Int32), It x2]) rfl ?_
    refine XS.iinc X14.here hx rfl (hb hby d9_22) rfl (l' := #[Rf a1, Rf a2, It p3, .val (.int (((0 : Int32) + (1 : Int32)) + (1 : Int32))), It (1 : Int32), It x2]) rfl ?_
    refine XS.iload X14.here hx rfl (hb hby d9_25) rfl ?_
    refine XS.ifYes X14.here hx rfl (pc0 := 27) (pc' := 45) rfl (hb hby d9_27) rfl ((if0 _ _).trans (feq h_b2.2.1).2) (by decide) (by decide) ?_
    exact kt
  obtain ⟨T20, L20, X20, e20, N20, sg20⟩ : ∃ (T' : State) (L' : List Loc), Stand p l e (rk 3 0 0 42) s m #[(.ref a1), (.ref a2), (.int p3)] below meth c T' L' 0 0 ∧ T'.heap = h0 ∧ Fr n0 L' ∧ ∀ target, Steps p.tables e below (T'.setTop (mkF m 95 #[Rf a1, Rf a2, It p3, .val (.int (((0 : Int32) + (1 : Int32)) + (1 : Int32))), It (1 : Int32), It x2] [])) target → Steps p.tables e below (T14.setTop (mkF m 45 #[Rf a1, Rf a2, It p3, .val (.int (((0 : Int32) + (1 : Int32)) + (1 : Int32))), It (1 : Int32), It x2] [])) target := by
    have sg16 : SG p.tables e below (T14.setTop (mkF m 49 #[Rf a1, Rf a2, It p3, .val (.int (((0 : Int32) + (1 : Int32)) + (1 : Int32))), It (1 : Int32), It x2] [(.int (55296 : Int32)), (.int x2)])) (T14.setTop (mkF m 45 #[Rf a1, Rf a2, It p3, .val (.int (((0 : Int32) + (1 : Int32)) + (1 : Int32))), It (1 : Int32), It x2] [])) := by
      intro target kt
      show Steps _ _ _ (T14.setTop (mkF m 45 #[Rf a1, Rf a2, It p3, .val (.int (((0 : Int32) + (1 : Int32)) + (1 : Int32))), It (1 : Int32), It x2] [])) _
      refine XS.iload X14.here hx rfl (hb hby d9_45) rfl ?_
      refine X14.ldcInt hx hown (mvT hZ (tw hw 74 rfl)) (g := (mkF m 47 #[Rf a1, Rf a2, It p3, .val (.int (((0 : Int32) + (1 : Int32)) + (1 : Int32))), It (1 : Int32), It x2] [(.int x2)])) rfl (hb hby d9_47) _ ?_
      exact kt
    by_cases hc17 : x2 < (55296 : Int32)
    · have sg18 : SG p.tables e below (T14.setTop (mkF m 95 #[Rf a1, Rf a2, It p3, .val (.int (((0 : Int32) + (1 : Int32)) + (1 : Int32))), It (1 : Int32), It x2] [])) (T14.setTop (mkF m 49 #[Rf a1, Rf a2, It p3, .val (.int (((0 : Int32) + (1 : Int32)) + (1 : Int32))), It (1 : Int32), It x2] [(.int (55296 : Int32)), (.int x2)])) := by
        intro target kt
        show Steps _ _ _ (T14.setTop (mkF m 49 #[Rf a1, Rf a2, It p3, .val (.int (((0 : Int32) + (1 : Int32)) + (1 : Int32))), It (1 : Int32), It x2] [(.int (55296 : Int32)), (.int x2)])) _
        refine XS.icmpYes X14.here hx rfl (pc0 := 49) (pc' := 95) rfl (hb hby d9_49) rfl (tlt hc17).1 (by decide) (by decide) ?_
        exact kt
      exact ⟨T14, _, X14.mono (by decide) (by decide), e14, N14, fun target kt => sg16 _ (sg18 _ (kt))⟩
    · have sg19 : SG p.tables e below (T14.setTop (mkF m 95 #[Rf a1, Rf a2, It p3, .val (.int (((0 : Int32) + (1 : Int32)) + (1 : Int32))), It (1 : Int32), It x2] [])) (T14.setTop (mkF m 49 #[Rf a1, Rf a2, It p3, .val (.int (((0 : Int32) + (1 : Int32)) + (1 : Int32))), It (1 : Int32), It x2] [(.int (55296 : Int32)), (.int x2)])) := by
        intro target kt
        show Steps _ _ _ (T14.setTop (mkF m 49 #[Rf a1, Rf a2, It p3, .val (.int (((0 : Int32) + (1 : Int32)) + (1 : Int32))), It (1 : Int32), It x2] [(.int (55296 : Int32)), (.int x2)])) _
        refine XS.icmpNo X14.here hx rfl (hb hby d9_49) rfl (flt hc17).1 ?_
        refine XS.iload X14.here hx rfl (hb hby d9_52) rfl ?_
        refine X14.ldcInt hx hown (mvT hZ (tw hw 127 rfl)) (g := (mkF m 54 #[Rf a1, Rf a2, It p3, .val (.int (((0 : Int32) + (1 : Int32)) + (1 : Int32))), It (1 : Int32), It x2] [(.int x2)])) rfl (hb hby d9_54) _ ?_
        refine XS.icmpYes X14.here hx rfl (pc0 := 56) (pc' := 95) rfl (hb hby d9_56) rfl (tlt (h_b2.2.2.resolve_left hc17)).2.2.1 (by decide) (by decide) ?_
        exact kt
      exact ⟨T14, _, X14.mono (by decide) (by decide), e14, N14, fun target kt => sg16 _ (sg19 _ (kt))⟩
  obtain ⟨cq21, kq21, q21a, q21b, q21c⟩ := isOf hZ e20 E_a1
  obtain ⟨_, _, ⟨T21, L21, k21, n21⟩, -, X21, ⟨Lc21, hQ21, l21, y21, z21⟩, st21⟩ := X20.virtualBack hx (y := m_25) (z := m_25) hown (mvT hZ (tw hw 56 rfl)) (mvT hZ (tw hw 57 rfl)) (notFace_of_selects (args := #[]) (mvT hZ (tw hw 59 rfl))) (mvT hZ (tw hw 59 rfl)) (mvT hZ (tw hw 58 rfl)) (by decide) (backOf (W := 1) (rm12_L1 l Z a0 hw [] a1 x2 (2 : Int32) (lu2 x1 x2) tv vFM zC kt h0 n0 O0 hCS hFM (by decide) h_b2 h_l2 rfl sC sF E_a1 F_coder_a1 F_value_a1 A_tv) hZ (tw hw 60 rfl) (tw hw 6 rfl) (by decide) (by decide)) q21a q21c (g := (mkF m 100 #[Rf a1, Rf a2, It p3, .val (.int (((0 : Int32) + (1 : Int32)) + (1 : Int32))), It (1 : Int32), It x2] [(.int (1 : Int32)), (.ref a1), (.int (1 : Int32))])) rfl (by rw [hml]; rfl) (Steps.refl _) (argsL := [(.int (1 : Int32))]) (rest := [(.int (1 : Int32))]) (lenOf pd_0 rfl) rfl (w0 rfl) (hb hby d9_100) (fun _ _ => ⟨rfl, e20, (by decide : 0 + 0 ≤ _), (by decide : 0 + 0 ≤ _)⟩)
  dsimp only [Pt.U, Pt.locs, Pt.cells, Pt.slots] at X21 l21 y21 z21 st21 hQ21
  subst l21 y21 z21
  obtain ⟨rfl, N21q, e21⟩ := hQ21
  have N21 := Fr.app N20 N21q
  obtain ⟨_, _, ⟨T22, L22, k22, n22⟩, -, X22, ⟨Lc22, hQ22, l22, y22, z22⟩, st22⟩ := Jvm.LawKit.callS X21 hx (y := m_4) hown (mvT hZ (tw hw 75 rfl)) (mvT hZ (tw hw 76 rfl)) (mvT hZ (tw hw 77 rfl)) (mvT hZ (tw hw 78 rfl)) (by decide) (backOf (W := 1) (rm16 l Z a0 hw [] x2 h0 n0 O0 ) hZ (tw hw 78 rfl) (tw hw 77 rfl) (by decide) (by decide)) (g := (mkF m 103 #[Rf a1, Rf a2, It p3, .val (.int (((0 : Int32) + (1 : Int32)) + (1 : Int32))), It (1 : Int32), It x2] [(.int x2), (.int (1 : Int32))])) rfl (by rw [hml]; rfl) (argsL := [(.int x2)]) (rest := [(.int (1 : Int32))]) (lenOf pd_0 rfl) rfl (w0 rfl) (hb hby d9_103) (fun _ _ => ⟨rfl, e21, (by decide : 0 + 0 ≤ _), (by decide : 0 + 0 ≤ _)⟩)
  dsimp only [Pt.U, Pt.locs, Pt.cells, Pt.slots] at X22 l22 y22 z22 st22 hQ22
  subst l22 y22 z22
  obtain ⟨rfl, N22q, e22⟩ := hQ22
  have N22 := Fr.app N21 N22q
  obtain ⟨r22, hr22⟩ : ∃ z, z = (if x2 < (65536 : Int32) then (1 : Int32) else (2 : Int32)) := ⟨_, rfl⟩
  rw [← hr22] at st22
  have hcc22 : r22 = (1 : Int32) := own_cc1 h_b2 hr22
  subst hcc22
  obtain ⟨u23, hu23⟩ : ∃ z, z = ((1 : Int32) + (1 : Int32)) := ⟨_, rfl⟩
  have sg24 : SG p.tables e below (T22.setTop (mkF m 107 #[Rf a1, Rf a2, It p3, .val (.int (((0 : Int32) + (1 : Int32)) + (1 : Int32))), It (1 : Int32), It x2] [(.int u23)])) (T20.setTop (mkF m 95 #[Rf a1, Rf a2, It p3, .val (.int (((0 : Int32) + (1 : Int32)) + (1 : Int32))), It (1 : Int32), It x2] [])) := by
    intro target kt
    subst hu23
    show Steps _ _ _ (T20.setTop (mkF m 95 #[Rf a1, Rf a2, It p3, .val (.int (((0 : Int32) + (1 : Int32)) + (1 : Int32))), It (1 : Int32), It x2] [])) _
    refine XS.iload X20.here hx rfl (hb hby d9_95) rfl ?_
    refine XS.aloadN X20.here hx rfl (hb hby d9_97) rfl rfl ?_
    refine XS.iload X20.here hx rfl (hb hby d9_98) rfl ?_
    refine st21.trans ?_
    refine st22 _ ?_
    refine XS.iadd X22.here hx rfl (hb hby d9_106) rfl ?_
    exact kt
  have hk_u23 : u23 = (2 : Int32) := by rw [hu23]; decide
  subst hk_u23
  obtain ⟨cq25, kq25, q25a, q25b, q25c⟩ := isOf hZ e22 E_a1
  obtain ⟨_, _, ⟨T25, L25, k25, n25⟩, -, X25, ⟨Lc25, hQ25, l25, y25, z25⟩, st25⟩ := X22.virtualBack hx (y := m_20) (z := m_20) hown (mvT hZ (tw hw 46 rfl)) (mvT hZ (tw hw 47 rfl)) (notFace_of_selects (args := #[]) (mvT hZ (tw hw 49 rfl))) (mvT hZ (tw hw 49 rfl)) (mvT hZ (tw hw 48 rfl)) (by decide) (backOf (W := 1) (rm10_0 l Z a0 hw [] a1 (2 : Int32) (2 : Int32) (lu2 x1 x2) tv zC kt h0 n0 O0 hCS (by decide) sC E_a1 F_coder_a1 F_value_a1 A_tv) hZ (tw hw 50 rfl) (tw hw 6 rfl) (by decide) (by decide)) q25a q25c (g := (mkF m 8 #[Rf a1, Rf a2, It p3, .val (.int (((0 : Int32) + (1 : Int32)) + (1 : Int32))), It (2 : Int32), It x2] [(.ref a1), (.int (2 : Int32))])) rfl (by rw [hml]; rfl) (Steps.refl _) (argsL := []) (rest := [(.int (2 : Int32))]) (lenOf pd_16 rfl) rfl (w0 rfl) (hb hby d9_8) (fun _ _ => ⟨rfl, e22, (by decide : 0 + 0 ≤ _), (by decide : 0 + 0 ≤ _)⟩)
  dsimp only [Pt.U, Pt.locs, Pt.cells, Pt.slots] at X25 l25 y25 z25 st25 hQ25
  subst l25 y25 z25
  obtain ⟨rfl, N25q, e25⟩ := hQ25
  have N25 := Fr.app N22 N25q
  have sg26 : SG p.tables e below (T25.setTop (mkF m 137 #[Rf a1, Rf a2, It p3, .val (.int (((0 : Int32) + (1 : Int32)) + (1 : Int32))), It (2 : Int32), It x2] [])) (T22.setTop (mkF m 107 #[Rf a1, Rf a2, It p3, .val (.int (((0 : Int32) + (1 : Int32)) + (1 : Int32))), It (1 : Int32), It x2] [(.int (2 : Int32))])) := by
    intro target kt
    show Steps _ _ _ (T22.setTop (mkF m 107 #[Rf a1, Rf a2, It p3, .val (.int (((0 : Int32) + (1 : Int32)) + (1 : Int32))), It (1 : Int32), It x2] [(.int (2 : Int32))])) _
    refine XS.istore X22.here hx rfl (hb hby d9_107) rfl (l' := #[Rf a1, Rf a2, It p3, .val (.int (((0 : Int32) + (1 : Int32)) + (1 : Int32))), It (2 : Int32), It x2]) rfl ?_
    refine XS.goto X22.here hx rfl (pc0 := 109) (pc' := 5) rfl (hb hby d9_109) (by decide) (by decide) ?_
    refine XS.iload X22.here hx rfl (hb hby d9_5) rfl ?_
    refine XS.aloadN X22.here hx rfl (hb hby d9_7) rfl rfl ?_
    refine st25.trans ?_
    refine XS.icmpYes X25.here hx rfl (pc0 := 11) (pc' := 112) rfl (hb hby d9_11) rfl (flt (by decide : ¬ ((2 : Int32) < (2 : Int32)))).2.1 (by decide) (by decide) ?_
    refine XS.iloadN X25.here hx rfl (hb hby d9_112) rfl ?_
    refine XS.ifNo X25.here hx rfl (hb hby d9_113) rfl ((if0 _ _).trans (feq (by decide : ¬ ((((0 : Int32) + (1 : Int32)) + (1 : Int32)) = (0 : Int32)))).1) ?_
    refine XS.iloadN X25.here hx rfl (hb hby d9_116) rfl ?_
    refine XS.iloadN X25.here hx rfl (hb hby d9_117) rfl ?_
    refine XS.icmpYes X25.here hx rfl (pc0 := 118) (pc' := 137) rfl (hb hby d9_118) rfl (flt (own_cnt h_p (by decide))).2.2.2 (by decide) (by decide) ?_
    exact kt
  obtain ⟨fs, hr, hrun, hended, hW, hsame⟩ := X25.leave (v := none) (fun _ => rfl)
  refine ⟨_, _, pre0 _ (sg3 _ (sg8 _ (sg12 _ (sg15 _ (sg20 _ (sg24 _ (sg26 _ (?_)))))))), hrun, hended, _, _, rfl, ?_, ⟨_, rfl⟩, hW, hsame.mono (by decide) (by decide)⟩
  · show Steps _ _ _ (T25.setTop (mkF m 137 #[Rf a1, Rf a2, It p3, .val (.int (((0 : Int32) + (1 : Int32)) + (1 : Int32))), It (2 : Int32), It x2] [])) _
    exact X25.returnOut hx Bd.returns (hb hby d9_137) hr
  · show Q9_BB0 Z a1 a2 p3 x1 x2 tv vFM zC kt h0 n0 _ T25.heap _
    rw [e25]
    exact ⟨rfl, N25, rfl⟩
def Q9_BB1 (Z : State) (a1 : Addr) (a2 : Addr) (p3 : Int32) (x1 : Int32) (x2 : Int32) (tv : Addr) (vFM : Value) (zC : Int32) (kt : ClassId) (h0 : Heap) (n0 : Nat) (v : Option Value) (h : Heap) (L : List Loc) : Prop := v = none ∧ Fr n0 L ∧ h = h0
theorem rm9_BB1 (l : Launch) (Z : State) (a0 : Array Value) (hw : ∀ d ∈ tables_1, d.before a0 Z = true) (ws : List Jvm.Cond) (a1 : Addr) (a2 : Addr) (p3 : Int32) (x1 : Int32) (x2 : Int32) (tv : Addr) (vFM : Value) (zC : Int32) (kt : ClassId) (h0 : Heap) (n0 : Nat) (O0 : Old Z n0 h0) (hCS : ¬ zC = 0) (hFM : vFM.isRef = true) (sC : TS_3 Z zC) (sA : TS_0 Z) (sH : TS_1 Z) (sL : TS_2 Z) (sF : TS_6 Z vFM) (E_a1 : Exa Z h0 a1 "java/lang/String") (F_coder_a1 : Fld Z h0 a1 "java/lang/String" "coder" "B" (.int (1 : Int32))) (F_value_a1 : Fld Z h0 a1 "java/lang/String" "value" "[B" (.ref tv)) (A_tv : Arv Z h0 tv kt .byte (4 : Int32) (ub2 x1 x2) (.int (0 : Int32))) (h_b1 : BM x1) (h_b2 : BM x2) (h_p : ¬ p3 < (2 : Int32)) :
    MetFree l m_26 (head1 (Jvm.Cond.code m_26 prog_8_method_2_code 6 none :: ws) (rk 4 0 0 59)) (fun a U => a = #[(.ref a1), (.ref a2), (.int p3)] ∧ Z.Warmed39 U.vm ∧ U.heap = h0) (fun _ _ _ _ _ => True) (fun _ U o U' => ∃ v L, o = .returned v ∧ Q9_BB1 Z a1 a2 p3 x1 x2 tv vFM zC kt h0 n0 v U'.heap L ∧ FrameEnd U o U' L (rk 4 0 0 59).cells (rk 4 0 0 59).slots) := by
  refine MetFree.of_bodySF (plainFor_of_name pn_5) hisR ?_
  intro p e s m args below meth c s₁ Bd hml0 hP hK
  obtain ⟨rfl, hZ, hh⟩ := hP
  have hx := Bd.exec
  have hby := Bd.bytes
  have hml : c.maxLocals = 6 := hml0
  have hown : s.vm.findClass "com/example/chitragupta/chitragupta/core/Characters" = some m.cls := findClass_of_methodNamed Bd.named
  have X0 : Stand p l e (rk 4 0 0 59) s m #[(.ref a1), (.ref a2), (.int p3)] below meth c s₁ [] 0 0 := Stand.of_body Bd
  have e0 : s₁.heap = h0 := by rw [← hh, Bd.state]; rfl
  have N0 := Fr.nil n0
  have pre0 := own_pre (tb := p.tables) (e := e) (bl := below) (s := s₁) (ef_9_B0 m a1 a2 p3)
  obtain ⟨cq1, kq1, q1a, q1b, q1c⟩ := isOf hZ e0 E_a1
  obtain ⟨_, _, ⟨T1, L1, k1, n1⟩, -, X1, ⟨Lc1, hQ1, l1, y1, z1⟩, st1⟩ := X0.virtualBack hx (y := m_20) (z := m_20) hown (mvT hZ (tw hw 46 rfl)) (mvT hZ (tw hw 47 rfl)) (notFace_of_selects (args := #[]) (mvT hZ (tw hw 49 rfl))) (mvT hZ (tw hw 49 rfl)) (mvT hZ (tw hw 48 rfl)) (by decide) (backOf (W := 1) (rm10_1 l Z a0 hw [] a1 (4 : Int32) (2 : Int32) (ub2 x1 x2) tv zC kt h0 n0 O0 hCS (by decide) sC E_a1 F_coder_a1 F_value_a1 A_tv) hZ (tw hw 50 rfl) (tw hw 6 rfl) (by decide) (by decide)) q1a q1c (g := (mkF m 8 #[Rf a1, Rf a2, It p3, It (0 : Int32), It (0 : Int32), .unset] [(.ref a1), (.int (0 : Int32))])) rfl (by rw [hml]; rfl) (Steps.refl _) (argsL := []) (rest := [(.int (0 : Int32))]) (lenOf pd_16 rfl) rfl (w0 rfl) (hb hby d9_8) (fun _ _ => ⟨rfl, e0, (by decide : 0 + 0 ≤ _), (by decide : 0 + 0 ≤ _)⟩)
  dsimp only [Pt.U, Pt.locs, Pt.cells, Pt.slots] at X1 l1 y1 z1 st1 hQ1
  subst l1 y1 z1
  obtain ⟨rfl, N1q, e1⟩ := hQ1
  have N1 := Fr.app N0 N1q
  obtain ⟨cq2, kq2, q2a, q2b, q2c⟩ := isOf hZ e1 E_a1
  obtain ⟨_, _, ⟨T2, L2, k2, n2⟩, -, X2, ⟨Lc2, hQ2, l2, y2, z2⟩, st2⟩ := X1.virtualBack hx (y := m_25) (z := m_25) hown (mvT hZ (tw hw 56 rfl)) (mvT hZ (tw hw 57 rfl)) (notFace_of_selects (args := #[]) (mvT hZ (tw hw 59 rfl))) (mvT hZ (tw hw 59 rfl)) (mvT hZ (tw hw 58 rfl)) (by decide) (backOf (W := 0) (rm12_B0 l Z a0 hw [] a1 x1 (4 : Int32) (ub2 x1 x2) (2 : Int32) tv vFM zC kt h0 n0 O0 hCS hFM (by decide) (by decide) (by decide) sC sA sH sL sF E_a1 F_coder_a1 F_value_a1 h_b1 rfl rfl A_tv) hZ (tw hw 60 rfl) (tw hw 6 rfl) (by decide) (by decide)) q2a q2c (g := (mkF m 17 #[Rf a1, Rf a2, It p3, It (0 : Int32), It (0 : Int32), .unset] [(.int (0 : Int32)), (.ref a1)])) rfl (by rw [hml]; rfl) (Steps.refl _) (argsL := [(.int (0 : Int32))]) (rest := []) (lenOf pd_0 rfl) rfl (w0 rfl) (hb hby d9_17) (fun _ _ => ⟨rfl, e1, (by decide : 0 + 0 ≤ _), (by decide : 0 + 0 ≤ _)⟩)
  dsimp only [Pt.U, Pt.locs, Pt.cells, Pt.slots] at X2 l2 y2 z2 st2 hQ2
  subst l2 y2 z2
  obtain ⟨rfl, N2q, e2⟩ := hQ2
  have N2 := Fr.app N1 N2q
  have sg3 : SG p.tables e below (T2.setTop (mkF m 45 #[Rf a1, Rf a2, It p3, .val (.int ((0 : Int32) + (1 : Int32))), It (0 : Int32), It x1] [])) (s₁.setTop (mkF m 0 #[Rf a1, Rf a2, It p3, .unset, .unset, .unset] [])) := by
    intro target kt
    show Steps _ _ _ (s₁.setTop (mkF m 0 #[Rf a1, Rf a2, It p3, .unset, .unset, .unset] [])) _
    refine XS.iconst X0.here hx rfl (hb hby d9_0) ?_
    refine XS.istoreN X0.here hx rfl (hb hby d9_1) rfl (l' := #[Rf a1, Rf a2, It p3, It (0 : Int32), .unset, .unset]) rfl ?_
    refine XS.iconst X0.here hx rfl (hb hby d9_2) ?_
    refine XS.istore X0.here hx rfl (hb hby d9_3) rfl (l' := #[Rf a1, Rf a2, It p3, It (0 : Int32), It (0 : Int32), .unset]) rfl ?_
    refine XS.iload X0.here hx rfl (hb hby d9_5) rfl ?_
    refine XS.aloadN X0.here hx rfl (hb hby d9_7) rfl rfl ?_
    refine st1.trans ?_
    refine XS.icmpNo X1.here hx rfl (hb hby d9_11) rfl (tlt (by decide : (0 : Int32) < (2 : Int32))).2.1 ?_
    refine XS.aloadN X1.here hx rfl (hb hby d9_14) rfl rfl ?_
    refine XS.iload X1.here hx rfl (hb hby d9_15) rfl ?_
    refine st2.trans ?_
    refine XS.istore X2.here hx rfl (hb hby d9_20) rfl (l' := #[Rf a1, Rf a2, It p3, It (0 : Int32), It (0 : Int32), It x1]) rfl ?_
    refine XS.iinc X2.here hx rfl (hb hby d9_22) rfl (l' := #[Rf a1, Rf a2, It p3, .val (.int ((0 : Int32) + (1 : Int32))), It (0 : Int32), It x1]) rfl ?_
    refine XS.iload X2.here hx rfl (hb hby d9_25) rfl ?_
    refine XS.ifYes X2.here hx rfl (pc0 := 27) (pc' := 45) rfl (hb hby d9_27) rfl ((if0 _ _).trans (feq h_b1.2.1).2) (by decide) (by decide) ?_
    exact kt
  obtain ⟨T8, L8, X8, e8, N8, sg8⟩ : ∃ (T' : State) (L' : List Loc), Stand p l e (rk 4 0 0 59) s m #[(.ref a1), (.ref a2), (.int p3)] below meth c T' L' 0 0 ∧ T'.heap = h0 ∧ Fr n0 L' ∧ ∀ target, Steps p.tables e below (T'.setTop (mkF m 95 #[Rf a1, Rf a2, It p3, .val (.int ((0 : Int32) + (1 : Int32))), It (0 : Int32), It x1] [])) target → Steps p.tables e below (T2.setTop (mkF m 45 #[Rf a1, Rf a2, It p3, .val (.int ((0 : Int32) + (1 : Int32))), It (0 : Int32), It x1] [])) target := by
    have sg4 : SG p.tables e below (T2.setTop (mkF m 49 #[Rf a1, Rf a2, It p3, .val (.int ((0 : Int32) + (1 : Int32))), It (0 : Int32), It x1] [(.int (55296 : Int32)), (.int x1)])) (T2.setTop (mkF m 45 #[Rf a1, Rf a2, It p3, .val (.int ((0 : Int32) + (1 : Int32))), It (0 : Int32), It x1] [])) := by
      intro target kt
      show Steps _ _ _ (T2.setTop (mkF m 45 #[Rf a1, Rf a2, It p3, .val (.int ((0 : Int32) + (1 : Int32))), It (0 : Int32), It x1] [])) _
      refine XS.iload X2.here hx rfl (hb hby d9_45) rfl ?_
      refine X2.ldcInt hx hown (mvT hZ (tw hw 74 rfl)) (g := (mkF m 47 #[Rf a1, Rf a2, It p3, .val (.int ((0 : Int32) + (1 : Int32))), It (0 : Int32), It x1] [(.int x1)])) rfl (hb hby d9_47) _ ?_
      exact kt
    by_cases hc5 : x1 < (55296 : Int32)
    · have sg6 : SG p.tables e below (T2.setTop (mkF m 95 #[Rf a1, Rf a2, It p3, .val (.int ((0 : Int32) + (1 : Int32))), It (0 : Int32), It x1] [])) (T2.setTop (mkF m 49 #[Rf a1, Rf a2, It p3, .val (.int ((0 : Int32) + (1 : Int32))), It (0 : Int32), It x1] [(.int (55296 : Int32)), (.int x1)])) := by
        intro target kt
        show Steps _ _ _ (T2.setTop (mkF m 49 #[Rf a1, Rf a2, It p3, .val (.int ((0 : Int32) + (1 : Int32))), It (0 : Int32), It x1] [(.int (55296 : Int32)), (.int x1)])) _
        refine XS.icmpYes X2.here hx rfl (pc0 := 49) (pc' := 95) rfl (hb hby d9_49) rfl (tlt hc5).1 (by decide) (by decide) ?_
        exact kt
      exact ⟨T2, _, X2.mono (by decide) (by decide), e2, N2, fun target kt => sg4 _ (sg6 _ (kt))⟩
    · have sg7 : SG p.tables e below (T2.setTop (mkF m 95 #[Rf a1, Rf a2, It p3, .val (.int ((0 : Int32) + (1 : Int32))), It (0 : Int32), It x1] [])) (T2.setTop (mkF m 49 #[Rf a1, Rf a2, It p3, .val (.int ((0 : Int32) + (1 : Int32))), It (0 : Int32), It x1] [(.int (55296 : Int32)), (.int x1)])) := by
        intro target kt
        show Steps _ _ _ (T2.setTop (mkF m 49 #[Rf a1, Rf a2, It p3, .val (.int ((0 : Int32) + (1 : Int32))), It (0 : Int32), It x1] [(.int (55296 : Int32)), (.int x1)])) _
        refine XS.icmpNo X2.here hx rfl (hb hby d9_49) rfl (flt hc5).1 ?_
        refine XS.iload X2.here hx rfl (hb hby d9_52) rfl ?_
        refine X2.ldcInt hx hown (mvT hZ (tw hw 127 rfl)) (g := (mkF m 54 #[Rf a1, Rf a2, It p3, .val (.int ((0 : Int32) + (1 : Int32))), It (0 : Int32), It x1] [(.int x1)])) rfl (hb hby d9_54) _ ?_
        refine XS.icmpYes X2.here hx rfl (pc0 := 56) (pc' := 95) rfl (hb hby d9_56) rfl (tlt (h_b1.2.2.resolve_left hc5)).2.2.1 (by decide) (by decide) ?_
        exact kt
      exact ⟨T2, _, X2.mono (by decide) (by decide), e2, N2, fun target kt => sg4 _ (sg7 _ (kt))⟩
  obtain ⟨cq9, kq9, q9a, q9b, q9c⟩ := isOf hZ e8 E_a1
  obtain ⟨_, _, ⟨T9, L9, k9, n9⟩, -, X9, ⟨Lc9, hQ9, l9, y9, z9⟩, st9⟩ := X8.virtualBack hx (y := m_25) (z := m_25) hown (mvT hZ (tw hw 56 rfl)) (mvT hZ (tw hw 57 rfl)) (notFace_of_selects (args := #[]) (mvT hZ (tw hw 59 rfl))) (mvT hZ (tw hw 59 rfl)) (mvT hZ (tw hw 58 rfl)) (by decide) (backOf (W := 1) (rm12_B0 l Z a0 hw [] a1 x1 (4 : Int32) (ub2 x1 x2) (2 : Int32) tv vFM zC kt h0 n0 O0 hCS hFM (by decide) (by decide) (by decide) sC sA sH sL sF E_a1 F_coder_a1 F_value_a1 h_b1 rfl rfl A_tv) hZ (tw hw 60 rfl) (tw hw 6 rfl) (by decide) (by decide)) q9a q9c (g := (mkF m 100 #[Rf a1, Rf a2, It p3, .val (.int ((0 : Int32) + (1 : Int32))), It (0 : Int32), It x1] [(.int (0 : Int32)), (.ref a1), (.int (0 : Int32))])) rfl (by rw [hml]; rfl) (Steps.refl _) (argsL := [(.int (0 : Int32))]) (rest := [(.int (0 : Int32))]) (lenOf pd_0 rfl) rfl (w0 rfl) (hb hby d9_100) (fun _ _ => ⟨rfl, e8, (by decide : 0 + 0 ≤ _), (by decide : 0 + 0 ≤ _)⟩)
  dsimp only [Pt.U, Pt.locs, Pt.cells, Pt.slots] at X9 l9 y9 z9 st9 hQ9
  subst l9 y9 z9
  obtain ⟨rfl, N9q, e9⟩ := hQ9
  have N9 := Fr.app N8 N9q
  obtain ⟨_, _, ⟨T10, L10, k10, n10⟩, -, X10, ⟨Lc10, hQ10, l10, y10, z10⟩, st10⟩ := Jvm.LawKit.callS X9 hx (y := m_4) hown (mvT hZ (tw hw 75 rfl)) (mvT hZ (tw hw 76 rfl)) (mvT hZ (tw hw 77 rfl)) (mvT hZ (tw hw 78 rfl)) (by decide) (backOf (W := 1) (rm16 l Z a0 hw [] x1 h0 n0 O0 ) hZ (tw hw 78 rfl) (tw hw 77 rfl) (by decide) (by decide)) (g := (mkF m 103 #[Rf a1, Rf a2, It p3, .val (.int ((0 : Int32) + (1 : Int32))), It (0 : Int32), It x1] [(.int x1), (.int (0 : Int32))])) rfl (by rw [hml]; rfl) (argsL := [(.int x1)]) (rest := [(.int (0 : Int32))]) (lenOf pd_0 rfl) rfl (w0 rfl) (hb hby d9_103) (fun _ _ => ⟨rfl, e9, (by decide : 0 + 0 ≤ _), (by decide : 0 + 0 ≤ _)⟩)
  dsimp only [Pt.U, Pt.locs, Pt.cells, Pt.slots] at X10 l10 y10 z10 st10 hQ10
  subst l10 y10 z10
  obtain ⟨rfl, N10q, e10⟩ := hQ10
  have N10 := Fr.app N9 N10q
  obtain ⟨r10, hr10⟩ : ∃ z, z = (if x1 < (65536 : Int32) then (1 : Int32) else (2 : Int32)) := ⟨_, rfl⟩
  rw [← hr10] at st10
  have hcc10 : r10 = (1 : Int32) := own_cc1 h_b1 hr10
  subst hcc10
  obtain ⟨u11, hu11⟩ : ∃ z, z = ((0 : Int32) + (1 : Int32)) := ⟨_, rfl⟩
  have sg12 : SG p.tables e below (T10.setTop (mkF m 107 #[Rf a1, Rf a2, It p3, .val (.int ((0 : Int32) + (1 : Int32))), It (0 : Int32), It x1] [(.int u11)])) (T8.setTop (mkF m 95 #[Rf a1, Rf a2, It p3, .val (.int ((0 : Int32) + (1 : Int32))), It (0 : Int32), It x1] [])) := by
    intro target kt
    subst hu11
    show Steps _ _ _ (T8.setTop (mkF m 95 #[Rf a1, Rf a2, It p3, .val (.int ((0 : Int32) + (1 : Int32))), It (0 : Int32), It x1] [])) _
    refine XS.iload X8.here hx rfl (hb hby d9_95) rfl ?_
    refine XS.aloadN X8.here hx rfl (hb hby d9_97) rfl rfl ?_
    refine XS.iload X8.here hx rfl (hb hby d9_98) rfl ?_
    refine st9.trans ?_
    refine st10 _ ?_
    refine XS.iadd X10.here hx rfl (hb hby d9_106) rfl ?_
    exact kt
  have hk_u11 : u11 = (1 : Int32) := by rw [hu11]; decide
  subst hk_u11
  obtain ⟨cq13, kq13, q13a, q13b, q13c⟩ := isOf hZ e10 E_a1
  obtain ⟨_, _, ⟨T13, L13, k13, n13⟩, -, X13, ⟨Lc13, hQ13, l13, y13, z13⟩, st13⟩ := X10.virtualBack hx (y := m_20) (z := m_20) hown (mvT hZ (tw hw 46 rfl)) (mvT hZ (tw hw 47 rfl)) (notFace_of_selects (args := #[]) (mvT hZ (tw hw 49 rfl))) (mvT hZ (tw hw 49 rfl)) (mvT hZ (tw hw 48 rfl)) (by decide) (backOf (W := 1) (rm10_1 l Z a0 hw [] a1 (4 : Int32) (2 : Int32) (ub2 x1 x2) tv zC kt h0 n0 O0 hCS (by decide) sC E_a1 F_coder_a1 F_value_a1 A_tv) hZ (tw hw 50 rfl) (tw hw 6 rfl) (by decide) (by decide)) q13a q13c (g := (mkF m 8 #[Rf a1, Rf a2, It p3, .val (.int ((0 : Int32) + (1 : Int32))), It (1 : Int32), It x1] [(.ref a1), (.int (1 : Int32))])) rfl (by rw [hml]; rfl) (Steps.refl _) (argsL := []) (rest := [(.int (1 : Int32))]) (lenOf pd_16 rfl) rfl (w0 rfl) (hb hby d9_8) (fun _ _ => ⟨rfl, e10, (by decide : 0 + 0 ≤ _), (by decide : 0 + 0 ≤ _)⟩)
  dsimp only [Pt.U, Pt.locs, Pt.cells, Pt.slots] at X13 l13 y13 z13 st13 hQ13
  subst l13 y13 z13
  obtain ⟨rfl, N13q, e13⟩ := hQ13
  have N13 := Fr.app N10 N13q
  obtain ⟨cq14, kq14, q14a, q14b, q14c⟩ := isOf hZ e13 E_a1
  obtain ⟨_, _, ⟨T14, L14, k14, n14⟩, -, X14, ⟨Lc14, hQ14, l14, y14, z14⟩, st14⟩ := X13.virtualBack hx (y := m_25) (z := m_25) hown (mvT hZ (tw hw 56 rfl)) (mvT hZ (tw hw 57 rfl)) (notFace_of_selects (args := #[]) (mvT hZ (tw hw 59 rfl))) (mvT hZ (tw hw 59 rfl)) (mvT hZ (tw hw 58 rfl)) (by decide) (backOf (W := 0) (rm12_B1 l Z a0 hw [] a1 x2 (4 : Int32) (ub2 x1 x2) (2 : Int32) tv vFM zC kt h0 n0 O0 hCS hFM (by decide) (by decide) (by decide) sC sA sH sL sF E_a1 F_coder_a1 F_value_a1 h_b2 rfl rfl A_tv) hZ (tw hw 60 rfl) (tw hw 6 rfl) (by decide) (by decide)) q14a q14c (g := (mkF m 17 #[Rf a1, Rf a2, It p3, .val (.int ((0 : Int32) + (1 : Int32))), It (1 : Int32), It x1] [(.int (1 : Int32)), (.ref a1)])) rfl (by rw [hml]; rfl) (Steps.refl _) (argsL := [(.int (1 : Int32))]) (rest := []) (lenOf pd_0 rfl) rfl (w0 rfl) (hb hby d9_17) (fun _ _ => ⟨rfl, e13, (by decide : 0 + 0 ≤ _), (by decide : 0 + 0 ≤ _)⟩)
  dsimp only [Pt.U, Pt.locs, Pt.cells, Pt.slots] at X14 l14 y14 z14 st14 hQ14
  subst l14 y14 z14
  obtain ⟨rfl, N14q, e14⟩ := hQ14
  have N14 := Fr.app N13 N14q
  have sg15 : SG p.tables e below (T14.setTop (mkF m 45 #[Rf a1, Rf a2, It p3, .val (.int (((0 : Int32) + (1 : Int32)) + (1 : Int32))), It (1 : Int32), It x2] [])) (T10.setTop (mkF m 107 #[Rf a1, Rf a2, It p3, .val (.int ((0 : Int32) + (1 : Int32))), It (0 : Int32), It x1] [(.int (1 : Int32))])) := by
    intro target kt
    show Steps _ _ _ (T10.setTop (mkF m 107 #[Rf a1, Rf a2, It p3, .val (.int ((0 : Int32) + (1 : Int32))), It (0 : Int32), It x1] [(.int (1 : Int32))])) _
    refine XS.istore X10.here hx rfl (hb hby d9_107) rfl (l' := #[Rf a1, Rf a2, It p3, .val (.int ((0 : Int32) + (1 : Int32))), It (1 : Int32), It x1]) rfl ?_
    refine XS.goto X10.here hx rfl (pc0 := 109) (pc' := 5) rfl (hb hby d9_109) (by decide) (by decide) ?_
    refine XS.iload X10.here hx rfl (hb hby d9_5) rfl ?_
    refine XS.aloadN X10.here hx rfl (hb hby d9_7) rfl rfl ?_
    refine st13.trans ?_
    refine XS.icmpNo X13.here hx rfl (hb hby d9_11) rfl (tlt (by decide : (1 : Int32) < (2 : Int32))).2.1 ?_
    refine XS.aloadN X13.here hx rfl (hb hby d9_14) rfl rfl ?_
    refine XS.iload X13.here hx rfl (hb hby d9_15) rfl ?_
    refine st14.trans ?_
    refine XS.istore X14.here hx rfl (hb hby d9_20) rfl (l' := #[Rf a1, Rf a2, It p3, .val (.int ((0 : Int32) + (1 : Int32))), It (1 : Int32), It x2]) rfl ?_
    refine XS.iinc X14.here hx rfl (hb hby d9_22) rfl (l' := #[Rf a1, Rf a2, It p3, .val (.int (((0 : Int32) + (1 : Int32)) + (1 : Int32))), It (1 : Int32), It x2]) rfl ?_
    refine XS.iload X14.here hx rfl (hb hby d9_25) rfl ?_
    refine XS.ifYes X14.here hx rfl (pc0 := 27) (pc' := 45) rfl (hb hby d9_27) rfl ((if0 _ _).trans (feq h_b2.2.1).2) (by decide) (by decide) ?_
    exact kt
  obtain ⟨T20, L20, X20, e20, N20, sg20⟩ : ∃ (T' : State) (L' : List Loc), Stand p l e (rk 4 0 0 59) s m #[(.ref a1), (.ref a2), (.int p3)] below meth c T' L' 0 0 ∧ T'.heap = h0 ∧ Fr n0 L' ∧ ∀ target, Steps p.tables e below (T'.setTop (mkF m 95 #[Rf a1, Rf a2, It p3, .val (.int (((0 : Int32) + (1 : Int32)) + (1 : Int32))), It (1 : Int32), It x2] [])) target → Steps p.tables e below (T14.setTop (mkF m 45 #[Rf a1, Rf a2, It p3, .val (.int (((0 : Int32) + (1 : Int32)) + (1 : Int32))), It (1 : Int32), It x2] [])) target := by
    have sg16 : SG p.tables e below (T14.setTop (mkF m 49 #[Rf a1, Rf a2, It p3, .val (.int (((0 : Int32) + (1 : Int32)) + (1 : Int32))), It (1 : Int32), It x2] [(.int (55296 : Int32)), (.int x2)])) (T14.setTop (mkF m 45 #[Rf a1, Rf a2, It p3, .val (.int (((0 : Int32) + (1 : Int32)) + (1 : Int32))), It (1 : Int32), It x2] [])) := by
      intro target kt
      show Steps _ _ _ (T14.setTop (mkF m 45 #[Rf a1, Rf a2, It p3, .val (.int (((0 : Int32) + (1 : Int32)) + (1 : Int32))), It (1 : Int32), It x2] [])) _
      refine XS.iload X14.here hx rfl (hb hby d9_45) rfl ?_
      refine X14.ldcInt hx hown (mvT hZ (tw hw 74 rfl)) (g := (mkF m 47 #[Rf a1, Rf a2, It p3, .val (.int (((0 : Int32) + (1 : Int32)) + (1 : Int32))), It (1 : Int32), It x2] [(.int x2)])) rfl (hb hby d9_47) _ ?_
      exact kt
    by_cases hc17 : x2 < (55296 : Int32)
    · have sg18 : SG p.tables e below (T14.setTop (mkF m 95 #[Rf a1, Rf a2, It p3, .val (.int (((0 : Int32) + (1 : Int32)) + (1 : Int32))), It (1 : Int32), It x2] [])) (T14.setTop (mkF m 49 #[Rf a1, Rf a2, It p3, .val (.int (((0 : Int32) + (1 : Int32)) + (1 : Int32))), It (1 : Int32), It x2] [(.int (55296 : Int32)), (.int x2)])) := by
        intro target kt
        show Steps _ _ _ (T14.setTop (mkF m 49 #[Rf a1, Rf a2, It p3, .val (.int (((0 : Int32) + (1 : Int32)) + (1 : Int32))), It (1 : Int32), It x2] [(.int (55296 : Int32)), (.int x2)])) _
        refine XS.icmpYes X14.here hx rfl (pc0 := 49) (pc' := 95) rfl (hb hby d9_49) rfl (tlt hc17).1 (by decide) (by decide) ?_
        exact kt
      exact ⟨T14, _, X14.mono (by decide) (by decide), e14, N14, fun target kt => sg16 _ (sg18 _ (kt))⟩
    · have sg19 : SG p.tables e below (T14.setTop (mkF m 95 #[Rf a1, Rf a2, It p3, .val (.int (((0 : Int32) + (1 : Int32)) + (1 : Int32))), It (1 : Int32), It x2] [])) (T14.setTop (mkF m 49 #[Rf a1, Rf a2, It p3, .val (.int (((0 : Int32) + (1 : Int32)) + (1 : Int32))), It (1 : Int32), It x2] [(.int (55296 : Int32)), (.int x2)])) := by
        intro target kt
        show Steps _ _ _ (T14.setTop (mkF m 49 #[Rf a1, Rf a2, It p3, .val (.int (((0 : Int32) + (1 : Int32)) + (1 : Int32))), It (1 : Int32), It x2] [(.int (55296 : Int32)), (.int x2)])) _
        refine XS.icmpNo X14.here hx rfl (hb hby d9_49) rfl (flt hc17).1 ?_
        refine XS.iload X14.here hx rfl (hb hby d9_52) rfl ?_
        refine X14.ldcInt hx hown (mvT hZ (tw hw 127 rfl)) (g := (mkF m 54 #[Rf a1, Rf a2, It p3, .val (.int (((0 : Int32) + (1 : Int32)) + (1 : Int32))), It (1 : Int32), It x2] [(.int x2)])) rfl (hb hby d9_54) _ ?_
        refine XS.icmpYes X14.here hx rfl (pc0 := 56) (pc' := 95) rfl (hb hby d9_56) rfl (tlt (h_b2.2.2.resolve_left hc17)).2.2.1 (by decide) (by decide) ?_
        exact kt
      exact ⟨T14, _, X14.mono (by decide) (by decide), e14, N14, fun target kt => sg16 _ (sg19 _ (kt))⟩
  obtain ⟨cq21, kq21, q21a, q21b, q21c⟩ := isOf hZ e20 E_a1
  obtain ⟨_, _, ⟨T21, L21, k21, n21⟩, -, X21, ⟨Lc21, hQ21, l21, y21, z21⟩, st21⟩ := X20.virtualBack hx (y := m_25) (z := m_25) hown (mvT hZ (tw hw 56 rfl)) (mvT hZ (tw hw 57 rfl)) (notFace_of_selects (args := #[]) (mvT hZ (tw hw 59 rfl))) (mvT hZ (tw hw 59 rfl)) (mvT hZ (tw hw 58 rfl)) (by decide) (backOf (W := 1) (rm12_B1 l Z a0 hw [] a1 x2 (4 : Int32) (ub2 x1 x2) (2 : Int32) tv vFM zC kt h0 n0 O0 hCS hFM (by decide) (by decide) (by decide) sC sA sH sL sF E_a1 F_coder_a1 F_value_a1 h_b2 rfl rfl A_tv) hZ (tw hw 60 rfl) (tw hw 6 rfl) (by decide) (by decide)) q21a q21c (g := (mkF m 100 #[Rf a1, Rf a2, It p3, .val (.int (((0 : Int32) + (1 : Int32)) + (1 : Int32))), It (1 : Int32), It x2] [(.int (1 : Int32)), (.ref a1), (.int (1 : Int32))])) rfl (by rw [hml]; rfl) (Steps.refl _) (argsL := [(.int (1 : Int32))]) (rest := [(.int (1 : Int32))]) (lenOf pd_0 rfl) rfl (w0 rfl) (hb hby d9_100) (fun _ _ => ⟨rfl, e20, (by decide : 0 + 0 ≤ _), (by decide : 0 + 0 ≤ _)⟩)
  dsimp only [Pt.U, Pt.locs, Pt.cells, Pt.slots] at X21 l21 y21 z21 st21 hQ21
  subst l21 y21 z21
  obtain ⟨rfl, N21q, e21⟩ := hQ21
  have N21 := Fr.app N20 N21q
  obtain ⟨_, _, ⟨T22, L22, k22, n22⟩, -, X22, ⟨Lc22, hQ22, l22, y22, z22⟩, st22⟩ := Jvm.LawKit.callS X21 hx (y := m_4) hown (mvT hZ (tw hw 75 rfl)) (mvT hZ (tw hw 76 rfl)) (mvT hZ (tw hw 77 rfl)) (mvT hZ (tw hw 78 rfl)) (by decide) (backOf (W := 1) (rm16 l Z a0 hw [] x2 h0 n0 O0 ) hZ (tw hw 78 rfl) (tw hw 77 rfl) (by decide) (by decide)) (g := (mkF m 103 #[Rf a1, Rf a2, It p3, .val (.int (((0 : Int32) + (1 : Int32)) + (1 : Int32))), It (1 : Int32), It x2] [(.int x2), (.int (1 : Int32))])) rfl (by rw [hml]; rfl) (argsL := [(.int x2)]) (rest := [(.int (1 : Int32))]) (lenOf pd_0 rfl) rfl (w0 rfl) (hb hby d9_103) (fun _ _ => ⟨rfl, e21, (by decide : 0 + 0 ≤ _), (by decide : 0 + 0 ≤ _)⟩)
  dsimp only [Pt.U, Pt.locs, Pt.cells, Pt.slots] at X22 l22 y22 z22 st22 hQ22
  subst l22 y22 z22
  obtain ⟨rfl, N22q, e22⟩ := hQ22
  have N22 := Fr.app N21 N22q
  obtain ⟨r22, hr22⟩ : ∃ z, z = (if x2 < (65536 : Int32) then (1 : Int32) else (2 : Int32)) := ⟨_, rfl⟩
  rw [← hr22] at st22
  have hcc22 : r22 = (1 : Int32) := own_cc1 h_b2 hr22
  subst hcc22
  obtain ⟨u23, hu23⟩ : ∃ z, z = ((1 : Int32) + (1 : Int32)) := ⟨_, rfl⟩
  have sg24 : SG p.tables e below (T22.setTop (mkF m 107 #[Rf a1, Rf a2, It p3, .val (.int (((0 : Int32) + (1 : Int32)) + (1 : Int32))), It (1 : Int32), It x2] [(.int u23)])) (T20.setTop (mkF m 95 #[Rf a1, Rf a2, It p3, .val (.int (((0 : Int32) + (1 : Int32)) + (1 : Int32))), It (1 : Int32), It x2] [])) := by
    intro target kt
    subst hu23
    show Steps _ _ _ (T20.setTop (mkF m 95 #[Rf a1, Rf a2, It p3, .val (.int (((0 : Int32) + (1 : Int32)) + (1 : Int32))), It (1 : Int32), It x2] [])) _
    refine XS.iload X20.here hx rfl (hb hby d9_95) rfl ?_
    refine XS.aloadN X20.here hx rfl (hb hby d9_97) rfl rfl ?_
    refine XS.iload X20.here hx rfl (hb hby d9_98) rfl ?_
    refine st21.trans ?_
    refine st22 _ ?_
    refine XS.iadd X22.here hx rfl (hb hby d9_106) rfl ?_
    exact kt
  have hk_u23 : u23 = (2 : Int32) := by rw [hu23]; decide
  subst hk_u23
  obtain ⟨cq25, kq25, q25a, q25b, q25c⟩ := isOf hZ e22 E_a1
  obtain ⟨_, _, ⟨T25, L25, k25, n25⟩, -, X25, ⟨Lc25, hQ25, l25, y25, z25⟩, st25⟩ := X22.virtualBack hx (y := m_20) (z := m_20) hown (mvT hZ (tw hw 46 rfl)) (mvT hZ (tw hw 47 rfl)) (notFace_of_selects (args := #[]) (mvT hZ (tw hw 49 rfl))) (mvT hZ (tw hw 49 rfl)) (mvT hZ (tw hw 48 rfl)) (by decide) (backOf (W := 1) (rm10_1 l Z a0 hw [] a1 (4 : Int32) (2 : Int32) (ub2 x1 x2) tv zC kt h0 n0 O0 hCS (by decide) sC E_a1 F_coder_a1 F_value_a1 A_tv) hZ (tw hw 50 rfl) (tw hw 6 rfl) (by decide) (by decide)) q25a q25c (g := (mkF m 8 #[Rf a1, Rf a2, It p3, .val (.int (((0 : Int32) + (1 : Int32)) + (1 : Int32))), It (2 : Int32), It x2] [(.ref a1), (.int (2 : Int32))])) rfl (by rw [hml]; rfl) (Steps.refl _) (argsL := []) (rest := [(.int (2 : Int32))]) (lenOf pd_16 rfl) rfl (w0 rfl) (hb hby d9_8) (fun _ _ => ⟨rfl, e22, (by decide : 0 + 0 ≤ _), (by decide : 0 + 0 ≤ _)⟩)
  dsimp only [Pt.U, Pt.locs, Pt.cells, Pt.slots] at X25 l25 y25 z25 st25 hQ25
  subst l25 y25 z25
  obtain ⟨rfl, N25q, e25⟩ := hQ25
  have N25 := Fr.app N22 N25q
  have sg26 : SG p.tables e below (T25.setTop (mkF m 137 #[Rf a1, Rf a2, It p3, .val (.int (((0 : Int32) + (1 : Int32)) + (1 : Int32))), It (2 : Int32), It x2] [])) (T22.setTop (mkF m 107 #[Rf a1, Rf a2, It p3, .val (.int (((0 : Int32) + (1 : Int32)) + (1 : Int32))), It (1 : Int32), It x2] [(.int (2 : Int32))])) := by
    intro target kt
    show Steps _ _ _ (T22.setTop (mkF m 107 #[Rf a1, Rf a2, It p3, .val (.int (((0 : Int32) + (1 : Int32)) + (1 : Int32))), It (1 : Int32), It x2] [(.int (2 : Int32))])) _
    refine XS.istore X22.here hx rfl (hb hby d9_107) rfl (l' := #[Rf a1, Rf a2, It p3, .val (.int (((0 : Int32) + (1 : Int32)) + (1 : Int32))), It (2 : Int32), It x2]) rfl ?_
    refine XS.goto X22.here hx rfl (pc0 := 109) (pc' := 5) rfl (hb hby d9_109) (by decide) (by decide) ?_
    refine XS.iload X22.here hx rfl (hb hby d9_5) rfl ?_
    refine XS.aloadN X22.here hx rfl (hb hby d9_7) rfl rfl ?_
    refine st25.trans ?_
    refine XS.icmpYes X25.here hx rfl (pc0 := 11) (pc' := 112) rfl (hb hby d9_11) rfl (flt (by decide : ¬ ((2 : Int32) < (2 : Int32)))).2.1 (by decide) (by decide) ?_
    refine XS.iloadN X25.here hx rfl (hb hby d9_112) rfl ?_
    refine XS.ifNo X25.here hx rfl (hb hby d9_113) rfl ((if0 _ _).trans (feq (by decide : ¬ ((((0 : Int32) + (1 : Int32)) + (1 : Int32)) = (0 : Int32)))).1) ?_
    refine XS.iloadN X25.here hx rfl (hb hby d9_116) rfl ?_
    refine XS.iloadN X25.here hx rfl (hb hby d9_117) rfl ?_
    refine XS.icmpYes X25.here hx rfl (pc0 := 118) (pc' := 137) rfl (hb hby d9_118) rfl (flt (own_cnt h_p (by decide))).2.2.2 (by decide) (by decide) ?_
    exact kt
  obtain ⟨fs, hr, hrun, hended, hW, hsame⟩ := X25.leave (v := none) (fun _ => rfl)
  refine ⟨_, _, pre0 _ (sg3 _ (sg8 _ (sg12 _ (sg15 _ (sg20 _ (sg24 _ (sg26 _ (?_)))))))), hrun, hended, _, _, rfl, ?_, ⟨_, rfl⟩, hW, hsame.mono (by decide) (by decide)⟩
  · show Steps _ _ _ (T25.setTop (mkF m 137 #[Rf a1, Rf a2, It p3, .val (.int (((0 : Int32) + (1 : Int32)) + (1 : Int32))), It (2 : Int32), It x2] [])) _
    exact X25.returnOut hx Bd.returns (hb hby d9_137) hr
  · show Q9_BB1 Z a1 a2 p3 x1 x2 tv vFM zC kt h0 n0 _ T25.heap _
    rw [e25]
    exact ⟨rfl, N25, rfl⟩
def Q9_P1 (Z : State) (a1 : Addr) (a2 : Addr) (p3 : Int32) (x1 : Int32) (x2 : Int32) (tv : Addr) (vFM : Value) (zC : Int32) (kt : ClassId) (h0 : Heap) (n0 : Nat) (v : Option Value) (h : Heap) (L : List Loc) : Prop := v = none ∧ Fr n0 L ∧ h = h0
theorem rm9_P1 (l : Launch) (Z : State) (a0 : Array Value) (hw : ∀ d ∈ tables_1, d.before a0 Z = true) (ws : List Jvm.Cond) (a1 : Addr) (a2 : Addr) (p3 : Int32) (x1 : Int32) (x2 : Int32) (tv : Addr) (vFM : Value) (zC : Int32) (kt : ClassId) (h0 : Heap) (n0 : Nat) (O0 : Old Z n0 h0) (hCS : ¬ zC = 0) (hFM : vFM.isRef = true) (sC : TS_3 Z zC) (sA : TS_0 Z) (sH : TS_1 Z) (sL : TS_2 Z) (sF : TS_6 Z vFM) (E_a1 : Exa Z h0 a1 "java/lang/String") (F_coder_a1 : Fld Z h0 a1 "java/lang/String" "coder" "B" (.int (1 : Int32))) (F_value_a1 : Fld Z h0 a1 "java/lang/String" "value" "[B" (.ref tv)) (A_tv : Arv Z h0 tv kt .byte (4 : Int32) (ub2 x1 x2) (.int (0 : Int32))) (h_b1 : HS x1) (h_b2 : LS x2) (h_p : ¬ p3 < (1 : Int32)) :
    MetFree l m_26 (head1 (Jvm.Cond.code m_26 prog_8_method_2_code 6 none :: ws) (rk 4 0 0 59)) (fun a U => a = #[(.ref a1), (.ref a2), (.int p3)] ∧ Z.Warmed39 U.vm ∧ U.heap = h0) (fun _ _ _ _ _ => True) (fun _ U o U' => ∃ v L, o = .returned v ∧ Q9_P1 Z a1 a2 p3 x1 x2 tv vFM zC kt h0 n0 v U'.heap L ∧ FrameEnd U o U' L (rk 4 0 0 59).cells (rk 4 0 0 59).slots) := by
  refine MetFree.of_bodySF (plainFor_of_name pn_5) hisR ?_
  intro p e s m args below meth c s₁ Bd hml0 hP hK
  obtain ⟨rfl, hZ, hh⟩ := hP
  have hx := Bd.exec
  have hby := Bd.bytes
  have hml : c.maxLocals = 6 := hml0
  have hown : s.vm.findClass "com/example/chitragupta/chitragupta/core/Characters" = some m.cls := findClass_of_methodNamed Bd.named
  have X0 : Stand p l e (rk 4 0 0 59) s m #[(.ref a1), (.ref a2), (.int p3)] below meth c s₁ [] 0 0 := Stand.of_body Bd
  have e0 : s₁.heap = h0 := by rw [← hh, Bd.state]; rfl
  have N0 := Fr.nil n0
  have pre0 := own_pre (tb := p.tables) (e := e) (bl := below) (s := s₁) (ef_9_B0 m a1 a2 p3)
  obtain ⟨cq1, kq1, q1a, q1b, q1c⟩ := isOf hZ e0 E_a1
  obtain ⟨_, _, ⟨T1, L1, k1, n1⟩, -, X1, ⟨Lc1, hQ1, l1, y1, z1⟩, st1⟩ := X0.virtualBack hx (y := m_20) (z := m_20) hown (mvT hZ (tw hw 46 rfl)) (mvT hZ (tw hw 47 rfl)) (notFace_of_selects (args := #[]) (mvT hZ (tw hw 49 rfl))) (mvT hZ (tw hw 49 rfl)) (mvT hZ (tw hw 48 rfl)) (by decide) (backOf (W := 1) (rm10_1 l Z a0 hw [] a1 (4 : Int32) (2 : Int32) (ub2 x1 x2) tv zC kt h0 n0 O0 hCS (by decide) sC E_a1 F_coder_a1 F_value_a1 A_tv) hZ (tw hw 50 rfl) (tw hw 6 rfl) (by decide) (by decide)) q1a q1c (g := (mkF m 8 #[Rf a1, Rf a2, It p3, It (0 : Int32), It (0 : Int32), .unset] [(.ref a1), (.int (0 : Int32))])) rfl (by rw [hml]; rfl) (Steps.refl _) (argsL := []) (rest := [(.int (0 : Int32))]) (lenOf pd_16 rfl) rfl (w0 rfl) (hb hby d9_8) (fun _ _ => ⟨rfl, e0, (by decide : 0 + 0 ≤ _), (by decide : 0 + 0 ≤ _)⟩)
  dsimp only [Pt.U, Pt.locs, Pt.cells, Pt.slots] at X1 l1 y1 z1 st1 hQ1
  subst l1 y1 z1
  obtain ⟨rfl, N1q, e1⟩ := hQ1
  have N1 := Fr.app N0 N1q
  obtain ⟨cq2, kq2, q2a, q2b, q2c⟩ := isOf hZ e1 E_a1
  obtain ⟨_, _, ⟨T2, L2, k2, n2⟩, -, X2, ⟨Lc2, hQ2, l2, y2, z2⟩, st2⟩ := X1.virtualBack hx (y := m_25) (z := m_25) hown (mvT hZ (tw hw 56 rfl)) (mvT hZ (tw hw 57 rfl)) (notFace_of_selects (args := #[]) (mvT hZ (tw hw 59 rfl))) (mvT hZ (tw hw 59 rfl)) (mvT hZ (tw hw 58 rfl)) (by decide) (backOf (W := 0) (rm12_P0 l Z a0 hw [] a1 x1 x2 (4 : Int32) (ub2 x1 x2) (2 : Int32) tv vFM zC kt h0 n0 O0 hCS hFM (by decide) (by decide) (by decide) sC sA sH sL sF E_a1 F_coder_a1 F_value_a1 h_b1 h_b2 rfl rfl rfl rfl A_tv) hZ (tw hw 60 rfl) (tw hw 6 rfl) (by decide) (by decide)) q2a q2c (g := (mkF m 17 #[Rf a1, Rf a2, It p3, It (0 : Int32), It (0 : Int32), .unset] [(.int (0 : Int32)), (.ref a1)])) rfl (by rw [hml]; rfl) (Steps.refl _) (argsL := [(.int (0 : Int32))]) (rest := []) (lenOf pd_0 rfl) rfl (w0 rfl) (hb hby d9_17) (fun _ _ => ⟨rfl, e1, (by decide : 0 + 0 ≤ _), (by decide : 0 + 0 ≤ _)⟩)
  dsimp only [Pt.U, Pt.locs, Pt.cells, Pt.slots] at X2 l2 y2 z2 st2 hQ2
  subst l2 y2 z2
  obtain ⟨rfl, N2q, e2⟩ := hQ2
  have N2 := Fr.app N1 N2q
  obtain ⟨r2, hr2⟩ : ∃ z, z = (tcp x1 x2) := ⟨_, rfl⟩
  rw [← hr2] at st2
  obtain ⟨cq3, kq3, q3a, q3b, q3c⟩ := isOf hZ e2 E_a1
  obtain ⟨_, _, ⟨T3, L3, k3, n3⟩, -, X3, ⟨Lc3, hQ3, l3, y3, z3⟩, st3⟩ := X2.virtualBack hx (y := m_25) (z := m_25) hown (mvT hZ (tw hw 56 rfl)) (mvT hZ (tw hw 57 rfl)) (notFace_of_selects (args := #[]) (mvT hZ (tw hw 59 rfl))) (mvT hZ (tw hw 59 rfl)) (mvT hZ (tw hw 58 rfl)) (by decide) (backOf (W := 1) (rm12_P0 l Z a0 hw [] a1 x1 x2 (4 : Int32) (ub2 x1 x2) (2 : Int32) tv vFM zC kt h0 n0 O0 hCS hFM (by decide) (by decide) (by decide) sC sA sH sL sF E_a1 F_coder_a1 F_value_a1 h_b1 h_b2 rfl rfl rfl rfl A_tv) hZ (tw hw 60 rfl) (tw hw 6 rfl) (by decide) (by decide)) q3a q3c (g := (mkF m 100 #[Rf a1, Rf a2, It p3, .val (.int ((0 : Int32) + (1 : Int32))), It (0 : Int32), It r2] [(.int (0 : Int32)), (.ref a1), (.int (0 : Int32))])) rfl (by rw [hml]; rfl) (Steps.refl _) (argsL := [(.int (0 : Int32))]) (rest := [(.int (0 : Int32))]) (lenOf pd_0 rfl) rfl (w0 rfl) (hb hby d9_100) (fun _ _ => ⟨rfl, e2, (by decide : 0 + 0 ≤ _), (by decide : 0 + 0 ≤ _)⟩)
  dsimp only [Pt.U, Pt.locs, Pt.cells, Pt.slots] at X3 l3 y3 z3 st3 hQ3
  subst l3 y3 z3
  obtain ⟨rfl, N3q, e3⟩ := hQ3
  have N3 := Fr.app N2 N3q
  obtain ⟨r3, hr3⟩ : ∃ z, z = (tcp x1 x2) := ⟨_, rfl⟩
  rw [← hr3] at st3
  obtain ⟨_, _, ⟨T4, L4, k4, n4⟩, -, X4, ⟨Lc4, hQ4, l4, y4, z4⟩, st4⟩ := Jvm.LawKit.callS X3 hx (y := m_4) hown (mvT hZ (tw hw 75 rfl)) (mvT hZ (tw hw 76 rfl)) (mvT hZ (tw hw 77 rfl)) (mvT hZ (tw hw 78 rfl)) (by decide) (backOf (W := 1) (rm16 l Z a0 hw [] r3 h0 n0 O0 ) hZ (tw hw 78 rfl) (tw hw 77 rfl) (by decide) (by decide)) (g := (mkF m 103 #[Rf a1, Rf a2, It p3, .val (.int ((0 : Int32) + (1 : Int32))), It (0 : Int32), It r2] [(.int r3), (.int (0 : Int32))])) rfl (by rw [hml]; rfl) (argsL := [(.int r3)]) (rest := [(.int (0 : Int32))]) (lenOf pd_0 rfl) rfl (w0 rfl) (hb hby d9_103) (fun _ _ => ⟨rfl, e3, (by decide : 0 + 0 ≤ _), (by decide : 0 + 0 ≤ _)⟩)
  dsimp only [Pt.U, Pt.locs, Pt.cells, Pt.slots] at X4 l4 y4 z4 st4 hQ4
  subst l4 y4 z4
  obtain ⟨rfl, N4q, e4⟩ := hQ4
  have N4 := Fr.app N3 N4q
  obtain ⟨r4, hr4⟩ : ∃ z, z = (if r3 < (65536 : Int32) then (1 : Int32) else (2 : Int32)) := ⟨_, rfl⟩
  rw [← hr4] at st4
  have hcc4 : r4 = (2 : Int32) := own_cc2 h_b1 h_b2 hr3 hr4
  subst hcc4
  obtain ⟨u5, hu5⟩ : ∃ z, z = ((0 : Int32) + (2 : Int32)) := ⟨_, rfl⟩
  have sg6 : SG p.tables e below (T4.setTop (mkF m 107 #[Rf a1, Rf a2, It p3, .val (.int ((0 : Int32) + (1 : Int32))), It (0 : Int32), It r2] [(.int u5)])) (s₁.setTop (mkF m 0 #[Rf a1, Rf a2, It p3, .unset, .unset, .unset] [])) := by
    intro target kt
    subst hu5
    show Steps _ _ _ (s₁.setTop (mkF m 0 #[Rf a1, Rf a2, It p3, .unset, .unset, .unset] [])) _
    refine XS.iconst X0.here hx rfl (hb hby d9_0) ?_
    refine XS.istoreN X0.here hx rfl (hb hby d9_1) rfl (l' := #[Rf a1, Rf a2, It p3, It (0 : Int32), .unset, .unset]) rfl ?_
    refine XS.iconst X0.here hx rfl (hb hby d9_2) ?_
    refine XS.istore X0.here hx rfl (hb hby d9_3) rfl (l' := #[Rf a1, Rf a2, It p3, It (0 : Int32), It (0 : Int32), .unset]) rfl ?_
    refine XS.iload X0.here hx rfl (hb hby d9_5) rfl ?_
    refine XS.aloadN X0.here hx rfl (hb hby d9_7) rfl rfl ?_
    refine st1.trans ?_
    refine XS.icmpNo X1.here hx rfl (hb hby d9_11) rfl (tlt (by decide : (0 : Int32) < (2 : Int32))).2.1 ?_
    refine XS.aloadN X1.here hx rfl (hb hby d9_14) rfl rfl ?_
    refine XS.iload X1.here hx rfl (hb hby d9_15) rfl ?_
    refine st2.trans ?_
    refine XS.istore X2.here hx rfl (hb hby d9_20) rfl (l' := #[Rf a1, Rf a2, It p3, It (0 : Int32), It (0 : Int32), It r2]) rfl ?_
    refine XS.iinc X2.here hx rfl (hb hby d9_22) rfl (l' := #[Rf a1, Rf a2, It p3, .val (.int ((0 : Int32) + (1 : Int32))), It (0 : Int32), It r2]) rfl ?_
    refine XS.iload X2.here hx rfl (hb hby d9_25) rfl ?_
    refine XS.ifYes X2.here hx rfl (pc0 := 27) (pc' := 45) rfl (hb hby d9_27) rfl ((if0 _ _).trans (feq (own_cp0 h_b1 h_b2 hr2)).2) (by decide) (by decide) ?_
    refine XS.iload X2.here hx rfl (hb hby d9_45) rfl ?_
    refine X2.ldcInt hx hown (mvT hZ (tw hw 74 rfl)) (g := (mkF m 47 #[Rf a1, Rf a2, It p3, .val (.int ((0 : Int32) + (1 : Int32))), It (0 : Int32), It r2] [(.int r2)])) rfl (hb hby d9_47) _ ?_
    refine XS.icmpNo X2.here hx rfl (hb hby d9_49) rfl (flt (own_cp1 h_b1 h_b2 hr2)).1 ?_
    refine XS.iload X2.here hx rfl (hb hby d9_52) rfl ?_
    refine X2.ldcInt hx hown (mvT hZ (tw hw 127 rfl)) (g := (mkF m 54 #[Rf a1, Rf a2, It p3, .val (.int ((0 : Int32) + (1 : Int32))), It (0 : Int32), It r2] [(.int r2)])) rfl (hb hby d9_54) _ ?_
    refine XS.icmpYes X2.here hx rfl (pc0 := 56) (pc' := 95) rfl (hb hby d9_56) rfl (tlt (own_cp2 h_b1 h_b2 hr2)).2.2.1 (by decide) (by decide) ?_
    refine XS.iload X2.here hx rfl (hb hby d9_95) rfl ?_
    refine XS.aloadN X2.here hx rfl (hb hby d9_97) rfl rfl ?_
    refine XS.iload X2.here hx rfl (hb hby d9_98) rfl ?_
    refine st3.trans ?_
    refine st4 _ ?_
    refine XS.iadd X4.here hx rfl (hb hby d9_106) rfl ?_
    exact kt
  have hk_u5 : u5 = (2 : Int32) := by rw [hu5]; decide
  subst hk_u5
  obtain ⟨cq7, kq7, q7a, q7b, q7c⟩ := isOf hZ e4 E_a1
  obtain ⟨_, _, ⟨T7, L7, k7, n7⟩, -, X7, ⟨Lc7, hQ7, l7, y7, z7⟩, st7⟩ := X4.virtualBack hx (y := m_20) (z := m_20) hown (mvT hZ (tw hw 46 rfl)) (mvT hZ (tw hw 47 rfl)) (notFace_of_selects (args := #[]) (mvT hZ (tw hw 49 rfl))) (mvT hZ (tw hw 49 rfl)) (mvT hZ (tw hw 48 rfl)) (by decide) (backOf (W := 1) (rm10_1 l Z a0 hw [] a1 (4 : Int32) (2 : Int32) (ub2 x1 x2) tv zC kt h0 n0 O0 hCS (by decide) sC E_a1 F_coder_a1 F_value_a1 A_tv) hZ (tw hw 50 rfl) (tw hw 6 rfl) (by decide) (by decide)) q7a q7c (g := (mkF m 8 #[Rf a1, Rf a2, It p3, .val (.int ((0 : Int32) + (1 : Int32))), It (2 : Int32), It r2] [(.ref a1), (.int (2 : Int32))])) rfl (by rw [hml]; rfl) (Steps.refl _) (argsL := []) (rest := [(.int (2 : Int32))]) (lenOf pd_16 rfl) rfl (w0 rfl) (hb hby d9_8) (fun _ _ => ⟨rfl, e4, (by decide : 0 + 0 ≤ _), (by decide : 0 + 0 ≤ _)⟩)
  dsimp only [Pt.U, Pt.locs, Pt.cells, Pt.slots] at X7 l7 y7 z7 st7 hQ7
  subst l7 y7 z7
  obtain ⟨rfl, N7q, e7⟩ := hQ7
  have N7 := Fr.app N4 N7q
  have sg8 : SG p.tables e below (T7.setTop (mkF m 137 #[Rf a1, Rf a2, It p3, .val (.int ((0 : Int32) + (1 : Int32))), It (2 : Int32), It r2] [])) (T4.setTop (mkF m 107 #[Rf a1, Rf a2, It p3, .val (.int ((0 : Int32) + (1 : Int32))), It (0 : Int32), It r2] [(.int (2 : Int32))])) := by
    intro target kt
    show Steps _ _ _ (T4.setTop (mkF m 107 #[Rf a1, Rf a2, It p3, .val (.int ((0 : Int32) + (1 : Int32))), It (0 : Int32), It r2] [(.int (2 : Int32))])) _
    refine XS.istore X4.here hx rfl (hb hby d9_107) rfl (l' := #[Rf a1, Rf a2, It p3, .val (.int ((0 : Int32) + (1 : Int32))), It (2 : Int32), It r2]) rfl ?_
    refine XS.goto X4.here hx rfl (pc0 := 109) (pc' := 5) rfl (hb hby d9_109) (by decide) (by decide) ?_
    refine XS.iload X4.here hx rfl (hb hby d9_5) rfl ?_
    refine XS.aloadN X4.here hx rfl (hb hby d9_7) rfl rfl ?_
    refine st7.trans ?_
    refine XS.icmpYes X7.here hx rfl (pc0 := 11) (pc' := 112) rfl (hb hby d9_11) rfl (flt (by decide : ¬ ((2 : Int32) < (2 : Int32)))).2.1 (by decide) (by decide) ?_
    refine XS.iloadN X7.here hx rfl (hb hby d9_112) rfl ?_
    refine XS.ifNo X7.here hx rfl (hb hby d9_113) rfl ((if0 _ _).trans (feq (by decide : ¬ (((0 : Int32) + (1 : Int32)) = (0 : Int32)))).1) ?_
    refine XS.iloadN X7.here hx rfl (hb hby d9_116) rfl ?_
    refine XS.iloadN X7.here hx rfl (hb hby d9_117) rfl ?_
    refine XS.icmpYes X7.here hx rfl (pc0 := 118) (pc' := 137) rfl (hb hby d9_118) rfl (flt (own_cnt h_p (by decide))).2.2.2 (by decide) (by decide) ?_
    exact kt
  obtain ⟨fs, hr, hrun, hended, hW, hsame⟩ := X7.leave (v := none) (fun _ => rfl)
  refine ⟨_, _, pre0 _ (sg6 _ (sg8 _ (?_))), hrun, hended, _, _, rfl, ?_, ⟨_, rfl⟩, hW, hsame.mono (by decide) (by decide)⟩
  · show Steps _ _ _ (T7.setTop (mkF m 137 #[Rf a1, Rf a2, It p3, .val (.int ((0 : Int32) + (1 : Int32))), It (2 : Int32), It r2] [])) _
    exact X7.returnOut hx Bd.returns (hb hby d9_137) hr
  · show Q9_P1 Z a1 a2 p3 x1 x2 tv vFM zC kt h0 n0 _ T7.heap _
    rw [e7]
    exact ⟨rfl, N7, rfl⟩
def Q9_PB1 (Z : State) (a1 : Addr) (a2 : Addr) (p3 : Int32) (x1 : Int32) (x2 : Int32) (x3 : Int32) (tv : Addr) (vFM : Value) (zC : Int32) (kt : ClassId) (h0 : Heap) (n0 : Nat) (v : Option Value) (h : Heap) (L : List Loc) : Prop := v = none ∧ Fr n0 L ∧ h = h0
theorem rm9_PB1 (l : Launch) (Z : State) (a0 : Array Value) (hw : ∀ d ∈ tables_1, d.before a0 Z = true) (ws : List Jvm.Cond) (a1 : Addr) (a2 : Addr) (p3 : Int32) (x1 : Int32) (x2 : Int32) (x3 : Int32) (tv : Addr) (vFM : Value) (zC : Int32) (kt : ClassId) (h0 : Heap) (n0 : Nat) (O0 : Old Z n0 h0) (hCS : ¬ zC = 0) (hFM : vFM.isRef = true) (sC : TS_3 Z zC) (sA : TS_0 Z) (sH : TS_1 Z) (sL : TS_2 Z) (sF : TS_6 Z vFM) (E_a1 : Exa Z h0 a1 "java/lang/String") (F_coder_a1 : Fld Z h0 a1 "java/lang/String" "coder" "B" (.int (1 : Int32))) (F_value_a1 : Fld Z h0 a1 "java/lang/String" "value" "[B" (.ref tv)) (A_tv : Arv Z h0 tv kt .byte (6 : Int32) (ub3 x1 x2 x3) (.int (0 : Int32))) (h_b1 : HS x1) (h_b2 : LS x2) (h_b3 : BM x3) (h_p : ¬ p3 < (2 : Int32)) :
    MetFree l m_26 (head1 (Jvm.Cond.code m_26 prog_8_method_2_code 6 none :: ws) (rk 4 0 0 59)) (fun a U => a = #[(.ref a1), (.ref a2), (.int p3)] ∧ Z.Warmed39 U.vm ∧ U.heap = h0) (fun _ _ _ _ _ => True) (fun _ U o U' => ∃ v L, o = .returned v ∧ Q9_PB1 Z a1 a2 p3 x1 x2 x3 tv vFM zC kt h0 n0 v U'.heap L ∧ FrameEnd U o U' L (rk 4 0 0 59).cells (rk 4 0 0 59).slots) := by
  refine MetFree.of_bodySF (plainFor_of_name pn_5) hisR ?_
  intro p e s m args below meth c s₁ Bd hml0 hP hK
  obtain ⟨rfl, hZ, hh⟩ := hP
  have hx := Bd.exec
  have hby := Bd.bytes
  have hml : c.maxLocals = 6 := hml0
  have hown : s.vm.findClass "com/example/chitragupta/chitragupta/core/Characters" = some m.cls := findClass_of_methodNamed Bd.named
  have X0 : Stand p l e (rk 4 0 0 59) s m #[(.ref a1), (.ref a2), (.int p3)] below meth c s₁ [] 0 0 := Stand.of_body Bd
  have e0 : s₁.heap = h0 := by rw [← hh, Bd.state]; rfl
  have N0 := Fr.nil n0
  have pre0 := own_pre (tb := p.tables) (e := e) (bl := below) (s := s₁) (ef_9_B0 m a1 a2 p3)
  obtain ⟨cq1, kq1, q1a, q1b, q1c⟩ := isOf hZ e0 E_a1
  obtain ⟨_, _, ⟨T1, L1, k1, n1⟩, -, X1, ⟨Lc1, hQ1, l1, y1, z1⟩, st1⟩ := X0.virtualBack hx (y := m_20) (z := m_20) hown (mvT hZ (tw hw 46 rfl)) (mvT hZ (tw hw 47 rfl)) (notFace_of_selects (args := #[]) (mvT hZ (tw hw 49 rfl))) (mvT hZ (tw hw 49 rfl)) (mvT hZ (tw hw 48 rfl)) (by decide) (backOf (W := 1) (rm10_1 l Z a0 hw [] a1 (6 : Int32) (3 : Int32) (ub3 x1 x2 x3) tv zC kt h0 n0 O0 hCS (by decide) sC E_a1 F_coder_a1 F_value_a1 A_tv) hZ (tw hw 50 rfl) (tw hw 6 rfl) (by decide) (by decide)) q1a q1c (g := (mkF m 8 #[Rf a1, Rf a2, It p3, It (0 : Int32), It (0 : Int32), .unset] [(.ref a1), (.int (0 : Int32))])) rfl (by rw [hml]; rfl) (Steps.refl _) (argsL := []) (rest := [(.int (0 : Int32))]) (lenOf pd_16 rfl) rfl (w0 rfl) (hb hby d9_8) (fun _ _ => ⟨rfl, e0, (by decide : 0 + 0 ≤ _), (by decide : 0 + 0 ≤ _)⟩)
  dsimp only [Pt.U, Pt.locs, Pt.cells, Pt.slots] at X1 l1 y1 z1 st1 hQ1
  subst l1 y1 z1
  obtain ⟨rfl, N1q, e1⟩ := hQ1
  have N1 := Fr.app N0 N1q
  obtain ⟨cq2, kq2, q2a, q2b, q2c⟩ := isOf hZ e1 E_a1
  obtain ⟨_, _, ⟨T2, L2, k2, n2⟩, -, X2, ⟨Lc2, hQ2, l2, y2, z2⟩, st2⟩ := X1.virtualBack hx (y := m_25) (z := m_25) hown (mvT hZ (tw hw 56 rfl)) (mvT hZ (tw hw 57 rfl)) (notFace_of_selects (args := #[]) (mvT hZ (tw hw 59 rfl))) (mvT hZ (tw hw 59 rfl)) (mvT hZ (tw hw 58 rfl)) (by decide) (backOf (W := 0) (rm12_P0 l Z a0 hw [] a1 x1 x2 (6 : Int32) (ub3 x1 x2 x3) (3 : Int32) tv vFM zC kt h0 n0 O0 hCS hFM (by decide) (by decide) (by decide) sC sA sH sL sF E_a1 F_coder_a1 F_value_a1 h_b1 h_b2 rfl rfl rfl rfl A_tv) hZ (tw hw 60 rfl) (tw hw 6 rfl) (by decide) (by decide)) q2a q2c (g := (mkF m 17 #[Rf a1, Rf a2, It p3, It (0 : Int32), It (0 : Int32), .unset] [(.int (0 : Int32)), (.ref a1)])) rfl (by rw [hml]; rfl) (Steps.refl _) (argsL := [(.int (0 : Int32))]) (rest := []) (lenOf pd_0 rfl) rfl (w0 rfl) (hb hby d9_17) (fun _ _ => ⟨rfl, e1, (by decide : 0 + 0 ≤ _), (by decide : 0 + 0 ≤ _)⟩)
  dsimp only [Pt.U, Pt.locs, Pt.cells, Pt.slots] at X2 l2 y2 z2 st2 hQ2
  subst l2 y2 z2
  obtain ⟨rfl, N2q, e2⟩ := hQ2
  have N2 := Fr.app N1 N2q
  obtain ⟨r2, hr2⟩ : ∃ z, z = (tcp x1 x2) := ⟨_, rfl⟩
  rw [← hr2] at st2
  have sg3 : SG p.tables e below (T2.setTop (mkF m 45 #[Rf a1, Rf a2, It p3, .val (.int ((0 : Int32) + (1 : Int32))), It (0 : Int32), It r2] [])) (s₁.setTop (mkF m 0 #[Rf a1, Rf a2, It p3, .unset, .unset, .unset] [])) := by
    intro target kt
    show Steps _ _ _ (s₁.setTop (mkF m 0 #[Rf a1, Rf a2, It p3, .unset, .unset, .unset] [])) _
    refine XS.iconst X0.here hx rfl (hb hby d9_0) ?_
    refine XS.istoreN X0.here hx rfl (hb hby d9_1) rfl (l' := #[Rf a1, Rf a2, It p3, It (0 : Int32), .unset, .unset]) rfl ?_
    refine XS.iconst X0.here hx rfl (hb hby d9_2) ?_
    refine XS.istore X0.here hx rfl (hb hby d9_3) rfl (l' := #[Rf a1, Rf a2, It p3, It (0 : Int32), It (0 : Int32), .unset]) rfl ?_
    refine XS.iload X0.here hx rfl (hb hby d9_5) rfl ?_
    refine XS.aloadN X0.here hx rfl (hb hby d9_7) rfl rfl ?_
    refine st1.trans ?_
    refine XS.icmpNo X1.here hx rfl (hb hby d9_11) rfl (tlt (by decide : (0 : Int32) < (3 : Int32))).2.1 ?_
    refine XS.aloadN X1.here hx rfl (hb hby d9_14) rfl rfl ?_
    refine XS.iload X1.here hx rfl (hb hby d9_15) rfl ?_
    refine st2.trans ?_
    refine XS.istore X2.here hx rfl (hb hby d9_20) rfl (l' := #[Rf a1, Rf a2, It p3, It (0 : Int32), It (0 : Int32), It r2]) rfl ?_
    refine XS.iinc X2.here hx rfl (hb hby d9_22) rfl (l' := #[Rf a1, Rf a2, It p3, .val (.int ((0 : Int32) + (1 : Int32))), It (0 : Int32), It r2]) rfl ?_
    refine XS.iload X2.here hx rfl (hb hby d9_25) rfl ?_
    refine XS.ifYes X2.here hx rfl (pc0 := 27) (pc' := 45) rfl (hb hby d9_27) rfl ((if0 _ _).trans (feq (own_cp0 h_b1 h_b2 hr2)).2) (by decide) (by decide) ?_
    exact kt
  obtain ⟨T5, L5, X5, e5, N5, sg5⟩ : ∃ (T' : State) (L' : List Loc), Stand p l e (rk 4 0 0 59) s m #[(.ref a1), (.ref a2), (.int p3)] below meth c T' L' 0 0 ∧ T'.heap = h0 ∧ Fr n0 L' ∧ ∀ target, Steps p.tables e below (T'.setTop (mkF m 95 #[Rf a1, Rf a2, It p3, .val (.int ((0 : Int32) + (1 : Int32))), It (0 : Int32), It r2] [])) target → Steps p.tables e below (T2.setTop (mkF m 45 #[Rf a1, Rf a2, It p3, .val (.int ((0 : Int32) + (1 : Int32))), It (0 : Int32), It r2] [])) target := by
    have sg4 : SG p.tables e below (T2.setTop (mkF m 95 #[Rf a1, Rf a2, It p3, .val (.int ((0 : Int32) + (1 : Int32))), It (0 : Int32), It r2] [])) (T2.setTop (mkF m 45 #[Rf a1, Rf a2, It p3, .val (.int ((0 : Int32) + (1 : Int32))), It (0 : Int32), It r2] [])) := by
      intro target kt
      show Steps _ _ _ (T2.setTop (mkF m 45 #[Rf a1, Rf a2, It p3, .val (.int ((0 : Int32) + (1 : Int32))), It (0 : Int32), It r2] [])) _
      refine XS.iload X2.here hx rfl (hb hby d9_45) rfl ?_
      refine X2.ldcInt hx hown (mvT hZ (tw hw 74 rfl)) (g := (mkF m 47 #[Rf a1, Rf a2, It p3, .val (.int ((0 : Int32) + (1 : Int32))), It (0 : Int32), It r2] [(.int r2)])) rfl (hb hby d9_47) _ ?_
      refine XS.icmpNo X2.here hx rfl (hb hby d9_49) rfl (flt (own_cp1 h_b1 h_b2 hr2)).1 ?_
      refine XS.iload X2.here hx rfl (hb hby d9_52) rfl ?_
      refine X2.ldcInt hx hown (mvT hZ (tw hw 127 rfl)) (g := (mkF m 54 #[Rf a1, Rf a2, It p3, .val (.int ((0 : Int32) + (1 : Int32))), It (0 : Int32), It r2] [(.int r2)])) rfl (hb hby d9_54) _ ?_
      refine XS.icmpYes X2.here hx rfl (pc0 := 56) (pc' := 95) rfl (hb hby d9_56) rfl (tlt (own_cp2 h_b1 h_b2 hr2)).2.2.1 (by decide) (by decide) ?_
      exact kt
    exact ⟨T2, _, X2.mono (by decide) (by decide), e2, N2, fun target kt => sg4 _ (kt)⟩
  obtain ⟨cq6, kq6, q6a, q6b, q6c⟩ := isOf hZ e5 E_a1
  obtain ⟨_, _, ⟨T6, L6, k6, n6⟩, -, X6, ⟨Lc6, hQ6, l6, y6, z6⟩, st6⟩ := X5.virtualBack hx (y := m_25) (z := m_25) hown (mvT hZ (tw hw 56 rfl)) (mvT hZ (tw hw 57 rfl)) (notFace_of_selects (args := #[]) (mvT hZ (tw hw 59 rfl))) (mvT hZ (tw hw 59 rfl)) (mvT hZ (tw hw 58 rfl)) (by decide) (backOf (W := 1) (rm12_P0 l Z a0 hw [] a1 x1 x2 (6 : Int32) (ub3 x1 x2 x3) (3 : Int32) tv vFM zC kt h0 n0 O0 hCS hFM (by decide) (by decide) (by decide) sC sA sH sL sF E_a1 F_coder_a1 F_value_a1 h_b1 h_b2 rfl rfl rfl rfl A_tv) hZ (tw hw 60 rfl) (tw hw 6 rfl) (by decide) (by decide)) q6a q6c (g := (mkF m 100 #[Rf a1, Rf a2, It p3, .val (.int ((0 : Int32) + (1 : Int32))), It (0 : Int32), It r2] [(.int (0 : Int32)), (.ref a1), (.int (0 : Int32))])) rfl (by rw [hml]; rfl) (Steps.refl _) (argsL := [(.int (0 : Int32))]) (rest := [(.int (0 : Int32))]) (lenOf pd_0 rfl) rfl (w0 rfl) (hb hby d9_100) (fun _ _ => ⟨rfl, e5, (by decide : 0 + 0 ≤ _), (by decide : 0 + 0 ≤ _)⟩)
  dsimp only [Pt.U, Pt.locs, Pt.cells, Pt.slots] at X6 l6 y6 z6 st6 hQ6
  subst l6 y6 z6
  obtain ⟨rfl, N6q, e6⟩ := hQ6
  have N6 := Fr.app N5 N6q
  obtain ⟨r6, hr6⟩ : ∃ z, z = (tcp x1 x2) := ⟨_, rfl⟩
  rw [← hr6] at st6
  obtain ⟨_, _, ⟨T7, L7, k7, n7⟩, -, X7, ⟨Lc7, hQ7, l7, y7, z7⟩, st7⟩ := Jvm.LawKit.callS X6 hx (y := m_4) hown (mvT hZ (tw hw 75 rfl)) (mvT hZ (tw hw 76 rfl)) (mvT hZ (tw hw 77 rfl)) (mvT hZ (tw hw 78 rfl)) (by decide) (backOf (W := 1) (rm16 l Z a0 hw [] r6 h0 n0 O0 ) hZ (tw hw 78 rfl) (tw hw 77 rfl) (by decide) (by decide)) (g := (mkF m 103 #[Rf a1, Rf a2, It p3, .val (.int ((0 : Int32) + (1 : Int32))), It (0 : Int32), It r2] [(.int r6), (.int (0 : Int32))])) rfl (by rw [hml]; rfl) (argsL := [(.int r6)]) (rest := [(.int (0 : Int32))]) (lenOf pd_0 rfl) rfl (w0 rfl) (hb hby d9_103) (fun _ _ => ⟨rfl, e6, (by decide : 0 + 0 ≤ _), (by decide : 0 + 0 ≤ _)⟩)
  dsimp only [Pt.U, Pt.locs, Pt.cells, Pt.slots] at X7 l7 y7 z7 st7 hQ7
  subst l7 y7 z7
  obtain ⟨rfl, N7q, e7⟩ := hQ7
  have N7 := Fr.app N6 N7q
  obtain ⟨r7, hr7⟩ : ∃ z, z = (if r6 < (65536 : Int32) then (1 : Int32) else (2 : Int32)) := ⟨_, rfl⟩
  rw [← hr7] at st7
  have hcc7 : r7 = (2 : Int32) := own_cc2 h_b1 h_b2 hr6 hr7
  subst hcc7
  obtain ⟨u8, hu8⟩ : ∃ z, z = ((0 : Int32) + (2 : Int32)) := ⟨_, rfl⟩
  have sg9 : SG p.tables e below (T7.setTop (mkF m 107 #[Rf a1, Rf a2, It p3, .val (.int ((0 : Int32) + (1 : Int32))), It (0 : Int32), It r2] [(.int u8)])) (T5.setTop (mkF m 95 #[Rf a1, Rf a2, It p3, .val (.int ((0 : Int32) + (1 : Int32))), It (0 : Int32), It r2] [])) := by
    intro target kt
    subst hu8
    show Steps _ _ _ (T5.setTop (mkF m 95 #[Rf a1, Rf a2, It p3, .val (.int ((0 : Int32) + (1 : Int32))), It (0 : Int32), It r2] [])) _
    refine XS.iload X5.here hx rfl (hb hby d9_95) rfl ?_
    refine XS.aloadN X5.here hx rfl (hb hby d9_97) rfl rfl ?_
    refine XS.iload X5.here hx rfl (hb hby d9_98) rfl ?_
    refine st6.trans ?_
    refine st7 _ ?_
    refine XS.iadd X7.here hx rfl (hb hby d9_106) rfl ?_
    exact kt
  have hk_u8 : u8 = (2 : Int32) := by rw [hu8]; decide
  subst hk_u8
  obtain ⟨cq10, kq10, q10a, q10b, q10c⟩ := isOf hZ e7 E_a1
  obtain ⟨_, _, ⟨T10, L10, k10, n10⟩, -, X10, ⟨Lc10, hQ10, l10, y10, z10⟩, st10⟩ := X7.virtualBack hx (y := m_20) (z := m_20) hown (mvT hZ (tw hw 46 rfl)) (mvT hZ (tw hw 47 rfl)) (notFace_of_selects (args := #[]) (mvT hZ (tw hw 49 rfl))) (mvT hZ (tw hw 49 rfl)) (mvT hZ (tw hw 48 rfl)) (by decide) (backOf (W := 1) (rm10_1 l Z a0 hw [] a1 (6 : Int32) (3 : Int32) (ub3 x1 x2 x3) tv zC kt h0 n0 O0 hCS (by decide) sC E_a1 F_coder_a1 F_value_a1 A_tv) hZ (tw hw 50 rfl) (tw hw 6 rfl) (by decide) (by decide)) q10a q10c (g := (mkF m 8 #[Rf a1, Rf a2, It p3, .val (.int ((0 : Int32) + (1 : Int32))), It (2 : Int32), It r2] [(.ref a1), (.int (2 : Int32))])) rfl (by rw [hml]; rfl) (Steps.refl _) (argsL := []) (rest := [(.int (2 : Int32))]) (lenOf pd_16 rfl) rfl (w0 rfl) (hb hby d9_8) (fun _ _ => ⟨rfl, e7, (by decide : 0 + 0 ≤ _), (by decide : 0 + 0 ≤ _)⟩)
  dsimp only [Pt.U, Pt.locs, Pt.cells, Pt.slots] at X10 l10 y10 z10 st10 hQ10
  subst l10 y10 z10
  obtain ⟨rfl, N10q, e10⟩ := hQ10
  have N10 := Fr.app N7 N10q
  obtain ⟨cq11, kq11, q11a, q11b, q11c⟩ := isOf hZ e10 E_a1
  obtain ⟨_, _, ⟨T11, L11, k11, n11⟩, -, X11, ⟨Lc11, hQ11, l11, y11, z11⟩, st11⟩ := X10.virtualBack hx (y := m_25) (z := m_25) hown (mvT hZ (tw hw 56 rfl)) (mvT hZ (tw hw 57 rfl)) (notFace_of_selects (args := #[]) (mvT hZ (tw hw 59 rfl))) (mvT hZ (tw hw 59 rfl)) (mvT hZ (tw hw 58 rfl)) (by decide) (backOf (W := 0) (rm12_B2 l Z a0 hw [] a1 x3 (6 : Int32) (ub3 x1 x2 x3) (3 : Int32) tv vFM zC kt h0 n0 O0 hCS hFM (by decide) (by decide) (by decide) sC sA sH sL sF E_a1 F_coder_a1 F_value_a1 h_b3 rfl rfl A_tv) hZ (tw hw 60 rfl) (tw hw 6 rfl) (by decide) (by decide)) q11a q11c (g := (mkF m 17 #[Rf a1, Rf a2, It p3, .val (.int ((0 : Int32) + (1 : Int32))), It (2 : Int32), It r2] [(.int (2 : Int32)), (.ref a1)])) rfl (by rw [hml]; rfl) (Steps.refl _) (argsL := [(.int (2 : Int32))]) (rest := []) (lenOf pd_0 rfl) rfl (w0 rfl) (hb hby d9_17) (fun _ _ => ⟨rfl, e10, (by decide : 0 + 0 ≤ _), (by decide : 0 + 0 ≤ _)⟩)
  dsimp only [Pt.U, Pt.locs, Pt.cells, Pt.slots] at X11 l11 y11 z11 st11 hQ11
  subst l11 y11 z11
  obtain ⟨rfl, N11q, e11⟩ := hQ11
  have N11 := Fr.app N10 N11q
  have sg12 : SG p.tables e below (T11.setTop (mkF m 45 #[Rf a1, Rf a2, It p3, .val (.int (((0 : Int32) + (1 : Int32)) + (1 : Int32))), It (2 : Int32), It x3] [])) (T7.setTop (mkF m 107 #[Rf a1, Rf a2, It p3, .val (.int ((0 : Int32) + (1 : Int32))), It (0 : Int32), It r2] [(.int (2 : Int32))])) := by
    intro target kt
    show Steps _ _ _ (T7.setTop (mkF m 107 #[Rf a1, Rf a2, It p3, .val (.int ((0 : Int32) + (1 : Int32))), It (0 : Int32), It r2] [(.int (2 : Int32))])) _
    refine XS.istore X7.here hx rfl (hb hby d9_107) rfl (l' := #[Rf a1, Rf a2, It p3, .val (.int ((0 : Int32) + (1 : Int32))), It (2 : Int32), It r2]) rfl ?_
    refine XS.goto X7.here hx rfl (pc0 := 109) (pc' := 5) rfl (hb hby d9_109) (by decide) (by decide) ?_
    refine XS.iload X7.here hx rfl (hb hby d9_5) rfl ?_
    refine XS.aloadN X7.here hx rfl (hb hby d9_7) rfl rfl ?_
    refine st10.trans ?_
    refine XS.icmpNo X10.here hx rfl (hb hby d9_11) rfl (tlt (by decide : (2 : Int32) < (3 : Int32))).2.1 ?_
    refine XS.aloadN X10.here hx rfl (hb hby d9_14) rfl rfl ?_
    refine XS.iload X10.here hx rfl (hb hby d9_15) rfl ?_
    refine st11.trans ?_
    refine XS.istore X11.here hx rfl (hb hby d9_20) rfl (l' := #[Rf a1, Rf a2, It p3, .val (.int ((0 : Int32) + (1 : Int32))), It (2 : Int32), It x3]) rfl ?_
    refine XS.iinc X11.here hx rfl (hb hby d9_22) rfl (l' := #[Rf a1, Rf a2, It p3, .val (.int (((0 : Int32) + (1 : Int32)) + (1 : Int32))), It (2 : Int32), It x3]) rfl ?_
    refine XS.iload X11.here hx rfl (hb hby d9_25) rfl ?_
    refine XS.ifYes X11.here hx rfl (pc0 := 27) (pc' := 45) rfl (hb hby d9_27) rfl ((if0 _ _).trans (feq h_b3.2.1).2) (by decide) (by decide) ?_
    exact kt
  obtain ⟨T17, L17, X17, e17, N17, sg17⟩ : ∃ (T' : State) (L' : List Loc), Stand p l e (rk 4 0 0 59) s m #[(.ref a1), (.ref a2), (.int p3)] below meth c T' L' 0 0 ∧ T'.heap = h0 ∧ Fr n0 L' ∧ ∀ target, Steps p.tables e below (T'.setTop (mkF m 95 #[Rf a1, Rf a2, It p3, .val (.int (((0 : Int32) + (1 : Int32)) + (1 : Int32))), It (2 : Int32), It x3] [])) target → Steps p.tables e below (T11.setTop (mkF m 45 #[Rf a1, Rf a2, It p3, .val (.int (((0 : Int32) + (1 : Int32)) + (1 : Int32))), It (2 : Int32), It x3] [])) target := by
    have sg13 : SG p.tables e below (T11.setTop (mkF m 49 #[Rf a1, Rf a2, It p3, .val (.int (((0 : Int32) + (1 : Int32)) + (1 : Int32))), It (2 : Int32), It x3] [(.int (55296 : Int32)), (.int x3)])) (T11.setTop (mkF m 45 #[Rf a1, Rf a2, It p3, .val (.int (((0 : Int32) + (1 : Int32)) + (1 : Int32))), It (2 : Int32), It x3] [])) := by
      intro target kt
      show Steps _ _ _ (T11.setTop (mkF m 45 #[Rf a1, Rf a2, It p3, .val (.int (((0 : Int32) + (1 : Int32)) + (1 : Int32))), It (2 : Int32), It x3] [])) _
      refine XS.iload X11.here hx rfl (hb hby d9_45) rfl ?_
      refine X11.ldcInt hx hown (mvT hZ (tw hw 74 rfl)) (g := (mkF m 47 #[Rf a1, Rf a2, It p3, .val (.int (((0 : Int32) + (1 : Int32)) + (1 : Int32))), It (2 : Int32), It x3] [(.int x3)])) rfl (hb hby d9_47) _ ?_
      exact kt
    by_cases hc14 : x3 < (55296 : Int32)
    · have sg15 : SG p.tables e below (T11.setTop (mkF m 95 #[Rf a1, Rf a2, It p3, .val (.int (((0 : Int32) + (1 : Int32)) + (1 : Int32))), It (2 : Int32), It x3] [])) (T11.setTop (mkF m 49 #[Rf a1, Rf a2, It p3, .val (.int (((0 : Int32) + (1 : Int32)) + (1 : Int32))), It (2 : Int32), It x3] [(.int (55296 : Int32)), (.int x3)])) := by
        intro target kt
        show Steps _ _ _ (T11.setTop (mkF m 49 #[Rf a1, Rf a2, It p3, .val (.int (((0 : Int32) + (1 : Int32)) + (1 : Int32))), It (2 : Int32), It x3] [(.int (55296 : Int32)), (.int x3)])) _
        refine XS.icmpYes X11.here hx rfl (pc0 := 49) (pc' := 95) rfl (hb hby d9_49) rfl (tlt hc14).1 (by decide) (by decide) ?_
        exact kt
      exact ⟨T11, _, X11.mono (by decide) (by decide), e11, N11, fun target kt => sg13 _ (sg15 _ (kt))⟩
    · have sg16 : SG p.tables e below (T11.setTop (mkF m 95 #[Rf a1, Rf a2, It p3, .val (.int (((0 : Int32) + (1 : Int32)) + (1 : Int32))), It (2 : Int32), It x3] [])) (T11.setTop (mkF m 49 #[Rf a1, Rf a2, It p3, .val (.int (((0 : Int32) + (1 : Int32)) + (1 : Int32))), It (2 : Int32), It x3] [(.int (55296 : Int32)), (.int x3)])) := by
        intro target kt
        show Steps _ _ _ (T11.setTop (mkF m 49 #[Rf a1, Rf a2, It p3, .val (.int (((0 : Int32) + (1 : Int32)) + (1 : Int32))), It (2 : Int32), It x3] [(.int (55296 : Int32)), (.int x3)])) _
        refine XS.icmpNo X11.here hx rfl (hb hby d9_49) rfl (flt hc14).1 ?_
        refine XS.iload X11.here hx rfl (hb hby d9_52) rfl ?_
        refine X11.ldcInt hx hown (mvT hZ (tw hw 127 rfl)) (g := (mkF m 54 #[Rf a1, Rf a2, It p3, .val (.int (((0 : Int32) + (1 : Int32)) + (1 : Int32))), It (2 : Int32), It x3] [(.int x3)])) rfl (hb hby d9_54) _ ?_
        refine XS.icmpYes X11.here hx rfl (pc0 := 56) (pc' := 95) rfl (hb hby d9_56) rfl (tlt (h_b3.2.2.resolve_left hc14)).2.2.1 (by decide) (by decide) ?_
        exact kt
      exact ⟨T11, _, X11.mono (by decide) (by decide), e11, N11, fun target kt => sg13 _ (sg16 _ (kt))⟩
  obtain ⟨cq18, kq18, q18a, q18b, q18c⟩ := isOf hZ e17 E_a1
  obtain ⟨_, _, ⟨T18, L18, k18, n18⟩, -, X18, ⟨Lc18, hQ18, l18, y18, z18⟩, st18⟩ := X17.virtualBack hx (y := m_25) (z := m_25) hown (mvT hZ (tw hw 56 rfl)) (mvT hZ (tw hw 57 rfl)) (notFace_of_selects (args := #[]) (mvT hZ (tw hw 59 rfl))) (mvT hZ (tw hw 59 rfl)) (mvT hZ (tw hw 58 rfl)) (by decide) (backOf (W := 1) (rm12_B2 l Z a0 hw [] a1 x3 (6 : Int32) (ub3 x1 x2 x3) (3 : Int32) tv vFM zC kt h0 n0 O0 hCS hFM (by decide) (by decide) (by decide) sC sA sH sL sF E_a1 F_coder_a1 F_value_a1 h_b3 rfl rfl A_tv) hZ (tw hw 60 rfl) (tw hw 6 rfl) (by decide) (by decide)) q18a q18c (g := (mkF m 100 #[Rf a1, Rf a2, It p3, .val (.int (((0 : Int32) + (1 : Int32)) + (1 : Int32))), It (2 : Int32), It x3] [(.int (2 : Int32)), (.ref a1), (.int (2 : Int32))])) rfl (by rw [hml]; rfl) (Steps.refl _) (argsL := [(.int (2 : Int32))]) (rest := [(.int (2 : Int32))]) (lenOf pd_0 rfl) rfl (w0 rfl) (hb hby d9_100) (fun _ _ => ⟨rfl, e17, (by decide : 0 + 0 ≤ _), (by decide : 0 + 0 ≤ _)⟩)
  dsimp only [Pt.U, Pt.locs, Pt.cells, Pt.slots] at X18 l18 y18 z18 st18 hQ18
  subst l18 y18 z18
  obtain ⟨rfl, N18q, e18⟩ := hQ18
  have N18 := Fr.app N17 N18q
  obtain ⟨_, _, ⟨T19, L19, k19, n19⟩, -, X19, ⟨Lc19, hQ19, l19, y19, z19⟩, st19⟩ := Jvm.LawKit.callS X18 hx (y := m_4) hown (mvT hZ (tw hw 75 rfl)) (mvT hZ (tw hw 76 rfl)) (mvT hZ (tw hw 77 rfl)) (mvT hZ (tw hw 78 rfl)) (by decide) (backOf (W := 1) (rm16 l Z a0 hw [] x3 h0 n0 O0 ) hZ (tw hw 78 rfl) (tw hw 77 rfl) (by decide) (by decide)) (g := (mkF m 103 #[Rf a1, Rf a2, It p3, .val (.int (((0 : Int32) + (1 : Int32)) + (1 : Int32))), It (2 : Int32), It x3] [(.int x3), (.int (2 : Int32))])) rfl (by rw [hml]; rfl) (argsL := [(.int x3)]) (rest := [(.int (2 : Int32))]) (lenOf pd_0 rfl) rfl (w0 rfl) (hb hby d9_103) (fun _ _ => ⟨rfl, e18, (by decide : 0 + 0 ≤ _), (by decide : 0 + 0 ≤ _)⟩)
  dsimp only [Pt.U, Pt.locs, Pt.cells, Pt.slots] at X19 l19 y19 z19 st19 hQ19
  subst l19 y19 z19
  obtain ⟨rfl, N19q, e19⟩ := hQ19
  have N19 := Fr.app N18 N19q
  obtain ⟨r19, hr19⟩ : ∃ z, z = (if x3 < (65536 : Int32) then (1 : Int32) else (2 : Int32)) := ⟨_, rfl⟩
  rw [← hr19] at st19
  have hcc19 : r19 = (1 : Int32) := own_cc1 h_b3 hr19
  subst hcc19
  obtain ⟨u20, hu20⟩ : ∃ z, z = ((2 : Int32) + (1 : Int32)) := ⟨_, rfl⟩
  have sg21 : SG p.tables e below (T19.setTop (mkF m 107 #[Rf a1, Rf a2, It p3, .val (.int (((0 : Int32) + (1 : Int32)) + (1 : Int32))), It (2 : Int32), It x3] [(.int u20)])) (T17.setTop (mkF m 95 #[Rf a1, Rf a2, It p3, .val (.int (((0 : Int32) + (1 : Int32)) + (1 : Int32))), It (2 : Int32), It x3] [])) := by
    intro target kt
    subst hu20
    show Steps _ _ _ (T17.setTop (mkF m 95 #[Rf a1, Rf a2, It p3, .val (.int (((0 : Int32) + (1 : Int32)) + (1 : Int32))), It (2 : Int32), It x3] [])) _
    refine XS.iload X17.here hx rfl (hb hby d9_95) rfl ?_
    refine XS.aloadN X17.here hx rfl (hb hby d9_97) rfl rfl ?_
    refine XS.iload X17.here hx rfl (hb hby d9_98) rfl ?_
    refine st18.trans ?_
    refine st19 _ ?_
    refine XS.iadd X19.here hx rfl (hb hby d9_106) rfl ?_
    exact kt
  have hk_u20 : u20 = (3 : Int32) := by rw [hu20]; decide
  subst hk_u20
  obtain ⟨cq22, kq22, q22a, q22b, q22c⟩ := isOf hZ e19 E_a1
  obtain ⟨_, _, ⟨T22, L22, k22, n22⟩, -, X22, ⟨Lc22, hQ22, l22, y22, z22⟩, st22⟩ := X19.virtualBack hx (y := m_20) (z := m_20) hown (mvT hZ (tw hw 46 rfl)) (mvT hZ (tw hw 47 rfl)) (notFace_of_selects (args := #[]) (mvT hZ (tw hw 49 rfl))) (mvT hZ (tw hw 49 rfl)) (mvT hZ (tw hw 48 rfl)) (by decide) (backOf (W := 1) (rm10_1 l Z a0 hw [] a1 (6 : Int32) (3 : Int32) (ub3 x1 x2 x3) tv zC kt h0 n0 O0 hCS (by decide) sC E_a1 F_coder_a1 F_value_a1 A_tv) hZ (tw hw 50 rfl) (tw hw 6 rfl) (by decide) (by decide)) q22a q22c (g := (mkF m 8 #[Rf a1, Rf a2, It p3, .val (.int (((0 : Int32) + (1 : Int32)) + (1 : Int32))), It (3 : Int32), It x3] [(.ref a1), (.int (3 : Int32))])) rfl (by rw [hml]; rfl) (Steps.refl _) (argsL := []) (rest := [(.int (3 : Int32))]) (lenOf pd_16 rfl) rfl (w0 rfl) (hb hby d9_8) (fun _ _ => ⟨rfl, e19, (by decide : 0 + 0 ≤ _), (by decide : 0 + 0 ≤ _)⟩)
  dsimp only [Pt.U, Pt.locs, Pt.cells, Pt.slots] at X22 l22 y22 z22 st22 hQ22
  subst l22 y22 z22
  obtain ⟨rfl, N22q, e22⟩ := hQ22
  have N22 := Fr.app N19 N22q
  have sg23 : SG p.tables e below (T22.setTop (mkF m 137 #[Rf a1, Rf a2, It p3, .val (.int (((0 : Int32) + (1 : Int32)) + (1 : Int32))), It (3 : Int32), It x3] [])) (T19.setTop (mkF m 107 #[Rf a1, Rf a2, It p3, .val (.int (((0 : Int32) + (1 : Int32)) + (1 : Int32))), It (2 : Int32), It x3] [(.int (3 : Int32))])) := by
    intro target kt
    show Steps _ _ _ (T19.setTop (mkF m 107 #[Rf a1, Rf a2, It p3, .val (.int (((0 : Int32) + (1 : Int32)) + (1 : Int32))), It (2 : Int32), It x3] [(.int (3 : Int32))])) _
    refine XS.istore X19.here hx rfl (hb hby d9_107) rfl (l' := #[Rf a1, Rf a2, It p3, .val (.int (((0 : Int32) + (1 : Int32)) + (1 : Int32))), It (3 : Int32), It x3]) rfl ?_
    refine XS.goto X19.here hx rfl (pc0 := 109) (pc' := 5) rfl (hb hby d9_109) (by decide) (by decide) ?_
    refine XS.iload X19.here hx rfl (hb hby d9_5) rfl ?_
    refine XS.aloadN X19.here hx rfl (hb hby d9_7) rfl rfl ?_
    refine st22.trans ?_
    refine XS.icmpYes X22.here hx rfl (pc0 := 11) (pc' := 112) rfl (hb hby d9_11) rfl (flt (by decide : ¬ ((3 : Int32) < (3 : Int32)))).2.1 (by decide) (by decide) ?_
    refine XS.iloadN X22.here hx rfl (hb hby d9_112) rfl ?_
    refine XS.ifNo X22.here hx rfl (hb hby d9_113) rfl ((if0 _ _).trans (feq (by decide : ¬ ((((0 : Int32) + (1 : Int32)) + (1 : Int32)) = (0 : Int32)))).1) ?_
    refine XS.iloadN X22.here hx rfl (hb hby d9_116) rfl ?_
    refine XS.iloadN X22.here hx rfl (hb hby d9_117) rfl ?_
    refine XS.icmpYes X22.here hx rfl (pc0 := 118) (pc' := 137) rfl (hb hby d9_118) rfl (flt (own_cnt h_p (by decide))).2.2.2 (by decide) (by decide) ?_
    exact kt
  obtain ⟨fs, hr, hrun, hended, hW, hsame⟩ := X22.leave (v := none) (fun _ => rfl)
  refine ⟨_, _, pre0 _ (sg3 _ (sg5 _ (sg9 _ (sg12 _ (sg17 _ (sg21 _ (sg23 _ (?_)))))))), hrun, hended, _, _, rfl, ?_, ⟨_, rfl⟩, hW, hsame.mono (by decide) (by decide)⟩
  · show Steps _ _ _ (T22.setTop (mkF m 137 #[Rf a1, Rf a2, It p3, .val (.int (((0 : Int32) + (1 : Int32)) + (1 : Int32))), It (3 : Int32), It x3] [])) _
    exact X22.returnOut hx Bd.returns (hb hby d9_137) hr
  · show Q9_PB1 Z a1 a2 p3 x1 x2 x3 tv vFM zC kt h0 n0 _ T22.heap _
    rw [e22]
    exact ⟨rfl, N22, rfl⟩
def Q9_BP1 (Z : State) (a1 : Addr) (a2 : Addr) (p3 : Int32) (x1 : Int32) (x2 : Int32) (x3 : Int32) (tv : Addr) (vFM : Value) (zC : Int32) (kt : ClassId) (h0 : Heap) (n0 : Nat) (v : Option Value) (h : Heap) (L : List Loc) : Prop := v = none ∧ Fr n0 L ∧ h = h0
theorem rm9_BP1 (l : Launch) (Z : State) (a0 : Array Value) (hw : ∀ d ∈ tables_1, d.before a0 Z = true) (ws : List Jvm.Cond) (a1 : Addr) (a2 : Addr) (p3 : Int32) (x1 : Int32) (x2 : Int32) (x3 : Int32) (tv : Addr) (vFM : Value) (zC : Int32) (kt : ClassId) (h0 : Heap) (n0 : Nat) (O0 : Old Z n0 h0) (hCS : ¬ zC = 0) (hFM : vFM.isRef = true) (sC : TS_3 Z zC) (sA : TS_0 Z) (sH : TS_1 Z) (sL : TS_2 Z) (sF : TS_6 Z vFM) (E_a1 : Exa Z h0 a1 "java/lang/String") (F_coder_a1 : Fld Z h0 a1 "java/lang/String" "coder" "B" (.int (1 : Int32))) (F_value_a1 : Fld Z h0 a1 "java/lang/String" "value" "[B" (.ref tv)) (A_tv : Arv Z h0 tv kt .byte (6 : Int32) (ub3 x1 x2 x3) (.int (0 : Int32))) (h_b1 : BM x1) (h_b2 : HS x2) (h_b3 : LS x3) (h_p : ¬ p3 < (2 : Int32)) :
    MetFree l m_26 (head1 (Jvm.Cond.code m_26 prog_8_method_2_code 6 none :: ws) (rk 4 0 0 59)) (fun a U => a = #[(.ref a1), (.ref a2), (.int p3)] ∧ Z.Warmed39 U.vm ∧ U.heap = h0) (fun _ _ _ _ _ => True) (fun _ U o U' => ∃ v L, o = .returned v ∧ Q9_BP1 Z a1 a2 p3 x1 x2 x3 tv vFM zC kt h0 n0 v U'.heap L ∧ FrameEnd U o U' L (rk 4 0 0 59).cells (rk 4 0 0 59).slots) := by
  refine MetFree.of_bodySF (plainFor_of_name pn_5) hisR ?_
  intro p e s m args below meth c s₁ Bd hml0 hP hK
  obtain ⟨rfl, hZ, hh⟩ := hP
  have hx := Bd.exec
  have hby := Bd.bytes
  have hml : c.maxLocals = 6 := hml0
  have hown : s.vm.findClass "com/example/chitragupta/chitragupta/core/Characters" = some m.cls := findClass_of_methodNamed Bd.named
  have X0 : Stand p l e (rk 4 0 0 59) s m #[(.ref a1), (.ref a2), (.int p3)] below meth c s₁ [] 0 0 := Stand.of_body Bd
  have e0 : s₁.heap = h0 := by rw [← hh, Bd.state]; rfl
  have N0 := Fr.nil n0
  have pre0 := own_pre (tb := p.tables) (e := e) (bl := below) (s := s₁) (ef_9_B0 m a1 a2 p3)
  obtain ⟨cq1, kq1, q1a, q1b, q1c⟩ := isOf hZ e0 E_a1
  obtain ⟨_, _, ⟨T1, L1, k1, n1⟩, -, X1, ⟨Lc1, hQ1, l1, y1, z1⟩, st1⟩ := X0.virtualBack hx (y := m_20) (z := m_20) hown (mvT hZ (tw hw 46 rfl)) (mvT hZ (tw hw 47 rfl)) (notFace_of_selects (args := #[]) (mvT hZ (tw hw 49 rfl))) (mvT hZ (tw hw 49 rfl)) (mvT hZ (tw hw 48 rfl)) (by decide) (backOf (W := 1) (rm10_1 l Z a0 hw [] a1 (6 : Int32) (3 : Int32) (ub3 x1 x2 x3) tv zC kt h0 n0 O0 hCS (by decide) sC E_a1 F_coder_a1 F_value_a1 A_tv) hZ (tw hw 50 rfl) (tw hw 6 rfl) (by decide) (by decide)) q1a q1c (g := (mkF m 8 #[Rf a1, Rf a2, It p3, It (0 : Int32), It (0 : Int32), .unset] [(.ref a1), (.int (0 : Int32))])) rfl (by rw [hml]; rfl) (Steps.refl _) (argsL := []) (rest := [(.int (0 : Int32))]) (lenOf pd_16 rfl) rfl (w0 rfl) (hb hby d9_8) (fun _ _ => ⟨rfl, e0, (by decide : 0 + 0 ≤ _), (by decide : 0 + 0 ≤ _)⟩)
  dsimp only [Pt.U, Pt.locs, Pt.cells, Pt.slots] at X1 l1 y1 z1 st1 hQ1
  subst l1 y1 z1
  obtain ⟨rfl, N1q, e1⟩ := hQ1
  have N1 := Fr.app N0 N1q
  obtain ⟨cq2, kq2, q2a, q2b, q2c⟩ := isOf hZ e1 E_a1
  obtain ⟨_, _, ⟨T2, L2, k2, n2⟩, -, X2, ⟨Lc2, hQ2, l2, y2, z2⟩, st2⟩ := X1.virtualBack hx (y := m_25) (z := m_25) hown (mvT hZ (tw hw 56 rfl)) (mvT hZ (tw hw 57 rfl)) (notFace_of_selects (args := #[]) (mvT hZ (tw hw 59 rfl))) (mvT hZ (tw hw 59 rfl)) (mvT hZ (tw hw 58 rfl)) (by decide) (backOf (W := 0) (rm12_B0 l Z a0 hw [] a1 x1 (6 : Int32) (ub3 x1 x2 x3) (3 : Int32) tv vFM zC kt h0 n0 O0 hCS hFM (by decide) (by decide) (by decide) sC sA sH sL sF E_a1 F_coder_a1 F_value_a1 h_b1 rfl rfl A_tv) hZ (tw hw 60 rfl) (tw hw 6 rfl) (by decide) (by decide)) q2a q2c (g := (mkF m 17 #[Rf a1, Rf a2, It p3, It (0 : Int32), It (0 : Int32), .unset] [(.int (0 : Int32)), (.ref a1)])) rfl (by rw [hml]; rfl) (Steps.refl _) (argsL := [(.int (0 : Int32))]) (rest := []) (lenOf pd_0 rfl) rfl (w0 rfl) (hb hby d9_17) (fun _ _ => ⟨rfl, e1, (by decide : 0 + 0 ≤ _), (by decide : 0 + 0 ≤ _)⟩)
  dsimp only [Pt.U, Pt.locs, Pt.cells, Pt.slots] at X2 l2 y2 z2 st2 hQ2
  subst l2 y2 z2
  obtain ⟨rfl, N2q, e2⟩ := hQ2
  have N2 := Fr.app N1 N2q
  have sg3 : SG p.tables e below (T2.setTop (mkF m 45 #[Rf a1, Rf a2, It p3, .val (.int ((0 : Int32) + (1 : Int32))), It (0 : Int32), It x1] [])) (s₁.setTop (mkF m 0 #[Rf a1, Rf a2, It p3, .unset, .unset, .unset] [])) := by
    intro target kt
    show Steps _ _ _ (s₁.setTop (mkF m 0 #[Rf a1, Rf a2, It p3, .unset, .unset, .unset] [])) _
    refine XS.iconst X0.here hx rfl (hb hby d9_0) ?_
    refine XS.istoreN X0.here hx rfl (hb hby d9_1) rfl (l' := #[Rf a1, Rf a2, It p3, It (0 : Int32), .unset, .unset]) rfl ?_
    refine XS.iconst X0.here hx rfl (hb hby d9_2) ?_
    refine XS.istore X0.here hx rfl (hb hby d9_3) rfl (l' := #[Rf a1, Rf a2, It p3, It (0 : Int32), It (0 : Int32), .unset]) rfl ?_
    refine XS.iload X0.here hx rfl (hb hby d9_5) rfl ?_
    refine XS.aloadN X0.here hx rfl (hb hby d9_7) rfl rfl ?_
    refine st1.trans ?_
    refine XS.icmpNo X1.here hx rfl (hb hby d9_11) rfl (tlt (by decide : (0 : Int32) < (3 : Int32))).2.1 ?_
    refine XS.aloadN X1.here hx rfl (hb hby d9_14) rfl rfl ?_
    refine XS.iload X1.here hx rfl (hb hby d9_15) rfl ?_
    refine st2.trans ?_
    refine XS.istore X2.here hx rfl (hb hby d9_20) rfl (l' := #[Rf a1, Rf a2, It p3, It (0 : Int32), It (0 : Int32), It x1]) rfl ?_
    refine XS.iinc X2.here hx rfl (hb hby d9_22) rfl (l' := #[Rf a1, Rf a2, It p3, .val (.int ((0 : Int32) + (1 : Int32))), It (0 : Int32), It x1]) rfl ?_
    refine XS.iload X2.here hx rfl (hb hby d9_25) rfl ?_
    refine XS.ifYes X2.here hx rfl (pc0 := 27) (pc' := 45) rfl (hb hby d9_27) rfl ((if0 _ _).trans (feq h_b1.2.1).2) (by decide) (by decide) ?_
    exact kt
  obtain ⟨T8, L8, X8, e8, N8, sg8⟩ : ∃ (T' : State) (L' : List Loc), Stand p l e (rk 4 0 0 59) s m #[(.ref a1), (.ref a2), (.int p3)] below meth c T' L' 0 0 ∧ T'.heap = h0 ∧ Fr n0 L' ∧ ∀ target, Steps p.tables e below (T'.setTop (mkF m 95 #[Rf a1, Rf a2, It p3, .val (.int ((0 : Int32) + (1 : Int32))), It (0 : Int32), It x1] [])) target → Steps p.tables e below (T2.setTop (mkF m 45 #[Rf a1, Rf a2, It p3, .val (.int ((0 : Int32) + (1 : Int32))), It (0 : Int32), It x1] [])) target := by
    have sg4 : SG p.tables e below (T2.setTop (mkF m 49 #[Rf a1, Rf a2, It p3, .val (.int ((0 : Int32) + (1 : Int32))), It (0 : Int32), It x1] [(.int (55296 : Int32)), (.int x1)])) (T2.setTop (mkF m 45 #[Rf a1, Rf a2, It p3, .val (.int ((0 : Int32) + (1 : Int32))), It (0 : Int32), It x1] [])) := by
      intro target kt
      show Steps _ _ _ (T2.setTop (mkF m 45 #[Rf a1, Rf a2, It p3, .val (.int ((0 : Int32) + (1 : Int32))), It (0 : Int32), It x1] [])) _
      refine XS.iload X2.here hx rfl (hb hby d9_45) rfl ?_
      refine X2.ldcInt hx hown (mvT hZ (tw hw 74 rfl)) (g := (mkF m 47 #[Rf a1, Rf a2, It p3, .val (.int ((0 : Int32) + (1 : Int32))), It (0 : Int32), It x1] [(.int x1)])) rfl (hb hby d9_47) _ ?_
      exact kt
    by_cases hc5 : x1 < (55296 : Int32)
    · have sg6 : SG p.tables e below (T2.setTop (mkF m 95 #[Rf a1, Rf a2, It p3, .val (.int ((0 : Int32) + (1 : Int32))), It (0 : Int32), It x1] [])) (T2.setTop (mkF m 49 #[Rf a1, Rf a2, It p3, .val (.int ((0 : Int32) + (1 : Int32))), It (0 : Int32), It x1] [(.int (55296 : Int32)), (.int x1)])) := by
        intro target kt
        show Steps _ _ _ (T2.setTop (mkF m 49 #[Rf a1, Rf a2, It p3, .val (.int ((0 : Int32) + (1 : Int32))), It (0 : Int32), It x1] [(.int (55296 : Int32)), (.int x1)])) _
        refine XS.icmpYes X2.here hx rfl (pc0 := 49) (pc' := 95) rfl (hb hby d9_49) rfl (tlt hc5).1 (by decide) (by decide) ?_
        exact kt
      exact ⟨T2, _, X2.mono (by decide) (by decide), e2, N2, fun target kt => sg4 _ (sg6 _ (kt))⟩
    · have sg7 : SG p.tables e below (T2.setTop (mkF m 95 #[Rf a1, Rf a2, It p3, .val (.int ((0 : Int32) + (1 : Int32))), It (0 : Int32), It x1] [])) (T2.setTop (mkF m 49 #[Rf a1, Rf a2, It p3, .val (.int ((0 : Int32) + (1 : Int32))), It (0 : Int32), It x1] [(.int (55296 : Int32)), (.int x1)])) := by
        intro target kt
        show Steps _ _ _ (T2.setTop (mkF m 49 #[Rf a1, Rf a2, It p3, .val (.int ((0 : Int32) + (1 : Int32))), It (0 : Int32), It x1] [(.int (55296 : Int32)), (.int x1)])) _
        refine XS.icmpNo X2.here hx rfl (hb hby d9_49) rfl (flt hc5).1 ?_
        refine XS.iload X2.here hx rfl (hb hby d9_52) rfl ?_
        refine X2.ldcInt hx hown (mvT hZ (tw hw 127 rfl)) (g := (mkF m 54 #[Rf a1, Rf a2, It p3, .val (.int ((0 : Int32) + (1 : Int32))), It (0 : Int32), It x1] [(.int x1)])) rfl (hb hby d9_54) _ ?_
        refine XS.icmpYes X2.here hx rfl (pc0 := 56) (pc' := 95) rfl (hb hby d9_56) rfl (tlt (h_b1.2.2.resolve_left hc5)).2.2.1 (by decide) (by decide) ?_
        exact kt
      exact ⟨T2, _, X2.mono (by decide) (by decide), e2, N2, fun target kt => sg4 _ (sg7 _ (kt))⟩
  obtain ⟨cq9, kq9, q9a, q9b, q9c⟩ := isOf hZ e8 E_a1
  obtain ⟨_, _, ⟨T9, L9, k9, n9⟩, -, X9, ⟨Lc9, hQ9, l9, y9, z9⟩, st9⟩ := X8.virtualBack hx (y := m_25) (z := m_25) hown (mvT hZ (tw hw 56 rfl)) (mvT hZ (tw hw 57 rfl)) (notFace_of_selects (args := #[]) (mvT hZ (tw hw 59 rfl))) (mvT hZ (tw hw 59 rfl)) (mvT hZ (tw hw 58 rfl)) (by decide) (backOf (W := 1) (rm12_B0 l Z a0 hw [] a1 x1 (6 : Int32) (ub3 x1 x2 x3) (3 : Int32) tv vFM zC kt h0 n0 O0 hCS hFM (by decide) (by decide) (by decide) sC sA sH sL sF E_a1 F_coder_a1 F_value_a1 h_b1 rfl rfl A_tv) hZ (tw hw 60 rfl) (tw hw 6 rfl) (by decide) (by decide)) q9a q9c (g := (mkF m 100 #[Rf a1, Rf a2, It p3, .val (.int ((0 : Int32) + (1 : Int32))), It (0 : Int32), It x1] [(.int (0 : Int32)), (.ref a1), (.int (0 : Int32))])) rfl (by rw [hml]; rfl) (Steps.refl _) (argsL := [(.int (0 : Int32))]) (rest := [(.int (0 : Int32))]) (lenOf pd_0 rfl) rfl (w0 rfl) (hb hby d9_100) (fun _ _ => ⟨rfl, e8, (by decide : 0 + 0 ≤ _), (by decide : 0 + 0 ≤ _)⟩)
  dsimp only [Pt.U, Pt.locs, Pt.cells, Pt.slots] at X9 l9 y9 z9 st9 hQ9
  subst l9 y9 z9
  obtain ⟨rfl, N9q, e9⟩ := hQ9
  have N9 := Fr.app N8 N9q
  obtain ⟨_, _, ⟨T10, L10, k10, n10⟩, -, X10, ⟨Lc10, hQ10, l10, y10, z10⟩, st10⟩ := Jvm.LawKit.callS X9 hx (y := m_4) hown (mvT hZ (tw hw 75 rfl)) (mvT hZ (tw hw 76 rfl)) (mvT hZ (tw hw 77 rfl)) (mvT hZ (tw hw 78 rfl)) (by decide) (backOf (W := 1) (rm16 l Z a0 hw [] x1 h0 n0 O0 ) hZ (tw hw 78 rfl) (tw hw 77 rfl) (by decide) (by decide)) (g := (mkF m 103 #[Rf a1, Rf a2, It p3, .val (.int ((0 : Int32) + (1 : Int32))), It (0 : Int32), It x1] [(.int x1), (.int (0 : Int32))])) rfl (by rw [hml]; rfl) (argsL := [(.int x1)]) (rest := [(.int (0 : Int32))]) (lenOf pd_0 rfl) rfl (w0 rfl) (hb hby d9_103) (fun _ _ => ⟨rfl, e9, (by decide : 0 + 0 ≤ _), (by decide : 0 + 0 ≤ _)⟩)
  dsimp only [Pt.U, Pt.locs, Pt.cells, Pt.slots] at X10 l10 y10 z10 st10 hQ10
  subst l10 y10 z10
  obtain ⟨rfl, N10q, e10⟩ := hQ10
  have N10 := Fr.app N9 N10q
  obtain ⟨r10, hr10⟩ : ∃ z, z = (if x1 < (65536 : Int32) then (1 : Int32) else (2 : Int32)) := ⟨_, rfl⟩
  rw [← hr10] at st10
  have hcc10 : r10 = (1 : Int32) := own_cc1 h_b1 hr10
  subst hcc10
  obtain ⟨u11, hu11⟩ : ∃ z, z = ((0 : Int32) + (1 : Int32)) := ⟨_, rfl⟩
  have sg12 : SG p.tables e below (T10.setTop (mkF m 107 #[Rf a1, Rf a2, It p3, .val (.int ((0 : Int32) + (1 : Int32))), It (0 : Int32), It x1] [(.int u11)])) (T8.setTop (mkF m 95 #[Rf a1, Rf a2, It p3, .val (.int ((0 : Int32) + (1 : Int32))), It (0 : Int32), It x1] [])) := by
    intro target kt
    subst hu11
    show Steps _ _ _ (T8.setTop (mkF m 95 #[Rf a1, Rf a2, It p3, .val (.int ((0 : Int32) + (1 : Int32))), It (0 : Int32), It x1] [])) _
    refine XS.iload X8.here hx rfl (hb hby d9_95) rfl ?_
    refine XS.aloadN X8.here hx rfl (hb hby d9_97) rfl rfl ?_
    refine XS.iload X8.here hx rfl (hb hby d9_98) rfl ?_
    refine st9.trans ?_
    refine st10 _ ?_
    refine XS.iadd X10.here hx rfl (hb hby d9_106) rfl ?_
    exact kt
  have hk_u11 : u11 = (1 : Int32) := by rw [hu11]; decide
  subst hk_u11
  obtain ⟨cq13, kq13, q13a, q13b, q13c⟩ := isOf hZ e10 E_a1
  obtain ⟨_, _, ⟨T13, L13, k13, n13⟩, -, X13, ⟨Lc13, hQ13, l13, y13, z13⟩, st13⟩ := X10.virtualBack hx (y := m_20) (z := m_20) hown (mvT hZ (tw hw 46 rfl)) (mvT hZ (tw hw 47 rfl)) (notFace_of_selects (args := #[]) (mvT hZ (tw hw 49 rfl))) (mvT hZ (tw hw 49 rfl)) (mvT hZ (tw hw 48 rfl)) (by decide) (backOf (W := 1) (rm10_1 l Z a0 hw [] a1 (6 : Int32) (3 : Int32) (ub3 x1 x2 x3) tv zC kt h0 n0 O0 hCS (by decide) sC E_a1 F_coder_a1 F_value_a1 A_tv) hZ (tw hw 50 rfl) (tw hw 6 rfl) (by decide) (by decide)) q13a q13c (g := (mkF m 8 #[Rf a1, Rf a2, It p3, .val (.int ((0 : Int32) + (1 : Int32))), It (1 : Int32), It x1] [(.ref a1), (.int (1 : Int32))])) rfl (by rw [hml]; rfl) (Steps.refl _) (argsL := []) (rest := [(.int (1 : Int32))]) (lenOf pd_16 rfl) rfl (w0 rfl) (hb hby d9_8) (fun _ _ => ⟨rfl, e10, (by decide : 0 + 0 ≤ _), (by decide : 0 + 0 ≤ _)⟩)
  dsimp only [Pt.U, Pt.locs, Pt.cells, Pt.slots] at X13 l13 y13 z13 st13 hQ13
  subst l13 y13 z13
  obtain ⟨rfl, N13q, e13⟩ := hQ13
  have N13 := Fr.app N10 N13q
  obtain ⟨cq14, kq14, q14a, q14b, q14c⟩ := isOf hZ e13 E_a1
  obtain ⟨_, _, ⟨T14, L14, k14, n14⟩, -, X14, ⟨Lc14, hQ14, l14, y14, z14⟩, st14⟩ := X13.virtualBack hx (y := m_25) (z := m_25) hown (mvT hZ (tw hw 56 rfl)) (mvT hZ (tw hw 57 rfl)) (notFace_of_selects (args := #[]) (mvT hZ (tw hw 59 rfl))) (mvT hZ (tw hw 59 rfl)) (mvT hZ (tw hw 58 rfl)) (by decide) (backOf (W := 0) (rm12_P1 l Z a0 hw [] a1 x2 x3 (6 : Int32) (ub3 x1 x2 x3) (3 : Int32) tv vFM zC kt h0 n0 O0 hCS hFM (by decide) (by decide) (by decide) sC sA sH sL sF E_a1 F_coder_a1 F_value_a1 h_b2 h_b3 rfl rfl rfl rfl A_tv) hZ (tw hw 60 rfl) (tw hw 6 rfl) (by decide) (by decide)) q14a q14c (g := (mkF m 17 #[Rf a1, Rf a2, It p3, .val (.int ((0 : Int32) + (1 : Int32))), It (1 : Int32), It x1] [(.int (1 : Int32)), (.ref a1)])) rfl (by rw [hml]; rfl) (Steps.refl _) (argsL := [(.int (1 : Int32))]) (rest := []) (lenOf pd_0 rfl) rfl (w0 rfl) (hb hby d9_17) (fun _ _ => ⟨rfl, e13, (by decide : 0 + 0 ≤ _), (by decide : 0 + 0 ≤ _)⟩)
  dsimp only [Pt.U, Pt.locs, Pt.cells, Pt.slots] at X14 l14 y14 z14 st14 hQ14
  subst l14 y14 z14
  obtain ⟨rfl, N14q, e14⟩ := hQ14
  have N14 := Fr.app N13 N14q
  obtain ⟨r14, hr14⟩ : ∃ z, z = (tcp x2 x3) := ⟨_, rfl⟩
  rw [← hr14] at st14
  have sg15 : SG p.tables e below (T14.setTop (mkF m 45 #[Rf a1, Rf a2, It p3, .val (.int (((0 : Int32) + (1 : Int32)) + (1 : Int32))), It (1 : Int32), It r14] [])) (T10.setTop (mkF m 107 #[Rf a1, Rf a2, It p3, .val (.int ((0 : Int32) + (1 : Int32))), It (0 : Int32), It x1] [(.int (1 : Int32))])) := by
    intro target kt
    show Steps _ _ _ (T10.setTop (mkF m 107 #[Rf a1, Rf a2, It p3, .val (.int ((0 : Int32) + (1 : Int32))), It (0 : Int32), It x1] [(.int (1 : Int32))])) _
    refine XS.istore X10.here hx rfl (hb hby d9_107) rfl (l' := #[Rf a1, Rf a2, It p3, .val (.int ((0 : Int32) + (1 : Int32))), It (1 : Int32), It x1]) rfl ?_
    refine XS.goto X10.here hx rfl (pc0 := 109) (pc' := 5) rfl (hb hby d9_109) (by decide) (by decide) ?_
    refine XS.iload X10.here hx rfl (hb hby d9_5) rfl ?_
    refine XS.aloadN X10.here hx rfl (hb hby d9_7) rfl rfl ?_
    refine st13.trans ?_
    refine XS.icmpNo X13.here hx rfl (hb hby d9_11) rfl (tlt (by decide : (1 : Int32) < (3 : Int32))).2.1 ?_
    refine XS.aloadN X13.here hx rfl (hb hby d9_14) rfl rfl ?_
    refine XS.iload X13.here hx rfl (hb hby d9_15) rfl ?_
    refine st14.trans ?_
    refine XS.istore X14.here hx rfl (hb hby d9_20) rfl (l' := #[Rf a1, Rf a2, It p3, .val (.int ((0 : Int32) + (1 : Int32))), It (1 : Int32), It r14]) rfl ?_
    refine XS.iinc X14.here hx rfl (hb hby d9_22) rfl (l' := #[Rf a1, Rf a2, It p3, .val (.int (((0 : Int32) + (1 : Int32)) + (1 : Int32))), It (1 : Int32), It r14]) rfl ?_
    refine XS.iload X14.here hx rfl (hb hby d9_25) rfl ?_
    refine XS.ifYes X14.here hx rfl (pc0 := 27) (pc' := 45) rfl (hb hby d9_27) rfl ((if0 _ _).trans (feq (own_cp0 h_b2 h_b3 hr14)).2) (by decide) (by decide) ?_
    exact kt
  obtain ⟨T17, L17, X17, e17, N17, sg17⟩ : ∃ (T' : State) (L' : List Loc), Stand p l e (rk 4 0 0 59) s m #[(.ref a1), (.ref a2), (.int p3)] below meth c T' L' 0 0 ∧ T'.heap = h0 ∧ Fr n0 L' ∧ ∀ target, Steps p.tables e below (T'.setTop (mkF m 95 #[Rf a1, Rf a2, It p3, .val (.int (((0 : Int32) + (1 : Int32)) + (1 : Int32))), It (1 : Int32), It r14] [])) target → Steps p.tables e below (T14.setTop (mkF m 45 #[Rf a1, Rf a2, It p3, .val (.int (((0 : Int32) + (1 : Int32)) + (1 : Int32))), It (1 : Int32), It r14] [])) target := by
    have sg16 : SG p.tables e below (T14.setTop (mkF m 95 #[Rf a1, Rf a2, It p3, .val (.int (((0 : Int32) + (1 : Int32)) + (1 : Int32))), It (1 : Int32), It r14] [])) (T14.setTop (mkF m 45 #[Rf a1, Rf a2, It p3, .val (.int (((0 : Int32) + (1 : Int32)) + (1 : Int32))), It (1 : Int32), It r14] [])) := by
      intro target kt
      show Steps _ _ _ (T14.setTop (mkF m 45 #[Rf a1, Rf a2, It p3, .val (.int (((0 : Int32) + (1 : Int32)) + (1 : Int32))), It (1 : Int32), It r14] [])) _
      refine XS.iload X14.here hx rfl (hb hby d9_45) rfl ?_
      refine X14.ldcInt hx hown (mvT hZ (tw hw 74 rfl)) (g := (mkF m 47 #[Rf a1, Rf a2, It p3, .val (.int (((0 : Int32) + (1 : Int32)) + (1 : Int32))), It (1 : Int32), It r14] [(.int r14)])) rfl (hb hby d9_47) _ ?_
      refine XS.icmpNo X14.here hx rfl (hb hby d9_49) rfl (flt (own_cp1 h_b2 h_b3 hr14)).1 ?_
      refine XS.iload X14.here hx rfl (hb hby d9_52) rfl ?_
      refine X14.ldcInt hx hown (mvT hZ (tw hw 127 rfl)) (g := (mkF m 54 #[Rf a1, Rf a2, It p3, .val (.int (((0 : Int32) + (1 : Int32)) + (1 : Int32))), It (1 : Int32), It r14] [(.int r14)])) rfl (hb hby d9_54) _ ?_
      refine XS.icmpYes X14.here hx rfl (pc0 := 56) (pc' := 95) rfl (hb hby d9_56) rfl (tlt (own_cp2 h_b2 h_b3 hr14)).2.2.1 (by decide) (by decide) ?_
      exact kt
    exact ⟨T14, _, X14.mono (by decide) (by decide), e14, N14, fun target kt => sg16 _ (kt)⟩
  obtain ⟨cq18, kq18, q18a, q18b, q18c⟩ := isOf hZ e17 E_a1
  obtain ⟨_, _, ⟨T18, L18, k18, n18⟩, -, X18, ⟨Lc18, hQ18, l18, y18, z18⟩, st18⟩ := X17.virtualBack hx (y := m_25) (z := m_25) hown (mvT hZ (tw hw 56 rfl)) (mvT hZ (tw hw 57 rfl)) (notFace_of_selects (args := #[]) (mvT hZ (tw hw 59 rfl))) (mvT hZ (tw hw 59 rfl)) (mvT hZ (tw hw 58 rfl)) (by decide) (backOf (W := 1) (rm12_P1 l Z a0 hw [] a1 x2 x3 (6 : Int32) (ub3 x1 x2 x3) (3 : Int32) tv vFM zC kt h0 n0 O0 hCS hFM (by decide) (by decide) (by decide) sC sA sH sL sF E_a1 F_coder_a1 F_value_a1 h_b2 h_b3 rfl rfl rfl rfl A_tv) hZ (tw hw 60 rfl) (tw hw 6 rfl) (by decide) (by decide)) q18a q18c (g := (mkF m 100 #[Rf a1, Rf a2, It p3, .val (.int (((0 : Int32) + (1 : Int32)) + (1 : Int32))), It (1 : Int32), It r14] [(.int (1 : Int32)), (.ref a1), (.int (1 : Int32))])) rfl (by rw [hml]; rfl) (Steps.refl _) (argsL := [(.int (1 : Int32))]) (rest := [(.int (1 : Int32))]) (lenOf pd_0 rfl) rfl (w0 rfl) (hb hby d9_100) (fun _ _ => ⟨rfl, e17, (by decide : 0 + 0 ≤ _), (by decide : 0 + 0 ≤ _)⟩)
  dsimp only [Pt.U, Pt.locs, Pt.cells, Pt.slots] at X18 l18 y18 z18 st18 hQ18
  subst l18 y18 z18
  obtain ⟨rfl, N18q, e18⟩ := hQ18
  have N18 := Fr.app N17 N18q
  obtain ⟨r18, hr18⟩ : ∃ z, z = (tcp x2 x3) := ⟨_, rfl⟩
  rw [← hr18] at st18
  obtain ⟨_, _, ⟨T19, L19, k19, n19⟩, -, X19, ⟨Lc19, hQ19, l19, y19, z19⟩, st19⟩ := Jvm.LawKit.callS X18 hx (y := m_4) hown (mvT hZ (tw hw 75 rfl)) (mvT hZ (tw hw 76 rfl)) (mvT hZ (tw hw 77 rfl)) (mvT hZ (tw hw 78 rfl)) (by decide) (backOf (W := 1) (rm16 l Z a0 hw [] r18 h0 n0 O0 ) hZ (tw hw 78 rfl) (tw hw 77 rfl) (by decide) (by decide)) (g := (mkF m 103 #[Rf a1, Rf a2, It p3, .val (.int (((0 : Int32) + (1 : Int32)) + (1 : Int32))), It (1 : Int32), It r14] [(.int r18), (.int (1 : Int32))])) rfl (by rw [hml]; rfl) (argsL := [(.int r18)]) (rest := [(.int (1 : Int32))]) (lenOf pd_0 rfl) rfl (w0 rfl) (hb hby d9_103) (fun _ _ => ⟨rfl, e18, (by decide : 0 + 0 ≤ _), (by decide : 0 + 0 ≤ _)⟩)
  dsimp only [Pt.U, Pt.locs, Pt.cells, Pt.slots] at X19 l19 y19 z19 st19 hQ19
  subst l19 y19 z19
  obtain ⟨rfl, N19q, e19⟩ := hQ19
  have N19 := Fr.app N18 N19q
  obtain ⟨r19, hr19⟩ : ∃ z, z = (if r18 < (65536 : Int32) then (1 : Int32) else (2 : Int32)) := ⟨_, rfl⟩
  rw [← hr19] at st19
  have hcc19 : r19 = (2 : Int32) := own_cc2 h_b2 h_b3 hr18 hr19
  subst hcc19
  obtain ⟨u20, hu20⟩ : ∃ z, z = ((1 : Int32) + (2 : Int32)) := ⟨_, rfl⟩
  have sg21 : SG p.tables e below (T19.setTop (mkF m 107 #[Rf a1, Rf a2, It p3, .val (.int (((0 : Int32) + (1 : Int32)) + (1 : Int32))), It (1 : Int32), It r14] [(.int u20)])) (T17.setTop (mkF m 95 #[Rf a1, Rf a2, It p3, .val (.int (((0 : Int32) + (1 : Int32)) + (1 : Int32))), It (1 : Int32), It r14] [])) := by
    intro target kt
    subst hu20
    show Steps _ _ _ (T17.setTop (mkF m 95 #[Rf a1, Rf a2, It p3, .val (.int (((0 : Int32) + (1 : Int32)) + (1 : Int32))), It (1 : Int32), It r14] [])) _
    refine XS.iload X17.here hx rfl (hb hby d9_95) rfl ?_
    refine XS.aloadN X17.here hx rfl (hb hby d9_97) rfl rfl ?_
    refine XS.iload X17.here hx rfl (hb hby d9_98) rfl ?_
    refine st18.trans ?_
    refine st19 _ ?_
    refine XS.iadd X19.here hx rfl (hb hby d9_106) rfl ?_
    exact kt
  have hk_u20 : u20 = (3 : Int32) := by rw [hu20]; decide
  subst hk_u20
  obtain ⟨cq22, kq22, q22a, q22b, q22c⟩ := isOf hZ e19 E_a1
  obtain ⟨_, _, ⟨T22, L22, k22, n22⟩, -, X22, ⟨Lc22, hQ22, l22, y22, z22⟩, st22⟩ := X19.virtualBack hx (y := m_20) (z := m_20) hown (mvT hZ (tw hw 46 rfl)) (mvT hZ (tw hw 47 rfl)) (notFace_of_selects (args := #[]) (mvT hZ (tw hw 49 rfl))) (mvT hZ (tw hw 49 rfl)) (mvT hZ (tw hw 48 rfl)) (by decide) (backOf (W := 1) (rm10_1 l Z a0 hw [] a1 (6 : Int32) (3 : Int32) (ub3 x1 x2 x3) tv zC kt h0 n0 O0 hCS (by decide) sC E_a1 F_coder_a1 F_value_a1 A_tv) hZ (tw hw 50 rfl) (tw hw 6 rfl) (by decide) (by decide)) q22a q22c (g := (mkF m 8 #[Rf a1, Rf a2, It p3, .val (.int (((0 : Int32) + (1 : Int32)) + (1 : Int32))), It (3 : Int32), It r14] [(.ref a1), (.int (3 : Int32))])) rfl (by rw [hml]; rfl) (Steps.refl _) (argsL := []) (rest := [(.int (3 : Int32))]) (lenOf pd_16 rfl) rfl (w0 rfl) (hb hby d9_8) (fun _ _ => ⟨rfl, e19, (by decide : 0 + 0 ≤ _), (by decide : 0 + 0 ≤ _)⟩)
  dsimp only [Pt.U, Pt.locs, Pt.cells, Pt.slots] at X22 l22 y22 z22 st22 hQ22
  subst l22 y22 z22
  obtain ⟨rfl, N22q, e22⟩ := hQ22
  have N22 := Fr.app N19 N22q
  have sg23 : SG p.tables e below (T22.setTop (mkF m 137 #[Rf a1, Rf a2, It p3, .val (.int (((0 : Int32) + (1 : Int32)) + (1 : Int32))), It (3 : Int32), It r14] [])) (T19.setTop (mkF m 107 #[Rf a1, Rf a2, It p3, .val (.int (((0 : Int32) + (1 : Int32)) + (1 : Int32))), It (1 : Int32), It r14] [(.int (3 : Int32))])) := by
    intro target kt
    show Steps _ _ _ (T19.setTop (mkF m 107 #[Rf a1, Rf a2, It p3, .val (.int (((0 : Int32) + (1 : Int32)) + (1 : Int32))), It (1 : Int32), It r14] [(.int (3 : Int32))])) _
    refine XS.istore X19.here hx rfl (hb hby d9_107) rfl (l' := #[Rf a1, Rf a2, It p3, .val (.int (((0 : Int32) + (1 : Int32)) + (1 : Int32))), It (3 : Int32), It r14]) rfl ?_
    refine XS.goto X19.here hx rfl (pc0 := 109) (pc' := 5) rfl (hb hby d9_109) (by decide) (by decide) ?_
    refine XS.iload X19.here hx rfl (hb hby d9_5) rfl ?_
    refine XS.aloadN X19.here hx rfl (hb hby d9_7) rfl rfl ?_
    refine st22.trans ?_
    refine XS.icmpYes X22.here hx rfl (pc0 := 11) (pc' := 112) rfl (hb hby d9_11) rfl (flt (by decide : ¬ ((3 : Int32) < (3 : Int32)))).2.1 (by decide) (by decide) ?_
    refine XS.iloadN X22.here hx rfl (hb hby d9_112) rfl ?_
    refine XS.ifNo X22.here hx rfl (hb hby d9_113) rfl ((if0 _ _).trans (feq (by decide : ¬ ((((0 : Int32) + (1 : Int32)) + (1 : Int32)) = (0 : Int32)))).1) ?_
    refine XS.iloadN X22.here hx rfl (hb hby d9_116) rfl ?_
    refine XS.iloadN X22.here hx rfl (hb hby d9_117) rfl ?_
    refine XS.icmpYes X22.here hx rfl (pc0 := 118) (pc' := 137) rfl (hb hby d9_118) rfl (flt (own_cnt h_p (by decide))).2.2.2 (by decide) (by decide) ?_
    exact kt
  obtain ⟨fs, hr, hrun, hended, hW, hsame⟩ := X22.leave (v := none) (fun _ => rfl)
  refine ⟨_, _, pre0 _ (sg3 _ (sg8 _ (sg12 _ (sg15 _ (sg17 _ (sg21 _ (sg23 _ (?_)))))))), hrun, hended, _, _, rfl, ?_, ⟨_, rfl⟩, hW, hsame.mono (by decide) (by decide)⟩
  · show Steps _ _ _ (T22.setTop (mkF m 137 #[Rf a1, Rf a2, It p3, .val (.int (((0 : Int32) + (1 : Int32)) + (1 : Int32))), It (3 : Int32), It r14] [])) _
    exact X22.returnOut hx Bd.returns (hb hby d9_137) hr
  · show Q9_BP1 Z a1 a2 p3 x1 x2 x3 tv vFM zC kt h0 n0 _ T22.heap _
    rw [e22]
    exact ⟨rfl, N22, rfl⟩
def Q9_PP1 (Z : State) (a1 : Addr) (a2 : Addr) (p3 : Int32) (x1 : Int32) (x2 : Int32) (x3 : Int32) (x4 : Int32) (tv : Addr) (vFM : Value) (zC : Int32) (kt : ClassId) (h0 : Heap) (n0 : Nat) (v : Option Value) (h : Heap) (L : List Loc) : Prop := v = none ∧ Fr n0 L ∧ h = h0
theorem rm9_PP1 (l : Launch) (Z : State) (a0 : Array Value) (hw : ∀ d ∈ tables_1, d.before a0 Z = true) (ws : List Jvm.Cond) (a1 : Addr) (a2 : Addr) (p3 : Int32) (x1 : Int32) (x2 : Int32) (x3 : Int32) (x4 : Int32) (tv : Addr) (vFM : Value) (zC : Int32) (kt : ClassId) (h0 : Heap) (n0 : Nat) (O0 : Old Z n0 h0) (hCS : ¬ zC = 0) (hFM : vFM.isRef = true) (sC : TS_3 Z zC) (sA : TS_0 Z) (sH : TS_1 Z) (sL : TS_2 Z) (sF : TS_6 Z vFM) (E_a1 : Exa Z h0 a1 "java/lang/String") (F_coder_a1 : Fld Z h0 a1 "java/lang/String" "coder" "B" (.int (1 : Int32))) (F_value_a1 : Fld Z h0 a1 "java/lang/String" "value" "[B" (.ref tv)) (A_tv : Arv Z h0 tv kt .byte (8 : Int32) (ub4 x1 x2 x3 x4) (.int (0 : Int32))) (h_b1 : HS x1) (h_b2 : LS x2) (h_b3 : HS x3) (h_b4 : LS x4) (h_p : ¬ p3 < (2 : Int32)) :
    MetFree l m_26 (head1 (Jvm.Cond.code m_26 prog_8_method_2_code 6 none :: ws) (rk 4 0 0 59)) (fun a U => a = #[(.ref a1), (.ref a2), (.int p3)] ∧ Z.Warmed39 U.vm ∧ U.heap = h0) (fun _ _ _ _ _ => True) (fun _ U o U' => ∃ v L, o = .returned v ∧ Q9_PP1 Z a1 a2 p3 x1 x2 x3 x4 tv vFM zC kt h0 n0 v U'.heap L ∧ FrameEnd U o U' L (rk 4 0 0 59).cells (rk 4 0 0 59).slots) := by
  refine MetFree.of_bodySF (plainFor_of_name pn_5) hisR ?_
  intro p e s m args below meth c s₁ Bd hml0 hP hK
  obtain ⟨rfl, hZ, hh⟩ := hP
  have hx := Bd.exec
  have hby := Bd.bytes
  have hml : c.maxLocals = 6 := hml0
  have hown : s.vm.findClass "com/example/chitragupta/chitragupta/core/Characters" = some m.cls := findClass_of_methodNamed Bd.named
  have X0 : Stand p l e (rk 4 0 0 59) s m #[(.ref a1), (.ref a2), (.int p3)] below meth c s₁ [] 0 0 := Stand.of_body Bd
  have e0 : s₁.heap = h0 := by rw [← hh, Bd.state]; rfl
  have N0 := Fr.nil n0
  have pre0 := own_pre (tb := p.tables) (e := e) (bl := below) (s := s₁) (ef_9_B0 m a1 a2 p3)
  obtain ⟨cq1, kq1, q1a, q1b, q1c⟩ := isOf hZ e0 E_a1
  obtain ⟨_, _, ⟨T1, L1, k1, n1⟩, -, X1, ⟨Lc1, hQ1, l1, y1, z1⟩, st1⟩ := X0.virtualBack hx (y := m_20) (z := m_20) hown (mvT hZ (tw hw 46 rfl)) (mvT hZ (tw hw 47 rfl)) (notFace_of_selects (args := #[]) (mvT hZ (tw hw 49 rfl))) (mvT hZ (tw hw 49 rfl)) (mvT hZ (tw hw 48 rfl)) (by decide) (backOf (W := 1) (rm10_1 l Z a0 hw [] a1 (8 : Int32) (4 : Int32) (ub4 x1 x2 x3 x4) tv zC kt h0 n0 O0 hCS (by decide) sC E_a1 F_coder_a1 F_value_a1 A_tv) hZ (tw hw 50 rfl) (tw hw 6 rfl) (by decide) (by decide)) q1a q1c (g := (mkF m 8 #[Rf a1, Rf a2, It p3, It (0 : Int32), It (0 : Int32), .unset] [(.ref a1), (.int (0 : Int32))])) rfl (by rw [hml]; rfl) (Steps.refl _) (argsL := []) (rest := [(.int (0 : Int32))]) (lenOf pd_16 rfl) rfl (w0 rfl) (hb hby d9_8) (fun _ _ => ⟨rfl, e0, (by decide : 0 + 0 ≤ _), (by decide : 0 + 0 ≤ _)⟩)
  dsimp only [Pt.U, Pt.locs, Pt.cells, Pt.slots] at X1 l1 y1 z1 st1 hQ1
  subst l1 y1 z1
  obtain ⟨rfl, N1q, e1⟩ := hQ1
  have N1 := Fr.app N0 N1q
  obtain ⟨cq2, kq2, q2a, q2b, q2c⟩ := isOf hZ e1 E_a1
  obtain ⟨_, _, ⟨T2, L2, k2, n2⟩, -, X2, ⟨Lc2, hQ2, l2, y2, z2⟩, st2⟩ := X1.virtualBack hx (y := m_25) (z := m_25) hown (mvT hZ (tw hw 56 rfl)) (mvT hZ (tw hw 57 rfl)) (notFace_of_selects (args := #[]) (mvT hZ (tw hw 59 rfl))) (mvT hZ (tw hw 59 rfl)) (mvT hZ (tw hw 58 rfl)) (by decide) (backOf (W := 0) (rm12_P0 l Z a0 hw [] a1 x1 x2 (8 : Int32) (ub4 x1 x2 x3 x4) (4 : Int32) tv vFM zC kt h0 n0 O0 hCS hFM (by decide) (by decide) (by decide) sC sA sH sL sF E_a1 F_coder_a1 F_value_a1 h_b1 h_b2 rfl rfl rfl rfl A_tv) hZ (tw hw 60 rfl) (tw hw 6 rfl) (by decide) (by decide)) q2a q2c (g := (mkF m 17 #[Rf a1, Rf a2, It p3, It (0 : Int32), It (0 : Int32), .unset] [(.int (0 : Int32)), (.ref a1)])) rfl (by rw [hml]; rfl) (Steps.refl _) (argsL := [(.int (0 : Int32))]) (rest := []) (lenOf pd_0 rfl) rfl (w0 rfl) (hb hby d9_17) (fun _ _ => ⟨rfl, e1, (by decide : 0 + 0 ≤ _), (by decide : 0 + 0 ≤ _)⟩)
  dsimp only [Pt.U, Pt.locs, Pt.cells, Pt.slots] at X2 l2 y2 z2 st2 hQ2
  subst l2 y2 z2
  obtain ⟨rfl, N2q, e2⟩ := hQ2
  have N2 := Fr.app N1 N2q
  obtain ⟨r2, hr2⟩ : ∃ z, z = (tcp x1 x2) := ⟨_, rfl⟩
  rw [← hr2] at st2
  obtain ⟨cq3, kq3, q3a, q3b, q3c⟩ := isOf hZ e2 E_a1
  obtain ⟨_, _, ⟨T3, L3, k3, n3⟩, -, X3, ⟨Lc3, hQ3, l3, y3, z3⟩, st3⟩ := X2.virtualBack hx (y := m_25) (z := m_25) hown (mvT hZ (tw hw 56 rfl)) (mvT hZ (tw hw 57 rfl)) (notFace_of_selects (args := #[]) (mvT hZ (tw hw 59 rfl))) (mvT hZ (tw hw 59 rfl)) (mvT hZ (tw hw 58 rfl)) (by decide) (backOf (W := 1) (rm12_P0 l Z a0 hw [] a1 x1 x2 (8 : Int32) (ub4 x1 x2 x3 x4) (4 : Int32) tv vFM zC kt h0 n0 O0 hCS hFM (by decide) (by decide) (by decide) sC sA sH sL sF E_a1 F_coder_a1 F_value_a1 h_b1 h_b2 rfl rfl rfl rfl A_tv) hZ (tw hw 60 rfl) (tw hw 6 rfl) (by decide) (by decide)) q3a q3c (g := (mkF m 100 #[Rf a1, Rf a2, It p3, .val (.int ((0 : Int32) + (1 : Int32))), It (0 : Int32), It r2] [(.int (0 : Int32)), (.ref a1), (.int (0 : Int32))])) rfl (by rw [hml]; rfl) (Steps.refl _) (argsL := [(.int (0 : Int32))]) (rest := [(.int (0 : Int32))]) (lenOf pd_0 rfl) rfl (w0 rfl) (hb hby d9_100) (fun _ _ => ⟨rfl, e2, (by decide : 0 + 0 ≤ _), (by decide : 0 + 0 ≤ _)⟩)
  dsimp only [Pt.U, Pt.locs, Pt.cells, Pt.slots] at X3 l3 y3 z3 st3 hQ3
  subst l3 y3 z3
  obtain ⟨rfl, N3q, e3⟩ := hQ3
  have N3 := Fr.app N2 N3q
  obtain ⟨r3, hr3⟩ : ∃ z, z = (tcp x1 x2) := ⟨_, rfl⟩
  rw [← hr3] at st3
  obtain ⟨_, _, ⟨T4, L4, k4, n4⟩, -, X4, ⟨Lc4, hQ4, l4, y4, z4⟩, st4⟩ := Jvm.LawKit.callS X3 hx (y := m_4) hown (mvT hZ (tw hw 75 rfl)) (mvT hZ (tw hw 76 rfl)) (mvT hZ (tw hw 77 rfl)) (mvT hZ (tw hw 78 rfl)) (by decide) (backOf (W := 1) (rm16 l Z a0 hw [] r3 h0 n0 O0 ) hZ (tw hw 78 rfl) (tw hw 77 rfl) (by decide) (by decide)) (g := (mkF m 103 #[Rf a1, Rf a2, It p3, .val (.int ((0 : Int32) + (1 : Int32))), It (0 : Int32), It r2] [(.int r3), (.int (0 : Int32))])) rfl (by rw [hml]; rfl) (argsL := [(.int r3)]) (rest := [(.int (0 : Int32))]) (lenOf pd_0 rfl) rfl (w0 rfl) (hb hby d9_103) (fun _ _ => ⟨rfl, e3, (by decide : 0 + 0 ≤ _), (by decide : 0 + 0 ≤ _)⟩)
  dsimp only [Pt.U, Pt.locs, Pt.cells, Pt.slots] at X4 l4 y4 z4 st4 hQ4
  subst l4 y4 z4
  obtain ⟨rfl, N4q, e4⟩ := hQ4
  have N4 := Fr.app N3 N4q
  obtain ⟨r4, hr4⟩ : ∃ z, z = (if r3 < (65536 : Int32) then (1 : Int32) else (2 : Int32)) := ⟨_, rfl⟩
  rw [← hr4] at st4
  have hcc4 : r4 = (2 : Int32) := own_cc2 h_b1 h_b2 hr3 hr4
  subst hcc4
  obtain ⟨u5, hu5⟩ : ∃ z, z = ((0 : Int32) + (2 : Int32)) := ⟨_, rfl⟩
  have sg6 : SG p.tables e below (T4.setTop (mkF m 107 #[Rf a1, Rf a2, It p3, .val (.int ((0 : Int32) + (1 : Int32))), It (0 : Int32), It r2] [(.int u5)])) (s₁.setTop (mkF m 0 #[Rf a1, Rf a2, It p3, .unset, .unset, .unset] [])) := by
    intro target kt
    subst hu5
    show Steps _ _ _ (s₁.setTop (mkF m 0 #[Rf a1, Rf a2, It p3, .unset, .unset, .unset] [])) _
    refine XS.iconst X0.here hx rfl (hb hby d9_0) ?_
    refine XS.istoreN X0.here hx rfl (hb hby d9_1) rfl (l' := #[Rf a1, Rf a2, It p3, It (0 : Int32), .unset, .unset]) rfl ?_
    refine XS.iconst X0.here hx rfl (hb hby d9_2) ?_
    refine XS.istore X0.here hx rfl (hb hby d9_3) rfl (l' := #[Rf a1, Rf a2, It p3, It (0 : Int32), It (0 : Int32), .unset]) rfl ?_
    refine XS.iload X0.here hx rfl (hb hby d9_5) rfl ?_
    refine XS.aloadN X0.here hx rfl (hb hby d9_7) rfl rfl ?_
    refine st1.trans ?_
    refine XS.icmpNo X1.here hx rfl (hb hby d9_11) rfl (tlt (by decide : (0 : Int32) < (4 : Int32))).2.1 ?_
    refine XS.aloadN X1.here hx rfl (hb hby d9_14) rfl rfl ?_
    refine XS.iload X1.here hx rfl (hb hby d9_15) rfl ?_
    refine st2.trans ?_
    refine XS.istore X2.here hx rfl (hb hby d9_20) rfl (l' := #[Rf a1, Rf a2, It p3, It (0 : Int32), It (0 : Int32), It r2]) rfl ?_
    refine XS.iinc X2.here hx rfl (hb hby d9_22) rfl (l' := #[Rf a1, Rf a2, It p3, .val (.int ((0 : Int32) + (1 : Int32))), It (0 : Int32), It r2]) rfl ?_
    refine XS.iload X2.here hx rfl (hb hby d9_25) rfl ?_
    refine XS.ifYes X2.here hx rfl (pc0 := 27) (pc' := 45) rfl (hb hby d9_27) rfl ((if0 _ _).trans (feq (own_cp0 h_b1 h_b2 hr2)).2) (by decide) (by decide) ?_
    refine XS.iload X2.here hx rfl (hb hby d9_45) rfl ?_
    refine X2.ldcInt hx hown (mvT hZ (tw hw 74 rfl)) (g := (mkF m 47 #[Rf a1, Rf a2, It p3, .val (.int ((0 : Int32) + (1 : Int32))), It (0 : Int32), It r2] [(.int r2)])) rfl (hb hby d9_47) _ ?_
    refine XS.icmpNo X2.here hx rfl (hb hby d9_49) rfl (flt (own_cp1 h_b1 h_b2 hr2)).1 ?_
    refine XS.iload X2.here hx rfl (hb hby d9_52) rfl ?_
    refine X2.ldcInt hx hown (mvT hZ (tw hw 127 rfl)) (g := (mkF m 54 #[Rf a1, Rf a2, It p3, .val (.int ((0 : Int32) + (1 : Int32))), It (0 : Int32), It r2] [(.int r2)])) rfl (hb hby d9_54) _ ?_
    refine XS.icmpYes X2.here hx rfl (pc0 := 56) (pc' := 95) rfl (hb hby d9_56) rfl (tlt (own_cp2 h_b1 h_b2 hr2)).2.2.1 (by decide) (by decide) ?_
    refine XS.iload X2.here hx rfl (hb hby d9_95) rfl ?_
    refine XS.aloadN X2.here hx rfl (hb hby d9_97) rfl rfl ?_
    refine XS.iload X2.here hx rfl (hb hby d9_98) rfl ?_
    refine st3.trans ?_
    refine st4 _ ?_
    refine XS.iadd X4.here hx rfl (hb hby d9_106) rfl ?_
    exact kt
  have hk_u5 : u5 = (2 : Int32) := by rw [hu5]; decide
  subst hk_u5
  obtain ⟨cq7, kq7, q7a, q7b, q7c⟩ := isOf hZ e4 E_a1
  obtain ⟨_, _, ⟨T7, L7, k7, n7⟩, -, X7, ⟨Lc7, hQ7, l7, y7, z7⟩, st7⟩ := X4.virtualBack hx (y := m_20) (z := m_20) hown (mvT hZ (tw hw 46 rfl)) (mvT hZ (tw hw 47 rfl)) (notFace_of_selects (args := #[]) (mvT hZ (tw hw 49 rfl))) (mvT hZ (tw hw 49 rfl)) (mvT hZ (tw hw 48 rfl)) (by decide) (backOf (W := 1) (rm10_1 l Z a0 hw [] a1 (8 : Int32) (4 : Int32) (ub4 x1 x2 x3 x4) tv zC kt h0 n0 O0 hCS (by decide) sC E_a1 F_coder_a1 F_value_a1 A_tv) hZ (tw hw 50 rfl) (tw hw 6 rfl) (by decide) (by decide)) q7a q7c (g := (mkF m 8 #[Rf a1, Rf a2, It p3, .val (.int ((0 : Int32) + (1 : Int32))), It (2 : Int32), It r2] [(.ref a1), (.int (2 : Int32))])) rfl (by rw [hml]; rfl) (Steps.refl _) (argsL := []) (rest := [(.int (2 : Int32))]) (lenOf pd_16 rfl) rfl (w0 rfl) (hb hby d9_8) (fun _ _ => ⟨rfl, e4, (by decide : 0 + 0 ≤ _), (by decide : 0 + 0 ≤ _)⟩)
  dsimp only [Pt.U, Pt.locs, Pt.cells, Pt.slots] at X7 l7 y7 z7 st7 hQ7
  subst l7 y7 z7
  obtain ⟨rfl, N7q, e7⟩ := hQ7
  have N7 := Fr.app N4 N7q
  obtain ⟨cq8, kq8, q8a, q8b, q8c⟩ := isOf hZ e7 E_a1
  obtain ⟨_, _, ⟨T8, L8, k8, n8⟩, -, X8, ⟨Lc8, hQ8, l8, y8, z8⟩, st8⟩ := X7.virtualBack hx (y := m_25) (z := m_25) hown (mvT hZ (tw hw 56 rfl)) (mvT hZ (tw hw 57 rfl)) (notFace_of_selects (args := #[]) (mvT hZ (tw hw 59 rfl))) (mvT hZ (tw hw 59 rfl)) (mvT hZ (tw hw 58 rfl)) (by decide) (backOf (W := 0) (rm12_P2 l Z a0 hw [] a1 x3 x4 (8 : Int32) (ub4 x1 x2 x3 x4) (4 : Int32) tv vFM zC kt h0 n0 O0 hCS hFM (by decide) (by decide) (by decide) sC sA sH sL sF E_a1 F_coder_a1 F_value_a1 h_b3 h_b4 rfl rfl rfl rfl A_tv) hZ (tw hw 60 rfl) (tw hw 6 rfl) (by decide) (by decide)) q8a q8c (g := (mkF m 17 #[Rf a1, Rf a2, It p3, .val (.int ((0 : Int32) + (1 : Int32))), It (2 : Int32), It r2] [(.int (2 : Int32)), (.ref a1)])) rfl (by rw [hml]; rfl) (Steps.refl _) (argsL := [(.int (2 : Int32))]) (rest := []) (lenOf pd_0 rfl) rfl (w0 rfl) (hb hby d9_17) (fun _ _ => ⟨rfl, e7, (by decide : 0 + 0 ≤ _), (by decide : 0 + 0 ≤ _)⟩)
  dsimp only [Pt.U, Pt.locs, Pt.cells, Pt.slots] at X8 l8 y8 z8 st8 hQ8
  subst l8 y8 z8
  obtain ⟨rfl, N8q, e8⟩ := hQ8
  have N8 := Fr.app N7 N8q
  obtain ⟨r8, hr8⟩ : ∃ z, z = (tcp x3 x4) := ⟨_, rfl⟩
  rw [← hr8] at st8
  obtain ⟨cq9, kq9, q9a, q9b, q9c⟩ := isOf hZ e8 E_a1
  obtain ⟨_, _, ⟨T9, L9, k9, n9⟩, -, X9, ⟨Lc9, hQ9, l9, y9, z9⟩, st9⟩ := X8.virtualBack hx (y := m_25) (z := m_25) hown (mvT hZ (tw hw 56 rfl)) (mvT hZ (tw hw 57 rfl)) (notFace_of_selects (args := #[]) (mvT hZ (tw hw 59 rfl))) (mvT hZ (tw hw 59 rfl)) (mvT hZ (tw hw 58 rfl)) (by decide) (backOf (W := 1) (rm12_P2 l Z a0 hw [] a1 x3 x4 (8 : Int32) (ub4 x1 x2 x3 x4) (4 : Int32) tv vFM zC kt h0 n0 O0 hCS hFM (by decide) (by decide) (by decide) sC sA sH sL sF E_a1 F_coder_a1 F_value_a1 h_b3 h_b4 rfl rfl rfl rfl A_tv) hZ (tw hw 60 rfl) (tw hw 6 rfl) (by decide) (by decide)) q9a q9c (g := (mkF m 100 #[Rf a1, Rf a2, It p3, .val (.int (((0 : Int32) + (1 : Int32)) + (1 : Int32))), It (2 : Int32), It r8] [(.int (2 : Int32)), (.ref a1), (.int (2 : Int32))])) rfl (by rw [hml]; rfl) (Steps.refl _) (argsL := [(.int (2 : Int32))]) (rest := [(.int (2 : Int32))]) (lenOf pd_0 rfl) rfl (w0 rfl) (hb hby d9_100) (fun _ _ => ⟨rfl, e8, (by decide : 0 + 0 ≤ _), (by decide : 0 + 0 ≤ _)⟩)
  dsimp only [Pt.U, Pt.locs, Pt.cells, Pt.slots] at X9 l9 y9 z9 st9 hQ9
  subst l9 y9 z9
  obtain ⟨rfl, N9q, e9⟩ := hQ9
  have N9 := Fr.app N8 N9q
  obtain ⟨r9, hr9⟩ : ∃ z, z = (tcp x3 x4) := ⟨_, rfl⟩
  rw [← hr9] at st9
  obtain ⟨_, _, ⟨T10, L10, k10, n10⟩, -, X10, ⟨Lc10, hQ10, l10, y10, z10⟩, st10⟩ := Jvm.LawKit.callS X9 hx (y := m_4) hown (mvT hZ (tw hw 75 rfl)) (mvT hZ (tw hw 76 rfl)) (mvT hZ (tw hw 77 rfl)) (mvT hZ (tw hw 78 rfl)) (by decide) (backOf (W := 1) (rm16 l Z a0 hw [] r9 h0 n0 O0 ) hZ (tw hw 78 rfl) (tw hw 77 rfl) (by decide) (by decide)) (g := (mkF m 103 #[Rf a1, Rf a2, It p3, .val (.int (((0 : Int32) + (1 : Int32)) + (1 : Int32))), It (2 : Int32), It r8] [(.int r9), (.int (2 : Int32))])) rfl (by rw [hml]; rfl) (argsL := [(.int r9)]) (rest := [(.int (2 : Int32))]) (lenOf pd_0 rfl) rfl (w0 rfl) (hb hby d9_103) (fun _ _ => ⟨rfl, e9, (by decide : 0 + 0 ≤ _), (by decide : 0 + 0 ≤ _)⟩)
  dsimp only [Pt.U, Pt.locs, Pt.cells, Pt.slots] at X10 l10 y10 z10 st10 hQ10
  subst l10 y10 z10
  obtain ⟨rfl, N10q, e10⟩ := hQ10
  have N10 := Fr.app N9 N10q
  obtain ⟨r10, hr10⟩ : ∃ z, z = (if r9 < (65536 : Int32) then (1 : Int32) else (2 : Int32)) := ⟨_, rfl⟩
  rw [← hr10] at st10
  have hcc10 : r10 = (2 : Int32) := own_cc2 h_b3 h_b4 hr9 hr10
  subst hcc10
  obtain ⟨u11, hu11⟩ : ∃ z, z = ((2 : Int32) + (2 : Int32)) := ⟨_, rfl⟩
  have sg12 : SG p.tables e below (T10.setTop (mkF m 107 #[Rf a1, Rf a2, It p3, .val (.int (((0 : Int32) + (1 : Int32)) + (1 : Int32))), It (2 : Int32), It r8] [(.int u11)])) (T4.setTop (mkF m 107 #[Rf a1, Rf a2, It p3, .val (.int ((0 : Int32) + (1 : Int32))), It (0 : Int32), It r2] [(.int (2 : Int32))])) := by
    intro target kt
    subst hu11
    show Steps _ _ _ (T4.setTop (mkF m 107 #[Rf a1, Rf a2, It p3, .val (.int ((0 : Int32) + (1 : Int32))), It (0 : Int32), It r2] [(.int (2 : Int32))])) _
    refine XS.istore X4.here hx rfl (hb hby d9_107) rfl (l' := #[Rf a1, Rf a2, It p3, .val (.int ((0 : Int32) + (1 : Int32))), It (2 : Int32), It r2]) rfl ?_
    refine XS.goto X4.here hx rfl (pc0 := 109) (pc' := 5) rfl (hb hby d9_109) (by decide) (by decide) ?_
    refine XS.iload X4.here hx rfl (hb hby d9_5) rfl ?_
    refine XS.aloadN X4.here hx rfl (hb hby d9_7) rfl rfl ?_
    refine st7.trans ?_
    refine XS.icmpNo X7.here hx rfl (hb hby d9_11) rfl (tlt (by decide : (2 : Int32) < (4 : Int32))).2.1 ?_
    refine XS.aloadN X7.here hx rfl (hb hby d9_14) rfl rfl ?_
    refine XS.iload X7.here hx rfl (hb hby d9_15) rfl ?_
    refine st8.trans ?_
    refine XS.istore X8.here hx rfl (hb hby d9_20) rfl (l' := #[Rf a1, Rf a2, It p3, .val (.int ((0 : Int32) + (1 : Int32))), It (2 : Int32), It r8]) rfl ?_
    refine XS.iinc X8.here hx rfl (hb hby d9_22) rfl (l' := #[Rf a1, Rf a2, It p3, .val (.int (((0 : Int32) + (1 : Int32)) + (1 : Int32))), It (2 : Int32), It r8]) rfl ?_
    refine XS.iload X8.here hx rfl (hb hby d9_25) rfl ?_
    refine XS.ifYes X8.here hx rfl (pc0 := 27) (pc' := 45) rfl (hb hby d9_27) rfl ((if0 _ _).trans (feq (own_cp0 h_b3 h_b4 hr8)).2) (by decide) (by decide) ?_
    refine XS.iload X8.here hx rfl (hb hby d9_45) rfl ?_
    refine X8.ldcInt hx hown (mvT hZ (tw hw 74 rfl)) (g := (mkF m 47 #[Rf a1, Rf a2, It p3, .val (.int (((0 : Int32) + (1 : Int32)) + (1 : Int32))), It (2 : Int32), It r8] [(.int r8)])) rfl (hb hby d9_47) _ ?_
    refine XS.icmpNo X8.here hx rfl (hb hby d9_49) rfl (flt (own_cp1 h_b3 h_b4 hr8)).1 ?_
    refine XS.iload X8.here hx rfl (hb hby d9_52) rfl ?_
    refine X8.ldcInt hx hown (mvT hZ (tw hw 127 rfl)) (g := (mkF m 54 #[Rf a1, Rf a2, It p3, .val (.int (((0 : Int32) + (1 : Int32)) + (1 : Int32))), It (2 : Int32), It r8] [(.int r8)])) rfl (hb hby d9_54) _ ?_
    refine XS.icmpYes X8.here hx rfl (pc0 := 56) (pc' := 95) rfl (hb hby d9_56) rfl (tlt (own_cp2 h_b3 h_b4 hr8)).2.2.1 (by decide) (by decide) ?_
    refine XS.iload X8.here hx rfl (hb hby d9_95) rfl ?_
    refine XS.aloadN X8.here hx rfl (hb hby d9_97) rfl rfl ?_
    refine XS.iload X8.here hx rfl (hb hby d9_98) rfl ?_
    refine st9.trans ?_
    refine st10 _ ?_
    refine XS.iadd X10.here hx rfl (hb hby d9_106) rfl ?_
    exact kt
  have hk_u11 : u11 = (4 : Int32) := by rw [hu11]; decide
  subst hk_u11
  obtain ⟨cq13, kq13, q13a, q13b, q13c⟩ := isOf hZ e10 E_a1
  obtain ⟨_, _, ⟨T13, L13, k13, n13⟩, -, X13, ⟨Lc13, hQ13, l13, y13, z13⟩, st13⟩ := X10.virtualBack hx (y := m_20) (z := m_20) hown (mvT hZ (tw hw 46 rfl)) (mvT hZ (tw hw 47 rfl)) (notFace_of_selects (args := #[]) (mvT hZ (tw hw 49 rfl))) (mvT hZ (tw hw 49 rfl)) (mvT hZ (tw hw 48 rfl)) (by decide) (backOf (W := 1) (rm10_1 l Z a0 hw [] a1 (8 : Int32) (4 : Int32) (ub4 x1 x2 x3 x4) tv zC kt h0 n0 O0 hCS (by decide) sC E_a1 F_coder_a1 F_value_a1 A_tv) hZ (tw hw 50 rfl) (tw hw 6 rfl) (by decide) (by decide)) q13a q13c (g := (mkF m 8 #[Rf a1, Rf a2, It p3, .val (.int (((0 : Int32) + (1 : Int32)) + (1 : Int32))), It (4 : Int32), It r8] [(.ref a1), (.int (4 : Int32))])) rfl (by rw [hml]; rfl) (Steps.refl _) (argsL := []) (rest := [(.int (4 : Int32))]) (lenOf pd_16 rfl) rfl (w0 rfl) (hb hby d9_8) (fun _ _ => ⟨rfl, e10, (by decide : 0 + 0 ≤ _), (by decide : 0 + 0 ≤ _)⟩)
  dsimp only [Pt.U, Pt.locs, Pt.cells, Pt.slots] at X13 l13 y13 z13 st13 hQ13
  subst l13 y13 z13
  obtain ⟨rfl, N13q, e13⟩ := hQ13
  have N13 := Fr.app N10 N13q
  have sg14 : SG p.tables e below (T13.setTop (mkF m 137 #[Rf a1, Rf a2, It p3, .val (.int (((0 : Int32) + (1 : Int32)) + (1 : Int32))), It (4 : Int32), It r8] [])) (T10.setTop (mkF m 107 #[Rf a1, Rf a2, It p3, .val (.int (((0 : Int32) + (1 : Int32)) + (1 : Int32))), It (2 : Int32), It r8] [(.int (4 : Int32))])) := by
    intro target kt
    show Steps _ _ _ (T10.setTop (mkF m 107 #[Rf a1, Rf a2, It p3, .val (.int (((0 : Int32) + (1 : Int32)) + (1 : Int32))), It (2 : Int32), It r8] [(.int (4 : Int32))])) _
    refine XS.istore X10.here hx rfl (hb hby d9_107) rfl (l' := #[Rf a1, Rf a2, It p3, .val (.int (((0 : Int32) + (1 : Int32)) + (1 : Int32))), It (4 : Int32), It r8]) rfl ?_
    refine XS.goto X10.here hx rfl (pc0 := 109) (pc' := 5) rfl (hb hby d9_109) (by decide) (by decide) ?_
    refine XS.iload X10.here hx rfl (hb hby d9_5) rfl ?_
    refine XS.aloadN X10.here hx rfl (hb hby d9_7) rfl rfl ?_
    refine st13.trans ?_
    refine XS.icmpYes X13.here hx rfl (pc0 := 11) (pc' := 112) rfl (hb hby d9_11) rfl (flt (by decide : ¬ ((4 : Int32) < (4 : Int32)))).2.1 (by decide) (by decide) ?_
    refine XS.iloadN X13.here hx rfl (hb hby d9_112) rfl ?_
    refine XS.ifNo X13.here hx rfl (hb hby d9_113) rfl ((if0 _ _).trans (feq (by decide : ¬ ((((0 : Int32) + (1 : Int32)) + (1 : Int32)) = (0 : Int32)))).1) ?_
    refine XS.iloadN X13.here hx rfl (hb hby d9_116) rfl ?_
    refine XS.iloadN X13.here hx rfl (hb hby d9_117) rfl ?_
    refine XS.icmpYes X13.here hx rfl (pc0 := 118) (pc' := 137) rfl (hb hby d9_118) rfl (flt (own_cnt h_p (by decide))).2.2.2 (by decide) (by decide) ?_
    exact kt
  obtain ⟨fs, hr, hrun, hended, hW, hsame⟩ := X13.leave (v := none) (fun _ => rfl)
  refine ⟨_, _, pre0 _ (sg6 _ (sg12 _ (sg14 _ (?_)))), hrun, hended, _, _, rfl, ?_, ⟨_, rfl⟩, hW, hsame.mono (by decide) (by decide)⟩
  · show Steps _ _ _ (T13.setTop (mkF m 137 #[Rf a1, Rf a2, It p3, .val (.int (((0 : Int32) + (1 : Int32)) + (1 : Int32))), It (4 : Int32), It r8] [])) _
    exact X13.returnOut hx Bd.returns (hb hby d9_137) hr
  · show Q9_PP1 Z a1 a2 p3 x1 x2 x3 x4 tv vFM zC kt h0 n0 _ T13.heap _
    rw [e13]
    exact ⟨rfl, N13, rfl⟩
def Q0 (Z : State) (p1 : Int32) (p2 : Int32) (p3 : Int32) (p4 : Int32) (vFM : Value) (zC : Int32) (h0 : Heap) (n0 : Nat) (v : Option Value) (h : Heap) (L : List Loc) : Prop := v = some (.int (1 : Int32)) ∧ Fr n0 L ∧ Keep h0 h [] ∧ Old Z n0 h
theorem ef_0 (m : MethodId) (x0 : Int32) (x1 : Int32) (x2 : Int32) (x3 : Int32) : entryFrame m #[(.int x0), (.int x1), (.int x2), (.int x3)] maxLocals = mkF m 0 #[.val (.int x0), .val (.int x1), .val (.int x2), .val (.int x3), .unset, .unset, .unset, .unset, .unset, .unset] [] := by first | (simp [entryFrame, mkF, argsToLocals, Value.category, maxLocals]; done) | rfl
theorem rm0 (l : Launch) (Z : State) (a0 : Array Value) (hw : ∀ d ∈ tables_1, d.before a0 Z = true) (ws : List Jvm.Cond) (p1 : Int32) (p2 : Int32) (p3 : Int32) (p4 : Int32) (vFM : Value) (zC : Int32) (h0 : Heap) (n0 : Nat) (O0 : Old Z n0 h0) (hCS : ¬ zC = 0) (hFM : vFM.isRef = true) (sC : TS_3 Z zC) (sA : TS_0 Z) (sH : TS_1 Z) (sL : TS_2 Z) (sF : TS_6 Z vFM) :
    MetFree l x (head1 (Jvm.Cond.code x code maxLocals ret :: ws) room_1) (fun a U => a = #[(.int p1), (.int p2), (.int p3), (.int p4)] ∧ Z.Warmed39 U.vm ∧ U.heap = h0 ∧ CHv Z own_EL U.vm h0) (fun _ _ _ _ _ => True) (fun _ U o U' => ∃ v L, o = .returned v ∧ Q0 Z p1 p2 p3 p4 vFM zC h0 n0 v U'.heap L ∧ CHr Z own_EL U.vm U.heap U'.vm U'.heap ∧ ReturnedEndW U o U' L room_1.cells room_1.slots) := by
  refine MetFree.of_bodySF (plainFor_of_name pn_0) hisR ?_
  intro p e s m args below meth c s₁ Bd hml0 hP hK
  obtain ⟨rfl, hZ, hh, hCH⟩ := hP
  have hx := Bd.exec
  have hby := Bd.bytes
  have hml : c.maxLocals = 10 := hml0
  have hown : s.vm.findClass "com/example/chitragupta/chitragupta/core/CharactersCheckPinLaw" = some m.cls := findClass_of_methodNamed Bd.named
  have X0 : Stand p l e room_1 (s.setVm s.vm) m #[(.int p1), (.int p2), (.int p3), (.int p4)] below meth c s₁ [] 0 0 := Stand.of_body Bd
  have e0 : s₁.heap = h0 := by rw [← hh, Bd.state]; rfl
  have N0 := Fr.nil n0
  have pre0 := own_pre (tb := p.tables) (e := e) (bl := below) (s := s₁) (ef_0 m p1 p2 p3 p4)
  have Y0 : s.Since s.vm h0.size := (State.WarmedH.refl s).since h0.size
  have Yk0 : h0.size ≤ h0.size := Nat.le_refl _
  have CR0 : CHr Z own_EL s.vm h0 s.vm h0 := CHr.refl hCH
  have hEL := own_EW hw
  have hSA := own_SA hw
  have K0 := Keep.refl h0 []
  obtain ⟨T5, L5, v5_t0, X5, e5, N5, hv5_t0, sg5⟩ : ∃ (T' : State) (L' : List Loc) (v5_t0 : Int32), Stand p l e room_1 (s.setVm s.vm) m #[(.int p1), (.int p2), (.int p3), (.int p4)] below meth c T' L' 0 0 ∧ T'.heap = h0 ∧ Fr n0 L' ∧ v5_t0 = (if (p3 &&& (1 : Int32)) = (0 : Int32) then (0 : Int32) else (1 : Int32)) ∧ ∀ target, Steps p.tables e below (T'.setTop (mkF m 11 #[It p1, It p2, It p3, It p4, .unset, .unset, .unset, .unset, .unset, .unset] [(.int v5_t0)])) target → Steps p.tables e below (s₁.setTop (mkF m 0 #[It p1, It p2, It p3, It p4, .unset, .unset, .unset, .unset, .unset, .unset] [])) target := by
    have sg1 : SG p.tables e below (s₁.setTop (mkF m 3 #[It p1, It p2, It p3, It p4, .unset, .unset, .unset, .unset, .unset, .unset] [(.int (p3 &&& (1 : Int32)))])) (s₁.setTop (mkF m 0 #[It p1, It p2, It p3, It p4, .unset, .unset, .unset, .unset, .unset, .unset] [])) := by
      intro target kt
      show Steps _ _ _ (s₁.setTop (mkF m 0 #[It p1, It p2, It p3, It p4, .unset, .unset, .unset, .unset, .unset, .unset] [])) _
      refine XS.iloadN X0.here hx rfl (hb hby at_0) rfl ?_
      refine XS.iconst X0.here hx rfl (hb hby at_1) ?_
      refine XS.iand X0.here hx rfl (hb hby at_2) rfl ?_
      exact kt
    by_cases hc2 : (p3 &&& (1 : Int32)) = (0 : Int32)
    · have sg3 : SG p.tables e below (s₁.setTop (mkF m 11 #[It p1, It p2, It p3, It p4, .unset, .unset, .unset, .unset, .unset, .unset] [(.int (0 : Int32))])) (s₁.setTop (mkF m 3 #[It p1, It p2, It p3, It p4, .unset, .unset, .unset, .unset, .unset, .unset] [(.int (p3 &&& (1 : Int32)))])) := by
        intro target kt
        show Steps _ _ _ (s₁.setTop (mkF m 3 #[It p1, It p2, It p3, It p4, .unset, .unset, .unset, .unset, .unset, .unset] [(.int (p3 &&& (1 : Int32)))])) _
        refine XS.ifYes X0.here hx rfl (pc0 := 3) (pc' := 10) rfl (hb hby at_3) rfl ((if0 _ _).trans (teq hc2).1) (by decide) (by decide) ?_
        refine XS.iconst X0.here hx rfl (hb hby at_10) ?_
        exact kt
      exact ⟨s₁, _, (0 : Int32), X0.mono (by decide) (by decide), e0, N0, (by rw [if_pos hc2]), fun target kt => sg1 _ (sg3 _ (kt))⟩
    · have sg4 : SG p.tables e below (s₁.setTop (mkF m 11 #[It p1, It p2, It p3, It p4, .unset, .unset, .unset, .unset, .unset, .unset] [(.int (1 : Int32))])) (s₁.setTop (mkF m 3 #[It p1, It p2, It p3, It p4, .unset, .unset, .unset, .unset, .unset, .unset] [(.int (p3 &&& (1 : Int32)))])) := by
        intro target kt
        show Steps _ _ _ (s₁.setTop (mkF m 3 #[It p1, It p2, It p3, It p4, .unset, .unset, .unset, .unset, .unset, .unset] [(.int (p3 &&& (1 : Int32)))])) _
        refine XS.ifNo X0.here hx rfl (hb hby at_3) rfl ((if0 _ _).trans (feq hc2).1) ?_
        refine XS.iconst X0.here hx rfl (hb hby at_6) ?_
        refine XS.goto X0.here hx rfl (pc0 := 7) (pc' := 11) rfl (hb hby at_7) (by decide) (by decide) ?_
        exact kt
      exact ⟨s₁, _, (1 : Int32), X0.mono (by decide) (by decide), e0, N0, (by rw [if_neg hc2]), fun target kt => sg1 _ (sg4 _ (kt))⟩
  have sg6 : SG p.tables e below (T5.setTop (mkF m 13 #[It p1, It p2, It p3, It p4, It v5_t0, .unset, .unset, .unset, .unset, .unset] [])) (T5.setTop (mkF m 11 #[It p1, It p2, It p3, It p4, .unset, .unset, .unset, .unset, .unset, .unset] [(.int v5_t0)])) := by
    intro target kt
    show Steps _ _ _ (T5.setTop (mkF m 11 #[It p1, It p2, It p3, It p4, .unset, .unset, .unset, .unset, .unset, .unset] [(.int v5_t0)])) _
    refine XS.istore X5.here hx rfl (hb hby at_11) rfl (l' := #[It p1, It p2, It p3, It p4, It v5_t0, .unset, .unset, .unset, .unset, .unset]) rfl ?_
    exact kt
  obtain ⟨T11, L11, v11_t0, X11, e11, N11, hv11_t0, sg11⟩ : ∃ (T' : State) (L' : List Loc) (v11_t0 : Int32), Stand p l e room_1 (s.setVm s.vm) m #[(.int p1), (.int p2), (.int p3), (.int p4)] below meth c T' L' 0 0 ∧ T'.heap = h0 ∧ Fr n0 L' ∧ v11_t0 = (if (p1 &&& (1 : Int32)) = (0 : Int32) then (0 : Int32) else (1 : Int32)) ∧ ∀ target, Steps p.tables e below (T'.setTop (mkF m 24 #[It p1, It p2, It p3, It p4, It v5_t0, .unset, .unset, .unset, .unset, .unset] [(.int v11_t0)])) target → Steps p.tables e below (T5.setTop (mkF m 13 #[It p1, It p2, It p3, It p4, It v5_t0, .unset, .unset, .unset, .unset, .unset] [])) target := by
    have sg7 : SG p.tables e below (T5.setTop (mkF m 16 #[It p1, It p2, It p3, It p4, It v5_t0, .unset, .unset, .unset, .unset, .unset] [(.int (p1 &&& (1 : Int32)))])) (T5.setTop (mkF m 13 #[It p1, It p2, It p3, It p4, It v5_t0, .unset, .unset, .unset, .unset, .unset] [])) := by
      intro target kt
      show Steps _ _ _ (T5.setTop (mkF m 13 #[It p1, It p2, It p3, It p4, It v5_t0, .unset, .unset, .unset, .unset, .unset] [])) _
      refine XS.iloadN X5.here hx rfl (hb hby at_13) rfl ?_
      refine XS.iconst X5.here hx rfl (hb hby at_14) ?_
      refine XS.iand X5.here hx rfl (hb hby at_15) rfl ?_
      exact kt
    by_cases hc8 : (p1 &&& (1 : Int32)) = (0 : Int32)
    · have sg9 : SG p.tables e below (T5.setTop (mkF m 24 #[It p1, It p2, It p3, It p4, It v5_t0, .unset, .unset, .unset, .unset, .unset] [(.int (0 : Int32))])) (T5.setTop (mkF m 16 #[It p1, It p2, It p3, It p4, It v5_t0, .unset, .unset, .unset, .unset, .unset] [(.int (p1 &&& (1 : Int32)))])) := by
        intro target kt
        show Steps _ _ _ (T5.setTop (mkF m 16 #[It p1, It p2, It p3, It p4, It v5_t0, .unset, .unset, .unset, .unset, .unset] [(.int (p1 &&& (1 : Int32)))])) _
        refine XS.ifYes X5.here hx rfl (pc0 := 16) (pc' := 23) rfl (hb hby at_16) rfl ((if0 _ _).trans (teq hc8).1) (by decide) (by decide) ?_
        refine XS.iconst X5.here hx rfl (hb hby at_23) ?_
        exact kt
      exact ⟨T5, _, (0 : Int32), X5.mono (by decide) (by decide), e5, N5, (by rw [if_pos hc8]), fun target kt => sg7 _ (sg9 _ (kt))⟩
    · have sg10 : SG p.tables e below (T5.setTop (mkF m 24 #[It p1, It p2, It p3, It p4, It v5_t0, .unset, .unset, .unset, .unset, .unset] [(.int (1 : Int32))])) (T5.setTop (mkF m 16 #[It p1, It p2, It p3, It p4, It v5_t0, .unset, .unset, .unset, .unset, .unset] [(.int (p1 &&& (1 : Int32)))])) := by
        intro target kt
        show Steps _ _ _ (T5.setTop (mkF m 16 #[It p1, It p2, It p3, It p4, It v5_t0, .unset, .unset, .unset, .unset, .unset] [(.int (p1 &&& (1 : Int32)))])) _
        refine XS.ifNo X5.here hx rfl (hb hby at_16) rfl ((if0 _ _).trans (feq hc8).1) ?_
        refine XS.iconst X5.here hx rfl (hb hby at_19) ?_
        refine XS.goto X5.here hx rfl (pc0 := 20) (pc' := 24) rfl (hb hby at_20) (by decide) (by decide) ?_
        exact kt
      exact ⟨T5, _, (1 : Int32), X5.mono (by decide) (by decide), e5, N5, (by rw [if_neg hc8]), fun target kt => sg7 _ (sg10 _ (kt))⟩
  have sg12 : SG p.tables e below (T11.setTop (mkF m 26 #[It p1, It p2, It p3, It p4, It v5_t0, It v11_t0, .unset, .unset, .unset, .unset] [])) (T11.setTop (mkF m 24 #[It p1, It p2, It p3, It p4, It v5_t0, .unset, .unset, .unset, .unset, .unset] [(.int v11_t0)])) := by
    intro target kt
    show Steps _ _ _ (T11.setTop (mkF m 24 #[It p1, It p2, It p3, It p4, It v5_t0, .unset, .unset, .unset, .unset, .unset] [(.int v11_t0)])) _
    refine XS.istore X11.here hx rfl (hb hby at_24) rfl (l' := #[It p1, It p2, It p3, It p4, It v5_t0, It v11_t0, .unset, .unset, .unset, .unset]) rfl ?_
    exact kt
  obtain ⟨T17, L17, v17_t0, X17, e17, N17, hv17_t0, sg17⟩ : ∃ (T' : State) (L' : List Loc) (v17_t0 : Int32), Stand p l e room_1 (s.setVm s.vm) m #[(.int p1), (.int p2), (.int p3), (.int p4)] below meth c T' L' 0 0 ∧ T'.heap = h0 ∧ Fr n0 L' ∧ v17_t0 = (if (p2 &&& (1 : Int32)) = (0 : Int32) then (0 : Int32) else (1 : Int32)) ∧ ∀ target, Steps p.tables e below (T'.setTop (mkF m 37 #[It p1, It p2, It p3, It p4, It v5_t0, It v11_t0, .unset, .unset, .unset, .unset] [(.int v17_t0)])) target → Steps p.tables e below (T11.setTop (mkF m 26 #[It p1, It p2, It p3, It p4, It v5_t0, It v11_t0, .unset, .unset, .unset, .unset] [])) target := by
    have sg13 : SG p.tables e below (T11.setTop (mkF m 29 #[It p1, It p2, It p3, It p4, It v5_t0, It v11_t0, .unset, .unset, .unset, .unset] [(.int (p2 &&& (1 : Int32)))])) (T11.setTop (mkF m 26 #[It p1, It p2, It p3, It p4, It v5_t0, It v11_t0, .unset, .unset, .unset, .unset] [])) := by
      intro target kt
      show Steps _ _ _ (T11.setTop (mkF m 26 #[It p1, It p2, It p3, It p4, It v5_t0, It v11_t0, .unset, .unset, .unset, .unset] [])) _
      refine XS.iloadN X11.here hx rfl (hb hby at_26) rfl ?_
      refine XS.iconst X11.here hx rfl (hb hby at_27) ?_
      refine XS.iand X11.here hx rfl (hb hby at_28) rfl ?_
      exact kt
    by_cases hc14 : (p2 &&& (1 : Int32)) = (0 : Int32)
    · have sg15 : SG p.tables e below (T11.setTop (mkF m 37 #[It p1, It p2, It p3, It p4, It v5_t0, It v11_t0, .unset, .unset, .unset, .unset] [(.int (0 : Int32))])) (T11.setTop (mkF m 29 #[It p1, It p2, It p3, It p4, It v5_t0, It v11_t0, .unset, .unset, .unset, .unset] [(.int (p2 &&& (1 : Int32)))])) := by
        intro target kt
        show Steps _ _ _ (T11.setTop (mkF m 29 #[It p1, It p2, It p3, It p4, It v5_t0, It v11_t0, .unset, .unset, .unset, .unset] [(.int (p2 &&& (1 : Int32)))])) _
        refine XS.ifYes X11.here hx rfl (pc0 := 29) (pc' := 36) rfl (hb hby at_29) rfl ((if0 _ _).trans (teq hc14).1) (by decide) (by decide) ?_
        refine XS.iconst X11.here hx rfl (hb hby at_36) ?_
        exact kt
      exact ⟨T11, _, (0 : Int32), X11.mono (by decide) (by decide), e11, N11, (by rw [if_pos hc14]), fun target kt => sg13 _ (sg15 _ (kt))⟩
    · have sg16 : SG p.tables e below (T11.setTop (mkF m 37 #[It p1, It p2, It p3, It p4, It v5_t0, It v11_t0, .unset, .unset, .unset, .unset] [(.int (1 : Int32))])) (T11.setTop (mkF m 29 #[It p1, It p2, It p3, It p4, It v5_t0, It v11_t0, .unset, .unset, .unset, .unset] [(.int (p2 &&& (1 : Int32)))])) := by
        intro target kt
        show Steps _ _ _ (T11.setTop (mkF m 29 #[It p1, It p2, It p3, It p4, It v5_t0, It v11_t0, .unset, .unset, .unset, .unset] [(.int (p2 &&& (1 : Int32)))])) _
        refine XS.ifNo X11.here hx rfl (hb hby at_29) rfl ((if0 _ _).trans (feq hc14).1) ?_
        refine XS.iconst X11.here hx rfl (hb hby at_32) ?_
        refine XS.goto X11.here hx rfl (pc0 := 33) (pc' := 37) rfl (hb hby at_33) (by decide) (by decide) ?_
        exact kt
      exact ⟨T11, _, (1 : Int32), X11.mono (by decide) (by decide), e11, N11, (by rw [if_neg hc14]), fun target kt => sg13 _ (sg16 _ (kt))⟩
  have sg18 : SG p.tables e below (T17.setTop (mkF m 39 #[It p1, It p2, It p3, It p4, It v5_t0, It v11_t0, It v17_t0, .unset, .unset, .unset] [])) (T17.setTop (mkF m 37 #[It p1, It p2, It p3, It p4, It v5_t0, It v11_t0, .unset, .unset, .unset, .unset] [(.int v17_t0)])) := by
    intro target kt
    show Steps _ _ _ (T17.setTop (mkF m 37 #[It p1, It p2, It p3, It p4, It v5_t0, It v11_t0, .unset, .unset, .unset, .unset] [(.int v17_t0)])) _
    refine XS.istore X17.here hx rfl (hb hby at_37) rfl (l' := #[It p1, It p2, It p3, It p4, It v5_t0, It v11_t0, It v17_t0, .unset, .unset, .unset]) rfl ?_
    exact kt
  obtain ⟨T23, L23, v23_t0, X23, e23, N23, hv23_t0, sg23⟩ : ∃ (T' : State) (L' : List Loc) (v23_t0 : Int32), Stand p l e room_1 (s.setVm s.vm) m #[(.int p1), (.int p2), (.int p3), (.int p4)] below meth c T' L' 0 0 ∧ T'.heap = h0 ∧ Fr n0 L' ∧ v23_t0 = (if v5_t0 = (0 : Int32) then (1 : Int32) else (2 : Int32)) ∧ ∀ target, Steps p.tables e below (T'.setTop (mkF m 49 #[It p1, It p2, It p3, It p4, It v5_t0, It v11_t0, It v17_t0, .unset, .unset, .unset] [(.int v23_t0)])) target → Steps p.tables e below (T17.setTop (mkF m 39 #[It p1, It p2, It p3, It p4, It v5_t0, It v11_t0, It v17_t0, .unset, .unset, .unset] [])) target := by
    have sg19 : SG p.tables e below (T17.setTop (mkF m 41 #[It p1, It p2, It p3, It p4, It v5_t0, It v11_t0, It v17_t0, .unset, .unset, .unset] [(.int v5_t0)])) (T17.setTop (mkF m 39 #[It p1, It p2, It p3, It p4, It v5_t0, It v11_t0, It v17_t0, .unset, .unset, .unset] [])) := by
      intro target kt
      show Steps _ _ _ (T17.setTop (mkF m 39 #[It p1, It p2, It p3, It p4, It v5_t0, It v11_t0, It v17_t0, .unset, .unset, .unset] [])) _
      refine XS.iload X17.here hx rfl (hb hby at_39) rfl ?_
      exact kt
    by_cases hc20 : v5_t0 = (0 : Int32)
    · have sg21 : SG p.tables e below (T17.setTop (mkF m 49 #[It p1, It p2, It p3, It p4, It v5_t0, It v11_t0, It v17_t0, .unset, .unset, .unset] [(.int (1 : Int32))])) (T17.setTop (mkF m 41 #[It p1, It p2, It p3, It p4, It v5_t0, It v11_t0, It v17_t0, .unset, .unset, .unset] [(.int v5_t0)])) := by
        intro target kt
        show Steps _ _ _ (T17.setTop (mkF m 41 #[It p1, It p2, It p3, It p4, It v5_t0, It v11_t0, It v17_t0, .unset, .unset, .unset] [(.int v5_t0)])) _
        refine XS.ifYes X17.here hx rfl (pc0 := 41) (pc' := 48) rfl (hb hby at_41) rfl ((if0 _ _).trans (teq hc20).1) (by decide) (by decide) ?_
        refine XS.iconst X17.here hx rfl (hb hby at_48) ?_
        exact kt
      exact ⟨T17, _, (1 : Int32), X17.mono (by decide) (by decide), e17, N17, (by rw [if_pos hc20]), fun target kt => sg19 _ (sg21 _ (kt))⟩
    · have sg22 : SG p.tables e below (T17.setTop (mkF m 49 #[It p1, It p2, It p3, It p4, It v5_t0, It v11_t0, It v17_t0, .unset, .unset, .unset] [(.int (2 : Int32))])) (T17.setTop (mkF m 41 #[It p1, It p2, It p3, It p4, It v5_t0, It v11_t0, It v17_t0, .unset, .unset, .unset] [(.int v5_t0)])) := by
        intro target kt
        show Steps _ _ _ (T17.setTop (mkF m 41 #[It p1, It p2, It p3, It p4, It v5_t0, It v11_t0, It v17_t0, .unset, .unset, .unset] [(.int v5_t0)])) _
        refine XS.ifNo X17.here hx rfl (hb hby at_41) rfl ((if0 _ _).trans (feq hc20).1) ?_
        refine XS.iconst X17.here hx rfl (hb hby at_44) ?_
        refine XS.goto X17.here hx rfl (pc0 := 45) (pc' := 49) rfl (hb hby at_45) (by decide) (by decide) ?_
        exact kt
      exact ⟨T17, _, (2 : Int32), X17.mono (by decide) (by decide), e17, N17, (by rw [if_neg hc20]), fun target kt => sg19 _ (sg22 _ (kt))⟩
  obtain ⟨_, _, ⟨T24, L24, k24, n24⟩, -, X24, ⟨Lc24, hQ24, l24, y24, z24⟩, st24⟩ := Jvm.LawKit.callS X23 hx (y := m_0) hown (mvT hZ (tw hw 0 rfl)) (mvT hZ (tw hw 1 rfl)) (mvT hZ (tw hw 2 rfl)) (mvT hZ (tw hw 3 rfl)) (by decide) (backOf (W := 0) (rm1 l Z a0 hw [] v23_t0 p4 h0 n0 O0 ) hZ (tw hw 3 rfl) (tw hw 2 rfl) (by decide) (by decide)) (g := (mkF m 54 #[It p1, It p2, It p3, It p4, It v5_t0, It v11_t0, It v17_t0, It v23_t0, .unset, .unset] [(.int p4), (.int v23_t0)])) rfl (by rw [hml]; rfl) (argsL := [(.int v23_t0), (.int p4)]) (rest := []) (lenOf pd_17 rfl) rfl (w0 rfl) (hb hby at_54) (fun _ _ => ⟨rfl, e23, (by decide : 0 + 0 ≤ _), (by decide : 0 + 0 ≤ _)⟩)
  dsimp only [Pt.U, Pt.locs, Pt.cells, Pt.slots] at X24 l24 y24 z24 st24 hQ24
  subst l24 y24 z24
  obtain ⟨rfl, N24q, e24⟩ := hQ24
  have N24 := Fr.app N23 N24q
  obtain ⟨r24, hr24⟩ : ∃ z, z = (if v23_t0 < p4 then p4 else v23_t0) := ⟨_, rfl⟩
  rw [← hr24] at st24
  have sg25 : SG p.tables e below (T24.setTop (mkF m 61 #[It p1, It p2, It p3, It p4, It v5_t0, It v11_t0, It v17_t0, It v23_t0, It r24, .unset] [(.int v5_t0)])) (T23.setTop (mkF m 49 #[It p1, It p2, It p3, It p4, It v5_t0, It v11_t0, It v17_t0, .unset, .unset, .unset] [(.int v23_t0)])) := by
    intro target kt
    show Steps _ _ _ (T23.setTop (mkF m 49 #[It p1, It p2, It p3, It p4, It v5_t0, It v11_t0, It v17_t0, .unset, .unset, .unset] [(.int v23_t0)])) _
    refine XS.istore X23.here hx rfl (hb hby at_49) rfl (l' := #[It p1, It p2, It p3, It p4, It v5_t0, It v11_t0, It v17_t0, It v23_t0, .unset, .unset]) rfl ?_
    refine XS.iload X23.here hx rfl (hb hby at_51) rfl ?_
    refine XS.iloadN X23.here hx rfl (hb hby at_53) rfl ?_
    refine st24 _ ?_
    refine XS.istore X24.here hx rfl (hb hby at_57) rfl (l' := #[It p1, It p2, It p3, It p4, It v5_t0, It v11_t0, It v17_t0, It v23_t0, It r24, .unset]) rfl ?_
    refine XS.iload X24.here hx rfl (hb hby at_59) rfl ?_
    exact kt
  by_cases hc26 : v5_t0 = (0 : Int32)
  · have sg27 : SG p.tables e below (T24.setTop (mkF m 66 #[It p1, It p2, It p3, It p4, It v5_t0, It v11_t0, It v17_t0, It v23_t0, It r24, .unset] [(.int v11_t0)])) (T24.setTop (mkF m 61 #[It p1, It p2, It p3, It p4, It v5_t0, It v11_t0, It v17_t0, It v23_t0, It r24, .unset] [(.int v5_t0)])) := by
      intro target kt
      show Steps _ _ _ (T24.setTop (mkF m 61 #[It p1, It p2, It p3, It p4, It v5_t0, It v11_t0, It v17_t0, It v23_t0, It r24, .unset] [(.int v5_t0)])) _
      refine XS.ifNo X24.here hx rfl (hb hby at_61) rfl ((if0 _ _).trans (teq hc26).2) ?_
      refine XS.iload X24.here hx rfl (hb hby at_64) rfl ?_
      exact kt
    by_cases hc28 : v11_t0 = (0 : Int32)
    · obtain ⟨T29, h29, X29, e29, E29, A29, D29, -, st29⟩ := newO X24 hx hZ hown (tw hw 4 rfl) (tw hw 5 rfl) (tw hw 6 rfl) e24 (g := (mkF m 98 #[It p1, It p2, It p3, It p4, It v5_t0, It v11_t0, It v17_t0, It v23_t0, It r24, .unset] [])) rfl (hb hby at_98) (by decide) (by decide)
      obtain ⟨b29, g29⟩ : ∃ z, z = h0.size := ⟨_, rfl⟩
      rw [← g29] at A29 D29 st29
      have ge_b29 : n0 ≤ b29 := Nat.le_trans (own_osz O0) (Nat.le_of_eq g29.symm)
      have sz_b29 : h0.size ≤ b29 := Nat.le_trans K0.1 (Nat.le_of_eq g29.symm)
      have O30 := O0.ext E29
      have K29 := K0.ext E29
      have CR31 := CR0.trans (CHr.ext E29 CR0.1)
      have F_coder_b29 : Fld Z h29 b29 "java/lang/String" "coder" "B" (.int (0 : Int32)) := D29 (Or.inr (tw hw 36 rfl)) (ty := .byte) (by decide)
      have F_value_b29 : Fld Z h29 b29 "java/lang/String" "value" "[B" .null := D29 (Or.inr (tw hw 38 rfl)) (ty := (.array .byte)) (by decide)
      obtain ⟨T32, h32, k32, X32, e32, E32, A32, st32⟩ := newP X29 hx hZ (tw hw 7 rfl) e29 (g := (mkF m 103 #[It p1, It p2, It p3, It p4, It v5_t0, It v11_t0, It v17_t0, It v23_t0, It r24, .unset] [(.int (1 : Int32)), (.ref b29), (.ref b29)])) rfl (hb hby at_103) rfl (by decide) (cap := 1) (by decide) (by decide) (by decide) (by decide)
      obtain ⟨b32, g32⟩ : ∃ z, z = h29.size := ⟨_, rfl⟩
      rw [← g32] at A32 st32
      have ge_b32 : n0 ≤ b32 := Nat.le_trans (own_osz O30) (Nat.le_of_eq g32.symm)
      have sz_b32 : h0.size ≤ b32 := Nat.le_trans K29.1 (Nat.le_of_eq g32.symm)
      have O33 := O30.ext E32
      have K32 := K29.ext E32
      have CR34 := CR31.trans (CHr.ext E32 CR31.1)
      have V_b32 : Arv Z h32 b32 k32 .char (1 : Int32) [(.int (0 : Int32))] (.int (0 : Int32)) := (Arv.new A32 (by decide)).pad (pad_rep [] (.int (0 : Int32)) 1)
      obtain ⟨_, _, ⟨T35, L35, k35, n35⟩, -, X35, ⟨Lc35, hQ35, l35, y35, z35⟩, st35⟩ := Jvm.LawKit.callS X32 hx (y := m_1) hown (mvT hZ (tw hw 8 rfl)) (mvT hZ (tw hw 9 rfl)) (mvT hZ (tw hw 10 rfl)) (mvT hZ (tw hw 11 rfl)) (by decide) (backOf (W := 5) (rm2 l Z a0 hw [] p1 h32 n0 O33 ) hZ (tw hw 11 rfl) (tw hw 10 rfl) (by decide) (by decide)) (g := (mkF m 108 #[It p1, It p2, It p3, It p4, It v5_t0, It v11_t0, It v17_t0, It v23_t0, It r24, .unset] [(.int p1), (.int (0 : Int32)), (.ref b32), (.ref b32), (.ref b29), (.ref b29)])) rfl (by rw [hml]; rfl) (argsL := [(.int p1)]) (rest := [(.int (0 : Int32)), (.ref b32), (.ref b32), (.ref b29), (.ref b29)]) (lenOf pd_18 rfl) rfl (w0 rfl) (hb hby at_108) (fun _ _ => ⟨rfl, e32, (by decide : 2 + 0 ≤ _), (by decide : 5 + 0 ≤ _)⟩)
      dsimp only [Pt.U, Pt.locs, Pt.cells, Pt.slots] at X35 l35 y35 z35 st35 hQ35
      subst l35 y35 z35
      obtain ⟨rfl, N35q, e35⟩ := hQ35
      have N35 := Fr.app N24 N35q
      obtain ⟨r35, hr35⟩ : ∃ z, z = (if (((p1.toUInt32 >>> ((1 : Int32) &&& 31).toUInt32).toInt32) &&& (65535 : Int32)) = (0 : Int32) then (1 : Int32) else (if (((p1.toUInt32 >>> ((1 : Int32) &&& 31).toUInt32).toInt32) &&& (65535 : Int32)) < (55296 : Int32) then ((((p1.toUInt32 >>> ((1 : Int32) &&& 31).toUInt32).toInt32) &&& (65535 : Int32)).toUInt32.toUInt16.toUInt32.toInt32) else (if (57343 : Int32) < (((p1.toUInt32 >>> ((1 : Int32) &&& 31).toUInt32).toInt32) &&& (65535 : Int32)) then ((((p1.toUInt32 >>> ((1 : Int32) &&& 31).toUInt32).toInt32) &&& (65535 : Int32)).toUInt32.toUInt16.toUInt32.toInt32) else (((((p1.toUInt32 >>> ((1 : Int32) &&& 31).toUInt32).toInt32) &&& (65535 : Int32)) - (2048 : Int32)).toUInt32.toUInt16.toUInt32.toInt32)))) := ⟨_, rfl⟩
      rw [← hr35] at st35
      have F_r35 := own_bmF hr35
      obtain ⟨cl36, Ar36, q36, Sz36, Nn36, Hh36, Gg36⟩ := id V_b32
      have hin36 : ¬ ((0 : Int32) < 0 ∨ cl36.slots.size ≤ ((0 : Int32)).toNatClampNeg) := inb_of Sz36 ⟨by decide, by decide⟩
      obtain ⟨T37, h37, X37, e37, W37, st37⟩ := stC X35 hx hZ e35 Ar36 (j := (0 : Int32)) hin36 (g := (mkF m 111 #[It p1, It p2, It p3, It p4, It v5_t0, It v11_t0, It v17_t0, It v23_t0, It r24, .unset] [(.int r35), (.int (0 : Int32)), (.ref b32), (.ref b32), (.ref b29), (.ref b29)])) rfl rfl (hb hby at_111)
      have V37 : Arv Z h37 b32 k32 .char (1 : Int32) [(.int (nar .char r35))] (.int (0 : Int32)) := Arv.set Ar36 q36 Sz36 Nn36 Hh36 Gg36 (fits_nar_char _) W37 0 rfl (Nat.le_of_ble_eq_true rfl)
      have N37 := Fr.snoc X37 N35 ge_b32
      have O38 := O33.wr W37 ge_b32
      have K37 := K32.wr W37 (Or.inr sz_b32)
      have CR39 := CR34.trans (CHr.wr W37 own_safe0 CR34.1)
      have sg40 : SG p.tables e below (T37.setTop (mkF m 112 #[It p1, It p2, It p3, It p4, It v5_t0, It v11_t0, It v17_t0, It v23_t0, It r24, .unset] [(.ref b32), (.ref b29), (.ref b29)])) (T24.setTop (mkF m 66 #[It p1, It p2, It p3, It p4, It v5_t0, It v11_t0, It v17_t0, It v23_t0, It r24, .unset] [(.int v11_t0)])) := by
        intro target kt
        show Steps _ _ _ (T24.setTop (mkF m 66 #[It p1, It p2, It p3, It p4, It v5_t0, It v11_t0, It v17_t0, It v23_t0, It r24, .unset] [(.int v11_t0)])) _
        refine XS.ifYes X24.here hx rfl (pc0 := 66) (pc' := 98) rfl (hb hby at_66) rfl ((if0 _ _).trans (teq hc28).1) (by decide) (by decide) ?_
        refine st29 _ ?_
        refine XS.dup X29.here hx rfl (hb hby at_101) rfl rfl ?_
        refine XS.iconst X29.here hx rfl (hb hby at_102) ?_
        refine st32 _ ?_
        refine XS.dup X32.here hx rfl (hb hby at_105) rfl rfl ?_
        refine XS.iconst X32.here hx rfl (hb hby at_106) ?_
        refine XS.iloadN X32.here hx rfl (hb hby at_107) rfl ?_
        refine st35 _ ?_
        refine st37 _ ?_
        exact kt
      by_cases hc41 : (255 : Int32) < (nar .char r35)
      · obtain ⟨_, _, ⟨T42, L42, k42, n42⟩, -, X42, ⟨Lc42, hQ42, l42, y42, z42⟩, st42⟩ := X37.specialBack hx (y := m_17) rfl hown (mvT hZ (tw hw 13 rfl)) (mvT hZ (tw hw 14 rfl)) (mvT hZ (tw hw 15 rfl)) (by decide) (backOf (W := 1) (rm3_10 l Z a0 hw [] b29 b32 (nar .char r35) zC k32 h37 n0 O38 sC sA sH sL ((A29.ext E32).wr W37) ((F_value_b29.ext E32).other W37 (Or.inl (Nat.ne_of_lt (Nat.lt_of_lt_of_le A29.lt (Nat.le_of_eq g32.symm))))) ((F_coder_b29.ext E32).other W37 (Or.inl (Nat.ne_of_lt (Nat.lt_of_lt_of_le A29.lt (Nat.le_of_eq g32.symm))))) ge_b29 hCS V37 hc41 F_r35.1) hZ (tw hw 15 rfl) (tw hw 6 rfl) (by decide) (by decide)) (g := (mkF m 112 #[It p1, It p2, It p3, It p4, It v5_t0, It v11_t0, It v17_t0, It v23_t0, It r24, .unset] [(.ref b32), (.ref b29), (.ref b29)])) rfl (by rw [hml]; rfl) (Steps.refl _) (a := b29) (argsL := [(.ref b32)]) (rest := [(.ref b29)]) (lenOf pd_19 rfl) rfl (w0 rfl) (hb hby at_112) (fun _ _ => ⟨rfl, e37, (by decide : 2 + 2 ≤ _), (by decide : 5 + 3 ≤ _)⟩)
        dsimp only [Pt.U, Pt.locs, Pt.cells, Pt.slots] at X42 l42 y42 z42 st42 hQ42
        subst l42 y42 z42
        obtain ⟨ro_42, ko_42, rfl, N42q, K42q, O42, f42_0, f42_1, f42_2, f42_3, f42_4⟩ := hQ42
        have N42 := Fr.app N37 N42q
        have CR43 := CR39.trans (CHr.keep K42q (allS own_safe0 all0) CR39.1)
        have K42 := K37.trans K42q (allS (Or.inr sz_b29) all0)
        obtain ⟨sa44, T44, h44, k44, X44, e44, E44, Y44, Yk44, hZ44, hown44, C44, Lt44, st44⟩ := ldcOH X42 hx hZ hown (tw hw 39 rfl) hSA rfl Y0 (Nat.le_trans (Nat.le_trans (Nat.le_trans (Nat.le_trans Yk0 E29.1) E32.1) (Keep.of_wr W37).1) K42q.1) hEL CR43.1 (g := (mkF m 278 #[It p1, It p2, It p3, It p4, It v5_t0, It v11_t0, It v17_t0, It v23_t0, It r24, Rf b29] [(.ref b29)])) rfl (hb hby at_278) (n := 36) (by decide) (by decide) (by decide) (by decide)
        have O45 := O42.ext E44
        have K44 := K42.ext E44
        have CR46 := CR43.trans (C44)
        obtain ⟨_, _, ⟨T47, L47, k47, n47⟩, -, X47, ⟨Lc47, hQ47, l47, y47, z47⟩, st47⟩ := Jvm.LawKit.callS X44 hx (y := m_26) hown44 (mvT hZ44 (tw hw 42 rfl)) (mvT hZ44 (tw hw 43 rfl)) (mvT hZ44 (tw hw 44 rfl)) (mvT hZ44 (tw hw 45 rfl)) (by decide) (backOf (W := 0) (rm9_B1 l Z a0 hw [] b29 sa44 r24 (nar .char r35) ro_42 vFM zC ko_42 h44 n0 O45 hCS hFM sC sA sH sL sF ((((A29.ext E32).wr W37).keep K42q).ext E44) (f42_0.ext E44) (f42_1.ext E44) (f42_2.ext E44) F_r35 (own_lim1 hr24 hv23_t0 hc26)) hZ44 (tw hw 45 rfl) (tw hw 44 rfl) (by decide) (by decide)) (g := (mkF m 282 #[It p1, It p2, It p3, It p4, It v5_t0, It v11_t0, It v17_t0, It v23_t0, It r24, Rf b29] [(.int r24), (.ref sa44), (.ref b29)])) rfl (by rw [hml]; rfl) (argsL := [(.ref b29), (.ref sa44), (.int r24)]) (rest := []) (lenOf pd_20 rfl) rfl (w0 rfl) (hb hby at_282) (fun _ _ => ⟨rfl, e44, (by decide : 6 + 0 ≤ _), (by decide : 48 + 0 ≤ _)⟩)
        dsimp only [Pt.U, Pt.locs, Pt.cells, Pt.slots] at X47 l47 y47 z47 st47 hQ47
        subst l47 y47 z47
        obtain ⟨rfl, N47q, e47⟩ := hQ47
        have N47 := Fr.app N42 N47q
        have sg48 : SG p.tables e below (T47.setTop (mkF m 286 #[It p1, It p2, It p3, It p4, It v5_t0, It v11_t0, It v17_t0, It v23_t0, It r24, Rf b29] [(.int (1 : Int32))])) (T37.setTop (mkF m 112 #[It p1, It p2, It p3, It p4, It v5_t0, It v11_t0, It v17_t0, It v23_t0, It r24, .unset] [(.ref b32), (.ref b29), (.ref b29)])) := by
          intro target kt
          show Steps _ _ _ (T37.setTop (mkF m 112 #[It p1, It p2, It p3, It p4, It v5_t0, It v11_t0, It v17_t0, It v23_t0, It r24, .unset] [(.ref b32), (.ref b29), (.ref b29)])) _
          refine st42.trans ?_
          refine XS.astore X42.here hx rfl (hb hby at_115) rfl rfl (l' := #[It p1, It p2, It p3, It p4, It v5_t0, It v11_t0, It v17_t0, It v23_t0, It r24, Rf b29]) rfl ?_
          refine XS.goto X42.here hx rfl (pc0 := 117) (pc' := 276) rfl (hb hby at_117) (by decide) (by decide) ?_
          refine XS.aload X42.here hx rfl (hb hby at_276) rfl rfl ?_
          refine st44 _ ?_
          refine XS.iload X44.here hx rfl (hb hby at_280) rfl ?_
          refine st47 _ ?_
          refine XS.iconst X47.here hx rfl (hb hby at_285) ?_
          exact kt
        obtain ⟨fs, hr, hrun, hended, hRW⟩ := X47.leaveW Y44 (show _ ≤ T47.heap.size by rw [e47]; exact Yk44) (v := some (.int (1 : Int32))) (fun h => by rw [Bd.returns] at h; cases h)
        refine ⟨_, _, pre0 _ (sg5 _ (sg6 _ (sg11 _ (sg12 _ (sg17 _ (sg18 _ (sg23 _ (sg25 _ (sg27 _ (sg40 _ (sg48 _ (?_)))))))))))), hrun, hended, _, _, rfl, ?_, (by rw [hh]; show CHr Z own_EL s.vm h0 T47.vm T47.heap; rw [e47]; exact CR46.trans (CHv.at X47 hZ44 hEL CR46.1)), hRW.1, hRW.2.1, hRW.2.2.1, hRW.2.2.2.mono (by decide) (by decide)⟩
        · show Steps _ _ _ (T47.setTop (mkF m 286 #[It p1, It p2, It p3, It p4, It v5_t0, It v11_t0, It v17_t0, It v23_t0, It r24, Rf b29] [(.int (1 : Int32))])) _
          exact retN X47 hx (t := .boolean) Bd.returns (by simp) (hb hby at_286) hr
        · show Q0 Z p1 p2 p3 p4 vFM zC h0 n0 _ T47.heap _
          rw [e47]
          exact ⟨rfl, N47, K44, O45⟩
      · obtain ⟨_, _, ⟨T49, L49, k49, n49⟩, -, X49, ⟨Lc49, hQ49, l49, y49, z49⟩, st49⟩ := X37.specialBack hx (y := m_17) rfl hown (mvT hZ (tw hw 13 rfl)) (mvT hZ (tw hw 14 rfl)) (mvT hZ (tw hw 15 rfl)) (by decide) (backOf (W := 1) (rm3_11 l Z a0 hw [] b29 b32 (nar .char r35) zC k32 h37 n0 O38 sC ((A29.ext E32).wr W37) ((F_value_b29.ext E32).other W37 (Or.inl (Nat.ne_of_lt (Nat.lt_of_lt_of_le A29.lt (Nat.le_of_eq g32.symm))))) ((F_coder_b29.ext E32).other W37 (Or.inl (Nat.ne_of_lt (Nat.lt_of_lt_of_le A29.lt (Nat.le_of_eq g32.symm))))) ge_b29 hCS V37 hc41) hZ (tw hw 15 rfl) (tw hw 6 rfl) (by decide) (by decide)) (g := (mkF m 112 #[It p1, It p2, It p3, It p4, It v5_t0, It v11_t0, It v17_t0, It v23_t0, It r24, .unset] [(.ref b32), (.ref b29), (.ref b29)])) rfl (by rw [hml]; rfl) (Steps.refl _) (a := b29) (argsL := [(.ref b32)]) (rest := [(.ref b29)]) (lenOf pd_19 rfl) rfl (w0 rfl) (hb hby at_112) (fun _ _ => ⟨rfl, e37, (by decide : 2 + 1 ≤ _), (by decide : 5 + 1 ≤ _)⟩)
        dsimp only [Pt.U, Pt.locs, Pt.cells, Pt.slots] at X49 l49 y49 z49 st49 hQ49
        subst l49 y49 z49
        obtain ⟨ro_49, ko_49, rfl, N49q, K49q, O49, f49_0, f49_1, f49_2, f49_3, f49_4⟩ := hQ49
        have N49 := Fr.app N37 N49q
        have CR50 := CR39.trans (CHr.keep K49q (allS own_safe0 all0) CR39.1)
        have K49 := K37.trans K49q (allS (Or.inr sz_b29) all0)
        obtain ⟨sa51, T51, h51, k51, X51, e51, E51, Y51, Yk51, hZ51, hown51, C51, Lt51, st51⟩ := ldcOH X49 hx hZ hown (tw hw 39 rfl) hSA rfl Y0 (Nat.le_trans (Nat.le_trans (Nat.le_trans (Nat.le_trans Yk0 E29.1) E32.1) (Keep.of_wr W37).1) K49q.1) hEL CR50.1 (g := (mkF m 278 #[It p1, It p2, It p3, It p4, It v5_t0, It v11_t0, It v17_t0, It v23_t0, It r24, Rf b29] [(.ref b29)])) rfl (hb hby at_278) (n := 36) (by decide) (by decide) (by decide) (by decide)
        have O52 := O49.ext E51
        have K51 := K49.ext E51
        have CR53 := CR50.trans (C51)
        obtain ⟨_, _, ⟨T54, L54, k54, n54⟩, -, X54, ⟨Lc54, hQ54, l54, y54, z54⟩, st54⟩ := Jvm.LawKit.callS X51 hx (y := m_26) hown51 (mvT hZ51 (tw hw 42 rfl)) (mvT hZ51 (tw hw 43 rfl)) (mvT hZ51 (tw hw 44 rfl)) (mvT hZ51 (tw hw 45 rfl)) (by decide) (backOf (W := 0) (rm9_B0 l Z a0 hw [] b29 sa51 r24 (nar .char r35) ro_49 vFM zC ko_49 h51 n0 O52 hCS hFM sC sF ((((A29.ext E32).wr W37).keep K49q).ext E51) (f49_0.ext E51) (f49_1.ext E51) (f49_2.ext E51) F_r35 (own_lim1 hr24 hv23_t0 hc26) hc41) hZ51 (tw hw 45 rfl) (tw hw 44 rfl) (by decide) (by decide)) (g := (mkF m 282 #[It p1, It p2, It p3, It p4, It v5_t0, It v11_t0, It v17_t0, It v23_t0, It r24, Rf b29] [(.int r24), (.ref sa51), (.ref b29)])) rfl (by rw [hml]; rfl) (argsL := [(.ref b29), (.ref sa51), (.int r24)]) (rest := []) (lenOf pd_20 rfl) rfl (w0 rfl) (hb hby at_282) (fun _ _ => ⟨rfl, e51, (by decide : 5 + 0 ≤ _), (by decide : 46 + 0 ≤ _)⟩)
        dsimp only [Pt.U, Pt.locs, Pt.cells, Pt.slots] at X54 l54 y54 z54 st54 hQ54
        subst l54 y54 z54
        obtain ⟨rfl, N54q, e54⟩ := hQ54
        have N54 := Fr.app N49 N54q
        have sg55 : SG p.tables e below (T54.setTop (mkF m 286 #[It p1, It p2, It p3, It p4, It v5_t0, It v11_t0, It v17_t0, It v23_t0, It r24, Rf b29] [(.int (1 : Int32))])) (T37.setTop (mkF m 112 #[It p1, It p2, It p3, It p4, It v5_t0, It v11_t0, It v17_t0, It v23_t0, It r24, .unset] [(.ref b32), (.ref b29), (.ref b29)])) := by
          intro target kt
          show Steps _ _ _ (T37.setTop (mkF m 112 #[It p1, It p2, It p3, It p4, It v5_t0, It v11_t0, It v17_t0, It v23_t0, It r24, .unset] [(.ref b32), (.ref b29), (.ref b29)])) _
          refine st49.trans ?_
          refine XS.astore X49.here hx rfl (hb hby at_115) rfl rfl (l' := #[It p1, It p2, It p3, It p4, It v5_t0, It v11_t0, It v17_t0, It v23_t0, It r24, Rf b29]) rfl ?_
          refine XS.goto X49.here hx rfl (pc0 := 117) (pc' := 276) rfl (hb hby at_117) (by decide) (by decide) ?_
          refine XS.aload X49.here hx rfl (hb hby at_276) rfl rfl ?_
          refine st51 _ ?_
          refine XS.iload X51.here hx rfl (hb hby at_280) rfl ?_
          refine st54 _ ?_
          refine XS.iconst X54.here hx rfl (hb hby at_285) ?_
          exact kt
        obtain ⟨fs, hr, hrun, hended, hRW⟩ := X54.leaveW Y51 (show _ ≤ T54.heap.size by rw [e54]; exact Yk51) (v := some (.int (1 : Int32))) (fun h => by rw [Bd.returns] at h; cases h)
        refine ⟨_, _, pre0 _ (sg5 _ (sg6 _ (sg11 _ (sg12 _ (sg17 _ (sg18 _ (sg23 _ (sg25 _ (sg27 _ (sg40 _ (sg55 _ (?_)))))))))))), hrun, hended, _, _, rfl, ?_, (by rw [hh]; show CHr Z own_EL s.vm h0 T54.vm T54.heap; rw [e54]; exact CR53.trans (CHv.at X54 hZ51 hEL CR53.1)), hRW.1, hRW.2.1, hRW.2.2.1, hRW.2.2.2.mono (by decide) (by decide)⟩
        · show Steps _ _ _ (T54.setTop (mkF m 286 #[It p1, It p2, It p3, It p4, It v5_t0, It v11_t0, It v17_t0, It v23_t0, It r24, Rf b29] [(.int (1 : Int32))])) _
          exact retN X54 hx (t := .boolean) Bd.returns (by simp) (hb hby at_286) hr
        · show Q0 Z p1 p2 p3 p4 vFM zC h0 n0 _ T54.heap _
          rw [e54]
          exact ⟨rfl, N54, K51, O52⟩
    · obtain ⟨T56, h56, X56, e56, E56, A56, D56, -, st56⟩ := newO X24 hx hZ hown (tw hw 4 rfl) (tw hw 5 rfl) (tw hw 6 rfl) e24 (g := (mkF m 69 #[It p1, It p2, It p3, It p4, It v5_t0, It v11_t0, It v17_t0, It v23_t0, It r24, .unset] [])) rfl (hb hby at_69) (by decide) (by decide)
      obtain ⟨b56, g56⟩ : ∃ z, z = h0.size := ⟨_, rfl⟩
      rw [← g56] at A56 D56 st56
      have ge_b56 : n0 ≤ b56 := Nat.le_trans (own_osz O0) (Nat.le_of_eq g56.symm)
      have sz_b56 : h0.size ≤ b56 := Nat.le_trans K0.1 (Nat.le_of_eq g56.symm)
      have O57 := O0.ext E56
      have K56 := K0.ext E56
      have CR58 := CR0.trans (CHr.ext E56 CR0.1)
      have F_coder_b56 : Fld Z h56 b56 "java/lang/String" "coder" "B" (.int (0 : Int32)) := D56 (Or.inr (tw hw 36 rfl)) (ty := .byte) (by decide)
      have F_value_b56 : Fld Z h56 b56 "java/lang/String" "value" "[B" .null := D56 (Or.inr (tw hw 38 rfl)) (ty := (.array .byte)) (by decide)
      obtain ⟨T59, h59, k59, X59, e59, E59, A59, st59⟩ := newP X56 hx hZ (tw hw 7 rfl) e56 (g := (mkF m 74 #[It p1, It p2, It p3, It p4, It v5_t0, It v11_t0, It v17_t0, It v23_t0, It r24, .unset] [(.int (2 : Int32)), (.ref b56), (.ref b56)])) rfl (hb hby at_74) rfl (by decide) (cap := 2) (by decide) (by decide) (by decide) (by decide)
      obtain ⟨b59, g59⟩ : ∃ z, z = h56.size := ⟨_, rfl⟩
      rw [← g59] at A59 st59
      have ge_b59 : n0 ≤ b59 := Nat.le_trans (own_osz O57) (Nat.le_of_eq g59.symm)
      have sz_b59 : h0.size ≤ b59 := Nat.le_trans K56.1 (Nat.le_of_eq g59.symm)
      have O60 := O57.ext E59
      have K59 := K56.ext E59
      have CR61 := CR58.trans (CHr.ext E59 CR58.1)
      have V_b59 : Arv Z h59 b59 k59 .char (2 : Int32) [(.int (0 : Int32)), (.int (0 : Int32))] (.int (0 : Int32)) := (Arv.new A59 (by decide)).pad (pad_rep [] (.int (0 : Int32)) 2)
      obtain ⟨_, _, ⟨T62, L62, k62, n62⟩, -, X62, ⟨Lc62, hQ62, l62, y62, z62⟩, st62⟩ := Jvm.LawKit.callS X59 hx (y := m_2) hown (mvT hZ (tw hw 81 rfl)) (mvT hZ (tw hw 82 rfl)) (mvT hZ (tw hw 10 rfl)) (mvT hZ (tw hw 83 rfl)) (by decide) (backOf (W := 5) (rm17 l Z a0 hw [] p1 h59 n0 O60 ) hZ (tw hw 83 rfl) (tw hw 10 rfl) (by decide) (by decide)) (g := (mkF m 79 #[It p1, It p2, It p3, It p4, It v5_t0, It v11_t0, It v17_t0, It v23_t0, It r24, .unset] [(.int p1), (.int (0 : Int32)), (.ref b59), (.ref b59), (.ref b56), (.ref b56)])) rfl (by rw [hml]; rfl) (argsL := [(.int p1)]) (rest := [(.int (0 : Int32)), (.ref b59), (.ref b59), (.ref b56), (.ref b56)]) (lenOf pd_18 rfl) rfl (w0 rfl) (hb hby at_79) (fun _ _ => ⟨rfl, e59, (by decide : 2 + 0 ≤ _), (by decide : 6 + 0 ≤ _)⟩)
      dsimp only [Pt.U, Pt.locs, Pt.cells, Pt.slots] at X62 l62 y62 z62 st62 hQ62
      subst l62 y62 z62
      obtain ⟨rfl, N62q, e62⟩ := hQ62
      have N62 := Fr.app N24 N62q
      obtain ⟨r62, hr62⟩ : ∃ z, z = (((55296 : Int32) + (((((p1.toUInt32 >>> ((1 : Int32) &&& 31).toUInt32).toInt32) % (1048576 : Int32)).toUInt32 >>> ((10 : Int32) &&& 31).toUInt32).toInt32)).toUInt32.toUInt16.toUInt32.toInt32) := ⟨_, rfl⟩
      rw [← hr62] at st62
      have F_r62 := own_hiF hr62
      obtain ⟨cl63, Ar63, q63, Sz63, Nn63, Hh63, Gg63⟩ := id V_b59
      have hin63 : ¬ ((0 : Int32) < 0 ∨ cl63.slots.size ≤ ((0 : Int32)).toNatClampNeg) := inb_of Sz63 ⟨by decide, by decide⟩
      obtain ⟨T64, h64, X64, e64, W64, st64⟩ := stC X62 hx hZ e62 Ar63 (j := (0 : Int32)) hin63 (g := (mkF m 82 #[It p1, It p2, It p3, It p4, It v5_t0, It v11_t0, It v17_t0, It v23_t0, It r24, .unset] [(.int r62), (.int (0 : Int32)), (.ref b59), (.ref b59), (.ref b56), (.ref b56)])) rfl rfl (hb hby at_82)
      have V64 : Arv Z h64 b59 k59 .char (2 : Int32) [(.int (nar .char r62)), (.int (0 : Int32))] (.int (0 : Int32)) := Arv.set Ar63 q63 Sz63 Nn63 Hh63 Gg63 (fits_nar_char _) W64 0 rfl (Nat.le_of_ble_eq_true rfl)
      have N64 := Fr.snoc X64 N62 ge_b59
      have O65 := O60.wr W64 ge_b59
      have K64 := K59.wr W64 (Or.inr sz_b59)
      have CR66 := CR61.trans (CHr.wr W64 own_safe0 CR61.1)
      obtain ⟨_, _, ⟨T67, L67, k67, n67⟩, -, X67, ⟨Lc67, hQ67, l67, y67, z67⟩, st67⟩ := Jvm.LawKit.callS X64 hx (y := m_3) hown (mvT hZ (tw hw 85 rfl)) (mvT hZ (tw hw 86 rfl)) (mvT hZ (tw hw 10 rfl)) (mvT hZ (tw hw 87 rfl)) (by decide) (backOf (W := 5) (rm18 l Z a0 hw [] p1 h64 n0 O65 ) hZ (tw hw 87 rfl) (tw hw 10 rfl) (by decide) (by decide)) (g := (mkF m 86 #[It p1, It p2, It p3, It p4, It v5_t0, It v11_t0, It v17_t0, It v23_t0, It r24, .unset] [(.int p1), (.int (1 : Int32)), (.ref b59), (.ref b59), (.ref b56), (.ref b56)])) rfl (by rw [hml]; rfl) (argsL := [(.int p1)]) (rest := [(.int (1 : Int32)), (.ref b59), (.ref b59), (.ref b56), (.ref b56)]) (lenOf pd_18 rfl) rfl (w0 rfl) (hb hby at_86) (fun _ _ => ⟨rfl, e64, (by decide : 2 + 0 ≤ _), (by decide : 6 + 0 ≤ _)⟩)
      dsimp only [Pt.U, Pt.locs, Pt.cells, Pt.slots] at X67 l67 y67 z67 st67 hQ67
      subst l67 y67 z67
      obtain ⟨rfl, N67q, e67⟩ := hQ67
      have N67 := Fr.app N64 N67q
      obtain ⟨r67, hr67⟩ : ∃ z, z = (((56320 : Int32) + ((((p1.toUInt32 >>> ((1 : Int32) &&& 31).toUInt32).toInt32) % (1048576 : Int32)) &&& (1023 : Int32))).toUInt32.toUInt16.toUInt32.toInt32) := ⟨_, rfl⟩
      rw [← hr67] at st67
      have F_r67 := own_loF hr67
      obtain ⟨cl68, Ar68, q68, Sz68, Nn68, Hh68, Gg68⟩ := id V64
      have hin68 : ¬ ((1 : Int32) < 0 ∨ cl68.slots.size ≤ ((1 : Int32)).toNatClampNeg) := inb_of Sz68 ⟨by decide, by decide⟩
      obtain ⟨T69, h69, X69, e69, W69, st69⟩ := stC X67 hx hZ e67 Ar68 (j := (1 : Int32)) hin68 (g := (mkF m 89 #[It p1, It p2, It p3, It p4, It v5_t0, It v11_t0, It v17_t0, It v23_t0, It r24, .unset] [(.int r67), (.int (1 : Int32)), (.ref b59), (.ref b59), (.ref b56), (.ref b56)])) rfl rfl (hb hby at_89)
      have V69 : Arv Z h69 b59 k59 .char (2 : Int32) [(.int (nar .char r62)), (.int (nar .char r67))] (.int (0 : Int32)) := Arv.set Ar68 q68 Sz68 Nn68 Hh68 Gg68 (fits_nar_char _) W69 1 rfl (Nat.le_of_ble_eq_true rfl)
      have N69 := Fr.snoc X69 N67 ge_b59
      have O70 := O65.wr W69 ge_b59
      have K69 := K64.wr W69 (Or.inr sz_b59)
      have CR71 := CR66.trans (CHr.wr W69 own_safe0 CR66.1)
      obtain ⟨_, _, ⟨T72, L72, k72, n72⟩, -, X72, ⟨Lc72, hQ72, l72, y72, z72⟩, st72⟩ := X69.specialBack hx (y := m_17) rfl hown (mvT hZ (tw hw 13 rfl)) (mvT hZ (tw hw 14 rfl)) (mvT hZ (tw hw 15 rfl)) (by decide) (backOf (W := 1) (rm3_20 l Z a0 hw [] b56 b59 (nar .char r62) (nar .char r67) zC k59 h69 n0 O70 sC sA sH sL (((A56.ext E59).wr W64).wr W69) (((F_value_b56.ext E59).other W64 (Or.inl (Nat.ne_of_lt (Nat.lt_of_lt_of_le A56.lt (Nat.le_of_eq g59.symm))))).other W69 (Or.inl (Nat.ne_of_lt (Nat.lt_of_lt_of_le A56.lt (Nat.le_of_eq g59.symm))))) (((F_coder_b56.ext E59).other W64 (Or.inl (Nat.ne_of_lt (Nat.lt_of_lt_of_le A56.lt (Nat.le_of_eq g59.symm))))).other W69 (Or.inl (Nat.ne_of_lt (Nat.lt_of_lt_of_le A56.lt (Nat.le_of_eq g59.symm))))) ge_b56 hCS V69 (Or.inl (own_big F_r62)) F_r62.1 F_r67.1) hZ (tw hw 15 rfl) (tw hw 6 rfl) (by decide) (by decide)) (g := (mkF m 90 #[It p1, It p2, It p3, It p4, It v5_t0, It v11_t0, It v17_t0, It v23_t0, It r24, .unset] [(.ref b59), (.ref b56), (.ref b56)])) rfl (by rw [hml]; rfl) (Steps.refl _) (a := b56) (argsL := [(.ref b59)]) (rest := [(.ref b56)]) (lenOf pd_19 rfl) rfl (w0 rfl) (hb hby at_90) (fun _ _ => ⟨rfl, e69, (by decide : 2 + 2 ≤ _), (by decide : 6 + 6 ≤ _)⟩)
      dsimp only [Pt.U, Pt.locs, Pt.cells, Pt.slots] at X72 l72 y72 z72 st72 hQ72
      subst l72 y72 z72
      obtain ⟨ro_72, ko_72, rfl, N72q, K72q, O72, f72_0, f72_1, f72_2, f72_3, f72_4⟩ := hQ72
      have N72 := Fr.app N69 N72q
      have CR73 := CR71.trans (CHr.keep K72q (allS own_safe0 all0) CR71.1)
      have K72 := K69.trans K72q (allS (Or.inr sz_b56) all0)
      obtain ⟨sa74, T74, h74, k74, X74, e74, E74, Y74, Yk74, hZ74, hown74, C74, Lt74, st74⟩ := ldcOH X72 hx hZ hown (tw hw 39 rfl) hSA rfl Y0 (Nat.le_trans (Nat.le_trans (Nat.le_trans (Nat.le_trans (Nat.le_trans Yk0 E56.1) E59.1) (Keep.of_wr W64).1) (Keep.of_wr W69).1) K72q.1) hEL CR73.1 (g := (mkF m 278 #[It p1, It p2, It p3, It p4, It v5_t0, It v11_t0, It v17_t0, It v23_t0, It r24, Rf b56] [(.ref b56)])) rfl (hb hby at_278) (n := 36) (by decide) (by decide) (by decide) (by decide)
      have O75 := O72.ext E74
      have K74 := K72.ext E74
      have CR76 := CR73.trans (C74)
      obtain ⟨_, _, ⟨T77, L77, k77, n77⟩, -, X77, ⟨Lc77, hQ77, l77, y77, z77⟩, st77⟩ := Jvm.LawKit.callS X74 hx (y := m_26) hown74 (mvT hZ74 (tw hw 42 rfl)) (mvT hZ74 (tw hw 43 rfl)) (mvT hZ74 (tw hw 44 rfl)) (mvT hZ74 (tw hw 45 rfl)) (by decide) (backOf (W := 0) (rm9_P1 l Z a0 hw [] b56 sa74 r24 (nar .char r62) (nar .char r67) ro_72 vFM zC ko_72 h74 n0 O75 hCS hFM sC sA sH sL sF (((((A56.ext E59).wr W64).wr W69).keep K72q).ext E74) (f72_0.ext E74) (f72_1.ext E74) (f72_2.ext E74) F_r62 F_r67 (own_lim1 hr24 hv23_t0 hc26)) hZ74 (tw hw 45 rfl) (tw hw 44 rfl) (by decide) (by decide)) (g := (mkF m 282 #[It p1, It p2, It p3, It p4, It v5_t0, It v11_t0, It v17_t0, It v23_t0, It r24, Rf b56] [(.int r24), (.ref sa74), (.ref b56)])) rfl (by rw [hml]; rfl) (argsL := [(.ref b56), (.ref sa74), (.int r24)]) (rest := []) (lenOf pd_20 rfl) rfl (w0 rfl) (hb hby at_282) (fun _ _ => ⟨rfl, e74, (by decide : 6 + 0 ≤ _), (by decide : 52 + 0 ≤ _)⟩)
      dsimp only [Pt.U, Pt.locs, Pt.cells, Pt.slots] at X77 l77 y77 z77 st77 hQ77
      subst l77 y77 z77
      obtain ⟨rfl, N77q, e77⟩ := hQ77
      have N77 := Fr.app N72 N77q
      have sg78 : SG p.tables e below (T77.setTop (mkF m 286 #[It p1, It p2, It p3, It p4, It v5_t0, It v11_t0, It v17_t0, It v23_t0, It r24, Rf b56] [(.int (1 : Int32))])) (T24.setTop (mkF m 66 #[It p1, It p2, It p3, It p4, It v5_t0, It v11_t0, It v17_t0, It v23_t0, It r24, .unset] [(.int v11_t0)])) := by
        intro target kt
        show Steps _ _ _ (T24.setTop (mkF m 66 #[It p1, It p2, It p3, It p4, It v5_t0, It v11_t0, It v17_t0, It v23_t0, It r24, .unset] [(.int v11_t0)])) _
        refine XS.ifNo X24.here hx rfl (hb hby at_66) rfl ((if0 _ _).trans (feq hc28).1) ?_
        refine st56 _ ?_
        refine XS.dup X56.here hx rfl (hb hby at_72) rfl rfl ?_
        refine XS.iconst X56.here hx rfl (hb hby at_73) ?_
        refine st59 _ ?_
        refine XS.dup X59.here hx rfl (hb hby at_76) rfl rfl ?_
        refine XS.iconst X59.here hx rfl (hb hby at_77) ?_
        refine XS.iloadN X59.here hx rfl (hb hby at_78) rfl ?_
        refine st62 _ ?_
        refine st64 _ ?_
        refine XS.dup X64.here hx rfl (hb hby at_83) rfl rfl ?_
        refine XS.iconst X64.here hx rfl (hb hby at_84) ?_
        refine XS.iloadN X64.here hx rfl (hb hby at_85) rfl ?_
        refine st67 _ ?_
        refine st69 _ ?_
        refine st72.trans ?_
        refine XS.astore X72.here hx rfl (hb hby at_93) rfl rfl (l' := #[It p1, It p2, It p3, It p4, It v5_t0, It v11_t0, It v17_t0, It v23_t0, It r24, Rf b56]) rfl ?_
        refine XS.goto X72.here hx rfl (pc0 := 95) (pc' := 276) rfl (hb hby at_95) (by decide) (by decide) ?_
        refine XS.aload X72.here hx rfl (hb hby at_276) rfl rfl ?_
        refine st74 _ ?_
        refine XS.iload X74.here hx rfl (hb hby at_280) rfl ?_
        refine st77 _ ?_
        refine XS.iconst X77.here hx rfl (hb hby at_285) ?_
        exact kt
      obtain ⟨fs, hr, hrun, hended, hRW⟩ := X77.leaveW Y74 (show _ ≤ T77.heap.size by rw [e77]; exact Yk74) (v := some (.int (1 : Int32))) (fun h => by rw [Bd.returns] at h; cases h)
      refine ⟨_, _, pre0 _ (sg5 _ (sg6 _ (sg11 _ (sg12 _ (sg17 _ (sg18 _ (sg23 _ (sg25 _ (sg27 _ (sg78 _ (?_))))))))))), hrun, hended, _, _, rfl, ?_, (by rw [hh]; show CHr Z own_EL s.vm h0 T77.vm T77.heap; rw [e77]; exact CR76.trans (CHv.at X77 hZ74 hEL CR76.1)), hRW.1, hRW.2.1, hRW.2.2.1, hRW.2.2.2.mono (by decide) (by decide)⟩
      · show Steps _ _ _ (T77.setTop (mkF m 286 #[It p1, It p2, It p3, It p4, It v5_t0, It v11_t0, It v17_t0, It v23_t0, It r24, Rf b56] [(.int (1 : Int32))])) _
        exact retN X77 hx (t := .boolean) Bd.returns (by simp) (hb hby at_286) hr
      · show Q0 Z p1 p2 p3 p4 vFM zC h0 n0 _ T77.heap _
        rw [e77]
        exact ⟨rfl, N77, K74, O75⟩
  · have sg79 : SG p.tables e below (T24.setTop (mkF m 122 #[It p1, It p2, It p3, It p4, It v5_t0, It v11_t0, It v17_t0, It v23_t0, It r24, .unset] [(.int v11_t0)])) (T24.setTop (mkF m 61 #[It p1, It p2, It p3, It p4, It v5_t0, It v11_t0, It v17_t0, It v23_t0, It r24, .unset] [(.int v5_t0)])) := by
      intro target kt
      show Steps _ _ _ (T24.setTop (mkF m 61 #[It p1, It p2, It p3, It p4, It v5_t0, It v11_t0, It v17_t0, It v23_t0, It r24, .unset] [(.int v5_t0)])) _
      refine XS.ifYes X24.here hx rfl (pc0 := 61) (pc' := 120) rfl (hb hby at_61) rfl ((if0 _ _).trans (feq hc26).2) (by decide) (by decide) ?_
      refine XS.iload X24.here hx rfl (hb hby at_120) rfl ?_
      exact kt
    by_cases hc80 : v11_t0 = (0 : Int32)
    · have sg81 : SG p.tables e below (T24.setTop (mkF m 211 #[It p1, It p2, It p3, It p4, It v5_t0, It v11_t0, It v17_t0, It v23_t0, It r24, .unset] [(.int v17_t0)])) (T24.setTop (mkF m 122 #[It p1, It p2, It p3, It p4, It v5_t0, It v11_t0, It v17_t0, It v23_t0, It r24, .unset] [(.int v11_t0)])) := by
        intro target kt
        show Steps _ _ _ (T24.setTop (mkF m 122 #[It p1, It p2, It p3, It p4, It v5_t0, It v11_t0, It v17_t0, It v23_t0, It r24, .unset] [(.int v11_t0)])) _
        refine XS.ifYes X24.here hx rfl (pc0 := 122) (pc' := 209) rfl (hb hby at_122) rfl ((if0 _ _).trans (teq hc80).1) (by decide) (by decide) ?_
        refine XS.iload X24.here hx rfl (hb hby at_209) rfl ?_
        exact kt
      by_cases hc82 : v17_t0 = (0 : Int32)
      · obtain ⟨T83, h83, X83, e83, E83, A83, D83, -, st83⟩ := newO X24 hx hZ hown (tw hw 4 rfl) (tw hw 5 rfl) (tw hw 6 rfl) e24 (g := (mkF m 250 #[It p1, It p2, It p3, It p4, It v5_t0, It v11_t0, It v17_t0, It v23_t0, It r24, .unset] [])) rfl (hb hby at_250) (by decide) (by decide)
        obtain ⟨b83, g83⟩ : ∃ z, z = h0.size := ⟨_, rfl⟩
        rw [← g83] at A83 D83 st83
        have ge_b83 : n0 ≤ b83 := Nat.le_trans (own_osz O0) (Nat.le_of_eq g83.symm)
        have sz_b83 : h0.size ≤ b83 := Nat.le_trans K0.1 (Nat.le_of_eq g83.symm)
        have O84 := O0.ext E83
        have K83 := K0.ext E83
        have CR85 := CR0.trans (CHr.ext E83 CR0.1)
        have F_coder_b83 : Fld Z h83 b83 "java/lang/String" "coder" "B" (.int (0 : Int32)) := D83 (Or.inr (tw hw 36 rfl)) (ty := .byte) (by decide)
        have F_value_b83 : Fld Z h83 b83 "java/lang/String" "value" "[B" .null := D83 (Or.inr (tw hw 38 rfl)) (ty := (.array .byte)) (by decide)
        obtain ⟨T86, h86, k86, X86, e86, E86, A86, st86⟩ := newP X83 hx hZ (tw hw 7 rfl) e83 (g := (mkF m 255 #[It p1, It p2, It p3, It p4, It v5_t0, It v11_t0, It v17_t0, It v23_t0, It r24, .unset] [(.int (2 : Int32)), (.ref b83), (.ref b83)])) rfl (hb hby at_255) rfl (by decide) (cap := 2) (by decide) (by decide) (by decide) (by decide)
        obtain ⟨b86, g86⟩ : ∃ z, z = h83.size := ⟨_, rfl⟩
        rw [← g86] at A86 st86
        have ge_b86 : n0 ≤ b86 := Nat.le_trans (own_osz O84) (Nat.le_of_eq g86.symm)
        have sz_b86 : h0.size ≤ b86 := Nat.le_trans K83.1 (Nat.le_of_eq g86.symm)
        have O87 := O84.ext E86
        have K86 := K83.ext E86
        have CR88 := CR85.trans (CHr.ext E86 CR85.1)
        have V_b86 : Arv Z h86 b86 k86 .char (2 : Int32) [(.int (0 : Int32)), (.int (0 : Int32))] (.int (0 : Int32)) := (Arv.new A86 (by decide)).pad (pad_rep [] (.int (0 : Int32)) 2)
        obtain ⟨_, _, ⟨T89, L89, k89, n89⟩, -, X89, ⟨Lc89, hQ89, l89, y89, z89⟩, st89⟩ := Jvm.LawKit.callS X86 hx (y := m_1) hown (mvT hZ (tw hw 8 rfl)) (mvT hZ (tw hw 9 rfl)) (mvT hZ (tw hw 10 rfl)) (mvT hZ (tw hw 11 rfl)) (by decide) (backOf (W := 5) (rm2 l Z a0 hw [] p1 h86 n0 O87 ) hZ (tw hw 11 rfl) (tw hw 10 rfl) (by decide) (by decide)) (g := (mkF m 260 #[It p1, It p2, It p3, It p4, It v5_t0, It v11_t0, It v17_t0, It v23_t0, It r24, .unset] [(.int p1), (.int (0 : Int32)), (.ref b86), (.ref b86), (.ref b83), (.ref b83)])) rfl (by rw [hml]; rfl) (argsL := [(.int p1)]) (rest := [(.int (0 : Int32)), (.ref b86), (.ref b86), (.ref b83), (.ref b83)]) (lenOf pd_18 rfl) rfl (w0 rfl) (hb hby at_260) (fun _ _ => ⟨rfl, e86, (by decide : 2 + 0 ≤ _), (by decide : 6 + 0 ≤ _)⟩)
        dsimp only [Pt.U, Pt.locs, Pt.cells, Pt.slots] at X89 l89 y89 z89 st89 hQ89
        subst l89 y89 z89
        obtain ⟨rfl, N89q, e89⟩ := hQ89
        have N89 := Fr.app N24 N89q
        obtain ⟨r89, hr89⟩ : ∃ z, z = (if (((p1.toUInt32 >>> ((1 : Int32) &&& 31).toUInt32).toInt32) &&& (65535 : Int32)) = (0 : Int32) then (1 : Int32) else (if (((p1.toUInt32 >>> ((1 : Int32) &&& 31).toUInt32).toInt32) &&& (65535 : Int32)) < (55296 : Int32) then ((((p1.toUInt32 >>> ((1 : Int32) &&& 31).toUInt32).toInt32) &&& (65535 : Int32)).toUInt32.toUInt16.toUInt32.toInt32) else (if (57343 : Int32) < (((p1.toUInt32 >>> ((1 : Int32) &&& 31).toUInt32).toInt32) &&& (65535 : Int32)) then ((((p1.toUInt32 >>> ((1 : Int32) &&& 31).toUInt32).toInt32) &&& (65535 : Int32)).toUInt32.toUInt16.toUInt32.toInt32) else (((((p1.toUInt32 >>> ((1 : Int32) &&& 31).toUInt32).toInt32) &&& (65535 : Int32)) - (2048 : Int32)).toUInt32.toUInt16.toUInt32.toInt32)))) := ⟨_, rfl⟩
        rw [← hr89] at st89
        have F_r89 := own_bmF hr89
        obtain ⟨cl90, Ar90, q90, Sz90, Nn90, Hh90, Gg90⟩ := id V_b86
        have hin90 : ¬ ((0 : Int32) < 0 ∨ cl90.slots.size ≤ ((0 : Int32)).toNatClampNeg) := inb_of Sz90 ⟨by decide, by decide⟩
        obtain ⟨T91, h91, X91, e91, W91, st91⟩ := stC X89 hx hZ e89 Ar90 (j := (0 : Int32)) hin90 (g := (mkF m 263 #[It p1, It p2, It p3, It p4, It v5_t0, It v11_t0, It v17_t0, It v23_t0, It r24, .unset] [(.int r89), (.int (0 : Int32)), (.ref b86), (.ref b86), (.ref b83), (.ref b83)])) rfl rfl (hb hby at_263)
        have V91 : Arv Z h91 b86 k86 .char (2 : Int32) [(.int (nar .char r89)), (.int (0 : Int32))] (.int (0 : Int32)) := Arv.set Ar90 q90 Sz90 Nn90 Hh90 Gg90 (fits_nar_char _) W91 0 rfl (Nat.le_of_ble_eq_true rfl)
        have N91 := Fr.snoc X91 N89 ge_b86
        have O92 := O87.wr W91 ge_b86
        have K91 := K86.wr W91 (Or.inr sz_b86)
        have CR93 := CR88.trans (CHr.wr W91 own_safe0 CR88.1)
        obtain ⟨_, _, ⟨T94, L94, k94, n94⟩, -, X94, ⟨Lc94, hQ94, l94, y94, z94⟩, st94⟩ := Jvm.LawKit.callS X91 hx (y := m_1) hown (mvT hZ (tw hw 8 rfl)) (mvT hZ (tw hw 9 rfl)) (mvT hZ (tw hw 10 rfl)) (mvT hZ (tw hw 11 rfl)) (by decide) (backOf (W := 5) (rm2 l Z a0 hw [] p2 h91 n0 O92 ) hZ (tw hw 11 rfl) (tw hw 10 rfl) (by decide) (by decide)) (g := (mkF m 267 #[It p1, It p2, It p3, It p4, It v5_t0, It v11_t0, It v17_t0, It v23_t0, It r24, .unset] [(.int p2), (.int (1 : Int32)), (.ref b86), (.ref b86), (.ref b83), (.ref b83)])) rfl (by rw [hml]; rfl) (argsL := [(.int p2)]) (rest := [(.int (1 : Int32)), (.ref b86), (.ref b86), (.ref b83), (.ref b83)]) (lenOf pd_18 rfl) rfl (w0 rfl) (hb hby at_267) (fun _ _ => ⟨rfl, e91, (by decide : 2 + 0 ≤ _), (by decide : 6 + 0 ≤ _)⟩)
        dsimp only [Pt.U, Pt.locs, Pt.cells, Pt.slots] at X94 l94 y94 z94 st94 hQ94
        subst l94 y94 z94
        obtain ⟨rfl, N94q, e94⟩ := hQ94
        have N94 := Fr.app N91 N94q
        obtain ⟨r94, hr94⟩ : ∃ z, z = (if (((p2.toUInt32 >>> ((1 : Int32) &&& 31).toUInt32).toInt32) &&& (65535 : Int32)) = (0 : Int32) then (1 : Int32) else (if (((p2.toUInt32 >>> ((1 : Int32) &&& 31).toUInt32).toInt32) &&& (65535 : Int32)) < (55296 : Int32) then ((((p2.toUInt32 >>> ((1 : Int32) &&& 31).toUInt32).toInt32) &&& (65535 : Int32)).toUInt32.toUInt16.toUInt32.toInt32) else (if (57343 : Int32) < (((p2.toUInt32 >>> ((1 : Int32) &&& 31).toUInt32).toInt32) &&& (65535 : Int32)) then ((((p2.toUInt32 >>> ((1 : Int32) &&& 31).toUInt32).toInt32) &&& (65535 : Int32)).toUInt32.toUInt16.toUInt32.toInt32) else (((((p2.toUInt32 >>> ((1 : Int32) &&& 31).toUInt32).toInt32) &&& (65535 : Int32)) - (2048 : Int32)).toUInt32.toUInt16.toUInt32.toInt32)))) := ⟨_, rfl⟩
        rw [← hr94] at st94
        have F_r94 := own_bmF hr94
        obtain ⟨cl95, Ar95, q95, Sz95, Nn95, Hh95, Gg95⟩ := id V91
        have hin95 : ¬ ((1 : Int32) < 0 ∨ cl95.slots.size ≤ ((1 : Int32)).toNatClampNeg) := inb_of Sz95 ⟨by decide, by decide⟩
        obtain ⟨T96, h96, X96, e96, W96, st96⟩ := stC X94 hx hZ e94 Ar95 (j := (1 : Int32)) hin95 (g := (mkF m 270 #[It p1, It p2, It p3, It p4, It v5_t0, It v11_t0, It v17_t0, It v23_t0, It r24, .unset] [(.int r94), (.int (1 : Int32)), (.ref b86), (.ref b86), (.ref b83), (.ref b83)])) rfl rfl (hb hby at_270)
        have V96 : Arv Z h96 b86 k86 .char (2 : Int32) [(.int (nar .char r89)), (.int (nar .char r94))] (.int (0 : Int32)) := Arv.set Ar95 q95 Sz95 Nn95 Hh95 Gg95 (fits_nar_char _) W96 1 rfl (Nat.le_of_ble_eq_true rfl)
        have N96 := Fr.snoc X96 N94 ge_b86
        have O97 := O92.wr W96 ge_b86
        have K96 := K91.wr W96 (Or.inr sz_b86)
        have CR98 := CR93.trans (CHr.wr W96 own_safe0 CR93.1)
        have sg99 : SG p.tables e below (T96.setTop (mkF m 271 #[It p1, It p2, It p3, It p4, It v5_t0, It v11_t0, It v17_t0, It v23_t0, It r24, .unset] [(.ref b86), (.ref b83), (.ref b83)])) (T24.setTop (mkF m 211 #[It p1, It p2, It p3, It p4, It v5_t0, It v11_t0, It v17_t0, It v23_t0, It r24, .unset] [(.int v17_t0)])) := by
          intro target kt
          show Steps _ _ _ (T24.setTop (mkF m 211 #[It p1, It p2, It p3, It p4, It v5_t0, It v11_t0, It v17_t0, It v23_t0, It r24, .unset] [(.int v17_t0)])) _
          refine XS.ifYes X24.here hx rfl (pc0 := 211) (pc' := 250) rfl (hb hby at_211) rfl ((if0 _ _).trans (teq hc82).1) (by decide) (by decide) ?_
          refine st83 _ ?_
          refine XS.dup X83.here hx rfl (hb hby at_253) rfl rfl ?_
          refine XS.iconst X83.here hx rfl (hb hby at_254) ?_
          refine st86 _ ?_
          refine XS.dup X86.here hx rfl (hb hby at_257) rfl rfl ?_
          refine XS.iconst X86.here hx rfl (hb hby at_258) ?_
          refine XS.iloadN X86.here hx rfl (hb hby at_259) rfl ?_
          refine st89 _ ?_
          refine st91 _ ?_
          refine XS.dup X91.here hx rfl (hb hby at_264) rfl rfl ?_
          refine XS.iconst X91.here hx rfl (hb hby at_265) ?_
          refine XS.iloadN X91.here hx rfl (hb hby at_266) rfl ?_
          refine st94 _ ?_
          refine st96 _ ?_
          exact kt
        by_cases hc100 : ((255 : Int32) < (nar .char r89) ∨ (255 : Int32) < (nar .char r94))
        · obtain ⟨_, _, ⟨T101, L101, k101, n101⟩, -, X101, ⟨Lc101, hQ101, l101, y101, z101⟩, st101⟩ := X96.specialBack hx (y := m_17) rfl hown (mvT hZ (tw hw 13 rfl)) (mvT hZ (tw hw 14 rfl)) (mvT hZ (tw hw 15 rfl)) (by decide) (backOf (W := 1) (rm3_20 l Z a0 hw [] b83 b86 (nar .char r89) (nar .char r94) zC k86 h96 n0 O97 sC sA sH sL (((A83.ext E86).wr W91).wr W96) (((F_value_b83.ext E86).other W91 (Or.inl (Nat.ne_of_lt (Nat.lt_of_lt_of_le A83.lt (Nat.le_of_eq g86.symm))))).other W96 (Or.inl (Nat.ne_of_lt (Nat.lt_of_lt_of_le A83.lt (Nat.le_of_eq g86.symm))))) (((F_coder_b83.ext E86).other W91 (Or.inl (Nat.ne_of_lt (Nat.lt_of_lt_of_le A83.lt (Nat.le_of_eq g86.symm))))).other W96 (Or.inl (Nat.ne_of_lt (Nat.lt_of_lt_of_le A83.lt (Nat.le_of_eq g86.symm))))) ge_b83 hCS V96 hc100 F_r89.1 F_r94.1) hZ (tw hw 15 rfl) (tw hw 6 rfl) (by decide) (by decide)) (g := (mkF m 271 #[It p1, It p2, It p3, It p4, It v5_t0, It v11_t0, It v17_t0, It v23_t0, It r24, .unset] [(.ref b86), (.ref b83), (.ref b83)])) rfl (by rw [hml]; rfl) (Steps.refl _) (a := b83) (argsL := [(.ref b86)]) (rest := [(.ref b83)]) (lenOf pd_19 rfl) rfl (w0 rfl) (hb hby at_271) (fun _ _ => ⟨rfl, e96, (by decide : 2 + 2 ≤ _), (by decide : 6 + 6 ≤ _)⟩)
          dsimp only [Pt.U, Pt.locs, Pt.cells, Pt.slots] at X101 l101 y101 z101 st101 hQ101
          subst l101 y101 z101
          obtain ⟨ro_101, ko_101, rfl, N101q, K101q, O101, f101_0, f101_1, f101_2, f101_3, f101_4⟩ := hQ101
          have N101 := Fr.app N96 N101q
          have CR102 := CR98.trans (CHr.keep K101q (allS own_safe0 all0) CR98.1)
          have K101 := K96.trans K101q (allS (Or.inr sz_b83) all0)
          obtain ⟨sa103, T103, h103, k103, X103, e103, E103, Y103, Yk103, hZ103, hown103, C103, Lt103, st103⟩ := ldcOH X101 hx hZ hown (tw hw 39 rfl) hSA rfl Y0 (Nat.le_trans (Nat.le_trans (Nat.le_trans (Nat.le_trans (Nat.le_trans Yk0 E83.1) E86.1) (Keep.of_wr W91).1) (Keep.of_wr W96).1) K101q.1) hEL CR102.1 (g := (mkF m 278 #[It p1, It p2, It p3, It p4, It v5_t0, It v11_t0, It v17_t0, It v23_t0, It r24, Rf b83] [(.ref b83)])) rfl (hb hby at_278) (n := 36) (by decide) (by decide) (by decide) (by decide)
          have O104 := O101.ext E103
          have K103 := K101.ext E103
          have CR105 := CR102.trans (C103)
          obtain ⟨_, _, ⟨T106, L106, k106, n106⟩, -, X106, ⟨Lc106, hQ106, l106, y106, z106⟩, st106⟩ := Jvm.LawKit.callS X103 hx (y := m_26) hown103 (mvT hZ103 (tw hw 42 rfl)) (mvT hZ103 (tw hw 43 rfl)) (mvT hZ103 (tw hw 44 rfl)) (mvT hZ103 (tw hw 45 rfl)) (by decide) (backOf (W := 0) (rm9_BB1 l Z a0 hw [] b83 sa103 r24 (nar .char r89) (nar .char r94) ro_101 vFM zC ko_101 h103 n0 O104 hCS hFM sC sA sH sL sF (((((A83.ext E86).wr W91).wr W96).keep K101q).ext E103) (f101_0.ext E103) (f101_1.ext E103) (f101_2.ext E103) F_r89 F_r94 (own_lim2 hr24 hv23_t0 hc26)) hZ103 (tw hw 45 rfl) (tw hw 44 rfl) (by decide) (by decide)) (g := (mkF m 282 #[It p1, It p2, It p3, It p4, It v5_t0, It v11_t0, It v17_t0, It v23_t0, It r24, Rf b83] [(.int r24), (.ref sa103), (.ref b83)])) rfl (by rw [hml]; rfl) (argsL := [(.ref b83), (.ref sa103), (.int r24)]) (rest := []) (lenOf pd_20 rfl) rfl (w0 rfl) (hb hby at_282) (fun _ _ => ⟨rfl, e103, (by decide : 6 + 0 ≤ _), (by decide : 52 + 0 ≤ _)⟩)
          dsimp only [Pt.U, Pt.locs, Pt.cells, Pt.slots] at X106 l106 y106 z106 st106 hQ106
          subst l106 y106 z106
          obtain ⟨rfl, N106q, e106⟩ := hQ106
          have N106 := Fr.app N101 N106q
          have sg107 : SG p.tables e below (T106.setTop (mkF m 286 #[It p1, It p2, It p3, It p4, It v5_t0, It v11_t0, It v17_t0, It v23_t0, It r24, Rf b83] [(.int (1 : Int32))])) (T96.setTop (mkF m 271 #[It p1, It p2, It p3, It p4, It v5_t0, It v11_t0, It v17_t0, It v23_t0, It r24, .unset] [(.ref b86), (.ref b83), (.ref b83)])) := by
            intro target kt
            show Steps _ _ _ (T96.setTop (mkF m 271 #[It p1, It p2, It p3, It p4, It v5_t0, It v11_t0, It v17_t0, It v23_t0, It r24, .unset] [(.ref b86), (.ref b83), (.ref b83)])) _
            refine st101.trans ?_
            refine XS.astore X101.here hx rfl (hb hby at_274) rfl rfl (l' := #[It p1, It p2, It p3, It p4, It v5_t0, It v11_t0, It v17_t0, It v23_t0, It r24, Rf b83]) rfl ?_
            refine XS.aload X101.here hx rfl (hb hby at_276) rfl rfl ?_
            refine st103 _ ?_
            refine XS.iload X103.here hx rfl (hb hby at_280) rfl ?_
            refine st106 _ ?_
            refine XS.iconst X106.here hx rfl (hb hby at_285) ?_
            exact kt
          obtain ⟨fs, hr, hrun, hended, hRW⟩ := X106.leaveW Y103 (show _ ≤ T106.heap.size by rw [e106]; exact Yk103) (v := some (.int (1 : Int32))) (fun h => by rw [Bd.returns] at h; cases h)
          refine ⟨_, _, pre0 _ (sg5 _ (sg6 _ (sg11 _ (sg12 _ (sg17 _ (sg18 _ (sg23 _ (sg25 _ (sg79 _ (sg81 _ (sg99 _ (sg107 _ (?_))))))))))))), hrun, hended, _, _, rfl, ?_, (by rw [hh]; show CHr Z own_EL s.vm h0 T106.vm T106.heap; rw [e106]; exact CR105.trans (CHv.at X106 hZ103 hEL CR105.1)), hRW.1, hRW.2.1, hRW.2.2.1, hRW.2.2.2.mono (by decide) (by decide)⟩
          · show Steps _ _ _ (T106.setTop (mkF m 286 #[It p1, It p2, It p3, It p4, It v5_t0, It v11_t0, It v17_t0, It v23_t0, It r24, Rf b83] [(.int (1 : Int32))])) _
            exact retN X106 hx (t := .boolean) Bd.returns (by simp) (hb hby at_286) hr
          · show Q0 Z p1 p2 p3 p4 vFM zC h0 n0 _ T106.heap _
            rw [e106]
            exact ⟨rfl, N106, K103, O104⟩
        · obtain ⟨_, _, ⟨T108, L108, k108, n108⟩, -, X108, ⟨Lc108, hQ108, l108, y108, z108⟩, st108⟩ := X96.specialBack hx (y := m_17) rfl hown (mvT hZ (tw hw 13 rfl)) (mvT hZ (tw hw 14 rfl)) (mvT hZ (tw hw 15 rfl)) (by decide) (backOf (W := 1) (rm3_22 l Z a0 hw [] b83 b86 (nar .char r89) (nar .char r94) zC k86 h96 n0 O97 sC (((A83.ext E86).wr W91).wr W96) (((F_value_b83.ext E86).other W91 (Or.inl (Nat.ne_of_lt (Nat.lt_of_lt_of_le A83.lt (Nat.le_of_eq g86.symm))))).other W96 (Or.inl (Nat.ne_of_lt (Nat.lt_of_lt_of_le A83.lt (Nat.le_of_eq g86.symm))))) (((F_coder_b83.ext E86).other W91 (Or.inl (Nat.ne_of_lt (Nat.lt_of_lt_of_le A83.lt (Nat.le_of_eq g86.symm))))).other W96 (Or.inl (Nat.ne_of_lt (Nat.lt_of_lt_of_le A83.lt (Nat.le_of_eq g86.symm))))) ge_b83 hCS V96 (fun q => hc100 (Or.inl q)) (fun q => hc100 (Or.inr q))) hZ (tw hw 15 rfl) (tw hw 6 rfl) (by decide) (by decide)) (g := (mkF m 271 #[It p1, It p2, It p3, It p4, It v5_t0, It v11_t0, It v17_t0, It v23_t0, It r24, .unset] [(.ref b86), (.ref b83), (.ref b83)])) rfl (by rw [hml]; rfl) (Steps.refl _) (a := b83) (argsL := [(.ref b86)]) (rest := [(.ref b83)]) (lenOf pd_19 rfl) rfl (w0 rfl) (hb hby at_271) (fun _ _ => ⟨rfl, e96, (by decide : 2 + 1 ≤ _), (by decide : 6 + 2 ≤ _)⟩)
          dsimp only [Pt.U, Pt.locs, Pt.cells, Pt.slots] at X108 l108 y108 z108 st108 hQ108
          subst l108 y108 z108
          obtain ⟨ro_108, ko_108, rfl, N108q, K108q, O108, f108_0, f108_1, f108_2, f108_3, f108_4⟩ := hQ108
          have N108 := Fr.app N96 N108q
          have CR109 := CR98.trans (CHr.keep K108q (allS own_safe0 all0) CR98.1)
          have K108 := K96.trans K108q (allS (Or.inr sz_b83) all0)
          obtain ⟨sa110, T110, h110, k110, X110, e110, E110, Y110, Yk110, hZ110, hown110, C110, Lt110, st110⟩ := ldcOH X108 hx hZ hown (tw hw 39 rfl) hSA rfl Y0 (Nat.le_trans (Nat.le_trans (Nat.le_trans (Nat.le_trans (Nat.le_trans Yk0 E83.1) E86.1) (Keep.of_wr W91).1) (Keep.of_wr W96).1) K108q.1) hEL CR109.1 (g := (mkF m 278 #[It p1, It p2, It p3, It p4, It v5_t0, It v11_t0, It v17_t0, It v23_t0, It r24, Rf b83] [(.ref b83)])) rfl (hb hby at_278) (n := 36) (by decide) (by decide) (by decide) (by decide)
          have O111 := O108.ext E110
          have K110 := K108.ext E110
          have CR112 := CR109.trans (C110)
          obtain ⟨_, _, ⟨T113, L113, k113, n113⟩, -, X113, ⟨Lc113, hQ113, l113, y113, z113⟩, st113⟩ := Jvm.LawKit.callS X110 hx (y := m_26) hown110 (mvT hZ110 (tw hw 42 rfl)) (mvT hZ110 (tw hw 43 rfl)) (mvT hZ110 (tw hw 44 rfl)) (mvT hZ110 (tw hw 45 rfl)) (by decide) (backOf (W := 0) (rm9_BB0 l Z a0 hw [] b83 sa110 r24 (nar .char r89) (nar .char r94) ro_108 vFM zC ko_108 h110 n0 O111 hCS hFM sC sF (((((A83.ext E86).wr W91).wr W96).keep K108q).ext E110) (f108_0.ext E110) (f108_1.ext E110) (f108_2.ext E110) F_r89 F_r94 (own_lim2 hr24 hv23_t0 hc26) (fun q => hc100 (Or.inl q)) (fun q => hc100 (Or.inr q))) hZ110 (tw hw 45 rfl) (tw hw 44 rfl) (by decide) (by decide)) (g := (mkF m 282 #[It p1, It p2, It p3, It p4, It v5_t0, It v11_t0, It v17_t0, It v23_t0, It r24, Rf b83] [(.int r24), (.ref sa110), (.ref b83)])) rfl (by rw [hml]; rfl) (argsL := [(.ref b83), (.ref sa110), (.int r24)]) (rest := []) (lenOf pd_20 rfl) rfl (w0 rfl) (hb hby at_282) (fun _ _ => ⟨rfl, e110, (by decide : 5 + 0 ≤ _), (by decide : 48 + 0 ≤ _)⟩)
          dsimp only [Pt.U, Pt.locs, Pt.cells, Pt.slots] at X113 l113 y113 z113 st113 hQ113
          subst l113 y113 z113
          obtain ⟨rfl, N113q, e113⟩ := hQ113
          have N113 := Fr.app N108 N113q
          have sg114 : SG p.tables e below (T113.setTop (mkF m 286 #[It p1, It p2, It p3, It p4, It v5_t0, It v11_t0, It v17_t0, It v23_t0, It r24, Rf b83] [(.int (1 : Int32))])) (T96.setTop (mkF m 271 #[It p1, It p2, It p3, It p4, It v5_t0, It v11_t0, It v17_t0, It v23_t0, It r24, .unset] [(.ref b86), (.ref b83), (.ref b83)])) := by
            intro target kt
            show Steps _ _ _ (T96.setTop (mkF m 271 #[It p1, It p2, It p3, It p4, It v5_t0, It v11_t0, It v17_t0, It v23_t0, It r24, .unset] [(.ref b86), (.ref b83), (.ref b83)])) _
            refine st108.trans ?_
            refine XS.astore X108.here hx rfl (hb hby at_274) rfl rfl (l' := #[It p1, It p2, It p3, It p4, It v5_t0, It v11_t0, It v17_t0, It v23_t0, It r24, Rf b83]) rfl ?_
            refine XS.aload X108.here hx rfl (hb hby at_276) rfl rfl ?_
            refine st110 _ ?_
            refine XS.iload X110.here hx rfl (hb hby at_280) rfl ?_
            refine st113 _ ?_
            refine XS.iconst X113.here hx rfl (hb hby at_285) ?_
            exact kt
          obtain ⟨fs, hr, hrun, hended, hRW⟩ := X113.leaveW Y110 (show _ ≤ T113.heap.size by rw [e113]; exact Yk110) (v := some (.int (1 : Int32))) (fun h => by rw [Bd.returns] at h; cases h)
          refine ⟨_, _, pre0 _ (sg5 _ (sg6 _ (sg11 _ (sg12 _ (sg17 _ (sg18 _ (sg23 _ (sg25 _ (sg79 _ (sg81 _ (sg99 _ (sg114 _ (?_))))))))))))), hrun, hended, _, _, rfl, ?_, (by rw [hh]; show CHr Z own_EL s.vm h0 T113.vm T113.heap; rw [e113]; exact CR112.trans (CHv.at X113 hZ110 hEL CR112.1)), hRW.1, hRW.2.1, hRW.2.2.1, hRW.2.2.2.mono (by decide) (by decide)⟩
          · show Steps _ _ _ (T113.setTop (mkF m 286 #[It p1, It p2, It p3, It p4, It v5_t0, It v11_t0, It v17_t0, It v23_t0, It r24, Rf b83] [(.int (1 : Int32))])) _
            exact retN X113 hx (t := .boolean) Bd.returns (by simp) (hb hby at_286) hr
          · show Q0 Z p1 p2 p3 p4 vFM zC h0 n0 _ T113.heap _
            rw [e113]
            exact ⟨rfl, N113, K110, O111⟩
      · obtain ⟨T115, h115, X115, e115, E115, A115, D115, -, st115⟩ := newO X24 hx hZ hown (tw hw 4 rfl) (tw hw 5 rfl) (tw hw 6 rfl) e24 (g := (mkF m 214 #[It p1, It p2, It p3, It p4, It v5_t0, It v11_t0, It v17_t0, It v23_t0, It r24, .unset] [])) rfl (hb hby at_214) (by decide) (by decide)
        obtain ⟨b115, g115⟩ : ∃ z, z = h0.size := ⟨_, rfl⟩
        rw [← g115] at A115 D115 st115
        have ge_b115 : n0 ≤ b115 := Nat.le_trans (own_osz O0) (Nat.le_of_eq g115.symm)
        have sz_b115 : h0.size ≤ b115 := Nat.le_trans K0.1 (Nat.le_of_eq g115.symm)
        have O116 := O0.ext E115
        have K115 := K0.ext E115
        have CR117 := CR0.trans (CHr.ext E115 CR0.1)
        have F_coder_b115 : Fld Z h115 b115 "java/lang/String" "coder" "B" (.int (0 : Int32)) := D115 (Or.inr (tw hw 36 rfl)) (ty := .byte) (by decide)
        have F_value_b115 : Fld Z h115 b115 "java/lang/String" "value" "[B" .null := D115 (Or.inr (tw hw 38 rfl)) (ty := (.array .byte)) (by decide)
        obtain ⟨T118, h118, k118, X118, e118, E118, A118, st118⟩ := newP X115 hx hZ (tw hw 7 rfl) e115 (g := (mkF m 219 #[It p1, It p2, It p3, It p4, It v5_t0, It v11_t0, It v17_t0, It v23_t0, It r24, .unset] [(.int (3 : Int32)), (.ref b115), (.ref b115)])) rfl (hb hby at_219) rfl (by decide) (cap := 3) (by decide) (by decide) (by decide) (by decide)
        obtain ⟨b118, g118⟩ : ∃ z, z = h115.size := ⟨_, rfl⟩
        rw [← g118] at A118 st118
        have ge_b118 : n0 ≤ b118 := Nat.le_trans (own_osz O116) (Nat.le_of_eq g118.symm)
        have sz_b118 : h0.size ≤ b118 := Nat.le_trans K115.1 (Nat.le_of_eq g118.symm)
        have O119 := O116.ext E118
        have K118 := K115.ext E118
        have CR120 := CR117.trans (CHr.ext E118 CR117.1)
        have V_b118 : Arv Z h118 b118 k118 .char (3 : Int32) [(.int (0 : Int32)), (.int (0 : Int32)), (.int (0 : Int32))] (.int (0 : Int32)) := (Arv.new A118 (by decide)).pad (pad_rep [] (.int (0 : Int32)) 3)
        obtain ⟨_, _, ⟨T121, L121, k121, n121⟩, -, X121, ⟨Lc121, hQ121, l121, y121, z121⟩, st121⟩ := Jvm.LawKit.callS X118 hx (y := m_1) hown (mvT hZ (tw hw 8 rfl)) (mvT hZ (tw hw 9 rfl)) (mvT hZ (tw hw 10 rfl)) (mvT hZ (tw hw 11 rfl)) (by decide) (backOf (W := 5) (rm2 l Z a0 hw [] p1 h118 n0 O119 ) hZ (tw hw 11 rfl) (tw hw 10 rfl) (by decide) (by decide)) (g := (mkF m 224 #[It p1, It p2, It p3, It p4, It v5_t0, It v11_t0, It v17_t0, It v23_t0, It r24, .unset] [(.int p1), (.int (0 : Int32)), (.ref b118), (.ref b118), (.ref b115), (.ref b115)])) rfl (by rw [hml]; rfl) (argsL := [(.int p1)]) (rest := [(.int (0 : Int32)), (.ref b118), (.ref b118), (.ref b115), (.ref b115)]) (lenOf pd_18 rfl) rfl (w0 rfl) (hb hby at_224) (fun _ _ => ⟨rfl, e118, (by decide : 2 + 0 ≤ _), (by decide : 7 + 0 ≤ _)⟩)
        dsimp only [Pt.U, Pt.locs, Pt.cells, Pt.slots] at X121 l121 y121 z121 st121 hQ121
        subst l121 y121 z121
        obtain ⟨rfl, N121q, e121⟩ := hQ121
        have N121 := Fr.app N24 N121q
        obtain ⟨r121, hr121⟩ : ∃ z, z = (if (((p1.toUInt32 >>> ((1 : Int32) &&& 31).toUInt32).toInt32) &&& (65535 : Int32)) = (0 : Int32) then (1 : Int32) else (if (((p1.toUInt32 >>> ((1 : Int32) &&& 31).toUInt32).toInt32) &&& (65535 : Int32)) < (55296 : Int32) then ((((p1.toUInt32 >>> ((1 : Int32) &&& 31).toUInt32).toInt32) &&& (65535 : Int32)).toUInt32.toUInt16.toUInt32.toInt32) else (if (57343 : Int32) < (((p1.toUInt32 >>> ((1 : Int32) &&& 31).toUInt32).toInt32) &&& (65535 : Int32)) then ((((p1.toUInt32 >>> ((1 : Int32) &&& 31).toUInt32).toInt32) &&& (65535 : Int32)).toUInt32.toUInt16.toUInt32.toInt32) else (((((p1.toUInt32 >>> ((1 : Int32) &&& 31).toUInt32).toInt32) &&& (65535 : Int32)) - (2048 : Int32)).toUInt32.toUInt16.toUInt32.toInt32)))) := ⟨_, rfl⟩
        rw [← hr121] at st121
        have F_r121 := own_bmF hr121
        obtain ⟨cl122, Ar122, q122, Sz122, Nn122, Hh122, Gg122⟩ := id V_b118
        have hin122 : ¬ ((0 : Int32) < 0 ∨ cl122.slots.size ≤ ((0 : Int32)).toNatClampNeg) := inb_of Sz122 ⟨by decide, by decide⟩
        obtain ⟨T123, h123, X123, e123, W123, st123⟩ := stC X121 hx hZ e121 Ar122 (j := (0 : Int32)) hin122 (g := (mkF m 227 #[It p1, It p2, It p3, It p4, It v5_t0, It v11_t0, It v17_t0, It v23_t0, It r24, .unset] [(.int r121), (.int (0 : Int32)), (.ref b118), (.ref b118), (.ref b115), (.ref b115)])) rfl rfl (hb hby at_227)
        have V123 : Arv Z h123 b118 k118 .char (3 : Int32) [(.int (nar .char r121)), (.int (0 : Int32)), (.int (0 : Int32))] (.int (0 : Int32)) := Arv.set Ar122 q122 Sz122 Nn122 Hh122 Gg122 (fits_nar_char _) W123 0 rfl (Nat.le_of_ble_eq_true rfl)
        have N123 := Fr.snoc X123 N121 ge_b118
        have O124 := O119.wr W123 ge_b118
        have K123 := K118.wr W123 (Or.inr sz_b118)
        have CR125 := CR120.trans (CHr.wr W123 own_safe0 CR120.1)
        obtain ⟨_, _, ⟨T126, L126, k126, n126⟩, -, X126, ⟨Lc126, hQ126, l126, y126, z126⟩, st126⟩ := Jvm.LawKit.callS X123 hx (y := m_2) hown (mvT hZ (tw hw 81 rfl)) (mvT hZ (tw hw 82 rfl)) (mvT hZ (tw hw 10 rfl)) (mvT hZ (tw hw 83 rfl)) (by decide) (backOf (W := 5) (rm17 l Z a0 hw [] p2 h123 n0 O124 ) hZ (tw hw 83 rfl) (tw hw 10 rfl) (by decide) (by decide)) (g := (mkF m 231 #[It p1, It p2, It p3, It p4, It v5_t0, It v11_t0, It v17_t0, It v23_t0, It r24, .unset] [(.int p2), (.int (1 : Int32)), (.ref b118), (.ref b118), (.ref b115), (.ref b115)])) rfl (by rw [hml]; rfl) (argsL := [(.int p2)]) (rest := [(.int (1 : Int32)), (.ref b118), (.ref b118), (.ref b115), (.ref b115)]) (lenOf pd_18 rfl) rfl (w0 rfl) (hb hby at_231) (fun _ _ => ⟨rfl, e123, (by decide : 2 + 0 ≤ _), (by decide : 7 + 0 ≤ _)⟩)
        dsimp only [Pt.U, Pt.locs, Pt.cells, Pt.slots] at X126 l126 y126 z126 st126 hQ126
        subst l126 y126 z126
        obtain ⟨rfl, N126q, e126⟩ := hQ126
        have N126 := Fr.app N123 N126q
        obtain ⟨r126, hr126⟩ : ∃ z, z = (((55296 : Int32) + (((((p2.toUInt32 >>> ((1 : Int32) &&& 31).toUInt32).toInt32) % (1048576 : Int32)).toUInt32 >>> ((10 : Int32) &&& 31).toUInt32).toInt32)).toUInt32.toUInt16.toUInt32.toInt32) := ⟨_, rfl⟩
        rw [← hr126] at st126
        have F_r126 := own_hiF hr126
        obtain ⟨cl127, Ar127, q127, Sz127, Nn127, Hh127, Gg127⟩ := id V123
        have hin127 : ¬ ((1 : Int32) < 0 ∨ cl127.slots.size ≤ ((1 : Int32)).toNatClampNeg) := inb_of Sz127 ⟨by decide, by decide⟩
        obtain ⟨T128, h128, X128, e128, W128, st128⟩ := stC X126 hx hZ e126 Ar127 (j := (1 : Int32)) hin127 (g := (mkF m 234 #[It p1, It p2, It p3, It p4, It v5_t0, It v11_t0, It v17_t0, It v23_t0, It r24, .unset] [(.int r126), (.int (1 : Int32)), (.ref b118), (.ref b118), (.ref b115), (.ref b115)])) rfl rfl (hb hby at_234)
        have V128 : Arv Z h128 b118 k118 .char (3 : Int32) [(.int (nar .char r121)), (.int (nar .char r126)), (.int (0 : Int32))] (.int (0 : Int32)) := Arv.set Ar127 q127 Sz127 Nn127 Hh127 Gg127 (fits_nar_char _) W128 1 rfl (Nat.le_of_ble_eq_true rfl)
        have N128 := Fr.snoc X128 N126 ge_b118
        have O129 := O124.wr W128 ge_b118
        have K128 := K123.wr W128 (Or.inr sz_b118)
        have CR130 := CR125.trans (CHr.wr W128 own_safe0 CR125.1)
        obtain ⟨_, _, ⟨T131, L131, k131, n131⟩, -, X131, ⟨Lc131, hQ131, l131, y131, z131⟩, st131⟩ := Jvm.LawKit.callS X128 hx (y := m_3) hown (mvT hZ (tw hw 85 rfl)) (mvT hZ (tw hw 86 rfl)) (mvT hZ (tw hw 10 rfl)) (mvT hZ (tw hw 87 rfl)) (by decide) (backOf (W := 5) (rm18 l Z a0 hw [] p2 h128 n0 O129 ) hZ (tw hw 87 rfl) (tw hw 10 rfl) (by decide) (by decide)) (g := (mkF m 238 #[It p1, It p2, It p3, It p4, It v5_t0, It v11_t0, It v17_t0, It v23_t0, It r24, .unset] [(.int p2), (.int (2 : Int32)), (.ref b118), (.ref b118), (.ref b115), (.ref b115)])) rfl (by rw [hml]; rfl) (argsL := [(.int p2)]) (rest := [(.int (2 : Int32)), (.ref b118), (.ref b118), (.ref b115), (.ref b115)]) (lenOf pd_18 rfl) rfl (w0 rfl) (hb hby at_238) (fun _ _ => ⟨rfl, e128, (by decide : 2 + 0 ≤ _), (by decide : 7 + 0 ≤ _)⟩)
        dsimp only [Pt.U, Pt.locs, Pt.cells, Pt.slots] at X131 l131 y131 z131 st131 hQ131
        subst l131 y131 z131
        obtain ⟨rfl, N131q, e131⟩ := hQ131
        have N131 := Fr.app N128 N131q
        obtain ⟨r131, hr131⟩ : ∃ z, z = (((56320 : Int32) + ((((p2.toUInt32 >>> ((1 : Int32) &&& 31).toUInt32).toInt32) % (1048576 : Int32)) &&& (1023 : Int32))).toUInt32.toUInt16.toUInt32.toInt32) := ⟨_, rfl⟩
        rw [← hr131] at st131
        have F_r131 := own_loF hr131
        obtain ⟨cl132, Ar132, q132, Sz132, Nn132, Hh132, Gg132⟩ := id V128
        have hin132 : ¬ ((2 : Int32) < 0 ∨ cl132.slots.size ≤ ((2 : Int32)).toNatClampNeg) := inb_of Sz132 ⟨by decide, by decide⟩
        obtain ⟨T133, h133, X133, e133, W133, st133⟩ := stC X131 hx hZ e131 Ar132 (j := (2 : Int32)) hin132 (g := (mkF m 241 #[It p1, It p2, It p3, It p4, It v5_t0, It v11_t0, It v17_t0, It v23_t0, It r24, .unset] [(.int r131), (.int (2 : Int32)), (.ref b118), (.ref b118), (.ref b115), (.ref b115)])) rfl rfl (hb hby at_241)
        have V133 : Arv Z h133 b118 k118 .char (3 : Int32) [(.int (nar .char r121)), (.int (nar .char r126)), (.int (nar .char r131))] (.int (0 : Int32)) := Arv.set Ar132 q132 Sz132 Nn132 Hh132 Gg132 (fits_nar_char _) W133 2 rfl (Nat.le_of_ble_eq_true rfl)
        have N133 := Fr.snoc X133 N131 ge_b118
        have O134 := O129.wr W133 ge_b118
        have K133 := K128.wr W133 (Or.inr sz_b118)
        have CR135 := CR130.trans (CHr.wr W133 own_safe0 CR130.1)
        obtain ⟨_, _, ⟨T136, L136, k136, n136⟩, -, X136, ⟨Lc136, hQ136, l136, y136, z136⟩, st136⟩ := X133.specialBack hx (y := m_17) rfl hown (mvT hZ (tw hw 13 rfl)) (mvT hZ (tw hw 14 rfl)) (mvT hZ (tw hw 15 rfl)) (by decide) (backOf (W := 1) (rm3_30 l Z a0 hw [] b115 b118 (nar .char r121) (nar .char r126) (nar .char r131) zC k118 h133 n0 O134 sC sA sH sL ((((A115.ext E118).wr W123).wr W128).wr W133) ((((F_value_b115.ext E118).other W123 (Or.inl (Nat.ne_of_lt (Nat.lt_of_lt_of_le A115.lt (Nat.le_of_eq g118.symm))))).other W128 (Or.inl (Nat.ne_of_lt (Nat.lt_of_lt_of_le A115.lt (Nat.le_of_eq g118.symm))))).other W133 (Or.inl (Nat.ne_of_lt (Nat.lt_of_lt_of_le A115.lt (Nat.le_of_eq g118.symm))))) ((((F_coder_b115.ext E118).other W123 (Or.inl (Nat.ne_of_lt (Nat.lt_of_lt_of_le A115.lt (Nat.le_of_eq g118.symm))))).other W128 (Or.inl (Nat.ne_of_lt (Nat.lt_of_lt_of_le A115.lt (Nat.le_of_eq g118.symm))))).other W133 (Or.inl (Nat.ne_of_lt (Nat.lt_of_lt_of_le A115.lt (Nat.le_of_eq g118.symm))))) ge_b115 hCS V133 (Or.inr (own_big F_r126)) F_r121.1 F_r126.1) hZ (tw hw 15 rfl) (tw hw 6 rfl) (by decide) (by decide)) (g := (mkF m 242 #[It p1, It p2, It p3, It p4, It v5_t0, It v11_t0, It v17_t0, It v23_t0, It r24, .unset] [(.ref b118), (.ref b115), (.ref b115)])) rfl (by rw [hml]; rfl) (Steps.refl _) (a := b115) (argsL := [(.ref b118)]) (rest := [(.ref b115)]) (lenOf pd_19 rfl) rfl (w0 rfl) (hb hby at_242) (fun _ _ => ⟨rfl, e133, (by decide : 2 + 2 ≤ _), (by decide : 7 + 9 ≤ _)⟩)
        dsimp only [Pt.U, Pt.locs, Pt.cells, Pt.slots] at X136 l136 y136 z136 st136 hQ136
        subst l136 y136 z136
        obtain ⟨ro_136, ko_136, rfl, N136q, K136q, O136, f136_0, f136_1, f136_2, f136_3, f136_4⟩ := hQ136
        have N136 := Fr.app N133 N136q
        have CR137 := CR135.trans (CHr.keep K136q (allS own_safe0 all0) CR135.1)
        have K136 := K133.trans K136q (allS (Or.inr sz_b115) all0)
        obtain ⟨sa138, T138, h138, k138, X138, e138, E138, Y138, Yk138, hZ138, hown138, C138, Lt138, st138⟩ := ldcOH X136 hx hZ hown (tw hw 39 rfl) hSA rfl Y0 (Nat.le_trans (Nat.le_trans (Nat.le_trans (Nat.le_trans (Nat.le_trans (Nat.le_trans Yk0 E115.1) E118.1) (Keep.of_wr W123).1) (Keep.of_wr W128).1) (Keep.of_wr W133).1) K136q.1) hEL CR137.1 (g := (mkF m 278 #[It p1, It p2, It p3, It p4, It v5_t0, It v11_t0, It v17_t0, It v23_t0, It r24, Rf b115] [(.ref b115)])) rfl (hb hby at_278) (n := 36) (by decide) (by decide) (by decide) (by decide)
        have O139 := O136.ext E138
        have K138 := K136.ext E138
        have CR140 := CR137.trans (C138)
        obtain ⟨_, _, ⟨T141, L141, k141, n141⟩, -, X141, ⟨Lc141, hQ141, l141, y141, z141⟩, st141⟩ := Jvm.LawKit.callS X138 hx (y := m_26) hown138 (mvT hZ138 (tw hw 42 rfl)) (mvT hZ138 (tw hw 43 rfl)) (mvT hZ138 (tw hw 44 rfl)) (mvT hZ138 (tw hw 45 rfl)) (by decide) (backOf (W := 0) (rm9_BP1 l Z a0 hw [] b115 sa138 r24 (nar .char r121) (nar .char r126) (nar .char r131) ro_136 vFM zC ko_136 h138 n0 O139 hCS hFM sC sA sH sL sF ((((((A115.ext E118).wr W123).wr W128).wr W133).keep K136q).ext E138) (f136_0.ext E138) (f136_1.ext E138) (f136_2.ext E138) F_r121 F_r126 F_r131 (own_lim2 hr24 hv23_t0 hc26)) hZ138 (tw hw 45 rfl) (tw hw 44 rfl) (by decide) (by decide)) (g := (mkF m 282 #[It p1, It p2, It p3, It p4, It v5_t0, It v11_t0, It v17_t0, It v23_t0, It r24, Rf b115] [(.int r24), (.ref sa138), (.ref b115)])) rfl (by rw [hml]; rfl) (argsL := [(.ref b115), (.ref sa138), (.int r24)]) (rest := []) (lenOf pd_20 rfl) rfl (w0 rfl) (hb hby at_282) (fun _ _ => ⟨rfl, e138, (by decide : 6 + 0 ≤ _), (by decide : 56 + 0 ≤ _)⟩)
        dsimp only [Pt.U, Pt.locs, Pt.cells, Pt.slots] at X141 l141 y141 z141 st141 hQ141
        subst l141 y141 z141
        obtain ⟨rfl, N141q, e141⟩ := hQ141
        have N141 := Fr.app N136 N141q
        have sg142 : SG p.tables e below (T141.setTop (mkF m 286 #[It p1, It p2, It p3, It p4, It v5_t0, It v11_t0, It v17_t0, It v23_t0, It r24, Rf b115] [(.int (1 : Int32))])) (T24.setTop (mkF m 211 #[It p1, It p2, It p3, It p4, It v5_t0, It v11_t0, It v17_t0, It v23_t0, It r24, .unset] [(.int v17_t0)])) := by
          intro target kt
          show Steps _ _ _ (T24.setTop (mkF m 211 #[It p1, It p2, It p3, It p4, It v5_t0, It v11_t0, It v17_t0, It v23_t0, It r24, .unset] [(.int v17_t0)])) _
          refine XS.ifNo X24.here hx rfl (hb hby at_211) rfl ((if0 _ _).trans (feq hc82).1) ?_
          refine st115 _ ?_
          refine XS.dup X115.here hx rfl (hb hby at_217) rfl rfl ?_
          refine XS.iconst X115.here hx rfl (hb hby at_218) ?_
          refine st118 _ ?_
          refine XS.dup X118.here hx rfl (hb hby at_221) rfl rfl ?_
          refine XS.iconst X118.here hx rfl (hb hby at_222) ?_
          refine XS.iloadN X118.here hx rfl (hb hby at_223) rfl ?_
          refine st121 _ ?_
          refine st123 _ ?_
          refine XS.dup X123.here hx rfl (hb hby at_228) rfl rfl ?_
          refine XS.iconst X123.here hx rfl (hb hby at_229) ?_
          refine XS.iloadN X123.here hx rfl (hb hby at_230) rfl ?_
          refine st126 _ ?_
          refine st128 _ ?_
          refine XS.dup X128.here hx rfl (hb hby at_235) rfl rfl ?_
          refine XS.iconst X128.here hx rfl (hb hby at_236) ?_
          refine XS.iloadN X128.here hx rfl (hb hby at_237) rfl ?_
          refine st131 _ ?_
          refine st133 _ ?_
          refine st136.trans ?_
          refine XS.astore X136.here hx rfl (hb hby at_245) rfl rfl (l' := #[It p1, It p2, It p3, It p4, It v5_t0, It v11_t0, It v17_t0, It v23_t0, It r24, Rf b115]) rfl ?_
          refine XS.goto X136.here hx rfl (pc0 := 247) (pc' := 276) rfl (hb hby at_247) (by decide) (by decide) ?_
          refine XS.aload X136.here hx rfl (hb hby at_276) rfl rfl ?_
          refine st138 _ ?_
          refine XS.iload X138.here hx rfl (hb hby at_280) rfl ?_
          refine st141 _ ?_
          refine XS.iconst X141.here hx rfl (hb hby at_285) ?_
          exact kt
        obtain ⟨fs, hr, hrun, hended, hRW⟩ := X141.leaveW Y138 (show _ ≤ T141.heap.size by rw [e141]; exact Yk138) (v := some (.int (1 : Int32))) (fun h => by rw [Bd.returns] at h; cases h)
        refine ⟨_, _, pre0 _ (sg5 _ (sg6 _ (sg11 _ (sg12 _ (sg17 _ (sg18 _ (sg23 _ (sg25 _ (sg79 _ (sg81 _ (sg142 _ (?_)))))))))))), hrun, hended, _, _, rfl, ?_, (by rw [hh]; show CHr Z own_EL s.vm h0 T141.vm T141.heap; rw [e141]; exact CR140.trans (CHv.at X141 hZ138 hEL CR140.1)), hRW.1, hRW.2.1, hRW.2.2.1, hRW.2.2.2.mono (by decide) (by decide)⟩
        · show Steps _ _ _ (T141.setTop (mkF m 286 #[It p1, It p2, It p3, It p4, It v5_t0, It v11_t0, It v17_t0, It v23_t0, It r24, Rf b115] [(.int (1 : Int32))])) _
          exact retN X141 hx (t := .boolean) Bd.returns (by simp) (hb hby at_286) hr
        · show Q0 Z p1 p2 p3 p4 vFM zC h0 n0 _ T141.heap _
          rw [e141]
          exact ⟨rfl, N141, K138, O139⟩
    · have sg143 : SG p.tables e below (T24.setTop (mkF m 127 #[It p1, It p2, It p3, It p4, It v5_t0, It v11_t0, It v17_t0, It v23_t0, It r24, .unset] [(.int v17_t0)])) (T24.setTop (mkF m 122 #[It p1, It p2, It p3, It p4, It v5_t0, It v11_t0, It v17_t0, It v23_t0, It r24, .unset] [(.int v11_t0)])) := by
        intro target kt
        show Steps _ _ _ (T24.setTop (mkF m 122 #[It p1, It p2, It p3, It p4, It v5_t0, It v11_t0, It v17_t0, It v23_t0, It r24, .unset] [(.int v11_t0)])) _
        refine XS.ifNo X24.here hx rfl (hb hby at_122) rfl ((if0 _ _).trans (feq hc80).1) ?_
        refine XS.iload X24.here hx rfl (hb hby at_125) rfl ?_
        exact kt
      by_cases hc144 : v17_t0 = (0 : Int32)
      · obtain ⟨T145, h145, X145, e145, E145, A145, D145, -, st145⟩ := newO X24 hx hZ hown (tw hw 4 rfl) (tw hw 5 rfl) (tw hw 6 rfl) e24 (g := (mkF m 173 #[It p1, It p2, It p3, It p4, It v5_t0, It v11_t0, It v17_t0, It v23_t0, It r24, .unset] [])) rfl (hb hby at_173) (by decide) (by decide)
        obtain ⟨b145, g145⟩ : ∃ z, z = h0.size := ⟨_, rfl⟩
        rw [← g145] at A145 D145 st145
        have ge_b145 : n0 ≤ b145 := Nat.le_trans (own_osz O0) (Nat.le_of_eq g145.symm)
        have sz_b145 : h0.size ≤ b145 := Nat.le_trans K0.1 (Nat.le_of_eq g145.symm)
        have O146 := O0.ext E145
        have K145 := K0.ext E145
        have CR147 := CR0.trans (CHr.ext E145 CR0.1)
        have F_coder_b145 : Fld Z h145 b145 "java/lang/String" "coder" "B" (.int (0 : Int32)) := D145 (Or.inr (tw hw 36 rfl)) (ty := .byte) (by decide)
        have F_value_b145 : Fld Z h145 b145 "java/lang/String" "value" "[B" .null := D145 (Or.inr (tw hw 38 rfl)) (ty := (.array .byte)) (by decide)
        obtain ⟨T148, h148, k148, X148, e148, E148, A148, st148⟩ := newP X145 hx hZ (tw hw 7 rfl) e145 (g := (mkF m 178 #[It p1, It p2, It p3, It p4, It v5_t0, It v11_t0, It v17_t0, It v23_t0, It r24, .unset] [(.int (3 : Int32)), (.ref b145), (.ref b145)])) rfl (hb hby at_178) rfl (by decide) (cap := 3) (by decide) (by decide) (by decide) (by decide)
        obtain ⟨b148, g148⟩ : ∃ z, z = h145.size := ⟨_, rfl⟩
        rw [← g148] at A148 st148
        have ge_b148 : n0 ≤ b148 := Nat.le_trans (own_osz O146) (Nat.le_of_eq g148.symm)
        have sz_b148 : h0.size ≤ b148 := Nat.le_trans K145.1 (Nat.le_of_eq g148.symm)
        have O149 := O146.ext E148
        have K148 := K145.ext E148
        have CR150 := CR147.trans (CHr.ext E148 CR147.1)
        have V_b148 : Arv Z h148 b148 k148 .char (3 : Int32) [(.int (0 : Int32)), (.int (0 : Int32)), (.int (0 : Int32))] (.int (0 : Int32)) := (Arv.new A148 (by decide)).pad (pad_rep [] (.int (0 : Int32)) 3)
        obtain ⟨_, _, ⟨T151, L151, k151, n151⟩, -, X151, ⟨Lc151, hQ151, l151, y151, z151⟩, st151⟩ := Jvm.LawKit.callS X148 hx (y := m_2) hown (mvT hZ (tw hw 81 rfl)) (mvT hZ (tw hw 82 rfl)) (mvT hZ (tw hw 10 rfl)) (mvT hZ (tw hw 83 rfl)) (by decide) (backOf (W := 5) (rm17 l Z a0 hw [] p1 h148 n0 O149 ) hZ (tw hw 83 rfl) (tw hw 10 rfl) (by decide) (by decide)) (g := (mkF m 183 #[It p1, It p2, It p3, It p4, It v5_t0, It v11_t0, It v17_t0, It v23_t0, It r24, .unset] [(.int p1), (.int (0 : Int32)), (.ref b148), (.ref b148), (.ref b145), (.ref b145)])) rfl (by rw [hml]; rfl) (argsL := [(.int p1)]) (rest := [(.int (0 : Int32)), (.ref b148), (.ref b148), (.ref b145), (.ref b145)]) (lenOf pd_18 rfl) rfl (w0 rfl) (hb hby at_183) (fun _ _ => ⟨rfl, e148, (by decide : 2 + 0 ≤ _), (by decide : 7 + 0 ≤ _)⟩)
        dsimp only [Pt.U, Pt.locs, Pt.cells, Pt.slots] at X151 l151 y151 z151 st151 hQ151
        subst l151 y151 z151
        obtain ⟨rfl, N151q, e151⟩ := hQ151
        have N151 := Fr.app N24 N151q
        obtain ⟨r151, hr151⟩ : ∃ z, z = (((55296 : Int32) + (((((p1.toUInt32 >>> ((1 : Int32) &&& 31).toUInt32).toInt32) % (1048576 : Int32)).toUInt32 >>> ((10 : Int32) &&& 31).toUInt32).toInt32)).toUInt32.toUInt16.toUInt32.toInt32) := ⟨_, rfl⟩
        rw [← hr151] at st151
        have F_r151 := own_hiF hr151
        obtain ⟨cl152, Ar152, q152, Sz152, Nn152, Hh152, Gg152⟩ := id V_b148
        have hin152 : ¬ ((0 : Int32) < 0 ∨ cl152.slots.size ≤ ((0 : Int32)).toNatClampNeg) := inb_of Sz152 ⟨by decide, by decide⟩
        obtain ⟨T153, h153, X153, e153, W153, st153⟩ := stC X151 hx hZ e151 Ar152 (j := (0 : Int32)) hin152 (g := (mkF m 186 #[It p1, It p2, It p3, It p4, It v5_t0, It v11_t0, It v17_t0, It v23_t0, It r24, .unset] [(.int r151), (.int (0 : Int32)), (.ref b148), (.ref b148), (.ref b145), (.ref b145)])) rfl rfl (hb hby at_186)
        have V153 : Arv Z h153 b148 k148 .char (3 : Int32) [(.int (nar .char r151)), (.int (0 : Int32)), (.int (0 : Int32))] (.int (0 : Int32)) := Arv.set Ar152 q152 Sz152 Nn152 Hh152 Gg152 (fits_nar_char _) W153 0 rfl (Nat.le_of_ble_eq_true rfl)
        have N153 := Fr.snoc X153 N151 ge_b148
        have O154 := O149.wr W153 ge_b148
        have K153 := K148.wr W153 (Or.inr sz_b148)
        have CR155 := CR150.trans (CHr.wr W153 own_safe0 CR150.1)
        obtain ⟨_, _, ⟨T156, L156, k156, n156⟩, -, X156, ⟨Lc156, hQ156, l156, y156, z156⟩, st156⟩ := Jvm.LawKit.callS X153 hx (y := m_3) hown (mvT hZ (tw hw 85 rfl)) (mvT hZ (tw hw 86 rfl)) (mvT hZ (tw hw 10 rfl)) (mvT hZ (tw hw 87 rfl)) (by decide) (backOf (W := 5) (rm18 l Z a0 hw [] p1 h153 n0 O154 ) hZ (tw hw 87 rfl) (tw hw 10 rfl) (by decide) (by decide)) (g := (mkF m 190 #[It p1, It p2, It p3, It p4, It v5_t0, It v11_t0, It v17_t0, It v23_t0, It r24, .unset] [(.int p1), (.int (1 : Int32)), (.ref b148), (.ref b148), (.ref b145), (.ref b145)])) rfl (by rw [hml]; rfl) (argsL := [(.int p1)]) (rest := [(.int (1 : Int32)), (.ref b148), (.ref b148), (.ref b145), (.ref b145)]) (lenOf pd_18 rfl) rfl (w0 rfl) (hb hby at_190) (fun _ _ => ⟨rfl, e153, (by decide : 2 + 0 ≤ _), (by decide : 7 + 0 ≤ _)⟩)
        dsimp only [Pt.U, Pt.locs, Pt.cells, Pt.slots] at X156 l156 y156 z156 st156 hQ156
        subst l156 y156 z156
        obtain ⟨rfl, N156q, e156⟩ := hQ156
        have N156 := Fr.app N153 N156q
        obtain ⟨r156, hr156⟩ : ∃ z, z = (((56320 : Int32) + ((((p1.toUInt32 >>> ((1 : Int32) &&& 31).toUInt32).toInt32) % (1048576 : Int32)) &&& (1023 : Int32))).toUInt32.toUInt16.toUInt32.toInt32) := ⟨_, rfl⟩
        rw [← hr156] at st156
        have F_r156 := own_loF hr156
        obtain ⟨cl157, Ar157, q157, Sz157, Nn157, Hh157, Gg157⟩ := id V153
        have hin157 : ¬ ((1 : Int32) < 0 ∨ cl157.slots.size ≤ ((1 : Int32)).toNatClampNeg) := inb_of Sz157 ⟨by decide, by decide⟩
        obtain ⟨T158, h158, X158, e158, W158, st158⟩ := stC X156 hx hZ e156 Ar157 (j := (1 : Int32)) hin157 (g := (mkF m 193 #[It p1, It p2, It p3, It p4, It v5_t0, It v11_t0, It v17_t0, It v23_t0, It r24, .unset] [(.int r156), (.int (1 : Int32)), (.ref b148), (.ref b148), (.ref b145), (.ref b145)])) rfl rfl (hb hby at_193)
        have V158 : Arv Z h158 b148 k148 .char (3 : Int32) [(.int (nar .char r151)), (.int (nar .char r156)), (.int (0 : Int32))] (.int (0 : Int32)) := Arv.set Ar157 q157 Sz157 Nn157 Hh157 Gg157 (fits_nar_char _) W158 1 rfl (Nat.le_of_ble_eq_true rfl)
        have N158 := Fr.snoc X158 N156 ge_b148
        have O159 := O154.wr W158 ge_b148
        have K158 := K153.wr W158 (Or.inr sz_b148)
        have CR160 := CR155.trans (CHr.wr W158 own_safe0 CR155.1)
        obtain ⟨_, _, ⟨T161, L161, k161, n161⟩, -, X161, ⟨Lc161, hQ161, l161, y161, z161⟩, st161⟩ := Jvm.LawKit.callS X158 hx (y := m_1) hown (mvT hZ (tw hw 8 rfl)) (mvT hZ (tw hw 9 rfl)) (mvT hZ (tw hw 10 rfl)) (mvT hZ (tw hw 11 rfl)) (by decide) (backOf (W := 5) (rm2 l Z a0 hw [] p2 h158 n0 O159 ) hZ (tw hw 11 rfl) (tw hw 10 rfl) (by decide) (by decide)) (g := (mkF m 197 #[It p1, It p2, It p3, It p4, It v5_t0, It v11_t0, It v17_t0, It v23_t0, It r24, .unset] [(.int p2), (.int (2 : Int32)), (.ref b148), (.ref b148), (.ref b145), (.ref b145)])) rfl (by rw [hml]; rfl) (argsL := [(.int p2)]) (rest := [(.int (2 : Int32)), (.ref b148), (.ref b148), (.ref b145), (.ref b145)]) (lenOf pd_18 rfl) rfl (w0 rfl) (hb hby at_197) (fun _ _ => ⟨rfl, e158, (by decide : 2 + 0 ≤ _), (by decide : 7 + 0 ≤ _)⟩)
        dsimp only [Pt.U, Pt.locs, Pt.cells, Pt.slots] at X161 l161 y161 z161 st161 hQ161
        subst l161 y161 z161
        obtain ⟨rfl, N161q, e161⟩ := hQ161
        have N161 := Fr.app N158 N161q
        obtain ⟨r161, hr161⟩ : ∃ z, z = (if (((p2.toUInt32 >>> ((1 : Int32) &&& 31).toUInt32).toInt32) &&& (65535 : Int32)) = (0 : Int32) then (1 : Int32) else (if (((p2.toUInt32 >>> ((1 : Int32) &&& 31).toUInt32).toInt32) &&& (65535 : Int32)) < (55296 : Int32) then ((((p2.toUInt32 >>> ((1 : Int32) &&& 31).toUInt32).toInt32) &&& (65535 : Int32)).toUInt32.toUInt16.toUInt32.toInt32) else (if (57343 : Int32) < (((p2.toUInt32 >>> ((1 : Int32) &&& 31).toUInt32).toInt32) &&& (65535 : Int32)) then ((((p2.toUInt32 >>> ((1 : Int32) &&& 31).toUInt32).toInt32) &&& (65535 : Int32)).toUInt32.toUInt16.toUInt32.toInt32) else (((((p2.toUInt32 >>> ((1 : Int32) &&& 31).toUInt32).toInt32) &&& (65535 : Int32)) - (2048 : Int32)).toUInt32.toUInt16.toUInt32.toInt32)))) := ⟨_, rfl⟩
        rw [← hr161] at st161
        have F_r161 := own_bmF hr161
        obtain ⟨cl162, Ar162, q162, Sz162, Nn162, Hh162, Gg162⟩ := id V158
        have hin162 : ¬ ((2 : Int32) < 0 ∨ cl162.slots.size ≤ ((2 : Int32)).toNatClampNeg) := inb_of Sz162 ⟨by decide, by decide⟩
        obtain ⟨T163, h163, X163, e163, W163, st163⟩ := stC X161 hx hZ e161 Ar162 (j := (2 : Int32)) hin162 (g := (mkF m 200 #[It p1, It p2, It p3, It p4, It v5_t0, It v11_t0, It v17_t0, It v23_t0, It r24, .unset] [(.int r161), (.int (2 : Int32)), (.ref b148), (.ref b148), (.ref b145), (.ref b145)])) rfl rfl (hb hby at_200)
        have V163 : Arv Z h163 b148 k148 .char (3 : Int32) [(.int (nar .char r151)), (.int (nar .char r156)), (.int (nar .char r161))] (.int (0 : Int32)) := Arv.set Ar162 q162 Sz162 Nn162 Hh162 Gg162 (fits_nar_char _) W163 2 rfl (Nat.le_of_ble_eq_true rfl)
        have N163 := Fr.snoc X163 N161 ge_b148
        have O164 := O159.wr W163 ge_b148
        have K163 := K158.wr W163 (Or.inr sz_b148)
        have CR165 := CR160.trans (CHr.wr W163 own_safe0 CR160.1)
        obtain ⟨_, _, ⟨T166, L166, k166, n166⟩, -, X166, ⟨Lc166, hQ166, l166, y166, z166⟩, st166⟩ := X163.specialBack hx (y := m_17) rfl hown (mvT hZ (tw hw 13 rfl)) (mvT hZ (tw hw 14 rfl)) (mvT hZ (tw hw 15 rfl)) (by decide) (backOf (W := 1) (rm3_30 l Z a0 hw [] b145 b148 (nar .char r151) (nar .char r156) (nar .char r161) zC k148 h163 n0 O164 sC sA sH sL ((((A145.ext E148).wr W153).wr W158).wr W163) ((((F_value_b145.ext E148).other W153 (Or.inl (Nat.ne_of_lt (Nat.lt_of_lt_of_le A145.lt (Nat.le_of_eq g148.symm))))).other W158 (Or.inl (Nat.ne_of_lt (Nat.lt_of_lt_of_le A145.lt (Nat.le_of_eq g148.symm))))).other W163 (Or.inl (Nat.ne_of_lt (Nat.lt_of_lt_of_le A145.lt (Nat.le_of_eq g148.symm))))) ((((F_coder_b145.ext E148).other W153 (Or.inl (Nat.ne_of_lt (Nat.lt_of_lt_of_le A145.lt (Nat.le_of_eq g148.symm))))).other W158 (Or.inl (Nat.ne_of_lt (Nat.lt_of_lt_of_le A145.lt (Nat.le_of_eq g148.symm))))).other W163 (Or.inl (Nat.ne_of_lt (Nat.lt_of_lt_of_le A145.lt (Nat.le_of_eq g148.symm))))) ge_b145 hCS V163 (Or.inl (own_big F_r151)) F_r151.1 F_r156.1) hZ (tw hw 15 rfl) (tw hw 6 rfl) (by decide) (by decide)) (g := (mkF m 201 #[It p1, It p2, It p3, It p4, It v5_t0, It v11_t0, It v17_t0, It v23_t0, It r24, .unset] [(.ref b148), (.ref b145), (.ref b145)])) rfl (by rw [hml]; rfl) (Steps.refl _) (a := b145) (argsL := [(.ref b148)]) (rest := [(.ref b145)]) (lenOf pd_19 rfl) rfl (w0 rfl) (hb hby at_201) (fun _ _ => ⟨rfl, e163, (by decide : 2 + 2 ≤ _), (by decide : 7 + 9 ≤ _)⟩)
        dsimp only [Pt.U, Pt.locs, Pt.cells, Pt.slots] at X166 l166 y166 z166 st166 hQ166
        subst l166 y166 z166
        obtain ⟨ro_166, ko_166, rfl, N166q, K166q, O166, f166_0, f166_1, f166_2, f166_3, f166_4⟩ := hQ166
        have N166 := Fr.app N163 N166q
        have CR167 := CR165.trans (CHr.keep K166q (allS own_safe0 all0) CR165.1)
        have K166 := K163.trans K166q (allS (Or.inr sz_b145) all0)
        obtain ⟨sa168, T168, h168, k168, X168, e168, E168, Y168, Yk168, hZ168, hown168, C168, Lt168, st168⟩ := ldcOH X166 hx hZ hown (tw hw 39 rfl) hSA rfl Y0 (Nat.le_trans (Nat.le_trans (Nat.le_trans (Nat.le_trans (Nat.le_trans (Nat.le_trans Yk0 E145.1) E148.1) (Keep.of_wr W153).1) (Keep.of_wr W158).1) (Keep.of_wr W163).1) K166q.1) hEL CR167.1 (g := (mkF m 278 #[It p1, It p2, It p3, It p4, It v5_t0, It v11_t0, It v17_t0, It v23_t0, It r24, Rf b145] [(.ref b145)])) rfl (hb hby at_278) (n := 36) (by decide) (by decide) (by decide) (by decide)
        have O169 := O166.ext E168
        have K168 := K166.ext E168
        have CR170 := CR167.trans (C168)
        obtain ⟨_, _, ⟨T171, L171, k171, n171⟩, -, X171, ⟨Lc171, hQ171, l171, y171, z171⟩, st171⟩ := Jvm.LawKit.callS X168 hx (y := m_26) hown168 (mvT hZ168 (tw hw 42 rfl)) (mvT hZ168 (tw hw 43 rfl)) (mvT hZ168 (tw hw 44 rfl)) (mvT hZ168 (tw hw 45 rfl)) (by decide) (backOf (W := 0) (rm9_PB1 l Z a0 hw [] b145 sa168 r24 (nar .char r151) (nar .char r156) (nar .char r161) ro_166 vFM zC ko_166 h168 n0 O169 hCS hFM sC sA sH sL sF ((((((A145.ext E148).wr W153).wr W158).wr W163).keep K166q).ext E168) (f166_0.ext E168) (f166_1.ext E168) (f166_2.ext E168) F_r151 F_r156 F_r161 (own_lim2 hr24 hv23_t0 hc26)) hZ168 (tw hw 45 rfl) (tw hw 44 rfl) (by decide) (by decide)) (g := (mkF m 282 #[It p1, It p2, It p3, It p4, It v5_t0, It v11_t0, It v17_t0, It v23_t0, It r24, Rf b145] [(.int r24), (.ref sa168), (.ref b145)])) rfl (by rw [hml]; rfl) (argsL := [(.ref b145), (.ref sa168), (.int r24)]) (rest := []) (lenOf pd_20 rfl) rfl (w0 rfl) (hb hby at_282) (fun _ _ => ⟨rfl, e168, (by decide : 6 + 0 ≤ _), (by decide : 56 + 0 ≤ _)⟩)
        dsimp only [Pt.U, Pt.locs, Pt.cells, Pt.slots] at X171 l171 y171 z171 st171 hQ171
        subst l171 y171 z171
        obtain ⟨rfl, N171q, e171⟩ := hQ171
        have N171 := Fr.app N166 N171q
        have sg172 : SG p.tables e below (T171.setTop (mkF m 286 #[It p1, It p2, It p3, It p4, It v5_t0, It v11_t0, It v17_t0, It v23_t0, It r24, Rf b145] [(.int (1 : Int32))])) (T24.setTop (mkF m 127 #[It p1, It p2, It p3, It p4, It v5_t0, It v11_t0, It v17_t0, It v23_t0, It r24, .unset] [(.int v17_t0)])) := by
          intro target kt
          show Steps _ _ _ (T24.setTop (mkF m 127 #[It p1, It p2, It p3, It p4, It v5_t0, It v11_t0, It v17_t0, It v23_t0, It r24, .unset] [(.int v17_t0)])) _
          refine XS.ifYes X24.here hx rfl (pc0 := 127) (pc' := 173) rfl (hb hby at_127) rfl ((if0 _ _).trans (teq hc144).1) (by decide) (by decide) ?_
          refine st145 _ ?_
          refine XS.dup X145.here hx rfl (hb hby at_176) rfl rfl ?_
          refine XS.iconst X145.here hx rfl (hb hby at_177) ?_
          refine st148 _ ?_
          refine XS.dup X148.here hx rfl (hb hby at_180) rfl rfl ?_
          refine XS.iconst X148.here hx rfl (hb hby at_181) ?_
          refine XS.iloadN X148.here hx rfl (hb hby at_182) rfl ?_
          refine st151 _ ?_
          refine st153 _ ?_
          refine XS.dup X153.here hx rfl (hb hby at_187) rfl rfl ?_
          refine XS.iconst X153.here hx rfl (hb hby at_188) ?_
          refine XS.iloadN X153.here hx rfl (hb hby at_189) rfl ?_
          refine st156 _ ?_
          refine st158 _ ?_
          refine XS.dup X158.here hx rfl (hb hby at_194) rfl rfl ?_
          refine XS.iconst X158.here hx rfl (hb hby at_195) ?_
          refine XS.iloadN X158.here hx rfl (hb hby at_196) rfl ?_
          refine st161 _ ?_
          refine st163 _ ?_
          refine st166.trans ?_
          refine XS.astore X166.here hx rfl (hb hby at_204) rfl rfl (l' := #[It p1, It p2, It p3, It p4, It v5_t0, It v11_t0, It v17_t0, It v23_t0, It r24, Rf b145]) rfl ?_
          refine XS.goto X166.here hx rfl (pc0 := 206) (pc' := 276) rfl (hb hby at_206) (by decide) (by decide) ?_
          refine XS.aload X166.here hx rfl (hb hby at_276) rfl rfl ?_
          refine st168 _ ?_
          refine XS.iload X168.here hx rfl (hb hby at_280) rfl ?_
          refine st171 _ ?_
          refine XS.iconst X171.here hx rfl (hb hby at_285) ?_
          exact kt
        obtain ⟨fs, hr, hrun, hended, hRW⟩ := X171.leaveW Y168 (show _ ≤ T171.heap.size by rw [e171]; exact Yk168) (v := some (.int (1 : Int32))) (fun h => by rw [Bd.returns] at h; cases h)
        refine ⟨_, _, pre0 _ (sg5 _ (sg6 _ (sg11 _ (sg12 _ (sg17 _ (sg18 _ (sg23 _ (sg25 _ (sg79 _ (sg143 _ (sg172 _ (?_)))))))))))), hrun, hended, _, _, rfl, ?_, (by rw [hh]; show CHr Z own_EL s.vm h0 T171.vm T171.heap; rw [e171]; exact CR170.trans (CHv.at X171 hZ168 hEL CR170.1)), hRW.1, hRW.2.1, hRW.2.2.1, hRW.2.2.2.mono (by decide) (by decide)⟩
        · show Steps _ _ _ (T171.setTop (mkF m 286 #[It p1, It p2, It p3, It p4, It v5_t0, It v11_t0, It v17_t0, It v23_t0, It r24, Rf b145] [(.int (1 : Int32))])) _
          exact retN X171 hx (t := .boolean) Bd.returns (by simp) (hb hby at_286) hr
        · show Q0 Z p1 p2 p3 p4 vFM zC h0 n0 _ T171.heap _
          rw [e171]
          exact ⟨rfl, N171, K168, O169⟩
      · obtain ⟨T173, h173, X173, e173, E173, A173, D173, -, st173⟩ := newO X24 hx hZ hown (tw hw 4 rfl) (tw hw 5 rfl) (tw hw 6 rfl) e24 (g := (mkF m 130 #[It p1, It p2, It p3, It p4, It v5_t0, It v11_t0, It v17_t0, It v23_t0, It r24, .unset] [])) rfl (hb hby at_130) (by decide) (by decide)
        obtain ⟨b173, g173⟩ : ∃ z, z = h0.size := ⟨_, rfl⟩
        rw [← g173] at A173 D173 st173
        have ge_b173 : n0 ≤ b173 := Nat.le_trans (own_osz O0) (Nat.le_of_eq g173.symm)
        have sz_b173 : h0.size ≤ b173 := Nat.le_trans K0.1 (Nat.le_of_eq g173.symm)
        have O174 := O0.ext E173
        have K173 := K0.ext E173
        have CR175 := CR0.trans (CHr.ext E173 CR0.1)
        have F_coder_b173 : Fld Z h173 b173 "java/lang/String" "coder" "B" (.int (0 : Int32)) := D173 (Or.inr (tw hw 36 rfl)) (ty := .byte) (by decide)
        have F_value_b173 : Fld Z h173 b173 "java/lang/String" "value" "[B" .null := D173 (Or.inr (tw hw 38 rfl)) (ty := (.array .byte)) (by decide)
        obtain ⟨T176, h176, k176, X176, e176, E176, A176, st176⟩ := newP X173 hx hZ (tw hw 7 rfl) e173 (g := (mkF m 135 #[It p1, It p2, It p3, It p4, It v5_t0, It v11_t0, It v17_t0, It v23_t0, It r24, .unset] [(.int (4 : Int32)), (.ref b173), (.ref b173)])) rfl (hb hby at_135) rfl (by decide) (cap := 4) (by decide) (by decide) (by decide) (by decide)
        obtain ⟨b176, g176⟩ : ∃ z, z = h173.size := ⟨_, rfl⟩
        rw [← g176] at A176 st176
        have ge_b176 : n0 ≤ b176 := Nat.le_trans (own_osz O174) (Nat.le_of_eq g176.symm)
        have sz_b176 : h0.size ≤ b176 := Nat.le_trans K173.1 (Nat.le_of_eq g176.symm)
        have O177 := O174.ext E176
        have K176 := K173.ext E176
        have CR178 := CR175.trans (CHr.ext E176 CR175.1)
        have V_b176 : Arv Z h176 b176 k176 .char (4 : Int32) [(.int (0 : Int32)), (.int (0 : Int32)), (.int (0 : Int32)), (.int (0 : Int32))] (.int (0 : Int32)) := (Arv.new A176 (by decide)).pad (pad_rep [] (.int (0 : Int32)) 4)
        obtain ⟨_, _, ⟨T179, L179, k179, n179⟩, -, X179, ⟨Lc179, hQ179, l179, y179, z179⟩, st179⟩ := Jvm.LawKit.callS X176 hx (y := m_2) hown (mvT hZ (tw hw 81 rfl)) (mvT hZ (tw hw 82 rfl)) (mvT hZ (tw hw 10 rfl)) (mvT hZ (tw hw 83 rfl)) (by decide) (backOf (W := 5) (rm17 l Z a0 hw [] p1 h176 n0 O177 ) hZ (tw hw 83 rfl) (tw hw 10 rfl) (by decide) (by decide)) (g := (mkF m 140 #[It p1, It p2, It p3, It p4, It v5_t0, It v11_t0, It v17_t0, It v23_t0, It r24, .unset] [(.int p1), (.int (0 : Int32)), (.ref b176), (.ref b176), (.ref b173), (.ref b173)])) rfl (by rw [hml]; rfl) (argsL := [(.int p1)]) (rest := [(.int (0 : Int32)), (.ref b176), (.ref b176), (.ref b173), (.ref b173)]) (lenOf pd_18 rfl) rfl (w0 rfl) (hb hby at_140) (fun _ _ => ⟨rfl, e176, (by decide : 2 + 0 ≤ _), (by decide : 8 + 0 ≤ _)⟩)
        dsimp only [Pt.U, Pt.locs, Pt.cells, Pt.slots] at X179 l179 y179 z179 st179 hQ179
        subst l179 y179 z179
        obtain ⟨rfl, N179q, e179⟩ := hQ179
        have N179 := Fr.app N24 N179q
        obtain ⟨r179, hr179⟩ : ∃ z, z = (((55296 : Int32) + (((((p1.toUInt32 >>> ((1 : Int32) &&& 31).toUInt32).toInt32) % (1048576 : Int32)).toUInt32 >>> ((10 : Int32) &&& 31).toUInt32).toInt32)).toUInt32.toUInt16.toUInt32.toInt32) := ⟨_, rfl⟩
        rw [← hr179] at st179
        have F_r179 := own_hiF hr179
        obtain ⟨cl180, Ar180, q180, Sz180, Nn180, Hh180, Gg180⟩ := id V_b176
        have hin180 : ¬ ((0 : Int32) < 0 ∨ cl180.slots.size ≤ ((0 : Int32)).toNatClampNeg) := inb_of Sz180 ⟨by decide, by decide⟩
        obtain ⟨T181, h181, X181, e181, W181, st181⟩ := stC X179 hx hZ e179 Ar180 (j := (0 : Int32)) hin180 (g := (mkF m 143 #[It p1, It p2, It p3, It p4, It v5_t0, It v11_t0, It v17_t0, It v23_t0, It r24, .unset] [(.int r179), (.int (0 : Int32)), (.ref b176), (.ref b176), (.ref b173), (.ref b173)])) rfl rfl (hb hby at_143)
        have V181 : Arv Z h181 b176 k176 .char (4 : Int32) [(.int (nar .char r179)), (.int (0 : Int32)), (.int (0 : Int32)), (.int (0 : Int32))] (.int (0 : Int32)) := Arv.set Ar180 q180 Sz180 Nn180 Hh180 Gg180 (fits_nar_char _) W181 0 rfl (Nat.le_of_ble_eq_true rfl)
        have N181 := Fr.snoc X181 N179 ge_b176
        have O182 := O177.wr W181 ge_b176
        have K181 := K176.wr W181 (Or.inr sz_b176)
        have CR183 := CR178.trans (CHr.wr W181 own_safe0 CR178.1)
        obtain ⟨_, _, ⟨T184, L184, k184, n184⟩, -, X184, ⟨Lc184, hQ184, l184, y184, z184⟩, st184⟩ := Jvm.LawKit.callS X181 hx (y := m_3) hown (mvT hZ (tw hw 85 rfl)) (mvT hZ (tw hw 86 rfl)) (mvT hZ (tw hw 10 rfl)) (mvT hZ (tw hw 87 rfl)) (by decide) (backOf (W := 5) (rm18 l Z a0 hw [] p1 h181 n0 O182 ) hZ (tw hw 87 rfl) (tw hw 10 rfl) (by decide) (by decide)) (g := (mkF m 147 #[It p1, It p2, It p3, It p4, It v5_t0, It v11_t0, It v17_t0, It v23_t0, It r24, .unset] [(.int p1), (.int (1 : Int32)), (.ref b176), (.ref b176), (.ref b173), (.ref b173)])) rfl (by rw [hml]; rfl) (argsL := [(.int p1)]) (rest := [(.int (1 : Int32)), (.ref b176), (.ref b176), (.ref b173), (.ref b173)]) (lenOf pd_18 rfl) rfl (w0 rfl) (hb hby at_147) (fun _ _ => ⟨rfl, e181, (by decide : 2 + 0 ≤ _), (by decide : 8 + 0 ≤ _)⟩)
        dsimp only [Pt.U, Pt.locs, Pt.cells, Pt.slots] at X184 l184 y184 z184 st184 hQ184
        subst l184 y184 z184
        obtain ⟨rfl, N184q, e184⟩ := hQ184
        have N184 := Fr.app N181 N184q
        obtain ⟨r184, hr184⟩ : ∃ z, z = (((56320 : Int32) + ((((p1.toUInt32 >>> ((1 : Int32) &&& 31).toUInt32).toInt32) % (1048576 : Int32)) &&& (1023 : Int32))).toUInt32.toUInt16.toUInt32.toInt32) := ⟨_, rfl⟩
        rw [← hr184] at st184
        have F_r184 := own_loF hr184
        obtain ⟨cl185, Ar185, q185, Sz185, Nn185, Hh185, Gg185⟩ := id V181
        have hin185 : ¬ ((1 : Int32) < 0 ∨ cl185.slots.size ≤ ((1 : Int32)).toNatClampNeg) := inb_of Sz185 ⟨by decide, by decide⟩
        obtain ⟨T186, h186, X186, e186, W186, st186⟩ := stC X184 hx hZ e184 Ar185 (j := (1 : Int32)) hin185 (g := (mkF m 150 #[It p1, It p2, It p3, It p4, It v5_t0, It v11_t0, It v17_t0, It v23_t0, It r24, .unset] [(.int r184), (.int (1 : Int32)), (.ref b176), (.ref b176), (.ref b173), (.ref b173)])) rfl rfl (hb hby at_150)
        have V186 : Arv Z h186 b176 k176 .char (4 : Int32) [(.int (nar .char r179)), (.int (nar .char r184)), (.int (0 : Int32)), (.int (0 : Int32))] (.int (0 : Int32)) := Arv.set Ar185 q185 Sz185 Nn185 Hh185 Gg185 (fits_nar_char _) W186 1 rfl (Nat.le_of_ble_eq_true rfl)
        have N186 := Fr.snoc X186 N184 ge_b176
        have O187 := O182.wr W186 ge_b176
        have K186 := K181.wr W186 (Or.inr sz_b176)
        have CR188 := CR183.trans (CHr.wr W186 own_safe0 CR183.1)
        obtain ⟨_, _, ⟨T189, L189, k189, n189⟩, -, X189, ⟨Lc189, hQ189, l189, y189, z189⟩, st189⟩ := Jvm.LawKit.callS X186 hx (y := m_2) hown (mvT hZ (tw hw 81 rfl)) (mvT hZ (tw hw 82 rfl)) (mvT hZ (tw hw 10 rfl)) (mvT hZ (tw hw 83 rfl)) (by decide) (backOf (W := 5) (rm17 l Z a0 hw [] p2 h186 n0 O187 ) hZ (tw hw 83 rfl) (tw hw 10 rfl) (by decide) (by decide)) (g := (mkF m 154 #[It p1, It p2, It p3, It p4, It v5_t0, It v11_t0, It v17_t0, It v23_t0, It r24, .unset] [(.int p2), (.int (2 : Int32)), (.ref b176), (.ref b176), (.ref b173), (.ref b173)])) rfl (by rw [hml]; rfl) (argsL := [(.int p2)]) (rest := [(.int (2 : Int32)), (.ref b176), (.ref b176), (.ref b173), (.ref b173)]) (lenOf pd_18 rfl) rfl (w0 rfl) (hb hby at_154) (fun _ _ => ⟨rfl, e186, (by decide : 2 + 0 ≤ _), (by decide : 8 + 0 ≤ _)⟩)
        dsimp only [Pt.U, Pt.locs, Pt.cells, Pt.slots] at X189 l189 y189 z189 st189 hQ189
        subst l189 y189 z189
        obtain ⟨rfl, N189q, e189⟩ := hQ189
        have N189 := Fr.app N186 N189q
        obtain ⟨r189, hr189⟩ : ∃ z, z = (((55296 : Int32) + (((((p2.toUInt32 >>> ((1 : Int32) &&& 31).toUInt32).toInt32) % (1048576 : Int32)).toUInt32 >>> ((10 : Int32) &&& 31).toUInt32).toInt32)).toUInt32.toUInt16.toUInt32.toInt32) := ⟨_, rfl⟩
        rw [← hr189] at st189
        have F_r189 := own_hiF hr189
        obtain ⟨cl190, Ar190, q190, Sz190, Nn190, Hh190, Gg190⟩ := id V186
        have hin190 : ¬ ((2 : Int32) < 0 ∨ cl190.slots.size ≤ ((2 : Int32)).toNatClampNeg) := inb_of Sz190 ⟨by decide, by decide⟩
        obtain ⟨T191, h191, X191, e191, W191, st191⟩ := stC X189 hx hZ e189 Ar190 (j := (2 : Int32)) hin190 (g := (mkF m 157 #[It p1, It p2, It p3, It p4, It v5_t0, It v11_t0, It v17_t0, It v23_t0, It r24, .unset] [(.int r189), (.int (2 : Int32)), (.ref b176), (.ref b176), (.ref b173), (.ref b173)])) rfl rfl (hb hby at_157)
        have V191 : Arv Z h191 b176 k176 .char (4 : Int32) [(.int (nar .char r179)), (.int (nar .char r184)), (.int (nar .char r189)), (.int (0 : Int32))] (.int (0 : Int32)) := Arv.set Ar190 q190 Sz190 Nn190 Hh190 Gg190 (fits_nar_char _) W191 2 rfl (Nat.le_of_ble_eq_true rfl)
        have N191 := Fr.snoc X191 N189 ge_b176
        have O192 := O187.wr W191 ge_b176
        have K191 := K186.wr W191 (Or.inr sz_b176)
        have CR193 := CR188.trans (CHr.wr W191 own_safe0 CR188.1)
        obtain ⟨_, _, ⟨T194, L194, k194, n194⟩, -, X194, ⟨Lc194, hQ194, l194, y194, z194⟩, st194⟩ := Jvm.LawKit.callS X191 hx (y := m_3) hown (mvT hZ (tw hw 85 rfl)) (mvT hZ (tw hw 86 rfl)) (mvT hZ (tw hw 10 rfl)) (mvT hZ (tw hw 87 rfl)) (by decide) (backOf (W := 5) (rm18 l Z a0 hw [] p2 h191 n0 O192 ) hZ (tw hw 87 rfl) (tw hw 10 rfl) (by decide) (by decide)) (g := (mkF m 161 #[It p1, It p2, It p3, It p4, It v5_t0, It v11_t0, It v17_t0, It v23_t0, It r24, .unset] [(.int p2), (.int (3 : Int32)), (.ref b176), (.ref b176), (.ref b173), (.ref b173)])) rfl (by rw [hml]; rfl) (argsL := [(.int p2)]) (rest := [(.int (3 : Int32)), (.ref b176), (.ref b176), (.ref b173), (.ref b173)]) (lenOf pd_18 rfl) rfl (w0 rfl) (hb hby at_161) (fun _ _ => ⟨rfl, e191, (by decide : 2 + 0 ≤ _), (by decide : 8 + 0 ≤ _)⟩)
        dsimp only [Pt.U, Pt.locs, Pt.cells, Pt.slots] at X194 l194 y194 z194 st194 hQ194
        subst l194 y194 z194
        obtain ⟨rfl, N194q, e194⟩ := hQ194
        have N194 := Fr.app N191 N194q
        obtain ⟨r194, hr194⟩ : ∃ z, z = (((56320 : Int32) + ((((p2.toUInt32 >>> ((1 : Int32) &&& 31).toUInt32).toInt32) % (1048576 : Int32)) &&& (1023 : Int32))).toUInt32.toUInt16.toUInt32.toInt32) := ⟨_, rfl⟩
        rw [← hr194] at st194
        have F_r194 := own_loF hr194
        obtain ⟨cl195, Ar195, q195, Sz195, Nn195, Hh195, Gg195⟩ := id V191
        have hin195 : ¬ ((3 : Int32) < 0 ∨ cl195.slots.size ≤ ((3 : Int32)).toNatClampNeg) := inb_of Sz195 ⟨by decide, by decide⟩
        obtain ⟨T196, h196, X196, e196, W196, st196⟩ := stC X194 hx hZ e194 Ar195 (j := (3 : Int32)) hin195 (g := (mkF m 164 #[It p1, It p2, It p3, It p4, It v5_t0, It v11_t0, It v17_t0, It v23_t0, It r24, .unset] [(.int r194), (.int (3 : Int32)), (.ref b176), (.ref b176), (.ref b173), (.ref b173)])) rfl rfl (hb hby at_164)
        have V196 : Arv Z h196 b176 k176 .char (4 : Int32) [(.int (nar .char r179)), (.int (nar .char r184)), (.int (nar .char r189)), (.int (nar .char r194))] (.int (0 : Int32)) := Arv.set Ar195 q195 Sz195 Nn195 Hh195 Gg195 (fits_nar_char _) W196 3 rfl (Nat.le_of_ble_eq_true rfl)
        have N196 := Fr.snoc X196 N194 ge_b176
        have O197 := O192.wr W196 ge_b176
        have K196 := K191.wr W196 (Or.inr sz_b176)
        have CR198 := CR193.trans (CHr.wr W196 own_safe0 CR193.1)
        obtain ⟨_, _, ⟨T199, L199, k199, n199⟩, -, X199, ⟨Lc199, hQ199, l199, y199, z199⟩, st199⟩ := X196.specialBack hx (y := m_17) rfl hown (mvT hZ (tw hw 13 rfl)) (mvT hZ (tw hw 14 rfl)) (mvT hZ (tw hw 15 rfl)) (by decide) (backOf (W := 1) (rm3_40 l Z a0 hw [] b173 b176 (nar .char r179) (nar .char r184) (nar .char r189) (nar .char r194) zC k176 h196 n0 O197 sC sA sH sL (((((A173.ext E176).wr W181).wr W186).wr W191).wr W196) (((((F_value_b173.ext E176).other W181 (Or.inl (Nat.ne_of_lt (Nat.lt_of_lt_of_le A173.lt (Nat.le_of_eq g176.symm))))).other W186 (Or.inl (Nat.ne_of_lt (Nat.lt_of_lt_of_le A173.lt (Nat.le_of_eq g176.symm))))).other W191 (Or.inl (Nat.ne_of_lt (Nat.lt_of_lt_of_le A173.lt (Nat.le_of_eq g176.symm))))).other W196 (Or.inl (Nat.ne_of_lt (Nat.lt_of_lt_of_le A173.lt (Nat.le_of_eq g176.symm))))) (((((F_coder_b173.ext E176).other W181 (Or.inl (Nat.ne_of_lt (Nat.lt_of_lt_of_le A173.lt (Nat.le_of_eq g176.symm))))).other W186 (Or.inl (Nat.ne_of_lt (Nat.lt_of_lt_of_le A173.lt (Nat.le_of_eq g176.symm))))).other W191 (Or.inl (Nat.ne_of_lt (Nat.lt_of_lt_of_le A173.lt (Nat.le_of_eq g176.symm))))).other W196 (Or.inl (Nat.ne_of_lt (Nat.lt_of_lt_of_le A173.lt (Nat.le_of_eq g176.symm))))) ge_b173 hCS V196 (own_big F_r179) F_r179.1) hZ (tw hw 15 rfl) (tw hw 6 rfl) (by decide) (by decide)) (g := (mkF m 165 #[It p1, It p2, It p3, It p4, It v5_t0, It v11_t0, It v17_t0, It v23_t0, It r24, .unset] [(.ref b176), (.ref b173), (.ref b173)])) rfl (by rw [hml]; rfl) (Steps.refl _) (a := b173) (argsL := [(.ref b176)]) (rest := [(.ref b173)]) (lenOf pd_19 rfl) rfl (w0 rfl) (hb hby at_165) (fun _ _ => ⟨rfl, e196, (by decide : 2 + 2 ≤ _), (by decide : 8 + 12 ≤ _)⟩)
        dsimp only [Pt.U, Pt.locs, Pt.cells, Pt.slots] at X199 l199 y199 z199 st199 hQ199
        subst l199 y199 z199
        obtain ⟨ro_199, ko_199, rfl, N199q, K199q, O199, f199_0, f199_1, f199_2, f199_3, f199_4⟩ := hQ199
        have N199 := Fr.app N196 N199q
        have CR200 := CR198.trans (CHr.keep K199q (allS own_safe0 all0) CR198.1)
        have K199 := K196.trans K199q (allS (Or.inr sz_b173) all0)
        obtain ⟨sa201, T201, h201, k201, X201, e201, E201, Y201, Yk201, hZ201, hown201, C201, Lt201, st201⟩ := ldcOH X199 hx hZ hown (tw hw 39 rfl) hSA rfl Y0 (Nat.le_trans (Nat.le_trans (Nat.le_trans (Nat.le_trans (Nat.le_trans (Nat.le_trans (Nat.le_trans Yk0 E173.1) E176.1) (Keep.of_wr W181).1) (Keep.of_wr W186).1) (Keep.of_wr W191).1) (Keep.of_wr W196).1) K199q.1) hEL CR200.1 (g := (mkF m 278 #[It p1, It p2, It p3, It p4, It v5_t0, It v11_t0, It v17_t0, It v23_t0, It r24, Rf b173] [(.ref b173)])) rfl (hb hby at_278) (n := 36) (by decide) (by decide) (by decide) (by decide)
        have O202 := O199.ext E201
        have K201 := K199.ext E201
        have CR203 := CR200.trans (C201)
        obtain ⟨_, _, ⟨T204, L204, k204, n204⟩, -, X204, ⟨Lc204, hQ204, l204, y204, z204⟩, st204⟩ := Jvm.LawKit.callS X201 hx (y := m_26) hown201 (mvT hZ201 (tw hw 42 rfl)) (mvT hZ201 (tw hw 43 rfl)) (mvT hZ201 (tw hw 44 rfl)) (mvT hZ201 (tw hw 45 rfl)) (by decide) (backOf (W := 0) (rm9_PP1 l Z a0 hw [] b173 sa201 r24 (nar .char r179) (nar .char r184) (nar .char r189) (nar .char r194) ro_199 vFM zC ko_199 h201 n0 O202 hCS hFM sC sA sH sL sF (((((((A173.ext E176).wr W181).wr W186).wr W191).wr W196).keep K199q).ext E201) (f199_0.ext E201) (f199_1.ext E201) (f199_2.ext E201) F_r179 F_r184 F_r189 F_r194 (own_lim2 hr24 hv23_t0 hc26)) hZ201 (tw hw 45 rfl) (tw hw 44 rfl) (by decide) (by decide)) (g := (mkF m 282 #[It p1, It p2, It p3, It p4, It v5_t0, It v11_t0, It v17_t0, It v23_t0, It r24, Rf b173] [(.int r24), (.ref sa201), (.ref b173)])) rfl (by rw [hml]; rfl) (argsL := [(.ref b173), (.ref sa201), (.int r24)]) (rest := []) (lenOf pd_20 rfl) rfl (w0 rfl) (hb hby at_282) (fun _ _ => ⟨rfl, e201, (by decide : 6 + 0 ≤ _), (by decide : 60 + 0 ≤ _)⟩)
        dsimp only [Pt.U, Pt.locs, Pt.cells, Pt.slots] at X204 l204 y204 z204 st204 hQ204
        subst l204 y204 z204
        obtain ⟨rfl, N204q, e204⟩ := hQ204
        have N204 := Fr.app N199 N204q
        have sg205 : SG p.tables e below (T204.setTop (mkF m 286 #[It p1, It p2, It p3, It p4, It v5_t0, It v11_t0, It v17_t0, It v23_t0, It r24, Rf b173] [(.int (1 : Int32))])) (T24.setTop (mkF m 127 #[It p1, It p2, It p3, It p4, It v5_t0, It v11_t0, It v17_t0, It v23_t0, It r24, .unset] [(.int v17_t0)])) := by
          intro target kt
          show Steps _ _ _ (T24.setTop (mkF m 127 #[It p1, It p2, It p3, It p4, It v5_t0, It v11_t0, It v17_t0, It v23_t0, It r24, .unset] [(.int v17_t0)])) _
          refine XS.ifNo X24.here hx rfl (hb hby at_127) rfl ((if0 _ _).trans (feq hc144).1) ?_
          refine st173 _ ?_
          refine XS.dup X173.here hx rfl (hb hby at_133) rfl rfl ?_
          refine XS.iconst X173.here hx rfl (hb hby at_134) ?_
          refine st176 _ ?_
          refine XS.dup X176.here hx rfl (hb hby at_137) rfl rfl ?_
          refine XS.iconst X176.here hx rfl (hb hby at_138) ?_
          refine XS.iloadN X176.here hx rfl (hb hby at_139) rfl ?_
          refine st179 _ ?_
          refine st181 _ ?_
          refine XS.dup X181.here hx rfl (hb hby at_144) rfl rfl ?_
          refine XS.iconst X181.here hx rfl (hb hby at_145) ?_
          refine XS.iloadN X181.here hx rfl (hb hby at_146) rfl ?_
          refine st184 _ ?_
          refine st186 _ ?_
          refine XS.dup X186.here hx rfl (hb hby at_151) rfl rfl ?_
          refine XS.iconst X186.here hx rfl (hb hby at_152) ?_
          refine XS.iloadN X186.here hx rfl (hb hby at_153) rfl ?_
          refine st189 _ ?_
          refine st191 _ ?_
          refine XS.dup X191.here hx rfl (hb hby at_158) rfl rfl ?_
          refine XS.iconst X191.here hx rfl (hb hby at_159) ?_
          refine XS.iloadN X191.here hx rfl (hb hby at_160) rfl ?_
          refine st194 _ ?_
          refine st196 _ ?_
          refine st199.trans ?_
          refine XS.astore X199.here hx rfl (hb hby at_168) rfl rfl (l' := #[It p1, It p2, It p3, It p4, It v5_t0, It v11_t0, It v17_t0, It v23_t0, It r24, Rf b173]) rfl ?_
          refine XS.goto X199.here hx rfl (pc0 := 170) (pc' := 276) rfl (hb hby at_170) (by decide) (by decide) ?_
          refine XS.aload X199.here hx rfl (hb hby at_276) rfl rfl ?_
          refine st201 _ ?_
          show Steps _ _ _ (T201.setTop (mkF m 280 #[It p1, It p2, It p3, It p4, It v5_t0, It v11_t0, It v17_t0, It v23_t0, It r24, Rf b173] [(.ref sa201), (.ref b173)])) _
          refine XS.iload X201.here hx rfl (hb hby at_280) rfl ?_
          refine st204 _ ?_
          refine XS.iconst X204.here hx rfl (hb hby at_285) ?_
          exact kt
        obtain ⟨fs, hr, hrun, hended, hRW⟩ := X204.leaveW Y201 (show _ ≤ T204.heap.size by rw [e204]; exact Yk201) (v := some (.int (1 : Int32))) (fun h => by rw [Bd.returns] at h; cases h)
        refine ⟨_, _, pre0 _ (sg5 _ (sg6 _ (sg11 _ (sg12 _ (sg17 _ (sg18 _ (sg23 _ (sg25 _ (sg79 _ (sg143 _ (sg205 _ (?_)))))))))))), hrun, hended, _, _, rfl, ?_, (by rw [hh]; show CHr Z own_EL s.vm h0 T204.vm T204.heap; rw [e204]; exact CR203.trans (CHv.at X204 hZ201 hEL CR203.1)), hRW.1, hRW.2.1, hRW.2.2.1, hRW.2.2.2.mono (by decide) (by decide)⟩
        · show Steps _ _ _ (T204.setTop (mkF m 286 #[It p1, It p2, It p3, It p4, It v5_t0, It v11_t0, It v17_t0, It v23_t0, It r24, Rf b173] [(.int (1 : Int32))])) _
          exact retN X204 hx (t := .boolean) Bd.returns (by simp) (hb hby at_286) hr
        · show Q0 Z p1 p2 p3 p4 vFM zC h0 n0 _ T204.heap _
          rw [e204]
          exact ⟨rfl, N204, K201, O202⟩
set_option maxRecDepth 65536 in
set_option maxHeartbeats 40000000 in
theorem comes_1 {Post : Tables → Env → Array Value → State → Outcome → State → Prop} (hpost : ∀ tb e args s v u, (limb_1_1.after args s (.returned v) u = true ∧ limb_1_2.after args s (.returned v) u = true ∧ True) → FramedW s (.returned v) u (Jvm.fieldLocs frame_1_writes args s ++ Jvm.arrayLocs frame_1_arrays args s ++ Jvm.staticLocs frame_1_statics s) 24 1152 → Post tb e args s (.returned v) u) :
    ArmFor flags0 classFile x code maxLocals ret World_1 tables_1 room_1 Calls_1 rest_1 Pre_1 Post := by
  intro l hfl _ _ p e ha hc hk s m args below hf hA hF happ hP
  obtain ⟨hcalls, hrest, hpre⟩ := hP
  obtain ⟨-, -, -, hnamed, -, -, -, hat⟩ := (Spec.applies_iff hf).mp happ
  obtain ⟨hg, hn⟩ := and_e (Cond.before_iff.mp (show (Jvm.Cond.and given_1 narrow_1).before args s = true from hpre))
  obtain ⟨g1, g2⟩ := and_e hg
  obtain ⟨g3, g4⟩ := and_e g2
  obtain ⟨g5, g6⟩ := and_e g4
  obtain ⟨g7, g8⟩ := and_e g6
  obtain ⟨w0, w1, w2, w3, rfl⟩ : ∃ w0 w1 w2 w3 : Value, args = #[w0, w1, w2, w3] := by
    have hs : args.size = 4 := by simpa [Cond.value, given_1] using g1
    obtain ⟨L⟩ := args
    match L, hs with
    | [w0, w1, w2, w3], _ => exact ⟨w0, w1, w2, w3, rfl⟩
  have hw := fun d (hd : d ∈ tables_1) => atoms_spec (ws := Jvm.Cond.code x code maxLocals ret :: tables_1) hat d (List.mem_cons_of_mem _ hd)
  have hfit : Fit s := fun {y c} hc i hi => by
    obtain ⟨ha, rfl⟩ := Array.getElem?_eq_some_iff.mp hc
    have q := List.all_eq_true.mp ((Array.all_eq_true_iff_forall_mem.mp hF) _ (Array.getElem_mem ha)) i (List.mem_range.mpr hi)
    simpa [Array.getElem?_eq_getElem hi] using q
  obtain ⟨hsets, hown0⟩ := atoms_of _ (rest_1_c_eq ▸ (show rest_1_c.before _ s = true from hrest))
  have hr0 := Cond.before_iff.mp hown0
  obtain ⟨i0, ei0⟩ := is_v g3
  obtain rfl : w0 = (.int i0) := Option.some.inj ei0
  obtain ⟨i1, ei1⟩ := is_v g5
  obtain rfl : w1 = (.int i1) := Option.some.inj ei1
  obtain ⟨i2, ei2⟩ := is_v g7
  obtain rfl : w2 = (.int i2) := Option.some.inj ei2
  obtain ⟨i3, ei3⟩ := is_v g8
  obtain rfl : w3 = (.int i3) := Option.some.inj ei3
  obtain ⟨zC, evC⟩ := is_v (Cond.before_iff.mp (hsets _ (List.mem_of_getElem? (i := 1) rfl)))
  have SS_COMPACT_STRINGS := Sta.start evC (Or.inl (hsets _ (List.mem_of_getElem? (i := 0) rfl)))
  have hCW := (hsets _ (List.mem_of_getElem? (i := 2) rfl))
  have hCS : ¬ zC = 0 := gotF (P := zC = 0) (by simp [Cond.value, evC, Term.int_eval]) (not_v (Cond.before_iff.mp hCW))
  obtain ⟨vFM, evF, hFM⟩ := isR_v (Cond.before_iff.mp (hsets _ (List.mem_of_getElem? (i := 8) rfl)))
  have SS_SIOOBE_FORMATTER := Sta.start evF (Or.inl (hsets _ (List.mem_of_getElem? (i := 7) rfl)))
  have SS__assertionsDisabled := Sta.start (own_eqint (Cond.before_iff.mp (hsets _ (List.mem_of_getElem? (i := 12) rfl)))) (Or.inl (hsets _ (List.mem_of_getElem? (i := 11) rfl)))
  have SS_HI_BYTE_SHIFT := Sta.start (own_eqint (Cond.before_iff.mp (hsets _ (List.mem_of_getElem? (i := 15) rfl)))) (Or.inl (hsets _ (List.mem_of_getElem? (i := 14) rfl)))
  have SS_LO_BYTE_SHIFT := Sta.start (own_eqint (Cond.before_iff.mp (hsets _ (List.mem_of_getElem? (i := 18) rfl)))) (Or.inl (hsets _ (List.mem_of_getElem? (i := 17) rfl)))
  have hCH : CHv s own_EL s.vm s.heap := fun p hp => nomatch hp
  obtain ⟨n, o, h1, h2, h3, _, L, rfl, ⟨rfl, N, -⟩, -, hq⟩ := rm0 l s _ hw tables_1 i0 i1 i2 i3 vFM zC s.heap s.heap.size (Old.start s) hCS hFM SS_COMPACT_STRINGS SS__assertionsDisabled SS_HI_BYTE_SHIFT SS_LO_BYTE_SHIFT SS_SIOOBE_FORMATTER p e ha hc hk s m _ below hf ((Spec.applies_iff_loose hf).mp happ).1 ⟨rfl, State.Warmed39.refl s, rfl, hCH⟩ trivial
  refine ⟨n, _, h1, h2, h3, hpost _ _ _ _ _ _ ⟨Cond.after_iff.mpr rfl, Cond.after_iff.mpr (eq_i res_at (Term.int_eval (1)) rfl), trivial⟩ ?_⟩
  exact ⟨hq.1, hq.2.1, hq.2.2.1, (hq.2.2.2.sift fun y hy => Or.inr (N y hy)).mono (by decide) (by decide)⟩
theorem main_1_1 : Claimed_1_1 := comes_1 fun _ _ _ _ _ _ h hF => ⟨h.1, hF⟩
theorem main_1_2 : Claimed_1_2 := comes_1 fun _ _ _ _ _ _ h hF => ⟨h.2.1, hF⟩
end Jvm.Pilot.@@N@@
namespace Jvm.Pilot.@@N@@
open Jvm Jvm.ClassFile Sem Op Lib Jvm.Free Jvm.Stand Jvm.Pilot.@@N@@.Jvm.D
/-! MADE BY PROGRAM (witnessworld.py) out of the Statement's table words and the real class files: 22 classes; the members and pool entries that the words name. The judged class is class 1, her method 4. -/
namespace start1
open Jvm.ClassFile
def u (s : String) : CpInfo := .utf8 (stringToUtf16 s)
/-- a pool by its gaps: so many unusable entries, then the entry; so many at the end -/
def gap : Nat → List CpInfo → List CpInfo
  | 0, r => r
  | n + 1, r => .unusable :: gap n r
def poolList (es : List (Nat × CpInfo)) (last : Nat) : List CpInfo := es.foldr (fun e r => gap e.1 (e.2 :: r)) (gap last [])
def pool (es : List (Nat × CpInfo)) (last : Nat) : Array CpInfo := ⟨poolList es last⟩
def fileOf (pool : Array CpInfo) (this : Nat) (attrs : Array Attribute := #[]) (ms : Array MethodInfo := #[]) (fl : Nat := 33) (sup : Nat := 0) (ifs : Array Nat := #[]) (fds : Array FieldInfo := #[]) : ClassFile where
  minorVersion := 0
  majorVersion := 65
  constantPool := pool
  accessFlags := fl
  thisClass := this
  superClass := sup
  interfaces := ifs
  fields := fds
  methods := ms
  attributes := attrs
def plain (name : String) (sup : Option ClassId) : Class where
  name := name
  kind := .ordinary
  loader := none
  accessFlags := 33
  super := sup
  interfaces := #[]
  cf := none
  fields := #[]
  methods := #[]
  instanceTypes := #[]
  staticTypes := #[]
  resolved := #[]
  callSites := []
  init := .initialized
  statics := none
  mirror := none

def pool0 : Array CpInfo := pool [(5, u "<init>"), (0, u "()V"), (1, .class_ 10), (1, u "java/lang/Object")] 113

def k0c0 : Code := { maxStack := 0, maxLocals := 1, code := object_method_1_code, exceptionTable := #[], attributes := #[] }
def k0m0 : Method := { name := "<init>", desc := "()V", sig := { parameters := [], returnType := none }, accessFlags := 1, code := some k0c0 }
/-- java/lang/Object -/
def k0 : Class := { plain "java/lang/Object" none with
  accessFlags := 33
  interfaces := #[]
  cf := some (fileOf pool0 8 #[] #[{ accessFlags := 1, nameIndex := 5, descriptorIndex := 6, attributes := #[] }] 33 0 #[] #[])
  fields := #[]
  methods := #[k0m0]
  instanceTypes := #[]
  staticTypes := #[]
  resolved := Array.replicate 124 none
  statics := none }

def pool1 : Array CpInfo := pool [(2, .class_ 4), (1, u "java/lang/Object"), (0, u "<init>"), (0, u "()V"), (0, .integer 65535), (0, .integer 55296), (0, .integer 57343), (0, .integer 1048576), (0, .integer 56320), (0, .methodref 13 14), (0, .class_ 15), (0, .nameAndType 16 17), (0, u "java/lang/Math"), (0, u "max"), (0, u "(II)I"), (0, .class_ 19), (0, u "java/lang/String"), (0, .methodref 21 22), (0, .class_ 23), (0, .nameAndType 24 25), (0, u "com/example/chitragupta/chitragupta/core/CharactersCheckPinLaw"), (0, u "hi"), (0, u "(I)C"), (0, .methodref 21 27), (0, .nameAndType 28 25), (0, u "lo"), (0, .methodref 18 30), (0, .nameAndType 5 31), (0, u "([C)V"), (0, .methodref 21 33), (0, .nameAndType 34 25), (0, u "bmp"), (0, .string 36), (0, u "a user_id"), (0, .methodref 38 39), (0, .class_ 40), (0, .nameAndType 41 42), (0, u "com/example/chitragupta/chitragupta/core/Characters"), (0, u "check"), (0, u "(Ljava/lang/String;Ljava/lang/String;I)V"), (3, u "law"), (0, u "(IIII)Z")] 2

def k1m0 : Method := { name := "<init>", desc := "()V", sig := { parameters := [], returnType := none }, accessFlags := 2, code := none }
def k1c1 : Code := { maxStack := 2, maxLocals := 2, code := method_2_code, exceptionTable := #[], attributes := #[] }
def k1m1 : Method := { name := "bmp", desc := "(I)C", sig := { parameters := [.int], returnType := some .char }, accessFlags := 10, code := some k1c1 }
def k1c2 : Code := { maxStack := 3, maxLocals := 2, code := method_3_code, exceptionTable := #[], attributes := #[] }
def k1m2 : Method := { name := "hi", desc := "(I)C", sig := { parameters := [.int], returnType := some .char }, accessFlags := 10, code := some k1c2 }
def k1c3 : Code := { maxStack := 3, maxLocals := 2, code := method_4_code, exceptionTable := #[], attributes := #[] }
def k1m3 : Method := { name := "lo", desc := "(I)C", sig := { parameters := [.int], returnType := some .char }, accessFlags := 10, code := some k1c3 }
def k1c4 : Code := { maxStack := 6, maxLocals := 10, code := code, exceptionTable := #[], attributes := #[] }
def k1m4 : Method := { name := "law", desc := "(IIII)Z", sig := { parameters := [.int, .int, .int, .int], returnType := some .boolean }, accessFlags := 9, code := some k1c4 }
/-- com/example/chitragupta/chitragupta/core/CharactersCheckPinLaw -/
def k1 : Class := { plain "com/example/chitragupta/chitragupta/core/CharactersCheckPinLaw" (some 0) with
  accessFlags := 49
  interfaces := #[]
  cf := some (fileOf pool1 21 #[] #[{ accessFlags := 2, nameIndex := 5, descriptorIndex := 6, attributes := #[] }, { accessFlags := 10, nameIndex := 34, descriptorIndex := 25, attributes := #[] }, { accessFlags := 10, nameIndex := 24, descriptorIndex := 25, attributes := #[] }, { accessFlags := 10, nameIndex := 28, descriptorIndex := 25, attributes := #[] }, { accessFlags := 9, nameIndex := 46, descriptorIndex := 47, attributes := #[] }] 49 2 #[] #[])
  fields := #[]
  methods := #[k1m0, k1m1, k1m2, k1m3, k1m4]
  instanceTypes := #[]
  staticTypes := #[]
  resolved := Array.replicate 50 none
  statics := none }

def pool2 : Array CpInfo := pool [(1, .class_ 2), (0, u "java/lang/Math"), (1, .class_ 6), (1, u "java/lang/Object"), (0, u "<init>"), (0, u "()V"), (89, .class_ 100), (1, u "java/lang/Math$RandomNumberGeneratorHolder"), (71, u "negativeZeroFloatBits"), (0, u "J"), (2, u "negativeZeroDoubleBits"), (21, u "max"), (46, u "$assertionsDisabled"), (0, u "Z"), (88, u "(II)I"), (2, u "twoToTheDoubleScaleDown"), (0, u "D"), (4, u "twoToTheDoubleScaleUp"), (9, u "E"), (3, u "PI"), (2, u "TAU"), (2, u "DEGREES_TO_RADIANS"), (0, u "RADIANS_TO_DEGREES")] 94

def k2m0 : Method := { name := "<init>", desc := "()V", sig := { parameters := [], returnType := none }, accessFlags := 2, code := none }
def k2c1 : Code := { maxStack := 2, maxLocals := 2, code := jdk_29_method_65_code, exceptionTable := #[], attributes := #[] }
def k2m1 : Method := { name := "max", desc := "(II)I", sig := { parameters := [.int, .int], returnType := some .int }, accessFlags := 9, code := some k2c1 }
/-- java/lang/Math -/
def k2 : Class := { plain "java/lang/Math" (some 0) with
  accessFlags := 49
  interfaces := #[]
  cf := some (fileOf pool2 1 #[.nestMembers #[98]] #[{ accessFlags := 2, nameIndex := 7, descriptorIndex := 8, attributes := #[] }, { accessFlags := 9, nameIndex := 198, descriptorIndex := 335, attributes := #[] }] 49 4 #[] #[{ accessFlags := 25, nameIndex := 354, descriptorIndex := 339, attributes := #[] }, { accessFlags := 25, nameIndex := 358, descriptorIndex := 339, attributes := #[] }, { accessFlags := 25, nameIndex := 361, descriptorIndex := 339, attributes := #[] }, { accessFlags := 26, nameIndex := 364, descriptorIndex := 339, attributes := #[] }, { accessFlags := 26, nameIndex := 365, descriptorIndex := 339, attributes := #[] }, { accessFlags := 26, nameIndex := 172, descriptorIndex := 173, attributes := #[] }, { accessFlags := 26, nameIndex := 176, descriptorIndex := 173, attributes := #[] }, { accessFlags := 8, nameIndex := 344, descriptorIndex := 339, attributes := #[] }, { accessFlags := 8, nameIndex := 338, descriptorIndex := 339, attributes := #[] }, { accessFlags := 4120, nameIndex := 245, descriptorIndex := 246, attributes := #[] }])
  fields := #[{ name := "E", type := .double, accessFlags := 25, slot := 0, constantValue := 0 }, { name := "PI", type := .double, accessFlags := 25, slot := 1, constantValue := 0 }, { name := "TAU", type := .double, accessFlags := 25, slot := 2, constantValue := 0 }, { name := "DEGREES_TO_RADIANS", type := .double, accessFlags := 26, slot := 3, constantValue := 0 }, { name := "RADIANS_TO_DEGREES", type := .double, accessFlags := 26, slot := 4, constantValue := 0 }, { name := "negativeZeroFloatBits", type := .long, accessFlags := 26, slot := 5, constantValue := 0 }, { name := "negativeZeroDoubleBits", type := .long, accessFlags := 26, slot := 6, constantValue := 0 }, { name := "twoToTheDoubleScaleUp", type := .double, accessFlags := 8, slot := 7, constantValue := 0 }, { name := "twoToTheDoubleScaleDown", type := .double, accessFlags := 8, slot := 8, constantValue := 0 }, { name := "$assertionsDisabled", type := .boolean, accessFlags := 4120, slot := 9, constantValue := 0 }]
  methods := #[k2m0, k2m1]
  instanceTypes := #[]
  staticTypes := #[.double, .double, .double, .double, .double, .long, .long, .double, .double, .boolean]
  resolved := Array.replicate 460 none
  statics := none }

def pool3 : Array CpInfo := pool [(1, .class_ 2), (0, u "java/io/Serializable"), (0, .class_ 4), (0, u "java/lang/Object")] 2

/-- java/io/Serializable -/
def k3 : Class := { plain "java/io/Serializable" (some 0) with
  accessFlags := 1537
  interfaces := #[]
  cf := some (fileOf pool3 1 #[] #[] 1537 3 #[] #[])
  fields := #[]
  methods := #[]
  instanceTypes := #[]
  staticTypes := #[]
  resolved := Array.replicate 7 none
  statics := none }

def pool4 : Array CpInfo := pool [(1, .class_ 2), (0, u "java/lang/Comparable"), (0, .class_ 4), (0, u "java/lang/Object")] 7

/-- java/lang/Comparable -/
def k4 : Class := { plain "java/lang/Comparable" (some 0) with
  accessFlags := 1537
  interfaces := #[]
  cf := some (fileOf pool4 1 #[] #[] 1537 3 #[] #[])
  fields := #[]
  methods := #[]
  instanceTypes := #[]
  staticTypes := #[]
  resolved := Array.replicate 12 none
  statics := none }

def pool5 : Array CpInfo := pool [(2, .class_ 4), (1, u "java/lang/CharSequence"), (42, .class_ 48), (0, u "java/lang/CharSequence$1CodePointIterator"), (10, .class_ 60), (0, u "java/lang/CharSequence$1CharIterator"), (5, .class_ 67), (0, u "java/lang/Object")] 63

/-- java/lang/CharSequence -/
def k5 : Class := { plain "java/lang/CharSequence" (some 0) with
  accessFlags := 1537
  interfaces := #[]
  cf := some (fileOf pool5 2 #[.nestMembers #[47, 59]] #[] 1537 66 #[] #[])
  fields := #[]
  methods := #[]
  instanceTypes := #[]
  staticTypes := #[]
  resolved := Array.replicate 131 none
  statics := none }

def pool6 : Array CpInfo := pool [(1, .class_ 2), (0, u "java/lang/constant/Constable"), (0, .class_ 4), (0, u "java/lang/Object")] 6

/-- java/lang/constant/Constable -/
def k6 : Class := { plain "java/lang/constant/Constable" (some 0) with
  accessFlags := 1537
  interfaces := #[]
  cf := some (fileOf pool6 1 #[] #[] 1537 3 #[] #[])
  fields := #[]
  methods := #[]
  instanceTypes := #[]
  staticTypes := #[]
  resolved := Array.replicate 11 none
  statics := none }

def pool7 : Array CpInfo := pool [(1, .class_ 2), (0, u "java/lang/constant/ConstantDesc"), (0, .class_ 4), (0, u "java/lang/Object")] 32

/-- java/lang/constant/ConstantDesc -/
def k7 : Class := { plain "java/lang/constant/ConstantDesc" (some 0) with
  accessFlags := 1537
  interfaces := #[]
  cf := some (fileOf pool7 1 #[] #[] 1537 3 #[] #[])
  fields := #[]
  methods := #[]
  instanceTypes := #[]
  staticTypes := #[]
  resolved := Array.replicate 37 none
  statics := none }

def pool8 : Array CpInfo := pool [(1, .methodref 2 3), (0, .class_ 4), (0, .nameAndType 5 6), (0, u "java/lang/Object"), (0, u "<init>"), (0, u "()V"), (2, .fieldref 10 11), (0, .class_ 12), (0, .nameAndType 13 14), (0, u "java/lang/String"), (0, u "value"), (0, u "[B"), (0, .fieldref 10 16), (0, .nameAndType 17 18), (0, u "coder"), (0, u "B"), (2, u "hash"), (0, u "I"), (2, u "hashIsZero"), (0, u "Z"), (0, .methodref 10 28), (0, .nameAndType 5 29), (0, u "([CIILjava/lang/Void;)V"), (8, .fieldref 10 39), (0, .nameAndType 40 26), (0, u "COMPACT_STRINGS"), (1, .class_ 44), (1, u "java/lang/StringUTF16"), (0, u "compress"), (1, .methodref 42 48), (0, .nameAndType 49 50), (0, u "coderFromArrayLen"), (0, u "([BI)B"), (46, u "([BII)I"), (44, u "()Z"), (34, .methodref 42 178), (0, .nameAndType 45 179), (0, u "([CII)[B"), (154, u "()I"), (0, .methodref 10 336), (0, .nameAndType 17 337), (0, u "()B"), (53, u "(II)V"), (100, .methodref 10 493), (0, .nameAndType 494 142), (0, u "isLatin1"), (4, .methodref 10 500), (0, .nameAndType 501 391), (0, u "checkIndex"), (0, .methodref 42 503), (0, .nameAndType 504 97), (0, u "codePointAt"), (2, u "length"), (67, .class_ 576), (0, u "java/lang/CharSequence"), (22, u "CASE_INSENSITIVE_ORDER"), (0, u "Ljava/util/Comparator;"), (164, u "(I)I"), (244, u "([C)V"), (42, .fieldref 1054 1055), (0, .class_ 1056), (0, .nameAndType 1057 1058), (0, u "jdk/internal/util/Preconditions"), (0, u "SIOOBE_FORMATTER"), (0, u "Ljava/util/function/BiFunction;"), (0, .methodref 1054 1060), (0, .nameAndType 501 1061), (0, u "(IILjava/util/function/BiFunction;)I"), (39, u "serialPersistentFields"), (0, u "[Ljava/io/ObjectStreamField;"), (0, .class_ 1104), (0, u "java/lang/String$CaseInsensitiveComparator"), (1, .class_ 1107), (0, u "java/io/Serializable"), (0, .class_ 1109), (0, u "java/lang/Comparable"), (0, .class_ 1111), (0, u "java/lang/constant/Constable"), (0, .class_ 1113), (0, u "java/lang/constant/ConstantDesc"), (2, u "serialVersionUID"), (0, u "J"), (3, u "REPL"), (0, u "C"), (2, u "LATIN1"), (1, u "UTF16")] 323

def k8m0 : Method := { name := "<init>", desc := "()V", sig := { parameters := [], returnType := none }, accessFlags := 1, code := none }
def k8c1 : Code := { maxStack := 5, maxLocals := 2, code := jdk_42_method_3_code, exceptionTable := #[], attributes := #[] }
def k8m1 : Method := { name := "<init>", desc := "([C)V", sig := { parameters := [(.array .char)], returnType := none }, accessFlags := 1, code := some k8c1 }
def k8c2 : Code := { maxStack := 2, maxLocals := 1, code := jdk_42_method_54_code, exceptionTable := #[], attributes := #[] }
def k8m2 : Method := { name := "length", desc := "()I", sig := { parameters := [], returnType := some .int }, accessFlags := 1, code := some k8c2 }
def k8c3 : Code := { maxStack := 3, maxLocals := 3, code := jdk_42_method_57_code, exceptionTable := #[], attributes := #[] }
def k8m3 : Method := { name := "codePointAt", desc := "(I)I", sig := { parameters := [.int], returnType := some .int }, accessFlags := 1, code := some k8c3 }
def k8c4 : Code := { maxStack := 4, maxLocals := 6, code := jdk_42_method_149_code, exceptionTable := #[], attributes := #[] }
def k8m4 : Method := { name := "<init>", desc := "([CIILjava/lang/Void;)V", sig := { parameters := [(.array .char), .int, .int, (.object "java/lang/Void")], returnType := none }, accessFlags := 2, code := some k8c4 }
def k8c5 : Code := { maxStack := 1, maxLocals := 1, code := jdk_42_method_152_code, exceptionTable := #[], attributes := #[] }
def k8m5 : Method := { name := "coder", desc := "()B", sig := { parameters := [], returnType := some .byte }, accessFlags := 0, code := some k8c5 }
def k8c6 : Code := { maxStack := 1, maxLocals := 1, code := jdk_42_method_154_code, exceptionTable := #[], attributes := #[] }
def k8m6 : Method := { name := "isLatin1", desc := "()Z", sig := { parameters := [], returnType := some .boolean }, accessFlags := 0, code := some k8c6 }
def k8c7 : Code := { maxStack := 3, maxLocals := 2, code := jdk_42_method_155_code, exceptionTable := #[], attributes := #[] }
def k8m7 : Method := { name := "checkIndex", desc := "(II)V", sig := { parameters := [.int, .int], returnType := none }, accessFlags := 8, code := some k8c7 }
/-- java/lang/String -/
def k8 : Class := { plain "java/lang/String" (some 0) with
  accessFlags := 49
  interfaces := #[3, 4, 5, 6, 7]
  cf := some (fileOf pool8 10 #[.nestMembers #[1103]] #[{ accessFlags := 1, nameIndex := 5, descriptorIndex := 6, attributes := #[] }, { accessFlags := 1, nameIndex := 5, descriptorIndex := 1010, attributes := #[] }, { accessFlags := 1, nameIndex := 507, descriptorIndex := 334, attributes := #[] }, { accessFlags := 1, nameIndex := 504, descriptorIndex := 765, attributes := #[] }, { accessFlags := 2, nameIndex := 5, descriptorIndex := 29, attributes := #[] }, { accessFlags := 0, nameIndex := 17, descriptorIndex := 337, attributes := #[] }, { accessFlags := 0, nameIndex := 494, descriptorIndex := 142, attributes := #[] }, { accessFlags := 8, nameIndex := 501, descriptorIndex := 391, attributes := #[] }] 49 2 #[1106, 1108, 575, 1110, 1112] #[{ accessFlags := 18, nameIndex := 13, descriptorIndex := 14, attributes := #[] }, { accessFlags := 18, nameIndex := 17, descriptorIndex := 18, attributes := #[] }, { accessFlags := 2, nameIndex := 21, descriptorIndex := 22, attributes := #[] }, { accessFlags := 2, nameIndex := 25, descriptorIndex := 26, attributes := #[] }, { accessFlags := 26, nameIndex := 1116, descriptorIndex := 1117, attributes := #[] }, { accessFlags := 24, nameIndex := 40, descriptorIndex := 26, attributes := #[] }, { accessFlags := 26, nameIndex := 1101, descriptorIndex := 1102, attributes := #[] }, { accessFlags := 26, nameIndex := 1121, descriptorIndex := 1122, attributes := #[] }, { accessFlags := 25, nameIndex := 599, descriptorIndex := 600, attributes := #[] }, { accessFlags := 24, nameIndex := 1125, descriptorIndex := 18, attributes := #[] }, { accessFlags := 24, nameIndex := 1127, descriptorIndex := 18, attributes := #[] }])
  fields := #[{ name := "value", type := (.array .byte), accessFlags := 18, slot := 0, constantValue := 0 }, { name := "coder", type := .byte, accessFlags := 18, slot := 1, constantValue := 0 }, { name := "hash", type := .int, accessFlags := 2, slot := 2, constantValue := 0 }, { name := "hashIsZero", type := .boolean, accessFlags := 2, slot := 3, constantValue := 0 }, { name := "serialVersionUID", type := .long, accessFlags := 26, slot := 0, constantValue := 0 }, { name := "COMPACT_STRINGS", type := .boolean, accessFlags := 24, slot := 1, constantValue := 0 }, { name := "serialPersistentFields", type := (.array (.object "java/io/ObjectStreamField")), accessFlags := 26, slot := 2, constantValue := 0 }, { name := "REPL", type := .char, accessFlags := 26, slot := 3, constantValue := 0 }, { name := "CASE_INSENSITIVE_ORDER", type := (.object "java/util/Comparator"), accessFlags := 25, slot := 4, constantValue := 0 }, { name := "LATIN1", type := .byte, accessFlags := 24, slot := 5, constantValue := 0 }, { name := "UTF16", type := .byte, accessFlags := 24, slot := 6, constantValue := 0 }]
  methods := #[k8m0, k8m1, k8m2, k8m3, k8m4, k8m5, k8m6, k8m7]
  instanceTypes := #[(.array .byte), .byte, .int, .boolean]
  staticTypes := #[.long, .boolean, (.array (.object "java/io/ObjectStreamField")), .char, (.object "java/util/Comparator"), .byte, .byte]
  resolved := Array.replicate 1451 none
  statics := some 0 }

def pool9 : Array CpInfo := pool [(6, .class_ 8), (1, u "java/lang/Object"), (0, u "<init>"), (0, u "()V"), (0, .methodref 12 13), (0, .class_ 14), (0, .nameAndType 15 16), (0, u "java/lang/StringUTF16"), (0, u "newBytesLength"), (0, u "(I)I"), (3, .integer 1073741823), (23, .fieldref 12 45), (0, .nameAndType 46 47), (0, u "$assertionsDisabled"), (0, u "Z"), (11, .fieldref 12 60), (0, .nameAndType 61 62), (0, u "HI_BYTE_SHIFT"), (0, u "I"), (0, .fieldref 12 64), (0, .nameAndType 65 62), (0, u "LO_BYTE_SHIFT"), (5, .methodref 12 72), (0, .nameAndType 73 74), (0, u "getChar"), (0, u "([BI)C"), (0, .methodref 76 77), (0, .class_ 78), (0, .nameAndType 79 80), (0, u "java/lang/Character"), (0, u "isHighSurrogate"), (0, u "(C)Z"), (0, .methodref 76 82), (0, .nameAndType 83 80), (0, u "isLowSurrogate"), (0, .methodref 76 85), (0, .nameAndType 86 87), (0, u "toCodePoint"), (0, u "(CC)I"), (0, .methodref 12 89), (0, .nameAndType 90 91), (0, u "codePointAt"), (0, u "([BIIZ)I"), (15, .methodref 12 108), (0, .nameAndType 109 110), (0, u "newBytesFor"), (0, u "(I)[B"), (0, .methodref 12 112), (0, .nameAndType 113 114), (0, u "putChar"), (0, u "([BII)V"), (0, .methodref 12 116), (0, .nameAndType 117 118), (0, u "compress"), (0, u "([CI[BII)I"), (0, .methodref 12 120), (0, .nameAndType 121 122), (0, u "toBytes"), (0, u "([CII)[B"), (127, u "([BII)I"), (10, u "coderFromArrayLen"), (0, u "([BI)B"), (106, .class_ 371), (1, u "java/lang/StringUTF16$LinesSpliterator"), (58, u "MAX_LENGTH"), (196, .class_ 628), (0, u "java/lang/StringUTF16$CodePointsSpliterator"), (0, .class_ 630), (0, u "java/lang/StringUTF16$CharsSpliterator")] 4

def k9m0 : Method := { name := "<init>", desc := "()V", sig := { parameters := [], returnType := none }, accessFlags := 0, code := none }
def k9c1 : Code := { maxStack := 1, maxLocals := 1, code := jdk_52_method_2_code, exceptionTable := #[], attributes := #[] }
def k9m1 : Method := { name := "newBytesFor", desc := "(I)[B", sig := { parameters := [.int], returnType := some (.array .byte) }, accessFlags := 9, code := some k9c1 }
def k9c2 : Code := { maxStack := 4, maxLocals := 1, code := jdk_52_method_3_code, exceptionTable := #[], attributes := #[] }
def k9m2 : Method := { name := "newBytesLength", desc := "(I)I", sig := { parameters := [.int], returnType := some .int }, accessFlags := 9, code := some k9c2 }
def k9c3 : Code := { maxStack := 4, maxLocals := 3, code := jdk_52_method_4_code, exceptionTable := #[], attributes := #[] }
def k9m3 : Method := { name := "putChar", desc := "([BII)V", sig := { parameters := [(.array .byte), .int, .int], returnType := none }, accessFlags := 8, code := some k9c3 }
def k9c4 : Code := { maxStack := 3, maxLocals := 2, code := jdk_52_method_5_code, exceptionTable := #[], attributes := #[] }
def k9m4 : Method := { name := "getChar", desc := "([BI)C", sig := { parameters := [(.array .byte), .int], returnType := some .char }, accessFlags := 8, code := some k9c4 }
def k9c5 : Code := { maxStack := 2, maxLocals := 6, code := jdk_52_method_7_code, exceptionTable := #[], attributes := #[] }
def k9m5 : Method := { name := "codePointAt", desc := "([BIIZ)I", sig := { parameters := [(.array .byte), .int, .int, .boolean], returnType := some .int }, accessFlags := 10, code := some k9c5 }
def k9c6 : Code := { maxStack := 4, maxLocals := 3, code := jdk_52_method_8_code, exceptionTable := #[], attributes := #[] }
def k9m6 : Method := { name := "codePointAt", desc := "([BII)I", sig := { parameters := [(.array .byte), .int, .int], returnType := some .int }, accessFlags := 9, code := some k9c6 }
def k9c7 : Code := { maxStack := 4, maxLocals := 5, code := jdk_52_method_14_code, exceptionTable := #[], attributes := #[] }
def k9m7 : Method := { name := "toBytes", desc := "([CII)[B", sig := { parameters := [(.array .char), .int, .int], returnType := some (.array .byte) }, accessFlags := 9, code := some k9c7 }
def k9c8 : Code := { maxStack := 2, maxLocals := 2, code := jdk_52_method_15_code, exceptionTable := #[], attributes := #[] }
def k9m8 : Method := { name := "coderFromArrayLen", desc := "([BI)B", sig := { parameters := [(.array .byte), .int], returnType := some .byte }, accessFlags := 8, code := some k9c8 }
def k9c9 : Code := { maxStack := 5, maxLocals := 6, code := jdk_52_method_16_code, exceptionTable := #[], attributes := #[] }
def k9m9 : Method := { name := "compress", desc := "([CII)[B", sig := { parameters := [(.array .char), .int, .int], returnType := some (.array .byte) }, accessFlags := 9, code := some k9c9 }
def k9c10 : Code := { maxStack := 3, maxLocals := 7, code := jdk_52_method_21_code, exceptionTable := #[], attributes := #[] }
def k9m10 : Method := { name := "compress", desc := "([CI[BII)I", sig := { parameters := [(.array .char), .int, (.array .byte), .int, .int], returnType := some .int }, accessFlags := 9, code := some k9c10 }
/-- java/lang/StringUTF16 -/
def k9 : Class := { plain "java/lang/StringUTF16" (some 0) with
  accessFlags := 48
  interfaces := #[]
  cf := some (fileOf pool9 12 #[.nestMembers #[627, 629, 369]] #[{ accessFlags := 0, nameIndex := 9, descriptorIndex := 10, attributes := #[] }, { accessFlags := 9, nameIndex := 109, descriptorIndex := 110, attributes := #[] }, { accessFlags := 9, nameIndex := 15, descriptorIndex := 16, attributes := #[] }, { accessFlags := 8, nameIndex := 113, descriptorIndex := 114, attributes := #[] }, { accessFlags := 8, nameIndex := 73, descriptorIndex := 74, attributes := #[] }, { accessFlags := 10, nameIndex := 90, descriptorIndex := 91, attributes := #[] }, { accessFlags := 9, nameIndex := 90, descriptorIndex := 250, attributes := #[] }, { accessFlags := 9, nameIndex := 121, descriptorIndex := 122, attributes := #[] }, { accessFlags := 8, nameIndex := 261, descriptorIndex := 262, attributes := #[] }, { accessFlags := 9, nameIndex := 117, descriptorIndex := 122, attributes := #[] }, { accessFlags := 9, nameIndex := 117, descriptorIndex := 118, attributes := #[] }] 48 6 #[] #[{ accessFlags := 26, nameIndex := 61, descriptorIndex := 62, attributes := #[] }, { accessFlags := 26, nameIndex := 65, descriptorIndex := 62, attributes := #[] }, { accessFlags := 24, nameIndex := 430, descriptorIndex := 62, attributes := #[] }, { accessFlags := 4120, nameIndex := 46, descriptorIndex := 47, attributes := #[] }])
  fields := #[{ name := "HI_BYTE_SHIFT", type := .int, accessFlags := 26, slot := 0, constantValue := 0 }, { name := "LO_BYTE_SHIFT", type := .int, accessFlags := 26, slot := 1, constantValue := 0 }, { name := "MAX_LENGTH", type := .int, accessFlags := 24, slot := 2, constantValue := 0 }, { name := "$assertionsDisabled", type := .boolean, accessFlags := 4120, slot := 3, constantValue := 0 }]
  methods := #[k9m0, k9m1, k9m2, k9m3, k9m4, k9m5, k9m6, k9m7, k9m8, k9m9, k9m10]
  instanceTypes := #[]
  staticTypes := #[.int, .int, .int, .boolean]
  resolved := Array.replicate 635 none
  statics := some 1 }

def pool10 : Array CpInfo := pool [(2, .class_ 4), (1, u "java/lang/Object"), (0, u "<init>"), (0, u "()V"), (0, .methodref 8 9), (0, .class_ 10), (0, .nameAndType 11 12), (0, u "java/lang/String"), (0, u "length"), (0, u "()I"), (0, .methodref 8 14), (0, .nameAndType 15 16), (0, u "codePointAt"), (0, u "(I)I"), (9, .class_ 27), (0, u "java/lang/Character"), (0, .integer 55296), (0, .integer 57343), (12, .methodref 26 43), (0, .nameAndType 44 16), (0, u "charCount"), (3, .class_ 49), (0, u "com/example/chitragupta/chitragupta/core/Characters"), (2, u "check"), (0, u "(Ljava/lang/String;Ljava/lang/String;I)V")] 20

def k10m0 : Method := { name := "<init>", desc := "()V", sig := { parameters := [], returnType := none }, accessFlags := 2, code := none }
def k10c1 : Code := { maxStack := 7, maxLocals := 6, code := prog_8_method_2_code, exceptionTable := #[], attributes := #[] }
def k10m1 : Method := { name := "check", desc := "(Ljava/lang/String;Ljava/lang/String;I)V", sig := { parameters := [(.object "java/lang/String"), (.object "java/lang/String"), .int], returnType := none }, accessFlags := 8, code := some k10c1 }
/-- com/example/chitragupta/chitragupta/core/Characters -/
def k10 : Class := { plain "com/example/chitragupta/chitragupta/core/Characters" (some 0) with
  accessFlags := 48
  interfaces := #[]
  cf := some (fileOf pool10 48 #[] #[{ accessFlags := 2, nameIndex := 5, descriptorIndex := 6, attributes := #[] }, { accessFlags := 8, nameIndex := 52, descriptorIndex := 53, attributes := #[] }] 48 2 #[] #[])
  fields := #[]
  methods := #[k10m0, k10m1]
  instanceTypes := #[]
  staticTypes := #[]
  resolved := Array.replicate 74 none
  statics := none }

def pool11 : Array CpInfo := pool [(2, .class_ 4), (1, u "java/lang/Object"), (0, u "<init>"), (0, u "()V"), (17, .class_ 26), (1, u "jdk/internal/util/Preconditions"), (6, u "checkIndex"), (21, .class_ 56), (0, u "jdk/internal/util/Preconditions$4"), (57, .class_ 115), (0, u "jdk/internal/util/Preconditions$1"), (7, u "SIOOBE_FORMATTER"), (0, u "Ljava/util/function/BiFunction;"), (0, .class_ 126), (0, u "jdk/internal/util/Preconditions$2"), (3, u "AIOOBE_FORMATTER"), (0, .class_ 132), (0, u "jdk/internal/util/Preconditions$3"), (3, u "IOOBE_FORMATTER"), (41, u "(IILjava/util/function/BiFunction;)I")] 15

def k11m0 : Method := { name := "<init>", desc := "()V", sig := { parameters := [], returnType := none }, accessFlags := 1, code := none }
def k11c1 : Code := { maxStack := 3, maxLocals := 3, code := jdk_41_method_11_code, exceptionTable := #[], attributes := #[] }
def k11m1 : Method := { name := "checkIndex", desc := "(IILjava/util/function/BiFunction;)I", sig := { parameters := [.int, .int, (.object "java/util/function/BiFunction")], returnType := some .int }, accessFlags := 9, code := some k11c1 }
/-- jdk/internal/util/Preconditions -/
def k11 : Class := { plain "jdk/internal/util/Preconditions" (some 0) with
  accessFlags := 33
  interfaces := #[]
  cf := some (fileOf pool11 24 #[.nestMembers #[55, 131, 125, 114]] #[{ accessFlags := 1, nameIndex := 5, descriptorIndex := 6, attributes := #[] }, { accessFlags := 9, nameIndex := 33, descriptorIndex := 178, attributes := #[] }] 33 2 #[] #[{ accessFlags := 25, nameIndex := 123, descriptorIndex := 124, attributes := #[] }, { accessFlags := 25, nameIndex := 130, descriptorIndex := 124, attributes := #[] }, { accessFlags := 25, nameIndex := 136, descriptorIndex := 124, attributes := #[] }])
  fields := #[{ name := "SIOOBE_FORMATTER", type := (.object "java/util/function/BiFunction"), accessFlags := 25, slot := 0, constantValue := 0 }, { name := "AIOOBE_FORMATTER", type := (.object "java/util/function/BiFunction"), accessFlags := 25, slot := 1, constantValue := 0 }, { name := "IOOBE_FORMATTER", type := (.object "java/util/function/BiFunction"), accessFlags := 25, slot := 2, constantValue := 0 }]
  methods := #[k11m0, k11m1]
  instanceTypes := #[]
  staticTypes := #[(.object "java/util/function/BiFunction"), (.object "java/util/function/BiFunction"), (.object "java/util/function/BiFunction")]
  resolved := Array.replicate 194 none
  statics := some 2 }

def pool12 : Array CpInfo := pool [(1, .class_ 2), (0, u "java/lang/Character"), (18, u "value"), (0, u "C"), (19, .class_ 44), (1, u "java/lang/Object"), (3, .class_ 50), (1, u "java/lang/Character$CharacterCache"), (22, .integer 65536), (1, .integer 55296), (0, .integer 56320), (0, .integer 57344), (2, u "isHighSurrogate"), (0, u "(C)Z"), (2, u "isLowSurrogate"), (0, .integer 4238353408), (12, u "toCodePoint"), (0, u "(CC)I"), (74, u "(I)I"), (109, u "$assertionsDisabled"), (0, u "Z"), (21, .class_ 309), (1, u "java/lang/Character$UnicodeBlock"), (73, u "TYPE"), (0, u "Ljava/lang/Class;"), (0, .class_ 386), (0, u "java/io/Serializable"), (0, .class_ 388), (0, u "java/lang/Comparable"), (0, .class_ 390), (0, u "java/lang/constant/Constable"), (0, u "MIN_RADIX"), (0, u "I"), (2, u "MAX_RADIX"), (1, u "MIN_VALUE"), (1, u "MAX_VALUE"), (3, u "UNASSIGNED"), (0, u "B"), (0, u "UPPERCASE_LETTER"), (1, u "LOWERCASE_LETTER"), (0, u "TITLECASE_LETTER"), (1, u "MODIFIER_LETTER"), (1, u "OTHER_LETTER"), (1, u "NON_SPACING_MARK"), (1, u "ENCLOSING_MARK"), (1, u "COMBINING_SPACING_MARK"), (1, u "DECIMAL_DIGIT_NUMBER"), (1, u "LETTER_NUMBER"), (1, u "OTHER_NUMBER"), (1, u "SPACE_SEPARATOR"), (1, u "LINE_SEPARATOR"), (1, u "PARAGRAPH_SEPARATOR"), (1, u "CONTROL"), (1, u "FORMAT"), (1, u "PRIVATE_USE"), (1, u "SURROGATE"), (1, u "DASH_PUNCTUATION"), (1, u "START_PUNCTUATION"), (1, u "END_PUNCTUATION"), (1, u "CONNECTOR_PUNCTUATION"), (1, u "OTHER_PUNCTUATION"), (1, u "MATH_SYMBOL"), (1, u "CURRENCY_SYMBOL"), (1, u "MODIFIER_SYMBOL"), (1, u "OTHER_SYMBOL"), (1, u "INITIAL_QUOTE_PUNCTUATION"), (1, u "FINAL_QUOTE_PUNCTUATION"), (1, u "ERROR"), (1, u "DIRECTIONALITY_UNDEFINED"), (0, u "DIRECTIONALITY_LEFT_TO_RIGHT"), (0, u "DIRECTIONALITY_RIGHT_TO_LEFT"), (0, u "DIRECTIONALITY_RIGHT_TO_LEFT_ARABIC"), (0, u "DIRECTIONALITY_EUROPEAN_NUMBER"), (0, u "DIRECTIONALITY_EUROPEAN_NUMBER_SEPARATOR"), (0, u "DIRECTIONALITY_EUROPEAN_NUMBER_TERMINATOR"), (0, u "DIRECTIONALITY_ARABIC_NUMBER"), (0, u "DIRECTIONALITY_COMMON_NUMBER_SEPARATOR"), (0, u "DIRECTIONALITY_NONSPACING_MARK"), (0, u "DIRECTIONALITY_BOUNDARY_NEUTRAL"), (0, u "DIRECTIONALITY_PARAGRAPH_SEPARATOR"), (0, u "DIRECTIONALITY_SEGMENT_SEPARATOR"), (0, u "DIRECTIONALITY_WHITESPACE"), (0, u "DIRECTIONALITY_OTHER_NEUTRALS"), (0, u "DIRECTIONALITY_LEFT_TO_RIGHT_EMBEDDING"), (0, u "DIRECTIONALITY_LEFT_TO_RIGHT_OVERRIDE"), (0, u "DIRECTIONALITY_RIGHT_TO_LEFT_EMBEDDING"), (0, u "DIRECTIONALITY_RIGHT_TO_LEFT_OVERRIDE"), (1, u "DIRECTIONALITY_POP_DIRECTIONAL_FORMAT"), (0, u "DIRECTIONALITY_LEFT_TO_RIGHT_ISOLATE"), (0, u "DIRECTIONALITY_RIGHT_TO_LEFT_ISOLATE"), (0, u "DIRECTIONALITY_FIRST_STRONG_ISOLATE"), (0, u "DIRECTIONALITY_POP_DIRECTIONAL_ISOLATE"), (0, u "MIN_HIGH_SURROGATE"), (0, u "MAX_HIGH_SURROGATE"), (1, u "MIN_LOW_SURROGATE"), (0, u "MAX_LOW_SURROGATE"), (1, u "MIN_SURROGATE"), (0, u "MAX_SURROGATE"), (0, u "MIN_SUPPLEMENTARY_CODE_POINT"), (0, u "MIN_CODE_POINT"), (0, u "MAX_CODE_POINT"), (1, u "serialVersionUID"), (0, u "J"), (2, u "SIZE"), (0, u "BYTES"), (29, u "charCount"), (58, .class_ 596), (0, u "java/lang/Character$UnicodeScript"), (0, .class_ 598), (0, u "java/lang/Character$Subset")] 5

def k12c0 : Code := { maxStack := 2, maxLocals := 1, code := jdk_89_method_14_code, exceptionTable := #[], attributes := #[] }
def k12m0 : Method := { name := "isHighSurrogate", desc := "(C)Z", sig := { parameters := [.char], returnType := some .boolean }, accessFlags := 9, code := some k12c0 }
def k12c1 : Code := { maxStack := 2, maxLocals := 1, code := jdk_89_method_15_code, exceptionTable := #[], attributes := #[] }
def k12m1 : Method := { name := "isLowSurrogate", desc := "(C)Z", sig := { parameters := [.char], returnType := some .boolean }, accessFlags := 9, code := some k12c1 }
def k12c2 : Code := { maxStack := 2, maxLocals := 1, code := jdk_89_method_18_code, exceptionTable := #[], attributes := #[] }
def k12m2 : Method := { name := "charCount", desc := "(I)I", sig := { parameters := [.int], returnType := some .int }, accessFlags := 9, code := some k12c2 }
def k12c3 : Code := { maxStack := 2, maxLocals := 2, code := jdk_89_method_19_code, exceptionTable := #[], attributes := #[] }
def k12m3 : Method := { name := "toCodePoint", desc := "(CC)I", sig := { parameters := [.char, .char], returnType := some .int }, accessFlags := 9, code := some k12c3 }
/-- java/lang/Character -/
def k12 : Class := { plain "java/lang/Character" (some 0) with
  accessFlags := 49
  interfaces := #[3, 4, 6]
  cf := some (fileOf pool12 1 #[.nestMembers #[48, 595, 307, 597]] #[{ accessFlags := 9, nameIndex := 80, descriptorIndex := 81, attributes := #[] }, { accessFlags := 9, nameIndex := 84, descriptorIndex := 81, attributes := #[] }, { accessFlags := 9, nameIndex := 536, descriptorIndex := 174, attributes := #[] }, { accessFlags := 9, nameIndex := 98, descriptorIndex := 99, attributes := #[] }] 49 42 #[385, 387, 389] #[{ accessFlags := 25, nameIndex := 391, descriptorIndex := 392, attributes := #[] }, { accessFlags := 25, nameIndex := 395, descriptorIndex := 392, attributes := #[] }, { accessFlags := 25, nameIndex := 397, descriptorIndex := 22, attributes := #[] }, { accessFlags := 25, nameIndex := 399, descriptorIndex := 22, attributes := #[] }, { accessFlags := 25, nameIndex := 383, descriptorIndex := 384, attributes := #[] }, { accessFlags := 25, nameIndex := 403, descriptorIndex := 404, attributes := #[] }, { accessFlags := 25, nameIndex := 405, descriptorIndex := 404, attributes := #[] }, { accessFlags := 25, nameIndex := 407, descriptorIndex := 404, attributes := #[] }, { accessFlags := 25, nameIndex := 408, descriptorIndex := 404, attributes := #[] }, { accessFlags := 25, nameIndex := 410, descriptorIndex := 404, attributes := #[] }, { accessFlags := 25, nameIndex := 412, descriptorIndex := 404, attributes := #[] }, { accessFlags := 25, nameIndex := 414, descriptorIndex := 404, attributes := #[] }, { accessFlags := 25, nameIndex := 416, descriptorIndex := 404, attributes := #[] }, { accessFlags := 25, nameIndex := 418, descriptorIndex := 404, attributes := #[] }, { accessFlags := 25, nameIndex := 420, descriptorIndex := 404, attributes := #[] }, { accessFlags := 25, nameIndex := 422, descriptorIndex := 404, attributes := #[] }, { accessFlags := 25, nameIndex := 424, descriptorIndex := 404, attributes := #[] }, { accessFlags := 25, nameIndex := 426, descriptorIndex := 404, attributes := #[] }, { accessFlags := 25, nameIndex := 428, descriptorIndex := 404, attributes := #[] }, { accessFlags := 25, nameIndex := 430, descriptorIndex := 404, attributes := #[] }, { accessFlags := 25, nameIndex := 432, descriptorIndex := 404, attributes := #[] }, { accessFlags := 25, nameIndex := 434, descriptorIndex := 404, attributes := #[] }, { accessFlags := 25, nameIndex := 436, descriptorIndex := 404, attributes := #[] }, { accessFlags := 25, nameIndex := 438, descriptorIndex := 404, attributes := #[] }, { accessFlags := 25, nameIndex := 440, descriptorIndex := 404, attributes := #[] }, { accessFlags := 25, nameIndex := 442, descriptorIndex := 404, attributes := #[] }, { accessFlags := 25, nameIndex := 444, descriptorIndex := 404, attributes := #[] }, { accessFlags := 25, nameIndex := 446, descriptorIndex := 404, attributes := #[] }, { accessFlags := 25, nameIndex := 448, descriptorIndex := 404, attributes := #[] }, { accessFlags := 25, nameIndex := 450, descriptorIndex := 404, attributes := #[] }, { accessFlags := 25, nameIndex := 452, descriptorIndex := 404, attributes := #[] }, { accessFlags := 25, nameIndex := 454, descriptorIndex := 404, attributes := #[] }, { accessFlags := 25, nameIndex := 456, descriptorIndex := 404, attributes := #[] }, { accessFlags := 25, nameIndex := 458, descriptorIndex := 404, attributes := #[] }, { accessFlags := 25, nameIndex := 460, descriptorIndex := 404, attributes := #[] }, { accessFlags := 24, nameIndex := 462, descriptorIndex := 392, attributes := #[] }, { accessFlags := 25, nameIndex := 464, descriptorIndex := 404, attributes := #[] }, { accessFlags := 25, nameIndex := 465, descriptorIndex := 404, attributes := #[] }, { accessFlags := 25, nameIndex := 466, descriptorIndex := 404, attributes := #[] }, { accessFlags := 25, nameIndex := 467, descriptorIndex := 404, attributes := #[] }, { accessFlags := 25, nameIndex := 468, descriptorIndex := 404, attributes := #[] }, { accessFlags := 25, nameIndex := 469, descriptorIndex := 404, attributes := #[] }, { accessFlags := 25, nameIndex := 470, descriptorIndex := 404, attributes := #[] }, { accessFlags := 25, nameIndex := 471, descriptorIndex := 404, attributes := #[] }, { accessFlags := 25, nameIndex := 472, descriptorIndex := 404, attributes := #[] }, { accessFlags := 25, nameIndex := 473, descriptorIndex := 404, attributes := #[] }, { accessFlags := 25, nameIndex := 474, descriptorIndex := 404, attributes := #[] }, { accessFlags := 25, nameIndex := 475, descriptorIndex := 404, attributes := #[] }, { accessFlags := 25, nameIndex := 476, descriptorIndex := 404, attributes := #[] }, { accessFlags := 25, nameIndex := 477, descriptorIndex := 404, attributes := #[] }, { accessFlags := 25, nameIndex := 478, descriptorIndex := 404, attributes := #[] }, { accessFlags := 25, nameIndex := 479, descriptorIndex := 404, attributes := #[] }, { accessFlags := 25, nameIndex := 480, descriptorIndex := 404, attributes := #[] }, { accessFlags := 25, nameIndex := 481, descriptorIndex := 404, attributes := #[] }, { accessFlags := 25, nameIndex := 482, descriptorIndex := 404, attributes := #[] }, { accessFlags := 25, nameIndex := 484, descriptorIndex := 404, attributes := #[] }, { accessFlags := 25, nameIndex := 485, descriptorIndex := 404, attributes := #[] }, { accessFlags := 25, nameIndex := 486, descriptorIndex := 404, attributes := #[] }, { accessFlags := 25, nameIndex := 487, descriptorIndex := 404, attributes := #[] }, { accessFlags := 25, nameIndex := 488, descriptorIndex := 404, attributes := #[] }, { accessFlags := 25, nameIndex := 489, descriptorIndex := 22, attributes := #[] }, { accessFlags := 25, nameIndex := 490, descriptorIndex := 22, attributes := #[] }, { accessFlags := 25, nameIndex := 492, descriptorIndex := 22, attributes := #[] }, { accessFlags := 25, nameIndex := 493, descriptorIndex := 22, attributes := #[] }, { accessFlags := 25, nameIndex := 495, descriptorIndex := 22, attributes := #[] }, { accessFlags := 25, nameIndex := 496, descriptorIndex := 22, attributes := #[] }, { accessFlags := 25, nameIndex := 497, descriptorIndex := 392, attributes := #[] }, { accessFlags := 25, nameIndex := 498, descriptorIndex := 392, attributes := #[] }, { accessFlags := 25, nameIndex := 499, descriptorIndex := 392, attributes := #[] }, { accessFlags := 18, nameIndex := 21, descriptorIndex := 22, attributes := #[] }, { accessFlags := 26, nameIndex := 501, descriptorIndex := 502, attributes := #[] }, { accessFlags := 25, nameIndex := 505, descriptorIndex := 392, attributes := #[] }, { accessFlags := 25, nameIndex := 506, descriptorIndex := 392, attributes := #[] }, { accessFlags := 4120, nameIndex := 284, descriptorIndex := 285, attributes := #[] }])
  fields := #[{ name := "MIN_RADIX", type := .int, accessFlags := 25, slot := 0, constantValue := 0 }, { name := "MAX_RADIX", type := .int, accessFlags := 25, slot := 1, constantValue := 0 }, { name := "MIN_VALUE", type := .char, accessFlags := 25, slot := 2, constantValue := 0 }, { name := "MAX_VALUE", type := .char, accessFlags := 25, slot := 3, constantValue := 0 }, { name := "TYPE", type := (.object "java/lang/Class"), accessFlags := 25, slot := 4, constantValue := 0 }, { name := "UNASSIGNED", type := .byte, accessFlags := 25, slot := 5, constantValue := 0 }, { name := "UPPERCASE_LETTER", type := .byte, accessFlags := 25, slot := 6, constantValue := 0 }, { name := "LOWERCASE_LETTER", type := .byte, accessFlags := 25, slot := 7, constantValue := 0 }, { name := "TITLECASE_LETTER", type := .byte, accessFlags := 25, slot := 8, constantValue := 0 }, { name := "MODIFIER_LETTER", type := .byte, accessFlags := 25, slot := 9, constantValue := 0 }, { name := "OTHER_LETTER", type := .byte, accessFlags := 25, slot := 10, constantValue := 0 }, { name := "NON_SPACING_MARK", type := .byte, accessFlags := 25, slot := 11, constantValue := 0 }, { name := "ENCLOSING_MARK", type := .byte, accessFlags := 25, slot := 12, constantValue := 0 }, { name := "COMBINING_SPACING_MARK", type := .byte, accessFlags := 25, slot := 13, constantValue := 0 }, { name := "DECIMAL_DIGIT_NUMBER", type := .byte, accessFlags := 25, slot := 14, constantValue := 0 }, { name := "LETTER_NUMBER", type := .byte, accessFlags := 25, slot := 15, constantValue := 0 }, { name := "OTHER_NUMBER", type := .byte, accessFlags := 25, slot := 16, constantValue := 0 }, { name := "SPACE_SEPARATOR", type := .byte, accessFlags := 25, slot := 17, constantValue := 0 }, { name := "LINE_SEPARATOR", type := .byte, accessFlags := 25, slot := 18, constantValue := 0 }, { name := "PARAGRAPH_SEPARATOR", type := .byte, accessFlags := 25, slot := 19, constantValue := 0 }, { name := "CONTROL", type := .byte, accessFlags := 25, slot := 20, constantValue := 0 }, { name := "FORMAT", type := .byte, accessFlags := 25, slot := 21, constantValue := 0 }, { name := "PRIVATE_USE", type := .byte, accessFlags := 25, slot := 22, constantValue := 0 }, { name := "SURROGATE", type := .byte, accessFlags := 25, slot := 23, constantValue := 0 }, { name := "DASH_PUNCTUATION", type := .byte, accessFlags := 25, slot := 24, constantValue := 0 }, { name := "START_PUNCTUATION", type := .byte, accessFlags := 25, slot := 25, constantValue := 0 }, { name := "END_PUNCTUATION", type := .byte, accessFlags := 25, slot := 26, constantValue := 0 }, { name := "CONNECTOR_PUNCTUATION", type := .byte, accessFlags := 25, slot := 27, constantValue := 0 }, { name := "OTHER_PUNCTUATION", type := .byte, accessFlags := 25, slot := 28, constantValue := 0 }, { name := "MATH_SYMBOL", type := .byte, accessFlags := 25, slot := 29, constantValue := 0 }, { name := "CURRENCY_SYMBOL", type := .byte, accessFlags := 25, slot := 30, constantValue := 0 }, { name := "MODIFIER_SYMBOL", type := .byte, accessFlags := 25, slot := 31, constantValue := 0 }, { name := "OTHER_SYMBOL", type := .byte, accessFlags := 25, slot := 32, constantValue := 0 }, { name := "INITIAL_QUOTE_PUNCTUATION", type := .byte, accessFlags := 25, slot := 33, constantValue := 0 }, { name := "FINAL_QUOTE_PUNCTUATION", type := .byte, accessFlags := 25, slot := 34, constantValue := 0 }, { name := "ERROR", type := .int, accessFlags := 24, slot := 35, constantValue := 0 }, { name := "DIRECTIONALITY_UNDEFINED", type := .byte, accessFlags := 25, slot := 36, constantValue := 0 }, { name := "DIRECTIONALITY_LEFT_TO_RIGHT", type := .byte, accessFlags := 25, slot := 37, constantValue := 0 }, { name := "DIRECTIONALITY_RIGHT_TO_LEFT", type := .byte, accessFlags := 25, slot := 38, constantValue := 0 }, { name := "DIRECTIONALITY_RIGHT_TO_LEFT_ARABIC", type := .byte, accessFlags := 25, slot := 39, constantValue := 0 }, { name := "DIRECTIONALITY_EUROPEAN_NUMBER", type := .byte, accessFlags := 25, slot := 40, constantValue := 0 }, { name := "DIRECTIONALITY_EUROPEAN_NUMBER_SEPARATOR", type := .byte, accessFlags := 25, slot := 41, constantValue := 0 }, { name := "DIRECTIONALITY_EUROPEAN_NUMBER_TERMINATOR", type := .byte, accessFlags := 25, slot := 42, constantValue := 0 }, { name := "DIRECTIONALITY_ARABIC_NUMBER", type := .byte, accessFlags := 25, slot := 43, constantValue := 0 }, { name := "DIRECTIONALITY_COMMON_NUMBER_SEPARATOR", type := .byte, accessFlags := 25, slot := 44, constantValue := 0 }, { name := "DIRECTIONALITY_NONSPACING_MARK", type := .byte, accessFlags := 25, slot := 45, constantValue := 0 }, { name := "DIRECTIONALITY_BOUNDARY_NEUTRAL", type := .byte, accessFlags := 25, slot := 46, constantValue := 0 }, { name := "DIRECTIONALITY_PARAGRAPH_SEPARATOR", type := .byte, accessFlags := 25, slot := 47, constantValue := 0 }, { name := "DIRECTIONALITY_SEGMENT_SEPARATOR", type := .byte, accessFlags := 25, slot := 48, constantValue := 0 }, { name := "DIRECTIONALITY_WHITESPACE", type := .byte, accessFlags := 25, slot := 49, constantValue := 0 }, { name := "DIRECTIONALITY_OTHER_NEUTRALS", type := .byte, accessFlags := 25, slot := 50, constantValue := 0 }, { name := "DIRECTIONALITY_LEFT_TO_RIGHT_EMBEDDING", type := .byte, accessFlags := 25, slot := 51, constantValue := 0 }, { name := "DIRECTIONALITY_LEFT_TO_RIGHT_OVERRIDE", type := .byte, accessFlags := 25, slot := 52, constantValue := 0 }, { name := "DIRECTIONALITY_RIGHT_TO_LEFT_EMBEDDING", type := .byte, accessFlags := 25, slot := 53, constantValue := 0 }, { name := "DIRECTIONALITY_RIGHT_TO_LEFT_OVERRIDE", type := .byte, accessFlags := 25, slot := 54, constantValue := 0 }, { name := "DIRECTIONALITY_POP_DIRECTIONAL_FORMAT", type := .byte, accessFlags := 25, slot := 55, constantValue := 0 }, { name := "DIRECTIONALITY_LEFT_TO_RIGHT_ISOLATE", type := .byte, accessFlags := 25, slot := 56, constantValue := 0 }, { name := "DIRECTIONALITY_RIGHT_TO_LEFT_ISOLATE", type := .byte, accessFlags := 25, slot := 57, constantValue := 0 }, { name := "DIRECTIONALITY_FIRST_STRONG_ISOLATE", type := .byte, accessFlags := 25, slot := 58, constantValue := 0 }, { name := "DIRECTIONALITY_POP_DIRECTIONAL_ISOLATE", type := .byte, accessFlags := 25, slot := 59, constantValue := 0 }, { name := "MIN_HIGH_SURROGATE", type := .char, accessFlags := 25, slot := 60, constantValue := 0 }, { name := "MAX_HIGH_SURROGATE", type := .char, accessFlags := 25, slot := 61, constantValue := 0 }, { name := "MIN_LOW_SURROGATE", type := .char, accessFlags := 25, slot := 62, constantValue := 0 }, { name := "MAX_LOW_SURROGATE", type := .char, accessFlags := 25, slot := 63, constantValue := 0 }, { name := "MIN_SURROGATE", type := .char, accessFlags := 25, slot := 64, constantValue := 0 }, { name := "MAX_SURROGATE", type := .char, accessFlags := 25, slot := 65, constantValue := 0 }, { name := "MIN_SUPPLEMENTARY_CODE_POINT", type := .int, accessFlags := 25, slot := 66, constantValue := 0 }, { name := "MIN_CODE_POINT", type := .int, accessFlags := 25, slot := 67, constantValue := 0 }, { name := "MAX_CODE_POINT", type := .int, accessFlags := 25, slot := 68, constantValue := 0 }, { name := "value", type := .char, accessFlags := 18, slot := 0, constantValue := 0 }, { name := "serialVersionUID", type := .long, accessFlags := 26, slot := 69, constantValue := 0 }, { name := "SIZE", type := .int, accessFlags := 25, slot := 70, constantValue := 0 }, { name := "BYTES", type := .int, accessFlags := 25, slot := 71, constantValue := 0 }, { name := "$assertionsDisabled", type := .boolean, accessFlags := 4120, slot := 72, constantValue := 0 }]
  methods := #[k12m0, k12m1, k12m2, k12m3]
  instanceTypes := #[.char]
  staticTypes := #[.int, .int, .char, .char, (.object "java/lang/Class"), .byte, .byte, .byte, .byte, .byte, .byte, .byte, .byte, .byte, .byte, .byte, .byte, .byte, .byte, .byte, .byte, .byte, .byte, .byte, .byte, .byte, .byte, .byte, .byte, .byte, .byte, .byte, .byte, .byte, .byte, .int, .byte, .byte, .byte, .byte, .byte, .byte, .byte, .byte, .byte, .byte, .byte, .byte, .byte, .byte, .byte, .byte, .byte, .byte, .byte, .byte, .byte, .byte, .byte, .byte, .char, .char, .char, .char, .char, .char, .int, .int, .int, .long, .int, .int, .boolean]
  resolved := Array.replicate 604 none
  statics := none }

def pool13 : Array CpInfo := pool [(4, .class_ 6), (1, u "java/lang/Object"), (0, u "<init>"), (0, u "()V"), (5, .class_ 16), (1, u "java/lang/StringLatin1"), (104, u "$assertionsDisabled"), (0, u "Z"), (98, .class_ 223), (1, u "java/lang/StringLatin1$LinesSpliterator"), (166, .class_ 391), (0, u "java/lang/StringLatin1$CharsSpliterator")] 3

def k13m0 : Method := { name := "<init>", desc := "()V", sig := { parameters := [], returnType := none }, accessFlags := 0, code := none }
/-- java/lang/StringLatin1 -/
def k13 : Class := { plain "java/lang/StringLatin1" (some 0) with
  accessFlags := 48
  interfaces := #[]
  cf := some (fileOf pool13 14 #[.nestMembers #[390, 221]] #[{ accessFlags := 0, nameIndex := 7, descriptorIndex := 8, attributes := #[] }] 48 4 #[] #[{ accessFlags := 4120, nameIndex := 121, descriptorIndex := 122, attributes := #[] }])
  fields := #[{ name := "$assertionsDisabled", type := .boolean, accessFlags := 4120, slot := 0, constantValue := 0 }]
  methods := #[k13m0]
  instanceTypes := #[]
  staticTypes := #[.boolean]
  resolved := Array.replicate 395 none
  statics := none }

def pool14 : Array CpInfo := pool [(9, u "<init>"), (6, .class_ 18), (1, u "java/lang/Object"), (0, u "()V"), (1, .class_ 23), (1, u "jdk/internal/util/ArraysSupport"), (0, u "LOG2_ARRAY_LONG_INDEX_SCALE"), (0, u "I"), (2, u "U"), (0, u "Ljdk/internal/misc/Unsafe;"), (8, u "BIG_ENDIAN"), (0, u "Z"), (8, u "LOG2_BYTE_BIT_SIZE"), (4, u "LOG2_ARRAY_INT_INDEX_SCALE"), (54, u "JLA"), (0, u "Ljdk/internal/access/JavaLangAccess;"), (11, u "LOG2_ARRAY_BOOLEAN_INDEX_SCALE"), (9, u "LOG2_ARRAY_BYTE_INDEX_SCALE"), (5, u "LOG2_ARRAY_CHAR_INDEX_SCALE"), (5, u "LOG2_ARRAY_SHORT_INDEX_SCALE"), (18, u "LOG2_ARRAY_FLOAT_INDEX_SCALE"), (24, u "LOG2_ARRAY_DOUBLE_INDEX_SCALE"), (89, u "T_BOOLEAN"), (2, u "T_CHAR"), (1, u "T_FLOAT"), (1, u "T_DOUBLE"), (1, u "T_BYTE"), (1, u "T_SHORT"), (1, u "T_INT"), (1, u "T_LONG"), (1, u "SOFT_MAX_ARRAY_LENGTH")] 83

def k14m0 : Method := { name := "<init>", desc := "()V", sig := { parameters := [], returnType := none }, accessFlags := 2, code := none }
/-- jdk/internal/util/ArraysSupport -/
def k14 : Class := { plain "jdk/internal/util/ArraysSupport" (some 0) with
  accessFlags := 33
  interfaces := #[]
  cf := some (fileOf pool14 21 #[] #[{ accessFlags := 2, nameIndex := 9, descriptorIndex := 19, attributes := #[] }] 33 16 #[] #[{ accessFlags := 24, nameIndex := 28, descriptorIndex := 29, attributes := #[] }, { accessFlags := 26, nameIndex := 38, descriptorIndex := 39, attributes := #[] }, { accessFlags := 25, nameIndex := 121, descriptorIndex := 25, attributes := #[] }, { accessFlags := 25, nameIndex := 131, descriptorIndex := 25, attributes := #[] }, { accessFlags := 25, nameIndex := 137, descriptorIndex := 25, attributes := #[] }, { accessFlags := 25, nameIndex := 143, descriptorIndex := 25, attributes := #[] }, { accessFlags := 25, nameIndex := 53, descriptorIndex := 25, attributes := #[] }, { accessFlags := 25, nameIndex := 24, descriptorIndex := 25, attributes := #[] }, { accessFlags := 25, nameIndex := 162, descriptorIndex := 25, attributes := #[] }, { accessFlags := 25, nameIndex := 187, descriptorIndex := 25, attributes := #[] }, { accessFlags := 26, nameIndex := 48, descriptorIndex := 25, attributes := #[] }, { accessFlags := 25, nameIndex := 277, descriptorIndex := 25, attributes := #[] }, { accessFlags := 25, nameIndex := 280, descriptorIndex := 25, attributes := #[] }, { accessFlags := 25, nameIndex := 282, descriptorIndex := 25, attributes := #[] }, { accessFlags := 25, nameIndex := 284, descriptorIndex := 25, attributes := #[] }, { accessFlags := 25, nameIndex := 286, descriptorIndex := 25, attributes := #[] }, { accessFlags := 25, nameIndex := 288, descriptorIndex := 25, attributes := #[] }, { accessFlags := 25, nameIndex := 290, descriptorIndex := 25, attributes := #[] }, { accessFlags := 25, nameIndex := 292, descriptorIndex := 25, attributes := #[] }, { accessFlags := 26, nameIndex := 108, descriptorIndex := 109, attributes := #[] }, { accessFlags := 25, nameIndex := 294, descriptorIndex := 25, attributes := #[] }])
  fields := #[{ name := "U", type := (.object "jdk/internal/misc/Unsafe"), accessFlags := 24, slot := 0, constantValue := 0 }, { name := "BIG_ENDIAN", type := .boolean, accessFlags := 26, slot := 1, constantValue := 0 }, { name := "LOG2_ARRAY_BOOLEAN_INDEX_SCALE", type := .int, accessFlags := 25, slot := 2, constantValue := 0 }, { name := "LOG2_ARRAY_BYTE_INDEX_SCALE", type := .int, accessFlags := 25, slot := 3, constantValue := 0 }, { name := "LOG2_ARRAY_CHAR_INDEX_SCALE", type := .int, accessFlags := 25, slot := 4, constantValue := 0 }, { name := "LOG2_ARRAY_SHORT_INDEX_SCALE", type := .int, accessFlags := 25, slot := 5, constantValue := 0 }, { name := "LOG2_ARRAY_INT_INDEX_SCALE", type := .int, accessFlags := 25, slot := 6, constantValue := 0 }, { name := "LOG2_ARRAY_LONG_INDEX_SCALE", type := .int, accessFlags := 25, slot := 7, constantValue := 0 }, { name := "LOG2_ARRAY_FLOAT_INDEX_SCALE", type := .int, accessFlags := 25, slot := 8, constantValue := 0 }, { name := "LOG2_ARRAY_DOUBLE_INDEX_SCALE", type := .int, accessFlags := 25, slot := 9, constantValue := 0 }, { name := "LOG2_BYTE_BIT_SIZE", type := .int, accessFlags := 26, slot := 10, constantValue := 0 }, { name := "T_BOOLEAN", type := .int, accessFlags := 25, slot := 11, constantValue := 0 }, { name := "T_CHAR", type := .int, accessFlags := 25, slot := 12, constantValue := 0 }, { name := "T_FLOAT", type := .int, accessFlags := 25, slot := 13, constantValue := 0 }, { name := "T_DOUBLE", type := .int, accessFlags := 25, slot := 14, constantValue := 0 }, { name := "T_BYTE", type := .int, accessFlags := 25, slot := 15, constantValue := 0 }, { name := "T_SHORT", type := .int, accessFlags := 25, slot := 16, constantValue := 0 }, { name := "T_INT", type := .int, accessFlags := 25, slot := 17, constantValue := 0 }, { name := "T_LONG", type := .int, accessFlags := 25, slot := 18, constantValue := 0 }, { name := "JLA", type := (.object "jdk/internal/access/JavaLangAccess"), accessFlags := 26, slot := 19, constantValue := 0 }, { name := "SOFT_MAX_ARRAY_LENGTH", type := .int, accessFlags := 25, slot := 20, constantValue := 0 }]
  methods := #[k14m0]
  instanceTypes := #[]
  staticTypes := #[(.object "jdk/internal/misc/Unsafe"), .boolean, .int, .int, .int, .int, .int, .int, .int, .int, .int, .int, .int, .int, .int, .int, .int, .int, .int, (.object "jdk/internal/access/JavaLangAccess"), .int]
  resolved := Array.replicate 378 none
  statics := none }

def pool15 : Array CpInfo := pool [(1, u "java/lang/Cloneable"), (0, .class_ 1), (0, u "java/lang/Object"), (0, .class_ 3)] 3

/-- java/lang/Cloneable -/
def k15 : Class := { plain "java/lang/Cloneable" (some 0) with
  accessFlags := 1537
  interfaces := #[]
  cf := some (fileOf pool15 2 #[] #[] 1537 4 #[] #[])
  fields := #[]
  methods := #[]
  instanceTypes := #[]
  staticTypes := #[]
  resolved := Array.replicate 8 none
  statics := none }

/-- the primitive byte -/
def k16 : Class := { plain "byte" none with kind := .primitive 'B', accessFlags := 0x411 }
/-- [B -/
def k17 : Class := { plain "[B" (some 0) with kind := .array 16 .byte, interfaces := #[15, 3], accessFlags := 1041 }

/-- the primitive char -/
def k18 : Class := { plain "char" none with kind := .primitive 'C', accessFlags := 0x411 }
/-- [C -/
def k19 : Class := { plain "[C" (some 0) with kind := .array 18 .char, interfaces := #[15, 3], accessFlags := 1041 }

/-- the primitive int -/
def k20 : Class := { plain "int" none with kind := .primitive 'I', accessFlags := 0x411 }
/-- [I -/
def k21 : Class := { plain "[I" (some 0) with kind := .array 20 .int, interfaces := #[15, 3], accessFlags := 1041 }

def heap : Heap := #[{ cls := 8, slots := #[.long 0, .int 1, .null, .int 0, .null, .int 0, .int 0], vm := .statics 8 },
  { cls := 9, slots := #[.int 0, .int 8, .int 0, .int 1], vm := .statics 9 },
  { cls := 11, slots := #[.null, .null, .null], vm := .statics 11 }]
def classes : Array Class := #[k0, k1, k2, k3, k4, k5, k6, k7, k8, k9, k10, k11, k12, k13, k14, k15, k16, k17, k18, k19, k20, k21]
def interned : List (Array UInt16 × Addr) := []
def slotsUsed : Nat := 14
def theMethod : MethodId := ⟨1, 4⟩
def args0 : Array Value := #[.int 5, .int 7, .int 1, .int 3]
def aboutOver (below : List Frame) : State where
  vm := { classes := classes, interned := interned.toArray }
  heap := heap
  slotsUsed := slotsUsed
  threads := #[{ frames := .invoking theMethod args0 :: below }]
def below0 : List Frame := [.native { method := ⟨0, 0⟩, args := #[] }]
def about1 : State := aboutOver below0
def p0 : Program := .bare "" "" ""
def e0 : Env := launch0.env 0 0 0
theorem w_frames : about1.frames = Frame.invoking theMethod args0 :: below0 := rfl
set_option maxRecDepth 65536 in
theorem w_args : argsFit about1.vm theMethod args0 = true := by decide +kernel
set_option maxRecDepth 65536 in
theorem w_heap : heapFits about1 = true := by decide +kernel
set_option maxRecDepth 65536 in
theorem w_runnable : about1.curStatus? = some .runnable := by decide +kernel
set_option maxRecDepth 65536 in
theorem w_alone : about1.alone = true := by decide +kernel
set_option maxRecDepth 65536 in
theorem w_named : about1.methodNamed? x = some theMethod := by decide +kernel
set_option maxRecDepth 65536 in
theorem w_hears : about1.hears theMethod below0 = true := by decide +kernel
set_option maxRecDepth 65536 in
theorem w_ripe : about1.ripe theMethod args0 below0 = true := by decide +kernel
theorem w_running : about1.status = .running := rfl
set_option maxRecDepth 65536 in
theorem w_room : about1.hasRoom e0.platform room_1 = true :=
  launch0.hasRoom_least _ room_1 (by decide +kernel) (by decide +kernel) (by decide +kernel) (by decide +kernel) (by decide +kernel) (by decide +kernel)
theorem allAtoms_all (ts : List Jvm.Cond) (a : Array Jvm.Value) (st : Jvm.State) : (allAtoms ts).before a st = ts.all (fun c => c.before a st) := by
  induction ts with
  | nil => rfl
  | cons c t ih =>
    show (Jvm.Cond.and c (allAtoms t)).before a st = _
    rw [Jvm.Cond.before_and, ih, List.all_cons]
def words1 : List Jvm.Cond := Jvm.Cond.code x code maxLocals ret :: tables_1
/-- a 'code' word, met by the world's own term for the bytes: nothing is compared byte by byte -/
theorem code_word {y : MethodName} {bytes : ByteArray} {mx : Nat} {rt : Option FieldType} {a : Array Value} {s : State} {m : MethodId} {meth : Method} {c : Code} (h1 : s.methodNamed? y = some m) (h2 : s.vm.method? m = some meth) (h3 : meth.code = some c) (h4 : c.code = bytes)
    (h5 : (c.maxLocals == mx && c.exceptionTable.isEmpty && decide (c.maxStack ≤ mostOperands) && decide (meth.sig.returnType = rt) && !meth.locks && decide (parseMethodDescriptor y.desc = some meth.sig)) = true) : (Jvm.Cond.code y bytes mx rt).before a s = true := by
  simp only [Bool.and_eq_true, beq_iff_eq, Bool.not_eq_true', decide_eq_true_eq] at h5
  obtain ⟨⟨⟨⟨⟨g1, g2⟩, g3⟩, g4⟩, g5⟩, g6⟩ := h5
  simp [Cond.before, Cond.holds, Cond.value, h1, h2, h3, h4, g1, g2, g3, g4, g5, g6]
def isCode : Jvm.Cond → Bool
  | .code _ _ _ _ => true
  | _ => false
theorem all_split {L : List Jvm.Cond} {P : Jvm.Cond → Bool} (h1 : L.all (fun c => isCode c || P c) = true) (h2 : ∀ c ∈ L.filter isCode, P c = true) : L.all P = true := by
  refine List.all_eq_true.mpr fun c hc => ?_
  have h := List.all_eq_true.mp h1 c hc
  rcases Bool.eq_false_or_eq_true (isCode c) with hi | hi
  · exact h2 c (List.mem_filter.mpr ⟨hc, hi⟩)
  · simpa [hi] using h
set_option maxRecDepth 65536 in
theorem w_c0 : (Jvm.Cond.code x code maxLocals ret).before args0 about1 = true := code_word (m := ⟨1, 4⟩) (meth := k1m4) (c := k1c4) (by decide +kernel) rfl rfl rfl (by decide +kernel)
set_option maxRecDepth 65536 in
theorem w_c1 : (Jvm.Cond.code ({ cls := "java/lang/Math", name := "max", desc := "(II)I" } : Jvm.MethodName) jdk_29_method_65_code (2 : Nat) (Option.some Jvm.ClassFile.FieldType.int)).before args0 about1 = true := code_word (m := ⟨2, 1⟩) (meth := k2m1) (c := k2c1) (by decide +kernel) rfl rfl rfl (by decide +kernel)
set_option maxRecDepth 65536 in
theorem w_c2 : (Jvm.Cond.code ({ cls := "com/example/chitragupta/chitragupta/core/CharactersCheckPinLaw", name := "bmp", desc := "(I)C" } : Jvm.MethodName) method_2_code (2 : Nat) (Option.some Jvm.ClassFile.FieldType.char)).before args0 about1 = true := code_word (m := ⟨1, 1⟩) (meth := k1m1) (c := k1c1) (by decide +kernel) rfl rfl rfl (by decide +kernel)
set_option maxRecDepth 65536 in
theorem w_c3 : (Jvm.Cond.code ({ cls := "java/lang/String", name := "<init>", desc := "([C)V" } : Jvm.MethodName) jdk_42_method_3_code (2 : Nat) (Option.none : Option Jvm.ClassFile.FieldType)).before args0 about1 = true := code_word (m := ⟨8, 1⟩) (meth := k8m1) (c := k8c1) (by decide +kernel) rfl rfl rfl (by decide +kernel)
set_option maxRecDepth 65536 in
theorem w_c4 : (Jvm.Cond.code ({ cls := "java/lang/String", name := "<init>", desc := "([CIILjava/lang/Void;)V" } : Jvm.MethodName) jdk_42_method_149_code (6 : Nat) (Option.none : Option Jvm.ClassFile.FieldType)).before args0 about1 = true := code_word (m := ⟨8, 4⟩) (meth := k8m4) (c := k8c4) (by decide +kernel) rfl rfl rfl (by decide +kernel)
set_option maxRecDepth 65536 in
theorem w_c5 : (Jvm.Cond.code ({ cls := "java/lang/Object", name := "<init>", desc := "()V" } : Jvm.MethodName) object_method_1_code (1 : Nat) (Option.none : Option Jvm.ClassFile.FieldType)).before args0 about1 = true := code_word (m := ⟨0, 0⟩) (meth := k0m0) (c := k0c0) (by decide +kernel) rfl rfl rfl (by decide +kernel)
set_option maxRecDepth 65536 in
theorem w_c6 : (Jvm.Cond.code ({ cls := "java/lang/StringUTF16", name := "compress", desc := "([CII)[B" } : Jvm.MethodName) jdk_52_method_16_code (6 : Nat) (Option.some (Jvm.ClassFile.FieldType.array Jvm.ClassFile.FieldType.byte))).before args0 about1 = true := code_word (m := ⟨9, 9⟩) (meth := k9m9) (c := k9c9) (by decide +kernel) rfl rfl rfl (by decide +kernel)
set_option maxRecDepth 65536 in
theorem w_c7 : (Jvm.Cond.code ({ cls := "java/lang/StringUTF16", name := "compress", desc := "([CI[BII)I" } : Jvm.MethodName) jdk_52_method_21_code (7 : Nat) (Option.some Jvm.ClassFile.FieldType.int)).before args0 about1 = true := code_word (m := ⟨9, 10⟩) (meth := k9m10) (c := k9c10) (by decide +kernel) rfl rfl rfl (by decide +kernel)
set_option maxRecDepth 65536 in
theorem w_c8 : (Jvm.Cond.code ({ cls := "java/lang/StringUTF16", name := "coderFromArrayLen", desc := "([BI)B" } : Jvm.MethodName) jdk_52_method_15_code (2 : Nat) (Option.some Jvm.ClassFile.FieldType.byte)).before args0 about1 = true := code_word (m := ⟨9, 8⟩) (meth := k9m8) (c := k9c8) (by decide +kernel) rfl rfl rfl (by decide +kernel)
set_option maxRecDepth 65536 in
theorem w_c9 : (Jvm.Cond.code ({ cls := "com/example/chitragupta/chitragupta/core/Characters", name := "check", desc := "(Ljava/lang/String;Ljava/lang/String;I)V" } : Jvm.MethodName) prog_8_method_2_code (6 : Nat) (Option.none : Option Jvm.ClassFile.FieldType)).before args0 about1 = true := code_word (m := ⟨10, 1⟩) (meth := k10m1) (c := k10c1) (by decide +kernel) rfl rfl rfl (by decide +kernel)
set_option maxRecDepth 65536 in
theorem w_c10 : (Jvm.Cond.code ({ cls := "java/lang/String", name := "length", desc := "()I" } : Jvm.MethodName) jdk_42_method_54_code (1 : Nat) (Option.some Jvm.ClassFile.FieldType.int)).before args0 about1 = true := code_word (m := ⟨8, 2⟩) (meth := k8m2) (c := k8c2) (by decide +kernel) rfl rfl rfl (by decide +kernel)
set_option maxRecDepth 65536 in
theorem w_c11 : (Jvm.Cond.code ({ cls := "java/lang/String", name := "coder", desc := "()B" } : Jvm.MethodName) jdk_42_method_152_code (1 : Nat) (Option.some Jvm.ClassFile.FieldType.byte)).before args0 about1 = true := code_word (m := ⟨8, 5⟩) (meth := k8m5) (c := k8c5) (by decide +kernel) rfl rfl rfl (by decide +kernel)
set_option maxRecDepth 65536 in
theorem w_c12 : (Jvm.Cond.code ({ cls := "java/lang/String", name := "codePointAt", desc := "(I)I" } : Jvm.MethodName) jdk_42_method_57_code (3 : Nat) (Option.some Jvm.ClassFile.FieldType.int)).before args0 about1 = true := code_word (m := ⟨8, 3⟩) (meth := k8m3) (c := k8c3) (by decide +kernel) rfl rfl rfl (by decide +kernel)
set_option maxRecDepth 65536 in
theorem w_c13 : (Jvm.Cond.code ({ cls := "java/lang/String", name := "isLatin1", desc := "()Z" } : Jvm.MethodName) jdk_42_method_154_code (1 : Nat) (Option.some Jvm.ClassFile.FieldType.boolean)).before args0 about1 = true := code_word (m := ⟨8, 6⟩) (meth := k8m6) (c := k8c6) (by decide +kernel) rfl rfl rfl (by decide +kernel)
set_option maxRecDepth 65536 in
theorem w_c14 : (Jvm.Cond.code ({ cls := "java/lang/String", name := "checkIndex", desc := "(II)V" } : Jvm.MethodName) jdk_42_method_155_code (2 : Nat) (Option.none : Option Jvm.ClassFile.FieldType)).before args0 about1 = true := code_word (m := ⟨8, 7⟩) (meth := k8m7) (c := k8c7) (by decide +kernel) rfl rfl rfl (by decide +kernel)
set_option maxRecDepth 65536 in
theorem w_c15 : (Jvm.Cond.code ({ cls := "jdk/internal/util/Preconditions", name := "checkIndex", desc := "(IILjava/util/function/BiFunction;)I" } : Jvm.MethodName) jdk_41_method_11_code (3 : Nat) (Option.some Jvm.ClassFile.FieldType.int)).before args0 about1 = true := code_word (m := ⟨11, 1⟩) (meth := k11m1) (c := k11c1) (by decide +kernel) rfl rfl rfl (by decide +kernel)
set_option maxRecDepth 65536 in
theorem w_c16 : (Jvm.Cond.code ({ cls := "java/lang/Character", name := "charCount", desc := "(I)I" } : Jvm.MethodName) jdk_89_method_18_code (1 : Nat) (Option.some Jvm.ClassFile.FieldType.int)).before args0 about1 = true := code_word (m := ⟨12, 2⟩) (meth := k12m2) (c := k12c2) (by decide +kernel) rfl rfl rfl (by decide +kernel)
set_option maxRecDepth 65536 in
theorem w_c17 : (Jvm.Cond.code ({ cls := "com/example/chitragupta/chitragupta/core/CharactersCheckPinLaw", name := "hi", desc := "(I)C" } : Jvm.MethodName) method_3_code (2 : Nat) (Option.some Jvm.ClassFile.FieldType.char)).before args0 about1 = true := code_word (m := ⟨1, 2⟩) (meth := k1m2) (c := k1c2) (by decide +kernel) rfl rfl rfl (by decide +kernel)
set_option maxRecDepth 65536 in
theorem w_c18 : (Jvm.Cond.code ({ cls := "com/example/chitragupta/chitragupta/core/CharactersCheckPinLaw", name := "lo", desc := "(I)C" } : Jvm.MethodName) method_4_code (2 : Nat) (Option.some Jvm.ClassFile.FieldType.char)).before args0 about1 = true := code_word (m := ⟨1, 3⟩) (meth := k1m3) (c := k1c3) (by decide +kernel) rfl rfl rfl (by decide +kernel)
set_option maxRecDepth 65536 in
theorem w_c19 : (Jvm.Cond.code ({ cls := "java/lang/StringUTF16", name := "toBytes", desc := "([CII)[B" } : Jvm.MethodName) jdk_52_method_14_code (5 : Nat) (Option.some (Jvm.ClassFile.FieldType.array Jvm.ClassFile.FieldType.byte))).before args0 about1 = true := code_word (m := ⟨9, 7⟩) (meth := k9m7) (c := k9c7) (by decide +kernel) rfl rfl rfl (by decide +kernel)
set_option maxRecDepth 65536 in
theorem w_c20 : (Jvm.Cond.code ({ cls := "java/lang/StringUTF16", name := "newBytesFor", desc := "(I)[B" } : Jvm.MethodName) jdk_52_method_2_code (1 : Nat) (Option.some (Jvm.ClassFile.FieldType.array Jvm.ClassFile.FieldType.byte))).before args0 about1 = true := code_word (m := ⟨9, 1⟩) (meth := k9m1) (c := k9c1) (by decide +kernel) rfl rfl rfl (by decide +kernel)
set_option maxRecDepth 65536 in
theorem w_c21 : (Jvm.Cond.code ({ cls := "java/lang/StringUTF16", name := "newBytesLength", desc := "(I)I" } : Jvm.MethodName) jdk_52_method_3_code (1 : Nat) (Option.some Jvm.ClassFile.FieldType.int)).before args0 about1 = true := code_word (m := ⟨9, 2⟩) (meth := k9m2) (c := k9c2) (by decide +kernel) rfl rfl rfl (by decide +kernel)
set_option maxRecDepth 65536 in
theorem w_c22 : (Jvm.Cond.code ({ cls := "java/lang/StringUTF16", name := "putChar", desc := "([BII)V" } : Jvm.MethodName) jdk_52_method_4_code (3 : Nat) (Option.none : Option Jvm.ClassFile.FieldType)).before args0 about1 = true := code_word (m := ⟨9, 3⟩) (meth := k9m3) (c := k9c3) (by decide +kernel) rfl rfl rfl (by decide +kernel)
set_option maxRecDepth 65536 in
theorem w_c23 : (Jvm.Cond.code ({ cls := "java/lang/StringUTF16", name := "getChar", desc := "([BI)C" } : Jvm.MethodName) jdk_52_method_5_code (2 : Nat) (Option.some Jvm.ClassFile.FieldType.char)).before args0 about1 = true := code_word (m := ⟨9, 4⟩) (meth := k9m4) (c := k9c4) (by decide +kernel) rfl rfl rfl (by decide +kernel)
set_option maxRecDepth 65536 in
theorem w_c24 : (Jvm.Cond.code ({ cls := "java/lang/StringUTF16", name := "codePointAt", desc := "([BII)I" } : Jvm.MethodName) jdk_52_method_8_code (3 : Nat) (Option.some Jvm.ClassFile.FieldType.int)).before args0 about1 = true := code_word (m := ⟨9, 6⟩) (meth := k9m6) (c := k9c6) (by decide +kernel) rfl rfl rfl (by decide +kernel)
set_option maxRecDepth 65536 in
theorem w_c25 : (Jvm.Cond.code ({ cls := "java/lang/StringUTF16", name := "codePointAt", desc := "([BIIZ)I" } : Jvm.MethodName) jdk_52_method_7_code (6 : Nat) (Option.some Jvm.ClassFile.FieldType.int)).before args0 about1 = true := code_word (m := ⟨9, 5⟩) (meth := k9m5) (c := k9c5) (by decide +kernel) rfl rfl rfl (by decide +kernel)
set_option maxRecDepth 65536 in
theorem w_c26 : (Jvm.Cond.code ({ cls := "java/lang/Character", name := "isHighSurrogate", desc := "(C)Z" } : Jvm.MethodName) jdk_89_method_14_code (1 : Nat) (Option.some Jvm.ClassFile.FieldType.boolean)).before args0 about1 = true := code_word (m := ⟨12, 0⟩) (meth := k12m0) (c := k12c0) (by decide +kernel) rfl rfl rfl (by decide +kernel)
set_option maxRecDepth 65536 in
theorem w_c27 : (Jvm.Cond.code ({ cls := "java/lang/Character", name := "isLowSurrogate", desc := "(C)Z" } : Jvm.MethodName) jdk_89_method_15_code (1 : Nat) (Option.some Jvm.ClassFile.FieldType.boolean)).before args0 about1 = true := code_word (m := ⟨12, 1⟩) (meth := k12m1) (c := k12c1) (by decide +kernel) rfl rfl rfl (by decide +kernel)
set_option maxRecDepth 65536 in
theorem w_c28 : (Jvm.Cond.code ({ cls := "java/lang/Character", name := "toCodePoint", desc := "(CC)I" } : Jvm.MethodName) jdk_89_method_19_code (2 : Nat) (Option.some Jvm.ClassFile.FieldType.int)).before args0 about1 = true := code_word (m := ⟨12, 3⟩) (meth := k12m3) (c := k12c3) (by decide +kernel) rfl rfl rfl (by decide +kernel)
def codes1 : List Jvm.Cond := [Jvm.Cond.code x code maxLocals ret, Jvm.Cond.code ({ cls := "java/lang/Math", name := "max", desc := "(II)I" } : Jvm.MethodName) jdk_29_method_65_code (2 : Nat) (Option.some Jvm.ClassFile.FieldType.int), Jvm.Cond.code ({ cls := "com/example/chitragupta/chitragupta/core/CharactersCheckPinLaw", name := "bmp", desc := "(I)C" } : Jvm.MethodName) method_2_code (2 : Nat) (Option.some Jvm.ClassFile.FieldType.char), Jvm.Cond.code ({ cls := "java/lang/String", name := "<init>", desc := "([C)V" } : Jvm.MethodName) jdk_42_method_3_code (2 : Nat) (Option.none : Option Jvm.ClassFile.FieldType), Jvm.Cond.code ({ cls := "java/lang/String", name := "<init>", desc := "([CIILjava/lang/Void;)V" } : Jvm.MethodName) jdk_42_method_149_code (6 : Nat) (Option.none : Option Jvm.ClassFile.FieldType), Jvm.Cond.code ({ cls := "java/lang/Object", name := "<init>", desc := "()V" } : Jvm.MethodName) object_method_1_code (1 : Nat) (Option.none : Option Jvm.ClassFile.FieldType), Jvm.Cond.code ({ cls := "java/lang/StringUTF16", name := "compress", desc := "([CII)[B" } : Jvm.MethodName) jdk_52_method_16_code (6 : Nat) (Option.some (Jvm.ClassFile.FieldType.array Jvm.ClassFile.FieldType.byte)), Jvm.Cond.code ({ cls := "java/lang/StringUTF16", name := "compress", desc := "([CI[BII)I" } : Jvm.MethodName) jdk_52_method_21_code (7 : Nat) (Option.some Jvm.ClassFile.FieldType.int), Jvm.Cond.code ({ cls := "java/lang/StringUTF16", name := "coderFromArrayLen", desc := "([BI)B" } : Jvm.MethodName) jdk_52_method_15_code (2 : Nat) (Option.some Jvm.ClassFile.FieldType.byte), Jvm.Cond.code ({ cls := "com/example/chitragupta/chitragupta/core/Characters", name := "check", desc := "(Ljava/lang/String;Ljava/lang/String;I)V" } : Jvm.MethodName) prog_8_method_2_code (6 : Nat) (Option.none : Option Jvm.ClassFile.FieldType), Jvm.Cond.code ({ cls := "java/lang/String", name := "length", desc := "()I" } : Jvm.MethodName) jdk_42_method_54_code (1 : Nat) (Option.some Jvm.ClassFile.FieldType.int), Jvm.Cond.code ({ cls := "java/lang/String", name := "coder", desc := "()B" } : Jvm.MethodName) jdk_42_method_152_code (1 : Nat) (Option.some Jvm.ClassFile.FieldType.byte), Jvm.Cond.code ({ cls := "java/lang/String", name := "codePointAt", desc := "(I)I" } : Jvm.MethodName) jdk_42_method_57_code (3 : Nat) (Option.some Jvm.ClassFile.FieldType.int), Jvm.Cond.code ({ cls := "java/lang/String", name := "isLatin1", desc := "()Z" } : Jvm.MethodName) jdk_42_method_154_code (1 : Nat) (Option.some Jvm.ClassFile.FieldType.boolean), Jvm.Cond.code ({ cls := "java/lang/String", name := "checkIndex", desc := "(II)V" } : Jvm.MethodName) jdk_42_method_155_code (2 : Nat) (Option.none : Option Jvm.ClassFile.FieldType), Jvm.Cond.code ({ cls := "jdk/internal/util/Preconditions", name := "checkIndex", desc := "(IILjava/util/function/BiFunction;)I" } : Jvm.MethodName) jdk_41_method_11_code (3 : Nat) (Option.some Jvm.ClassFile.FieldType.int), Jvm.Cond.code ({ cls := "java/lang/Character", name := "charCount", desc := "(I)I" } : Jvm.MethodName) jdk_89_method_18_code (1 : Nat) (Option.some Jvm.ClassFile.FieldType.int), Jvm.Cond.code ({ cls := "com/example/chitragupta/chitragupta/core/CharactersCheckPinLaw", name := "hi", desc := "(I)C" } : Jvm.MethodName) method_3_code (2 : Nat) (Option.some Jvm.ClassFile.FieldType.char), Jvm.Cond.code ({ cls := "com/example/chitragupta/chitragupta/core/CharactersCheckPinLaw", name := "lo", desc := "(I)C" } : Jvm.MethodName) method_4_code (2 : Nat) (Option.some Jvm.ClassFile.FieldType.char), Jvm.Cond.code ({ cls := "java/lang/StringUTF16", name := "toBytes", desc := "([CII)[B" } : Jvm.MethodName) jdk_52_method_14_code (5 : Nat) (Option.some (Jvm.ClassFile.FieldType.array Jvm.ClassFile.FieldType.byte)), Jvm.Cond.code ({ cls := "java/lang/StringUTF16", name := "newBytesFor", desc := "(I)[B" } : Jvm.MethodName) jdk_52_method_2_code (1 : Nat) (Option.some (Jvm.ClassFile.FieldType.array Jvm.ClassFile.FieldType.byte)), Jvm.Cond.code ({ cls := "java/lang/StringUTF16", name := "newBytesLength", desc := "(I)I" } : Jvm.MethodName) jdk_52_method_3_code (1 : Nat) (Option.some Jvm.ClassFile.FieldType.int), Jvm.Cond.code ({ cls := "java/lang/StringUTF16", name := "putChar", desc := "([BII)V" } : Jvm.MethodName) jdk_52_method_4_code (3 : Nat) (Option.none : Option Jvm.ClassFile.FieldType), Jvm.Cond.code ({ cls := "java/lang/StringUTF16", name := "getChar", desc := "([BI)C" } : Jvm.MethodName) jdk_52_method_5_code (2 : Nat) (Option.some Jvm.ClassFile.FieldType.char), Jvm.Cond.code ({ cls := "java/lang/StringUTF16", name := "codePointAt", desc := "([BII)I" } : Jvm.MethodName) jdk_52_method_8_code (3 : Nat) (Option.some Jvm.ClassFile.FieldType.int), Jvm.Cond.code ({ cls := "java/lang/StringUTF16", name := "codePointAt", desc := "([BIIZ)I" } : Jvm.MethodName) jdk_52_method_7_code (6 : Nat) (Option.some Jvm.ClassFile.FieldType.int), Jvm.Cond.code ({ cls := "java/lang/Character", name := "isHighSurrogate", desc := "(C)Z" } : Jvm.MethodName) jdk_89_method_14_code (1 : Nat) (Option.some Jvm.ClassFile.FieldType.boolean), Jvm.Cond.code ({ cls := "java/lang/Character", name := "isLowSurrogate", desc := "(C)Z" } : Jvm.MethodName) jdk_89_method_15_code (1 : Nat) (Option.some Jvm.ClassFile.FieldType.boolean), Jvm.Cond.code ({ cls := "java/lang/Character", name := "toCodePoint", desc := "(CC)I" } : Jvm.MethodName) jdk_89_method_19_code (2 : Nat) (Option.some Jvm.ClassFile.FieldType.int)]
set_option maxRecDepth 65536 in
theorem codes_eq : words1.filter isCode = codes1 := rfl
theorem w_codes : ∀ c ∈ words1.filter isCode, c.before args0 about1 = true := by
  rw [codes_eq]
  intro c hc
  simp only [codes1, List.mem_cons, List.not_mem_nil, or_false] at hc
  rcases hc with rfl | rfl | rfl | rfl | rfl | rfl | rfl | rfl | rfl | rfl | rfl | rfl | rfl | rfl | rfl | rfl | rfl | rfl | rfl | rfl | rfl | rfl | rfl | rfl | rfl | rfl | rfl | rfl | rfl
  · exact w_c0
  · exact w_c1
  · exact w_c2
  · exact w_c3
  · exact w_c4
  · exact w_c5
  · exact w_c6
  · exact w_c7
  · exact w_c8
  · exact w_c9
  · exact w_c10
  · exact w_c11
  · exact w_c12
  · exact w_c13
  · exact w_c14
  · exact w_c15
  · exact w_c16
  · exact w_c17
  · exact w_c18
  · exact w_c19
  · exact w_c20
  · exact w_c21
  · exact w_c22
  · exact w_c23
  · exact w_c24
  · exact w_c25
  · exact w_c26
  · exact w_c27
  · exact w_c28
set_option maxRecDepth 65536 in
theorem w_t1 : (words1.take 24).all (fun c => isCode c || c.before args0 about1) = true := by decide +kernel
set_option maxRecDepth 65536 in
theorem w_t2 : ((words1.drop 24).take 24).all (fun c => isCode c || c.before args0 about1) = true := by decide +kernel
set_option maxRecDepth 65536 in
theorem w_t3 : (((words1.drop 24).drop 24).take 24).all (fun c => isCode c || c.before args0 about1) = true := by decide +kernel
set_option maxRecDepth 65536 in
theorem w_t4 : ((((words1.drop 24).drop 24).drop 24).take 24).all (fun c => isCode c || c.before args0 about1) = true := by decide +kernel
set_option maxRecDepth 65536 in
theorem w_t5 : (((((words1.drop 24).drop 24).drop 24).drop 24).take 24).all (fun c => isCode c || c.before args0 about1) = true := by decide +kernel
set_option maxRecDepth 65536 in
theorem w_t6 : (((((words1.drop 24).drop 24).drop 24).drop 24).drop 24).all (fun c => isCode c || c.before args0 about1) = true := by decide +kernel
theorem w_tables : (allAtoms (Jvm.Cond.code x code maxLocals ret :: tables_1)).before args0 about1 = true := by
  rw [allAtoms_all]
  show words1.all (fun c => c.before args0 about1) = true
  refine all_split ?_ w_codes
  rw [← List.take_append_drop 24 words1, List.all_append, w_t1, ← List.take_append_drop 24 (words1.drop 24), List.all_append, w_t2, ← List.take_append_drop 24 ((words1.drop 24).drop 24), List.all_append, w_t3, ← List.take_append_drop 24 (((words1.drop 24).drop 24).drop 24), List.all_append, w_t4, ← List.take_append_drop 24 ((((words1.drop 24).drop 24).drop 24).drop 24), List.all_append, w_t5, w_t6]
  rfl
set_option maxRecDepth 65536 in
theorem w_rest : rest_1_c.before args0 about1 = true := by decide +kernel
set_option maxRecDepth 65536 in
theorem w_case : (Jvm.Cond.and given_1 narrow_1).before args0 about1 = true := by decide +kernel
theorem w_applies : (headSpec (Jvm.Cond.code x code maxLocals ret :: tables_1) room_1).applies x e0.platform about1 = true :=
  (Spec.applies_iff w_frames).mpr ⟨w_running, w_runnable, w_alone, w_named, w_hears, w_ripe, w_room, w_tables⟩
theorem atStart : AtStart classFile x code maxLocals ret World_1 tables_1 room_1 Calls_1 rest_1 Pre_1 launch0 p0 e0 about1 theMethod args0 below0 :=
  ⟨lists_1, trivial, launch0.admits_env _ _ _, launch0.least_env, fairChoices_fair.cas, fairChoices_fair.clock, w_frames, w_args, w_heap, w_applies, trivial, w_rest, w_case⟩
end start1
theorem witness_1 : WitnessClaimed_1 := ⟨start1.p0, start1.e0, start1.about1, start1.theMethod, start1.args0, start1.below0, start1.atStart⟩
end Jvm.Pilot.@@N@@
