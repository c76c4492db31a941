import JvmDerived
import JvmDerived.Pilot.@@N@@Statement
import JvmDerived.Pilot.@@N@@Code
set_option linter.unusedVariables false
set_option linter.unusedSimpArgs false
@@BLOCK:NumsL.lean.txt@@
namespace Jvm.RoadKit
open Sem ClassFile Op Lib Jvm.Stand Jvm.Free Jvm.LawKit
theorem retI {p : Program} {l : Launch} {e : Env} {R : Room} {s : State} {m : MethodId} {args : Array Value} {below : List Frame} {meth : Method} {c : Code} {T : State} {locs : List Loc} {cells slots : Nat} (X : Stand p l e R s m args below meth c T locs cells slots) (hx : p.tables.exec = Jvm.exec) {pc : Nat} {Ls : Array Slot} {z : Int32} {rest : List Value} (hret : meth.sig.returnType = some .int) (hd : decode c.code pc = .ok (.ireturn, 1)) {fs : List Frame}
    (hl : ∀ (f : JFrame) (acts : List Action), f.method = m → f.locked = none → f.entered = [] → (doReturn e (T.setTop f) acts (some (.int z))).1 = T.setFrames fs) : Steps p.tables e below (T.setTop (mkF m pc Ls (.int z :: rest))) (T.setFrames fs) :=
  retOut X hx hret rfl (Or.inl ⟨rfl, Or.inl rfl, z, rfl⟩) hd hl
end Jvm.RoadKit

namespace Jvm.Pilot.@@N@@
open Jvm Jvm.ClassFile Sem Op Lib Jvm.Free Jvm.Stand Jvm.LawKit Jvm.RoadKit Bundle Jvm.Pilot.@@N@@.Jvm.D
theorem d1_0 : decode prog_49_method_1_code 0 = .ok (.aload_n 0, 1) := by decide +kernel
theorem d1_1 : decode prog_49_method_1_code 1 = .ok (.invokespecial 3, 3) := by decide +kernel
theorem d1_4 : decode prog_49_method_1_code 4 = .ok (.aload_n 0, 1) := by decide +kernel
theorem d1_5 : decode prog_49_method_1_code 5 = .ok (.iconst 0, 1) := by decide +kernel
theorem d1_6 : decode prog_49_method_1_code 6 = .ok (.newarray .double, 2) := by decide +kernel
theorem d1_8 : decode prog_49_method_1_code 8 = .ok (.putfield 9, 3) := by decide +kernel
theorem d1_11 : decode prog_49_method_1_code 11 = .ok (.return_, 1) := by decide +kernel
theorem d3_0 : decode prog_49_method_2_code 0 = .ok (.aload_n 0, 1) := by decide +kernel
theorem d3_1 : decode prog_49_method_2_code 1 = .ok (.getfield 15, 3) := by decide +kernel
theorem d3_4 : decode prog_49_method_2_code 4 = .ok (.istore_n 2, 1) := by decide +kernel
theorem d3_5 : decode prog_49_method_2_code 5 = .ok (.iload_n 1, 1) := by decide +kernel
theorem d3_6 : decode prog_49_method_2_code 6 = .ok (.aload_n 0, 1) := by decide +kernel
theorem d3_7 : decode prog_49_method_2_code 7 = .ok (.getfield 9, 3) := by decide +kernel
theorem d3_10 : decode prog_49_method_2_code 10 = .ok (.arraylength, 1) := by decide +kernel
theorem d3_11 : decode prog_49_method_2_code 11 = .ok (.aload_n 0, 1) := by decide +kernel
theorem d3_12 : decode prog_49_method_2_code 12 = .ok (.getfield 15, 3) := by decide +kernel
theorem d3_15 : decode prog_49_method_2_code 15 = .ok (.isub, 1) := by decide +kernel
theorem d3_16 : decode prog_49_method_2_code 16 = .ok (.if_icmp .le 28, 3) := by decide +kernel
theorem d3_19 : decode prog_49_method_2_code 19 = .ok (.aload_n 0, 1) := by decide +kernel
theorem d3_20 : decode prog_49_method_2_code 20 = .ok (.aload_n 0, 1) := by decide +kernel
theorem d3_21 : decode prog_49_method_2_code 21 = .ok (.getfield 9, 3) := by decide +kernel
theorem d3_24 : decode prog_49_method_2_code 24 = .ok (.aload_n 0, 1) := by decide +kernel
theorem d3_25 : decode prog_49_method_2_code 25 = .ok (.getfield 9, 3) := by decide +kernel
theorem d3_28 : decode prog_49_method_2_code 28 = .ok (.arraylength, 1) := by decide +kernel
theorem d3_29 : decode prog_49_method_2_code 29 = .ok (.aload_n 0, 1) := by decide +kernel
theorem d3_30 : decode prog_49_method_2_code 30 = .ok (.getfield 15, 3) := by decide +kernel
theorem d3_33 : decode prog_49_method_2_code 33 = .ok (.iload_n 1, 1) := by decide +kernel
theorem d3_34 : decode prog_49_method_2_code 34 = .ok (.iadd, 1) := by decide +kernel
theorem d3_35 : decode prog_49_method_2_code 35 = .ok (.invokestatic 19, 3) := by decide +kernel
theorem d3_38 : decode prog_49_method_2_code 38 = .ok (.invokestatic 23, 3) := by decide +kernel
theorem d3_41 : decode prog_49_method_2_code 41 = .ok (.putfield 9, 3) := by decide +kernel
theorem d3_44 : decode prog_49_method_2_code 44 = .ok (.aload_n 0, 1) := by decide +kernel
theorem d3_45 : decode prog_49_method_2_code 45 = .ok (.dup, 1) := by decide +kernel
theorem d3_46 : decode prog_49_method_2_code 46 = .ok (.getfield 15, 3) := by decide +kernel
theorem d3_49 : decode prog_49_method_2_code 49 = .ok (.iload_n 1, 1) := by decide +kernel
theorem d3_50 : decode prog_49_method_2_code 50 = .ok (.iadd, 1) := by decide +kernel
theorem d3_51 : decode prog_49_method_2_code 51 = .ok (.putfield 15, 3) := by decide +kernel
theorem d3_54 : decode prog_49_method_2_code 54 = .ok (.iload_n 2, 1) := by decide +kernel
theorem d3_55 : decode prog_49_method_2_code 55 = .ok (.ireturn, 1) := by decide +kernel
theorem d4_0 : decode prog_49_method_8_code 0 = .ok (.iload_n 1, 1) := by decide +kernel
theorem d4_1 : decode prog_49_method_8_code 1 = .ok (.ifCond .lt 9, 3) := by decide +kernel
theorem d4_4 : decode prog_49_method_8_code 4 = .ok (.iload_n 1, 1) := by decide +kernel
theorem d4_5 : decode prog_49_method_8_code 5 = .ok (.ldc 46, 2) := by decide +kernel
theorem d4_7 : decode prog_49_method_8_code 7 = .ok (.if_icmp .le 13, 3) := by decide +kernel
theorem d4_20 : decode prog_49_method_8_code 20 = .ok (.ldc2_w 54, 3) := by decide +kernel
theorem d4_23 : decode prog_49_method_8_code 23 = .ok (.iload_n 1, 1) := by decide +kernel
theorem d4_24 : decode prog_49_method_8_code 24 = .ok (.i2l, 1) := by decide +kernel
theorem d4_25 : decode prog_49_method_8_code 25 = .ok (.iload_n 0, 1) := by decide +kernel
theorem d4_26 : decode prog_49_method_8_code 26 = .ok (.i2l, 1) := by decide +kernel
theorem d4_27 : decode prog_49_method_8_code 27 = .ok (.iload_n 0, 1) := by decide +kernel
theorem d4_28 : decode prog_49_method_8_code 28 = .ok (.i2l, 1) := by decide +kernel
theorem d4_29 : decode prog_49_method_8_code 29 = .ok (.ldc2_w 56, 3) := by decide +kernel
theorem d4_32 : decode prog_49_method_8_code 32 = .ok (.ldiv, 1) := by decide +kernel
theorem d4_33 : decode prog_49_method_8_code 33 = .ok (.ladd, 1) := by decide +kernel
theorem d4_34 : decode prog_49_method_8_code 34 = .ok (.invokestatic 58, 3) := by decide +kernel
theorem d4_37 : decode prog_49_method_8_code 37 = .ok (.invokestatic 64, 3) := by decide +kernel
theorem d4_40 : decode prog_49_method_8_code 40 = .ok (.l2i, 1) := by decide +kernel
theorem d4_41 : decode prog_49_method_8_code 41 = .ok (.ireturn, 1) := by decide +kernel
theorem d5_0 : decode jdk_29_method_66_code 0 = .ok (.lload_n 0, 1) := by decide +kernel
theorem d5_1 : decode jdk_29_method_66_code 1 = .ok (.lload_n 2, 1) := by decide +kernel
theorem d5_2 : decode jdk_29_method_66_code 2 = .ok (.lcmp, 1) := by decide +kernel
theorem d5_3 : decode jdk_29_method_66_code 3 = .ok (.ifCond .lt 7, 3) := by decide +kernel
theorem d5_6 : decode jdk_29_method_66_code 6 = .ok (.lload_n 0, 1) := by decide +kernel
theorem d5_7 : decode jdk_29_method_66_code 7 = .ok (.goto 4, 3) := by decide +kernel
theorem d5_10 : decode jdk_29_method_66_code 10 = .ok (.lload_n 2, 1) := by decide +kernel
theorem d5_11 : decode jdk_29_method_66_code 11 = .ok (.lreturn, 1) := by decide +kernel
theorem d6_0 : decode jdk_29_method_70_code 0 = .ok (.lload_n 0, 1) := by decide +kernel
theorem d6_1 : decode jdk_29_method_70_code 1 = .ok (.lload_n 2, 1) := by decide +kernel
theorem d6_2 : decode jdk_29_method_70_code 2 = .ok (.lcmp, 1) := by decide +kernel
theorem d6_3 : decode jdk_29_method_70_code 3 = .ok (.ifCond .gt 7, 3) := by decide +kernel
theorem d6_6 : decode jdk_29_method_70_code 6 = .ok (.lload_n 0, 1) := by decide +kernel
theorem d6_7 : decode jdk_29_method_70_code 7 = .ok (.goto 4, 3) := by decide +kernel
theorem d6_10 : decode jdk_29_method_70_code 10 = .ok (.lload_n 2, 1) := by decide +kernel
theorem d6_11 : decode jdk_29_method_70_code 11 = .ok (.lreturn, 1) := by decide +kernel
theorem d7_0 : decode jdk_65_method_127_code 0 = .ok (.iload_n 1, 1) := by decide +kernel
theorem d7_1 : decode jdk_65_method_127_code 1 = .ok (.aload_n 0, 1) := by decide +kernel
theorem d7_2 : decode jdk_65_method_127_code 2 = .ok (.arraylength, 1) := by decide +kernel
theorem d7_3 : decode jdk_65_method_127_code 3 = .ok (.if_icmp .ne 11, 3) := by decide +kernel
theorem d7_14 : decode jdk_65_method_127_code 14 = .ok (.iload_n 1, 1) := by decide +kernel
theorem d7_15 : decode jdk_65_method_127_code 15 = .ok (.newarray .double, 2) := by decide +kernel
theorem d7_17 : decode jdk_65_method_127_code 17 = .ok (.astore_n 2, 1) := by decide +kernel
theorem d7_18 : decode jdk_65_method_127_code 18 = .ok (.aload_n 0, 1) := by decide +kernel
theorem d7_19 : decode jdk_65_method_127_code 19 = .ok (.iconst 0, 1) := by decide +kernel
theorem d7_20 : decode jdk_65_method_127_code 20 = .ok (.aload_n 2, 1) := by decide +kernel
theorem d7_21 : decode jdk_65_method_127_code 21 = .ok (.iconst 0, 1) := by decide +kernel
theorem d7_22 : decode jdk_65_method_127_code 22 = .ok (.aload_n 0, 1) := by decide +kernel
theorem d7_23 : decode jdk_65_method_127_code 23 = .ok (.arraylength, 1) := by decide +kernel
theorem d7_24 : decode jdk_65_method_127_code 24 = .ok (.iload_n 1, 1) := by decide +kernel
theorem d7_25 : decode jdk_65_method_127_code 25 = .ok (.invokestatic 304, 3) := by decide +kernel
theorem d7_28 : decode jdk_65_method_127_code 28 = .ok (.invokestatic 150, 3) := by decide +kernel
theorem d7_31 : decode jdk_65_method_127_code 31 = .ok (.aload_n 2, 1) := by decide +kernel
theorem d7_32 : decode jdk_65_method_127_code 32 = .ok (.areturn, 1) := by decide +kernel
theorem d8_0 : decode jdk_29_method_69_code 0 = .ok (.iload_n 0, 1) := by decide +kernel
theorem d8_1 : decode jdk_29_method_69_code 1 = .ok (.iload_n 1, 1) := by decide +kernel
theorem d8_2 : decode jdk_29_method_69_code 2 = .ok (.if_icmp .gt 7, 3) := by decide +kernel
theorem d8_5 : decode jdk_29_method_69_code 5 = .ok (.iload_n 0, 1) := by decide +kernel
theorem d8_6 : decode jdk_29_method_69_code 6 = .ok (.goto 4, 3) := by decide +kernel
theorem d8_9 : decode jdk_29_method_69_code 9 = .ok (.iload_n 1, 1) := by decide +kernel
theorem d8_10 : decode jdk_29_method_69_code 10 = .ok (.ireturn, 1) := by decide +kernel
theorem d9_0 : decode prog_50_method_2_code 0 = .ok (.aload_n 0, 1) := by decide +kernel
theorem d9_1 : decode prog_50_method_2_code 1 = .ok (.invokespecial 12, 3) := by decide +kernel
theorem d9_4 : decode prog_50_method_2_code 4 = .ok (.aload_n 0, 1) := by decide +kernel
theorem d9_5 : decode prog_50_method_2_code 5 = .ok (.iconst (-1), 1) := by decide +kernel
theorem d9_6 : decode prog_50_method_2_code 6 = .ok (.putfield 15, 3) := by decide +kernel
theorem d9_9 : decode prog_50_method_2_code 9 = .ok (.aload_n 0, 1) := by decide +kernel
theorem d9_10 : decode prog_50_method_2_code 10 = .ok (.iconst (-1), 1) := by decide +kernel
theorem d9_11 : decode prog_50_method_2_code 11 = .ok (.putfield 19, 3) := by decide +kernel
theorem d9_14 : decode prog_50_method_2_code 14 = .ok (.aload_n 0, 1) := by decide +kernel
theorem d9_15 : decode prog_50_method_2_code 15 = .ok (.iconst (-1), 1) := by decide +kernel
theorem d9_16 : decode prog_50_method_2_code 16 = .ok (.putfield 22, 3) := by decide +kernel
theorem d9_19 : decode prog_50_method_2_code 19 = .ok (.aload_n 0, 1) := by decide +kernel
theorem d9_20 : decode prog_50_method_2_code 20 = .ok (.aload_n 1, 1) := by decide +kernel
theorem d9_21 : decode prog_50_method_2_code 21 = .ok (.putfield 25, 3) := by decide +kernel
theorem d9_24 : decode prog_50_method_2_code 24 = .ok (.aload_n 0, 1) := by decide +kernel
theorem d9_25 : decode prog_50_method_2_code 25 = .ok (.iload_n 2, 1) := by decide +kernel
theorem d9_26 : decode prog_50_method_2_code 26 = .ok (.putfield 29, 3) := by decide +kernel
theorem d9_29 : decode prog_50_method_2_code 29 = .ok (.aload_n 0, 1) := by decide +kernel
theorem d9_30 : decode prog_50_method_2_code 30 = .ok (.iload_n 3, 1) := by decide +kernel
theorem d9_31 : decode prog_50_method_2_code 31 = .ok (.putfield 32, 3) := by decide +kernel
theorem d9_34 : decode prog_50_method_2_code 34 = .ok (.return_, 1) := by decide +kernel
theorem d10_0 : decode prog_50_method_9_code 0 = .ok (.aload_n 0, 1) := by decide +kernel
theorem d10_1 : decode prog_50_method_9_code 1 = .ok (.dup, 1) := by decide +kernel
theorem d10_2 : decode prog_50_method_9_code 2 = .ok (.getfield 35, 3) := by decide +kernel
theorem d10_5 : decode prog_50_method_9_code 5 = .ok (.dconst 1, 1) := by decide +kernel
theorem d10_6 : decode prog_50_method_9_code 6 = .ok (.dadd, 1) := by decide +kernel
theorem d10_7 : decode prog_50_method_9_code 7 = .ok (.putfield 35, 3) := by decide +kernel
theorem d10_10 : decode prog_50_method_9_code 10 = .ok (.return_, 1) := by decide +kernel
theorem d11_0 : decode prog_50_method_7_code 0 = .ok (.aload_n 0, 1) := by decide +kernel
theorem d11_1 : decode prog_50_method_7_code 1 = .ok (.getfield 15, 3) := by decide +kernel
theorem d11_4 : decode prog_50_method_7_code 4 = .ok (.iconst (-1), 1) := by decide +kernel
theorem d11_5 : decode prog_50_method_7_code 5 = .ok (.if_icmp .ne 18, 3) := by decide +kernel
theorem d11_8 : decode prog_50_method_7_code 8 = .ok (.aload_n 0, 1) := by decide +kernel
theorem d11_9 : decode prog_50_method_7_code 9 = .ok (.aload_n 0, 1) := by decide +kernel
theorem d11_10 : decode prog_50_method_7_code 10 = .ok (.getfield 25, 3) := by decide +kernel
theorem d11_13 : decode prog_50_method_7_code 13 = .ok (.aload_n 0, 1) := by decide +kernel
theorem d11_14 : decode prog_50_method_7_code 14 = .ok (.getfield 29, 3) := by decide +kernel
theorem d11_17 : decode prog_50_method_7_code 17 = .ok (.invokevirtual 49, 3) := by decide +kernel
theorem d11_20 : decode prog_50_method_7_code 20 = .ok (.putfield 15, 3) := by decide +kernel
theorem d11_23 : decode prog_50_method_7_code 23 = .ok (.aload_n 0, 1) := by decide +kernel
theorem d11_24 : decode prog_50_method_7_code 24 = .ok (.getfield 25, 3) := by decide +kernel
theorem d11_27 : decode prog_50_method_7_code 27 = .ok (.aload_n 0, 1) := by decide +kernel
theorem d11_28 : decode prog_50_method_7_code 28 = .ok (.getfield 15, 3) := by decide +kernel
theorem d11_31 : decode prog_50_method_7_code 31 = .ok (.iload_n 1, 1) := by decide +kernel
theorem d11_32 : decode prog_50_method_7_code 32 = .ok (.iadd, 1) := by decide +kernel
theorem d11_33 : decode prog_50_method_7_code 33 = .ok (.dconst 1, 1) := by decide +kernel
theorem d11_34 : decode prog_50_method_7_code 34 = .ok (.invokevirtual 53, 3) := by decide +kernel
theorem d11_37 : decode prog_50_method_7_code 37 = .ok (.return_, 1) := by decide +kernel
theorem d12_0 : decode prog_49_method_4_code 0 = .ok (.aload_n 0, 1) := by decide +kernel
theorem d12_1 : decode prog_49_method_4_code 1 = .ok (.getfield 9, 3) := by decide +kernel
theorem d12_4 : decode prog_49_method_4_code 4 = .ok (.iload_n 1, 1) := by decide +kernel
theorem d12_5 : decode prog_49_method_4_code 5 = .ok (.daload, 1) := by decide +kernel
theorem d12_6 : decode prog_49_method_4_code 6 = .ok (.dstore 4, 2) := by decide +kernel
theorem d12_8 : decode prog_49_method_4_code 8 = .ok (.dload 4, 2) := by decide +kernel
theorem d12_10 : decode prog_49_method_4_code 10 = .ok (.dload_n 2, 1) := by decide +kernel
theorem d12_11 : decode prog_49_method_4_code 11 = .ok (.dadd, 1) := by decide +kernel
theorem d12_12 : decode prog_49_method_4_code 12 = .ok (.dstore 6, 2) := by decide +kernel
theorem d12_14 : decode prog_49_method_4_code 14 = .ok (.aload_n 0, 1) := by decide +kernel
theorem d12_15 : decode prog_49_method_4_code 15 = .ok (.getfield 9, 3) := by decide +kernel
theorem d12_18 : decode prog_49_method_4_code 18 = .ok (.iload_n 1, 1) := by decide +kernel
theorem d12_19 : decode prog_49_method_4_code 19 = .ok (.dload 6, 2) := by decide +kernel
theorem d12_21 : decode prog_49_method_4_code 21 = .ok (.dastore, 1) := by decide +kernel
theorem d12_22 : decode prog_49_method_4_code 22 = .ok (.aload_n 0, 1) := by decide +kernel
theorem d12_23 : decode prog_49_method_4_code 23 = .ok (.getfield 29, 3) := by decide +kernel
theorem d12_26 : decode prog_49_method_4_code 26 = .ok (.ifnull 44, 3) := by decide +kernel
theorem d12_70 : decode prog_49_method_4_code 70 = .ok (.return_, 1) := by decide +kernel
theorem d13_0 : decode method_2_code 0 = .ok (.iload_n 1, 1) := by decide +kernel
theorem d13_1 : decode method_2_code 1 = .ok (.ifCond .eq 10, 3) := by decide +kernel
theorem d13_4 : decode method_2_code 4 = .ok (.aload_n 0, 1) := by decide +kernel
theorem d13_5 : decode method_2_code 5 = .ok (.iload_n 3, 1) := by decide +kernel
theorem d13_6 : decode method_2_code 6 = .ok (.iload 4, 2) := by decide +kernel
theorem d13_8 : decode method_2_code 8 = .ok (.invokevirtual 7, 3) := by decide +kernel
theorem d13_11 : decode method_2_code 11 = .ok (.iload_n 2, 1) := by decide +kernel
theorem d13_12 : decode method_2_code 12 = .ok (.ifCond .eq 11, 3) := by decide +kernel
theorem d13_15 : decode method_2_code 15 = .ok (.aload_n 0, 1) := by decide +kernel
theorem d13_16 : decode method_2_code 16 = .ok (.iload 5, 2) := by decide +kernel
theorem d13_18 : decode method_2_code 18 = .ok (.iload 6, 2) := by decide +kernel
theorem d13_20 : decode method_2_code 20 = .ok (.invokevirtual 13, 3) := by decide +kernel
theorem d13_23 : decode method_2_code 23 = .ok (.return_, 1) := by decide +kernel
theorem d14_0 : decode prog_50_method_3_code 0 = .ok (.aload_n 0, 1) := by decide +kernel
theorem d14_1 : decode prog_50_method_3_code 1 = .ok (.getfield 35, 3) := by decide +kernel
theorem d14_4 : decode prog_50_method_3_code 4 = .ok (.dstore_n 3, 1) := by decide +kernel
theorem d14_5 : decode prog_50_method_3_code 5 = .ok (.aload_n 0, 1) := by decide +kernel
theorem d14_6 : decode prog_50_method_3_code 6 = .ok (.getfield 15, 3) := by decide +kernel
theorem d14_9 : decode prog_50_method_3_code 9 = .ok (.iconst (-1), 1) := by decide +kernel
theorem d14_10 : decode prog_50_method_3_code 10 = .ok (.if_icmp .eq 19, 3) := by decide +kernel
theorem d14_13 : decode prog_50_method_3_code 13 = .ok (.dload_n 3, 1) := by decide +kernel
theorem d14_14 : decode prog_50_method_3_code 14 = .ok (.aload_n 0, 1) := by decide +kernel
theorem d14_15 : decode prog_50_method_3_code 15 = .ok (.getfield 25, 3) := by decide +kernel
theorem d14_18 : decode prog_50_method_3_code 18 = .ok (.aload_n 0, 1) := by decide +kernel
theorem d14_19 : decode prog_50_method_3_code 19 = .ok (.getfield 15, 3) := by decide +kernel
theorem d14_22 : decode prog_50_method_3_code 22 = .ok (.iload_n 1, 1) := by decide +kernel
theorem d14_23 : decode prog_50_method_3_code 23 = .ok (.iadd, 1) := by decide +kernel
theorem d14_24 : decode prog_50_method_3_code 24 = .ok (.invokevirtual 39, 3) := by decide +kernel
theorem d14_27 : decode prog_50_method_3_code 27 = .ok (.dadd, 1) := by decide +kernel
theorem d14_28 : decode prog_50_method_3_code 28 = .ok (.dstore_n 3, 1) := by decide +kernel
theorem d14_29 : decode prog_50_method_3_code 29 = .ok (.aload_n 0, 1) := by decide +kernel
theorem d14_30 : decode prog_50_method_3_code 30 = .ok (.getfield 19, 3) := by decide +kernel
theorem d14_33 : decode prog_50_method_3_code 33 = .ok (.iconst (-1), 1) := by decide +kernel
theorem d14_34 : decode prog_50_method_3_code 34 = .ok (.if_icmp .eq 19, 3) := by decide +kernel
theorem d14_37 : decode prog_50_method_3_code 37 = .ok (.dload_n 3, 1) := by decide +kernel
theorem d14_38 : decode prog_50_method_3_code 38 = .ok (.aload_n 0, 1) := by decide +kernel
theorem d14_39 : decode prog_50_method_3_code 39 = .ok (.getfield 25, 3) := by decide +kernel
theorem d14_42 : decode prog_50_method_3_code 42 = .ok (.aload_n 0, 1) := by decide +kernel
theorem d14_43 : decode prog_50_method_3_code 43 = .ok (.getfield 19, 3) := by decide +kernel
theorem d14_46 : decode prog_50_method_3_code 46 = .ok (.iload_n 2, 1) := by decide +kernel
theorem d14_47 : decode prog_50_method_3_code 47 = .ok (.iadd, 1) := by decide +kernel
theorem d14_48 : decode prog_50_method_3_code 48 = .ok (.invokevirtual 39, 3) := by decide +kernel
theorem d14_51 : decode prog_50_method_3_code 51 = .ok (.dadd, 1) := by decide +kernel
theorem d14_52 : decode prog_50_method_3_code 52 = .ok (.dstore_n 3, 1) := by decide +kernel
theorem d14_53 : decode prog_50_method_3_code 53 = .ok (.aload_n 0, 1) := by decide +kernel
theorem d14_54 : decode prog_50_method_3_code 54 = .ok (.getfield 22, 3) := by decide +kernel
theorem d14_57 : decode prog_50_method_3_code 57 = .ok (.iconst (-1), 1) := by decide +kernel
theorem d14_58 : decode prog_50_method_3_code 58 = .ok (.if_icmp .eq 26, 3) := by decide +kernel
theorem d14_61 : decode prog_50_method_3_code 61 = .ok (.dload_n 3, 1) := by decide +kernel
theorem d14_62 : decode prog_50_method_3_code 62 = .ok (.aload_n 0, 1) := by decide +kernel
theorem d14_63 : decode prog_50_method_3_code 63 = .ok (.getfield 25, 3) := by decide +kernel
theorem d14_66 : decode prog_50_method_3_code 66 = .ok (.aload_n 0, 1) := by decide +kernel
theorem d14_67 : decode prog_50_method_3_code 67 = .ok (.getfield 22, 3) := by decide +kernel
theorem d14_70 : decode prog_50_method_3_code 70 = .ok (.iload_n 1, 1) := by decide +kernel
theorem d14_71 : decode prog_50_method_3_code 71 = .ok (.aload_n 0, 1) := by decide +kernel
theorem d14_72 : decode prog_50_method_3_code 72 = .ok (.getfield 32, 3) := by decide +kernel
theorem d14_75 : decode prog_50_method_3_code 75 = .ok (.imul, 1) := by decide +kernel
theorem d14_76 : decode prog_50_method_3_code 76 = .ok (.iadd, 1) := by decide +kernel
theorem d14_77 : decode prog_50_method_3_code 77 = .ok (.iload_n 2, 1) := by decide +kernel
theorem d14_78 : decode prog_50_method_3_code 78 = .ok (.iadd, 1) := by decide +kernel
theorem d14_79 : decode prog_50_method_3_code 79 = .ok (.invokevirtual 39, 3) := by decide +kernel
theorem d14_82 : decode prog_50_method_3_code 82 = .ok (.dadd, 1) := by decide +kernel
theorem d14_83 : decode prog_50_method_3_code 83 = .ok (.dstore_n 3, 1) := by decide +kernel
theorem d14_84 : decode prog_50_method_3_code 84 = .ok (.dload_n 3, 1) := by decide +kernel
theorem d14_85 : decode prog_50_method_3_code 85 = .ok (.dreturn, 1) := by decide +kernel
theorem d15_0 : decode prog_49_method_3_code 0 = .ok (.aload_n 0, 1) := by decide +kernel
theorem d15_1 : decode prog_49_method_3_code 1 = .ok (.getfield 9, 3) := by decide +kernel
theorem d15_4 : decode prog_49_method_3_code 4 = .ok (.iload_n 1, 1) := by decide +kernel
theorem d15_5 : decode prog_49_method_3_code 5 = .ok (.daload, 1) := by decide +kernel
theorem d15_6 : decode prog_49_method_3_code 6 = .ok (.dreturn, 1) := by decide +kernel
theorem d16_0 : decode prog_50_method_4_code 0 = .ok (.aload_n 0, 1) := by decide +kernel
theorem d16_1 : decode prog_50_method_4_code 1 = .ok (.iload_n 1, 1) := by decide +kernel
theorem d16_2 : decode prog_50_method_4_code 2 = .ok (.iload_n 2, 1) := by decide +kernel
theorem d16_3 : decode prog_50_method_4_code 3 = .ok (.dconst 1, 1) := by decide +kernel
theorem d16_4 : decode prog_50_method_4_code 4 = .ok (.invokevirtual 43, 3) := by decide +kernel
theorem d16_7 : decode prog_50_method_4_code 7 = .ok (.return_, 1) := by decide +kernel
theorem d17_0 : decode prog_50_method_6_code 0 = .ok (.aload_n 0, 1) := by decide +kernel
theorem d17_1 : decode prog_50_method_6_code 1 = .ok (.getfield 22, 3) := by decide +kernel
theorem d17_4 : decode prog_50_method_6_code 4 = .ok (.iconst (-1), 1) := by decide +kernel
theorem d17_5 : decode prog_50_method_6_code 5 = .ok (.if_icmp .ne 23, 3) := by decide +kernel
theorem d17_8 : decode prog_50_method_6_code 8 = .ok (.aload_n 0, 1) := by decide +kernel
theorem d17_9 : decode prog_50_method_6_code 9 = .ok (.aload_n 0, 1) := by decide +kernel
theorem d17_10 : decode prog_50_method_6_code 10 = .ok (.getfield 25, 3) := by decide +kernel
theorem d17_13 : decode prog_50_method_6_code 13 = .ok (.aload_n 0, 1) := by decide +kernel
theorem d17_14 : decode prog_50_method_6_code 14 = .ok (.getfield 29, 3) := by decide +kernel
theorem d17_17 : decode prog_50_method_6_code 17 = .ok (.aload_n 0, 1) := by decide +kernel
theorem d17_18 : decode prog_50_method_6_code 18 = .ok (.getfield 32, 3) := by decide +kernel
theorem d17_21 : decode prog_50_method_6_code 21 = .ok (.imul, 1) := by decide +kernel
theorem d17_22 : decode prog_50_method_6_code 22 = .ok (.invokevirtual 49, 3) := by decide +kernel
theorem d17_25 : decode prog_50_method_6_code 25 = .ok (.putfield 22, 3) := by decide +kernel
theorem d17_28 : decode prog_50_method_6_code 28 = .ok (.aload_n 0, 1) := by decide +kernel
theorem d17_29 : decode prog_50_method_6_code 29 = .ok (.getfield 25, 3) := by decide +kernel
theorem d17_32 : decode prog_50_method_6_code 32 = .ok (.aload_n 0, 1) := by decide +kernel
theorem d17_33 : decode prog_50_method_6_code 33 = .ok (.getfield 22, 3) := by decide +kernel
theorem d17_36 : decode prog_50_method_6_code 36 = .ok (.iload_n 1, 1) := by decide +kernel
theorem d17_37 : decode prog_50_method_6_code 37 = .ok (.aload_n 0, 1) := by decide +kernel
theorem d17_38 : decode prog_50_method_6_code 38 = .ok (.getfield 32, 3) := by decide +kernel
theorem d17_41 : decode prog_50_method_6_code 41 = .ok (.imul, 1) := by decide +kernel
theorem d17_42 : decode prog_50_method_6_code 42 = .ok (.iadd, 1) := by decide +kernel
theorem d17_43 : decode prog_50_method_6_code 43 = .ok (.iload_n 2, 1) := by decide +kernel
theorem d17_44 : decode prog_50_method_6_code 44 = .ok (.iadd, 1) := by decide +kernel
theorem d17_45 : decode prog_50_method_6_code 45 = .ok (.dload_n 3, 1) := by decide +kernel
theorem d17_46 : decode prog_50_method_6_code 46 = .ok (.invokevirtual 53, 3) := by decide +kernel
theorem d17_49 : decode prog_50_method_6_code 49 = .ok (.return_, 1) := by decide +kernel
theorem d18_0 : decode prog_50_method_5_code 0 = .ok (.aload_n 0, 1) := by decide +kernel
theorem d18_1 : decode prog_50_method_5_code 1 = .ok (.iload_n 1, 1) := by decide +kernel
theorem d18_2 : decode prog_50_method_5_code 2 = .ok (.iload_n 2, 1) := by decide +kernel
theorem d18_3 : decode prog_50_method_5_code 3 = .ok (.ldc2_w 47, 3) := by decide +kernel
theorem d18_6 : decode prog_50_method_5_code 6 = .ok (.invokevirtual 43, 3) := by decide +kernel
theorem d18_9 : decode prog_50_method_5_code 9 = .ok (.return_, 1) := by decide +kernel
theorem d19_0 : decode prog_50_method_10_code 0 = .ok (.aload_n 0, 1) := by decide +kernel
theorem d19_1 : decode prog_50_method_10_code 1 = .ok (.dup, 1) := by decide +kernel
theorem d19_2 : decode prog_50_method_10_code 2 = .ok (.getfield 35, 3) := by decide +kernel
theorem d19_5 : decode prog_50_method_10_code 5 = .ok (.dload_n 1, 1) := by decide +kernel
theorem d19_6 : decode prog_50_method_10_code 6 = .ok (.dmul, 1) := by decide +kernel
theorem d19_7 : decode prog_50_method_10_code 7 = .ok (.putfield 35, 3) := by decide +kernel
theorem d19_10 : decode prog_50_method_10_code 10 = .ok (.return_, 1) := by decide +kernel
theorem d20_0 : decode prog_50_method_8_code 0 = .ok (.aload_n 0, 1) := by decide +kernel
theorem d20_1 : decode prog_50_method_8_code 1 = .ok (.getfield 19, 3) := by decide +kernel
theorem d20_4 : decode prog_50_method_8_code 4 = .ok (.iconst (-1), 1) := by decide +kernel
theorem d20_5 : decode prog_50_method_8_code 5 = .ok (.if_icmp .ne 18, 3) := by decide +kernel
theorem d20_8 : decode prog_50_method_8_code 8 = .ok (.aload_n 0, 1) := by decide +kernel
theorem d20_9 : decode prog_50_method_8_code 9 = .ok (.aload_n 0, 1) := by decide +kernel
theorem d20_10 : decode prog_50_method_8_code 10 = .ok (.getfield 25, 3) := by decide +kernel
theorem d20_13 : decode prog_50_method_8_code 13 = .ok (.aload_n 0, 1) := by decide +kernel
theorem d20_14 : decode prog_50_method_8_code 14 = .ok (.getfield 32, 3) := by decide +kernel
theorem d20_17 : decode prog_50_method_8_code 17 = .ok (.invokevirtual 49, 3) := by decide +kernel
theorem d20_20 : decode prog_50_method_8_code 20 = .ok (.putfield 19, 3) := by decide +kernel
theorem d20_23 : decode prog_50_method_8_code 23 = .ok (.aload_n 0, 1) := by decide +kernel
theorem d20_24 : decode prog_50_method_8_code 24 = .ok (.getfield 25, 3) := by decide +kernel
theorem d20_27 : decode prog_50_method_8_code 27 = .ok (.aload_n 0, 1) := by decide +kernel
theorem d20_28 : decode prog_50_method_8_code 28 = .ok (.getfield 19, 3) := by decide +kernel
theorem d20_31 : decode prog_50_method_8_code 31 = .ok (.iload_n 1, 1) := by decide +kernel
theorem d20_32 : decode prog_50_method_8_code 32 = .ok (.iadd, 1) := by decide +kernel
theorem d20_33 : decode prog_50_method_8_code 33 = .ok (.dconst 1, 1) := by decide +kernel
theorem d20_34 : decode prog_50_method_8_code 34 = .ok (.invokevirtual 53, 3) := by decide +kernel
theorem d20_37 : decode prog_50_method_8_code 37 = .ok (.return_, 1) := by decide +kernel
theorem pn_0 : plainName "com/example/breakline/breakline/ModifierNumbers" = true := by first | (simp [plainName, overriddenIn]; done) | decide +kernel
theorem pn_1 : plainName "java/util/Arrays" = true := by first | (simp [plainName, overriddenIn]; done) | decide +kernel
theorem pn_2 : plainName "com/example/breakline/breakline/ModifierTable" = true := by first | (simp [plainName, overriddenIn]; done) | decide +kernel
theorem pn_3 : plainName "com/example/breakline/breakline/ModifierTableGetPinLaw" = true := by first | (simp [plainName, overriddenIn]; done) | decide +kernel
theorem pd_0 : parseMethodDescriptor "(JJ)J" = some ⟨[.long, .long], some .long⟩ := by decide +kernel
theorem pd_1 : parseMethodDescriptor "(II)I" = some ⟨[.int, .int], some .int⟩ := by decide +kernel
theorem pd_2 : parseMethodDescriptor "([DI)[D" = some ⟨[(.array .double), .int], some (.array .double)⟩ := by decide +kernel
theorem pd_3 : parseMethodDescriptor "(I)I" = some ⟨[.int], some .int⟩ := by decide +kernel
theorem pd_4 : parseMethodDescriptor "(ID)V" = some ⟨[.int, .double], none⟩ := by decide +kernel
theorem pd_5 : parseMethodDescriptor "(IID)V" = some ⟨[.int, .int, .double], none⟩ := by decide +kernel
theorem pd_6 : parseMethodDescriptor "(II)V" = some ⟨[.int, .int], none⟩ := by decide +kernel
theorem pd_7 : parseMethodDescriptor "(I)D" = some ⟨[.int], some .double⟩ := by decide +kernel
theorem pd_8 : parseMethodDescriptor "()V" = some ⟨[], none⟩ := by decide +kernel
theorem pd_9 : parseMethodDescriptor "(Lcom/example/breakline/breakline/ModifierNumbers;II)V" = some ⟨[(.object "com/example/breakline/breakline/ModifierNumbers"), .int, .int], none⟩ := by decide +kernel
theorem pd_10 : parseMethodDescriptor "(D)V" = some ⟨[.double], none⟩ := by decide +kernel
theorem pd_11 : parseMethodDescriptor "(Lcom/example/breakline/breakline/ModifierTable;ZZIIII)V" = some ⟨[(.object "com/example/breakline/breakline/ModifierTable"), .boolean, .boolean, .int, .int, .int, .int], none⟩ := by decide +kernel
theorem pd_12 : parseMethodDescriptor "(I)V" = some ⟨[.int], none⟩ := by decide +kernel
theorem pd_13 : parseMethodDescriptor "(II)D" = some ⟨[.int, .int], some .double⟩ := by decide +kernel
theorem own_osz {Z : State} {n0 : Nat} {h : Heap} (O : Old Z n0 h) : n0 ≤ h.size := O.1 ▸ O.2.1
theorem own_selp {s : State} {args : Array Value} {y y2 : MethodName} (h2 : (Cond.selects y2.cls y2 y2).before args s = true) (e : y2.cls = y.cls) (hpriv : s.PrivateAt y) (hinst : (Cond.instanceMethod y).before args s = true) (hy : y.cls ≠ "java/lang/invoke/MethodHandle" ∧ y.cls ≠ "java/lang/invoke/VarHandle") : (Cond.selects y.cls y y).before args s = true := by
  obtain ⟨c, r, m, h1, -, h3, -, mk, h5, h6⟩ := Cond.selects_spec h2
  exact Jvm.Stand.selects_self_of_private (by rw [← e]; exact findClass_of_methodNamed h3) h5 h6 hpriv hinst hy

def Sm (x : Int32) (n : Nat) : Prop := x.toInt = (n : Int) ∧ n ≤ 1000
theorem Sm.lit {x : Int32} {n : Nat} (h : x.toInt = (n : Int) ∧ n ≤ 1000) : Sm x n := h
theorem Sm.nn {x : Int32} {n : Nat} (h : Sm x n) : ¬ x < (0 : Int32) := by
  have e0 : (0 : Int32).toInt = 0 := rfl
  rw [Int32.lt_iff_toInt_lt, h.1]; omega
theorem Sm.nat {x : Int32} {n : Nat} (h : Sm x n) : x.toNatClampNeg = n := by
  simp only [Int32.toNatClampNeg, h.1]; omega
theorem Sm.le48 {x : Int32} {n : Nat} (h : Sm x n) (q : n ≤ 48) : x.toNatClampNeg ≤ 48 := by rw [h.nat]; exact q
theorem Sm.add {x y : Int32} {n m : Nat} (a : Sm x n) (b : Sm y m) (h : n + m ≤ 1000) : Sm (x + y) (n + m) := by
  have a1 := a.1; have b1 := b.1
  refine ⟨?_, h⟩
  rw [Jvm.Kit.i32_add (by omega) (by omega), a1, b1]; omega
theorem Sm.mul {x y : Int32} {n m : Nat} (a : Sm x n) (b : Sm y m) (hn : n ≤ 4) (hm : m ≤ 4) : Sm (x * y) (n * m) := by
  have a1 := a.1; have b1 := b.1
  have k : n * m ≤ 4 * 4 := Nat.mul_le_mul hn hm
  have e : x.toInt * y.toInt = ((n * m : Nat) : Int) := by rw [a1, b1]; simp
  refine ⟨?_, by omega⟩
  rw [Jvm.Kit.i32_mul (by rw [e]; omega) (by rw [e]; omega), e]
theorem Sm.big {x : Int32} {n : Nat} (h : Sm x n) : ¬ (2147483639 : Int32) < x := by
  have e0 : (2147483639 : Int32).toInt = 2147483639 := rfl
  have := h.1; have := h.2
  rw [Int32.lt_iff_toInt_lt]; omega
theorem Sm.ne1 {x : Int32} {n : Nat} (h : Sm x n) : ¬ x = (-1 : Int32) := fun e => by
  have e0 : (-1 : Int32).toInt = -1 := rfl
  have := h.1; rw [e, e0] at this; omega
theorem Sm.inj {x y : Int32} {n m : Nat} (a : Sm x n) (b : Sm y m) : x = y ↔ n = m := by
  have a1 := a.1; have b1 := b.1
  rw [← Int32.toInt_inj]; omega
theorem own_smne {x y : Int32} {n m : Nat} (a : Sm x n) (b : Sm y m) (h : n ≠ m) : ¬ x = y := fun e => h ((a.inj b).mp e)
def dvs (f : Nat → Int64) : List Value := (List.range 48).map fun i => .double (FP.l2d (f i))
def upd (f : Nat → Int64) (i : Nat) (x : Int64) : Nat → Int64 := fun j => if j = i then x else f j
def Bn (k : Nat) (a : Int64) : Prop := (-(k : Int) ≤ a.toInt ∧ a.toInt ≤ k) ∧ k ≤ 1000
theorem Bn.b53 {k : Nat} {a : Int64} (h : Bn k a) : B53 a := by
  obtain ⟨⟨h1, h2⟩, h3⟩ := h
  constructor <;> omega
def ad (r : Int32) (w x : Int64) : Int64 := if r = (-1 : Int32) then w else w + x
theorem Bn.add {j k : Nat} {a b : Int64} (ha : Bn j a) (hb : Bn k b) (h : j + k ≤ 1000) : Bn (j + k) (a + b) := by
  have e := add64 ha.b53 hb.b53
  obtain ⟨⟨h1, h2⟩, h3⟩ := ha; obtain ⟨⟨g1, g2⟩, g3⟩ := hb
  refine ⟨⟨?_, ?_⟩, h⟩ <;> rw [e] <;> omega
theorem Bn.mono {j k : Nat} {a : Int64} (ha : Bn j a) (h : j ≤ k) (hk : k ≤ 1000) : Bn k a := by
  obtain ⟨⟨h1, h2⟩, h3⟩ := ha
  refine ⟨⟨?_, ?_⟩, hk⟩ <;> omega
theorem own_bad {k : Nat} {r : Int32} {w x : Int64} (hw : Bn k w) (hx : Bn 4 x) (hk : k + 4 ≤ 1000 := by decide) : Bn (k + 4) (ad r w x) := by
  unfold ad; split
  · exact hw.mono (by omega) hk
  · exact hw.add hx hk
def grw (p1 p2 : Int32) : Int32 := ((if (0 : Int32) < (lcmpW (2147483639 : Int64) ((if (lcmpW (p2.toInt64) ((p1.toInt64) + ((p1.toInt64) / (2 : Int64)))) < (0 : Int32) then ((p1.toInt64) + ((p1.toInt64) / (2 : Int64))) else (p2.toInt64)))) then ((if (lcmpW (p2.toInt64) ((p1.toInt64) + ((p1.toInt64) / (2 : Int64)))) < (0 : Int32) then ((p1.toInt64) + ((p1.toInt64) / (2 : Int64))) else (p2.toInt64))) else (2147483639 : Int64))).toInt32
theorem own_d0 : FP.dconst0 = FP.l2d 0 := by rw [l2d_zero]; rfl
set_option maxRecDepth 65536 in
theorem own_d1 : FP.dconst1 = FP.l2d 1 := by decide +kernel
theorem own_dm1 : (13830554455654793216 : UInt64) = FP.l2d (-1) := by decide +kernel
theorem own_b1 : B53 1 := by constructor <;> decide
theorem own_bm1 : B53 (-1) := by constructor <;> decide
theorem own_bz {a : Int64} (h : a = 0) : B53 a := by rw [h]; constructor <;> decide
theorem own_inb {c : Cell} {z j : Int32} {zn jn : Nat} (S : c.slots.size = z.toNatClampNeg) (sj : Sm j jn) (sz : Sm z zn) (h : jn < zn) : ¬ (j < 0 ∨ c.slots.size ≤ j.toNatClampNeg) := by
  rw [S, sj.nat, sz.nat]; intro q
  rcases q with q | q
  · exact sj.nn q
  · omega
theorem own_dg (f : Nat → Int64) (i : Nat) : (dvs f).getD i (.double (FP.l2d 0)) = if i < 48 then .double (FP.l2d (f i)) else .double (FP.l2d 0) := by
  rw [dvs, List.getD_eq_getElem?_getD, List.getElem?_map]
  by_cases h : i < 48 <;> simp [h]
theorem own_dvs_at {f : Nat → Int64} {j : Int32} {jn : Nat} (sj : Sm j jn) (h : jn < 48) : (dvs f).getD j.toNatClampNeg (.double (FP.l2d 0)) = .double (FP.l2d (f jn)) := by rw [sj.nat, own_dg, if_pos h]
theorem own_dvs0 (i : Nat) : (dvs (fun _ => (0 : Int64))).getD i (.double (FP.l2d 0)) = ([] : List Value).getD i (.double (FP.l2d 0)) := by rw [own_dg]; split <;> simp
theorem own_dvs_set (f : Nat → Int64) (i : Nat) (x : Int64) : (dvs f).set i (.double (FP.l2d x)) = dvs (upd f i x) := by
  apply List.ext_getElem?
  intro j
  simp only [dvs, List.getElem?_set, List.length_map, List.length_range, List.getElem?_map, List.getElem?_range, upd]
  by_cases hij : i = j
  · subst hij
    by_cases h : i < 48 <;> simp [h]
  · have hji : ¬ j = i := fun e => hij e.symm
    by_cases h : j < 48 <;> simp [hij, hji, h]
theorem own_set {Z : State} {h h' : Heap} {a : Addr} {c : Cell} {k : ClassId} {z j : Int32} {jn : Nat} {f : Nat → Int64} {x : Int64} (A : Arr Z h a c .double) (q1 : c.cls = k) (S : c.slots.size = z.toNatClampNeg) (q3 : ¬ z < 0) (H : Has c (dvs f) (.double (FP.l2d 0))) (G : ∀ i, i < c.slots.size → fits .double ((dvs f).getD i (.double (FP.l2d 0))) = true) (W : Wr h h' a j.toNatClampNeg (.double (FP.l2d x))) (sj : Sm j jn) (hl : jn < 48) : Arv Z h' a k .double z (dvs (upd f jn x)) (.double (FP.l2d 0)) := by
  have q := Arv.set A q1 S q3 H G (v := .double (FP.l2d x)) rfl W jn sj.nat (by simp only [dvs, List.length_map, List.length_range]; exact hl)
  rwa [own_dvs_set] at q
theorem own_min {cap p2 r : Int32} {can pn : Nat} (hc : Sm cap can) (hp : Sm p2 pn) (h : can < pn) (hr : r = (if p2 < cap then p2 else cap)) : r = cap := by
  rw [hr, if_neg]; rw [Int32.lt_iff_toInt_lt, hc.1, hp.1]; omega
theorem own_c0 (x : Int32) : (0 : Int32).toNatClampNeg + x.toNatClampNeg ≤ x.toNatClampNeg := by
  have : (0 : Int32).toNatClampNeg = 0 := rfl
  omega
theorem own_cp {cap p2 : Int32} {can pn : Nat} (hc : Sm cap can) (hp : Sm p2 pn) (h : can < pn) : (0 : Int32).toNatClampNeg + cap.toNatClampNeg ≤ p2.toNatClampNeg := by
  have : (0 : Int32).toNatClampNeg = 0 := rfl
  rw [hc.nat, hp.nat]; omega
theorem own_cl {f : Nat → Int64} {cap : Int32} {can pn : Nat} (hc : Sm cap can) (h : can < pn) (h48 : pn ≤ 48) : (0 : Int32).toNatClampNeg + cap.toNatClampNeg ≤ (dvs f).length := by
  have : (0 : Int32).toNatClampNeg = 0 := rfl
  simp only [dvs, List.length_map, List.length_range]; rw [hc.nat]; omega
theorem own_copied {f : Nat → Int64} {cap p2 r : Int32} {can pn : Nat} (hc : Sm cap can) (hp : Sm p2 pn) (h : can < pn) (h48 : pn ≤ 48) (hf : ∀ j, can ≤ j → f j = 0) (hr : r = cap) (i : Nat) :
    (dvs f).getD i (.double (FP.l2d 0)) = ((dvs (fun _ => (0 : Int64))).take (0 : Int32).toNatClampNeg ++ (List.range r.toNatClampNeg).map (fun i => (dvs f).getD ((0 : Int32).toNatClampNeg + i) (.double (FP.l2d 0))) ++ (dvs (fun _ => (0 : Int64))).drop ((0 : Int32).toNatClampNeg + r.toNatClampNeg)).getD i (.double (FP.l2d 0)) := by
  have z0 : (0 : Int32).toNatClampNeg = 0 := rfl
  rw [hr, hc.nat, z0, List.take_zero, List.nil_append, Nat.zero_add]
  rw [List.getD_eq_getElem?_getD (l := _ ++ _), List.getElem?_append]
  simp only [List.length_map, List.length_range, List.getElem?_map, List.getElem?_range, Nat.zero_add, List.getElem?_drop]
  by_cases hi : i < can
  · simp [hi]
  · simp only [hi, if_false]
    have e : can + (i - can) = i := by omega
    rw [e, ← List.getD_eq_getElem?_getD, own_dg, own_dg, hf i (by omega)]
theorem own_grown {cap siz p2 r : Int32} {can sin pn : Nat} (hr : r = (grw cap (siz + p2))) (hc : Sm cap can) (hs : Sm siz sin) (hp : Sm p2 pn) (h31 : sin + pn ≤ 31) (hlt : (cap - siz) < p2) : ∃ n, Sm r n ∧ can < n ∧ sin + pn ≤ n ∧ n ≤ 48 := by
  have ha := Sm.add hs hp (by omega)
  have c1 := hc.1; have s1 := hs.1; have p1 := hp.1; have a1 := ha.1; have c2 := hc.2
  rw [Int32.lt_iff_toInt_lt, Jvm.Kit.i32_sub (by omega) (by omega)] at hlt
  have hcs : can < sin + pn := by omega
  have e1 : cap.toInt64.toInt = (can : Int) := by rw [Jvm.Kit.i64_of_i32, c1]
  have e2 : (siz + p2).toInt64.toInt = ((sin + pn : Nat) : Int) := by rw [Jvm.Kit.i64_of_i32, a1]
  have t2 : (2 : Int64).toInt = 2 := rfl
  have tM : (2147483639 : Int64).toInt = 2147483639 := rfl
  have e3 : (cap.toInt64 / (2 : Int64)).toInt = ((can / 2 : Nat) : Int) := by
    rw [Jvm.Kit.i64_div (by rw [t2]; omega), e1, t2, Int.tdiv_eq_ediv_of_nonneg (by omega)]; omega
  have e4 : (cap.toInt64 + cap.toInt64 / (2 : Int64)).toInt = ((can + can / 2 : Nat) : Int) := by
    rw [Jvm.Kit.i64_add (by omega) (by omega), e1, e3]; omega
  have key : ∀ y : Int64, (y.toInt = ((can + can / 2 : Nat) : Int) ∨ y.toInt = ((sin + pn : Nat) : Int)) → r = y.toInt32 → (((sin + pn : Nat) : Int) ≤ y.toInt) → ∃ n, Sm r n ∧ can < n ∧ sin + pn ≤ n ∧ n ≤ 48 := fun y hy hry hge => by
    have ey : r.toInt = y.toInt := by rw [hry, Jvm.Kit.i32_of_i64 (by omega) (by omega)]
    rcases hy with hy | hy
    · exact ⟨can + can / 2, ⟨by omega, by omega⟩, by omega, by omega, by omega⟩
    · exact ⟨sin + pn, ⟨by omega, by omega⟩, by omega, by omega, by omega⟩
  unfold grw at hr
  by_cases hx : (siz + p2).toInt64 < cap.toInt64 + cap.toInt64 / (2 : Int64)
  · have hx' := hx
    rw [Int64.lt_iff_toInt_lt] at hx'
    simp only [lw_lt, lw_gt, if_pos hx] at hr
    split at hr
    · exact key _ (Or.inl e4) hr (by omega)
    · rename_i hbig
      rw [Int64.lt_iff_toInt_lt, tM] at hbig
      omega
  · have hx' := hx
    rw [Int64.lt_iff_toInt_lt] at hx'
    simp only [lw_lt, lw_gt, if_neg hx] at hr
    split at hr
    · exact key _ (Or.inr e2) hr (by omega)
    · rename_i hbig
      rw [Int64.lt_iff_toInt_lt, tM] at hbig
      omega
theorem own_room {cap siz p2 : Int32} {can sin pn : Nat} (hc : Sm cap can) (hs : Sm siz sin) (hp : Sm p2 pn) (h1 : sin ≤ can) (h48 : can ≤ 48) (h31 : sin + pn ≤ 31) (h : ¬ (cap - siz) < p2) : sin + pn ≤ can := by
  have c1 := hc.1; have s1 := hs.1; have p1 := hp.1
  rw [Int32.lt_iff_toInt_lt, Jvm.Kit.i32_sub (by omega) (by omega)] at h
  omega
theorem own_lin {a b m n k : Nat} (h1 : a < n) (h2 : b < m) : k + a * m + b < k + n * m := by
  have : (a + 1) * m ≤ n * m := Nat.mul_le_mul_right m h1
  rw [Nat.succ_mul] at this; omega
theorem own_idx {s nb p q : Int32} {sn nbn pn rn on : Nat} (hs : Sm s sn) (hb : Sm nb nbn) (hp : Sm p pn) (hq : Sm q rn) (h1 : pn < on) (h2 : rn < nbn) (h3 : on ≤ 4) (h4 : nbn ≤ 4) (h : sn + (on * nbn) ≤ 48) : Sm ((s + (p * nb)) + q) (sn + (pn * nbn) + rn) := by
  have := own_lin (k := sn) h1 h2
  exact Sm.add (Sm.add hs (Sm.mul hp hb (by omega) h4) (by omega)) hq (by omega)
theorem own_f0up {f : Nat → Int64} {s n i : Nat} {v : Int64} (h : ∀ j, s ≤ j → f j = 0) (hs : s ≤ n) (hi : i < n) : ∀ j, n ≤ j → upd f i v j = 0 := fun j hj => by
  unfold upd; rw [if_neg (by omega)]; exact h j (by omega)
theorem own_ge (s a b : Nat) : s ≤ s + a + b := by omega
theorem own_bupd {f : Nat → Int64} {s i j : Nat} (h : ∀ j, s ≤ j → f j = 0) (hi : s ≤ i) (hj : s ≤ j) : B53 (upd f i (f i + (1 : Int64)) j) := by
  unfold upd; split
  · rw [h i hi]; constructor <;> decide
  · rw [h j hj]; constructor <;> decide
theorem own_sa {x y : Int32} {n m k c : Nat} (h : Sm x n ∧ n + k ≤ c) (hy : Sm y m) (h1 : m < k) (h2 : k ≤ 4) (h3 : c ≤ 48) : Sm (x + y) (n + m) := Sm.add h.1 hy (by have := h.2; omega)
def ER (p q e s : Int32) (n n' w i j : Nat) (f f' : Nat → Int64) : Prop := (p = 0 ∧ q = 0 ∧ e = -1 ∧ n' = n ∧ f' = f) ∨ (¬ (p = 0 ∧ q = 0) ∧ e = s ∧ n' = n + w ∧ ∃ g, g = (if p = 0 then f else upd f i (f i + (1 : Int64))) ∧ f' = (if q = 0 then g else upd g j (g j + (-1 : Int64))))

theorem own_b53 (x : Int32) : B53 x.toInt64 := by
  have h : x.toInt64.toInt = x.toInt := Jvm.Kit.i64_of_i32 x
  have h1 := x.toInt_lt; have h2 := x.le_toInt
  constructor <;> rw [h] <;> omega
theorem own_dim {x u : Int32} (h : u = ((1 : Int32) + (x &&& (3 : Int32)))) : ∃ n, Sm u n ∧ 1 ≤ n ∧ n ≤ 4 := by
  have m : (x &&& (3 : Int32)).toInt = x.toInt % 2 ^ 2 := Jvm.Kit.i32_mask _ _ (by decide) (by decide)
  have e1 : (1 : Int32).toInt = 1 := rfl
  have e : u.toInt = 1 + x.toInt % 4 := by rw [h, Jvm.Kit.i32_add (by omega) (by omega), m, e1]; omega
  exact ⟨(1 + x.toInt % 4).toNat, ⟨by omega, by omega⟩, by omega, by omega⟩
theorem own_and3 {x u : Int32} (h : u = (x &&& (3 : Int32))) : ∃ n, Sm u n ∧ n ≤ 3 := by
  have m : (x &&& (3 : Int32)).toInt = x.toInt % 2 ^ 2 := Jvm.Kit.i32_mask _ _ (by decide) (by decide)
  exact ⟨(x.toInt % 4).toNat, ⟨by rw [h, m]; omega, by omega⟩, by omega⟩
theorem own_and7 {x u : Int32} (h : u = (x &&& (7 : Int32))) : ∃ n, Sm u n ∧ n ≤ 7 := by
  have m : (x &&& (7 : Int32)).toInt = x.toInt % 2 ^ 3 := Jvm.Kit.i32_mask _ _ (by decide) (by decide)
  exact ⟨(x.toInt % 8).toNat, ⟨by rw [h, m]; omega, by omega⟩, by omega⟩
theorem own_mM (x : Int32) : 0 ≤ (x &&& (2147483647 : Int32)).toInt := by
  have m : (x &&& (2147483647 : Int32)).toInt = x.toInt % 2 ^ 31 := Jvm.Kit.i32_mask _ _ (by decide) (by decide)
  omega
theorem own_m255 (x : Int32) : 0 ≤ (x &&& (255 : Int32)).toInt := by
  have m : (x &&& (255 : Int32)).toInt = x.toInt % 2 ^ 8 := Jvm.Kit.i32_mask _ _ (by decide) (by decide)
  omega
theorem own_m15 (x : Int32) : 0 ≤ (x &&& (15 : Int32)).toInt := by
  have m : (x &&& (15 : Int32)).toInt = x.toInt % 2 ^ 4 := Jvm.Kit.i32_mask _ _ (by decide) (by decide)
  omega
theorem own_rem {a b u : Int32} {bn : Nat} (h : u = (a % b)) (ha : 0 ≤ a.toInt) (hb : Sm b bn) (h1 : 1 ≤ bn) : ∃ n, Sm u n ∧ n < bn := by
  have b1 := hb.1; have b2 := hb.2
  have e : u.toInt = a.toInt % (bn : Int) := by rw [h, Int32.toInt_mod, b1, Int.tmod_eq_emod_of_nonneg ha]
  have l1 := Int.emod_nonneg a.toInt (b := (bn : Int)) (by omega)
  have l2 := Int.emod_lt_of_pos a.toInt (b := (bn : Int)) (by omega)
  exact ⟨(a.toInt % (bn : Int)).toNat, ⟨by omega, by omega⟩, by omega⟩
theorem own_nz {b : Int32} {n : Nat} (h : Sm b n) (h1 : 1 ≤ n) : b ≠ 0 := fun e => by
  have e0 : (0 : Int32).toInt = 0 := rfl
  have := h.1; rw [e, e0] at this; omega
theorem own_le16 {a b : Nat} (h1 : a ≤ 4) (h2 : b ≤ 4) : a * b ≤ 16 := Nat.mul_le_mul h1 h2
theorem own_b0 {xn own nbn : Nat} (hx : xn ≤ 7) (h1 : own ≤ 4) (h2 : nbn ≤ 4) : 0 + xn + (own * nbn) ≤ 31 := by have := own_le16 h1 h2; omega
theorem own_ern {p q e s : Int32} {n n' w i j : Nat} {f f' : Nat → Int64} (h : ER p q e s n n' w i j f f') : n ≤ n' ∧ n' ≤ n + w ∧ (¬ (p = 0 ∧ q = 0) → n' = n + w ∧ e = s) ∧ ((p = 0 ∧ q = 0) → e = -1) := by
  rcases h with ⟨hp, hq, he, hn, -⟩ | ⟨hpq, he, hn, -⟩
  · exact ⟨by omega, by omega, fun k => absurd ⟨hp, hq⟩ k, fun _ => he⟩
  · exact ⟨by omega, by omega, fun _ => ⟨hn, he⟩, fun k => absurd k hpq⟩
theorem own_b1x {v p q e s : Int32} {xn n1 own nbn i j : Nat} {f f' : Nat → Int64} (hE : (v = (0 : Int32) ∧ e = (-1 : Int32) ∧ n1 = (0 + xn) ∧ f' = f) ∨ (¬ v = (0 : Int32) ∧ ER p q e s (0 + xn) n1 (own * nbn) i j f f')) (hx : xn ≤ 7) (h1 : own ≤ 4) (h2 : nbn ≤ 4) : n1 + own ≤ 31 := by
  have := own_le16 h1 h2
  rcases hE with h | h
  · have := h.2.2.1; omega
  · have := (own_ern h.2).2.1; omega
def RR (v a s : Int32) (n n' m k : Nat) (f f' : Nat → Int64) : Prop := (v = (0 : Int32) ∧ a = (-1 : Int32) ∧ n' = n ∧ f' = f) ∨ (¬ v = (0 : Int32) ∧ a = s ∧ n' = n + m ∧ f' = upd f (n + k) (f (n + k) + (1 : Int64)))
theorem own_rrn {v a s : Int32} {n n' m k : Nat} {f f' : Nat → Int64} (h : RR v a s n n' m k f f') : n ≤ n' ∧ n' ≤ n + m ∧ (¬ v = 0 → n' = n + m ∧ a = s) ∧ (v = 0 → a = -1) := by
  rcases h with ⟨hp, he, hn, -⟩ | ⟨hpq, he, hn, -⟩
  · exact ⟨by omega, by omega, fun k => absurd hp k, fun _ => he⟩
  · exact ⟨by omega, by omega, fun _ => ⟨hn, he⟩, fun k => absurd k hpq⟩
theorem own_b2x {v p q e s r vr s1 : Int32} {xn n1 n2 own nbn i j k : Nat} {f f' f2 : Nat → Int64} (hE : (v = (0 : Int32) ∧ e = (-1 : Int32) ∧ n1 = (0 + xn) ∧ f' = f) ∨ (¬ v = (0 : Int32) ∧ ER p q e s (0 + xn) n1 (own * nbn) i j f f')) (hR : RR vr r s1 n1 n2 own k f' f2) (hx : xn ≤ 7) (h1 : own ≤ 4) (h2 : nbn ≤ 4) : n2 + nbn ≤ 31 := by
  have := own_le16 h1 h2; have := (own_rrn hR).2.1
  rcases hE with h | h
  · have := h.2.2.1; omega
  · have := (own_ern h.2).2.1; omega
theorem own_b3x {v p q e s r vr s1 c vc s2 : Int32} {xn n1 n2 n3 own nbn i j k k2 : Nat} {f f' f2 f3 : Nat → Int64} (hE : (v = (0 : Int32) ∧ e = (-1 : Int32) ∧ n1 = (0 + xn) ∧ f' = f) ∨ (¬ v = (0 : Int32) ∧ ER p q e s (0 + xn) n1 (own * nbn) i j f f')) (hR : RR vr r s1 n1 n2 own k f' f2) (hC : RR vc c s2 n2 n3 nbn k2 f2 f3) (hx : xn ≤ 7) (h1 : own ≤ 4) (h2 : nbn ≤ 4) (hv : v = (0 : Int32)) : n3 + (own * nbn) ≤ 31 := by
  have := own_le16 h1 h2; have := (own_rrn hR).2.1; have := (own_rrn hC).2.1
  rcases hE with h | h
  · have := h.2.2.1; omega
  · exact absurd hv h.1
theorem own_wcase {v16 v22 x : Int32} {W1 W2 : Int64} {m : Nat} (h1 : W1 = (if v16 = (0 : Int32) then (0 : Int64) else 0 + 1)) (h2 : W2 = (if v22 = (0 : Int32) then W1 else W1 * x.toInt64)) (hx : Sm x m) (hm : m ≤ 3) : W2.toInt = (if v16 = (0 : Int32) then (0 : Int) else 1) * (if v22 = (0 : Int32) then (1 : Int) else m) := by
  have ex : x.toInt64 = Int64.ofNat m := by
    apply Int64.toInt_inj.mp
    rw [Jvm.Kit.i64_of_i32, hx.1]
    match m, hm with
    | 0, _ => rfl
    | 1, _ => rfl
    | 2, _ => rfl
    | 3, _ => rfl
  rw [h2, h1, ex]
  by_cases a : v16 = 0 <;> by_cases b : v22 = 0 <;> simp only [a, b, if_true, if_false]
  · rfl
  · match m, hm with
    | 0, _ => rfl
    | 1, _ => rfl
    | 2, _ => rfl
    | 3, _ => rfl
  · rfl
  · match m, hm with
    | 0, _ => rfl
    | 1, _ => rfl
    | 2, _ => rfl
    | 3, _ => rfl
theorem own_wb {v16 v22 x : Int32} {W1 W2 : Int64} {m : Nat} (h1 : W1 = (if v16 = (0 : Int32) then (0 : Int64) else 0 + 1)) (h2 : W2 = (if v22 = (0 : Int32) then W1 else W1 * x.toInt64)) (hx : Sm x m) (hm : m ≤ 3) : Bn 4 W2 := by
  have e := own_wcase h1 h2 hx hm
  refine ⟨?_, by decide⟩
  rw [e]
  by_cases a : v16 = 0 <;> by_cases b : v22 = 0 <;> simp [a, b] <;> omega
theorem own_dm {v16 x : Int32} {W1 : Int64} {m : Nat} (h1 : W1 = (if v16 = (0 : Int32) then (0 : Int64) else 0 + 1)) (hx : Sm x m) (hm : m ≤ 3) : FP.dmul (FP.l2d W1) (FP.l2d x.toInt64) = FP.l2d (W1 * x.toInt64) := by
  have e : W1.toInt = 0 ∨ W1.toInt = 1 := by rw [h1]; by_cases a : v16 = 0 <;> simp only [a, if_true, if_false]; exact Or.inl rfl; exact Or.inr rfl
  have ex : x.toInt64.toInt = (m : Int) := by rw [Jvm.Kit.i64_of_i32, hx.1]
  have z : (0 : Int64).toInt = 0 := rfl
  exact dmul_k (A := 1) (B := 3) (by omega) (by omega) (by omega) (by omega) (by decide) (by decide) (by decide) (fun q => by have := q.2; rw [Int64.lt_iff_toInt_lt] at this; omega) (fun q => by have := q.2; rw [Int64.lt_iff_toInt_lt] at this; omega)
def ind (P : Prop) [Decidable P] (v : Int64) : Int64 := if P then v else 0
theorem ind_bn {P : Prop} [Decidable P] {v : Int64} (hv : Bn 1 v) : Bn 1 (ind P v) := by
  unfold ind; split
  · exact hv
  · exact ⟨by decide, by decide⟩
theorem ind_neg {P : Prop} [Decidable P] {v : Int64} (h : ¬ P) : ind P v = 0 := if_neg h
theorem ind_iff {P Q : Prop} [Decidable P] [Decidable Q] {v : Int64} (h : P ↔ Q) : ind P v = ind Q v := by
  unfold ind; by_cases q : Q
  · rw [if_pos q, if_pos (h.mpr q)]
  · rw [if_neg q, if_neg (fun p => q (h.mp p))]
theorem own_er {p q e s : Int32} {n n' w i j : Nat} {f f' : Nat → Int64} (h : ER p q e s n n' w i j f f') (k : Nat) : f' k = f k + ind (¬ p = 0 ∧ k = i) 1 + ind (¬ q = 0 ∧ k = j) (-1) := by
  rcases h with ⟨hp, hq, -, -, hf⟩ | ⟨-, -, -, g, hg, hf⟩
  · rw [hf, ind_neg (fun t => t.1 hp), ind_neg (fun t => t.1 hq)]; simp
  · have eg : ∀ k, g k = f k + ind (¬ p = 0 ∧ k = i) 1 := fun k => by
      rw [hg]; by_cases hp : p = 0
      · rw [if_pos hp, ind_neg (fun t => t.1 hp)]; simp
      · rw [if_neg hp]; unfold upd ind; by_cases hk : k = i
        · rw [if_pos hk, if_pos ⟨hp, hk⟩, hk]
        · rw [if_neg hk, if_neg (fun t => hk t.2)]; simp
    rw [← eg, hf]; by_cases hq : q = 0
    · rw [if_pos hq, ind_neg (fun t => t.1 hq)]; simp
    · rw [if_neg hq]; unfold upd ind; by_cases hk : k = j
      · rw [if_pos hk, if_pos ⟨hq, hk⟩, hk]
      · rw [if_neg hk, if_neg (fun t => hk t.2)]; simp
theorem own_rr {v a s : Int32} {n n' m k : Nat} {f f' : Nat → Int64} (h : RR v a s n n' m k f f') (x : Nat) : f' x = f x + ind (¬ v = 0 ∧ x = n + k) 1 := by
  rcases h with ⟨hp, -, -, hf⟩ | ⟨hp, -, -, hf⟩
  · rw [hf, ind_neg (fun t => t.1 hp)]; simp
  · rw [hf]; unfold upd ind; by_cases hk : x = n + k
    · rw [if_pos hk, if_pos ⟨hp, hk⟩, hk]
    · rw [if_neg hk, if_neg (fun t => hk t.2)]; simp
theorem own_pair {k a b c d m : Nat} (h1 : b < m) (h2 : d < m) : k + a * m + b = k + c * m + d ↔ c = a ∧ d = b := by
  constructor
  · intro h
    have e : a * m + b = c * m + d := by omega
    have ea : (a * m + b) / m = a := by rw [Nat.mul_comm, Nat.mul_add_div (by omega), Nat.div_eq_of_lt h1]; rfl
    have ec : (c * m + d) / m = c := by rw [Nat.mul_comm, Nat.mul_add_div (by omega), Nat.div_eq_of_lt h2]; rfl
    have : a = c := by rw [← ea, e, ec]
    subst this
    exact ⟨rfl, by omega⟩
  · rintro ⟨rfl, rfl⟩; rfl
theorem own_b4 {a b c d : Int64} (ha : Bn 1 a) (hb : Bn 1 b) (hc : Bn 1 c) (hd : Bn 1 d) : Bn 4 (0 + a + b + c + d) :=
  (((Bn.add (j := 0) ⟨by decide, by decide⟩ ha (by decide)).add hb (by decide)).add hc (by decide)).add hd (by decide)
theorem own_i1 : Bn 1 (1 : Int64) := ⟨by decide, by decide⟩
theorem own_im : Bn 1 (-1 : Int64) := ⟨by decide, by decide⟩
theorem own_all {v17 v18 v19 v20 v21 e1 r c e s0 s1 s2 s3 : Int32} {n0 n1 n2 n3 n4 cn own nbn n8 n9 n10 n11 n12 n13 n14 n15 : Nat} {f1 f2 f3 f4 : Nat → Int64}
    (hE : (v21 = (0 : Int32) ∧ e1 = (-1 : Int32) ∧ n1 = n0 ∧ f1 = fun _ => (0 : Int64)) ∨ (¬ v21 = (0 : Int32) ∧ ER v19 v20 e1 s0 n0 n1 (own * nbn) (n0 + (n12 * nbn) + n13) (n0 + (n14 * nbn) + n15) (fun _ => (0 : Int64)) f1))
    (hR : RR v17 r s1 n1 n2 own n10 f1 f2) (hC : RR v18 c s2 n2 n3 nbn n11 f2 f3)
    (hF : (¬ v21 = (0 : Int32) ∧ e = e1 ∧ n4 = n3 ∧ f4 = f3) ∨ (v21 = (0 : Int32) ∧ ER v19 v20 e s3 n3 n4 (own * nbn) (n3 + (n12 * nbn) + n13) (n3 + (n14 * nbn) + n15) f3 f4))
    (h0 : Sm s0 n0) (h1 : Sm s1 n1) (h2 : Sm s2 n2) (h3 : Sm s3 n3) (hcn : n4 ≤ cn) (l8 : n8 < own) (l9 : n9 < nbn) (l10 : n10 < own) (l11 : n11 < nbn) (l12 : n12 < own) (l13 : n13 < nbn) (l14 : n14 < own) (l15 : n15 < nbn) :
    (¬ r = (-1 : Int32) → Sm r n1 ∧ n1 + own ≤ cn) ∧ (¬ c = (-1 : Int32) → Sm c n2 ∧ n2 + nbn ≤ cn) ∧ (¬ e = (-1 : Int32) → Sm e (if v21 = (0 : Int32) then n3 else n0) ∧ (if v21 = (0 : Int32) then n3 else n0) + (own * nbn) ≤ cn) ∧ (∀ j, Bn 4 (f4 j)) ∧
    ((r = (-1 : Int32) ↔ v17 = 0) ∧ (¬ v17 = 0 → f4 (n1 + n8) = ind (n10 = n8) 1)) ∧ ((c = (-1 : Int32) ↔ v18 = 0) ∧ (¬ v18 = 0 → f4 (n2 + n9) = ind (n11 = n9) 1)) ∧ ((e = (-1 : Int32) ↔ (v19 = 0 ∧ v20 = 0)) ∧ (¬ (v19 = 0 ∧ v20 = 0) → f4 ((if v21 = (0 : Int32) then n3 else n0) + (n8 * nbn) + n9) = ind (¬ v19 = 0 ∧ n12 = n8 ∧ n13 = n9) 1 + ind (¬ v20 = 0 ∧ n14 = n8 ∧ n15 = n9) (-1))) := by
  obtain ⟨r1, r2, r3, r4⟩ := own_rrn hR
  obtain ⟨c1, c2, c3, c4⟩ := own_rrn hC
  have hr : (r = (-1 : Int32) ↔ v17 = 0) := ⟨fun q => Classical.byContradiction fun k => h1.ne1 ((r3 k).2 ▸ q), r4⟩
  have hc : (c = (-1 : Int32) ↔ v18 = 0) := ⟨fun q => Classical.byContradiction fun k => h2.ne1 ((c3 k).2 ▸ q), c4⟩
  have k8 := own_lin (k := n3) l8 l9; have k12 := own_lin (k := n3) l12 l13; have k14 := own_lin (k := n3) l14 l15
  have j8 := own_lin (k := n0) l8 l9; have j12 := own_lin (k := n0) l12 l13; have j14 := own_lin (k := n0) l14 l15
  rcases hE with ⟨hv, he1, hn, hf⟩ | ⟨hv, hE⟩
  · rcases hF with ⟨q, -⟩ | ⟨-, hF⟩
    · exact absurd hv q
    obtain ⟨e2, e3, e4, e5⟩ := own_ern hF
    have val : ∀ x, f4 x = 0 + ind (¬ v17 = 0 ∧ x = n1 + n10) 1 + ind (¬ v18 = 0 ∧ x = n2 + n11) 1 + ind (¬ v19 = 0 ∧ x = n3 + (n12 * nbn) + n13) 1 + ind (¬ v20 = 0 ∧ x = n3 + (n14 * nbn) + n15) (-1) := fun x => by rw [own_er hF, own_rr hC, own_rr hR, hf]
    have he : (e = (-1 : Int32) ↔ (v19 = 0 ∧ v20 = 0)) := ⟨fun q => Classical.byContradiction fun k => h3.ne1 ((e4 k).2 ▸ q), e5⟩
    simp only [if_pos hv]
    refine ⟨fun q => ?_, fun q => ?_, fun q => ?_, fun j => ?_, ⟨hr, fun q => ?_⟩, ⟨hc, fun q => ?_⟩, ⟨he, fun q => ?_⟩⟩
    · have := r3 (fun k => q (hr.mpr k)); exact ⟨this.2 ▸ h1, by omega⟩
    · have := c3 (fun k => q (hc.mpr k)); exact ⟨this.2 ▸ h2, by omega⟩
    · have := e4 (fun k => q (he.mpr k)); exact ⟨this.2 ▸ h3, by omega⟩
    · rw [val]; exact own_b4 (ind_bn own_i1) (ind_bn own_i1) (ind_bn own_i1) (ind_bn own_im)
    · have := r3 q
      rw [val, ind_iff (Q := n10 = n8) ⟨fun t => by omega, fun t => ⟨q, by omega⟩⟩, ind_neg (P := ¬ v18 = 0 ∧ _) (fun t => by omega), ind_neg (P := ¬ v19 = 0 ∧ _) (fun t => by omega), ind_neg (P := ¬ v20 = 0 ∧ _) (fun t => by omega)]; simp
    · have := c3 q
      rw [val, ind_neg (P := ¬ v17 = 0 ∧ _) (fun t => by have := r3 t.1; omega), ind_iff (P := ¬ v18 = 0 ∧ _) (Q := n11 = n9) ⟨fun t => by omega, fun t => ⟨q, by omega⟩⟩, ind_neg (P := ¬ v19 = 0 ∧ _) (fun t => by omega), ind_neg (P := ¬ v20 = 0 ∧ _) (fun t => by omega)]; simp
    · rw [val, ind_neg (P := ¬ v17 = 0 ∧ _) (fun t => by have := r3 t.1; omega), ind_neg (P := ¬ v18 = 0 ∧ _) (fun t => by have := c3 t.1; omega)]
      rw [ind_iff (P := ¬ v19 = 0 ∧ _) (Q := ¬ v19 = 0 ∧ n12 = n8 ∧ n13 = n9) ⟨fun t => ⟨t.1, (own_pair l9 l13).mp t.2⟩, fun t => ⟨t.1, (own_pair l9 l13).mpr t.2⟩⟩, ind_iff (P := ¬ v20 = 0 ∧ n3 + n8 * nbn + n9 = _) (Q := ¬ v20 = 0 ∧ n14 = n8 ∧ n15 = n9) ⟨fun t => ⟨t.1, (own_pair l9 l15).mp t.2⟩, fun t => ⟨t.1, (own_pair l9 l15).mpr t.2⟩⟩]; simp
  · rcases hF with ⟨-, hee, hn4, hf4⟩ | ⟨q, -⟩
    case inr => exact absurd q hv
    obtain ⟨e2, e3, e4, e5⟩ := own_ern hE
    have val : ∀ x, f4 x = 0 + ind (¬ v19 = 0 ∧ x = n0 + (n12 * nbn) + n13) 1 + ind (¬ v20 = 0 ∧ x = n0 + (n14 * nbn) + n15) (-1) + ind (¬ v17 = 0 ∧ x = n1 + n10) 1 + ind (¬ v18 = 0 ∧ x = n2 + n11) 1 := fun x => by rw [hf4, own_rr hC, own_rr hR, own_er hE]
    have he : (e = (-1 : Int32) ↔ (v19 = 0 ∧ v20 = 0)) := by rw [hee]; exact ⟨fun q => Classical.byContradiction fun k => h0.ne1 ((e4 k).2 ▸ q), e5⟩
    simp only [if_neg hv]
    refine ⟨fun q => ?_, fun q => ?_, fun q => ?_, fun j => ?_, ⟨hr, fun q => ?_⟩, ⟨hc, fun q => ?_⟩, ⟨he, fun q => ?_⟩⟩
    · have := r3 (fun k => q (hr.mpr k)); exact ⟨this.2 ▸ h1, by omega⟩
    · have := c3 (fun k => q (hc.mpr k)); exact ⟨this.2 ▸ h2, by omega⟩
    · have := e4 (fun k => q (he.mpr k)); exact ⟨by rw [hee]; exact this.2 ▸ h0, by omega⟩
    · rw [val]; exact own_b4 (ind_bn own_i1) (ind_bn own_im) (ind_bn own_i1) (ind_bn own_i1)
    · have := r3 q
      rw [val, ind_neg (P := ¬ v19 = 0 ∧ _) (fun t => by have := e4 (fun z => t.1 z.1); omega), ind_neg (P := ¬ v20 = 0 ∧ _) (fun t => by have := e4 (fun z => t.1 z.2); omega), ind_iff (P := ¬ v17 = 0 ∧ _) (Q := n10 = n8) ⟨fun t => by omega, fun t => ⟨q, by omega⟩⟩, ind_neg (P := ¬ v18 = 0 ∧ _) (fun t => by omega)]; simp
    · have := c3 q
      rw [val, ind_neg (P := ¬ v19 = 0 ∧ _) (fun t => by have := e4 (fun z => t.1 z.1); omega), ind_neg (P := ¬ v20 = 0 ∧ _) (fun t => by have := e4 (fun z => t.1 z.2); omega), ind_neg (P := ¬ v17 = 0 ∧ _) (fun t => by have := r3 t.1; omega), ind_iff (P := ¬ v18 = 0 ∧ _) (Q := n11 = n9) ⟨fun t => by omega, fun t => ⟨q, by omega⟩⟩]; simp
    · have := e4 q
      rw [val, ind_neg (P := ¬ v17 = 0 ∧ _) (fun t => by omega), ind_neg (P := ¬ v18 = 0 ∧ _) (fun t => by omega)]
      rw [ind_iff (P := ¬ v19 = 0 ∧ _) (Q := ¬ v19 = 0 ∧ n12 = n8 ∧ n13 = n9) ⟨fun t => ⟨t.1, (own_pair l9 l13).mp t.2⟩, fun t => ⟨t.1, (own_pair l9 l13).mpr t.2⟩⟩, ind_iff (P := ¬ v20 = 0 ∧ n0 + n8 * nbn + n9 = _) (Q := ¬ v20 = 0 ∧ n14 = n8 ∧ n15 = n9) ⟨fun t => ⟨t.1, (own_pair l9 l15).mp t.2⟩, fun t => ⟨t.1, (own_pair l9 l15).mpr t.2⟩⟩]; simp
theorem own_ad1 {r : Int32} {W A : Int64} {P Q : Prop} [Decidable P] [Decidable Q] {k : Nat} (hW : Bn k W) (hr : r = (-1 : Int32) ↔ P) (hA : ¬ P → A = ind Q 1) : (ad r W A).toInt = W.toInt + (if ¬ P ∧ Q then (1 : Int) else 0) := by
  unfold ad; by_cases p : P
  · rw [if_pos (hr.mpr p), if_neg (fun t => t.1 p)]; simp
  · rw [if_neg (fun t => p (hr.mp t)), hA p, add64 hW.b53 (ind_bn own_i1).b53]
    unfold ind; by_cases q : Q
    · rw [if_pos q, if_pos ⟨p, q⟩]; rfl
    · rw [if_neg q, if_neg (fun t => q t.2)]; rfl
theorem own_ad2 {e : Int32} {W A : Int64} {P Q R S : Prop} [Decidable P] [Decidable Q] [Decidable R] [Decidable S] {k : Nat} (hW : Bn k W) (hr : e = (-1 : Int32) ↔ (P ∧ R)) (hA : ¬ (P ∧ R) → A = ind (¬ P ∧ Q) 1 + ind (¬ R ∧ S) (-1)) : (ad e W A).toInt = W.toInt + (if ¬ P ∧ Q then (1 : Int) else 0) + (if ¬ R ∧ S then (-1 : Int) else 0) := by
  unfold ad; by_cases p : P ∧ R
  · rw [if_pos (hr.mpr p), if_neg (fun t => t.1 p.1), if_neg (fun t => t.1 p.2)]; simp
  · rw [if_neg (fun t => p (hr.mp t)), hA p, add64 hW.b53 ((ind_bn own_i1).add (ind_bn own_im) (by decide)).b53, add64 (ind_bn own_i1).b53 (ind_bn own_im).b53]
    unfold ind
    have a1 : (1 : Int64).toInt = 1 := rfl
    have a2 : (-1 : Int64).toInt = -1 := rfl
    have a0 : (0 : Int64).toInt = 0 := rfl
    by_cases q : ¬ P ∧ Q
    · by_cases s : ¬ R ∧ S
      · simp only [if_pos q, if_pos s]; omega
      · simp only [if_pos q, if_neg s]; omega
    · by_cases s : ¬ R ∧ S
      · simp only [if_neg q, if_pos s]; omega
      · simp only [if_neg q, if_neg s]; omega
theorem own_t1 {a b v x y : Int32} {n m : Nat} (hb : b = (if v = (0 : Int32) then a else (if x = y then (a + (1 : Int32)) else a))) (hx : Sm x n) (hy : Sm y m) (h1 : -10 ≤ a.toInt) (h2 : a.toInt ≤ 10) : b.toInt = a.toInt + (if ¬ v = 0 ∧ n = m then (1 : Int) else 0) := by
  have e1 : (1 : Int32).toInt = 1 := rfl
  rw [hb]; by_cases p : v = 0
  · rw [if_pos p, if_neg (fun t => t.1 p)]; simp
  · by_cases q : x = y
    · rw [if_neg p, if_pos q, if_pos ⟨p, (hx.inj hy).mp q⟩, Jvm.Kit.i32_add (by omega) (by omega), e1]
    · rw [if_neg p, if_neg q, if_neg (fun t => q ((hx.inj hy).mpr t.2))]; simp
theorem own_t2 {a b v x y z w d : Int32} {n m k l : Nat} (hb : b = (if v = (0 : Int32) then a else (if x = y then (if z = w then (a + d) else a) else a))) (hx : Sm x n) (hy : Sm y m) (hz : Sm z k) (hw : Sm w l) (h1 : -10 ≤ a.toInt) (h2 : a.toInt ≤ 10) (hd : -1 ≤ d.toInt ∧ d.toInt ≤ 1) : b.toInt = a.toInt + (if ¬ v = 0 ∧ n = m ∧ k = l then d.toInt else 0) := by
  rw [hb]; by_cases p : v = 0
  · rw [if_pos p, if_neg (fun t => t.1 p)]; simp
  · by_cases q : x = y
    · by_cases s : z = w
      · rw [if_neg p, if_pos q, if_pos s, if_pos ⟨p, (hx.inj hy).mp q, (hz.inj hw).mp s⟩, Jvm.Kit.i32_add (by omega) (by omega)]
      · rw [if_neg p, if_pos q, if_neg s, if_neg (fun t => s ((hz.inj hw).mpr t.2.2))]; simp
    · rw [if_neg p, if_neg q, if_neg (fun t => q ((hx.inj hy).mpr t.2.1))]; simp
theorem own_fin {v16 v17 v18 v19 v20 v22 x r c e l8 l9 l10 l11 l12 l13 l14 l15 t0 t1 t2 t3 t4 t5 : Int32} {W1 W2 A B D : Int64} {m n8 n9 n10 n11 n12 n13 n14 n15 : Nat}
    (h1 : W1 = (if v16 = (0 : Int32) then (0 : Int64) else 0 + 1)) (h2 : W2 = (if v22 = (0 : Int32) then W1 else W1 * x.toInt64)) (hx : Sm x m) (hm : m ≤ 3)
    (hv : ((r = (-1 : Int32) ↔ v17 = 0) ∧ (¬ v17 = 0 → A = ind (n10 = n8) 1)) ∧ ((c = (-1 : Int32) ↔ v18 = 0) ∧ (¬ v18 = 0 → B = ind (n11 = n9) 1)) ∧ ((e = (-1 : Int32) ↔ (v19 = 0 ∧ v20 = 0)) ∧ (¬ (v19 = 0 ∧ v20 = 0) → D = ind (¬ v19 = 0 ∧ n12 = n8 ∧ n13 = n9) 1 + ind (¬ v20 = 0 ∧ n14 = n8 ∧ n15 = n9) (-1))))
    (h8 : Sm l8 n8) (h9 : Sm l9 n9) (h10 : Sm l10 n10) (h11 : Sm l11 n11) (h12 : Sm l12 n12) (h13 : Sm l13 n13) (h14 : Sm l14 n14) (h15 : Sm l15 n15)
    (k0 : t0 = (if v16 = (0 : Int32) then (0 : Int32) else (1 : Int32))) (k1 : t1 = (if v22 = (0 : Int32) then t0 else (t0 * x))) (k2 : t2 = (if v17 = (0 : Int32) then t1 else (if l10 = l8 then (t1 + (1 : Int32)) else t1))) (k3 : t3 = (if v18 = (0 : Int32) then t2 else (if l11 = l9 then (t2 + (1 : Int32)) else t2)))
    (k4 : t4 = (if v19 = (0 : Int32) then t3 else (if l12 = l8 then (if l13 = l9 then (t3 + (1 : Int32)) else t3) else t3))) (k5 : t5 = (if v20 = (0 : Int32) then t4 else (if l14 = l8 then (if l15 = l9 then (t4 + (-1 : Int32)) else t4) else t4))) :
    (ad e (ad c (ad r W2 A) B) D) = t5.toInt64 := by
  have hW := own_wb h1 h2 hx hm
  have eW := own_wcase h1 h2 hx hm
  obtain ⟨⟨hr, hA⟩, ⟨hc, hB⟩, ⟨he, hD⟩⟩ := hv
  have a1 := own_ad1 hW hr hA
  have bA : Bn 5 (ad r W2 A) := by
    refine ⟨?_, by decide⟩; have := hW.1; rw [a1]; split <;> omega
  have a2 := own_ad1 bA hc hB
  have bB : Bn 6 (ad c (ad r W2 A) B) := by
    refine ⟨?_, by decide⟩; have := bA.1; rw [a2]; split <;> omega
  have a3 := own_ad2 bB he hD
  have z0 : (0 : Int32).toInt = 0 := rfl
  have z1 : (1 : Int32).toInt = 1 := rfl
  have zm : (-1 : Int32).toInt = -1 := rfl
  have g1 : t1.toInt = W2.toInt := by
    rw [eW, k1, k0]
    by_cases p : v16 = 0 <;> by_cases q : v22 = 0 <;> simp only [p, q, if_true, if_false]
    · rfl
    · rw [Jvm.Kit.i32_mul (by rw [z0]; omega) (by rw [z0]; omega), z0]; simp
    · rfl
    · rw [Jvm.Kit.i32_mul (by rw [z1, hx.1]; omega) (by rw [z1, hx.1]; omega), z1, hx.1]
  have w1 := hW.1
  have g2 := own_t1 k2 h10 h8 (by omega) (by omega)
  have i2 : -10 ≤ t2.toInt ∧ t2.toInt ≤ 5 := by rw [g2]; split <;> omega
  have g3 := own_t1 k3 h11 h9 (by omega) (by omega)
  have i3 : -10 ≤ t3.toInt ∧ t3.toInt ≤ 6 := by rw [g3]; split <;> omega
  have g4 := own_t2 k4 h12 h8 h13 h9 (by omega) (by omega) (by rw [z1]; decide)
  have i4 : -10 ≤ t4.toInt ∧ t4.toInt ≤ 7 := by rw [g4, z1]; split <;> omega
  have g5 := own_t2 k5 h14 h8 h15 h9 (by omega) (by omega) (by rw [zm]; decide)
  apply Int64.toInt_inj.mp
  rw [Jvm.Kit.i64_of_i32, a3, a2, a1, g5, g4, g3, g2, g1, z1, zm]

theorem tw {a0 : Array Value} {Z : State} (hw : ∀ d ∈ tables_1, d.before a0 Z = true) (i : Nat) {d : Jvm.Cond} (e : tables_1[i]? = some d) : d.before a0 Z = true := hw d (List.mem_of_getElem? e)
theorem sn {a0 : Array Value} {Z : State} {C O n d O' n' d' : String} {p : Prop} (t t' : FieldType) (L : Laid Z a0 C O n d) (L' : Laid Z a0 C O' n' d') (hn : n ≠ n' := by decide) (ht : parseFieldDescriptor d = some t := by decide) (ht' : parseFieldDescriptor d' = some t' := by decide) : p ∨ Jvm.RoadKit.slotOf Z O n d ≠ Jvm.RoadKit.slotOf Z O' n' d' := Or.inr (slot_ne L L' hn ht ht')
def Q1 (Z : State) (a1 : Addr) (h0 : Heap) (n0 : Nat) (v : Option Value) (h : Heap) (L : List Loc) : Prop := ∃ ro : Addr, ∃ ko : ClassId, v = none ∧ Fr n0 L ∧ Keep h0 h [a1] ∧ Old Z n0 h ∧ Fld Z h a1 "com/example/breakline/breakline/ModifierNumbers" "size" "I" (.int (0 : Int32)) ∧ Fld Z h a1 "com/example/breakline/breakline/ModifierNumbers" "numbers" "[D" (.ref ro) ∧ Fld Z h a1 "com/example/breakline/breakline/ModifierNumbers" "listed" "[I" .null ∧ Arv Z h ro ko .double (0 : Int32) (dvs (fun _ => (0 : Int64))) (.double (FP.l2d 0)) ∧ n0 ≤ ro ∧ h0.size ≤ ro
theorem ef_1 (m : MethodId) (x0 : Addr) : entryFrame m #[(.ref x0)] 1 = mkF m 0 #[.val (.ref x0)] [] := by first | (simp [entryFrame, mkF, argsToLocals, Value.category]; done) | rfl
set_option maxRecDepth 65536 in
set_option maxHeartbeats 40000000 in
theorem rm1 (l : Launch) (Z : State) (a0 : Array Value) (hw : ∀ d ∈ tables_1, d.before a0 Z = true) (ws : List Jvm.Cond) (a1 : Addr) (h0 : Heap) (n0 : Nat) (O0 : Old Z n0 h0) (E_a1 : Exa Z h0 a1 "com/example/breakline/breakline/ModifierNumbers") (F_size_a1 : Fld Z h0 a1 "com/example/breakline/breakline/ModifierNumbers" "size" "I" (.int (0 : Int32))) (F_numbers_a1 : Fld Z h0 a1 "com/example/breakline/breakline/ModifierNumbers" "numbers" "[D" .null) (F_listed_a1 : Fld Z h0 a1 "com/example/breakline/breakline/ModifierNumbers" "listed" "[I" .null) (ge_a1 : n0 ≤ a1) :
    MetFree l (⟨"com/example/breakline/breakline/ModifierNumbers", "<init>", "()V"⟩ : MethodName) (head1 (Jvm.Cond.code (⟨"com/example/breakline/breakline/ModifierNumbers", "<init>", "()V"⟩ : MethodName) prog_49_method_1_code 1 none :: ws) ({ frames := 1, cells := 1, slots := 0, locals := 12 } : Room)) (fun a U => a = #[(.ref a1)] ∧ Z.Warmed39 U.vm ∧ U.heap = h0) (fun _ _ _ _ _ => True) (fun _ U o U' => ∃ v L, o = .returned v ∧ Q1 Z a1 h0 n0 v U'.heap L ∧ FrameEnd U o U' L ({ frames := 1, cells := 1, slots := 0, locals := 12 } : Room).cells ({ frames := 1, cells := 1, slots := 0, locals := 12 } : Room).slots) := by
  refine MetFree.of_bodySF (plainFor_of_name pn_0) hisR ?_
  intro p e s m args below meth c s₁ Bd hml0 hP hK
  obtain ⟨rfl, hZ, hh⟩ := hP
  have hx := Bd.exec
  have hby := Bd.bytes
  have hml : c.maxLocals = 1 := hml0
  have hown : s.vm.findClass "com/example/breakline/breakline/ModifierNumbers" = some m.cls := findClass_of_methodNamed Bd.named
  have hnm := (name_of_methodNamed Bd.named Bd.method).1
  have X0 : Stand p l e ({ frames := 1, cells := 1, slots := 0, locals := 12 } : Room) s m #[(.ref a1)] below meth c s₁ [] 0 0 := Stand.of_body Bd
  have e0 : s₁.heap = h0 := by rw [← hh, Bd.state]; rfl
  have N0 := Fr.nil n0
  have pre0 : ∀ t, Steps p.tables e below (s₁.setTop (mkF m 0 #[.val (.ref a1)] [])) t → Steps p.tables e below (s₁.setTop (entryFrame m #[(.ref a1)] 1)) t := fun t k => castTop (ef_1 m a1) k
  have K0 := Keep.refl h0 [a1]
  obtain ⟨T1, X1, e1, st1⟩ := initO X0 hx hZ hown (tw hw 7 rfl) (tw hw 8 rfl) (tw hw 9 rfl) e0 (g := (mkF m 1 #[.val (.ref a1)] [(.ref a1)])) rfl (by rw [hml]; rfl) rfl (hb hby d1_1) (by decide) (W := 0) (by show 2 * 0 + _ ≤ _; exact Nat.le_of_eq rfl) (by decide)
  obtain ⟨T2, h2, k2, X2, e2, E2, A2, st2⟩ := newP X1 hx hZ (tw hw 10 rfl) e1 (g := (mkF m 6 #[.val (.ref a1)] [(.int (0 : Int32)), (.ref a1)])) rfl (hb hby d1_6) rfl (by decide) (cap := 0) (by decide) (by decide) (by decide) (by decide)
  obtain ⟨b2, g2⟩ : ∃ z, z = h0.size := ⟨_, rfl⟩
  rw [← g2] at A2 st2
  have ge_b2 : n0 ≤ b2 := Nat.le_trans (own_osz O0) (Nat.le_of_eq g2.symm)
  have sz_b2 : h0.size ≤ b2 := Nat.le_trans K0.1 (Nat.le_of_eq g2.symm)
  have O3 := O0.ext E2
  have K2 := K0.ext E2
  have V_b2 : Arv Z h2 b2 k2 .double (0 : Int32) (dvs (fun _ => (0 : Int64))) (.double (FP.l2d 0)) := (Arv.newD A2 (by decide)).pad own_dvs0
  obtain ⟨T4, h4, X4, e4, W4, st4⟩ := putF X2 hx hZ hown (host := "") (Or.inl (tw hw 11 rfl)) Via.refl e2 (F_numbers_a1.ext E2) (E_a1.ext E2) (Or.inl (tw hw 12 rfl)) (tw hw 2 rfl) (ty := (.array .double)) (by decide) rfl rfl (g := (mkF m 8 #[.val (.ref a1)] [(.ref b2), (.ref a1)])) rfl rfl (hb hby d1_8)
  have Fw4 := (F_numbers_a1.ext E2).same W4
  have N4 := Fr.snoc X4 N0 ge_a1
  have O5 := O3.wr W4 ge_a1
  have K4 := K2.wr W4 (Or.inl (List.mem_of_getElem? (i := 0) rfl))
  have sg6 : ∀ target, Steps p.tables e below (T4.setTop (mkF m 11 #[.val (.ref a1)] [])) target → Steps p.tables e below (s₁.setTop (mkF m 0 #[.val (.ref a1)] [])) target := by
    intro target kt
    show Steps p.tables e below (s₁.setTop (mkF m 0 #[.val (.ref a1)] [])) _
    refine XS.aloadN X0.here hx rfl (hb hby d1_0) rfl rfl ?_
    show Steps p.tables e below (s₁.setTop (mkF m 1 #[.val (.ref a1)] [(.ref a1)])) _
    refine st1 _ ?_
    show Steps p.tables e below (T1.setTop (mkF m 4 #[.val (.ref a1)] [])) _
    refine XS.aloadN X1.here hx rfl (hb hby d1_4) rfl rfl ?_
    show Steps p.tables e below (T1.setTop (mkF m 5 #[.val (.ref a1)] [(.ref a1)])) _
    refine XS.iconst X1.here hx rfl (hb hby d1_5) ?_
    show Steps p.tables e below (T1.setTop (mkF m 6 #[.val (.ref a1)] [(.int (0 : Int32)), (.ref a1)])) _
    refine st2 _ ?_
    show Steps p.tables e below (T2.setTop (mkF m 8 #[.val (.ref a1)] [(.ref b2), (.ref a1)])) _
    refine st4 _ ?_
    exact kt
  obtain ⟨fs, hr, hrun, hended, hW, hsame⟩ := X4.leave (v := none) (fun _ => rfl)
  refine ⟨_, _, pre0 _ (sg6 _ (?_)), hrun, hended, _, _, rfl, ?_, ⟨_, rfl⟩, hW, hsame.mono (by decide) (by decide)⟩
  · show Steps p.tables e below (T4.setTop (mkF m 11 #[.val (.ref a1)] [])) _
    exact X4.returnOut hx Bd.returns (hb hby d1_11) hr
  · show Q1 Z a1 h0 n0 _ T4.heap _
    rw [e4]
    exact ⟨b2, k2, rfl, N4, K4, O5, ((F_size_a1.ext E2).other W4 (sn .int (.array .double) (Or.inl (tw hw 19 rfl)) (Or.inl (tw hw 12 rfl)))), Fw4, ((F_listed_a1.ext E2).other W4 (sn (.array .int) (.array .double) (Or.inl (tw hw 82 rfl)) (Or.inl (tw hw 12 rfl)))), (V_b2.other W4 (Ne.symm (Nat.ne_of_lt (Nat.lt_of_lt_of_le E_a1.lt (Nat.le_of_eq g2.symm))))), ge_b2, sz_b2⟩
def Q5 (Z : State) (q1 : Int64) (q2 : Int64) (h0 : Heap) (n0 : Nat) (v : Option Value) (h : Heap) (L : List Loc) : Prop := v = some (.long (if (lcmpW q1 q2) < (0 : Int32) then q2 else q1)) ∧ Fr n0 L ∧ h = h0
theorem ef_5 (m : MethodId) (x0 : Int64) (x1 : Int64) : entryFrame m #[(.long x0), (.long x1)] 4 = mkF m 0 #[.val (.long x0), .second, .val (.long x1), .second] [] := by first | (simp [entryFrame, mkF, argsToLocals, Value.category]; done) | rfl
set_option maxRecDepth 65536 in
set_option maxHeartbeats 40000000 in
theorem rm5 (l : Launch) (Z : State) (a0 : Array Value) (hw : ∀ d ∈ tables_1, d.before a0 Z = true) (ws : List Jvm.Cond) (q1 : Int64) (q2 : Int64) (h0 : Heap) (n0 : Nat) (O0 : Old Z n0 h0) :
    MetFree l (⟨"java/lang/Math", "max", "(JJ)J"⟩ : MethodName) (head1 (Jvm.Cond.code (⟨"java/lang/Math", "max", "(JJ)J"⟩ : MethodName) jdk_29_method_66_code 4 (some .long) :: ws) ({ frames := 0, cells := 0, slots := 0, locals := 0 } : Room)) (fun a U => a = #[(.long q1), (.long q2)] ∧ Z.Warmed39 U.vm ∧ U.heap = h0) (fun _ _ _ _ _ => True) (fun _ U o U' => ∃ v L, o = .returned v ∧ Q5 Z q1 q2 h0 n0 v U'.heap L ∧ FrameEnd U o U' L ({ frames := 0, cells := 0, slots := 0, locals := 0 } : Room).cells ({ frames := 0, cells := 0, slots := 0, locals := 0 } : Room).slots) := by
  refine MetFree.of_bodySF (Jvm.Free.JP.mathPlain rfl (by decide +kernel)) hisR ?_
  intro p e s m args below meth c s₁ Bd hml0 hP hK
  obtain ⟨rfl, hZ, hh⟩ := hP
  have hx := Bd.exec
  have hby := Bd.bytes
  have hml : c.maxLocals = 4 := hml0
  have hown : s.vm.findClass "java/lang/Math" = some m.cls := findClass_of_methodNamed Bd.named
  have hnm := (name_of_methodNamed Bd.named Bd.method).1
  have X0 : Stand p l e ({ frames := 0, cells := 0, slots := 0, locals := 0 } : Room) s m #[(.long q1), (.long q2)] below meth c s₁ [] 0 0 := Stand.of_body Bd
  have e0 : s₁.heap = h0 := by rw [← hh, Bd.state]; rfl
  have N0 := Fr.nil n0
  have pre0 : ∀ t, Steps p.tables e below (s₁.setTop (mkF m 0 #[.val (.long q1), .second, .val (.long q2), .second] [])) t → Steps p.tables e below (s₁.setTop (entryFrame m #[(.long q1), (.long q2)] 4)) t := fun t k => castTop (ef_5 m q1 q2) k
  have sg1 : ∀ target, Steps p.tables e below (s₁.setTop (mkF m 3 #[.val (.long q1), .second, .val (.long q2), .second] [(.int (lcmpW q1 q2))])) target → Steps p.tables e below (s₁.setTop (mkF m 0 #[.val (.long q1), .second, .val (.long q2), .second] [])) target := by
    intro target kt
    show Steps p.tables e below (s₁.setTop (mkF m 0 #[.val (.long q1), .second, .val (.long q2), .second] [])) _
    refine XS.lloadN X0.here hx rfl (hb hby d5_0) rfl ?_
    show Steps p.tables e below (s₁.setTop (mkF m 1 #[.val (.long q1), .second, .val (.long q2), .second] [(.long q1)])) _
    refine XS.lloadN X0.here hx rfl (hb hby d5_1) rfl ?_
    show Steps p.tables e below (s₁.setTop (mkF m 2 #[.val (.long q1), .second, .val (.long q2), .second] [(.long q2), (.long q1)])) _
    refine XS.lcmp X0.here hx rfl (hb hby d5_2) rfl ?_
    exact kt
  by_cases hc2 : (lcmpW q1 q2) < (0 : Int32)
  · have sg3 : ∀ target, Steps p.tables e below (s₁.setTop (mkF m 11 #[.val (.long q1), .second, .val (.long q2), .second] [(.long q2)])) target → Steps p.tables e below (s₁.setTop (mkF m 3 #[.val (.long q1), .second, .val (.long q2), .second] [(.int (lcmpW q1 q2))])) target := by
      intro target kt
      show Steps p.tables e below (s₁.setTop (mkF m 3 #[.val (.long q1), .second, .val (.long q2), .second] [(.int (lcmpW q1 q2))])) _
      refine XS.ifYes X0.here hx rfl (pc0 := 3) (pc' := 10) rfl (hb hby d5_3) rfl ((if0 _ _).trans (tlt hc2).1) (by decide) (by decide) ?_
      show Steps p.tables e below (s₁.setTop (mkF m 10 #[.val (.long q1), .second, .val (.long q2), .second] [])) _
      refine XS.lloadN X0.here hx rfl (hb hby d5_10) rfl ?_
      exact kt
    obtain ⟨fs, hr, hrun, hended, hW, hsame⟩ := X0.leave (v := some (.long q2)) (fun h => by rw [Bd.returns] at h; cases h)
    refine ⟨_, _, pre0 _ (sg1 _ (sg3 _ (?_))), hrun, hended, _, _, rfl, ?_, ⟨_, rfl⟩, hW, hsame.mono (by decide) (by decide)⟩
    · show Steps p.tables e below (s₁.setTop (mkF m 11 #[.val (.long q1), .second, .val (.long q2), .second] [(.long q2)])) _
      jvm_step X0.here [X0.here.top, hx, (hb hby d5_11), X0.method', Bd.returns, narrow]
      first | (intro acts; rw [hr _ acts rfl rfl rfl]) | rw [hr _ _ rfl rfl rfl]
      exact Steps.refl _
    · show Q5 Z q1 q2 h0 n0 _ s₁.heap _
      rw [e0]
      exact ⟨(by rw [if_pos hc2]), N0, rfl⟩
  · have sg4 : ∀ target, Steps p.tables e below (s₁.setTop (mkF m 11 #[.val (.long q1), .second, .val (.long q2), .second] [(.long q1)])) target → Steps p.tables e below (s₁.setTop (mkF m 3 #[.val (.long q1), .second, .val (.long q2), .second] [(.int (lcmpW q1 q2))])) target := by
      intro target kt
      show Steps p.tables e below (s₁.setTop (mkF m 3 #[.val (.long q1), .second, .val (.long q2), .second] [(.int (lcmpW q1 q2))])) _
      refine XS.ifNo X0.here hx rfl (hb hby d5_3) rfl ((if0 _ _).trans (flt hc2).1) ?_
      show Steps p.tables e below (s₁.setTop (mkF m 6 #[.val (.long q1), .second, .val (.long q2), .second] [])) _
      refine XS.lloadN X0.here hx rfl (hb hby d5_6) rfl ?_
      show Steps p.tables e below (s₁.setTop (mkF m 7 #[.val (.long q1), .second, .val (.long q2), .second] [(.long q1)])) _
      refine XS.goto X0.here hx rfl (pc0 := 7) (pc' := 11) rfl (hb hby d5_7) (by decide) (by decide) ?_
      exact kt
    obtain ⟨fs, hr, hrun, hended, hW, hsame⟩ := X0.leave (v := some (.long q1)) (fun h => by rw [Bd.returns] at h; cases h)
    refine ⟨_, _, pre0 _ (sg1 _ (sg4 _ (?_))), hrun, hended, _, _, rfl, ?_, ⟨_, rfl⟩, hW, hsame.mono (by decide) (by decide)⟩
    · show Steps p.tables e below (s₁.setTop (mkF m 11 #[.val (.long q1), .second, .val (.long q2), .second] [(.long q1)])) _
      jvm_step X0.here [X0.here.top, hx, (hb hby d5_11), X0.method', Bd.returns, narrow]
      first | (intro acts; rw [hr _ acts rfl rfl rfl]) | rw [hr _ _ rfl rfl rfl]
      exact Steps.refl _
    · show Q5 Z q1 q2 h0 n0 _ s₁.heap _
      rw [e0]
      exact ⟨(by rw [if_neg hc2]), N0, rfl⟩
def Q6 (Z : State) (q1 : Int64) (q2 : Int64) (h0 : Heap) (n0 : Nat) (v : Option Value) (h : Heap) (L : List Loc) : Prop := v = some (.long (if (0 : Int32) < (lcmpW q1 q2) then q2 else q1)) ∧ Fr n0 L ∧ h = h0
theorem ef_6 (m : MethodId) (x0 : Int64) (x1 : Int64) : entryFrame m #[(.long x0), (.long x1)] 4 = mkF m 0 #[.val (.long x0), .second, .val (.long x1), .second] [] := by first | (simp [entryFrame, mkF, argsToLocals, Value.category]; done) | rfl
set_option maxRecDepth 65536 in
set_option maxHeartbeats 40000000 in
theorem rm6 (l : Launch) (Z : State) (a0 : Array Value) (hw : ∀ d ∈ tables_1, d.before a0 Z = true) (ws : List Jvm.Cond) (q1 : Int64) (q2 : Int64) (h0 : Heap) (n0 : Nat) (O0 : Old Z n0 h0) :
    MetFree l (⟨"java/lang/Math", "min", "(JJ)J"⟩ : MethodName) (head1 (Jvm.Cond.code (⟨"java/lang/Math", "min", "(JJ)J"⟩ : MethodName) jdk_29_method_70_code 4 (some .long) :: ws) ({ frames := 0, cells := 0, slots := 0, locals := 0 } : Room)) (fun a U => a = #[(.long q1), (.long q2)] ∧ Z.Warmed39 U.vm ∧ U.heap = h0) (fun _ _ _ _ _ => True) (fun _ U o U' => ∃ v L, o = .returned v ∧ Q6 Z q1 q2 h0 n0 v U'.heap L ∧ FrameEnd U o U' L ({ frames := 0, cells := 0, slots := 0, locals := 0 } : Room).cells ({ frames := 0, cells := 0, slots := 0, locals := 0 } : Room).slots) := by
  refine MetFree.of_bodySF (Jvm.Free.JP.mathPlain rfl (by decide +kernel)) hisR ?_
  intro p e s m args below meth c s₁ Bd hml0 hP hK
  obtain ⟨rfl, hZ, hh⟩ := hP
  have hx := Bd.exec
  have hby := Bd.bytes
  have hml : c.maxLocals = 4 := hml0
  have hown : s.vm.findClass "java/lang/Math" = some m.cls := findClass_of_methodNamed Bd.named
  have hnm := (name_of_methodNamed Bd.named Bd.method).1
  have X0 : Stand p l e ({ frames := 0, cells := 0, slots := 0, locals := 0 } : Room) s m #[(.long q1), (.long q2)] below meth c s₁ [] 0 0 := Stand.of_body Bd
  have e0 : s₁.heap = h0 := by rw [← hh, Bd.state]; rfl
  have N0 := Fr.nil n0
  have pre0 : ∀ t, Steps p.tables e below (s₁.setTop (mkF m 0 #[.val (.long q1), .second, .val (.long q2), .second] [])) t → Steps p.tables e below (s₁.setTop (entryFrame m #[(.long q1), (.long q2)] 4)) t := fun t k => castTop (ef_6 m q1 q2) k
  have sg1 : ∀ target, Steps p.tables e below (s₁.setTop (mkF m 3 #[.val (.long q1), .second, .val (.long q2), .second] [(.int (lcmpW q1 q2))])) target → Steps p.tables e below (s₁.setTop (mkF m 0 #[.val (.long q1), .second, .val (.long q2), .second] [])) target := by
    intro target kt
    show Steps p.tables e below (s₁.setTop (mkF m 0 #[.val (.long q1), .second, .val (.long q2), .second] [])) _
    refine XS.lloadN X0.here hx rfl (hb hby d6_0) rfl ?_
    show Steps p.tables e below (s₁.setTop (mkF m 1 #[.val (.long q1), .second, .val (.long q2), .second] [(.long q1)])) _
    refine XS.lloadN X0.here hx rfl (hb hby d6_1) rfl ?_
    show Steps p.tables e below (s₁.setTop (mkF m 2 #[.val (.long q1), .second, .val (.long q2), .second] [(.long q2), (.long q1)])) _
    refine XS.lcmp X0.here hx rfl (hb hby d6_2) rfl ?_
    exact kt
  by_cases hc2 : (0 : Int32) < (lcmpW q1 q2)
  · have sg3 : ∀ target, Steps p.tables e below (s₁.setTop (mkF m 11 #[.val (.long q1), .second, .val (.long q2), .second] [(.long q2)])) target → Steps p.tables e below (s₁.setTop (mkF m 3 #[.val (.long q1), .second, .val (.long q2), .second] [(.int (lcmpW q1 q2))])) target := by
      intro target kt
      show Steps p.tables e below (s₁.setTop (mkF m 3 #[.val (.long q1), .second, .val (.long q2), .second] [(.int (lcmpW q1 q2))])) _
      refine XS.ifYes X0.here hx rfl (pc0 := 3) (pc' := 10) rfl (hb hby d6_3) rfl ((if0 _ _).trans (tlt hc2).2.2.1) (by decide) (by decide) ?_
      show Steps p.tables e below (s₁.setTop (mkF m 10 #[.val (.long q1), .second, .val (.long q2), .second] [])) _
      refine XS.lloadN X0.here hx rfl (hb hby d6_10) rfl ?_
      exact kt
    obtain ⟨fs, hr, hrun, hended, hW, hsame⟩ := X0.leave (v := some (.long q2)) (fun h => by rw [Bd.returns] at h; cases h)
    refine ⟨_, _, pre0 _ (sg1 _ (sg3 _ (?_))), hrun, hended, _, _, rfl, ?_, ⟨_, rfl⟩, hW, hsame.mono (by decide) (by decide)⟩
    · show Steps p.tables e below (s₁.setTop (mkF m 11 #[.val (.long q1), .second, .val (.long q2), .second] [(.long q2)])) _
      jvm_step X0.here [X0.here.top, hx, (hb hby d6_11), X0.method', Bd.returns, narrow]
      first | (intro acts; rw [hr _ acts rfl rfl rfl]) | rw [hr _ _ rfl rfl rfl]
      exact Steps.refl _
    · show Q6 Z q1 q2 h0 n0 _ s₁.heap _
      rw [e0]
      exact ⟨(by rw [if_pos hc2]), N0, rfl⟩
  · have sg4 : ∀ target, Steps p.tables e below (s₁.setTop (mkF m 11 #[.val (.long q1), .second, .val (.long q2), .second] [(.long q1)])) target → Steps p.tables e below (s₁.setTop (mkF m 3 #[.val (.long q1), .second, .val (.long q2), .second] [(.int (lcmpW q1 q2))])) target := by
      intro target kt
      show Steps p.tables e below (s₁.setTop (mkF m 3 #[.val (.long q1), .second, .val (.long q2), .second] [(.int (lcmpW q1 q2))])) _
      refine XS.ifNo X0.here hx rfl (hb hby d6_3) rfl ((if0 _ _).trans (flt hc2).2.2.1) ?_
      show Steps p.tables e below (s₁.setTop (mkF m 6 #[.val (.long q1), .second, .val (.long q2), .second] [])) _
      refine XS.lloadN X0.here hx rfl (hb hby d6_6) rfl ?_
      show Steps p.tables e below (s₁.setTop (mkF m 7 #[.val (.long q1), .second, .val (.long q2), .second] [(.long q1)])) _
      refine XS.goto X0.here hx rfl (pc0 := 7) (pc' := 11) rfl (hb hby d6_7) (by decide) (by decide) ?_
      exact kt
    obtain ⟨fs, hr, hrun, hended, hW, hsame⟩ := X0.leave (v := some (.long q1)) (fun h => by rw [Bd.returns] at h; cases h)
    refine ⟨_, _, pre0 _ (sg1 _ (sg4 _ (?_))), hrun, hended, _, _, rfl, ?_, ⟨_, rfl⟩, hW, hsame.mono (by decide) (by decide)⟩
    · show Steps p.tables e below (s₁.setTop (mkF m 11 #[.val (.long q1), .second, .val (.long q2), .second] [(.long q1)])) _
      jvm_step X0.here [X0.here.top, hx, (hb hby d6_11), X0.method', Bd.returns, narrow]
      first | (intro acts; rw [hr _ acts rfl rfl rfl]) | rw [hr _ _ rfl rfl rfl]
      exact Steps.refl _
    · show Q6 Z q1 q2 h0 n0 _ s₁.heap _
      rw [e0]
      exact ⟨(by rw [if_neg hc2]), N0, rfl⟩
def Q8 (Z : State) (p1 : Int32) (p2 : Int32) (h0 : Heap) (n0 : Nat) (v : Option Value) (h : Heap) (L : List Loc) : Prop := v = some (.int (if p2 < p1 then p2 else p1)) ∧ Fr n0 L ∧ h = h0
theorem ef_8 (m : MethodId) (x0 : Int32) (x1 : Int32) : entryFrame m #[(.int x0), (.int x1)] 2 = mkF m 0 #[.val (.int x0), .val (.int x1)] [] := by first | (simp [entryFrame, mkF, argsToLocals, Value.category]; done) | rfl
set_option maxRecDepth 65536 in
set_option maxHeartbeats 40000000 in
theorem rm8 (l : Launch) (Z : State) (a0 : Array Value) (hw : ∀ d ∈ tables_1, d.before a0 Z = true) (ws : List Jvm.Cond) (p1 : Int32) (p2 : Int32) (h0 : Heap) (n0 : Nat) (O0 : Old Z n0 h0) :
    MetFree l (⟨"java/lang/Math", "min", "(II)I"⟩ : MethodName) (head1 (Jvm.Cond.code (⟨"java/lang/Math", "min", "(II)I"⟩ : MethodName) jdk_29_method_69_code 2 (some .int) :: ws) ({ frames := 0, cells := 0, slots := 0, locals := 0 } : Room)) (fun a U => a = #[(.int p1), (.int p2)] ∧ Z.Warmed39 U.vm ∧ U.heap = h0) (fun _ _ _ _ _ => True) (fun _ U o U' => ∃ v L, o = .returned v ∧ Q8 Z p1 p2 h0 n0 v U'.heap L ∧ FrameEnd U o U' L ({ frames := 0, cells := 0, slots := 0, locals := 0 } : Room).cells ({ frames := 0, cells := 0, slots := 0, locals := 0 } : Room).slots) := by
  refine MetFree.of_bodySF (Jvm.Free.JP.mathPlain rfl (by decide +kernel)) hisR ?_
  intro p e s m args below meth c s₁ Bd hml0 hP hK
  obtain ⟨rfl, hZ, hh⟩ := hP
  have hx := Bd.exec
  have hby := Bd.bytes
  have hml : c.maxLocals = 2 := hml0
  have hown : s.vm.findClass "java/lang/Math" = some m.cls := findClass_of_methodNamed Bd.named
  have hnm := (name_of_methodNamed Bd.named Bd.method).1
  have X0 : Stand p l e ({ frames := 0, cells := 0, slots := 0, locals := 0 } : Room) s m #[(.int p1), (.int p2)] below meth c s₁ [] 0 0 := Stand.of_body Bd
  have e0 : s₁.heap = h0 := by rw [← hh, Bd.state]; rfl
  have N0 := Fr.nil n0
  have pre0 : ∀ t, Steps p.tables e below (s₁.setTop (mkF m 0 #[.val (.int p1), .val (.int p2)] [])) t → Steps p.tables e below (s₁.setTop (entryFrame m #[(.int p1), (.int p2)] 2)) t := fun t k => castTop (ef_8 m p1 p2) k
  have sg1 : ∀ target, Steps p.tables e below (s₁.setTop (mkF m 2 #[.val (.int p1), .val (.int p2)] [(.int p2), (.int p1)])) target → Steps p.tables e below (s₁.setTop (mkF m 0 #[.val (.int p1), .val (.int p2)] [])) target := by
    intro target kt
    show Steps p.tables e below (s₁.setTop (mkF m 0 #[.val (.int p1), .val (.int p2)] [])) _
    refine XS.iloadN X0.here hx rfl (hb hby d8_0) rfl ?_
    show Steps p.tables e below (s₁.setTop (mkF m 1 #[.val (.int p1), .val (.int p2)] [(.int p1)])) _
    refine XS.iloadN X0.here hx rfl (hb hby d8_1) rfl ?_
    exact kt
  by_cases hc2 : p2 < p1
  · have sg3 : ∀ target, Steps p.tables e below (s₁.setTop (mkF m 10 #[.val (.int p1), .val (.int p2)] [(.int p2)])) target → Steps p.tables e below (s₁.setTop (mkF m 2 #[.val (.int p1), .val (.int p2)] [(.int p2), (.int p1)])) target := by
      intro target kt
      show Steps p.tables e below (s₁.setTop (mkF m 2 #[.val (.int p1), .val (.int p2)] [(.int p2), (.int p1)])) _
      refine XS.icmpYes X0.here hx rfl (pc0 := 2) (pc' := 9) rfl (hb hby d8_2) rfl (tlt hc2).2.2.1 (by decide) (by decide) ?_
      show Steps p.tables e below (s₁.setTop (mkF m 9 #[.val (.int p1), .val (.int p2)] [])) _
      refine XS.iloadN X0.here hx rfl (hb hby d8_9) rfl ?_
      exact kt
    obtain ⟨fs, hr, hrun, hended, hW, hsame⟩ := X0.leave (v := some (.int p2)) (fun h => by rw [Bd.returns] at h; cases h)
    refine ⟨_, _, pre0 _ (sg1 _ (sg3 _ (?_))), hrun, hended, _, _, rfl, ?_, ⟨_, rfl⟩, hW, hsame.mono (by decide) (by decide)⟩
    · show Steps p.tables e below (s₁.setTop (mkF m 10 #[.val (.int p1), .val (.int p2)] [(.int p2)])) _
      exact retI X0 hx Bd.returns (hb hby d8_10) hr
    · show Q8 Z p1 p2 h0 n0 _ s₁.heap _
      rw [e0]
      exact ⟨(by rw [if_pos hc2]), N0, rfl⟩
  · have sg4 : ∀ target, Steps p.tables e below (s₁.setTop (mkF m 10 #[.val (.int p1), .val (.int p2)] [(.int p1)])) target → Steps p.tables e below (s₁.setTop (mkF m 2 #[.val (.int p1), .val (.int p2)] [(.int p2), (.int p1)])) target := by
      intro target kt
      show Steps p.tables e below (s₁.setTop (mkF m 2 #[.val (.int p1), .val (.int p2)] [(.int p2), (.int p1)])) _
      refine XS.icmpNo X0.here hx rfl (hb hby d8_2) rfl (flt hc2).2.2.1 ?_
      show Steps p.tables e below (s₁.setTop (mkF m 5 #[.val (.int p1), .val (.int p2)] [])) _
      refine XS.iloadN X0.here hx rfl (hb hby d8_5) rfl ?_
      show Steps p.tables e below (s₁.setTop (mkF m 6 #[.val (.int p1), .val (.int p2)] [(.int p1)])) _
      refine XS.goto X0.here hx rfl (pc0 := 6) (pc' := 10) rfl (hb hby d8_6) (by decide) (by decide) ?_
      exact kt
    obtain ⟨fs, hr, hrun, hended, hW, hsame⟩ := X0.leave (v := some (.int p1)) (fun h => by rw [Bd.returns] at h; cases h)
    refine ⟨_, _, pre0 _ (sg1 _ (sg4 _ (?_))), hrun, hended, _, _, rfl, ?_, ⟨_, rfl⟩, hW, hsame.mono (by decide) (by decide)⟩
    · show Steps p.tables e below (s₁.setTop (mkF m 10 #[.val (.int p1), .val (.int p2)] [(.int p1)])) _
      exact retI X0 hx Bd.returns (hb hby d8_10) hr
    · show Q8 Z p1 p2 h0 n0 _ s₁.heap _
      rw [e0]
      exact ⟨(by rw [if_neg hc2]), N0, rfl⟩
def Q4 (Z : State) (p1 : Int32) (p2 : Int32) (h0 : Heap) (n0 : Nat) (v : Option Value) (h : Heap) (L : List Loc) : Prop := v = some (.int (grw p1 p2)) ∧ Fr n0 L ∧ h = h0
theorem ef_4 (m : MethodId) (x0 : Int32) (x1 : Int32) : entryFrame m #[(.int x0), (.int x1)] 2 = mkF m 0 #[.val (.int x0), .val (.int x1)] [] := by first | (simp [entryFrame, mkF, argsToLocals, Value.category]; done) | rfl
set_option maxRecDepth 65536 in
set_option maxHeartbeats 40000000 in
theorem rm4 (l : Launch) (Z : State) (a0 : Array Value) (hw : ∀ d ∈ tables_1, d.before a0 Z = true) (ws : List Jvm.Cond) (p1 : Int32) (p2 : Int32) (h0 : Heap) (n0 : Nat) (O0 : Old Z n0 h0) (hg1 : ¬ p2 < (0 : Int32)) (hg2 : ¬ (2147483639 : Int32) < p2) :
    MetFree l (⟨"com/example/breakline/breakline/ModifierNumbers", "grown", "(II)I"⟩ : MethodName) (head1 (Jvm.Cond.code (⟨"com/example/breakline/breakline/ModifierNumbers", "grown", "(II)I"⟩ : MethodName) prog_49_method_8_code 2 (some .int) :: ws) ({ frames := 1, cells := 0, slots := 0, locals := 17 } : Room)) (fun a U => a = #[(.int p1), (.int p2)] ∧ Z.Warmed39 U.vm ∧ U.heap = h0) (fun _ _ _ _ _ => True) (fun _ U o U' => ∃ v L, o = .returned v ∧ Q4 Z p1 p2 h0 n0 v U'.heap L ∧ FrameEnd U o U' L ({ frames := 1, cells := 0, slots := 0, locals := 17 } : Room).cells ({ frames := 1, cells := 0, slots := 0, locals := 17 } : Room).slots) := by
  refine MetFree.of_bodySF (plainFor_of_name pn_0) hisR ?_
  intro p e s m args below meth c s₁ Bd hml0 hP hK
  obtain ⟨rfl, hZ, hh⟩ := hP
  have hx := Bd.exec
  have hby := Bd.bytes
  have hml : c.maxLocals = 2 := hml0
  have hown : s.vm.findClass "com/example/breakline/breakline/ModifierNumbers" = some m.cls := findClass_of_methodNamed Bd.named
  have hnm := (name_of_methodNamed Bd.named Bd.method).1
  have X0 : Stand p l e ({ frames := 1, cells := 0, slots := 0, locals := 17 } : Room) s m #[(.int p1), (.int p2)] below meth c s₁ [] 0 0 := Stand.of_body Bd
  have e0 : s₁.heap = h0 := by rw [← hh, Bd.state]; rfl
  have N0 := Fr.nil n0
  have pre0 : ∀ t, Steps p.tables e below (s₁.setTop (mkF m 0 #[.val (.int p1), .val (.int p2)] [])) t → Steps p.tables e below (s₁.setTop (entryFrame m #[(.int p1), (.int p2)] 2)) t := fun t k => castTop (ef_4 m p1 p2) k
  obtain ⟨_, _, ⟨T1, L1, k1, n1⟩, -, X1, ⟨Lc1, hQ1, l1, y1, z1⟩, st1⟩ := Jvm.LawKit.callS X0 hx (y := (⟨"java/lang/Math", "max", "(JJ)J"⟩ : MethodName)) hown (mvT hZ (tw hw 26 rfl)) (mvT hZ (tw hw 27 rfl)) (mvT hZ (tw hw 28 rfl)) (mvT hZ (tw hw 29 rfl)) (by decide) (backOf (W := 2) (rm5 l Z a0 hw [] (p2.toInt64) ((p1.toInt64) + ((p1.toInt64) / (2 : Int64))) h0 n0 O0 ) hZ (tw hw 29 rfl) (tw hw 28 rfl) (by decide) (by decide)) (g := (mkF m 34 #[.val (.int p1), .val (.int p2)] [(.long ((p1.toInt64) + ((p1.toInt64) / (2 : Int64)))), (.long (p2.toInt64)), (.long (2147483639 : Int64))])) rfl (by rw [hml]; rfl) (argsL := [(.long (p2.toInt64)), (.long ((p1.toInt64) + ((p1.toInt64) / (2 : Int64))))]) (rest := [(.long (2147483639 : Int64))]) (lenOf pd_0 rfl) rfl (by show 2 * 0 + _ ≤ _; exact Nat.le_of_eq rfl) (hb hby d4_34) (fun _ _ => ⟨rfl, e0, (by decide : 0 + 0 ≤ _), (by decide : 0 + 0 ≤ _)⟩)
  dsimp only [Pt.U, Pt.locs, Pt.cells, Pt.slots] at X1 l1 y1 z1 st1 hQ1
  subst l1 y1 z1
  obtain ⟨rfl, N1q, e1⟩ := hQ1
  have N1 := Fr.app N0 N1q
  obtain ⟨r1, hr1⟩ : ∃ z, z = (if (lcmpW (p2.toInt64) ((p1.toInt64) + ((p1.toInt64) / (2 : Int64)))) < (0 : Int32) then ((p1.toInt64) + ((p1.toInt64) / (2 : Int64))) else (p2.toInt64)) := ⟨_, rfl⟩
  rw [← hr1] at st1
  obtain ⟨_, _, ⟨T2, L2, k2, n2⟩, -, X2, ⟨Lc2, hQ2, l2, y2, z2⟩, st2⟩ := Jvm.LawKit.callS X1 hx (y := (⟨"java/lang/Math", "min", "(JJ)J"⟩ : MethodName)) hown (mvT hZ (tw hw 30 rfl)) (mvT hZ (tw hw 31 rfl)) (mvT hZ (tw hw 28 rfl)) (mvT hZ (tw hw 32 rfl)) (by decide) (backOf (W := 0) (rm6 l Z a0 hw [] (2147483639 : Int64) r1 h0 n0 O0 ) hZ (tw hw 32 rfl) (tw hw 28 rfl) (by decide) (by decide)) (g := (mkF m 37 #[.val (.int p1), .val (.int p2)] [(.long r1), (.long (2147483639 : Int64))])) rfl (by rw [hml]; rfl) (argsL := [(.long (2147483639 : Int64)), (.long r1)]) (rest := []) (lenOf pd_0 rfl) rfl (by show 2 * 0 + _ ≤ _; exact Nat.le_of_eq rfl) (hb hby d4_37) (fun _ _ => ⟨rfl, e1, (by decide : 0 + 0 ≤ _), (by decide : 0 + 0 ≤ _)⟩)
  dsimp only [Pt.U, Pt.locs, Pt.cells, Pt.slots] at X2 l2 y2 z2 st2 hQ2
  subst l2 y2 z2
  obtain ⟨rfl, N2q, e2⟩ := hQ2
  have N2 := Fr.app N1 N2q
  obtain ⟨r2, hr2⟩ : ∃ z, z = (if (0 : Int32) < (lcmpW (2147483639 : Int64) r1) then r1 else (2147483639 : Int64)) := ⟨_, rfl⟩
  rw [← hr2] at st2
  have sg3 : ∀ target, Steps p.tables e below (T2.setTop (mkF m 41 #[.val (.int p1), .val (.int p2)] [(.int (r2.toInt32))])) target → Steps p.tables e below (s₁.setTop (mkF m 0 #[.val (.int p1), .val (.int p2)] [])) target := by
    intro target kt
    show Steps p.tables e below (s₁.setTop (mkF m 0 #[.val (.int p1), .val (.int p2)] [])) _
    refine XS.iloadN X0.here hx rfl (hb hby d4_0) rfl ?_
    show Steps p.tables e below (s₁.setTop (mkF m 1 #[.val (.int p1), .val (.int p2)] [(.int p2)])) _
    refine XS.ifNo X0.here hx rfl (hb hby d4_1) rfl ((if0 _ _).trans (flt hg1).1) ?_
    show Steps p.tables e below (s₁.setTop (mkF m 4 #[.val (.int p1), .val (.int p2)] [])) _
    refine XS.iloadN X0.here hx rfl (hb hby d4_4) rfl ?_
    show Steps p.tables e below (s₁.setTop (mkF m 5 #[.val (.int p1), .val (.int p2)] [(.int p2)])) _
    refine X0.ldcInt hx hown (mvT hZ (tw hw 23 rfl)) (g := (mkF m 5 #[.val (.int p1), .val (.int p2)] [(.int p2)])) rfl (hb hby d4_5) _ ?_
    show Steps p.tables e below (s₁.setTop (mkF m 7 #[.val (.int p1), .val (.int p2)] [(.int (2147483639 : Int32)), (.int p2)])) _
    refine XS.icmpYes X0.here hx rfl (pc0 := 7) (pc' := 20) rfl (hb hby d4_7) rfl (flt hg2).2.2.2 (by decide) (by decide) ?_
    show Steps p.tables e below (s₁.setTop (mkF m 20 #[.val (.int p1), .val (.int p2)] [])) _
    refine X0.ldc2Long hx hown (mvT hZ (tw hw 24 rfl)) (g := (mkF m 20 #[.val (.int p1), .val (.int p2)] [])) rfl (hb hby d4_20) _ ?_
    show Steps p.tables e below (s₁.setTop (mkF m 23 #[.val (.int p1), .val (.int p2)] [(.long (2147483639 : Int64))])) _
    refine XS.iloadN X0.here hx rfl (hb hby d4_23) rfl ?_
    show Steps p.tables e below (s₁.setTop (mkF m 24 #[.val (.int p1), .val (.int p2)] [(.int p2), (.long (2147483639 : Int64))])) _
    refine XS.i2l X0.here hx rfl (hb hby d4_24) rfl ?_
    show Steps p.tables e below (s₁.setTop (mkF m 25 #[.val (.int p1), .val (.int p2)] [(.long (p2.toInt64)), (.long (2147483639 : Int64))])) _
    refine XS.iloadN X0.here hx rfl (hb hby d4_25) rfl ?_
    show Steps p.tables e below (s₁.setTop (mkF m 26 #[.val (.int p1), .val (.int p2)] [(.int p1), (.long (p2.toInt64)), (.long (2147483639 : Int64))])) _
    refine XS.i2l X0.here hx rfl (hb hby d4_26) rfl ?_
    show Steps p.tables e below (s₁.setTop (mkF m 27 #[.val (.int p1), .val (.int p2)] [(.long (p1.toInt64)), (.long (p2.toInt64)), (.long (2147483639 : Int64))])) _
    refine XS.iloadN X0.here hx rfl (hb hby d4_27) rfl ?_
    show Steps p.tables e below (s₁.setTop (mkF m 28 #[.val (.int p1), .val (.int p2)] [(.int p1), (.long (p1.toInt64)), (.long (p2.toInt64)), (.long (2147483639 : Int64))])) _
    refine XS.i2l X0.here hx rfl (hb hby d4_28) rfl ?_
    show Steps p.tables e below (s₁.setTop (mkF m 29 #[.val (.int p1), .val (.int p2)] [(.long (p1.toInt64)), (.long (p1.toInt64)), (.long (p2.toInt64)), (.long (2147483639 : Int64))])) _
    refine X0.ldc2Long hx hown (mvT hZ (tw hw 25 rfl)) (g := (mkF m 29 #[.val (.int p1), .val (.int p2)] [(.long (p1.toInt64)), (.long (p1.toInt64)), (.long (p2.toInt64)), (.long (2147483639 : Int64))])) rfl (hb hby d4_29) _ ?_
    show Steps p.tables e below (s₁.setTop (mkF m 32 #[.val (.int p1), .val (.int p2)] [(.long (2 : Int64)), (.long (p1.toInt64)), (.long (p1.toInt64)), (.long (p2.toInt64)), (.long (2147483639 : Int64))])) _
    refine XS.ldiv X0.here hx rfl (hb hby d4_32) rfl (by decide) ?_
    show Steps p.tables e below (s₁.setTop (mkF m 33 #[.val (.int p1), .val (.int p2)] [(.long ((p1.toInt64) / (2 : Int64))), (.long (p1.toInt64)), (.long (p2.toInt64)), (.long (2147483639 : Int64))])) _
    refine XS.ladd X0.here hx rfl (hb hby d4_33) rfl ?_
    show Steps p.tables e below (s₁.setTop (mkF m 34 #[.val (.int p1), .val (.int p2)] [(.long ((p1.toInt64) + ((p1.toInt64) / (2 : Int64)))), (.long (p2.toInt64)), (.long (2147483639 : Int64))])) _
    refine st1 _ ?_
    show Steps p.tables e below (T1.setTop (mkF m 37 #[.val (.int p1), .val (.int p2)] [(.long r1), (.long (2147483639 : Int64))])) _
    refine st2 _ ?_
    show Steps p.tables e below (T2.setTop (mkF m 40 #[.val (.int p1), .val (.int p2)] [(.long r2)])) _
    refine XS.l2i X2.here hx rfl (hb hby d4_40) rfl ?_
    exact kt
  obtain ⟨fs, hr, hrun, hended, hW, hsame⟩ := X2.leave (v := some (.int (r2.toInt32))) (fun h => by rw [Bd.returns] at h; cases h)
  refine ⟨_, _, pre0 _ (sg3 _ (?_)), hrun, hended, _, _, rfl, ?_, ⟨_, rfl⟩, hW, hsame.mono (by decide) (by decide)⟩
  · show Steps p.tables e below (T2.setTop (mkF m 41 #[.val (.int p1), .val (.int p2)] [(.int (r2.toInt32))])) _
    exact retI X2 hx Bd.returns (hb hby d4_41) hr
  · show Q4 Z p1 p2 h0 n0 _ T2.heap _
    rw [e2]
    exact ⟨(by rw [hr2, hr1]; rfl), N2, rfl⟩
def Q7 (Z : State) (arr : Addr) (p2 : Int32) (pn : Nat) (kla : ClassId) (cap : Int32) (can : Nat) (fco : Nat → Int64) (h0 : Heap) (n0 : Nat) (v : Option Value) (h : Heap) (L : List Loc) : Prop := ∃ ro : Addr, ∃ ko : ClassId, v = some (.ref ro) ∧ Fr n0 L ∧ Keep h0 h [] ∧ Old Z n0 h ∧ Arv Z h ro ko .double p2 (dvs fco) (.double (FP.l2d 0)) ∧ n0 ≤ ro ∧ h0.size ≤ ro
theorem ef_7 (m : MethodId) (x0 : Addr) (x1 : Int32) : entryFrame m #[(.ref x0), (.int x1)] 3 = mkF m 0 #[.val (.ref x0), .val (.int x1), .unset] [] := by first | (simp [entryFrame, mkF, argsToLocals, Value.category]; done) | rfl
set_option maxRecDepth 65536 in
set_option maxHeartbeats 40000000 in
theorem rm7 (l : Launch) (Z : State) (a0 : Array Value) (hw : ∀ d ∈ tables_1, d.before a0 Z = true) (ws : List Jvm.Cond) (arr : Addr) (p2 : Int32) (pn : Nat) (kla : ClassId) (cap : Int32) (can : Nat) (fco : Nat → Int64) (h0 : Heap) (n0 : Nat) (O0 : Old Z n0 h0) (A_arr : Arv Z h0 arr kla .double cap (dvs fco) (.double (FP.l2d 0))) (h_c : Sm cap can) (h_p : Sm p2 pn) (h_lt : can < pn) (h_p48 : pn ≤ 48) (h_f0 : ∀ j, can ≤ j → fco j = 0) :
    MetFree l (⟨"java/util/Arrays", "copyOf", "([DI)[D"⟩ : MethodName) (head1 (Jvm.Cond.code (⟨"java/util/Arrays", "copyOf", "([DI)[D"⟩ : MethodName) jdk_65_method_127_code 3 (some (.array .double)) :: ws) ({ frames := 1, cells := 1, slots := 48, locals := 40 } : Room)) (fun a U => a = #[(.ref arr), (.int p2)] ∧ Z.Warmed39 U.vm ∧ U.heap = h0) (fun _ _ _ _ _ => True) (fun _ U o U' => ∃ v L, o = .returned v ∧ Q7 Z arr p2 pn kla cap can fco h0 n0 v U'.heap L ∧ FrameEnd U o U' L ({ frames := 1, cells := 1, slots := 48, locals := 40 } : Room).cells ({ frames := 1, cells := 1, slots := 48, locals := 40 } : Room).slots) := by
  refine MetFree.of_bodySF (plainFor_of_name pn_1) hisR ?_
  intro p e s m args below meth c s₁ Bd hml0 hP hK
  obtain ⟨rfl, hZ, hh⟩ := hP
  have hx := Bd.exec
  have hby := Bd.bytes
  have hml : c.maxLocals = 3 := hml0
  have hown : s.vm.findClass "java/util/Arrays" = some m.cls := findClass_of_methodNamed Bd.named
  have hnm := (name_of_methodNamed Bd.named Bd.method).1
  have X0 : Stand p l e ({ frames := 1, cells := 1, slots := 48, locals := 40 } : Room) s m #[(.ref arr), (.int p2)] below meth c s₁ [] 0 0 := Stand.of_body Bd
  have e0 : s₁.heap = h0 := by rw [← hh, Bd.state]; rfl
  have N0 := Fr.nil n0
  have pre0 : ∀ t, Steps p.tables e below (s₁.setTop (mkF m 0 #[.val (.ref arr), .val (.int p2), .unset] [])) t → Steps p.tables e below (s₁.setTop (entryFrame m #[(.ref arr), (.int p2)] 3)) t := fun t k => castTop (ef_7 m arr p2) k
  have K0 := Keep.refl h0 []
  obtain ⟨cl1, Ar1, -, Sz1, Nn1, -, -⟩ := id A_arr
  obtain ⟨T2, h2, k2, X2, e2, E2, A2, st2⟩ := newP X0 hx hZ (tw hw 10 rfl) e0 (g := (mkF m 15 #[.val (.ref arr), .val (.int p2), .unset] [(.int p2)])) rfl (hb hby d7_15) rfl h_p.nn (cap := 48) (h_p.le48 h_p48) (by decide) (by decide) (by decide)
  obtain ⟨b2, g2⟩ : ∃ z, z = h0.size := ⟨_, rfl⟩
  rw [← g2] at A2 st2
  have ge_b2 : n0 ≤ b2 := Nat.le_trans (own_osz O0) (Nat.le_of_eq g2.symm)
  have sz_b2 : h0.size ≤ b2 := Nat.le_trans K0.1 (Nat.le_of_eq g2.symm)
  have O3 := O0.ext E2
  have K2 := K0.ext E2
  have V_b2 : Arv Z h2 b2 k2 .double p2 (dvs (fun _ => (0 : Int64))) (.double (FP.l2d 0)) := (Arv.newD A2 h_p.nn).pad own_dvs0
  obtain ⟨cl4, Ar4, -, Sz4, Nn4, -, -⟩ := id (A_arr.ext E2)
  obtain ⟨_, _, ⟨T5, L5, k5, n5⟩, -, X5, ⟨Lc5, hQ5, l5, y5, z5⟩, st5⟩ := Jvm.LawKit.callS X2 hx (y := (⟨"java/lang/Math", "min", "(II)I"⟩ : MethodName)) hown (mvT hZ (tw hw 37 rfl)) (mvT hZ (tw hw 38 rfl)) (mvT hZ (tw hw 28 rfl)) (mvT hZ (tw hw 39 rfl)) (by decide) (backOf (W := 4) (rm8 l Z a0 hw [] cap p2 h2 n0 O3 ) hZ (tw hw 39 rfl) (tw hw 28 rfl) (by decide) (by decide)) (g := (mkF m 25 #[.val (.ref arr), .val (.int p2), .val (.ref b2)] [(.int p2), (.int cap), (.int (0 : Int32)), (.ref b2), (.int (0 : Int32)), (.ref arr)])) rfl (by rw [hml]; rfl) (argsL := [(.int cap), (.int p2)]) (rest := [(.int (0 : Int32)), (.ref b2), (.int (0 : Int32)), (.ref arr)]) (lenOf pd_1 rfl) rfl (by show 2 * 0 + _ ≤ _; exact Nat.le_of_eq rfl) (hb hby d7_25) (fun _ _ => ⟨rfl, e2, (by decide : 1 + 0 ≤ _), (by decide : 48 + 0 ≤ _)⟩)
  dsimp only [Pt.U, Pt.locs, Pt.cells, Pt.slots] at X5 l5 y5 z5 st5 hQ5
  subst l5 y5 z5
  obtain ⟨rfl, N5q, e5⟩ := hQ5
  have N5 := Fr.app N0 N5q
  obtain ⟨r5, hr5⟩ : ∃ z, z = (if p2 < cap then p2 else cap) := ⟨_, rfl⟩
  rw [← hr5] at st5
  have hmn : r5 = cap := own_min h_c h_p h_lt hr5
  obtain ⟨T6, h6, L6, X6, e6, N6, K6q, V6, st6⟩ := cpA X5 hx hZ hown (tw hw 40 rfl) (tw hw 43 rfl) (tw hw 41 rfl) (tw hw 42 rfl) e5 (A_arr.ext E2) V_b2 (Or.inl ⟨rfl, rfl⟩) (by decide) (by decide) (by rw [hmn]; exact h_c.nn) (by rw [hmn]; exact own_c0 _) (by rw [hmn]; exact own_cp h_c h_p h_lt) rfl (by rw [hmn]; exact own_cl h_c h_lt h_p48) N5 ge_b2 (g := (mkF m 28 #[.val (.ref arr), .val (.int p2), .val (.ref b2)] [(.int r5), (.int (0 : Int32)), (.ref b2), (.int (0 : Int32)), (.ref arr)])) rfl (by rw [hml]; rfl) rfl (hb hby d7_28) (by decide) (W := 0) (by show 2 * 0 + _ ≤ _; exact Nat.le_of_eq rfl) (by decide)
  have VV6 : Arv Z h6 b2 k2 .double p2 (dvs fco) (.double (FP.l2d 0)) := V6.pad (own_copied h_c h_p h_lt h_p48 h_f0 hmn)
  have K6 := K2.trans K6q (allS (Or.inr sz_b2) all0)
  have O6 := O3.keep K6q (allS ge_b2 all0)
  have sg7 : ∀ target, Steps p.tables e below (T6.setTop (mkF m 32 #[.val (.ref arr), .val (.int p2), .val (.ref b2)] [(.ref b2)])) target → Steps p.tables e below (s₁.setTop (mkF m 0 #[.val (.ref arr), .val (.int p2), .unset] [])) target := by
    intro target kt
    show Steps p.tables e below (s₁.setTop (mkF m 0 #[.val (.ref arr), .val (.int p2), .unset] [])) _
    refine XS.iloadN X0.here hx rfl (hb hby d7_0) rfl ?_
    show Steps p.tables e below (s₁.setTop (mkF m 1 #[.val (.ref arr), .val (.int p2), .unset] [(.int p2)])) _
    refine XS.aloadN X0.here hx rfl (hb hby d7_1) rfl rfl ?_
    show Steps p.tables e below (s₁.setTop (mkF m 2 #[.val (.ref arr), .val (.int p2), .unset] [(.ref arr), (.int p2)])) _
    refine X0.arraylength hx (by rw [e0]; exact Ar1.1) (State.isArrayOf_alike hZ.alike Ar1.2.1) (g := (mkF m 2 #[.val (.ref arr), .val (.int p2), .unset] [(.ref arr), (.int p2)])) rfl rfl (hb hby d7_2) _ ?_
    rw [len_of Sz1 Nn1]
    show Steps p.tables e below (s₁.setTop (mkF m 3 #[.val (.ref arr), .val (.int p2), .unset] [(.int cap), (.int p2)])) _
    refine XS.icmpYes X0.here hx rfl (pc0 := 3) (pc' := 14) rfl (hb hby d7_3) rfl (feq (own_smne h_p h_c (Nat.ne_of_gt h_lt))).2 (by decide) (by decide) ?_
    show Steps p.tables e below (s₁.setTop (mkF m 14 #[.val (.ref arr), .val (.int p2), .unset] [])) _
    refine XS.iloadN X0.here hx rfl (hb hby d7_14) rfl ?_
    show Steps p.tables e below (s₁.setTop (mkF m 15 #[.val (.ref arr), .val (.int p2), .unset] [(.int p2)])) _
    refine st2 _ ?_
    show Steps p.tables e below (T2.setTop (mkF m 17 #[.val (.ref arr), .val (.int p2), .unset] [(.ref b2)])) _
    refine XS.astoreN X2.here hx rfl (hb hby d7_17) rfl rfl (l' := #[.val (.ref arr), .val (.int p2), .val (.ref b2)]) rfl ?_
    show Steps p.tables e below (T2.setTop (mkF m 18 #[.val (.ref arr), .val (.int p2), .val (.ref b2)] [])) _
    refine XS.aloadN X2.here hx rfl (hb hby d7_18) rfl rfl ?_
    show Steps p.tables e below (T2.setTop (mkF m 19 #[.val (.ref arr), .val (.int p2), .val (.ref b2)] [(.ref arr)])) _
    refine XS.iconst X2.here hx rfl (hb hby d7_19) ?_
    show Steps p.tables e below (T2.setTop (mkF m 20 #[.val (.ref arr), .val (.int p2), .val (.ref b2)] [(.int (0 : Int32)), (.ref arr)])) _
    refine XS.aloadN X2.here hx rfl (hb hby d7_20) rfl rfl ?_
    show Steps p.tables e below (T2.setTop (mkF m 21 #[.val (.ref arr), .val (.int p2), .val (.ref b2)] [(.ref b2), (.int (0 : Int32)), (.ref arr)])) _
    refine XS.iconst X2.here hx rfl (hb hby d7_21) ?_
    show Steps p.tables e below (T2.setTop (mkF m 22 #[.val (.ref arr), .val (.int p2), .val (.ref b2)] [(.int (0 : Int32)), (.ref b2), (.int (0 : Int32)), (.ref arr)])) _
    refine XS.aloadN X2.here hx rfl (hb hby d7_22) rfl rfl ?_
    show Steps p.tables e below (T2.setTop (mkF m 23 #[.val (.ref arr), .val (.int p2), .val (.ref b2)] [(.ref arr), (.int (0 : Int32)), (.ref b2), (.int (0 : Int32)), (.ref arr)])) _
    refine X2.arraylength hx (by rw [e2]; exact Ar4.1) (State.isArrayOf_alike hZ.alike Ar4.2.1) (g := (mkF m 23 #[.val (.ref arr), .val (.int p2), .val (.ref b2)] [(.ref arr), (.int (0 : Int32)), (.ref b2), (.int (0 : Int32)), (.ref arr)])) rfl rfl (hb hby d7_23) _ ?_
    rw [len_of Sz4 Nn4]
    show Steps p.tables e below (T2.setTop (mkF m 24 #[.val (.ref arr), .val (.int p2), .val (.ref b2)] [(.int cap), (.int (0 : Int32)), (.ref b2), (.int (0 : Int32)), (.ref arr)])) _
    refine XS.iloadN X2.here hx rfl (hb hby d7_24) rfl ?_
    show Steps p.tables e below (T2.setTop (mkF m 25 #[.val (.ref arr), .val (.int p2), .val (.ref b2)] [(.int p2), (.int cap), (.int (0 : Int32)), (.ref b2), (.int (0 : Int32)), (.ref arr)])) _
    refine st5 _ ?_
    show Steps p.tables e below (T5.setTop (mkF m 28 #[.val (.ref arr), .val (.int p2), .val (.ref b2)] [(.int r5), (.int (0 : Int32)), (.ref b2), (.int (0 : Int32)), (.ref arr)])) _
    refine st6 _ ?_
    show Steps p.tables e below (T6.setTop (mkF m 31 #[.val (.ref arr), .val (.int p2), .val (.ref b2)] [])) _
    refine XS.aloadN X6.here hx rfl (hb hby d7_31) rfl rfl ?_
    exact kt
  obtain ⟨fs, hr, hrun, hended, hW, hsame⟩ := X6.leave (v := some (.ref b2)) (fun h => by rw [Bd.returns] at h; cases h)
  refine ⟨_, _, pre0 _ (sg7 _ (?_)), hrun, hended, _, _, rfl, ?_, ⟨_, rfl⟩, hW, hsame.mono (by decide) (by decide)⟩
  · show Steps p.tables e below (T6.setTop (mkF m 32 #[.val (.ref arr), .val (.int p2), .val (.ref b2)] [(.ref b2)])) _
    jvm_step X6.here [X6.here.top, hx, (hb hby d7_32), X6.method', Bd.returns, Value.isRef, FieldType.isReference]
    first | (intro acts; rw [hr _ acts rfl rfl rfl]) | rw [hr _ _ rfl rfl rfl]
    exact Steps.refl _
  · show Q7 Z arr p2 pn kla cap can fco h0 n0 _ T6.heap _
    rw [e6]
    exact ⟨b2, k2, rfl, N6, K6, O6, VV6, ge_b2, sz_b2⟩
def Q3 (Z : State) (a1 : Addr) (p2 : Int32) (siz : Int32) (sin : Nat) (arr : Addr) (kla : ClassId) (cap : Int32) (can : Nat) (fco : Nat → Int64) (pn : Nat) (h0 : Heap) (n0 : Nat) (v : Option Value) (h : Heap) (L : List Loc) : Prop := ∃ ro : Addr, ∃ ko : ClassId, ∃ co : Int32, ∃ cn : Nat, v = some (.int siz) ∧ Fr n0 L ∧ Keep h0 h [a1] ∧ Old Z n0 h ∧ Fld Z h a1 "com/example/breakline/breakline/ModifierNumbers" "size" "I" (.int (siz + p2)) ∧ Fld Z h a1 "com/example/breakline/breakline/ModifierNumbers" "numbers" "[D" (.ref ro) ∧ Fld Z h a1 "com/example/breakline/breakline/ModifierNumbers" "listed" "[I" .null ∧ Arv Z h ro ko .double co (dvs fco) (.double (FP.l2d 0)) ∧ n0 ≤ ro ∧ (ro ∈ [arr] ∨ h0.size ≤ ro) ∧ Sm co cn ∧ sin + pn ≤ cn ∧ cn ≤ 48
theorem ef_3 (m : MethodId) (x0 : Addr) (x1 : Int32) : entryFrame m #[(.ref x0), (.int x1)] 3 = mkF m 0 #[.val (.ref x0), .val (.int x1), .unset] [] := by first | (simp [entryFrame, mkF, argsToLocals, Value.category]; done) | rfl
set_option maxRecDepth 65536 in
set_option maxHeartbeats 40000000 in
theorem rm3 (l : Launch) (Z : State) (a0 : Array Value) (hw : ∀ d ∈ tables_1, d.before a0 Z = true) (ws : List Jvm.Cond) (a1 : Addr) (p2 : Int32) (siz : Int32) (sin : Nat) (arr : Addr) (kla : ClassId) (cap : Int32) (can : Nat) (fco : Nat → Int64) (pn : Nat) (h0 : Heap) (n0 : Nat) (O0 : Old Z n0 h0) (E_a1 : Exa Z h0 a1 "com/example/breakline/breakline/ModifierNumbers") (F_size_a1 : Fld Z h0 a1 "com/example/breakline/breakline/ModifierNumbers" "size" "I" (.int siz)) (F_numbers_a1 : Fld Z h0 a1 "com/example/breakline/breakline/ModifierNumbers" "numbers" "[D" (.ref arr)) (F_listed_a1 : Fld Z h0 a1 "com/example/breakline/breakline/ModifierNumbers" "listed" "[I" .null) (A_arr : Arv Z h0 arr kla .double cap (dvs fco) (.double (FP.l2d 0))) (ge_arr : n0 ≤ arr) (h_s : Sm siz sin) (h_c : Sm cap can) (h_sc : sin ≤ can) (h_c48 : can ≤ 48) (h_f0 : ∀ j, sin ≤ j → fco j = 0) (ge_a1 : n0 ≤ a1) (h_p : Sm p2 pn) (h_31 : sin + pn ≤ 31) :
    MetFree l (⟨"com/example/breakline/breakline/ModifierNumbers", "take", "(I)I"⟩ : MethodName) (head1 (Jvm.Cond.code (⟨"com/example/breakline/breakline/ModifierNumbers", "take", "(I)I"⟩ : MethodName) prog_49_method_2_code 3 (some .int) :: ws) ({ frames := 2, cells := 1, slots := 48, locals := 55 } : Room)) (fun a U => a = #[(.ref a1), (.int p2)] ∧ Z.Warmed39 U.vm ∧ U.heap = h0) (fun _ _ _ _ _ => True) (fun _ U o U' => ∃ v L, o = .returned v ∧ Q3 Z a1 p2 siz sin arr kla cap can fco pn h0 n0 v U'.heap L ∧ FrameEnd U o U' L ({ frames := 2, cells := 1, slots := 48, locals := 55 } : Room).cells ({ frames := 2, cells := 1, slots := 48, locals := 55 } : Room).slots) := by
  refine MetFree.of_bodySF (plainFor_of_name pn_0) hisR ?_
  intro p e s m args below meth c s₁ Bd hml0 hP hK
  obtain ⟨rfl, hZ, hh⟩ := hP
  have hx := Bd.exec
  have hby := Bd.bytes
  have hml : c.maxLocals = 3 := hml0
  have hown : s.vm.findClass "com/example/breakline/breakline/ModifierNumbers" = some m.cls := findClass_of_methodNamed Bd.named
  have hnm := (name_of_methodNamed Bd.named Bd.method).1
  have X0 : Stand p l e ({ frames := 2, cells := 1, slots := 48, locals := 55 } : Room) s m #[(.ref a1), (.int p2)] below meth c s₁ [] 0 0 := Stand.of_body Bd
  have e0 : s₁.heap = h0 := by rw [← hh, Bd.state]; rfl
  have N0 := Fr.nil n0
  have pre0 : ∀ t, Steps p.tables e below (s₁.setTop (mkF m 0 #[.val (.ref a1), .val (.int p2), .unset] [])) t → Steps p.tables e below (s₁.setTop (entryFrame m #[(.ref a1), (.int p2)] 3)) t := fun t k => castTop (ef_3 m a1 p2) k
  have K0 := Keep.refl h0 [a1]
  obtain ⟨T1, X1, e1, st1⟩ := getF X0 hx hZ hown (host := "") (Or.inl (tw hw 18 rfl)) Via.refl e0 F_size_a1 (g := (mkF m 1 #[.val (.ref a1), .val (.int p2), .unset] [(.ref a1)])) rfl rfl (hb hby d3_1)
  obtain ⟨T2, X2, e2, st2⟩ := getF X1 hx hZ hown (host := "") (Or.inl (tw hw 11 rfl)) Via.refl e1 F_numbers_a1 (g := (mkF m 7 #[.val (.ref a1), .val (.int p2), .val (.int siz)] [(.ref a1), (.int p2)])) rfl rfl (hb hby d3_7)
  obtain ⟨cl3, Ar3, -, Sz3, Nn3, -, -⟩ := id A_arr
  obtain ⟨T4, X4, e4, st4⟩ := getF X2 hx hZ hown (host := "") (Or.inl (tw hw 18 rfl)) Via.refl e2 F_size_a1 (g := (mkF m 12 #[.val (.ref a1), .val (.int p2), .val (.int siz)] [(.ref a1), (.int cap), (.int p2)])) rfl rfl (hb hby d3_12)
  have sg5 : ∀ target, Steps p.tables e below (T4.setTop (mkF m 16 #[.val (.ref a1), .val (.int p2), .val (.int siz)] [(.int (cap - siz)), (.int p2)])) target → Steps p.tables e below (s₁.setTop (mkF m 0 #[.val (.ref a1), .val (.int p2), .unset] [])) target := by
    intro target kt
    show Steps p.tables e below (s₁.setTop (mkF m 0 #[.val (.ref a1), .val (.int p2), .unset] [])) _
    refine XS.aloadN X0.here hx rfl (hb hby d3_0) rfl rfl ?_
    show Steps p.tables e below (s₁.setTop (mkF m 1 #[.val (.ref a1), .val (.int p2), .unset] [(.ref a1)])) _
    refine st1 _ ?_
    show Steps p.tables e below (T1.setTop (mkF m 4 #[.val (.ref a1), .val (.int p2), .unset] [(.int siz)])) _
    refine XS.istoreN X1.here hx rfl (hb hby d3_4) rfl (l' := #[.val (.ref a1), .val (.int p2), .val (.int siz)]) rfl ?_
    show Steps p.tables e below (T1.setTop (mkF m 5 #[.val (.ref a1), .val (.int p2), .val (.int siz)] [])) _
    refine XS.iloadN X1.here hx rfl (hb hby d3_5) rfl ?_
    show Steps p.tables e below (T1.setTop (mkF m 6 #[.val (.ref a1), .val (.int p2), .val (.int siz)] [(.int p2)])) _
    refine XS.aloadN X1.here hx rfl (hb hby d3_6) rfl rfl ?_
    show Steps p.tables e below (T1.setTop (mkF m 7 #[.val (.ref a1), .val (.int p2), .val (.int siz)] [(.ref a1), (.int p2)])) _
    refine st2 _ ?_
    show Steps p.tables e below (T2.setTop (mkF m 10 #[.val (.ref a1), .val (.int p2), .val (.int siz)] [(.ref arr), (.int p2)])) _
    refine X2.arraylength hx (by rw [e2]; exact Ar3.1) (State.isArrayOf_alike hZ.alike Ar3.2.1) (g := (mkF m 10 #[.val (.ref a1), .val (.int p2), .val (.int siz)] [(.ref arr), (.int p2)])) rfl rfl (hb hby d3_10) _ ?_
    rw [len_of Sz3 Nn3]
    show Steps p.tables e below (T2.setTop (mkF m 11 #[.val (.ref a1), .val (.int p2), .val (.int siz)] [(.int cap), (.int p2)])) _
    refine XS.aloadN X2.here hx rfl (hb hby d3_11) rfl rfl ?_
    show Steps p.tables e below (T2.setTop (mkF m 12 #[.val (.ref a1), .val (.int p2), .val (.int siz)] [(.ref a1), (.int cap), (.int p2)])) _
    refine st4 _ ?_
    show Steps p.tables e below (T4.setTop (mkF m 15 #[.val (.ref a1), .val (.int p2), .val (.int siz)] [(.int siz), (.int cap), (.int p2)])) _
    refine XS.isub X4.here hx rfl (hb hby d3_15) rfl ?_
    exact kt
  by_cases hc6 : (cap - siz) < p2
  · obtain ⟨T7, X7, e7, st7⟩ := getF X4 hx hZ hown (host := "") (Or.inl (tw hw 11 rfl)) Via.refl e4 F_numbers_a1 (g := (mkF m 21 #[.val (.ref a1), .val (.int p2), .val (.int siz)] [(.ref a1), (.ref a1)])) rfl rfl (hb hby d3_21)
    obtain ⟨T8, X8, e8, st8⟩ := getF X7 hx hZ hown (host := "") (Or.inl (tw hw 11 rfl)) Via.refl e7 F_numbers_a1 (g := (mkF m 25 #[.val (.ref a1), .val (.int p2), .val (.int siz)] [(.ref a1), (.ref arr), (.ref a1)])) rfl rfl (hb hby d3_25)
    obtain ⟨cl9, Ar9, -, Sz9, Nn9, -, -⟩ := id A_arr
    obtain ⟨T10, X10, e10, st10⟩ := getF X8 hx hZ hown (host := "") (Or.inl (tw hw 18 rfl)) Via.refl e8 F_size_a1 (g := (mkF m 30 #[.val (.ref a1), .val (.int p2), .val (.int siz)] [(.ref a1), (.int cap), (.ref arr), (.ref a1)])) rfl rfl (hb hby d3_30)
    obtain ⟨_, _, ⟨T11, L11, k11, n11⟩, -, X11, ⟨Lc11, hQ11, l11, y11, z11⟩, st11⟩ := Jvm.LawKit.callS X10 hx (y := (⟨"com/example/breakline/breakline/ModifierNumbers", "grown", "(II)I"⟩ : MethodName)) hown (mvT hZ (tw hw 20 rfl)) (mvT hZ (tw hw 21 rfl)) (mvT hZ (tw hw 3 rfl)) (mvT hZ (tw hw 22 rfl)) (by decide) (backOf (W := 2) (rm4 l Z a0 hw [] cap (siz + p2) h0 n0 O0 (Sm.add h_s h_p (by omega)).nn (Sm.big (Sm.add h_s h_p (by omega)))) hZ (tw hw 22 rfl) (tw hw 3 rfl) (by decide) (by decide)) (g := (mkF m 35 #[.val (.ref a1), .val (.int p2), .val (.int siz)] [(.int (siz + p2)), (.int cap), (.ref arr), (.ref a1)])) rfl (by rw [hml]; rfl) (argsL := [(.int cap), (.int (siz + p2))]) (rest := [(.ref arr), (.ref a1)]) (lenOf pd_1 rfl) rfl (by show 2 * 0 + _ ≤ _; exact Nat.le_of_eq rfl) (hb hby d3_35) (fun _ _ => ⟨rfl, e10, (by decide : 0 + 0 ≤ _), (by decide : 0 + 0 ≤ _)⟩)
    dsimp only [Pt.U, Pt.locs, Pt.cells, Pt.slots] at X11 l11 y11 z11 st11 hQ11
    subst l11 y11 z11
    obtain ⟨rfl, N11q, e11⟩ := hQ11
    have N11 := Fr.app N0 N11q
    obtain ⟨r11, hr11⟩ : ∃ z, z = (grw cap (siz + p2)) := ⟨_, rfl⟩
    rw [← hr11] at st11
    obtain ⟨gn, hgn, hgl, hgm, hg48⟩ := own_grown hr11 h_c h_s h_p h_31 hc6
    obtain ⟨_, _, ⟨T12, L12, k12, n12⟩, -, X12, ⟨Lc12, hQ12, l12, y12, z12⟩, st12⟩ := Jvm.LawKit.callS X11 hx (y := (⟨"java/util/Arrays", "copyOf", "([DI)[D"⟩ : MethodName)) hown (mvT hZ (tw hw 33 rfl)) (mvT hZ (tw hw 34 rfl)) (mvT hZ (tw hw 35 rfl)) (mvT hZ (tw hw 36 rfl)) (by decide) (backOf (W := 1) (rm7 l Z a0 hw [] arr r11 gn kla cap can fco h0 n0 O0 A_arr h_c hgn hgl hg48 (fun j hj => h_f0 j (Nat.le_trans h_sc hj))) hZ (tw hw 36 rfl) (tw hw 35 rfl) (by decide) (by decide)) (g := (mkF m 38 #[.val (.ref a1), .val (.int p2), .val (.int siz)] [(.int r11), (.ref arr), (.ref a1)])) rfl (by rw [hml]; rfl) (argsL := [(.ref arr), (.int r11)]) (rest := [(.ref a1)]) (lenOf pd_2 rfl) rfl (by show 2 * 0 + _ ≤ _; exact Nat.le_of_eq rfl) (hb hby d3_38) (fun _ _ => ⟨rfl, e11, (by decide : 0 + 1 ≤ _), (by decide : 0 + 48 ≤ _)⟩)
    dsimp only [Pt.U, Pt.locs, Pt.cells, Pt.slots] at X12 l12 y12 z12 st12 hQ12
    subst l12 y12 z12
    obtain ⟨ro_12, ko_12, rfl, N12q, K12q, O12, f12_0, f12_1, f12_2⟩ := hQ12
    have N12 := Fr.app N11 N12q
    have K12 := K0.trans K12q all0
    obtain ⟨T13, h13, X13, e13, W13, st13⟩ := putF X12 hx hZ hown (host := "") (Or.inl (tw hw 11 rfl)) Via.refl rfl (F_numbers_a1.keep K12q nin0) (E_a1.keep K12q) (Or.inl (tw hw 12 rfl)) (tw hw 2 rfl) (ty := (.array .double)) (by decide) rfl rfl (g := (mkF m 41 #[.val (.ref a1), .val (.int p2), .val (.int siz)] [(.ref ro_12), (.ref a1)])) rfl rfl (hb hby d3_41)
    have Fw13 := (F_numbers_a1.keep K12q nin0).same W13
    have N13 := Fr.snoc X13 N12 ge_a1
    have O14 := O12.wr W13 ge_a1
    have K13 := K12.wr W13 (Or.inl (List.mem_of_getElem? (i := 0) rfl))
    obtain ⟨T15, X15, e15, st15⟩ := getF X13 hx hZ hown (host := "") (Or.inl (tw hw 18 rfl)) Via.refl e13 ((F_size_a1.keep K12q nin0).other W13 (sn .int (.array .double) (Or.inl (tw hw 19 rfl)) (Or.inl (tw hw 12 rfl)))) (g := (mkF m 46 #[.val (.ref a1), .val (.int p2), .val (.int siz)] [(.ref a1), (.ref a1)])) rfl rfl (hb hby d3_46)
    obtain ⟨T16, h16, X16, e16, W16, st16⟩ := putF X15 hx hZ hown (host := "") (Or.inl (tw hw 18 rfl)) Via.refl e15 ((F_size_a1.keep K12q nin0).other W13 (sn .int (.array .double) (Or.inl (tw hw 19 rfl)) (Or.inl (tw hw 12 rfl)))) ((E_a1.keep K12q).wr W13) (Or.inl (tw hw 19 rfl)) (tw hw 2 rfl) (ty := .int) (by decide) rfl rfl (g := (mkF m 51 #[.val (.ref a1), .val (.int p2), .val (.int siz)] [(.int (siz + p2)), (.ref a1)])) rfl rfl (hb hby d3_51)
    have Fw16 := ((F_size_a1.keep K12q nin0).other W13 (sn .int (.array .double) (Or.inl (tw hw 19 rfl)) (Or.inl (tw hw 12 rfl)))).same W16
    have N16 := Fr.snoc X16 N13 ge_a1
    have O17 := O14.wr W16 ge_a1
    have K16 := K13.wr W16 (Or.inl (List.mem_of_getElem? (i := 0) rfl))
    have sg18 : ∀ target, Steps p.tables e below (T16.setTop (mkF m 55 #[.val (.ref a1), .val (.int p2), .val (.int siz)] [(.int siz)])) target → Steps p.tables e below (T4.setTop (mkF m 16 #[.val (.ref a1), .val (.int p2), .val (.int siz)] [(.int (cap - siz)), (.int p2)])) target := by
      intro target kt
      show Steps p.tables e below (T4.setTop (mkF m 16 #[.val (.ref a1), .val (.int p2), .val (.int siz)] [(.int (cap - siz)), (.int p2)])) _
      refine XS.icmpNo X4.here hx rfl (hb hby d3_16) rfl (tlt hc6).2.2.2 ?_
      show Steps p.tables e below (T4.setTop (mkF m 19 #[.val (.ref a1), .val (.int p2), .val (.int siz)] [])) _
      refine XS.aloadN X4.here hx rfl (hb hby d3_19) rfl rfl ?_
      show Steps p.tables e below (T4.setTop (mkF m 20 #[.val (.ref a1), .val (.int p2), .val (.int siz)] [(.ref a1)])) _
      refine XS.aloadN X4.here hx rfl (hb hby d3_20) rfl rfl ?_
      show Steps p.tables e below (T4.setTop (mkF m 21 #[.val (.ref a1), .val (.int p2), .val (.int siz)] [(.ref a1), (.ref a1)])) _
      refine st7 _ ?_
      show Steps p.tables e below (T7.setTop (mkF m 24 #[.val (.ref a1), .val (.int p2), .val (.int siz)] [(.ref arr), (.ref a1)])) _
      refine XS.aloadN X7.here hx rfl (hb hby d3_24) rfl rfl ?_
      show Steps p.tables e below (T7.setTop (mkF m 25 #[.val (.ref a1), .val (.int p2), .val (.int siz)] [(.ref a1), (.ref arr), (.ref a1)])) _
      refine st8 _ ?_
      show Steps p.tables e below (T8.setTop (mkF m 28 #[.val (.ref a1), .val (.int p2), .val (.int siz)] [(.ref arr), (.ref arr), (.ref a1)])) _
      refine X8.arraylength hx (by rw [e8]; exact Ar9.1) (State.isArrayOf_alike hZ.alike Ar9.2.1) (g := (mkF m 28 #[.val (.ref a1), .val (.int p2), .val (.int siz)] [(.ref arr), (.ref arr), (.ref a1)])) rfl rfl (hb hby d3_28) _ ?_
      rw [len_of Sz9 Nn9]
      show Steps p.tables e below (T8.setTop (mkF m 29 #[.val (.ref a1), .val (.int p2), .val (.int siz)] [(.int cap), (.ref arr), (.ref a1)])) _
      refine XS.aloadN X8.here hx rfl (hb hby d3_29) rfl rfl ?_
      show Steps p.tables e below (T8.setTop (mkF m 30 #[.val (.ref a1), .val (.int p2), .val (.int siz)] [(.ref a1), (.int cap), (.ref arr), (.ref a1)])) _
      refine st10 _ ?_
      show Steps p.tables e below (T10.setTop (mkF m 33 #[.val (.ref a1), .val (.int p2), .val (.int siz)] [(.int siz), (.int cap), (.ref arr), (.ref a1)])) _
      refine XS.iloadN X10.here hx rfl (hb hby d3_33) rfl ?_
      show Steps p.tables e below (T10.setTop (mkF m 34 #[.val (.ref a1), .val (.int p2), .val (.int siz)] [(.int p2), (.int siz), (.int cap), (.ref arr), (.ref a1)])) _
      refine XS.iadd X10.here hx rfl (hb hby d3_34) rfl ?_
      show Steps p.tables e below (T10.setTop (mkF m 35 #[.val (.ref a1), .val (.int p2), .val (.int siz)] [(.int (siz + p2)), (.int cap), (.ref arr), (.ref a1)])) _
      refine st11 _ ?_
      show Steps p.tables e below (T11.setTop (mkF m 38 #[.val (.ref a1), .val (.int p2), .val (.int siz)] [(.int r11), (.ref arr), (.ref a1)])) _
      refine st12 _ ?_
      show Steps p.tables e below (T12.setTop (mkF m 41 #[.val (.ref a1), .val (.int p2), .val (.int siz)] [(.ref ro_12), (.ref a1)])) _
      refine st13 _ ?_
      show Steps p.tables e below (T13.setTop (mkF m 44 #[.val (.ref a1), .val (.int p2), .val (.int siz)] [])) _
      refine XS.aloadN X13.here hx rfl (hb hby d3_44) rfl rfl ?_
      show Steps p.tables e below (T13.setTop (mkF m 45 #[.val (.ref a1), .val (.int p2), .val (.int siz)] [(.ref a1)])) _
      refine XS.dup X13.here hx rfl (hb hby d3_45) rfl rfl ?_
      show Steps p.tables e below (T13.setTop (mkF m 46 #[.val (.ref a1), .val (.int p2), .val (.int siz)] [(.ref a1), (.ref a1)])) _
      refine st15 _ ?_
      show Steps p.tables e below (T15.setTop (mkF m 49 #[.val (.ref a1), .val (.int p2), .val (.int siz)] [(.int siz), (.ref a1)])) _
      refine XS.iloadN X15.here hx rfl (hb hby d3_49) rfl ?_
      show Steps p.tables e below (T15.setTop (mkF m 50 #[.val (.ref a1), .val (.int p2), .val (.int siz)] [(.int p2), (.int siz), (.ref a1)])) _
      refine XS.iadd X15.here hx rfl (hb hby d3_50) rfl ?_
      show Steps p.tables e below (T15.setTop (mkF m 51 #[.val (.ref a1), .val (.int p2), .val (.int siz)] [(.int (siz + p2)), (.ref a1)])) _
      refine st16 _ ?_
      show Steps p.tables e below (T16.setTop (mkF m 54 #[.val (.ref a1), .val (.int p2), .val (.int siz)] [])) _
      refine XS.iloadN X16.here hx rfl (hb hby d3_54) rfl ?_
      exact kt
    obtain ⟨fs, hr, hrun, hended, hW, hsame⟩ := X16.leave (v := some (.int siz)) (fun h => by rw [Bd.returns] at h; cases h)
    refine ⟨_, _, pre0 _ (sg5 _ (sg18 _ (?_))), hrun, hended, _, _, rfl, ?_, ⟨_, rfl⟩, hW, hsame.mono (by decide) (by decide)⟩
    · show Steps p.tables e below (T16.setTop (mkF m 55 #[.val (.ref a1), .val (.int p2), .val (.int siz)] [(.int siz)])) _
      exact retI X16 hx Bd.returns (hb hby d3_55) hr
    · show Q3 Z a1 p2 siz sin arr kla cap can fco pn h0 n0 _ T16.heap _
      rw [e16]
      exact ⟨ro_12, ko_12, r11, gn, rfl, N16, K16, O17, Fw16, (Fw13.other W16 (sn (.array .double) .int (Or.inl (tw hw 12 rfl)) (Or.inl (tw hw 19 rfl)))), (((F_listed_a1.keep K12q nin0).other W13 (sn (.array .int) (.array .double) (Or.inl (tw hw 82 rfl)) (Or.inl (tw hw 12 rfl)))).other W16 (sn (.array .int) .int (Or.inl (tw hw 82 rfl)) (Or.inl (tw hw 19 rfl)))), ((f12_0.other W13 (Ne.symm (Nat.ne_of_lt (Nat.lt_of_lt_of_le E_a1.lt f12_2)))).other W16 (Ne.symm (Nat.ne_of_lt (Nat.lt_of_lt_of_le E_a1.lt f12_2)))), f12_1, (Or.inr (Nat.le_trans K0.1 f12_2)), hgn, hgm, hg48⟩
  · obtain ⟨T19, X19, e19, st19⟩ := getF X4 hx hZ hown (host := "") (Or.inl (tw hw 18 rfl)) Via.refl e4 F_size_a1 (g := (mkF m 46 #[.val (.ref a1), .val (.int p2), .val (.int siz)] [(.ref a1), (.ref a1)])) rfl rfl (hb hby d3_46)
    obtain ⟨T20, h20, X20, e20, W20, st20⟩ := putF X19 hx hZ hown (host := "") (Or.inl (tw hw 18 rfl)) Via.refl e19 F_size_a1 E_a1 (Or.inl (tw hw 19 rfl)) (tw hw 2 rfl) (ty := .int) (by decide) rfl rfl (g := (mkF m 51 #[.val (.ref a1), .val (.int p2), .val (.int siz)] [(.int (siz + p2)), (.ref a1)])) rfl rfl (hb hby d3_51)
    have Fw20 := F_size_a1.same W20
    have N20 := Fr.snoc X20 N0 ge_a1
    have O21 := O0.wr W20 ge_a1
    have K20 := K0.wr W20 (Or.inl (List.mem_of_getElem? (i := 0) rfl))
    have sg22 : ∀ target, Steps p.tables e below (T20.setTop (mkF m 55 #[.val (.ref a1), .val (.int p2), .val (.int siz)] [(.int siz)])) target → Steps p.tables e below (T4.setTop (mkF m 16 #[.val (.ref a1), .val (.int p2), .val (.int siz)] [(.int (cap - siz)), (.int p2)])) target := by
      intro target kt
      show Steps p.tables e below (T4.setTop (mkF m 16 #[.val (.ref a1), .val (.int p2), .val (.int siz)] [(.int (cap - siz)), (.int p2)])) _
      refine XS.icmpYes X4.here hx rfl (pc0 := 16) (pc' := 44) rfl (hb hby d3_16) rfl (flt hc6).2.2.2 (by decide) (by decide) ?_
      show Steps p.tables e below (T4.setTop (mkF m 44 #[.val (.ref a1), .val (.int p2), .val (.int siz)] [])) _
      refine XS.aloadN X4.here hx rfl (hb hby d3_44) rfl rfl ?_
      show Steps p.tables e below (T4.setTop (mkF m 45 #[.val (.ref a1), .val (.int p2), .val (.int siz)] [(.ref a1)])) _
      refine XS.dup X4.here hx rfl (hb hby d3_45) rfl rfl ?_
      show Steps p.tables e below (T4.setTop (mkF m 46 #[.val (.ref a1), .val (.int p2), .val (.int siz)] [(.ref a1), (.ref a1)])) _
      refine st19 _ ?_
      show Steps p.tables e below (T19.setTop (mkF m 49 #[.val (.ref a1), .val (.int p2), .val (.int siz)] [(.int siz), (.ref a1)])) _
      refine XS.iloadN X19.here hx rfl (hb hby d3_49) rfl ?_
      show Steps p.tables e below (T19.setTop (mkF m 50 #[.val (.ref a1), .val (.int p2), .val (.int siz)] [(.int p2), (.int siz), (.ref a1)])) _
      refine XS.iadd X19.here hx rfl (hb hby d3_50) rfl ?_
      show Steps p.tables e below (T19.setTop (mkF m 51 #[.val (.ref a1), .val (.int p2), .val (.int siz)] [(.int (siz + p2)), (.ref a1)])) _
      refine st20 _ ?_
      show Steps p.tables e below (T20.setTop (mkF m 54 #[.val (.ref a1), .val (.int p2), .val (.int siz)] [])) _
      refine XS.iloadN X20.here hx rfl (hb hby d3_54) rfl ?_
      exact kt
    obtain ⟨fs, hr, hrun, hended, hW, hsame⟩ := X20.leave (v := some (.int siz)) (fun h => by rw [Bd.returns] at h; cases h)
    refine ⟨_, _, pre0 _ (sg5 _ (sg22 _ (?_))), hrun, hended, _, _, rfl, ?_, ⟨_, rfl⟩, hW, hsame.mono (by decide) (by decide)⟩
    · show Steps p.tables e below (T20.setTop (mkF m 55 #[.val (.ref a1), .val (.int p2), .val (.int siz)] [(.int siz)])) _
      exact retI X20 hx Bd.returns (hb hby d3_55) hr
    · show Q3 Z a1 p2 siz sin arr kla cap can fco pn h0 n0 _ T20.heap _
      rw [e20]
      exact ⟨arr, kla, cap, can, rfl, N20, K20, O21, Fw20, (F_numbers_a1.other W20 (sn (.array .double) .int (Or.inl (tw hw 12 rfl)) (Or.inl (tw hw 19 rfl)))), (F_listed_a1.other W20 (sn (.array .int) .int (Or.inl (tw hw 82 rfl)) (Or.inl (tw hw 19 rfl)))), (A_arr.other W20 (Ne.symm (Exa.neArv E_a1 A_arr (tw hw 2 rfl)))), ge_arr, (Or.inl (List.mem_of_getElem? (i := 0) rfl)), h_c, (own_room h_c h_s h_p h_sc h_c48 h_31 hc6), h_c48⟩
def Q12 (Z : State) (a1 : Addr) (p2 : Int32) (arr : Addr) (kla : ClassId) (cap : Int32) (can : Nat) (fco : Nat → Int64) (x3 : Int64) (jn : Nat) (h0 : Heap) (n0 : Nat) (v : Option Value) (h : Heap) (L : List Loc) : Prop := v = none ∧ Fr n0 L ∧ Keep h0 h [arr] ∧ Old Z n0 h ∧ Arv Z h arr kla .double cap (dvs (upd fco jn ((fco jn) + x3))) (.double (FP.l2d 0))
theorem ef_12 (m : MethodId) (x0 : Addr) (x1 : Int32) (x2 : UInt64) : entryFrame m #[(.ref x0), (.int x1), (.double x2)] 8 = mkF m 0 #[.val (.ref x0), .val (.int x1), .val (.double x2), .second, .unset, .unset, .unset, .unset] [] := by first | (simp [entryFrame, mkF, argsToLocals, Value.category]; done) | rfl
set_option maxRecDepth 65536 in
set_option maxHeartbeats 40000000 in
theorem rm12 (l : Launch) (Z : State) (a0 : Array Value) (hw : ∀ d ∈ tables_1, d.before a0 Z = true) (ws : List Jvm.Cond) (a1 : Addr) (p2 : Int32) (arr : Addr) (kla : ClassId) (cap : Int32) (can : Nat) (fco : Nat → Int64) (x3 : Int64) (jn : Nat) (h0 : Heap) (n0 : Nat) (O0 : Old Z n0 h0) (E_a1 : Exa Z h0 a1 "com/example/breakline/breakline/ModifierNumbers") (F_numbers_a1 : Fld Z h0 a1 "com/example/breakline/breakline/ModifierNumbers" "numbers" "[D" (.ref arr)) (F_listed_a1 : Fld Z h0 a1 "com/example/breakline/breakline/ModifierNumbers" "listed" "[I" .null) (A_arr : Arv Z h0 arr kla .double cap (dvs fco) (.double (FP.l2d 0))) (ge_arr : n0 ≤ arr) (h_c : Sm cap can) (h_c48 : can ≤ 48) (h_j : Sm p2 jn) (h_jc : jn < can) (h_b : B53 (fco jn)) (h_x : B53 x3) :
    MetFree l (⟨"com/example/breakline/breakline/ModifierNumbers", "add", "(ID)V"⟩ : MethodName) (head1 (Jvm.Cond.code (⟨"com/example/breakline/breakline/ModifierNumbers", "add", "(ID)V"⟩ : MethodName) prog_49_method_4_code 8 none :: ws) ({ frames := 0, cells := 0, slots := 0, locals := 0 } : Room)) (fun a U => a = #[(.ref a1), (.int p2), (.double (FP.l2d x3))] ∧ Z.Warmed39 U.vm ∧ U.heap = h0) (fun _ _ _ _ _ => True) (fun _ U o U' => ∃ v L, o = .returned v ∧ Q12 Z a1 p2 arr kla cap can fco x3 jn h0 n0 v U'.heap L ∧ FrameEnd U o U' L ({ frames := 0, cells := 0, slots := 0, locals := 0 } : Room).cells ({ frames := 0, cells := 0, slots := 0, locals := 0 } : Room).slots) := by
  refine MetFree.of_bodySF (plainFor_of_name pn_0) hisR ?_
  intro p e s m args below meth c s₁ Bd hml0 hP hK
  obtain ⟨rfl, hZ, hh⟩ := hP
  have hx := Bd.exec
  have hby := Bd.bytes
  have hml : c.maxLocals = 8 := hml0
  have hown : s.vm.findClass "com/example/breakline/breakline/ModifierNumbers" = some m.cls := findClass_of_methodNamed Bd.named
  have hnm := (name_of_methodNamed Bd.named Bd.method).1
  have X0 : Stand p l e ({ frames := 0, cells := 0, slots := 0, locals := 0 } : Room) s m #[(.ref a1), (.int p2), (.double (FP.l2d x3))] below meth c s₁ [] 0 0 := Stand.of_body Bd
  have e0 : s₁.heap = h0 := by rw [← hh, Bd.state]; rfl
  have N0 := Fr.nil n0
  have pre0 : ∀ t, Steps p.tables e below (s₁.setTop (mkF m 0 #[.val (.ref a1), .val (.int p2), .val (.double (FP.l2d x3)), .second, .unset, .unset, .unset, .unset] [])) t → Steps p.tables e below (s₁.setTop (entryFrame m #[(.ref a1), (.int p2), (.double (FP.l2d x3))] 8)) t := fun t k => castTop (ef_12 m a1 p2 (FP.l2d x3)) k
  have K0 := Keep.refl h0 [arr]
  obtain ⟨T1, X1, e1, st1⟩ := getF X0 hx hZ hown (host := "") (Or.inl (tw hw 11 rfl)) Via.refl e0 F_numbers_a1 (g := (mkF m 1 #[.val (.ref a1), .val (.int p2), .val (.double (FP.l2d x3)), .second, .unset, .unset, .unset, .unset] [(.ref a1)])) rfl rfl (hb hby d12_1)
  obtain ⟨cl2, Ar2, -, Sz2, Nn2, Hh2, -⟩ := id A_arr
  have hin2 : ¬ (p2 < 0 ∨ cl2.slots.size ≤ (p2).toNatClampNeg) := own_inb Sz2 h_j h_c h_jc
  have hat2 : cl2.slots[(p2).toNatClampNeg]? = some (.double (FP.l2d (fco jn))) := Has.at Hh2 hin2 (own_dvs_at h_j (Nat.lt_of_lt_of_le h_jc h_c48))
  obtain ⟨T3, X3, e3, st3⟩ := getF X1 hx hZ hown (host := "") (Or.inl (tw hw 11 rfl)) Via.refl e1 F_numbers_a1 (g := (mkF m 15 #[.val (.ref a1), .val (.int p2), .val (.double (FP.l2d x3)), .second, .val (.double (FP.l2d (fco jn))), .second, .val (.double (FP.l2d ((fco jn) + x3))), .second] [(.ref a1)])) rfl rfl (hb hby d12_15)
  obtain ⟨cl4, Ar4, q4, Sz4, Nn4, Hh4, Gg4⟩ := id A_arr
  have hin4 : ¬ (p2 < 0 ∨ cl4.slots.size ≤ (p2).toNatClampNeg) := own_inb Sz4 h_j h_c h_jc
  obtain ⟨T5, h5, X5, e5, W5, st5⟩ := stD X3 hx hZ e3 Ar4 (j := p2) hin4 (g := (mkF m 21 #[.val (.ref a1), .val (.int p2), .val (.double (FP.l2d x3)), .second, .val (.double (FP.l2d (fco jn))), .second, .val (.double (FP.l2d ((fco jn) + x3))), .second] [(.double (FP.l2d ((fco jn) + x3))), (.int p2), (.ref arr)])) rfl rfl (hb hby d12_21)
  have V5 : Arv Z h5 arr kla .double cap (dvs (upd fco jn ((fco jn) + x3))) (.double (FP.l2d 0)) := own_set Ar4 q4 Sz4 Nn4 Hh4 Gg4 W5 h_j (Nat.lt_of_lt_of_le h_jc h_c48)
  have N5 := Fr.snoc X5 N0 ge_arr
  have O6 := O0.wr W5 ge_arr
  have K5 := K0.wr W5 (Or.inl (List.mem_of_getElem? (i := 0) rfl))
  obtain ⟨T7, X7, e7, st7⟩ := getF X5 hx hZ hown (host := "") (Or.inl (tw hw 81 rfl)) Via.refl e5 (F_listed_a1.other W5 (Or.inl (Exa.neArv (E_a1.wr W5) V5 (tw hw 2 rfl)))) (g := (mkF m 23 #[.val (.ref a1), .val (.int p2), .val (.double (FP.l2d x3)), .second, .val (.double (FP.l2d (fco jn))), .second, .val (.double (FP.l2d ((fco jn) + x3))), .second] [(.ref a1)])) rfl rfl (hb hby d12_23)
  have sg8 : ∀ target, Steps p.tables e below (T7.setTop (mkF m 70 #[.val (.ref a1), .val (.int p2), .val (.double (FP.l2d x3)), .second, .val (.double (FP.l2d (fco jn))), .second, .val (.double (FP.l2d ((fco jn) + x3))), .second] [])) target → Steps p.tables e below (s₁.setTop (mkF m 0 #[.val (.ref a1), .val (.int p2), .val (.double (FP.l2d x3)), .second, .unset, .unset, .unset, .unset] [])) target := by
    intro target kt
    show Steps p.tables e below (s₁.setTop (mkF m 0 #[.val (.ref a1), .val (.int p2), .val (.double (FP.l2d x3)), .second, .unset, .unset, .unset, .unset] [])) _
    refine XS.aloadN X0.here hx rfl (hb hby d12_0) rfl rfl ?_
    show Steps p.tables e below (s₁.setTop (mkF m 1 #[.val (.ref a1), .val (.int p2), .val (.double (FP.l2d x3)), .second, .unset, .unset, .unset, .unset] [(.ref a1)])) _
    refine st1 _ ?_
    show Steps p.tables e below (T1.setTop (mkF m 4 #[.val (.ref a1), .val (.int p2), .val (.double (FP.l2d x3)), .second, .unset, .unset, .unset, .unset] [(.ref arr)])) _
    refine XS.iloadN X1.here hx rfl (hb hby d12_4) rfl ?_
    show Steps p.tables e below (T1.setTop (mkF m 5 #[.val (.ref a1), .val (.int p2), .val (.double (FP.l2d x3)), .second, .unset, .unset, .unset, .unset] [(.int p2), (.ref arr)])) _
    refine X1.daload hx (j := p2) (v := .double (FP.l2d (fco jn))) (by rw [e1]; exact Ar2.1) (State.isArrayOf_alike hZ.alike Ar2.2.1) Ar2.2.2 hin2 hat2 (g := (mkF m 5 #[.val (.ref a1), .val (.int p2), .val (.double (FP.l2d x3)), .second, .unset, .unset, .unset, .unset] [(.int p2), (.ref arr)])) rfl rfl (hb hby d12_5) _ ?_
    show Steps p.tables e below (T1.setTop (mkF m 6 #[.val (.ref a1), .val (.int p2), .val (.double (FP.l2d x3)), .second, .unset, .unset, .unset, .unset] [(.double (FP.l2d (fco jn)))])) _
    refine XS.dstore X1.here hx rfl (hb hby d12_6) rfl (l' := #[.val (.ref a1), .val (.int p2), .val (.double (FP.l2d x3)), .second, .val (.double (FP.l2d (fco jn))), .second, .unset, .unset]) rfl ?_
    show Steps p.tables e below (T1.setTop (mkF m 8 #[.val (.ref a1), .val (.int p2), .val (.double (FP.l2d x3)), .second, .val (.double (FP.l2d (fco jn))), .second, .unset, .unset] [])) _
    refine XS.dload X1.here hx rfl (hb hby d12_8) rfl ?_
    show Steps p.tables e below (T1.setTop (mkF m 10 #[.val (.ref a1), .val (.int p2), .val (.double (FP.l2d x3)), .second, .val (.double (FP.l2d (fco jn))), .second, .unset, .unset] [(.double (FP.l2d (fco jn)))])) _
    refine XS.dloadN X1.here hx rfl (hb hby d12_10) rfl ?_
    show Steps p.tables e below (T1.setTop (mkF m 11 #[.val (.ref a1), .val (.int p2), .val (.double (FP.l2d x3)), .second, .val (.double (FP.l2d (fco jn))), .second, .unset, .unset] [(.double (FP.l2d x3)), (.double (FP.l2d (fco jn)))])) _
    refine XS.daddS X1.here hx rfl (hb hby d12_11) rfl (nn_w (dadd_w h_b h_x)) (dadd_w h_b h_x) ?_
    show Steps p.tables e below (T1.setTop (mkF m 12 #[.val (.ref a1), .val (.int p2), .val (.double (FP.l2d x3)), .second, .val (.double (FP.l2d (fco jn))), .second, .unset, .unset] [(.double (FP.l2d ((fco jn) + x3)))])) _
    refine XS.dstore X1.here hx rfl (hb hby d12_12) rfl (l' := #[.val (.ref a1), .val (.int p2), .val (.double (FP.l2d x3)), .second, .val (.double (FP.l2d (fco jn))), .second, .val (.double (FP.l2d ((fco jn) + x3))), .second]) rfl ?_
    show Steps p.tables e below (T1.setTop (mkF m 14 #[.val (.ref a1), .val (.int p2), .val (.double (FP.l2d x3)), .second, .val (.double (FP.l2d (fco jn))), .second, .val (.double (FP.l2d ((fco jn) + x3))), .second] [])) _
    refine XS.aloadN X1.here hx rfl (hb hby d12_14) rfl rfl ?_
    show Steps p.tables e below (T1.setTop (mkF m 15 #[.val (.ref a1), .val (.int p2), .val (.double (FP.l2d x3)), .second, .val (.double (FP.l2d (fco jn))), .second, .val (.double (FP.l2d ((fco jn) + x3))), .second] [(.ref a1)])) _
    refine st3 _ ?_
    show Steps p.tables e below (T3.setTop (mkF m 18 #[.val (.ref a1), .val (.int p2), .val (.double (FP.l2d x3)), .second, .val (.double (FP.l2d (fco jn))), .second, .val (.double (FP.l2d ((fco jn) + x3))), .second] [(.ref arr)])) _
    refine XS.iloadN X3.here hx rfl (hb hby d12_18) rfl ?_
    show Steps p.tables e below (T3.setTop (mkF m 19 #[.val (.ref a1), .val (.int p2), .val (.double (FP.l2d x3)), .second, .val (.double (FP.l2d (fco jn))), .second, .val (.double (FP.l2d ((fco jn) + x3))), .second] [(.int p2), (.ref arr)])) _
    refine XS.dload X3.here hx rfl (hb hby d12_19) rfl ?_
    show Steps p.tables e below (T3.setTop (mkF m 21 #[.val (.ref a1), .val (.int p2), .val (.double (FP.l2d x3)), .second, .val (.double (FP.l2d (fco jn))), .second, .val (.double (FP.l2d ((fco jn) + x3))), .second] [(.double (FP.l2d ((fco jn) + x3))), (.int p2), (.ref arr)])) _
    refine st5 _ ?_
    show Steps p.tables e below (T5.setTop (mkF m 22 #[.val (.ref a1), .val (.int p2), .val (.double (FP.l2d x3)), .second, .val (.double (FP.l2d (fco jn))), .second, .val (.double (FP.l2d ((fco jn) + x3))), .second] [])) _
    refine XS.aloadN X5.here hx rfl (hb hby d12_22) rfl rfl ?_
    show Steps p.tables e below (T5.setTop (mkF m 23 #[.val (.ref a1), .val (.int p2), .val (.double (FP.l2d x3)), .second, .val (.double (FP.l2d (fco jn))), .second, .val (.double (FP.l2d ((fco jn) + x3))), .second] [(.ref a1)])) _
    refine st7 _ ?_
    show Steps p.tables e below (T7.setTop (mkF m 26 #[.val (.ref a1), .val (.int p2), .val (.double (FP.l2d x3)), .second, .val (.double (FP.l2d (fco jn))), .second, .val (.double (FP.l2d ((fco jn) + x3))), .second] [.null])) _
    refine XS.ifnullYes X7.here hx rfl (pc0 := 26) (pc' := 70) rfl (hb hby d12_26) rfl (by decide) (by decide) ?_
    exact kt
  obtain ⟨fs, hr, hrun, hended, hW, hsame⟩ := X7.leave (v := none) (fun _ => rfl)
  refine ⟨_, _, pre0 _ (sg8 _ (?_)), hrun, hended, _, _, rfl, ?_, ⟨_, rfl⟩, hW, hsame.mono (by decide) (by decide)⟩
  · show Steps p.tables e below (T7.setTop (mkF m 70 #[.val (.ref a1), .val (.int p2), .val (.double (FP.l2d x3)), .second, .val (.double (FP.l2d (fco jn))), .second, .val (.double (FP.l2d ((fco jn) + x3))), .second] [])) _
    exact X7.returnOut hx Bd.returns (hb hby d12_70) hr
  · show Q12 Z a1 p2 arr kla cap can fco x3 jn h0 n0 _ T7.heap _
    rw [e7]
    exact ⟨rfl, N5, K5, O6, V5⟩
def Q15 (Z : State) (a1 : Addr) (p2 : Int32) (arr : Addr) (kla : ClassId) (cap : Int32) (can : Nat) (fco : Nat → Int64) (jn : Nat) (h0 : Heap) (n0 : Nat) (v : Option Value) (h : Heap) (L : List Loc) : Prop := v = some (.double (FP.l2d (fco jn))) ∧ Fr n0 L ∧ h = h0
theorem ef_15 (m : MethodId) (x0 : Addr) (x1 : Int32) : entryFrame m #[(.ref x0), (.int x1)] 2 = mkF m 0 #[.val (.ref x0), .val (.int x1)] [] := by first | (simp [entryFrame, mkF, argsToLocals, Value.category]; done) | rfl
set_option maxRecDepth 65536 in
set_option maxHeartbeats 40000000 in
theorem rm15 (l : Launch) (Z : State) (a0 : Array Value) (hw : ∀ d ∈ tables_1, d.before a0 Z = true) (ws : List Jvm.Cond) (a1 : Addr) (p2 : Int32) (arr : Addr) (kla : ClassId) (cap : Int32) (can : Nat) (fco : Nat → Int64) (jn : Nat) (h0 : Heap) (n0 : Nat) (O0 : Old Z n0 h0) (F_numbers_a1 : Fld Z h0 a1 "com/example/breakline/breakline/ModifierNumbers" "numbers" "[D" (.ref arr)) (A_arr : Arv Z h0 arr kla .double cap (dvs fco) (.double (FP.l2d 0))) (h_c : Sm cap can) (h_c48 : can ≤ 48) (h_j : Sm p2 jn) (h_jc : jn < can) :
    MetFree l (⟨"com/example/breakline/breakline/ModifierNumbers", "get", "(I)D"⟩ : MethodName) (head1 (Jvm.Cond.code (⟨"com/example/breakline/breakline/ModifierNumbers", "get", "(I)D"⟩ : MethodName) prog_49_method_3_code 2 (some .double) :: ws) ({ frames := 0, cells := 0, slots := 0, locals := 0 } : Room)) (fun a U => a = #[(.ref a1), (.int p2)] ∧ Z.Warmed39 U.vm ∧ U.heap = h0) (fun _ _ _ _ _ => True) (fun _ U o U' => ∃ v L, o = .returned v ∧ Q15 Z a1 p2 arr kla cap can fco jn h0 n0 v U'.heap L ∧ FrameEnd U o U' L ({ frames := 0, cells := 0, slots := 0, locals := 0 } : Room).cells ({ frames := 0, cells := 0, slots := 0, locals := 0 } : Room).slots) := by
  refine MetFree.of_bodySF (plainFor_of_name pn_0) hisR ?_
  intro p e s m args below meth c s₁ Bd hml0 hP hK
  obtain ⟨rfl, hZ, hh⟩ := hP
  have hx := Bd.exec
  have hby := Bd.bytes
  have hml : c.maxLocals = 2 := hml0
  have hown : s.vm.findClass "com/example/breakline/breakline/ModifierNumbers" = some m.cls := findClass_of_methodNamed Bd.named
  have hnm := (name_of_methodNamed Bd.named Bd.method).1
  have X0 : Stand p l e ({ frames := 0, cells := 0, slots := 0, locals := 0 } : Room) s m #[(.ref a1), (.int p2)] below meth c s₁ [] 0 0 := Stand.of_body Bd
  have e0 : s₁.heap = h0 := by rw [← hh, Bd.state]; rfl
  have N0 := Fr.nil n0
  have pre0 : ∀ t, Steps p.tables e below (s₁.setTop (mkF m 0 #[.val (.ref a1), .val (.int p2)] [])) t → Steps p.tables e below (s₁.setTop (entryFrame m #[(.ref a1), (.int p2)] 2)) t := fun t k => castTop (ef_15 m a1 p2) k
  obtain ⟨T1, X1, e1, st1⟩ := getF X0 hx hZ hown (host := "") (Or.inl (tw hw 11 rfl)) Via.refl e0 F_numbers_a1 (g := (mkF m 1 #[.val (.ref a1), .val (.int p2)] [(.ref a1)])) rfl rfl (hb hby d15_1)
  obtain ⟨cl2, Ar2, -, Sz2, Nn2, Hh2, -⟩ := id A_arr
  have hin2 : ¬ (p2 < 0 ∨ cl2.slots.size ≤ (p2).toNatClampNeg) := own_inb Sz2 h_j h_c h_jc
  have hat2 : cl2.slots[(p2).toNatClampNeg]? = some (.double (FP.l2d (fco jn))) := Has.at Hh2 hin2 (own_dvs_at h_j (Nat.lt_of_lt_of_le h_jc h_c48))
  have sg3 : ∀ target, Steps p.tables e below (T1.setTop (mkF m 6 #[.val (.ref a1), .val (.int p2)] [(.double (FP.l2d (fco jn)))])) target → Steps p.tables e below (s₁.setTop (mkF m 0 #[.val (.ref a1), .val (.int p2)] [])) target := by
    intro target kt
    show Steps p.tables e below (s₁.setTop (mkF m 0 #[.val (.ref a1), .val (.int p2)] [])) _
    refine XS.aloadN X0.here hx rfl (hb hby d15_0) rfl rfl ?_
    show Steps p.tables e below (s₁.setTop (mkF m 1 #[.val (.ref a1), .val (.int p2)] [(.ref a1)])) _
    refine st1 _ ?_
    show Steps p.tables e below (T1.setTop (mkF m 4 #[.val (.ref a1), .val (.int p2)] [(.ref arr)])) _
    refine XS.iloadN X1.here hx rfl (hb hby d15_4) rfl ?_
    show Steps p.tables e below (T1.setTop (mkF m 5 #[.val (.ref a1), .val (.int p2)] [(.int p2), (.ref arr)])) _
    refine X1.daload hx (j := p2) (v := .double (FP.l2d (fco jn))) (by rw [e1]; exact Ar2.1) (State.isArrayOf_alike hZ.alike Ar2.2.1) Ar2.2.2 hin2 hat2 (g := (mkF m 5 #[.val (.ref a1), .val (.int p2)] [(.int p2), (.ref arr)])) rfl rfl (hb hby d15_5) _ ?_
    exact kt
  obtain ⟨fs, hr, hrun, hended, hW, hsame⟩ := X1.leave (v := some (.double (FP.l2d (fco jn)))) (fun h => by rw [Bd.returns] at h; cases h)
  refine ⟨_, _, pre0 _ (sg3 _ (?_)), hrun, hended, _, _, rfl, ?_, ⟨_, rfl⟩, hW, hsame.mono (by decide) (by decide)⟩
  · show Steps p.tables e below (T1.setTop (mkF m 6 #[.val (.ref a1), .val (.int p2)] [(.double (FP.l2d (fco jn)))])) _
    jvm_step X1.here [X1.here.top, hx, (hb hby d15_6), X1.method', Bd.returns, narrow]
    first | (intro acts; rw [hr _ acts rfl rfl rfl]) | rw [hr _ _ rfl rfl rfl]
    exact Steps.refl _
  · show Q15 Z a1 p2 arr kla cap can fco jn h0 n0 _ T1.heap _
    rw [e1]
    exact ⟨rfl, N0, rfl⟩
def Q9 (Z : State) (a1 : Addr) (a2 : Addr) (p3 : Int32) (p4 : Int32) (h0 : Heap) (n0 : Nat) (v : Option Value) (h : Heap) (L : List Loc) : Prop := v = none ∧ Fr n0 L ∧ Keep h0 h [a1] ∧ Old Z n0 h ∧ Fld Z h a1 "com/example/breakline/breakline/ModifierTable" "rowsAt" "I" (.int (-1 : Int32)) ∧ Fld Z h a1 "com/example/breakline/breakline/ModifierTable" "columnsAt" "I" (.int (-1 : Int32)) ∧ Fld Z h a1 "com/example/breakline/breakline/ModifierTable" "entriesAt" "I" (.int (-1 : Int32)) ∧ Fld Z h a1 "com/example/breakline/breakline/ModifierTable" "numbers" "Lcom/example/breakline/breakline/ModifierNumbers;" (.ref a2) ∧ Fld Z h a1 "com/example/breakline/breakline/ModifierTable" "ownValues" "I" (.int p3) ∧ Fld Z h a1 "com/example/breakline/breakline/ModifierTable" "neighbourValues" "I" (.int p4) ∧ Fld Z h a1 "com/example/breakline/breakline/ModifierTable" "whole" "D" (.double (FP.l2d 0))
theorem ef_9 (m : MethodId) (x0 : Addr) (x1 : Addr) (x2 : Int32) (x3 : Int32) : entryFrame m #[(.ref x0), (.ref x1), (.int x2), (.int x3)] 4 = mkF m 0 #[.val (.ref x0), .val (.ref x1), .val (.int x2), .val (.int x3)] [] := by first | (simp [entryFrame, mkF, argsToLocals, Value.category]; done) | rfl
set_option maxRecDepth 65536 in
set_option maxHeartbeats 40000000 in
theorem rm9 (l : Launch) (Z : State) (a0 : Array Value) (hw : ∀ d ∈ tables_1, d.before a0 Z = true) (ws : List Jvm.Cond) (a1 : Addr) (a2 : Addr) (p3 : Int32) (p4 : Int32) (h0 : Heap) (n0 : Nat) (O0 : Old Z n0 h0) (E_a1 : Exa Z h0 a1 "com/example/breakline/breakline/ModifierTable") (F_rowsAt_a1 : Fld Z h0 a1 "com/example/breakline/breakline/ModifierTable" "rowsAt" "I" (.int (0 : Int32))) (F_columnsAt_a1 : Fld Z h0 a1 "com/example/breakline/breakline/ModifierTable" "columnsAt" "I" (.int (0 : Int32))) (F_entriesAt_a1 : Fld Z h0 a1 "com/example/breakline/breakline/ModifierTable" "entriesAt" "I" (.int (0 : Int32))) (F_numbers_a1 : Fld Z h0 a1 "com/example/breakline/breakline/ModifierTable" "numbers" "Lcom/example/breakline/breakline/ModifierNumbers;" .null) (F_ownValues_a1 : Fld Z h0 a1 "com/example/breakline/breakline/ModifierTable" "ownValues" "I" (.int (0 : Int32))) (F_neighbourValues_a1 : Fld Z h0 a1 "com/example/breakline/breakline/ModifierTable" "neighbourValues" "I" (.int (0 : Int32))) (F_whole_a1 : Fld Z h0 a1 "com/example/breakline/breakline/ModifierTable" "whole" "D" (.double (0 : UInt64))) (ge_a1 : n0 ≤ a1) (E_a2 : Exa Z h0 a2 "com/example/breakline/breakline/ModifierNumbers") :
    MetFree l (⟨"com/example/breakline/breakline/ModifierTable", "<init>", "(Lcom/example/breakline/breakline/ModifierNumbers;II)V"⟩ : MethodName) (head1 (Jvm.Cond.code (⟨"com/example/breakline/breakline/ModifierTable", "<init>", "(Lcom/example/breakline/breakline/ModifierNumbers;II)V"⟩ : MethodName) prog_50_method_2_code 4 none :: ws) ({ frames := 1, cells := 0, slots := 0, locals := 12 } : Room)) (fun a U => a = #[(.ref a1), (.ref a2), (.int p3), (.int p4)] ∧ Z.Warmed39 U.vm ∧ U.heap = h0) (fun _ _ _ _ _ => True) (fun _ U o U' => ∃ v L, o = .returned v ∧ Q9 Z a1 a2 p3 p4 h0 n0 v U'.heap L ∧ FrameEnd U o U' L ({ frames := 1, cells := 0, slots := 0, locals := 12 } : Room).cells ({ frames := 1, cells := 0, slots := 0, locals := 12 } : Room).slots) := by
  refine MetFree.of_bodySF (plainFor_of_name pn_2) hisR ?_
  intro p e s m args below meth c s₁ Bd hml0 hP hK
  obtain ⟨rfl, hZ, hh⟩ := hP
  have hx := Bd.exec
  have hby := Bd.bytes
  have hml : c.maxLocals = 4 := hml0
  have hown : s.vm.findClass "com/example/breakline/breakline/ModifierTable" = some m.cls := findClass_of_methodNamed Bd.named
  have hnm := (name_of_methodNamed Bd.named Bd.method).1
  have X0 : Stand p l e ({ frames := 1, cells := 0, slots := 0, locals := 12 } : Room) s m #[(.ref a1), (.ref a2), (.int p3), (.int p4)] below meth c s₁ [] 0 0 := Stand.of_body Bd
  have e0 : s₁.heap = h0 := by rw [← hh, Bd.state]; rfl
  have N0 := Fr.nil n0
  have pre0 : ∀ t, Steps p.tables e below (s₁.setTop (mkF m 0 #[.val (.ref a1), .val (.ref a2), .val (.int p3), .val (.int p4)] [])) t → Steps p.tables e below (s₁.setTop (entryFrame m #[(.ref a1), (.ref a2), (.int p3), (.int p4)] 4)) t := fun t k => castTop (ef_9 m a1 a2 p3 p4) k
  have K0 := Keep.refl h0 [a1]
  obtain ⟨T1, X1, e1, st1⟩ := initO X0 hx hZ hown (tw hw 50 rfl) (tw hw 8 rfl) (tw hw 9 rfl) e0 (g := (mkF m 1 #[.val (.ref a1), .val (.ref a2), .val (.int p3), .val (.int p4)] [(.ref a1)])) rfl (by rw [hml]; rfl) rfl (hb hby d9_1) (by decide) (W := 0) (by show 2 * 0 + _ ≤ _; exact Nat.le_of_eq rfl) (by decide)
  obtain ⟨T2, h2, X2, e2, W2, st2⟩ := putF X1 hx hZ hown (host := "") (Or.inl (tw hw 51 rfl)) Via.refl e1 F_rowsAt_a1 E_a1 (Or.inl (tw hw 52 rfl)) (tw hw 45 rfl) (ty := .int) (by decide) rfl rfl (g := (mkF m 6 #[.val (.ref a1), .val (.ref a2), .val (.int p3), .val (.int p4)] [(.int (-1 : Int32)), (.ref a1)])) rfl rfl (hb hby d9_6)
  have Fw2 := F_rowsAt_a1.same W2
  have N2 := Fr.snoc X2 N0 ge_a1
  have O3 := O0.wr W2 ge_a1
  have K2 := K0.wr W2 (Or.inl (List.mem_of_getElem? (i := 0) rfl))
  obtain ⟨T4, h4, X4, e4, W4, st4⟩ := putF X2 hx hZ hown (host := "") (Or.inl (tw hw 53 rfl)) Via.refl e2 (F_columnsAt_a1.other W2 (sn .int .int (Or.inl (tw hw 54 rfl)) (Or.inl (tw hw 52 rfl)))) (E_a1.wr W2) (Or.inl (tw hw 54 rfl)) (tw hw 45 rfl) (ty := .int) (by decide) rfl rfl (g := (mkF m 11 #[.val (.ref a1), .val (.ref a2), .val (.int p3), .val (.int p4)] [(.int (-1 : Int32)), (.ref a1)])) rfl rfl (hb hby d9_11)
  have Fw4 := (F_columnsAt_a1.other W2 (sn .int .int (Or.inl (tw hw 54 rfl)) (Or.inl (tw hw 52 rfl)))).same W4
  have N4 := Fr.snoc X4 N2 ge_a1
  have O5 := O3.wr W4 ge_a1
  have K4 := K2.wr W4 (Or.inl (List.mem_of_getElem? (i := 0) rfl))
  obtain ⟨T6, h6, X6, e6, W6, st6⟩ := putF X4 hx hZ hown (host := "") (Or.inl (tw hw 55 rfl)) Via.refl e4 ((F_entriesAt_a1.other W2 (sn .int .int (Or.inl (tw hw 56 rfl)) (Or.inl (tw hw 52 rfl)))).other W4 (sn .int .int (Or.inl (tw hw 56 rfl)) (Or.inl (tw hw 54 rfl)))) ((E_a1.wr W2).wr W4) (Or.inl (tw hw 56 rfl)) (tw hw 45 rfl) (ty := .int) (by decide) rfl rfl (g := (mkF m 16 #[.val (.ref a1), .val (.ref a2), .val (.int p3), .val (.int p4)] [(.int (-1 : Int32)), (.ref a1)])) rfl rfl (hb hby d9_16)
  have Fw6 := ((F_entriesAt_a1.other W2 (sn .int .int (Or.inl (tw hw 56 rfl)) (Or.inl (tw hw 52 rfl)))).other W4 (sn .int .int (Or.inl (tw hw 56 rfl)) (Or.inl (tw hw 54 rfl)))).same W6
  have N6 := Fr.snoc X6 N4 ge_a1
  have O7 := O5.wr W6 ge_a1
  have K6 := K4.wr W6 (Or.inl (List.mem_of_getElem? (i := 0) rfl))
  obtain ⟨T8, h8, X8, e8, W8, st8⟩ := putF X6 hx hZ hown (host := "") (Or.inl (tw hw 57 rfl)) Via.refl e6 (((F_numbers_a1.other W2 (sn (.object "com/example/breakline/breakline/ModifierNumbers") .int (Or.inr (tw hw 58 rfl)) (Or.inl (tw hw 52 rfl)))).other W4 (sn (.object "com/example/breakline/breakline/ModifierNumbers") .int (Or.inr (tw hw 58 rfl)) (Or.inl (tw hw 54 rfl)))).other W6 (sn (.object "com/example/breakline/breakline/ModifierNumbers") .int (Or.inr (tw hw 58 rfl)) (Or.inl (tw hw 56 rfl)))) (((E_a1.wr W2).wr W4).wr W6) (Or.inr ⟨(tw hw 58 rfl), rfl, hnm⟩) (tw hw 45 rfl) (ty := (.object "com/example/breakline/breakline/ModifierNumbers")) (by decide) rfl rfl (g := (mkF m 21 #[.val (.ref a1), .val (.ref a2), .val (.int p3), .val (.int p4)] [(.ref a2), (.ref a1)])) rfl rfl (hb hby d9_21)
  have Fw8 := (((F_numbers_a1.other W2 (sn (.object "com/example/breakline/breakline/ModifierNumbers") .int (Or.inr (tw hw 58 rfl)) (Or.inl (tw hw 52 rfl)))).other W4 (sn (.object "com/example/breakline/breakline/ModifierNumbers") .int (Or.inr (tw hw 58 rfl)) (Or.inl (tw hw 54 rfl)))).other W6 (sn (.object "com/example/breakline/breakline/ModifierNumbers") .int (Or.inr (tw hw 58 rfl)) (Or.inl (tw hw 56 rfl)))).same W8
  have N8 := Fr.snoc X8 N6 ge_a1
  have O9 := O7.wr W8 ge_a1
  have K8 := K6.wr W8 (Or.inl (List.mem_of_getElem? (i := 0) rfl))
  obtain ⟨T10, h10, X10, e10, W10, st10⟩ := putF X8 hx hZ hown (host := "") (Or.inl (tw hw 59 rfl)) Via.refl e8 ((((F_ownValues_a1.other W2 (sn .int .int (Or.inr (tw hw 60 rfl)) (Or.inl (tw hw 52 rfl)))).other W4 (sn .int .int (Or.inr (tw hw 60 rfl)) (Or.inl (tw hw 54 rfl)))).other W6 (sn .int .int (Or.inr (tw hw 60 rfl)) (Or.inl (tw hw 56 rfl)))).other W8 (sn .int (.object "com/example/breakline/breakline/ModifierNumbers") (Or.inr (tw hw 60 rfl)) (Or.inr (tw hw 58 rfl)))) ((((E_a1.wr W2).wr W4).wr W6).wr W8) (Or.inr ⟨(tw hw 60 rfl), rfl, hnm⟩) (tw hw 45 rfl) (ty := .int) (by decide) rfl rfl (g := (mkF m 26 #[.val (.ref a1), .val (.ref a2), .val (.int p3), .val (.int p4)] [(.int p3), (.ref a1)])) rfl rfl (hb hby d9_26)
  have Fw10 := ((((F_ownValues_a1.other W2 (sn .int .int (Or.inr (tw hw 60 rfl)) (Or.inl (tw hw 52 rfl)))).other W4 (sn .int .int (Or.inr (tw hw 60 rfl)) (Or.inl (tw hw 54 rfl)))).other W6 (sn .int .int (Or.inr (tw hw 60 rfl)) (Or.inl (tw hw 56 rfl)))).other W8 (sn .int (.object "com/example/breakline/breakline/ModifierNumbers") (Or.inr (tw hw 60 rfl)) (Or.inr (tw hw 58 rfl)))).same W10
  have N10 := Fr.snoc X10 N8 ge_a1
  have O11 := O9.wr W10 ge_a1
  have K10 := K8.wr W10 (Or.inl (List.mem_of_getElem? (i := 0) rfl))
  obtain ⟨T12, h12, X12, e12, W12, st12⟩ := putF X10 hx hZ hown (host := "") (Or.inl (tw hw 61 rfl)) Via.refl e10 (((((F_neighbourValues_a1.other W2 (sn .int .int (Or.inr (tw hw 62 rfl)) (Or.inl (tw hw 52 rfl)))).other W4 (sn .int .int (Or.inr (tw hw 62 rfl)) (Or.inl (tw hw 54 rfl)))).other W6 (sn .int .int (Or.inr (tw hw 62 rfl)) (Or.inl (tw hw 56 rfl)))).other W8 (sn .int (.object "com/example/breakline/breakline/ModifierNumbers") (Or.inr (tw hw 62 rfl)) (Or.inr (tw hw 58 rfl)))).other W10 (sn .int .int (Or.inr (tw hw 62 rfl)) (Or.inr (tw hw 60 rfl)))) (((((E_a1.wr W2).wr W4).wr W6).wr W8).wr W10) (Or.inr ⟨(tw hw 62 rfl), rfl, hnm⟩) (tw hw 45 rfl) (ty := .int) (by decide) rfl rfl (g := (mkF m 31 #[.val (.ref a1), .val (.ref a2), .val (.int p3), .val (.int p4)] [(.int p4), (.ref a1)])) rfl rfl (hb hby d9_31)
  have Fw12 := (((((F_neighbourValues_a1.other W2 (sn .int .int (Or.inr (tw hw 62 rfl)) (Or.inl (tw hw 52 rfl)))).other W4 (sn .int .int (Or.inr (tw hw 62 rfl)) (Or.inl (tw hw 54 rfl)))).other W6 (sn .int .int (Or.inr (tw hw 62 rfl)) (Or.inl (tw hw 56 rfl)))).other W8 (sn .int (.object "com/example/breakline/breakline/ModifierNumbers") (Or.inr (tw hw 62 rfl)) (Or.inr (tw hw 58 rfl)))).other W10 (sn .int .int (Or.inr (tw hw 62 rfl)) (Or.inr (tw hw 60 rfl)))).same W12
  have N12 := Fr.snoc X12 N10 ge_a1
  have O13 := O11.wr W12 ge_a1
  have K12 := K10.wr W12 (Or.inl (List.mem_of_getElem? (i := 0) rfl))
  have sg14 : ∀ target, Steps p.tables e below (T12.setTop (mkF m 34 #[.val (.ref a1), .val (.ref a2), .val (.int p3), .val (.int p4)] [])) target → Steps p.tables e below (s₁.setTop (mkF m 0 #[.val (.ref a1), .val (.ref a2), .val (.int p3), .val (.int p4)] [])) target := by
    intro target kt
    show Steps p.tables e below (s₁.setTop (mkF m 0 #[.val (.ref a1), .val (.ref a2), .val (.int p3), .val (.int p4)] [])) _
    refine XS.aloadN X0.here hx rfl (hb hby d9_0) rfl rfl ?_
    show Steps p.tables e below (s₁.setTop (mkF m 1 #[.val (.ref a1), .val (.ref a2), .val (.int p3), .val (.int p4)] [(.ref a1)])) _
    refine st1 _ ?_
    show Steps p.tables e below (T1.setTop (mkF m 4 #[.val (.ref a1), .val (.ref a2), .val (.int p3), .val (.int p4)] [])) _
    refine XS.aloadN X1.here hx rfl (hb hby d9_4) rfl rfl ?_
    show Steps p.tables e below (T1.setTop (mkF m 5 #[.val (.ref a1), .val (.ref a2), .val (.int p3), .val (.int p4)] [(.ref a1)])) _
    refine XS.iconst X1.here hx rfl (hb hby d9_5) ?_
    show Steps p.tables e below (T1.setTop (mkF m 6 #[.val (.ref a1), .val (.ref a2), .val (.int p3), .val (.int p4)] [(.int (-1 : Int32)), (.ref a1)])) _
    refine st2 _ ?_
    show Steps p.tables e below (T2.setTop (mkF m 9 #[.val (.ref a1), .val (.ref a2), .val (.int p3), .val (.int p4)] [])) _
    refine XS.aloadN X2.here hx rfl (hb hby d9_9) rfl rfl ?_
    show Steps p.tables e below (T2.setTop (mkF m 10 #[.val (.ref a1), .val (.ref a2), .val (.int p3), .val (.int p4)] [(.ref a1)])) _
    refine XS.iconst X2.here hx rfl (hb hby d9_10) ?_
    show Steps p.tables e below (T2.setTop (mkF m 11 #[.val (.ref a1), .val (.ref a2), .val (.int p3), .val (.int p4)] [(.int (-1 : Int32)), (.ref a1)])) _
    refine st4 _ ?_
    show Steps p.tables e below (T4.setTop (mkF m 14 #[.val (.ref a1), .val (.ref a2), .val (.int p3), .val (.int p4)] [])) _
    refine XS.aloadN X4.here hx rfl (hb hby d9_14) rfl rfl ?_
    show Steps p.tables e below (T4.setTop (mkF m 15 #[.val (.ref a1), .val (.ref a2), .val (.int p3), .val (.int p4)] [(.ref a1)])) _
    refine XS.iconst X4.here hx rfl (hb hby d9_15) ?_
    show Steps p.tables e below (T4.setTop (mkF m 16 #[.val (.ref a1), .val (.ref a2), .val (.int p3), .val (.int p4)] [(.int (-1 : Int32)), (.ref a1)])) _
    refine st6 _ ?_
    show Steps p.tables e below (T6.setTop (mkF m 19 #[.val (.ref a1), .val (.ref a2), .val (.int p3), .val (.int p4)] [])) _
    refine XS.aloadN X6.here hx rfl (hb hby d9_19) rfl rfl ?_
    show Steps p.tables e below (T6.setTop (mkF m 20 #[.val (.ref a1), .val (.ref a2), .val (.int p3), .val (.int p4)] [(.ref a1)])) _
    refine XS.aloadN X6.here hx rfl (hb hby d9_20) rfl rfl ?_
    show Steps p.tables e below (T6.setTop (mkF m 21 #[.val (.ref a1), .val (.ref a2), .val (.int p3), .val (.int p4)] [(.ref a2), (.ref a1)])) _
    refine st8 _ ?_
    show Steps p.tables e below (T8.setTop (mkF m 24 #[.val (.ref a1), .val (.ref a2), .val (.int p3), .val (.int p4)] [])) _
    refine XS.aloadN X8.here hx rfl (hb hby d9_24) rfl rfl ?_
    show Steps p.tables e below (T8.setTop (mkF m 25 #[.val (.ref a1), .val (.ref a2), .val (.int p3), .val (.int p4)] [(.ref a1)])) _
    refine XS.iloadN X8.here hx rfl (hb hby d9_25) rfl ?_
    show Steps p.tables e below (T8.setTop (mkF m 26 #[.val (.ref a1), .val (.ref a2), .val (.int p3), .val (.int p4)] [(.int p3), (.ref a1)])) _
    refine st10 _ ?_
    show Steps p.tables e below (T10.setTop (mkF m 29 #[.val (.ref a1), .val (.ref a2), .val (.int p3), .val (.int p4)] [])) _
    refine XS.aloadN X10.here hx rfl (hb hby d9_29) rfl rfl ?_
    show Steps p.tables e below (T10.setTop (mkF m 30 #[.val (.ref a1), .val (.ref a2), .val (.int p3), .val (.int p4)] [(.ref a1)])) _
    refine XS.iloadN X10.here hx rfl (hb hby d9_30) rfl ?_
    show Steps p.tables e below (T10.setTop (mkF m 31 #[.val (.ref a1), .val (.ref a2), .val (.int p3), .val (.int p4)] [(.int p4), (.ref a1)])) _
    refine st12 _ ?_
    exact kt
  obtain ⟨fs, hr, hrun, hended, hW, hsame⟩ := X12.leave (v := none) (fun _ => rfl)
  refine ⟨_, _, pre0 _ (sg14 _ (?_)), hrun, hended, _, _, rfl, ?_, ⟨_, rfl⟩, hW, hsame.mono (by decide) (by decide)⟩
  · show Steps p.tables e below (T12.setTop (mkF m 34 #[.val (.ref a1), .val (.ref a2), .val (.int p3), .val (.int p4)] [])) _
    exact X12.returnOut hx Bd.returns (hb hby d9_34) hr
  · show Q9 Z a1 a2 p3 p4 h0 n0 _ T12.heap _
    rw [e12]
    exact ⟨rfl, N12, K12, O13, (((((Fw2.other W4 (sn .int .int (Or.inl (tw hw 52 rfl)) (Or.inl (tw hw 54 rfl)))).other W6 (sn .int .int (Or.inl (tw hw 52 rfl)) (Or.inl (tw hw 56 rfl)))).other W8 (sn .int (.object "com/example/breakline/breakline/ModifierNumbers") (Or.inl (tw hw 52 rfl)) (Or.inr (tw hw 58 rfl)))).other W10 (sn .int .int (Or.inl (tw hw 52 rfl)) (Or.inr (tw hw 60 rfl)))).other W12 (sn .int .int (Or.inl (tw hw 52 rfl)) (Or.inr (tw hw 62 rfl)))), ((((Fw4.other W6 (sn .int .int (Or.inl (tw hw 54 rfl)) (Or.inl (tw hw 56 rfl)))).other W8 (sn .int (.object "com/example/breakline/breakline/ModifierNumbers") (Or.inl (tw hw 54 rfl)) (Or.inr (tw hw 58 rfl)))).other W10 (sn .int .int (Or.inl (tw hw 54 rfl)) (Or.inr (tw hw 60 rfl)))).other W12 (sn .int .int (Or.inl (tw hw 54 rfl)) (Or.inr (tw hw 62 rfl)))), (((Fw6.other W8 (sn .int (.object "com/example/breakline/breakline/ModifierNumbers") (Or.inl (tw hw 56 rfl)) (Or.inr (tw hw 58 rfl)))).other W10 (sn .int .int (Or.inl (tw hw 56 rfl)) (Or.inr (tw hw 60 rfl)))).other W12 (sn .int .int (Or.inl (tw hw 56 rfl)) (Or.inr (tw hw 62 rfl)))), ((Fw8.other W10 (sn (.object "com/example/breakline/breakline/ModifierNumbers") .int (Or.inr (tw hw 58 rfl)) (Or.inr (tw hw 60 rfl)))).other W12 (sn (.object "com/example/breakline/breakline/ModifierNumbers") .int (Or.inr (tw hw 58 rfl)) (Or.inr (tw hw 62 rfl)))), (Fw10.other W12 (sn .int .int (Or.inr (tw hw 60 rfl)) (Or.inr (tw hw 62 rfl)))), Fw12, (Fld.zeroD ((((((F_whole_a1.other W2 (sn .double .int (Or.inl (tw hw 69 rfl)) (Or.inl (tw hw 52 rfl)))).other W4 (sn .double .int (Or.inl (tw hw 69 rfl)) (Or.inl (tw hw 54 rfl)))).other W6 (sn .double .int (Or.inl (tw hw 69 rfl)) (Or.inl (tw hw 56 rfl)))).other W8 (sn .double (.object "com/example/breakline/breakline/ModifierNumbers") (Or.inl (tw hw 69 rfl)) (Or.inr (tw hw 58 rfl)))).other W10 (sn .double .int (Or.inl (tw hw 69 rfl)) (Or.inr (tw hw 60 rfl)))).other W12 (sn .double .int (Or.inl (tw hw 69 rfl)) (Or.inr (tw hw 62 rfl)))))⟩
def Q10 (Z : State) (a1 : Addr) (rat : Int32) (cat : Int32) (eat : Int32) (nu : Addr) (ow : Int32) (nb : Int32) (wh : Int64) (h0 : Heap) (n0 : Nat) (v : Option Value) (h : Heap) (L : List Loc) : Prop := v = none ∧ Fr n0 L ∧ Keep h0 h [a1] ∧ Old Z n0 h ∧ Fld Z h a1 "com/example/breakline/breakline/ModifierTable" "rowsAt" "I" (.int rat) ∧ Fld Z h a1 "com/example/breakline/breakline/ModifierTable" "columnsAt" "I" (.int cat) ∧ Fld Z h a1 "com/example/breakline/breakline/ModifierTable" "entriesAt" "I" (.int eat) ∧ Fld Z h a1 "com/example/breakline/breakline/ModifierTable" "numbers" "Lcom/example/breakline/breakline/ModifierNumbers;" (.ref nu) ∧ Fld Z h a1 "com/example/breakline/breakline/ModifierTable" "ownValues" "I" (.int ow) ∧ Fld Z h a1 "com/example/breakline/breakline/ModifierTable" "neighbourValues" "I" (.int nb) ∧ Fld Z h a1 "com/example/breakline/breakline/ModifierTable" "whole" "D" (.double (FP.l2d (wh + 1)))
theorem ef_10 (m : MethodId) (x0 : Addr) : entryFrame m #[(.ref x0)] 1 = mkF m 0 #[.val (.ref x0)] [] := by first | (simp [entryFrame, mkF, argsToLocals, Value.category]; done) | rfl
set_option maxRecDepth 65536 in
set_option maxHeartbeats 40000000 in
theorem rm10 (l : Launch) (Z : State) (a0 : Array Value) (hw : ∀ d ∈ tables_1, d.before a0 Z = true) (ws : List Jvm.Cond) (a1 : Addr) (rat : Int32) (cat : Int32) (eat : Int32) (nu : Addr) (ow : Int32) (nb : Int32) (wh : Int64) (h0 : Heap) (n0 : Nat) (O0 : Old Z n0 h0) (E_a1 : Exa Z h0 a1 "com/example/breakline/breakline/ModifierTable") (F_rowsAt_a1 : Fld Z h0 a1 "com/example/breakline/breakline/ModifierTable" "rowsAt" "I" (.int rat)) (F_columnsAt_a1 : Fld Z h0 a1 "com/example/breakline/breakline/ModifierTable" "columnsAt" "I" (.int cat)) (F_entriesAt_a1 : Fld Z h0 a1 "com/example/breakline/breakline/ModifierTable" "entriesAt" "I" (.int eat)) (F_numbers_a1 : Fld Z h0 a1 "com/example/breakline/breakline/ModifierTable" "numbers" "Lcom/example/breakline/breakline/ModifierNumbers;" (.ref nu)) (F_ownValues_a1 : Fld Z h0 a1 "com/example/breakline/breakline/ModifierTable" "ownValues" "I" (.int ow)) (F_neighbourValues_a1 : Fld Z h0 a1 "com/example/breakline/breakline/ModifierTable" "neighbourValues" "I" (.int nb)) (F_whole_a1 : Fld Z h0 a1 "com/example/breakline/breakline/ModifierTable" "whole" "D" (.double (FP.l2d wh))) (ge_a1 : n0 ≤ a1) (h_b : B53 wh) :
    MetFree l (⟨"com/example/breakline/breakline/ModifierTable", "raiseAll", "()V"⟩ : MethodName) (head1 (Jvm.Cond.code (⟨"com/example/breakline/breakline/ModifierTable", "raiseAll", "()V"⟩ : MethodName) prog_50_method_9_code 1 none :: ws) ({ frames := 0, cells := 0, slots := 0, locals := 0 } : Room)) (fun a U => a = #[(.ref a1)] ∧ Z.Warmed39 U.vm ∧ U.heap = h0) (fun _ _ _ _ _ => True) (fun _ U o U' => ∃ v L, o = .returned v ∧ Q10 Z a1 rat cat eat nu ow nb wh h0 n0 v U'.heap L ∧ FrameEnd U o U' L ({ frames := 0, cells := 0, slots := 0, locals := 0 } : Room).cells ({ frames := 0, cells := 0, slots := 0, locals := 0 } : Room).slots) := by
  refine MetFree.of_bodySF (plainFor_of_name pn_2) hisR ?_
  intro p e s m args below meth c s₁ Bd hml0 hP hK
  obtain ⟨rfl, hZ, hh⟩ := hP
  have hx := Bd.exec
  have hby := Bd.bytes
  have hml : c.maxLocals = 1 := hml0
  have hown : s.vm.findClass "com/example/breakline/breakline/ModifierTable" = some m.cls := findClass_of_methodNamed Bd.named
  have hnm := (name_of_methodNamed Bd.named Bd.method).1
  have X0 : Stand p l e ({ frames := 0, cells := 0, slots := 0, locals := 0 } : Room) s m #[(.ref a1)] below meth c s₁ [] 0 0 := Stand.of_body Bd
  have e0 : s₁.heap = h0 := by rw [← hh, Bd.state]; rfl
  have N0 := Fr.nil n0
  have pre0 : ∀ t, Steps p.tables e below (s₁.setTop (mkF m 0 #[.val (.ref a1)] [])) t → Steps p.tables e below (s₁.setTop (entryFrame m #[(.ref a1)] 1)) t := fun t k => castTop (ef_10 m a1) k
  have K0 := Keep.refl h0 [a1]
  obtain ⟨T1, X1, e1, st1⟩ := getF X0 hx hZ hown (host := "") (Or.inl (tw hw 68 rfl)) Via.refl e0 F_whole_a1 (g := (mkF m 2 #[.val (.ref a1)] [(.ref a1), (.ref a1)])) rfl rfl (hb hby d10_2)
  obtain ⟨T2, h2, X2, e2, W2, st2⟩ := putF X1 hx hZ hown (host := "") (Or.inl (tw hw 68 rfl)) Via.refl e1 F_whole_a1 E_a1 (Or.inl (tw hw 69 rfl)) (tw hw 45 rfl) (ty := .double) (by decide) rfl rfl (g := (mkF m 7 #[.val (.ref a1)] [(.double (FP.l2d (wh + 1))), (.ref a1)])) rfl rfl (hb hby d10_7)
  have Fw2 := F_whole_a1.same W2
  have N2 := Fr.snoc X2 N0 ge_a1
  have O3 := O0.wr W2 ge_a1
  have K2 := K0.wr W2 (Or.inl (List.mem_of_getElem? (i := 0) rfl))
  have sg4 : ∀ target, Steps p.tables e below (T2.setTop (mkF m 10 #[.val (.ref a1)] [])) target → Steps p.tables e below (s₁.setTop (mkF m 0 #[.val (.ref a1)] [])) target := by
    intro target kt
    show Steps p.tables e below (s₁.setTop (mkF m 0 #[.val (.ref a1)] [])) _
    refine XS.aloadN X0.here hx rfl (hb hby d10_0) rfl rfl ?_
    show Steps p.tables e below (s₁.setTop (mkF m 1 #[.val (.ref a1)] [(.ref a1)])) _
    refine XS.dup X0.here hx rfl (hb hby d10_1) rfl rfl ?_
    show Steps p.tables e below (s₁.setTop (mkF m 2 #[.val (.ref a1)] [(.ref a1), (.ref a1)])) _
    refine st1 _ ?_
    show Steps p.tables e below (T1.setTop (mkF m 5 #[.val (.ref a1)] [(.double (FP.l2d wh)), (.ref a1)])) _
    refine XS.dconst1 X1.here hx rfl (hb hby d10_5) own_d1 ?_
    show Steps p.tables e below (T1.setTop (mkF m 6 #[.val (.ref a1)] [(.double (FP.l2d 1)), (.double (FP.l2d wh)), (.ref a1)])) _
    refine XS.daddS X1.here hx rfl (hb hby d10_6) rfl (nn_w (dadd_w h_b own_b1)) (dadd_w h_b own_b1) ?_
    show Steps p.tables e below (T1.setTop (mkF m 7 #[.val (.ref a1)] [(.double (FP.l2d (wh + 1))), (.ref a1)])) _
    refine st2 _ ?_
    exact kt
  obtain ⟨fs, hr, hrun, hended, hW, hsame⟩ := X2.leave (v := none) (fun _ => rfl)
  refine ⟨_, _, pre0 _ (sg4 _ (?_)), hrun, hended, _, _, rfl, ?_, ⟨_, rfl⟩, hW, hsame.mono (by decide) (by decide)⟩
  · show Steps p.tables e below (T2.setTop (mkF m 10 #[.val (.ref a1)] [])) _
    exact X2.returnOut hx Bd.returns (hb hby d10_10) hr
  · show Q10 Z a1 rat cat eat nu ow nb wh h0 n0 _ T2.heap _
    rw [e2]
    exact ⟨rfl, N2, K2, O3, (F_rowsAt_a1.other W2 (sn .int .double (Or.inl (tw hw 52 rfl)) (Or.inl (tw hw 69 rfl)))), (F_columnsAt_a1.other W2 (sn .int .double (Or.inl (tw hw 54 rfl)) (Or.inl (tw hw 69 rfl)))), (F_entriesAt_a1.other W2 (sn .int .double (Or.inl (tw hw 56 rfl)) (Or.inl (tw hw 69 rfl)))), (F_numbers_a1.other W2 (sn (.object "com/example/breakline/breakline/ModifierNumbers") .double (Or.inr (tw hw 58 rfl)) (Or.inl (tw hw 69 rfl)))), (F_ownValues_a1.other W2 (sn .int .double (Or.inr (tw hw 60 rfl)) (Or.inl (tw hw 69 rfl)))), (F_neighbourValues_a1.other W2 (sn .int .double (Or.inr (tw hw 62 rfl)) (Or.inl (tw hw 69 rfl)))), Fw2⟩
def Q19 (Z : State) (a1 : Addr) (rat : Int32) (cat : Int32) (eat : Int32) (nu : Addr) (ow : Int32) (nb : Int32) (wh : Int64) (x2 : Int64) (h0 : Heap) (n0 : Nat) (v : Option Value) (h : Heap) (L : List Loc) : Prop := v = none ∧ Fr n0 L ∧ Keep h0 h [a1] ∧ Old Z n0 h ∧ Fld Z h a1 "com/example/breakline/breakline/ModifierTable" "rowsAt" "I" (.int rat) ∧ Fld Z h a1 "com/example/breakline/breakline/ModifierTable" "columnsAt" "I" (.int cat) ∧ Fld Z h a1 "com/example/breakline/breakline/ModifierTable" "entriesAt" "I" (.int eat) ∧ Fld Z h a1 "com/example/breakline/breakline/ModifierTable" "numbers" "Lcom/example/breakline/breakline/ModifierNumbers;" (.ref nu) ∧ Fld Z h a1 "com/example/breakline/breakline/ModifierTable" "ownValues" "I" (.int ow) ∧ Fld Z h a1 "com/example/breakline/breakline/ModifierTable" "neighbourValues" "I" (.int nb) ∧ Fld Z h a1 "com/example/breakline/breakline/ModifierTable" "whole" "D" (.double (FP.l2d (wh * x2)))
theorem ef_19 (m : MethodId) (x0 : Addr) (x1 : UInt64) : entryFrame m #[(.ref x0), (.double x1)] 3 = mkF m 0 #[.val (.ref x0), .val (.double x1), .second] [] := by first | (simp [entryFrame, mkF, argsToLocals, Value.category]; done) | rfl
set_option maxRecDepth 65536 in
set_option maxHeartbeats 40000000 in
theorem rm19 (l : Launch) (Z : State) (a0 : Array Value) (hw : ∀ d ∈ tables_1, d.before a0 Z = true) (ws : List Jvm.Cond) (a1 : Addr) (rat : Int32) (cat : Int32) (eat : Int32) (nu : Addr) (ow : Int32) (nb : Int32) (wh : Int64) (x2 : Int64) (h0 : Heap) (n0 : Nat) (O0 : Old Z n0 h0) (E_a1 : Exa Z h0 a1 "com/example/breakline/breakline/ModifierTable") (F_rowsAt_a1 : Fld Z h0 a1 "com/example/breakline/breakline/ModifierTable" "rowsAt" "I" (.int rat)) (F_columnsAt_a1 : Fld Z h0 a1 "com/example/breakline/breakline/ModifierTable" "columnsAt" "I" (.int cat)) (F_entriesAt_a1 : Fld Z h0 a1 "com/example/breakline/breakline/ModifierTable" "entriesAt" "I" (.int eat)) (F_numbers_a1 : Fld Z h0 a1 "com/example/breakline/breakline/ModifierTable" "numbers" "Lcom/example/breakline/breakline/ModifierNumbers;" (.ref nu)) (F_ownValues_a1 : Fld Z h0 a1 "com/example/breakline/breakline/ModifierTable" "ownValues" "I" (.int ow)) (F_neighbourValues_a1 : Fld Z h0 a1 "com/example/breakline/breakline/ModifierTable" "neighbourValues" "I" (.int nb)) (F_whole_a1 : Fld Z h0 a1 "com/example/breakline/breakline/ModifierTable" "whole" "D" (.double (FP.l2d wh))) (ge_a1 : n0 ≤ a1) (h_m : FP.dmul (FP.l2d wh) (FP.l2d x2) = FP.l2d (wh * x2)) :
    MetFree l (⟨"com/example/breakline/breakline/ModifierTable", "scaleWhole", "(D)V"⟩ : MethodName) (head1 (Jvm.Cond.code (⟨"com/example/breakline/breakline/ModifierTable", "scaleWhole", "(D)V"⟩ : MethodName) prog_50_method_10_code 3 none :: ws) ({ frames := 0, cells := 0, slots := 0, locals := 0 } : Room)) (fun a U => a = #[(.ref a1), (.double (FP.l2d x2))] ∧ Z.Warmed39 U.vm ∧ U.heap = h0) (fun _ _ _ _ _ => True) (fun _ U o U' => ∃ v L, o = .returned v ∧ Q19 Z a1 rat cat eat nu ow nb wh x2 h0 n0 v U'.heap L ∧ FrameEnd U o U' L ({ frames := 0, cells := 0, slots := 0, locals := 0 } : Room).cells ({ frames := 0, cells := 0, slots := 0, locals := 0 } : Room).slots) := by
  refine MetFree.of_bodySF (plainFor_of_name pn_2) hisR ?_
  intro p e s m args below meth c s₁ Bd hml0 hP hK
  obtain ⟨rfl, hZ, hh⟩ := hP
  have hx := Bd.exec
  have hby := Bd.bytes
  have hml : c.maxLocals = 3 := hml0
  have hown : s.vm.findClass "com/example/breakline/breakline/ModifierTable" = some m.cls := findClass_of_methodNamed Bd.named
  have hnm := (name_of_methodNamed Bd.named Bd.method).1
  have X0 : Stand p l e ({ frames := 0, cells := 0, slots := 0, locals := 0 } : Room) s m #[(.ref a1), (.double (FP.l2d x2))] below meth c s₁ [] 0 0 := Stand.of_body Bd
  have e0 : s₁.heap = h0 := by rw [← hh, Bd.state]; rfl
  have N0 := Fr.nil n0
  have pre0 : ∀ t, Steps p.tables e below (s₁.setTop (mkF m 0 #[.val (.ref a1), .val (.double (FP.l2d x2)), .second] [])) t → Steps p.tables e below (s₁.setTop (entryFrame m #[(.ref a1), (.double (FP.l2d x2))] 3)) t := fun t k => castTop (ef_19 m a1 (FP.l2d x2)) k
  have K0 := Keep.refl h0 [a1]
  obtain ⟨T1, X1, e1, st1⟩ := getF X0 hx hZ hown (host := "") (Or.inl (tw hw 68 rfl)) Via.refl e0 F_whole_a1 (g := (mkF m 2 #[.val (.ref a1), .val (.double (FP.l2d x2)), .second] [(.ref a1), (.ref a1)])) rfl rfl (hb hby d19_2)
  obtain ⟨T2, h2, X2, e2, W2, st2⟩ := putF X1 hx hZ hown (host := "") (Or.inl (tw hw 68 rfl)) Via.refl e1 F_whole_a1 E_a1 (Or.inl (tw hw 69 rfl)) (tw hw 45 rfl) (ty := .double) (by decide) rfl rfl (g := (mkF m 7 #[.val (.ref a1), .val (.double (FP.l2d x2)), .second] [(.double (FP.l2d (wh * x2))), (.ref a1)])) rfl rfl (hb hby d19_7)
  have Fw2 := F_whole_a1.same W2
  have N2 := Fr.snoc X2 N0 ge_a1
  have O3 := O0.wr W2 ge_a1
  have K2 := K0.wr W2 (Or.inl (List.mem_of_getElem? (i := 0) rfl))
  have sg4 : ∀ target, Steps p.tables e below (T2.setTop (mkF m 10 #[.val (.ref a1), .val (.double (FP.l2d x2)), .second] [])) target → Steps p.tables e below (s₁.setTop (mkF m 0 #[.val (.ref a1), .val (.double (FP.l2d x2)), .second] [])) target := by
    intro target kt
    show Steps p.tables e below (s₁.setTop (mkF m 0 #[.val (.ref a1), .val (.double (FP.l2d x2)), .second] [])) _
    refine XS.aloadN X0.here hx rfl (hb hby d19_0) rfl rfl ?_
    show Steps p.tables e below (s₁.setTop (mkF m 1 #[.val (.ref a1), .val (.double (FP.l2d x2)), .second] [(.ref a1)])) _
    refine XS.dup X0.here hx rfl (hb hby d19_1) rfl rfl ?_
    show Steps p.tables e below (s₁.setTop (mkF m 2 #[.val (.ref a1), .val (.double (FP.l2d x2)), .second] [(.ref a1), (.ref a1)])) _
    refine st1 _ ?_
    show Steps p.tables e below (T1.setTop (mkF m 5 #[.val (.ref a1), .val (.double (FP.l2d x2)), .second] [(.double (FP.l2d wh)), (.ref a1)])) _
    refine XS.dloadN X1.here hx rfl (hb hby d19_5) rfl ?_
    show Steps p.tables e below (T1.setTop (mkF m 6 #[.val (.ref a1), .val (.double (FP.l2d x2)), .second] [(.double (FP.l2d x2)), (.double (FP.l2d wh)), (.ref a1)])) _
    refine XS.dmulS X1.here hx rfl (hb hby d19_6) rfl (nn_w h_m) h_m ?_
    show Steps p.tables e below (T1.setTop (mkF m 7 #[.val (.ref a1), .val (.double (FP.l2d x2)), .second] [(.double (FP.l2d (wh * x2))), (.ref a1)])) _
    refine st2 _ ?_
    exact kt
  obtain ⟨fs, hr, hrun, hended, hW, hsame⟩ := X2.leave (v := none) (fun _ => rfl)
  refine ⟨_, _, pre0 _ (sg4 _ (?_)), hrun, hended, _, _, rfl, ?_, ⟨_, rfl⟩, hW, hsame.mono (by decide) (by decide)⟩
  · show Steps p.tables e below (T2.setTop (mkF m 10 #[.val (.ref a1), .val (.double (FP.l2d x2)), .second] [])) _
    exact X2.returnOut hx Bd.returns (hb hby d19_10) hr
  · show Q19 Z a1 rat cat eat nu ow nb wh x2 h0 n0 _ T2.heap _
    rw [e2]
    exact ⟨rfl, N2, K2, O3, (F_rowsAt_a1.other W2 (sn .int .double (Or.inl (tw hw 52 rfl)) (Or.inl (tw hw 69 rfl)))), (F_columnsAt_a1.other W2 (sn .int .double (Or.inl (tw hw 54 rfl)) (Or.inl (tw hw 69 rfl)))), (F_entriesAt_a1.other W2 (sn .int .double (Or.inl (tw hw 56 rfl)) (Or.inl (tw hw 69 rfl)))), (F_numbers_a1.other W2 (sn (.object "com/example/breakline/breakline/ModifierNumbers") .double (Or.inr (tw hw 58 rfl)) (Or.inl (tw hw 69 rfl)))), (F_ownValues_a1.other W2 (sn .int .double (Or.inr (tw hw 60 rfl)) (Or.inl (tw hw 69 rfl)))), (F_neighbourValues_a1.other W2 (sn .int .double (Or.inr (tw hw 62 rfl)) (Or.inl (tw hw 69 rfl)))), Fw2⟩
def Q11 (Z : State) (a1 : Addr) (p2 : Int32) (cat : Int32) (eat : Int32) (nu : Addr) (ow : Int32) (nb : Int32) (wh : Int64) (siz : Int32) (sin : Nat) (arr : Addr) (kla : ClassId) (cap : Int32) (can : Nat) (fco : Nat → Int64) (pn : Nat) (own : Nat) (h0 : Heap) (n0 : Nat) (v : Option Value) (h : Heap) (L : List Loc) : Prop := ∃ ro : Addr, ∃ ko : ClassId, ∃ co : Int32, ∃ cn : Nat, v = none ∧ Fr n0 L ∧ Keep h0 h [a1, nu, arr] ∧ Old Z n0 h ∧ Fld Z h nu "com/example/breakline/breakline/ModifierNumbers" "size" "I" (.int (siz + ow)) ∧ Fld Z h nu "com/example/breakline/breakline/ModifierNumbers" "numbers" "[D" (.ref ro) ∧ Fld Z h nu "com/example/breakline/breakline/ModifierNumbers" "listed" "[I" .null ∧ Arv Z h ro ko .double co (dvs (upd fco (sin + pn) ((fco (sin + pn)) + (1 : Int64)))) (.double (FP.l2d 0)) ∧ n0 ≤ ro ∧ (ro ∈ [arr] ∨ h0.size ≤ ro) ∧ Sm co cn ∧ sin + own ≤ cn ∧ cn ≤ 48 ∧ Fld Z h a1 "com/example/breakline/breakline/ModifierTable" "rowsAt" "I" (.int siz) ∧ Fld Z h a1 "com/example/breakline/breakline/ModifierTable" "columnsAt" "I" (.int cat) ∧ Fld Z h a1 "com/example/breakline/breakline/ModifierTable" "entriesAt" "I" (.int eat) ∧ Fld Z h a1 "com/example/breakline/breakline/ModifierTable" "numbers" "Lcom/example/breakline/breakline/ModifierNumbers;" (.ref nu) ∧ Fld Z h a1 "com/example/breakline/breakline/ModifierTable" "ownValues" "I" (.int ow) ∧ Fld Z h a1 "com/example/breakline/breakline/ModifierTable" "neighbourValues" "I" (.int nb) ∧ Fld Z h a1 "com/example/breakline/breakline/ModifierTable" "whole" "D" (.double (FP.l2d wh))
theorem ef_11 (m : MethodId) (x0 : Addr) (x1 : Int32) : entryFrame m #[(.ref x0), (.int x1)] 2 = mkF m 0 #[.val (.ref x0), .val (.int x1)] [] := by first | (simp [entryFrame, mkF, argsToLocals, Value.category]; done) | rfl
set_option maxRecDepth 65536 in
set_option maxHeartbeats 40000000 in
theorem rm11 (l : Launch) (Z : State) (a0 : Array Value) (hw : ∀ d ∈ tables_1, d.before a0 Z = true) (ws : List Jvm.Cond) (a1 : Addr) (p2 : Int32) (cat : Int32) (eat : Int32) (nu : Addr) (ow : Int32) (nb : Int32) (wh : Int64) (siz : Int32) (sin : Nat) (arr : Addr) (kla : ClassId) (cap : Int32) (can : Nat) (fco : Nat → Int64) (pn : Nat) (own : Nat) (h0 : Heap) (n0 : Nat) (O0 : Old Z n0 h0) (E_a1 : Exa Z h0 a1 "com/example/breakline/breakline/ModifierTable") (F_rowsAt_a1 : Fld Z h0 a1 "com/example/breakline/breakline/ModifierTable" "rowsAt" "I" (.int (-1 : Int32))) (F_columnsAt_a1 : Fld Z h0 a1 "com/example/breakline/breakline/ModifierTable" "columnsAt" "I" (.int cat)) (F_entriesAt_a1 : Fld Z h0 a1 "com/example/breakline/breakline/ModifierTable" "entriesAt" "I" (.int eat)) (F_numbers_a1 : Fld Z h0 a1 "com/example/breakline/breakline/ModifierTable" "numbers" "Lcom/example/breakline/breakline/ModifierNumbers;" (.ref nu)) (F_ownValues_a1 : Fld Z h0 a1 "com/example/breakline/breakline/ModifierTable" "ownValues" "I" (.int ow)) (F_neighbourValues_a1 : Fld Z h0 a1 "com/example/breakline/breakline/ModifierTable" "neighbourValues" "I" (.int nb)) (F_whole_a1 : Fld Z h0 a1 "com/example/breakline/breakline/ModifierTable" "whole" "D" (.double (FP.l2d wh))) (ge_a1 : n0 ≤ a1) (ge_nu : n0 ≤ nu) (E_nu : Exa Z h0 nu "com/example/breakline/breakline/ModifierNumbers") (F_size_nu : Fld Z h0 nu "com/example/breakline/breakline/ModifierNumbers" "size" "I" (.int siz)) (F_numbers_nu : Fld Z h0 nu "com/example/breakline/breakline/ModifierNumbers" "numbers" "[D" (.ref arr)) (F_listed_nu : Fld Z h0 nu "com/example/breakline/breakline/ModifierNumbers" "listed" "[I" .null) (A_arr : Arv Z h0 arr kla .double cap (dvs fco) (.double (FP.l2d 0))) (ge_arr : n0 ≤ arr) (h_s : Sm siz sin) (h_c : Sm cap can) (h_sc : sin ≤ can) (h_c48 : can ≤ 48) (h_f0 : ∀ j, sin ≤ j → fco j = 0) (h_p : Sm p2 pn) (h_ow : Sm ow own) (h_lt : pn < own) (h_31 : sin + own ≤ 31) :
    MetFree l (⟨"com/example/breakline/breakline/ModifierTable", "raiseRow", "(I)V"⟩ : MethodName) (head1 (Jvm.Cond.code (⟨"com/example/breakline/breakline/ModifierTable", "raiseRow", "(I)V"⟩ : MethodName) prog_50_method_7_code 2 none :: ws) ({ frames := 3, cells := 1, slots := 48, locals := 70 } : Room)) (fun a U => a = #[(.ref a1), (.int p2)] ∧ Z.Warmed39 U.vm ∧ U.heap = h0) (fun _ _ _ _ _ => True) (fun _ U o U' => ∃ v L, o = .returned v ∧ Q11 Z a1 p2 cat eat nu ow nb wh siz sin arr kla cap can fco pn own h0 n0 v U'.heap L ∧ FrameEnd U o U' L ({ frames := 3, cells := 1, slots := 48, locals := 70 } : Room).cells ({ frames := 3, cells := 1, slots := 48, locals := 70 } : Room).slots) := by
  refine MetFree.of_bodySF (plainFor_of_name pn_2) hisR ?_
  intro p e s m args below meth c s₁ Bd hml0 hP hK
  obtain ⟨rfl, hZ, hh⟩ := hP
  have hx := Bd.exec
  have hby := Bd.bytes
  have hml : c.maxLocals = 2 := hml0
  have hown : s.vm.findClass "com/example/breakline/breakline/ModifierTable" = some m.cls := findClass_of_methodNamed Bd.named
  have hnm := (name_of_methodNamed Bd.named Bd.method).1
  have X0 : Stand p l e ({ frames := 3, cells := 1, slots := 48, locals := 70 } : Room) s m #[(.ref a1), (.int p2)] below meth c s₁ [] 0 0 := Stand.of_body Bd
  have e0 : s₁.heap = h0 := by rw [← hh, Bd.state]; rfl
  have N0 := Fr.nil n0
  have pre0 : ∀ t, Steps p.tables e below (s₁.setTop (mkF m 0 #[.val (.ref a1), .val (.int p2)] [])) t → Steps p.tables e below (s₁.setTop (entryFrame m #[(.ref a1), (.int p2)] 2)) t := fun t k => castTop (ef_11 m a1 p2) k
  have K0 := Keep.refl h0 [a1, nu, arr]
  obtain ⟨T1, X1, e1, st1⟩ := getF X0 hx hZ hown (host := "") (Or.inl (tw hw 51 rfl)) Via.refl e0 F_rowsAt_a1 (g := (mkF m 1 #[.val (.ref a1), .val (.int p2)] [(.ref a1)])) rfl rfl (hb hby d11_1)
  obtain ⟨T2, X2, e2, st2⟩ := getF X1 hx hZ hown (host := "") (Or.inl (tw hw 57 rfl)) Via.refl e1 F_numbers_a1 (g := (mkF m 10 #[.val (.ref a1), .val (.int p2)] [(.ref a1), (.ref a1)])) rfl rfl (hb hby d11_10)
  obtain ⟨T3, X3, e3, st3⟩ := getF X2 hx hZ hown (host := "") (Or.inl (tw hw 59 rfl)) Via.refl e2 F_ownValues_a1 (g := (mkF m 14 #[.val (.ref a1), .val (.int p2)] [(.ref a1), (.ref nu), (.ref a1)])) rfl rfl (hb hby d11_14)
  obtain ⟨cq4, kq4, q4a, q4b, q4c⟩ := isOf hZ e3 E_nu
  obtain ⟨_, _, ⟨T4, L4, k4, n4⟩, -, X4, ⟨Lc4, hQ4, l4, y4, z4⟩, st4⟩ := X3.virtualBack hx (y := (⟨"com/example/breakline/breakline/ModifierNumbers", "take", "(I)I"⟩ : MethodName)) (z := (⟨"com/example/breakline/breakline/ModifierNumbers", "take", "(I)I"⟩ : MethodName)) hown (mvT hZ (tw hw 75 rfl)) (mvT hZ (tw hw 14 rfl)) (notFace_of_selects (args := #[]) (mvT hZ (tw hw 16 rfl))) (mvT hZ (tw hw 16 rfl)) (mvT hZ (tw hw 15 rfl)) (by decide) (backOf (W := 1) (rm3 l Z a0 hw [] nu ow siz sin arr kla cap can fco own h0 n0 O0 E_nu F_size_nu F_numbers_nu F_listed_nu A_arr ge_arr h_s h_c h_sc h_c48 h_f0 ge_nu h_ow h_31) hZ (tw hw 17 rfl) (tw hw 3 rfl) (by decide) (by decide)) q4a q4c (g := (mkF m 17 #[.val (.ref a1), .val (.int p2)] [(.int ow), (.ref nu), (.ref a1)])) rfl (by rw [hml]; rfl) (Steps.refl _) (argsL := [(.int ow)]) (rest := [(.ref a1)]) (lenOf pd_3 rfl) rfl (by show 2 * 0 + _ ≤ _; exact Nat.le_of_eq rfl) (hb hby d11_17) (fun _ _ => ⟨rfl, e3, (by decide : 0 + 1 ≤ _), (by decide : 0 + 48 ≤ _)⟩)
  dsimp only [Pt.U, Pt.locs, Pt.cells, Pt.slots] at X4 l4 y4 z4 st4 hQ4
  subst l4 y4 z4
  obtain ⟨ro_4, ko_4, co_4, cn_4, rfl, N4q, K4q, O4, f4_0, f4_1, f4_2, f4_3, f4_4, f4_5, f4_6, f4_7, f4_8⟩ := hQ4
  have N4 := Fr.app N0 N4q
  have K4 := K0.trans K4q (allS (Or.inl (List.mem_of_getElem? (i := 1) rfl)) all0)
  obtain ⟨T5, h5, X5, e5, W5, st5⟩ := putF X4 hx hZ hown (host := "") (Or.inl (tw hw 51 rfl)) Via.refl rfl (F_rowsAt_a1.keep K4q (ninS (Exa.ne E_a1 E_nu (by decide)) nin0)) (E_a1.keep K4q) (Or.inl (tw hw 52 rfl)) (tw hw 45 rfl) (ty := .int) (by decide) rfl rfl (g := (mkF m 20 #[.val (.ref a1), .val (.int p2)] [(.int siz), (.ref a1)])) rfl rfl (hb hby d11_20)
  have Fw5 := (F_rowsAt_a1.keep K4q (ninS (Exa.ne E_a1 E_nu (by decide)) nin0)).same W5
  have N5 := Fr.snoc X5 N4 ge_a1
  have O6 := O4.wr W5 ge_a1
  have K5 := K4.wr W5 (Or.inl (List.mem_of_getElem? (i := 0) rfl))
  obtain ⟨T7, X7, e7, st7⟩ := getF X5 hx hZ hown (host := "") (Or.inl (tw hw 57 rfl)) Via.refl e5 ((F_numbers_a1.keep K4q (ninS (Exa.ne E_a1 E_nu (by decide)) nin0)).other W5 (sn (.object "com/example/breakline/breakline/ModifierNumbers") .int (Or.inr (tw hw 58 rfl)) (Or.inl (tw hw 52 rfl)))) (g := (mkF m 24 #[.val (.ref a1), .val (.int p2)] [(.ref a1)])) rfl rfl (hb hby d11_24)
  obtain ⟨T8, X8, e8, st8⟩ := getF X7 hx hZ hown (host := "") (Or.inl (tw hw 51 rfl)) Via.refl e7 Fw5 (g := (mkF m 28 #[.val (.ref a1), .val (.int p2)] [(.ref a1), (.ref nu)])) rfl rfl (hb hby d11_28)
  obtain ⟨cq9, kq9, q9a, q9b, q9c⟩ := isOf hZ e8 ((E_nu.keep K4q).wr W5)
  obtain ⟨_, _, ⟨T9, L9, k9, n9⟩, -, X9, ⟨Lc9, hQ9, l9, y9, z9⟩, st9⟩ := X8.virtualBack hx (y := (⟨"com/example/breakline/breakline/ModifierNumbers", "add", "(ID)V"⟩ : MethodName)) (z := (⟨"com/example/breakline/breakline/ModifierNumbers", "add", "(ID)V"⟩ : MethodName)) hown (mvT hZ (tw hw 76 rfl)) (mvT hZ (tw hw 77 rfl)) (notFace_of_selects (args := #[]) (mvT hZ (tw hw 79 rfl))) (mvT hZ (tw hw 79 rfl)) (mvT hZ (tw hw 78 rfl)) (by decide) (backOf (W := 0) (rm12 l Z a0 hw [] nu (siz + p2) ro_4 ko_4 co_4 cn_4 fco (1 : Int64) (sin + pn) h5 n0 O6 ((E_nu.keep K4q).wr W5) (f4_1.other W5 (Or.inl (Exa.ne E_nu E_a1 (by decide)))) (f4_2.other W5 (Or.inl (Exa.ne E_nu E_a1 (by decide)))) (f4_3.other W5 (Ne.symm (Exa.neArv (E_a1.keep K4q) f4_3 (tw hw 45 rfl)))) f4_4 f4_6 f4_8 (Sm.add h_s h_p (by omega)) (Nat.lt_of_lt_of_le (Nat.add_lt_add_left h_lt sin) f4_7) (own_bz (h_f0 _ (Nat.le_add_right _ _))) own_b1) hZ (tw hw 80 rfl) (tw hw 3 rfl) (by decide) (by decide)) q9a q9c (g := (mkF m 34 #[.val (.ref a1), .val (.int p2)] [(.double (FP.l2d 1)), (.int (siz + p2)), (.ref nu)])) rfl (by rw [hml]; rfl) (Steps.refl _) (argsL := [(.int (siz + p2)), (.double (FP.l2d 1))]) (rest := []) (lenOf pd_4 rfl) rfl (by show 2 * 0 + _ ≤ _; exact Nat.le_of_eq rfl) (hb hby d11_34) (fun _ _ => ⟨rfl, e8, (by decide : 1 + 0 ≤ _), (by decide : 48 + 0 ≤ _)⟩)
  dsimp only [Pt.U, Pt.locs, Pt.cells, Pt.slots] at X9 l9 y9 z9 st9 hQ9
  subst l9 y9 z9
  obtain ⟨rfl, N9q, K9q, O9, f9_0⟩ := hQ9
  have N9 := Fr.app N5 N9q
  have K9 := K5.trans K9q (allS (f4_5.elim (fun q => Or.inl (by rw [List.mem_singleton.mp q]; exact List.mem_of_getElem? (i := 2) rfl)) Or.inr) all0)
  have sg10 : ∀ target, Steps p.tables e below (T9.setTop (mkF m 37 #[.val (.ref a1), .val (.int p2)] [])) target → Steps p.tables e below (s₁.setTop (mkF m 0 #[.val (.ref a1), .val (.int p2)] [])) target := by
    intro target kt
    show Steps p.tables e below (s₁.setTop (mkF m 0 #[.val (.ref a1), .val (.int p2)] [])) _
    refine XS.aloadN X0.here hx rfl (hb hby d11_0) rfl rfl ?_
    show Steps p.tables e below (s₁.setTop (mkF m 1 #[.val (.ref a1), .val (.int p2)] [(.ref a1)])) _
    refine st1 _ ?_
    show Steps p.tables e below (T1.setTop (mkF m 4 #[.val (.ref a1), .val (.int p2)] [(.int (-1 : Int32))])) _
    refine XS.iconst X1.here hx rfl (hb hby d11_4) ?_
    show Steps p.tables e below (T1.setTop (mkF m 5 #[.val (.ref a1), .val (.int p2)] [(.int (-1 : Int32)), (.int (-1 : Int32))])) _
    refine XS.icmpNo X1.here hx rfl (hb hby d11_5) rfl (teq (by decide : (-1 : Int32) = (-1 : Int32))).2 ?_
    show Steps p.tables e below (T1.setTop (mkF m 8 #[.val (.ref a1), .val (.int p2)] [])) _
    refine XS.aloadN X1.here hx rfl (hb hby d11_8) rfl rfl ?_
    show Steps p.tables e below (T1.setTop (mkF m 9 #[.val (.ref a1), .val (.int p2)] [(.ref a1)])) _
    refine XS.aloadN X1.here hx rfl (hb hby d11_9) rfl rfl ?_
    show Steps p.tables e below (T1.setTop (mkF m 10 #[.val (.ref a1), .val (.int p2)] [(.ref a1), (.ref a1)])) _
    refine st2 _ ?_
    show Steps p.tables e below (T2.setTop (mkF m 13 #[.val (.ref a1), .val (.int p2)] [(.ref nu), (.ref a1)])) _
    refine XS.aloadN X2.here hx rfl (hb hby d11_13) rfl rfl ?_
    show Steps p.tables e below (T2.setTop (mkF m 14 #[.val (.ref a1), .val (.int p2)] [(.ref a1), (.ref nu), (.ref a1)])) _
    refine st3 _ ?_
    show Steps p.tables e below (T3.setTop (mkF m 17 #[.val (.ref a1), .val (.int p2)] [(.int ow), (.ref nu), (.ref a1)])) _
    refine st4.trans ?_
    show Steps p.tables e below (T4.setTop (mkF m 20 #[.val (.ref a1), .val (.int p2)] [(.int siz), (.ref a1)])) _
    refine st5 _ ?_
    show Steps p.tables e below (T5.setTop (mkF m 23 #[.val (.ref a1), .val (.int p2)] [])) _
    refine XS.aloadN X5.here hx rfl (hb hby d11_23) rfl rfl ?_
    show Steps p.tables e below (T5.setTop (mkF m 24 #[.val (.ref a1), .val (.int p2)] [(.ref a1)])) _
    refine st7 _ ?_
    show Steps p.tables e below (T7.setTop (mkF m 27 #[.val (.ref a1), .val (.int p2)] [(.ref nu)])) _
    refine XS.aloadN X7.here hx rfl (hb hby d11_27) rfl rfl ?_
    show Steps p.tables e below (T7.setTop (mkF m 28 #[.val (.ref a1), .val (.int p2)] [(.ref a1), (.ref nu)])) _
    refine st8 _ ?_
    show Steps p.tables e below (T8.setTop (mkF m 31 #[.val (.ref a1), .val (.int p2)] [(.int siz), (.ref nu)])) _
    refine XS.iloadN X8.here hx rfl (hb hby d11_31) rfl ?_
    show Steps p.tables e below (T8.setTop (mkF m 32 #[.val (.ref a1), .val (.int p2)] [(.int p2), (.int siz), (.ref nu)])) _
    refine XS.iadd X8.here hx rfl (hb hby d11_32) rfl ?_
    show Steps p.tables e below (T8.setTop (mkF m 33 #[.val (.ref a1), .val (.int p2)] [(.int (siz + p2)), (.ref nu)])) _
    refine XS.dconst1 X8.here hx rfl (hb hby d11_33) own_d1 ?_
    show Steps p.tables e below (T8.setTop (mkF m 34 #[.val (.ref a1), .val (.int p2)] [(.double (FP.l2d 1)), (.int (siz + p2)), (.ref nu)])) _
    refine st9.trans ?_
    exact kt
  obtain ⟨fs, hr, hrun, hended, hW, hsame⟩ := X9.leave (v := none) (fun _ => rfl)
  refine ⟨_, _, pre0 _ (sg10 _ (?_)), hrun, hended, _, _, rfl, ?_, ⟨_, rfl⟩, hW, hsame.mono (by decide) (by decide)⟩
  · show Steps p.tables e below (T9.setTop (mkF m 37 #[.val (.ref a1), .val (.int p2)] [])) _
    exact X9.returnOut hx Bd.returns (hb hby d11_37) hr
  · show Q11 Z a1 p2 cat eat nu ow nb wh siz sin arr kla cap can fco pn own h0 n0 _ T9.heap _
    exact ⟨ro_4, ko_4, co_4, cn_4, rfl, N9, K9, O9, ((f4_0.other W5 (Or.inl (Exa.ne E_nu E_a1 (by decide)))).keep K9q (ninS (Exa.neArv (((E_nu.keep K4q).wr W5).keep K9q) f9_0 (tw hw 2 rfl)) nin0)), ((f4_1.other W5 (Or.inl (Exa.ne E_nu E_a1 (by decide)))).keep K9q (ninS (Exa.neArv (((E_nu.keep K4q).wr W5).keep K9q) f9_0 (tw hw 2 rfl)) nin0)), ((f4_2.other W5 (Or.inl (Exa.ne E_nu E_a1 (by decide)))).keep K9q (ninS (Exa.neArv (((E_nu.keep K4q).wr W5).keep K9q) f9_0 (tw hw 2 rfl)) nin0)), f9_0, f4_4, f4_5, f4_6, f4_7, f4_8, (Fw5.keep K9q (ninS (Exa.neArv (((E_a1.keep K4q).wr W5).keep K9q) f9_0 (tw hw 45 rfl)) nin0)), (((F_columnsAt_a1.keep K4q (ninS (Exa.ne E_a1 E_nu (by decide)) nin0)).other W5 (sn .int .int (Or.inl (tw hw 54 rfl)) (Or.inl (tw hw 52 rfl)))).keep K9q (ninS (Exa.neArv (((E_a1.keep K4q).wr W5).keep K9q) f9_0 (tw hw 45 rfl)) nin0)), (((F_entriesAt_a1.keep K4q (ninS (Exa.ne E_a1 E_nu (by decide)) nin0)).other W5 (sn .int .int (Or.inl (tw hw 56 rfl)) (Or.inl (tw hw 52 rfl)))).keep K9q (ninS (Exa.neArv (((E_a1.keep K4q).wr W5).keep K9q) f9_0 (tw hw 45 rfl)) nin0)), (((F_numbers_a1.keep K4q (ninS (Exa.ne E_a1 E_nu (by decide)) nin0)).other W5 (sn (.object "com/example/breakline/breakline/ModifierNumbers") .int (Or.inr (tw hw 58 rfl)) (Or.inl (tw hw 52 rfl)))).keep K9q (ninS (Exa.neArv (((E_a1.keep K4q).wr W5).keep K9q) f9_0 (tw hw 45 rfl)) nin0)), (((F_ownValues_a1.keep K4q (ninS (Exa.ne E_a1 E_nu (by decide)) nin0)).other W5 (sn .int .int (Or.inr (tw hw 60 rfl)) (Or.inl (tw hw 52 rfl)))).keep K9q (ninS (Exa.neArv (((E_a1.keep K4q).wr W5).keep K9q) f9_0 (tw hw 45 rfl)) nin0)), (((F_neighbourValues_a1.keep K4q (ninS (Exa.ne E_a1 E_nu (by decide)) nin0)).other W5 (sn .int .int (Or.inr (tw hw 62 rfl)) (Or.inl (tw hw 52 rfl)))).keep K9q (ninS (Exa.neArv (((E_a1.keep K4q).wr W5).keep K9q) f9_0 (tw hw 45 rfl)) nin0)), (((F_whole_a1.keep K4q (ninS (Exa.ne E_a1 E_nu (by decide)) nin0)).other W5 (sn .double .int (Or.inl (tw hw 69 rfl)) (Or.inl (tw hw 52 rfl)))).keep K9q (ninS (Exa.neArv (((E_a1.keep K4q).wr W5).keep K9q) f9_0 (tw hw 45 rfl)) nin0))⟩
def Q20 (Z : State) (a1 : Addr) (p2 : Int32) (rat : Int32) (eat : Int32) (nu : Addr) (ow : Int32) (nb : Int32) (wh : Int64) (siz : Int32) (sin : Nat) (arr : Addr) (kla : ClassId) (cap : Int32) (can : Nat) (fco : Nat → Int64) (pn : Nat) (nbn : Nat) (h0 : Heap) (n0 : Nat) (v : Option Value) (h : Heap) (L : List Loc) : Prop := ∃ ro : Addr, ∃ ko : ClassId, ∃ co : Int32, ∃ cn : Nat, v = none ∧ Fr n0 L ∧ Keep h0 h [a1, nu, arr] ∧ Old Z n0 h ∧ Fld Z h nu "com/example/breakline/breakline/ModifierNumbers" "size" "I" (.int (siz + nb)) ∧ Fld Z h nu "com/example/breakline/breakline/ModifierNumbers" "numbers" "[D" (.ref ro) ∧ Fld Z h nu "com/example/breakline/breakline/ModifierNumbers" "listed" "[I" .null ∧ Arv Z h ro ko .double co (dvs (upd fco (sin + pn) ((fco (sin + pn)) + (1 : Int64)))) (.double (FP.l2d 0)) ∧ n0 ≤ ro ∧ (ro ∈ [arr] ∨ h0.size ≤ ro) ∧ Sm co cn ∧ sin + nbn ≤ cn ∧ cn ≤ 48 ∧ Fld Z h a1 "com/example/breakline/breakline/ModifierTable" "rowsAt" "I" (.int rat) ∧ Fld Z h a1 "com/example/breakline/breakline/ModifierTable" "columnsAt" "I" (.int siz) ∧ Fld Z h a1 "com/example/breakline/breakline/ModifierTable" "entriesAt" "I" (.int eat) ∧ Fld Z h a1 "com/example/breakline/breakline/ModifierTable" "numbers" "Lcom/example/breakline/breakline/ModifierNumbers;" (.ref nu) ∧ Fld Z h a1 "com/example/breakline/breakline/ModifierTable" "ownValues" "I" (.int ow) ∧ Fld Z h a1 "com/example/breakline/breakline/ModifierTable" "neighbourValues" "I" (.int nb) ∧ Fld Z h a1 "com/example/breakline/breakline/ModifierTable" "whole" "D" (.double (FP.l2d wh))
theorem ef_20 (m : MethodId) (x0 : Addr) (x1 : Int32) : entryFrame m #[(.ref x0), (.int x1)] 2 = mkF m 0 #[.val (.ref x0), .val (.int x1)] [] := by first | (simp [entryFrame, mkF, argsToLocals, Value.category]; done) | rfl
set_option maxRecDepth 65536 in
set_option maxHeartbeats 40000000 in
theorem rm20 (l : Launch) (Z : State) (a0 : Array Value) (hw : ∀ d ∈ tables_1, d.before a0 Z = true) (ws : List Jvm.Cond) (a1 : Addr) (p2 : Int32) (rat : Int32) (eat : Int32) (nu : Addr) (ow : Int32) (nb : Int32) (wh : Int64) (siz : Int32) (sin : Nat) (arr : Addr) (kla : ClassId) (cap : Int32) (can : Nat) (fco : Nat → Int64) (pn : Nat) (nbn : Nat) (h0 : Heap) (n0 : Nat) (O0 : Old Z n0 h0) (E_a1 : Exa Z h0 a1 "com/example/breakline/breakline/ModifierTable") (F_rowsAt_a1 : Fld Z h0 a1 "com/example/breakline/breakline/ModifierTable" "rowsAt" "I" (.int rat)) (F_columnsAt_a1 : Fld Z h0 a1 "com/example/breakline/breakline/ModifierTable" "columnsAt" "I" (.int (-1 : Int32))) (F_entriesAt_a1 : Fld Z h0 a1 "com/example/breakline/breakline/ModifierTable" "entriesAt" "I" (.int eat)) (F_numbers_a1 : Fld Z h0 a1 "com/example/breakline/breakline/ModifierTable" "numbers" "Lcom/example/breakline/breakline/ModifierNumbers;" (.ref nu)) (F_ownValues_a1 : Fld Z h0 a1 "com/example/breakline/breakline/ModifierTable" "ownValues" "I" (.int ow)) (F_neighbourValues_a1 : Fld Z h0 a1 "com/example/breakline/breakline/ModifierTable" "neighbourValues" "I" (.int nb)) (F_whole_a1 : Fld Z h0 a1 "com/example/breakline/breakline/ModifierTable" "whole" "D" (.double (FP.l2d wh))) (ge_a1 : n0 ≤ a1) (ge_nu : n0 ≤ nu) (E_nu : Exa Z h0 nu "com/example/breakline/breakline/ModifierNumbers") (F_size_nu : Fld Z h0 nu "com/example/breakline/breakline/ModifierNumbers" "size" "I" (.int siz)) (F_numbers_nu : Fld Z h0 nu "com/example/breakline/breakline/ModifierNumbers" "numbers" "[D" (.ref arr)) (F_listed_nu : Fld Z h0 nu "com/example/breakline/breakline/ModifierNumbers" "listed" "[I" .null) (A_arr : Arv Z h0 arr kla .double cap (dvs fco) (.double (FP.l2d 0))) (ge_arr : n0 ≤ arr) (h_s : Sm siz sin) (h_c : Sm cap can) (h_sc : sin ≤ can) (h_c48 : can ≤ 48) (h_f0 : ∀ j, sin ≤ j → fco j = 0) (h_p : Sm p2 pn) (h_nb : Sm nb nbn) (h_lt : pn < nbn) (h_31 : sin + nbn ≤ 31) :
    MetFree l (⟨"com/example/breakline/breakline/ModifierTable", "raiseColumn", "(I)V"⟩ : MethodName) (head1 (Jvm.Cond.code (⟨"com/example/breakline/breakline/ModifierTable", "raiseColumn", "(I)V"⟩ : MethodName) prog_50_method_8_code 2 none :: ws) ({ frames := 3, cells := 1, slots := 48, locals := 70 } : Room)) (fun a U => a = #[(.ref a1), (.int p2)] ∧ Z.Warmed39 U.vm ∧ U.heap = h0) (fun _ _ _ _ _ => True) (fun _ U o U' => ∃ v L, o = .returned v ∧ Q20 Z a1 p2 rat eat nu ow nb wh siz sin arr kla cap can fco pn nbn h0 n0 v U'.heap L ∧ FrameEnd U o U' L ({ frames := 3, cells := 1, slots := 48, locals := 70 } : Room).cells ({ frames := 3, cells := 1, slots := 48, locals := 70 } : Room).slots) := by
  refine MetFree.of_bodySF (plainFor_of_name pn_2) hisR ?_
  intro p e s m args below meth c s₁ Bd hml0 hP hK
  obtain ⟨rfl, hZ, hh⟩ := hP
  have hx := Bd.exec
  have hby := Bd.bytes
  have hml : c.maxLocals = 2 := hml0
  have hown : s.vm.findClass "com/example/breakline/breakline/ModifierTable" = some m.cls := findClass_of_methodNamed Bd.named
  have hnm := (name_of_methodNamed Bd.named Bd.method).1
  have X0 : Stand p l e ({ frames := 3, cells := 1, slots := 48, locals := 70 } : Room) s m #[(.ref a1), (.int p2)] below meth c s₁ [] 0 0 := Stand.of_body Bd
  have e0 : s₁.heap = h0 := by rw [← hh, Bd.state]; rfl
  have N0 := Fr.nil n0
  have pre0 : ∀ t, Steps p.tables e below (s₁.setTop (mkF m 0 #[.val (.ref a1), .val (.int p2)] [])) t → Steps p.tables e below (s₁.setTop (entryFrame m #[(.ref a1), (.int p2)] 2)) t := fun t k => castTop (ef_20 m a1 p2) k
  have K0 := Keep.refl h0 [a1, nu, arr]
  obtain ⟨T1, X1, e1, st1⟩ := getF X0 hx hZ hown (host := "") (Or.inl (tw hw 53 rfl)) Via.refl e0 F_columnsAt_a1 (g := (mkF m 1 #[.val (.ref a1), .val (.int p2)] [(.ref a1)])) rfl rfl (hb hby d20_1)
  obtain ⟨T2, X2, e2, st2⟩ := getF X1 hx hZ hown (host := "") (Or.inl (tw hw 57 rfl)) Via.refl e1 F_numbers_a1 (g := (mkF m 10 #[.val (.ref a1), .val (.int p2)] [(.ref a1), (.ref a1)])) rfl rfl (hb hby d20_10)
  obtain ⟨T3, X3, e3, st3⟩ := getF X2 hx hZ hown (host := "") (Or.inl (tw hw 61 rfl)) Via.refl e2 F_neighbourValues_a1 (g := (mkF m 14 #[.val (.ref a1), .val (.int p2)] [(.ref a1), (.ref nu), (.ref a1)])) rfl rfl (hb hby d20_14)
  obtain ⟨cq4, kq4, q4a, q4b, q4c⟩ := isOf hZ e3 E_nu
  obtain ⟨_, _, ⟨T4, L4, k4, n4⟩, -, X4, ⟨Lc4, hQ4, l4, y4, z4⟩, st4⟩ := X3.virtualBack hx (y := (⟨"com/example/breakline/breakline/ModifierNumbers", "take", "(I)I"⟩ : MethodName)) (z := (⟨"com/example/breakline/breakline/ModifierNumbers", "take", "(I)I"⟩ : MethodName)) hown (mvT hZ (tw hw 75 rfl)) (mvT hZ (tw hw 14 rfl)) (notFace_of_selects (args := #[]) (mvT hZ (tw hw 16 rfl))) (mvT hZ (tw hw 16 rfl)) (mvT hZ (tw hw 15 rfl)) (by decide) (backOf (W := 1) (rm3 l Z a0 hw [] nu nb siz sin arr kla cap can fco nbn h0 n0 O0 E_nu F_size_nu F_numbers_nu F_listed_nu A_arr ge_arr h_s h_c h_sc h_c48 h_f0 ge_nu h_nb h_31) hZ (tw hw 17 rfl) (tw hw 3 rfl) (by decide) (by decide)) q4a q4c (g := (mkF m 17 #[.val (.ref a1), .val (.int p2)] [(.int nb), (.ref nu), (.ref a1)])) rfl (by rw [hml]; rfl) (Steps.refl _) (argsL := [(.int nb)]) (rest := [(.ref a1)]) (lenOf pd_3 rfl) rfl (by show 2 * 0 + _ ≤ _; exact Nat.le_of_eq rfl) (hb hby d20_17) (fun _ _ => ⟨rfl, e3, (by decide : 0 + 1 ≤ _), (by decide : 0 + 48 ≤ _)⟩)
  dsimp only [Pt.U, Pt.locs, Pt.cells, Pt.slots] at X4 l4 y4 z4 st4 hQ4
  subst l4 y4 z4
  obtain ⟨ro_4, ko_4, co_4, cn_4, rfl, N4q, K4q, O4, f4_0, f4_1, f4_2, f4_3, f4_4, f4_5, f4_6, f4_7, f4_8⟩ := hQ4
  have N4 := Fr.app N0 N4q
  have K4 := K0.trans K4q (allS (Or.inl (List.mem_of_getElem? (i := 1) rfl)) all0)
  obtain ⟨T5, h5, X5, e5, W5, st5⟩ := putF X4 hx hZ hown (host := "") (Or.inl (tw hw 53 rfl)) Via.refl rfl (F_columnsAt_a1.keep K4q (ninS (Exa.ne E_a1 E_nu (by decide)) nin0)) (E_a1.keep K4q) (Or.inl (tw hw 54 rfl)) (tw hw 45 rfl) (ty := .int) (by decide) rfl rfl (g := (mkF m 20 #[.val (.ref a1), .val (.int p2)] [(.int siz), (.ref a1)])) rfl rfl (hb hby d20_20)
  have Fw5 := (F_columnsAt_a1.keep K4q (ninS (Exa.ne E_a1 E_nu (by decide)) nin0)).same W5
  have N5 := Fr.snoc X5 N4 ge_a1
  have O6 := O4.wr W5 ge_a1
  have K5 := K4.wr W5 (Or.inl (List.mem_of_getElem? (i := 0) rfl))
  obtain ⟨T7, X7, e7, st7⟩ := getF X5 hx hZ hown (host := "") (Or.inl (tw hw 57 rfl)) Via.refl e5 ((F_numbers_a1.keep K4q (ninS (Exa.ne E_a1 E_nu (by decide)) nin0)).other W5 (sn (.object "com/example/breakline/breakline/ModifierNumbers") .int (Or.inr (tw hw 58 rfl)) (Or.inl (tw hw 54 rfl)))) (g := (mkF m 24 #[.val (.ref a1), .val (.int p2)] [(.ref a1)])) rfl rfl (hb hby d20_24)
  obtain ⟨T8, X8, e8, st8⟩ := getF X7 hx hZ hown (host := "") (Or.inl (tw hw 53 rfl)) Via.refl e7 Fw5 (g := (mkF m 28 #[.val (.ref a1), .val (.int p2)] [(.ref a1), (.ref nu)])) rfl rfl (hb hby d20_28)
  obtain ⟨cq9, kq9, q9a, q9b, q9c⟩ := isOf hZ e8 ((E_nu.keep K4q).wr W5)
  obtain ⟨_, _, ⟨T9, L9, k9, n9⟩, -, X9, ⟨Lc9, hQ9, l9, y9, z9⟩, st9⟩ := X8.virtualBack hx (y := (⟨"com/example/breakline/breakline/ModifierNumbers", "add", "(ID)V"⟩ : MethodName)) (z := (⟨"com/example/breakline/breakline/ModifierNumbers", "add", "(ID)V"⟩ : MethodName)) hown (mvT hZ (tw hw 76 rfl)) (mvT hZ (tw hw 77 rfl)) (notFace_of_selects (args := #[]) (mvT hZ (tw hw 79 rfl))) (mvT hZ (tw hw 79 rfl)) (mvT hZ (tw hw 78 rfl)) (by decide) (backOf (W := 0) (rm12 l Z a0 hw [] nu (siz + p2) ro_4 ko_4 co_4 cn_4 fco (1 : Int64) (sin + pn) h5 n0 O6 ((E_nu.keep K4q).wr W5) (f4_1.other W5 (Or.inl (Exa.ne E_nu E_a1 (by decide)))) (f4_2.other W5 (Or.inl (Exa.ne E_nu E_a1 (by decide)))) (f4_3.other W5 (Ne.symm (Exa.neArv (E_a1.keep K4q) f4_3 (tw hw 45 rfl)))) f4_4 f4_6 f4_8 (Sm.add h_s h_p (by omega)) (Nat.lt_of_lt_of_le (Nat.add_lt_add_left h_lt sin) f4_7) (own_bz (h_f0 _ (Nat.le_add_right _ _))) own_b1) hZ (tw hw 80 rfl) (tw hw 3 rfl) (by decide) (by decide)) q9a q9c (g := (mkF m 34 #[.val (.ref a1), .val (.int p2)] [(.double (FP.l2d 1)), (.int (siz + p2)), (.ref nu)])) rfl (by rw [hml]; rfl) (Steps.refl _) (argsL := [(.int (siz + p2)), (.double (FP.l2d 1))]) (rest := []) (lenOf pd_4 rfl) rfl (by show 2 * 0 + _ ≤ _; exact Nat.le_of_eq rfl) (hb hby d20_34) (fun _ _ => ⟨rfl, e8, (by decide : 1 + 0 ≤ _), (by decide : 48 + 0 ≤ _)⟩)
  dsimp only [Pt.U, Pt.locs, Pt.cells, Pt.slots] at X9 l9 y9 z9 st9 hQ9
  subst l9 y9 z9
  obtain ⟨rfl, N9q, K9q, O9, f9_0⟩ := hQ9
  have N9 := Fr.app N5 N9q
  have K9 := K5.trans K9q (allS (f4_5.elim (fun q => Or.inl (by rw [List.mem_singleton.mp q]; exact List.mem_of_getElem? (i := 2) rfl)) Or.inr) all0)
  have sg10 : ∀ target, Steps p.tables e below (T9.setTop (mkF m 37 #[.val (.ref a1), .val (.int p2)] [])) target → Steps p.tables e below (s₁.setTop (mkF m 0 #[.val (.ref a1), .val (.int p2)] [])) target := by
    intro target kt
    show Steps p.tables e below (s₁.setTop (mkF m 0 #[.val (.ref a1), .val (.int p2)] [])) _
    refine XS.aloadN X0.here hx rfl (hb hby d20_0) rfl rfl ?_
    show Steps p.tables e below (s₁.setTop (mkF m 1 #[.val (.ref a1), .val (.int p2)] [(.ref a1)])) _
    refine st1 _ ?_
    show Steps p.tables e below (T1.setTop (mkF m 4 #[.val (.ref a1), .val (.int p2)] [(.int (-1 : Int32))])) _
    refine XS.iconst X1.here hx rfl (hb hby d20_4) ?_
    show Steps p.tables e below (T1.setTop (mkF m 5 #[.val (.ref a1), .val (.int p2)] [(.int (-1 : Int32)), (.int (-1 : Int32))])) _
    refine XS.icmpNo X1.here hx rfl (hb hby d20_5) rfl (teq (by decide : (-1 : Int32) = (-1 : Int32))).2 ?_
    show Steps p.tables e below (T1.setTop (mkF m 8 #[.val (.ref a1), .val (.int p2)] [])) _
    refine XS.aloadN X1.here hx rfl (hb hby d20_8) rfl rfl ?_
    show Steps p.tables e below (T1.setTop (mkF m 9 #[.val (.ref a1), .val (.int p2)] [(.ref a1)])) _
    refine XS.aloadN X1.here hx rfl (hb hby d20_9) rfl rfl ?_
    show Steps p.tables e below (T1.setTop (mkF m 10 #[.val (.ref a1), .val (.int p2)] [(.ref a1), (.ref a1)])) _
    refine st2 _ ?_
    show Steps p.tables e below (T2.setTop (mkF m 13 #[.val (.ref a1), .val (.int p2)] [(.ref nu), (.ref a1)])) _
    refine XS.aloadN X2.here hx rfl (hb hby d20_13) rfl rfl ?_
    show Steps p.tables e below (T2.setTop (mkF m 14 #[.val (.ref a1), .val (.int p2)] [(.ref a1), (.ref nu), (.ref a1)])) _
    refine st3 _ ?_
    show Steps p.tables e below (T3.setTop (mkF m 17 #[.val (.ref a1), .val (.int p2)] [(.int nb), (.ref nu), (.ref a1)])) _
    refine st4.trans ?_
    show Steps p.tables e below (T4.setTop (mkF m 20 #[.val (.ref a1), .val (.int p2)] [(.int siz), (.ref a1)])) _
    refine st5 _ ?_
    show Steps p.tables e below (T5.setTop (mkF m 23 #[.val (.ref a1), .val (.int p2)] [])) _
    refine XS.aloadN X5.here hx rfl (hb hby d20_23) rfl rfl ?_
    show Steps p.tables e below (T5.setTop (mkF m 24 #[.val (.ref a1), .val (.int p2)] [(.ref a1)])) _
    refine st7 _ ?_
    show Steps p.tables e below (T7.setTop (mkF m 27 #[.val (.ref a1), .val (.int p2)] [(.ref nu)])) _
    refine XS.aloadN X7.here hx rfl (hb hby d20_27) rfl rfl ?_
    show Steps p.tables e below (T7.setTop (mkF m 28 #[.val (.ref a1), .val (.int p2)] [(.ref a1), (.ref nu)])) _
    refine st8 _ ?_
    show Steps p.tables e below (T8.setTop (mkF m 31 #[.val (.ref a1), .val (.int p2)] [(.int siz), (.ref nu)])) _
    refine XS.iloadN X8.here hx rfl (hb hby d20_31) rfl ?_
    show Steps p.tables e below (T8.setTop (mkF m 32 #[.val (.ref a1), .val (.int p2)] [(.int p2), (.int siz), (.ref nu)])) _
    refine XS.iadd X8.here hx rfl (hb hby d20_32) rfl ?_
    show Steps p.tables e below (T8.setTop (mkF m 33 #[.val (.ref a1), .val (.int p2)] [(.int (siz + p2)), (.ref nu)])) _
    refine XS.dconst1 X8.here hx rfl (hb hby d20_33) own_d1 ?_
    show Steps p.tables e below (T8.setTop (mkF m 34 #[.val (.ref a1), .val (.int p2)] [(.double (FP.l2d 1)), (.int (siz + p2)), (.ref nu)])) _
    refine st9.trans ?_
    exact kt
  obtain ⟨fs, hr, hrun, hended, hW, hsame⟩ := X9.leave (v := none) (fun _ => rfl)
  refine ⟨_, _, pre0 _ (sg10 _ (?_)), hrun, hended, _, _, rfl, ?_, ⟨_, rfl⟩, hW, hsame.mono (by decide) (by decide)⟩
  · show Steps p.tables e below (T9.setTop (mkF m 37 #[.val (.ref a1), .val (.int p2)] [])) _
    exact X9.returnOut hx Bd.returns (hb hby d20_37) hr
  · show Q20 Z a1 p2 rat eat nu ow nb wh siz sin arr kla cap can fco pn nbn h0 n0 _ T9.heap _
    exact ⟨ro_4, ko_4, co_4, cn_4, rfl, N9, K9, O9, ((f4_0.other W5 (Or.inl (Exa.ne E_nu E_a1 (by decide)))).keep K9q (ninS (Exa.neArv (((E_nu.keep K4q).wr W5).keep K9q) f9_0 (tw hw 2 rfl)) nin0)), ((f4_1.other W5 (Or.inl (Exa.ne E_nu E_a1 (by decide)))).keep K9q (ninS (Exa.neArv (((E_nu.keep K4q).wr W5).keep K9q) f9_0 (tw hw 2 rfl)) nin0)), ((f4_2.other W5 (Or.inl (Exa.ne E_nu E_a1 (by decide)))).keep K9q (ninS (Exa.neArv (((E_nu.keep K4q).wr W5).keep K9q) f9_0 (tw hw 2 rfl)) nin0)), f9_0, f4_4, f4_5, f4_6, f4_7, f4_8, (((F_rowsAt_a1.keep K4q (ninS (Exa.ne E_a1 E_nu (by decide)) nin0)).other W5 (sn .int .int (Or.inl (tw hw 52 rfl)) (Or.inl (tw hw 54 rfl)))).keep K9q (ninS (Exa.neArv (((E_a1.keep K4q).wr W5).keep K9q) f9_0 (tw hw 45 rfl)) nin0)), (Fw5.keep K9q (ninS (Exa.neArv (((E_a1.keep K4q).wr W5).keep K9q) f9_0 (tw hw 45 rfl)) nin0)), (((F_entriesAt_a1.keep K4q (ninS (Exa.ne E_a1 E_nu (by decide)) nin0)).other W5 (sn .int .int (Or.inl (tw hw 56 rfl)) (Or.inl (tw hw 54 rfl)))).keep K9q (ninS (Exa.neArv (((E_a1.keep K4q).wr W5).keep K9q) f9_0 (tw hw 45 rfl)) nin0)), (((F_numbers_a1.keep K4q (ninS (Exa.ne E_a1 E_nu (by decide)) nin0)).other W5 (sn (.object "com/example/breakline/breakline/ModifierNumbers") .int (Or.inr (tw hw 58 rfl)) (Or.inl (tw hw 54 rfl)))).keep K9q (ninS (Exa.neArv (((E_a1.keep K4q).wr W5).keep K9q) f9_0 (tw hw 45 rfl)) nin0)), (((F_ownValues_a1.keep K4q (ninS (Exa.ne E_a1 E_nu (by decide)) nin0)).other W5 (sn .int .int (Or.inr (tw hw 60 rfl)) (Or.inl (tw hw 54 rfl)))).keep K9q (ninS (Exa.neArv (((E_a1.keep K4q).wr W5).keep K9q) f9_0 (tw hw 45 rfl)) nin0)), (((F_neighbourValues_a1.keep K4q (ninS (Exa.ne E_a1 E_nu (by decide)) nin0)).other W5 (sn .int .int (Or.inr (tw hw 62 rfl)) (Or.inl (tw hw 54 rfl)))).keep K9q (ninS (Exa.neArv (((E_a1.keep K4q).wr W5).keep K9q) f9_0 (tw hw 45 rfl)) nin0)), (((F_whole_a1.keep K4q (ninS (Exa.ne E_a1 E_nu (by decide)) nin0)).other W5 (sn .double .int (Or.inl (tw hw 69 rfl)) (Or.inl (tw hw 54 rfl)))).keep K9q (ninS (Exa.neArv (((E_a1.keep K4q).wr W5).keep K9q) f9_0 (tw hw 45 rfl)) nin0))⟩
def Q17_A (Z : State) (a1 : Addr) (p2 : Int32) (p3 : Int32) (rat : Int32) (cat : Int32) (nu : Addr) (ow : Int32) (nb : Int32) (wh : Int64) (siz : Int32) (sin : Nat) (arr : Addr) (kla : ClassId) (cap : Int32) (can : Nat) (fco : Nat → Int64) (own : Nat) (nbn : Nat) (pn : Nat) (rn : Nat) (x4 : Int64) (h0 : Heap) (n0 : Nat) (v : Option Value) (h : Heap) (L : List Loc) : Prop := ∃ ro : Addr, ∃ ko : ClassId, ∃ co : Int32, ∃ cn : Nat, v = none ∧ Fr n0 L ∧ Keep h0 h [a1, nu, arr] ∧ Old Z n0 h ∧ Fld Z h nu "com/example/breakline/breakline/ModifierNumbers" "size" "I" (.int (siz + (ow * nb))) ∧ Fld Z h nu "com/example/breakline/breakline/ModifierNumbers" "numbers" "[D" (.ref ro) ∧ Fld Z h nu "com/example/breakline/breakline/ModifierNumbers" "listed" "[I" .null ∧ Arv Z h ro ko .double co (dvs (upd fco (sin + (pn * nbn) + rn) ((fco (sin + (pn * nbn) + rn)) + x4))) (.double (FP.l2d 0)) ∧ n0 ≤ ro ∧ (ro ∈ [arr] ∨ h0.size ≤ ro) ∧ Sm co cn ∧ sin + (own * nbn) ≤ cn ∧ cn ≤ 48 ∧ Fld Z h a1 "com/example/breakline/breakline/ModifierTable" "rowsAt" "I" (.int rat) ∧ Fld Z h a1 "com/example/breakline/breakline/ModifierTable" "columnsAt" "I" (.int cat) ∧ Fld Z h a1 "com/example/breakline/breakline/ModifierTable" "entriesAt" "I" (.int siz) ∧ Fld Z h a1 "com/example/breakline/breakline/ModifierTable" "numbers" "Lcom/example/breakline/breakline/ModifierNumbers;" (.ref nu) ∧ Fld Z h a1 "com/example/breakline/breakline/ModifierTable" "ownValues" "I" (.int ow) ∧ Fld Z h a1 "com/example/breakline/breakline/ModifierTable" "neighbourValues" "I" (.int nb) ∧ Fld Z h a1 "com/example/breakline/breakline/ModifierTable" "whole" "D" (.double (FP.l2d wh))
theorem ef_17_A (m : MethodId) (x0 : Addr) (x1 : Int32) (x2 : Int32) (x3 : UInt64) : entryFrame m #[(.ref x0), (.int x1), (.int x2), (.double x3)] 5 = mkF m 0 #[.val (.ref x0), .val (.int x1), .val (.int x2), .val (.double x3), .second] [] := by first | (simp [entryFrame, mkF, argsToLocals, Value.category]; done) | rfl
set_option maxRecDepth 65536 in
set_option maxHeartbeats 40000000 in
theorem rm17_A (l : Launch) (Z : State) (a0 : Array Value) (hw : ∀ d ∈ tables_1, d.before a0 Z = true) (ws : List Jvm.Cond) (a1 : Addr) (p2 : Int32) (p3 : Int32) (rat : Int32) (cat : Int32) (nu : Addr) (ow : Int32) (nb : Int32) (wh : Int64) (siz : Int32) (sin : Nat) (arr : Addr) (kla : ClassId) (cap : Int32) (can : Nat) (fco : Nat → Int64) (own : Nat) (nbn : Nat) (pn : Nat) (rn : Nat) (x4 : Int64) (h0 : Heap) (n0 : Nat) (O0 : Old Z n0 h0) (E_a1 : Exa Z h0 a1 "com/example/breakline/breakline/ModifierTable") (F_rowsAt_a1 : Fld Z h0 a1 "com/example/breakline/breakline/ModifierTable" "rowsAt" "I" (.int rat)) (F_columnsAt_a1 : Fld Z h0 a1 "com/example/breakline/breakline/ModifierTable" "columnsAt" "I" (.int cat)) (F_entriesAt_a1 : Fld Z h0 a1 "com/example/breakline/breakline/ModifierTable" "entriesAt" "I" (.int (-1 : Int32))) (F_numbers_a1 : Fld Z h0 a1 "com/example/breakline/breakline/ModifierTable" "numbers" "Lcom/example/breakline/breakline/ModifierNumbers;" (.ref nu)) (F_ownValues_a1 : Fld Z h0 a1 "com/example/breakline/breakline/ModifierTable" "ownValues" "I" (.int ow)) (F_neighbourValues_a1 : Fld Z h0 a1 "com/example/breakline/breakline/ModifierTable" "neighbourValues" "I" (.int nb)) (F_whole_a1 : Fld Z h0 a1 "com/example/breakline/breakline/ModifierTable" "whole" "D" (.double (FP.l2d wh))) (ge_a1 : n0 ≤ a1) (ge_nu : n0 ≤ nu) (E_nu : Exa Z h0 nu "com/example/breakline/breakline/ModifierNumbers") (F_size_nu : Fld Z h0 nu "com/example/breakline/breakline/ModifierNumbers" "size" "I" (.int siz)) (F_numbers_nu : Fld Z h0 nu "com/example/breakline/breakline/ModifierNumbers" "numbers" "[D" (.ref arr)) (F_listed_nu : Fld Z h0 nu "com/example/breakline/breakline/ModifierNumbers" "listed" "[I" .null) (A_arr : Arv Z h0 arr kla .double cap (dvs fco) (.double (FP.l2d 0))) (ge_arr : n0 ≤ arr) (h_s : Sm siz sin) (h_c : Sm cap can) (h_sc : sin ≤ can) (h_c48 : can ≤ 48) (h_f0 : ∀ j, sin ≤ j → fco j = 0) (h_ow : Sm ow own) (h_nb : Sm nb nbn) (h_p : Sm p2 pn) (h_r : Sm p3 rn) (h_lt : pn < own) (h_lr : rn < nbn) (h_o4 : own ≤ 4) (h_n4 : nbn ≤ 4) (h_31 : sin + (own * nbn) ≤ 31) (h_x : B53 x4) :
    MetFree l (⟨"com/example/breakline/breakline/ModifierTable", "addToEntry", "(IID)V"⟩ : MethodName) (head1 (Jvm.Cond.code (⟨"com/example/breakline/breakline/ModifierTable", "addToEntry", "(IID)V"⟩ : MethodName) prog_50_method_6_code 5 none :: ws) ({ frames := 3, cells := 1, slots := 48, locals := 70 } : Room)) (fun a U => a = #[(.ref a1), (.int p2), (.int p3), (.double (FP.l2d x4))] ∧ Z.Warmed39 U.vm ∧ U.heap = h0) (fun _ _ _ _ _ => True) (fun _ U o U' => ∃ v L, o = .returned v ∧ Q17_A Z a1 p2 p3 rat cat nu ow nb wh siz sin arr kla cap can fco own nbn pn rn x4 h0 n0 v U'.heap L ∧ FrameEnd U o U' L ({ frames := 3, cells := 1, slots := 48, locals := 70 } : Room).cells ({ frames := 3, cells := 1, slots := 48, locals := 70 } : Room).slots) := by
  refine MetFree.of_bodySF (plainFor_of_name pn_2) hisR ?_
  intro p e s m args below meth c s₁ Bd hml0 hP hK
  obtain ⟨rfl, hZ, hh⟩ := hP
  have hx := Bd.exec
  have hby := Bd.bytes
  have hml : c.maxLocals = 5 := hml0
  have hown : s.vm.findClass "com/example/breakline/breakline/ModifierTable" = some m.cls := findClass_of_methodNamed Bd.named
  have hnm := (name_of_methodNamed Bd.named Bd.method).1
  have X0 : Stand p l e ({ frames := 3, cells := 1, slots := 48, locals := 70 } : Room) s m #[(.ref a1), (.int p2), (.int p3), (.double (FP.l2d x4))] below meth c s₁ [] 0 0 := Stand.of_body Bd
  have e0 : s₁.heap = h0 := by rw [← hh, Bd.state]; rfl
  have N0 := Fr.nil n0
  have pre0 : ∀ t, Steps p.tables e below (s₁.setTop (mkF m 0 #[.val (.ref a1), .val (.int p2), .val (.int p3), .val (.double (FP.l2d x4)), .second] [])) t → Steps p.tables e below (s₁.setTop (entryFrame m #[(.ref a1), (.int p2), (.int p3), (.double (FP.l2d x4))] 5)) t := fun t k => castTop (ef_17_A m a1 p2 p3 (FP.l2d x4)) k
  have K0 := Keep.refl h0 [a1, nu, arr]
  obtain ⟨T1, X1, e1, st1⟩ := getF X0 hx hZ hown (host := "") (Or.inl (tw hw 55 rfl)) Via.refl e0 F_entriesAt_a1 (g := (mkF m 1 #[.val (.ref a1), .val (.int p2), .val (.int p3), .val (.double (FP.l2d x4)), .second] [(.ref a1)])) rfl rfl (hb hby d17_1)
  obtain ⟨T2, X2, e2, st2⟩ := getF X1 hx hZ hown (host := "") (Or.inl (tw hw 57 rfl)) Via.refl e1 F_numbers_a1 (g := (mkF m 10 #[.val (.ref a1), .val (.int p2), .val (.int p3), .val (.double (FP.l2d x4)), .second] [(.ref a1), (.ref a1)])) rfl rfl (hb hby d17_10)
  obtain ⟨T3, X3, e3, st3⟩ := getF X2 hx hZ hown (host := "") (Or.inl (tw hw 59 rfl)) Via.refl e2 F_ownValues_a1 (g := (mkF m 14 #[.val (.ref a1), .val (.int p2), .val (.int p3), .val (.double (FP.l2d x4)), .second] [(.ref a1), (.ref nu), (.ref a1)])) rfl rfl (hb hby d17_14)
  obtain ⟨T4, X4, e4, st4⟩ := getF X3 hx hZ hown (host := "") (Or.inl (tw hw 61 rfl)) Via.refl e3 F_neighbourValues_a1 (g := (mkF m 18 #[.val (.ref a1), .val (.int p2), .val (.int p3), .val (.double (FP.l2d x4)), .second] [(.ref a1), (.int ow), (.ref nu), (.ref a1)])) rfl rfl (hb hby d17_18)
  obtain ⟨cq5, kq5, q5a, q5b, q5c⟩ := isOf hZ e4 E_nu
  obtain ⟨_, _, ⟨T5, L5, k5, n5⟩, -, X5, ⟨Lc5, hQ5, l5, y5, z5⟩, st5⟩ := X4.virtualBack hx (y := (⟨"com/example/breakline/breakline/ModifierNumbers", "take", "(I)I"⟩ : MethodName)) (z := (⟨"com/example/breakline/breakline/ModifierNumbers", "take", "(I)I"⟩ : MethodName)) hown (mvT hZ (tw hw 75 rfl)) (mvT hZ (tw hw 14 rfl)) (notFace_of_selects (args := #[]) (mvT hZ (tw hw 16 rfl))) (mvT hZ (tw hw 16 rfl)) (mvT hZ (tw hw 15 rfl)) (by decide) (backOf (W := 1) (rm3 l Z a0 hw [] nu (ow * nb) siz sin arr kla cap can fco (own * nbn) h0 n0 O0 E_nu F_size_nu F_numbers_nu F_listed_nu A_arr ge_arr h_s h_c h_sc h_c48 h_f0 ge_nu (Sm.mul h_ow h_nb h_o4 h_n4) h_31) hZ (tw hw 17 rfl) (tw hw 3 rfl) (by decide) (by decide)) q5a q5c (g := (mkF m 22 #[.val (.ref a1), .val (.int p2), .val (.int p3), .val (.double (FP.l2d x4)), .second] [(.int (ow * nb)), (.ref nu), (.ref a1)])) rfl (by rw [hml]; rfl) (Steps.refl _) (argsL := [(.int (ow * nb))]) (rest := [(.ref a1)]) (lenOf pd_3 rfl) rfl (by show 2 * 0 + _ ≤ _; exact Nat.le_of_eq rfl) (hb hby d17_22) (fun _ _ => ⟨rfl, e4, (by decide : 0 + 1 ≤ _), (by decide : 0 + 48 ≤ _)⟩)
  dsimp only [Pt.U, Pt.locs, Pt.cells, Pt.slots] at X5 l5 y5 z5 st5 hQ5
  subst l5 y5 z5
  obtain ⟨ro_5, ko_5, co_5, cn_5, rfl, N5q, K5q, O5, f5_0, f5_1, f5_2, f5_3, f5_4, f5_5, f5_6, f5_7, f5_8⟩ := hQ5
  have N5 := Fr.app N0 N5q
  have K5 := K0.trans K5q (allS (Or.inl (List.mem_of_getElem? (i := 1) rfl)) all0)
  obtain ⟨T6, h6, X6, e6, W6, st6⟩ := putF X5 hx hZ hown (host := "") (Or.inl (tw hw 55 rfl)) Via.refl rfl (F_entriesAt_a1.keep K5q (ninS (Exa.ne E_a1 E_nu (by decide)) nin0)) (E_a1.keep K5q) (Or.inl (tw hw 56 rfl)) (tw hw 45 rfl) (ty := .int) (by decide) rfl rfl (g := (mkF m 25 #[.val (.ref a1), .val (.int p2), .val (.int p3), .val (.double (FP.l2d x4)), .second] [(.int siz), (.ref a1)])) rfl rfl (hb hby d17_25)
  have Fw6 := (F_entriesAt_a1.keep K5q (ninS (Exa.ne E_a1 E_nu (by decide)) nin0)).same W6
  have N6 := Fr.snoc X6 N5 ge_a1
  have O7 := O5.wr W6 ge_a1
  have K6 := K5.wr W6 (Or.inl (List.mem_of_getElem? (i := 0) rfl))
  obtain ⟨T8, X8, e8, st8⟩ := getF X6 hx hZ hown (host := "") (Or.inl (tw hw 57 rfl)) Via.refl e6 ((F_numbers_a1.keep K5q (ninS (Exa.ne E_a1 E_nu (by decide)) nin0)).other W6 (sn (.object "com/example/breakline/breakline/ModifierNumbers") .int (Or.inr (tw hw 58 rfl)) (Or.inl (tw hw 56 rfl)))) (g := (mkF m 29 #[.val (.ref a1), .val (.int p2), .val (.int p3), .val (.double (FP.l2d x4)), .second] [(.ref a1)])) rfl rfl (hb hby d17_29)
  obtain ⟨T9, X9, e9, st9⟩ := getF X8 hx hZ hown (host := "") (Or.inl (tw hw 55 rfl)) Via.refl e8 Fw6 (g := (mkF m 33 #[.val (.ref a1), .val (.int p2), .val (.int p3), .val (.double (FP.l2d x4)), .second] [(.ref a1), (.ref nu)])) rfl rfl (hb hby d17_33)
  obtain ⟨T10, X10, e10, st10⟩ := getF X9 hx hZ hown (host := "") (Or.inl (tw hw 61 rfl)) Via.refl e9 ((F_neighbourValues_a1.keep K5q (ninS (Exa.ne E_a1 E_nu (by decide)) nin0)).other W6 (sn .int .int (Or.inr (tw hw 62 rfl)) (Or.inl (tw hw 56 rfl)))) (g := (mkF m 38 #[.val (.ref a1), .val (.int p2), .val (.int p3), .val (.double (FP.l2d x4)), .second] [(.ref a1), (.int p2), (.int siz), (.ref nu)])) rfl rfl (hb hby d17_38)
  obtain ⟨cq11, kq11, q11a, q11b, q11c⟩ := isOf hZ e10 ((E_nu.keep K5q).wr W6)
  obtain ⟨_, _, ⟨T11, L11, k11, n11⟩, -, X11, ⟨Lc11, hQ11, l11, y11, z11⟩, st11⟩ := X10.virtualBack hx (y := (⟨"com/example/breakline/breakline/ModifierNumbers", "add", "(ID)V"⟩ : MethodName)) (z := (⟨"com/example/breakline/breakline/ModifierNumbers", "add", "(ID)V"⟩ : MethodName)) hown (mvT hZ (tw hw 76 rfl)) (mvT hZ (tw hw 77 rfl)) (notFace_of_selects (args := #[]) (mvT hZ (tw hw 79 rfl))) (mvT hZ (tw hw 79 rfl)) (mvT hZ (tw hw 78 rfl)) (by decide) (backOf (W := 0) (rm12 l Z a0 hw [] nu ((siz + (p2 * nb)) + p3) ro_5 ko_5 co_5 cn_5 fco x4 (sin + (pn * nbn) + rn) h6 n0 O7 ((E_nu.keep K5q).wr W6) (f5_1.other W6 (Or.inl (Exa.ne E_nu E_a1 (by decide)))) (f5_2.other W6 (Or.inl (Exa.ne E_nu E_a1 (by decide)))) (f5_3.other W6 (Ne.symm (Exa.neArv (E_a1.keep K5q) f5_3 (tw hw 45 rfl)))) f5_4 f5_6 f5_8 (own_idx h_s h_nb h_p h_r h_lt h_lr h_o4 h_n4 (by omega)) (Nat.lt_of_lt_of_le (own_lin h_lt h_lr) f5_7) (own_bz (h_f0 _ (Nat.le_trans (Nat.le_add_right _ _) (Nat.le_add_right _ _)))) h_x) hZ (tw hw 80 rfl) (tw hw 3 rfl) (by decide) (by decide)) q11a q11c (g := (mkF m 46 #[.val (.ref a1), .val (.int p2), .val (.int p3), .val (.double (FP.l2d x4)), .second] [(.double (FP.l2d x4)), (.int ((siz + (p2 * nb)) + p3)), (.ref nu)])) rfl (by rw [hml]; rfl) (Steps.refl _) (argsL := [(.int ((siz + (p2 * nb)) + p3)), (.double (FP.l2d x4))]) (rest := []) (lenOf pd_4 rfl) rfl (by show 2 * 0 + _ ≤ _; exact Nat.le_of_eq rfl) (hb hby d17_46) (fun _ _ => ⟨rfl, e10, (by decide : 1 + 0 ≤ _), (by decide : 48 + 0 ≤ _)⟩)
  dsimp only [Pt.U, Pt.locs, Pt.cells, Pt.slots] at X11 l11 y11 z11 st11 hQ11
  subst l11 y11 z11
  obtain ⟨rfl, N11q, K11q, O11, f11_0⟩ := hQ11
  have N11 := Fr.app N6 N11q
  have K11 := K6.trans K11q (allS (f5_5.elim (fun q => Or.inl (by rw [List.mem_singleton.mp q]; exact List.mem_of_getElem? (i := 2) rfl)) Or.inr) all0)
  have sg12 : ∀ target, Steps p.tables e below (T11.setTop (mkF m 49 #[.val (.ref a1), .val (.int p2), .val (.int p3), .val (.double (FP.l2d x4)), .second] [])) target → Steps p.tables e below (s₁.setTop (mkF m 0 #[.val (.ref a1), .val (.int p2), .val (.int p3), .val (.double (FP.l2d x4)), .second] [])) target := by
    intro target kt
    show Steps p.tables e below (s₁.setTop (mkF m 0 #[.val (.ref a1), .val (.int p2), .val (.int p3), .val (.double (FP.l2d x4)), .second] [])) _
    refine XS.aloadN X0.here hx rfl (hb hby d17_0) rfl rfl ?_
    show Steps p.tables e below (s₁.setTop (mkF m 1 #[.val (.ref a1), .val (.int p2), .val (.int p3), .val (.double (FP.l2d x4)), .second] [(.ref a1)])) _
    refine st1 _ ?_
    show Steps p.tables e below (T1.setTop (mkF m 4 #[.val (.ref a1), .val (.int p2), .val (.int p3), .val (.double (FP.l2d x4)), .second] [(.int (-1 : Int32))])) _
    refine XS.iconst X1.here hx rfl (hb hby d17_4) ?_
    show Steps p.tables e below (T1.setTop (mkF m 5 #[.val (.ref a1), .val (.int p2), .val (.int p3), .val (.double (FP.l2d x4)), .second] [(.int (-1 : Int32)), (.int (-1 : Int32))])) _
    refine XS.icmpNo X1.here hx rfl (hb hby d17_5) rfl (teq (by decide : (-1 : Int32) = (-1 : Int32))).2 ?_
    show Steps p.tables e below (T1.setTop (mkF m 8 #[.val (.ref a1), .val (.int p2), .val (.int p3), .val (.double (FP.l2d x4)), .second] [])) _
    refine XS.aloadN X1.here hx rfl (hb hby d17_8) rfl rfl ?_
    show Steps p.tables e below (T1.setTop (mkF m 9 #[.val (.ref a1), .val (.int p2), .val (.int p3), .val (.double (FP.l2d x4)), .second] [(.ref a1)])) _
    refine XS.aloadN X1.here hx rfl (hb hby d17_9) rfl rfl ?_
    show Steps p.tables e below (T1.setTop (mkF m 10 #[.val (.ref a1), .val (.int p2), .val (.int p3), .val (.double (FP.l2d x4)), .second] [(.ref a1), (.ref a1)])) _
    refine st2 _ ?_
    show Steps p.tables e below (T2.setTop (mkF m 13 #[.val (.ref a1), .val (.int p2), .val (.int p3), .val (.double (FP.l2d x4)), .second] [(.ref nu), (.ref a1)])) _
    refine XS.aloadN X2.here hx rfl (hb hby d17_13) rfl rfl ?_
    show Steps p.tables e below (T2.setTop (mkF m 14 #[.val (.ref a1), .val (.int p2), .val (.int p3), .val (.double (FP.l2d x4)), .second] [(.ref a1), (.ref nu), (.ref a1)])) _
    refine st3 _ ?_
    show Steps p.tables e below (T3.setTop (mkF m 17 #[.val (.ref a1), .val (.int p2), .val (.int p3), .val (.double (FP.l2d x4)), .second] [(.int ow), (.ref nu), (.ref a1)])) _
    refine XS.aloadN X3.here hx rfl (hb hby d17_17) rfl rfl ?_
    show Steps p.tables e below (T3.setTop (mkF m 18 #[.val (.ref a1), .val (.int p2), .val (.int p3), .val (.double (FP.l2d x4)), .second] [(.ref a1), (.int ow), (.ref nu), (.ref a1)])) _
    refine st4 _ ?_
    show Steps p.tables e below (T4.setTop (mkF m 21 #[.val (.ref a1), .val (.int p2), .val (.int p3), .val (.double (FP.l2d x4)), .second] [(.int nb), (.int ow), (.ref nu), (.ref a1)])) _
    refine XS.imul X4.here hx rfl (hb hby d17_21) rfl ?_
    show Steps p.tables e below (T4.setTop (mkF m 22 #[.val (.ref a1), .val (.int p2), .val (.int p3), .val (.double (FP.l2d x4)), .second] [(.int (ow * nb)), (.ref nu), (.ref a1)])) _
    refine st5.trans ?_
    show Steps p.tables e below (T5.setTop (mkF m 25 #[.val (.ref a1), .val (.int p2), .val (.int p3), .val (.double (FP.l2d x4)), .second] [(.int siz), (.ref a1)])) _
    refine st6 _ ?_
    show Steps p.tables e below (T6.setTop (mkF m 28 #[.val (.ref a1), .val (.int p2), .val (.int p3), .val (.double (FP.l2d x4)), .second] [])) _
    refine XS.aloadN X6.here hx rfl (hb hby d17_28) rfl rfl ?_
    show Steps p.tables e below (T6.setTop (mkF m 29 #[.val (.ref a1), .val (.int p2), .val (.int p3), .val (.double (FP.l2d x4)), .second] [(.ref a1)])) _
    refine st8 _ ?_
    show Steps p.tables e below (T8.setTop (mkF m 32 #[.val (.ref a1), .val (.int p2), .val (.int p3), .val (.double (FP.l2d x4)), .second] [(.ref nu)])) _
    refine XS.aloadN X8.here hx rfl (hb hby d17_32) rfl rfl ?_
    show Steps p.tables e below (T8.setTop (mkF m 33 #[.val (.ref a1), .val (.int p2), .val (.int p3), .val (.double (FP.l2d x4)), .second] [(.ref a1), (.ref nu)])) _
    refine st9 _ ?_
    show Steps p.tables e below (T9.setTop (mkF m 36 #[.val (.ref a1), .val (.int p2), .val (.int p3), .val (.double (FP.l2d x4)), .second] [(.int siz), (.ref nu)])) _
    refine XS.iloadN X9.here hx rfl (hb hby d17_36) rfl ?_
    show Steps p.tables e below (T9.setTop (mkF m 37 #[.val (.ref a1), .val (.int p2), .val (.int p3), .val (.double (FP.l2d x4)), .second] [(.int p2), (.int siz), (.ref nu)])) _
    refine XS.aloadN X9.here hx rfl (hb hby d17_37) rfl rfl ?_
    show Steps p.tables e below (T9.setTop (mkF m 38 #[.val (.ref a1), .val (.int p2), .val (.int p3), .val (.double (FP.l2d x4)), .second] [(.ref a1), (.int p2), (.int siz), (.ref nu)])) _
    refine st10 _ ?_
    show Steps p.tables e below (T10.setTop (mkF m 41 #[.val (.ref a1), .val (.int p2), .val (.int p3), .val (.double (FP.l2d x4)), .second] [(.int nb), (.int p2), (.int siz), (.ref nu)])) _
    refine XS.imul X10.here hx rfl (hb hby d17_41) rfl ?_
    show Steps p.tables e below (T10.setTop (mkF m 42 #[.val (.ref a1), .val (.int p2), .val (.int p3), .val (.double (FP.l2d x4)), .second] [(.int (p2 * nb)), (.int siz), (.ref nu)])) _
    refine XS.iadd X10.here hx rfl (hb hby d17_42) rfl ?_
    show Steps p.tables e below (T10.setTop (mkF m 43 #[.val (.ref a1), .val (.int p2), .val (.int p3), .val (.double (FP.l2d x4)), .second] [(.int (siz + (p2 * nb))), (.ref nu)])) _
    refine XS.iloadN X10.here hx rfl (hb hby d17_43) rfl ?_
    show Steps p.tables e below (T10.setTop (mkF m 44 #[.val (.ref a1), .val (.int p2), .val (.int p3), .val (.double (FP.l2d x4)), .second] [(.int p3), (.int (siz + (p2 * nb))), (.ref nu)])) _
    refine XS.iadd X10.here hx rfl (hb hby d17_44) rfl ?_
    show Steps p.tables e below (T10.setTop (mkF m 45 #[.val (.ref a1), .val (.int p2), .val (.int p3), .val (.double (FP.l2d x4)), .second] [(.int ((siz + (p2 * nb)) + p3)), (.ref nu)])) _
    refine XS.dloadN X10.here hx rfl (hb hby d17_45) rfl ?_
    show Steps p.tables e below (T10.setTop (mkF m 46 #[.val (.ref a1), .val (.int p2), .val (.int p3), .val (.double (FP.l2d x4)), .second] [(.double (FP.l2d x4)), (.int ((siz + (p2 * nb)) + p3)), (.ref nu)])) _
    refine st11.trans ?_
    exact kt
  obtain ⟨fs, hr, hrun, hended, hW, hsame⟩ := X11.leave (v := none) (fun _ => rfl)
  refine ⟨_, _, pre0 _ (sg12 _ (?_)), hrun, hended, _, _, rfl, ?_, ⟨_, rfl⟩, hW, hsame.mono (by decide) (by decide)⟩
  · show Steps p.tables e below (T11.setTop (mkF m 49 #[.val (.ref a1), .val (.int p2), .val (.int p3), .val (.double (FP.l2d x4)), .second] [])) _
    exact X11.returnOut hx Bd.returns (hb hby d17_49) hr
  · show Q17_A Z a1 p2 p3 rat cat nu ow nb wh siz sin arr kla cap can fco own nbn pn rn x4 h0 n0 _ T11.heap _
    exact ⟨ro_5, ko_5, co_5, cn_5, rfl, N11, K11, O11, ((f5_0.other W6 (Or.inl (Exa.ne E_nu E_a1 (by decide)))).keep K11q (ninS (Exa.neArv (((E_nu.keep K5q).wr W6).keep K11q) f11_0 (tw hw 2 rfl)) nin0)), ((f5_1.other W6 (Or.inl (Exa.ne E_nu E_a1 (by decide)))).keep K11q (ninS (Exa.neArv (((E_nu.keep K5q).wr W6).keep K11q) f11_0 (tw hw 2 rfl)) nin0)), ((f5_2.other W6 (Or.inl (Exa.ne E_nu E_a1 (by decide)))).keep K11q (ninS (Exa.neArv (((E_nu.keep K5q).wr W6).keep K11q) f11_0 (tw hw 2 rfl)) nin0)), f11_0, f5_4, f5_5, f5_6, f5_7, f5_8, (((F_rowsAt_a1.keep K5q (ninS (Exa.ne E_a1 E_nu (by decide)) nin0)).other W6 (sn .int .int (Or.inl (tw hw 52 rfl)) (Or.inl (tw hw 56 rfl)))).keep K11q (ninS (Exa.neArv (((E_a1.keep K5q).wr W6).keep K11q) f11_0 (tw hw 45 rfl)) nin0)), (((F_columnsAt_a1.keep K5q (ninS (Exa.ne E_a1 E_nu (by decide)) nin0)).other W6 (sn .int .int (Or.inl (tw hw 54 rfl)) (Or.inl (tw hw 56 rfl)))).keep K11q (ninS (Exa.neArv (((E_a1.keep K5q).wr W6).keep K11q) f11_0 (tw hw 45 rfl)) nin0)), (Fw6.keep K11q (ninS (Exa.neArv (((E_a1.keep K5q).wr W6).keep K11q) f11_0 (tw hw 45 rfl)) nin0)), (((F_numbers_a1.keep K5q (ninS (Exa.ne E_a1 E_nu (by decide)) nin0)).other W6 (sn (.object "com/example/breakline/breakline/ModifierNumbers") .int (Or.inr (tw hw 58 rfl)) (Or.inl (tw hw 56 rfl)))).keep K11q (ninS (Exa.neArv (((E_a1.keep K5q).wr W6).keep K11q) f11_0 (tw hw 45 rfl)) nin0)), (((F_ownValues_a1.keep K5q (ninS (Exa.ne E_a1 E_nu (by decide)) nin0)).other W6 (sn .int .int (Or.inr (tw hw 60 rfl)) (Or.inl (tw hw 56 rfl)))).keep K11q (ninS (Exa.neArv (((E_a1.keep K5q).wr W6).keep K11q) f11_0 (tw hw 45 rfl)) nin0)), (((F_neighbourValues_a1.keep K5q (ninS (Exa.ne E_a1 E_nu (by decide)) nin0)).other W6 (sn .int .int (Or.inr (tw hw 62 rfl)) (Or.inl (tw hw 56 rfl)))).keep K11q (ninS (Exa.neArv (((E_a1.keep K5q).wr W6).keep K11q) f11_0 (tw hw 45 rfl)) nin0)), (((F_whole_a1.keep K5q (ninS (Exa.ne E_a1 E_nu (by decide)) nin0)).other W6 (sn .double .int (Or.inl (tw hw 69 rfl)) (Or.inl (tw hw 56 rfl)))).keep K11q (ninS (Exa.neArv (((E_a1.keep K5q).wr W6).keep K11q) f11_0 (tw hw 45 rfl)) nin0))⟩
def Q17_B (Z : State) (a1 : Addr) (p2 : Int32) (p3 : Int32) (rat : Int32) (cat : Int32) (eat : Int32) (nu : Addr) (ow : Int32) (nb : Int32) (wh : Int64) (siz : Int32) (sin : Nat) (arr : Addr) (kla : ClassId) (cap : Int32) (can : Nat) (fco : Nat → Int64) (own : Nat) (nbn : Nat) (pn : Nat) (rn : Nat) (en : Nat) (x4 : Int64) (h0 : Heap) (n0 : Nat) (v : Option Value) (h : Heap) (L : List Loc) : Prop := v = none ∧ Fr n0 L ∧ Keep h0 h [arr] ∧ Old Z n0 h ∧ Arv Z h arr kla .double cap (dvs (upd fco (en + (pn * nbn) + rn) ((fco (en + (pn * nbn) + rn)) + x4))) (.double (FP.l2d 0))
theorem ef_17_B (m : MethodId) (x0 : Addr) (x1 : Int32) (x2 : Int32) (x3 : UInt64) : entryFrame m #[(.ref x0), (.int x1), (.int x2), (.double x3)] 5 = mkF m 0 #[.val (.ref x0), .val (.int x1), .val (.int x2), .val (.double x3), .second] [] := by first | (simp [entryFrame, mkF, argsToLocals, Value.category]; done) | rfl
set_option maxRecDepth 65536 in
set_option maxHeartbeats 40000000 in
theorem rm17_B (l : Launch) (Z : State) (a0 : Array Value) (hw : ∀ d ∈ tables_1, d.before a0 Z = true) (ws : List Jvm.Cond) (a1 : Addr) (p2 : Int32) (p3 : Int32) (rat : Int32) (cat : Int32) (eat : Int32) (nu : Addr) (ow : Int32) (nb : Int32) (wh : Int64) (siz : Int32) (sin : Nat) (arr : Addr) (kla : ClassId) (cap : Int32) (can : Nat) (fco : Nat → Int64) (own : Nat) (nbn : Nat) (pn : Nat) (rn : Nat) (en : Nat) (x4 : Int64) (h0 : Heap) (n0 : Nat) (O0 : Old Z n0 h0) (E_a1 : Exa Z h0 a1 "com/example/breakline/breakline/ModifierTable") (F_rowsAt_a1 : Fld Z h0 a1 "com/example/breakline/breakline/ModifierTable" "rowsAt" "I" (.int rat)) (F_columnsAt_a1 : Fld Z h0 a1 "com/example/breakline/breakline/ModifierTable" "columnsAt" "I" (.int cat)) (F_entriesAt_a1 : Fld Z h0 a1 "com/example/breakline/breakline/ModifierTable" "entriesAt" "I" (.int eat)) (F_numbers_a1 : Fld Z h0 a1 "com/example/breakline/breakline/ModifierTable" "numbers" "Lcom/example/breakline/breakline/ModifierNumbers;" (.ref nu)) (F_ownValues_a1 : Fld Z h0 a1 "com/example/breakline/breakline/ModifierTable" "ownValues" "I" (.int ow)) (F_neighbourValues_a1 : Fld Z h0 a1 "com/example/breakline/breakline/ModifierTable" "neighbourValues" "I" (.int nb)) (F_whole_a1 : Fld Z h0 a1 "com/example/breakline/breakline/ModifierTable" "whole" "D" (.double (FP.l2d wh))) (E_nu : Exa Z h0 nu "com/example/breakline/breakline/ModifierNumbers") (F_size_nu : Fld Z h0 nu "com/example/breakline/breakline/ModifierNumbers" "size" "I" (.int siz)) (F_numbers_nu : Fld Z h0 nu "com/example/breakline/breakline/ModifierNumbers" "numbers" "[D" (.ref arr)) (F_listed_nu : Fld Z h0 nu "com/example/breakline/breakline/ModifierNumbers" "listed" "[I" .null) (A_arr : Arv Z h0 arr kla .double cap (dvs fco) (.double (FP.l2d 0))) (ge_arr : n0 ≤ arr) (h_s : Sm siz sin) (h_c : Sm cap can) (h_sc : sin ≤ can) (h_c48 : can ≤ 48) (h_f0 : ∀ j, sin ≤ j → fco j = 0) (h_ow : Sm ow own) (h_nb : Sm nb nbn) (h_p : Sm p2 pn) (h_r : Sm p3 rn) (h_lt : pn < own) (h_lr : rn < nbn) (h_o4 : own ≤ 4) (h_n4 : nbn ≤ 4) (h_e : Sm eat en) (h_in : en + (own * nbn) ≤ can) (h_b : B53 (fco (en + (pn * nbn) + rn))) (h_x : B53 x4) :
    MetFree l (⟨"com/example/breakline/breakline/ModifierTable", "addToEntry", "(IID)V"⟩ : MethodName) (head1 (Jvm.Cond.code (⟨"com/example/breakline/breakline/ModifierTable", "addToEntry", "(IID)V"⟩ : MethodName) prog_50_method_6_code 5 none :: ws) ({ frames := 1, cells := 0, slots := 0, locals := 19 } : Room)) (fun a U => a = #[(.ref a1), (.int p2), (.int p3), (.double (FP.l2d x4))] ∧ Z.Warmed39 U.vm ∧ U.heap = h0) (fun _ _ _ _ _ => True) (fun _ U o U' => ∃ v L, o = .returned v ∧ Q17_B Z a1 p2 p3 rat cat eat nu ow nb wh siz sin arr kla cap can fco own nbn pn rn en x4 h0 n0 v U'.heap L ∧ FrameEnd U o U' L ({ frames := 1, cells := 0, slots := 0, locals := 19 } : Room).cells ({ frames := 1, cells := 0, slots := 0, locals := 19 } : Room).slots) := by
  refine MetFree.of_bodySF (plainFor_of_name pn_2) hisR ?_
  intro p e s m args below meth c s₁ Bd hml0 hP hK
  obtain ⟨rfl, hZ, hh⟩ := hP
  have hx := Bd.exec
  have hby := Bd.bytes
  have hml : c.maxLocals = 5 := hml0
  have hown : s.vm.findClass "com/example/breakline/breakline/ModifierTable" = some m.cls := findClass_of_methodNamed Bd.named
  have hnm := (name_of_methodNamed Bd.named Bd.method).1
  have X0 : Stand p l e ({ frames := 1, cells := 0, slots := 0, locals := 19 } : Room) s m #[(.ref a1), (.int p2), (.int p3), (.double (FP.l2d x4))] below meth c s₁ [] 0 0 := Stand.of_body Bd
  have e0 : s₁.heap = h0 := by rw [← hh, Bd.state]; rfl
  have N0 := Fr.nil n0
  have pre0 : ∀ t, Steps p.tables e below (s₁.setTop (mkF m 0 #[.val (.ref a1), .val (.int p2), .val (.int p3), .val (.double (FP.l2d x4)), .second] [])) t → Steps p.tables e below (s₁.setTop (entryFrame m #[(.ref a1), (.int p2), (.int p3), (.double (FP.l2d x4))] 5)) t := fun t k => castTop (ef_17_B m a1 p2 p3 (FP.l2d x4)) k
  have K0 := Keep.refl h0 [arr]
  obtain ⟨T1, X1, e1, st1⟩ := getF X0 hx hZ hown (host := "") (Or.inl (tw hw 55 rfl)) Via.refl e0 F_entriesAt_a1 (g := (mkF m 1 #[.val (.ref a1), .val (.int p2), .val (.int p3), .val (.double (FP.l2d x4)), .second] [(.ref a1)])) rfl rfl (hb hby d17_1)
  obtain ⟨T2, X2, e2, st2⟩ := getF X1 hx hZ hown (host := "") (Or.inl (tw hw 57 rfl)) Via.refl e1 F_numbers_a1 (g := (mkF m 29 #[.val (.ref a1), .val (.int p2), .val (.int p3), .val (.double (FP.l2d x4)), .second] [(.ref a1)])) rfl rfl (hb hby d17_29)
  obtain ⟨T3, X3, e3, st3⟩ := getF X2 hx hZ hown (host := "") (Or.inl (tw hw 55 rfl)) Via.refl e2 F_entriesAt_a1 (g := (mkF m 33 #[.val (.ref a1), .val (.int p2), .val (.int p3), .val (.double (FP.l2d x4)), .second] [(.ref a1), (.ref nu)])) rfl rfl (hb hby d17_33)
  obtain ⟨T4, X4, e4, st4⟩ := getF X3 hx hZ hown (host := "") (Or.inl (tw hw 61 rfl)) Via.refl e3 F_neighbourValues_a1 (g := (mkF m 38 #[.val (.ref a1), .val (.int p2), .val (.int p3), .val (.double (FP.l2d x4)), .second] [(.ref a1), (.int p2), (.int eat), (.ref nu)])) rfl rfl (hb hby d17_38)
  obtain ⟨cq5, kq5, q5a, q5b, q5c⟩ := isOf hZ e4 E_nu
  obtain ⟨_, _, ⟨T5, L5, k5, n5⟩, -, X5, ⟨Lc5, hQ5, l5, y5, z5⟩, st5⟩ := X4.virtualBack hx (y := (⟨"com/example/breakline/breakline/ModifierNumbers", "add", "(ID)V"⟩ : MethodName)) (z := (⟨"com/example/breakline/breakline/ModifierNumbers", "add", "(ID)V"⟩ : MethodName)) hown (mvT hZ (tw hw 76 rfl)) (mvT hZ (tw hw 77 rfl)) (notFace_of_selects (args := #[]) (mvT hZ (tw hw 79 rfl))) (mvT hZ (tw hw 79 rfl)) (mvT hZ (tw hw 78 rfl)) (by decide) (backOf (W := 0) (rm12 l Z a0 hw [] nu ((eat + (p2 * nb)) + p3) arr kla cap can fco x4 (en + (pn * nbn) + rn) h0 n0 O0 E_nu F_numbers_nu F_listed_nu A_arr ge_arr h_c h_c48 (own_idx h_e h_nb h_p h_r h_lt h_lr h_o4 h_n4 (Nat.le_trans h_in h_c48)) (Nat.lt_of_lt_of_le (own_lin h_lt h_lr) h_in) h_b h_x) hZ (tw hw 80 rfl) (tw hw 3 rfl) (by decide) (by decide)) q5a q5c (g := (mkF m 46 #[.val (.ref a1), .val (.int p2), .val (.int p3), .val (.double (FP.l2d x4)), .second] [(.double (FP.l2d x4)), (.int ((eat + (p2 * nb)) + p3)), (.ref nu)])) rfl (by rw [hml]; rfl) (Steps.refl _) (argsL := [(.int ((eat + (p2 * nb)) + p3)), (.double (FP.l2d x4))]) (rest := []) (lenOf pd_4 rfl) rfl (by show 2 * 0 + _ ≤ _; exact Nat.le_of_eq rfl) (hb hby d17_46) (fun _ _ => ⟨rfl, e4, (by decide : 0 + 0 ≤ _), (by decide : 0 + 0 ≤ _)⟩)
  dsimp only [Pt.U, Pt.locs, Pt.cells, Pt.slots] at X5 l5 y5 z5 st5 hQ5
  subst l5 y5 z5
  obtain ⟨rfl, N5q, K5q, O5, f5_0⟩ := hQ5
  have N5 := Fr.app N0 N5q
  have K5 := K0.trans K5q (allS (Or.inl (List.mem_of_getElem? (i := 0) rfl)) all0)
  have sg6 : ∀ target, Steps p.tables e below (T5.setTop (mkF m 49 #[.val (.ref a1), .val (.int p2), .val (.int p3), .val (.double (FP.l2d x4)), .second] [])) target → Steps p.tables e below (s₁.setTop (mkF m 0 #[.val (.ref a1), .val (.int p2), .val (.int p3), .val (.double (FP.l2d x4)), .second] [])) target := by
    intro target kt
    show Steps p.tables e below (s₁.setTop (mkF m 0 #[.val (.ref a1), .val (.int p2), .val (.int p3), .val (.double (FP.l2d x4)), .second] [])) _
    refine XS.aloadN X0.here hx rfl (hb hby d17_0) rfl rfl ?_
    show Steps p.tables e below (s₁.setTop (mkF m 1 #[.val (.ref a1), .val (.int p2), .val (.int p3), .val (.double (FP.l2d x4)), .second] [(.ref a1)])) _
    refine st1 _ ?_
    show Steps p.tables e below (T1.setTop (mkF m 4 #[.val (.ref a1), .val (.int p2), .val (.int p3), .val (.double (FP.l2d x4)), .second] [(.int eat)])) _
    refine XS.iconst X1.here hx rfl (hb hby d17_4) ?_
    show Steps p.tables e below (T1.setTop (mkF m 5 #[.val (.ref a1), .val (.int p2), .val (.int p3), .val (.double (FP.l2d x4)), .second] [(.int (-1 : Int32)), (.int eat)])) _
    refine XS.icmpYes X1.here hx rfl (pc0 := 5) (pc' := 28) rfl (hb hby d17_5) rfl (feq h_e.ne1).2 (by decide) (by decide) ?_
    show Steps p.tables e below (T1.setTop (mkF m 28 #[.val (.ref a1), .val (.int p2), .val (.int p3), .val (.double (FP.l2d x4)), .second] [])) _
    refine XS.aloadN X1.here hx rfl (hb hby d17_28) rfl rfl ?_
    show Steps p.tables e below (T1.setTop (mkF m 29 #[.val (.ref a1), .val (.int p2), .val (.int p3), .val (.double (FP.l2d x4)), .second] [(.ref a1)])) _
    refine st2 _ ?_
    show Steps p.tables e below (T2.setTop (mkF m 32 #[.val (.ref a1), .val (.int p2), .val (.int p3), .val (.double (FP.l2d x4)), .second] [(.ref nu)])) _
    refine XS.aloadN X2.here hx rfl (hb hby d17_32) rfl rfl ?_
    show Steps p.tables e below (T2.setTop (mkF m 33 #[.val (.ref a1), .val (.int p2), .val (.int p3), .val (.double (FP.l2d x4)), .second] [(.ref a1), (.ref nu)])) _
    refine st3 _ ?_
    show Steps p.tables e below (T3.setTop (mkF m 36 #[.val (.ref a1), .val (.int p2), .val (.int p3), .val (.double (FP.l2d x4)), .second] [(.int eat), (.ref nu)])) _
    refine XS.iloadN X3.here hx rfl (hb hby d17_36) rfl ?_
    show Steps p.tables e below (T3.setTop (mkF m 37 #[.val (.ref a1), .val (.int p2), .val (.int p3), .val (.double (FP.l2d x4)), .second] [(.int p2), (.int eat), (.ref nu)])) _
    refine XS.aloadN X3.here hx rfl (hb hby d17_37) rfl rfl ?_
    show Steps p.tables e below (T3.setTop (mkF m 38 #[.val (.ref a1), .val (.int p2), .val (.int p3), .val (.double (FP.l2d x4)), .second] [(.ref a1), (.int p2), (.int eat), (.ref nu)])) _
    refine st4 _ ?_
    show Steps p.tables e below (T4.setTop (mkF m 41 #[.val (.ref a1), .val (.int p2), .val (.int p3), .val (.double (FP.l2d x4)), .second] [(.int nb), (.int p2), (.int eat), (.ref nu)])) _
    refine XS.imul X4.here hx rfl (hb hby d17_41) rfl ?_
    show Steps p.tables e below (T4.setTop (mkF m 42 #[.val (.ref a1), .val (.int p2), .val (.int p3), .val (.double (FP.l2d x4)), .second] [(.int (p2 * nb)), (.int eat), (.ref nu)])) _
    refine XS.iadd X4.here hx rfl (hb hby d17_42) rfl ?_
    show Steps p.tables e below (T4.setTop (mkF m 43 #[.val (.ref a1), .val (.int p2), .val (.int p3), .val (.double (FP.l2d x4)), .second] [(.int (eat + (p2 * nb))), (.ref nu)])) _
    refine XS.iloadN X4.here hx rfl (hb hby d17_43) rfl ?_
    show Steps p.tables e below (T4.setTop (mkF m 44 #[.val (.ref a1), .val (.int p2), .val (.int p3), .val (.double (FP.l2d x4)), .second] [(.int p3), (.int (eat + (p2 * nb))), (.ref nu)])) _
    refine XS.iadd X4.here hx rfl (hb hby d17_44) rfl ?_
    show Steps p.tables e below (T4.setTop (mkF m 45 #[.val (.ref a1), .val (.int p2), .val (.int p3), .val (.double (FP.l2d x4)), .second] [(.int ((eat + (p2 * nb)) + p3)), (.ref nu)])) _
    refine XS.dloadN X4.here hx rfl (hb hby d17_45) rfl ?_
    show Steps p.tables e below (T4.setTop (mkF m 46 #[.val (.ref a1), .val (.int p2), .val (.int p3), .val (.double (FP.l2d x4)), .second] [(.double (FP.l2d x4)), (.int ((eat + (p2 * nb)) + p3)), (.ref nu)])) _
    refine st5.trans ?_
    exact kt
  obtain ⟨fs, hr, hrun, hended, hW, hsame⟩ := X5.leave (v := none) (fun _ => rfl)
  refine ⟨_, _, pre0 _ (sg6 _ (?_)), hrun, hended, _, _, rfl, ?_, ⟨_, rfl⟩, hW, hsame.mono (by decide) (by decide)⟩
  · show Steps p.tables e below (T5.setTop (mkF m 49 #[.val (.ref a1), .val (.int p2), .val (.int p3), .val (.double (FP.l2d x4)), .second] [])) _
    exact X5.returnOut hx Bd.returns (hb hby d17_49) hr
  · show Q17_B Z a1 p2 p3 rat cat eat nu ow nb wh siz sin arr kla cap can fco own nbn pn rn en x4 h0 n0 _ T5.heap _
    exact ⟨rfl, N5, K5, O5, f5_0⟩
def Q16_A (Z : State) (a1 : Addr) (p2 : Int32) (p3 : Int32) (rat : Int32) (cat : Int32) (nu : Addr) (ow : Int32) (nb : Int32) (wh : Int64) (siz : Int32) (sin : Nat) (arr : Addr) (kla : ClassId) (cap : Int32) (can : Nat) (fco : Nat → Int64) (own : Nat) (nbn : Nat) (pn : Nat) (rn : Nat) (h0 : Heap) (n0 : Nat) (v : Option Value) (h : Heap) (L : List Loc) : Prop := ∃ ro : Addr, ∃ ko : ClassId, ∃ co : Int32, ∃ cn : Nat, v = none ∧ Fr n0 L ∧ Keep h0 h [a1, nu, arr] ∧ Old Z n0 h ∧ Fld Z h nu "com/example/breakline/breakline/ModifierNumbers" "size" "I" (.int (siz + (ow * nb))) ∧ Fld Z h nu "com/example/breakline/breakline/ModifierNumbers" "numbers" "[D" (.ref ro) ∧ Fld Z h nu "com/example/breakline/breakline/ModifierNumbers" "listed" "[I" .null ∧ Arv Z h ro ko .double co (dvs (upd fco (sin + (pn * nbn) + rn) ((fco (sin + (pn * nbn) + rn)) + (1 : Int64)))) (.double (FP.l2d 0)) ∧ n0 ≤ ro ∧ (ro ∈ [arr] ∨ h0.size ≤ ro) ∧ Sm co cn ∧ sin + (own * nbn) ≤ cn ∧ cn ≤ 48 ∧ Fld Z h a1 "com/example/breakline/breakline/ModifierTable" "rowsAt" "I" (.int rat) ∧ Fld Z h a1 "com/example/breakline/breakline/ModifierTable" "columnsAt" "I" (.int cat) ∧ Fld Z h a1 "com/example/breakline/breakline/ModifierTable" "entriesAt" "I" (.int siz) ∧ Fld Z h a1 "com/example/breakline/breakline/ModifierTable" "numbers" "Lcom/example/breakline/breakline/ModifierNumbers;" (.ref nu) ∧ Fld Z h a1 "com/example/breakline/breakline/ModifierTable" "ownValues" "I" (.int ow) ∧ Fld Z h a1 "com/example/breakline/breakline/ModifierTable" "neighbourValues" "I" (.int nb) ∧ Fld Z h a1 "com/example/breakline/breakline/ModifierTable" "whole" "D" (.double (FP.l2d wh))
theorem ef_16_A (m : MethodId) (x0 : Addr) (x1 : Int32) (x2 : Int32) : entryFrame m #[(.ref x0), (.int x1), (.int x2)] 3 = mkF m 0 #[.val (.ref x0), .val (.int x1), .val (.int x2)] [] := by first | (simp [entryFrame, mkF, argsToLocals, Value.category]; done) | rfl
set_option maxRecDepth 65536 in
set_option maxHeartbeats 40000000 in
theorem rm16_A (l : Launch) (Z : State) (a0 : Array Value) (hw : ∀ d ∈ tables_1, d.before a0 Z = true) (ws : List Jvm.Cond) (a1 : Addr) (p2 : Int32) (p3 : Int32) (rat : Int32) (cat : Int32) (nu : Addr) (ow : Int32) (nb : Int32) (wh : Int64) (siz : Int32) (sin : Nat) (arr : Addr) (kla : ClassId) (cap : Int32) (can : Nat) (fco : Nat → Int64) (own : Nat) (nbn : Nat) (pn : Nat) (rn : Nat) (h0 : Heap) (n0 : Nat) (O0 : Old Z n0 h0) (E_a1 : Exa Z h0 a1 "com/example/breakline/breakline/ModifierTable") (F_rowsAt_a1 : Fld Z h0 a1 "com/example/breakline/breakline/ModifierTable" "rowsAt" "I" (.int rat)) (F_columnsAt_a1 : Fld Z h0 a1 "com/example/breakline/breakline/ModifierTable" "columnsAt" "I" (.int cat)) (F_entriesAt_a1 : Fld Z h0 a1 "com/example/breakline/breakline/ModifierTable" "entriesAt" "I" (.int (-1 : Int32))) (F_numbers_a1 : Fld Z h0 a1 "com/example/breakline/breakline/ModifierTable" "numbers" "Lcom/example/breakline/breakline/ModifierNumbers;" (.ref nu)) (F_ownValues_a1 : Fld Z h0 a1 "com/example/breakline/breakline/ModifierTable" "ownValues" "I" (.int ow)) (F_neighbourValues_a1 : Fld Z h0 a1 "com/example/breakline/breakline/ModifierTable" "neighbourValues" "I" (.int nb)) (F_whole_a1 : Fld Z h0 a1 "com/example/breakline/breakline/ModifierTable" "whole" "D" (.double (FP.l2d wh))) (ge_a1 : n0 ≤ a1) (ge_nu : n0 ≤ nu) (E_nu : Exa Z h0 nu "com/example/breakline/breakline/ModifierNumbers") (F_size_nu : Fld Z h0 nu "com/example/breakline/breakline/ModifierNumbers" "size" "I" (.int siz)) (F_numbers_nu : Fld Z h0 nu "com/example/breakline/breakline/ModifierNumbers" "numbers" "[D" (.ref arr)) (F_listed_nu : Fld Z h0 nu "com/example/breakline/breakline/ModifierNumbers" "listed" "[I" .null) (A_arr : Arv Z h0 arr kla .double cap (dvs fco) (.double (FP.l2d 0))) (ge_arr : n0 ≤ arr) (h_s : Sm siz sin) (h_c : Sm cap can) (h_sc : sin ≤ can) (h_c48 : can ≤ 48) (h_f0 : ∀ j, sin ≤ j → fco j = 0) (h_ow : Sm ow own) (h_nb : Sm nb nbn) (h_p : Sm p2 pn) (h_r : Sm p3 rn) (h_lt : pn < own) (h_lr : rn < nbn) (h_o4 : own ≤ 4) (h_n4 : nbn ≤ 4) (h_31 : sin + (own * nbn) ≤ 31) :
    MetFree l (⟨"com/example/breakline/breakline/ModifierTable", "raiseEntry", "(II)V"⟩ : MethodName) (head1 (Jvm.Cond.code (⟨"com/example/breakline/breakline/ModifierTable", "raiseEntry", "(II)V"⟩ : MethodName) prog_50_method_4_code 3 none :: ws) ({ frames := 4, cells := 1, slots := 48, locals := 86 } : Room)) (fun a U => a = #[(.ref a1), (.int p2), (.int p3)] ∧ Z.Warmed39 U.vm ∧ U.heap = h0) (fun _ _ _ _ _ => True) (fun _ U o U' => ∃ v L, o = .returned v ∧ Q16_A Z a1 p2 p3 rat cat nu ow nb wh siz sin arr kla cap can fco own nbn pn rn h0 n0 v U'.heap L ∧ FrameEnd U o U' L ({ frames := 4, cells := 1, slots := 48, locals := 86 } : Room).cells ({ frames := 4, cells := 1, slots := 48, locals := 86 } : Room).slots) := by
  refine MetFree.of_bodySF (plainFor_of_name pn_2) hisR ?_
  intro p e s m args below meth c s₁ Bd hml0 hP hK
  obtain ⟨rfl, hZ, hh⟩ := hP
  have hx := Bd.exec
  have hby := Bd.bytes
  have hml : c.maxLocals = 3 := hml0
  have hown : s.vm.findClass "com/example/breakline/breakline/ModifierTable" = some m.cls := findClass_of_methodNamed Bd.named
  have hnm := (name_of_methodNamed Bd.named Bd.method).1
  have X0 : Stand p l e ({ frames := 4, cells := 1, slots := 48, locals := 86 } : Room) s m #[(.ref a1), (.int p2), (.int p3)] below meth c s₁ [] 0 0 := Stand.of_body Bd
  have e0 : s₁.heap = h0 := by rw [← hh, Bd.state]; rfl
  have N0 := Fr.nil n0
  have pre0 : ∀ t, Steps p.tables e below (s₁.setTop (mkF m 0 #[.val (.ref a1), .val (.int p2), .val (.int p3)] [])) t → Steps p.tables e below (s₁.setTop (entryFrame m #[(.ref a1), (.int p2), (.int p3)] 3)) t := fun t k => castTop (ef_16_A m a1 p2 p3) k
  have K0 := Keep.refl h0 [a1, nu, arr]
  obtain ⟨cq1, qq1, qr1⟩ := E_a1.cell
  obtain ⟨_, _, ⟨T1, L1, k1, n1⟩, -, X1, ⟨Lc1, hQ1, l1, y1, z1⟩, st1⟩ := X0.privateBack hx (y := (⟨"com/example/breakline/breakline/ModifierTable", "addToEntry", "(IID)V"⟩ : MethodName)) hown (mvT hZ (tw hw 102 rfl)) (mvT hZ (tw hw 103 rfl)) (own_selp (y2 := (⟨"com/example/breakline/breakline/ModifierTable", "raiseAll", "()V"⟩ : MethodName)) (mvT hZ (tw hw 66 rfl)) rfl (Cond.privateMethod_at (mvP hZ (tw hw 104 rfl) (args := #[]))) (mvT hZ (tw hw 103 rfl)) (by decide)) (Cond.privateMethod_at (mvP hZ (tw hw 104 rfl) (args := #[]))) (mvT hZ (tw hw 105 rfl)) (by decide) (backOf (W := 0) (rm17_A l Z a0 hw [] a1 p2 p3 rat cat nu ow nb wh siz sin arr kla cap can fco own nbn pn rn (1 : Int64) h0 n0 O0 E_a1 F_rowsAt_a1 F_columnsAt_a1 F_entriesAt_a1 F_numbers_a1 F_ownValues_a1 F_neighbourValues_a1 F_whole_a1 ge_a1 ge_nu E_nu F_size_nu F_numbers_nu F_listed_nu A_arr ge_arr h_s h_c h_sc h_c48 h_f0 h_ow h_nb h_p h_r h_lt h_lr h_o4 h_n4 h_31 own_b1) hZ (tw hw 105 rfl) (tw hw 46 rfl) (by decide) (by decide)) (g := (mkF m 4 #[.val (.ref a1), .val (.int p2), .val (.int p3)] [(.double (FP.l2d 1)), (.int p3), (.int p2), (.ref a1)])) rfl (by rw [hml]; rfl) (Steps.refl _) (a := a1) (by rw [e0]; exact qq1) qr1 (argsL := [(.int p2), (.int p3), (.double (FP.l2d 1))]) (rest := []) (lenOf pd_5 rfl) rfl (by show 2 * 0 + _ ≤ _; exact Nat.le_of_eq rfl) (hb hby d16_4) (fun _ _ => ⟨rfl, e0, (by decide : 0 + 1 ≤ _), (by decide : 0 + 48 ≤ _)⟩)
  dsimp only [Pt.U, Pt.locs, Pt.cells, Pt.slots] at X1 l1 y1 z1 st1 hQ1
  subst l1 y1 z1
  obtain ⟨ro_1, ko_1, co_1, cn_1, rfl, N1q, K1q, O1, f1_0, f1_1, f1_2, f1_3, f1_4, f1_5, f1_6, f1_7, f1_8, f1_9, f1_10, f1_11, f1_12, f1_13, f1_14, f1_15⟩ := hQ1
  have N1 := Fr.app N0 N1q
  have K1 := K0.trans K1q (allS (Or.inl (List.mem_of_getElem? (i := 0) rfl)) (allS (Or.inl (List.mem_of_getElem? (i := 1) rfl)) (allS (Or.inl (List.mem_of_getElem? (i := 2) rfl)) all0)))
  have sg2 : ∀ target, Steps p.tables e below (T1.setTop (mkF m 7 #[.val (.ref a1), .val (.int p2), .val (.int p3)] [])) target → Steps p.tables e below (s₁.setTop (mkF m 0 #[.val (.ref a1), .val (.int p2), .val (.int p3)] [])) target := by
    intro target kt
    show Steps p.tables e below (s₁.setTop (mkF m 0 #[.val (.ref a1), .val (.int p2), .val (.int p3)] [])) _
    refine XS.aloadN X0.here hx rfl (hb hby d16_0) rfl rfl ?_
    show Steps p.tables e below (s₁.setTop (mkF m 1 #[.val (.ref a1), .val (.int p2), .val (.int p3)] [(.ref a1)])) _
    refine XS.iloadN X0.here hx rfl (hb hby d16_1) rfl ?_
    show Steps p.tables e below (s₁.setTop (mkF m 2 #[.val (.ref a1), .val (.int p2), .val (.int p3)] [(.int p2), (.ref a1)])) _
    refine XS.iloadN X0.here hx rfl (hb hby d16_2) rfl ?_
    show Steps p.tables e below (s₁.setTop (mkF m 3 #[.val (.ref a1), .val (.int p2), .val (.int p3)] [(.int p3), (.int p2), (.ref a1)])) _
    refine XS.dconst1 X0.here hx rfl (hb hby d16_3) own_d1 ?_
    show Steps p.tables e below (s₁.setTop (mkF m 4 #[.val (.ref a1), .val (.int p2), .val (.int p3)] [(.double (FP.l2d 1)), (.int p3), (.int p2), (.ref a1)])) _
    refine st1.trans ?_
    exact kt
  obtain ⟨fs, hr, hrun, hended, hW, hsame⟩ := X1.leave (v := none) (fun _ => rfl)
  refine ⟨_, _, pre0 _ (sg2 _ (?_)), hrun, hended, _, _, rfl, ?_, ⟨_, rfl⟩, hW, hsame.mono (by decide) (by decide)⟩
  · show Steps p.tables e below (T1.setTop (mkF m 7 #[.val (.ref a1), .val (.int p2), .val (.int p3)] [])) _
    exact X1.returnOut hx Bd.returns (hb hby d16_7) hr
  · show Q16_A Z a1 p2 p3 rat cat nu ow nb wh siz sin arr kla cap can fco own nbn pn rn h0 n0 _ T1.heap _
    exact ⟨ro_1, ko_1, co_1, cn_1, rfl, N1, K1, O1, f1_0, f1_1, f1_2, f1_3, f1_4, f1_5, f1_6, f1_7, f1_8, f1_9, f1_10, f1_11, f1_12, f1_13, f1_14, f1_15⟩
def Q18_A (Z : State) (a1 : Addr) (p2 : Int32) (p3 : Int32) (rat : Int32) (cat : Int32) (nu : Addr) (ow : Int32) (nb : Int32) (wh : Int64) (siz : Int32) (sin : Nat) (arr : Addr) (kla : ClassId) (cap : Int32) (can : Nat) (fco : Nat → Int64) (own : Nat) (nbn : Nat) (pn : Nat) (rn : Nat) (h0 : Heap) (n0 : Nat) (v : Option Value) (h : Heap) (L : List Loc) : Prop := ∃ ro : Addr, ∃ ko : ClassId, ∃ co : Int32, ∃ cn : Nat, v = none ∧ Fr n0 L ∧ Keep h0 h [a1, nu, arr] ∧ Old Z n0 h ∧ Fld Z h nu "com/example/breakline/breakline/ModifierNumbers" "size" "I" (.int (siz + (ow * nb))) ∧ Fld Z h nu "com/example/breakline/breakline/ModifierNumbers" "numbers" "[D" (.ref ro) ∧ Fld Z h nu "com/example/breakline/breakline/ModifierNumbers" "listed" "[I" .null ∧ Arv Z h ro ko .double co (dvs (upd fco (sin + (pn * nbn) + rn) ((fco (sin + (pn * nbn) + rn)) + (-1 : Int64)))) (.double (FP.l2d 0)) ∧ n0 ≤ ro ∧ (ro ∈ [arr] ∨ h0.size ≤ ro) ∧ Sm co cn ∧ sin + (own * nbn) ≤ cn ∧ cn ≤ 48 ∧ Fld Z h a1 "com/example/breakline/breakline/ModifierTable" "rowsAt" "I" (.int rat) ∧ Fld Z h a1 "com/example/breakline/breakline/ModifierTable" "columnsAt" "I" (.int cat) ∧ Fld Z h a1 "com/example/breakline/breakline/ModifierTable" "entriesAt" "I" (.int siz) ∧ Fld Z h a1 "com/example/breakline/breakline/ModifierTable" "numbers" "Lcom/example/breakline/breakline/ModifierNumbers;" (.ref nu) ∧ Fld Z h a1 "com/example/breakline/breakline/ModifierTable" "ownValues" "I" (.int ow) ∧ Fld Z h a1 "com/example/breakline/breakline/ModifierTable" "neighbourValues" "I" (.int nb) ∧ Fld Z h a1 "com/example/breakline/breakline/ModifierTable" "whole" "D" (.double (FP.l2d wh))
theorem ef_18_A (m : MethodId) (x0 : Addr) (x1 : Int32) (x2 : Int32) : entryFrame m #[(.ref x0), (.int x1), (.int x2)] 3 = mkF m 0 #[.val (.ref x0), .val (.int x1), .val (.int x2)] [] := by first | (simp [entryFrame, mkF, argsToLocals, Value.category]; done) | rfl
set_option maxRecDepth 65536 in
set_option maxHeartbeats 40000000 in
theorem rm18_A (l : Launch) (Z : State) (a0 : Array Value) (hw : ∀ d ∈ tables_1, d.before a0 Z = true) (ws : List Jvm.Cond) (a1 : Addr) (p2 : Int32) (p3 : Int32) (rat : Int32) (cat : Int32) (nu : Addr) (ow : Int32) (nb : Int32) (wh : Int64) (siz : Int32) (sin : Nat) (arr : Addr) (kla : ClassId) (cap : Int32) (can : Nat) (fco : Nat → Int64) (own : Nat) (nbn : Nat) (pn : Nat) (rn : Nat) (h0 : Heap) (n0 : Nat) (O0 : Old Z n0 h0) (E_a1 : Exa Z h0 a1 "com/example/breakline/breakline/ModifierTable") (F_rowsAt_a1 : Fld Z h0 a1 "com/example/breakline/breakline/ModifierTable" "rowsAt" "I" (.int rat)) (F_columnsAt_a1 : Fld Z h0 a1 "com/example/breakline/breakline/ModifierTable" "columnsAt" "I" (.int cat)) (F_entriesAt_a1 : Fld Z h0 a1 "com/example/breakline/breakline/ModifierTable" "entriesAt" "I" (.int (-1 : Int32))) (F_numbers_a1 : Fld Z h0 a1 "com/example/breakline/breakline/ModifierTable" "numbers" "Lcom/example/breakline/breakline/ModifierNumbers;" (.ref nu)) (F_ownValues_a1 : Fld Z h0 a1 "com/example/breakline/breakline/ModifierTable" "ownValues" "I" (.int ow)) (F_neighbourValues_a1 : Fld Z h0 a1 "com/example/breakline/breakline/ModifierTable" "neighbourValues" "I" (.int nb)) (F_whole_a1 : Fld Z h0 a1 "com/example/breakline/breakline/ModifierTable" "whole" "D" (.double (FP.l2d wh))) (ge_a1 : n0 ≤ a1) (ge_nu : n0 ≤ nu) (E_nu : Exa Z h0 nu "com/example/breakline/breakline/ModifierNumbers") (F_size_nu : Fld Z h0 nu "com/example/breakline/breakline/ModifierNumbers" "size" "I" (.int siz)) (F_numbers_nu : Fld Z h0 nu "com/example/breakline/breakline/ModifierNumbers" "numbers" "[D" (.ref arr)) (F_listed_nu : Fld Z h0 nu "com/example/breakline/breakline/ModifierNumbers" "listed" "[I" .null) (A_arr : Arv Z h0 arr kla .double cap (dvs fco) (.double (FP.l2d 0))) (ge_arr : n0 ≤ arr) (h_s : Sm siz sin) (h_c : Sm cap can) (h_sc : sin ≤ can) (h_c48 : can ≤ 48) (h_f0 : ∀ j, sin ≤ j → fco j = 0) (h_ow : Sm ow own) (h_nb : Sm nb nbn) (h_p : Sm p2 pn) (h_r : Sm p3 rn) (h_lt : pn < own) (h_lr : rn < nbn) (h_o4 : own ≤ 4) (h_n4 : nbn ≤ 4) (h_31 : sin + (own * nbn) ≤ 31) :
    MetFree l (⟨"com/example/breakline/breakline/ModifierTable", "lowerEntry", "(II)V"⟩ : MethodName) (head1 (Jvm.Cond.code (⟨"com/example/breakline/breakline/ModifierTable", "lowerEntry", "(II)V"⟩ : MethodName) prog_50_method_5_code 3 none :: ws) ({ frames := 4, cells := 1, slots := 48, locals := 86 } : Room)) (fun a U => a = #[(.ref a1), (.int p2), (.int p3)] ∧ Z.Warmed39 U.vm ∧ U.heap = h0) (fun _ _ _ _ _ => True) (fun _ U o U' => ∃ v L, o = .returned v ∧ Q18_A Z a1 p2 p3 rat cat nu ow nb wh siz sin arr kla cap can fco own nbn pn rn h0 n0 v U'.heap L ∧ FrameEnd U o U' L ({ frames := 4, cells := 1, slots := 48, locals := 86 } : Room).cells ({ frames := 4, cells := 1, slots := 48, locals := 86 } : Room).slots) := by
  refine MetFree.of_bodySF (plainFor_of_name pn_2) hisR ?_
  intro p e s m args below meth c s₁ Bd hml0 hP hK
  obtain ⟨rfl, hZ, hh⟩ := hP
  have hx := Bd.exec
  have hby := Bd.bytes
  have hml : c.maxLocals = 3 := hml0
  have hown : s.vm.findClass "com/example/breakline/breakline/ModifierTable" = some m.cls := findClass_of_methodNamed Bd.named
  have hnm := (name_of_methodNamed Bd.named Bd.method).1
  have X0 : Stand p l e ({ frames := 4, cells := 1, slots := 48, locals := 86 } : Room) s m #[(.ref a1), (.int p2), (.int p3)] below meth c s₁ [] 0 0 := Stand.of_body Bd
  have e0 : s₁.heap = h0 := by rw [← hh, Bd.state]; rfl
  have N0 := Fr.nil n0
  have pre0 : ∀ t, Steps p.tables e below (s₁.setTop (mkF m 0 #[.val (.ref a1), .val (.int p2), .val (.int p3)] [])) t → Steps p.tables e below (s₁.setTop (entryFrame m #[(.ref a1), (.int p2), (.int p3)] 3)) t := fun t k => castTop (ef_18_A m a1 p2 p3) k
  have K0 := Keep.refl h0 [a1, nu, arr]
  obtain ⟨cq1, qq1, qr1⟩ := E_a1.cell
  obtain ⟨_, _, ⟨T1, L1, k1, n1⟩, -, X1, ⟨Lc1, hQ1, l1, y1, z1⟩, st1⟩ := X0.privateBack hx (y := (⟨"com/example/breakline/breakline/ModifierTable", "addToEntry", "(IID)V"⟩ : MethodName)) hown (mvT hZ (tw hw 102 rfl)) (mvT hZ (tw hw 103 rfl)) (own_selp (y2 := (⟨"com/example/breakline/breakline/ModifierTable", "raiseAll", "()V"⟩ : MethodName)) (mvT hZ (tw hw 66 rfl)) rfl (Cond.privateMethod_at (mvP hZ (tw hw 104 rfl) (args := #[]))) (mvT hZ (tw hw 103 rfl)) (by decide)) (Cond.privateMethod_at (mvP hZ (tw hw 104 rfl) (args := #[]))) (mvT hZ (tw hw 105 rfl)) (by decide) (backOf (W := 0) (rm17_A l Z a0 hw [] a1 p2 p3 rat cat nu ow nb wh siz sin arr kla cap can fco own nbn pn rn (-1 : Int64) h0 n0 O0 E_a1 F_rowsAt_a1 F_columnsAt_a1 F_entriesAt_a1 F_numbers_a1 F_ownValues_a1 F_neighbourValues_a1 F_whole_a1 ge_a1 ge_nu E_nu F_size_nu F_numbers_nu F_listed_nu A_arr ge_arr h_s h_c h_sc h_c48 h_f0 h_ow h_nb h_p h_r h_lt h_lr h_o4 h_n4 h_31 own_bm1) hZ (tw hw 105 rfl) (tw hw 46 rfl) (by decide) (by decide)) (g := (mkF m 6 #[.val (.ref a1), .val (.int p2), .val (.int p3)] [(.double (FP.l2d (-1))), (.int p3), (.int p2), (.ref a1)])) rfl (by rw [hml]; rfl) (Steps.refl _) (a := a1) (by rw [e0]; exact qq1) qr1 (argsL := [(.int p2), (.int p3), (.double (FP.l2d (-1)))]) (rest := []) (lenOf pd_5 rfl) rfl (by show 2 * 0 + _ ≤ _; exact Nat.le_of_eq rfl) (hb hby d18_6) (fun _ _ => ⟨rfl, e0, (by decide : 0 + 1 ≤ _), (by decide : 0 + 48 ≤ _)⟩)
  dsimp only [Pt.U, Pt.locs, Pt.cells, Pt.slots] at X1 l1 y1 z1 st1 hQ1
  subst l1 y1 z1
  obtain ⟨ro_1, ko_1, co_1, cn_1, rfl, N1q, K1q, O1, f1_0, f1_1, f1_2, f1_3, f1_4, f1_5, f1_6, f1_7, f1_8, f1_9, f1_10, f1_11, f1_12, f1_13, f1_14, f1_15⟩ := hQ1
  have N1 := Fr.app N0 N1q
  have K1 := K0.trans K1q (allS (Or.inl (List.mem_of_getElem? (i := 0) rfl)) (allS (Or.inl (List.mem_of_getElem? (i := 1) rfl)) (allS (Or.inl (List.mem_of_getElem? (i := 2) rfl)) all0)))
  have sg2 : ∀ target, Steps p.tables e below (T1.setTop (mkF m 9 #[.val (.ref a1), .val (.int p2), .val (.int p3)] [])) target → Steps p.tables e below (s₁.setTop (mkF m 0 #[.val (.ref a1), .val (.int p2), .val (.int p3)] [])) target := by
    intro target kt
    show Steps p.tables e below (s₁.setTop (mkF m 0 #[.val (.ref a1), .val (.int p2), .val (.int p3)] [])) _
    refine XS.aloadN X0.here hx rfl (hb hby d18_0) rfl rfl ?_
    show Steps p.tables e below (s₁.setTop (mkF m 1 #[.val (.ref a1), .val (.int p2), .val (.int p3)] [(.ref a1)])) _
    refine XS.iloadN X0.here hx rfl (hb hby d18_1) rfl ?_
    show Steps p.tables e below (s₁.setTop (mkF m 2 #[.val (.ref a1), .val (.int p2), .val (.int p3)] [(.int p2), (.ref a1)])) _
    refine XS.iloadN X0.here hx rfl (hb hby d18_2) rfl ?_
    show Steps p.tables e below (s₁.setTop (mkF m 3 #[.val (.ref a1), .val (.int p2), .val (.int p3)] [(.int p3), (.int p2), (.ref a1)])) _
    refine X0.ldc2DoubleC hx hown (mvT hZ (tw hw 111 rfl)) (g := (mkF m 3 #[.val (.ref a1), .val (.int p2), .val (.int p3)] [(.int p3), (.int p2), (.ref a1)])) rfl (hb hby d18_3) _ ?_
    rw [own_dm1]
    show Steps p.tables e below (s₁.setTop (mkF m 6 #[.val (.ref a1), .val (.int p2), .val (.int p3)] [(.double (FP.l2d (-1))), (.int p3), (.int p2), (.ref a1)])) _
    refine st1.trans ?_
    exact kt
  obtain ⟨fs, hr, hrun, hended, hW, hsame⟩ := X1.leave (v := none) (fun _ => rfl)
  refine ⟨_, _, pre0 _ (sg2 _ (?_)), hrun, hended, _, _, rfl, ?_, ⟨_, rfl⟩, hW, hsame.mono (by decide) (by decide)⟩
  · show Steps p.tables e below (T1.setTop (mkF m 9 #[.val (.ref a1), .val (.int p2), .val (.int p3)] [])) _
    exact X1.returnOut hx Bd.returns (hb hby d18_9) hr
  · show Q18_A Z a1 p2 p3 rat cat nu ow nb wh siz sin arr kla cap can fco own nbn pn rn h0 n0 _ T1.heap _
    exact ⟨ro_1, ko_1, co_1, cn_1, rfl, N1, K1, O1, f1_0, f1_1, f1_2, f1_3, f1_4, f1_5, f1_6, f1_7, f1_8, f1_9, f1_10, f1_11, f1_12, f1_13, f1_14, f1_15⟩
def Q18_B (Z : State) (a1 : Addr) (p2 : Int32) (p3 : Int32) (rat : Int32) (cat : Int32) (eat : Int32) (nu : Addr) (ow : Int32) (nb : Int32) (wh : Int64) (siz : Int32) (sin : Nat) (arr : Addr) (kla : ClassId) (cap : Int32) (can : Nat) (fco : Nat → Int64) (own : Nat) (nbn : Nat) (pn : Nat) (rn : Nat) (en : Nat) (h0 : Heap) (n0 : Nat) (v : Option Value) (h : Heap) (L : List Loc) : Prop := v = none ∧ Fr n0 L ∧ Keep h0 h [arr] ∧ Old Z n0 h ∧ Arv Z h arr kla .double cap (dvs (upd fco (en + (pn * nbn) + rn) ((fco (en + (pn * nbn) + rn)) + (-1 : Int64)))) (.double (FP.l2d 0))
theorem ef_18_B (m : MethodId) (x0 : Addr) (x1 : Int32) (x2 : Int32) : entryFrame m #[(.ref x0), (.int x1), (.int x2)] 3 = mkF m 0 #[.val (.ref x0), .val (.int x1), .val (.int x2)] [] := by first | (simp [entryFrame, mkF, argsToLocals, Value.category]; done) | rfl
set_option maxRecDepth 65536 in
set_option maxHeartbeats 40000000 in
theorem rm18_B (l : Launch) (Z : State) (a0 : Array Value) (hw : ∀ d ∈ tables_1, d.before a0 Z = true) (ws : List Jvm.Cond) (a1 : Addr) (p2 : Int32) (p3 : Int32) (rat : Int32) (cat : Int32) (eat : Int32) (nu : Addr) (ow : Int32) (nb : Int32) (wh : Int64) (siz : Int32) (sin : Nat) (arr : Addr) (kla : ClassId) (cap : Int32) (can : Nat) (fco : Nat → Int64) (own : Nat) (nbn : Nat) (pn : Nat) (rn : Nat) (en : Nat) (h0 : Heap) (n0 : Nat) (O0 : Old Z n0 h0) (E_a1 : Exa Z h0 a1 "com/example/breakline/breakline/ModifierTable") (F_rowsAt_a1 : Fld Z h0 a1 "com/example/breakline/breakline/ModifierTable" "rowsAt" "I" (.int rat)) (F_columnsAt_a1 : Fld Z h0 a1 "com/example/breakline/breakline/ModifierTable" "columnsAt" "I" (.int cat)) (F_entriesAt_a1 : Fld Z h0 a1 "com/example/breakline/breakline/ModifierTable" "entriesAt" "I" (.int eat)) (F_numbers_a1 : Fld Z h0 a1 "com/example/breakline/breakline/ModifierTable" "numbers" "Lcom/example/breakline/breakline/ModifierNumbers;" (.ref nu)) (F_ownValues_a1 : Fld Z h0 a1 "com/example/breakline/breakline/ModifierTable" "ownValues" "I" (.int ow)) (F_neighbourValues_a1 : Fld Z h0 a1 "com/example/breakline/breakline/ModifierTable" "neighbourValues" "I" (.int nb)) (F_whole_a1 : Fld Z h0 a1 "com/example/breakline/breakline/ModifierTable" "whole" "D" (.double (FP.l2d wh))) (E_nu : Exa Z h0 nu "com/example/breakline/breakline/ModifierNumbers") (F_size_nu : Fld Z h0 nu "com/example/breakline/breakline/ModifierNumbers" "size" "I" (.int siz)) (F_numbers_nu : Fld Z h0 nu "com/example/breakline/breakline/ModifierNumbers" "numbers" "[D" (.ref arr)) (F_listed_nu : Fld Z h0 nu "com/example/breakline/breakline/ModifierNumbers" "listed" "[I" .null) (A_arr : Arv Z h0 arr kla .double cap (dvs fco) (.double (FP.l2d 0))) (ge_arr : n0 ≤ arr) (h_s : Sm siz sin) (h_c : Sm cap can) (h_sc : sin ≤ can) (h_c48 : can ≤ 48) (h_f0 : ∀ j, sin ≤ j → fco j = 0) (h_ow : Sm ow own) (h_nb : Sm nb nbn) (h_p : Sm p2 pn) (h_r : Sm p3 rn) (h_lt : pn < own) (h_lr : rn < nbn) (h_o4 : own ≤ 4) (h_n4 : nbn ≤ 4) (h_e : Sm eat en) (h_in : en + (own * nbn) ≤ can) (h_b : B53 (fco (en + (pn * nbn) + rn))) :
    MetFree l (⟨"com/example/breakline/breakline/ModifierTable", "lowerEntry", "(II)V"⟩ : MethodName) (head1 (Jvm.Cond.code (⟨"com/example/breakline/breakline/ModifierTable", "lowerEntry", "(II)V"⟩ : MethodName) prog_50_method_5_code 3 none :: ws) ({ frames := 2, cells := 0, slots := 0, locals := 35 } : Room)) (fun a U => a = #[(.ref a1), (.int p2), (.int p3)] ∧ Z.Warmed39 U.vm ∧ U.heap = h0) (fun _ _ _ _ _ => True) (fun _ U o U' => ∃ v L, o = .returned v ∧ Q18_B Z a1 p2 p3 rat cat eat nu ow nb wh siz sin arr kla cap can fco own nbn pn rn en h0 n0 v U'.heap L ∧ FrameEnd U o U' L ({ frames := 2, cells := 0, slots := 0, locals := 35 } : Room).cells ({ frames := 2, cells := 0, slots := 0, locals := 35 } : Room).slots) := by
  refine MetFree.of_bodySF (plainFor_of_name pn_2) hisR ?_
  intro p e s m args below meth c s₁ Bd hml0 hP hK
  obtain ⟨rfl, hZ, hh⟩ := hP
  have hx := Bd.exec
  have hby := Bd.bytes
  have hml : c.maxLocals = 3 := hml0
  have hown : s.vm.findClass "com/example/breakline/breakline/ModifierTable" = some m.cls := findClass_of_methodNamed Bd.named
  have hnm := (name_of_methodNamed Bd.named Bd.method).1
  have X0 : Stand p l e ({ frames := 2, cells := 0, slots := 0, locals := 35 } : Room) s m #[(.ref a1), (.int p2), (.int p3)] below meth c s₁ [] 0 0 := Stand.of_body Bd
  have e0 : s₁.heap = h0 := by rw [← hh, Bd.state]; rfl
  have N0 := Fr.nil n0
  have pre0 : ∀ t, Steps p.tables e below (s₁.setTop (mkF m 0 #[.val (.ref a1), .val (.int p2), .val (.int p3)] [])) t → Steps p.tables e below (s₁.setTop (entryFrame m #[(.ref a1), (.int p2), (.int p3)] 3)) t := fun t k => castTop (ef_18_B m a1 p2 p3) k
  have K0 := Keep.refl h0 [arr]
  obtain ⟨cq1, qq1, qr1⟩ := E_a1.cell
  obtain ⟨_, _, ⟨T1, L1, k1, n1⟩, -, X1, ⟨Lc1, hQ1, l1, y1, z1⟩, st1⟩ := X0.privateBack hx (y := (⟨"com/example/breakline/breakline/ModifierTable", "addToEntry", "(IID)V"⟩ : MethodName)) hown (mvT hZ (tw hw 102 rfl)) (mvT hZ (tw hw 103 rfl)) (own_selp (y2 := (⟨"com/example/breakline/breakline/ModifierTable", "raiseAll", "()V"⟩ : MethodName)) (mvT hZ (tw hw 66 rfl)) rfl (Cond.privateMethod_at (mvP hZ (tw hw 104 rfl) (args := #[]))) (mvT hZ (tw hw 103 rfl)) (by decide)) (Cond.privateMethod_at (mvP hZ (tw hw 104 rfl) (args := #[]))) (mvT hZ (tw hw 105 rfl)) (by decide) (backOf (W := 0) (rm17_B l Z a0 hw [] a1 p2 p3 rat cat eat nu ow nb wh siz sin arr kla cap can fco own nbn pn rn en (-1 : Int64) h0 n0 O0 E_a1 F_rowsAt_a1 F_columnsAt_a1 F_entriesAt_a1 F_numbers_a1 F_ownValues_a1 F_neighbourValues_a1 F_whole_a1 E_nu F_size_nu F_numbers_nu F_listed_nu A_arr ge_arr h_s h_c h_sc h_c48 h_f0 h_ow h_nb h_p h_r h_lt h_lr h_o4 h_n4 h_e h_in h_b own_bm1) hZ (tw hw 105 rfl) (tw hw 46 rfl) (by decide) (by decide)) (g := (mkF m 6 #[.val (.ref a1), .val (.int p2), .val (.int p3)] [(.double (FP.l2d (-1))), (.int p3), (.int p2), (.ref a1)])) rfl (by rw [hml]; rfl) (Steps.refl _) (a := a1) (by rw [e0]; exact qq1) qr1 (argsL := [(.int p2), (.int p3), (.double (FP.l2d (-1)))]) (rest := []) (lenOf pd_5 rfl) rfl (by show 2 * 0 + _ ≤ _; exact Nat.le_of_eq rfl) (hb hby d18_6) (fun _ _ => ⟨rfl, e0, (by decide : 0 + 0 ≤ _), (by decide : 0 + 0 ≤ _)⟩)
  dsimp only [Pt.U, Pt.locs, Pt.cells, Pt.slots] at X1 l1 y1 z1 st1 hQ1
  subst l1 y1 z1
  obtain ⟨rfl, N1q, K1q, O1, f1_0⟩ := hQ1
  have N1 := Fr.app N0 N1q
  have K1 := K0.trans K1q (allS (Or.inl (List.mem_of_getElem? (i := 0) rfl)) all0)
  have sg2 : ∀ target, Steps p.tables e below (T1.setTop (mkF m 9 #[.val (.ref a1), .val (.int p2), .val (.int p3)] [])) target → Steps p.tables e below (s₁.setTop (mkF m 0 #[.val (.ref a1), .val (.int p2), .val (.int p3)] [])) target := by
    intro target kt
    show Steps p.tables e below (s₁.setTop (mkF m 0 #[.val (.ref a1), .val (.int p2), .val (.int p3)] [])) _
    refine XS.aloadN X0.here hx rfl (hb hby d18_0) rfl rfl ?_
    show Steps p.tables e below (s₁.setTop (mkF m 1 #[.val (.ref a1), .val (.int p2), .val (.int p3)] [(.ref a1)])) _
    refine XS.iloadN X0.here hx rfl (hb hby d18_1) rfl ?_
    show Steps p.tables e below (s₁.setTop (mkF m 2 #[.val (.ref a1), .val (.int p2), .val (.int p3)] [(.int p2), (.ref a1)])) _
    refine XS.iloadN X0.here hx rfl (hb hby d18_2) rfl ?_
    show Steps p.tables e below (s₁.setTop (mkF m 3 #[.val (.ref a1), .val (.int p2), .val (.int p3)] [(.int p3), (.int p2), (.ref a1)])) _
    refine X0.ldc2DoubleC hx hown (mvT hZ (tw hw 111 rfl)) (g := (mkF m 3 #[.val (.ref a1), .val (.int p2), .val (.int p3)] [(.int p3), (.int p2), (.ref a1)])) rfl (hb hby d18_3) _ ?_
    rw [own_dm1]
    show Steps p.tables e below (s₁.setTop (mkF m 6 #[.val (.ref a1), .val (.int p2), .val (.int p3)] [(.double (FP.l2d (-1))), (.int p3), (.int p2), (.ref a1)])) _
    refine st1.trans ?_
    exact kt
  obtain ⟨fs, hr, hrun, hended, hW, hsame⟩ := X1.leave (v := none) (fun _ => rfl)
  refine ⟨_, _, pre0 _ (sg2 _ (?_)), hrun, hended, _, _, rfl, ?_, ⟨_, rfl⟩, hW, hsame.mono (by decide) (by decide)⟩
  · show Steps p.tables e below (T1.setTop (mkF m 9 #[.val (.ref a1), .val (.int p2), .val (.int p3)] [])) _
    exact X1.returnOut hx Bd.returns (hb hby d18_9) hr
  · show Q18_B Z a1 p2 p3 rat cat eat nu ow nb wh siz sin arr kla cap can fco own nbn pn rn en h0 n0 _ T1.heap _
    exact ⟨rfl, N1, K1, O1, f1_0⟩
def Q13 (Z : State) (a1 : Addr) (p2 : Int32) (p3 : Int32) (p4 : Int32) (p5 : Int32) (p6 : Int32) (p7 : Int32) (rat : Int32) (cat : Int32) (nu : Addr) (ow : Int32) (nb : Int32) (wh : Int64) (siz : Int32) (sin : Nat) (arr : Addr) (kla : ClassId) (cap : Int32) (can : Nat) (fco : Nat → Int64) (own : Nat) (nbn : Nat) (n4 : Nat) (n5 : Nat) (n6 : Nat) (n7 : Nat) (h0 : Heap) (n0 : Nat) (v : Option Value) (h : Heap) (L : List Loc) : Prop := ∃ eo : Int32, ∃ so : Int32, ∃ sno : Nat, ∃ ro : Addr, ∃ ko : ClassId, ∃ co : Int32, ∃ cn : Nat, ∃ fo : Nat → Int64, v = none ∧ Fr n0 L ∧ Keep h0 h [a1, nu, arr] ∧ Old Z n0 h ∧ Fld Z h nu "com/example/breakline/breakline/ModifierNumbers" "size" "I" (.int so) ∧ Fld Z h nu "com/example/breakline/breakline/ModifierNumbers" "numbers" "[D" (.ref ro) ∧ Fld Z h nu "com/example/breakline/breakline/ModifierNumbers" "listed" "[I" .null ∧ Arv Z h ro ko .double co (dvs fo) (.double (FP.l2d 0)) ∧ n0 ≤ ro ∧ (ro ∈ [arr] ∨ h0.size ≤ ro) ∧ Sm co cn ∧ sno ≤ cn ∧ cn ≤ 48 ∧ Fld Z h a1 "com/example/breakline/breakline/ModifierTable" "rowsAt" "I" (.int rat) ∧ Fld Z h a1 "com/example/breakline/breakline/ModifierTable" "columnsAt" "I" (.int cat) ∧ Fld Z h a1 "com/example/breakline/breakline/ModifierTable" "entriesAt" "I" (.int eo) ∧ Fld Z h a1 "com/example/breakline/breakline/ModifierTable" "numbers" "Lcom/example/breakline/breakline/ModifierNumbers;" (.ref nu) ∧ Fld Z h a1 "com/example/breakline/breakline/ModifierTable" "ownValues" "I" (.int ow) ∧ Fld Z h a1 "com/example/breakline/breakline/ModifierTable" "neighbourValues" "I" (.int nb) ∧ Fld Z h a1 "com/example/breakline/breakline/ModifierTable" "whole" "D" (.double (FP.l2d wh)) ∧ Sm so sno ∧ (∀ j, sno ≤ j → fo j = 0) ∧ ER p2 p3 eo siz sin sno (own * nbn) (sin + (n4 * nbn) + n5) (sin + (n6 * nbn) + n7) fco fo
theorem ef_13 (m : MethodId) (x0 : Addr) (x1 : Int32) (x2 : Int32) (x3 : Int32) (x4 : Int32) (x5 : Int32) (x6 : Int32) : entryFrame m #[(.ref x0), (.int x1), (.int x2), (.int x3), (.int x4), (.int x5), (.int x6)] 7 = mkF m 0 #[.val (.ref x0), .val (.int x1), .val (.int x2), .val (.int x3), .val (.int x4), .val (.int x5), .val (.int x6)] [] := by first | (simp [entryFrame, mkF, argsToLocals, Value.category]; done) | rfl
set_option maxRecDepth 65536 in
set_option maxHeartbeats 40000000 in
theorem rm13 (l : Launch) (Z : State) (a0 : Array Value) (hw : ∀ d ∈ tables_1, d.before a0 Z = true) (ws : List Jvm.Cond) (a1 : Addr) (p2 : Int32) (p3 : Int32) (p4 : Int32) (p5 : Int32) (p6 : Int32) (p7 : Int32) (rat : Int32) (cat : Int32) (nu : Addr) (ow : Int32) (nb : Int32) (wh : Int64) (siz : Int32) (sin : Nat) (arr : Addr) (kla : ClassId) (cap : Int32) (can : Nat) (fco : Nat → Int64) (own : Nat) (nbn : Nat) (n4 : Nat) (n5 : Nat) (n6 : Nat) (n7 : Nat) (h0 : Heap) (n0 : Nat) (O0 : Old Z n0 h0) (E_a1 : Exa Z h0 a1 "com/example/breakline/breakline/ModifierTable") (F_rowsAt_a1 : Fld Z h0 a1 "com/example/breakline/breakline/ModifierTable" "rowsAt" "I" (.int rat)) (F_columnsAt_a1 : Fld Z h0 a1 "com/example/breakline/breakline/ModifierTable" "columnsAt" "I" (.int cat)) (F_entriesAt_a1 : Fld Z h0 a1 "com/example/breakline/breakline/ModifierTable" "entriesAt" "I" (.int (-1 : Int32))) (F_numbers_a1 : Fld Z h0 a1 "com/example/breakline/breakline/ModifierTable" "numbers" "Lcom/example/breakline/breakline/ModifierNumbers;" (.ref nu)) (F_ownValues_a1 : Fld Z h0 a1 "com/example/breakline/breakline/ModifierTable" "ownValues" "I" (.int ow)) (F_neighbourValues_a1 : Fld Z h0 a1 "com/example/breakline/breakline/ModifierTable" "neighbourValues" "I" (.int nb)) (F_whole_a1 : Fld Z h0 a1 "com/example/breakline/breakline/ModifierTable" "whole" "D" (.double (FP.l2d wh))) (ge_a1 : n0 ≤ a1) (ge_nu : n0 ≤ nu) (E_nu : Exa Z h0 nu "com/example/breakline/breakline/ModifierNumbers") (F_size_nu : Fld Z h0 nu "com/example/breakline/breakline/ModifierNumbers" "size" "I" (.int siz)) (F_numbers_nu : Fld Z h0 nu "com/example/breakline/breakline/ModifierNumbers" "numbers" "[D" (.ref arr)) (F_listed_nu : Fld Z h0 nu "com/example/breakline/breakline/ModifierNumbers" "listed" "[I" .null) (A_arr : Arv Z h0 arr kla .double cap (dvs fco) (.double (FP.l2d 0))) (ge_arr : n0 ≤ arr) (h_s : Sm siz sin) (h_c : Sm cap can) (h_sc : sin ≤ can) (h_c48 : can ≤ 48) (h_f0 : ∀ j, sin ≤ j → fco j = 0) (h_ow : Sm ow own) (h_nb : Sm nb nbn) (h_4 : Sm p4 n4) (h_5 : Sm p5 n5) (h_6 : Sm p6 n6) (h_7 : Sm p7 n7) (h_l4 : n4 < own) (h_l5 : n5 < nbn) (h_l6 : n6 < own) (h_l7 : n7 < nbn) (h_o4 : own ≤ 4) (h_n4 : nbn ≤ 4) (h_31 : sin + (own * nbn) ≤ 31) :
    MetFree l (⟨"com/example/breakline/breakline/ModifierTableGetPinLaw", "entries", "(Lcom/example/breakline/breakline/ModifierTable;ZZIIII)V"⟩ : MethodName) (head1 (Jvm.Cond.code (⟨"com/example/breakline/breakline/ModifierTableGetPinLaw", "entries", "(Lcom/example/breakline/breakline/ModifierTable;ZZIIII)V"⟩ : MethodName) method_2_code 7 none :: ws) ({ frames := 5, cells := 1, slots := 48, locals := 100 } : Room)) (fun a U => a = #[(.ref a1), (.int p2), (.int p3), (.int p4), (.int p5), (.int p6), (.int p7)] ∧ Z.Warmed39 U.vm ∧ U.heap = h0) (fun _ _ _ _ _ => True) (fun _ U o U' => ∃ v L, o = .returned v ∧ Q13 Z a1 p2 p3 p4 p5 p6 p7 rat cat nu ow nb wh siz sin arr kla cap can fco own nbn n4 n5 n6 n7 h0 n0 v U'.heap L ∧ FrameEnd U o U' L ({ frames := 5, cells := 1, slots := 48, locals := 100 } : Room).cells ({ frames := 5, cells := 1, slots := 48, locals := 100 } : Room).slots) := by
  refine MetFree.of_bodySF (plainFor_of_name pn_3) hisR ?_
  intro p e s m args below meth c s₁ Bd hml0 hP hK
  obtain ⟨rfl, hZ, hh⟩ := hP
  have hx := Bd.exec
  have hby := Bd.bytes
  have hml : c.maxLocals = 7 := hml0
  have hown : s.vm.findClass "com/example/breakline/breakline/ModifierTableGetPinLaw" = some m.cls := findClass_of_methodNamed Bd.named
  have hnm := (name_of_methodNamed Bd.named Bd.method).1
  have X0 : Stand p l e ({ frames := 5, cells := 1, slots := 48, locals := 100 } : Room) s m #[(.ref a1), (.int p2), (.int p3), (.int p4), (.int p5), (.int p6), (.int p7)] below meth c s₁ [] 0 0 := Stand.of_body Bd
  have e0 : s₁.heap = h0 := by rw [← hh, Bd.state]; rfl
  have N0 := Fr.nil n0
  have pre0 : ∀ t, Steps p.tables e below (s₁.setTop (mkF m 0 #[.val (.ref a1), .val (.int p2), .val (.int p3), .val (.int p4), .val (.int p5), .val (.int p6), .val (.int p7)] [])) t → Steps p.tables e below (s₁.setTop (entryFrame m #[(.ref a1), (.int p2), (.int p3), (.int p4), (.int p5), (.int p6), (.int p7)] 7)) t := fun t k => castTop (ef_13 m a1 p2 p3 p4 p5 p6 p7) k
  have K0 := Keep.refl h0 [a1, nu, arr]
  have sg1 : ∀ target, Steps p.tables e below (s₁.setTop (mkF m 1 #[.val (.ref a1), .val (.int p2), .val (.int p3), .val (.int p4), .val (.int p5), .val (.int p6), .val (.int p7)] [(.int p2)])) target → Steps p.tables e below (s₁.setTop (mkF m 0 #[.val (.ref a1), .val (.int p2), .val (.int p3), .val (.int p4), .val (.int p5), .val (.int p6), .val (.int p7)] [])) target := by
    intro target kt
    show Steps p.tables e below (s₁.setTop (mkF m 0 #[.val (.ref a1), .val (.int p2), .val (.int p3), .val (.int p4), .val (.int p5), .val (.int p6), .val (.int p7)] [])) _
    refine XS.iloadN X0.here hx rfl (hb hby d13_0) rfl ?_
    exact kt
  by_cases hc2 : p2 = (0 : Int32)
  · have sg3 : ∀ target, Steps p.tables e below (s₁.setTop (mkF m 12 #[.val (.ref a1), .val (.int p2), .val (.int p3), .val (.int p4), .val (.int p5), .val (.int p6), .val (.int p7)] [(.int p3)])) target → Steps p.tables e below (s₁.setTop (mkF m 1 #[.val (.ref a1), .val (.int p2), .val (.int p3), .val (.int p4), .val (.int p5), .val (.int p6), .val (.int p7)] [(.int p2)])) target := by
      intro target kt
      show Steps p.tables e below (s₁.setTop (mkF m 1 #[.val (.ref a1), .val (.int p2), .val (.int p3), .val (.int p4), .val (.int p5), .val (.int p6), .val (.int p7)] [(.int p2)])) _
      refine XS.ifYes X0.here hx rfl (pc0 := 1) (pc' := 11) rfl (hb hby d13_1) rfl ((if0 _ _).trans (teq hc2).1) (by decide) (by decide) ?_
      show Steps p.tables e below (s₁.setTop (mkF m 11 #[.val (.ref a1), .val (.int p2), .val (.int p3), .val (.int p4), .val (.int p5), .val (.int p6), .val (.int p7)] [])) _
      refine XS.iloadN X0.here hx rfl (hb hby d13_11) rfl ?_
      exact kt
    by_cases hc4 : p3 = (0 : Int32)
    · have sg5 : ∀ target, Steps p.tables e below (s₁.setTop (mkF m 23 #[.val (.ref a1), .val (.int p2), .val (.int p3), .val (.int p4), .val (.int p5), .val (.int p6), .val (.int p7)] [])) target → Steps p.tables e below (s₁.setTop (mkF m 12 #[.val (.ref a1), .val (.int p2), .val (.int p3), .val (.int p4), .val (.int p5), .val (.int p6), .val (.int p7)] [(.int p3)])) target := by
        intro target kt
        show Steps p.tables e below (s₁.setTop (mkF m 12 #[.val (.ref a1), .val (.int p2), .val (.int p3), .val (.int p4), .val (.int p5), .val (.int p6), .val (.int p7)] [(.int p3)])) _
        refine XS.ifYes X0.here hx rfl (pc0 := 12) (pc' := 23) rfl (hb hby d13_12) rfl ((if0 _ _).trans (teq hc4).1) (by decide) (by decide) ?_
        exact kt
      obtain ⟨fs, hr, hrun, hended, hW, hsame⟩ := X0.leave (v := none) (fun _ => rfl)
      refine ⟨_, _, pre0 _ (sg1 _ (sg3 _ (sg5 _ (?_)))), hrun, hended, _, _, rfl, ?_, ⟨_, rfl⟩, hW, hsame.mono (by decide) (by decide)⟩
      · show Steps p.tables e below (s₁.setTop (mkF m 23 #[.val (.ref a1), .val (.int p2), .val (.int p3), .val (.int p4), .val (.int p5), .val (.int p6), .val (.int p7)] [])) _
        exact X0.returnOut hx Bd.returns (hb hby d13_23) hr
      · show Q13 Z a1 p2 p3 p4 p5 p6 p7 rat cat nu ow nb wh siz sin arr kla cap can fco own nbn n4 n5 n6 n7 h0 n0 _ s₁.heap _
        rw [e0]
        exact ⟨(-1 : Int32), siz, sin, arr, kla, cap, can, fco, rfl, N0, K0, O0, F_size_nu, F_numbers_nu, F_listed_nu, A_arr, ge_arr, (Or.inl (List.mem_of_getElem? (i := 0) rfl)), h_c, h_sc, h_c48, F_rowsAt_a1, F_columnsAt_a1, F_entriesAt_a1, F_numbers_a1, F_ownValues_a1, F_neighbourValues_a1, F_whole_a1, h_s, h_f0, (Or.inl ⟨hc2, hc4, rfl, rfl, rfl⟩)⟩
    · obtain ⟨cq6, kq6, q6a, q6b, q6c⟩ := isOf hZ e0 E_a1
      obtain ⟨_, _, ⟨T6, L6, k6, n6⟩, -, X6, ⟨Lc6, hQ6, l6, y6, z6⟩, st6⟩ := X0.virtualBack hx (y := (⟨"com/example/breakline/breakline/ModifierTable", "lowerEntry", "(II)V"⟩ : MethodName)) (z := (⟨"com/example/breakline/breakline/ModifierTable", "lowerEntry", "(II)V"⟩ : MethodName)) hown (mvT hZ (tw hw 106 rfl)) (mvT hZ (tw hw 107 rfl)) (notFace_of_selects (args := #[]) (mvT hZ (tw hw 109 rfl))) (mvT hZ (tw hw 109 rfl)) (mvT hZ (tw hw 108 rfl)) (by decide) (backOf (W := 0) (rm18_A l Z a0 hw [] a1 p6 p7 rat cat nu ow nb wh siz sin arr kla cap can fco own nbn n6 n7 h0 n0 O0 E_a1 F_rowsAt_a1 F_columnsAt_a1 F_entriesAt_a1 F_numbers_a1 F_ownValues_a1 F_neighbourValues_a1 F_whole_a1 ge_a1 ge_nu E_nu F_size_nu F_numbers_nu F_listed_nu A_arr ge_arr h_s h_c h_sc h_c48 h_f0 h_ow h_nb h_6 h_7 h_l6 h_l7 h_o4 h_n4 h_31) hZ (tw hw 110 rfl) (tw hw 46 rfl) (by decide) (by decide)) q6a q6c (g := (mkF m 20 #[.val (.ref a1), .val (.int p2), .val (.int p3), .val (.int p4), .val (.int p5), .val (.int p6), .val (.int p7)] [(.int p7), (.int p6), (.ref a1)])) rfl (by rw [hml]; rfl) (Steps.refl _) (argsL := [(.int p6), (.int p7)]) (rest := []) (lenOf pd_6 rfl) rfl (by show 2 * 0 + _ ≤ _; exact Nat.le_of_eq rfl) (hb hby d13_20) (fun _ _ => ⟨rfl, e0, (by decide : 0 + 1 ≤ _), (by decide : 0 + 48 ≤ _)⟩)
      dsimp only [Pt.U, Pt.locs, Pt.cells, Pt.slots] at X6 l6 y6 z6 st6 hQ6
      subst l6 y6 z6
      obtain ⟨ro_6, ko_6, co_6, cn_6, rfl, N6q, K6q, O6, f6_0, f6_1, f6_2, f6_3, f6_4, f6_5, f6_6, f6_7, f6_8, f6_9, f6_10, f6_11, f6_12, f6_13, f6_14, f6_15⟩ := hQ6
      have N6 := Fr.app N0 N6q
      have K6 := K0.trans K6q (allS (Or.inl (List.mem_of_getElem? (i := 0) rfl)) (allS (Or.inl (List.mem_of_getElem? (i := 1) rfl)) (allS (Or.inl (List.mem_of_getElem? (i := 2) rfl)) all0)))
      have sg7 : ∀ target, Steps p.tables e below (T6.setTop (mkF m 23 #[.val (.ref a1), .val (.int p2), .val (.int p3), .val (.int p4), .val (.int p5), .val (.int p6), .val (.int p7)] [])) target → Steps p.tables e below (s₁.setTop (mkF m 12 #[.val (.ref a1), .val (.int p2), .val (.int p3), .val (.int p4), .val (.int p5), .val (.int p6), .val (.int p7)] [(.int p3)])) target := by
        intro target kt
        show Steps p.tables e below (s₁.setTop (mkF m 12 #[.val (.ref a1), .val (.int p2), .val (.int p3), .val (.int p4), .val (.int p5), .val (.int p6), .val (.int p7)] [(.int p3)])) _
        refine XS.ifNo X0.here hx rfl (hb hby d13_12) rfl ((if0 _ _).trans (feq hc4).1) ?_
        show Steps p.tables e below (s₁.setTop (mkF m 15 #[.val (.ref a1), .val (.int p2), .val (.int p3), .val (.int p4), .val (.int p5), .val (.int p6), .val (.int p7)] [])) _
        refine XS.aloadN X0.here hx rfl (hb hby d13_15) rfl rfl ?_
        show Steps p.tables e below (s₁.setTop (mkF m 16 #[.val (.ref a1), .val (.int p2), .val (.int p3), .val (.int p4), .val (.int p5), .val (.int p6), .val (.int p7)] [(.ref a1)])) _
        refine XS.iload X0.here hx rfl (hb hby d13_16) rfl ?_
        show Steps p.tables e below (s₁.setTop (mkF m 18 #[.val (.ref a1), .val (.int p2), .val (.int p3), .val (.int p4), .val (.int p5), .val (.int p6), .val (.int p7)] [(.int p6), (.ref a1)])) _
        refine XS.iload X0.here hx rfl (hb hby d13_18) rfl ?_
        show Steps p.tables e below (s₁.setTop (mkF m 20 #[.val (.ref a1), .val (.int p2), .val (.int p3), .val (.int p4), .val (.int p5), .val (.int p6), .val (.int p7)] [(.int p7), (.int p6), (.ref a1)])) _
        refine st6.trans ?_
        exact kt
      obtain ⟨fs, hr, hrun, hended, hW, hsame⟩ := X6.leave (v := none) (fun _ => rfl)
      refine ⟨_, _, pre0 _ (sg1 _ (sg3 _ (sg7 _ (?_)))), hrun, hended, _, _, rfl, ?_, ⟨_, rfl⟩, hW, hsame.mono (by decide) (by decide)⟩
      · show Steps p.tables e below (T6.setTop (mkF m 23 #[.val (.ref a1), .val (.int p2), .val (.int p3), .val (.int p4), .val (.int p5), .val (.int p6), .val (.int p7)] [])) _
        exact X6.returnOut hx Bd.returns (hb hby d13_23) hr
      · show Q13 Z a1 p2 p3 p4 p5 p6 p7 rat cat nu ow nb wh siz sin arr kla cap can fco own nbn n4 n5 n6 n7 h0 n0 _ T6.heap _
        exact ⟨siz, (siz + (ow * nb)), (sin + (own * nbn)), ro_6, ko_6, co_6, cn_6, (upd fco (sin + (n6 * nbn) + n7) ((fco (sin + (n6 * nbn) + n7)) + (-1 : Int64))), rfl, N6, K6, O6, f6_0, f6_1, f6_2, f6_3, f6_4, f6_5, f6_6, f6_7, f6_8, f6_9, f6_10, f6_11, f6_12, f6_13, f6_14, f6_15, (Sm.add h_s (Sm.mul h_ow h_nb h_o4 h_n4) (by omega)), (own_f0up h_f0 (Nat.le_add_right _ _) (own_lin h_l6 h_l7)), (Or.inr ⟨fun q => hc4 q.2, rfl, rfl, _, (if_pos hc2).symm, (if_neg hc4).symm⟩)⟩
  · obtain ⟨cq8, kq8, q8a, q8b, q8c⟩ := isOf hZ e0 E_a1
    obtain ⟨_, _, ⟨T8, L8, k8, n8⟩, -, X8, ⟨Lc8, hQ8, l8, y8, z8⟩, st8⟩ := X0.virtualBack hx (y := (⟨"com/example/breakline/breakline/ModifierTable", "raiseEntry", "(II)V"⟩ : MethodName)) (z := (⟨"com/example/breakline/breakline/ModifierTable", "raiseEntry", "(II)V"⟩ : MethodName)) hown (mvT hZ (tw hw 97 rfl)) (mvT hZ (tw hw 98 rfl)) (notFace_of_selects (args := #[]) (mvT hZ (tw hw 100 rfl))) (mvT hZ (tw hw 100 rfl)) (mvT hZ (tw hw 99 rfl)) (by decide) (backOf (W := 0) (rm16_A l Z a0 hw [] a1 p4 p5 rat cat nu ow nb wh siz sin arr kla cap can fco own nbn n4 n5 h0 n0 O0 E_a1 F_rowsAt_a1 F_columnsAt_a1 F_entriesAt_a1 F_numbers_a1 F_ownValues_a1 F_neighbourValues_a1 F_whole_a1 ge_a1 ge_nu E_nu F_size_nu F_numbers_nu F_listed_nu A_arr ge_arr h_s h_c h_sc h_c48 h_f0 h_ow h_nb h_4 h_5 h_l4 h_l5 h_o4 h_n4 h_31) hZ (tw hw 101 rfl) (tw hw 46 rfl) (by decide) (by decide)) q8a q8c (g := (mkF m 8 #[.val (.ref a1), .val (.int p2), .val (.int p3), .val (.int p4), .val (.int p5), .val (.int p6), .val (.int p7)] [(.int p5), (.int p4), (.ref a1)])) rfl (by rw [hml]; rfl) (Steps.refl _) (argsL := [(.int p4), (.int p5)]) (rest := []) (lenOf pd_6 rfl) rfl (by show 2 * 0 + _ ≤ _; exact Nat.le_of_eq rfl) (hb hby d13_8) (fun _ _ => ⟨rfl, e0, (by decide : 0 + 1 ≤ _), (by decide : 0 + 48 ≤ _)⟩)
    dsimp only [Pt.U, Pt.locs, Pt.cells, Pt.slots] at X8 l8 y8 z8 st8 hQ8
    subst l8 y8 z8
    obtain ⟨ro_8, ko_8, co_8, cn_8, rfl, N8q, K8q, O8, f8_0, f8_1, f8_2, f8_3, f8_4, f8_5, f8_6, f8_7, f8_8, f8_9, f8_10, f8_11, f8_12, f8_13, f8_14, f8_15⟩ := hQ8
    have N8 := Fr.app N0 N8q
    have K8 := K0.trans K8q (allS (Or.inl (List.mem_of_getElem? (i := 0) rfl)) (allS (Or.inl (List.mem_of_getElem? (i := 1) rfl)) (allS (Or.inl (List.mem_of_getElem? (i := 2) rfl)) all0)))
    have sg9 : ∀ target, Steps p.tables e below (T8.setTop (mkF m 12 #[.val (.ref a1), .val (.int p2), .val (.int p3), .val (.int p4), .val (.int p5), .val (.int p6), .val (.int p7)] [(.int p3)])) target → Steps p.tables e below (s₁.setTop (mkF m 1 #[.val (.ref a1), .val (.int p2), .val (.int p3), .val (.int p4), .val (.int p5), .val (.int p6), .val (.int p7)] [(.int p2)])) target := by
      intro target kt
      show Steps p.tables e below (s₁.setTop (mkF m 1 #[.val (.ref a1), .val (.int p2), .val (.int p3), .val (.int p4), .val (.int p5), .val (.int p6), .val (.int p7)] [(.int p2)])) _
      refine XS.ifNo X0.here hx rfl (hb hby d13_1) rfl ((if0 _ _).trans (feq hc2).1) ?_
      show Steps p.tables e below (s₁.setTop (mkF m 4 #[.val (.ref a1), .val (.int p2), .val (.int p3), .val (.int p4), .val (.int p5), .val (.int p6), .val (.int p7)] [])) _
      refine XS.aloadN X0.here hx rfl (hb hby d13_4) rfl rfl ?_
      show Steps p.tables e below (s₁.setTop (mkF m 5 #[.val (.ref a1), .val (.int p2), .val (.int p3), .val (.int p4), .val (.int p5), .val (.int p6), .val (.int p7)] [(.ref a1)])) _
      refine XS.iloadN X0.here hx rfl (hb hby d13_5) rfl ?_
      show Steps p.tables e below (s₁.setTop (mkF m 6 #[.val (.ref a1), .val (.int p2), .val (.int p3), .val (.int p4), .val (.int p5), .val (.int p6), .val (.int p7)] [(.int p4), (.ref a1)])) _
      refine XS.iload X0.here hx rfl (hb hby d13_6) rfl ?_
      show Steps p.tables e below (s₁.setTop (mkF m 8 #[.val (.ref a1), .val (.int p2), .val (.int p3), .val (.int p4), .val (.int p5), .val (.int p6), .val (.int p7)] [(.int p5), (.int p4), (.ref a1)])) _
      refine st8.trans ?_
      show Steps p.tables e below (T8.setTop (mkF m 11 #[.val (.ref a1), .val (.int p2), .val (.int p3), .val (.int p4), .val (.int p5), .val (.int p6), .val (.int p7)] [])) _
      refine XS.iloadN X8.here hx rfl (hb hby d13_11) rfl ?_
      exact kt
    by_cases hc10 : p3 = (0 : Int32)
    · have sg11 : ∀ target, Steps p.tables e below (T8.setTop (mkF m 23 #[.val (.ref a1), .val (.int p2), .val (.int p3), .val (.int p4), .val (.int p5), .val (.int p6), .val (.int p7)] [])) target → Steps p.tables e below (T8.setTop (mkF m 12 #[.val (.ref a1), .val (.int p2), .val (.int p3), .val (.int p4), .val (.int p5), .val (.int p6), .val (.int p7)] [(.int p3)])) target := by
        intro target kt
        show Steps p.tables e below (T8.setTop (mkF m 12 #[.val (.ref a1), .val (.int p2), .val (.int p3), .val (.int p4), .val (.int p5), .val (.int p6), .val (.int p7)] [(.int p3)])) _
        refine XS.ifYes X8.here hx rfl (pc0 := 12) (pc' := 23) rfl (hb hby d13_12) rfl ((if0 _ _).trans (teq hc10).1) (by decide) (by decide) ?_
        exact kt
      obtain ⟨fs, hr, hrun, hended, hW, hsame⟩ := X8.leave (v := none) (fun _ => rfl)
      refine ⟨_, _, pre0 _ (sg1 _ (sg9 _ (sg11 _ (?_)))), hrun, hended, _, _, rfl, ?_, ⟨_, rfl⟩, hW, hsame.mono (by decide) (by decide)⟩
      · show Steps p.tables e below (T8.setTop (mkF m 23 #[.val (.ref a1), .val (.int p2), .val (.int p3), .val (.int p4), .val (.int p5), .val (.int p6), .val (.int p7)] [])) _
        exact X8.returnOut hx Bd.returns (hb hby d13_23) hr
      · show Q13 Z a1 p2 p3 p4 p5 p6 p7 rat cat nu ow nb wh siz sin arr kla cap can fco own nbn n4 n5 n6 n7 h0 n0 _ T8.heap _
        exact ⟨siz, (siz + (ow * nb)), (sin + (own * nbn)), ro_8, ko_8, co_8, cn_8, (upd fco (sin + (n4 * nbn) + n5) ((fco (sin + (n4 * nbn) + n5)) + (1 : Int64))), rfl, N8, K8, O8, f8_0, f8_1, f8_2, f8_3, f8_4, f8_5, f8_6, f8_7, f8_8, f8_9, f8_10, f8_11, f8_12, f8_13, f8_14, f8_15, (Sm.add h_s (Sm.mul h_ow h_nb h_o4 h_n4) (by omega)), (own_f0up h_f0 (Nat.le_add_right _ _) (own_lin h_l4 h_l5)), (Or.inr ⟨fun q => hc2 q.1, rfl, rfl, _, (if_neg hc2).symm, (if_pos hc10).symm⟩)⟩
    · obtain ⟨cq12, kq12, q12a, q12b, q12c⟩ := isOf hZ rfl (E_a1.keep K8q)
      obtain ⟨_, _, ⟨T12, L12, k12, n12⟩, -, X12, ⟨Lc12, hQ12, l12, y12, z12⟩, st12⟩ := X8.virtualBack hx (y := (⟨"com/example/breakline/breakline/ModifierTable", "lowerEntry", "(II)V"⟩ : MethodName)) (z := (⟨"com/example/breakline/breakline/ModifierTable", "lowerEntry", "(II)V"⟩ : MethodName)) hown (mvT hZ (tw hw 106 rfl)) (mvT hZ (tw hw 107 rfl)) (notFace_of_selects (args := #[]) (mvT hZ (tw hw 109 rfl))) (mvT hZ (tw hw 109 rfl)) (mvT hZ (tw hw 108 rfl)) (by decide) (backOf (W := 0) (rm18_B l Z a0 hw [] a1 p6 p7 rat cat siz nu ow nb wh (siz + (ow * nb)) (sin + (own * nbn)) ro_8 ko_8 co_8 cn_8 (upd fco (sin + (n4 * nbn) + n5) ((fco (sin + (n4 * nbn) + n5)) + (1 : Int64))) own nbn n6 n7 sin T8.heap n0 O8 (E_a1.keep K8q) f8_9 f8_10 f8_11 f8_12 f8_13 f8_14 f8_15 (E_nu.keep K8q) f8_0 f8_1 f8_2 f8_3 f8_4 (Sm.add h_s (Sm.mul h_ow h_nb h_o4 h_n4) (by omega)) f8_6 f8_7 f8_8 (own_f0up h_f0 (Nat.le_add_right _ _) (own_lin h_l4 h_l5)) h_ow h_nb h_6 h_7 h_l6 h_l7 h_o4 h_n4 h_s f8_7 (own_bupd h_f0 (own_ge _ _ _) (own_ge _ _ _))) hZ (tw hw 110 rfl) (tw hw 46 rfl) (by decide) (by decide)) q12a q12c (g := (mkF m 20 #[.val (.ref a1), .val (.int p2), .val (.int p3), .val (.int p4), .val (.int p5), .val (.int p6), .val (.int p7)] [(.int p7), (.int p6), (.ref a1)])) rfl (by rw [hml]; rfl) (Steps.refl _) (argsL := [(.int p6), (.int p7)]) (rest := []) (lenOf pd_6 rfl) rfl (by show 2 * 0 + _ ≤ _; exact Nat.le_of_eq rfl) (hb hby d13_20) (fun _ _ => ⟨rfl, rfl, (by decide : 1 + 0 ≤ _), (by decide : 48 + 0 ≤ _)⟩)
      dsimp only [Pt.U, Pt.locs, Pt.cells, Pt.slots] at X12 l12 y12 z12 st12 hQ12
      subst l12 y12 z12
      obtain ⟨rfl, N12q, K12q, O12, f12_0⟩ := hQ12
      have N12 := Fr.app N8 N12q
      have K12 := K8.trans K12q (allS (f8_5.elim (fun q => Or.inl (by rw [List.mem_singleton.mp q]; exact List.mem_of_getElem? (i := 2) rfl)) Or.inr) all0)
      have sg13 : ∀ target, Steps p.tables e below (T12.setTop (mkF m 23 #[.val (.ref a1), .val (.int p2), .val (.int p3), .val (.int p4), .val (.int p5), .val (.int p6), .val (.int p7)] [])) target → Steps p.tables e below (T8.setTop (mkF m 12 #[.val (.ref a1), .val (.int p2), .val (.int p3), .val (.int p4), .val (.int p5), .val (.int p6), .val (.int p7)] [(.int p3)])) target := by
        intro target kt
        show Steps p.tables e below (T8.setTop (mkF m 12 #[.val (.ref a1), .val (.int p2), .val (.int p3), .val (.int p4), .val (.int p5), .val (.int p6), .val (.int p7)] [(.int p3)])) _
        refine XS.ifNo X8.here hx rfl (hb hby d13_12) rfl ((if0 _ _).trans (feq hc10).1) ?_
        show Steps p.tables e below (T8.setTop (mkF m 15 #[.val (.ref a1), .val (.int p2), .val (.int p3), .val (.int p4), .val (.int p5), .val (.int p6), .val (.int p7)] [])) _
        refine XS.aloadN X8.here hx rfl (hb hby d13_15) rfl rfl ?_
        show Steps p.tables e below (T8.setTop (mkF m 16 #[.val (.ref a1), .val (.int p2), .val (.int p3), .val (.int p4), .val (.int p5), .val (.int p6), .val (.int p7)] [(.ref a1)])) _
        refine XS.iload X8.here hx rfl (hb hby d13_16) rfl ?_
        show Steps p.tables e below (T8.setTop (mkF m 18 #[.val (.ref a1), .val (.int p2), .val (.int p3), .val (.int p4), .val (.int p5), .val (.int p6), .val (.int p7)] [(.int p6), (.ref a1)])) _
        refine XS.iload X8.here hx rfl (hb hby d13_18) rfl ?_
        show Steps p.tables e below (T8.setTop (mkF m 20 #[.val (.ref a1), .val (.int p2), .val (.int p3), .val (.int p4), .val (.int p5), .val (.int p6), .val (.int p7)] [(.int p7), (.int p6), (.ref a1)])) _
        refine st12.trans ?_
        exact kt
      obtain ⟨fs, hr, hrun, hended, hW, hsame⟩ := X12.leave (v := none) (fun _ => rfl)
      refine ⟨_, _, pre0 _ (sg1 _ (sg9 _ (sg13 _ (?_)))), hrun, hended, _, _, rfl, ?_, ⟨_, rfl⟩, hW, hsame.mono (by decide) (by decide)⟩
      · show Steps p.tables e below (T12.setTop (mkF m 23 #[.val (.ref a1), .val (.int p2), .val (.int p3), .val (.int p4), .val (.int p5), .val (.int p6), .val (.int p7)] [])) _
        exact X12.returnOut hx Bd.returns (hb hby d13_23) hr
      · show Q13 Z a1 p2 p3 p4 p5 p6 p7 rat cat nu ow nb wh siz sin arr kla cap can fco own nbn n4 n5 n6 n7 h0 n0 _ T12.heap _
        exact ⟨siz, (siz + (ow * nb)), (sin + (own * nbn)), ro_8, ko_8, co_8, cn_8, (upd (upd fco (sin + (n4 * nbn) + n5) ((fco (sin + (n4 * nbn) + n5)) + (1 : Int64))) (sin + (n6 * nbn) + n7) (((upd fco (sin + (n4 * nbn) + n5) ((fco (sin + (n4 * nbn) + n5)) + (1 : Int64))) (sin + (n6 * nbn) + n7)) + (-1 : Int64))), rfl, N12, K12, O12, (f8_0.keep K12q (ninS (Exa.neArv ((E_nu.keep K8q).keep K12q) f12_0 (tw hw 2 rfl)) nin0)), (f8_1.keep K12q (ninS (Exa.neArv ((E_nu.keep K8q).keep K12q) f12_0 (tw hw 2 rfl)) nin0)), (f8_2.keep K12q (ninS (Exa.neArv ((E_nu.keep K8q).keep K12q) f12_0 (tw hw 2 rfl)) nin0)), f12_0, f8_4, f8_5, f8_6, f8_7, f8_8, (f8_9.keep K12q (ninS (Exa.neArv ((E_a1.keep K8q).keep K12q) f12_0 (tw hw 45 rfl)) nin0)), (f8_10.keep K12q (ninS (Exa.neArv ((E_a1.keep K8q).keep K12q) f12_0 (tw hw 45 rfl)) nin0)), (f8_11.keep K12q (ninS (Exa.neArv ((E_a1.keep K8q).keep K12q) f12_0 (tw hw 45 rfl)) nin0)), (f8_12.keep K12q (ninS (Exa.neArv ((E_a1.keep K8q).keep K12q) f12_0 (tw hw 45 rfl)) nin0)), (f8_13.keep K12q (ninS (Exa.neArv ((E_a1.keep K8q).keep K12q) f12_0 (tw hw 45 rfl)) nin0)), (f8_14.keep K12q (ninS (Exa.neArv ((E_a1.keep K8q).keep K12q) f12_0 (tw hw 45 rfl)) nin0)), (f8_15.keep K12q (ninS (Exa.neArv ((E_a1.keep K8q).keep K12q) f12_0 (tw hw 45 rfl)) nin0)), (Sm.add h_s (Sm.mul h_ow h_nb h_o4 h_n4) (by omega)), (own_f0up (own_f0up h_f0 (Nat.le_add_right _ _) (own_lin h_l4 h_l5)) (Nat.le_refl _) (own_lin h_l6 h_l7)), (Or.inr ⟨fun q => hc2 q.1, rfl, rfl, _, (if_neg hc2).symm, (if_neg hc10).symm⟩)⟩
def Q14 (Z : State) (a1 : Addr) (p2 : Int32) (p3 : Int32) (rat : Int32) (cat : Int32) (eat : Int32) (nu : Addr) (ow : Int32) (nb : Int32) (wh : Int64) (arr : Addr) (kla : ClassId) (cap : Int32) (can : Nat) (fco : Nat → Int64) (own : Nat) (nbn : Nat) (pn : Nat) (rn : Nat) (rk : Nat) (ck : Nat) (ek : Nat) (h0 : Heap) (n0 : Nat) (v : Option Value) (h : Heap) (L : List Loc) : Prop := v = some (.double (FP.l2d (ad eat (ad cat (ad rat wh (fco (rk + pn))) (fco (ck + rn))) (fco (ek + (pn * nbn) + rn))))) ∧ Fr n0 L ∧ h = h0
theorem ef_14 (m : MethodId) (x0 : Addr) (x1 : Int32) (x2 : Int32) : entryFrame m #[(.ref x0), (.int x1), (.int x2)] 5 = mkF m 0 #[.val (.ref x0), .val (.int x1), .val (.int x2), .unset, .unset] [] := by first | (simp [entryFrame, mkF, argsToLocals, Value.category]; done) | rfl
set_option maxRecDepth 65536 in
set_option maxHeartbeats 40000000 in
theorem rm14 (l : Launch) (Z : State) (a0 : Array Value) (hw : ∀ d ∈ tables_1, d.before a0 Z = true) (ws : List Jvm.Cond) (a1 : Addr) (p2 : Int32) (p3 : Int32) (rat : Int32) (cat : Int32) (eat : Int32) (nu : Addr) (ow : Int32) (nb : Int32) (wh : Int64) (arr : Addr) (kla : ClassId) (cap : Int32) (can : Nat) (fco : Nat → Int64) (own : Nat) (nbn : Nat) (pn : Nat) (rn : Nat) (rk : Nat) (ck : Nat) (ek : Nat) (h0 : Heap) (n0 : Nat) (O0 : Old Z n0 h0) (E_a1 : Exa Z h0 a1 "com/example/breakline/breakline/ModifierTable") (F_rowsAt_a1 : Fld Z h0 a1 "com/example/breakline/breakline/ModifierTable" "rowsAt" "I" (.int rat)) (F_columnsAt_a1 : Fld Z h0 a1 "com/example/breakline/breakline/ModifierTable" "columnsAt" "I" (.int cat)) (F_entriesAt_a1 : Fld Z h0 a1 "com/example/breakline/breakline/ModifierTable" "entriesAt" "I" (.int eat)) (F_numbers_a1 : Fld Z h0 a1 "com/example/breakline/breakline/ModifierTable" "numbers" "Lcom/example/breakline/breakline/ModifierNumbers;" (.ref nu)) (F_ownValues_a1 : Fld Z h0 a1 "com/example/breakline/breakline/ModifierTable" "ownValues" "I" (.int ow)) (F_neighbourValues_a1 : Fld Z h0 a1 "com/example/breakline/breakline/ModifierTable" "neighbourValues" "I" (.int nb)) (F_whole_a1 : Fld Z h0 a1 "com/example/breakline/breakline/ModifierTable" "whole" "D" (.double (FP.l2d wh))) (E_nu : Exa Z h0 nu "com/example/breakline/breakline/ModifierNumbers") (F_numbers_nu : Fld Z h0 nu "com/example/breakline/breakline/ModifierNumbers" "numbers" "[D" (.ref arr)) (A_arr : Arv Z h0 arr kla .double cap (dvs fco) (.double (FP.l2d 0))) (h_c : Sm cap can) (h_c48 : can ≤ 48) (h_nb : Sm nb nbn) (h_p : Sm p2 pn) (h_r : Sm p3 rn) (h_lt : pn < own) (h_lr : rn < nbn) (h_o4 : own ≤ 4) (h_n4 : nbn ≤ 4) (h_1 : ¬ rat = (-1 : Int32) → Sm rat rk ∧ rk + own ≤ can) (h_2 : ¬ cat = (-1 : Int32) → Sm cat ck ∧ ck + nbn ≤ can) (h_3 : ¬ eat = (-1 : Int32) → Sm eat ek ∧ ek + (own * nbn) ≤ can) (h_w : Bn 4 wh) (h_fb : ∀ j, Bn 4 (fco j)) :
    MetFree l (⟨"com/example/breakline/breakline/ModifierTable", "get", "(II)D"⟩ : MethodName) (head1 (Jvm.Cond.code (⟨"com/example/breakline/breakline/ModifierTable", "get", "(II)D"⟩ : MethodName) prog_50_method_3_code 5 (some .double) :: ws) ({ frames := 1, cells := 0, slots := 0, locals := 15 } : Room)) (fun a U => a = #[(.ref a1), (.int p2), (.int p3)] ∧ Z.Warmed39 U.vm ∧ U.heap = h0) (fun _ _ _ _ _ => True) (fun _ U o U' => ∃ v L, o = .returned v ∧ Q14 Z a1 p2 p3 rat cat eat nu ow nb wh arr kla cap can fco own nbn pn rn rk ck ek h0 n0 v U'.heap L ∧ FrameEnd U o U' L ({ frames := 1, cells := 0, slots := 0, locals := 15 } : Room).cells ({ frames := 1, cells := 0, slots := 0, locals := 15 } : Room).slots) := by
  refine MetFree.of_bodySF (plainFor_of_name pn_2) hisR ?_
  intro p e s m args below meth c s₁ Bd hml0 hP hK
  obtain ⟨rfl, hZ, hh⟩ := hP
  have hx := Bd.exec
  have hby := Bd.bytes
  have hml : c.maxLocals = 5 := hml0
  have hown : s.vm.findClass "com/example/breakline/breakline/ModifierTable" = some m.cls := findClass_of_methodNamed Bd.named
  have hnm := (name_of_methodNamed Bd.named Bd.method).1
  have X0 : Stand p l e ({ frames := 1, cells := 0, slots := 0, locals := 15 } : Room) s m #[(.ref a1), (.int p2), (.int p3)] below meth c s₁ [] 0 0 := Stand.of_body Bd
  have e0 : s₁.heap = h0 := by rw [← hh, Bd.state]; rfl
  have N0 := Fr.nil n0
  have pre0 : ∀ t, Steps p.tables e below (s₁.setTop (mkF m 0 #[.val (.ref a1), .val (.int p2), .val (.int p3), .unset, .unset] [])) t → Steps p.tables e below (s₁.setTop (entryFrame m #[(.ref a1), (.int p2), (.int p3)] 5)) t := fun t k => castTop (ef_14 m a1 p2 p3) k
  obtain ⟨T1, X1, e1, st1⟩ := getF X0 hx hZ hown (host := "") (Or.inl (tw hw 68 rfl)) Via.refl e0 F_whole_a1 (g := (mkF m 1 #[.val (.ref a1), .val (.int p2), .val (.int p3), .unset, .unset] [(.ref a1)])) rfl rfl (hb hby d14_1)
  have sg2 : ∀ target, Steps p.tables e below (T1.setTop (mkF m 5 #[.val (.ref a1), .val (.int p2), .val (.int p3), .val (.double (FP.l2d wh)), .second] [])) target → Steps p.tables e below (s₁.setTop (mkF m 0 #[.val (.ref a1), .val (.int p2), .val (.int p3), .unset, .unset] [])) target := by
    intro target kt
    show Steps p.tables e below (s₁.setTop (mkF m 0 #[.val (.ref a1), .val (.int p2), .val (.int p3), .unset, .unset] [])) _
    refine XS.aloadN X0.here hx rfl (hb hby d14_0) rfl rfl ?_
    show Steps p.tables e below (s₁.setTop (mkF m 1 #[.val (.ref a1), .val (.int p2), .val (.int p3), .unset, .unset] [(.ref a1)])) _
    refine st1 _ ?_
    show Steps p.tables e below (T1.setTop (mkF m 4 #[.val (.ref a1), .val (.int p2), .val (.int p3), .unset, .unset] [(.double (FP.l2d wh))])) _
    refine XS.dstoreN X1.here hx rfl (hb hby d14_4) rfl (l' := #[.val (.ref a1), .val (.int p2), .val (.int p3), .val (.double (FP.l2d wh)), .second]) rfl ?_
    exact kt
  obtain ⟨T11, L11, v11_l3, X11, e11, N11, hv11_l3, sg11⟩ : ∃ (T' : State) (L' : List Loc) (v11_l3 : UInt64), Stand p l e ({ frames := 1, cells := 0, slots := 0, locals := 15 } : Room) s m #[(.ref a1), (.int p2), (.int p3)] below meth c T' L' 0 0 ∧ T'.heap = h0 ∧ Fr n0 L' ∧ v11_l3 = (if rat = (-1 : Int32) then (FP.l2d wh) else (FP.l2d (wh + (fco (rk + pn))))) ∧ ∀ target, Steps p.tables e below (T'.setTop (mkF m 29 #[.val (.ref a1), .val (.int p2), .val (.int p3), .val (.double v11_l3), .second] [])) target → Steps p.tables e below (T1.setTop (mkF m 5 #[.val (.ref a1), .val (.int p2), .val (.int p3), .val (.double (FP.l2d wh)), .second] [])) target := by
    obtain ⟨T3, X3, e3, st3⟩ := getF X1 hx hZ hown (host := "") (Or.inl (tw hw 51 rfl)) Via.refl e1 F_rowsAt_a1 (g := (mkF m 6 #[.val (.ref a1), .val (.int p2), .val (.int p3), .val (.double (FP.l2d wh)), .second] [(.ref a1)])) rfl rfl (hb hby d14_6)
    have sg4 : ∀ target, Steps p.tables e below (T3.setTop (mkF m 10 #[.val (.ref a1), .val (.int p2), .val (.int p3), .val (.double (FP.l2d wh)), .second] [(.int (-1 : Int32)), (.int rat)])) target → Steps p.tables e below (T1.setTop (mkF m 5 #[.val (.ref a1), .val (.int p2), .val (.int p3), .val (.double (FP.l2d wh)), .second] [])) target := by
      intro target kt
      show Steps p.tables e below (T1.setTop (mkF m 5 #[.val (.ref a1), .val (.int p2), .val (.int p3), .val (.double (FP.l2d wh)), .second] [])) _
      refine XS.aloadN X1.here hx rfl (hb hby d14_5) rfl rfl ?_
      show Steps p.tables e below (T1.setTop (mkF m 6 #[.val (.ref a1), .val (.int p2), .val (.int p3), .val (.double (FP.l2d wh)), .second] [(.ref a1)])) _
      refine st3 _ ?_
      show Steps p.tables e below (T3.setTop (mkF m 9 #[.val (.ref a1), .val (.int p2), .val (.int p3), .val (.double (FP.l2d wh)), .second] [(.int rat)])) _
      refine XS.iconst X3.here hx rfl (hb hby d14_9) ?_
      exact kt
    by_cases hc5 : rat = (-1 : Int32)
    · have sg6 : ∀ target, Steps p.tables e below (T3.setTop (mkF m 29 #[.val (.ref a1), .val (.int p2), .val (.int p3), .val (.double (FP.l2d wh)), .second] [])) target → Steps p.tables e below (T3.setTop (mkF m 10 #[.val (.ref a1), .val (.int p2), .val (.int p3), .val (.double (FP.l2d wh)), .second] [(.int (-1 : Int32)), (.int rat)])) target := by
        intro target kt
        show Steps p.tables e below (T3.setTop (mkF m 10 #[.val (.ref a1), .val (.int p2), .val (.int p3), .val (.double (FP.l2d wh)), .second] [(.int (-1 : Int32)), (.int rat)])) _
        refine XS.icmpYes X3.here hx rfl (pc0 := 10) (pc' := 29) rfl (hb hby d14_10) rfl (teq hc5).1 (by decide) (by decide) ?_
        exact kt
      exact ⟨T3, _, (FP.l2d wh), X3.mono (by decide) (by decide), e3, N0, (by rw [if_pos hc5]), fun target kt => sg4 _ (sg6 _ (kt))⟩
    · obtain ⟨T7, X7, e7, st7⟩ := getF X3 hx hZ hown (host := "") (Or.inl (tw hw 57 rfl)) Via.refl e3 F_numbers_a1 (g := (mkF m 15 #[.val (.ref a1), .val (.int p2), .val (.int p3), .val (.double (FP.l2d wh)), .second] [(.ref a1), (.double (FP.l2d wh))])) rfl rfl (hb hby d14_15)
      obtain ⟨T8, X8, e8, st8⟩ := getF X7 hx hZ hown (host := "") (Or.inl (tw hw 51 rfl)) Via.refl e7 F_rowsAt_a1 (g := (mkF m 19 #[.val (.ref a1), .val (.int p2), .val (.int p3), .val (.double (FP.l2d wh)), .second] [(.ref a1), (.ref nu), (.double (FP.l2d wh))])) rfl rfl (hb hby d14_19)
      obtain ⟨cq9, kq9, q9a, q9b, q9c⟩ := isOf hZ e8 E_nu
      obtain ⟨_, _, ⟨T9, L9, k9, n9⟩, -, X9, ⟨Lc9, hQ9, l9, y9, z9⟩, st9⟩ := X8.virtualBack hx (y := (⟨"com/example/breakline/breakline/ModifierNumbers", "get", "(I)D"⟩ : MethodName)) (z := (⟨"com/example/breakline/breakline/ModifierNumbers", "get", "(I)D"⟩ : MethodName)) hown (mvT hZ (tw hw 92 rfl)) (mvT hZ (tw hw 93 rfl)) (notFace_of_selects (args := #[]) (mvT hZ (tw hw 95 rfl))) (mvT hZ (tw hw 95 rfl)) (mvT hZ (tw hw 94 rfl)) (by decide) (backOf (W := 2) (rm15 l Z a0 hw [] nu (rat + p2) arr kla cap can fco (rk + pn) h0 n0 O0 F_numbers_nu A_arr h_c h_c48 (own_sa (h_1 hc5) h_p h_lt h_o4 h_c48) (Nat.lt_of_lt_of_le (Nat.add_lt_add_left h_lt _) (h_1 hc5).2)) hZ (tw hw 96 rfl) (tw hw 3 rfl) (by decide) (by decide)) q9a q9c (g := (mkF m 24 #[.val (.ref a1), .val (.int p2), .val (.int p3), .val (.double (FP.l2d wh)), .second] [(.int (rat + p2)), (.ref nu), (.double (FP.l2d wh))])) rfl (by rw [hml]; rfl) (Steps.refl _) (argsL := [(.int (rat + p2))]) (rest := [(.double (FP.l2d wh))]) (lenOf pd_7 rfl) rfl (by show 2 * 0 + _ ≤ _; exact Nat.le_of_eq rfl) (hb hby d14_24) (fun _ _ => ⟨rfl, e8, (by decide : 0 + 0 ≤ _), (by decide : 0 + 0 ≤ _)⟩)
      dsimp only [Pt.U, Pt.locs, Pt.cells, Pt.slots] at X9 l9 y9 z9 st9 hQ9
      subst l9 y9 z9
      obtain ⟨rfl, N9q, e9⟩ := hQ9
      have N9 := Fr.app N0 N9q
      have sg10 : ∀ target, Steps p.tables e below (T9.setTop (mkF m 29 #[.val (.ref a1), .val (.int p2), .val (.int p3), .val (.double (FP.l2d (wh + (fco (rk + pn))))), .second] [])) target → Steps p.tables e below (T3.setTop (mkF m 10 #[.val (.ref a1), .val (.int p2), .val (.int p3), .val (.double (FP.l2d wh)), .second] [(.int (-1 : Int32)), (.int rat)])) target := by
        intro target kt
        show Steps p.tables e below (T3.setTop (mkF m 10 #[.val (.ref a1), .val (.int p2), .val (.int p3), .val (.double (FP.l2d wh)), .second] [(.int (-1 : Int32)), (.int rat)])) _
        refine XS.icmpNo X3.here hx rfl (hb hby d14_10) rfl (feq hc5).1 ?_
        show Steps p.tables e below (T3.setTop (mkF m 13 #[.val (.ref a1), .val (.int p2), .val (.int p3), .val (.double (FP.l2d wh)), .second] [])) _
        refine XS.dloadN X3.here hx rfl (hb hby d14_13) rfl ?_
        show Steps p.tables e below (T3.setTop (mkF m 14 #[.val (.ref a1), .val (.int p2), .val (.int p3), .val (.double (FP.l2d wh)), .second] [(.double (FP.l2d wh))])) _
        refine XS.aloadN X3.here hx rfl (hb hby d14_14) rfl rfl ?_
        show Steps p.tables e below (T3.setTop (mkF m 15 #[.val (.ref a1), .val (.int p2), .val (.int p3), .val (.double (FP.l2d wh)), .second] [(.ref a1), (.double (FP.l2d wh))])) _
        refine st7 _ ?_
        show Steps p.tables e below (T7.setTop (mkF m 18 #[.val (.ref a1), .val (.int p2), .val (.int p3), .val (.double (FP.l2d wh)), .second] [(.ref nu), (.double (FP.l2d wh))])) _
        refine XS.aloadN X7.here hx rfl (hb hby d14_18) rfl rfl ?_
        show Steps p.tables e below (T7.setTop (mkF m 19 #[.val (.ref a1), .val (.int p2), .val (.int p3), .val (.double (FP.l2d wh)), .second] [(.ref a1), (.ref nu), (.double (FP.l2d wh))])) _
        refine st8 _ ?_
        show Steps p.tables e below (T8.setTop (mkF m 22 #[.val (.ref a1), .val (.int p2), .val (.int p3), .val (.double (FP.l2d wh)), .second] [(.int rat), (.ref nu), (.double (FP.l2d wh))])) _
        refine XS.iloadN X8.here hx rfl (hb hby d14_22) rfl ?_
        show Steps p.tables e below (T8.setTop (mkF m 23 #[.val (.ref a1), .val (.int p2), .val (.int p3), .val (.double (FP.l2d wh)), .second] [(.int p2), (.int rat), (.ref nu), (.double (FP.l2d wh))])) _
        refine XS.iadd X8.here hx rfl (hb hby d14_23) rfl ?_
        show Steps p.tables e below (T8.setTop (mkF m 24 #[.val (.ref a1), .val (.int p2), .val (.int p3), .val (.double (FP.l2d wh)), .second] [(.int (rat + p2)), (.ref nu), (.double (FP.l2d wh))])) _
        refine st9.trans ?_
        show Steps p.tables e below (T9.setTop (mkF m 27 #[.val (.ref a1), .val (.int p2), .val (.int p3), .val (.double (FP.l2d wh)), .second] [(.double (FP.l2d (fco (rk + pn)))), (.double (FP.l2d wh))])) _
        refine XS.daddS X9.here hx rfl (hb hby d14_27) rfl (nn_w (dadd_w h_w.b53 (h_fb _).b53)) (dadd_w h_w.b53 (h_fb _).b53) ?_
        show Steps p.tables e below (T9.setTop (mkF m 28 #[.val (.ref a1), .val (.int p2), .val (.int p3), .val (.double (FP.l2d wh)), .second] [(.double (FP.l2d (wh + (fco (rk + pn)))))])) _
        refine XS.dstoreN X9.here hx rfl (hb hby d14_28) rfl (l' := #[.val (.ref a1), .val (.int p2), .val (.int p3), .val (.double (FP.l2d (wh + (fco (rk + pn))))), .second]) rfl ?_
        exact kt
      exact ⟨T9, _, (FP.l2d (wh + (fco (rk + pn)))), X9.mono (by decide) (by decide), e9, N9, (by rw [if_neg hc5]), fun target kt => sg4 _ (sg10 _ (kt))⟩
  obtain ⟨u11, hu11⟩ : ∃ u, u = ad rat wh (fco (rk + pn)) := ⟨_, rfl⟩
  have hz11 : v11_l3 = FP.l2d u11 := by rw [hv11_l3, hu11, ad]; split <;> rfl
  have hB11 : Bn 8 u11 := by rw [hu11]; exact own_bad h_w (h_fb _)
  clear hv11_l3
  subst hz11
  obtain ⟨T20, L20, v20_l3, X20, e20, N20, hv20_l3, sg20⟩ : ∃ (T' : State) (L' : List Loc) (v20_l3 : UInt64), Stand p l e ({ frames := 1, cells := 0, slots := 0, locals := 15 } : Room) s m #[(.ref a1), (.int p2), (.int p3)] below meth c T' L' 0 0 ∧ T'.heap = h0 ∧ Fr n0 L' ∧ v20_l3 = (if cat = (-1 : Int32) then (FP.l2d u11) else (FP.l2d (u11 + (fco (ck + rn))))) ∧ ∀ target, Steps p.tables e below (T'.setTop (mkF m 53 #[.val (.ref a1), .val (.int p2), .val (.int p3), .val (.double v20_l3), .second] [])) target → Steps p.tables e below (T11.setTop (mkF m 29 #[.val (.ref a1), .val (.int p2), .val (.int p3), .val (.double (FP.l2d u11)), .second] [])) target := by
    obtain ⟨T12, X12, e12, st12⟩ := getF X11 hx hZ hown (host := "") (Or.inl (tw hw 53 rfl)) Via.refl e11 F_columnsAt_a1 (g := (mkF m 30 #[.val (.ref a1), .val (.int p2), .val (.int p3), .val (.double (FP.l2d u11)), .second] [(.ref a1)])) rfl rfl (hb hby d14_30)
    have sg13 : ∀ target, Steps p.tables e below (T12.setTop (mkF m 34 #[.val (.ref a1), .val (.int p2), .val (.int p3), .val (.double (FP.l2d u11)), .second] [(.int (-1 : Int32)), (.int cat)])) target → Steps p.tables e below (T11.setTop (mkF m 29 #[.val (.ref a1), .val (.int p2), .val (.int p3), .val (.double (FP.l2d u11)), .second] [])) target := by
      intro target kt
      show Steps p.tables e below (T11.setTop (mkF m 29 #[.val (.ref a1), .val (.int p2), .val (.int p3), .val (.double (FP.l2d u11)), .second] [])) _
      refine XS.aloadN X11.here hx rfl (hb hby d14_29) rfl rfl ?_
      show Steps p.tables e below (T11.setTop (mkF m 30 #[.val (.ref a1), .val (.int p2), .val (.int p3), .val (.double (FP.l2d u11)), .second] [(.ref a1)])) _
      refine st12 _ ?_
      show Steps p.tables e below (T12.setTop (mkF m 33 #[.val (.ref a1), .val (.int p2), .val (.int p3), .val (.double (FP.l2d u11)), .second] [(.int cat)])) _
      refine XS.iconst X12.here hx rfl (hb hby d14_33) ?_
      exact kt
    by_cases hc14 : cat = (-1 : Int32)
    · have sg15 : ∀ target, Steps p.tables e below (T12.setTop (mkF m 53 #[.val (.ref a1), .val (.int p2), .val (.int p3), .val (.double (FP.l2d u11)), .second] [])) target → Steps p.tables e below (T12.setTop (mkF m 34 #[.val (.ref a1), .val (.int p2), .val (.int p3), .val (.double (FP.l2d u11)), .second] [(.int (-1 : Int32)), (.int cat)])) target := by
        intro target kt
        show Steps p.tables e below (T12.setTop (mkF m 34 #[.val (.ref a1), .val (.int p2), .val (.int p3), .val (.double (FP.l2d u11)), .second] [(.int (-1 : Int32)), (.int cat)])) _
        refine XS.icmpYes X12.here hx rfl (pc0 := 34) (pc' := 53) rfl (hb hby d14_34) rfl (teq hc14).1 (by decide) (by decide) ?_
        exact kt
      exact ⟨T12, _, (FP.l2d u11), X12.mono (by decide) (by decide), e12, N11, (by rw [if_pos hc14]), fun target kt => sg13 _ (sg15 _ (kt))⟩
    · obtain ⟨T16, X16, e16, st16⟩ := getF X12 hx hZ hown (host := "") (Or.inl (tw hw 57 rfl)) Via.refl e12 F_numbers_a1 (g := (mkF m 39 #[.val (.ref a1), .val (.int p2), .val (.int p3), .val (.double (FP.l2d u11)), .second] [(.ref a1), (.double (FP.l2d u11))])) rfl rfl (hb hby d14_39)
      obtain ⟨T17, X17, e17, st17⟩ := getF X16 hx hZ hown (host := "") (Or.inl (tw hw 53 rfl)) Via.refl e16 F_columnsAt_a1 (g := (mkF m 43 #[.val (.ref a1), .val (.int p2), .val (.int p3), .val (.double (FP.l2d u11)), .second] [(.ref a1), (.ref nu), (.double (FP.l2d u11))])) rfl rfl (hb hby d14_43)
      obtain ⟨cq18, kq18, q18a, q18b, q18c⟩ := isOf hZ e17 E_nu
      obtain ⟨_, _, ⟨T18, L18, k18, n18⟩, -, X18, ⟨Lc18, hQ18, l18, y18, z18⟩, st18⟩ := X17.virtualBack hx (y := (⟨"com/example/breakline/breakline/ModifierNumbers", "get", "(I)D"⟩ : MethodName)) (z := (⟨"com/example/breakline/breakline/ModifierNumbers", "get", "(I)D"⟩ : MethodName)) hown (mvT hZ (tw hw 92 rfl)) (mvT hZ (tw hw 93 rfl)) (notFace_of_selects (args := #[]) (mvT hZ (tw hw 95 rfl))) (mvT hZ (tw hw 95 rfl)) (mvT hZ (tw hw 94 rfl)) (by decide) (backOf (W := 2) (rm15 l Z a0 hw [] nu (cat + p3) arr kla cap can fco (ck + rn) h0 n0 O0 F_numbers_nu A_arr h_c h_c48 (own_sa (h_2 hc14) h_r h_lr h_n4 h_c48) (Nat.lt_of_lt_of_le (Nat.add_lt_add_left h_lr _) (h_2 hc14).2)) hZ (tw hw 96 rfl) (tw hw 3 rfl) (by decide) (by decide)) q18a q18c (g := (mkF m 48 #[.val (.ref a1), .val (.int p2), .val (.int p3), .val (.double (FP.l2d u11)), .second] [(.int (cat + p3)), (.ref nu), (.double (FP.l2d u11))])) rfl (by rw [hml]; rfl) (Steps.refl _) (argsL := [(.int (cat + p3))]) (rest := [(.double (FP.l2d u11))]) (lenOf pd_7 rfl) rfl (by show 2 * 0 + _ ≤ _; exact Nat.le_of_eq rfl) (hb hby d14_48) (fun _ _ => ⟨rfl, e17, (by decide : 0 + 0 ≤ _), (by decide : 0 + 0 ≤ _)⟩)
      dsimp only [Pt.U, Pt.locs, Pt.cells, Pt.slots] at X18 l18 y18 z18 st18 hQ18
      subst l18 y18 z18
      obtain ⟨rfl, N18q, e18⟩ := hQ18
      have N18 := Fr.app N11 N18q
      have sg19 : ∀ target, Steps p.tables e below (T18.setTop (mkF m 53 #[.val (.ref a1), .val (.int p2), .val (.int p3), .val (.double (FP.l2d (u11 + (fco (ck + rn))))), .second] [])) target → Steps p.tables e below (T12.setTop (mkF m 34 #[.val (.ref a1), .val (.int p2), .val (.int p3), .val (.double (FP.l2d u11)), .second] [(.int (-1 : Int32)), (.int cat)])) target := by
        intro target kt
        show Steps p.tables e below (T12.setTop (mkF m 34 #[.val (.ref a1), .val (.int p2), .val (.int p3), .val (.double (FP.l2d u11)), .second] [(.int (-1 : Int32)), (.int cat)])) _
        refine XS.icmpNo X12.here hx rfl (hb hby d14_34) rfl (feq hc14).1 ?_
        show Steps p.tables e below (T12.setTop (mkF m 37 #[.val (.ref a1), .val (.int p2), .val (.int p3), .val (.double (FP.l2d u11)), .second] [])) _
        refine XS.dloadN X12.here hx rfl (hb hby d14_37) rfl ?_
        show Steps p.tables e below (T12.setTop (mkF m 38 #[.val (.ref a1), .val (.int p2), .val (.int p3), .val (.double (FP.l2d u11)), .second] [(.double (FP.l2d u11))])) _
        refine XS.aloadN X12.here hx rfl (hb hby d14_38) rfl rfl ?_
        show Steps p.tables e below (T12.setTop (mkF m 39 #[.val (.ref a1), .val (.int p2), .val (.int p3), .val (.double (FP.l2d u11)), .second] [(.ref a1), (.double (FP.l2d u11))])) _
        refine st16 _ ?_
        show Steps p.tables e below (T16.setTop (mkF m 42 #[.val (.ref a1), .val (.int p2), .val (.int p3), .val (.double (FP.l2d u11)), .second] [(.ref nu), (.double (FP.l2d u11))])) _
        refine XS.aloadN X16.here hx rfl (hb hby d14_42) rfl rfl ?_
        show Steps p.tables e below (T16.setTop (mkF m 43 #[.val (.ref a1), .val (.int p2), .val (.int p3), .val (.double (FP.l2d u11)), .second] [(.ref a1), (.ref nu), (.double (FP.l2d u11))])) _
        refine st17 _ ?_
        show Steps p.tables e below (T17.setTop (mkF m 46 #[.val (.ref a1), .val (.int p2), .val (.int p3), .val (.double (FP.l2d u11)), .second] [(.int cat), (.ref nu), (.double (FP.l2d u11))])) _
        refine XS.iloadN X17.here hx rfl (hb hby d14_46) rfl ?_
        show Steps p.tables e below (T17.setTop (mkF m 47 #[.val (.ref a1), .val (.int p2), .val (.int p3), .val (.double (FP.l2d u11)), .second] [(.int p3), (.int cat), (.ref nu), (.double (FP.l2d u11))])) _
        refine XS.iadd X17.here hx rfl (hb hby d14_47) rfl ?_
        show Steps p.tables e below (T17.setTop (mkF m 48 #[.val (.ref a1), .val (.int p2), .val (.int p3), .val (.double (FP.l2d u11)), .second] [(.int (cat + p3)), (.ref nu), (.double (FP.l2d u11))])) _
        refine st18.trans ?_
        show Steps p.tables e below (T18.setTop (mkF m 51 #[.val (.ref a1), .val (.int p2), .val (.int p3), .val (.double (FP.l2d u11)), .second] [(.double (FP.l2d (fco (ck + rn)))), (.double (FP.l2d u11))])) _
        refine XS.daddS X18.here hx rfl (hb hby d14_51) rfl (nn_w (dadd_w hB11.b53 (h_fb _).b53)) (dadd_w hB11.b53 (h_fb _).b53) ?_
        show Steps p.tables e below (T18.setTop (mkF m 52 #[.val (.ref a1), .val (.int p2), .val (.int p3), .val (.double (FP.l2d u11)), .second] [(.double (FP.l2d (u11 + (fco (ck + rn)))))])) _
        refine XS.dstoreN X18.here hx rfl (hb hby d14_52) rfl (l' := #[.val (.ref a1), .val (.int p2), .val (.int p3), .val (.double (FP.l2d (u11 + (fco (ck + rn))))), .second]) rfl ?_
        exact kt
      exact ⟨T18, _, (FP.l2d (u11 + (fco (ck + rn)))), X18.mono (by decide) (by decide), e18, N18, (by rw [if_neg hc14]), fun target kt => sg13 _ (sg19 _ (kt))⟩
  obtain ⟨u20, hu20⟩ : ∃ u, u = ad cat u11 (fco (ck + rn)) := ⟨_, rfl⟩
  have hz20 : v20_l3 = FP.l2d u20 := by rw [hv20_l3, hu20, ad]; split <;> rfl
  have hB20 : Bn 12 u20 := by rw [hu20]; exact own_bad hB11 (h_fb _)
  clear hv20_l3
  subst hz20
  obtain ⟨T30, L30, v30_l3, X30, e30, N30, hv30_l3, sg30⟩ : ∃ (T' : State) (L' : List Loc) (v30_l3 : UInt64), Stand p l e ({ frames := 1, cells := 0, slots := 0, locals := 15 } : Room) s m #[(.ref a1), (.int p2), (.int p3)] below meth c T' L' 0 0 ∧ T'.heap = h0 ∧ Fr n0 L' ∧ v30_l3 = (if eat = (-1 : Int32) then (FP.l2d u20) else (FP.l2d (u20 + (fco (ek + (pn * nbn) + rn))))) ∧ ∀ target, Steps p.tables e below (T'.setTop (mkF m 84 #[.val (.ref a1), .val (.int p2), .val (.int p3), .val (.double v30_l3), .second] [])) target → Steps p.tables e below (T20.setTop (mkF m 53 #[.val (.ref a1), .val (.int p2), .val (.int p3), .val (.double (FP.l2d u20)), .second] [])) target := by
    obtain ⟨T21, X21, e21, st21⟩ := getF X20 hx hZ hown (host := "") (Or.inl (tw hw 55 rfl)) Via.refl e20 F_entriesAt_a1 (g := (mkF m 54 #[.val (.ref a1), .val (.int p2), .val (.int p3), .val (.double (FP.l2d u20)), .second] [(.ref a1)])) rfl rfl (hb hby d14_54)
    have sg22 : ∀ target, Steps p.tables e below (T21.setTop (mkF m 58 #[.val (.ref a1), .val (.int p2), .val (.int p3), .val (.double (FP.l2d u20)), .second] [(.int (-1 : Int32)), (.int eat)])) target → Steps p.tables e below (T20.setTop (mkF m 53 #[.val (.ref a1), .val (.int p2), .val (.int p3), .val (.double (FP.l2d u20)), .second] [])) target := by
      intro target kt
      show Steps p.tables e below (T20.setTop (mkF m 53 #[.val (.ref a1), .val (.int p2), .val (.int p3), .val (.double (FP.l2d u20)), .second] [])) _
      refine XS.aloadN X20.here hx rfl (hb hby d14_53) rfl rfl ?_
      show Steps p.tables e below (T20.setTop (mkF m 54 #[.val (.ref a1), .val (.int p2), .val (.int p3), .val (.double (FP.l2d u20)), .second] [(.ref a1)])) _
      refine st21 _ ?_
      show Steps p.tables e below (T21.setTop (mkF m 57 #[.val (.ref a1), .val (.int p2), .val (.int p3), .val (.double (FP.l2d u20)), .second] [(.int eat)])) _
      refine XS.iconst X21.here hx rfl (hb hby d14_57) ?_
      exact kt
    by_cases hc23 : eat = (-1 : Int32)
    · have sg24 : ∀ target, Steps p.tables e below (T21.setTop (mkF m 84 #[.val (.ref a1), .val (.int p2), .val (.int p3), .val (.double (FP.l2d u20)), .second] [])) target → Steps p.tables e below (T21.setTop (mkF m 58 #[.val (.ref a1), .val (.int p2), .val (.int p3), .val (.double (FP.l2d u20)), .second] [(.int (-1 : Int32)), (.int eat)])) target := by
        intro target kt
        show Steps p.tables e below (T21.setTop (mkF m 58 #[.val (.ref a1), .val (.int p2), .val (.int p3), .val (.double (FP.l2d u20)), .second] [(.int (-1 : Int32)), (.int eat)])) _
        refine XS.icmpYes X21.here hx rfl (pc0 := 58) (pc' := 84) rfl (hb hby d14_58) rfl (teq hc23).1 (by decide) (by decide) ?_
        exact kt
      exact ⟨T21, _, (FP.l2d u20), X21.mono (by decide) (by decide), e21, N20, (by rw [if_pos hc23]), fun target kt => sg22 _ (sg24 _ (kt))⟩
    · obtain ⟨T25, X25, e25, st25⟩ := getF X21 hx hZ hown (host := "") (Or.inl (tw hw 57 rfl)) Via.refl e21 F_numbers_a1 (g := (mkF m 63 #[.val (.ref a1), .val (.int p2), .val (.int p3), .val (.double (FP.l2d u20)), .second] [(.ref a1), (.double (FP.l2d u20))])) rfl rfl (hb hby d14_63)
      obtain ⟨T26, X26, e26, st26⟩ := getF X25 hx hZ hown (host := "") (Or.inl (tw hw 55 rfl)) Via.refl e25 F_entriesAt_a1 (g := (mkF m 67 #[.val (.ref a1), .val (.int p2), .val (.int p3), .val (.double (FP.l2d u20)), .second] [(.ref a1), (.ref nu), (.double (FP.l2d u20))])) rfl rfl (hb hby d14_67)
      obtain ⟨T27, X27, e27, st27⟩ := getF X26 hx hZ hown (host := "") (Or.inl (tw hw 61 rfl)) Via.refl e26 F_neighbourValues_a1 (g := (mkF m 72 #[.val (.ref a1), .val (.int p2), .val (.int p3), .val (.double (FP.l2d u20)), .second] [(.ref a1), (.int p2), (.int eat), (.ref nu), (.double (FP.l2d u20))])) rfl rfl (hb hby d14_72)
      obtain ⟨cq28, kq28, q28a, q28b, q28c⟩ := isOf hZ e27 E_nu
      obtain ⟨_, _, ⟨T28, L28, k28, n28⟩, -, X28, ⟨Lc28, hQ28, l28, y28, z28⟩, st28⟩ := X27.virtualBack hx (y := (⟨"com/example/breakline/breakline/ModifierNumbers", "get", "(I)D"⟩ : MethodName)) (z := (⟨"com/example/breakline/breakline/ModifierNumbers", "get", "(I)D"⟩ : MethodName)) hown (mvT hZ (tw hw 92 rfl)) (mvT hZ (tw hw 93 rfl)) (notFace_of_selects (args := #[]) (mvT hZ (tw hw 95 rfl))) (mvT hZ (tw hw 95 rfl)) (mvT hZ (tw hw 94 rfl)) (by decide) (backOf (W := 2) (rm15 l Z a0 hw [] nu ((eat + (p2 * nb)) + p3) arr kla cap can fco (ek + (pn * nbn) + rn) h0 n0 O0 F_numbers_nu A_arr h_c h_c48 (own_idx (h_3 hc23).1 h_nb h_p h_r h_lt h_lr h_o4 h_n4 (Nat.le_trans (h_3 hc23).2 h_c48)) (Nat.lt_of_lt_of_le (own_lin h_lt h_lr) (h_3 hc23).2)) hZ (tw hw 96 rfl) (tw hw 3 rfl) (by decide) (by decide)) q28a q28c (g := (mkF m 79 #[.val (.ref a1), .val (.int p2), .val (.int p3), .val (.double (FP.l2d u20)), .second] [(.int ((eat + (p2 * nb)) + p3)), (.ref nu), (.double (FP.l2d u20))])) rfl (by rw [hml]; rfl) (Steps.refl _) (argsL := [(.int ((eat + (p2 * nb)) + p3))]) (rest := [(.double (FP.l2d u20))]) (lenOf pd_7 rfl) rfl (by show 2 * 0 + _ ≤ _; exact Nat.le_of_eq rfl) (hb hby d14_79) (fun _ _ => ⟨rfl, e27, (by decide : 0 + 0 ≤ _), (by decide : 0 + 0 ≤ _)⟩)
      dsimp only [Pt.U, Pt.locs, Pt.cells, Pt.slots] at X28 l28 y28 z28 st28 hQ28
      subst l28 y28 z28
      obtain ⟨rfl, N28q, e28⟩ := hQ28
      have N28 := Fr.app N20 N28q
      have sg29 : ∀ target, Steps p.tables e below (T28.setTop (mkF m 84 #[.val (.ref a1), .val (.int p2), .val (.int p3), .val (.double (FP.l2d (u20 + (fco (ek + (pn * nbn) + rn))))), .second] [])) target → Steps p.tables e below (T21.setTop (mkF m 58 #[.val (.ref a1), .val (.int p2), .val (.int p3), .val (.double (FP.l2d u20)), .second] [(.int (-1 : Int32)), (.int eat)])) target := by
        intro target kt
        show Steps p.tables e below (T21.setTop (mkF m 58 #[.val (.ref a1), .val (.int p2), .val (.int p3), .val (.double (FP.l2d u20)), .second] [(.int (-1 : Int32)), (.int eat)])) _
        refine XS.icmpNo X21.here hx rfl (hb hby d14_58) rfl (feq hc23).1 ?_
        show Steps p.tables e below (T21.setTop (mkF m 61 #[.val (.ref a1), .val (.int p2), .val (.int p3), .val (.double (FP.l2d u20)), .second] [])) _
        refine XS.dloadN X21.here hx rfl (hb hby d14_61) rfl ?_
        show Steps p.tables e below (T21.setTop (mkF m 62 #[.val (.ref a1), .val (.int p2), .val (.int p3), .val (.double (FP.l2d u20)), .second] [(.double (FP.l2d u20))])) _
        refine XS.aloadN X21.here hx rfl (hb hby d14_62) rfl rfl ?_
        show Steps p.tables e below (T21.setTop (mkF m 63 #[.val (.ref a1), .val (.int p2), .val (.int p3), .val (.double (FP.l2d u20)), .second] [(.ref a1), (.double (FP.l2d u20))])) _
        refine st25 _ ?_
        show Steps p.tables e below (T25.setTop (mkF m 66 #[.val (.ref a1), .val (.int p2), .val (.int p3), .val (.double (FP.l2d u20)), .second] [(.ref nu), (.double (FP.l2d u20))])) _
        refine XS.aloadN X25.here hx rfl (hb hby d14_66) rfl rfl ?_
        show Steps p.tables e below (T25.setTop (mkF m 67 #[.val (.ref a1), .val (.int p2), .val (.int p3), .val (.double (FP.l2d u20)), .second] [(.ref a1), (.ref nu), (.double (FP.l2d u20))])) _
        refine st26 _ ?_
        show Steps p.tables e below (T26.setTop (mkF m 70 #[.val (.ref a1), .val (.int p2), .val (.int p3), .val (.double (FP.l2d u20)), .second] [(.int eat), (.ref nu), (.double (FP.l2d u20))])) _
        refine XS.iloadN X26.here hx rfl (hb hby d14_70) rfl ?_
        show Steps p.tables e below (T26.setTop (mkF m 71 #[.val (.ref a1), .val (.int p2), .val (.int p3), .val (.double (FP.l2d u20)), .second] [(.int p2), (.int eat), (.ref nu), (.double (FP.l2d u20))])) _
        refine XS.aloadN X26.here hx rfl (hb hby d14_71) rfl rfl ?_
        show Steps p.tables e below (T26.setTop (mkF m 72 #[.val (.ref a1), .val (.int p2), .val (.int p3), .val (.double (FP.l2d u20)), .second] [(.ref a1), (.int p2), (.int eat), (.ref nu), (.double (FP.l2d u20))])) _
        refine st27 _ ?_
        show Steps p.tables e below (T27.setTop (mkF m 75 #[.val (.ref a1), .val (.int p2), .val (.int p3), .val (.double (FP.l2d u20)), .second] [(.int nb), (.int p2), (.int eat), (.ref nu), (.double (FP.l2d u20))])) _
        refine XS.imul X27.here hx rfl (hb hby d14_75) rfl ?_
        show Steps p.tables e below (T27.setTop (mkF m 76 #[.val (.ref a1), .val (.int p2), .val (.int p3), .val (.double (FP.l2d u20)), .second] [(.int (p2 * nb)), (.int eat), (.ref nu), (.double (FP.l2d u20))])) _
        refine XS.iadd X27.here hx rfl (hb hby d14_76) rfl ?_
        show Steps p.tables e below (T27.setTop (mkF m 77 #[.val (.ref a1), .val (.int p2), .val (.int p3), .val (.double (FP.l2d u20)), .second] [(.int (eat + (p2 * nb))), (.ref nu), (.double (FP.l2d u20))])) _
        refine XS.iloadN X27.here hx rfl (hb hby d14_77) rfl ?_
        show Steps p.tables e below (T27.setTop (mkF m 78 #[.val (.ref a1), .val (.int p2), .val (.int p3), .val (.double (FP.l2d u20)), .second] [(.int p3), (.int (eat + (p2 * nb))), (.ref nu), (.double (FP.l2d u20))])) _
        refine XS.iadd X27.here hx rfl (hb hby d14_78) rfl ?_
        show Steps p.tables e below (T27.setTop (mkF m 79 #[.val (.ref a1), .val (.int p2), .val (.int p3), .val (.double (FP.l2d u20)), .second] [(.int ((eat + (p2 * nb)) + p3)), (.ref nu), (.double (FP.l2d u20))])) _
        refine st28.trans ?_
        show Steps p.tables e below (T28.setTop (mkF m 82 #[.val (.ref a1), .val (.int p2), .val (.int p3), .val (.double (FP.l2d u20)), .second] [(.double (FP.l2d (fco (ek + (pn * nbn) + rn)))), (.double (FP.l2d u20))])) _
        refine XS.daddS X28.here hx rfl (hb hby d14_82) rfl (nn_w (dadd_w hB20.b53 (h_fb _).b53)) (dadd_w hB20.b53 (h_fb _).b53) ?_
        show Steps p.tables e below (T28.setTop (mkF m 83 #[.val (.ref a1), .val (.int p2), .val (.int p3), .val (.double (FP.l2d u20)), .second] [(.double (FP.l2d (u20 + (fco (ek + (pn * nbn) + rn)))))])) _
        refine XS.dstoreN X28.here hx rfl (hb hby d14_83) rfl (l' := #[.val (.ref a1), .val (.int p2), .val (.int p3), .val (.double (FP.l2d (u20 + (fco (ek + (pn * nbn) + rn))))), .second]) rfl ?_
        exact kt
      exact ⟨T28, _, (FP.l2d (u20 + (fco (ek + (pn * nbn) + rn)))), X28.mono (by decide) (by decide), e28, N28, (by rw [if_neg hc23]), fun target kt => sg22 _ (sg29 _ (kt))⟩
  obtain ⟨u30, hu30⟩ : ∃ u, u = ad eat u20 (fco (ek + (pn * nbn) + rn)) := ⟨_, rfl⟩
  have hz30 : v30_l3 = FP.l2d u30 := by rw [hv30_l3, hu30, ad]; split <;> rfl
  have hB30 : Bn 16 u30 := by rw [hu30]; exact own_bad hB20 (h_fb _)
  clear hv30_l3
  subst hz30
  have sg31 : ∀ target, Steps p.tables e below (T30.setTop (mkF m 85 #[.val (.ref a1), .val (.int p2), .val (.int p3), .val (.double (FP.l2d u30)), .second] [(.double (FP.l2d u30))])) target → Steps p.tables e below (T30.setTop (mkF m 84 #[.val (.ref a1), .val (.int p2), .val (.int p3), .val (.double (FP.l2d u30)), .second] [])) target := by
    intro target kt
    show Steps p.tables e below (T30.setTop (mkF m 84 #[.val (.ref a1), .val (.int p2), .val (.int p3), .val (.double (FP.l2d u30)), .second] [])) _
    refine XS.dloadN X30.here hx rfl (hb hby d14_84) rfl ?_
    exact kt
  obtain ⟨fs, hr, hrun, hended, hW, hsame⟩ := X30.leave (v := some (.double (FP.l2d u30))) (fun h => by rw [Bd.returns] at h; cases h)
  refine ⟨_, _, pre0 _ (sg2 _ (sg11 _ (sg20 _ (sg30 _ (sg31 _ (?_)))))), hrun, hended, _, _, rfl, ?_, ⟨_, rfl⟩, hW, hsame.mono (by decide) (by decide)⟩
  · show Steps p.tables e below (T30.setTop (mkF m 85 #[.val (.ref a1), .val (.int p2), .val (.int p3), .val (.double (FP.l2d u30)), .second] [(.double (FP.l2d u30))])) _
    jvm_step X30.here [X30.here.top, hx, (hb hby d14_85), X30.method', Bd.returns, narrow]
    first | (intro acts; rw [hr _ acts rfl rfl rfl]) | rw [hr _ _ rfl rfl rfl]
    exact Steps.refl _
  · show Q14 Z a1 p2 p3 rat cat eat nu ow nb wh arr kla cap can fco own nbn pn rn rk ck ek h0 n0 _ T30.heap _
    rw [e30]
    exact ⟨(by rw [hu30, hu20, hu11]), N30, rfl⟩
def Q0 (Z : State) (p1 : Int32) (p2 : Int32) (p3 : Int32) (p4 : Int32) (p5 : Int32) (p6 : Int32) (h0 : Heap) (n0 : Nat) (v : Option Value) (h : Heap) (L : List Loc) : Prop := v = some (.int (1 : Int32)) ∧ Fr n0 L ∧ Keep h0 h [] ∧ Old Z n0 h
theorem ef_0 (m : MethodId) (x0 : Int32) (x1 : Int32) (x2 : Int32) (x3 : Int32) (x4 : Int32) (x5 : Int32) : entryFrame m #[(.int x0), (.int x1), (.int x2), (.int x3), (.int x4), (.int x5)] maxLocals = mkF m 0 #[.val (.int x0), .val (.int x1), .val (.int x2), .val (.int x3), .val (.int x4), .val (.int x5), .unset, .unset, .unset, .unset, .unset, .unset, .unset, .unset, .unset, .unset, .unset, .unset, .unset, .unset, .unset, .unset, .unset, .unset, .unset, .unset, .unset] [] := by first | (simp [entryFrame, mkF, argsToLocals, Value.category, maxLocals]; done) | rfl
set_option maxRecDepth 65536 in
set_option maxHeartbeats 40000000 in
theorem rm0 (l : Launch) (Z : State) (a0 : Array Value) (hw : ∀ d ∈ tables_1, d.before a0 Z = true) (ws : List Jvm.Cond) (p1 : Int32) (p2 : Int32) (p3 : Int32) (p4 : Int32) (p5 : Int32) (p6 : Int32) (h0 : Heap) (n0 : Nat) (O0 : Old Z n0 h0) :
    MetFree l x (head1 (Jvm.Cond.code x code maxLocals ret :: ws) room_1) (fun a U => a = #[(.int p1), (.int p2), (.int p3), (.int p4), (.int p5), (.int p6)] ∧ Z.Warmed39 U.vm ∧ U.heap = h0) (fun _ _ _ _ _ => True) (fun _ U o U' => ∃ v L, o = .returned v ∧ Q0 Z p1 p2 p3 p4 p5 p6 h0 n0 v U'.heap L ∧ FrameEnd U o U' L room_1.cells room_1.slots) := by
  refine MetFree.of_bodySF (plainFor_of_name pn_3) hisR ?_
  intro p e s m args below meth c s₁ Bd hml0 hP hK
  obtain ⟨rfl, hZ, hh⟩ := hP
  have hx := Bd.exec
  have hby := Bd.bytes
  have hml : c.maxLocals = 27 := hml0
  have hown : s.vm.findClass "com/example/breakline/breakline/ModifierTableGetPinLaw" = some m.cls := findClass_of_methodNamed Bd.named
  have hnm := (name_of_methodNamed Bd.named Bd.method).1
  have X0 : Stand p l e room_1 s m #[(.int p1), (.int p2), (.int p3), (.int p4), (.int p5), (.int p6)] below meth c s₁ [] 0 0 := Stand.of_body Bd
  have e0 : s₁.heap = h0 := by rw [← hh, Bd.state]; rfl
  have N0 := Fr.nil n0
  have pre0 : ∀ t, Steps p.tables e below (s₁.setTop (mkF m 0 #[.val (.int p1), .val (.int p2), .val (.int p3), .val (.int p4), .val (.int p5), .val (.int p6), .unset, .unset, .unset, .unset, .unset, .unset, .unset, .unset, .unset, .unset, .unset, .unset, .unset, .unset, .unset, .unset, .unset, .unset, .unset, .unset, .unset] [])) t → Steps p.tables e below (s₁.setTop (entryFrame m #[(.int p1), (.int p2), (.int p3), (.int p4), (.int p5), (.int p6)] maxLocals)) t := fun t k => castTop (ef_0 m p1 p2 p3 p4 p5 p6) k
  have K0 := Keep.refl h0 []
  obtain ⟨u1, hu1⟩ : ∃ z, z = ((1 : Int32) + (p1 &&& (3 : Int32))) := ⟨_, rfl⟩
  have sg2 : ∀ target, Steps p.tables e below (s₁.setTop (mkF m 5 #[.val (.int p1), .val (.int p2), .val (.int p3), .val (.int p4), .val (.int p5), .val (.int p6), .unset, .unset, .unset, .unset, .unset, .unset, .unset, .unset, .unset, .unset, .unset, .unset, .unset, .unset, .unset, .unset, .unset, .unset, .unset, .unset, .unset] [(.int u1)])) target → Steps p.tables e below (s₁.setTop (mkF m 0 #[.val (.int p1), .val (.int p2), .val (.int p3), .val (.int p4), .val (.int p5), .val (.int p6), .unset, .unset, .unset, .unset, .unset, .unset, .unset, .unset, .unset, .unset, .unset, .unset, .unset, .unset, .unset, .unset, .unset, .unset, .unset, .unset, .unset] [])) target := by
    intro target kt
    subst hu1
    show Steps p.tables e below (s₁.setTop (mkF m 0 #[.val (.int p1), .val (.int p2), .val (.int p3), .val (.int p4), .val (.int p5), .val (.int p6), .unset, .unset, .unset, .unset, .unset, .unset, .unset, .unset, .unset, .unset, .unset, .unset, .unset, .unset, .unset, .unset, .unset, .unset, .unset, .unset, .unset] [])) _
    refine XS.iconst X0.here hx rfl (hb hby at_0) ?_
    show Steps p.tables e below (s₁.setTop (mkF m 1 #[.val (.int p1), .val (.int p2), .val (.int p3), .val (.int p4), .val (.int p5), .val (.int p6), .unset, .unset, .unset, .unset, .unset, .unset, .unset, .unset, .unset, .unset, .unset, .unset, .unset, .unset, .unset, .unset, .unset, .unset, .unset, .unset, .unset] [(.int (1 : Int32))])) _
    refine XS.iloadN X0.here hx rfl (hb hby at_1) rfl ?_
    show Steps p.tables e below (s₁.setTop (mkF m 2 #[.val (.int p1), .val (.int p2), .val (.int p3), .val (.int p4), .val (.int p5), .val (.int p6), .unset, .unset, .unset, .unset, .unset, .unset, .unset, .unset, .unset, .unset, .unset, .unset, .unset, .unset, .unset, .unset, .unset, .unset, .unset, .unset, .unset] [(.int p1), (.int (1 : Int32))])) _
    refine XS.iconst X0.here hx rfl (hb hby at_2) ?_
    show Steps p.tables e below (s₁.setTop (mkF m 3 #[.val (.int p1), .val (.int p2), .val (.int p3), .val (.int p4), .val (.int p5), .val (.int p6), .unset, .unset, .unset, .unset, .unset, .unset, .unset, .unset, .unset, .unset, .unset, .unset, .unset, .unset, .unset, .unset, .unset, .unset, .unset, .unset, .unset] [(.int (3 : Int32)), (.int p1), (.int (1 : Int32))])) _
    refine XS.iand X0.here hx rfl (hb hby at_3) rfl ?_
    show Steps p.tables e below (s₁.setTop (mkF m 4 #[.val (.int p1), .val (.int p2), .val (.int p3), .val (.int p4), .val (.int p5), .val (.int p6), .unset, .unset, .unset, .unset, .unset, .unset, .unset, .unset, .unset, .unset, .unset, .unset, .unset, .unset, .unset, .unset, .unset, .unset, .unset, .unset, .unset] [(.int (p1 &&& (3 : Int32))), (.int (1 : Int32))])) _
    refine XS.iadd X0.here hx rfl (hb hby at_4) rfl ?_
    exact kt
  obtain ⟨own, h_own, b1_own, b4_own⟩ := own_dim hu1
  obtain ⟨u3, hu3⟩ : ∃ z, z = ((1 : Int32) + (((p1.toUInt32 >>> ((2 : Int32) &&& 31).toUInt32).toInt32) &&& (3 : Int32))) := ⟨_, rfl⟩
  have sg4 : ∀ target, Steps p.tables e below (s₁.setTop (mkF m 14 #[.val (.int p1), .val (.int p2), .val (.int p3), .val (.int p4), .val (.int p5), .val (.int p6), .val (.int u1), .unset, .unset, .unset, .unset, .unset, .unset, .unset, .unset, .unset, .unset, .unset, .unset, .unset, .unset, .unset, .unset, .unset, .unset, .unset, .unset] [(.int u3)])) target → Steps p.tables e below (s₁.setTop (mkF m 5 #[.val (.int p1), .val (.int p2), .val (.int p3), .val (.int p4), .val (.int p5), .val (.int p6), .unset, .unset, .unset, .unset, .unset, .unset, .unset, .unset, .unset, .unset, .unset, .unset, .unset, .unset, .unset, .unset, .unset, .unset, .unset, .unset, .unset] [(.int u1)])) target := by
    intro target kt
    subst hu3
    show Steps p.tables e below (s₁.setTop (mkF m 5 #[.val (.int p1), .val (.int p2), .val (.int p3), .val (.int p4), .val (.int p5), .val (.int p6), .unset, .unset, .unset, .unset, .unset, .unset, .unset, .unset, .unset, .unset, .unset, .unset, .unset, .unset, .unset, .unset, .unset, .unset, .unset, .unset, .unset] [(.int u1)])) _
    refine XS.istore X0.here hx rfl (hb hby at_5) rfl (l' := #[.val (.int p1), .val (.int p2), .val (.int p3), .val (.int p4), .val (.int p5), .val (.int p6), .val (.int u1), .unset, .unset, .unset, .unset, .unset, .unset, .unset, .unset, .unset, .unset, .unset, .unset, .unset, .unset, .unset, .unset, .unset, .unset, .unset, .unset]) rfl ?_
    show Steps p.tables e below (s₁.setTop (mkF m 7 #[.val (.int p1), .val (.int p2), .val (.int p3), .val (.int p4), .val (.int p5), .val (.int p6), .val (.int u1), .unset, .unset, .unset, .unset, .unset, .unset, .unset, .unset, .unset, .unset, .unset, .unset, .unset, .unset, .unset, .unset, .unset, .unset, .unset, .unset] [])) _
    refine XS.iconst X0.here hx rfl (hb hby at_7) ?_
    show Steps p.tables e below (s₁.setTop (mkF m 8 #[.val (.int p1), .val (.int p2), .val (.int p3), .val (.int p4), .val (.int p5), .val (.int p6), .val (.int u1), .unset, .unset, .unset, .unset, .unset, .unset, .unset, .unset, .unset, .unset, .unset, .unset, .unset, .unset, .unset, .unset, .unset, .unset, .unset, .unset] [(.int (1 : Int32))])) _
    refine XS.iloadN X0.here hx rfl (hb hby at_8) rfl ?_
    show Steps p.tables e below (s₁.setTop (mkF m 9 #[.val (.int p1), .val (.int p2), .val (.int p3), .val (.int p4), .val (.int p5), .val (.int p6), .val (.int u1), .unset, .unset, .unset, .unset, .unset, .unset, .unset, .unset, .unset, .unset, .unset, .unset, .unset, .unset, .unset, .unset, .unset, .unset, .unset, .unset] [(.int p1), (.int (1 : Int32))])) _
    refine XS.iconst X0.here hx rfl (hb hby at_9) ?_
    show Steps p.tables e below (s₁.setTop (mkF m 10 #[.val (.int p1), .val (.int p2), .val (.int p3), .val (.int p4), .val (.int p5), .val (.int p6), .val (.int u1), .unset, .unset, .unset, .unset, .unset, .unset, .unset, .unset, .unset, .unset, .unset, .unset, .unset, .unset, .unset, .unset, .unset, .unset, .unset, .unset] [(.int (2 : Int32)), (.int p1), (.int (1 : Int32))])) _
    refine XS.iushr X0.here hx rfl (hb hby at_10) rfl ?_
    show Steps p.tables e below (s₁.setTop (mkF m 11 #[.val (.int p1), .val (.int p2), .val (.int p3), .val (.int p4), .val (.int p5), .val (.int p6), .val (.int u1), .unset, .unset, .unset, .unset, .unset, .unset, .unset, .unset, .unset, .unset, .unset, .unset, .unset, .unset, .unset, .unset, .unset, .unset, .unset, .unset] [(.int ((p1.toUInt32 >>> ((2 : Int32) &&& 31).toUInt32).toInt32)), (.int (1 : Int32))])) _
    refine XS.iconst X0.here hx rfl (hb hby at_11) ?_
    show Steps p.tables e below (s₁.setTop (mkF m 12 #[.val (.int p1), .val (.int p2), .val (.int p3), .val (.int p4), .val (.int p5), .val (.int p6), .val (.int u1), .unset, .unset, .unset, .unset, .unset, .unset, .unset, .unset, .unset, .unset, .unset, .unset, .unset, .unset, .unset, .unset, .unset, .unset, .unset, .unset] [(.int (3 : Int32)), (.int ((p1.toUInt32 >>> ((2 : Int32) &&& 31).toUInt32).toInt32)), (.int (1 : Int32))])) _
    refine XS.iand X0.here hx rfl (hb hby at_12) rfl ?_
    show Steps p.tables e below (s₁.setTop (mkF m 13 #[.val (.int p1), .val (.int p2), .val (.int p3), .val (.int p4), .val (.int p5), .val (.int p6), .val (.int u1), .unset, .unset, .unset, .unset, .unset, .unset, .unset, .unset, .unset, .unset, .unset, .unset, .unset, .unset, .unset, .unset, .unset, .unset, .unset, .unset] [(.int (((p1.toUInt32 >>> ((2 : Int32) &&& 31).toUInt32).toInt32) &&& (3 : Int32))), (.int (1 : Int32))])) _
    refine XS.iadd X0.here hx rfl (hb hby at_13) rfl ?_
    exact kt
  obtain ⟨nbn, h_nbn, b1_nbn, b4_nbn⟩ := own_dim hu3
  obtain ⟨u5, hu5⟩ : ∃ z, z = ((p3 &&& (2147483647 : Int32)) % u1) := ⟨_, rfl⟩
  have sg6 : ∀ target, Steps p.tables e below (s₁.setTop (mkF m 23 #[.val (.int p1), .val (.int p2), .val (.int p3), .val (.int p4), .val (.int p5), .val (.int p6), .val (.int u1), .val (.int u3), .unset, .unset, .unset, .unset, .unset, .unset, .unset, .unset, .unset, .unset, .unset, .unset, .unset, .unset, .unset, .unset, .unset, .unset, .unset] [(.int u5)])) target → Steps p.tables e below (s₁.setTop (mkF m 14 #[.val (.int p1), .val (.int p2), .val (.int p3), .val (.int p4), .val (.int p5), .val (.int p6), .val (.int u1), .unset, .unset, .unset, .unset, .unset, .unset, .unset, .unset, .unset, .unset, .unset, .unset, .unset, .unset, .unset, .unset, .unset, .unset, .unset, .unset] [(.int u3)])) target := by
    intro target kt
    subst hu5
    show Steps p.tables e below (s₁.setTop (mkF m 14 #[.val (.int p1), .val (.int p2), .val (.int p3), .val (.int p4), .val (.int p5), .val (.int p6), .val (.int u1), .unset, .unset, .unset, .unset, .unset, .unset, .unset, .unset, .unset, .unset, .unset, .unset, .unset, .unset, .unset, .unset, .unset, .unset, .unset, .unset] [(.int u3)])) _
    refine XS.istore X0.here hx rfl (hb hby at_14) rfl (l' := #[.val (.int p1), .val (.int p2), .val (.int p3), .val (.int p4), .val (.int p5), .val (.int p6), .val (.int u1), .val (.int u3), .unset, .unset, .unset, .unset, .unset, .unset, .unset, .unset, .unset, .unset, .unset, .unset, .unset, .unset, .unset, .unset, .unset, .unset, .unset]) rfl ?_
    show Steps p.tables e below (s₁.setTop (mkF m 16 #[.val (.int p1), .val (.int p2), .val (.int p3), .val (.int p4), .val (.int p5), .val (.int p6), .val (.int u1), .val (.int u3), .unset, .unset, .unset, .unset, .unset, .unset, .unset, .unset, .unset, .unset, .unset, .unset, .unset, .unset, .unset, .unset, .unset, .unset, .unset] [])) _
    refine XS.iloadN X0.here hx rfl (hb hby at_16) rfl ?_
    show Steps p.tables e below (s₁.setTop (mkF m 17 #[.val (.int p1), .val (.int p2), .val (.int p3), .val (.int p4), .val (.int p5), .val (.int p6), .val (.int u1), .val (.int u3), .unset, .unset, .unset, .unset, .unset, .unset, .unset, .unset, .unset, .unset, .unset, .unset, .unset, .unset, .unset, .unset, .unset, .unset, .unset] [(.int p3)])) _
    refine X0.ldcInt hx hown (mvT hZ (tw hw 0 rfl)) (g := (mkF m 17 #[.val (.int p1), .val (.int p2), .val (.int p3), .val (.int p4), .val (.int p5), .val (.int p6), .val (.int u1), .val (.int u3), .unset, .unset, .unset, .unset, .unset, .unset, .unset, .unset, .unset, .unset, .unset, .unset, .unset, .unset, .unset, .unset, .unset, .unset, .unset] [(.int p3)])) rfl (hb hby at_17) _ ?_
    show Steps p.tables e below (s₁.setTop (mkF m 19 #[.val (.int p1), .val (.int p2), .val (.int p3), .val (.int p4), .val (.int p5), .val (.int p6), .val (.int u1), .val (.int u3), .unset, .unset, .unset, .unset, .unset, .unset, .unset, .unset, .unset, .unset, .unset, .unset, .unset, .unset, .unset, .unset, .unset, .unset, .unset] [(.int (2147483647 : Int32)), (.int p3)])) _
    refine XS.iand X0.here hx rfl (hb hby at_19) rfl ?_
    show Steps p.tables e below (s₁.setTop (mkF m 20 #[.val (.int p1), .val (.int p2), .val (.int p3), .val (.int p4), .val (.int p5), .val (.int p6), .val (.int u1), .val (.int u3), .unset, .unset, .unset, .unset, .unset, .unset, .unset, .unset, .unset, .unset, .unset, .unset, .unset, .unset, .unset, .unset, .unset, .unset, .unset] [(.int (p3 &&& (2147483647 : Int32)))])) _
    refine XS.iload X0.here hx rfl (hb hby at_20) rfl ?_
    show Steps p.tables e below (s₁.setTop (mkF m 22 #[.val (.int p1), .val (.int p2), .val (.int p3), .val (.int p4), .val (.int p5), .val (.int p6), .val (.int u1), .val (.int u3), .unset, .unset, .unset, .unset, .unset, .unset, .unset, .unset, .unset, .unset, .unset, .unset, .unset, .unset, .unset, .unset, .unset, .unset, .unset] [(.int u1), (.int (p3 &&& (2147483647 : Int32)))])) _
    refine iremM (g := (mkF m 22 #[.val (.int p1), .val (.int p2), .val (.int p3), .val (.int p4), .val (.int p5), .val (.int p6), .val (.int u1), .val (.int u3), .unset, .unset, .unset, .unset, .unset, .unset, .unset, .unset, .unset, .unset, .unset, .unset, .unset, .unset, .unset, .unset, .unset, .unset, .unset] [(.int u1), (.int (p3 &&& (2147483647 : Int32)))])) X0 hx rfl (hb hby at_22) rfl (own_nz h_own b1_own) ?_
    exact kt
  obtain ⟨n8, h_n8, lt_n8⟩ := own_rem hu5 (own_mM _) h_own b1_own
  obtain ⟨u7, hu7⟩ : ∃ z, z = ((p4 &&& (2147483647 : Int32)) % u3) := ⟨_, rfl⟩
  have sg8 : ∀ target, Steps p.tables e below (s₁.setTop (mkF m 32 #[.val (.int p1), .val (.int p2), .val (.int p3), .val (.int p4), .val (.int p5), .val (.int p6), .val (.int u1), .val (.int u3), .val (.int u5), .unset, .unset, .unset, .unset, .unset, .unset, .unset, .unset, .unset, .unset, .unset, .unset, .unset, .unset, .unset, .unset, .unset, .unset] [(.int u7)])) target → Steps p.tables e below (s₁.setTop (mkF m 23 #[.val (.int p1), .val (.int p2), .val (.int p3), .val (.int p4), .val (.int p5), .val (.int p6), .val (.int u1), .val (.int u3), .unset, .unset, .unset, .unset, .unset, .unset, .unset, .unset, .unset, .unset, .unset, .unset, .unset, .unset, .unset, .unset, .unset, .unset, .unset] [(.int u5)])) target := by
    intro target kt
    subst hu7
    show Steps p.tables e below (s₁.setTop (mkF m 23 #[.val (.int p1), .val (.int p2), .val (.int p3), .val (.int p4), .val (.int p5), .val (.int p6), .val (.int u1), .val (.int u3), .unset, .unset, .unset, .unset, .unset, .unset, .unset, .unset, .unset, .unset, .unset, .unset, .unset, .unset, .unset, .unset, .unset, .unset, .unset] [(.int u5)])) _
    refine XS.istore X0.here hx rfl (hb hby at_23) rfl (l' := #[.val (.int p1), .val (.int p2), .val (.int p3), .val (.int p4), .val (.int p5), .val (.int p6), .val (.int u1), .val (.int u3), .val (.int u5), .unset, .unset, .unset, .unset, .unset, .unset, .unset, .unset, .unset, .unset, .unset, .unset, .unset, .unset, .unset, .unset, .unset, .unset]) rfl ?_
    show Steps p.tables e below (s₁.setTop (mkF m 25 #[.val (.int p1), .val (.int p2), .val (.int p3), .val (.int p4), .val (.int p5), .val (.int p6), .val (.int u1), .val (.int u3), .val (.int u5), .unset, .unset, .unset, .unset, .unset, .unset, .unset, .unset, .unset, .unset, .unset, .unset, .unset, .unset, .unset, .unset, .unset, .unset] [])) _
    refine XS.iloadN X0.here hx rfl (hb hby at_25) rfl ?_
    show Steps p.tables e below (s₁.setTop (mkF m 26 #[.val (.int p1), .val (.int p2), .val (.int p3), .val (.int p4), .val (.int p5), .val (.int p6), .val (.int u1), .val (.int u3), .val (.int u5), .unset, .unset, .unset, .unset, .unset, .unset, .unset, .unset, .unset, .unset, .unset, .unset, .unset, .unset, .unset, .unset, .unset, .unset] [(.int p4)])) _
    refine X0.ldcInt hx hown (mvT hZ (tw hw 0 rfl)) (g := (mkF m 26 #[.val (.int p1), .val (.int p2), .val (.int p3), .val (.int p4), .val (.int p5), .val (.int p6), .val (.int u1), .val (.int u3), .val (.int u5), .unset, .unset, .unset, .unset, .unset, .unset, .unset, .unset, .unset, .unset, .unset, .unset, .unset, .unset, .unset, .unset, .unset, .unset] [(.int p4)])) rfl (hb hby at_26) _ ?_
    show Steps p.tables e below (s₁.setTop (mkF m 28 #[.val (.int p1), .val (.int p2), .val (.int p3), .val (.int p4), .val (.int p5), .val (.int p6), .val (.int u1), .val (.int u3), .val (.int u5), .unset, .unset, .unset, .unset, .unset, .unset, .unset, .unset, .unset, .unset, .unset, .unset, .unset, .unset, .unset, .unset, .unset, .unset] [(.int (2147483647 : Int32)), (.int p4)])) _
    refine XS.iand X0.here hx rfl (hb hby at_28) rfl ?_
    show Steps p.tables e below (s₁.setTop (mkF m 29 #[.val (.int p1), .val (.int p2), .val (.int p3), .val (.int p4), .val (.int p5), .val (.int p6), .val (.int u1), .val (.int u3), .val (.int u5), .unset, .unset, .unset, .unset, .unset, .unset, .unset, .unset, .unset, .unset, .unset, .unset, .unset, .unset, .unset, .unset, .unset, .unset] [(.int (p4 &&& (2147483647 : Int32)))])) _
    refine XS.iload X0.here hx rfl (hb hby at_29) rfl ?_
    show Steps p.tables e below (s₁.setTop (mkF m 31 #[.val (.int p1), .val (.int p2), .val (.int p3), .val (.int p4), .val (.int p5), .val (.int p6), .val (.int u1), .val (.int u3), .val (.int u5), .unset, .unset, .unset, .unset, .unset, .unset, .unset, .unset, .unset, .unset, .unset, .unset, .unset, .unset, .unset, .unset, .unset, .unset] [(.int u3), (.int (p4 &&& (2147483647 : Int32)))])) _
    refine iremM (g := (mkF m 31 #[.val (.int p1), .val (.int p2), .val (.int p3), .val (.int p4), .val (.int p5), .val (.int p6), .val (.int u1), .val (.int u3), .val (.int u5), .unset, .unset, .unset, .unset, .unset, .unset, .unset, .unset, .unset, .unset, .unset, .unset, .unset, .unset, .unset, .unset, .unset, .unset] [(.int u3), (.int (p4 &&& (2147483647 : Int32)))])) X0 hx rfl (hb hby at_31) rfl (own_nz h_nbn b1_nbn) ?_
    exact kt
  obtain ⟨n9, h_n9, lt_n9⟩ := own_rem hu7 (own_mM _) h_nbn b1_nbn
  obtain ⟨u9, hu9⟩ : ∃ z, z = ((p5 &&& (255 : Int32)) % u1) := ⟨_, rfl⟩
  have sg10 : ∀ target, Steps p.tables e below (s₁.setTop (mkF m 43 #[.val (.int p1), .val (.int p2), .val (.int p3), .val (.int p4), .val (.int p5), .val (.int p6), .val (.int u1), .val (.int u3), .val (.int u5), .val (.int u7), .unset, .unset, .unset, .unset, .unset, .unset, .unset, .unset, .unset, .unset, .unset, .unset, .unset, .unset, .unset, .unset, .unset] [(.int u9)])) target → Steps p.tables e below (s₁.setTop (mkF m 32 #[.val (.int p1), .val (.int p2), .val (.int p3), .val (.int p4), .val (.int p5), .val (.int p6), .val (.int u1), .val (.int u3), .val (.int u5), .unset, .unset, .unset, .unset, .unset, .unset, .unset, .unset, .unset, .unset, .unset, .unset, .unset, .unset, .unset, .unset, .unset, .unset] [(.int u7)])) target := by
    intro target kt
    subst hu9
    show Steps p.tables e below (s₁.setTop (mkF m 32 #[.val (.int p1), .val (.int p2), .val (.int p3), .val (.int p4), .val (.int p5), .val (.int p6), .val (.int u1), .val (.int u3), .val (.int u5), .unset, .unset, .unset, .unset, .unset, .unset, .unset, .unset, .unset, .unset, .unset, .unset, .unset, .unset, .unset, .unset, .unset, .unset] [(.int u7)])) _
    refine XS.istore X0.here hx rfl (hb hby at_32) rfl (l' := #[.val (.int p1), .val (.int p2), .val (.int p3), .val (.int p4), .val (.int p5), .val (.int p6), .val (.int u1), .val (.int u3), .val (.int u5), .val (.int u7), .unset, .unset, .unset, .unset, .unset, .unset, .unset, .unset, .unset, .unset, .unset, .unset, .unset, .unset, .unset, .unset, .unset]) rfl ?_
    show Steps p.tables e below (s₁.setTop (mkF m 34 #[.val (.int p1), .val (.int p2), .val (.int p3), .val (.int p4), .val (.int p5), .val (.int p6), .val (.int u1), .val (.int u3), .val (.int u5), .val (.int u7), .unset, .unset, .unset, .unset, .unset, .unset, .unset, .unset, .unset, .unset, .unset, .unset, .unset, .unset, .unset, .unset, .unset] [])) _
    refine XS.iload X0.here hx rfl (hb hby at_34) rfl ?_
    show Steps p.tables e below (s₁.setTop (mkF m 36 #[.val (.int p1), .val (.int p2), .val (.int p3), .val (.int p4), .val (.int p5), .val (.int p6), .val (.int u1), .val (.int u3), .val (.int u5), .val (.int u7), .unset, .unset, .unset, .unset, .unset, .unset, .unset, .unset, .unset, .unset, .unset, .unset, .unset, .unset, .unset, .unset, .unset] [(.int p5)])) _
    refine XS.sipush X0.here hx rfl (hb hby at_36) ?_
    show Steps p.tables e below (s₁.setTop (mkF m 39 #[.val (.int p1), .val (.int p2), .val (.int p3), .val (.int p4), .val (.int p5), .val (.int p6), .val (.int u1), .val (.int u3), .val (.int u5), .val (.int u7), .unset, .unset, .unset, .unset, .unset, .unset, .unset, .unset, .unset, .unset, .unset, .unset, .unset, .unset, .unset, .unset, .unset] [(.int (255 : Int32)), (.int p5)])) _
    refine XS.iand X0.here hx rfl (hb hby at_39) rfl ?_
    show Steps p.tables e below (s₁.setTop (mkF m 40 #[.val (.int p1), .val (.int p2), .val (.int p3), .val (.int p4), .val (.int p5), .val (.int p6), .val (.int u1), .val (.int u3), .val (.int u5), .val (.int u7), .unset, .unset, .unset, .unset, .unset, .unset, .unset, .unset, .unset, .unset, .unset, .unset, .unset, .unset, .unset, .unset, .unset] [(.int (p5 &&& (255 : Int32)))])) _
    refine XS.iload X0.here hx rfl (hb hby at_40) rfl ?_
    show Steps p.tables e below (s₁.setTop (mkF m 42 #[.val (.int p1), .val (.int p2), .val (.int p3), .val (.int p4), .val (.int p5), .val (.int p6), .val (.int u1), .val (.int u3), .val (.int u5), .val (.int u7), .unset, .unset, .unset, .unset, .unset, .unset, .unset, .unset, .unset, .unset, .unset, .unset, .unset, .unset, .unset, .unset, .unset] [(.int u1), (.int (p5 &&& (255 : Int32)))])) _
    refine iremM (g := (mkF m 42 #[.val (.int p1), .val (.int p2), .val (.int p3), .val (.int p4), .val (.int p5), .val (.int p6), .val (.int u1), .val (.int u3), .val (.int u5), .val (.int u7), .unset, .unset, .unset, .unset, .unset, .unset, .unset, .unset, .unset, .unset, .unset, .unset, .unset, .unset, .unset, .unset, .unset] [(.int u1), (.int (p5 &&& (255 : Int32)))])) X0 hx rfl (hb hby at_42) rfl (own_nz h_own b1_own) ?_
    exact kt
  obtain ⟨n10, h_n10, lt_n10⟩ := own_rem hu9 (own_m255 _) h_own b1_own
  obtain ⟨u11, hu11⟩ : ∃ z, z = ((((p5.toUInt32 >>> ((8 : Int32) &&& 31).toUInt32).toInt32) &&& (255 : Int32)) % u3) := ⟨_, rfl⟩
  have sg12 : ∀ target, Steps p.tables e below (s₁.setTop (mkF m 57 #[.val (.int p1), .val (.int p2), .val (.int p3), .val (.int p4), .val (.int p5), .val (.int p6), .val (.int u1), .val (.int u3), .val (.int u5), .val (.int u7), .val (.int u9), .unset, .unset, .unset, .unset, .unset, .unset, .unset, .unset, .unset, .unset, .unset, .unset, .unset, .unset, .unset, .unset] [(.int u11)])) target → Steps p.tables e below (s₁.setTop (mkF m 43 #[.val (.int p1), .val (.int p2), .val (.int p3), .val (.int p4), .val (.int p5), .val (.int p6), .val (.int u1), .val (.int u3), .val (.int u5), .val (.int u7), .unset, .unset, .unset, .unset, .unset, .unset, .unset, .unset, .unset, .unset, .unset, .unset, .unset, .unset, .unset, .unset, .unset] [(.int u9)])) target := by
    intro target kt
    subst hu11
    show Steps p.tables e below (s₁.setTop (mkF m 43 #[.val (.int p1), .val (.int p2), .val (.int p3), .val (.int p4), .val (.int p5), .val (.int p6), .val (.int u1), .val (.int u3), .val (.int u5), .val (.int u7), .unset, .unset, .unset, .unset, .unset, .unset, .unset, .unset, .unset, .unset, .unset, .unset, .unset, .unset, .unset, .unset, .unset] [(.int u9)])) _
    refine XS.istore X0.here hx rfl (hb hby at_43) rfl (l' := #[.val (.int p1), .val (.int p2), .val (.int p3), .val (.int p4), .val (.int p5), .val (.int p6), .val (.int u1), .val (.int u3), .val (.int u5), .val (.int u7), .val (.int u9), .unset, .unset, .unset, .unset, .unset, .unset, .unset, .unset, .unset, .unset, .unset, .unset, .unset, .unset, .unset, .unset]) rfl ?_
    show Steps p.tables e below (s₁.setTop (mkF m 45 #[.val (.int p1), .val (.int p2), .val (.int p3), .val (.int p4), .val (.int p5), .val (.int p6), .val (.int u1), .val (.int u3), .val (.int u5), .val (.int u7), .val (.int u9), .unset, .unset, .unset, .unset, .unset, .unset, .unset, .unset, .unset, .unset, .unset, .unset, .unset, .unset, .unset, .unset] [])) _
    refine XS.iload X0.here hx rfl (hb hby at_45) rfl ?_
    show Steps p.tables e below (s₁.setTop (mkF m 47 #[.val (.int p1), .val (.int p2), .val (.int p3), .val (.int p4), .val (.int p5), .val (.int p6), .val (.int u1), .val (.int u3), .val (.int u5), .val (.int u7), .val (.int u9), .unset, .unset, .unset, .unset, .unset, .unset, .unset, .unset, .unset, .unset, .unset, .unset, .unset, .unset, .unset, .unset] [(.int p5)])) _
    refine XS.bipush X0.here hx rfl (hb hby at_47) ?_
    show Steps p.tables e below (s₁.setTop (mkF m 49 #[.val (.int p1), .val (.int p2), .val (.int p3), .val (.int p4), .val (.int p5), .val (.int p6), .val (.int u1), .val (.int u3), .val (.int u5), .val (.int u7), .val (.int u9), .unset, .unset, .unset, .unset, .unset, .unset, .unset, .unset, .unset, .unset, .unset, .unset, .unset, .unset, .unset, .unset] [(.int (8 : Int32)), (.int p5)])) _
    refine XS.iushr X0.here hx rfl (hb hby at_49) rfl ?_
    show Steps p.tables e below (s₁.setTop (mkF m 50 #[.val (.int p1), .val (.int p2), .val (.int p3), .val (.int p4), .val (.int p5), .val (.int p6), .val (.int u1), .val (.int u3), .val (.int u5), .val (.int u7), .val (.int u9), .unset, .unset, .unset, .unset, .unset, .unset, .unset, .unset, .unset, .unset, .unset, .unset, .unset, .unset, .unset, .unset] [(.int ((p5.toUInt32 >>> ((8 : Int32) &&& 31).toUInt32).toInt32))])) _
    refine XS.sipush X0.here hx rfl (hb hby at_50) ?_
    show Steps p.tables e below (s₁.setTop (mkF m 53 #[.val (.int p1), .val (.int p2), .val (.int p3), .val (.int p4), .val (.int p5), .val (.int p6), .val (.int u1), .val (.int u3), .val (.int u5), .val (.int u7), .val (.int u9), .unset, .unset, .unset, .unset, .unset, .unset, .unset, .unset, .unset, .unset, .unset, .unset, .unset, .unset, .unset, .unset] [(.int (255 : Int32)), (.int ((p5.toUInt32 >>> ((8 : Int32) &&& 31).toUInt32).toInt32))])) _
    refine XS.iand X0.here hx rfl (hb hby at_53) rfl ?_
    show Steps p.tables e below (s₁.setTop (mkF m 54 #[.val (.int p1), .val (.int p2), .val (.int p3), .val (.int p4), .val (.int p5), .val (.int p6), .val (.int u1), .val (.int u3), .val (.int u5), .val (.int u7), .val (.int u9), .unset, .unset, .unset, .unset, .unset, .unset, .unset, .unset, .unset, .unset, .unset, .unset, .unset, .unset, .unset, .unset] [(.int (((p5.toUInt32 >>> ((8 : Int32) &&& 31).toUInt32).toInt32) &&& (255 : Int32)))])) _
    refine XS.iload X0.here hx rfl (hb hby at_54) rfl ?_
    show Steps p.tables e below (s₁.setTop (mkF m 56 #[.val (.int p1), .val (.int p2), .val (.int p3), .val (.int p4), .val (.int p5), .val (.int p6), .val (.int u1), .val (.int u3), .val (.int u5), .val (.int u7), .val (.int u9), .unset, .unset, .unset, .unset, .unset, .unset, .unset, .unset, .unset, .unset, .unset, .unset, .unset, .unset, .unset, .unset] [(.int u3), (.int (((p5.toUInt32 >>> ((8 : Int32) &&& 31).toUInt32).toInt32) &&& (255 : Int32)))])) _
    refine iremM (g := (mkF m 56 #[.val (.int p1), .val (.int p2), .val (.int p3), .val (.int p4), .val (.int p5), .val (.int p6), .val (.int u1), .val (.int u3), .val (.int u5), .val (.int u7), .val (.int u9), .unset, .unset, .unset, .unset, .unset, .unset, .unset, .unset, .unset, .unset, .unset, .unset, .unset, .unset, .unset, .unset] [(.int u3), (.int (((p5.toUInt32 >>> ((8 : Int32) &&& 31).toUInt32).toInt32) &&& (255 : Int32)))])) X0 hx rfl (hb hby at_56) rfl (own_nz h_nbn b1_nbn) ?_
    exact kt
  obtain ⟨n11, h_n11, lt_n11⟩ := own_rem hu11 (own_m255 _) h_nbn b1_nbn
  obtain ⟨u13, hu13⟩ : ∃ z, z = ((((p5.toUInt32 >>> ((16 : Int32) &&& 31).toUInt32).toInt32) &&& (15 : Int32)) % u1) := ⟨_, rfl⟩
  have sg14 : ∀ target, Steps p.tables e below (s₁.setTop (mkF m 70 #[.val (.int p1), .val (.int p2), .val (.int p3), .val (.int p4), .val (.int p5), .val (.int p6), .val (.int u1), .val (.int u3), .val (.int u5), .val (.int u7), .val (.int u9), .val (.int u11), .unset, .unset, .unset, .unset, .unset, .unset, .unset, .unset, .unset, .unset, .unset, .unset, .unset, .unset, .unset] [(.int u13)])) target → Steps p.tables e below (s₁.setTop (mkF m 57 #[.val (.int p1), .val (.int p2), .val (.int p3), .val (.int p4), .val (.int p5), .val (.int p6), .val (.int u1), .val (.int u3), .val (.int u5), .val (.int u7), .val (.int u9), .unset, .unset, .unset, .unset, .unset, .unset, .unset, .unset, .unset, .unset, .unset, .unset, .unset, .unset, .unset, .unset] [(.int u11)])) target := by
    intro target kt
    subst hu13
    show Steps p.tables e below (s₁.setTop (mkF m 57 #[.val (.int p1), .val (.int p2), .val (.int p3), .val (.int p4), .val (.int p5), .val (.int p6), .val (.int u1), .val (.int u3), .val (.int u5), .val (.int u7), .val (.int u9), .unset, .unset, .unset, .unset, .unset, .unset, .unset, .unset, .unset, .unset, .unset, .unset, .unset, .unset, .unset, .unset] [(.int u11)])) _
    refine XS.istore X0.here hx rfl (hb hby at_57) rfl (l' := #[.val (.int p1), .val (.int p2), .val (.int p3), .val (.int p4), .val (.int p5), .val (.int p6), .val (.int u1), .val (.int u3), .val (.int u5), .val (.int u7), .val (.int u9), .val (.int u11), .unset, .unset, .unset, .unset, .unset, .unset, .unset, .unset, .unset, .unset, .unset, .unset, .unset, .unset, .unset]) rfl ?_
    show Steps p.tables e below (s₁.setTop (mkF m 59 #[.val (.int p1), .val (.int p2), .val (.int p3), .val (.int p4), .val (.int p5), .val (.int p6), .val (.int u1), .val (.int u3), .val (.int u5), .val (.int u7), .val (.int u9), .val (.int u11), .unset, .unset, .unset, .unset, .unset, .unset, .unset, .unset, .unset, .unset, .unset, .unset, .unset, .unset, .unset] [])) _
    refine XS.iload X0.here hx rfl (hb hby at_59) rfl ?_
    show Steps p.tables e below (s₁.setTop (mkF m 61 #[.val (.int p1), .val (.int p2), .val (.int p3), .val (.int p4), .val (.int p5), .val (.int p6), .val (.int u1), .val (.int u3), .val (.int u5), .val (.int u7), .val (.int u9), .val (.int u11), .unset, .unset, .unset, .unset, .unset, .unset, .unset, .unset, .unset, .unset, .unset, .unset, .unset, .unset, .unset] [(.int p5)])) _
    refine XS.bipush X0.here hx rfl (hb hby at_61) ?_
    show Steps p.tables e below (s₁.setTop (mkF m 63 #[.val (.int p1), .val (.int p2), .val (.int p3), .val (.int p4), .val (.int p5), .val (.int p6), .val (.int u1), .val (.int u3), .val (.int u5), .val (.int u7), .val (.int u9), .val (.int u11), .unset, .unset, .unset, .unset, .unset, .unset, .unset, .unset, .unset, .unset, .unset, .unset, .unset, .unset, .unset] [(.int (16 : Int32)), (.int p5)])) _
    refine XS.iushr X0.here hx rfl (hb hby at_63) rfl ?_
    show Steps p.tables e below (s₁.setTop (mkF m 64 #[.val (.int p1), .val (.int p2), .val (.int p3), .val (.int p4), .val (.int p5), .val (.int p6), .val (.int u1), .val (.int u3), .val (.int u5), .val (.int u7), .val (.int u9), .val (.int u11), .unset, .unset, .unset, .unset, .unset, .unset, .unset, .unset, .unset, .unset, .unset, .unset, .unset, .unset, .unset] [(.int ((p5.toUInt32 >>> ((16 : Int32) &&& 31).toUInt32).toInt32))])) _
    refine XS.bipush X0.here hx rfl (hb hby at_64) ?_
    show Steps p.tables e below (s₁.setTop (mkF m 66 #[.val (.int p1), .val (.int p2), .val (.int p3), .val (.int p4), .val (.int p5), .val (.int p6), .val (.int u1), .val (.int u3), .val (.int u5), .val (.int u7), .val (.int u9), .val (.int u11), .unset, .unset, .unset, .unset, .unset, .unset, .unset, .unset, .unset, .unset, .unset, .unset, .unset, .unset, .unset] [(.int (15 : Int32)), (.int ((p5.toUInt32 >>> ((16 : Int32) &&& 31).toUInt32).toInt32))])) _
    refine XS.iand X0.here hx rfl (hb hby at_66) rfl ?_
    show Steps p.tables e below (s₁.setTop (mkF m 67 #[.val (.int p1), .val (.int p2), .val (.int p3), .val (.int p4), .val (.int p5), .val (.int p6), .val (.int u1), .val (.int u3), .val (.int u5), .val (.int u7), .val (.int u9), .val (.int u11), .unset, .unset, .unset, .unset, .unset, .unset, .unset, .unset, .unset, .unset, .unset, .unset, .unset, .unset, .unset] [(.int (((p5.toUInt32 >>> ((16 : Int32) &&& 31).toUInt32).toInt32) &&& (15 : Int32)))])) _
    refine XS.iload X0.here hx rfl (hb hby at_67) rfl ?_
    show Steps p.tables e below (s₁.setTop (mkF m 69 #[.val (.int p1), .val (.int p2), .val (.int p3), .val (.int p4), .val (.int p5), .val (.int p6), .val (.int u1), .val (.int u3), .val (.int u5), .val (.int u7), .val (.int u9), .val (.int u11), .unset, .unset, .unset, .unset, .unset, .unset, .unset, .unset, .unset, .unset, .unset, .unset, .unset, .unset, .unset] [(.int u1), (.int (((p5.toUInt32 >>> ((16 : Int32) &&& 31).toUInt32).toInt32) &&& (15 : Int32)))])) _
    refine iremM (g := (mkF m 69 #[.val (.int p1), .val (.int p2), .val (.int p3), .val (.int p4), .val (.int p5), .val (.int p6), .val (.int u1), .val (.int u3), .val (.int u5), .val (.int u7), .val (.int u9), .val (.int u11), .unset, .unset, .unset, .unset, .unset, .unset, .unset, .unset, .unset, .unset, .unset, .unset, .unset, .unset, .unset] [(.int u1), (.int (((p5.toUInt32 >>> ((16 : Int32) &&& 31).toUInt32).toInt32) &&& (15 : Int32)))])) X0 hx rfl (hb hby at_69) rfl (own_nz h_own b1_own) ?_
    exact kt
  obtain ⟨n12, h_n12, lt_n12⟩ := own_rem hu13 (own_m15 _) h_own b1_own
  obtain ⟨u15, hu15⟩ : ∃ z, z = ((((p5.toUInt32 >>> ((20 : Int32) &&& 31).toUInt32).toInt32) &&& (15 : Int32)) % u3) := ⟨_, rfl⟩
  have sg16 : ∀ target, Steps p.tables e below (s₁.setTop (mkF m 83 #[.val (.int p1), .val (.int p2), .val (.int p3), .val (.int p4), .val (.int p5), .val (.int p6), .val (.int u1), .val (.int u3), .val (.int u5), .val (.int u7), .val (.int u9), .val (.int u11), .val (.int u13), .unset, .unset, .unset, .unset, .unset, .unset, .unset, .unset, .unset, .unset, .unset, .unset, .unset, .unset] [(.int u15)])) target → Steps p.tables e below (s₁.setTop (mkF m 70 #[.val (.int p1), .val (.int p2), .val (.int p3), .val (.int p4), .val (.int p5), .val (.int p6), .val (.int u1), .val (.int u3), .val (.int u5), .val (.int u7), .val (.int u9), .val (.int u11), .unset, .unset, .unset, .unset, .unset, .unset, .unset, .unset, .unset, .unset, .unset, .unset, .unset, .unset, .unset] [(.int u13)])) target := by
    intro target kt
    subst hu15
    show Steps p.tables e below (s₁.setTop (mkF m 70 #[.val (.int p1), .val (.int p2), .val (.int p3), .val (.int p4), .val (.int p5), .val (.int p6), .val (.int u1), .val (.int u3), .val (.int u5), .val (.int u7), .val (.int u9), .val (.int u11), .unset, .unset, .unset, .unset, .unset, .unset, .unset, .unset, .unset, .unset, .unset, .unset, .unset, .unset, .unset] [(.int u13)])) _
    refine XS.istore X0.here hx rfl (hb hby at_70) rfl (l' := #[.val (.int p1), .val (.int p2), .val (.int p3), .val (.int p4), .val (.int p5), .val (.int p6), .val (.int u1), .val (.int u3), .val (.int u5), .val (.int u7), .val (.int u9), .val (.int u11), .val (.int u13), .unset, .unset, .unset, .unset, .unset, .unset, .unset, .unset, .unset, .unset, .unset, .unset, .unset, .unset]) rfl ?_
    show Steps p.tables e below (s₁.setTop (mkF m 72 #[.val (.int p1), .val (.int p2), .val (.int p3), .val (.int p4), .val (.int p5), .val (.int p6), .val (.int u1), .val (.int u3), .val (.int u5), .val (.int u7), .val (.int u9), .val (.int u11), .val (.int u13), .unset, .unset, .unset, .unset, .unset, .unset, .unset, .unset, .unset, .unset, .unset, .unset, .unset, .unset] [])) _
    refine XS.iload X0.here hx rfl (hb hby at_72) rfl ?_
    show Steps p.tables e below (s₁.setTop (mkF m 74 #[.val (.int p1), .val (.int p2), .val (.int p3), .val (.int p4), .val (.int p5), .val (.int p6), .val (.int u1), .val (.int u3), .val (.int u5), .val (.int u7), .val (.int u9), .val (.int u11), .val (.int u13), .unset, .unset, .unset, .unset, .unset, .unset, .unset, .unset, .unset, .unset, .unset, .unset, .unset, .unset] [(.int p5)])) _
    refine XS.bipush X0.here hx rfl (hb hby at_74) ?_
    show Steps p.tables e below (s₁.setTop (mkF m 76 #[.val (.int p1), .val (.int p2), .val (.int p3), .val (.int p4), .val (.int p5), .val (.int p6), .val (.int u1), .val (.int u3), .val (.int u5), .val (.int u7), .val (.int u9), .val (.int u11), .val (.int u13), .unset, .unset, .unset, .unset, .unset, .unset, .unset, .unset, .unset, .unset, .unset, .unset, .unset, .unset] [(.int (20 : Int32)), (.int p5)])) _
    refine XS.iushr X0.here hx rfl (hb hby at_76) rfl ?_
    show Steps p.tables e below (s₁.setTop (mkF m 77 #[.val (.int p1), .val (.int p2), .val (.int p3), .val (.int p4), .val (.int p5), .val (.int p6), .val (.int u1), .val (.int u3), .val (.int u5), .val (.int u7), .val (.int u9), .val (.int u11), .val (.int u13), .unset, .unset, .unset, .unset, .unset, .unset, .unset, .unset, .unset, .unset, .unset, .unset, .unset, .unset] [(.int ((p5.toUInt32 >>> ((20 : Int32) &&& 31).toUInt32).toInt32))])) _
    refine XS.bipush X0.here hx rfl (hb hby at_77) ?_
    show Steps p.tables e below (s₁.setTop (mkF m 79 #[.val (.int p1), .val (.int p2), .val (.int p3), .val (.int p4), .val (.int p5), .val (.int p6), .val (.int u1), .val (.int u3), .val (.int u5), .val (.int u7), .val (.int u9), .val (.int u11), .val (.int u13), .unset, .unset, .unset, .unset, .unset, .unset, .unset, .unset, .unset, .unset, .unset, .unset, .unset, .unset] [(.int (15 : Int32)), (.int ((p5.toUInt32 >>> ((20 : Int32) &&& 31).toUInt32).toInt32))])) _
    refine XS.iand X0.here hx rfl (hb hby at_79) rfl ?_
    show Steps p.tables e below (s₁.setTop (mkF m 80 #[.val (.int p1), .val (.int p2), .val (.int p3), .val (.int p4), .val (.int p5), .val (.int p6), .val (.int u1), .val (.int u3), .val (.int u5), .val (.int u7), .val (.int u9), .val (.int u11), .val (.int u13), .unset, .unset, .unset, .unset, .unset, .unset, .unset, .unset, .unset, .unset, .unset, .unset, .unset, .unset] [(.int (((p5.toUInt32 >>> ((20 : Int32) &&& 31).toUInt32).toInt32) &&& (15 : Int32)))])) _
    refine XS.iload X0.here hx rfl (hb hby at_80) rfl ?_
    show Steps p.tables e below (s₁.setTop (mkF m 82 #[.val (.int p1), .val (.int p2), .val (.int p3), .val (.int p4), .val (.int p5), .val (.int p6), .val (.int u1), .val (.int u3), .val (.int u5), .val (.int u7), .val (.int u9), .val (.int u11), .val (.int u13), .unset, .unset, .unset, .unset, .unset, .unset, .unset, .unset, .unset, .unset, .unset, .unset, .unset, .unset] [(.int u3), (.int (((p5.toUInt32 >>> ((20 : Int32) &&& 31).toUInt32).toInt32) &&& (15 : Int32)))])) _
    refine iremM (g := (mkF m 82 #[.val (.int p1), .val (.int p2), .val (.int p3), .val (.int p4), .val (.int p5), .val (.int p6), .val (.int u1), .val (.int u3), .val (.int u5), .val (.int u7), .val (.int u9), .val (.int u11), .val (.int u13), .unset, .unset, .unset, .unset, .unset, .unset, .unset, .unset, .unset, .unset, .unset, .unset, .unset, .unset] [(.int u3), (.int (((p5.toUInt32 >>> ((20 : Int32) &&& 31).toUInt32).toInt32) &&& (15 : Int32)))])) X0 hx rfl (hb hby at_82) rfl (own_nz h_nbn b1_nbn) ?_
    exact kt
  obtain ⟨n13, h_n13, lt_n13⟩ := own_rem hu15 (own_m15 _) h_nbn b1_nbn
  obtain ⟨u17, hu17⟩ : ∃ z, z = ((((p5.toUInt32 >>> ((24 : Int32) &&& 31).toUInt32).toInt32) &&& (15 : Int32)) % u1) := ⟨_, rfl⟩
  have sg18 : ∀ target, Steps p.tables e below (s₁.setTop (mkF m 96 #[.val (.int p1), .val (.int p2), .val (.int p3), .val (.int p4), .val (.int p5), .val (.int p6), .val (.int u1), .val (.int u3), .val (.int u5), .val (.int u7), .val (.int u9), .val (.int u11), .val (.int u13), .val (.int u15), .unset, .unset, .unset, .unset, .unset, .unset, .unset, .unset, .unset, .unset, .unset, .unset, .unset] [(.int u17)])) target → Steps p.tables e below (s₁.setTop (mkF m 83 #[.val (.int p1), .val (.int p2), .val (.int p3), .val (.int p4), .val (.int p5), .val (.int p6), .val (.int u1), .val (.int u3), .val (.int u5), .val (.int u7), .val (.int u9), .val (.int u11), .val (.int u13), .unset, .unset, .unset, .unset, .unset, .unset, .unset, .unset, .unset, .unset, .unset, .unset, .unset, .unset] [(.int u15)])) target := by
    intro target kt
    subst hu17
    show Steps p.tables e below (s₁.setTop (mkF m 83 #[.val (.int p1), .val (.int p2), .val (.int p3), .val (.int p4), .val (.int p5), .val (.int p6), .val (.int u1), .val (.int u3), .val (.int u5), .val (.int u7), .val (.int u9), .val (.int u11), .val (.int u13), .unset, .unset, .unset, .unset, .unset, .unset, .unset, .unset, .unset, .unset, .unset, .unset, .unset, .unset] [(.int u15)])) _
    refine XS.istore X0.here hx rfl (hb hby at_83) rfl (l' := #[.val (.int p1), .val (.int p2), .val (.int p3), .val (.int p4), .val (.int p5), .val (.int p6), .val (.int u1), .val (.int u3), .val (.int u5), .val (.int u7), .val (.int u9), .val (.int u11), .val (.int u13), .val (.int u15), .unset, .unset, .unset, .unset, .unset, .unset, .unset, .unset, .unset, .unset, .unset, .unset, .unset]) rfl ?_
    show Steps p.tables e below (s₁.setTop (mkF m 85 #[.val (.int p1), .val (.int p2), .val (.int p3), .val (.int p4), .val (.int p5), .val (.int p6), .val (.int u1), .val (.int u3), .val (.int u5), .val (.int u7), .val (.int u9), .val (.int u11), .val (.int u13), .val (.int u15), .unset, .unset, .unset, .unset, .unset, .unset, .unset, .unset, .unset, .unset, .unset, .unset, .unset] [])) _
    refine XS.iload X0.here hx rfl (hb hby at_85) rfl ?_
    show Steps p.tables e below (s₁.setTop (mkF m 87 #[.val (.int p1), .val (.int p2), .val (.int p3), .val (.int p4), .val (.int p5), .val (.int p6), .val (.int u1), .val (.int u3), .val (.int u5), .val (.int u7), .val (.int u9), .val (.int u11), .val (.int u13), .val (.int u15), .unset, .unset, .unset, .unset, .unset, .unset, .unset, .unset, .unset, .unset, .unset, .unset, .unset] [(.int p5)])) _
    refine XS.bipush X0.here hx rfl (hb hby at_87) ?_
    show Steps p.tables e below (s₁.setTop (mkF m 89 #[.val (.int p1), .val (.int p2), .val (.int p3), .val (.int p4), .val (.int p5), .val (.int p6), .val (.int u1), .val (.int u3), .val (.int u5), .val (.int u7), .val (.int u9), .val (.int u11), .val (.int u13), .val (.int u15), .unset, .unset, .unset, .unset, .unset, .unset, .unset, .unset, .unset, .unset, .unset, .unset, .unset] [(.int (24 : Int32)), (.int p5)])) _
    refine XS.iushr X0.here hx rfl (hb hby at_89) rfl ?_
    show Steps p.tables e below (s₁.setTop (mkF m 90 #[.val (.int p1), .val (.int p2), .val (.int p3), .val (.int p4), .val (.int p5), .val (.int p6), .val (.int u1), .val (.int u3), .val (.int u5), .val (.int u7), .val (.int u9), .val (.int u11), .val (.int u13), .val (.int u15), .unset, .unset, .unset, .unset, .unset, .unset, .unset, .unset, .unset, .unset, .unset, .unset, .unset] [(.int ((p5.toUInt32 >>> ((24 : Int32) &&& 31).toUInt32).toInt32))])) _
    refine XS.bipush X0.here hx rfl (hb hby at_90) ?_
    show Steps p.tables e below (s₁.setTop (mkF m 92 #[.val (.int p1), .val (.int p2), .val (.int p3), .val (.int p4), .val (.int p5), .val (.int p6), .val (.int u1), .val (.int u3), .val (.int u5), .val (.int u7), .val (.int u9), .val (.int u11), .val (.int u13), .val (.int u15), .unset, .unset, .unset, .unset, .unset, .unset, .unset, .unset, .unset, .unset, .unset, .unset, .unset] [(.int (15 : Int32)), (.int ((p5.toUInt32 >>> ((24 : Int32) &&& 31).toUInt32).toInt32))])) _
    refine XS.iand X0.here hx rfl (hb hby at_92) rfl ?_
    show Steps p.tables e below (s₁.setTop (mkF m 93 #[.val (.int p1), .val (.int p2), .val (.int p3), .val (.int p4), .val (.int p5), .val (.int p6), .val (.int u1), .val (.int u3), .val (.int u5), .val (.int u7), .val (.int u9), .val (.int u11), .val (.int u13), .val (.int u15), .unset, .unset, .unset, .unset, .unset, .unset, .unset, .unset, .unset, .unset, .unset, .unset, .unset] [(.int (((p5.toUInt32 >>> ((24 : Int32) &&& 31).toUInt32).toInt32) &&& (15 : Int32)))])) _
    refine XS.iload X0.here hx rfl (hb hby at_93) rfl ?_
    show Steps p.tables e below (s₁.setTop (mkF m 95 #[.val (.int p1), .val (.int p2), .val (.int p3), .val (.int p4), .val (.int p5), .val (.int p6), .val (.int u1), .val (.int u3), .val (.int u5), .val (.int u7), .val (.int u9), .val (.int u11), .val (.int u13), .val (.int u15), .unset, .unset, .unset, .unset, .unset, .unset, .unset, .unset, .unset, .unset, .unset, .unset, .unset] [(.int u1), (.int (((p5.toUInt32 >>> ((24 : Int32) &&& 31).toUInt32).toInt32) &&& (15 : Int32)))])) _
    refine iremM (g := (mkF m 95 #[.val (.int p1), .val (.int p2), .val (.int p3), .val (.int p4), .val (.int p5), .val (.int p6), .val (.int u1), .val (.int u3), .val (.int u5), .val (.int u7), .val (.int u9), .val (.int u11), .val (.int u13), .val (.int u15), .unset, .unset, .unset, .unset, .unset, .unset, .unset, .unset, .unset, .unset, .unset, .unset, .unset] [(.int u1), (.int (((p5.toUInt32 >>> ((24 : Int32) &&& 31).toUInt32).toInt32) &&& (15 : Int32)))])) X0 hx rfl (hb hby at_95) rfl (own_nz h_own b1_own) ?_
    exact kt
  obtain ⟨n14, h_n14, lt_n14⟩ := own_rem hu17 (own_m15 _) h_own b1_own
  obtain ⟨u19, hu19⟩ : ∃ z, z = ((((p5.toUInt32 >>> ((28 : Int32) &&& 31).toUInt32).toInt32) &&& (15 : Int32)) % u3) := ⟨_, rfl⟩
  have sg20 : ∀ target, Steps p.tables e below (s₁.setTop (mkF m 109 #[.val (.int p1), .val (.int p2), .val (.int p3), .val (.int p4), .val (.int p5), .val (.int p6), .val (.int u1), .val (.int u3), .val (.int u5), .val (.int u7), .val (.int u9), .val (.int u11), .val (.int u13), .val (.int u15), .val (.int u17), .unset, .unset, .unset, .unset, .unset, .unset, .unset, .unset, .unset, .unset, .unset, .unset] [(.int u19)])) target → Steps p.tables e below (s₁.setTop (mkF m 96 #[.val (.int p1), .val (.int p2), .val (.int p3), .val (.int p4), .val (.int p5), .val (.int p6), .val (.int u1), .val (.int u3), .val (.int u5), .val (.int u7), .val (.int u9), .val (.int u11), .val (.int u13), .val (.int u15), .unset, .unset, .unset, .unset, .unset, .unset, .unset, .unset, .unset, .unset, .unset, .unset, .unset] [(.int u17)])) target := by
    intro target kt
    subst hu19
    show Steps p.tables e below (s₁.setTop (mkF m 96 #[.val (.int p1), .val (.int p2), .val (.int p3), .val (.int p4), .val (.int p5), .val (.int p6), .val (.int u1), .val (.int u3), .val (.int u5), .val (.int u7), .val (.int u9), .val (.int u11), .val (.int u13), .val (.int u15), .unset, .unset, .unset, .unset, .unset, .unset, .unset, .unset, .unset, .unset, .unset, .unset, .unset] [(.int u17)])) _
    refine XS.istore X0.here hx rfl (hb hby at_96) rfl (l' := #[.val (.int p1), .val (.int p2), .val (.int p3), .val (.int p4), .val (.int p5), .val (.int p6), .val (.int u1), .val (.int u3), .val (.int u5), .val (.int u7), .val (.int u9), .val (.int u11), .val (.int u13), .val (.int u15), .val (.int u17), .unset, .unset, .unset, .unset, .unset, .unset, .unset, .unset, .unset, .unset, .unset, .unset]) rfl ?_
    show Steps p.tables e below (s₁.setTop (mkF m 98 #[.val (.int p1), .val (.int p2), .val (.int p3), .val (.int p4), .val (.int p5), .val (.int p6), .val (.int u1), .val (.int u3), .val (.int u5), .val (.int u7), .val (.int u9), .val (.int u11), .val (.int u13), .val (.int u15), .val (.int u17), .unset, .unset, .unset, .unset, .unset, .unset, .unset, .unset, .unset, .unset, .unset, .unset] [])) _
    refine XS.iload X0.here hx rfl (hb hby at_98) rfl ?_
    show Steps p.tables e below (s₁.setTop (mkF m 100 #[.val (.int p1), .val (.int p2), .val (.int p3), .val (.int p4), .val (.int p5), .val (.int p6), .val (.int u1), .val (.int u3), .val (.int u5), .val (.int u7), .val (.int u9), .val (.int u11), .val (.int u13), .val (.int u15), .val (.int u17), .unset, .unset, .unset, .unset, .unset, .unset, .unset, .unset, .unset, .unset, .unset, .unset] [(.int p5)])) _
    refine XS.bipush X0.here hx rfl (hb hby at_100) ?_
    show Steps p.tables e below (s₁.setTop (mkF m 102 #[.val (.int p1), .val (.int p2), .val (.int p3), .val (.int p4), .val (.int p5), .val (.int p6), .val (.int u1), .val (.int u3), .val (.int u5), .val (.int u7), .val (.int u9), .val (.int u11), .val (.int u13), .val (.int u15), .val (.int u17), .unset, .unset, .unset, .unset, .unset, .unset, .unset, .unset, .unset, .unset, .unset, .unset] [(.int (28 : Int32)), (.int p5)])) _
    refine XS.iushr X0.here hx rfl (hb hby at_102) rfl ?_
    show Steps p.tables e below (s₁.setTop (mkF m 103 #[.val (.int p1), .val (.int p2), .val (.int p3), .val (.int p4), .val (.int p5), .val (.int p6), .val (.int u1), .val (.int u3), .val (.int u5), .val (.int u7), .val (.int u9), .val (.int u11), .val (.int u13), .val (.int u15), .val (.int u17), .unset, .unset, .unset, .unset, .unset, .unset, .unset, .unset, .unset, .unset, .unset, .unset] [(.int ((p5.toUInt32 >>> ((28 : Int32) &&& 31).toUInt32).toInt32))])) _
    refine XS.bipush X0.here hx rfl (hb hby at_103) ?_
    show Steps p.tables e below (s₁.setTop (mkF m 105 #[.val (.int p1), .val (.int p2), .val (.int p3), .val (.int p4), .val (.int p5), .val (.int p6), .val (.int u1), .val (.int u3), .val (.int u5), .val (.int u7), .val (.int u9), .val (.int u11), .val (.int u13), .val (.int u15), .val (.int u17), .unset, .unset, .unset, .unset, .unset, .unset, .unset, .unset, .unset, .unset, .unset, .unset] [(.int (15 : Int32)), (.int ((p5.toUInt32 >>> ((28 : Int32) &&& 31).toUInt32).toInt32))])) _
    refine XS.iand X0.here hx rfl (hb hby at_105) rfl ?_
    show Steps p.tables e below (s₁.setTop (mkF m 106 #[.val (.int p1), .val (.int p2), .val (.int p3), .val (.int p4), .val (.int p5), .val (.int p6), .val (.int u1), .val (.int u3), .val (.int u5), .val (.int u7), .val (.int u9), .val (.int u11), .val (.int u13), .val (.int u15), .val (.int u17), .unset, .unset, .unset, .unset, .unset, .unset, .unset, .unset, .unset, .unset, .unset, .unset] [(.int (((p5.toUInt32 >>> ((28 : Int32) &&& 31).toUInt32).toInt32) &&& (15 : Int32)))])) _
    refine XS.iload X0.here hx rfl (hb hby at_106) rfl ?_
    show Steps p.tables e below (s₁.setTop (mkF m 108 #[.val (.int p1), .val (.int p2), .val (.int p3), .val (.int p4), .val (.int p5), .val (.int p6), .val (.int u1), .val (.int u3), .val (.int u5), .val (.int u7), .val (.int u9), .val (.int u11), .val (.int u13), .val (.int u15), .val (.int u17), .unset, .unset, .unset, .unset, .unset, .unset, .unset, .unset, .unset, .unset, .unset, .unset] [(.int u3), (.int (((p5.toUInt32 >>> ((28 : Int32) &&& 31).toUInt32).toInt32) &&& (15 : Int32)))])) _
    refine iremM (g := (mkF m 108 #[.val (.int p1), .val (.int p2), .val (.int p3), .val (.int p4), .val (.int p5), .val (.int p6), .val (.int u1), .val (.int u3), .val (.int u5), .val (.int u7), .val (.int u9), .val (.int u11), .val (.int u13), .val (.int u15), .val (.int u17), .unset, .unset, .unset, .unset, .unset, .unset, .unset, .unset, .unset, .unset, .unset, .unset] [(.int u3), (.int (((p5.toUInt32 >>> ((28 : Int32) &&& 31).toUInt32).toInt32) &&& (15 : Int32)))])) X0 hx rfl (hb hby at_108) rfl (own_nz h_nbn b1_nbn) ?_
    exact kt
  obtain ⟨n15, h_n15, lt_n15⟩ := own_rem hu19 (own_m15 _) h_nbn b1_nbn
  have sg21 : ∀ target, Steps p.tables e below (s₁.setTop (mkF m 111 #[.val (.int p1), .val (.int p2), .val (.int p3), .val (.int p4), .val (.int p5), .val (.int p6), .val (.int u1), .val (.int u3), .val (.int u5), .val (.int u7), .val (.int u9), .val (.int u11), .val (.int u13), .val (.int u15), .val (.int u17), .val (.int u19), .unset, .unset, .unset, .unset, .unset, .unset, .unset, .unset, .unset, .unset, .unset] [])) target → Steps p.tables e below (s₁.setTop (mkF m 109 #[.val (.int p1), .val (.int p2), .val (.int p3), .val (.int p4), .val (.int p5), .val (.int p6), .val (.int u1), .val (.int u3), .val (.int u5), .val (.int u7), .val (.int u9), .val (.int u11), .val (.int u13), .val (.int u15), .val (.int u17), .unset, .unset, .unset, .unset, .unset, .unset, .unset, .unset, .unset, .unset, .unset, .unset] [(.int u19)])) target := by
    intro target kt
    show Steps p.tables e below (s₁.setTop (mkF m 109 #[.val (.int p1), .val (.int p2), .val (.int p3), .val (.int p4), .val (.int p5), .val (.int p6), .val (.int u1), .val (.int u3), .val (.int u5), .val (.int u7), .val (.int u9), .val (.int u11), .val (.int u13), .val (.int u15), .val (.int u17), .unset, .unset, .unset, .unset, .unset, .unset, .unset, .unset, .unset, .unset, .unset, .unset] [(.int u19)])) _
    refine XS.istore X0.here hx rfl (hb hby at_109) rfl (l' := #[.val (.int p1), .val (.int p2), .val (.int p3), .val (.int p4), .val (.int p5), .val (.int p6), .val (.int u1), .val (.int u3), .val (.int u5), .val (.int u7), .val (.int u9), .val (.int u11), .val (.int u13), .val (.int u15), .val (.int u17), .val (.int u19), .unset, .unset, .unset, .unset, .unset, .unset, .unset, .unset, .unset, .unset, .unset]) rfl ?_
    exact kt
  obtain ⟨T26, L26, v26_t0, X26, e26, N26, sg26⟩ : ∃ (T' : State) (L' : List Loc) (v26_t0 : Int32), Stand p l e room_1 s m #[(.int p1), (.int p2), (.int p3), (.int p4), (.int p5), (.int p6)] below meth c T' L' 0 0 ∧ T'.heap = h0 ∧ Fr n0 L' ∧ ∀ target, Steps p.tables e below (T'.setTop (mkF m 122 #[.val (.int p1), .val (.int p2), .val (.int p3), .val (.int p4), .val (.int p5), .val (.int p6), .val (.int u1), .val (.int u3), .val (.int u5), .val (.int u7), .val (.int u9), .val (.int u11), .val (.int u13), .val (.int u15), .val (.int u17), .val (.int u19), .unset, .unset, .unset, .unset, .unset, .unset, .unset, .unset, .unset, .unset, .unset] [(.int v26_t0)])) target → Steps p.tables e below (s₁.setTop (mkF m 111 #[.val (.int p1), .val (.int p2), .val (.int p3), .val (.int p4), .val (.int p5), .val (.int p6), .val (.int u1), .val (.int u3), .val (.int u5), .val (.int u7), .val (.int u9), .val (.int u11), .val (.int u13), .val (.int u15), .val (.int u17), .val (.int u19), .unset, .unset, .unset, .unset, .unset, .unset, .unset, .unset, .unset, .unset, .unset] [])) target := by
    have sg22 : ∀ target, Steps p.tables e below (s₁.setTop (mkF m 114 #[.val (.int p1), .val (.int p2), .val (.int p3), .val (.int p4), .val (.int p5), .val (.int p6), .val (.int u1), .val (.int u3), .val (.int u5), .val (.int u7), .val (.int u9), .val (.int u11), .val (.int u13), .val (.int u15), .val (.int u17), .val (.int u19), .unset, .unset, .unset, .unset, .unset, .unset, .unset, .unset, .unset, .unset, .unset] [(.int (p2 &&& (1 : Int32)))])) target → Steps p.tables e below (s₁.setTop (mkF m 111 #[.val (.int p1), .val (.int p2), .val (.int p3), .val (.int p4), .val (.int p5), .val (.int p6), .val (.int u1), .val (.int u3), .val (.int u5), .val (.int u7), .val (.int u9), .val (.int u11), .val (.int u13), .val (.int u15), .val (.int u17), .val (.int u19), .unset, .unset, .unset, .unset, .unset, .unset, .unset, .unset, .unset, .unset, .unset] [])) target := by
      intro target kt
      show Steps p.tables e below (s₁.setTop (mkF m 111 #[.val (.int p1), .val (.int p2), .val (.int p3), .val (.int p4), .val (.int p5), .val (.int p6), .val (.int u1), .val (.int u3), .val (.int u5), .val (.int u7), .val (.int u9), .val (.int u11), .val (.int u13), .val (.int u15), .val (.int u17), .val (.int u19), .unset, .unset, .unset, .unset, .unset, .unset, .unset, .unset, .unset, .unset, .unset] [])) _
      refine XS.iloadN X0.here hx rfl (hb hby at_111) rfl ?_
      show Steps p.tables e below (s₁.setTop (mkF m 112 #[.val (.int p1), .val (.int p2), .val (.int p3), .val (.int p4), .val (.int p5), .val (.int p6), .val (.int u1), .val (.int u3), .val (.int u5), .val (.int u7), .val (.int u9), .val (.int u11), .val (.int u13), .val (.int u15), .val (.int u17), .val (.int u19), .unset, .unset, .unset, .unset, .unset, .unset, .unset, .unset, .unset, .unset, .unset] [(.int p2)])) _
      refine XS.iconst X0.here hx rfl (hb hby at_112) ?_
      show Steps p.tables e below (s₁.setTop (mkF m 113 #[.val (.int p1), .val (.int p2), .val (.int p3), .val (.int p4), .val (.int p5), .val (.int p6), .val (.int u1), .val (.int u3), .val (.int u5), .val (.int u7), .val (.int u9), .val (.int u11), .val (.int u13), .val (.int u15), .val (.int u17), .val (.int u19), .unset, .unset, .unset, .unset, .unset, .unset, .unset, .unset, .unset, .unset, .unset] [(.int (1 : Int32)), (.int p2)])) _
      refine XS.iand X0.here hx rfl (hb hby at_113) rfl ?_
      exact kt
    by_cases hc23 : (p2 &&& (1 : Int32)) = (0 : Int32)
    · have sg24 : ∀ target, Steps p.tables e below (s₁.setTop (mkF m 122 #[.val (.int p1), .val (.int p2), .val (.int p3), .val (.int p4), .val (.int p5), .val (.int p6), .val (.int u1), .val (.int u3), .val (.int u5), .val (.int u7), .val (.int u9), .val (.int u11), .val (.int u13), .val (.int u15), .val (.int u17), .val (.int u19), .unset, .unset, .unset, .unset, .unset, .unset, .unset, .unset, .unset, .unset, .unset] [(.int (0 : Int32))])) target → Steps p.tables e below (s₁.setTop (mkF m 114 #[.val (.int p1), .val (.int p2), .val (.int p3), .val (.int p4), .val (.int p5), .val (.int p6), .val (.int u1), .val (.int u3), .val (.int u5), .val (.int u7), .val (.int u9), .val (.int u11), .val (.int u13), .val (.int u15), .val (.int u17), .val (.int u19), .unset, .unset, .unset, .unset, .unset, .unset, .unset, .unset, .unset, .unset, .unset] [(.int (p2 &&& (1 : Int32)))])) target := by
        intro target kt
        show Steps p.tables e below (s₁.setTop (mkF m 114 #[.val (.int p1), .val (.int p2), .val (.int p3), .val (.int p4), .val (.int p5), .val (.int p6), .val (.int u1), .val (.int u3), .val (.int u5), .val (.int u7), .val (.int u9), .val (.int u11), .val (.int u13), .val (.int u15), .val (.int u17), .val (.int u19), .unset, .unset, .unset, .unset, .unset, .unset, .unset, .unset, .unset, .unset, .unset] [(.int (p2 &&& (1 : Int32)))])) _
        refine XS.ifYes X0.here hx rfl (pc0 := 114) (pc' := 121) rfl (hb hby at_114) rfl ((if0 _ _).trans (teq hc23).1) (by decide) (by decide) ?_
        show Steps p.tables e below (s₁.setTop (mkF m 121 #[.val (.int p1), .val (.int p2), .val (.int p3), .val (.int p4), .val (.int p5), .val (.int p6), .val (.int u1), .val (.int u3), .val (.int u5), .val (.int u7), .val (.int u9), .val (.int u11), .val (.int u13), .val (.int u15), .val (.int u17), .val (.int u19), .unset, .unset, .unset, .unset, .unset, .unset, .unset, .unset, .unset, .unset, .unset] [])) _
        refine XS.iconst X0.here hx rfl (hb hby at_121) ?_
        exact kt
      exact ⟨s₁, _, (0 : Int32), X0.mono (by decide) (by decide), e0, N0, fun target kt => sg22 _ (sg24 _ (kt))⟩
    · have sg25 : ∀ target, Steps p.tables e below (s₁.setTop (mkF m 122 #[.val (.int p1), .val (.int p2), .val (.int p3), .val (.int p4), .val (.int p5), .val (.int p6), .val (.int u1), .val (.int u3), .val (.int u5), .val (.int u7), .val (.int u9), .val (.int u11), .val (.int u13), .val (.int u15), .val (.int u17), .val (.int u19), .unset, .unset, .unset, .unset, .unset, .unset, .unset, .unset, .unset, .unset, .unset] [(.int (1 : Int32))])) target → Steps p.tables e below (s₁.setTop (mkF m 114 #[.val (.int p1), .val (.int p2), .val (.int p3), .val (.int p4), .val (.int p5), .val (.int p6), .val (.int u1), .val (.int u3), .val (.int u5), .val (.int u7), .val (.int u9), .val (.int u11), .val (.int u13), .val (.int u15), .val (.int u17), .val (.int u19), .unset, .unset, .unset, .unset, .unset, .unset, .unset, .unset, .unset, .unset, .unset] [(.int (p2 &&& (1 : Int32)))])) target := by
        intro target kt
        show Steps p.tables e below (s₁.setTop (mkF m 114 #[.val (.int p1), .val (.int p2), .val (.int p3), .val (.int p4), .val (.int p5), .val (.int p6), .val (.int u1), .val (.int u3), .val (.int u5), .val (.int u7), .val (.int u9), .val (.int u11), .val (.int u13), .val (.int u15), .val (.int u17), .val (.int u19), .unset, .unset, .unset, .unset, .unset, .unset, .unset, .unset, .unset, .unset, .unset] [(.int (p2 &&& (1 : Int32)))])) _
        refine XS.ifNo X0.here hx rfl (hb hby at_114) rfl ((if0 _ _).trans (feq hc23).1) ?_
        show Steps p.tables e below (s₁.setTop (mkF m 117 #[.val (.int p1), .val (.int p2), .val (.int p3), .val (.int p4), .val (.int p5), .val (.int p6), .val (.int u1), .val (.int u3), .val (.int u5), .val (.int u7), .val (.int u9), .val (.int u11), .val (.int u13), .val (.int u15), .val (.int u17), .val (.int u19), .unset, .unset, .unset, .unset, .unset, .unset, .unset, .unset, .unset, .unset, .unset] [])) _
        refine XS.iconst X0.here hx rfl (hb hby at_117) ?_
        show Steps p.tables e below (s₁.setTop (mkF m 118 #[.val (.int p1), .val (.int p2), .val (.int p3), .val (.int p4), .val (.int p5), .val (.int p6), .val (.int u1), .val (.int u3), .val (.int u5), .val (.int u7), .val (.int u9), .val (.int u11), .val (.int u13), .val (.int u15), .val (.int u17), .val (.int u19), .unset, .unset, .unset, .unset, .unset, .unset, .unset, .unset, .unset, .unset, .unset] [(.int (1 : Int32))])) _
        refine XS.goto X0.here hx rfl (pc0 := 118) (pc' := 122) rfl (hb hby at_118) (by decide) (by decide) ?_
        exact kt
      exact ⟨s₁, _, (1 : Int32), X0.mono (by decide) (by decide), e0, N0, fun target kt => sg22 _ (sg25 _ (kt))⟩
  have sg27 : ∀ target, Steps p.tables e below (T26.setTop (mkF m 124 #[.val (.int p1), .val (.int p2), .val (.int p3), .val (.int p4), .val (.int p5), .val (.int p6), .val (.int u1), .val (.int u3), .val (.int u5), .val (.int u7), .val (.int u9), .val (.int u11), .val (.int u13), .val (.int u15), .val (.int u17), .val (.int u19), .val (.int v26_t0), .unset, .unset, .unset, .unset, .unset, .unset, .unset, .unset, .unset, .unset] [])) target → Steps p.tables e below (T26.setTop (mkF m 122 #[.val (.int p1), .val (.int p2), .val (.int p3), .val (.int p4), .val (.int p5), .val (.int p6), .val (.int u1), .val (.int u3), .val (.int u5), .val (.int u7), .val (.int u9), .val (.int u11), .val (.int u13), .val (.int u15), .val (.int u17), .val (.int u19), .unset, .unset, .unset, .unset, .unset, .unset, .unset, .unset, .unset, .unset, .unset] [(.int v26_t0)])) target := by
    intro target kt
    show Steps p.tables e below (T26.setTop (mkF m 122 #[.val (.int p1), .val (.int p2), .val (.int p3), .val (.int p4), .val (.int p5), .val (.int p6), .val (.int u1), .val (.int u3), .val (.int u5), .val (.int u7), .val (.int u9), .val (.int u11), .val (.int u13), .val (.int u15), .val (.int u17), .val (.int u19), .unset, .unset, .unset, .unset, .unset, .unset, .unset, .unset, .unset, .unset, .unset] [(.int v26_t0)])) _
    refine XS.istore X26.here hx rfl (hb hby at_122) rfl (l' := #[.val (.int p1), .val (.int p2), .val (.int p3), .val (.int p4), .val (.int p5), .val (.int p6), .val (.int u1), .val (.int u3), .val (.int u5), .val (.int u7), .val (.int u9), .val (.int u11), .val (.int u13), .val (.int u15), .val (.int u17), .val (.int u19), .val (.int v26_t0), .unset, .unset, .unset, .unset, .unset, .unset, .unset, .unset, .unset, .unset]) rfl ?_
    exact kt
  obtain ⟨T32, L32, v32_t0, X32, e32, N32, sg32⟩ : ∃ (T' : State) (L' : List Loc) (v32_t0 : Int32), Stand p l e room_1 s m #[(.int p1), (.int p2), (.int p3), (.int p4), (.int p5), (.int p6)] below meth c T' L' 0 0 ∧ T'.heap = h0 ∧ Fr n0 L' ∧ ∀ target, Steps p.tables e below (T'.setTop (mkF m 135 #[.val (.int p1), .val (.int p2), .val (.int p3), .val (.int p4), .val (.int p5), .val (.int p6), .val (.int u1), .val (.int u3), .val (.int u5), .val (.int u7), .val (.int u9), .val (.int u11), .val (.int u13), .val (.int u15), .val (.int u17), .val (.int u19), .val (.int v26_t0), .unset, .unset, .unset, .unset, .unset, .unset, .unset, .unset, .unset, .unset] [(.int v32_t0)])) target → Steps p.tables e below (T26.setTop (mkF m 124 #[.val (.int p1), .val (.int p2), .val (.int p3), .val (.int p4), .val (.int p5), .val (.int p6), .val (.int u1), .val (.int u3), .val (.int u5), .val (.int u7), .val (.int u9), .val (.int u11), .val (.int u13), .val (.int u15), .val (.int u17), .val (.int u19), .val (.int v26_t0), .unset, .unset, .unset, .unset, .unset, .unset, .unset, .unset, .unset, .unset] [])) target := by
    have sg28 : ∀ target, Steps p.tables e below (T26.setTop (mkF m 127 #[.val (.int p1), .val (.int p2), .val (.int p3), .val (.int p4), .val (.int p5), .val (.int p6), .val (.int u1), .val (.int u3), .val (.int u5), .val (.int u7), .val (.int u9), .val (.int u11), .val (.int u13), .val (.int u15), .val (.int u17), .val (.int u19), .val (.int v26_t0), .unset, .unset, .unset, .unset, .unset, .unset, .unset, .unset, .unset, .unset] [(.int (p2 &&& (2 : Int32)))])) target → Steps p.tables e below (T26.setTop (mkF m 124 #[.val (.int p1), .val (.int p2), .val (.int p3), .val (.int p4), .val (.int p5), .val (.int p6), .val (.int u1), .val (.int u3), .val (.int u5), .val (.int u7), .val (.int u9), .val (.int u11), .val (.int u13), .val (.int u15), .val (.int u17), .val (.int u19), .val (.int v26_t0), .unset, .unset, .unset, .unset, .unset, .unset, .unset, .unset, .unset, .unset] [])) target := by
      intro target kt
      show Steps p.tables e below (T26.setTop (mkF m 124 #[.val (.int p1), .val (.int p2), .val (.int p3), .val (.int p4), .val (.int p5), .val (.int p6), .val (.int u1), .val (.int u3), .val (.int u5), .val (.int u7), .val (.int u9), .val (.int u11), .val (.int u13), .val (.int u15), .val (.int u17), .val (.int u19), .val (.int v26_t0), .unset, .unset, .unset, .unset, .unset, .unset, .unset, .unset, .unset, .unset] [])) _
      refine XS.iloadN X26.here hx rfl (hb hby at_124) rfl ?_
      show Steps p.tables e below (T26.setTop (mkF m 125 #[.val (.int p1), .val (.int p2), .val (.int p3), .val (.int p4), .val (.int p5), .val (.int p6), .val (.int u1), .val (.int u3), .val (.int u5), .val (.int u7), .val (.int u9), .val (.int u11), .val (.int u13), .val (.int u15), .val (.int u17), .val (.int u19), .val (.int v26_t0), .unset, .unset, .unset, .unset, .unset, .unset, .unset, .unset, .unset, .unset] [(.int p2)])) _
      refine XS.iconst X26.here hx rfl (hb hby at_125) ?_
      show Steps p.tables e below (T26.setTop (mkF m 126 #[.val (.int p1), .val (.int p2), .val (.int p3), .val (.int p4), .val (.int p5), .val (.int p6), .val (.int u1), .val (.int u3), .val (.int u5), .val (.int u7), .val (.int u9), .val (.int u11), .val (.int u13), .val (.int u15), .val (.int u17), .val (.int u19), .val (.int v26_t0), .unset, .unset, .unset, .unset, .unset, .unset, .unset, .unset, .unset, .unset] [(.int (2 : Int32)), (.int p2)])) _
      refine XS.iand X26.here hx rfl (hb hby at_126) rfl ?_
      exact kt
    by_cases hc29 : (p2 &&& (2 : Int32)) = (0 : Int32)
    · have sg30 : ∀ target, Steps p.tables e below (T26.setTop (mkF m 135 #[.val (.int p1), .val (.int p2), .val (.int p3), .val (.int p4), .val (.int p5), .val (.int p6), .val (.int u1), .val (.int u3), .val (.int u5), .val (.int u7), .val (.int u9), .val (.int u11), .val (.int u13), .val (.int u15), .val (.int u17), .val (.int u19), .val (.int v26_t0), .unset, .unset, .unset, .unset, .unset, .unset, .unset, .unset, .unset, .unset] [(.int (0 : Int32))])) target → Steps p.tables e below (T26.setTop (mkF m 127 #[.val (.int p1), .val (.int p2), .val (.int p3), .val (.int p4), .val (.int p5), .val (.int p6), .val (.int u1), .val (.int u3), .val (.int u5), .val (.int u7), .val (.int u9), .val (.int u11), .val (.int u13), .val (.int u15), .val (.int u17), .val (.int u19), .val (.int v26_t0), .unset, .unset, .unset, .unset, .unset, .unset, .unset, .unset, .unset, .unset] [(.int (p2 &&& (2 : Int32)))])) target := by
        intro target kt
        show Steps p.tables e below (T26.setTop (mkF m 127 #[.val (.int p1), .val (.int p2), .val (.int p3), .val (.int p4), .val (.int p5), .val (.int p6), .val (.int u1), .val (.int u3), .val (.int u5), .val (.int u7), .val (.int u9), .val (.int u11), .val (.int u13), .val (.int u15), .val (.int u17), .val (.int u19), .val (.int v26_t0), .unset, .unset, .unset, .unset, .unset, .unset, .unset, .unset, .unset, .unset] [(.int (p2 &&& (2 : Int32)))])) _
        refine XS.ifYes X26.here hx rfl (pc0 := 127) (pc' := 134) rfl (hb hby at_127) rfl ((if0 _ _).trans (teq hc29).1) (by decide) (by decide) ?_
        show Steps p.tables e below (T26.setTop (mkF m 134 #[.val (.int p1), .val (.int p2), .val (.int p3), .val (.int p4), .val (.int p5), .val (.int p6), .val (.int u1), .val (.int u3), .val (.int u5), .val (.int u7), .val (.int u9), .val (.int u11), .val (.int u13), .val (.int u15), .val (.int u17), .val (.int u19), .val (.int v26_t0), .unset, .unset, .unset, .unset, .unset, .unset, .unset, .unset, .unset, .unset] [])) _
        refine XS.iconst X26.here hx rfl (hb hby at_134) ?_
        exact kt
      exact ⟨T26, _, (0 : Int32), X26.mono (by decide) (by decide), e26, N26, fun target kt => sg28 _ (sg30 _ (kt))⟩
    · have sg31 : ∀ target, Steps p.tables e below (T26.setTop (mkF m 135 #[.val (.int p1), .val (.int p2), .val (.int p3), .val (.int p4), .val (.int p5), .val (.int p6), .val (.int u1), .val (.int u3), .val (.int u5), .val (.int u7), .val (.int u9), .val (.int u11), .val (.int u13), .val (.int u15), .val (.int u17), .val (.int u19), .val (.int v26_t0), .unset, .unset, .unset, .unset, .unset, .unset, .unset, .unset, .unset, .unset] [(.int (1 : Int32))])) target → Steps p.tables e below (T26.setTop (mkF m 127 #[.val (.int p1), .val (.int p2), .val (.int p3), .val (.int p4), .val (.int p5), .val (.int p6), .val (.int u1), .val (.int u3), .val (.int u5), .val (.int u7), .val (.int u9), .val (.int u11), .val (.int u13), .val (.int u15), .val (.int u17), .val (.int u19), .val (.int v26_t0), .unset, .unset, .unset, .unset, .unset, .unset, .unset, .unset, .unset, .unset] [(.int (p2 &&& (2 : Int32)))])) target := by
        intro target kt
        show Steps p.tables e below (T26.setTop (mkF m 127 #[.val (.int p1), .val (.int p2), .val (.int p3), .val (.int p4), .val (.int p5), .val (.int p6), .val (.int u1), .val (.int u3), .val (.int u5), .val (.int u7), .val (.int u9), .val (.int u11), .val (.int u13), .val (.int u15), .val (.int u17), .val (.int u19), .val (.int v26_t0), .unset, .unset, .unset, .unset, .unset, .unset, .unset, .unset, .unset, .unset] [(.int (p2 &&& (2 : Int32)))])) _
        refine XS.ifNo X26.here hx rfl (hb hby at_127) rfl ((if0 _ _).trans (feq hc29).1) ?_
        show Steps p.tables e below (T26.setTop (mkF m 130 #[.val (.int p1), .val (.int p2), .val (.int p3), .val (.int p4), .val (.int p5), .val (.int p6), .val (.int u1), .val (.int u3), .val (.int u5), .val (.int u7), .val (.int u9), .val (.int u11), .val (.int u13), .val (.int u15), .val (.int u17), .val (.int u19), .val (.int v26_t0), .unset, .unset, .unset, .unset, .unset, .unset, .unset, .unset, .unset, .unset] [])) _
        refine XS.iconst X26.here hx rfl (hb hby at_130) ?_
        show Steps p.tables e below (T26.setTop (mkF m 131 #[.val (.int p1), .val (.int p2), .val (.int p3), .val (.int p4), .val (.int p5), .val (.int p6), .val (.int u1), .val (.int u3), .val (.int u5), .val (.int u7), .val (.int u9), .val (.int u11), .val (.int u13), .val (.int u15), .val (.int u17), .val (.int u19), .val (.int v26_t0), .unset, .unset, .unset, .unset, .unset, .unset, .unset, .unset, .unset, .unset] [(.int (1 : Int32))])) _
        refine XS.goto X26.here hx rfl (pc0 := 131) (pc' := 135) rfl (hb hby at_131) (by decide) (by decide) ?_
        exact kt
      exact ⟨T26, _, (1 : Int32), X26.mono (by decide) (by decide), e26, N26, fun target kt => sg28 _ (sg31 _ (kt))⟩
  have sg33 : ∀ target, Steps p.tables e below (T32.setTop (mkF m 137 #[.val (.int p1), .val (.int p2), .val (.int p3), .val (.int p4), .val (.int p5), .val (.int p6), .val (.int u1), .val (.int u3), .val (.int u5), .val (.int u7), .val (.int u9), .val (.int u11), .val (.int u13), .val (.int u15), .val (.int u17), .val (.int u19), .val (.int v26_t0), .val (.int v32_t0), .unset, .unset, .unset, .unset, .unset, .unset, .unset, .unset, .unset] [])) target → Steps p.tables e below (T32.setTop (mkF m 135 #[.val (.int p1), .val (.int p2), .val (.int p3), .val (.int p4), .val (.int p5), .val (.int p6), .val (.int u1), .val (.int u3), .val (.int u5), .val (.int u7), .val (.int u9), .val (.int u11), .val (.int u13), .val (.int u15), .val (.int u17), .val (.int u19), .val (.int v26_t0), .unset, .unset, .unset, .unset, .unset, .unset, .unset, .unset, .unset, .unset] [(.int v32_t0)])) target := by
    intro target kt
    show Steps p.tables e below (T32.setTop (mkF m 135 #[.val (.int p1), .val (.int p2), .val (.int p3), .val (.int p4), .val (.int p5), .val (.int p6), .val (.int u1), .val (.int u3), .val (.int u5), .val (.int u7), .val (.int u9), .val (.int u11), .val (.int u13), .val (.int u15), .val (.int u17), .val (.int u19), .val (.int v26_t0), .unset, .unset, .unset, .unset, .unset, .unset, .unset, .unset, .unset, .unset] [(.int v32_t0)])) _
    refine XS.istore X32.here hx rfl (hb hby at_135) rfl (l' := #[.val (.int p1), .val (.int p2), .val (.int p3), .val (.int p4), .val (.int p5), .val (.int p6), .val (.int u1), .val (.int u3), .val (.int u5), .val (.int u7), .val (.int u9), .val (.int u11), .val (.int u13), .val (.int u15), .val (.int u17), .val (.int u19), .val (.int v26_t0), .val (.int v32_t0), .unset, .unset, .unset, .unset, .unset, .unset, .unset, .unset, .unset]) rfl ?_
    exact kt
  obtain ⟨T38, L38, v38_t0, X38, e38, N38, hv38_t0, sg38⟩ : ∃ (T' : State) (L' : List Loc) (v38_t0 : Int32), Stand p l e room_1 s m #[(.int p1), (.int p2), (.int p3), (.int p4), (.int p5), (.int p6)] below meth c T' L' 0 0 ∧ T'.heap = h0 ∧ Fr n0 L' ∧ v38_t0 = (if (p2 &&& (4 : Int32)) = (0 : Int32) then (0 : Int32) else (1 : Int32)) ∧ ∀ target, Steps p.tables e below (T'.setTop (mkF m 148 #[.val (.int p1), .val (.int p2), .val (.int p3), .val (.int p4), .val (.int p5), .val (.int p6), .val (.int u1), .val (.int u3), .val (.int u5), .val (.int u7), .val (.int u9), .val (.int u11), .val (.int u13), .val (.int u15), .val (.int u17), .val (.int u19), .val (.int v26_t0), .val (.int v32_t0), .unset, .unset, .unset, .unset, .unset, .unset, .unset, .unset, .unset] [(.int v38_t0)])) target → Steps p.tables e below (T32.setTop (mkF m 137 #[.val (.int p1), .val (.int p2), .val (.int p3), .val (.int p4), .val (.int p5), .val (.int p6), .val (.int u1), .val (.int u3), .val (.int u5), .val (.int u7), .val (.int u9), .val (.int u11), .val (.int u13), .val (.int u15), .val (.int u17), .val (.int u19), .val (.int v26_t0), .val (.int v32_t0), .unset, .unset, .unset, .unset, .unset, .unset, .unset, .unset, .unset] [])) target := by
    have sg34 : ∀ target, Steps p.tables e below (T32.setTop (mkF m 140 #[.val (.int p1), .val (.int p2), .val (.int p3), .val (.int p4), .val (.int p5), .val (.int p6), .val (.int u1), .val (.int u3), .val (.int u5), .val (.int u7), .val (.int u9), .val (.int u11), .val (.int u13), .val (.int u15), .val (.int u17), .val (.int u19), .val (.int v26_t0), .val (.int v32_t0), .unset, .unset, .unset, .unset, .unset, .unset, .unset, .unset, .unset] [(.int (p2 &&& (4 : Int32)))])) target → Steps p.tables e below (T32.setTop (mkF m 137 #[.val (.int p1), .val (.int p2), .val (.int p3), .val (.int p4), .val (.int p5), .val (.int p6), .val (.int u1), .val (.int u3), .val (.int u5), .val (.int u7), .val (.int u9), .val (.int u11), .val (.int u13), .val (.int u15), .val (.int u17), .val (.int u19), .val (.int v26_t0), .val (.int v32_t0), .unset, .unset, .unset, .unset, .unset, .unset, .unset, .unset, .unset] [])) target := by
      intro target kt
      show Steps p.tables e below (T32.setTop (mkF m 137 #[.val (.int p1), .val (.int p2), .val (.int p3), .val (.int p4), .val (.int p5), .val (.int p6), .val (.int u1), .val (.int u3), .val (.int u5), .val (.int u7), .val (.int u9), .val (.int u11), .val (.int u13), .val (.int u15), .val (.int u17), .val (.int u19), .val (.int v26_t0), .val (.int v32_t0), .unset, .unset, .unset, .unset, .unset, .unset, .unset, .unset, .unset] [])) _
      refine XS.iloadN X32.here hx rfl (hb hby at_137) rfl ?_
      show Steps p.tables e below (T32.setTop (mkF m 138 #[.val (.int p1), .val (.int p2), .val (.int p3), .val (.int p4), .val (.int p5), .val (.int p6), .val (.int u1), .val (.int u3), .val (.int u5), .val (.int u7), .val (.int u9), .val (.int u11), .val (.int u13), .val (.int u15), .val (.int u17), .val (.int u19), .val (.int v26_t0), .val (.int v32_t0), .unset, .unset, .unset, .unset, .unset, .unset, .unset, .unset, .unset] [(.int p2)])) _
      refine XS.iconst X32.here hx rfl (hb hby at_138) ?_
      show Steps p.tables e below (T32.setTop (mkF m 139 #[.val (.int p1), .val (.int p2), .val (.int p3), .val (.int p4), .val (.int p5), .val (.int p6), .val (.int u1), .val (.int u3), .val (.int u5), .val (.int u7), .val (.int u9), .val (.int u11), .val (.int u13), .val (.int u15), .val (.int u17), .val (.int u19), .val (.int v26_t0), .val (.int v32_t0), .unset, .unset, .unset, .unset, .unset, .unset, .unset, .unset, .unset] [(.int (4 : Int32)), (.int p2)])) _
      refine XS.iand X32.here hx rfl (hb hby at_139) rfl ?_
      exact kt
    by_cases hc35 : (p2 &&& (4 : Int32)) = (0 : Int32)
    · have sg36 : ∀ target, Steps p.tables e below (T32.setTop (mkF m 148 #[.val (.int p1), .val (.int p2), .val (.int p3), .val (.int p4), .val (.int p5), .val (.int p6), .val (.int u1), .val (.int u3), .val (.int u5), .val (.int u7), .val (.int u9), .val (.int u11), .val (.int u13), .val (.int u15), .val (.int u17), .val (.int u19), .val (.int v26_t0), .val (.int v32_t0), .unset, .unset, .unset, .unset, .unset, .unset, .unset, .unset, .unset] [(.int (0 : Int32))])) target → Steps p.tables e below (T32.setTop (mkF m 140 #[.val (.int p1), .val (.int p2), .val (.int p3), .val (.int p4), .val (.int p5), .val (.int p6), .val (.int u1), .val (.int u3), .val (.int u5), .val (.int u7), .val (.int u9), .val (.int u11), .val (.int u13), .val (.int u15), .val (.int u17), .val (.int u19), .val (.int v26_t0), .val (.int v32_t0), .unset, .unset, .unset, .unset, .unset, .unset, .unset, .unset, .unset] [(.int (p2 &&& (4 : Int32)))])) target := by
        intro target kt
        show Steps p.tables e below (T32.setTop (mkF m 140 #[.val (.int p1), .val (.int p2), .val (.int p3), .val (.int p4), .val (.int p5), .val (.int p6), .val (.int u1), .val (.int u3), .val (.int u5), .val (.int u7), .val (.int u9), .val (.int u11), .val (.int u13), .val (.int u15), .val (.int u17), .val (.int u19), .val (.int v26_t0), .val (.int v32_t0), .unset, .unset, .unset, .unset, .unset, .unset, .unset, .unset, .unset] [(.int (p2 &&& (4 : Int32)))])) _
        refine XS.ifYes X32.here hx rfl (pc0 := 140) (pc' := 147) rfl (hb hby at_140) rfl ((if0 _ _).trans (teq hc35).1) (by decide) (by decide) ?_
        show Steps p.tables e below (T32.setTop (mkF m 147 #[.val (.int p1), .val (.int p2), .val (.int p3), .val (.int p4), .val (.int p5), .val (.int p6), .val (.int u1), .val (.int u3), .val (.int u5), .val (.int u7), .val (.int u9), .val (.int u11), .val (.int u13), .val (.int u15), .val (.int u17), .val (.int u19), .val (.int v26_t0), .val (.int v32_t0), .unset, .unset, .unset, .unset, .unset, .unset, .unset, .unset, .unset] [])) _
        refine XS.iconst X32.here hx rfl (hb hby at_147) ?_
        exact kt
      exact ⟨T32, _, (0 : Int32), X32.mono (by decide) (by decide), e32, N32, (by rw [if_pos hc35]), fun target kt => sg34 _ (sg36 _ (kt))⟩
    · have sg37 : ∀ target, Steps p.tables e below (T32.setTop (mkF m 148 #[.val (.int p1), .val (.int p2), .val (.int p3), .val (.int p4), .val (.int p5), .val (.int p6), .val (.int u1), .val (.int u3), .val (.int u5), .val (.int u7), .val (.int u9), .val (.int u11), .val (.int u13), .val (.int u15), .val (.int u17), .val (.int u19), .val (.int v26_t0), .val (.int v32_t0), .unset, .unset, .unset, .unset, .unset, .unset, .unset, .unset, .unset] [(.int (1 : Int32))])) target → Steps p.tables e below (T32.setTop (mkF m 140 #[.val (.int p1), .val (.int p2), .val (.int p3), .val (.int p4), .val (.int p5), .val (.int p6), .val (.int u1), .val (.int u3), .val (.int u5), .val (.int u7), .val (.int u9), .val (.int u11), .val (.int u13), .val (.int u15), .val (.int u17), .val (.int u19), .val (.int v26_t0), .val (.int v32_t0), .unset, .unset, .unset, .unset, .unset, .unset, .unset, .unset, .unset] [(.int (p2 &&& (4 : Int32)))])) target := by
        intro target kt
        show Steps p.tables e below (T32.setTop (mkF m 140 #[.val (.int p1), .val (.int p2), .val (.int p3), .val (.int p4), .val (.int p5), .val (.int p6), .val (.int u1), .val (.int u3), .val (.int u5), .val (.int u7), .val (.int u9), .val (.int u11), .val (.int u13), .val (.int u15), .val (.int u17), .val (.int u19), .val (.int v26_t0), .val (.int v32_t0), .unset, .unset, .unset, .unset, .unset, .unset, .unset, .unset, .unset] [(.int (p2 &&& (4 : Int32)))])) _
        refine XS.ifNo X32.here hx rfl (hb hby at_140) rfl ((if0 _ _).trans (feq hc35).1) ?_
        show Steps p.tables e below (T32.setTop (mkF m 143 #[.val (.int p1), .val (.int p2), .val (.int p3), .val (.int p4), .val (.int p5), .val (.int p6), .val (.int u1), .val (.int u3), .val (.int u5), .val (.int u7), .val (.int u9), .val (.int u11), .val (.int u13), .val (.int u15), .val (.int u17), .val (.int u19), .val (.int v26_t0), .val (.int v32_t0), .unset, .unset, .unset, .unset, .unset, .unset, .unset, .unset, .unset] [])) _
        refine XS.iconst X32.here hx rfl (hb hby at_143) ?_
        show Steps p.tables e below (T32.setTop (mkF m 144 #[.val (.int p1), .val (.int p2), .val (.int p3), .val (.int p4), .val (.int p5), .val (.int p6), .val (.int u1), .val (.int u3), .val (.int u5), .val (.int u7), .val (.int u9), .val (.int u11), .val (.int u13), .val (.int u15), .val (.int u17), .val (.int u19), .val (.int v26_t0), .val (.int v32_t0), .unset, .unset, .unset, .unset, .unset, .unset, .unset, .unset, .unset] [(.int (1 : Int32))])) _
        refine XS.goto X32.here hx rfl (pc0 := 144) (pc' := 148) rfl (hb hby at_144) (by decide) (by decide) ?_
        exact kt
      exact ⟨T32, _, (1 : Int32), X32.mono (by decide) (by decide), e32, N32, (by rw [if_neg hc35]), fun target kt => sg34 _ (sg37 _ (kt))⟩
  have sg39 : ∀ target, Steps p.tables e below (T38.setTop (mkF m 150 #[.val (.int p1), .val (.int p2), .val (.int p3), .val (.int p4), .val (.int p5), .val (.int p6), .val (.int u1), .val (.int u3), .val (.int u5), .val (.int u7), .val (.int u9), .val (.int u11), .val (.int u13), .val (.int u15), .val (.int u17), .val (.int u19), .val (.int v26_t0), .val (.int v32_t0), .val (.int v38_t0), .unset, .unset, .unset, .unset, .unset, .unset, .unset, .unset] [])) target → Steps p.tables e below (T38.setTop (mkF m 148 #[.val (.int p1), .val (.int p2), .val (.int p3), .val (.int p4), .val (.int p5), .val (.int p6), .val (.int u1), .val (.int u3), .val (.int u5), .val (.int u7), .val (.int u9), .val (.int u11), .val (.int u13), .val (.int u15), .val (.int u17), .val (.int u19), .val (.int v26_t0), .val (.int v32_t0), .unset, .unset, .unset, .unset, .unset, .unset, .unset, .unset, .unset] [(.int v38_t0)])) target := by
    intro target kt
    show Steps p.tables e below (T38.setTop (mkF m 148 #[.val (.int p1), .val (.int p2), .val (.int p3), .val (.int p4), .val (.int p5), .val (.int p6), .val (.int u1), .val (.int u3), .val (.int u5), .val (.int u7), .val (.int u9), .val (.int u11), .val (.int u13), .val (.int u15), .val (.int u17), .val (.int u19), .val (.int v26_t0), .val (.int v32_t0), .unset, .unset, .unset, .unset, .unset, .unset, .unset, .unset, .unset] [(.int v38_t0)])) _
    refine XS.istore X38.here hx rfl (hb hby at_148) rfl (l' := #[.val (.int p1), .val (.int p2), .val (.int p3), .val (.int p4), .val (.int p5), .val (.int p6), .val (.int u1), .val (.int u3), .val (.int u5), .val (.int u7), .val (.int u9), .val (.int u11), .val (.int u13), .val (.int u15), .val (.int u17), .val (.int u19), .val (.int v26_t0), .val (.int v32_t0), .val (.int v38_t0), .unset, .unset, .unset, .unset, .unset, .unset, .unset, .unset]) rfl ?_
    exact kt
  obtain ⟨T44, L44, v44_t0, X44, e44, N44, hv44_t0, sg44⟩ : ∃ (T' : State) (L' : List Loc) (v44_t0 : Int32), Stand p l e room_1 s m #[(.int p1), (.int p2), (.int p3), (.int p4), (.int p5), (.int p6)] below meth c T' L' 0 0 ∧ T'.heap = h0 ∧ Fr n0 L' ∧ v44_t0 = (if (p2 &&& (8 : Int32)) = (0 : Int32) then (0 : Int32) else (1 : Int32)) ∧ ∀ target, Steps p.tables e below (T'.setTop (mkF m 162 #[.val (.int p1), .val (.int p2), .val (.int p3), .val (.int p4), .val (.int p5), .val (.int p6), .val (.int u1), .val (.int u3), .val (.int u5), .val (.int u7), .val (.int u9), .val (.int u11), .val (.int u13), .val (.int u15), .val (.int u17), .val (.int u19), .val (.int v26_t0), .val (.int v32_t0), .val (.int v38_t0), .unset, .unset, .unset, .unset, .unset, .unset, .unset, .unset] [(.int v44_t0)])) target → Steps p.tables e below (T38.setTop (mkF m 150 #[.val (.int p1), .val (.int p2), .val (.int p3), .val (.int p4), .val (.int p5), .val (.int p6), .val (.int u1), .val (.int u3), .val (.int u5), .val (.int u7), .val (.int u9), .val (.int u11), .val (.int u13), .val (.int u15), .val (.int u17), .val (.int u19), .val (.int v26_t0), .val (.int v32_t0), .val (.int v38_t0), .unset, .unset, .unset, .unset, .unset, .unset, .unset, .unset] [])) target := by
    have sg40 : ∀ target, Steps p.tables e below (T38.setTop (mkF m 154 #[.val (.int p1), .val (.int p2), .val (.int p3), .val (.int p4), .val (.int p5), .val (.int p6), .val (.int u1), .val (.int u3), .val (.int u5), .val (.int u7), .val (.int u9), .val (.int u11), .val (.int u13), .val (.int u15), .val (.int u17), .val (.int u19), .val (.int v26_t0), .val (.int v32_t0), .val (.int v38_t0), .unset, .unset, .unset, .unset, .unset, .unset, .unset, .unset] [(.int (p2 &&& (8 : Int32)))])) target → Steps p.tables e below (T38.setTop (mkF m 150 #[.val (.int p1), .val (.int p2), .val (.int p3), .val (.int p4), .val (.int p5), .val (.int p6), .val (.int u1), .val (.int u3), .val (.int u5), .val (.int u7), .val (.int u9), .val (.int u11), .val (.int u13), .val (.int u15), .val (.int u17), .val (.int u19), .val (.int v26_t0), .val (.int v32_t0), .val (.int v38_t0), .unset, .unset, .unset, .unset, .unset, .unset, .unset, .unset] [])) target := by
      intro target kt
      show Steps p.tables e below (T38.setTop (mkF m 150 #[.val (.int p1), .val (.int p2), .val (.int p3), .val (.int p4), .val (.int p5), .val (.int p6), .val (.int u1), .val (.int u3), .val (.int u5), .val (.int u7), .val (.int u9), .val (.int u11), .val (.int u13), .val (.int u15), .val (.int u17), .val (.int u19), .val (.int v26_t0), .val (.int v32_t0), .val (.int v38_t0), .unset, .unset, .unset, .unset, .unset, .unset, .unset, .unset] [])) _
      refine XS.iloadN X38.here hx rfl (hb hby at_150) rfl ?_
      show Steps p.tables e below (T38.setTop (mkF m 151 #[.val (.int p1), .val (.int p2), .val (.int p3), .val (.int p4), .val (.int p5), .val (.int p6), .val (.int u1), .val (.int u3), .val (.int u5), .val (.int u7), .val (.int u9), .val (.int u11), .val (.int u13), .val (.int u15), .val (.int u17), .val (.int u19), .val (.int v26_t0), .val (.int v32_t0), .val (.int v38_t0), .unset, .unset, .unset, .unset, .unset, .unset, .unset, .unset] [(.int p2)])) _
      refine XS.bipush X38.here hx rfl (hb hby at_151) ?_
      show Steps p.tables e below (T38.setTop (mkF m 153 #[.val (.int p1), .val (.int p2), .val (.int p3), .val (.int p4), .val (.int p5), .val (.int p6), .val (.int u1), .val (.int u3), .val (.int u5), .val (.int u7), .val (.int u9), .val (.int u11), .val (.int u13), .val (.int u15), .val (.int u17), .val (.int u19), .val (.int v26_t0), .val (.int v32_t0), .val (.int v38_t0), .unset, .unset, .unset, .unset, .unset, .unset, .unset, .unset] [(.int (8 : Int32)), (.int p2)])) _
      refine XS.iand X38.here hx rfl (hb hby at_153) rfl ?_
      exact kt
    by_cases hc41 : (p2 &&& (8 : Int32)) = (0 : Int32)
    · have sg42 : ∀ target, Steps p.tables e below (T38.setTop (mkF m 162 #[.val (.int p1), .val (.int p2), .val (.int p3), .val (.int p4), .val (.int p5), .val (.int p6), .val (.int u1), .val (.int u3), .val (.int u5), .val (.int u7), .val (.int u9), .val (.int u11), .val (.int u13), .val (.int u15), .val (.int u17), .val (.int u19), .val (.int v26_t0), .val (.int v32_t0), .val (.int v38_t0), .unset, .unset, .unset, .unset, .unset, .unset, .unset, .unset] [(.int (0 : Int32))])) target → Steps p.tables e below (T38.setTop (mkF m 154 #[.val (.int p1), .val (.int p2), .val (.int p3), .val (.int p4), .val (.int p5), .val (.int p6), .val (.int u1), .val (.int u3), .val (.int u5), .val (.int u7), .val (.int u9), .val (.int u11), .val (.int u13), .val (.int u15), .val (.int u17), .val (.int u19), .val (.int v26_t0), .val (.int v32_t0), .val (.int v38_t0), .unset, .unset, .unset, .unset, .unset, .unset, .unset, .unset] [(.int (p2 &&& (8 : Int32)))])) target := by
        intro target kt
        show Steps p.tables e below (T38.setTop (mkF m 154 #[.val (.int p1), .val (.int p2), .val (.int p3), .val (.int p4), .val (.int p5), .val (.int p6), .val (.int u1), .val (.int u3), .val (.int u5), .val (.int u7), .val (.int u9), .val (.int u11), .val (.int u13), .val (.int u15), .val (.int u17), .val (.int u19), .val (.int v26_t0), .val (.int v32_t0), .val (.int v38_t0), .unset, .unset, .unset, .unset, .unset, .unset, .unset, .unset] [(.int (p2 &&& (8 : Int32)))])) _
        refine XS.ifYes X38.here hx rfl (pc0 := 154) (pc' := 161) rfl (hb hby at_154) rfl ((if0 _ _).trans (teq hc41).1) (by decide) (by decide) ?_
        show Steps p.tables e below (T38.setTop (mkF m 161 #[.val (.int p1), .val (.int p2), .val (.int p3), .val (.int p4), .val (.int p5), .val (.int p6), .val (.int u1), .val (.int u3), .val (.int u5), .val (.int u7), .val (.int u9), .val (.int u11), .val (.int u13), .val (.int u15), .val (.int u17), .val (.int u19), .val (.int v26_t0), .val (.int v32_t0), .val (.int v38_t0), .unset, .unset, .unset, .unset, .unset, .unset, .unset, .unset] [])) _
        refine XS.iconst X38.here hx rfl (hb hby at_161) ?_
        exact kt
      exact ⟨T38, _, (0 : Int32), X38.mono (by decide) (by decide), e38, N38, (by rw [if_pos hc41]), fun target kt => sg40 _ (sg42 _ (kt))⟩
    · have sg43 : ∀ target, Steps p.tables e below (T38.setTop (mkF m 162 #[.val (.int p1), .val (.int p2), .val (.int p3), .val (.int p4), .val (.int p5), .val (.int p6), .val (.int u1), .val (.int u3), .val (.int u5), .val (.int u7), .val (.int u9), .val (.int u11), .val (.int u13), .val (.int u15), .val (.int u17), .val (.int u19), .val (.int v26_t0), .val (.int v32_t0), .val (.int v38_t0), .unset, .unset, .unset, .unset, .unset, .unset, .unset, .unset] [(.int (1 : Int32))])) target → Steps p.tables e below (T38.setTop (mkF m 154 #[.val (.int p1), .val (.int p2), .val (.int p3), .val (.int p4), .val (.int p5), .val (.int p6), .val (.int u1), .val (.int u3), .val (.int u5), .val (.int u7), .val (.int u9), .val (.int u11), .val (.int u13), .val (.int u15), .val (.int u17), .val (.int u19), .val (.int v26_t0), .val (.int v32_t0), .val (.int v38_t0), .unset, .unset, .unset, .unset, .unset, .unset, .unset, .unset] [(.int (p2 &&& (8 : Int32)))])) target := by
        intro target kt
        show Steps p.tables e below (T38.setTop (mkF m 154 #[.val (.int p1), .val (.int p2), .val (.int p3), .val (.int p4), .val (.int p5), .val (.int p6), .val (.int u1), .val (.int u3), .val (.int u5), .val (.int u7), .val (.int u9), .val (.int u11), .val (.int u13), .val (.int u15), .val (.int u17), .val (.int u19), .val (.int v26_t0), .val (.int v32_t0), .val (.int v38_t0), .unset, .unset, .unset, .unset, .unset, .unset, .unset, .unset] [(.int (p2 &&& (8 : Int32)))])) _
        refine XS.ifNo X38.here hx rfl (hb hby at_154) rfl ((if0 _ _).trans (feq hc41).1) ?_
        show Steps p.tables e below (T38.setTop (mkF m 157 #[.val (.int p1), .val (.int p2), .val (.int p3), .val (.int p4), .val (.int p5), .val (.int p6), .val (.int u1), .val (.int u3), .val (.int u5), .val (.int u7), .val (.int u9), .val (.int u11), .val (.int u13), .val (.int u15), .val (.int u17), .val (.int u19), .val (.int v26_t0), .val (.int v32_t0), .val (.int v38_t0), .unset, .unset, .unset, .unset, .unset, .unset, .unset, .unset] [])) _
        refine XS.iconst X38.here hx rfl (hb hby at_157) ?_
        show Steps p.tables e below (T38.setTop (mkF m 158 #[.val (.int p1), .val (.int p2), .val (.int p3), .val (.int p4), .val (.int p5), .val (.int p6), .val (.int u1), .val (.int u3), .val (.int u5), .val (.int u7), .val (.int u9), .val (.int u11), .val (.int u13), .val (.int u15), .val (.int u17), .val (.int u19), .val (.int v26_t0), .val (.int v32_t0), .val (.int v38_t0), .unset, .unset, .unset, .unset, .unset, .unset, .unset, .unset] [(.int (1 : Int32))])) _
        refine XS.goto X38.here hx rfl (pc0 := 158) (pc' := 162) rfl (hb hby at_158) (by decide) (by decide) ?_
        exact kt
      exact ⟨T38, _, (1 : Int32), X38.mono (by decide) (by decide), e38, N38, (by rw [if_neg hc41]), fun target kt => sg40 _ (sg43 _ (kt))⟩
  have sg45 : ∀ target, Steps p.tables e below (T44.setTop (mkF m 164 #[.val (.int p1), .val (.int p2), .val (.int p3), .val (.int p4), .val (.int p5), .val (.int p6), .val (.int u1), .val (.int u3), .val (.int u5), .val (.int u7), .val (.int u9), .val (.int u11), .val (.int u13), .val (.int u15), .val (.int u17), .val (.int u19), .val (.int v26_t0), .val (.int v32_t0), .val (.int v38_t0), .val (.int v44_t0), .unset, .unset, .unset, .unset, .unset, .unset, .unset] [])) target → Steps p.tables e below (T44.setTop (mkF m 162 #[.val (.int p1), .val (.int p2), .val (.int p3), .val (.int p4), .val (.int p5), .val (.int p6), .val (.int u1), .val (.int u3), .val (.int u5), .val (.int u7), .val (.int u9), .val (.int u11), .val (.int u13), .val (.int u15), .val (.int u17), .val (.int u19), .val (.int v26_t0), .val (.int v32_t0), .val (.int v38_t0), .unset, .unset, .unset, .unset, .unset, .unset, .unset, .unset] [(.int v44_t0)])) target := by
    intro target kt
    show Steps p.tables e below (T44.setTop (mkF m 162 #[.val (.int p1), .val (.int p2), .val (.int p3), .val (.int p4), .val (.int p5), .val (.int p6), .val (.int u1), .val (.int u3), .val (.int u5), .val (.int u7), .val (.int u9), .val (.int u11), .val (.int u13), .val (.int u15), .val (.int u17), .val (.int u19), .val (.int v26_t0), .val (.int v32_t0), .val (.int v38_t0), .unset, .unset, .unset, .unset, .unset, .unset, .unset, .unset] [(.int v44_t0)])) _
    refine XS.istore X44.here hx rfl (hb hby at_162) rfl (l' := #[.val (.int p1), .val (.int p2), .val (.int p3), .val (.int p4), .val (.int p5), .val (.int p6), .val (.int u1), .val (.int u3), .val (.int u5), .val (.int u7), .val (.int u9), .val (.int u11), .val (.int u13), .val (.int u15), .val (.int u17), .val (.int u19), .val (.int v26_t0), .val (.int v32_t0), .val (.int v38_t0), .val (.int v44_t0), .unset, .unset, .unset, .unset, .unset, .unset, .unset]) rfl ?_
    exact kt
  obtain ⟨T50, L50, v50_t0, X50, e50, N50, hv50_t0, sg50⟩ : ∃ (T' : State) (L' : List Loc) (v50_t0 : Int32), Stand p l e room_1 s m #[(.int p1), (.int p2), (.int p3), (.int p4), (.int p5), (.int p6)] below meth c T' L' 0 0 ∧ T'.heap = h0 ∧ Fr n0 L' ∧ v50_t0 = (if (p2 &&& (16 : Int32)) = (0 : Int32) then (0 : Int32) else (1 : Int32)) ∧ ∀ target, Steps p.tables e below (T'.setTop (mkF m 176 #[.val (.int p1), .val (.int p2), .val (.int p3), .val (.int p4), .val (.int p5), .val (.int p6), .val (.int u1), .val (.int u3), .val (.int u5), .val (.int u7), .val (.int u9), .val (.int u11), .val (.int u13), .val (.int u15), .val (.int u17), .val (.int u19), .val (.int v26_t0), .val (.int v32_t0), .val (.int v38_t0), .val (.int v44_t0), .unset, .unset, .unset, .unset, .unset, .unset, .unset] [(.int v50_t0)])) target → Steps p.tables e below (T44.setTop (mkF m 164 #[.val (.int p1), .val (.int p2), .val (.int p3), .val (.int p4), .val (.int p5), .val (.int p6), .val (.int u1), .val (.int u3), .val (.int u5), .val (.int u7), .val (.int u9), .val (.int u11), .val (.int u13), .val (.int u15), .val (.int u17), .val (.int u19), .val (.int v26_t0), .val (.int v32_t0), .val (.int v38_t0), .val (.int v44_t0), .unset, .unset, .unset, .unset, .unset, .unset, .unset] [])) target := by
    have sg46 : ∀ target, Steps p.tables e below (T44.setTop (mkF m 168 #[.val (.int p1), .val (.int p2), .val (.int p3), .val (.int p4), .val (.int p5), .val (.int p6), .val (.int u1), .val (.int u3), .val (.int u5), .val (.int u7), .val (.int u9), .val (.int u11), .val (.int u13), .val (.int u15), .val (.int u17), .val (.int u19), .val (.int v26_t0), .val (.int v32_t0), .val (.int v38_t0), .val (.int v44_t0), .unset, .unset, .unset, .unset, .unset, .unset, .unset] [(.int (p2 &&& (16 : Int32)))])) target → Steps p.tables e below (T44.setTop (mkF m 164 #[.val (.int p1), .val (.int p2), .val (.int p3), .val (.int p4), .val (.int p5), .val (.int p6), .val (.int u1), .val (.int u3), .val (.int u5), .val (.int u7), .val (.int u9), .val (.int u11), .val (.int u13), .val (.int u15), .val (.int u17), .val (.int u19), .val (.int v26_t0), .val (.int v32_t0), .val (.int v38_t0), .val (.int v44_t0), .unset, .unset, .unset, .unset, .unset, .unset, .unset] [])) target := by
      intro target kt
      show Steps p.tables e below (T44.setTop (mkF m 164 #[.val (.int p1), .val (.int p2), .val (.int p3), .val (.int p4), .val (.int p5), .val (.int p6), .val (.int u1), .val (.int u3), .val (.int u5), .val (.int u7), .val (.int u9), .val (.int u11), .val (.int u13), .val (.int u15), .val (.int u17), .val (.int u19), .val (.int v26_t0), .val (.int v32_t0), .val (.int v38_t0), .val (.int v44_t0), .unset, .unset, .unset, .unset, .unset, .unset, .unset] [])) _
      refine XS.iloadN X44.here hx rfl (hb hby at_164) rfl ?_
      show Steps p.tables e below (T44.setTop (mkF m 165 #[.val (.int p1), .val (.int p2), .val (.int p3), .val (.int p4), .val (.int p5), .val (.int p6), .val (.int u1), .val (.int u3), .val (.int u5), .val (.int u7), .val (.int u9), .val (.int u11), .val (.int u13), .val (.int u15), .val (.int u17), .val (.int u19), .val (.int v26_t0), .val (.int v32_t0), .val (.int v38_t0), .val (.int v44_t0), .unset, .unset, .unset, .unset, .unset, .unset, .unset] [(.int p2)])) _
      refine XS.bipush X44.here hx rfl (hb hby at_165) ?_
      show Steps p.tables e below (T44.setTop (mkF m 167 #[.val (.int p1), .val (.int p2), .val (.int p3), .val (.int p4), .val (.int p5), .val (.int p6), .val (.int u1), .val (.int u3), .val (.int u5), .val (.int u7), .val (.int u9), .val (.int u11), .val (.int u13), .val (.int u15), .val (.int u17), .val (.int u19), .val (.int v26_t0), .val (.int v32_t0), .val (.int v38_t0), .val (.int v44_t0), .unset, .unset, .unset, .unset, .unset, .unset, .unset] [(.int (16 : Int32)), (.int p2)])) _
      refine XS.iand X44.here hx rfl (hb hby at_167) rfl ?_
      exact kt
    by_cases hc47 : (p2 &&& (16 : Int32)) = (0 : Int32)
    · have sg48 : ∀ target, Steps p.tables e below (T44.setTop (mkF m 176 #[.val (.int p1), .val (.int p2), .val (.int p3), .val (.int p4), .val (.int p5), .val (.int p6), .val (.int u1), .val (.int u3), .val (.int u5), .val (.int u7), .val (.int u9), .val (.int u11), .val (.int u13), .val (.int u15), .val (.int u17), .val (.int u19), .val (.int v26_t0), .val (.int v32_t0), .val (.int v38_t0), .val (.int v44_t0), .unset, .unset, .unset, .unset, .unset, .unset, .unset] [(.int (0 : Int32))])) target → Steps p.tables e below (T44.setTop (mkF m 168 #[.val (.int p1), .val (.int p2), .val (.int p3), .val (.int p4), .val (.int p5), .val (.int p6), .val (.int u1), .val (.int u3), .val (.int u5), .val (.int u7), .val (.int u9), .val (.int u11), .val (.int u13), .val (.int u15), .val (.int u17), .val (.int u19), .val (.int v26_t0), .val (.int v32_t0), .val (.int v38_t0), .val (.int v44_t0), .unset, .unset, .unset, .unset, .unset, .unset, .unset] [(.int (p2 &&& (16 : Int32)))])) target := by
        intro target kt
        show Steps p.tables e below (T44.setTop (mkF m 168 #[.val (.int p1), .val (.int p2), .val (.int p3), .val (.int p4), .val (.int p5), .val (.int p6), .val (.int u1), .val (.int u3), .val (.int u5), .val (.int u7), .val (.int u9), .val (.int u11), .val (.int u13), .val (.int u15), .val (.int u17), .val (.int u19), .val (.int v26_t0), .val (.int v32_t0), .val (.int v38_t0), .val (.int v44_t0), .unset, .unset, .unset, .unset, .unset, .unset, .unset] [(.int (p2 &&& (16 : Int32)))])) _
        refine XS.ifYes X44.here hx rfl (pc0 := 168) (pc' := 175) rfl (hb hby at_168) rfl ((if0 _ _).trans (teq hc47).1) (by decide) (by decide) ?_
        show Steps p.tables e below (T44.setTop (mkF m 175 #[.val (.int p1), .val (.int p2), .val (.int p3), .val (.int p4), .val (.int p5), .val (.int p6), .val (.int u1), .val (.int u3), .val (.int u5), .val (.int u7), .val (.int u9), .val (.int u11), .val (.int u13), .val (.int u15), .val (.int u17), .val (.int u19), .val (.int v26_t0), .val (.int v32_t0), .val (.int v38_t0), .val (.int v44_t0), .unset, .unset, .unset, .unset, .unset, .unset, .unset] [])) _
        refine XS.iconst X44.here hx rfl (hb hby at_175) ?_
        exact kt
      exact ⟨T44, _, (0 : Int32), X44.mono (by decide) (by decide), e44, N44, (by rw [if_pos hc47]), fun target kt => sg46 _ (sg48 _ (kt))⟩
    · have sg49 : ∀ target, Steps p.tables e below (T44.setTop (mkF m 176 #[.val (.int p1), .val (.int p2), .val (.int p3), .val (.int p4), .val (.int p5), .val (.int p6), .val (.int u1), .val (.int u3), .val (.int u5), .val (.int u7), .val (.int u9), .val (.int u11), .val (.int u13), .val (.int u15), .val (.int u17), .val (.int u19), .val (.int v26_t0), .val (.int v32_t0), .val (.int v38_t0), .val (.int v44_t0), .unset, .unset, .unset, .unset, .unset, .unset, .unset] [(.int (1 : Int32))])) target → Steps p.tables e below (T44.setTop (mkF m 168 #[.val (.int p1), .val (.int p2), .val (.int p3), .val (.int p4), .val (.int p5), .val (.int p6), .val (.int u1), .val (.int u3), .val (.int u5), .val (.int u7), .val (.int u9), .val (.int u11), .val (.int u13), .val (.int u15), .val (.int u17), .val (.int u19), .val (.int v26_t0), .val (.int v32_t0), .val (.int v38_t0), .val (.int v44_t0), .unset, .unset, .unset, .unset, .unset, .unset, .unset] [(.int (p2 &&& (16 : Int32)))])) target := by
        intro target kt
        show Steps p.tables e below (T44.setTop (mkF m 168 #[.val (.int p1), .val (.int p2), .val (.int p3), .val (.int p4), .val (.int p5), .val (.int p6), .val (.int u1), .val (.int u3), .val (.int u5), .val (.int u7), .val (.int u9), .val (.int u11), .val (.int u13), .val (.int u15), .val (.int u17), .val (.int u19), .val (.int v26_t0), .val (.int v32_t0), .val (.int v38_t0), .val (.int v44_t0), .unset, .unset, .unset, .unset, .unset, .unset, .unset] [(.int (p2 &&& (16 : Int32)))])) _
        refine XS.ifNo X44.here hx rfl (hb hby at_168) rfl ((if0 _ _).trans (feq hc47).1) ?_
        show Steps p.tables e below (T44.setTop (mkF m 171 #[.val (.int p1), .val (.int p2), .val (.int p3), .val (.int p4), .val (.int p5), .val (.int p6), .val (.int u1), .val (.int u3), .val (.int u5), .val (.int u7), .val (.int u9), .val (.int u11), .val (.int u13), .val (.int u15), .val (.int u17), .val (.int u19), .val (.int v26_t0), .val (.int v32_t0), .val (.int v38_t0), .val (.int v44_t0), .unset, .unset, .unset, .unset, .unset, .unset, .unset] [])) _
        refine XS.iconst X44.here hx rfl (hb hby at_171) ?_
        show Steps p.tables e below (T44.setTop (mkF m 172 #[.val (.int p1), .val (.int p2), .val (.int p3), .val (.int p4), .val (.int p5), .val (.int p6), .val (.int u1), .val (.int u3), .val (.int u5), .val (.int u7), .val (.int u9), .val (.int u11), .val (.int u13), .val (.int u15), .val (.int u17), .val (.int u19), .val (.int v26_t0), .val (.int v32_t0), .val (.int v38_t0), .val (.int v44_t0), .unset, .unset, .unset, .unset, .unset, .unset, .unset] [(.int (1 : Int32))])) _
        refine XS.goto X44.here hx rfl (pc0 := 172) (pc' := 176) rfl (hb hby at_172) (by decide) (by decide) ?_
        exact kt
      exact ⟨T44, _, (1 : Int32), X44.mono (by decide) (by decide), e44, N44, (by rw [if_neg hc47]), fun target kt => sg46 _ (sg49 _ (kt))⟩
  have sg51 : ∀ target, Steps p.tables e below (T50.setTop (mkF m 178 #[.val (.int p1), .val (.int p2), .val (.int p3), .val (.int p4), .val (.int p5), .val (.int p6), .val (.int u1), .val (.int u3), .val (.int u5), .val (.int u7), .val (.int u9), .val (.int u11), .val (.int u13), .val (.int u15), .val (.int u17), .val (.int u19), .val (.int v26_t0), .val (.int v32_t0), .val (.int v38_t0), .val (.int v44_t0), .val (.int v50_t0), .unset, .unset, .unset, .unset, .unset, .unset] [])) target → Steps p.tables e below (T50.setTop (mkF m 176 #[.val (.int p1), .val (.int p2), .val (.int p3), .val (.int p4), .val (.int p5), .val (.int p6), .val (.int u1), .val (.int u3), .val (.int u5), .val (.int u7), .val (.int u9), .val (.int u11), .val (.int u13), .val (.int u15), .val (.int u17), .val (.int u19), .val (.int v26_t0), .val (.int v32_t0), .val (.int v38_t0), .val (.int v44_t0), .unset, .unset, .unset, .unset, .unset, .unset, .unset] [(.int v50_t0)])) target := by
    intro target kt
    show Steps p.tables e below (T50.setTop (mkF m 176 #[.val (.int p1), .val (.int p2), .val (.int p3), .val (.int p4), .val (.int p5), .val (.int p6), .val (.int u1), .val (.int u3), .val (.int u5), .val (.int u7), .val (.int u9), .val (.int u11), .val (.int u13), .val (.int u15), .val (.int u17), .val (.int u19), .val (.int v26_t0), .val (.int v32_t0), .val (.int v38_t0), .val (.int v44_t0), .unset, .unset, .unset, .unset, .unset, .unset, .unset] [(.int v50_t0)])) _
    refine XS.istore X50.here hx rfl (hb hby at_176) rfl (l' := #[.val (.int p1), .val (.int p2), .val (.int p3), .val (.int p4), .val (.int p5), .val (.int p6), .val (.int u1), .val (.int u3), .val (.int u5), .val (.int u7), .val (.int u9), .val (.int u11), .val (.int u13), .val (.int u15), .val (.int u17), .val (.int u19), .val (.int v26_t0), .val (.int v32_t0), .val (.int v38_t0), .val (.int v44_t0), .val (.int v50_t0), .unset, .unset, .unset, .unset, .unset, .unset]) rfl ?_
    exact kt
  obtain ⟨T56, L56, v56_t0, X56, e56, N56, hv56_t0, sg56⟩ : ∃ (T' : State) (L' : List Loc) (v56_t0 : Int32), Stand p l e room_1 s m #[(.int p1), (.int p2), (.int p3), (.int p4), (.int p5), (.int p6)] below meth c T' L' 0 0 ∧ T'.heap = h0 ∧ Fr n0 L' ∧ v56_t0 = (if (p2 &&& (32 : Int32)) = (0 : Int32) then (0 : Int32) else (1 : Int32)) ∧ ∀ target, Steps p.tables e below (T'.setTop (mkF m 190 #[.val (.int p1), .val (.int p2), .val (.int p3), .val (.int p4), .val (.int p5), .val (.int p6), .val (.int u1), .val (.int u3), .val (.int u5), .val (.int u7), .val (.int u9), .val (.int u11), .val (.int u13), .val (.int u15), .val (.int u17), .val (.int u19), .val (.int v26_t0), .val (.int v32_t0), .val (.int v38_t0), .val (.int v44_t0), .val (.int v50_t0), .unset, .unset, .unset, .unset, .unset, .unset] [(.int v56_t0)])) target → Steps p.tables e below (T50.setTop (mkF m 178 #[.val (.int p1), .val (.int p2), .val (.int p3), .val (.int p4), .val (.int p5), .val (.int p6), .val (.int u1), .val (.int u3), .val (.int u5), .val (.int u7), .val (.int u9), .val (.int u11), .val (.int u13), .val (.int u15), .val (.int u17), .val (.int u19), .val (.int v26_t0), .val (.int v32_t0), .val (.int v38_t0), .val (.int v44_t0), .val (.int v50_t0), .unset, .unset, .unset, .unset, .unset, .unset] [])) target := by
    have sg52 : ∀ target, Steps p.tables e below (T50.setTop (mkF m 182 #[.val (.int p1), .val (.int p2), .val (.int p3), .val (.int p4), .val (.int p5), .val (.int p6), .val (.int u1), .val (.int u3), .val (.int u5), .val (.int u7), .val (.int u9), .val (.int u11), .val (.int u13), .val (.int u15), .val (.int u17), .val (.int u19), .val (.int v26_t0), .val (.int v32_t0), .val (.int v38_t0), .val (.int v44_t0), .val (.int v50_t0), .unset, .unset, .unset, .unset, .unset, .unset] [(.int (p2 &&& (32 : Int32)))])) target → Steps p.tables e below (T50.setTop (mkF m 178 #[.val (.int p1), .val (.int p2), .val (.int p3), .val (.int p4), .val (.int p5), .val (.int p6), .val (.int u1), .val (.int u3), .val (.int u5), .val (.int u7), .val (.int u9), .val (.int u11), .val (.int u13), .val (.int u15), .val (.int u17), .val (.int u19), .val (.int v26_t0), .val (.int v32_t0), .val (.int v38_t0), .val (.int v44_t0), .val (.int v50_t0), .unset, .unset, .unset, .unset, .unset, .unset] [])) target := by
      intro target kt
      show Steps p.tables e below (T50.setTop (mkF m 178 #[.val (.int p1), .val (.int p2), .val (.int p3), .val (.int p4), .val (.int p5), .val (.int p6), .val (.int u1), .val (.int u3), .val (.int u5), .val (.int u7), .val (.int u9), .val (.int u11), .val (.int u13), .val (.int u15), .val (.int u17), .val (.int u19), .val (.int v26_t0), .val (.int v32_t0), .val (.int v38_t0), .val (.int v44_t0), .val (.int v50_t0), .unset, .unset, .unset, .unset, .unset, .unset] [])) _
      refine XS.iloadN X50.here hx rfl (hb hby at_178) rfl ?_
      show Steps p.tables e below (T50.setTop (mkF m 179 #[.val (.int p1), .val (.int p2), .val (.int p3), .val (.int p4), .val (.int p5), .val (.int p6), .val (.int u1), .val (.int u3), .val (.int u5), .val (.int u7), .val (.int u9), .val (.int u11), .val (.int u13), .val (.int u15), .val (.int u17), .val (.int u19), .val (.int v26_t0), .val (.int v32_t0), .val (.int v38_t0), .val (.int v44_t0), .val (.int v50_t0), .unset, .unset, .unset, .unset, .unset, .unset] [(.int p2)])) _
      refine XS.bipush X50.here hx rfl (hb hby at_179) ?_
      show Steps p.tables e below (T50.setTop (mkF m 181 #[.val (.int p1), .val (.int p2), .val (.int p3), .val (.int p4), .val (.int p5), .val (.int p6), .val (.int u1), .val (.int u3), .val (.int u5), .val (.int u7), .val (.int u9), .val (.int u11), .val (.int u13), .val (.int u15), .val (.int u17), .val (.int u19), .val (.int v26_t0), .val (.int v32_t0), .val (.int v38_t0), .val (.int v44_t0), .val (.int v50_t0), .unset, .unset, .unset, .unset, .unset, .unset] [(.int (32 : Int32)), (.int p2)])) _
      refine XS.iand X50.here hx rfl (hb hby at_181) rfl ?_
      exact kt
    by_cases hc53 : (p2 &&& (32 : Int32)) = (0 : Int32)
    · have sg54 : ∀ target, Steps p.tables e below (T50.setTop (mkF m 190 #[.val (.int p1), .val (.int p2), .val (.int p3), .val (.int p4), .val (.int p5), .val (.int p6), .val (.int u1), .val (.int u3), .val (.int u5), .val (.int u7), .val (.int u9), .val (.int u11), .val (.int u13), .val (.int u15), .val (.int u17), .val (.int u19), .val (.int v26_t0), .val (.int v32_t0), .val (.int v38_t0), .val (.int v44_t0), .val (.int v50_t0), .unset, .unset, .unset, .unset, .unset, .unset] [(.int (0 : Int32))])) target → Steps p.tables e below (T50.setTop (mkF m 182 #[.val (.int p1), .val (.int p2), .val (.int p3), .val (.int p4), .val (.int p5), .val (.int p6), .val (.int u1), .val (.int u3), .val (.int u5), .val (.int u7), .val (.int u9), .val (.int u11), .val (.int u13), .val (.int u15), .val (.int u17), .val (.int u19), .val (.int v26_t0), .val (.int v32_t0), .val (.int v38_t0), .val (.int v44_t0), .val (.int v50_t0), .unset, .unset, .unset, .unset, .unset, .unset] [(.int (p2 &&& (32 : Int32)))])) target := by
        intro target kt
        show Steps p.tables e below (T50.setTop (mkF m 182 #[.val (.int p1), .val (.int p2), .val (.int p3), .val (.int p4), .val (.int p5), .val (.int p6), .val (.int u1), .val (.int u3), .val (.int u5), .val (.int u7), .val (.int u9), .val (.int u11), .val (.int u13), .val (.int u15), .val (.int u17), .val (.int u19), .val (.int v26_t0), .val (.int v32_t0), .val (.int v38_t0), .val (.int v44_t0), .val (.int v50_t0), .unset, .unset, .unset, .unset, .unset, .unset] [(.int (p2 &&& (32 : Int32)))])) _
        refine XS.ifYes X50.here hx rfl (pc0 := 182) (pc' := 189) rfl (hb hby at_182) rfl ((if0 _ _).trans (teq hc53).1) (by decide) (by decide) ?_
        show Steps p.tables e below (T50.setTop (mkF m 189 #[.val (.int p1), .val (.int p2), .val (.int p3), .val (.int p4), .val (.int p5), .val (.int p6), .val (.int u1), .val (.int u3), .val (.int u5), .val (.int u7), .val (.int u9), .val (.int u11), .val (.int u13), .val (.int u15), .val (.int u17), .val (.int u19), .val (.int v26_t0), .val (.int v32_t0), .val (.int v38_t0), .val (.int v44_t0), .val (.int v50_t0), .unset, .unset, .unset, .unset, .unset, .unset] [])) _
        refine XS.iconst X50.here hx rfl (hb hby at_189) ?_
        exact kt
      exact ⟨T50, _, (0 : Int32), X50.mono (by decide) (by decide), e50, N50, (by rw [if_pos hc53]), fun target kt => sg52 _ (sg54 _ (kt))⟩
    · have sg55 : ∀ target, Steps p.tables e below (T50.setTop (mkF m 190 #[.val (.int p1), .val (.int p2), .val (.int p3), .val (.int p4), .val (.int p5), .val (.int p6), .val (.int u1), .val (.int u3), .val (.int u5), .val (.int u7), .val (.int u9), .val (.int u11), .val (.int u13), .val (.int u15), .val (.int u17), .val (.int u19), .val (.int v26_t0), .val (.int v32_t0), .val (.int v38_t0), .val (.int v44_t0), .val (.int v50_t0), .unset, .unset, .unset, .unset, .unset, .unset] [(.int (1 : Int32))])) target → Steps p.tables e below (T50.setTop (mkF m 182 #[.val (.int p1), .val (.int p2), .val (.int p3), .val (.int p4), .val (.int p5), .val (.int p6), .val (.int u1), .val (.int u3), .val (.int u5), .val (.int u7), .val (.int u9), .val (.int u11), .val (.int u13), .val (.int u15), .val (.int u17), .val (.int u19), .val (.int v26_t0), .val (.int v32_t0), .val (.int v38_t0), .val (.int v44_t0), .val (.int v50_t0), .unset, .unset, .unset, .unset, .unset, .unset] [(.int (p2 &&& (32 : Int32)))])) target := by
        intro target kt
        show Steps p.tables e below (T50.setTop (mkF m 182 #[.val (.int p1), .val (.int p2), .val (.int p3), .val (.int p4), .val (.int p5), .val (.int p6), .val (.int u1), .val (.int u3), .val (.int u5), .val (.int u7), .val (.int u9), .val (.int u11), .val (.int u13), .val (.int u15), .val (.int u17), .val (.int u19), .val (.int v26_t0), .val (.int v32_t0), .val (.int v38_t0), .val (.int v44_t0), .val (.int v50_t0), .unset, .unset, .unset, .unset, .unset, .unset] [(.int (p2 &&& (32 : Int32)))])) _
        refine XS.ifNo X50.here hx rfl (hb hby at_182) rfl ((if0 _ _).trans (feq hc53).1) ?_
        show Steps p.tables e below (T50.setTop (mkF m 185 #[.val (.int p1), .val (.int p2), .val (.int p3), .val (.int p4), .val (.int p5), .val (.int p6), .val (.int u1), .val (.int u3), .val (.int u5), .val (.int u7), .val (.int u9), .val (.int u11), .val (.int u13), .val (.int u15), .val (.int u17), .val (.int u19), .val (.int v26_t0), .val (.int v32_t0), .val (.int v38_t0), .val (.int v44_t0), .val (.int v50_t0), .unset, .unset, .unset, .unset, .unset, .unset] [])) _
        refine XS.iconst X50.here hx rfl (hb hby at_185) ?_
        show Steps p.tables e below (T50.setTop (mkF m 186 #[.val (.int p1), .val (.int p2), .val (.int p3), .val (.int p4), .val (.int p5), .val (.int p6), .val (.int u1), .val (.int u3), .val (.int u5), .val (.int u7), .val (.int u9), .val (.int u11), .val (.int u13), .val (.int u15), .val (.int u17), .val (.int u19), .val (.int v26_t0), .val (.int v32_t0), .val (.int v38_t0), .val (.int v44_t0), .val (.int v50_t0), .unset, .unset, .unset, .unset, .unset, .unset] [(.int (1 : Int32))])) _
        refine XS.goto X50.here hx rfl (pc0 := 186) (pc' := 190) rfl (hb hby at_186) (by decide) (by decide) ?_
        exact kt
      exact ⟨T50, _, (1 : Int32), X50.mono (by decide) (by decide), e50, N50, (by rw [if_neg hc53]), fun target kt => sg52 _ (sg55 _ (kt))⟩
  have sg57 : ∀ target, Steps p.tables e below (T56.setTop (mkF m 192 #[.val (.int p1), .val (.int p2), .val (.int p3), .val (.int p4), .val (.int p5), .val (.int p6), .val (.int u1), .val (.int u3), .val (.int u5), .val (.int u7), .val (.int u9), .val (.int u11), .val (.int u13), .val (.int u15), .val (.int u17), .val (.int u19), .val (.int v26_t0), .val (.int v32_t0), .val (.int v38_t0), .val (.int v44_t0), .val (.int v50_t0), .val (.int v56_t0), .unset, .unset, .unset, .unset, .unset] [])) target → Steps p.tables e below (T56.setTop (mkF m 190 #[.val (.int p1), .val (.int p2), .val (.int p3), .val (.int p4), .val (.int p5), .val (.int p6), .val (.int u1), .val (.int u3), .val (.int u5), .val (.int u7), .val (.int u9), .val (.int u11), .val (.int u13), .val (.int u15), .val (.int u17), .val (.int u19), .val (.int v26_t0), .val (.int v32_t0), .val (.int v38_t0), .val (.int v44_t0), .val (.int v50_t0), .unset, .unset, .unset, .unset, .unset, .unset] [(.int v56_t0)])) target := by
    intro target kt
    show Steps p.tables e below (T56.setTop (mkF m 190 #[.val (.int p1), .val (.int p2), .val (.int p3), .val (.int p4), .val (.int p5), .val (.int p6), .val (.int u1), .val (.int u3), .val (.int u5), .val (.int u7), .val (.int u9), .val (.int u11), .val (.int u13), .val (.int u15), .val (.int u17), .val (.int u19), .val (.int v26_t0), .val (.int v32_t0), .val (.int v38_t0), .val (.int v44_t0), .val (.int v50_t0), .unset, .unset, .unset, .unset, .unset, .unset] [(.int v56_t0)])) _
    refine XS.istore X56.here hx rfl (hb hby at_190) rfl (l' := #[.val (.int p1), .val (.int p2), .val (.int p3), .val (.int p4), .val (.int p5), .val (.int p6), .val (.int u1), .val (.int u3), .val (.int u5), .val (.int u7), .val (.int u9), .val (.int u11), .val (.int u13), .val (.int u15), .val (.int u17), .val (.int u19), .val (.int v26_t0), .val (.int v32_t0), .val (.int v38_t0), .val (.int v44_t0), .val (.int v50_t0), .val (.int v56_t0), .unset, .unset, .unset, .unset, .unset]) rfl ?_
    exact kt
  obtain ⟨T62, L62, v62_t0, X62, e62, N62, hv62_t0, sg62⟩ : ∃ (T' : State) (L' : List Loc) (v62_t0 : Int32), Stand p l e room_1 s m #[(.int p1), (.int p2), (.int p3), (.int p4), (.int p5), (.int p6)] below meth c T' L' 0 0 ∧ T'.heap = h0 ∧ Fr n0 L' ∧ v62_t0 = (if (p2 &&& (64 : Int32)) = (0 : Int32) then (0 : Int32) else (1 : Int32)) ∧ ∀ target, Steps p.tables e below (T'.setTop (mkF m 204 #[.val (.int p1), .val (.int p2), .val (.int p3), .val (.int p4), .val (.int p5), .val (.int p6), .val (.int u1), .val (.int u3), .val (.int u5), .val (.int u7), .val (.int u9), .val (.int u11), .val (.int u13), .val (.int u15), .val (.int u17), .val (.int u19), .val (.int v26_t0), .val (.int v32_t0), .val (.int v38_t0), .val (.int v44_t0), .val (.int v50_t0), .val (.int v56_t0), .unset, .unset, .unset, .unset, .unset] [(.int v62_t0)])) target → Steps p.tables e below (T56.setTop (mkF m 192 #[.val (.int p1), .val (.int p2), .val (.int p3), .val (.int p4), .val (.int p5), .val (.int p6), .val (.int u1), .val (.int u3), .val (.int u5), .val (.int u7), .val (.int u9), .val (.int u11), .val (.int u13), .val (.int u15), .val (.int u17), .val (.int u19), .val (.int v26_t0), .val (.int v32_t0), .val (.int v38_t0), .val (.int v44_t0), .val (.int v50_t0), .val (.int v56_t0), .unset, .unset, .unset, .unset, .unset] [])) target := by
    have sg58 : ∀ target, Steps p.tables e below (T56.setTop (mkF m 196 #[.val (.int p1), .val (.int p2), .val (.int p3), .val (.int p4), .val (.int p5), .val (.int p6), .val (.int u1), .val (.int u3), .val (.int u5), .val (.int u7), .val (.int u9), .val (.int u11), .val (.int u13), .val (.int u15), .val (.int u17), .val (.int u19), .val (.int v26_t0), .val (.int v32_t0), .val (.int v38_t0), .val (.int v44_t0), .val (.int v50_t0), .val (.int v56_t0), .unset, .unset, .unset, .unset, .unset] [(.int (p2 &&& (64 : Int32)))])) target → Steps p.tables e below (T56.setTop (mkF m 192 #[.val (.int p1), .val (.int p2), .val (.int p3), .val (.int p4), .val (.int p5), .val (.int p6), .val (.int u1), .val (.int u3), .val (.int u5), .val (.int u7), .val (.int u9), .val (.int u11), .val (.int u13), .val (.int u15), .val (.int u17), .val (.int u19), .val (.int v26_t0), .val (.int v32_t0), .val (.int v38_t0), .val (.int v44_t0), .val (.int v50_t0), .val (.int v56_t0), .unset, .unset, .unset, .unset, .unset] [])) target := by
      intro target kt
      show Steps p.tables e below (T56.setTop (mkF m 192 #[.val (.int p1), .val (.int p2), .val (.int p3), .val (.int p4), .val (.int p5), .val (.int p6), .val (.int u1), .val (.int u3), .val (.int u5), .val (.int u7), .val (.int u9), .val (.int u11), .val (.int u13), .val (.int u15), .val (.int u17), .val (.int u19), .val (.int v26_t0), .val (.int v32_t0), .val (.int v38_t0), .val (.int v44_t0), .val (.int v50_t0), .val (.int v56_t0), .unset, .unset, .unset, .unset, .unset] [])) _
      refine XS.iloadN X56.here hx rfl (hb hby at_192) rfl ?_
      show Steps p.tables e below (T56.setTop (mkF m 193 #[.val (.int p1), .val (.int p2), .val (.int p3), .val (.int p4), .val (.int p5), .val (.int p6), .val (.int u1), .val (.int u3), .val (.int u5), .val (.int u7), .val (.int u9), .val (.int u11), .val (.int u13), .val (.int u15), .val (.int u17), .val (.int u19), .val (.int v26_t0), .val (.int v32_t0), .val (.int v38_t0), .val (.int v44_t0), .val (.int v50_t0), .val (.int v56_t0), .unset, .unset, .unset, .unset, .unset] [(.int p2)])) _
      refine XS.bipush X56.here hx rfl (hb hby at_193) ?_
      show Steps p.tables e below (T56.setTop (mkF m 195 #[.val (.int p1), .val (.int p2), .val (.int p3), .val (.int p4), .val (.int p5), .val (.int p6), .val (.int u1), .val (.int u3), .val (.int u5), .val (.int u7), .val (.int u9), .val (.int u11), .val (.int u13), .val (.int u15), .val (.int u17), .val (.int u19), .val (.int v26_t0), .val (.int v32_t0), .val (.int v38_t0), .val (.int v44_t0), .val (.int v50_t0), .val (.int v56_t0), .unset, .unset, .unset, .unset, .unset] [(.int (64 : Int32)), (.int p2)])) _
      refine XS.iand X56.here hx rfl (hb hby at_195) rfl ?_
      exact kt
    by_cases hc59 : (p2 &&& (64 : Int32)) = (0 : Int32)
    · have sg60 : ∀ target, Steps p.tables e below (T56.setTop (mkF m 204 #[.val (.int p1), .val (.int p2), .val (.int p3), .val (.int p4), .val (.int p5), .val (.int p6), .val (.int u1), .val (.int u3), .val (.int u5), .val (.int u7), .val (.int u9), .val (.int u11), .val (.int u13), .val (.int u15), .val (.int u17), .val (.int u19), .val (.int v26_t0), .val (.int v32_t0), .val (.int v38_t0), .val (.int v44_t0), .val (.int v50_t0), .val (.int v56_t0), .unset, .unset, .unset, .unset, .unset] [(.int (0 : Int32))])) target → Steps p.tables e below (T56.setTop (mkF m 196 #[.val (.int p1), .val (.int p2), .val (.int p3), .val (.int p4), .val (.int p5), .val (.int p6), .val (.int u1), .val (.int u3), .val (.int u5), .val (.int u7), .val (.int u9), .val (.int u11), .val (.int u13), .val (.int u15), .val (.int u17), .val (.int u19), .val (.int v26_t0), .val (.int v32_t0), .val (.int v38_t0), .val (.int v44_t0), .val (.int v50_t0), .val (.int v56_t0), .unset, .unset, .unset, .unset, .unset] [(.int (p2 &&& (64 : Int32)))])) target := by
        intro target kt
        show Steps p.tables e below (T56.setTop (mkF m 196 #[.val (.int p1), .val (.int p2), .val (.int p3), .val (.int p4), .val (.int p5), .val (.int p6), .val (.int u1), .val (.int u3), .val (.int u5), .val (.int u7), .val (.int u9), .val (.int u11), .val (.int u13), .val (.int u15), .val (.int u17), .val (.int u19), .val (.int v26_t0), .val (.int v32_t0), .val (.int v38_t0), .val (.int v44_t0), .val (.int v50_t0), .val (.int v56_t0), .unset, .unset, .unset, .unset, .unset] [(.int (p2 &&& (64 : Int32)))])) _
        refine XS.ifYes X56.here hx rfl (pc0 := 196) (pc' := 203) rfl (hb hby at_196) rfl ((if0 _ _).trans (teq hc59).1) (by decide) (by decide) ?_
        show Steps p.tables e below (T56.setTop (mkF m 203 #[.val (.int p1), .val (.int p2), .val (.int p3), .val (.int p4), .val (.int p5), .val (.int p6), .val (.int u1), .val (.int u3), .val (.int u5), .val (.int u7), .val (.int u9), .val (.int u11), .val (.int u13), .val (.int u15), .val (.int u17), .val (.int u19), .val (.int v26_t0), .val (.int v32_t0), .val (.int v38_t0), .val (.int v44_t0), .val (.int v50_t0), .val (.int v56_t0), .unset, .unset, .unset, .unset, .unset] [])) _
        refine XS.iconst X56.here hx rfl (hb hby at_203) ?_
        exact kt
      exact ⟨T56, _, (0 : Int32), X56.mono (by decide) (by decide), e56, N56, (by rw [if_pos hc59]), fun target kt => sg58 _ (sg60 _ (kt))⟩
    · have sg61 : ∀ target, Steps p.tables e below (T56.setTop (mkF m 204 #[.val (.int p1), .val (.int p2), .val (.int p3), .val (.int p4), .val (.int p5), .val (.int p6), .val (.int u1), .val (.int u3), .val (.int u5), .val (.int u7), .val (.int u9), .val (.int u11), .val (.int u13), .val (.int u15), .val (.int u17), .val (.int u19), .val (.int v26_t0), .val (.int v32_t0), .val (.int v38_t0), .val (.int v44_t0), .val (.int v50_t0), .val (.int v56_t0), .unset, .unset, .unset, .unset, .unset] [(.int (1 : Int32))])) target → Steps p.tables e below (T56.setTop (mkF m 196 #[.val (.int p1), .val (.int p2), .val (.int p3), .val (.int p4), .val (.int p5), .val (.int p6), .val (.int u1), .val (.int u3), .val (.int u5), .val (.int u7), .val (.int u9), .val (.int u11), .val (.int u13), .val (.int u15), .val (.int u17), .val (.int u19), .val (.int v26_t0), .val (.int v32_t0), .val (.int v38_t0), .val (.int v44_t0), .val (.int v50_t0), .val (.int v56_t0), .unset, .unset, .unset, .unset, .unset] [(.int (p2 &&& (64 : Int32)))])) target := by
        intro target kt
        show Steps p.tables e below (T56.setTop (mkF m 196 #[.val (.int p1), .val (.int p2), .val (.int p3), .val (.int p4), .val (.int p5), .val (.int p6), .val (.int u1), .val (.int u3), .val (.int u5), .val (.int u7), .val (.int u9), .val (.int u11), .val (.int u13), .val (.int u15), .val (.int u17), .val (.int u19), .val (.int v26_t0), .val (.int v32_t0), .val (.int v38_t0), .val (.int v44_t0), .val (.int v50_t0), .val (.int v56_t0), .unset, .unset, .unset, .unset, .unset] [(.int (p2 &&& (64 : Int32)))])) _
        refine XS.ifNo X56.here hx rfl (hb hby at_196) rfl ((if0 _ _).trans (feq hc59).1) ?_
        show Steps p.tables e below (T56.setTop (mkF m 199 #[.val (.int p1), .val (.int p2), .val (.int p3), .val (.int p4), .val (.int p5), .val (.int p6), .val (.int u1), .val (.int u3), .val (.int u5), .val (.int u7), .val (.int u9), .val (.int u11), .val (.int u13), .val (.int u15), .val (.int u17), .val (.int u19), .val (.int v26_t0), .val (.int v32_t0), .val (.int v38_t0), .val (.int v44_t0), .val (.int v50_t0), .val (.int v56_t0), .unset, .unset, .unset, .unset, .unset] [])) _
        refine XS.iconst X56.here hx rfl (hb hby at_199) ?_
        show Steps p.tables e below (T56.setTop (mkF m 200 #[.val (.int p1), .val (.int p2), .val (.int p3), .val (.int p4), .val (.int p5), .val (.int p6), .val (.int u1), .val (.int u3), .val (.int u5), .val (.int u7), .val (.int u9), .val (.int u11), .val (.int u13), .val (.int u15), .val (.int u17), .val (.int u19), .val (.int v26_t0), .val (.int v32_t0), .val (.int v38_t0), .val (.int v44_t0), .val (.int v50_t0), .val (.int v56_t0), .unset, .unset, .unset, .unset, .unset] [(.int (1 : Int32))])) _
        refine XS.goto X56.here hx rfl (pc0 := 200) (pc' := 204) rfl (hb hby at_200) (by decide) (by decide) ?_
        exact kt
      exact ⟨T56, _, (1 : Int32), X56.mono (by decide) (by decide), e56, N56, (by rw [if_neg hc59]), fun target kt => sg58 _ (sg61 _ (kt))⟩
  obtain ⟨u63, hu63⟩ : ∃ z, z = (((p2.toUInt32 >>> ((7 : Int32) &&& 31).toUInt32).toInt32) &&& (3 : Int32)) := ⟨_, rfl⟩
  have sg64 : ∀ target, Steps p.tables e below (T62.setTop (mkF m 212 #[.val (.int p1), .val (.int p2), .val (.int p3), .val (.int p4), .val (.int p5), .val (.int p6), .val (.int u1), .val (.int u3), .val (.int u5), .val (.int u7), .val (.int u9), .val (.int u11), .val (.int u13), .val (.int u15), .val (.int u17), .val (.int u19), .val (.int v26_t0), .val (.int v32_t0), .val (.int v38_t0), .val (.int v44_t0), .val (.int v50_t0), .val (.int v56_t0), .val (.int v62_t0), .unset, .unset, .unset, .unset] [(.int u63)])) target → Steps p.tables e below (T62.setTop (mkF m 204 #[.val (.int p1), .val (.int p2), .val (.int p3), .val (.int p4), .val (.int p5), .val (.int p6), .val (.int u1), .val (.int u3), .val (.int u5), .val (.int u7), .val (.int u9), .val (.int u11), .val (.int u13), .val (.int u15), .val (.int u17), .val (.int u19), .val (.int v26_t0), .val (.int v32_t0), .val (.int v38_t0), .val (.int v44_t0), .val (.int v50_t0), .val (.int v56_t0), .unset, .unset, .unset, .unset, .unset] [(.int v62_t0)])) target := by
    intro target kt
    subst hu63
    show Steps p.tables e below (T62.setTop (mkF m 204 #[.val (.int p1), .val (.int p2), .val (.int p3), .val (.int p4), .val (.int p5), .val (.int p6), .val (.int u1), .val (.int u3), .val (.int u5), .val (.int u7), .val (.int u9), .val (.int u11), .val (.int u13), .val (.int u15), .val (.int u17), .val (.int u19), .val (.int v26_t0), .val (.int v32_t0), .val (.int v38_t0), .val (.int v44_t0), .val (.int v50_t0), .val (.int v56_t0), .unset, .unset, .unset, .unset, .unset] [(.int v62_t0)])) _
    refine XS.istore X62.here hx rfl (hb hby at_204) rfl (l' := #[.val (.int p1), .val (.int p2), .val (.int p3), .val (.int p4), .val (.int p5), .val (.int p6), .val (.int u1), .val (.int u3), .val (.int u5), .val (.int u7), .val (.int u9), .val (.int u11), .val (.int u13), .val (.int u15), .val (.int u17), .val (.int u19), .val (.int v26_t0), .val (.int v32_t0), .val (.int v38_t0), .val (.int v44_t0), .val (.int v50_t0), .val (.int v56_t0), .val (.int v62_t0), .unset, .unset, .unset, .unset]) rfl ?_
    show Steps p.tables e below (T62.setTop (mkF m 206 #[.val (.int p1), .val (.int p2), .val (.int p3), .val (.int p4), .val (.int p5), .val (.int p6), .val (.int u1), .val (.int u3), .val (.int u5), .val (.int u7), .val (.int u9), .val (.int u11), .val (.int u13), .val (.int u15), .val (.int u17), .val (.int u19), .val (.int v26_t0), .val (.int v32_t0), .val (.int v38_t0), .val (.int v44_t0), .val (.int v50_t0), .val (.int v56_t0), .val (.int v62_t0), .unset, .unset, .unset, .unset] [])) _
    refine XS.iloadN X62.here hx rfl (hb hby at_206) rfl ?_
    show Steps p.tables e below (T62.setTop (mkF m 207 #[.val (.int p1), .val (.int p2), .val (.int p3), .val (.int p4), .val (.int p5), .val (.int p6), .val (.int u1), .val (.int u3), .val (.int u5), .val (.int u7), .val (.int u9), .val (.int u11), .val (.int u13), .val (.int u15), .val (.int u17), .val (.int u19), .val (.int v26_t0), .val (.int v32_t0), .val (.int v38_t0), .val (.int v44_t0), .val (.int v50_t0), .val (.int v56_t0), .val (.int v62_t0), .unset, .unset, .unset, .unset] [(.int p2)])) _
    refine XS.bipush X62.here hx rfl (hb hby at_207) ?_
    show Steps p.tables e below (T62.setTop (mkF m 209 #[.val (.int p1), .val (.int p2), .val (.int p3), .val (.int p4), .val (.int p5), .val (.int p6), .val (.int u1), .val (.int u3), .val (.int u5), .val (.int u7), .val (.int u9), .val (.int u11), .val (.int u13), .val (.int u15), .val (.int u17), .val (.int u19), .val (.int v26_t0), .val (.int v32_t0), .val (.int v38_t0), .val (.int v44_t0), .val (.int v50_t0), .val (.int v56_t0), .val (.int v62_t0), .unset, .unset, .unset, .unset] [(.int (7 : Int32)), (.int p2)])) _
    refine XS.iushr X62.here hx rfl (hb hby at_209) rfl ?_
    show Steps p.tables e below (T62.setTop (mkF m 210 #[.val (.int p1), .val (.int p2), .val (.int p3), .val (.int p4), .val (.int p5), .val (.int p6), .val (.int u1), .val (.int u3), .val (.int u5), .val (.int u7), .val (.int u9), .val (.int u11), .val (.int u13), .val (.int u15), .val (.int u17), .val (.int u19), .val (.int v26_t0), .val (.int v32_t0), .val (.int v38_t0), .val (.int v44_t0), .val (.int v50_t0), .val (.int v56_t0), .val (.int v62_t0), .unset, .unset, .unset, .unset] [(.int ((p2.toUInt32 >>> ((7 : Int32) &&& 31).toUInt32).toInt32))])) _
    refine XS.iconst X62.here hx rfl (hb hby at_210) ?_
    show Steps p.tables e below (T62.setTop (mkF m 211 #[.val (.int p1), .val (.int p2), .val (.int p3), .val (.int p4), .val (.int p5), .val (.int p6), .val (.int u1), .val (.int u3), .val (.int u5), .val (.int u7), .val (.int u9), .val (.int u11), .val (.int u13), .val (.int u15), .val (.int u17), .val (.int u19), .val (.int v26_t0), .val (.int v32_t0), .val (.int v38_t0), .val (.int v44_t0), .val (.int v50_t0), .val (.int v56_t0), .val (.int v62_t0), .unset, .unset, .unset, .unset] [(.int (3 : Int32)), (.int ((p2.toUInt32 >>> ((7 : Int32) &&& 31).toUInt32).toInt32))])) _
    refine XS.iand X62.here hx rfl (hb hby at_211) rfl ?_
    exact kt
  obtain ⟨m23, h_m23, b_m23⟩ := own_and3 hu63
  obtain ⟨T65, h65, X65, e65, E65, A65, D65, -, st65⟩ := newO X62 hx hZ hown (tw hw 1 rfl) (tw hw 2 rfl) (tw hw 3 rfl) e62 (g := (mkF m 214 #[.val (.int p1), .val (.int p2), .val (.int p3), .val (.int p4), .val (.int p5), .val (.int p6), .val (.int u1), .val (.int u3), .val (.int u5), .val (.int u7), .val (.int u9), .val (.int u11), .val (.int u13), .val (.int u15), .val (.int u17), .val (.int u19), .val (.int v26_t0), .val (.int v32_t0), .val (.int v38_t0), .val (.int v44_t0), .val (.int v50_t0), .val (.int v56_t0), .val (.int v62_t0), .val (.int u63), .unset, .unset, .unset] [])) rfl (hb hby at_214) (by decide) (by decide)
  obtain ⟨b65, g65⟩ : ∃ z, z = h0.size := ⟨_, rfl⟩
  rw [← g65] at A65 D65 st65
  have ge_b65 : n0 ≤ b65 := Nat.le_trans (own_osz O0) (Nat.le_of_eq g65.symm)
  have sz_b65 : h0.size ≤ b65 := Nat.le_trans K0.1 (Nat.le_of_eq g65.symm)
  have O66 := O0.ext E65
  have K65 := K0.ext E65
  have F_numbers_b65 : Fld Z h65 b65 "com/example/breakline/breakline/ModifierNumbers" "numbers" "[D" .null := D65 (Or.inl (tw hw 12 rfl)) (ty := (.array .double)) (by decide)
  have F_size_b65 : Fld Z h65 b65 "com/example/breakline/breakline/ModifierNumbers" "size" "I" (.int (0 : Int32)) := D65 (Or.inl (tw hw 19 rfl)) (ty := .int) (by decide)
  have F_listed_b65 : Fld Z h65 b65 "com/example/breakline/breakline/ModifierNumbers" "listed" "[I" .null := D65 (Or.inl (tw hw 82 rfl)) (ty := (.array .int)) (by decide)
  obtain ⟨_, _, ⟨T67, L67, k67, n67⟩, -, X67, ⟨Lc67, hQ67, l67, y67, z67⟩, st67⟩ := X65.specialBack hx (y := (⟨"com/example/breakline/breakline/ModifierNumbers", "<init>", "()V"⟩ : MethodName)) rfl hown (mvT hZ (tw hw 4 rfl)) (mvT hZ (tw hw 5 rfl)) (mvT hZ (tw hw 6 rfl)) (by decide) (backOf (W := 1) (rm1 l Z a0 hw [] b65 h65 n0 O66 A65 F_size_b65 F_numbers_b65 F_listed_b65 ge_b65) hZ (tw hw 6 rfl) (tw hw 3 rfl) (by decide) (by decide)) (g := (mkF m 218 #[.val (.int p1), .val (.int p2), .val (.int p3), .val (.int p4), .val (.int p5), .val (.int p6), .val (.int u1), .val (.int u3), .val (.int u5), .val (.int u7), .val (.int u9), .val (.int u11), .val (.int u13), .val (.int u15), .val (.int u17), .val (.int u19), .val (.int v26_t0), .val (.int v32_t0), .val (.int v38_t0), .val (.int v44_t0), .val (.int v50_t0), .val (.int v56_t0), .val (.int v62_t0), .val (.int u63), .unset, .unset, .unset] [(.ref b65), (.ref b65)])) rfl (by rw [hml]; rfl) (Steps.refl _) (a := b65) (argsL := []) (rest := [(.ref b65)]) (lenOf pd_8 rfl) rfl (by show 2 * 0 + _ ≤ _; exact Nat.le_of_eq rfl) (hb hby at_218) (fun _ _ => ⟨rfl, e65, (by decide : 1 + 1 ≤ _), (by decide : 4 + 0 ≤ _)⟩)
  dsimp only [Pt.U, Pt.locs, Pt.cells, Pt.slots] at X67 l67 y67 z67 st67 hQ67
  subst l67 y67 z67
  obtain ⟨ro_67, ko_67, rfl, N67q, K67q, O67, f67_0, f67_1, f67_2, f67_3, f67_4, f67_5⟩ := hQ67
  have N67 := Fr.app N62 N67q
  have K67 := K65.trans K67q (allS (Or.inr sz_b65) all0)
  obtain ⟨u68, hu68⟩ : ∃ z, z = (p6 &&& (7 : Int32)) := ⟨_, rfl⟩
  have sg69 : ∀ target, Steps p.tables e below (T67.setTop (mkF m 230 #[.val (.int p1), .val (.int p2), .val (.int p3), .val (.int p4), .val (.int p5), .val (.int p6), .val (.int u1), .val (.int u3), .val (.int u5), .val (.int u7), .val (.int u9), .val (.int u11), .val (.int u13), .val (.int u15), .val (.int u17), .val (.int u19), .val (.int v26_t0), .val (.int v32_t0), .val (.int v38_t0), .val (.int v44_t0), .val (.int v50_t0), .val (.int v56_t0), .val (.int v62_t0), .val (.int u63), .val (.ref b65), .unset, .unset] [(.int u68), (.ref b65)])) target → Steps p.tables e below (T62.setTop (mkF m 212 #[.val (.int p1), .val (.int p2), .val (.int p3), .val (.int p4), .val (.int p5), .val (.int p6), .val (.int u1), .val (.int u3), .val (.int u5), .val (.int u7), .val (.int u9), .val (.int u11), .val (.int u13), .val (.int u15), .val (.int u17), .val (.int u19), .val (.int v26_t0), .val (.int v32_t0), .val (.int v38_t0), .val (.int v44_t0), .val (.int v50_t0), .val (.int v56_t0), .val (.int v62_t0), .unset, .unset, .unset, .unset] [(.int u63)])) target := by
    intro target kt
    subst hu68
    show Steps p.tables e below (T62.setTop (mkF m 212 #[.val (.int p1), .val (.int p2), .val (.int p3), .val (.int p4), .val (.int p5), .val (.int p6), .val (.int u1), .val (.int u3), .val (.int u5), .val (.int u7), .val (.int u9), .val (.int u11), .val (.int u13), .val (.int u15), .val (.int u17), .val (.int u19), .val (.int v26_t0), .val (.int v32_t0), .val (.int v38_t0), .val (.int v44_t0), .val (.int v50_t0), .val (.int v56_t0), .val (.int v62_t0), .unset, .unset, .unset, .unset] [(.int u63)])) _
    refine XS.istore X62.here hx rfl (hb hby at_212) rfl (l' := #[.val (.int p1), .val (.int p2), .val (.int p3), .val (.int p4), .val (.int p5), .val (.int p6), .val (.int u1), .val (.int u3), .val (.int u5), .val (.int u7), .val (.int u9), .val (.int u11), .val (.int u13), .val (.int u15), .val (.int u17), .val (.int u19), .val (.int v26_t0), .val (.int v32_t0), .val (.int v38_t0), .val (.int v44_t0), .val (.int v50_t0), .val (.int v56_t0), .val (.int v62_t0), .val (.int u63), .unset, .unset, .unset]) rfl ?_
    show Steps p.tables e below (T62.setTop (mkF m 214 #[.val (.int p1), .val (.int p2), .val (.int p3), .val (.int p4), .val (.int p5), .val (.int p6), .val (.int u1), .val (.int u3), .val (.int u5), .val (.int u7), .val (.int u9), .val (.int u11), .val (.int u13), .val (.int u15), .val (.int u17), .val (.int u19), .val (.int v26_t0), .val (.int v32_t0), .val (.int v38_t0), .val (.int v44_t0), .val (.int v50_t0), .val (.int v56_t0), .val (.int v62_t0), .val (.int u63), .unset, .unset, .unset] [])) _
    refine st65 _ ?_
    show Steps p.tables e below (T65.setTop (mkF m 217 #[.val (.int p1), .val (.int p2), .val (.int p3), .val (.int p4), .val (.int p5), .val (.int p6), .val (.int u1), .val (.int u3), .val (.int u5), .val (.int u7), .val (.int u9), .val (.int u11), .val (.int u13), .val (.int u15), .val (.int u17), .val (.int u19), .val (.int v26_t0), .val (.int v32_t0), .val (.int v38_t0), .val (.int v44_t0), .val (.int v50_t0), .val (.int v56_t0), .val (.int v62_t0), .val (.int u63), .unset, .unset, .unset] [(.ref b65)])) _
    refine XS.dup X65.here hx rfl (hb hby at_217) rfl rfl ?_
    show Steps p.tables e below (T65.setTop (mkF m 218 #[.val (.int p1), .val (.int p2), .val (.int p3), .val (.int p4), .val (.int p5), .val (.int p6), .val (.int u1), .val (.int u3), .val (.int u5), .val (.int u7), .val (.int u9), .val (.int u11), .val (.int u13), .val (.int u15), .val (.int u17), .val (.int u19), .val (.int v26_t0), .val (.int v32_t0), .val (.int v38_t0), .val (.int v44_t0), .val (.int v50_t0), .val (.int v56_t0), .val (.int v62_t0), .val (.int u63), .unset, .unset, .unset] [(.ref b65), (.ref b65)])) _
    refine st67.trans ?_
    show Steps p.tables e below (T67.setTop (mkF m 221 #[.val (.int p1), .val (.int p2), .val (.int p3), .val (.int p4), .val (.int p5), .val (.int p6), .val (.int u1), .val (.int u3), .val (.int u5), .val (.int u7), .val (.int u9), .val (.int u11), .val (.int u13), .val (.int u15), .val (.int u17), .val (.int u19), .val (.int v26_t0), .val (.int v32_t0), .val (.int v38_t0), .val (.int v44_t0), .val (.int v50_t0), .val (.int v56_t0), .val (.int v62_t0), .val (.int u63), .unset, .unset, .unset] [(.ref b65)])) _
    refine XS.astore X67.here hx rfl (hb hby at_221) rfl rfl (l' := #[.val (.int p1), .val (.int p2), .val (.int p3), .val (.int p4), .val (.int p5), .val (.int p6), .val (.int u1), .val (.int u3), .val (.int u5), .val (.int u7), .val (.int u9), .val (.int u11), .val (.int u13), .val (.int u15), .val (.int u17), .val (.int u19), .val (.int v26_t0), .val (.int v32_t0), .val (.int v38_t0), .val (.int v44_t0), .val (.int v50_t0), .val (.int v56_t0), .val (.int v62_t0), .val (.int u63), .val (.ref b65), .unset, .unset]) rfl ?_
    show Steps p.tables e below (T67.setTop (mkF m 223 #[.val (.int p1), .val (.int p2), .val (.int p3), .val (.int p4), .val (.int p5), .val (.int p6), .val (.int u1), .val (.int u3), .val (.int u5), .val (.int u7), .val (.int u9), .val (.int u11), .val (.int u13), .val (.int u15), .val (.int u17), .val (.int u19), .val (.int v26_t0), .val (.int v32_t0), .val (.int v38_t0), .val (.int v44_t0), .val (.int v50_t0), .val (.int v56_t0), .val (.int v62_t0), .val (.int u63), .val (.ref b65), .unset, .unset] [])) _
    refine XS.aload X67.here hx rfl (hb hby at_223) rfl rfl ?_
    show Steps p.tables e below (T67.setTop (mkF m 225 #[.val (.int p1), .val (.int p2), .val (.int p3), .val (.int p4), .val (.int p5), .val (.int p6), .val (.int u1), .val (.int u3), .val (.int u5), .val (.int u7), .val (.int u9), .val (.int u11), .val (.int u13), .val (.int u15), .val (.int u17), .val (.int u19), .val (.int v26_t0), .val (.int v32_t0), .val (.int v38_t0), .val (.int v44_t0), .val (.int v50_t0), .val (.int v56_t0), .val (.int v62_t0), .val (.int u63), .val (.ref b65), .unset, .unset] [(.ref b65)])) _
    refine XS.iload X67.here hx rfl (hb hby at_225) rfl ?_
    show Steps p.tables e below (T67.setTop (mkF m 227 #[.val (.int p1), .val (.int p2), .val (.int p3), .val (.int p4), .val (.int p5), .val (.int p6), .val (.int u1), .val (.int u3), .val (.int u5), .val (.int u7), .val (.int u9), .val (.int u11), .val (.int u13), .val (.int u15), .val (.int u17), .val (.int u19), .val (.int v26_t0), .val (.int v32_t0), .val (.int v38_t0), .val (.int v44_t0), .val (.int v50_t0), .val (.int v56_t0), .val (.int v62_t0), .val (.int u63), .val (.ref b65), .unset, .unset] [(.int p6), (.ref b65)])) _
    refine XS.bipush X67.here hx rfl (hb hby at_227) ?_
    show Steps p.tables e below (T67.setTop (mkF m 229 #[.val (.int p1), .val (.int p2), .val (.int p3), .val (.int p4), .val (.int p5), .val (.int p6), .val (.int u1), .val (.int u3), .val (.int u5), .val (.int u7), .val (.int u9), .val (.int u11), .val (.int u13), .val (.int u15), .val (.int u17), .val (.int u19), .val (.int v26_t0), .val (.int v32_t0), .val (.int v38_t0), .val (.int v44_t0), .val (.int v50_t0), .val (.int v56_t0), .val (.int v62_t0), .val (.int u63), .val (.ref b65), .unset, .unset] [(.int (7 : Int32)), (.int p6), (.ref b65)])) _
    refine XS.iand X67.here hx rfl (hb hby at_229) rfl ?_
    exact kt
  obtain ⟨xn, h_xn, b_xn⟩ := own_and7 hu68
  obtain ⟨cq70, kq70, q70a, q70b, q70c⟩ := isOf hZ rfl (A65.keep K67q)
  obtain ⟨_, _, ⟨T70, L70, k70, n70⟩, -, X70, ⟨Lc70, hQ70, l70, y70, z70⟩, st70⟩ := X67.virtualBack hx (y := (⟨"com/example/breakline/breakline/ModifierNumbers", "take", "(I)I"⟩ : MethodName)) (z := (⟨"com/example/breakline/breakline/ModifierNumbers", "take", "(I)I"⟩ : MethodName)) hown (mvT hZ (tw hw 13 rfl)) (mvT hZ (tw hw 14 rfl)) (notFace_of_selects (args := #[]) (mvT hZ (tw hw 16 rfl))) (mvT hZ (tw hw 16 rfl)) (mvT hZ (tw hw 15 rfl)) (by decide) (backOf (W := 0) (rm3 l Z a0 hw [] b65 u68 (0 : Int32) 0 ro_67 ko_67 (0 : Int32) 0 (fun _ => (0 : Int64)) xn T67.heap n0 O67 (A65.keep K67q) f67_0 f67_1 f67_2 f67_3 f67_4 (Sm.lit (by decide)) (Sm.lit (by decide)) (Nat.le_refl 0) (by decide) (fun _ _ => rfl) ge_b65 h_xn (by omega)) hZ (tw hw 17 rfl) (tw hw 3 rfl) (by decide) (by decide)) q70a q70c (g := (mkF m 230 #[.val (.int p1), .val (.int p2), .val (.int p3), .val (.int p4), .val (.int p5), .val (.int p6), .val (.int u1), .val (.int u3), .val (.int u5), .val (.int u7), .val (.int u9), .val (.int u11), .val (.int u13), .val (.int u15), .val (.int u17), .val (.int u19), .val (.int v26_t0), .val (.int v32_t0), .val (.int v38_t0), .val (.int v44_t0), .val (.int v50_t0), .val (.int v56_t0), .val (.int v62_t0), .val (.int u63), .val (.ref b65), .unset, .unset] [(.int u68), (.ref b65)])) rfl (by rw [hml]; rfl) (Steps.refl _) (argsL := [(.int u68)]) (rest := []) (lenOf pd_3 rfl) rfl (by show 2 * 0 + _ ≤ _; exact Nat.le_of_eq rfl) (hb hby at_230) (fun _ _ => ⟨rfl, rfl, (by decide : 2 + 1 ≤ _), (by decide : 4 + 48 ≤ _)⟩)
  dsimp only [Pt.U, Pt.locs, Pt.cells, Pt.slots] at X70 l70 y70 z70 st70 hQ70
  subst l70 y70 z70
  obtain ⟨ro_70, ko_70, co_70, cn_70, rfl, N70q, K70q, O70, f70_0, f70_1, f70_2, f70_3, f70_4, f70_5, f70_6, f70_7, f70_8⟩ := hQ70
  have N70 := Fr.app N67 N70q
  have K70 := K67.trans K70q (allS (Or.inr sz_b65) all0)
  obtain ⟨T71, h71, X71, e71, E71, A71, D71, -, st71⟩ := newO X70 hx hZ hown (tw hw 44 rfl) (tw hw 45 rfl) (tw hw 46 rfl) rfl (g := (mkF m 234 #[.val (.int p1), .val (.int p2), .val (.int p3), .val (.int p4), .val (.int p5), .val (.int p6), .val (.int u1), .val (.int u3), .val (.int u5), .val (.int u7), .val (.int u9), .val (.int u11), .val (.int u13), .val (.int u15), .val (.int u17), .val (.int u19), .val (.int v26_t0), .val (.int v32_t0), .val (.int v38_t0), .val (.int v44_t0), .val (.int v50_t0), .val (.int v56_t0), .val (.int v62_t0), .val (.int u63), .val (.ref b65), .unset, .unset] [])) rfl (hb hby at_234) (by decide) (by decide)
  obtain ⟨b71, g71⟩ : ∃ z, z = T70.heap.size := ⟨_, rfl⟩
  rw [← g71] at A71 D71 st71
  have ge_b71 : n0 ≤ b71 := Nat.le_trans (own_osz O70) (Nat.le_of_eq g71.symm)
  have sz_b71 : h0.size ≤ b71 := Nat.le_trans K70.1 (Nat.le_of_eq g71.symm)
  have O72 := O70.ext E71
  have K71 := K70.ext E71
  have F_rowsAt_b71 : Fld Z h71 b71 "com/example/breakline/breakline/ModifierTable" "rowsAt" "I" (.int (0 : Int32)) := D71 (Or.inl (tw hw 52 rfl)) (ty := .int) (by decide)
  have F_columnsAt_b71 : Fld Z h71 b71 "com/example/breakline/breakline/ModifierTable" "columnsAt" "I" (.int (0 : Int32)) := D71 (Or.inl (tw hw 54 rfl)) (ty := .int) (by decide)
  have F_entriesAt_b71 : Fld Z h71 b71 "com/example/breakline/breakline/ModifierTable" "entriesAt" "I" (.int (0 : Int32)) := D71 (Or.inl (tw hw 56 rfl)) (ty := .int) (by decide)
  have F_numbers_b71 : Fld Z h71 b71 "com/example/breakline/breakline/ModifierTable" "numbers" "Lcom/example/breakline/breakline/ModifierNumbers;" .null := D71 (Or.inr (tw hw 58 rfl)) (ty := (.object "com/example/breakline/breakline/ModifierNumbers")) (by decide)
  have F_ownValues_b71 : Fld Z h71 b71 "com/example/breakline/breakline/ModifierTable" "ownValues" "I" (.int (0 : Int32)) := D71 (Or.inr (tw hw 60 rfl)) (ty := .int) (by decide)
  have F_neighbourValues_b71 : Fld Z h71 b71 "com/example/breakline/breakline/ModifierTable" "neighbourValues" "I" (.int (0 : Int32)) := D71 (Or.inr (tw hw 62 rfl)) (ty := .int) (by decide)
  have F_whole_b71 : Fld Z h71 b71 "com/example/breakline/breakline/ModifierTable" "whole" "D" (.double (0 : UInt64)) := D71 (Or.inl (tw hw 69 rfl)) (ty := .double) (by decide)
  obtain ⟨_, _, ⟨T73, L73, k73, n73⟩, -, X73, ⟨Lc73, hQ73, l73, y73, z73⟩, st73⟩ := X71.specialBack hx (y := (⟨"com/example/breakline/breakline/ModifierTable", "<init>", "(Lcom/example/breakline/breakline/ModifierNumbers;II)V"⟩ : MethodName)) rfl hown (mvT hZ (tw hw 47 rfl)) (mvT hZ (tw hw 48 rfl)) (mvT hZ (tw hw 49 rfl)) (by decide) (backOf (W := 1) (rm9 l Z a0 hw [] b71 b65 u1 u3 h71 n0 O72 A71 F_rowsAt_b71 F_columnsAt_b71 F_entriesAt_b71 F_numbers_b71 F_ownValues_b71 F_neighbourValues_b71 F_whole_b71 ge_b71 (((A65.keep K67q).keep K70q).ext E71)) hZ (tw hw 49 rfl) (tw hw 46 rfl) (by decide) (by decide)) (g := (mkF m 244 #[.val (.int p1), .val (.int p2), .val (.int p3), .val (.int p4), .val (.int p5), .val (.int p6), .val (.int u1), .val (.int u3), .val (.int u5), .val (.int u7), .val (.int u9), .val (.int u11), .val (.int u13), .val (.int u15), .val (.int u17), .val (.int u19), .val (.int v26_t0), .val (.int v32_t0), .val (.int v38_t0), .val (.int v44_t0), .val (.int v50_t0), .val (.int v56_t0), .val (.int v62_t0), .val (.int u63), .val (.ref b65), .unset, .unset] [(.int u3), (.int u1), (.ref b65), (.ref b71), (.ref b71)])) rfl (by rw [hml]; rfl) (Steps.refl _) (a := b71) (argsL := [(.ref b65), (.int u1), (.int u3)]) (rest := [(.ref b71)]) (lenOf pd_9 rfl) rfl (by show 2 * 0 + _ ≤ _; exact Nat.le_of_eq rfl) (hb hby at_244) (fun _ _ => ⟨rfl, e71, (by decide : 4 + 0 ≤ _), (by decide : 59 + 0 ≤ _)⟩)
  dsimp only [Pt.U, Pt.locs, Pt.cells, Pt.slots] at X73 l73 y73 z73 st73 hQ73
  subst l73 y73 z73
  obtain ⟨rfl, N73q, K73q, O73, f73_0, f73_1, f73_2, f73_3, f73_4, f73_5, f73_6⟩ := hQ73
  have N73 := Fr.app N70 N73q
  have K73 := K71.trans K73q (allS (Or.inr sz_b71) all0)
  have sg74 : ∀ target, Steps p.tables e below (T73.setTop (mkF m 249 #[.val (.int p1), .val (.int p2), .val (.int p3), .val (.int p4), .val (.int p5), .val (.int p6), .val (.int u1), .val (.int u3), .val (.int u5), .val (.int u7), .val (.int u9), .val (.int u11), .val (.int u13), .val (.int u15), .val (.int u17), .val (.int u19), .val (.int v26_t0), .val (.int v32_t0), .val (.int v38_t0), .val (.int v44_t0), .val (.int v50_t0), .val (.int v56_t0), .val (.int v62_t0), .val (.int u63), .val (.ref b65), .val (.ref b71), .unset] [])) target → Steps p.tables e below (T67.setTop (mkF m 230 #[.val (.int p1), .val (.int p2), .val (.int p3), .val (.int p4), .val (.int p5), .val (.int p6), .val (.int u1), .val (.int u3), .val (.int u5), .val (.int u7), .val (.int u9), .val (.int u11), .val (.int u13), .val (.int u15), .val (.int u17), .val (.int u19), .val (.int v26_t0), .val (.int v32_t0), .val (.int v38_t0), .val (.int v44_t0), .val (.int v50_t0), .val (.int v56_t0), .val (.int v62_t0), .val (.int u63), .val (.ref b65), .unset, .unset] [(.int u68), (.ref b65)])) target := by
    intro target kt
    show Steps p.tables e below (T67.setTop (mkF m 230 #[.val (.int p1), .val (.int p2), .val (.int p3), .val (.int p4), .val (.int p5), .val (.int p6), .val (.int u1), .val (.int u3), .val (.int u5), .val (.int u7), .val (.int u9), .val (.int u11), .val (.int u13), .val (.int u15), .val (.int u17), .val (.int u19), .val (.int v26_t0), .val (.int v32_t0), .val (.int v38_t0), .val (.int v44_t0), .val (.int v50_t0), .val (.int v56_t0), .val (.int v62_t0), .val (.int u63), .val (.ref b65), .unset, .unset] [(.int u68), (.ref b65)])) _
    refine st70.trans ?_
    show Steps p.tables e below (T70.setTop (mkF m 233 #[.val (.int p1), .val (.int p2), .val (.int p3), .val (.int p4), .val (.int p5), .val (.int p6), .val (.int u1), .val (.int u3), .val (.int u5), .val (.int u7), .val (.int u9), .val (.int u11), .val (.int u13), .val (.int u15), .val (.int u17), .val (.int u19), .val (.int v26_t0), .val (.int v32_t0), .val (.int v38_t0), .val (.int v44_t0), .val (.int v50_t0), .val (.int v56_t0), .val (.int v62_t0), .val (.int u63), .val (.ref b65), .unset, .unset] [(.int (0 : Int32))])) _
    refine XS.pop X70.here hx rfl (hb hby at_233) rfl rfl ?_
    show Steps p.tables e below (T70.setTop (mkF m 234 #[.val (.int p1), .val (.int p2), .val (.int p3), .val (.int p4), .val (.int p5), .val (.int p6), .val (.int u1), .val (.int u3), .val (.int u5), .val (.int u7), .val (.int u9), .val (.int u11), .val (.int u13), .val (.int u15), .val (.int u17), .val (.int u19), .val (.int v26_t0), .val (.int v32_t0), .val (.int v38_t0), .val (.int v44_t0), .val (.int v50_t0), .val (.int v56_t0), .val (.int v62_t0), .val (.int u63), .val (.ref b65), .unset, .unset] [])) _
    refine st71 _ ?_
    show Steps p.tables e below (T71.setTop (mkF m 237 #[.val (.int p1), .val (.int p2), .val (.int p3), .val (.int p4), .val (.int p5), .val (.int p6), .val (.int u1), .val (.int u3), .val (.int u5), .val (.int u7), .val (.int u9), .val (.int u11), .val (.int u13), .val (.int u15), .val (.int u17), .val (.int u19), .val (.int v26_t0), .val (.int v32_t0), .val (.int v38_t0), .val (.int v44_t0), .val (.int v50_t0), .val (.int v56_t0), .val (.int v62_t0), .val (.int u63), .val (.ref b65), .unset, .unset] [(.ref b71)])) _
    refine XS.dup X71.here hx rfl (hb hby at_237) rfl rfl ?_
    show Steps p.tables e below (T71.setTop (mkF m 238 #[.val (.int p1), .val (.int p2), .val (.int p3), .val (.int p4), .val (.int p5), .val (.int p6), .val (.int u1), .val (.int u3), .val (.int u5), .val (.int u7), .val (.int u9), .val (.int u11), .val (.int u13), .val (.int u15), .val (.int u17), .val (.int u19), .val (.int v26_t0), .val (.int v32_t0), .val (.int v38_t0), .val (.int v44_t0), .val (.int v50_t0), .val (.int v56_t0), .val (.int v62_t0), .val (.int u63), .val (.ref b65), .unset, .unset] [(.ref b71), (.ref b71)])) _
    refine XS.aload X71.here hx rfl (hb hby at_238) rfl rfl ?_
    show Steps p.tables e below (T71.setTop (mkF m 240 #[.val (.int p1), .val (.int p2), .val (.int p3), .val (.int p4), .val (.int p5), .val (.int p6), .val (.int u1), .val (.int u3), .val (.int u5), .val (.int u7), .val (.int u9), .val (.int u11), .val (.int u13), .val (.int u15), .val (.int u17), .val (.int u19), .val (.int v26_t0), .val (.int v32_t0), .val (.int v38_t0), .val (.int v44_t0), .val (.int v50_t0), .val (.int v56_t0), .val (.int v62_t0), .val (.int u63), .val (.ref b65), .unset, .unset] [(.ref b65), (.ref b71), (.ref b71)])) _
    refine XS.iload X71.here hx rfl (hb hby at_240) rfl ?_
    show Steps p.tables e below (T71.setTop (mkF m 242 #[.val (.int p1), .val (.int p2), .val (.int p3), .val (.int p4), .val (.int p5), .val (.int p6), .val (.int u1), .val (.int u3), .val (.int u5), .val (.int u7), .val (.int u9), .val (.int u11), .val (.int u13), .val (.int u15), .val (.int u17), .val (.int u19), .val (.int v26_t0), .val (.int v32_t0), .val (.int v38_t0), .val (.int v44_t0), .val (.int v50_t0), .val (.int v56_t0), .val (.int v62_t0), .val (.int u63), .val (.ref b65), .unset, .unset] [(.int u1), (.ref b65), (.ref b71), (.ref b71)])) _
    refine XS.iload X71.here hx rfl (hb hby at_242) rfl ?_
    show Steps p.tables e below (T71.setTop (mkF m 244 #[.val (.int p1), .val (.int p2), .val (.int p3), .val (.int p4), .val (.int p5), .val (.int p6), .val (.int u1), .val (.int u3), .val (.int u5), .val (.int u7), .val (.int u9), .val (.int u11), .val (.int u13), .val (.int u15), .val (.int u17), .val (.int u19), .val (.int v26_t0), .val (.int v32_t0), .val (.int v38_t0), .val (.int v44_t0), .val (.int v50_t0), .val (.int v56_t0), .val (.int v62_t0), .val (.int u63), .val (.ref b65), .unset, .unset] [(.int u3), (.int u1), (.ref b65), (.ref b71), (.ref b71)])) _
    refine st73.trans ?_
    show Steps p.tables e below (T73.setTop (mkF m 247 #[.val (.int p1), .val (.int p2), .val (.int p3), .val (.int p4), .val (.int p5), .val (.int p6), .val (.int u1), .val (.int u3), .val (.int u5), .val (.int u7), .val (.int u9), .val (.int u11), .val (.int u13), .val (.int u15), .val (.int u17), .val (.int u19), .val (.int v26_t0), .val (.int v32_t0), .val (.int v38_t0), .val (.int v44_t0), .val (.int v50_t0), .val (.int v56_t0), .val (.int v62_t0), .val (.int u63), .val (.ref b65), .unset, .unset] [(.ref b71)])) _
    refine XS.astore X73.here hx rfl (hb hby at_247) rfl rfl (l' := #[.val (.int p1), .val (.int p2), .val (.int p3), .val (.int p4), .val (.int p5), .val (.int p6), .val (.int u1), .val (.int u3), .val (.int u5), .val (.int u7), .val (.int u9), .val (.int u11), .val (.int u13), .val (.int u15), .val (.int u17), .val (.int u19), .val (.int v26_t0), .val (.int v32_t0), .val (.int v38_t0), .val (.int v44_t0), .val (.int v50_t0), .val (.int v56_t0), .val (.int v62_t0), .val (.int u63), .val (.ref b65), .val (.ref b71), .unset]) rfl ?_
    exact kt
  obtain ⟨T80, L80, h80, wv80, X80, e80, N80, O80, K80, KK80, T80_rowsAt, T80_columnsAt, T80_entriesAt, T80_numbers, T80_ownValues, T80_neighbourValues, T80_whole, rel80, sg80⟩ : ∃ (T' : State) (L' : List Loc) (h' : Heap) (wv80 : Int64), Stand p l e room_1 s m #[(.int p1), (.int p2), (.int p3), (.int p4), (.int p5), (.int p6)] below meth c T' L' 4 59 ∧ T'.heap = h' ∧ Fr n0 L' ∧ Old Z n0 h' ∧ Keep T73.heap h' [b71] ∧ Keep h0 h' [] ∧ Fld Z h' b71 "com/example/breakline/breakline/ModifierTable" "rowsAt" "I" (.int (-1 : Int32)) ∧ Fld Z h' b71 "com/example/breakline/breakline/ModifierTable" "columnsAt" "I" (.int (-1 : Int32)) ∧ Fld Z h' b71 "com/example/breakline/breakline/ModifierTable" "entriesAt" "I" (.int (-1 : Int32)) ∧ Fld Z h' b71 "com/example/breakline/breakline/ModifierTable" "numbers" "Lcom/example/breakline/breakline/ModifierNumbers;" (.ref b65) ∧ Fld Z h' b71 "com/example/breakline/breakline/ModifierTable" "ownValues" "I" (.int u1) ∧ Fld Z h' b71 "com/example/breakline/breakline/ModifierTable" "neighbourValues" "I" (.int u3) ∧ Fld Z h' b71 "com/example/breakline/breakline/ModifierTable" "whole" "D" (.double (FP.l2d wv80)) ∧ wv80 = (if v26_t0 = (0 : Int32) then (0 : Int64) else 0 + 1) ∧ ∀ target, Steps p.tables e below (T'.setTop (mkF m 259 #[.val (.int p1), .val (.int p2), .val (.int p3), .val (.int p4), .val (.int p5), .val (.int p6), .val (.int u1), .val (.int u3), .val (.int u5), .val (.int u7), .val (.int u9), .val (.int u11), .val (.int u13), .val (.int u15), .val (.int u17), .val (.int u19), .val (.int v26_t0), .val (.int v32_t0), .val (.int v38_t0), .val (.int v44_t0), .val (.int v50_t0), .val (.int v56_t0), .val (.int v62_t0), .val (.int u63), .val (.ref b65), .val (.ref b71), .unset] [])) target → Steps p.tables e below (T73.setTop (mkF m 249 #[.val (.int p1), .val (.int p2), .val (.int p3), .val (.int p4), .val (.int p5), .val (.int p6), .val (.int u1), .val (.int u3), .val (.int u5), .val (.int u7), .val (.int u9), .val (.int u11), .val (.int u13), .val (.int u15), .val (.int u17), .val (.int u19), .val (.int v26_t0), .val (.int v32_t0), .val (.int v38_t0), .val (.int v44_t0), .val (.int v50_t0), .val (.int v56_t0), .val (.int v62_t0), .val (.int u63), .val (.ref b65), .val (.ref b71), .unset] [])) target := by
    have sg75 : ∀ target, Steps p.tables e below (T73.setTop (mkF m 251 #[.val (.int p1), .val (.int p2), .val (.int p3), .val (.int p4), .val (.int p5), .val (.int p6), .val (.int u1), .val (.int u3), .val (.int u5), .val (.int u7), .val (.int u9), .val (.int u11), .val (.int u13), .val (.int u15), .val (.int u17), .val (.int u19), .val (.int v26_t0), .val (.int v32_t0), .val (.int v38_t0), .val (.int v44_t0), .val (.int v50_t0), .val (.int v56_t0), .val (.int v62_t0), .val (.int u63), .val (.ref b65), .val (.ref b71), .unset] [(.int v26_t0)])) target → Steps p.tables e below (T73.setTop (mkF m 249 #[.val (.int p1), .val (.int p2), .val (.int p3), .val (.int p4), .val (.int p5), .val (.int p6), .val (.int u1), .val (.int u3), .val (.int u5), .val (.int u7), .val (.int u9), .val (.int u11), .val (.int u13), .val (.int u15), .val (.int u17), .val (.int u19), .val (.int v26_t0), .val (.int v32_t0), .val (.int v38_t0), .val (.int v44_t0), .val (.int v50_t0), .val (.int v56_t0), .val (.int v62_t0), .val (.int u63), .val (.ref b65), .val (.ref b71), .unset] [])) target := by
      intro target kt
      show Steps p.tables e below (T73.setTop (mkF m 249 #[.val (.int p1), .val (.int p2), .val (.int p3), .val (.int p4), .val (.int p5), .val (.int p6), .val (.int u1), .val (.int u3), .val (.int u5), .val (.int u7), .val (.int u9), .val (.int u11), .val (.int u13), .val (.int u15), .val (.int u17), .val (.int u19), .val (.int v26_t0), .val (.int v32_t0), .val (.int v38_t0), .val (.int v44_t0), .val (.int v50_t0), .val (.int v56_t0), .val (.int v62_t0), .val (.int u63), .val (.ref b65), .val (.ref b71), .unset] [])) _
      refine XS.iload X73.here hx rfl (hb hby at_249) rfl ?_
      exact kt
    by_cases hc76 : v26_t0 = (0 : Int32)
    · have sg77 : ∀ target, Steps p.tables e below (T73.setTop (mkF m 259 #[.val (.int p1), .val (.int p2), .val (.int p3), .val (.int p4), .val (.int p5), .val (.int p6), .val (.int u1), .val (.int u3), .val (.int u5), .val (.int u7), .val (.int u9), .val (.int u11), .val (.int u13), .val (.int u15), .val (.int u17), .val (.int u19), .val (.int v26_t0), .val (.int v32_t0), .val (.int v38_t0), .val (.int v44_t0), .val (.int v50_t0), .val (.int v56_t0), .val (.int v62_t0), .val (.int u63), .val (.ref b65), .val (.ref b71), .unset] [])) target → Steps p.tables e below (T73.setTop (mkF m 251 #[.val (.int p1), .val (.int p2), .val (.int p3), .val (.int p4), .val (.int p5), .val (.int p6), .val (.int u1), .val (.int u3), .val (.int u5), .val (.int u7), .val (.int u9), .val (.int u11), .val (.int u13), .val (.int u15), .val (.int u17), .val (.int u19), .val (.int v26_t0), .val (.int v32_t0), .val (.int v38_t0), .val (.int v44_t0), .val (.int v50_t0), .val (.int v56_t0), .val (.int v62_t0), .val (.int u63), .val (.ref b65), .val (.ref b71), .unset] [(.int v26_t0)])) target := by
        intro target kt
        show Steps p.tables e below (T73.setTop (mkF m 251 #[.val (.int p1), .val (.int p2), .val (.int p3), .val (.int p4), .val (.int p5), .val (.int p6), .val (.int u1), .val (.int u3), .val (.int u5), .val (.int u7), .val (.int u9), .val (.int u11), .val (.int u13), .val (.int u15), .val (.int u17), .val (.int u19), .val (.int v26_t0), .val (.int v32_t0), .val (.int v38_t0), .val (.int v44_t0), .val (.int v50_t0), .val (.int v56_t0), .val (.int v62_t0), .val (.int u63), .val (.ref b65), .val (.ref b71), .unset] [(.int v26_t0)])) _
        refine XS.ifYes X73.here hx rfl (pc0 := 251) (pc' := 259) rfl (hb hby at_251) rfl ((if0 _ _).trans (teq hc76).1) (by decide) (by decide) ?_
        exact kt
      exact ⟨T73, _, T73.heap, 0, X73.mono (by decide) (by decide), rfl, N73, O73, (Keep.refl T73.heap [b71]), K73, f73_0, f73_1, f73_2, f73_3, f73_4, f73_5, f73_6, (if_pos hc76).symm, fun target kt => sg75 _ (sg77 _ (kt))⟩
    · obtain ⟨cq78, kq78, q78a, q78b, q78c⟩ := isOf hZ rfl (A71.keep K73q)
      obtain ⟨_, _, ⟨T78, L78, k78, n78⟩, -, X78, ⟨Lc78, hQ78, l78, y78, z78⟩, st78⟩ := X73.virtualBack hx (y := (⟨"com/example/breakline/breakline/ModifierTable", "raiseAll", "()V"⟩ : MethodName)) (z := (⟨"com/example/breakline/breakline/ModifierTable", "raiseAll", "()V"⟩ : MethodName)) hown (mvT hZ (tw hw 63 rfl)) (mvT hZ (tw hw 64 rfl)) (notFace_of_selects (args := #[]) (mvT hZ (tw hw 66 rfl))) (mvT hZ (tw hw 66 rfl)) (mvT hZ (tw hw 65 rfl)) (by decide) (backOf (W := 0) (rm10 l Z a0 hw [] b71 (-1 : Int32) (-1 : Int32) (-1 : Int32) b65 u1 u3 0 T73.heap n0 O73 (A71.keep K73q) f73_0 f73_1 f73_2 f73_3 f73_4 f73_5 f73_6 ge_b71 (own_bz rfl)) hZ (tw hw 67 rfl) (tw hw 46 rfl) (by decide) (by decide)) q78a q78c (g := (mkF m 256 #[.val (.int p1), .val (.int p2), .val (.int p3), .val (.int p4), .val (.int p5), .val (.int p6), .val (.int u1), .val (.int u3), .val (.int u5), .val (.int u7), .val (.int u9), .val (.int u11), .val (.int u13), .val (.int u15), .val (.int u17), .val (.int u19), .val (.int v26_t0), .val (.int v32_t0), .val (.int v38_t0), .val (.int v44_t0), .val (.int v50_t0), .val (.int v56_t0), .val (.int v62_t0), .val (.int u63), .val (.ref b65), .val (.ref b71), .unset] [(.ref b71)])) rfl (by rw [hml]; rfl) (Steps.refl _) (argsL := []) (rest := []) (lenOf pd_8 rfl) rfl (by show 2 * 0 + _ ≤ _; exact Nat.le_of_eq rfl) (hb hby at_256) (fun _ _ => ⟨rfl, rfl, (by decide : 4 + 0 ≤ _), (by decide : 59 + 0 ≤ _)⟩)
      dsimp only [Pt.U, Pt.locs, Pt.cells, Pt.slots] at X78 l78 y78 z78 st78 hQ78
      subst l78 y78 z78
      obtain ⟨rfl, N78q, K78q, O78, f78_0, f78_1, f78_2, f78_3, f78_4, f78_5, f78_6⟩ := hQ78
      have N78 := Fr.app N73 N78q
      have K78 := K73.trans K78q (allS (Or.inr sz_b71) all0)
      have sg79 : ∀ target, Steps p.tables e below (T78.setTop (mkF m 259 #[.val (.int p1), .val (.int p2), .val (.int p3), .val (.int p4), .val (.int p5), .val (.int p6), .val (.int u1), .val (.int u3), .val (.int u5), .val (.int u7), .val (.int u9), .val (.int u11), .val (.int u13), .val (.int u15), .val (.int u17), .val (.int u19), .val (.int v26_t0), .val (.int v32_t0), .val (.int v38_t0), .val (.int v44_t0), .val (.int v50_t0), .val (.int v56_t0), .val (.int v62_t0), .val (.int u63), .val (.ref b65), .val (.ref b71), .unset] [])) target → Steps p.tables e below (T73.setTop (mkF m 251 #[.val (.int p1), .val (.int p2), .val (.int p3), .val (.int p4), .val (.int p5), .val (.int p6), .val (.int u1), .val (.int u3), .val (.int u5), .val (.int u7), .val (.int u9), .val (.int u11), .val (.int u13), .val (.int u15), .val (.int u17), .val (.int u19), .val (.int v26_t0), .val (.int v32_t0), .val (.int v38_t0), .val (.int v44_t0), .val (.int v50_t0), .val (.int v56_t0), .val (.int v62_t0), .val (.int u63), .val (.ref b65), .val (.ref b71), .unset] [(.int v26_t0)])) target := by
        intro target kt
        show Steps p.tables e below (T73.setTop (mkF m 251 #[.val (.int p1), .val (.int p2), .val (.int p3), .val (.int p4), .val (.int p5), .val (.int p6), .val (.int u1), .val (.int u3), .val (.int u5), .val (.int u7), .val (.int u9), .val (.int u11), .val (.int u13), .val (.int u15), .val (.int u17), .val (.int u19), .val (.int v26_t0), .val (.int v32_t0), .val (.int v38_t0), .val (.int v44_t0), .val (.int v50_t0), .val (.int v56_t0), .val (.int v62_t0), .val (.int u63), .val (.ref b65), .val (.ref b71), .unset] [(.int v26_t0)])) _
        refine XS.ifNo X73.here hx rfl (hb hby at_251) rfl ((if0 _ _).trans (feq hc76).1) ?_
        show Steps p.tables e below (T73.setTop (mkF m 254 #[.val (.int p1), .val (.int p2), .val (.int p3), .val (.int p4), .val (.int p5), .val (.int p6), .val (.int u1), .val (.int u3), .val (.int u5), .val (.int u7), .val (.int u9), .val (.int u11), .val (.int u13), .val (.int u15), .val (.int u17), .val (.int u19), .val (.int v26_t0), .val (.int v32_t0), .val (.int v38_t0), .val (.int v44_t0), .val (.int v50_t0), .val (.int v56_t0), .val (.int v62_t0), .val (.int u63), .val (.ref b65), .val (.ref b71), .unset] [])) _
        refine XS.aload X73.here hx rfl (hb hby at_254) rfl rfl ?_
        show Steps p.tables e below (T73.setTop (mkF m 256 #[.val (.int p1), .val (.int p2), .val (.int p3), .val (.int p4), .val (.int p5), .val (.int p6), .val (.int u1), .val (.int u3), .val (.int u5), .val (.int u7), .val (.int u9), .val (.int u11), .val (.int u13), .val (.int u15), .val (.int u17), .val (.int u19), .val (.int v26_t0), .val (.int v32_t0), .val (.int v38_t0), .val (.int v44_t0), .val (.int v50_t0), .val (.int v56_t0), .val (.int v62_t0), .val (.int u63), .val (.ref b65), .val (.ref b71), .unset] [(.ref b71)])) _
        refine st78.trans ?_
        exact kt
      exact ⟨T78, _, T78.heap, (0 + 1), X78.mono (by decide) (by decide), rfl, N78, O78, ((Keep.refl T73.heap [b71]).trans K78q (allS (Or.inl (List.mem_of_getElem? (i := 0) rfl)) all0)), K78, f78_0, f78_1, f78_2, f78_3, f78_4, f78_5, f78_6, (if_neg hc76).symm, fun target kt => sg75 _ (sg79 _ (kt))⟩
  obtain ⟨T86, L86, h86, wv86, X86, e86, N86, O86, K86, KK86, T86_rowsAt, T86_columnsAt, T86_entriesAt, T86_numbers, T86_ownValues, T86_neighbourValues, T86_whole, rel86, sg86⟩ : ∃ (T' : State) (L' : List Loc) (h' : Heap) (wv86 : Int64), Stand p l e room_1 s m #[(.int p1), (.int p2), (.int p3), (.int p4), (.int p5), (.int p6)] below meth c T' L' 4 59 ∧ T'.heap = h' ∧ Fr n0 L' ∧ Old Z n0 h' ∧ Keep h80 h' [b71] ∧ Keep h0 h' [] ∧ Fld Z h' b71 "com/example/breakline/breakline/ModifierTable" "rowsAt" "I" (.int (-1 : Int32)) ∧ Fld Z h' b71 "com/example/breakline/breakline/ModifierTable" "columnsAt" "I" (.int (-1 : Int32)) ∧ Fld Z h' b71 "com/example/breakline/breakline/ModifierTable" "entriesAt" "I" (.int (-1 : Int32)) ∧ Fld Z h' b71 "com/example/breakline/breakline/ModifierTable" "numbers" "Lcom/example/breakline/breakline/ModifierNumbers;" (.ref b65) ∧ Fld Z h' b71 "com/example/breakline/breakline/ModifierTable" "ownValues" "I" (.int u1) ∧ Fld Z h' b71 "com/example/breakline/breakline/ModifierTable" "neighbourValues" "I" (.int u3) ∧ Fld Z h' b71 "com/example/breakline/breakline/ModifierTable" "whole" "D" (.double (FP.l2d wv86)) ∧ wv86 = (if v62_t0 = (0 : Int32) then wv80 else wv80 * u63.toInt64) ∧ ∀ target, Steps p.tables e below (T'.setTop (mkF m 272 #[.val (.int p1), .val (.int p2), .val (.int p3), .val (.int p4), .val (.int p5), .val (.int p6), .val (.int u1), .val (.int u3), .val (.int u5), .val (.int u7), .val (.int u9), .val (.int u11), .val (.int u13), .val (.int u15), .val (.int u17), .val (.int u19), .val (.int v26_t0), .val (.int v32_t0), .val (.int v38_t0), .val (.int v44_t0), .val (.int v50_t0), .val (.int v56_t0), .val (.int v62_t0), .val (.int u63), .val (.ref b65), .val (.ref b71), .unset] [])) target → Steps p.tables e below (T80.setTop (mkF m 259 #[.val (.int p1), .val (.int p2), .val (.int p3), .val (.int p4), .val (.int p5), .val (.int p6), .val (.int u1), .val (.int u3), .val (.int u5), .val (.int u7), .val (.int u9), .val (.int u11), .val (.int u13), .val (.int u15), .val (.int u17), .val (.int u19), .val (.int v26_t0), .val (.int v32_t0), .val (.int v38_t0), .val (.int v44_t0), .val (.int v50_t0), .val (.int v56_t0), .val (.int v62_t0), .val (.int u63), .val (.ref b65), .val (.ref b71), .unset] [])) target := by
    have sg81 : ∀ target, Steps p.tables e below (T80.setTop (mkF m 261 #[.val (.int p1), .val (.int p2), .val (.int p3), .val (.int p4), .val (.int p5), .val (.int p6), .val (.int u1), .val (.int u3), .val (.int u5), .val (.int u7), .val (.int u9), .val (.int u11), .val (.int u13), .val (.int u15), .val (.int u17), .val (.int u19), .val (.int v26_t0), .val (.int v32_t0), .val (.int v38_t0), .val (.int v44_t0), .val (.int v50_t0), .val (.int v56_t0), .val (.int v62_t0), .val (.int u63), .val (.ref b65), .val (.ref b71), .unset] [(.int v62_t0)])) target → Steps p.tables e below (T80.setTop (mkF m 259 #[.val (.int p1), .val (.int p2), .val (.int p3), .val (.int p4), .val (.int p5), .val (.int p6), .val (.int u1), .val (.int u3), .val (.int u5), .val (.int u7), .val (.int u9), .val (.int u11), .val (.int u13), .val (.int u15), .val (.int u17), .val (.int u19), .val (.int v26_t0), .val (.int v32_t0), .val (.int v38_t0), .val (.int v44_t0), .val (.int v50_t0), .val (.int v56_t0), .val (.int v62_t0), .val (.int u63), .val (.ref b65), .val (.ref b71), .unset] [])) target := by
      intro target kt
      show Steps p.tables e below (T80.setTop (mkF m 259 #[.val (.int p1), .val (.int p2), .val (.int p3), .val (.int p4), .val (.int p5), .val (.int p6), .val (.int u1), .val (.int u3), .val (.int u5), .val (.int u7), .val (.int u9), .val (.int u11), .val (.int u13), .val (.int u15), .val (.int u17), .val (.int u19), .val (.int v26_t0), .val (.int v32_t0), .val (.int v38_t0), .val (.int v44_t0), .val (.int v50_t0), .val (.int v56_t0), .val (.int v62_t0), .val (.int u63), .val (.ref b65), .val (.ref b71), .unset] [])) _
      refine XS.iload X80.here hx rfl (hb hby at_259) rfl ?_
      exact kt
    by_cases hc82 : v62_t0 = (0 : Int32)
    · have sg83 : ∀ target, Steps p.tables e below (T80.setTop (mkF m 272 #[.val (.int p1), .val (.int p2), .val (.int p3), .val (.int p4), .val (.int p5), .val (.int p6), .val (.int u1), .val (.int u3), .val (.int u5), .val (.int u7), .val (.int u9), .val (.int u11), .val (.int u13), .val (.int u15), .val (.int u17), .val (.int u19), .val (.int v26_t0), .val (.int v32_t0), .val (.int v38_t0), .val (.int v44_t0), .val (.int v50_t0), .val (.int v56_t0), .val (.int v62_t0), .val (.int u63), .val (.ref b65), .val (.ref b71), .unset] [])) target → Steps p.tables e below (T80.setTop (mkF m 261 #[.val (.int p1), .val (.int p2), .val (.int p3), .val (.int p4), .val (.int p5), .val (.int p6), .val (.int u1), .val (.int u3), .val (.int u5), .val (.int u7), .val (.int u9), .val (.int u11), .val (.int u13), .val (.int u15), .val (.int u17), .val (.int u19), .val (.int v26_t0), .val (.int v32_t0), .val (.int v38_t0), .val (.int v44_t0), .val (.int v50_t0), .val (.int v56_t0), .val (.int v62_t0), .val (.int u63), .val (.ref b65), .val (.ref b71), .unset] [(.int v62_t0)])) target := by
        intro target kt
        show Steps p.tables e below (T80.setTop (mkF m 261 #[.val (.int p1), .val (.int p2), .val (.int p3), .val (.int p4), .val (.int p5), .val (.int p6), .val (.int u1), .val (.int u3), .val (.int u5), .val (.int u7), .val (.int u9), .val (.int u11), .val (.int u13), .val (.int u15), .val (.int u17), .val (.int u19), .val (.int v26_t0), .val (.int v32_t0), .val (.int v38_t0), .val (.int v44_t0), .val (.int v50_t0), .val (.int v56_t0), .val (.int v62_t0), .val (.int u63), .val (.ref b65), .val (.ref b71), .unset] [(.int v62_t0)])) _
        refine XS.ifYes X80.here hx rfl (pc0 := 261) (pc' := 272) rfl (hb hby at_261) rfl ((if0 _ _).trans (teq hc82).1) (by decide) (by decide) ?_
        exact kt
      exact ⟨T80, _, h80, wv80, X80.mono (by decide) (by decide), e80, N80, O80, (Keep.refl h80 [b71]), KK80, T80_rowsAt, T80_columnsAt, T80_entriesAt, T80_numbers, T80_ownValues, T80_neighbourValues, T80_whole, (if_pos hc82).symm, fun target kt => sg81 _ (sg83 _ (kt))⟩
    · obtain ⟨cq84, kq84, q84a, q84b, q84c⟩ := isOf hZ e80 ((A71.keep K73q).keep K80)
      obtain ⟨_, _, ⟨T84, L84, k84, n84⟩, -, X84, ⟨Lc84, hQ84, l84, y84, z84⟩, st84⟩ := X80.virtualBack hx (y := (⟨"com/example/breakline/breakline/ModifierTable", "scaleWhole", "(D)V"⟩ : MethodName)) (z := (⟨"com/example/breakline/breakline/ModifierTable", "scaleWhole", "(D)V"⟩ : MethodName)) hown (mvT hZ (tw hw 112 rfl)) (mvT hZ (tw hw 113 rfl)) (notFace_of_selects (args := #[]) (mvT hZ (tw hw 115 rfl))) (mvT hZ (tw hw 115 rfl)) (mvT hZ (tw hw 114 rfl)) (by decide) (backOf (W := 0) (rm19 l Z a0 hw [] b71 (-1 : Int32) (-1 : Int32) (-1 : Int32) b65 u1 u3 wv80 u63.toInt64 h80 n0 O80 ((A71.keep K73q).keep K80) T80_rowsAt T80_columnsAt T80_entriesAt T80_numbers T80_ownValues T80_neighbourValues T80_whole ge_b71 (own_dm rel80 h_m23 b_m23)) hZ (tw hw 116 rfl) (tw hw 46 rfl) (by decide) (by decide)) q84a q84c (g := (mkF m 269 #[.val (.int p1), .val (.int p2), .val (.int p3), .val (.int p4), .val (.int p5), .val (.int p6), .val (.int u1), .val (.int u3), .val (.int u5), .val (.int u7), .val (.int u9), .val (.int u11), .val (.int u13), .val (.int u15), .val (.int u17), .val (.int u19), .val (.int v26_t0), .val (.int v32_t0), .val (.int v38_t0), .val (.int v44_t0), .val (.int v50_t0), .val (.int v56_t0), .val (.int v62_t0), .val (.int u63), .val (.ref b65), .val (.ref b71), .unset] [(.double (FP.l2d u63.toInt64)), (.ref b71)])) rfl (by rw [hml]; rfl) (Steps.refl _) (argsL := [(.double (FP.l2d u63.toInt64))]) (rest := []) (lenOf pd_10 rfl) rfl (by show 2 * 0 + _ ≤ _; exact Nat.le_of_eq rfl) (hb hby at_269) (fun _ _ => ⟨rfl, e80, (by decide : 4 + 0 ≤ _), (by decide : 59 + 0 ≤ _)⟩)
      dsimp only [Pt.U, Pt.locs, Pt.cells, Pt.slots] at X84 l84 y84 z84 st84 hQ84
      subst l84 y84 z84
      obtain ⟨rfl, N84q, K84q, O84, f84_0, f84_1, f84_2, f84_3, f84_4, f84_5, f84_6⟩ := hQ84
      have N84 := Fr.app N80 N84q
      have K84 := KK80.trans K84q (allS (Or.inr sz_b71) all0)
      have sg85 : ∀ target, Steps p.tables e below (T84.setTop (mkF m 272 #[.val (.int p1), .val (.int p2), .val (.int p3), .val (.int p4), .val (.int p5), .val (.int p6), .val (.int u1), .val (.int u3), .val (.int u5), .val (.int u7), .val (.int u9), .val (.int u11), .val (.int u13), .val (.int u15), .val (.int u17), .val (.int u19), .val (.int v26_t0), .val (.int v32_t0), .val (.int v38_t0), .val (.int v44_t0), .val (.int v50_t0), .val (.int v56_t0), .val (.int v62_t0), .val (.int u63), .val (.ref b65), .val (.ref b71), .unset] [])) target → Steps p.tables e below (T80.setTop (mkF m 261 #[.val (.int p1), .val (.int p2), .val (.int p3), .val (.int p4), .val (.int p5), .val (.int p6), .val (.int u1), .val (.int u3), .val (.int u5), .val (.int u7), .val (.int u9), .val (.int u11), .val (.int u13), .val (.int u15), .val (.int u17), .val (.int u19), .val (.int v26_t0), .val (.int v32_t0), .val (.int v38_t0), .val (.int v44_t0), .val (.int v50_t0), .val (.int v56_t0), .val (.int v62_t0), .val (.int u63), .val (.ref b65), .val (.ref b71), .unset] [(.int v62_t0)])) target := by
        intro target kt
        show Steps p.tables e below (T80.setTop (mkF m 261 #[.val (.int p1), .val (.int p2), .val (.int p3), .val (.int p4), .val (.int p5), .val (.int p6), .val (.int u1), .val (.int u3), .val (.int u5), .val (.int u7), .val (.int u9), .val (.int u11), .val (.int u13), .val (.int u15), .val (.int u17), .val (.int u19), .val (.int v26_t0), .val (.int v32_t0), .val (.int v38_t0), .val (.int v44_t0), .val (.int v50_t0), .val (.int v56_t0), .val (.int v62_t0), .val (.int u63), .val (.ref b65), .val (.ref b71), .unset] [(.int v62_t0)])) _
        refine XS.ifNo X80.here hx rfl (hb hby at_261) rfl ((if0 _ _).trans (feq hc82).1) ?_
        show Steps p.tables e below (T80.setTop (mkF m 264 #[.val (.int p1), .val (.int p2), .val (.int p3), .val (.int p4), .val (.int p5), .val (.int p6), .val (.int u1), .val (.int u3), .val (.int u5), .val (.int u7), .val (.int u9), .val (.int u11), .val (.int u13), .val (.int u15), .val (.int u17), .val (.int u19), .val (.int v26_t0), .val (.int v32_t0), .val (.int v38_t0), .val (.int v44_t0), .val (.int v50_t0), .val (.int v56_t0), .val (.int v62_t0), .val (.int u63), .val (.ref b65), .val (.ref b71), .unset] [])) _
        refine XS.aload X80.here hx rfl (hb hby at_264) rfl rfl ?_
        show Steps p.tables e below (T80.setTop (mkF m 266 #[.val (.int p1), .val (.int p2), .val (.int p3), .val (.int p4), .val (.int p5), .val (.int p6), .val (.int u1), .val (.int u3), .val (.int u5), .val (.int u7), .val (.int u9), .val (.int u11), .val (.int u13), .val (.int u15), .val (.int u17), .val (.int u19), .val (.int v26_t0), .val (.int v32_t0), .val (.int v38_t0), .val (.int v44_t0), .val (.int v50_t0), .val (.int v56_t0), .val (.int v62_t0), .val (.int u63), .val (.ref b65), .val (.ref b71), .unset] [(.ref b71)])) _
        refine XS.iload X80.here hx rfl (hb hby at_266) rfl ?_
        show Steps p.tables e below (T80.setTop (mkF m 268 #[.val (.int p1), .val (.int p2), .val (.int p3), .val (.int p4), .val (.int p5), .val (.int p6), .val (.int u1), .val (.int u3), .val (.int u5), .val (.int u7), .val (.int u9), .val (.int u11), .val (.int u13), .val (.int u15), .val (.int u17), .val (.int u19), .val (.int v26_t0), .val (.int v32_t0), .val (.int v38_t0), .val (.int v44_t0), .val (.int v50_t0), .val (.int v56_t0), .val (.int v62_t0), .val (.int u63), .val (.ref b65), .val (.ref b71), .unset] [(.int u63), (.ref b71)])) _
        refine XS.i2dS X80.here hx rfl (hb hby at_268) rfl (i2d_w _) ?_
        show Steps p.tables e below (T80.setTop (mkF m 269 #[.val (.int p1), .val (.int p2), .val (.int p3), .val (.int p4), .val (.int p5), .val (.int p6), .val (.int u1), .val (.int u3), .val (.int u5), .val (.int u7), .val (.int u9), .val (.int u11), .val (.int u13), .val (.int u15), .val (.int u17), .val (.int u19), .val (.int v26_t0), .val (.int v32_t0), .val (.int v38_t0), .val (.int v44_t0), .val (.int v50_t0), .val (.int v56_t0), .val (.int v62_t0), .val (.int u63), .val (.ref b65), .val (.ref b71), .unset] [(.double (FP.l2d u63.toInt64)), (.ref b71)])) _
        refine st84.trans ?_
        exact kt
      exact ⟨T84, _, T84.heap, (wv80 * u63.toInt64), X84.mono (by decide) (by decide), rfl, N84, O84, ((Keep.refl h80 [b71]).trans K84q (allS (Or.inl (List.mem_of_getElem? (i := 0) rfl)) all0)), K84, f84_0, f84_1, f84_2, f84_3, f84_4, f84_5, f84_6, (if_neg hc82).symm, fun target kt => sg81 _ (sg85 _ (kt))⟩
  obtain ⟨T92, L92, h92, at92, sv92, sn92, ar92, ka92, cv92, cn92, fv92, X92, e92, N92, O92, K92, KK92, T92_rowsAt, T92_columnsAt, T92_entriesAt, T92_numbers, T92_ownValues, T92_neighbourValues, T92_whole, M92_size, M92_numbers, M92_listed, A92_r, ge_92, sz_92, sms_92, smc_92, need_92, c48_92, f0_92, rel_92, sg92⟩ : ∃ (T' : State) (L' : List Loc) (h' : Heap) (at92 : Int32) (sv92 : Int32) (sn92 : Nat) (ar92 : Addr) (ka92 : ClassId) (cv92 : Int32) (cn92 : Nat) (fv92 : Nat → Int64), Stand p l e room_1 s m #[(.int p1), (.int p2), (.int p3), (.int p4), (.int p5), (.int p6)] below meth c T' L' 5 107 ∧ T'.heap = h' ∧ Fr n0 L' ∧ Old Z n0 h' ∧ Keep h86 h' [b71, b65, ro_70] ∧ Keep h0 h' [] ∧ Fld Z h' b71 "com/example/breakline/breakline/ModifierTable" "rowsAt" "I" (.int (-1 : Int32)) ∧ Fld Z h' b71 "com/example/breakline/breakline/ModifierTable" "columnsAt" "I" (.int (-1 : Int32)) ∧ Fld Z h' b71 "com/example/breakline/breakline/ModifierTable" "entriesAt" "I" (.int at92) ∧ Fld Z h' b71 "com/example/breakline/breakline/ModifierTable" "numbers" "Lcom/example/breakline/breakline/ModifierNumbers;" (.ref b65) ∧ Fld Z h' b71 "com/example/breakline/breakline/ModifierTable" "ownValues" "I" (.int u1) ∧ Fld Z h' b71 "com/example/breakline/breakline/ModifierTable" "neighbourValues" "I" (.int u3) ∧ Fld Z h' b71 "com/example/breakline/breakline/ModifierTable" "whole" "D" (.double (FP.l2d wv86)) ∧ Fld Z h' b65 "com/example/breakline/breakline/ModifierNumbers" "size" "I" (.int sv92) ∧ Fld Z h' b65 "com/example/breakline/breakline/ModifierNumbers" "numbers" "[D" (.ref ar92) ∧ Fld Z h' b65 "com/example/breakline/breakline/ModifierNumbers" "listed" "[I" .null ∧ Arv Z h' ar92 ka92 .double cv92 (dvs fv92) (.double (FP.l2d 0)) ∧ n0 ≤ ar92 ∧ h0.size ≤ ar92 ∧ Sm sv92 sn92 ∧ Sm cv92 cn92 ∧ sn92 ≤ cn92 ∧ cn92 ≤ 48 ∧ (∀ j, sn92 ≤ j → fv92 j = 0) ∧ ((v56_t0 = (0 : Int32) ∧ at92 = (-1 : Int32) ∧ sn92 = (0 + xn) ∧ fv92 = (fun _ => (0 : Int64))) ∨ (¬ v56_t0 = (0 : Int32) ∧ ER v44_t0 v50_t0 at92 ((0 : Int32) + u68) (0 + xn) sn92 (own * nbn) ((0 + xn) + (n12 * nbn) + n13) ((0 + xn) + (n14 * nbn) + n15) (fun _ => (0 : Int64)) fv92)) ∧ ∀ target, Steps p.tables e below (T'.setTop (mkF m 294 #[.val (.int p1), .val (.int p2), .val (.int p3), .val (.int p4), .val (.int p5), .val (.int p6), .val (.int u1), .val (.int u3), .val (.int u5), .val (.int u7), .val (.int u9), .val (.int u11), .val (.int u13), .val (.int u15), .val (.int u17), .val (.int u19), .val (.int v26_t0), .val (.int v32_t0), .val (.int v38_t0), .val (.int v44_t0), .val (.int v50_t0), .val (.int v56_t0), .val (.int v62_t0), .val (.int u63), .val (.ref b65), .val (.ref b71), .unset] [])) target → Steps p.tables e below (T86.setTop (mkF m 272 #[.val (.int p1), .val (.int p2), .val (.int p3), .val (.int p4), .val (.int p5), .val (.int p6), .val (.int u1), .val (.int u3), .val (.int u5), .val (.int u7), .val (.int u9), .val (.int u11), .val (.int u13), .val (.int u15), .val (.int u17), .val (.int u19), .val (.int v26_t0), .val (.int v32_t0), .val (.int v38_t0), .val (.int v44_t0), .val (.int v50_t0), .val (.int v56_t0), .val (.int v62_t0), .val (.int u63), .val (.ref b65), .val (.ref b71), .unset] [])) target := by
    have sg87 : ∀ target, Steps p.tables e below (T86.setTop (mkF m 274 #[.val (.int p1), .val (.int p2), .val (.int p3), .val (.int p4), .val (.int p5), .val (.int p6), .val (.int u1), .val (.int u3), .val (.int u5), .val (.int u7), .val (.int u9), .val (.int u11), .val (.int u13), .val (.int u15), .val (.int u17), .val (.int u19), .val (.int v26_t0), .val (.int v32_t0), .val (.int v38_t0), .val (.int v44_t0), .val (.int v50_t0), .val (.int v56_t0), .val (.int v62_t0), .val (.int u63), .val (.ref b65), .val (.ref b71), .unset] [(.int v56_t0)])) target → Steps p.tables e below (T86.setTop (mkF m 272 #[.val (.int p1), .val (.int p2), .val (.int p3), .val (.int p4), .val (.int p5), .val (.int p6), .val (.int u1), .val (.int u3), .val (.int u5), .val (.int u7), .val (.int u9), .val (.int u11), .val (.int u13), .val (.int u15), .val (.int u17), .val (.int u19), .val (.int v26_t0), .val (.int v32_t0), .val (.int v38_t0), .val (.int v44_t0), .val (.int v50_t0), .val (.int v56_t0), .val (.int v62_t0), .val (.int u63), .val (.ref b65), .val (.ref b71), .unset] [])) target := by
      intro target kt
      show Steps p.tables e below (T86.setTop (mkF m 272 #[.val (.int p1), .val (.int p2), .val (.int p3), .val (.int p4), .val (.int p5), .val (.int p6), .val (.int u1), .val (.int u3), .val (.int u5), .val (.int u7), .val (.int u9), .val (.int u11), .val (.int u13), .val (.int u15), .val (.int u17), .val (.int u19), .val (.int v26_t0), .val (.int v32_t0), .val (.int v38_t0), .val (.int v44_t0), .val (.int v50_t0), .val (.int v56_t0), .val (.int v62_t0), .val (.int u63), .val (.ref b65), .val (.ref b71), .unset] [])) _
      refine XS.iload X86.here hx rfl (hb hby at_272) rfl ?_
      exact kt
    by_cases hc88 : v56_t0 = (0 : Int32)
    · have sg89 : ∀ target, Steps p.tables e below (T86.setTop (mkF m 294 #[.val (.int p1), .val (.int p2), .val (.int p3), .val (.int p4), .val (.int p5), .val (.int p6), .val (.int u1), .val (.int u3), .val (.int u5), .val (.int u7), .val (.int u9), .val (.int u11), .val (.int u13), .val (.int u15), .val (.int u17), .val (.int u19), .val (.int v26_t0), .val (.int v32_t0), .val (.int v38_t0), .val (.int v44_t0), .val (.int v50_t0), .val (.int v56_t0), .val (.int v62_t0), .val (.int u63), .val (.ref b65), .val (.ref b71), .unset] [])) target → Steps p.tables e below (T86.setTop (mkF m 274 #[.val (.int p1), .val (.int p2), .val (.int p3), .val (.int p4), .val (.int p5), .val (.int p6), .val (.int u1), .val (.int u3), .val (.int u5), .val (.int u7), .val (.int u9), .val (.int u11), .val (.int u13), .val (.int u15), .val (.int u17), .val (.int u19), .val (.int v26_t0), .val (.int v32_t0), .val (.int v38_t0), .val (.int v44_t0), .val (.int v50_t0), .val (.int v56_t0), .val (.int v62_t0), .val (.int u63), .val (.ref b65), .val (.ref b71), .unset] [(.int v56_t0)])) target := by
        intro target kt
        show Steps p.tables e below (T86.setTop (mkF m 274 #[.val (.int p1), .val (.int p2), .val (.int p3), .val (.int p4), .val (.int p5), .val (.int p6), .val (.int u1), .val (.int u3), .val (.int u5), .val (.int u7), .val (.int u9), .val (.int u11), .val (.int u13), .val (.int u15), .val (.int u17), .val (.int u19), .val (.int v26_t0), .val (.int v32_t0), .val (.int v38_t0), .val (.int v44_t0), .val (.int v50_t0), .val (.int v56_t0), .val (.int v62_t0), .val (.int u63), .val (.ref b65), .val (.ref b71), .unset] [(.int v56_t0)])) _
        refine XS.ifYes X86.here hx rfl (pc0 := 274) (pc' := 294) rfl (hb hby at_274) rfl ((if0 _ _).trans (teq hc88).1) (by decide) (by decide) ?_
        exact kt
      exact ⟨T86, _, h86, (-1 : Int32), ((0 : Int32) + u68), (0 + xn), ro_70, ko_70, co_70, cn_70, (fun _ => (0 : Int64)), X86.mono (by decide) (by decide), e86, N86, O86, (Keep.refl h86 [b71, b65, ro_70]), KK86, T86_rowsAt, T86_columnsAt, T86_entriesAt, T86_numbers, T86_ownValues, T86_neighbourValues, T86_whole, ((((f70_0.ext E71).keep K73q (ninS (Nat.ne_of_lt (Nat.lt_of_lt_of_le ((A65.keep K67q).keep K70q).lt (Nat.le_of_eq g71.symm))) nin0)).keep K80 (ninS (Nat.ne_of_lt (Nat.lt_of_lt_of_le ((A65.keep K67q).keep K70q).lt (Nat.le_of_eq g71.symm))) nin0)).keep K86 (ninS (Nat.ne_of_lt (Nat.lt_of_lt_of_le ((A65.keep K67q).keep K70q).lt (Nat.le_of_eq g71.symm))) nin0)), ((((f70_1.ext E71).keep K73q (ninS (Nat.ne_of_lt (Nat.lt_of_lt_of_le ((A65.keep K67q).keep K70q).lt (Nat.le_of_eq g71.symm))) nin0)).keep K80 (ninS (Nat.ne_of_lt (Nat.lt_of_lt_of_le ((A65.keep K67q).keep K70q).lt (Nat.le_of_eq g71.symm))) nin0)).keep K86 (ninS (Nat.ne_of_lt (Nat.lt_of_lt_of_le ((A65.keep K67q).keep K70q).lt (Nat.le_of_eq g71.symm))) nin0)), ((((f70_2.ext E71).keep K73q (ninS (Nat.ne_of_lt (Nat.lt_of_lt_of_le ((A65.keep K67q).keep K70q).lt (Nat.le_of_eq g71.symm))) nin0)).keep K80 (ninS (Nat.ne_of_lt (Nat.lt_of_lt_of_le ((A65.keep K67q).keep K70q).lt (Nat.le_of_eq g71.symm))) nin0)).keep K86 (ninS (Nat.ne_of_lt (Nat.lt_of_lt_of_le ((A65.keep K67q).keep K70q).lt (Nat.le_of_eq g71.symm))) nin0)), ((((f70_3.ext E71).keep K73q (ninS (Nat.ne_of_lt (Nat.lt_of_lt_of_le f70_3.lt (Nat.le_of_eq g71.symm))) nin0)).keep K80 (ninS (Nat.ne_of_lt (Nat.lt_of_lt_of_le f70_3.lt (Nat.le_of_eq g71.symm))) nin0)).keep K86 (ninS (Nat.ne_of_lt (Nat.lt_of_lt_of_le f70_3.lt (Nat.le_of_eq g71.symm))) nin0)), f70_4, (f70_5.elim (fun q => by rw [List.mem_singleton.mp q]; exact (Nat.le_trans K65.1 f67_5)) (fun q => Nat.le_trans K67.1 q)), (Sm.add (Sm.lit (by decide)) h_xn (by omega)), f70_6, f70_7, f70_8, (fun _ _ => rfl), (Or.inl ⟨hc88, rfl, rfl, rfl⟩), fun target kt => sg87 _ (sg89 _ (kt))⟩
    · obtain ⟨_, _, ⟨T90, L90, k90, n90⟩, -, X90, ⟨Lc90, hQ90, l90, y90, z90⟩, st90⟩ := Jvm.LawKit.callS X86 hx (y := (⟨"com/example/breakline/breakline/ModifierTableGetPinLaw", "entries", "(Lcom/example/breakline/breakline/ModifierTable;ZZIIII)V"⟩ : MethodName)) hown (mvT hZ (tw hw 83 rfl)) (mvT hZ (tw hw 84 rfl)) (mvT hZ (tw hw 85 rfl)) (mvT hZ (tw hw 86 rfl)) (by decide) (backOf (W := 0) (rm13 l Z a0 hw [] b71 v44_t0 v50_t0 u13 u15 u17 u19 (-1 : Int32) (-1 : Int32) b65 u1 u3 wv86 ((0 : Int32) + u68) (0 + xn) ro_70 ko_70 co_70 cn_70 (fun _ => (0 : Int64)) own nbn n12 n13 n14 n15 h86 n0 O86 (((A71.keep K73q).keep K80).keep K86) T86_rowsAt T86_columnsAt T86_entriesAt T86_numbers T86_ownValues T86_neighbourValues T86_whole ge_b71 ge_b65 ((((((A65.keep K67q).keep K70q).ext E71).keep K73q).keep K80).keep K86) ((((f70_0.ext E71).keep K73q (ninS (Nat.ne_of_lt (Nat.lt_of_lt_of_le ((A65.keep K67q).keep K70q).lt (Nat.le_of_eq g71.symm))) nin0)).keep K80 (ninS (Nat.ne_of_lt (Nat.lt_of_lt_of_le ((A65.keep K67q).keep K70q).lt (Nat.le_of_eq g71.symm))) nin0)).keep K86 (ninS (Nat.ne_of_lt (Nat.lt_of_lt_of_le ((A65.keep K67q).keep K70q).lt (Nat.le_of_eq g71.symm))) nin0)) ((((f70_1.ext E71).keep K73q (ninS (Nat.ne_of_lt (Nat.lt_of_lt_of_le ((A65.keep K67q).keep K70q).lt (Nat.le_of_eq g71.symm))) nin0)).keep K80 (ninS (Nat.ne_of_lt (Nat.lt_of_lt_of_le ((A65.keep K67q).keep K70q).lt (Nat.le_of_eq g71.symm))) nin0)).keep K86 (ninS (Nat.ne_of_lt (Nat.lt_of_lt_of_le ((A65.keep K67q).keep K70q).lt (Nat.le_of_eq g71.symm))) nin0)) ((((f70_2.ext E71).keep K73q (ninS (Nat.ne_of_lt (Nat.lt_of_lt_of_le ((A65.keep K67q).keep K70q).lt (Nat.le_of_eq g71.symm))) nin0)).keep K80 (ninS (Nat.ne_of_lt (Nat.lt_of_lt_of_le ((A65.keep K67q).keep K70q).lt (Nat.le_of_eq g71.symm))) nin0)).keep K86 (ninS (Nat.ne_of_lt (Nat.lt_of_lt_of_le ((A65.keep K67q).keep K70q).lt (Nat.le_of_eq g71.symm))) nin0)) ((((f70_3.ext E71).keep K73q (ninS (Nat.ne_of_lt (Nat.lt_of_lt_of_le f70_3.lt (Nat.le_of_eq g71.symm))) nin0)).keep K80 (ninS (Nat.ne_of_lt (Nat.lt_of_lt_of_le f70_3.lt (Nat.le_of_eq g71.symm))) nin0)).keep K86 (ninS (Nat.ne_of_lt (Nat.lt_of_lt_of_le f70_3.lt (Nat.le_of_eq g71.symm))) nin0)) f70_4 (Sm.add (Sm.lit (by decide)) h_xn (by omega)) f70_6 f70_7 f70_8 (fun _ _ => rfl) h_own h_nbn h_n12 h_n13 h_n14 h_n15 lt_n12 lt_n13 lt_n14 lt_n15 b4_own b4_nbn (own_b0 b_xn b4_own b4_nbn)) hZ (tw hw 86 rfl) (tw hw 85 rfl) (by decide) (by decide)) (g := (mkF m 291 #[.val (.int p1), .val (.int p2), .val (.int p3), .val (.int p4), .val (.int p5), .val (.int p6), .val (.int u1), .val (.int u3), .val (.int u5), .val (.int u7), .val (.int u9), .val (.int u11), .val (.int u13), .val (.int u15), .val (.int u17), .val (.int u19), .val (.int v26_t0), .val (.int v32_t0), .val (.int v38_t0), .val (.int v44_t0), .val (.int v50_t0), .val (.int v56_t0), .val (.int v62_t0), .val (.int u63), .val (.ref b65), .val (.ref b71), .unset] [(.int u19), (.int u17), (.int u15), (.int u13), (.int v50_t0), (.int v44_t0), (.ref b71)])) rfl (by rw [hml]; rfl) (argsL := [(.ref b71), (.int v44_t0), (.int v50_t0), (.int u13), (.int u15), (.int u17), (.int u19)]) (rest := []) (lenOf pd_11 rfl) rfl (by show 2 * 0 + _ ≤ _; exact Nat.le_of_eq rfl) (hb hby at_291) (fun _ _ => ⟨rfl, e86, (by decide : 4 + 1 ≤ _), (by decide : 59 + 48 ≤ _)⟩)
      dsimp only [Pt.U, Pt.locs, Pt.cells, Pt.slots] at X90 l90 y90 z90 st90 hQ90
      subst l90 y90 z90
      obtain ⟨eo_90, so_90, sno_90, ro_90, ko_90, co_90, cn_90, fo_90, rfl, N90q, K90q, O90, f90_0, f90_1, f90_2, f90_3, f90_4, f90_5, f90_6, f90_7, f90_8, f90_9, f90_10, f90_11, f90_12, f90_13, f90_14, f90_15, f90_16, f90_17, f90_18⟩ := hQ90
      have N90 := Fr.app N86 N90q
      have K90 := KK86.trans K90q (allS (Or.inr sz_b71) (allS (Or.inr sz_b65) (allS (Or.inr (f70_5.elim (fun q => by rw [List.mem_singleton.mp q]; exact (Nat.le_trans K65.1 f67_5)) (fun q => Nat.le_trans K67.1 q))) all0)))
      have sg91 : ∀ target, Steps p.tables e below (T90.setTop (mkF m 294 #[.val (.int p1), .val (.int p2), .val (.int p3), .val (.int p4), .val (.int p5), .val (.int p6), .val (.int u1), .val (.int u3), .val (.int u5), .val (.int u7), .val (.int u9), .val (.int u11), .val (.int u13), .val (.int u15), .val (.int u17), .val (.int u19), .val (.int v26_t0), .val (.int v32_t0), .val (.int v38_t0), .val (.int v44_t0), .val (.int v50_t0), .val (.int v56_t0), .val (.int v62_t0), .val (.int u63), .val (.ref b65), .val (.ref b71), .unset] [])) target → Steps p.tables e below (T86.setTop (mkF m 274 #[.val (.int p1), .val (.int p2), .val (.int p3), .val (.int p4), .val (.int p5), .val (.int p6), .val (.int u1), .val (.int u3), .val (.int u5), .val (.int u7), .val (.int u9), .val (.int u11), .val (.int u13), .val (.int u15), .val (.int u17), .val (.int u19), .val (.int v26_t0), .val (.int v32_t0), .val (.int v38_t0), .val (.int v44_t0), .val (.int v50_t0), .val (.int v56_t0), .val (.int v62_t0), .val (.int u63), .val (.ref b65), .val (.ref b71), .unset] [(.int v56_t0)])) target := by
        intro target kt
        show Steps p.tables e below (T86.setTop (mkF m 274 #[.val (.int p1), .val (.int p2), .val (.int p3), .val (.int p4), .val (.int p5), .val (.int p6), .val (.int u1), .val (.int u3), .val (.int u5), .val (.int u7), .val (.int u9), .val (.int u11), .val (.int u13), .val (.int u15), .val (.int u17), .val (.int u19), .val (.int v26_t0), .val (.int v32_t0), .val (.int v38_t0), .val (.int v44_t0), .val (.int v50_t0), .val (.int v56_t0), .val (.int v62_t0), .val (.int u63), .val (.ref b65), .val (.ref b71), .unset] [(.int v56_t0)])) _
        refine XS.ifNo X86.here hx rfl (hb hby at_274) rfl ((if0 _ _).trans (feq hc88).1) ?_
        show Steps p.tables e below (T86.setTop (mkF m 277 #[.val (.int p1), .val (.int p2), .val (.int p3), .val (.int p4), .val (.int p5), .val (.int p6), .val (.int u1), .val (.int u3), .val (.int u5), .val (.int u7), .val (.int u9), .val (.int u11), .val (.int u13), .val (.int u15), .val (.int u17), .val (.int u19), .val (.int v26_t0), .val (.int v32_t0), .val (.int v38_t0), .val (.int v44_t0), .val (.int v50_t0), .val (.int v56_t0), .val (.int v62_t0), .val (.int u63), .val (.ref b65), .val (.ref b71), .unset] [])) _
        refine XS.aload X86.here hx rfl (hb hby at_277) rfl rfl ?_
        show Steps p.tables e below (T86.setTop (mkF m 279 #[.val (.int p1), .val (.int p2), .val (.int p3), .val (.int p4), .val (.int p5), .val (.int p6), .val (.int u1), .val (.int u3), .val (.int u5), .val (.int u7), .val (.int u9), .val (.int u11), .val (.int u13), .val (.int u15), .val (.int u17), .val (.int u19), .val (.int v26_t0), .val (.int v32_t0), .val (.int v38_t0), .val (.int v44_t0), .val (.int v50_t0), .val (.int v56_t0), .val (.int v62_t0), .val (.int u63), .val (.ref b65), .val (.ref b71), .unset] [(.ref b71)])) _
        refine XS.iload X86.here hx rfl (hb hby at_279) rfl ?_
        show Steps p.tables e below (T86.setTop (mkF m 281 #[.val (.int p1), .val (.int p2), .val (.int p3), .val (.int p4), .val (.int p5), .val (.int p6), .val (.int u1), .val (.int u3), .val (.int u5), .val (.int u7), .val (.int u9), .val (.int u11), .val (.int u13), .val (.int u15), .val (.int u17), .val (.int u19), .val (.int v26_t0), .val (.int v32_t0), .val (.int v38_t0), .val (.int v44_t0), .val (.int v50_t0), .val (.int v56_t0), .val (.int v62_t0), .val (.int u63), .val (.ref b65), .val (.ref b71), .unset] [(.int v44_t0), (.ref b71)])) _
        refine XS.iload X86.here hx rfl (hb hby at_281) rfl ?_
        show Steps p.tables e below (T86.setTop (mkF m 283 #[.val (.int p1), .val (.int p2), .val (.int p3), .val (.int p4), .val (.int p5), .val (.int p6), .val (.int u1), .val (.int u3), .val (.int u5), .val (.int u7), .val (.int u9), .val (.int u11), .val (.int u13), .val (.int u15), .val (.int u17), .val (.int u19), .val (.int v26_t0), .val (.int v32_t0), .val (.int v38_t0), .val (.int v44_t0), .val (.int v50_t0), .val (.int v56_t0), .val (.int v62_t0), .val (.int u63), .val (.ref b65), .val (.ref b71), .unset] [(.int v50_t0), (.int v44_t0), (.ref b71)])) _
        refine XS.iload X86.here hx rfl (hb hby at_283) rfl ?_
        show Steps p.tables e below (T86.setTop (mkF m 285 #[.val (.int p1), .val (.int p2), .val (.int p3), .val (.int p4), .val (.int p5), .val (.int p6), .val (.int u1), .val (.int u3), .val (.int u5), .val (.int u7), .val (.int u9), .val (.int u11), .val (.int u13), .val (.int u15), .val (.int u17), .val (.int u19), .val (.int v26_t0), .val (.int v32_t0), .val (.int v38_t0), .val (.int v44_t0), .val (.int v50_t0), .val (.int v56_t0), .val (.int v62_t0), .val (.int u63), .val (.ref b65), .val (.ref b71), .unset] [(.int u13), (.int v50_t0), (.int v44_t0), (.ref b71)])) _
        refine XS.iload X86.here hx rfl (hb hby at_285) rfl ?_
        show Steps p.tables e below (T86.setTop (mkF m 287 #[.val (.int p1), .val (.int p2), .val (.int p3), .val (.int p4), .val (.int p5), .val (.int p6), .val (.int u1), .val (.int u3), .val (.int u5), .val (.int u7), .val (.int u9), .val (.int u11), .val (.int u13), .val (.int u15), .val (.int u17), .val (.int u19), .val (.int v26_t0), .val (.int v32_t0), .val (.int v38_t0), .val (.int v44_t0), .val (.int v50_t0), .val (.int v56_t0), .val (.int v62_t0), .val (.int u63), .val (.ref b65), .val (.ref b71), .unset] [(.int u15), (.int u13), (.int v50_t0), (.int v44_t0), (.ref b71)])) _
        refine XS.iload X86.here hx rfl (hb hby at_287) rfl ?_
        show Steps p.tables e below (T86.setTop (mkF m 289 #[.val (.int p1), .val (.int p2), .val (.int p3), .val (.int p4), .val (.int p5), .val (.int p6), .val (.int u1), .val (.int u3), .val (.int u5), .val (.int u7), .val (.int u9), .val (.int u11), .val (.int u13), .val (.int u15), .val (.int u17), .val (.int u19), .val (.int v26_t0), .val (.int v32_t0), .val (.int v38_t0), .val (.int v44_t0), .val (.int v50_t0), .val (.int v56_t0), .val (.int v62_t0), .val (.int u63), .val (.ref b65), .val (.ref b71), .unset] [(.int u17), (.int u15), (.int u13), (.int v50_t0), (.int v44_t0), (.ref b71)])) _
        refine XS.iload X86.here hx rfl (hb hby at_289) rfl ?_
        show Steps p.tables e below (T86.setTop (mkF m 291 #[.val (.int p1), .val (.int p2), .val (.int p3), .val (.int p4), .val (.int p5), .val (.int p6), .val (.int u1), .val (.int u3), .val (.int u5), .val (.int u7), .val (.int u9), .val (.int u11), .val (.int u13), .val (.int u15), .val (.int u17), .val (.int u19), .val (.int v26_t0), .val (.int v32_t0), .val (.int v38_t0), .val (.int v44_t0), .val (.int v50_t0), .val (.int v56_t0), .val (.int v62_t0), .val (.int u63), .val (.ref b65), .val (.ref b71), .unset] [(.int u19), (.int u17), (.int u15), (.int u13), (.int v50_t0), (.int v44_t0), (.ref b71)])) _
        refine st90 _ ?_
        exact kt
      exact ⟨T90, _, T90.heap, eo_90, so_90, sno_90, ro_90, ko_90, co_90, cn_90, fo_90, X90.mono (by decide) (by decide), rfl, N90, O90, ((Keep.refl h86 [b71, b65, ro_70]).trans K90q (allS (Or.inl (List.mem_of_getElem? (i := 0) rfl)) (allS (Or.inl (List.mem_of_getElem? (i := 1) rfl)) (allS (Or.inl (List.mem_of_getElem? (i := 2) rfl)) all0)))), K90, f90_9, f90_10, f90_11, f90_12, f90_13, f90_14, f90_15, f90_0, f90_1, f90_2, f90_3, f90_4, (f90_5.elim (fun q => by rw [List.mem_singleton.mp q]; exact (f70_5.elim (fun q => by rw [List.mem_singleton.mp q]; exact (Nat.le_trans K65.1 f67_5)) (fun q => Nat.le_trans K67.1 q))) (fun q => Nat.le_trans KK86.1 q)), f90_16, f90_6, f90_7, f90_8, f90_17, (Or.inr ⟨hc88, f90_18⟩), fun target kt => sg87 _ (sg91 _ (kt))⟩
  obtain ⟨T98, L98, h98, at98, sv98, sn98, ar98, ka98, cv98, cn98, fv98, X98, e98, N98, O98, K98, KK98, T98_rowsAt, T98_columnsAt, T98_entriesAt, T98_numbers, T98_ownValues, T98_neighbourValues, T98_whole, M98_size, M98_numbers, M98_listed, A98_r, ge_98, sz_98, sms_98, smc_98, need_98, c48_98, f0_98, rel_98, sg98⟩ : ∃ (T' : State) (L' : List Loc) (h' : Heap) (at98 : Int32) (sv98 : Int32) (sn98 : Nat) (ar98 : Addr) (ka98 : ClassId) (cv98 : Int32) (cn98 : Nat) (fv98 : Nat → Int64), Stand p l e room_1 s m #[(.int p1), (.int p2), (.int p3), (.int p4), (.int p5), (.int p6)] below meth c T' L' 6 155 ∧ T'.heap = h' ∧ Fr n0 L' ∧ Old Z n0 h' ∧ Keep h92 h' [b71, b65, ar92] ∧ Keep h0 h' [] ∧ Fld Z h' b71 "com/example/breakline/breakline/ModifierTable" "rowsAt" "I" (.int at98) ∧ Fld Z h' b71 "com/example/breakline/breakline/ModifierTable" "columnsAt" "I" (.int (-1 : Int32)) ∧ Fld Z h' b71 "com/example/breakline/breakline/ModifierTable" "entriesAt" "I" (.int at92) ∧ Fld Z h' b71 "com/example/breakline/breakline/ModifierTable" "numbers" "Lcom/example/breakline/breakline/ModifierNumbers;" (.ref b65) ∧ Fld Z h' b71 "com/example/breakline/breakline/ModifierTable" "ownValues" "I" (.int u1) ∧ Fld Z h' b71 "com/example/breakline/breakline/ModifierTable" "neighbourValues" "I" (.int u3) ∧ Fld Z h' b71 "com/example/breakline/breakline/ModifierTable" "whole" "D" (.double (FP.l2d wv86)) ∧ Fld Z h' b65 "com/example/breakline/breakline/ModifierNumbers" "size" "I" (.int sv98) ∧ Fld Z h' b65 "com/example/breakline/breakline/ModifierNumbers" "numbers" "[D" (.ref ar98) ∧ Fld Z h' b65 "com/example/breakline/breakline/ModifierNumbers" "listed" "[I" .null ∧ Arv Z h' ar98 ka98 .double cv98 (dvs fv98) (.double (FP.l2d 0)) ∧ n0 ≤ ar98 ∧ h0.size ≤ ar98 ∧ Sm sv98 sn98 ∧ Sm cv98 cn98 ∧ sn98 ≤ cn98 ∧ cn98 ≤ 48 ∧ (∀ j, sn98 ≤ j → fv98 j = 0) ∧ ((v32_t0 = (0 : Int32) ∧ at98 = (-1 : Int32) ∧ sn98 = sn92 ∧ fv98 = fv92) ∨ (¬ v32_t0 = (0 : Int32) ∧ at98 = sv92 ∧ sn98 = sn92 + own ∧ fv98 = upd fv92 (sn92 + n10) (fv92 (sn92 + n10) + (1 : Int64)))) ∧ ∀ target, Steps p.tables e below (T'.setTop (mkF m 306 #[.val (.int p1), .val (.int p2), .val (.int p3), .val (.int p4), .val (.int p5), .val (.int p6), .val (.int u1), .val (.int u3), .val (.int u5), .val (.int u7), .val (.int u9), .val (.int u11), .val (.int u13), .val (.int u15), .val (.int u17), .val (.int u19), .val (.int v26_t0), .val (.int v32_t0), .val (.int v38_t0), .val (.int v44_t0), .val (.int v50_t0), .val (.int v56_t0), .val (.int v62_t0), .val (.int u63), .val (.ref b65), .val (.ref b71), .unset] [])) target → Steps p.tables e below (T92.setTop (mkF m 294 #[.val (.int p1), .val (.int p2), .val (.int p3), .val (.int p4), .val (.int p5), .val (.int p6), .val (.int u1), .val (.int u3), .val (.int u5), .val (.int u7), .val (.int u9), .val (.int u11), .val (.int u13), .val (.int u15), .val (.int u17), .val (.int u19), .val (.int v26_t0), .val (.int v32_t0), .val (.int v38_t0), .val (.int v44_t0), .val (.int v50_t0), .val (.int v56_t0), .val (.int v62_t0), .val (.int u63), .val (.ref b65), .val (.ref b71), .unset] [])) target := by
    have sg93 : ∀ target, Steps p.tables e below (T92.setTop (mkF m 296 #[.val (.int p1), .val (.int p2), .val (.int p3), .val (.int p4), .val (.int p5), .val (.int p6), .val (.int u1), .val (.int u3), .val (.int u5), .val (.int u7), .val (.int u9), .val (.int u11), .val (.int u13), .val (.int u15), .val (.int u17), .val (.int u19), .val (.int v26_t0), .val (.int v32_t0), .val (.int v38_t0), .val (.int v44_t0), .val (.int v50_t0), .val (.int v56_t0), .val (.int v62_t0), .val (.int u63), .val (.ref b65), .val (.ref b71), .unset] [(.int v32_t0)])) target → Steps p.tables e below (T92.setTop (mkF m 294 #[.val (.int p1), .val (.int p2), .val (.int p3), .val (.int p4), .val (.int p5), .val (.int p6), .val (.int u1), .val (.int u3), .val (.int u5), .val (.int u7), .val (.int u9), .val (.int u11), .val (.int u13), .val (.int u15), .val (.int u17), .val (.int u19), .val (.int v26_t0), .val (.int v32_t0), .val (.int v38_t0), .val (.int v44_t0), .val (.int v50_t0), .val (.int v56_t0), .val (.int v62_t0), .val (.int u63), .val (.ref b65), .val (.ref b71), .unset] [])) target := by
      intro target kt
      show Steps p.tables e below (T92.setTop (mkF m 294 #[.val (.int p1), .val (.int p2), .val (.int p3), .val (.int p4), .val (.int p5), .val (.int p6), .val (.int u1), .val (.int u3), .val (.int u5), .val (.int u7), .val (.int u9), .val (.int u11), .val (.int u13), .val (.int u15), .val (.int u17), .val (.int u19), .val (.int v26_t0), .val (.int v32_t0), .val (.int v38_t0), .val (.int v44_t0), .val (.int v50_t0), .val (.int v56_t0), .val (.int v62_t0), .val (.int u63), .val (.ref b65), .val (.ref b71), .unset] [])) _
      refine XS.iload X92.here hx rfl (hb hby at_294) rfl ?_
      exact kt
    by_cases hc94 : v32_t0 = (0 : Int32)
    · have sg95 : ∀ target, Steps p.tables e below (T92.setTop (mkF m 306 #[.val (.int p1), .val (.int p2), .val (.int p3), .val (.int p4), .val (.int p5), .val (.int p6), .val (.int u1), .val (.int u3), .val (.int u5), .val (.int u7), .val (.int u9), .val (.int u11), .val (.int u13), .val (.int u15), .val (.int u17), .val (.int u19), .val (.int v26_t0), .val (.int v32_t0), .val (.int v38_t0), .val (.int v44_t0), .val (.int v50_t0), .val (.int v56_t0), .val (.int v62_t0), .val (.int u63), .val (.ref b65), .val (.ref b71), .unset] [])) target → Steps p.tables e below (T92.setTop (mkF m 296 #[.val (.int p1), .val (.int p2), .val (.int p3), .val (.int p4), .val (.int p5), .val (.int p6), .val (.int u1), .val (.int u3), .val (.int u5), .val (.int u7), .val (.int u9), .val (.int u11), .val (.int u13), .val (.int u15), .val (.int u17), .val (.int u19), .val (.int v26_t0), .val (.int v32_t0), .val (.int v38_t0), .val (.int v44_t0), .val (.int v50_t0), .val (.int v56_t0), .val (.int v62_t0), .val (.int u63), .val (.ref b65), .val (.ref b71), .unset] [(.int v32_t0)])) target := by
        intro target kt
        show Steps p.tables e below (T92.setTop (mkF m 296 #[.val (.int p1), .val (.int p2), .val (.int p3), .val (.int p4), .val (.int p5), .val (.int p6), .val (.int u1), .val (.int u3), .val (.int u5), .val (.int u7), .val (.int u9), .val (.int u11), .val (.int u13), .val (.int u15), .val (.int u17), .val (.int u19), .val (.int v26_t0), .val (.int v32_t0), .val (.int v38_t0), .val (.int v44_t0), .val (.int v50_t0), .val (.int v56_t0), .val (.int v62_t0), .val (.int u63), .val (.ref b65), .val (.ref b71), .unset] [(.int v32_t0)])) _
        refine XS.ifYes X92.here hx rfl (pc0 := 296) (pc' := 306) rfl (hb hby at_296) rfl ((if0 _ _).trans (teq hc94).1) (by decide) (by decide) ?_
        exact kt
      exact ⟨T92, _, h92, (-1 : Int32), sv92, sn92, ar92, ka92, cv92, cn92, fv92, X92.mono (by decide) (by decide), e92, N92, O92, (Keep.refl h92 [b71, b65, ar92]), KK92, T92_rowsAt, T92_columnsAt, T92_entriesAt, T92_numbers, T92_ownValues, T92_neighbourValues, T92_whole, M92_size, M92_numbers, M92_listed, A92_r, ge_92, sz_92, sms_92, smc_92, need_92, c48_92, f0_92, (Or.inl ⟨hc94, rfl, rfl, rfl⟩), fun target kt => sg93 _ (sg95 _ (kt))⟩
    · obtain ⟨cq96, kq96, q96a, q96b, q96c⟩ := isOf hZ e92 ((((A71.keep K73q).keep K80).keep K86).keep K92)
      obtain ⟨_, _, ⟨T96, L96, k96, n96⟩, -, X96, ⟨Lc96, hQ96, l96, y96, z96⟩, st96⟩ := X92.virtualBack hx (y := (⟨"com/example/breakline/breakline/ModifierTable", "raiseRow", "(I)V"⟩ : MethodName)) (z := (⟨"com/example/breakline/breakline/ModifierTable", "raiseRow", "(I)V"⟩ : MethodName)) hown (mvT hZ (tw hw 70 rfl)) (mvT hZ (tw hw 71 rfl)) (notFace_of_selects (args := #[]) (mvT hZ (tw hw 73 rfl))) (mvT hZ (tw hw 73 rfl)) (mvT hZ (tw hw 72 rfl)) (by decide) (backOf (W := 0) (rm11 l Z a0 hw [] b71 u9 (-1 : Int32) at92 b65 u1 u3 wv86 sv92 sn92 ar92 ka92 cv92 cn92 fv92 n10 own h92 n0 O92 ((((A71.keep K73q).keep K80).keep K86).keep K92) T92_rowsAt T92_columnsAt T92_entriesAt T92_numbers T92_ownValues T92_neighbourValues T92_whole ge_b71 ge_b65 (((((((A65.keep K67q).keep K70q).ext E71).keep K73q).keep K80).keep K86).keep K92) M92_size M92_numbers M92_listed A92_r ge_92 sms_92 smc_92 need_92 c48_92 f0_92 h_n10 h_own lt_n10 (own_b1x rel_92 b_xn b4_own b4_nbn)) hZ (tw hw 74 rfl) (tw hw 46 rfl) (by decide) (by decide)) q96a q96c (g := (mkF m 303 #[.val (.int p1), .val (.int p2), .val (.int p3), .val (.int p4), .val (.int p5), .val (.int p6), .val (.int u1), .val (.int u3), .val (.int u5), .val (.int u7), .val (.int u9), .val (.int u11), .val (.int u13), .val (.int u15), .val (.int u17), .val (.int u19), .val (.int v26_t0), .val (.int v32_t0), .val (.int v38_t0), .val (.int v44_t0), .val (.int v50_t0), .val (.int v56_t0), .val (.int v62_t0), .val (.int u63), .val (.ref b65), .val (.ref b71), .unset] [(.int u9), (.ref b71)])) rfl (by rw [hml]; rfl) (Steps.refl _) (argsL := [(.int u9)]) (rest := []) (lenOf pd_12 rfl) rfl (by show 2 * 0 + _ ≤ _; exact Nat.le_of_eq rfl) (hb hby at_303) (fun _ _ => ⟨rfl, e92, (by decide : 5 + 1 ≤ _), (by decide : 107 + 48 ≤ _)⟩)
      dsimp only [Pt.U, Pt.locs, Pt.cells, Pt.slots] at X96 l96 y96 z96 st96 hQ96
      subst l96 y96 z96
      obtain ⟨ro_96, ko_96, co_96, cn_96, rfl, N96q, K96q, O96, f96_0, f96_1, f96_2, f96_3, f96_4, f96_5, f96_6, f96_7, f96_8, f96_9, f96_10, f96_11, f96_12, f96_13, f96_14, f96_15⟩ := hQ96
      have N96 := Fr.app N92 N96q
      have K96 := KK92.trans K96q (allS (Or.inr sz_b71) (allS (Or.inr sz_b65) (allS (Or.inr sz_92) all0)))
      have sg97 : ∀ target, Steps p.tables e below (T96.setTop (mkF m 306 #[.val (.int p1), .val (.int p2), .val (.int p3), .val (.int p4), .val (.int p5), .val (.int p6), .val (.int u1), .val (.int u3), .val (.int u5), .val (.int u7), .val (.int u9), .val (.int u11), .val (.int u13), .val (.int u15), .val (.int u17), .val (.int u19), .val (.int v26_t0), .val (.int v32_t0), .val (.int v38_t0), .val (.int v44_t0), .val (.int v50_t0), .val (.int v56_t0), .val (.int v62_t0), .val (.int u63), .val (.ref b65), .val (.ref b71), .unset] [])) target → Steps p.tables e below (T92.setTop (mkF m 296 #[.val (.int p1), .val (.int p2), .val (.int p3), .val (.int p4), .val (.int p5), .val (.int p6), .val (.int u1), .val (.int u3), .val (.int u5), .val (.int u7), .val (.int u9), .val (.int u11), .val (.int u13), .val (.int u15), .val (.int u17), .val (.int u19), .val (.int v26_t0), .val (.int v32_t0), .val (.int v38_t0), .val (.int v44_t0), .val (.int v50_t0), .val (.int v56_t0), .val (.int v62_t0), .val (.int u63), .val (.ref b65), .val (.ref b71), .unset] [(.int v32_t0)])) target := by
        intro target kt
        show Steps p.tables e below (T92.setTop (mkF m 296 #[.val (.int p1), .val (.int p2), .val (.int p3), .val (.int p4), .val (.int p5), .val (.int p6), .val (.int u1), .val (.int u3), .val (.int u5), .val (.int u7), .val (.int u9), .val (.int u11), .val (.int u13), .val (.int u15), .val (.int u17), .val (.int u19), .val (.int v26_t0), .val (.int v32_t0), .val (.int v38_t0), .val (.int v44_t0), .val (.int v50_t0), .val (.int v56_t0), .val (.int v62_t0), .val (.int u63), .val (.ref b65), .val (.ref b71), .unset] [(.int v32_t0)])) _
        refine XS.ifNo X92.here hx rfl (hb hby at_296) rfl ((if0 _ _).trans (feq hc94).1) ?_
        show Steps p.tables e below (T92.setTop (mkF m 299 #[.val (.int p1), .val (.int p2), .val (.int p3), .val (.int p4), .val (.int p5), .val (.int p6), .val (.int u1), .val (.int u3), .val (.int u5), .val (.int u7), .val (.int u9), .val (.int u11), .val (.int u13), .val (.int u15), .val (.int u17), .val (.int u19), .val (.int v26_t0), .val (.int v32_t0), .val (.int v38_t0), .val (.int v44_t0), .val (.int v50_t0), .val (.int v56_t0), .val (.int v62_t0), .val (.int u63), .val (.ref b65), .val (.ref b71), .unset] [])) _
        refine XS.aload X92.here hx rfl (hb hby at_299) rfl rfl ?_
        show Steps p.tables e below (T92.setTop (mkF m 301 #[.val (.int p1), .val (.int p2), .val (.int p3), .val (.int p4), .val (.int p5), .val (.int p6), .val (.int u1), .val (.int u3), .val (.int u5), .val (.int u7), .val (.int u9), .val (.int u11), .val (.int u13), .val (.int u15), .val (.int u17), .val (.int u19), .val (.int v26_t0), .val (.int v32_t0), .val (.int v38_t0), .val (.int v44_t0), .val (.int v50_t0), .val (.int v56_t0), .val (.int v62_t0), .val (.int u63), .val (.ref b65), .val (.ref b71), .unset] [(.ref b71)])) _
        refine XS.iload X92.here hx rfl (hb hby at_301) rfl ?_
        show Steps p.tables e below (T92.setTop (mkF m 303 #[.val (.int p1), .val (.int p2), .val (.int p3), .val (.int p4), .val (.int p5), .val (.int p6), .val (.int u1), .val (.int u3), .val (.int u5), .val (.int u7), .val (.int u9), .val (.int u11), .val (.int u13), .val (.int u15), .val (.int u17), .val (.int u19), .val (.int v26_t0), .val (.int v32_t0), .val (.int v38_t0), .val (.int v44_t0), .val (.int v50_t0), .val (.int v56_t0), .val (.int v62_t0), .val (.int u63), .val (.ref b65), .val (.ref b71), .unset] [(.int u9), (.ref b71)])) _
        refine st96.trans ?_
        exact kt
      exact ⟨T96, _, T96.heap, sv92, (sv92 + u1), (sn92 + own), ro_96, ko_96, co_96, cn_96, (upd fv92 (sn92 + n10) ((fv92 (sn92 + n10)) + (1 : Int64))), X96.mono (by decide) (by decide), rfl, N96, O96, ((Keep.refl h92 [b71, b65, ar92]).trans K96q (allS (Or.inl (List.mem_of_getElem? (i := 0) rfl)) (allS (Or.inl (List.mem_of_getElem? (i := 1) rfl)) (allS (Or.inl (List.mem_of_getElem? (i := 2) rfl)) all0)))), K96, f96_9, f96_10, f96_11, f96_12, f96_13, f96_14, f96_15, f96_0, f96_1, f96_2, f96_3, f96_4, (f96_5.elim (fun q => by rw [List.mem_singleton.mp q]; exact sz_92) (fun q => Nat.le_trans KK92.1 q)), (Sm.add sms_92 h_own (by have := (own_b1x rel_92 b_xn b4_own b4_nbn); omega)), f96_6, f96_7, f96_8, (own_f0up f0_92 (Nat.le_add_right _ _) (Nat.add_lt_add_left lt_n10 _)), (Or.inr ⟨hc94, rfl, rfl, rfl⟩), fun target kt => sg93 _ (sg97 _ (kt))⟩
  obtain ⟨T104, L104, h104, at104, sv104, sn104, ar104, ka104, cv104, cn104, fv104, X104, e104, N104, O104, K104, KK104, T104_rowsAt, T104_columnsAt, T104_entriesAt, T104_numbers, T104_ownValues, T104_neighbourValues, T104_whole, M104_size, M104_numbers, M104_listed, A104_r, ge_104, sz_104, sms_104, smc_104, need_104, c48_104, f0_104, rel_104, sg104⟩ : ∃ (T' : State) (L' : List Loc) (h' : Heap) (at104 : Int32) (sv104 : Int32) (sn104 : Nat) (ar104 : Addr) (ka104 : ClassId) (cv104 : Int32) (cn104 : Nat) (fv104 : Nat → Int64), Stand p l e room_1 s m #[(.int p1), (.int p2), (.int p3), (.int p4), (.int p5), (.int p6)] below meth c T' L' 7 203 ∧ T'.heap = h' ∧ Fr n0 L' ∧ Old Z n0 h' ∧ Keep h98 h' [b71, b65, ar98] ∧ Keep h0 h' [] ∧ Fld Z h' b71 "com/example/breakline/breakline/ModifierTable" "rowsAt" "I" (.int at98) ∧ Fld Z h' b71 "com/example/breakline/breakline/ModifierTable" "columnsAt" "I" (.int at104) ∧ Fld Z h' b71 "com/example/breakline/breakline/ModifierTable" "entriesAt" "I" (.int at92) ∧ Fld Z h' b71 "com/example/breakline/breakline/ModifierTable" "numbers" "Lcom/example/breakline/breakline/ModifierNumbers;" (.ref b65) ∧ Fld Z h' b71 "com/example/breakline/breakline/ModifierTable" "ownValues" "I" (.int u1) ∧ Fld Z h' b71 "com/example/breakline/breakline/ModifierTable" "neighbourValues" "I" (.int u3) ∧ Fld Z h' b71 "com/example/breakline/breakline/ModifierTable" "whole" "D" (.double (FP.l2d wv86)) ∧ Fld Z h' b65 "com/example/breakline/breakline/ModifierNumbers" "size" "I" (.int sv104) ∧ Fld Z h' b65 "com/example/breakline/breakline/ModifierNumbers" "numbers" "[D" (.ref ar104) ∧ Fld Z h' b65 "com/example/breakline/breakline/ModifierNumbers" "listed" "[I" .null ∧ Arv Z h' ar104 ka104 .double cv104 (dvs fv104) (.double (FP.l2d 0)) ∧ n0 ≤ ar104 ∧ h0.size ≤ ar104 ∧ Sm sv104 sn104 ∧ Sm cv104 cn104 ∧ sn104 ≤ cn104 ∧ cn104 ≤ 48 ∧ (∀ j, sn104 ≤ j → fv104 j = 0) ∧ ((v38_t0 = (0 : Int32) ∧ at104 = (-1 : Int32) ∧ sn104 = sn98 ∧ fv104 = fv98) ∨ (¬ v38_t0 = (0 : Int32) ∧ at104 = sv98 ∧ sn104 = sn98 + nbn ∧ fv104 = upd fv98 (sn98 + n11) (fv98 (sn98 + n11) + (1 : Int64)))) ∧ ∀ target, Steps p.tables e below (T'.setTop (mkF m 318 #[.val (.int p1), .val (.int p2), .val (.int p3), .val (.int p4), .val (.int p5), .val (.int p6), .val (.int u1), .val (.int u3), .val (.int u5), .val (.int u7), .val (.int u9), .val (.int u11), .val (.int u13), .val (.int u15), .val (.int u17), .val (.int u19), .val (.int v26_t0), .val (.int v32_t0), .val (.int v38_t0), .val (.int v44_t0), .val (.int v50_t0), .val (.int v56_t0), .val (.int v62_t0), .val (.int u63), .val (.ref b65), .val (.ref b71), .unset] [])) target → Steps p.tables e below (T98.setTop (mkF m 306 #[.val (.int p1), .val (.int p2), .val (.int p3), .val (.int p4), .val (.int p5), .val (.int p6), .val (.int u1), .val (.int u3), .val (.int u5), .val (.int u7), .val (.int u9), .val (.int u11), .val (.int u13), .val (.int u15), .val (.int u17), .val (.int u19), .val (.int v26_t0), .val (.int v32_t0), .val (.int v38_t0), .val (.int v44_t0), .val (.int v50_t0), .val (.int v56_t0), .val (.int v62_t0), .val (.int u63), .val (.ref b65), .val (.ref b71), .unset] [])) target := by
    have sg99 : ∀ target, Steps p.tables e below (T98.setTop (mkF m 308 #[.val (.int p1), .val (.int p2), .val (.int p3), .val (.int p4), .val (.int p5), .val (.int p6), .val (.int u1), .val (.int u3), .val (.int u5), .val (.int u7), .val (.int u9), .val (.int u11), .val (.int u13), .val (.int u15), .val (.int u17), .val (.int u19), .val (.int v26_t0), .val (.int v32_t0), .val (.int v38_t0), .val (.int v44_t0), .val (.int v50_t0), .val (.int v56_t0), .val (.int v62_t0), .val (.int u63), .val (.ref b65), .val (.ref b71), .unset] [(.int v38_t0)])) target → Steps p.tables e below (T98.setTop (mkF m 306 #[.val (.int p1), .val (.int p2), .val (.int p3), .val (.int p4), .val (.int p5), .val (.int p6), .val (.int u1), .val (.int u3), .val (.int u5), .val (.int u7), .val (.int u9), .val (.int u11), .val (.int u13), .val (.int u15), .val (.int u17), .val (.int u19), .val (.int v26_t0), .val (.int v32_t0), .val (.int v38_t0), .val (.int v44_t0), .val (.int v50_t0), .val (.int v56_t0), .val (.int v62_t0), .val (.int u63), .val (.ref b65), .val (.ref b71), .unset] [])) target := by
      intro target kt
      show Steps p.tables e below (T98.setTop (mkF m 306 #[.val (.int p1), .val (.int p2), .val (.int p3), .val (.int p4), .val (.int p5), .val (.int p6), .val (.int u1), .val (.int u3), .val (.int u5), .val (.int u7), .val (.int u9), .val (.int u11), .val (.int u13), .val (.int u15), .val (.int u17), .val (.int u19), .val (.int v26_t0), .val (.int v32_t0), .val (.int v38_t0), .val (.int v44_t0), .val (.int v50_t0), .val (.int v56_t0), .val (.int v62_t0), .val (.int u63), .val (.ref b65), .val (.ref b71), .unset] [])) _
      refine XS.iload X98.here hx rfl (hb hby at_306) rfl ?_
      exact kt
    by_cases hc100 : v38_t0 = (0 : Int32)
    · have sg101 : ∀ target, Steps p.tables e below (T98.setTop (mkF m 318 #[.val (.int p1), .val (.int p2), .val (.int p3), .val (.int p4), .val (.int p5), .val (.int p6), .val (.int u1), .val (.int u3), .val (.int u5), .val (.int u7), .val (.int u9), .val (.int u11), .val (.int u13), .val (.int u15), .val (.int u17), .val (.int u19), .val (.int v26_t0), .val (.int v32_t0), .val (.int v38_t0), .val (.int v44_t0), .val (.int v50_t0), .val (.int v56_t0), .val (.int v62_t0), .val (.int u63), .val (.ref b65), .val (.ref b71), .unset] [])) target → Steps p.tables e below (T98.setTop (mkF m 308 #[.val (.int p1), .val (.int p2), .val (.int p3), .val (.int p4), .val (.int p5), .val (.int p6), .val (.int u1), .val (.int u3), .val (.int u5), .val (.int u7), .val (.int u9), .val (.int u11), .val (.int u13), .val (.int u15), .val (.int u17), .val (.int u19), .val (.int v26_t0), .val (.int v32_t0), .val (.int v38_t0), .val (.int v44_t0), .val (.int v50_t0), .val (.int v56_t0), .val (.int v62_t0), .val (.int u63), .val (.ref b65), .val (.ref b71), .unset] [(.int v38_t0)])) target := by
        intro target kt
        show Steps p.tables e below (T98.setTop (mkF m 308 #[.val (.int p1), .val (.int p2), .val (.int p3), .val (.int p4), .val (.int p5), .val (.int p6), .val (.int u1), .val (.int u3), .val (.int u5), .val (.int u7), .val (.int u9), .val (.int u11), .val (.int u13), .val (.int u15), .val (.int u17), .val (.int u19), .val (.int v26_t0), .val (.int v32_t0), .val (.int v38_t0), .val (.int v44_t0), .val (.int v50_t0), .val (.int v56_t0), .val (.int v62_t0), .val (.int u63), .val (.ref b65), .val (.ref b71), .unset] [(.int v38_t0)])) _
        refine XS.ifYes X98.here hx rfl (pc0 := 308) (pc' := 318) rfl (hb hby at_308) rfl ((if0 _ _).trans (teq hc100).1) (by decide) (by decide) ?_
        exact kt
      exact ⟨T98, _, h98, (-1 : Int32), sv98, sn98, ar98, ka98, cv98, cn98, fv98, X98.mono (by decide) (by decide), e98, N98, O98, (Keep.refl h98 [b71, b65, ar98]), KK98, T98_rowsAt, T98_columnsAt, T98_entriesAt, T98_numbers, T98_ownValues, T98_neighbourValues, T98_whole, M98_size, M98_numbers, M98_listed, A98_r, ge_98, sz_98, sms_98, smc_98, need_98, c48_98, f0_98, (Or.inl ⟨hc100, rfl, rfl, rfl⟩), fun target kt => sg99 _ (sg101 _ (kt))⟩
    · obtain ⟨cq102, kq102, q102a, q102b, q102c⟩ := isOf hZ e98 (((((A71.keep K73q).keep K80).keep K86).keep K92).keep K98)
      obtain ⟨_, _, ⟨T102, L102, k102, n102⟩, -, X102, ⟨Lc102, hQ102, l102, y102, z102⟩, st102⟩ := X98.virtualBack hx (y := (⟨"com/example/breakline/breakline/ModifierTable", "raiseColumn", "(I)V"⟩ : MethodName)) (z := (⟨"com/example/breakline/breakline/ModifierTable", "raiseColumn", "(I)V"⟩ : MethodName)) hown (mvT hZ (tw hw 117 rfl)) (mvT hZ (tw hw 118 rfl)) (notFace_of_selects (args := #[]) (mvT hZ (tw hw 120 rfl))) (mvT hZ (tw hw 120 rfl)) (mvT hZ (tw hw 119 rfl)) (by decide) (backOf (W := 0) (rm20 l Z a0 hw [] b71 u11 at98 at92 b65 u1 u3 wv86 sv98 sn98 ar98 ka98 cv98 cn98 fv98 n11 nbn h98 n0 O98 (((((A71.keep K73q).keep K80).keep K86).keep K92).keep K98) T98_rowsAt T98_columnsAt T98_entriesAt T98_numbers T98_ownValues T98_neighbourValues T98_whole ge_b71 ge_b65 ((((((((A65.keep K67q).keep K70q).ext E71).keep K73q).keep K80).keep K86).keep K92).keep K98) M98_size M98_numbers M98_listed A98_r ge_98 sms_98 smc_98 need_98 c48_98 f0_98 h_n11 h_nbn lt_n11 (own_b2x rel_92 rel_98 b_xn b4_own b4_nbn)) hZ (tw hw 121 rfl) (tw hw 46 rfl) (by decide) (by decide)) q102a q102c (g := (mkF m 315 #[.val (.int p1), .val (.int p2), .val (.int p3), .val (.int p4), .val (.int p5), .val (.int p6), .val (.int u1), .val (.int u3), .val (.int u5), .val (.int u7), .val (.int u9), .val (.int u11), .val (.int u13), .val (.int u15), .val (.int u17), .val (.int u19), .val (.int v26_t0), .val (.int v32_t0), .val (.int v38_t0), .val (.int v44_t0), .val (.int v50_t0), .val (.int v56_t0), .val (.int v62_t0), .val (.int u63), .val (.ref b65), .val (.ref b71), .unset] [(.int u11), (.ref b71)])) rfl (by rw [hml]; rfl) (Steps.refl _) (argsL := [(.int u11)]) (rest := []) (lenOf pd_12 rfl) rfl (by show 2 * 0 + _ ≤ _; exact Nat.le_of_eq rfl) (hb hby at_315) (fun _ _ => ⟨rfl, e98, (by decide : 6 + 1 ≤ _), (by decide : 155 + 48 ≤ _)⟩)
      dsimp only [Pt.U, Pt.locs, Pt.cells, Pt.slots] at X102 l102 y102 z102 st102 hQ102
      subst l102 y102 z102
      obtain ⟨ro_102, ko_102, co_102, cn_102, rfl, N102q, K102q, O102, f102_0, f102_1, f102_2, f102_3, f102_4, f102_5, f102_6, f102_7, f102_8, f102_9, f102_10, f102_11, f102_12, f102_13, f102_14, f102_15⟩ := hQ102
      have N102 := Fr.app N98 N102q
      have K102 := KK98.trans K102q (allS (Or.inr sz_b71) (allS (Or.inr sz_b65) (allS (Or.inr sz_98) all0)))
      have sg103 : ∀ target, Steps p.tables e below (T102.setTop (mkF m 318 #[.val (.int p1), .val (.int p2), .val (.int p3), .val (.int p4), .val (.int p5), .val (.int p6), .val (.int u1), .val (.int u3), .val (.int u5), .val (.int u7), .val (.int u9), .val (.int u11), .val (.int u13), .val (.int u15), .val (.int u17), .val (.int u19), .val (.int v26_t0), .val (.int v32_t0), .val (.int v38_t0), .val (.int v44_t0), .val (.int v50_t0), .val (.int v56_t0), .val (.int v62_t0), .val (.int u63), .val (.ref b65), .val (.ref b71), .unset] [])) target → Steps p.tables e below (T98.setTop (mkF m 308 #[.val (.int p1), .val (.int p2), .val (.int p3), .val (.int p4), .val (.int p5), .val (.int p6), .val (.int u1), .val (.int u3), .val (.int u5), .val (.int u7), .val (.int u9), .val (.int u11), .val (.int u13), .val (.int u15), .val (.int u17), .val (.int u19), .val (.int v26_t0), .val (.int v32_t0), .val (.int v38_t0), .val (.int v44_t0), .val (.int v50_t0), .val (.int v56_t0), .val (.int v62_t0), .val (.int u63), .val (.ref b65), .val (.ref b71), .unset] [(.int v38_t0)])) target := by
        intro target kt
        show Steps p.tables e below (T98.setTop (mkF m 308 #[.val (.int p1), .val (.int p2), .val (.int p3), .val (.int p4), .val (.int p5), .val (.int p6), .val (.int u1), .val (.int u3), .val (.int u5), .val (.int u7), .val (.int u9), .val (.int u11), .val (.int u13), .val (.int u15), .val (.int u17), .val (.int u19), .val (.int v26_t0), .val (.int v32_t0), .val (.int v38_t0), .val (.int v44_t0), .val (.int v50_t0), .val (.int v56_t0), .val (.int v62_t0), .val (.int u63), .val (.ref b65), .val (.ref b71), .unset] [(.int v38_t0)])) _
        refine XS.ifNo X98.here hx rfl (hb hby at_308) rfl ((if0 _ _).trans (feq hc100).1) ?_
        show Steps p.tables e below (T98.setTop (mkF m 311 #[.val (.int p1), .val (.int p2), .val (.int p3), .val (.int p4), .val (.int p5), .val (.int p6), .val (.int u1), .val (.int u3), .val (.int u5), .val (.int u7), .val (.int u9), .val (.int u11), .val (.int u13), .val (.int u15), .val (.int u17), .val (.int u19), .val (.int v26_t0), .val (.int v32_t0), .val (.int v38_t0), .val (.int v44_t0), .val (.int v50_t0), .val (.int v56_t0), .val (.int v62_t0), .val (.int u63), .val (.ref b65), .val (.ref b71), .unset] [])) _
        refine XS.aload X98.here hx rfl (hb hby at_311) rfl rfl ?_
        show Steps p.tables e below (T98.setTop (mkF m 313 #[.val (.int p1), .val (.int p2), .val (.int p3), .val (.int p4), .val (.int p5), .val (.int p6), .val (.int u1), .val (.int u3), .val (.int u5), .val (.int u7), .val (.int u9), .val (.int u11), .val (.int u13), .val (.int u15), .val (.int u17), .val (.int u19), .val (.int v26_t0), .val (.int v32_t0), .val (.int v38_t0), .val (.int v44_t0), .val (.int v50_t0), .val (.int v56_t0), .val (.int v62_t0), .val (.int u63), .val (.ref b65), .val (.ref b71), .unset] [(.ref b71)])) _
        refine XS.iload X98.here hx rfl (hb hby at_313) rfl ?_
        show Steps p.tables e below (T98.setTop (mkF m 315 #[.val (.int p1), .val (.int p2), .val (.int p3), .val (.int p4), .val (.int p5), .val (.int p6), .val (.int u1), .val (.int u3), .val (.int u5), .val (.int u7), .val (.int u9), .val (.int u11), .val (.int u13), .val (.int u15), .val (.int u17), .val (.int u19), .val (.int v26_t0), .val (.int v32_t0), .val (.int v38_t0), .val (.int v44_t0), .val (.int v50_t0), .val (.int v56_t0), .val (.int v62_t0), .val (.int u63), .val (.ref b65), .val (.ref b71), .unset] [(.int u11), (.ref b71)])) _
        refine st102.trans ?_
        exact kt
      exact ⟨T102, _, T102.heap, sv98, (sv98 + u3), (sn98 + nbn), ro_102, ko_102, co_102, cn_102, (upd fv98 (sn98 + n11) ((fv98 (sn98 + n11)) + (1 : Int64))), X102.mono (by decide) (by decide), rfl, N102, O102, ((Keep.refl h98 [b71, b65, ar98]).trans K102q (allS (Or.inl (List.mem_of_getElem? (i := 0) rfl)) (allS (Or.inl (List.mem_of_getElem? (i := 1) rfl)) (allS (Or.inl (List.mem_of_getElem? (i := 2) rfl)) all0)))), K102, f102_9, f102_10, f102_11, f102_12, f102_13, f102_14, f102_15, f102_0, f102_1, f102_2, f102_3, f102_4, (f102_5.elim (fun q => by rw [List.mem_singleton.mp q]; exact sz_98) (fun q => Nat.le_trans KK98.1 q)), (Sm.add sms_98 h_nbn (by have := (own_b2x rel_92 rel_98 b_xn b4_own b4_nbn); omega)), f102_6, f102_7, f102_8, (own_f0up f0_98 (Nat.le_add_right _ _) (Nat.add_lt_add_left lt_n11 _)), (Or.inr ⟨hc100, rfl, rfl, rfl⟩), fun target kt => sg99 _ (sg103 _ (kt))⟩
  obtain ⟨T110, L110, h110, at110, sv110, sn110, ar110, ka110, cv110, cn110, fv110, X110, e110, N110, O110, K110, KK110, T110_rowsAt, T110_columnsAt, T110_entriesAt, T110_numbers, T110_ownValues, T110_neighbourValues, T110_whole, M110_size, M110_numbers, M110_listed, A110_r, ge_110, sz_110, sms_110, smc_110, need_110, c48_110, f0_110, rel_110, sg110⟩ : ∃ (T' : State) (L' : List Loc) (h' : Heap) (at110 : Int32) (sv110 : Int32) (sn110 : Nat) (ar110 : Addr) (ka110 : ClassId) (cv110 : Int32) (cn110 : Nat) (fv110 : Nat → Int64), Stand p l e room_1 s m #[(.int p1), (.int p2), (.int p3), (.int p4), (.int p5), (.int p6)] below meth c T' L' 8 251 ∧ T'.heap = h' ∧ Fr n0 L' ∧ Old Z n0 h' ∧ Keep h104 h' [b71, b65, ar104] ∧ Keep h0 h' [] ∧ Fld Z h' b71 "com/example/breakline/breakline/ModifierTable" "rowsAt" "I" (.int at98) ∧ Fld Z h' b71 "com/example/breakline/breakline/ModifierTable" "columnsAt" "I" (.int at104) ∧ Fld Z h' b71 "com/example/breakline/breakline/ModifierTable" "entriesAt" "I" (.int at110) ∧ Fld Z h' b71 "com/example/breakline/breakline/ModifierTable" "numbers" "Lcom/example/breakline/breakline/ModifierNumbers;" (.ref b65) ∧ Fld Z h' b71 "com/example/breakline/breakline/ModifierTable" "ownValues" "I" (.int u1) ∧ Fld Z h' b71 "com/example/breakline/breakline/ModifierTable" "neighbourValues" "I" (.int u3) ∧ Fld Z h' b71 "com/example/breakline/breakline/ModifierTable" "whole" "D" (.double (FP.l2d wv86)) ∧ Fld Z h' b65 "com/example/breakline/breakline/ModifierNumbers" "size" "I" (.int sv110) ∧ Fld Z h' b65 "com/example/breakline/breakline/ModifierNumbers" "numbers" "[D" (.ref ar110) ∧ Fld Z h' b65 "com/example/breakline/breakline/ModifierNumbers" "listed" "[I" .null ∧ Arv Z h' ar110 ka110 .double cv110 (dvs fv110) (.double (FP.l2d 0)) ∧ n0 ≤ ar110 ∧ h0.size ≤ ar110 ∧ Sm sv110 sn110 ∧ Sm cv110 cn110 ∧ sn110 ≤ cn110 ∧ cn110 ≤ 48 ∧ (∀ j, sn110 ≤ j → fv110 j = 0) ∧ ((¬ v56_t0 = (0 : Int32) ∧ at110 = at92 ∧ sn110 = sn104 ∧ fv110 = fv104) ∨ (v56_t0 = (0 : Int32) ∧ ER v44_t0 v50_t0 at110 sv104 sn104 sn110 (own * nbn) (sn104 + (n12 * nbn) + n13) (sn104 + (n14 * nbn) + n15) fv104 fv110)) ∧ ∀ target, Steps p.tables e below (T'.setTop (mkF m 340 #[.val (.int p1), .val (.int p2), .val (.int p3), .val (.int p4), .val (.int p5), .val (.int p6), .val (.int u1), .val (.int u3), .val (.int u5), .val (.int u7), .val (.int u9), .val (.int u11), .val (.int u13), .val (.int u15), .val (.int u17), .val (.int u19), .val (.int v26_t0), .val (.int v32_t0), .val (.int v38_t0), .val (.int v44_t0), .val (.int v50_t0), .val (.int v56_t0), .val (.int v62_t0), .val (.int u63), .val (.ref b65), .val (.ref b71), .unset] [])) target → Steps p.tables e below (T104.setTop (mkF m 318 #[.val (.int p1), .val (.int p2), .val (.int p3), .val (.int p4), .val (.int p5), .val (.int p6), .val (.int u1), .val (.int u3), .val (.int u5), .val (.int u7), .val (.int u9), .val (.int u11), .val (.int u13), .val (.int u15), .val (.int u17), .val (.int u19), .val (.int v26_t0), .val (.int v32_t0), .val (.int v38_t0), .val (.int v44_t0), .val (.int v50_t0), .val (.int v56_t0), .val (.int v62_t0), .val (.int u63), .val (.ref b65), .val (.ref b71), .unset] [])) target := by
    have sg105 : ∀ target, Steps p.tables e below (T104.setTop (mkF m 320 #[.val (.int p1), .val (.int p2), .val (.int p3), .val (.int p4), .val (.int p5), .val (.int p6), .val (.int u1), .val (.int u3), .val (.int u5), .val (.int u7), .val (.int u9), .val (.int u11), .val (.int u13), .val (.int u15), .val (.int u17), .val (.int u19), .val (.int v26_t0), .val (.int v32_t0), .val (.int v38_t0), .val (.int v44_t0), .val (.int v50_t0), .val (.int v56_t0), .val (.int v62_t0), .val (.int u63), .val (.ref b65), .val (.ref b71), .unset] [(.int v56_t0)])) target → Steps p.tables e below (T104.setTop (mkF m 318 #[.val (.int p1), .val (.int p2), .val (.int p3), .val (.int p4), .val (.int p5), .val (.int p6), .val (.int u1), .val (.int u3), .val (.int u5), .val (.int u7), .val (.int u9), .val (.int u11), .val (.int u13), .val (.int u15), .val (.int u17), .val (.int u19), .val (.int v26_t0), .val (.int v32_t0), .val (.int v38_t0), .val (.int v44_t0), .val (.int v50_t0), .val (.int v56_t0), .val (.int v62_t0), .val (.int u63), .val (.ref b65), .val (.ref b71), .unset] [])) target := by
      intro target kt
      show Steps p.tables e below (T104.setTop (mkF m 318 #[.val (.int p1), .val (.int p2), .val (.int p3), .val (.int p4), .val (.int p5), .val (.int p6), .val (.int u1), .val (.int u3), .val (.int u5), .val (.int u7), .val (.int u9), .val (.int u11), .val (.int u13), .val (.int u15), .val (.int u17), .val (.int u19), .val (.int v26_t0), .val (.int v32_t0), .val (.int v38_t0), .val (.int v44_t0), .val (.int v50_t0), .val (.int v56_t0), .val (.int v62_t0), .val (.int u63), .val (.ref b65), .val (.ref b71), .unset] [])) _
      refine XS.iload X104.here hx rfl (hb hby at_318) rfl ?_
      exact kt
    by_cases hc106 : v56_t0 = (0 : Int32)
    · have hem : at92 = (-1 : Int32) := rel_92.elim (fun q => q.2.1) (fun q => absurd hc106 q.1)
      have Fem : Fld Z h104 b71 "com/example/breakline/breakline/ModifierTable" "entriesAt" "I" (.int (-1 : Int32)) := hem ▸ T104_entriesAt
      obtain ⟨_, _, ⟨T107, L107, k107, n107⟩, -, X107, ⟨Lc107, hQ107, l107, y107, z107⟩, st107⟩ := Jvm.LawKit.callS X104 hx (y := (⟨"com/example/breakline/breakline/ModifierTableGetPinLaw", "entries", "(Lcom/example/breakline/breakline/ModifierTable;ZZIIII)V"⟩ : MethodName)) hown (mvT hZ (tw hw 83 rfl)) (mvT hZ (tw hw 84 rfl)) (mvT hZ (tw hw 85 rfl)) (mvT hZ (tw hw 86 rfl)) (by decide) (backOf (W := 0) (rm13 l Z a0 hw [] b71 v44_t0 v50_t0 u13 u15 u17 u19 at98 at104 b65 u1 u3 wv86 sv104 sn104 ar104 ka104 cv104 cn104 fv104 own nbn n12 n13 n14 n15 h104 n0 O104 ((((((A71.keep K73q).keep K80).keep K86).keep K92).keep K98).keep K104) T104_rowsAt T104_columnsAt Fem T104_numbers T104_ownValues T104_neighbourValues T104_whole ge_b71 ge_b65 (((((((((A65.keep K67q).keep K70q).ext E71).keep K73q).keep K80).keep K86).keep K92).keep K98).keep K104) M104_size M104_numbers M104_listed A104_r ge_104 sms_104 smc_104 need_104 c48_104 f0_104 h_own h_nbn h_n12 h_n13 h_n14 h_n15 lt_n12 lt_n13 lt_n14 lt_n15 b4_own b4_nbn (own_b3x rel_92 rel_98 rel_104 b_xn b4_own b4_nbn hc106)) hZ (tw hw 86 rfl) (tw hw 85 rfl) (by decide) (by decide)) (g := (mkF m 337 #[.val (.int p1), .val (.int p2), .val (.int p3), .val (.int p4), .val (.int p5), .val (.int p6), .val (.int u1), .val (.int u3), .val (.int u5), .val (.int u7), .val (.int u9), .val (.int u11), .val (.int u13), .val (.int u15), .val (.int u17), .val (.int u19), .val (.int v26_t0), .val (.int v32_t0), .val (.int v38_t0), .val (.int v44_t0), .val (.int v50_t0), .val (.int v56_t0), .val (.int v62_t0), .val (.int u63), .val (.ref b65), .val (.ref b71), .unset] [(.int u19), (.int u17), (.int u15), (.int u13), (.int v50_t0), (.int v44_t0), (.ref b71)])) rfl (by rw [hml]; rfl) (argsL := [(.ref b71), (.int v44_t0), (.int v50_t0), (.int u13), (.int u15), (.int u17), (.int u19)]) (rest := []) (lenOf pd_11 rfl) rfl (by show 2 * 0 + _ ≤ _; exact Nat.le_of_eq rfl) (hb hby at_337) (fun _ _ => ⟨rfl, e104, (by decide : 7 + 1 ≤ _), (by decide : 203 + 48 ≤ _)⟩)
      dsimp only [Pt.U, Pt.locs, Pt.cells, Pt.slots] at X107 l107 y107 z107 st107 hQ107
      subst l107 y107 z107
      obtain ⟨eo_107, so_107, sno_107, ro_107, ko_107, co_107, cn_107, fo_107, rfl, N107q, K107q, O107, f107_0, f107_1, f107_2, f107_3, f107_4, f107_5, f107_6, f107_7, f107_8, f107_9, f107_10, f107_11, f107_12, f107_13, f107_14, f107_15, f107_16, f107_17, f107_18⟩ := hQ107
      have N107 := Fr.app N104 N107q
      have K107 := KK104.trans K107q (allS (Or.inr sz_b71) (allS (Or.inr sz_b65) (allS (Or.inr sz_104) all0)))
      have sg108 : ∀ target, Steps p.tables e below (T107.setTop (mkF m 340 #[.val (.int p1), .val (.int p2), .val (.int p3), .val (.int p4), .val (.int p5), .val (.int p6), .val (.int u1), .val (.int u3), .val (.int u5), .val (.int u7), .val (.int u9), .val (.int u11), .val (.int u13), .val (.int u15), .val (.int u17), .val (.int u19), .val (.int v26_t0), .val (.int v32_t0), .val (.int v38_t0), .val (.int v44_t0), .val (.int v50_t0), .val (.int v56_t0), .val (.int v62_t0), .val (.int u63), .val (.ref b65), .val (.ref b71), .unset] [])) target → Steps p.tables e below (T104.setTop (mkF m 320 #[.val (.int p1), .val (.int p2), .val (.int p3), .val (.int p4), .val (.int p5), .val (.int p6), .val (.int u1), .val (.int u3), .val (.int u5), .val (.int u7), .val (.int u9), .val (.int u11), .val (.int u13), .val (.int u15), .val (.int u17), .val (.int u19), .val (.int v26_t0), .val (.int v32_t0), .val (.int v38_t0), .val (.int v44_t0), .val (.int v50_t0), .val (.int v56_t0), .val (.int v62_t0), .val (.int u63), .val (.ref b65), .val (.ref b71), .unset] [(.int v56_t0)])) target := by
        intro target kt
        show Steps p.tables e below (T104.setTop (mkF m 320 #[.val (.int p1), .val (.int p2), .val (.int p3), .val (.int p4), .val (.int p5), .val (.int p6), .val (.int u1), .val (.int u3), .val (.int u5), .val (.int u7), .val (.int u9), .val (.int u11), .val (.int u13), .val (.int u15), .val (.int u17), .val (.int u19), .val (.int v26_t0), .val (.int v32_t0), .val (.int v38_t0), .val (.int v44_t0), .val (.int v50_t0), .val (.int v56_t0), .val (.int v62_t0), .val (.int u63), .val (.ref b65), .val (.ref b71), .unset] [(.int v56_t0)])) _
        refine XS.ifNo X104.here hx rfl (hb hby at_320) rfl ((if0 _ _).trans (teq hc106).2) ?_
        show Steps p.tables e below (T104.setTop (mkF m 323 #[.val (.int p1), .val (.int p2), .val (.int p3), .val (.int p4), .val (.int p5), .val (.int p6), .val (.int u1), .val (.int u3), .val (.int u5), .val (.int u7), .val (.int u9), .val (.int u11), .val (.int u13), .val (.int u15), .val (.int u17), .val (.int u19), .val (.int v26_t0), .val (.int v32_t0), .val (.int v38_t0), .val (.int v44_t0), .val (.int v50_t0), .val (.int v56_t0), .val (.int v62_t0), .val (.int u63), .val (.ref b65), .val (.ref b71), .unset] [])) _
        refine XS.aload X104.here hx rfl (hb hby at_323) rfl rfl ?_
        show Steps p.tables e below (T104.setTop (mkF m 325 #[.val (.int p1), .val (.int p2), .val (.int p3), .val (.int p4), .val (.int p5), .val (.int p6), .val (.int u1), .val (.int u3), .val (.int u5), .val (.int u7), .val (.int u9), .val (.int u11), .val (.int u13), .val (.int u15), .val (.int u17), .val (.int u19), .val (.int v26_t0), .val (.int v32_t0), .val (.int v38_t0), .val (.int v44_t0), .val (.int v50_t0), .val (.int v56_t0), .val (.int v62_t0), .val (.int u63), .val (.ref b65), .val (.ref b71), .unset] [(.ref b71)])) _
        refine XS.iload X104.here hx rfl (hb hby at_325) rfl ?_
        show Steps p.tables e below (T104.setTop (mkF m 327 #[.val (.int p1), .val (.int p2), .val (.int p3), .val (.int p4), .val (.int p5), .val (.int p6), .val (.int u1), .val (.int u3), .val (.int u5), .val (.int u7), .val (.int u9), .val (.int u11), .val (.int u13), .val (.int u15), .val (.int u17), .val (.int u19), .val (.int v26_t0), .val (.int v32_t0), .val (.int v38_t0), .val (.int v44_t0), .val (.int v50_t0), .val (.int v56_t0), .val (.int v62_t0), .val (.int u63), .val (.ref b65), .val (.ref b71), .unset] [(.int v44_t0), (.ref b71)])) _
        refine XS.iload X104.here hx rfl (hb hby at_327) rfl ?_
        show Steps p.tables e below (T104.setTop (mkF m 329 #[.val (.int p1), .val (.int p2), .val (.int p3), .val (.int p4), .val (.int p5), .val (.int p6), .val (.int u1), .val (.int u3), .val (.int u5), .val (.int u7), .val (.int u9), .val (.int u11), .val (.int u13), .val (.int u15), .val (.int u17), .val (.int u19), .val (.int v26_t0), .val (.int v32_t0), .val (.int v38_t0), .val (.int v44_t0), .val (.int v50_t0), .val (.int v56_t0), .val (.int v62_t0), .val (.int u63), .val (.ref b65), .val (.ref b71), .unset] [(.int v50_t0), (.int v44_t0), (.ref b71)])) _
        refine XS.iload X104.here hx rfl (hb hby at_329) rfl ?_
        show Steps p.tables e below (T104.setTop (mkF m 331 #[.val (.int p1), .val (.int p2), .val (.int p3), .val (.int p4), .val (.int p5), .val (.int p6), .val (.int u1), .val (.int u3), .val (.int u5), .val (.int u7), .val (.int u9), .val (.int u11), .val (.int u13), .val (.int u15), .val (.int u17), .val (.int u19), .val (.int v26_t0), .val (.int v32_t0), .val (.int v38_t0), .val (.int v44_t0), .val (.int v50_t0), .val (.int v56_t0), .val (.int v62_t0), .val (.int u63), .val (.ref b65), .val (.ref b71), .unset] [(.int u13), (.int v50_t0), (.int v44_t0), (.ref b71)])) _
        refine XS.iload X104.here hx rfl (hb hby at_331) rfl ?_
        show Steps p.tables e below (T104.setTop (mkF m 333 #[.val (.int p1), .val (.int p2), .val (.int p3), .val (.int p4), .val (.int p5), .val (.int p6), .val (.int u1), .val (.int u3), .val (.int u5), .val (.int u7), .val (.int u9), .val (.int u11), .val (.int u13), .val (.int u15), .val (.int u17), .val (.int u19), .val (.int v26_t0), .val (.int v32_t0), .val (.int v38_t0), .val (.int v44_t0), .val (.int v50_t0), .val (.int v56_t0), .val (.int v62_t0), .val (.int u63), .val (.ref b65), .val (.ref b71), .unset] [(.int u15), (.int u13), (.int v50_t0), (.int v44_t0), (.ref b71)])) _
        refine XS.iload X104.here hx rfl (hb hby at_333) rfl ?_
        show Steps p.tables e below (T104.setTop (mkF m 335 #[.val (.int p1), .val (.int p2), .val (.int p3), .val (.int p4), .val (.int p5), .val (.int p6), .val (.int u1), .val (.int u3), .val (.int u5), .val (.int u7), .val (.int u9), .val (.int u11), .val (.int u13), .val (.int u15), .val (.int u17), .val (.int u19), .val (.int v26_t0), .val (.int v32_t0), .val (.int v38_t0), .val (.int v44_t0), .val (.int v50_t0), .val (.int v56_t0), .val (.int v62_t0), .val (.int u63), .val (.ref b65), .val (.ref b71), .unset] [(.int u17), (.int u15), (.int u13), (.int v50_t0), (.int v44_t0), (.ref b71)])) _
        refine XS.iload X104.here hx rfl (hb hby at_335) rfl ?_
        show Steps p.tables e below (T104.setTop (mkF m 337 #[.val (.int p1), .val (.int p2), .val (.int p3), .val (.int p4), .val (.int p5), .val (.int p6), .val (.int u1), .val (.int u3), .val (.int u5), .val (.int u7), .val (.int u9), .val (.int u11), .val (.int u13), .val (.int u15), .val (.int u17), .val (.int u19), .val (.int v26_t0), .val (.int v32_t0), .val (.int v38_t0), .val (.int v44_t0), .val (.int v50_t0), .val (.int v56_t0), .val (.int v62_t0), .val (.int u63), .val (.ref b65), .val (.ref b71), .unset] [(.int u19), (.int u17), (.int u15), (.int u13), (.int v50_t0), (.int v44_t0), (.ref b71)])) _
        refine st107 _ ?_
        exact kt
      exact ⟨T107, _, T107.heap, eo_107, so_107, sno_107, ro_107, ko_107, co_107, cn_107, fo_107, X107.mono (by decide) (by decide), rfl, N107, O107, ((Keep.refl h104 [b71, b65, ar104]).trans K107q (allS (Or.inl (List.mem_of_getElem? (i := 0) rfl)) (allS (Or.inl (List.mem_of_getElem? (i := 1) rfl)) (allS (Or.inl (List.mem_of_getElem? (i := 2) rfl)) all0)))), K107, f107_9, f107_10, f107_11, f107_12, f107_13, f107_14, f107_15, f107_0, f107_1, f107_2, f107_3, f107_4, (f107_5.elim (fun q => by rw [List.mem_singleton.mp q]; exact sz_104) (fun q => Nat.le_trans KK104.1 q)), f107_16, f107_6, f107_7, f107_8, f107_17, (Or.inr ⟨hc106, f107_18⟩), fun target kt => sg105 _ (sg108 _ (kt))⟩
    · have sg109 : ∀ target, Steps p.tables e below (T104.setTop (mkF m 340 #[.val (.int p1), .val (.int p2), .val (.int p3), .val (.int p4), .val (.int p5), .val (.int p6), .val (.int u1), .val (.int u3), .val (.int u5), .val (.int u7), .val (.int u9), .val (.int u11), .val (.int u13), .val (.int u15), .val (.int u17), .val (.int u19), .val (.int v26_t0), .val (.int v32_t0), .val (.int v38_t0), .val (.int v44_t0), .val (.int v50_t0), .val (.int v56_t0), .val (.int v62_t0), .val (.int u63), .val (.ref b65), .val (.ref b71), .unset] [])) target → Steps p.tables e below (T104.setTop (mkF m 320 #[.val (.int p1), .val (.int p2), .val (.int p3), .val (.int p4), .val (.int p5), .val (.int p6), .val (.int u1), .val (.int u3), .val (.int u5), .val (.int u7), .val (.int u9), .val (.int u11), .val (.int u13), .val (.int u15), .val (.int u17), .val (.int u19), .val (.int v26_t0), .val (.int v32_t0), .val (.int v38_t0), .val (.int v44_t0), .val (.int v50_t0), .val (.int v56_t0), .val (.int v62_t0), .val (.int u63), .val (.ref b65), .val (.ref b71), .unset] [(.int v56_t0)])) target := by
        intro target kt
        show Steps p.tables e below (T104.setTop (mkF m 320 #[.val (.int p1), .val (.int p2), .val (.int p3), .val (.int p4), .val (.int p5), .val (.int p6), .val (.int u1), .val (.int u3), .val (.int u5), .val (.int u7), .val (.int u9), .val (.int u11), .val (.int u13), .val (.int u15), .val (.int u17), .val (.int u19), .val (.int v26_t0), .val (.int v32_t0), .val (.int v38_t0), .val (.int v44_t0), .val (.int v50_t0), .val (.int v56_t0), .val (.int v62_t0), .val (.int u63), .val (.ref b65), .val (.ref b71), .unset] [(.int v56_t0)])) _
        refine XS.ifYes X104.here hx rfl (pc0 := 320) (pc' := 340) rfl (hb hby at_320) rfl ((if0 _ _).trans (feq hc106).2) (by decide) (by decide) ?_
        exact kt
      exact ⟨T104, _, h104, at92, sv104, sn104, ar104, ka104, cv104, cn104, fv104, X104.mono (by decide) (by decide), e104, N104, O104, (Keep.refl h104 [b71, b65, ar104]), KK104, T104_rowsAt, T104_columnsAt, T104_entriesAt, T104_numbers, T104_ownValues, T104_neighbourValues, T104_whole, M104_size, M104_numbers, M104_listed, A104_r, ge_104, sz_104, sms_104, smc_104, need_104, c48_104, f0_104, (Or.inl ⟨hc106, rfl, rfl, rfl⟩), fun target kt => sg105 _ (sg109 _ (kt))⟩
  obtain ⟨T115, L115, v115_t0, X115, e115, N115, hv115_t0, sg115⟩ : ∃ (T' : State) (L' : List Loc) (v115_t0 : Int32), Stand p l e room_1 s m #[(.int p1), (.int p2), (.int p3), (.int p4), (.int p5), (.int p6)] below meth c T' L' 8 251 ∧ T'.heap = h110 ∧ Fr n0 L' ∧ v115_t0 = (if v26_t0 = (0 : Int32) then (0 : Int32) else (1 : Int32)) ∧ ∀ target, Steps p.tables e below (T'.setTop (mkF m 350 #[.val (.int p1), .val (.int p2), .val (.int p3), .val (.int p4), .val (.int p5), .val (.int p6), .val (.int u1), .val (.int u3), .val (.int u5), .val (.int u7), .val (.int u9), .val (.int u11), .val (.int u13), .val (.int u15), .val (.int u17), .val (.int u19), .val (.int v26_t0), .val (.int v32_t0), .val (.int v38_t0), .val (.int v44_t0), .val (.int v50_t0), .val (.int v56_t0), .val (.int v62_t0), .val (.int u63), .val (.ref b65), .val (.ref b71), .unset] [(.int v115_t0)])) target → Steps p.tables e below (T110.setTop (mkF m 340 #[.val (.int p1), .val (.int p2), .val (.int p3), .val (.int p4), .val (.int p5), .val (.int p6), .val (.int u1), .val (.int u3), .val (.int u5), .val (.int u7), .val (.int u9), .val (.int u11), .val (.int u13), .val (.int u15), .val (.int u17), .val (.int u19), .val (.int v26_t0), .val (.int v32_t0), .val (.int v38_t0), .val (.int v44_t0), .val (.int v50_t0), .val (.int v56_t0), .val (.int v62_t0), .val (.int u63), .val (.ref b65), .val (.ref b71), .unset] [])) target := by
    have sg111 : ∀ target, Steps p.tables e below (T110.setTop (mkF m 342 #[.val (.int p1), .val (.int p2), .val (.int p3), .val (.int p4), .val (.int p5), .val (.int p6), .val (.int u1), .val (.int u3), .val (.int u5), .val (.int u7), .val (.int u9), .val (.int u11), .val (.int u13), .val (.int u15), .val (.int u17), .val (.int u19), .val (.int v26_t0), .val (.int v32_t0), .val (.int v38_t0), .val (.int v44_t0), .val (.int v50_t0), .val (.int v56_t0), .val (.int v62_t0), .val (.int u63), .val (.ref b65), .val (.ref b71), .unset] [(.int v26_t0)])) target → Steps p.tables e below (T110.setTop (mkF m 340 #[.val (.int p1), .val (.int p2), .val (.int p3), .val (.int p4), .val (.int p5), .val (.int p6), .val (.int u1), .val (.int u3), .val (.int u5), .val (.int u7), .val (.int u9), .val (.int u11), .val (.int u13), .val (.int u15), .val (.int u17), .val (.int u19), .val (.int v26_t0), .val (.int v32_t0), .val (.int v38_t0), .val (.int v44_t0), .val (.int v50_t0), .val (.int v56_t0), .val (.int v62_t0), .val (.int u63), .val (.ref b65), .val (.ref b71), .unset] [])) target := by
      intro target kt
      show Steps p.tables e below (T110.setTop (mkF m 340 #[.val (.int p1), .val (.int p2), .val (.int p3), .val (.int p4), .val (.int p5), .val (.int p6), .val (.int u1), .val (.int u3), .val (.int u5), .val (.int u7), .val (.int u9), .val (.int u11), .val (.int u13), .val (.int u15), .val (.int u17), .val (.int u19), .val (.int v26_t0), .val (.int v32_t0), .val (.int v38_t0), .val (.int v44_t0), .val (.int v50_t0), .val (.int v56_t0), .val (.int v62_t0), .val (.int u63), .val (.ref b65), .val (.ref b71), .unset] [])) _
      refine XS.iload X110.here hx rfl (hb hby at_340) rfl ?_
      exact kt
    by_cases hc112 : v26_t0 = (0 : Int32)
    · have sg113 : ∀ target, Steps p.tables e below (T110.setTop (mkF m 350 #[.val (.int p1), .val (.int p2), .val (.int p3), .val (.int p4), .val (.int p5), .val (.int p6), .val (.int u1), .val (.int u3), .val (.int u5), .val (.int u7), .val (.int u9), .val (.int u11), .val (.int u13), .val (.int u15), .val (.int u17), .val (.int u19), .val (.int v26_t0), .val (.int v32_t0), .val (.int v38_t0), .val (.int v44_t0), .val (.int v50_t0), .val (.int v56_t0), .val (.int v62_t0), .val (.int u63), .val (.ref b65), .val (.ref b71), .unset] [(.int (0 : Int32))])) target → Steps p.tables e below (T110.setTop (mkF m 342 #[.val (.int p1), .val (.int p2), .val (.int p3), .val (.int p4), .val (.int p5), .val (.int p6), .val (.int u1), .val (.int u3), .val (.int u5), .val (.int u7), .val (.int u9), .val (.int u11), .val (.int u13), .val (.int u15), .val (.int u17), .val (.int u19), .val (.int v26_t0), .val (.int v32_t0), .val (.int v38_t0), .val (.int v44_t0), .val (.int v50_t0), .val (.int v56_t0), .val (.int v62_t0), .val (.int u63), .val (.ref b65), .val (.ref b71), .unset] [(.int v26_t0)])) target := by
        intro target kt
        show Steps p.tables e below (T110.setTop (mkF m 342 #[.val (.int p1), .val (.int p2), .val (.int p3), .val (.int p4), .val (.int p5), .val (.int p6), .val (.int u1), .val (.int u3), .val (.int u5), .val (.int u7), .val (.int u9), .val (.int u11), .val (.int u13), .val (.int u15), .val (.int u17), .val (.int u19), .val (.int v26_t0), .val (.int v32_t0), .val (.int v38_t0), .val (.int v44_t0), .val (.int v50_t0), .val (.int v56_t0), .val (.int v62_t0), .val (.int u63), .val (.ref b65), .val (.ref b71), .unset] [(.int v26_t0)])) _
        refine XS.ifYes X110.here hx rfl (pc0 := 342) (pc' := 349) rfl (hb hby at_342) rfl ((if0 _ _).trans (teq hc112).1) (by decide) (by decide) ?_
        show Steps p.tables e below (T110.setTop (mkF m 349 #[.val (.int p1), .val (.int p2), .val (.int p3), .val (.int p4), .val (.int p5), .val (.int p6), .val (.int u1), .val (.int u3), .val (.int u5), .val (.int u7), .val (.int u9), .val (.int u11), .val (.int u13), .val (.int u15), .val (.int u17), .val (.int u19), .val (.int v26_t0), .val (.int v32_t0), .val (.int v38_t0), .val (.int v44_t0), .val (.int v50_t0), .val (.int v56_t0), .val (.int v62_t0), .val (.int u63), .val (.ref b65), .val (.ref b71), .unset] [])) _
        refine XS.iconst X110.here hx rfl (hb hby at_349) ?_
        exact kt
      exact ⟨T110, _, (0 : Int32), X110.mono (by decide) (by decide), e110, N110, (by rw [if_pos hc112]), fun target kt => sg111 _ (sg113 _ (kt))⟩
    · have sg114 : ∀ target, Steps p.tables e below (T110.setTop (mkF m 350 #[.val (.int p1), .val (.int p2), .val (.int p3), .val (.int p4), .val (.int p5), .val (.int p6), .val (.int u1), .val (.int u3), .val (.int u5), .val (.int u7), .val (.int u9), .val (.int u11), .val (.int u13), .val (.int u15), .val (.int u17), .val (.int u19), .val (.int v26_t0), .val (.int v32_t0), .val (.int v38_t0), .val (.int v44_t0), .val (.int v50_t0), .val (.int v56_t0), .val (.int v62_t0), .val (.int u63), .val (.ref b65), .val (.ref b71), .unset] [(.int (1 : Int32))])) target → Steps p.tables e below (T110.setTop (mkF m 342 #[.val (.int p1), .val (.int p2), .val (.int p3), .val (.int p4), .val (.int p5), .val (.int p6), .val (.int u1), .val (.int u3), .val (.int u5), .val (.int u7), .val (.int u9), .val (.int u11), .val (.int u13), .val (.int u15), .val (.int u17), .val (.int u19), .val (.int v26_t0), .val (.int v32_t0), .val (.int v38_t0), .val (.int v44_t0), .val (.int v50_t0), .val (.int v56_t0), .val (.int v62_t0), .val (.int u63), .val (.ref b65), .val (.ref b71), .unset] [(.int v26_t0)])) target := by
        intro target kt
        show Steps p.tables e below (T110.setTop (mkF m 342 #[.val (.int p1), .val (.int p2), .val (.int p3), .val (.int p4), .val (.int p5), .val (.int p6), .val (.int u1), .val (.int u3), .val (.int u5), .val (.int u7), .val (.int u9), .val (.int u11), .val (.int u13), .val (.int u15), .val (.int u17), .val (.int u19), .val (.int v26_t0), .val (.int v32_t0), .val (.int v38_t0), .val (.int v44_t0), .val (.int v50_t0), .val (.int v56_t0), .val (.int v62_t0), .val (.int u63), .val (.ref b65), .val (.ref b71), .unset] [(.int v26_t0)])) _
        refine XS.ifNo X110.here hx rfl (hb hby at_342) rfl ((if0 _ _).trans (feq hc112).1) ?_
        show Steps p.tables e below (T110.setTop (mkF m 345 #[.val (.int p1), .val (.int p2), .val (.int p3), .val (.int p4), .val (.int p5), .val (.int p6), .val (.int u1), .val (.int u3), .val (.int u5), .val (.int u7), .val (.int u9), .val (.int u11), .val (.int u13), .val (.int u15), .val (.int u17), .val (.int u19), .val (.int v26_t0), .val (.int v32_t0), .val (.int v38_t0), .val (.int v44_t0), .val (.int v50_t0), .val (.int v56_t0), .val (.int v62_t0), .val (.int u63), .val (.ref b65), .val (.ref b71), .unset] [])) _
        refine XS.iconst X110.here hx rfl (hb hby at_345) ?_
        show Steps p.tables e below (T110.setTop (mkF m 346 #[.val (.int p1), .val (.int p2), .val (.int p3), .val (.int p4), .val (.int p5), .val (.int p6), .val (.int u1), .val (.int u3), .val (.int u5), .val (.int u7), .val (.int u9), .val (.int u11), .val (.int u13), .val (.int u15), .val (.int u17), .val (.int u19), .val (.int v26_t0), .val (.int v32_t0), .val (.int v38_t0), .val (.int v44_t0), .val (.int v50_t0), .val (.int v56_t0), .val (.int v62_t0), .val (.int u63), .val (.ref b65), .val (.ref b71), .unset] [(.int (1 : Int32))])) _
        refine XS.goto X110.here hx rfl (pc0 := 346) (pc' := 350) rfl (hb hby at_346) (by decide) (by decide) ?_
        exact kt
      exact ⟨T110, _, (1 : Int32), X110.mono (by decide) (by decide), e110, N110, (by rw [if_neg hc112]), fun target kt => sg111 _ (sg114 _ (kt))⟩
  have sg116 : ∀ target, Steps p.tables e below (T115.setTop (mkF m 352 #[.val (.int p1), .val (.int p2), .val (.int p3), .val (.int p4), .val (.int p5), .val (.int p6), .val (.int u1), .val (.int u3), .val (.int u5), .val (.int u7), .val (.int u9), .val (.int u11), .val (.int u13), .val (.int u15), .val (.int u17), .val (.int u19), .val (.int v26_t0), .val (.int v32_t0), .val (.int v38_t0), .val (.int v44_t0), .val (.int v50_t0), .val (.int v56_t0), .val (.int v62_t0), .val (.int u63), .val (.ref b65), .val (.ref b71), .val (.int v115_t0)] [])) target → Steps p.tables e below (T115.setTop (mkF m 350 #[.val (.int p1), .val (.int p2), .val (.int p3), .val (.int p4), .val (.int p5), .val (.int p6), .val (.int u1), .val (.int u3), .val (.int u5), .val (.int u7), .val (.int u9), .val (.int u11), .val (.int u13), .val (.int u15), .val (.int u17), .val (.int u19), .val (.int v26_t0), .val (.int v32_t0), .val (.int v38_t0), .val (.int v44_t0), .val (.int v50_t0), .val (.int v56_t0), .val (.int v62_t0), .val (.int u63), .val (.ref b65), .val (.ref b71), .unset] [(.int v115_t0)])) target := by
    intro target kt
    show Steps p.tables e below (T115.setTop (mkF m 350 #[.val (.int p1), .val (.int p2), .val (.int p3), .val (.int p4), .val (.int p5), .val (.int p6), .val (.int u1), .val (.int u3), .val (.int u5), .val (.int u7), .val (.int u9), .val (.int u11), .val (.int u13), .val (.int u15), .val (.int u17), .val (.int u19), .val (.int v26_t0), .val (.int v32_t0), .val (.int v38_t0), .val (.int v44_t0), .val (.int v50_t0), .val (.int v56_t0), .val (.int v62_t0), .val (.int u63), .val (.ref b65), .val (.ref b71), .unset] [(.int v115_t0)])) _
    refine XS.istore X115.here hx rfl (hb hby at_350) rfl (l' := #[.val (.int p1), .val (.int p2), .val (.int p3), .val (.int p4), .val (.int p5), .val (.int p6), .val (.int u1), .val (.int u3), .val (.int u5), .val (.int u7), .val (.int u9), .val (.int u11), .val (.int u13), .val (.int u15), .val (.int u17), .val (.int u19), .val (.int v26_t0), .val (.int v32_t0), .val (.int v38_t0), .val (.int v44_t0), .val (.int v50_t0), .val (.int v56_t0), .val (.int v62_t0), .val (.int u63), .val (.ref b65), .val (.ref b71), .val (.int v115_t0)]) rfl ?_
    exact kt
  obtain ⟨T121, L121, v121_l26, X121, e121, N121, hv121_l26, sg121⟩ : ∃ (T' : State) (L' : List Loc) (v121_l26 : Int32), Stand p l e room_1 s m #[(.int p1), (.int p2), (.int p3), (.int p4), (.int p5), (.int p6)] below meth c T' L' 8 251 ∧ T'.heap = h110 ∧ Fr n0 L' ∧ v121_l26 = (if v62_t0 = (0 : Int32) then v115_t0 else (v115_t0 * u63)) ∧ ∀ target, Steps p.tables e below (T'.setTop (mkF m 364 #[.val (.int p1), .val (.int p2), .val (.int p3), .val (.int p4), .val (.int p5), .val (.int p6), .val (.int u1), .val (.int u3), .val (.int u5), .val (.int u7), .val (.int u9), .val (.int u11), .val (.int u13), .val (.int u15), .val (.int u17), .val (.int u19), .val (.int v26_t0), .val (.int v32_t0), .val (.int v38_t0), .val (.int v44_t0), .val (.int v50_t0), .val (.int v56_t0), .val (.int v62_t0), .val (.int u63), .val (.ref b65), .val (.ref b71), .val (.int v121_l26)] [])) target → Steps p.tables e below (T115.setTop (mkF m 352 #[.val (.int p1), .val (.int p2), .val (.int p3), .val (.int p4), .val (.int p5), .val (.int p6), .val (.int u1), .val (.int u3), .val (.int u5), .val (.int u7), .val (.int u9), .val (.int u11), .val (.int u13), .val (.int u15), .val (.int u17), .val (.int u19), .val (.int v26_t0), .val (.int v32_t0), .val (.int v38_t0), .val (.int v44_t0), .val (.int v50_t0), .val (.int v56_t0), .val (.int v62_t0), .val (.int u63), .val (.ref b65), .val (.ref b71), .val (.int v115_t0)] [])) target := by
    have sg117 : ∀ target, Steps p.tables e below (T115.setTop (mkF m 354 #[.val (.int p1), .val (.int p2), .val (.int p3), .val (.int p4), .val (.int p5), .val (.int p6), .val (.int u1), .val (.int u3), .val (.int u5), .val (.int u7), .val (.int u9), .val (.int u11), .val (.int u13), .val (.int u15), .val (.int u17), .val (.int u19), .val (.int v26_t0), .val (.int v32_t0), .val (.int v38_t0), .val (.int v44_t0), .val (.int v50_t0), .val (.int v56_t0), .val (.int v62_t0), .val (.int u63), .val (.ref b65), .val (.ref b71), .val (.int v115_t0)] [(.int v62_t0)])) target → Steps p.tables e below (T115.setTop (mkF m 352 #[.val (.int p1), .val (.int p2), .val (.int p3), .val (.int p4), .val (.int p5), .val (.int p6), .val (.int u1), .val (.int u3), .val (.int u5), .val (.int u7), .val (.int u9), .val (.int u11), .val (.int u13), .val (.int u15), .val (.int u17), .val (.int u19), .val (.int v26_t0), .val (.int v32_t0), .val (.int v38_t0), .val (.int v44_t0), .val (.int v50_t0), .val (.int v56_t0), .val (.int v62_t0), .val (.int u63), .val (.ref b65), .val (.ref b71), .val (.int v115_t0)] [])) target := by
      intro target kt
      show Steps p.tables e below (T115.setTop (mkF m 352 #[.val (.int p1), .val (.int p2), .val (.int p3), .val (.int p4), .val (.int p5), .val (.int p6), .val (.int u1), .val (.int u3), .val (.int u5), .val (.int u7), .val (.int u9), .val (.int u11), .val (.int u13), .val (.int u15), .val (.int u17), .val (.int u19), .val (.int v26_t0), .val (.int v32_t0), .val (.int v38_t0), .val (.int v44_t0), .val (.int v50_t0), .val (.int v56_t0), .val (.int v62_t0), .val (.int u63), .val (.ref b65), .val (.ref b71), .val (.int v115_t0)] [])) _
      refine XS.iload X115.here hx rfl (hb hby at_352) rfl ?_
      exact kt
    by_cases hc118 : v62_t0 = (0 : Int32)
    · have sg119 : ∀ target, Steps p.tables e below (T115.setTop (mkF m 364 #[.val (.int p1), .val (.int p2), .val (.int p3), .val (.int p4), .val (.int p5), .val (.int p6), .val (.int u1), .val (.int u3), .val (.int u5), .val (.int u7), .val (.int u9), .val (.int u11), .val (.int u13), .val (.int u15), .val (.int u17), .val (.int u19), .val (.int v26_t0), .val (.int v32_t0), .val (.int v38_t0), .val (.int v44_t0), .val (.int v50_t0), .val (.int v56_t0), .val (.int v62_t0), .val (.int u63), .val (.ref b65), .val (.ref b71), .val (.int v115_t0)] [])) target → Steps p.tables e below (T115.setTop (mkF m 354 #[.val (.int p1), .val (.int p2), .val (.int p3), .val (.int p4), .val (.int p5), .val (.int p6), .val (.int u1), .val (.int u3), .val (.int u5), .val (.int u7), .val (.int u9), .val (.int u11), .val (.int u13), .val (.int u15), .val (.int u17), .val (.int u19), .val (.int v26_t0), .val (.int v32_t0), .val (.int v38_t0), .val (.int v44_t0), .val (.int v50_t0), .val (.int v56_t0), .val (.int v62_t0), .val (.int u63), .val (.ref b65), .val (.ref b71), .val (.int v115_t0)] [(.int v62_t0)])) target := by
        intro target kt
        show Steps p.tables e below (T115.setTop (mkF m 354 #[.val (.int p1), .val (.int p2), .val (.int p3), .val (.int p4), .val (.int p5), .val (.int p6), .val (.int u1), .val (.int u3), .val (.int u5), .val (.int u7), .val (.int u9), .val (.int u11), .val (.int u13), .val (.int u15), .val (.int u17), .val (.int u19), .val (.int v26_t0), .val (.int v32_t0), .val (.int v38_t0), .val (.int v44_t0), .val (.int v50_t0), .val (.int v56_t0), .val (.int v62_t0), .val (.int u63), .val (.ref b65), .val (.ref b71), .val (.int v115_t0)] [(.int v62_t0)])) _
        refine XS.ifYes X115.here hx rfl (pc0 := 354) (pc' := 364) rfl (hb hby at_354) rfl ((if0 _ _).trans (teq hc118).1) (by decide) (by decide) ?_
        exact kt
      exact ⟨T115, _, v115_t0, X115.mono (by decide) (by decide), e115, N115, (by rw [if_pos hc118]), fun target kt => sg117 _ (sg119 _ (kt))⟩
    · have sg120 : ∀ target, Steps p.tables e below (T115.setTop (mkF m 364 #[.val (.int p1), .val (.int p2), .val (.int p3), .val (.int p4), .val (.int p5), .val (.int p6), .val (.int u1), .val (.int u3), .val (.int u5), .val (.int u7), .val (.int u9), .val (.int u11), .val (.int u13), .val (.int u15), .val (.int u17), .val (.int u19), .val (.int v26_t0), .val (.int v32_t0), .val (.int v38_t0), .val (.int v44_t0), .val (.int v50_t0), .val (.int v56_t0), .val (.int v62_t0), .val (.int u63), .val (.ref b65), .val (.ref b71), .val (.int (v115_t0 * u63))] [])) target → Steps p.tables e below (T115.setTop (mkF m 354 #[.val (.int p1), .val (.int p2), .val (.int p3), .val (.int p4), .val (.int p5), .val (.int p6), .val (.int u1), .val (.int u3), .val (.int u5), .val (.int u7), .val (.int u9), .val (.int u11), .val (.int u13), .val (.int u15), .val (.int u17), .val (.int u19), .val (.int v26_t0), .val (.int v32_t0), .val (.int v38_t0), .val (.int v44_t0), .val (.int v50_t0), .val (.int v56_t0), .val (.int v62_t0), .val (.int u63), .val (.ref b65), .val (.ref b71), .val (.int v115_t0)] [(.int v62_t0)])) target := by
        intro target kt
        show Steps p.tables e below (T115.setTop (mkF m 354 #[.val (.int p1), .val (.int p2), .val (.int p3), .val (.int p4), .val (.int p5), .val (.int p6), .val (.int u1), .val (.int u3), .val (.int u5), .val (.int u7), .val (.int u9), .val (.int u11), .val (.int u13), .val (.int u15), .val (.int u17), .val (.int u19), .val (.int v26_t0), .val (.int v32_t0), .val (.int v38_t0), .val (.int v44_t0), .val (.int v50_t0), .val (.int v56_t0), .val (.int v62_t0), .val (.int u63), .val (.ref b65), .val (.ref b71), .val (.int v115_t0)] [(.int v62_t0)])) _
        refine XS.ifNo X115.here hx rfl (hb hby at_354) rfl ((if0 _ _).trans (feq hc118).1) ?_
        show Steps p.tables e below (T115.setTop (mkF m 357 #[.val (.int p1), .val (.int p2), .val (.int p3), .val (.int p4), .val (.int p5), .val (.int p6), .val (.int u1), .val (.int u3), .val (.int u5), .val (.int u7), .val (.int u9), .val (.int u11), .val (.int u13), .val (.int u15), .val (.int u17), .val (.int u19), .val (.int v26_t0), .val (.int v32_t0), .val (.int v38_t0), .val (.int v44_t0), .val (.int v50_t0), .val (.int v56_t0), .val (.int v62_t0), .val (.int u63), .val (.ref b65), .val (.ref b71), .val (.int v115_t0)] [])) _
        refine XS.iload X115.here hx rfl (hb hby at_357) rfl ?_
        show Steps p.tables e below (T115.setTop (mkF m 359 #[.val (.int p1), .val (.int p2), .val (.int p3), .val (.int p4), .val (.int p5), .val (.int p6), .val (.int u1), .val (.int u3), .val (.int u5), .val (.int u7), .val (.int u9), .val (.int u11), .val (.int u13), .val (.int u15), .val (.int u17), .val (.int u19), .val (.int v26_t0), .val (.int v32_t0), .val (.int v38_t0), .val (.int v44_t0), .val (.int v50_t0), .val (.int v56_t0), .val (.int v62_t0), .val (.int u63), .val (.ref b65), .val (.ref b71), .val (.int v115_t0)] [(.int v115_t0)])) _
        refine XS.iload X115.here hx rfl (hb hby at_359) rfl ?_
        show Steps p.tables e below (T115.setTop (mkF m 361 #[.val (.int p1), .val (.int p2), .val (.int p3), .val (.int p4), .val (.int p5), .val (.int p6), .val (.int u1), .val (.int u3), .val (.int u5), .val (.int u7), .val (.int u9), .val (.int u11), .val (.int u13), .val (.int u15), .val (.int u17), .val (.int u19), .val (.int v26_t0), .val (.int v32_t0), .val (.int v38_t0), .val (.int v44_t0), .val (.int v50_t0), .val (.int v56_t0), .val (.int v62_t0), .val (.int u63), .val (.ref b65), .val (.ref b71), .val (.int v115_t0)] [(.int u63), (.int v115_t0)])) _
        refine XS.imul X115.here hx rfl (hb hby at_361) rfl ?_
        show Steps p.tables e below (T115.setTop (mkF m 362 #[.val (.int p1), .val (.int p2), .val (.int p3), .val (.int p4), .val (.int p5), .val (.int p6), .val (.int u1), .val (.int u3), .val (.int u5), .val (.int u7), .val (.int u9), .val (.int u11), .val (.int u13), .val (.int u15), .val (.int u17), .val (.int u19), .val (.int v26_t0), .val (.int v32_t0), .val (.int v38_t0), .val (.int v44_t0), .val (.int v50_t0), .val (.int v56_t0), .val (.int v62_t0), .val (.int u63), .val (.ref b65), .val (.ref b71), .val (.int v115_t0)] [(.int (v115_t0 * u63))])) _
        refine XS.istore X115.here hx rfl (hb hby at_362) rfl (l' := #[.val (.int p1), .val (.int p2), .val (.int p3), .val (.int p4), .val (.int p5), .val (.int p6), .val (.int u1), .val (.int u3), .val (.int u5), .val (.int u7), .val (.int u9), .val (.int u11), .val (.int u13), .val (.int u15), .val (.int u17), .val (.int u19), .val (.int v26_t0), .val (.int v32_t0), .val (.int v38_t0), .val (.int v44_t0), .val (.int v50_t0), .val (.int v56_t0), .val (.int v62_t0), .val (.int u63), .val (.ref b65), .val (.ref b71), .val (.int (v115_t0 * u63))]) rfl ?_
        exact kt
      exact ⟨T115, _, (v115_t0 * u63), X115.mono (by decide) (by decide), e115, N115, (by rw [if_neg hc118]), fun target kt => sg117 _ (sg120 _ (kt))⟩
  obtain ⟨T129, L129, v129_l26, X129, e129, N129, hv129_l26, sg129⟩ : ∃ (T' : State) (L' : List Loc) (v129_l26 : Int32), Stand p l e room_1 s m #[(.int p1), (.int p2), (.int p3), (.int p4), (.int p5), (.int p6)] below meth c T' L' 8 251 ∧ T'.heap = h110 ∧ Fr n0 L' ∧ v129_l26 = (if v32_t0 = (0 : Int32) then v121_l26 else (if u9 = u5 then (v121_l26 + (1 : Int32)) else v121_l26)) ∧ ∀ target, Steps p.tables e below (T'.setTop (mkF m 379 #[.val (.int p1), .val (.int p2), .val (.int p3), .val (.int p4), .val (.int p5), .val (.int p6), .val (.int u1), .val (.int u3), .val (.int u5), .val (.int u7), .val (.int u9), .val (.int u11), .val (.int u13), .val (.int u15), .val (.int u17), .val (.int u19), .val (.int v26_t0), .val (.int v32_t0), .val (.int v38_t0), .val (.int v44_t0), .val (.int v50_t0), .val (.int v56_t0), .val (.int v62_t0), .val (.int u63), .val (.ref b65), .val (.ref b71), .val (.int v129_l26)] [])) target → Steps p.tables e below (T121.setTop (mkF m 364 #[.val (.int p1), .val (.int p2), .val (.int p3), .val (.int p4), .val (.int p5), .val (.int p6), .val (.int u1), .val (.int u3), .val (.int u5), .val (.int u7), .val (.int u9), .val (.int u11), .val (.int u13), .val (.int u15), .val (.int u17), .val (.int u19), .val (.int v26_t0), .val (.int v32_t0), .val (.int v38_t0), .val (.int v44_t0), .val (.int v50_t0), .val (.int v56_t0), .val (.int v62_t0), .val (.int u63), .val (.ref b65), .val (.ref b71), .val (.int v121_l26)] [])) target := by
    have sg122 : ∀ target, Steps p.tables e below (T121.setTop (mkF m 366 #[.val (.int p1), .val (.int p2), .val (.int p3), .val (.int p4), .val (.int p5), .val (.int p6), .val (.int u1), .val (.int u3), .val (.int u5), .val (.int u7), .val (.int u9), .val (.int u11), .val (.int u13), .val (.int u15), .val (.int u17), .val (.int u19), .val (.int v26_t0), .val (.int v32_t0), .val (.int v38_t0), .val (.int v44_t0), .val (.int v50_t0), .val (.int v56_t0), .val (.int v62_t0), .val (.int u63), .val (.ref b65), .val (.ref b71), .val (.int v121_l26)] [(.int v32_t0)])) target → Steps p.tables e below (T121.setTop (mkF m 364 #[.val (.int p1), .val (.int p2), .val (.int p3), .val (.int p4), .val (.int p5), .val (.int p6), .val (.int u1), .val (.int u3), .val (.int u5), .val (.int u7), .val (.int u9), .val (.int u11), .val (.int u13), .val (.int u15), .val (.int u17), .val (.int u19), .val (.int v26_t0), .val (.int v32_t0), .val (.int v38_t0), .val (.int v44_t0), .val (.int v50_t0), .val (.int v56_t0), .val (.int v62_t0), .val (.int u63), .val (.ref b65), .val (.ref b71), .val (.int v121_l26)] [])) target := by
      intro target kt
      show Steps p.tables e below (T121.setTop (mkF m 364 #[.val (.int p1), .val (.int p2), .val (.int p3), .val (.int p4), .val (.int p5), .val (.int p6), .val (.int u1), .val (.int u3), .val (.int u5), .val (.int u7), .val (.int u9), .val (.int u11), .val (.int u13), .val (.int u15), .val (.int u17), .val (.int u19), .val (.int v26_t0), .val (.int v32_t0), .val (.int v38_t0), .val (.int v44_t0), .val (.int v50_t0), .val (.int v56_t0), .val (.int v62_t0), .val (.int u63), .val (.ref b65), .val (.ref b71), .val (.int v121_l26)] [])) _
      refine XS.iload X121.here hx rfl (hb hby at_364) rfl ?_
      exact kt
    by_cases hc123 : v32_t0 = (0 : Int32)
    · have sg124 : ∀ target, Steps p.tables e below (T121.setTop (mkF m 379 #[.val (.int p1), .val (.int p2), .val (.int p3), .val (.int p4), .val (.int p5), .val (.int p6), .val (.int u1), .val (.int u3), .val (.int u5), .val (.int u7), .val (.int u9), .val (.int u11), .val (.int u13), .val (.int u15), .val (.int u17), .val (.int u19), .val (.int v26_t0), .val (.int v32_t0), .val (.int v38_t0), .val (.int v44_t0), .val (.int v50_t0), .val (.int v56_t0), .val (.int v62_t0), .val (.int u63), .val (.ref b65), .val (.ref b71), .val (.int v121_l26)] [])) target → Steps p.tables e below (T121.setTop (mkF m 366 #[.val (.int p1), .val (.int p2), .val (.int p3), .val (.int p4), .val (.int p5), .val (.int p6), .val (.int u1), .val (.int u3), .val (.int u5), .val (.int u7), .val (.int u9), .val (.int u11), .val (.int u13), .val (.int u15), .val (.int u17), .val (.int u19), .val (.int v26_t0), .val (.int v32_t0), .val (.int v38_t0), .val (.int v44_t0), .val (.int v50_t0), .val (.int v56_t0), .val (.int v62_t0), .val (.int u63), .val (.ref b65), .val (.ref b71), .val (.int v121_l26)] [(.int v32_t0)])) target := by
        intro target kt
        show Steps p.tables e below (T121.setTop (mkF m 366 #[.val (.int p1), .val (.int p2), .val (.int p3), .val (.int p4), .val (.int p5), .val (.int p6), .val (.int u1), .val (.int u3), .val (.int u5), .val (.int u7), .val (.int u9), .val (.int u11), .val (.int u13), .val (.int u15), .val (.int u17), .val (.int u19), .val (.int v26_t0), .val (.int v32_t0), .val (.int v38_t0), .val (.int v44_t0), .val (.int v50_t0), .val (.int v56_t0), .val (.int v62_t0), .val (.int u63), .val (.ref b65), .val (.ref b71), .val (.int v121_l26)] [(.int v32_t0)])) _
        refine XS.ifYes X121.here hx rfl (pc0 := 366) (pc' := 379) rfl (hb hby at_366) rfl ((if0 _ _).trans (teq hc123).1) (by decide) (by decide) ?_
        exact kt
      exact ⟨T121, _, v121_l26, X121.mono (by decide) (by decide), e121, N121, (by rw [if_pos hc123]), fun target kt => sg122 _ (sg124 _ (kt))⟩
    · have sg125 : ∀ target, Steps p.tables e below (T121.setTop (mkF m 373 #[.val (.int p1), .val (.int p2), .val (.int p3), .val (.int p4), .val (.int p5), .val (.int p6), .val (.int u1), .val (.int u3), .val (.int u5), .val (.int u7), .val (.int u9), .val (.int u11), .val (.int u13), .val (.int u15), .val (.int u17), .val (.int u19), .val (.int v26_t0), .val (.int v32_t0), .val (.int v38_t0), .val (.int v44_t0), .val (.int v50_t0), .val (.int v56_t0), .val (.int v62_t0), .val (.int u63), .val (.ref b65), .val (.ref b71), .val (.int v121_l26)] [(.int u5), (.int u9)])) target → Steps p.tables e below (T121.setTop (mkF m 366 #[.val (.int p1), .val (.int p2), .val (.int p3), .val (.int p4), .val (.int p5), .val (.int p6), .val (.int u1), .val (.int u3), .val (.int u5), .val (.int u7), .val (.int u9), .val (.int u11), .val (.int u13), .val (.int u15), .val (.int u17), .val (.int u19), .val (.int v26_t0), .val (.int v32_t0), .val (.int v38_t0), .val (.int v44_t0), .val (.int v50_t0), .val (.int v56_t0), .val (.int v62_t0), .val (.int u63), .val (.ref b65), .val (.ref b71), .val (.int v121_l26)] [(.int v32_t0)])) target := by
        intro target kt
        show Steps p.tables e below (T121.setTop (mkF m 366 #[.val (.int p1), .val (.int p2), .val (.int p3), .val (.int p4), .val (.int p5), .val (.int p6), .val (.int u1), .val (.int u3), .val (.int u5), .val (.int u7), .val (.int u9), .val (.int u11), .val (.int u13), .val (.int u15), .val (.int u17), .val (.int u19), .val (.int v26_t0), .val (.int v32_t0), .val (.int v38_t0), .val (.int v44_t0), .val (.int v50_t0), .val (.int v56_t0), .val (.int v62_t0), .val (.int u63), .val (.ref b65), .val (.ref b71), .val (.int v121_l26)] [(.int v32_t0)])) _
        refine XS.ifNo X121.here hx rfl (hb hby at_366) rfl ((if0 _ _).trans (feq hc123).1) ?_
        show Steps p.tables e below (T121.setTop (mkF m 369 #[.val (.int p1), .val (.int p2), .val (.int p3), .val (.int p4), .val (.int p5), .val (.int p6), .val (.int u1), .val (.int u3), .val (.int u5), .val (.int u7), .val (.int u9), .val (.int u11), .val (.int u13), .val (.int u15), .val (.int u17), .val (.int u19), .val (.int v26_t0), .val (.int v32_t0), .val (.int v38_t0), .val (.int v44_t0), .val (.int v50_t0), .val (.int v56_t0), .val (.int v62_t0), .val (.int u63), .val (.ref b65), .val (.ref b71), .val (.int v121_l26)] [])) _
        refine XS.iload X121.here hx rfl (hb hby at_369) rfl ?_
        show Steps p.tables e below (T121.setTop (mkF m 371 #[.val (.int p1), .val (.int p2), .val (.int p3), .val (.int p4), .val (.int p5), .val (.int p6), .val (.int u1), .val (.int u3), .val (.int u5), .val (.int u7), .val (.int u9), .val (.int u11), .val (.int u13), .val (.int u15), .val (.int u17), .val (.int u19), .val (.int v26_t0), .val (.int v32_t0), .val (.int v38_t0), .val (.int v44_t0), .val (.int v50_t0), .val (.int v56_t0), .val (.int v62_t0), .val (.int u63), .val (.ref b65), .val (.ref b71), .val (.int v121_l26)] [(.int u9)])) _
        refine XS.iload X121.here hx rfl (hb hby at_371) rfl ?_
        exact kt
      by_cases hc126 : u9 = u5
      · have sg127 : ∀ target, Steps p.tables e below (T121.setTop (mkF m 379 #[.val (.int p1), .val (.int p2), .val (.int p3), .val (.int p4), .val (.int p5), .val (.int p6), .val (.int u1), .val (.int u3), .val (.int u5), .val (.int u7), .val (.int u9), .val (.int u11), .val (.int u13), .val (.int u15), .val (.int u17), .val (.int u19), .val (.int v26_t0), .val (.int v32_t0), .val (.int v38_t0), .val (.int v44_t0), .val (.int v50_t0), .val (.int v56_t0), .val (.int v62_t0), .val (.int u63), .val (.ref b65), .val (.ref b71), .val (.int (v121_l26 + (1 : Int32)))] [])) target → Steps p.tables e below (T121.setTop (mkF m 373 #[.val (.int p1), .val (.int p2), .val (.int p3), .val (.int p4), .val (.int p5), .val (.int p6), .val (.int u1), .val (.int u3), .val (.int u5), .val (.int u7), .val (.int u9), .val (.int u11), .val (.int u13), .val (.int u15), .val (.int u17), .val (.int u19), .val (.int v26_t0), .val (.int v32_t0), .val (.int v38_t0), .val (.int v44_t0), .val (.int v50_t0), .val (.int v56_t0), .val (.int v62_t0), .val (.int u63), .val (.ref b65), .val (.ref b71), .val (.int v121_l26)] [(.int u5), (.int u9)])) target := by
          intro target kt
          show Steps p.tables e below (T121.setTop (mkF m 373 #[.val (.int p1), .val (.int p2), .val (.int p3), .val (.int p4), .val (.int p5), .val (.int p6), .val (.int u1), .val (.int u3), .val (.int u5), .val (.int u7), .val (.int u9), .val (.int u11), .val (.int u13), .val (.int u15), .val (.int u17), .val (.int u19), .val (.int v26_t0), .val (.int v32_t0), .val (.int v38_t0), .val (.int v44_t0), .val (.int v50_t0), .val (.int v56_t0), .val (.int v62_t0), .val (.int u63), .val (.ref b65), .val (.ref b71), .val (.int v121_l26)] [(.int u5), (.int u9)])) _
          refine XS.icmpNo X121.here hx rfl (hb hby at_373) rfl (teq hc126).2 ?_
          show Steps p.tables e below (T121.setTop (mkF m 376 #[.val (.int p1), .val (.int p2), .val (.int p3), .val (.int p4), .val (.int p5), .val (.int p6), .val (.int u1), .val (.int u3), .val (.int u5), .val (.int u7), .val (.int u9), .val (.int u11), .val (.int u13), .val (.int u15), .val (.int u17), .val (.int u19), .val (.int v26_t0), .val (.int v32_t0), .val (.int v38_t0), .val (.int v44_t0), .val (.int v50_t0), .val (.int v56_t0), .val (.int v62_t0), .val (.int u63), .val (.ref b65), .val (.ref b71), .val (.int v121_l26)] [])) _
          refine XS.iinc X121.here hx rfl (hb hby at_376) rfl (l' := #[.val (.int p1), .val (.int p2), .val (.int p3), .val (.int p4), .val (.int p5), .val (.int p6), .val (.int u1), .val (.int u3), .val (.int u5), .val (.int u7), .val (.int u9), .val (.int u11), .val (.int u13), .val (.int u15), .val (.int u17), .val (.int u19), .val (.int v26_t0), .val (.int v32_t0), .val (.int v38_t0), .val (.int v44_t0), .val (.int v50_t0), .val (.int v56_t0), .val (.int v62_t0), .val (.int u63), .val (.ref b65), .val (.ref b71), .val (.int (v121_l26 + (1 : Int32)))]) rfl ?_
          exact kt
        exact ⟨T121, _, (v121_l26 + (1 : Int32)), X121.mono (by decide) (by decide), e121, N121, (by rw [if_neg hc123, if_pos hc126]), fun target kt => sg122 _ (sg125 _ (sg127 _ (kt)))⟩
      · have sg128 : ∀ target, Steps p.tables e below (T121.setTop (mkF m 379 #[.val (.int p1), .val (.int p2), .val (.int p3), .val (.int p4), .val (.int p5), .val (.int p6), .val (.int u1), .val (.int u3), .val (.int u5), .val (.int u7), .val (.int u9), .val (.int u11), .val (.int u13), .val (.int u15), .val (.int u17), .val (.int u19), .val (.int v26_t0), .val (.int v32_t0), .val (.int v38_t0), .val (.int v44_t0), .val (.int v50_t0), .val (.int v56_t0), .val (.int v62_t0), .val (.int u63), .val (.ref b65), .val (.ref b71), .val (.int v121_l26)] [])) target → Steps p.tables e below (T121.setTop (mkF m 373 #[.val (.int p1), .val (.int p2), .val (.int p3), .val (.int p4), .val (.int p5), .val (.int p6), .val (.int u1), .val (.int u3), .val (.int u5), .val (.int u7), .val (.int u9), .val (.int u11), .val (.int u13), .val (.int u15), .val (.int u17), .val (.int u19), .val (.int v26_t0), .val (.int v32_t0), .val (.int v38_t0), .val (.int v44_t0), .val (.int v50_t0), .val (.int v56_t0), .val (.int v62_t0), .val (.int u63), .val (.ref b65), .val (.ref b71), .val (.int v121_l26)] [(.int u5), (.int u9)])) target := by
          intro target kt
          show Steps p.tables e below (T121.setTop (mkF m 373 #[.val (.int p1), .val (.int p2), .val (.int p3), .val (.int p4), .val (.int p5), .val (.int p6), .val (.int u1), .val (.int u3), .val (.int u5), .val (.int u7), .val (.int u9), .val (.int u11), .val (.int u13), .val (.int u15), .val (.int u17), .val (.int u19), .val (.int v26_t0), .val (.int v32_t0), .val (.int v38_t0), .val (.int v44_t0), .val (.int v50_t0), .val (.int v56_t0), .val (.int v62_t0), .val (.int u63), .val (.ref b65), .val (.ref b71), .val (.int v121_l26)] [(.int u5), (.int u9)])) _
          refine XS.icmpYes X121.here hx rfl (pc0 := 373) (pc' := 379) rfl (hb hby at_373) rfl (feq hc126).2 (by decide) (by decide) ?_
          exact kt
        exact ⟨T121, _, v121_l26, X121.mono (by decide) (by decide), e121, N121, (by rw [if_neg hc123, if_neg hc126]), fun target kt => sg122 _ (sg125 _ (sg128 _ (kt)))⟩
  obtain ⟨T137, L137, v137_l26, X137, e137, N137, hv137_l26, sg137⟩ : ∃ (T' : State) (L' : List Loc) (v137_l26 : Int32), Stand p l e room_1 s m #[(.int p1), (.int p2), (.int p3), (.int p4), (.int p5), (.int p6)] below meth c T' L' 8 251 ∧ T'.heap = h110 ∧ Fr n0 L' ∧ v137_l26 = (if v38_t0 = (0 : Int32) then v129_l26 else (if u11 = u7 then (v129_l26 + (1 : Int32)) else v129_l26)) ∧ ∀ target, Steps p.tables e below (T'.setTop (mkF m 394 #[.val (.int p1), .val (.int p2), .val (.int p3), .val (.int p4), .val (.int p5), .val (.int p6), .val (.int u1), .val (.int u3), .val (.int u5), .val (.int u7), .val (.int u9), .val (.int u11), .val (.int u13), .val (.int u15), .val (.int u17), .val (.int u19), .val (.int v26_t0), .val (.int v32_t0), .val (.int v38_t0), .val (.int v44_t0), .val (.int v50_t0), .val (.int v56_t0), .val (.int v62_t0), .val (.int u63), .val (.ref b65), .val (.ref b71), .val (.int v137_l26)] [])) target → Steps p.tables e below (T129.setTop (mkF m 379 #[.val (.int p1), .val (.int p2), .val (.int p3), .val (.int p4), .val (.int p5), .val (.int p6), .val (.int u1), .val (.int u3), .val (.int u5), .val (.int u7), .val (.int u9), .val (.int u11), .val (.int u13), .val (.int u15), .val (.int u17), .val (.int u19), .val (.int v26_t0), .val (.int v32_t0), .val (.int v38_t0), .val (.int v44_t0), .val (.int v50_t0), .val (.int v56_t0), .val (.int v62_t0), .val (.int u63), .val (.ref b65), .val (.ref b71), .val (.int v129_l26)] [])) target := by
    have sg130 : ∀ target, Steps p.tables e below (T129.setTop (mkF m 381 #[.val (.int p1), .val (.int p2), .val (.int p3), .val (.int p4), .val (.int p5), .val (.int p6), .val (.int u1), .val (.int u3), .val (.int u5), .val (.int u7), .val (.int u9), .val (.int u11), .val (.int u13), .val (.int u15), .val (.int u17), .val (.int u19), .val (.int v26_t0), .val (.int v32_t0), .val (.int v38_t0), .val (.int v44_t0), .val (.int v50_t0), .val (.int v56_t0), .val (.int v62_t0), .val (.int u63), .val (.ref b65), .val (.ref b71), .val (.int v129_l26)] [(.int v38_t0)])) target → Steps p.tables e below (T129.setTop (mkF m 379 #[.val (.int p1), .val (.int p2), .val (.int p3), .val (.int p4), .val (.int p5), .val (.int p6), .val (.int u1), .val (.int u3), .val (.int u5), .val (.int u7), .val (.int u9), .val (.int u11), .val (.int u13), .val (.int u15), .val (.int u17), .val (.int u19), .val (.int v26_t0), .val (.int v32_t0), .val (.int v38_t0), .val (.int v44_t0), .val (.int v50_t0), .val (.int v56_t0), .val (.int v62_t0), .val (.int u63), .val (.ref b65), .val (.ref b71), .val (.int v129_l26)] [])) target := by
      intro target kt
      show Steps p.tables e below (T129.setTop (mkF m 379 #[.val (.int p1), .val (.int p2), .val (.int p3), .val (.int p4), .val (.int p5), .val (.int p6), .val (.int u1), .val (.int u3), .val (.int u5), .val (.int u7), .val (.int u9), .val (.int u11), .val (.int u13), .val (.int u15), .val (.int u17), .val (.int u19), .val (.int v26_t0), .val (.int v32_t0), .val (.int v38_t0), .val (.int v44_t0), .val (.int v50_t0), .val (.int v56_t0), .val (.int v62_t0), .val (.int u63), .val (.ref b65), .val (.ref b71), .val (.int v129_l26)] [])) _
      refine XS.iload X129.here hx rfl (hb hby at_379) rfl ?_
      exact kt
    by_cases hc131 : v38_t0 = (0 : Int32)
    · have sg132 : ∀ target, Steps p.tables e below (T129.setTop (mkF m 394 #[.val (.int p1), .val (.int p2), .val (.int p3), .val (.int p4), .val (.int p5), .val (.int p6), .val (.int u1), .val (.int u3), .val (.int u5), .val (.int u7), .val (.int u9), .val (.int u11), .val (.int u13), .val (.int u15), .val (.int u17), .val (.int u19), .val (.int v26_t0), .val (.int v32_t0), .val (.int v38_t0), .val (.int v44_t0), .val (.int v50_t0), .val (.int v56_t0), .val (.int v62_t0), .val (.int u63), .val (.ref b65), .val (.ref b71), .val (.int v129_l26)] [])) target → Steps p.tables e below (T129.setTop (mkF m 381 #[.val (.int p1), .val (.int p2), .val (.int p3), .val (.int p4), .val (.int p5), .val (.int p6), .val (.int u1), .val (.int u3), .val (.int u5), .val (.int u7), .val (.int u9), .val (.int u11), .val (.int u13), .val (.int u15), .val (.int u17), .val (.int u19), .val (.int v26_t0), .val (.int v32_t0), .val (.int v38_t0), .val (.int v44_t0), .val (.int v50_t0), .val (.int v56_t0), .val (.int v62_t0), .val (.int u63), .val (.ref b65), .val (.ref b71), .val (.int v129_l26)] [(.int v38_t0)])) target := by
        intro target kt
        show Steps p.tables e below (T129.setTop (mkF m 381 #[.val (.int p1), .val (.int p2), .val (.int p3), .val (.int p4), .val (.int p5), .val (.int p6), .val (.int u1), .val (.int u3), .val (.int u5), .val (.int u7), .val (.int u9), .val (.int u11), .val (.int u13), .val (.int u15), .val (.int u17), .val (.int u19), .val (.int v26_t0), .val (.int v32_t0), .val (.int v38_t0), .val (.int v44_t0), .val (.int v50_t0), .val (.int v56_t0), .val (.int v62_t0), .val (.int u63), .val (.ref b65), .val (.ref b71), .val (.int v129_l26)] [(.int v38_t0)])) _
        refine XS.ifYes X129.here hx rfl (pc0 := 381) (pc' := 394) rfl (hb hby at_381) rfl ((if0 _ _).trans (teq hc131).1) (by decide) (by decide) ?_
        exact kt
      exact ⟨T129, _, v129_l26, X129.mono (by decide) (by decide), e129, N129, (by rw [if_pos hc131]), fun target kt => sg130 _ (sg132 _ (kt))⟩
    · have sg133 : ∀ target, Steps p.tables e below (T129.setTop (mkF m 388 #[.val (.int p1), .val (.int p2), .val (.int p3), .val (.int p4), .val (.int p5), .val (.int p6), .val (.int u1), .val (.int u3), .val (.int u5), .val (.int u7), .val (.int u9), .val (.int u11), .val (.int u13), .val (.int u15), .val (.int u17), .val (.int u19), .val (.int v26_t0), .val (.int v32_t0), .val (.int v38_t0), .val (.int v44_t0), .val (.int v50_t0), .val (.int v56_t0), .val (.int v62_t0), .val (.int u63), .val (.ref b65), .val (.ref b71), .val (.int v129_l26)] [(.int u7), (.int u11)])) target → Steps p.tables e below (T129.setTop (mkF m 381 #[.val (.int p1), .val (.int p2), .val (.int p3), .val (.int p4), .val (.int p5), .val (.int p6), .val (.int u1), .val (.int u3), .val (.int u5), .val (.int u7), .val (.int u9), .val (.int u11), .val (.int u13), .val (.int u15), .val (.int u17), .val (.int u19), .val (.int v26_t0), .val (.int v32_t0), .val (.int v38_t0), .val (.int v44_t0), .val (.int v50_t0), .val (.int v56_t0), .val (.int v62_t0), .val (.int u63), .val (.ref b65), .val (.ref b71), .val (.int v129_l26)] [(.int v38_t0)])) target := by
        intro target kt
        show Steps p.tables e below (T129.setTop (mkF m 381 #[.val (.int p1), .val (.int p2), .val (.int p3), .val (.int p4), .val (.int p5), .val (.int p6), .val (.int u1), .val (.int u3), .val (.int u5), .val (.int u7), .val (.int u9), .val (.int u11), .val (.int u13), .val (.int u15), .val (.int u17), .val (.int u19), .val (.int v26_t0), .val (.int v32_t0), .val (.int v38_t0), .val (.int v44_t0), .val (.int v50_t0), .val (.int v56_t0), .val (.int v62_t0), .val (.int u63), .val (.ref b65), .val (.ref b71), .val (.int v129_l26)] [(.int v38_t0)])) _
        refine XS.ifNo X129.here hx rfl (hb hby at_381) rfl ((if0 _ _).trans (feq hc131).1) ?_
        show Steps p.tables e below (T129.setTop (mkF m 384 #[.val (.int p1), .val (.int p2), .val (.int p3), .val (.int p4), .val (.int p5), .val (.int p6), .val (.int u1), .val (.int u3), .val (.int u5), .val (.int u7), .val (.int u9), .val (.int u11), .val (.int u13), .val (.int u15), .val (.int u17), .val (.int u19), .val (.int v26_t0), .val (.int v32_t0), .val (.int v38_t0), .val (.int v44_t0), .val (.int v50_t0), .val (.int v56_t0), .val (.int v62_t0), .val (.int u63), .val (.ref b65), .val (.ref b71), .val (.int v129_l26)] [])) _
        refine XS.iload X129.here hx rfl (hb hby at_384) rfl ?_
        show Steps p.tables e below (T129.setTop (mkF m 386 #[.val (.int p1), .val (.int p2), .val (.int p3), .val (.int p4), .val (.int p5), .val (.int p6), .val (.int u1), .val (.int u3), .val (.int u5), .val (.int u7), .val (.int u9), .val (.int u11), .val (.int u13), .val (.int u15), .val (.int u17), .val (.int u19), .val (.int v26_t0), .val (.int v32_t0), .val (.int v38_t0), .val (.int v44_t0), .val (.int v50_t0), .val (.int v56_t0), .val (.int v62_t0), .val (.int u63), .val (.ref b65), .val (.ref b71), .val (.int v129_l26)] [(.int u11)])) _
        refine XS.iload X129.here hx rfl (hb hby at_386) rfl ?_
        exact kt
      by_cases hc134 : u11 = u7
      · have sg135 : ∀ target, Steps p.tables e below (T129.setTop (mkF m 394 #[.val (.int p1), .val (.int p2), .val (.int p3), .val (.int p4), .val (.int p5), .val (.int p6), .val (.int u1), .val (.int u3), .val (.int u5), .val (.int u7), .val (.int u9), .val (.int u11), .val (.int u13), .val (.int u15), .val (.int u17), .val (.int u19), .val (.int v26_t0), .val (.int v32_t0), .val (.int v38_t0), .val (.int v44_t0), .val (.int v50_t0), .val (.int v56_t0), .val (.int v62_t0), .val (.int u63), .val (.ref b65), .val (.ref b71), .val (.int (v129_l26 + (1 : Int32)))] [])) target → Steps p.tables e below (T129.setTop (mkF m 388 #[.val (.int p1), .val (.int p2), .val (.int p3), .val (.int p4), .val (.int p5), .val (.int p6), .val (.int u1), .val (.int u3), .val (.int u5), .val (.int u7), .val (.int u9), .val (.int u11), .val (.int u13), .val (.int u15), .val (.int u17), .val (.int u19), .val (.int v26_t0), .val (.int v32_t0), .val (.int v38_t0), .val (.int v44_t0), .val (.int v50_t0), .val (.int v56_t0), .val (.int v62_t0), .val (.int u63), .val (.ref b65), .val (.ref b71), .val (.int v129_l26)] [(.int u7), (.int u11)])) target := by
          intro target kt
          show Steps p.tables e below (T129.setTop (mkF m 388 #[.val (.int p1), .val (.int p2), .val (.int p3), .val (.int p4), .val (.int p5), .val (.int p6), .val (.int u1), .val (.int u3), .val (.int u5), .val (.int u7), .val (.int u9), .val (.int u11), .val (.int u13), .val (.int u15), .val (.int u17), .val (.int u19), .val (.int v26_t0), .val (.int v32_t0), .val (.int v38_t0), .val (.int v44_t0), .val (.int v50_t0), .val (.int v56_t0), .val (.int v62_t0), .val (.int u63), .val (.ref b65), .val (.ref b71), .val (.int v129_l26)] [(.int u7), (.int u11)])) _
          refine XS.icmpNo X129.here hx rfl (hb hby at_388) rfl (teq hc134).2 ?_
          show Steps p.tables e below (T129.setTop (mkF m 391 #[.val (.int p1), .val (.int p2), .val (.int p3), .val (.int p4), .val (.int p5), .val (.int p6), .val (.int u1), .val (.int u3), .val (.int u5), .val (.int u7), .val (.int u9), .val (.int u11), .val (.int u13), .val (.int u15), .val (.int u17), .val (.int u19), .val (.int v26_t0), .val (.int v32_t0), .val (.int v38_t0), .val (.int v44_t0), .val (.int v50_t0), .val (.int v56_t0), .val (.int v62_t0), .val (.int u63), .val (.ref b65), .val (.ref b71), .val (.int v129_l26)] [])) _
          refine XS.iinc X129.here hx rfl (hb hby at_391) rfl (l' := #[.val (.int p1), .val (.int p2), .val (.int p3), .val (.int p4), .val (.int p5), .val (.int p6), .val (.int u1), .val (.int u3), .val (.int u5), .val (.int u7), .val (.int u9), .val (.int u11), .val (.int u13), .val (.int u15), .val (.int u17), .val (.int u19), .val (.int v26_t0), .val (.int v32_t0), .val (.int v38_t0), .val (.int v44_t0), .val (.int v50_t0), .val (.int v56_t0), .val (.int v62_t0), .val (.int u63), .val (.ref b65), .val (.ref b71), .val (.int (v129_l26 + (1 : Int32)))]) rfl ?_
          exact kt
        exact ⟨T129, _, (v129_l26 + (1 : Int32)), X129.mono (by decide) (by decide), e129, N129, (by rw [if_neg hc131, if_pos hc134]), fun target kt => sg130 _ (sg133 _ (sg135 _ (kt)))⟩
      · have sg136 : ∀ target, Steps p.tables e below (T129.setTop (mkF m 394 #[.val (.int p1), .val (.int p2), .val (.int p3), .val (.int p4), .val (.int p5), .val (.int p6), .val (.int u1), .val (.int u3), .val (.int u5), .val (.int u7), .val (.int u9), .val (.int u11), .val (.int u13), .val (.int u15), .val (.int u17), .val (.int u19), .val (.int v26_t0), .val (.int v32_t0), .val (.int v38_t0), .val (.int v44_t0), .val (.int v50_t0), .val (.int v56_t0), .val (.int v62_t0), .val (.int u63), .val (.ref b65), .val (.ref b71), .val (.int v129_l26)] [])) target → Steps p.tables e below (T129.setTop (mkF m 388 #[.val (.int p1), .val (.int p2), .val (.int p3), .val (.int p4), .val (.int p5), .val (.int p6), .val (.int u1), .val (.int u3), .val (.int u5), .val (.int u7), .val (.int u9), .val (.int u11), .val (.int u13), .val (.int u15), .val (.int u17), .val (.int u19), .val (.int v26_t0), .val (.int v32_t0), .val (.int v38_t0), .val (.int v44_t0), .val (.int v50_t0), .val (.int v56_t0), .val (.int v62_t0), .val (.int u63), .val (.ref b65), .val (.ref b71), .val (.int v129_l26)] [(.int u7), (.int u11)])) target := by
          intro target kt
          show Steps p.tables e below (T129.setTop (mkF m 388 #[.val (.int p1), .val (.int p2), .val (.int p3), .val (.int p4), .val (.int p5), .val (.int p6), .val (.int u1), .val (.int u3), .val (.int u5), .val (.int u7), .val (.int u9), .val (.int u11), .val (.int u13), .val (.int u15), .val (.int u17), .val (.int u19), .val (.int v26_t0), .val (.int v32_t0), .val (.int v38_t0), .val (.int v44_t0), .val (.int v50_t0), .val (.int v56_t0), .val (.int v62_t0), .val (.int u63), .val (.ref b65), .val (.ref b71), .val (.int v129_l26)] [(.int u7), (.int u11)])) _
          refine XS.icmpYes X129.here hx rfl (pc0 := 388) (pc' := 394) rfl (hb hby at_388) rfl (feq hc134).2 (by decide) (by decide) ?_
          exact kt
        exact ⟨T129, _, v129_l26, X129.mono (by decide) (by decide), e129, N129, (by rw [if_neg hc131, if_neg hc134]), fun target kt => sg130 _ (sg133 _ (sg136 _ (kt)))⟩
  obtain ⟨T148, L148, v148_l26, X148, e148, N148, hv148_l26, sg148⟩ : ∃ (T' : State) (L' : List Loc) (v148_l26 : Int32), Stand p l e room_1 s m #[(.int p1), (.int p2), (.int p3), (.int p4), (.int p5), (.int p6)] below meth c T' L' 8 251 ∧ T'.heap = h110 ∧ Fr n0 L' ∧ v148_l26 = (if v44_t0 = (0 : Int32) then v137_l26 else (if u13 = u5 then (if u15 = u7 then (v137_l26 + (1 : Int32)) else v137_l26) else v137_l26)) ∧ ∀ target, Steps p.tables e below (T'.setTop (mkF m 416 #[.val (.int p1), .val (.int p2), .val (.int p3), .val (.int p4), .val (.int p5), .val (.int p6), .val (.int u1), .val (.int u3), .val (.int u5), .val (.int u7), .val (.int u9), .val (.int u11), .val (.int u13), .val (.int u15), .val (.int u17), .val (.int u19), .val (.int v26_t0), .val (.int v32_t0), .val (.int v38_t0), .val (.int v44_t0), .val (.int v50_t0), .val (.int v56_t0), .val (.int v62_t0), .val (.int u63), .val (.ref b65), .val (.ref b71), .val (.int v148_l26)] [])) target → Steps p.tables e below (T137.setTop (mkF m 394 #[.val (.int p1), .val (.int p2), .val (.int p3), .val (.int p4), .val (.int p5), .val (.int p6), .val (.int u1), .val (.int u3), .val (.int u5), .val (.int u7), .val (.int u9), .val (.int u11), .val (.int u13), .val (.int u15), .val (.int u17), .val (.int u19), .val (.int v26_t0), .val (.int v32_t0), .val (.int v38_t0), .val (.int v44_t0), .val (.int v50_t0), .val (.int v56_t0), .val (.int v62_t0), .val (.int u63), .val (.ref b65), .val (.ref b71), .val (.int v137_l26)] [])) target := by
    have sg138 : ∀ target, Steps p.tables e below (T137.setTop (mkF m 396 #[.val (.int p1), .val (.int p2), .val (.int p3), .val (.int p4), .val (.int p5), .val (.int p6), .val (.int u1), .val (.int u3), .val (.int u5), .val (.int u7), .val (.int u9), .val (.int u11), .val (.int u13), .val (.int u15), .val (.int u17), .val (.int u19), .val (.int v26_t0), .val (.int v32_t0), .val (.int v38_t0), .val (.int v44_t0), .val (.int v50_t0), .val (.int v56_t0), .val (.int v62_t0), .val (.int u63), .val (.ref b65), .val (.ref b71), .val (.int v137_l26)] [(.int v44_t0)])) target → Steps p.tables e below (T137.setTop (mkF m 394 #[.val (.int p1), .val (.int p2), .val (.int p3), .val (.int p4), .val (.int p5), .val (.int p6), .val (.int u1), .val (.int u3), .val (.int u5), .val (.int u7), .val (.int u9), .val (.int u11), .val (.int u13), .val (.int u15), .val (.int u17), .val (.int u19), .val (.int v26_t0), .val (.int v32_t0), .val (.int v38_t0), .val (.int v44_t0), .val (.int v50_t0), .val (.int v56_t0), .val (.int v62_t0), .val (.int u63), .val (.ref b65), .val (.ref b71), .val (.int v137_l26)] [])) target := by
      intro target kt
      show Steps p.tables e below (T137.setTop (mkF m 394 #[.val (.int p1), .val (.int p2), .val (.int p3), .val (.int p4), .val (.int p5), .val (.int p6), .val (.int u1), .val (.int u3), .val (.int u5), .val (.int u7), .val (.int u9), .val (.int u11), .val (.int u13), .val (.int u15), .val (.int u17), .val (.int u19), .val (.int v26_t0), .val (.int v32_t0), .val (.int v38_t0), .val (.int v44_t0), .val (.int v50_t0), .val (.int v56_t0), .val (.int v62_t0), .val (.int u63), .val (.ref b65), .val (.ref b71), .val (.int v137_l26)] [])) _
      refine XS.iload X137.here hx rfl (hb hby at_394) rfl ?_
      exact kt
    by_cases hc139 : v44_t0 = (0 : Int32)
    · have sg140 : ∀ target, Steps p.tables e below (T137.setTop (mkF m 416 #[.val (.int p1), .val (.int p2), .val (.int p3), .val (.int p4), .val (.int p5), .val (.int p6), .val (.int u1), .val (.int u3), .val (.int u5), .val (.int u7), .val (.int u9), .val (.int u11), .val (.int u13), .val (.int u15), .val (.int u17), .val (.int u19), .val (.int v26_t0), .val (.int v32_t0), .val (.int v38_t0), .val (.int v44_t0), .val (.int v50_t0), .val (.int v56_t0), .val (.int v62_t0), .val (.int u63), .val (.ref b65), .val (.ref b71), .val (.int v137_l26)] [])) target → Steps p.tables e below (T137.setTop (mkF m 396 #[.val (.int p1), .val (.int p2), .val (.int p3), .val (.int p4), .val (.int p5), .val (.int p6), .val (.int u1), .val (.int u3), .val (.int u5), .val (.int u7), .val (.int u9), .val (.int u11), .val (.int u13), .val (.int u15), .val (.int u17), .val (.int u19), .val (.int v26_t0), .val (.int v32_t0), .val (.int v38_t0), .val (.int v44_t0), .val (.int v50_t0), .val (.int v56_t0), .val (.int v62_t0), .val (.int u63), .val (.ref b65), .val (.ref b71), .val (.int v137_l26)] [(.int v44_t0)])) target := by
        intro target kt
        show Steps p.tables e below (T137.setTop (mkF m 396 #[.val (.int p1), .val (.int p2), .val (.int p3), .val (.int p4), .val (.int p5), .val (.int p6), .val (.int u1), .val (.int u3), .val (.int u5), .val (.int u7), .val (.int u9), .val (.int u11), .val (.int u13), .val (.int u15), .val (.int u17), .val (.int u19), .val (.int v26_t0), .val (.int v32_t0), .val (.int v38_t0), .val (.int v44_t0), .val (.int v50_t0), .val (.int v56_t0), .val (.int v62_t0), .val (.int u63), .val (.ref b65), .val (.ref b71), .val (.int v137_l26)] [(.int v44_t0)])) _
        refine XS.ifYes X137.here hx rfl (pc0 := 396) (pc' := 416) rfl (hb hby at_396) rfl ((if0 _ _).trans (teq hc139).1) (by decide) (by decide) ?_
        exact kt
      exact ⟨T137, _, v137_l26, X137.mono (by decide) (by decide), e137, N137, (by rw [if_pos hc139]), fun target kt => sg138 _ (sg140 _ (kt))⟩
    · have sg141 : ∀ target, Steps p.tables e below (T137.setTop (mkF m 403 #[.val (.int p1), .val (.int p2), .val (.int p3), .val (.int p4), .val (.int p5), .val (.int p6), .val (.int u1), .val (.int u3), .val (.int u5), .val (.int u7), .val (.int u9), .val (.int u11), .val (.int u13), .val (.int u15), .val (.int u17), .val (.int u19), .val (.int v26_t0), .val (.int v32_t0), .val (.int v38_t0), .val (.int v44_t0), .val (.int v50_t0), .val (.int v56_t0), .val (.int v62_t0), .val (.int u63), .val (.ref b65), .val (.ref b71), .val (.int v137_l26)] [(.int u5), (.int u13)])) target → Steps p.tables e below (T137.setTop (mkF m 396 #[.val (.int p1), .val (.int p2), .val (.int p3), .val (.int p4), .val (.int p5), .val (.int p6), .val (.int u1), .val (.int u3), .val (.int u5), .val (.int u7), .val (.int u9), .val (.int u11), .val (.int u13), .val (.int u15), .val (.int u17), .val (.int u19), .val (.int v26_t0), .val (.int v32_t0), .val (.int v38_t0), .val (.int v44_t0), .val (.int v50_t0), .val (.int v56_t0), .val (.int v62_t0), .val (.int u63), .val (.ref b65), .val (.ref b71), .val (.int v137_l26)] [(.int v44_t0)])) target := by
        intro target kt
        show Steps p.tables e below (T137.setTop (mkF m 396 #[.val (.int p1), .val (.int p2), .val (.int p3), .val (.int p4), .val (.int p5), .val (.int p6), .val (.int u1), .val (.int u3), .val (.int u5), .val (.int u7), .val (.int u9), .val (.int u11), .val (.int u13), .val (.int u15), .val (.int u17), .val (.int u19), .val (.int v26_t0), .val (.int v32_t0), .val (.int v38_t0), .val (.int v44_t0), .val (.int v50_t0), .val (.int v56_t0), .val (.int v62_t0), .val (.int u63), .val (.ref b65), .val (.ref b71), .val (.int v137_l26)] [(.int v44_t0)])) _
        refine XS.ifNo X137.here hx rfl (hb hby at_396) rfl ((if0 _ _).trans (feq hc139).1) ?_
        show Steps p.tables e below (T137.setTop (mkF m 399 #[.val (.int p1), .val (.int p2), .val (.int p3), .val (.int p4), .val (.int p5), .val (.int p6), .val (.int u1), .val (.int u3), .val (.int u5), .val (.int u7), .val (.int u9), .val (.int u11), .val (.int u13), .val (.int u15), .val (.int u17), .val (.int u19), .val (.int v26_t0), .val (.int v32_t0), .val (.int v38_t0), .val (.int v44_t0), .val (.int v50_t0), .val (.int v56_t0), .val (.int v62_t0), .val (.int u63), .val (.ref b65), .val (.ref b71), .val (.int v137_l26)] [])) _
        refine XS.iload X137.here hx rfl (hb hby at_399) rfl ?_
        show Steps p.tables e below (T137.setTop (mkF m 401 #[.val (.int p1), .val (.int p2), .val (.int p3), .val (.int p4), .val (.int p5), .val (.int p6), .val (.int u1), .val (.int u3), .val (.int u5), .val (.int u7), .val (.int u9), .val (.int u11), .val (.int u13), .val (.int u15), .val (.int u17), .val (.int u19), .val (.int v26_t0), .val (.int v32_t0), .val (.int v38_t0), .val (.int v44_t0), .val (.int v50_t0), .val (.int v56_t0), .val (.int v62_t0), .val (.int u63), .val (.ref b65), .val (.ref b71), .val (.int v137_l26)] [(.int u13)])) _
        refine XS.iload X137.here hx rfl (hb hby at_401) rfl ?_
        exact kt
      by_cases hc142 : u13 = u5
      · have sg143 : ∀ target, Steps p.tables e below (T137.setTop (mkF m 410 #[.val (.int p1), .val (.int p2), .val (.int p3), .val (.int p4), .val (.int p5), .val (.int p6), .val (.int u1), .val (.int u3), .val (.int u5), .val (.int u7), .val (.int u9), .val (.int u11), .val (.int u13), .val (.int u15), .val (.int u17), .val (.int u19), .val (.int v26_t0), .val (.int v32_t0), .val (.int v38_t0), .val (.int v44_t0), .val (.int v50_t0), .val (.int v56_t0), .val (.int v62_t0), .val (.int u63), .val (.ref b65), .val (.ref b71), .val (.int v137_l26)] [(.int u7), (.int u15)])) target → Steps p.tables e below (T137.setTop (mkF m 403 #[.val (.int p1), .val (.int p2), .val (.int p3), .val (.int p4), .val (.int p5), .val (.int p6), .val (.int u1), .val (.int u3), .val (.int u5), .val (.int u7), .val (.int u9), .val (.int u11), .val (.int u13), .val (.int u15), .val (.int u17), .val (.int u19), .val (.int v26_t0), .val (.int v32_t0), .val (.int v38_t0), .val (.int v44_t0), .val (.int v50_t0), .val (.int v56_t0), .val (.int v62_t0), .val (.int u63), .val (.ref b65), .val (.ref b71), .val (.int v137_l26)] [(.int u5), (.int u13)])) target := by
          intro target kt
          show Steps p.tables e below (T137.setTop (mkF m 403 #[.val (.int p1), .val (.int p2), .val (.int p3), .val (.int p4), .val (.int p5), .val (.int p6), .val (.int u1), .val (.int u3), .val (.int u5), .val (.int u7), .val (.int u9), .val (.int u11), .val (.int u13), .val (.int u15), .val (.int u17), .val (.int u19), .val (.int v26_t0), .val (.int v32_t0), .val (.int v38_t0), .val (.int v44_t0), .val (.int v50_t0), .val (.int v56_t0), .val (.int v62_t0), .val (.int u63), .val (.ref b65), .val (.ref b71), .val (.int v137_l26)] [(.int u5), (.int u13)])) _
          refine XS.icmpNo X137.here hx rfl (hb hby at_403) rfl (teq hc142).2 ?_
          show Steps p.tables e below (T137.setTop (mkF m 406 #[.val (.int p1), .val (.int p2), .val (.int p3), .val (.int p4), .val (.int p5), .val (.int p6), .val (.int u1), .val (.int u3), .val (.int u5), .val (.int u7), .val (.int u9), .val (.int u11), .val (.int u13), .val (.int u15), .val (.int u17), .val (.int u19), .val (.int v26_t0), .val (.int v32_t0), .val (.int v38_t0), .val (.int v44_t0), .val (.int v50_t0), .val (.int v56_t0), .val (.int v62_t0), .val (.int u63), .val (.ref b65), .val (.ref b71), .val (.int v137_l26)] [])) _
          refine XS.iload X137.here hx rfl (hb hby at_406) rfl ?_
          show Steps p.tables e below (T137.setTop (mkF m 408 #[.val (.int p1), .val (.int p2), .val (.int p3), .val (.int p4), .val (.int p5), .val (.int p6), .val (.int u1), .val (.int u3), .val (.int u5), .val (.int u7), .val (.int u9), .val (.int u11), .val (.int u13), .val (.int u15), .val (.int u17), .val (.int u19), .val (.int v26_t0), .val (.int v32_t0), .val (.int v38_t0), .val (.int v44_t0), .val (.int v50_t0), .val (.int v56_t0), .val (.int v62_t0), .val (.int u63), .val (.ref b65), .val (.ref b71), .val (.int v137_l26)] [(.int u15)])) _
          refine XS.iload X137.here hx rfl (hb hby at_408) rfl ?_
          exact kt
        by_cases hc144 : u15 = u7
        · have sg145 : ∀ target, Steps p.tables e below (T137.setTop (mkF m 416 #[.val (.int p1), .val (.int p2), .val (.int p3), .val (.int p4), .val (.int p5), .val (.int p6), .val (.int u1), .val (.int u3), .val (.int u5), .val (.int u7), .val (.int u9), .val (.int u11), .val (.int u13), .val (.int u15), .val (.int u17), .val (.int u19), .val (.int v26_t0), .val (.int v32_t0), .val (.int v38_t0), .val (.int v44_t0), .val (.int v50_t0), .val (.int v56_t0), .val (.int v62_t0), .val (.int u63), .val (.ref b65), .val (.ref b71), .val (.int (v137_l26 + (1 : Int32)))] [])) target → Steps p.tables e below (T137.setTop (mkF m 410 #[.val (.int p1), .val (.int p2), .val (.int p3), .val (.int p4), .val (.int p5), .val (.int p6), .val (.int u1), .val (.int u3), .val (.int u5), .val (.int u7), .val (.int u9), .val (.int u11), .val (.int u13), .val (.int u15), .val (.int u17), .val (.int u19), .val (.int v26_t0), .val (.int v32_t0), .val (.int v38_t0), .val (.int v44_t0), .val (.int v50_t0), .val (.int v56_t0), .val (.int v62_t0), .val (.int u63), .val (.ref b65), .val (.ref b71), .val (.int v137_l26)] [(.int u7), (.int u15)])) target := by
            intro target kt
            show Steps p.tables e below (T137.setTop (mkF m 410 #[.val (.int p1), .val (.int p2), .val (.int p3), .val (.int p4), .val (.int p5), .val (.int p6), .val (.int u1), .val (.int u3), .val (.int u5), .val (.int u7), .val (.int u9), .val (.int u11), .val (.int u13), .val (.int u15), .val (.int u17), .val (.int u19), .val (.int v26_t0), .val (.int v32_t0), .val (.int v38_t0), .val (.int v44_t0), .val (.int v50_t0), .val (.int v56_t0), .val (.int v62_t0), .val (.int u63), .val (.ref b65), .val (.ref b71), .val (.int v137_l26)] [(.int u7), (.int u15)])) _
            refine XS.icmpNo X137.here hx rfl (hb hby at_410) rfl (teq hc144).2 ?_
            show Steps p.tables e below (T137.setTop (mkF m 413 #[.val (.int p1), .val (.int p2), .val (.int p3), .val (.int p4), .val (.int p5), .val (.int p6), .val (.int u1), .val (.int u3), .val (.int u5), .val (.int u7), .val (.int u9), .val (.int u11), .val (.int u13), .val (.int u15), .val (.int u17), .val (.int u19), .val (.int v26_t0), .val (.int v32_t0), .val (.int v38_t0), .val (.int v44_t0), .val (.int v50_t0), .val (.int v56_t0), .val (.int v62_t0), .val (.int u63), .val (.ref b65), .val (.ref b71), .val (.int v137_l26)] [])) _
            refine XS.iinc X137.here hx rfl (hb hby at_413) rfl (l' := #[.val (.int p1), .val (.int p2), .val (.int p3), .val (.int p4), .val (.int p5), .val (.int p6), .val (.int u1), .val (.int u3), .val (.int u5), .val (.int u7), .val (.int u9), .val (.int u11), .val (.int u13), .val (.int u15), .val (.int u17), .val (.int u19), .val (.int v26_t0), .val (.int v32_t0), .val (.int v38_t0), .val (.int v44_t0), .val (.int v50_t0), .val (.int v56_t0), .val (.int v62_t0), .val (.int u63), .val (.ref b65), .val (.ref b71), .val (.int (v137_l26 + (1 : Int32)))]) rfl ?_
            exact kt
          exact ⟨T137, _, (v137_l26 + (1 : Int32)), X137.mono (by decide) (by decide), e137, N137, (by rw [if_neg hc139, if_pos hc142, if_pos hc144]), fun target kt => sg138 _ (sg141 _ (sg143 _ (sg145 _ (kt))))⟩
        · have sg146 : ∀ target, Steps p.tables e below (T137.setTop (mkF m 416 #[.val (.int p1), .val (.int p2), .val (.int p3), .val (.int p4), .val (.int p5), .val (.int p6), .val (.int u1), .val (.int u3), .val (.int u5), .val (.int u7), .val (.int u9), .val (.int u11), .val (.int u13), .val (.int u15), .val (.int u17), .val (.int u19), .val (.int v26_t0), .val (.int v32_t0), .val (.int v38_t0), .val (.int v44_t0), .val (.int v50_t0), .val (.int v56_t0), .val (.int v62_t0), .val (.int u63), .val (.ref b65), .val (.ref b71), .val (.int v137_l26)] [])) target → Steps p.tables e below (T137.setTop (mkF m 410 #[.val (.int p1), .val (.int p2), .val (.int p3), .val (.int p4), .val (.int p5), .val (.int p6), .val (.int u1), .val (.int u3), .val (.int u5), .val (.int u7), .val (.int u9), .val (.int u11), .val (.int u13), .val (.int u15), .val (.int u17), .val (.int u19), .val (.int v26_t0), .val (.int v32_t0), .val (.int v38_t0), .val (.int v44_t0), .val (.int v50_t0), .val (.int v56_t0), .val (.int v62_t0), .val (.int u63), .val (.ref b65), .val (.ref b71), .val (.int v137_l26)] [(.int u7), (.int u15)])) target := by
            intro target kt
            show Steps p.tables e below (T137.setTop (mkF m 410 #[.val (.int p1), .val (.int p2), .val (.int p3), .val (.int p4), .val (.int p5), .val (.int p6), .val (.int u1), .val (.int u3), .val (.int u5), .val (.int u7), .val (.int u9), .val (.int u11), .val (.int u13), .val (.int u15), .val (.int u17), .val (.int u19), .val (.int v26_t0), .val (.int v32_t0), .val (.int v38_t0), .val (.int v44_t0), .val (.int v50_t0), .val (.int v56_t0), .val (.int v62_t0), .val (.int u63), .val (.ref b65), .val (.ref b71), .val (.int v137_l26)] [(.int u7), (.int u15)])) _
            refine XS.icmpYes X137.here hx rfl (pc0 := 410) (pc' := 416) rfl (hb hby at_410) rfl (feq hc144).2 (by decide) (by decide) ?_
            exact kt
          exact ⟨T137, _, v137_l26, X137.mono (by decide) (by decide), e137, N137, (by rw [if_neg hc139, if_pos hc142, if_neg hc144]), fun target kt => sg138 _ (sg141 _ (sg143 _ (sg146 _ (kt))))⟩
      · have sg147 : ∀ target, Steps p.tables e below (T137.setTop (mkF m 416 #[.val (.int p1), .val (.int p2), .val (.int p3), .val (.int p4), .val (.int p5), .val (.int p6), .val (.int u1), .val (.int u3), .val (.int u5), .val (.int u7), .val (.int u9), .val (.int u11), .val (.int u13), .val (.int u15), .val (.int u17), .val (.int u19), .val (.int v26_t0), .val (.int v32_t0), .val (.int v38_t0), .val (.int v44_t0), .val (.int v50_t0), .val (.int v56_t0), .val (.int v62_t0), .val (.int u63), .val (.ref b65), .val (.ref b71), .val (.int v137_l26)] [])) target → Steps p.tables e below (T137.setTop (mkF m 403 #[.val (.int p1), .val (.int p2), .val (.int p3), .val (.int p4), .val (.int p5), .val (.int p6), .val (.int u1), .val (.int u3), .val (.int u5), .val (.int u7), .val (.int u9), .val (.int u11), .val (.int u13), .val (.int u15), .val (.int u17), .val (.int u19), .val (.int v26_t0), .val (.int v32_t0), .val (.int v38_t0), .val (.int v44_t0), .val (.int v50_t0), .val (.int v56_t0), .val (.int v62_t0), .val (.int u63), .val (.ref b65), .val (.ref b71), .val (.int v137_l26)] [(.int u5), (.int u13)])) target := by
          intro target kt
          show Steps p.tables e below (T137.setTop (mkF m 403 #[.val (.int p1), .val (.int p2), .val (.int p3), .val (.int p4), .val (.int p5), .val (.int p6), .val (.int u1), .val (.int u3), .val (.int u5), .val (.int u7), .val (.int u9), .val (.int u11), .val (.int u13), .val (.int u15), .val (.int u17), .val (.int u19), .val (.int v26_t0), .val (.int v32_t0), .val (.int v38_t0), .val (.int v44_t0), .val (.int v50_t0), .val (.int v56_t0), .val (.int v62_t0), .val (.int u63), .val (.ref b65), .val (.ref b71), .val (.int v137_l26)] [(.int u5), (.int u13)])) _
          refine XS.icmpYes X137.here hx rfl (pc0 := 403) (pc' := 416) rfl (hb hby at_403) rfl (feq hc142).2 (by decide) (by decide) ?_
          exact kt
        exact ⟨T137, _, v137_l26, X137.mono (by decide) (by decide), e137, N137, (by rw [if_neg hc139, if_neg hc142]), fun target kt => sg138 _ (sg141 _ (sg147 _ (kt)))⟩
  obtain ⟨T159, L159, v159_l26, X159, e159, N159, hv159_l26, sg159⟩ : ∃ (T' : State) (L' : List Loc) (v159_l26 : Int32), Stand p l e room_1 s m #[(.int p1), (.int p2), (.int p3), (.int p4), (.int p5), (.int p6)] below meth c T' L' 8 251 ∧ T'.heap = h110 ∧ Fr n0 L' ∧ v159_l26 = (if v50_t0 = (0 : Int32) then v148_l26 else (if u17 = u5 then (if u19 = u7 then (v148_l26 + (-1 : Int32)) else v148_l26) else v148_l26)) ∧ ∀ target, Steps p.tables e below (T'.setTop (mkF m 438 #[.val (.int p1), .val (.int p2), .val (.int p3), .val (.int p4), .val (.int p5), .val (.int p6), .val (.int u1), .val (.int u3), .val (.int u5), .val (.int u7), .val (.int u9), .val (.int u11), .val (.int u13), .val (.int u15), .val (.int u17), .val (.int u19), .val (.int v26_t0), .val (.int v32_t0), .val (.int v38_t0), .val (.int v44_t0), .val (.int v50_t0), .val (.int v56_t0), .val (.int v62_t0), .val (.int u63), .val (.ref b65), .val (.ref b71), .val (.int v159_l26)] [])) target → Steps p.tables e below (T148.setTop (mkF m 416 #[.val (.int p1), .val (.int p2), .val (.int p3), .val (.int p4), .val (.int p5), .val (.int p6), .val (.int u1), .val (.int u3), .val (.int u5), .val (.int u7), .val (.int u9), .val (.int u11), .val (.int u13), .val (.int u15), .val (.int u17), .val (.int u19), .val (.int v26_t0), .val (.int v32_t0), .val (.int v38_t0), .val (.int v44_t0), .val (.int v50_t0), .val (.int v56_t0), .val (.int v62_t0), .val (.int u63), .val (.ref b65), .val (.ref b71), .val (.int v148_l26)] [])) target := by
    have sg149 : ∀ target, Steps p.tables e below (T148.setTop (mkF m 418 #[.val (.int p1), .val (.int p2), .val (.int p3), .val (.int p4), .val (.int p5), .val (.int p6), .val (.int u1), .val (.int u3), .val (.int u5), .val (.int u7), .val (.int u9), .val (.int u11), .val (.int u13), .val (.int u15), .val (.int u17), .val (.int u19), .val (.int v26_t0), .val (.int v32_t0), .val (.int v38_t0), .val (.int v44_t0), .val (.int v50_t0), .val (.int v56_t0), .val (.int v62_t0), .val (.int u63), .val (.ref b65), .val (.ref b71), .val (.int v148_l26)] [(.int v50_t0)])) target → Steps p.tables e below (T148.setTop (mkF m 416 #[.val (.int p1), .val (.int p2), .val (.int p3), .val (.int p4), .val (.int p5), .val (.int p6), .val (.int u1), .val (.int u3), .val (.int u5), .val (.int u7), .val (.int u9), .val (.int u11), .val (.int u13), .val (.int u15), .val (.int u17), .val (.int u19), .val (.int v26_t0), .val (.int v32_t0), .val (.int v38_t0), .val (.int v44_t0), .val (.int v50_t0), .val (.int v56_t0), .val (.int v62_t0), .val (.int u63), .val (.ref b65), .val (.ref b71), .val (.int v148_l26)] [])) target := by
      intro target kt
      show Steps p.tables e below (T148.setTop (mkF m 416 #[.val (.int p1), .val (.int p2), .val (.int p3), .val (.int p4), .val (.int p5), .val (.int p6), .val (.int u1), .val (.int u3), .val (.int u5), .val (.int u7), .val (.int u9), .val (.int u11), .val (.int u13), .val (.int u15), .val (.int u17), .val (.int u19), .val (.int v26_t0), .val (.int v32_t0), .val (.int v38_t0), .val (.int v44_t0), .val (.int v50_t0), .val (.int v56_t0), .val (.int v62_t0), .val (.int u63), .val (.ref b65), .val (.ref b71), .val (.int v148_l26)] [])) _
      refine XS.iload X148.here hx rfl (hb hby at_416) rfl ?_
      exact kt
    by_cases hc150 : v50_t0 = (0 : Int32)
    · have sg151 : ∀ target, Steps p.tables e below (T148.setTop (mkF m 438 #[.val (.int p1), .val (.int p2), .val (.int p3), .val (.int p4), .val (.int p5), .val (.int p6), .val (.int u1), .val (.int u3), .val (.int u5), .val (.int u7), .val (.int u9), .val (.int u11), .val (.int u13), .val (.int u15), .val (.int u17), .val (.int u19), .val (.int v26_t0), .val (.int v32_t0), .val (.int v38_t0), .val (.int v44_t0), .val (.int v50_t0), .val (.int v56_t0), .val (.int v62_t0), .val (.int u63), .val (.ref b65), .val (.ref b71), .val (.int v148_l26)] [])) target → Steps p.tables e below (T148.setTop (mkF m 418 #[.val (.int p1), .val (.int p2), .val (.int p3), .val (.int p4), .val (.int p5), .val (.int p6), .val (.int u1), .val (.int u3), .val (.int u5), .val (.int u7), .val (.int u9), .val (.int u11), .val (.int u13), .val (.int u15), .val (.int u17), .val (.int u19), .val (.int v26_t0), .val (.int v32_t0), .val (.int v38_t0), .val (.int v44_t0), .val (.int v50_t0), .val (.int v56_t0), .val (.int v62_t0), .val (.int u63), .val (.ref b65), .val (.ref b71), .val (.int v148_l26)] [(.int v50_t0)])) target := by
        intro target kt
        show Steps p.tables e below (T148.setTop (mkF m 418 #[.val (.int p1), .val (.int p2), .val (.int p3), .val (.int p4), .val (.int p5), .val (.int p6), .val (.int u1), .val (.int u3), .val (.int u5), .val (.int u7), .val (.int u9), .val (.int u11), .val (.int u13), .val (.int u15), .val (.int u17), .val (.int u19), .val (.int v26_t0), .val (.int v32_t0), .val (.int v38_t0), .val (.int v44_t0), .val (.int v50_t0), .val (.int v56_t0), .val (.int v62_t0), .val (.int u63), .val (.ref b65), .val (.ref b71), .val (.int v148_l26)] [(.int v50_t0)])) _
        refine XS.ifYes X148.here hx rfl (pc0 := 418) (pc' := 438) rfl (hb hby at_418) rfl ((if0 _ _).trans (teq hc150).1) (by decide) (by decide) ?_
        exact kt
      exact ⟨T148, _, v148_l26, X148.mono (by decide) (by decide), e148, N148, (by rw [if_pos hc150]), fun target kt => sg149 _ (sg151 _ (kt))⟩
    · have sg152 : ∀ target, Steps p.tables e below (T148.setTop (mkF m 425 #[.val (.int p1), .val (.int p2), .val (.int p3), .val (.int p4), .val (.int p5), .val (.int p6), .val (.int u1), .val (.int u3), .val (.int u5), .val (.int u7), .val (.int u9), .val (.int u11), .val (.int u13), .val (.int u15), .val (.int u17), .val (.int u19), .val (.int v26_t0), .val (.int v32_t0), .val (.int v38_t0), .val (.int v44_t0), .val (.int v50_t0), .val (.int v56_t0), .val (.int v62_t0), .val (.int u63), .val (.ref b65), .val (.ref b71), .val (.int v148_l26)] [(.int u5), (.int u17)])) target → Steps p.tables e below (T148.setTop (mkF m 418 #[.val (.int p1), .val (.int p2), .val (.int p3), .val (.int p4), .val (.int p5), .val (.int p6), .val (.int u1), .val (.int u3), .val (.int u5), .val (.int u7), .val (.int u9), .val (.int u11), .val (.int u13), .val (.int u15), .val (.int u17), .val (.int u19), .val (.int v26_t0), .val (.int v32_t0), .val (.int v38_t0), .val (.int v44_t0), .val (.int v50_t0), .val (.int v56_t0), .val (.int v62_t0), .val (.int u63), .val (.ref b65), .val (.ref b71), .val (.int v148_l26)] [(.int v50_t0)])) target := by
        intro target kt
        show Steps p.tables e below (T148.setTop (mkF m 418 #[.val (.int p1), .val (.int p2), .val (.int p3), .val (.int p4), .val (.int p5), .val (.int p6), .val (.int u1), .val (.int u3), .val (.int u5), .val (.int u7), .val (.int u9), .val (.int u11), .val (.int u13), .val (.int u15), .val (.int u17), .val (.int u19), .val (.int v26_t0), .val (.int v32_t0), .val (.int v38_t0), .val (.int v44_t0), .val (.int v50_t0), .val (.int v56_t0), .val (.int v62_t0), .val (.int u63), .val (.ref b65), .val (.ref b71), .val (.int v148_l26)] [(.int v50_t0)])) _
        refine XS.ifNo X148.here hx rfl (hb hby at_418) rfl ((if0 _ _).trans (feq hc150).1) ?_
        show Steps p.tables e below (T148.setTop (mkF m 421 #[.val (.int p1), .val (.int p2), .val (.int p3), .val (.int p4), .val (.int p5), .val (.int p6), .val (.int u1), .val (.int u3), .val (.int u5), .val (.int u7), .val (.int u9), .val (.int u11), .val (.int u13), .val (.int u15), .val (.int u17), .val (.int u19), .val (.int v26_t0), .val (.int v32_t0), .val (.int v38_t0), .val (.int v44_t0), .val (.int v50_t0), .val (.int v56_t0), .val (.int v62_t0), .val (.int u63), .val (.ref b65), .val (.ref b71), .val (.int v148_l26)] [])) _
        refine XS.iload X148.here hx rfl (hb hby at_421) rfl ?_
        show Steps p.tables e below (T148.setTop (mkF m 423 #[.val (.int p1), .val (.int p2), .val (.int p3), .val (.int p4), .val (.int p5), .val (.int p6), .val (.int u1), .val (.int u3), .val (.int u5), .val (.int u7), .val (.int u9), .val (.int u11), .val (.int u13), .val (.int u15), .val (.int u17), .val (.int u19), .val (.int v26_t0), .val (.int v32_t0), .val (.int v38_t0), .val (.int v44_t0), .val (.int v50_t0), .val (.int v56_t0), .val (.int v62_t0), .val (.int u63), .val (.ref b65), .val (.ref b71), .val (.int v148_l26)] [(.int u17)])) _
        refine XS.iload X148.here hx rfl (hb hby at_423) rfl ?_
        exact kt
      by_cases hc153 : u17 = u5
      · have sg154 : ∀ target, Steps p.tables e below (T148.setTop (mkF m 432 #[.val (.int p1), .val (.int p2), .val (.int p3), .val (.int p4), .val (.int p5), .val (.int p6), .val (.int u1), .val (.int u3), .val (.int u5), .val (.int u7), .val (.int u9), .val (.int u11), .val (.int u13), .val (.int u15), .val (.int u17), .val (.int u19), .val (.int v26_t0), .val (.int v32_t0), .val (.int v38_t0), .val (.int v44_t0), .val (.int v50_t0), .val (.int v56_t0), .val (.int v62_t0), .val (.int u63), .val (.ref b65), .val (.ref b71), .val (.int v148_l26)] [(.int u7), (.int u19)])) target → Steps p.tables e below (T148.setTop (mkF m 425 #[.val (.int p1), .val (.int p2), .val (.int p3), .val (.int p4), .val (.int p5), .val (.int p6), .val (.int u1), .val (.int u3), .val (.int u5), .val (.int u7), .val (.int u9), .val (.int u11), .val (.int u13), .val (.int u15), .val (.int u17), .val (.int u19), .val (.int v26_t0), .val (.int v32_t0), .val (.int v38_t0), .val (.int v44_t0), .val (.int v50_t0), .val (.int v56_t0), .val (.int v62_t0), .val (.int u63), .val (.ref b65), .val (.ref b71), .val (.int v148_l26)] [(.int u5), (.int u17)])) target := by
          intro target kt
          show Steps p.tables e below (T148.setTop (mkF m 425 #[.val (.int p1), .val (.int p2), .val (.int p3), .val (.int p4), .val (.int p5), .val (.int p6), .val (.int u1), .val (.int u3), .val (.int u5), .val (.int u7), .val (.int u9), .val (.int u11), .val (.int u13), .val (.int u15), .val (.int u17), .val (.int u19), .val (.int v26_t0), .val (.int v32_t0), .val (.int v38_t0), .val (.int v44_t0), .val (.int v50_t0), .val (.int v56_t0), .val (.int v62_t0), .val (.int u63), .val (.ref b65), .val (.ref b71), .val (.int v148_l26)] [(.int u5), (.int u17)])) _
          refine XS.icmpNo X148.here hx rfl (hb hby at_425) rfl (teq hc153).2 ?_
          show Steps p.tables e below (T148.setTop (mkF m 428 #[.val (.int p1), .val (.int p2), .val (.int p3), .val (.int p4), .val (.int p5), .val (.int p6), .val (.int u1), .val (.int u3), .val (.int u5), .val (.int u7), .val (.int u9), .val (.int u11), .val (.int u13), .val (.int u15), .val (.int u17), .val (.int u19), .val (.int v26_t0), .val (.int v32_t0), .val (.int v38_t0), .val (.int v44_t0), .val (.int v50_t0), .val (.int v56_t0), .val (.int v62_t0), .val (.int u63), .val (.ref b65), .val (.ref b71), .val (.int v148_l26)] [])) _
          refine XS.iload X148.here hx rfl (hb hby at_428) rfl ?_
          show Steps p.tables e below (T148.setTop (mkF m 430 #[.val (.int p1), .val (.int p2), .val (.int p3), .val (.int p4), .val (.int p5), .val (.int p6), .val (.int u1), .val (.int u3), .val (.int u5), .val (.int u7), .val (.int u9), .val (.int u11), .val (.int u13), .val (.int u15), .val (.int u17), .val (.int u19), .val (.int v26_t0), .val (.int v32_t0), .val (.int v38_t0), .val (.int v44_t0), .val (.int v50_t0), .val (.int v56_t0), .val (.int v62_t0), .val (.int u63), .val (.ref b65), .val (.ref b71), .val (.int v148_l26)] [(.int u19)])) _
          refine XS.iload X148.here hx rfl (hb hby at_430) rfl ?_
          exact kt
        by_cases hc155 : u19 = u7
        · have sg156 : ∀ target, Steps p.tables e below (T148.setTop (mkF m 438 #[.val (.int p1), .val (.int p2), .val (.int p3), .val (.int p4), .val (.int p5), .val (.int p6), .val (.int u1), .val (.int u3), .val (.int u5), .val (.int u7), .val (.int u9), .val (.int u11), .val (.int u13), .val (.int u15), .val (.int u17), .val (.int u19), .val (.int v26_t0), .val (.int v32_t0), .val (.int v38_t0), .val (.int v44_t0), .val (.int v50_t0), .val (.int v56_t0), .val (.int v62_t0), .val (.int u63), .val (.ref b65), .val (.ref b71), .val (.int (v148_l26 + (-1 : Int32)))] [])) target → Steps p.tables e below (T148.setTop (mkF m 432 #[.val (.int p1), .val (.int p2), .val (.int p3), .val (.int p4), .val (.int p5), .val (.int p6), .val (.int u1), .val (.int u3), .val (.int u5), .val (.int u7), .val (.int u9), .val (.int u11), .val (.int u13), .val (.int u15), .val (.int u17), .val (.int u19), .val (.int v26_t0), .val (.int v32_t0), .val (.int v38_t0), .val (.int v44_t0), .val (.int v50_t0), .val (.int v56_t0), .val (.int v62_t0), .val (.int u63), .val (.ref b65), .val (.ref b71), .val (.int v148_l26)] [(.int u7), (.int u19)])) target := by
            intro target kt
            show Steps p.tables e below (T148.setTop (mkF m 432 #[.val (.int p1), .val (.int p2), .val (.int p3), .val (.int p4), .val (.int p5), .val (.int p6), .val (.int u1), .val (.int u3), .val (.int u5), .val (.int u7), .val (.int u9), .val (.int u11), .val (.int u13), .val (.int u15), .val (.int u17), .val (.int u19), .val (.int v26_t0), .val (.int v32_t0), .val (.int v38_t0), .val (.int v44_t0), .val (.int v50_t0), .val (.int v56_t0), .val (.int v62_t0), .val (.int u63), .val (.ref b65), .val (.ref b71), .val (.int v148_l26)] [(.int u7), (.int u19)])) _
            refine XS.icmpNo X148.here hx rfl (hb hby at_432) rfl (teq hc155).2 ?_
            show Steps p.tables e below (T148.setTop (mkF m 435 #[.val (.int p1), .val (.int p2), .val (.int p3), .val (.int p4), .val (.int p5), .val (.int p6), .val (.int u1), .val (.int u3), .val (.int u5), .val (.int u7), .val (.int u9), .val (.int u11), .val (.int u13), .val (.int u15), .val (.int u17), .val (.int u19), .val (.int v26_t0), .val (.int v32_t0), .val (.int v38_t0), .val (.int v44_t0), .val (.int v50_t0), .val (.int v56_t0), .val (.int v62_t0), .val (.int u63), .val (.ref b65), .val (.ref b71), .val (.int v148_l26)] [])) _
            refine XS.iinc X148.here hx rfl (hb hby at_435) rfl (l' := #[.val (.int p1), .val (.int p2), .val (.int p3), .val (.int p4), .val (.int p5), .val (.int p6), .val (.int u1), .val (.int u3), .val (.int u5), .val (.int u7), .val (.int u9), .val (.int u11), .val (.int u13), .val (.int u15), .val (.int u17), .val (.int u19), .val (.int v26_t0), .val (.int v32_t0), .val (.int v38_t0), .val (.int v44_t0), .val (.int v50_t0), .val (.int v56_t0), .val (.int v62_t0), .val (.int u63), .val (.ref b65), .val (.ref b71), .val (.int (v148_l26 + (-1 : Int32)))]) rfl ?_
            exact kt
          exact ⟨T148, _, (v148_l26 + (-1 : Int32)), X148.mono (by decide) (by decide), e148, N148, (by rw [if_neg hc150, if_pos hc153, if_pos hc155]), fun target kt => sg149 _ (sg152 _ (sg154 _ (sg156 _ (kt))))⟩
        · have sg157 : ∀ target, Steps p.tables e below (T148.setTop (mkF m 438 #[.val (.int p1), .val (.int p2), .val (.int p3), .val (.int p4), .val (.int p5), .val (.int p6), .val (.int u1), .val (.int u3), .val (.int u5), .val (.int u7), .val (.int u9), .val (.int u11), .val (.int u13), .val (.int u15), .val (.int u17), .val (.int u19), .val (.int v26_t0), .val (.int v32_t0), .val (.int v38_t0), .val (.int v44_t0), .val (.int v50_t0), .val (.int v56_t0), .val (.int v62_t0), .val (.int u63), .val (.ref b65), .val (.ref b71), .val (.int v148_l26)] [])) target → Steps p.tables e below (T148.setTop (mkF m 432 #[.val (.int p1), .val (.int p2), .val (.int p3), .val (.int p4), .val (.int p5), .val (.int p6), .val (.int u1), .val (.int u3), .val (.int u5), .val (.int u7), .val (.int u9), .val (.int u11), .val (.int u13), .val (.int u15), .val (.int u17), .val (.int u19), .val (.int v26_t0), .val (.int v32_t0), .val (.int v38_t0), .val (.int v44_t0), .val (.int v50_t0), .val (.int v56_t0), .val (.int v62_t0), .val (.int u63), .val (.ref b65), .val (.ref b71), .val (.int v148_l26)] [(.int u7), (.int u19)])) target := by
            intro target kt
            show Steps p.tables e below (T148.setTop (mkF m 432 #[.val (.int p1), .val (.int p2), .val (.int p3), .val (.int p4), .val (.int p5), .val (.int p6), .val (.int u1), .val (.int u3), .val (.int u5), .val (.int u7), .val (.int u9), .val (.int u11), .val (.int u13), .val (.int u15), .val (.int u17), .val (.int u19), .val (.int v26_t0), .val (.int v32_t0), .val (.int v38_t0), .val (.int v44_t0), .val (.int v50_t0), .val (.int v56_t0), .val (.int v62_t0), .val (.int u63), .val (.ref b65), .val (.ref b71), .val (.int v148_l26)] [(.int u7), (.int u19)])) _
            refine XS.icmpYes X148.here hx rfl (pc0 := 432) (pc' := 438) rfl (hb hby at_432) rfl (feq hc155).2 (by decide) (by decide) ?_
            exact kt
          exact ⟨T148, _, v148_l26, X148.mono (by decide) (by decide), e148, N148, (by rw [if_neg hc150, if_pos hc153, if_neg hc155]), fun target kt => sg149 _ (sg152 _ (sg154 _ (sg157 _ (kt))))⟩
      · have sg158 : ∀ target, Steps p.tables e below (T148.setTop (mkF m 438 #[.val (.int p1), .val (.int p2), .val (.int p3), .val (.int p4), .val (.int p5), .val (.int p6), .val (.int u1), .val (.int u3), .val (.int u5), .val (.int u7), .val (.int u9), .val (.int u11), .val (.int u13), .val (.int u15), .val (.int u17), .val (.int u19), .val (.int v26_t0), .val (.int v32_t0), .val (.int v38_t0), .val (.int v44_t0), .val (.int v50_t0), .val (.int v56_t0), .val (.int v62_t0), .val (.int u63), .val (.ref b65), .val (.ref b71), .val (.int v148_l26)] [])) target → Steps p.tables e below (T148.setTop (mkF m 425 #[.val (.int p1), .val (.int p2), .val (.int p3), .val (.int p4), .val (.int p5), .val (.int p6), .val (.int u1), .val (.int u3), .val (.int u5), .val (.int u7), .val (.int u9), .val (.int u11), .val (.int u13), .val (.int u15), .val (.int u17), .val (.int u19), .val (.int v26_t0), .val (.int v32_t0), .val (.int v38_t0), .val (.int v44_t0), .val (.int v50_t0), .val (.int v56_t0), .val (.int v62_t0), .val (.int u63), .val (.ref b65), .val (.ref b71), .val (.int v148_l26)] [(.int u5), (.int u17)])) target := by
          intro target kt
          show Steps p.tables e below (T148.setTop (mkF m 425 #[.val (.int p1), .val (.int p2), .val (.int p3), .val (.int p4), .val (.int p5), .val (.int p6), .val (.int u1), .val (.int u3), .val (.int u5), .val (.int u7), .val (.int u9), .val (.int u11), .val (.int u13), .val (.int u15), .val (.int u17), .val (.int u19), .val (.int v26_t0), .val (.int v32_t0), .val (.int v38_t0), .val (.int v44_t0), .val (.int v50_t0), .val (.int v56_t0), .val (.int v62_t0), .val (.int u63), .val (.ref b65), .val (.ref b71), .val (.int v148_l26)] [(.int u5), (.int u17)])) _
          refine XS.icmpYes X148.here hx rfl (pc0 := 425) (pc' := 438) rfl (hb hby at_425) rfl (feq hc153).2 (by decide) (by decide) ?_
          exact kt
        exact ⟨T148, _, v148_l26, X148.mono (by decide) (by decide), e148, N148, (by rw [if_neg hc150, if_neg hc153]), fun target kt => sg149 _ (sg152 _ (sg158 _ (kt)))⟩
  have hall := own_all rel_92 rel_98 rel_104 rel_110 (Sm.add (Sm.lit (by decide)) h_xn (by omega) : Sm ((0 : Int32) + u68) (0 + xn)) sms_92 sms_98 sms_104 need_110 lt_n8 lt_n9 lt_n10 lt_n11 lt_n12 lt_n13 lt_n14 lt_n15
  have hwb := own_wb rel80 rel86 h_m23 b_m23
  obtain ⟨cq160, kq160, q160a, q160b, q160c⟩ := isOf hZ e159 (((((((A71.keep K73q).keep K80).keep K86).keep K92).keep K98).keep K104).keep K110)
  obtain ⟨_, _, ⟨T160, L160, k160, n160⟩, -, X160, ⟨Lc160, hQ160, l160, y160, z160⟩, st160⟩ := X159.virtualBack hx (y := (⟨"com/example/breakline/breakline/ModifierTable", "get", "(II)D"⟩ : MethodName)) (z := (⟨"com/example/breakline/breakline/ModifierTable", "get", "(II)D"⟩ : MethodName)) hown (mvT hZ (tw hw 87 rfl)) (mvT hZ (tw hw 88 rfl)) (notFace_of_selects (args := #[]) (mvT hZ (tw hw 90 rfl))) (mvT hZ (tw hw 90 rfl)) (mvT hZ (tw hw 89 rfl)) (by decide) (backOf (W := 0) (rm14 l Z a0 hw [] b71 u5 u7 at98 at104 at110 b65 u1 u3 wv86 ar110 ka110 cv110 cn110 fv110 own nbn n8 n9 sn92 sn98 (if v56_t0 = (0 : Int32) then sn104 else (0 + xn)) h110 n0 O110 (((((((A71.keep K73q).keep K80).keep K86).keep K92).keep K98).keep K104).keep K110) T110_rowsAt T110_columnsAt T110_entriesAt T110_numbers T110_ownValues T110_neighbourValues T110_whole ((((((((((A65.keep K67q).keep K70q).ext E71).keep K73q).keep K80).keep K86).keep K92).keep K98).keep K104).keep K110) M110_numbers A110_r smc_110 c48_110 h_nbn h_n8 h_n9 lt_n8 lt_n9 b4_own b4_nbn hall.1 hall.2.1 hall.2.2.1 hwb hall.2.2.2.1) hZ (tw hw 91 rfl) (tw hw 46 rfl) (by decide) (by decide)) q160a q160c (g := (mkF m 444 #[.val (.int p1), .val (.int p2), .val (.int p3), .val (.int p4), .val (.int p5), .val (.int p6), .val (.int u1), .val (.int u3), .val (.int u5), .val (.int u7), .val (.int u9), .val (.int u11), .val (.int u13), .val (.int u15), .val (.int u17), .val (.int u19), .val (.int v26_t0), .val (.int v32_t0), .val (.int v38_t0), .val (.int v44_t0), .val (.int v50_t0), .val (.int v56_t0), .val (.int v62_t0), .val (.int u63), .val (.ref b65), .val (.ref b71), .val (.int v159_l26)] [(.int u7), (.int u5), (.ref b71)])) rfl (by rw [hml]; rfl) (Steps.refl _) (argsL := [(.int u5), (.int u7)]) (rest := []) (lenOf pd_13 rfl) rfl (by show 2 * 0 + _ ≤ _; exact Nat.le_of_eq rfl) (hb hby at_444) (fun _ _ => ⟨rfl, e159, (by decide : 8 + 0 ≤ _), (by decide : 251 + 0 ≤ _)⟩)
  dsimp only [Pt.U, Pt.locs, Pt.cells, Pt.slots] at X160 l160 y160 z160 st160 hQ160
  subst l160 y160 z160
  obtain ⟨rfl, N160q, e160⟩ := hQ160
  have N160 := Fr.app N159 N160q
  have hfin := own_fin rel80 rel86 h_m23 b_m23 hall.2.2.2.2 h_n8 h_n9 h_n10 h_n11 h_n12 h_n13 h_n14 h_n15 hv115_t0 hv121_l26 hv129_l26 hv137_l26 hv148_l26 hv159_l26
  have hfin := own_fin rel80 rel86 h_m23 b_m23 hall.2.2.2.2 h_n8 h_n9 h_n10 h_n11 h_n12 h_n13 h_n14 h_n15 hv115_t0 hv121_l26 hv129_l26 hv137_l26 hv148_l26 hv159_l26
  have sg161 : ∀ target, Steps p.tables e below (T160.setTop (mkF m 459 #[.val (.int p1), .val (.int p2), .val (.int p3), .val (.int p4), .val (.int p5), .val (.int p6), .val (.int u1), .val (.int u3), .val (.int u5), .val (.int u7), .val (.int u9), .val (.int u11), .val (.int u13), .val (.int u15), .val (.int u17), .val (.int u19), .val (.int v26_t0), .val (.int v32_t0), .val (.int v38_t0), .val (.int v44_t0), .val (.int v50_t0), .val (.int v56_t0), .val (.int v62_t0), .val (.int u63), .val (.ref b65), .val (.ref b71), .val (.int v159_l26)] [(.int (1 : Int32))])) target → Steps p.tables e below (T159.setTop (mkF m 438 #[.val (.int p1), .val (.int p2), .val (.int p3), .val (.int p4), .val (.int p5), .val (.int p6), .val (.int u1), .val (.int u3), .val (.int u5), .val (.int u7), .val (.int u9), .val (.int u11), .val (.int u13), .val (.int u15), .val (.int u17), .val (.int u19), .val (.int v26_t0), .val (.int v32_t0), .val (.int v38_t0), .val (.int v44_t0), .val (.int v50_t0), .val (.int v56_t0), .val (.int v62_t0), .val (.int u63), .val (.ref b65), .val (.ref b71), .val (.int v159_l26)] [])) target := by
    intro target kt
    show Steps p.tables e below (T159.setTop (mkF m 438 #[.val (.int p1), .val (.int p2), .val (.int p3), .val (.int p4), .val (.int p5), .val (.int p6), .val (.int u1), .val (.int u3), .val (.int u5), .val (.int u7), .val (.int u9), .val (.int u11), .val (.int u13), .val (.int u15), .val (.int u17), .val (.int u19), .val (.int v26_t0), .val (.int v32_t0), .val (.int v38_t0), .val (.int v44_t0), .val (.int v50_t0), .val (.int v56_t0), .val (.int v62_t0), .val (.int u63), .val (.ref b65), .val (.ref b71), .val (.int v159_l26)] [])) _
    refine XS.aload X159.here hx rfl (hb hby at_438) rfl rfl ?_
    show Steps p.tables e below (T159.setTop (mkF m 440 #[.val (.int p1), .val (.int p2), .val (.int p3), .val (.int p4), .val (.int p5), .val (.int p6), .val (.int u1), .val (.int u3), .val (.int u5), .val (.int u7), .val (.int u9), .val (.int u11), .val (.int u13), .val (.int u15), .val (.int u17), .val (.int u19), .val (.int v26_t0), .val (.int v32_t0), .val (.int v38_t0), .val (.int v44_t0), .val (.int v50_t0), .val (.int v56_t0), .val (.int v62_t0), .val (.int u63), .val (.ref b65), .val (.ref b71), .val (.int v159_l26)] [(.ref b71)])) _
    refine XS.iload X159.here hx rfl (hb hby at_440) rfl ?_
    show Steps p.tables e below (T159.setTop (mkF m 442 #[.val (.int p1), .val (.int p2), .val (.int p3), .val (.int p4), .val (.int p5), .val (.int p6), .val (.int u1), .val (.int u3), .val (.int u5), .val (.int u7), .val (.int u9), .val (.int u11), .val (.int u13), .val (.int u15), .val (.int u17), .val (.int u19), .val (.int v26_t0), .val (.int v32_t0), .val (.int v38_t0), .val (.int v44_t0), .val (.int v50_t0), .val (.int v56_t0), .val (.int v62_t0), .val (.int u63), .val (.ref b65), .val (.ref b71), .val (.int v159_l26)] [(.int u5), (.ref b71)])) _
    refine XS.iload X159.here hx rfl (hb hby at_442) rfl ?_
    show Steps p.tables e below (T159.setTop (mkF m 444 #[.val (.int p1), .val (.int p2), .val (.int p3), .val (.int p4), .val (.int p5), .val (.int p6), .val (.int u1), .val (.int u3), .val (.int u5), .val (.int u7), .val (.int u9), .val (.int u11), .val (.int u13), .val (.int u15), .val (.int u17), .val (.int u19), .val (.int v26_t0), .val (.int v32_t0), .val (.int v38_t0), .val (.int v44_t0), .val (.int v50_t0), .val (.int v56_t0), .val (.int v62_t0), .val (.int u63), .val (.ref b65), .val (.ref b71), .val (.int v159_l26)] [(.int u7), (.int u5), (.ref b71)])) _
    refine st160.trans ?_
    show Steps p.tables e below (T160.setTop (mkF m 447 #[.val (.int p1), .val (.int p2), .val (.int p3), .val (.int p4), .val (.int p5), .val (.int p6), .val (.int u1), .val (.int u3), .val (.int u5), .val (.int u7), .val (.int u9), .val (.int u11), .val (.int u13), .val (.int u15), .val (.int u17), .val (.int u19), .val (.int v26_t0), .val (.int v32_t0), .val (.int v38_t0), .val (.int v44_t0), .val (.int v50_t0), .val (.int v56_t0), .val (.int v62_t0), .val (.int u63), .val (.ref b65), .val (.ref b71), .val (.int v159_l26)] [(.double (FP.l2d (ad at110 (ad at104 (ad at98 wv86 (fv110 (sn92 + n8))) (fv110 (sn98 + n9))) (fv110 ((if v56_t0 = (0 : Int32) then sn104 else (0 + xn)) + (n8 * nbn) + n9)))))])) _
    refine XS.iload X160.here hx rfl (hb hby at_447) rfl ?_
    show Steps p.tables e below (T160.setTop (mkF m 449 #[.val (.int p1), .val (.int p2), .val (.int p3), .val (.int p4), .val (.int p5), .val (.int p6), .val (.int u1), .val (.int u3), .val (.int u5), .val (.int u7), .val (.int u9), .val (.int u11), .val (.int u13), .val (.int u15), .val (.int u17), .val (.int u19), .val (.int v26_t0), .val (.int v32_t0), .val (.int v38_t0), .val (.int v44_t0), .val (.int v50_t0), .val (.int v56_t0), .val (.int v62_t0), .val (.int u63), .val (.ref b65), .val (.ref b71), .val (.int v159_l26)] [(.int v159_l26), (.double (FP.l2d (ad at110 (ad at104 (ad at98 wv86 (fv110 (sn92 + n8))) (fv110 (sn98 + n9))) (fv110 ((if v56_t0 = (0 : Int32) then sn104 else (0 + xn)) + (n8 * nbn) + n9)))))])) _
    refine XS.i2dS X160.here hx rfl (hb hby at_449) rfl (i2d_w _) ?_
    show Steps p.tables e below (T160.setTop (mkF m 450 #[.val (.int p1), .val (.int p2), .val (.int p3), .val (.int p4), .val (.int p5), .val (.int p6), .val (.int u1), .val (.int u3), .val (.int u5), .val (.int u7), .val (.int u9), .val (.int u11), .val (.int u13), .val (.int u15), .val (.int u17), .val (.int u19), .val (.int v26_t0), .val (.int v32_t0), .val (.int v38_t0), .val (.int v44_t0), .val (.int v50_t0), .val (.int v56_t0), .val (.int v62_t0), .val (.int u63), .val (.ref b65), .val (.ref b71), .val (.int v159_l26)] [(.double (FP.l2d v159_l26.toInt64)), (.double (FP.l2d (ad at110 (ad at104 (ad at98 wv86 (fv110 (sn92 + n8))) (fv110 (sn98 + n9))) (fv110 ((if v56_t0 = (0 : Int32) then sn104 else (0 + xn)) + (n8 * nbn) + n9)))))])) _
    refine XS.dcmpS X160.here hx rfl (hb hby at_450) rfl (dcmpV_w (own_bad (own_bad (own_bad hwb (hall.2.2.2.1 _)) (hall.2.2.2.1 _)) (hall.2.2.2.1 _)).b53 (own_b53 _) .l) ?_
    show Steps p.tables e below (T160.setTop (mkF m 451 #[.val (.int p1), .val (.int p2), .val (.int p3), .val (.int p4), .val (.int p5), .val (.int p6), .val (.int u1), .val (.int u3), .val (.int u5), .val (.int u7), .val (.int u9), .val (.int u11), .val (.int u13), .val (.int u15), .val (.int u17), .val (.int u19), .val (.int v26_t0), .val (.int v32_t0), .val (.int v38_t0), .val (.int v44_t0), .val (.int v50_t0), .val (.int v56_t0), .val (.int v62_t0), .val (.int u63), .val (.ref b65), .val (.ref b71), .val (.int v159_l26)] [(.int (lcmpW (ad at110 (ad at104 (ad at98 wv86 (fv110 (sn92 + n8))) (fv110 (sn98 + n9))) (fv110 ((if v56_t0 = (0 : Int32) then sn104 else (0 + xn)) + (n8 * nbn) + n9))) v159_l26.toInt64))])) _
    refine XS.ifNo X160.here hx rfl (hb hby at_451) rfl ((if0 _ _).trans (teq ((lw_eq _ _).mpr hfin)).2) ?_
    show Steps p.tables e below (T160.setTop (mkF m 454 #[.val (.int p1), .val (.int p2), .val (.int p3), .val (.int p4), .val (.int p5), .val (.int p6), .val (.int u1), .val (.int u3), .val (.int u5), .val (.int u7), .val (.int u9), .val (.int u11), .val (.int u13), .val (.int u15), .val (.int u17), .val (.int u19), .val (.int v26_t0), .val (.int v32_t0), .val (.int v38_t0), .val (.int v44_t0), .val (.int v50_t0), .val (.int v56_t0), .val (.int v62_t0), .val (.int u63), .val (.ref b65), .val (.ref b71), .val (.int v159_l26)] [])) _
    refine XS.iconst X160.here hx rfl (hb hby at_454) ?_
    show Steps p.tables e below (T160.setTop (mkF m 455 #[.val (.int p1), .val (.int p2), .val (.int p3), .val (.int p4), .val (.int p5), .val (.int p6), .val (.int u1), .val (.int u3), .val (.int u5), .val (.int u7), .val (.int u9), .val (.int u11), .val (.int u13), .val (.int u15), .val (.int u17), .val (.int u19), .val (.int v26_t0), .val (.int v32_t0), .val (.int v38_t0), .val (.int v44_t0), .val (.int v50_t0), .val (.int v56_t0), .val (.int v62_t0), .val (.int u63), .val (.ref b65), .val (.ref b71), .val (.int v159_l26)] [(.int (1 : Int32))])) _
    refine XS.goto X160.here hx rfl (pc0 := 455) (pc' := 459) rfl (hb hby at_455) (by decide) (by decide) ?_
    exact kt
  obtain ⟨fs, hr, hrun, hended, hW, hsame⟩ := X160.leave (v := some (.int (1 : Int32))) (fun h => by rw [Bd.returns] at h; cases h)
  refine ⟨_, _, pre0 _ (sg2 _ (sg4 _ (sg6 _ (sg8 _ (sg10 _ (sg12 _ (sg14 _ (sg16 _ (sg18 _ (sg20 _ (sg21 _ (sg26 _ (sg27 _ (sg32 _ (sg33 _ (sg38 _ (sg39 _ (sg44 _ (sg45 _ (sg50 _ (sg51 _ (sg56 _ (sg57 _ (sg62 _ (sg64 _ (sg69 _ (sg74 _ (sg80 _ (sg86 _ (sg92 _ (sg98 _ (sg104 _ (sg110 _ (sg115 _ (sg116 _ (sg121 _ (sg129 _ (sg137 _ (sg148 _ (sg159 _ (sg161 _ (?_)))))))))))))))))))))))))))))))))))))))))), hrun, hended, _, _, rfl, ?_, ⟨_, rfl⟩, hW, hsame.mono (by decide) (by decide)⟩
  · show Steps p.tables e below (T160.setTop (mkF m 459 #[.val (.int p1), .val (.int p2), .val (.int p3), .val (.int p4), .val (.int p5), .val (.int p6), .val (.int u1), .val (.int u3), .val (.int u5), .val (.int u7), .val (.int u9), .val (.int u11), .val (.int u13), .val (.int u15), .val (.int u17), .val (.int u19), .val (.int v26_t0), .val (.int v32_t0), .val (.int v38_t0), .val (.int v44_t0), .val (.int v50_t0), .val (.int v56_t0), .val (.int v62_t0), .val (.int u63), .val (.ref b65), .val (.ref b71), .val (.int v159_l26)] [(.int (1 : Int32))])) _
    exact retN X160 hx (t := .boolean) Bd.returns (by simp) (hb hby at_459) hr
  · show Q0 Z p1 p2 p3 p4 p5 p6 h0 n0 _ T160.heap _
    rw [e160]
    exact ⟨rfl, N160, KK110, O110⟩
set_option maxRecDepth 65536 in
set_option maxHeartbeats 40000000 in
theorem comes_1 {Post : Tables → Env → Array Value → State → Outcome → State → Prop} (hpost : ∀ tb e args s v u, (limb_1_1.after args s (.returned v) u = true ∧ limb_1_2.after args s (.returned v) u = true ∧ True) → FrameEnd s (.returned v) u (Jvm.fieldLocs frame_1_writes args s ++ Jvm.arrayLocs frame_1_arrays args s ++ Jvm.staticLocs frame_1_statics s) 24 256 → Post tb e args s (.returned v) u) :
    ArmFor flags0 classFile x code maxLocals ret World_1 tables_1 room_1 Calls_1 rest_1 Pre_1 Post := by
  intro l hfl _ _ p e ha hc hk s m args below hf hA hF happ hP
  obtain ⟨hcalls, hrest, hpre⟩ := hP
  obtain ⟨-, -, -, hnamed, -, -, -, hat⟩ := (Spec.applies_iff hf).mp happ
  obtain ⟨hg, hn⟩ := and_e (Cond.before_iff.mp (show (Jvm.Cond.and given_1 narrow_1).before args s = true from hpre))
  obtain ⟨g1, g2⟩ := and_e hg
  obtain ⟨g3, g4⟩ := and_e g2
  obtain ⟨g5, g6⟩ := and_e g4
  obtain ⟨g7, g8⟩ := and_e g6
  obtain ⟨g9, g10⟩ := and_e g8
  obtain ⟨g11, g12⟩ := and_e g10
  obtain ⟨w0, w1, w2, w3, w4, w5, rfl⟩ : ∃ w0 w1 w2 w3 w4 w5 : Value, args = #[w0, w1, w2, w3, w4, w5] := by
    have hs : args.size = 6 := by simpa [Cond.value, given_1] using g1
    obtain ⟨L⟩ := args
    match L, hs with
    | [w0, w1, w2, w3, w4, w5], _ => exact ⟨w0, w1, w2, w3, w4, w5, rfl⟩
  have hw := fun d (hd : d ∈ tables_1) => atoms_spec (ws := Jvm.Cond.code x code maxLocals ret :: tables_1) hat d (List.mem_cons_of_mem _ hd)
  have hfit : Fit s := fun {y c} hc i hi => by
    obtain ⟨ha, rfl⟩ := Array.getElem?_eq_some_iff.mp hc
    have q := List.all_eq_true.mp ((Array.all_eq_true_iff_forall_mem.mp hF) _ (Array.getElem_mem ha)) i (List.mem_range.mpr hi)
    simpa [Array.getElem?_eq_getElem hi] using q
  obtain ⟨i0, ei0⟩ := is_v g3
  obtain rfl : w0 = (.int i0) := Option.some.inj ei0
  obtain ⟨i1, ei1⟩ := is_v g5
  obtain rfl : w1 = (.int i1) := Option.some.inj ei1
  obtain ⟨i2, ei2⟩ := is_v g7
  obtain rfl : w2 = (.int i2) := Option.some.inj ei2
  obtain ⟨i3, ei3⟩ := is_v g9
  obtain rfl : w3 = (.int i3) := Option.some.inj ei3
  obtain ⟨i4, ei4⟩ := is_v g11
  obtain rfl : w4 = (.int i4) := Option.some.inj ei4
  obtain ⟨i5, ei5⟩ := is_v g12
  obtain rfl : w5 = (.int i5) := Option.some.inj ei5
  obtain ⟨n, o, h1, h2, h3, _, L, rfl, ⟨rfl, N, -⟩, hq⟩ := rm0 l s _ hw tables_1 i0 i1 i2 i3 i4 i5  s.heap s.heap.size (Old.start s)  p e ha hc hk s m _ below hf ((Spec.applies_iff_loose hf).mp happ).1 ⟨rfl, State.Warmed39.refl s, rfl⟩ trivial
  refine ⟨n, _, h1, h2, h3, hpost _ _ _ _ _ _ ⟨Cond.after_iff.mpr rfl, Cond.after_iff.mpr (eq_i res_at (Term.int_eval (1)) rfl), trivial⟩ ⟨hq.1, hq.2.1, (hq.2.2.sift fun y hy => Or.inr (N y hy)).mono (by decide) (by decide)⟩⟩
theorem main_1_1 : Claimed_1_1 := comes_1 fun _ _ _ _ _ _ h hF => ⟨h.1, hF⟩
theorem main_1_2 : Claimed_1_2 := comes_1 fun _ _ _ _ _ _ h hF => ⟨h.2.1, hF⟩
end Jvm.Pilot.@@N@@
namespace Jvm.Pilot.@@N@@
open Jvm Jvm.ClassFile Sem Op Lib Jvm.Free Jvm.Stand Jvm.Pilot.@@N@@.Jvm.D
/-! MADE BY PROGRAM (witnessworld.py) out of the Statement's table words and the real class files: 15 classes; the members and pool entries that the words name. The judged class is class 1, her method 2. -/
namespace start1
open Jvm.ClassFile
def u (s : String) : CpInfo := .utf8 (stringToUtf16 s)
/-- a pool by its gaps: so many unusable entries, then the entry; so many at the end -/
def gap : Nat → List CpInfo → List CpInfo
  | 0, r => r
  | n + 1, r => .unusable :: gap n r
def poolList (es : List (Nat × CpInfo)) (last : Nat) : List CpInfo := es.foldr (fun e r => gap e.1 (e.2 :: r)) (gap last [])
def pool (es : List (Nat × CpInfo)) (last : Nat) : Array CpInfo := ⟨poolList es last⟩
def fileOf (pool : Array CpInfo) (this : Nat) (attrs : Array Attribute := #[]) (ms : Array MethodInfo := #[]) (fl : Nat := 33) (sup : Nat := 0) (ifs : Array Nat := #[]) (fds : Array FieldInfo := #[]) : ClassFile where
  minorVersion := 0
  majorVersion := 65
  constantPool := pool
  accessFlags := fl
  thisClass := this
  superClass := sup
  interfaces := ifs
  fields := fds
  methods := ms
  attributes := attrs
def plain (name : String) (sup : Option ClassId) : Class where
  name := name
  kind := .ordinary
  loader := none
  accessFlags := 33
  super := sup
  interfaces := #[]
  cf := none
  fields := #[]
  methods := #[]
  instanceTypes := #[]
  staticTypes := #[]
  resolved := #[]
  callSites := []
  init := .initialized
  statics := none
  mirror := none

def pool0 : Array CpInfo := pool [(5, u "<init>"), (0, u "()V"), (1, .class_ 10), (1, u "java/lang/Object")] 113

def k0c0 : Code := { maxStack := 0, maxLocals := 1, code := object_method_1_code, exceptionTable := #[], attributes := #[] }
def k0m0 : Method := { name := "<init>", desc := "()V", sig := { parameters := [], returnType := none }, accessFlags := 1, code := some k0c0 }
/-- java/lang/Object -/
def k0 : Class := { plain "java/lang/Object" none with
  accessFlags := 33
  interfaces := #[]
  cf := some (fileOf pool0 8 #[] #[{ accessFlags := 1, nameIndex := 5, descriptorIndex := 6, attributes := #[] }] 33 0 #[] #[])
  fields := #[]
  methods := #[k0m0]
  instanceTypes := #[]
  staticTypes := #[]
  resolved := Array.replicate 124 none
  statics := none }

def pool1 : Array CpInfo := pool [(2, .class_ 4), (0, .nameAndType 5 6), (0, u "java/lang/Object"), (0, u "<init>"), (0, u "()V"), (0, .methodref 8 9), (0, .class_ 10), (0, .nameAndType 11 12), (0, u "com/example/breakline/breakline/ModifierTable"), (0, u "raiseEntry"), (0, u "(II)V"), (0, .methodref 8 14), (0, .nameAndType 15 12), (0, u "lowerEntry"), (0, .integer 2147483647), (0, .class_ 18), (0, u "com/example/breakline/breakline/ModifierNumbers"), (0, .methodref 17 3), (0, .methodref 17 21), (0, .nameAndType 22 23), (0, u "take"), (0, u "(I)I"), (0, .methodref 8 25), (0, .nameAndType 5 26), (0, u "(Lcom/example/breakline/breakline/ModifierNumbers;II)V"), (0, .methodref 8 28), (0, .nameAndType 29 6), (0, u "raiseAll"), (0, .methodref 8 31), (0, .nameAndType 32 33), (0, u "scaleWhole"), (0, u "(D)V"), (0, .methodref 35 36), (0, .class_ 37), (0, .nameAndType 38 39), (0, u "com/example/breakline/breakline/ModifierTableGetPinLaw"), (0, u "entries"), (0, u "(Lcom/example/breakline/breakline/ModifierTable;ZZIIII)V"), (0, .methodref 8 41), (0, .nameAndType 42 43), (0, u "raiseRow"), (0, u "(I)V"), (0, .methodref 8 45), (0, .nameAndType 46 43), (0, u "raiseColumn"), (0, .methodref 8 48), (0, .nameAndType 49 50), (0, u "get"), (0, u "(II)D"), (3, u "law"), (0, u "(IIIIII)Z")] 2

def k1m0 : Method := { name := "<init>", desc := "()V", sig := { parameters := [], returnType := none }, accessFlags := 1, code := none }
def k1c1 : Code := { maxStack := 3, maxLocals := 7, code := method_2_code, exceptionTable := #[], attributes := #[] }
def k1m1 : Method := { name := "entries", desc := "(Lcom/example/breakline/breakline/ModifierTable;ZZIIII)V", sig := { parameters := [(.object "com/example/breakline/breakline/ModifierTable"), .boolean, .boolean, .int, .int, .int, .int], returnType := none }, accessFlags := 10, code := some k1c1 }
def k1c2 : Code := { maxStack := 7, maxLocals := 27, code := code, exceptionTable := #[], attributes := #[] }
def k1m2 : Method := { name := "law", desc := "(IIIIII)Z", sig := { parameters := [.int, .int, .int, .int, .int, .int], returnType := some .boolean }, accessFlags := 9, code := some k1c2 }
/-- com/example/breakline/breakline/ModifierTableGetPinLaw -/
def k1 : Class := { plain "com/example/breakline/breakline/ModifierTableGetPinLaw" (some 0) with
  accessFlags := 49
  interfaces := #[]
  cf := some (fileOf pool1 35 #[] #[{ accessFlags := 1, nameIndex := 5, descriptorIndex := 6, attributes := #[] }, { accessFlags := 10, nameIndex := 38, descriptorIndex := 39, attributes := #[] }, { accessFlags := 9, nameIndex := 54, descriptorIndex := 55, attributes := #[] }] 49 2 #[] #[])
  fields := #[]
  methods := #[k1m0, k1m1, k1m2]
  instanceTypes := #[]
  staticTypes := #[]
  resolved := Array.replicate 58 none
  statics := none }

def pool2 : Array CpInfo := pool [(3, .methodref 4 5), (0, .class_ 6), (0, .nameAndType 7 8), (0, u "java/lang/Object"), (0, u "<init>"), (0, u "()V"), (0, .fieldref 10 11), (0, .class_ 12), (0, .nameAndType 13 14), (0, u "com/example/breakline/breakline/ModifierNumbers"), (0, u "numbers"), (0, u "[D"), (0, .fieldref 10 16), (0, .nameAndType 17 18), (0, u "size"), (0, u "I"), (0, .methodref 10 20), (0, .nameAndType 21 22), (0, u "grown"), (0, u "(II)I"), (0, .methodref 24 25), (0, .class_ 26), (0, .nameAndType 27 28), (0, u "java/util/Arrays"), (0, u "copyOf"), (0, u "([DI)[D"), (0, .fieldref 10 30), (0, .nameAndType 31 32), (0, u "listed"), (0, u "[I"), (9, u "listedCount"), (3, .integer 2147483639), (7, .long 2147483639), (1, .long 2), (1, .methodref 59 60), (0, .class_ 61), (0, .nameAndType 62 63), (0, u "java/lang/Math"), (0, u "max"), (0, u "(JJ)J"), (0, .methodref 59 65), (0, .nameAndType 66 63), (0, u "min"), (0, u "MAX_ARRAY_LENGTH"), (3, u "take"), (0, u "(I)I"), (1, u "get"), (0, u "(I)D"), (0, u "add"), (0, u "(ID)V")] 4

def k2c0 : Code := { maxStack := 2, maxLocals := 1, code := prog_49_method_1_code, exceptionTable := #[], attributes := #[] }
def k2m0 : Method := { name := "<init>", desc := "()V", sig := { parameters := [], returnType := none }, accessFlags := 0, code := some k2c0 }
def k2c1 : Code := { maxStack := 5, maxLocals := 3, code := prog_49_method_2_code, exceptionTable := #[], attributes := #[] }
def k2m1 : Method := { name := "take", desc := "(I)I", sig := { parameters := [.int], returnType := some .int }, accessFlags := 0, code := some k2c1 }
def k2c2 : Code := { maxStack := 2, maxLocals := 2, code := prog_49_method_3_code, exceptionTable := #[], attributes := #[] }
def k2m2 : Method := { name := "get", desc := "(I)D", sig := { parameters := [.int], returnType := some .double }, accessFlags := 0, code := some k2c2 }
def k2c3 : Code := { maxStack := 4, maxLocals := 8, code := prog_49_method_4_code, exceptionTable := #[], attributes := #[] }
def k2m3 : Method := { name := "add", desc := "(ID)V", sig := { parameters := [.int, .double], returnType := none }, accessFlags := 0, code := some k2c3 }
def k2c4 : Code := { maxStack := 10, maxLocals := 2, code := prog_49_method_8_code, exceptionTable := #[], attributes := #[] }
def k2m4 : Method := { name := "grown", desc := "(II)I", sig := { parameters := [.int, .int], returnType := some .int }, accessFlags := 10, code := some k2c4 }
/-- com/example/breakline/breakline/ModifierNumbers -/
def k2 : Class := { plain "com/example/breakline/breakline/ModifierNumbers" (some 0) with
  accessFlags := 48
  interfaces := #[]
  cf := some (fileOf pool2 10 #[] #[{ accessFlags := 0, nameIndex := 7, descriptorIndex := 8, attributes := #[] }, { accessFlags := 0, nameIndex := 71, descriptorIndex := 72, attributes := #[] }, { accessFlags := 0, nameIndex := 74, descriptorIndex := 75, attributes := #[] }, { accessFlags := 0, nameIndex := 76, descriptorIndex := 77, attributes := #[] }, { accessFlags := 10, nameIndex := 21, descriptorIndex := 22, attributes := #[] }] 48 4 #[] #[{ accessFlags := 26, nameIndex := 67, descriptorIndex := 18, attributes := #[] }, { accessFlags := 2, nameIndex := 13, descriptorIndex := 14, attributes := #[] }, { accessFlags := 2, nameIndex := 17, descriptorIndex := 18, attributes := #[] }, { accessFlags := 2, nameIndex := 31, descriptorIndex := 32, attributes := #[] }, { accessFlags := 2, nameIndex := 42, descriptorIndex := 18, attributes := #[] }])
  fields := #[{ name := "MAX_ARRAY_LENGTH", type := .int, accessFlags := 26, slot := 0, constantValue := 0 }, { name := "numbers", type := (.array .double), accessFlags := 2, slot := 0, constantValue := 0 }, { name := "size", type := .int, accessFlags := 2, slot := 1, constantValue := 0 }, { name := "listed", type := (.array .int), accessFlags := 2, slot := 2, constantValue := 0 }, { name := "listedCount", type := .int, accessFlags := 2, slot := 3, constantValue := 0 }]
  methods := #[k2m0, k2m1, k2m2, k2m3, k2m4]
  instanceTypes := #[(.array .double), .int, (.array .int), .int]
  staticTypes := #[.int]
  resolved := Array.replicate 82 none
  statics := none }

def pool3 : Array CpInfo := pool [(1, .class_ 2), (0, u "java/lang/Math"), (1, .class_ 6), (1, u "java/lang/Object"), (0, u "<init>"), (0, u "()V"), (89, .class_ 100), (1, u "java/lang/Math$RandomNumberGeneratorHolder"), (20, u "(JJ)J"), (50, u "negativeZeroFloatBits"), (0, u "J"), (2, u "negativeZeroDoubleBits"), (21, u "max"), (2, u "min"), (43, u "$assertionsDisabled"), (0, u "Z"), (88, u "(II)I"), (2, u "twoToTheDoubleScaleDown"), (0, u "D"), (4, u "twoToTheDoubleScaleUp"), (9, u "E"), (3, u "PI"), (2, u "TAU"), (2, u "DEGREES_TO_RADIANS"), (0, u "RADIANS_TO_DEGREES")] 94

def k3m0 : Method := { name := "<init>", desc := "()V", sig := { parameters := [], returnType := none }, accessFlags := 2, code := none }
def k3c1 : Code := { maxStack := 4, maxLocals := 4, code := jdk_29_method_66_code, exceptionTable := #[], attributes := #[] }
def k3m1 : Method := { name := "max", desc := "(JJ)J", sig := { parameters := [.long, .long], returnType := some .long }, accessFlags := 9, code := some k3c1 }
def k3c2 : Code := { maxStack := 2, maxLocals := 2, code := jdk_29_method_69_code, exceptionTable := #[], attributes := #[] }
def k3m2 : Method := { name := "min", desc := "(II)I", sig := { parameters := [.int, .int], returnType := some .int }, accessFlags := 9, code := some k3c2 }
def k3c3 : Code := { maxStack := 4, maxLocals := 4, code := jdk_29_method_70_code, exceptionTable := #[], attributes := #[] }
def k3m3 : Method := { name := "min", desc := "(JJ)J", sig := { parameters := [.long, .long], returnType := some .long }, accessFlags := 9, code := some k3c3 }
/-- java/lang/Math -/
def k3 : Class := { plain "java/lang/Math" (some 0) with
  accessFlags := 49
  interfaces := #[]
  cf := some (fileOf pool3 1 #[.nestMembers #[98]] #[{ accessFlags := 2, nameIndex := 7, descriptorIndex := 8, attributes := #[] }, { accessFlags := 9, nameIndex := 198, descriptorIndex := 121, attributes := #[] }, { accessFlags := 9, nameIndex := 201, descriptorIndex := 335, attributes := #[] }, { accessFlags := 9, nameIndex := 201, descriptorIndex := 121, attributes := #[] }] 49 4 #[] #[{ accessFlags := 25, nameIndex := 354, descriptorIndex := 339, attributes := #[] }, { accessFlags := 25, nameIndex := 358, descriptorIndex := 339, attributes := #[] }, { accessFlags := 25, nameIndex := 361, descriptorIndex := 339, attributes := #[] }, { accessFlags := 26, nameIndex := 364, descriptorIndex := 339, attributes := #[] }, { accessFlags := 26, nameIndex := 365, descriptorIndex := 339, attributes := #[] }, { accessFlags := 26, nameIndex := 172, descriptorIndex := 173, attributes := #[] }, { accessFlags := 26, nameIndex := 176, descriptorIndex := 173, attributes := #[] }, { accessFlags := 8, nameIndex := 344, descriptorIndex := 339, attributes := #[] }, { accessFlags := 8, nameIndex := 338, descriptorIndex := 339, attributes := #[] }, { accessFlags := 4120, nameIndex := 245, descriptorIndex := 246, attributes := #[] }])
  fields := #[{ name := "E", type := .double, accessFlags := 25, slot := 0, constantValue := 0 }, { name := "PI", type := .double, accessFlags := 25, slot := 1, constantValue := 0 }, { name := "TAU", type := .double, accessFlags := 25, slot := 2, constantValue := 0 }, { name := "DEGREES_TO_RADIANS", type := .double, accessFlags := 26, slot := 3, constantValue := 0 }, { name := "RADIANS_TO_DEGREES", type := .double, accessFlags := 26, slot := 4, constantValue := 0 }, { name := "negativeZeroFloatBits", type := .long, accessFlags := 26, slot := 5, constantValue := 0 }, { name := "negativeZeroDoubleBits", type := .long, accessFlags := 26, slot := 6, constantValue := 0 }, { name := "twoToTheDoubleScaleUp", type := .double, accessFlags := 8, slot := 7, constantValue := 0 }, { name := "twoToTheDoubleScaleDown", type := .double, accessFlags := 8, slot := 8, constantValue := 0 }, { name := "$assertionsDisabled", type := .boolean, accessFlags := 4120, slot := 9, constantValue := 0 }]
  methods := #[k3m0, k3m1, k3m2, k3m3]
  instanceTypes := #[]
  staticTypes := #[.double, .double, .double, .double, .double, .long, .long, .double, .double, .boolean]
  resolved := Array.replicate 460 none
  statics := none }

def pool4 : Array CpInfo := pool [(2, .class_ 4), (1, u "java/lang/Object"), (0, u "<init>"), (0, u "()V"), (7, .class_ 16), (1, u "java/util/Arrays"), (57, .class_ 76), (1, u "java/util/Arrays$NaturalOrder"), (36, .class_ 115), (1, u "java/util/Arrays$LegacyMergeSort"), (1, u "Z"), (32, .methodref 151 152), (0, .class_ 153), (0, .nameAndType 154 155), (0, u "java/lang/System"), (0, u "arraycopy"), (0, u "(Ljava/lang/Object;ILjava/lang/Object;II)V"), (146, u "copyOf"), (1, .methodref 305 306), (0, .class_ 307), (0, .nameAndType 308 309), (0, u "java/lang/Math"), (0, u "min"), (0, u "(II)I"), (65, .class_ 376), (0, u "java/util/Arrays$ArrayList"), (68, u "$assertionsDisabled"), (269, u "MIN_ARRAY_SORT_GRAN"), (0, u "I"), (2, u "INSERTIONSORT_THRESHOLD"), (155, u "([DI)[D"), (99, .class_ 976), (0, u "java/util/Arrays$ArrayItr")] 52

def k4m0 : Method := { name := "<init>", desc := "()V", sig := { parameters := [], returnType := none }, accessFlags := 2, code := none }
def k4c1 : Code := { maxStack := 6, maxLocals := 3, code := jdk_65_method_127_code, exceptionTable := #[], attributes := #[] }
def k4m1 : Method := { name := "copyOf", desc := "([DI)[D", sig := { parameters := [(.array .double), .int], returnType := some (.array .double) }, accessFlags := 9, code := some k4c1 }
/-- java/util/Arrays -/
def k4 : Class := { plain "java/util/Arrays" (some 0) with
  accessFlags := 49
  interfaces := #[]
  cf := some (fileOf pool4 14 #[.nestMembers #[975, 375, 113, 74]] #[{ accessFlags := 2, nameIndex := 5, descriptorIndex := 6, attributes := #[] }, { accessFlags := 9, nameIndex := 302, descriptorIndex := 875, attributes := #[] }] 49 2 #[] #[{ accessFlags := 26, nameIndex := 715, descriptorIndex := 716, attributes := #[] }, { accessFlags := 26, nameIndex := 719, descriptorIndex := 716, attributes := #[] }, { accessFlags := 4120, nameIndex := 445, descriptorIndex := 117, attributes := #[] }])
  fields := #[{ name := "MIN_ARRAY_SORT_GRAN", type := .int, accessFlags := 26, slot := 0, constantValue := 0 }, { name := "INSERTIONSORT_THRESHOLD", type := .int, accessFlags := 26, slot := 1, constantValue := 0 }, { name := "$assertionsDisabled", type := .boolean, accessFlags := 4120, slot := 2, constantValue := 0 }]
  methods := #[k4m0, k4m1]
  instanceTypes := #[]
  staticTypes := #[.int, .int, .boolean]
  resolved := Array.replicate 1029 none
  statics := none }

def pool5 : Array CpInfo := pool [(2, .class_ 4), (1, u "java/lang/Object"), (0, u "<init>"), (0, u "()V"), (1, .class_ 10), (1, u "java/lang/System"), (0, u "allowSecurityManager"), (0, u "I"), (16, u "cons"), (0, u "Ljava/io/Console;"), (77, .class_ 110), (1, u "java/lang/System$CallersHolder"), (43, u "initialErrStream"), (0, u "Ljava/io/PrintStream;"), (19, u "security"), (0, u "Ljava/lang/SecurityManager;"), (31, .class_ 209), (0, u "java/lang/System$1"), (7, u "props"), (0, u "Ljava/util/Properties;"), (2, u "lineSeparator"), (0, u "Ljava/lang/String;"), (96, .class_ 321), (1, u "java/lang/System$LoggerFinder"), (5, .class_ 328), (0, u "java/lang/System$Logger"), (67, u "err"), (2, u "out"), (91, u "notSupportedJnuEncoding"), (15, u "in"), (17, u "initialIn"), (0, u "Ljava/io/InputStream;"), (35, u "bootLayer"), (0, u "Ljava/lang/ModuleLayer;"), (99, .class_ 664), (0, u "java/lang/System$2"), (9, u "NEVER"), (2, u "MAYBE"), (49, u "arraycopy"), (0, u "(Ljava/lang/Object;ILjava/lang/Object;II)V"), (72, .class_ 802), (0, u "java/lang/System$Logger$Level")] 31

def k5m0 : Method := { name := "<init>", desc := "()V", sig := { parameters := [], returnType := none }, accessFlags := 2, code := none }
def k5m1 : Method := { name := "arraycopy", desc := "(Ljava/lang/Object;ILjava/lang/Object;II)V", sig := { parameters := [(.object "java/lang/Object"), .int, (.object "java/lang/Object"), .int, .int], returnType := none }, accessFlags := 265, code := none }
/-- java/lang/System -/
def k5 : Class := { plain "java/lang/System" (some 0) with
  accessFlags := 49
  interfaces := #[]
  cf := some (fileOf pool5 8 #[.nestMembers #[319, 327, 801, 108, 663, 208]] #[{ accessFlags := 2, nameIndex := 5, descriptorIndex := 6, attributes := #[] }, { accessFlags := 265, nameIndex := 727, descriptorIndex := 728, attributes := #[] }] 49 2 #[] #[{ accessFlags := 25, nameIndex := 507, descriptorIndex := 526, attributes := #[] }, { accessFlags := 25, nameIndex := 399, descriptorIndex := 155, attributes := #[] }, { accessFlags := 25, nameIndex := 396, descriptorIndex := 155, attributes := #[] }, { accessFlags := 10, nameIndex := 525, descriptorIndex := 526, attributes := #[] }, { accessFlags := 26, nameIndex := 674, descriptorIndex := 12, attributes := #[] }, { accessFlags := 26, nameIndex := 677, descriptorIndex := 12, attributes := #[] }, { accessFlags := 10, nameIndex := 11, descriptorIndex := 12, attributes := #[] }, { accessFlags := 74, nameIndex := 175, descriptorIndex := 176, attributes := #[] }, { accessFlags := 10, nameIndex := 491, descriptorIndex := 222, attributes := #[] }, { accessFlags := 74, nameIndex := 29, descriptorIndex := 30, attributes := #[] }, { accessFlags := 74, nameIndex := 154, descriptorIndex := 155, attributes := #[] }, { accessFlags := 10, nameIndex := 217, descriptorIndex := 218, attributes := #[] }, { accessFlags := 10, nameIndex := 221, descriptorIndex := 222, attributes := #[] }, { accessFlags := 8, nameIndex := 562, descriptorIndex := 563, attributes := #[] }])
  fields := #[{ name := "in", type := (.object "java/io/InputStream"), accessFlags := 25, slot := 0, constantValue := 0 }, { name := "out", type := (.object "java/io/PrintStream"), accessFlags := 25, slot := 1, constantValue := 0 }, { name := "err", type := (.object "java/io/PrintStream"), accessFlags := 25, slot := 2, constantValue := 0 }, { name := "initialIn", type := (.object "java/io/InputStream"), accessFlags := 10, slot := 3, constantValue := 0 }, { name := "NEVER", type := .int, accessFlags := 26, slot := 4, constantValue := 0 }, { name := "MAYBE", type := .int, accessFlags := 26, slot := 5, constantValue := 0 }, { name := "allowSecurityManager", type := .int, accessFlags := 10, slot := 6, constantValue := 0 }, { name := "security", type := (.object "java/lang/SecurityManager"), accessFlags := 74, slot := 7, constantValue := 0 }, { name := "notSupportedJnuEncoding", type := (.object "java/lang/String"), accessFlags := 10, slot := 8, constantValue := 0 }, { name := "cons", type := (.object "java/io/Console"), accessFlags := 74, slot := 9, constantValue := 0 }, { name := "initialErrStream", type := (.object "java/io/PrintStream"), accessFlags := 74, slot := 10, constantValue := 0 }, { name := "props", type := (.object "java/util/Properties"), accessFlags := 10, slot := 11, constantValue := 0 }, { name := "lineSeparator", type := (.object "java/lang/String"), accessFlags := 10, slot := 12, constantValue := 0 }, { name := "bootLayer", type := (.object "java/lang/ModuleLayer"), accessFlags := 8, slot := 13, constantValue := 0 }]
  methods := #[k5m0, k5m1]
  instanceTypes := #[]
  staticTypes := #[(.object "java/io/InputStream"), (.object "java/io/PrintStream"), (.object "java/io/PrintStream"), (.object "java/io/InputStream"), .int, .int, .int, (.object "java/lang/SecurityManager"), (.object "java/lang/String"), (.object "java/io/Console"), (.object "java/io/PrintStream"), (.object "java/util/Properties"), (.object "java/lang/String"), (.object "java/lang/ModuleLayer")]
  resolved := Array.replicate 834 none
  statics := none }

def pool6 : Array CpInfo := pool [(1, .class_ 2), (0, u "com/example/breakline/breakline/ModifierNumbers"), (1, .nameAndType 5 6), (0, u "<init>"), (0, u "()V"), (1, .class_ 10), (1, u "com/example/breakline/breakline/ModifierTable"), (0, u "(Lcom/example/breakline/breakline/ModifierNumbers;II)V"), (0, .methodref 13 4), (0, .class_ 14), (0, u "java/lang/Object"), (0, .fieldref 8 16), (0, .nameAndType 17 18), (0, u "rowsAt"), (0, u "I"), (0, .fieldref 8 20), (0, .nameAndType 21 18), (0, u "columnsAt"), (0, .fieldref 8 23), (0, .nameAndType 24 18), (0, u "entriesAt"), (0, .fieldref 8 26), (0, .nameAndType 27 28), (0, u "numbers"), (0, u "Lcom/example/breakline/breakline/ModifierNumbers;"), (0, .fieldref 8 30), (0, .nameAndType 31 18), (0, u "ownValues"), (0, .fieldref 8 33), (0, .nameAndType 34 18), (0, u "neighbourValues"), (0, .fieldref 8 36), (0, .nameAndType 37 38), (0, u "whole"), (0, u "D"), (0, .methodref 1 40), (0, .nameAndType 41 42), (0, u "get"), (0, u "(I)D"), (0, .methodref 8 44), (0, .nameAndType 45 46), (0, u "addToEntry"), (0, u "(IID)V"), (0, .double 13830554455654793216), (1, .methodref 1 50), (0, .nameAndType 51 52), (0, u "take"), (0, u "(I)I"), (0, .methodref 1 54), (0, .nameAndType 55 56), (0, u "add"), (0, u "(ID)V"), (0, u "UNMADE"), (2, u "(II)V"), (2, u "(II)D"), (1, u "raiseEntry"), (0, u "lowerEntry"), (0, u "raiseRow"), (0, u "(I)V"), (0, u "raiseColumn"), (0, u "raiseAll"), (0, u "scaleWhole"), (0, u "(D)V")] 2

def k6c0 : Code := { maxStack := 2, maxLocals := 4, code := prog_50_method_2_code, exceptionTable := #[], attributes := #[] }
def k6m0 : Method := { name := "<init>", desc := "(Lcom/example/breakline/breakline/ModifierNumbers;II)V", sig := { parameters := [(.object "com/example/breakline/breakline/ModifierNumbers"), .int, .int], returnType := none }, accessFlags := 0, code := some k6c0 }
def k6c1 : Code := { maxStack := 6, maxLocals := 5, code := prog_50_method_3_code, exceptionTable := #[], attributes := #[] }
def k6m1 : Method := { name := "get", desc := "(II)D", sig := { parameters := [.int, .int], returnType := some .double }, accessFlags := 0, code := some k6c1 }
def k6c2 : Code := { maxStack := 5, maxLocals := 3, code := prog_50_method_4_code, exceptionTable := #[], attributes := #[] }
def k6m2 : Method := { name := "raiseEntry", desc := "(II)V", sig := { parameters := [.int, .int], returnType := none }, accessFlags := 0, code := some k6c2 }
def k6c3 : Code := { maxStack := 5, maxLocals := 3, code := prog_50_method_5_code, exceptionTable := #[], attributes := #[] }
def k6m3 : Method := { name := "lowerEntry", desc := "(II)V", sig := { parameters := [.int, .int], returnType := none }, accessFlags := 0, code := some k6c3 }
def k6c4 : Code := { maxStack := 4, maxLocals := 5, code := prog_50_method_6_code, exceptionTable := #[], attributes := #[] }
def k6m4 : Method := { name := "addToEntry", desc := "(IID)V", sig := { parameters := [.int, .int, .double], returnType := none }, accessFlags := 2, code := some k6c4 }
def k6c5 : Code := { maxStack := 4, maxLocals := 2, code := prog_50_method_7_code, exceptionTable := #[], attributes := #[] }
def k6m5 : Method := { name := "raiseRow", desc := "(I)V", sig := { parameters := [.int], returnType := none }, accessFlags := 0, code := some k6c5 }
def k6c6 : Code := { maxStack := 4, maxLocals := 2, code := prog_50_method_8_code, exceptionTable := #[], attributes := #[] }
def k6m6 : Method := { name := "raiseColumn", desc := "(I)V", sig := { parameters := [.int], returnType := none }, accessFlags := 0, code := some k6c6 }
def k6c7 : Code := { maxStack := 5, maxLocals := 1, code := prog_50_method_9_code, exceptionTable := #[], attributes := #[] }
def k6m7 : Method := { name := "raiseAll", desc := "()V", sig := { parameters := [], returnType := none }, accessFlags := 0, code := some k6c7 }
def k6c8 : Code := { maxStack := 5, maxLocals := 3, code := prog_50_method_10_code, exceptionTable := #[], attributes := #[] }
def k6m8 : Method := { name := "scaleWhole", desc := "(D)V", sig := { parameters := [.double], returnType := none }, accessFlags := 0, code := some k6c8 }
/-- com/example/breakline/breakline/ModifierTable -/
def k6 : Class := { plain "com/example/breakline/breakline/ModifierTable" (some 0) with
  accessFlags := 48
  interfaces := #[]
  cf := some (fileOf pool6 8 #[] #[{ accessFlags := 0, nameIndex := 5, descriptorIndex := 11, attributes := #[] }, { accessFlags := 0, nameIndex := 41, descriptorIndex := 63, attributes := #[] }, { accessFlags := 0, nameIndex := 65, descriptorIndex := 60, attributes := #[] }, { accessFlags := 0, nameIndex := 66, descriptorIndex := 60, attributes := #[] }, { accessFlags := 2, nameIndex := 45, descriptorIndex := 46, attributes := #[] }, { accessFlags := 0, nameIndex := 67, descriptorIndex := 68, attributes := #[] }, { accessFlags := 0, nameIndex := 69, descriptorIndex := 68, attributes := #[] }, { accessFlags := 0, nameIndex := 70, descriptorIndex := 6, attributes := #[] }, { accessFlags := 0, nameIndex := 71, descriptorIndex := 72, attributes := #[] }] 48 13 #[] #[{ accessFlags := 26, nameIndex := 57, descriptorIndex := 18, attributes := #[] }, { accessFlags := 18, nameIndex := 27, descriptorIndex := 28, attributes := #[] }, { accessFlags := 18, nameIndex := 31, descriptorIndex := 18, attributes := #[] }, { accessFlags := 18, nameIndex := 34, descriptorIndex := 18, attributes := #[] }, { accessFlags := 2, nameIndex := 37, descriptorIndex := 38, attributes := #[] }, { accessFlags := 2, nameIndex := 17, descriptorIndex := 18, attributes := #[] }, { accessFlags := 2, nameIndex := 21, descriptorIndex := 18, attributes := #[] }, { accessFlags := 2, nameIndex := 24, descriptorIndex := 18, attributes := #[] }])
  fields := #[{ name := "UNMADE", type := .int, accessFlags := 26, slot := 0, constantValue := 0 }, { name := "numbers", type := (.object "com/example/breakline/breakline/ModifierNumbers"), accessFlags := 18, slot := 0, constantValue := 0 }, { name := "ownValues", type := .int, accessFlags := 18, slot := 1, constantValue := 0 }, { name := "neighbourValues", type := .int, accessFlags := 18, slot := 2, constantValue := 0 }, { name := "whole", type := .double, accessFlags := 2, slot := 3, constantValue := 0 }, { name := "rowsAt", type := .int, accessFlags := 2, slot := 4, constantValue := 0 }, { name := "columnsAt", type := .int, accessFlags := 2, slot := 5, constantValue := 0 }, { name := "entriesAt", type := .int, accessFlags := 2, slot := 6, constantValue := 0 }]
  methods := #[k6m0, k6m1, k6m2, k6m3, k6m4, k6m5, k6m6, k6m7, k6m8]
  instanceTypes := #[(.object "com/example/breakline/breakline/ModifierNumbers"), .int, .int, .double, .int, .int, .int]
  staticTypes := #[.int]
  resolved := Array.replicate 75 none
  statics := none }

def pool7 : Array CpInfo := pool [(1, u "java/lang/Cloneable"), (0, .class_ 1), (0, u "java/lang/Object"), (0, .class_ 3)] 3

/-- java/lang/Cloneable -/
def k7 : Class := { plain "java/lang/Cloneable" (some 0) with
  accessFlags := 1537
  interfaces := #[]
  cf := some (fileOf pool7 2 #[] #[] 1537 4 #[] #[])
  fields := #[]
  methods := #[]
  instanceTypes := #[]
  staticTypes := #[]
  resolved := Array.replicate 8 none
  statics := none }

def pool8 : Array CpInfo := pool [(1, u "java/io/Serializable"), (0, .class_ 1), (0, u "java/lang/Object"), (0, .class_ 3)] 3

/-- java/io/Serializable -/
def k8 : Class := { plain "java/io/Serializable" (some 0) with
  accessFlags := 1537
  interfaces := #[]
  cf := some (fileOf pool8 2 #[] #[] 1537 4 #[] #[])
  fields := #[]
  methods := #[]
  instanceTypes := #[]
  staticTypes := #[]
  resolved := Array.replicate 8 none
  statics := none }

/-- the primitive byte -/
def k9 : Class := { plain "byte" none with kind := .primitive 'B', accessFlags := 0x411 }
/-- [B -/
def k10 : Class := { plain "[B" (some 0) with kind := .array 9 .byte, interfaces := #[7, 8], accessFlags := 1041 }

/-- the primitive double -/
def k11 : Class := { plain "double" none with kind := .primitive 'D', accessFlags := 0x411 }
/-- [D -/
def k12 : Class := { plain "[D" (some 0) with kind := .array 11 .double, interfaces := #[7, 8], accessFlags := 1041 }

/-- the primitive int -/
def k13 : Class := { plain "int" none with kind := .primitive 'I', accessFlags := 0x411 }
/-- [I -/
def k14 : Class := { plain "[I" (some 0) with kind := .array 13 .int, interfaces := #[7, 8], accessFlags := 1041 }

def heap : Heap := #[]
def classes : Array Class := #[k0, k1, k2, k3, k4, k5, k6, k7, k8, k9, k10, k11, k12, k13, k14]
def interned : List (Array UInt16 × Addr) := []
def slotsUsed : Nat := 0
def theMethod : MethodId := ⟨1, 2⟩
def args0 : Array Value := #[.int 6, .int 127, .int 3, .int 5, .int 4660, .int 5]
def aboutOver (below : List Frame) : State where
  vm := { classes := classes, interned := interned.toArray }
  heap := heap
  slotsUsed := slotsUsed
  threads := #[{ frames := .invoking theMethod args0 :: below }]
def below0 : List Frame := [.native { method := ⟨0, 0⟩, args := #[] }]
def about1 : State := aboutOver below0
def p0 : Program := .bare "" "" ""
def e0 : Env := launch0.env 0 0 0
theorem w_frames : about1.frames = Frame.invoking theMethod args0 :: below0 := rfl
set_option maxRecDepth 65536 in
theorem w_args : argsFit about1.vm theMethod args0 = true := by decide +kernel
set_option maxRecDepth 65536 in
theorem w_heap : heapFits about1 = true := by decide +kernel
set_option maxRecDepth 65536 in
theorem w_runnable : about1.curStatus? = some .runnable := by decide +kernel
set_option maxRecDepth 65536 in
theorem w_alone : about1.alone = true := by decide +kernel
set_option maxRecDepth 65536 in
theorem w_named : about1.methodNamed? x = some theMethod := by decide +kernel
set_option maxRecDepth 65536 in
theorem w_hears : about1.hears theMethod below0 = true := by decide +kernel
set_option maxRecDepth 65536 in
theorem w_ripe : about1.ripe theMethod args0 below0 = true := by decide +kernel
theorem w_running : about1.status = .running := rfl
set_option maxRecDepth 65536 in
theorem w_room : about1.hasRoom e0.platform room_1 = true :=
  launch0.hasRoom_least _ room_1 (by decide +kernel) (by decide +kernel) (by decide +kernel) (by decide +kernel) (by decide +kernel) (by decide +kernel)
theorem allAtoms_all (ts : List Jvm.Cond) (a : Array Jvm.Value) (st : Jvm.State) : (allAtoms ts).before a st = ts.all (fun c => c.before a st) := by
  induction ts with
  | nil => rfl
  | cons c t ih =>
    show (Jvm.Cond.and c (allAtoms t)).before a st = _
    rw [Jvm.Cond.before_and, ih, List.all_cons]
def words1 : List Jvm.Cond := Jvm.Cond.code x code maxLocals ret :: tables_1
/-- a 'code' word, met by the world's own term for the bytes: nothing is compared byte by byte -/
theorem code_word {y : MethodName} {bytes : ByteArray} {mx : Nat} {rt : Option FieldType} {a : Array Value} {s : State} {m : MethodId} {meth : Method} {c : Code} (h1 : s.methodNamed? y = some m) (h2 : s.vm.method? m = some meth) (h3 : meth.code = some c) (h4 : c.code = bytes)
    (h5 : (c.maxLocals == mx && c.exceptionTable.isEmpty && decide (c.maxStack ≤ mostOperands) && decide (meth.sig.returnType = rt) && !meth.locks && decide (parseMethodDescriptor y.desc = some meth.sig)) = true) : (Jvm.Cond.code y bytes mx rt).before a s = true := by
  simp only [Bool.and_eq_true, beq_iff_eq, Bool.not_eq_true', decide_eq_true_eq] at h5
  obtain ⟨⟨⟨⟨⟨g1, g2⟩, g3⟩, g4⟩, g5⟩, g6⟩ := h5
  simp [Cond.before, Cond.holds, Cond.value, h1, h2, h3, h4, g1, g2, g3, g4, g5, g6]
def isCode : Jvm.Cond → Bool
  | .code _ _ _ _ => true
  | _ => false
theorem all_split {L : List Jvm.Cond} {P : Jvm.Cond → Bool} (h1 : L.all (fun c => isCode c || P c) = true) (h2 : ∀ c ∈ L.filter isCode, P c = true) : L.all P = true := by
  refine List.all_eq_true.mpr fun c hc => ?_
  have h := List.all_eq_true.mp h1 c hc
  rcases Bool.eq_false_or_eq_true (isCode c) with hi | hi
  · exact h2 c (List.mem_filter.mpr ⟨hc, hi⟩)
  · simpa [hi] using h
set_option maxRecDepth 65536 in
theorem w_c0 : (Jvm.Cond.code x code maxLocals ret).before args0 about1 = true := code_word (m := ⟨1, 2⟩) (meth := k1m2) (c := k1c2) (by decide +kernel) rfl rfl rfl (by decide +kernel)
set_option maxRecDepth 65536 in
theorem w_c1 : (Jvm.Cond.code ({ cls := "com/example/breakline/breakline/ModifierNumbers", name := "<init>", desc := "()V" } : Jvm.MethodName) prog_49_method_1_code (1 : Nat) (Option.none : Option Jvm.ClassFile.FieldType)).before args0 about1 = true := code_word (m := ⟨2, 0⟩) (meth := k2m0) (c := k2c0) (by decide +kernel) rfl rfl rfl (by decide +kernel)
set_option maxRecDepth 65536 in
theorem w_c2 : (Jvm.Cond.code ({ cls := "java/lang/Object", name := "<init>", desc := "()V" } : Jvm.MethodName) object_method_1_code (1 : Nat) (Option.none : Option Jvm.ClassFile.FieldType)).before args0 about1 = true := code_word (m := ⟨0, 0⟩) (meth := k0m0) (c := k0c0) (by decide +kernel) rfl rfl rfl (by decide +kernel)
set_option maxRecDepth 65536 in
theorem w_c3 : (Jvm.Cond.code ({ cls := "com/example/breakline/breakline/ModifierNumbers", name := "take", desc := "(I)I" } : Jvm.MethodName) prog_49_method_2_code (3 : Nat) (Option.some Jvm.ClassFile.FieldType.int)).before args0 about1 = true := code_word (m := ⟨2, 1⟩) (meth := k2m1) (c := k2c1) (by decide +kernel) rfl rfl rfl (by decide +kernel)
set_option maxRecDepth 65536 in
theorem w_c4 : (Jvm.Cond.code ({ cls := "com/example/breakline/breakline/ModifierNumbers", name := "grown", desc := "(II)I" } : Jvm.MethodName) prog_49_method_8_code (2 : Nat) (Option.some Jvm.ClassFile.FieldType.int)).before args0 about1 = true := code_word (m := ⟨2, 4⟩) (meth := k2m4) (c := k2c4) (by decide +kernel) rfl rfl rfl (by decide +kernel)
set_option maxRecDepth 65536 in
theorem w_c5 : (Jvm.Cond.code ({ cls := "java/lang/Math", name := "max", desc := "(JJ)J" } : Jvm.MethodName) jdk_29_method_66_code (4 : Nat) (Option.some Jvm.ClassFile.FieldType.long)).before args0 about1 = true := code_word (m := ⟨3, 1⟩) (meth := k3m1) (c := k3c1) (by decide +kernel) rfl rfl rfl (by decide +kernel)
set_option maxRecDepth 65536 in
theorem w_c6 : (Jvm.Cond.code ({ cls := "java/lang/Math", name := "min", desc := "(JJ)J" } : Jvm.MethodName) jdk_29_method_70_code (4 : Nat) (Option.some Jvm.ClassFile.FieldType.long)).before args0 about1 = true := code_word (m := ⟨3, 3⟩) (meth := k3m3) (c := k3c3) (by decide +kernel) rfl rfl rfl (by decide +kernel)
set_option maxRecDepth 65536 in
theorem w_c7 : (Jvm.Cond.code ({ cls := "java/util/Arrays", name := "copyOf", desc := "([DI)[D" } : Jvm.MethodName) jdk_65_method_127_code (3 : Nat) (Option.some (Jvm.ClassFile.FieldType.array Jvm.ClassFile.FieldType.double))).before args0 about1 = true := code_word (m := ⟨4, 1⟩) (meth := k4m1) (c := k4c1) (by decide +kernel) rfl rfl rfl (by decide +kernel)
set_option maxRecDepth 65536 in
theorem w_c8 : (Jvm.Cond.code ({ cls := "java/lang/Math", name := "min", desc := "(II)I" } : Jvm.MethodName) jdk_29_method_69_code (2 : Nat) (Option.some Jvm.ClassFile.FieldType.int)).before args0 about1 = true := code_word (m := ⟨3, 2⟩) (meth := k3m2) (c := k3c2) (by decide +kernel) rfl rfl rfl (by decide +kernel)
set_option maxRecDepth 65536 in
theorem w_c9 : (Jvm.Cond.code ({ cls := "com/example/breakline/breakline/ModifierTable", name := "<init>", desc := "(Lcom/example/breakline/breakline/ModifierNumbers;II)V" } : Jvm.MethodName) prog_50_method_2_code (4 : Nat) (Option.none : Option Jvm.ClassFile.FieldType)).before args0 about1 = true := code_word (m := ⟨6, 0⟩) (meth := k6m0) (c := k6c0) (by decide +kernel) rfl rfl rfl (by decide +kernel)
set_option maxRecDepth 65536 in
theorem w_c10 : (Jvm.Cond.code ({ cls := "com/example/breakline/breakline/ModifierTable", name := "raiseAll", desc := "()V" } : Jvm.MethodName) prog_50_method_9_code (1 : Nat) (Option.none : Option Jvm.ClassFile.FieldType)).before args0 about1 = true := code_word (m := ⟨6, 7⟩) (meth := k6m7) (c := k6c7) (by decide +kernel) rfl rfl rfl (by decide +kernel)
set_option maxRecDepth 65536 in
theorem w_c11 : (Jvm.Cond.code ({ cls := "com/example/breakline/breakline/ModifierTable", name := "raiseRow", desc := "(I)V" } : Jvm.MethodName) prog_50_method_7_code (2 : Nat) (Option.none : Option Jvm.ClassFile.FieldType)).before args0 about1 = true := code_word (m := ⟨6, 5⟩) (meth := k6m5) (c := k6c5) (by decide +kernel) rfl rfl rfl (by decide +kernel)
set_option maxRecDepth 65536 in
theorem w_c12 : (Jvm.Cond.code ({ cls := "com/example/breakline/breakline/ModifierNumbers", name := "add", desc := "(ID)V" } : Jvm.MethodName) prog_49_method_4_code (8 : Nat) (Option.none : Option Jvm.ClassFile.FieldType)).before args0 about1 = true := code_word (m := ⟨2, 3⟩) (meth := k2m3) (c := k2c3) (by decide +kernel) rfl rfl rfl (by decide +kernel)
set_option maxRecDepth 65536 in
theorem w_c13 : (Jvm.Cond.code ({ cls := "com/example/breakline/breakline/ModifierTableGetPinLaw", name := "entries", desc := "(Lcom/example/breakline/breakline/ModifierTable;ZZIIII)V" } : Jvm.MethodName) method_2_code (7 : Nat) (Option.none : Option Jvm.ClassFile.FieldType)).before args0 about1 = true := code_word (m := ⟨1, 1⟩) (meth := k1m1) (c := k1c1) (by decide +kernel) rfl rfl rfl (by decide +kernel)
set_option maxRecDepth 65536 in
theorem w_c14 : (Jvm.Cond.code ({ cls := "com/example/breakline/breakline/ModifierTable", name := "get", desc := "(II)D" } : Jvm.MethodName) prog_50_method_3_code (5 : Nat) (Option.some Jvm.ClassFile.FieldType.double)).before args0 about1 = true := code_word (m := ⟨6, 1⟩) (meth := k6m1) (c := k6c1) (by decide +kernel) rfl rfl rfl (by decide +kernel)
set_option maxRecDepth 65536 in
theorem w_c15 : (Jvm.Cond.code ({ cls := "com/example/breakline/breakline/ModifierNumbers", name := "get", desc := "(I)D" } : Jvm.MethodName) prog_49_method_3_code (2 : Nat) (Option.some Jvm.ClassFile.FieldType.double)).before args0 about1 = true := code_word (m := ⟨2, 2⟩) (meth := k2m2) (c := k2c2) (by decide +kernel) rfl rfl rfl (by decide +kernel)
set_option maxRecDepth 65536 in
theorem w_c16 : (Jvm.Cond.code ({ cls := "com/example/breakline/breakline/ModifierTable", name := "raiseEntry", desc := "(II)V" } : Jvm.MethodName) prog_50_method_4_code (3 : Nat) (Option.none : Option Jvm.ClassFile.FieldType)).before args0 about1 = true := code_word (m := ⟨6, 2⟩) (meth := k6m2) (c := k6c2) (by decide +kernel) rfl rfl rfl (by decide +kernel)
set_option maxRecDepth 65536 in
theorem w_c17 : (Jvm.Cond.code ({ cls := "com/example/breakline/breakline/ModifierTable", name := "addToEntry", desc := "(IID)V" } : Jvm.MethodName) prog_50_method_6_code (5 : Nat) (Option.none : Option Jvm.ClassFile.FieldType)).before args0 about1 = true := code_word (m := ⟨6, 4⟩) (meth := k6m4) (c := k6c4) (by decide +kernel) rfl rfl rfl (by decide +kernel)
set_option maxRecDepth 65536 in
theorem w_c18 : (Jvm.Cond.code ({ cls := "com/example/breakline/breakline/ModifierTable", name := "lowerEntry", desc := "(II)V" } : Jvm.MethodName) prog_50_method_5_code (3 : Nat) (Option.none : Option Jvm.ClassFile.FieldType)).before args0 about1 = true := code_word (m := ⟨6, 3⟩) (meth := k6m3) (c := k6c3) (by decide +kernel) rfl rfl rfl (by decide +kernel)
set_option maxRecDepth 65536 in
theorem w_c19 : (Jvm.Cond.code ({ cls := "com/example/breakline/breakline/ModifierTable", name := "scaleWhole", desc := "(D)V" } : Jvm.MethodName) prog_50_method_10_code (3 : Nat) (Option.none : Option Jvm.ClassFile.FieldType)).before args0 about1 = true := code_word (m := ⟨6, 8⟩) (meth := k6m8) (c := k6c8) (by decide +kernel) rfl rfl rfl (by decide +kernel)
set_option maxRecDepth 65536 in
theorem w_c20 : (Jvm.Cond.code ({ cls := "com/example/breakline/breakline/ModifierTable", name := "raiseColumn", desc := "(I)V" } : Jvm.MethodName) prog_50_method_8_code (2 : Nat) (Option.none : Option Jvm.ClassFile.FieldType)).before args0 about1 = true := code_word (m := ⟨6, 6⟩) (meth := k6m6) (c := k6c6) (by decide +kernel) rfl rfl rfl (by decide +kernel)
def codes1 : List Jvm.Cond := [Jvm.Cond.code x code maxLocals ret, Jvm.Cond.code ({ cls := "com/example/breakline/breakline/ModifierNumbers", name := "<init>", desc := "()V" } : Jvm.MethodName) prog_49_method_1_code (1 : Nat) (Option.none : Option Jvm.ClassFile.FieldType), Jvm.Cond.code ({ cls := "java/lang/Object", name := "<init>", desc := "()V" } : Jvm.MethodName) object_method_1_code (1 : Nat) (Option.none : Option Jvm.ClassFile.FieldType), Jvm.Cond.code ({ cls := "com/example/breakline/breakline/ModifierNumbers", name := "take", desc := "(I)I" } : Jvm.MethodName) prog_49_method_2_code (3 : Nat) (Option.some Jvm.ClassFile.FieldType.int), Jvm.Cond.code ({ cls := "com/example/breakline/breakline/ModifierNumbers", name := "grown", desc := "(II)I" } : Jvm.MethodName) prog_49_method_8_code (2 : Nat) (Option.some Jvm.ClassFile.FieldType.int), Jvm.Cond.code ({ cls := "java/lang/Math", name := "max", desc := "(JJ)J" } : Jvm.MethodName) jdk_29_method_66_code (4 : Nat) (Option.some Jvm.ClassFile.FieldType.long), Jvm.Cond.code ({ cls := "java/lang/Math", name := "min", desc := "(JJ)J" } : Jvm.MethodName) jdk_29_method_70_code (4 : Nat) (Option.some Jvm.ClassFile.FieldType.long), Jvm.Cond.code ({ cls := "java/util/Arrays", name := "copyOf", desc := "([DI)[D" } : Jvm.MethodName) jdk_65_method_127_code (3 : Nat) (Option.some (Jvm.ClassFile.FieldType.array Jvm.ClassFile.FieldType.double)), Jvm.Cond.code ({ cls := "java/lang/Math", name := "min", desc := "(II)I" } : Jvm.MethodName) jdk_29_method_69_code (2 : Nat) (Option.some Jvm.ClassFile.FieldType.int), Jvm.Cond.code ({ cls := "com/example/breakline/breakline/ModifierTable", name := "<init>", desc := "(Lcom/example/breakline/breakline/ModifierNumbers;II)V" } : Jvm.MethodName) prog_50_method_2_code (4 : Nat) (Option.none : Option Jvm.ClassFile.FieldType), Jvm.Cond.code ({ cls := "com/example/breakline/breakline/ModifierTable", name := "raiseAll", desc := "()V" } : Jvm.MethodName) prog_50_method_9_code (1 : Nat) (Option.none : Option Jvm.ClassFile.FieldType), Jvm.Cond.code ({ cls := "com/example/breakline/breakline/ModifierTable", name := "raiseRow", desc := "(I)V" } : Jvm.MethodName) prog_50_method_7_code (2 : Nat) (Option.none : Option Jvm.ClassFile.FieldType), Jvm.Cond.code ({ cls := "com/example/breakline/breakline/ModifierNumbers", name := "add", desc := "(ID)V" } : Jvm.MethodName) prog_49_method_4_code (8 : Nat) (Option.none : Option Jvm.ClassFile.FieldType), Jvm.Cond.code ({ cls := "com/example/breakline/breakline/ModifierTableGetPinLaw", name := "entries", desc := "(Lcom/example/breakline/breakline/ModifierTable;ZZIIII)V" } : Jvm.MethodName) method_2_code (7 : Nat) (Option.none : Option Jvm.ClassFile.FieldType), Jvm.Cond.code ({ cls := "com/example/breakline/breakline/ModifierTable", name := "get", desc := "(II)D" } : Jvm.MethodName) prog_50_method_3_code (5 : Nat) (Option.some Jvm.ClassFile.FieldType.double), Jvm.Cond.code ({ cls := "com/example/breakline/breakline/ModifierNumbers", name := "get", desc := "(I)D" } : Jvm.MethodName) prog_49_method_3_code (2 : Nat) (Option.some Jvm.ClassFile.FieldType.double), Jvm.Cond.code ({ cls := "com/example/breakline/breakline/ModifierTable", name := "raiseEntry", desc := "(II)V" } : Jvm.MethodName) prog_50_method_4_code (3 : Nat) (Option.none : Option Jvm.ClassFile.FieldType), Jvm.Cond.code ({ cls := "com/example/breakline/breakline/ModifierTable", name := "addToEntry", desc := "(IID)V" } : Jvm.MethodName) prog_50_method_6_code (5 : Nat) (Option.none : Option Jvm.ClassFile.FieldType), Jvm.Cond.code ({ cls := "com/example/breakline/breakline/ModifierTable", name := "lowerEntry", desc := "(II)V" } : Jvm.MethodName) prog_50_method_5_code (3 : Nat) (Option.none : Option Jvm.ClassFile.FieldType), Jvm.Cond.code ({ cls := "com/example/breakline/breakline/ModifierTable", name := "scaleWhole", desc := "(D)V" } : Jvm.MethodName) prog_50_method_10_code (3 : Nat) (Option.none : Option Jvm.ClassFile.FieldType), Jvm.Cond.code ({ cls := "com/example/breakline/breakline/ModifierTable", name := "raiseColumn", desc := "(I)V" } : Jvm.MethodName) prog_50_method_8_code (2 : Nat) (Option.none : Option Jvm.ClassFile.FieldType)]
set_option maxRecDepth 65536 in
theorem codes_eq : words1.filter isCode = codes1 := rfl
theorem w_codes : ∀ c ∈ words1.filter isCode, c.before args0 about1 = true := by
  rw [codes_eq]
  intro c hc
  simp only [codes1, List.mem_cons, List.not_mem_nil, or_false] at hc
  rcases hc with rfl | rfl | rfl | rfl | rfl | rfl | rfl | rfl | rfl | rfl | rfl | rfl | rfl | rfl | rfl | rfl | rfl | rfl | rfl | rfl | rfl
  · exact w_c0
  · exact w_c1
  · exact w_c2
  · exact w_c3
  · exact w_c4
  · exact w_c5
  · exact w_c6
  · exact w_c7
  · exact w_c8
  · exact w_c9
  · exact w_c10
  · exact w_c11
  · exact w_c12
  · exact w_c13
  · exact w_c14
  · exact w_c15
  · exact w_c16
  · exact w_c17
  · exact w_c18
  · exact w_c19
  · exact w_c20
set_option maxRecDepth 65536 in
theorem w_t1 : (words1.take 24).all (fun c => isCode c || c.before args0 about1) = true := by decide +kernel
set_option maxRecDepth 65536 in
theorem w_t2 : ((words1.drop 24).take 24).all (fun c => isCode c || c.before args0 about1) = true := by decide +kernel
set_option maxRecDepth 65536 in
theorem w_t3 : (((words1.drop 24).drop 24).take 24).all (fun c => isCode c || c.before args0 about1) = true := by decide +kernel
set_option maxRecDepth 65536 in
theorem w_t4 : ((((words1.drop 24).drop 24).drop 24).take 24).all (fun c => isCode c || c.before args0 about1) = true := by decide +kernel
set_option maxRecDepth 65536 in
theorem w_t5 : (((((words1.drop 24).drop 24).drop 24).drop 24).take 24).all (fun c => isCode c || c.before args0 about1) = true := by decide +kernel
set_option maxRecDepth 65536 in
theorem w_t6 : (((((words1.drop 24).drop 24).drop 24).drop 24).drop 24).all (fun c => isCode c || c.before args0 about1) = true := by decide +kernel
theorem w_tables : (allAtoms (Jvm.Cond.code x code maxLocals ret :: tables_1)).before args0 about1 = true := by
  rw [allAtoms_all]
  show words1.all (fun c => c.before args0 about1) = true
  refine all_split ?_ w_codes
  rw [← List.take_append_drop 24 words1, List.all_append, w_t1, ← List.take_append_drop 24 (words1.drop 24), List.all_append, w_t2, ← List.take_append_drop 24 ((words1.drop 24).drop 24), List.all_append, w_t3, ← List.take_append_drop 24 (((words1.drop 24).drop 24).drop 24), List.all_append, w_t4, ← List.take_append_drop 24 ((((words1.drop 24).drop 24).drop 24).drop 24), List.all_append, w_t5, w_t6]
  rfl
set_option maxRecDepth 65536 in
theorem w_case : (Jvm.Cond.and given_1 narrow_1).before args0 about1 = true := by decide +kernel
theorem w_applies : (headSpec (Jvm.Cond.code x code maxLocals ret :: tables_1) room_1).applies x e0.platform about1 = true :=
  (Spec.applies_iff w_frames).mpr ⟨w_running, w_runnable, w_alone, w_named, w_hears, w_ripe, w_room, w_tables⟩
theorem atStart : AtStart classFile x code maxLocals ret World_1 tables_1 room_1 Calls_1 rest_1 Pre_1 launch0 p0 e0 about1 theMethod args0 below0 :=
  ⟨lists_1, trivial, launch0.admits_env _ _ _, launch0.least_env, fairChoices_fair.cas, fairChoices_fair.clock, w_frames, w_args, w_heap, w_applies, trivial, trivial, w_case⟩
end start1
theorem witness_1 : WitnessClaimed_1 := ⟨start1.p0, start1.e0, start1.about1, start1.theMethod, start1.args0, start1.below0, start1.atStart⟩
end Jvm.Pilot.@@N@@
