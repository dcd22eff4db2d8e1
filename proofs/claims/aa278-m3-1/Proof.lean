import JvmDerived
import JvmDerived.Pilot.@@N@@Statement
import JvmDerived.Pilot.@@N@@Code
set_option linter.unusedVariables false
set_option linter.unusedSimpArgs false
namespace Jvm.RoadKit
open Sem ClassFile Op Lib Jvm.Stand Jvm.Free Jvm.LawKit
section New
variable {p : Program} {l : Launch} {e : Env} {R : Room} {s : State} {m : MethodId} {args : Array Value} {below : List Frame} {meth : Method} {c : Code} {T : State} {locs : List Loc} {cells slots : Nat}
theorem retI (X : Stand p l e R s m args below meth c T locs cells slots) (hx : p.tables.exec = Jvm.exec) {pc : Nat} {Ls : Array Slot} {z : Int32} {rest : List Value} (hret : meth.sig.returnType = some .int) (hd : decode c.code pc = .ok (.ireturn, 1)) {fs : List Frame}
    (hl : ∀ (f : JFrame) (acts : List Action), f.method = m → f.locked = none → f.entered = [] → (doReturn e (T.setTop f) acts (some (.int z))).1 = T.setFrames fs) : Steps p.tables e below (T.setTop (mkF m pc Ls (.int z :: rest))) (T.setFrames fs) := by
  have hm' : T.vm.method? m = some meth := X.method'
  have hn : narrow .int (.int z) = .int z := rfl
  show Steps p.tables e below (T.setTop { method := m, pc := pc, locals := Ls, stack := _ :: rest, locked := none }) _
  jvm_step X.here [X.here.top, hx, hd, hm', hret, hn]
  first | (intro acts; rw [hl _ acts rfl rfl rfl]) | rw [hl _ _ rfl rfl rfl]
  exact Steps.refl _
end New
end Jvm.RoadKit
namespace Jvm.Pilot.@@N@@
open Jvm Jvm.ClassFile Sem Op Lib Jvm.Free Jvm.Stand Jvm.LawKit Jvm.RoadKit Bundle Jvm.Pilot.@@N@@.Jvm.D
theorem own_nr {n : String} {w : Value} (h : w.isRef = true) : narrow (.object n) w = w := by rcases ref_cases h with rfl | ⟨_, rfl⟩ <;> rfl
theorem own_i {L : List Jvm.Cond} {a0 : Array Value} {Z : State} (hw : ∀ d ∈ L, d.before a0 Z = true) (i : Nat) {d : Jvm.Cond} (h : L[i]? = some d) : d.before a0 Z = true := hw _ (List.mem_of_getElem? h)
theorem d1_0 : decode jdk_29_method_65_code 0 = .ok (.iload_n 0, 1) := by decide +kernel
theorem d1_1 : decode jdk_29_method_65_code 1 = .ok (.iload_n 1, 1) := by decide +kernel
theorem d1_2 : decode jdk_29_method_65_code 2 = .ok (.if_icmp .lt 7, 3) := by decide +kernel
theorem d1_5 : decode jdk_29_method_65_code 5 = .ok (.iload_n 0, 1) := by decide +kernel
theorem d1_6 : decode jdk_29_method_65_code 6 = .ok (.goto 4, 3) := by decide +kernel
theorem d1_9 : decode jdk_29_method_65_code 9 = .ok (.iload_n 1, 1) := by decide +kernel
theorem d1_10 : decode jdk_29_method_65_code 10 = .ok (.ireturn, 1) := by decide +kernel
theorem d2_0 : decode jdk_38_method_2_code 0 = .ok (.aload_n 0, 1) := by decide +kernel
theorem d2_1 : decode jdk_38_method_2_code 1 = .ok (.invokespecial 1, 3) := by decide +kernel
theorem d2_4 : decode jdk_38_method_2_code 4 = .ok (.aload_n 0, 1) := by decide +kernel
theorem d2_5 : decode jdk_38_method_2_code 5 = .ok (.getstatic 39, 3) := by decide +kernel
theorem d2_8 : decode jdk_38_method_2_code 8 = .ok (.putfield 9, 3) := by decide +kernel
theorem d2_11 : decode jdk_38_method_2_code 11 = .ok (.return_, 1) := by decide +kernel
theorem d3_0 : decode jdk_39_method_1_code 0 = .ok (.aload_n 0, 1) := by decide +kernel
theorem d3_1 : decode jdk_39_method_1_code 1 = .ok (.invokespecial 1, 3) := by decide +kernel
theorem d3_4 : decode jdk_39_method_1_code 4 = .ok (.aload_n 0, 1) := by decide +kernel
theorem d3_5 : decode jdk_39_method_1_code 5 = .ok (.iconst 0, 1) := by decide +kernel
theorem d3_6 : decode jdk_39_method_1_code 6 = .ok (.putfield 7, 3) := by decide +kernel
theorem d3_9 : decode jdk_39_method_1_code 9 = .ok (.return_, 1) := by decide +kernel
theorem d4_0 : decode jdk_22_method_1_code 0 = .ok (.aload_n 0, 1) := by decide +kernel
theorem d4_1 : decode jdk_22_method_1_code 1 = .ok (.invokespecial 1, 3) := by decide +kernel
theorem d4_4 : decode jdk_22_method_1_code 4 = .ok (.return_, 1) := by decide +kernel
theorem d6_0 : decode prog_22_method_2_code 0 = .ok (.new 8, 3) := by decide +kernel
theorem d6_3 : decode prog_22_method_2_code 3 = .ok (.dup, 1) := by decide +kernel
theorem d6_4 : decode prog_22_method_2_code 4 = .ok (.iload_n 0, 1) := by decide +kernel
theorem d6_5 : decode prog_22_method_2_code 5 = .ok (.iconst 0, 1) := by decide +kernel
theorem d6_6 : decode prog_22_method_2_code 6 = .ok (.invokespecial 17, 3) := by decide +kernel
theorem d6_9 : decode prog_22_method_2_code 9 = .ok (.areturn, 1) := by decide +kernel
theorem d7_0 : decode prog_22_method_1_code 0 = .ok (.aload_n 0, 1) := by decide +kernel
theorem d7_1 : decode prog_22_method_1_code 1 = .ok (.invokespecial 1, 3) := by decide +kernel
theorem d7_4 : decode prog_22_method_1_code 4 = .ok (.aload_n 0, 1) := by decide +kernel
theorem d7_5 : decode prog_22_method_1_code 5 = .ok (.iload_n 1, 1) := by decide +kernel
theorem d7_6 : decode prog_22_method_1_code 6 = .ok (.putfield 7, 3) := by decide +kernel
theorem d7_9 : decode prog_22_method_1_code 9 = .ok (.aload_n 0, 1) := by decide +kernel
theorem d7_10 : decode prog_22_method_1_code 10 = .ok (.iload_n 2, 1) := by decide +kernel
theorem d7_11 : decode prog_22_method_1_code 11 = .ok (.putfield 13, 3) := by decide +kernel
theorem d7_14 : decode prog_22_method_1_code 14 = .ok (.return_, 1) := by decide +kernel
theorem d8_0 : decode prog_27_method_1_code 0 = .ok (.aload_n 0, 1) := by decide +kernel
theorem d8_1 : decode prog_27_method_1_code 1 = .ok (.invokespecial 1, 3) := by decide +kernel
theorem d8_4 : decode prog_27_method_1_code 4 = .ok (.aload_n 1, 1) := by decide +kernel
theorem d8_5 : decode prog_27_method_1_code 5 = .ok (.invokevirtual 7, 3) := by decide +kernel
theorem d8_8 : decode prog_27_method_1_code 8 = .ok (.ifCond .eq 13, 3) := by decide +kernel
theorem d8_21 : decode prog_27_method_1_code 21 = .ok (.aload_n 3, 1) := by decide +kernel
theorem d8_22 : decode prog_27_method_1_code 22 = .ok (.invokevirtual 20, 3) := by decide +kernel
theorem d8_25 : decode prog_27_method_1_code 25 = .ok (.ifCond .eq 31, 3) := by decide +kernel
theorem d8_56 : decode prog_27_method_1_code 56 = .ok (.aload 4, 2) := by decide +kernel
theorem d8_58 : decode prog_27_method_1_code 58 = .ok (.invokevirtual 20, 3) := by decide +kernel
theorem d8_61 : decode prog_27_method_1_code 61 = .ok (.ifCond .eq 32, 3) := by decide +kernel
theorem d8_93 : decode prog_27_method_1_code 93 = .ok (.aload_n 3, 1) := by decide +kernel
theorem d8_94 : decode prog_27_method_1_code 94 = .ok (.invokevirtual 20, 3) := by decide +kernel
theorem d8_97 : decode prog_27_method_1_code 97 = .ok (.ifCond .ne 40, 3) := by decide +kernel
theorem d8_100 : decode prog_27_method_1_code 100 = .ok (.aload 4, 2) := by decide +kernel
theorem d8_102 : decode prog_27_method_1_code 102 = .ok (.invokevirtual 20, 3) := by decide +kernel
theorem d8_105 : decode prog_27_method_1_code 105 = .ok (.ifCond .ne 32, 3) := by decide +kernel
theorem d8_108 : decode prog_27_method_1_code 108 = .ok (.aload_n 3, 1) := by decide +kernel
theorem d8_109 : decode prog_27_method_1_code 109 = .ok (.invokevirtual 42, 3) := by decide +kernel
theorem d8_112 : decode prog_27_method_1_code 112 = .ok (.aload 4, 2) := by decide +kernel
theorem d8_114 : decode prog_27_method_1_code 114 = .ok (.invokevirtual 42, 3) := by decide +kernel
theorem d8_117 : decode prog_27_method_1_code 117 = .ok (.if_icmp .ne 20, 3) := by decide +kernel
theorem d8_137 : decode prog_27_method_1_code 137 = .ok (.iload 5, 2) := by decide +kernel
theorem d8_139 : decode prog_27_method_1_code 139 = .ok (.iconst 1, 1) := by decide +kernel
theorem d8_140 : decode prog_27_method_1_code 140 = .ok (.if_icmp .ge 18, 3) := by decide +kernel
theorem d8_158 : decode prog_27_method_1_code 158 = .ok (.aload_n 0, 1) := by decide +kernel
theorem d8_159 : decode prog_27_method_1_code 159 = .ok (.aload_n 1, 1) := by decide +kernel
theorem d8_160 : decode prog_27_method_1_code 160 = .ok (.putfield 52, 3) := by decide +kernel
theorem d8_163 : decode prog_27_method_1_code 163 = .ok (.aload_n 0, 1) := by decide +kernel
theorem d8_164 : decode prog_27_method_1_code 164 = .ok (.aload_n 2, 1) := by decide +kernel
theorem d8_165 : decode prog_27_method_1_code 165 = .ok (.putfield 58, 3) := by decide +kernel
theorem d8_168 : decode prog_27_method_1_code 168 = .ok (.aload_n 0, 1) := by decide +kernel
theorem d8_169 : decode prog_27_method_1_code 169 = .ok (.aload_n 3, 1) := by decide +kernel
theorem d8_170 : decode prog_27_method_1_code 170 = .ok (.putfield 62, 3) := by decide +kernel
theorem d8_173 : decode prog_27_method_1_code 173 = .ok (.aload_n 0, 1) := by decide +kernel
theorem d8_174 : decode prog_27_method_1_code 174 = .ok (.aload 4, 2) := by decide +kernel
theorem d8_176 : decode prog_27_method_1_code 176 = .ok (.putfield 66, 3) := by decide +kernel
theorem d8_179 : decode prog_27_method_1_code 179 = .ok (.aload_n 0, 1) := by decide +kernel
theorem d8_180 : decode prog_27_method_1_code 180 = .ok (.iload 5, 2) := by decide +kernel
theorem d8_182 : decode prog_27_method_1_code 182 = .ok (.putfield 69, 3) := by decide +kernel
theorem d8_185 : decode prog_27_method_1_code 185 = .ok (.return_, 1) := by decide +kernel
theorem d9_0 : decode jdk_42_method_55_code 0 = .ok (.aload_n 0, 1) := by decide +kernel
theorem d9_1 : decode jdk_42_method_55_code 1 = .ok (.getfield 9, 3) := by decide +kernel
theorem d9_4 : decode jdk_42_method_55_code 4 = .ok (.arraylength, 1) := by decide +kernel
theorem d9_5 : decode jdk_42_method_55_code 5 = .ok (.ifCond .ne 7, 3) := by decide +kernel
theorem d9_12 : decode jdk_42_method_55_code 12 = .ok (.iconst 0, 1) := by decide +kernel
theorem d9_13 : decode jdk_42_method_55_code 13 = .ok (.ireturn, 1) := by decide +kernel
theorem d10_0 : decode prog_22_method_3_code 0 = .ok (.aload_n 0, 1) := by decide +kernel
theorem d10_1 : decode prog_22_method_3_code 1 = .ok (.getfield 13, 3) := by decide +kernel
theorem d10_4 : decode prog_22_method_3_code 4 = .ok (.ireturn, 1) := by decide +kernel
theorem d11_0 : decode prog_22_method_4_code 0 = .ok (.aload_n 0, 1) := by decide +kernel
theorem d11_1 : decode prog_22_method_4_code 1 = .ok (.getfield 13, 3) := by decide +kernel
theorem d11_4 : decode prog_22_method_4_code 4 = .ok (.ifCond .eq 13, 3) := by decide +kernel
theorem d11_17 : decode prog_22_method_4_code 17 = .ok (.aload_n 0, 1) := by decide +kernel
theorem d11_18 : decode prog_22_method_4_code 18 = .ok (.getfield 7, 3) := by decide +kernel
theorem d11_21 : decode prog_22_method_4_code 21 = .ok (.ireturn, 1) := by decide +kernel
theorem d12_0 : decode jdk_38_method_25_code 0 = .ok (.aload_n 0, 1) := by decide +kernel
theorem d12_1 : decode jdk_38_method_25_code 1 = .ok (.dup, 1) := by decide +kernel
theorem d12_2 : decode jdk_38_method_25_code 2 = .ok (.getfield 63, 3) := by decide +kernel
theorem d12_5 : decode jdk_38_method_25_code 5 = .ok (.iconst 1, 1) := by decide +kernel
theorem d12_6 : decode jdk_38_method_25_code 6 = .ok (.iadd, 1) := by decide +kernel
theorem d12_7 : decode jdk_38_method_25_code 7 = .ok (.putfield 63, 3) := by decide +kernel
theorem d12_10 : decode jdk_38_method_25_code 10 = .ok (.aload_n 0, 1) := by decide +kernel
theorem d12_11 : decode jdk_38_method_25_code 11 = .ok (.aload_n 1, 1) := by decide +kernel
theorem d12_12 : decode jdk_38_method_25_code 12 = .ok (.aload_n 0, 1) := by decide +kernel
theorem d12_13 : decode jdk_38_method_25_code 13 = .ok (.getfield 9, 3) := by decide +kernel
theorem d12_16 : decode jdk_38_method_25_code 16 = .ok (.aload_n 0, 1) := by decide +kernel
theorem d12_17 : decode jdk_38_method_25_code 17 = .ok (.getfield 48, 3) := by decide +kernel
theorem d12_20 : decode jdk_38_method_25_code 20 = .ok (.invokevirtual 131, 3) := by decide +kernel
theorem d12_23 : decode jdk_38_method_25_code 23 = .ok (.iconst 1, 1) := by decide +kernel
theorem d12_24 : decode jdk_38_method_25_code 24 = .ok (.ireturn, 1) := by decide +kernel
theorem d13_0 : decode jdk_38_method_24_code 0 = .ok (.iload_n 3, 1) := by decide +kernel
theorem d13_1 : decode jdk_38_method_24_code 1 = .ok (.aload_n 2, 1) := by decide +kernel
theorem d13_2 : decode jdk_38_method_24_code 2 = .ok (.arraylength, 1) := by decide +kernel
theorem d13_3 : decode jdk_38_method_24_code 3 = .ok (.if_icmp .ne 8, 3) := by decide +kernel
theorem d13_6 : decode jdk_38_method_24_code 6 = .ok (.aload_n 0, 1) := by decide +kernel
theorem d13_7 : decode jdk_38_method_24_code 7 = .ok (.invokevirtual 129, 3) := by decide +kernel
theorem d13_10 : decode jdk_38_method_24_code 10 = .ok (.astore_n 2, 1) := by decide +kernel
theorem d13_11 : decode jdk_38_method_24_code 11 = .ok (.aload_n 2, 1) := by decide +kernel
theorem d13_12 : decode jdk_38_method_24_code 12 = .ok (.iload_n 3, 1) := by decide +kernel
theorem d13_13 : decode jdk_38_method_24_code 13 = .ok (.aload_n 1, 1) := by decide +kernel
theorem d13_14 : decode jdk_38_method_24_code 14 = .ok (.aastore, 1) := by decide +kernel
theorem d13_15 : decode jdk_38_method_24_code 15 = .ok (.aload_n 0, 1) := by decide +kernel
theorem d13_16 : decode jdk_38_method_24_code 16 = .ok (.iload_n 3, 1) := by decide +kernel
theorem d13_17 : decode jdk_38_method_24_code 17 = .ok (.iconst 1, 1) := by decide +kernel
theorem d13_18 : decode jdk_38_method_24_code 18 = .ok (.iadd, 1) := by decide +kernel
theorem d13_19 : decode jdk_38_method_24_code 19 = .ok (.putfield 48, 3) := by decide +kernel
theorem d13_22 : decode jdk_38_method_24_code 22 = .ok (.return_, 1) := by decide +kernel
theorem d14_0 : decode jdk_38_method_7_code 0 = .ok (.aload_n 0, 1) := by decide +kernel
theorem d14_1 : decode jdk_38_method_7_code 1 = .ok (.aload_n 0, 1) := by decide +kernel
theorem d14_2 : decode jdk_38_method_7_code 2 = .ok (.getfield 48, 3) := by decide +kernel
theorem d14_5 : decode jdk_38_method_7_code 5 = .ok (.iconst 1, 1) := by decide +kernel
theorem d14_6 : decode jdk_38_method_7_code 6 = .ok (.iadd, 1) := by decide +kernel
theorem d14_7 : decode jdk_38_method_7_code 7 = .ok (.invokevirtual 69, 3) := by decide +kernel
theorem d14_10 : decode jdk_38_method_7_code 10 = .ok (.areturn, 1) := by decide +kernel
theorem d15_0 : decode jdk_38_method_6_code 0 = .ok (.aload_n 0, 1) := by decide +kernel
theorem d15_1 : decode jdk_38_method_6_code 1 = .ok (.getfield 9, 3) := by decide +kernel
theorem d15_4 : decode jdk_38_method_6_code 4 = .ok (.arraylength, 1) := by decide +kernel
theorem d15_5 : decode jdk_38_method_6_code 5 = .ok (.istore_n 2, 1) := by decide +kernel
theorem d15_6 : decode jdk_38_method_6_code 6 = .ok (.iload_n 2, 1) := by decide +kernel
theorem d15_7 : decode jdk_38_method_6_code 7 = .ok (.ifCond .gt 13, 3) := by decide +kernel
theorem d15_10 : decode jdk_38_method_6_code 10 = .ok (.aload_n 0, 1) := by decide +kernel
theorem d15_11 : decode jdk_38_method_6_code 11 = .ok (.getfield 9, 3) := by decide +kernel
theorem d15_14 : decode jdk_38_method_6_code 14 = .ok (.getstatic 39, 3) := by decide +kernel
theorem d15_17 : decode jdk_38_method_6_code 17 = .ok (.if_acmp .eq 28, 3) := by decide +kernel
theorem d15_45 : decode jdk_38_method_6_code 45 = .ok (.aload_n 0, 1) := by decide +kernel
theorem d15_46 : decode jdk_38_method_6_code 46 = .ok (.bipush 10, 2) := by decide +kernel
theorem d15_48 : decode jdk_38_method_6_code 48 = .ok (.iload_n 1, 1) := by decide +kernel
theorem d15_49 : decode jdk_38_method_6_code 49 = .ok (.invokestatic 79, 3) := by decide +kernel
theorem d15_52 : decode jdk_38_method_6_code 52 = .ok (.anewarray 7, 3) := by decide +kernel
theorem d15_55 : decode jdk_38_method_6_code 55 = .ok (.dup_x1, 1) := by decide +kernel
theorem d15_56 : decode jdk_38_method_6_code 56 = .ok (.putfield 9, 3) := by decide +kernel
theorem d15_59 : decode jdk_38_method_6_code 59 = .ok (.areturn, 1) := by decide +kernel
theorem d16_0 : decode prog_44_method_1_code 0 = .ok (.aload_n 0, 1) := by decide +kernel
theorem d16_1 : decode prog_44_method_1_code 1 = .ok (.invokespecial 1, 3) := by decide +kernel
theorem d16_4 : decode prog_44_method_1_code 4 = .ok (.lconst 0, 1) := by decide +kernel
theorem d16_5 : decode prog_44_method_1_code 5 = .ok (.lstore_n 2, 1) := by decide +kernel
theorem d16_6 : decode prog_44_method_1_code 6 = .ok (.lconst 0, 1) := by decide +kernel
theorem d16_7 : decode prog_44_method_1_code 7 = .ok (.lstore 4, 2) := by decide +kernel
theorem d16_9 : decode prog_44_method_1_code 9 = .ok (.iconst 0, 1) := by decide +kernel
theorem d16_10 : decode prog_44_method_1_code 10 = .ok (.istore 6, 2) := by decide +kernel
theorem d16_12 : decode prog_44_method_1_code 12 = .ok (.iload 6, 2) := by decide +kernel
theorem d16_14 : decode prog_44_method_1_code 14 = .ok (.aload_n 1, 1) := by decide +kernel
theorem d16_15 : decode prog_44_method_1_code 15 = .ok (.invokeinterface 7 1, 5) := by decide +kernel
theorem d16_20 : decode prog_44_method_1_code 20 = .ok (.if_icmp .ge 83, 3) := by decide +kernel
theorem d16_23 : decode prog_44_method_1_code 23 = .ok (.lload 4, 2) := by decide +kernel
theorem d16_25 : decode prog_44_method_1_code 25 = .ok (.aload_n 1, 1) := by decide +kernel
theorem d16_26 : decode prog_44_method_1_code 26 = .ok (.iload 6, 2) := by decide +kernel
theorem d16_28 : decode prog_44_method_1_code 28 = .ok (.invokeinterface 13 2, 5) := by decide +kernel
theorem d16_33 : decode prog_44_method_1_code 33 = .ok (.checkcast 17, 3) := by decide +kernel
theorem d16_36 : decode prog_44_method_1_code 36 = .ok (.invokevirtual 19, 3) := by decide +kernel
theorem d16_39 : decode prog_44_method_1_code 39 = .ok (.i2l, 1) := by decide +kernel
theorem d16_40 : decode prog_44_method_1_code 40 = .ok (.ladd, 1) := by decide +kernel
theorem d16_41 : decode prog_44_method_1_code 41 = .ok (.lstore 4, 2) := by decide +kernel
theorem d16_43 : decode prog_44_method_1_code 43 = .ok (.iconst 0, 1) := by decide +kernel
theorem d16_44 : decode prog_44_method_1_code 44 = .ok (.istore 7, 2) := by decide +kernel
theorem d16_46 : decode prog_44_method_1_code 46 = .ok (.iload 7, 2) := by decide +kernel
theorem d16_48 : decode prog_44_method_1_code 48 = .ok (.iload 6, 2) := by decide +kernel
theorem d16_50 : decode prog_44_method_1_code 50 = .ok (.if_icmp .ge 47, 3) := by decide +kernel
theorem d16_97 : decode prog_44_method_1_code 97 = .ok (.iinc 6 1, 3) := by decide +kernel
theorem d16_100 : decode prog_44_method_1_code 100 = .ok (.goto (-88), 3) := by decide +kernel
theorem d16_103 : decode prog_44_method_1_code 103 = .ok (.aload_n 0, 1) := by decide +kernel
theorem d16_104 : decode prog_44_method_1_code 104 = .ok (.lload 4, 2) := by decide +kernel
theorem d16_106 : decode prog_44_method_1_code 106 = .ok (.putfield 32, 3) := by decide +kernel
theorem d16_109 : decode prog_44_method_1_code 109 = .ok (.aload_n 0, 1) := by decide +kernel
theorem d16_110 : decode prog_44_method_1_code 110 = .ok (.lload_n 2, 1) := by decide +kernel
theorem d16_111 : decode prog_44_method_1_code 111 = .ok (.lconst 0, 1) := by decide +kernel
theorem d16_112 : decode prog_44_method_1_code 112 = .ok (.lcmp, 1) := by decide +kernel
theorem d16_113 : decode prog_44_method_1_code 113 = .ok (.ifCond .ne 7, 3) := by decide +kernel
theorem d16_116 : decode prog_44_method_1_code 116 = .ok (.lconst 1, 1) := by decide +kernel
theorem d16_117 : decode prog_44_method_1_code 117 = .ok (.goto 8, 3) := by decide +kernel
theorem d16_125 : decode prog_44_method_1_code 125 = .ok (.putfield 42, 3) := by decide +kernel
theorem d16_128 : decode prog_44_method_1_code 128 = .ok (.return_, 1) := by decide +kernel
theorem d17_0 : decode jdk_38_method_8_code 0 = .ok (.aload_n 0, 1) := by decide +kernel
theorem d17_1 : decode jdk_38_method_8_code 1 = .ok (.getfield 48, 3) := by decide +kernel
theorem d17_4 : decode jdk_38_method_8_code 4 = .ok (.ireturn, 1) := by decide +kernel
theorem d18_0 : decode jdk_38_method_20_code 0 = .ok (.iload_n 1, 1) := by decide +kernel
theorem d18_1 : decode jdk_38_method_20_code 1 = .ok (.aload_n 0, 1) := by decide +kernel
theorem d18_2 : decode jdk_38_method_20_code 2 = .ok (.getfield 48, 3) := by decide +kernel
theorem d18_5 : decode jdk_38_method_20_code 5 = .ok (.invokestatic 118, 3) := by decide +kernel
theorem d18_8 : decode jdk_38_method_20_code 8 = .ok (.pop, 1) := by decide +kernel
theorem d18_9 : decode jdk_38_method_20_code 9 = .ok (.aload_n 0, 1) := by decide +kernel
theorem d18_10 : decode jdk_38_method_20_code 10 = .ok (.iload_n 1, 1) := by decide +kernel
theorem d18_11 : decode jdk_38_method_20_code 11 = .ok (.invokevirtual 123, 3) := by decide +kernel
theorem d18_14 : decode jdk_38_method_20_code 14 = .ok (.areturn, 1) := by decide +kernel
theorem d19_0 : decode jdk_31_method_17_code 0 = .ok (.iload_n 0, 1) := by decide +kernel
theorem d19_1 : decode jdk_31_method_17_code 1 = .ok (.iload_n 1, 1) := by decide +kernel
theorem d19_2 : decode jdk_31_method_17_code 2 = .ok (.aconst_null, 1) := by decide +kernel
theorem d19_3 : decode jdk_31_method_17_code 3 = .ok (.invokestatic 105, 3) := by decide +kernel
theorem d19_6 : decode jdk_31_method_17_code 6 = .ok (.ireturn, 1) := by decide +kernel
theorem d20_0 : decode jdk_41_method_11_code 0 = .ok (.iload_n 0, 1) := by decide +kernel
theorem d20_1 : decode jdk_41_method_11_code 1 = .ok (.ifCond .lt 8, 3) := by decide +kernel
theorem d20_4 : decode jdk_41_method_11_code 4 = .ok (.iload_n 0, 1) := by decide +kernel
theorem d20_5 : decode jdk_41_method_11_code 5 = .ok (.iload_n 1, 1) := by decide +kernel
theorem d20_6 : decode jdk_41_method_11_code 6 = .ok (.if_icmp .lt 10, 3) := by decide +kernel
theorem d20_16 : decode jdk_41_method_11_code 16 = .ok (.iload_n 0, 1) := by decide +kernel
theorem d20_17 : decode jdk_41_method_11_code 17 = .ok (.ireturn, 1) := by decide +kernel
theorem d21_0 : decode jdk_38_method_18_code 0 = .ok (.aload_n 0, 1) := by decide +kernel
theorem d21_1 : decode jdk_38_method_18_code 1 = .ok (.getfield 9, 3) := by decide +kernel
theorem d21_4 : decode jdk_38_method_18_code 4 = .ok (.iload_n 1, 1) := by decide +kernel
theorem d21_5 : decode jdk_38_method_18_code 5 = .ok (.aaload, 1) := by decide +kernel
theorem d21_6 : decode jdk_38_method_18_code 6 = .ok (.areturn, 1) := by decide +kernel
theorem d22_0 : decode prog_27_method_6_code 0 = .ok (.aload_n 0, 1) := by decide +kernel
theorem d22_1 : decode prog_27_method_6_code 1 = .ok (.getfield 69, 3) := by decide +kernel
theorem d22_4 : decode prog_27_method_6_code 4 = .ok (.ireturn, 1) := by decide +kernel
theorem d23_0 : decode prog_44_method_4_code 0 = .ok (.aload_n 0, 1) := by decide +kernel
theorem d23_1 : decode prog_44_method_4_code 1 = .ok (.getfield 32, 3) := by decide +kernel
theorem d23_4 : decode prog_44_method_4_code 4 = .ok (.lload_n 1, 1) := by decide +kernel
theorem d23_5 : decode prog_44_method_4_code 5 = .ok (.lmul, 1) := by decide +kernel
theorem d23_6 : decode prog_44_method_4_code 6 = .ok (.aload_n 0, 1) := by decide +kernel
theorem d23_7 : decode prog_44_method_4_code 7 = .ok (.getfield 42, 3) := by decide +kernel
theorem d23_10 : decode prog_44_method_4_code 10 = .ok (.lload_n 3, 1) := by decide +kernel
theorem d23_11 : decode prog_44_method_4_code 11 = .ok (.lmul, 1) := by decide +kernel
theorem d23_12 : decode prog_44_method_4_code 12 = .ok (.ladd, 1) := by decide +kernel
theorem d23_13 : decode prog_44_method_4_code 13 = .ok (.lreturn, 1) := by decide +kernel
theorem own_atoms {Z : State} {a0 : Array Value} (hw : ∀ d ∈ tables_1, d.before a0 Z = true) : ∀ a ∈ Bundle.stringAtoms, a.before a0 Z = true := by
  intro d hd
  simp only [Bundle.stringAtoms, List.mem_cons, List.not_mem_nil, or_false] at hd
  rcases hd with rfl | rfl | rfl | rfl | rfl | rfl | rfl
  · exact (own_i hw 35 rfl)
  · exact (own_i hw 36 rfl)
  · exact (own_i hw 37 rfl)
  · exact (own_i hw 38 rfl)
  · exact (own_i hw 39 rfl)
  · exact (own_i hw 40 rfl)
  · exact (own_i hw 41 rfl)
def own_max (a b : Int32) : Int32 := if a < b then b else a
theorem ef_rmMax (m : MethodId) (x0 : Int32) (x1 : Int32) : entryFrame m #[(.int x0), (.int x1)] 2 = mkF m 0 #[.val (.int x0), .val (.int x1)] [] := by first | (simp [entryFrame, mkF, argsToLocals, Value.category]; done) | rfl
def QMax (Z : State) (p1 : Int32) (p2 : Int32) (h0 : Heap) (n0 : Nat) (v : Option Value) (h : Heap) (L : List Loc) : Prop := v = some (.int (own_max p1 p2)) ∧ Fr n0 L ∧ h = h0
set_option maxRecDepth 65536 in
set_option maxHeartbeats 40000000 in
theorem rmMax (l : Launch) (Z : State) (a0 : Array Value) (hw : ∀ d ∈ tables_1, d.before a0 Z = true) (ws : List Jvm.Cond) (p1 : Int32) (p2 : Int32) (h0 : Heap) (n0 : Nat) (Z0 : n0 ≤ h0.size) :
    MetFree l (⟨"java/lang/Math", "max", "(II)I"⟩ : MethodName) (head1 (Jvm.Cond.code (⟨"java/lang/Math", "max", "(II)I"⟩ : MethodName) jdk_29_method_65_code 2 (some .int) :: ws) ({ frames := 0, cells := 0, slots := 0, locals := 0 } : Room)) (fun a U => a = #[(.int p1), (.int p2)] ∧ Z.Warmed39 U.vm ∧ U.heap = h0) (fun _ _ _ _ _ => True) (fun _ U o U' => ∃ v L, o = .returned v ∧ QMax Z p1 p2 h0 n0 v U'.heap L ∧ FrameEnd U o U' L ({ frames := 0, cells := 0, slots := 0, locals := 0 } : Room).cells ({ frames := 0, cells := 0, slots := 0, locals := 0 } : Room).slots) := by
  refine MetFree.of_bodySF (Jvm.Free.JP.mathPlain rfl (by decide +kernel)) hisR ?_
  intro p e s m args below meth c s₁ Bd hml0 hP hK
  obtain ⟨rfl, hZ, hh⟩ := hP
  have hx := Bd.exec
  have hby := Bd.bytes
  have hml : c.maxLocals = 2 := hml0
  have hown : s.vm.findClass "java/lang/Math" = some m.cls := findClass_of_methodNamed Bd.named
  have hnm := (name_of_methodNamed Bd.named Bd.method).1
  have X0 : Stand p l e ({ frames := 0, cells := 0, slots := 0, locals := 0 } : Room) s m #[(.int p1), (.int p2)] below meth c s₁ [] 0 0 := Stand.of_body Bd
  have e0 : s₁.heap = h0 := by rw [← hh, Bd.state]; rfl
  have N0 := Fr.nil n0
  have pre0 : ∀ t, Steps p.tables e below (s₁.setTop (mkF m 0 #[.val (.int p1), .val (.int p2)] [])) t → Steps p.tables e below (s₁.setTop (entryFrame m #[(.int p1), (.int p2)] 2)) t := fun t k => castTop (ef_rmMax m p1 p2) k
  have pre102 : ∀ t, Steps p.tables e below (s₁.setTop (mkF m 2 #[.val (.int p1), .val (.int p2)] [(.int p2), (.int p1)])) t → Steps p.tables e below (s₁.setTop (entryFrame m #[(.int p1), (.int p2)] 2)) t := fun t k => pre0 t (by
    show Steps p.tables e below (s₁.setTop (mkF m 0 #[.val (.int p1), .val (.int p2)] [])) t
    refine XS.iloadN X0.here hx rfl (hb hby d1_0) rfl ?_
    show Steps p.tables e below (s₁.setTop (mkF m 1 #[.val (.int p1), .val (.int p2)] [(.int p1)])) t
    refine XS.iloadN X0.here hx rfl (hb hby d1_1) rfl ?_
    exact k)
  by_cases hc101 : p1 < p2
  · have pre103 : ∀ t, Steps p.tables e below (s₁.setTop (mkF m 10 #[.val (.int p1), .val (.int p2)] [(.int p2)])) t → Steps p.tables e below (s₁.setTop (entryFrame m #[(.int p1), (.int p2)] 2)) t := fun t k => pre102 t (by
      show Steps p.tables e below (s₁.setTop (mkF m 2 #[.val (.int p1), .val (.int p2)] [(.int p2), (.int p1)])) t
      refine XS.icmpYes X0.here hx rfl (pc0 := 2) (pc' := 9) rfl (hb hby d1_2) rfl (tlt hc101).1 (by decide) (by decide) ?_
      show Steps p.tables e below (s₁.setTop (mkF m 9 #[.val (.int p1), .val (.int p2)] [])) t
      refine XS.iloadN X0.here hx rfl (hb hby d1_9) rfl ?_
      exact k)
    obtain ⟨fs, hr, hrun, hended, hW, hsame⟩ := X0.leave (v := some (.int p2)) (fun h => by rw [Bd.returns] at h; cases h)
    refine ⟨_, _, pre103 _ ?_, hrun, hended, _, _, rfl, ?_, ⟨_, rfl⟩, hW, hsame.mono (by decide) (by decide)⟩
    · exact retI X0 hx Bd.returns (hb hby d1_10) hr
    · show QMax Z p1 p2 h0 n0 _ s₁.heap _
      rw [e0]
      exact ⟨(by simp [own_max, hc101]), N0, rfl⟩
  · have pre104 : ∀ t, Steps p.tables e below (s₁.setTop (mkF m 10 #[.val (.int p1), .val (.int p2)] [(.int p1)])) t → Steps p.tables e below (s₁.setTop (entryFrame m #[(.int p1), (.int p2)] 2)) t := fun t k => pre102 t (by
      show Steps p.tables e below (s₁.setTop (mkF m 2 #[.val (.int p1), .val (.int p2)] [(.int p2), (.int p1)])) t
      refine XS.icmpNo X0.here hx rfl (hb hby d1_2) rfl (flt hc101).1 ?_
      show Steps p.tables e below (s₁.setTop (mkF m 5 #[.val (.int p1), .val (.int p2)] [])) t
      refine XS.iloadN X0.here hx rfl (hb hby d1_5) rfl ?_
      show Steps p.tables e below (s₁.setTop (mkF m 6 #[.val (.int p1), .val (.int p2)] [(.int p1)])) t
      refine XS.goto X0.here hx rfl (pc0 := 6) (pc' := 10) rfl (hb hby d1_6) (by decide) (by decide) ?_
      exact k)
    obtain ⟨fs, hr, hrun, hended, hW, hsame⟩ := X0.leave (v := some (.int p1)) (fun h => by rw [Bd.returns] at h; cases h)
    refine ⟨_, _, pre104 _ ?_, hrun, hended, _, _, rfl, ?_, ⟨_, rfl⟩, hW, hsame.mono (by decide) (by decide)⟩
    · exact retI X0 hx Bd.returns (hb hby d1_10) hr
    · show QMax Z p1 p2 h0 n0 _ s₁.heap _
      rw [e0]
      exact ⟨(by simp [own_max, hc101]), N0, rfl⟩
theorem ef_rmMax10 (m : MethodId)  : entryFrame m #[(.int (10 : Int32)), (.int (1 : Int32))] 2 = mkF m 0 #[.val (.int (10 : Int32)), .val (.int (1 : Int32))] [] := by first | (simp [entryFrame, mkF, argsToLocals, Value.category]; done) | rfl
def QMax10 (Z : State)  (h0 : Heap) (n0 : Nat) (v : Option Value) (h : Heap) (L : List Loc) : Prop := v = some (.int (10 : Int32)) ∧ Fr n0 L ∧ h = h0
set_option maxRecDepth 65536 in
set_option maxHeartbeats 40000000 in
theorem rmMax10 (l : Launch) (Z : State) (a0 : Array Value) (hw : ∀ d ∈ tables_1, d.before a0 Z = true) (ws : List Jvm.Cond)  (h0 : Heap) (n0 : Nat) (Z0 : n0 ≤ h0.size) :
    MetFree l (⟨"java/lang/Math", "max", "(II)I"⟩ : MethodName) (head1 (Jvm.Cond.code (⟨"java/lang/Math", "max", "(II)I"⟩ : MethodName) jdk_29_method_65_code 2 (some .int) :: ws) ({ frames := 0, cells := 0, slots := 0, locals := 0 } : Room)) (fun a U => a = #[(.int (10 : Int32)), (.int (1 : Int32))] ∧ Z.Warmed39 U.vm ∧ U.heap = h0) (fun _ _ _ _ _ => True) (fun _ U o U' => ∃ v L, o = .returned v ∧ QMax10 Z h0 n0 v U'.heap L ∧ FrameEnd U o U' L ({ frames := 0, cells := 0, slots := 0, locals := 0 } : Room).cells ({ frames := 0, cells := 0, slots := 0, locals := 0 } : Room).slots) := by
  refine MetFree.of_bodySF (Jvm.Free.JP.mathPlain rfl (by decide +kernel)) hisR ?_
  intro p e s m args below meth c s₁ Bd hml0 hP hK
  obtain ⟨rfl, hZ, hh⟩ := hP
  have hx := Bd.exec
  have hby := Bd.bytes
  have hml : c.maxLocals = 2 := hml0
  have hown : s.vm.findClass "java/lang/Math" = some m.cls := findClass_of_methodNamed Bd.named
  have hnm := (name_of_methodNamed Bd.named Bd.method).1
  have X0 : Stand p l e ({ frames := 0, cells := 0, slots := 0, locals := 0 } : Room) s m #[(.int (10 : Int32)), (.int (1 : Int32))] below meth c s₁ [] 0 0 := Stand.of_body Bd
  have e0 : s₁.heap = h0 := by rw [← hh, Bd.state]; rfl
  have N0 := Fr.nil n0
  have pre0 : ∀ t, Steps p.tables e below (s₁.setTop (mkF m 0 #[.val (.int (10 : Int32)), .val (.int (1 : Int32))] [])) t → Steps p.tables e below (s₁.setTop (entryFrame m #[(.int (10 : Int32)), (.int (1 : Int32))] 2)) t := fun t k => castTop (ef_rmMax10 m ) k
  have pre101 : ∀ t, Steps p.tables e below (s₁.setTop (mkF m 10 #[.val (.int (10 : Int32)), .val (.int (1 : Int32))] [(.int (10 : Int32))])) t → Steps p.tables e below (s₁.setTop (entryFrame m #[(.int (10 : Int32)), (.int (1 : Int32))] 2)) t := fun t k => pre0 t (by
    show Steps p.tables e below (s₁.setTop (mkF m 0 #[.val (.int (10 : Int32)), .val (.int (1 : Int32))] [])) t
    refine XS.iloadN X0.here hx rfl (hb hby d1_0) rfl ?_
    show Steps p.tables e below (s₁.setTop (mkF m 1 #[.val (.int (10 : Int32)), .val (.int (1 : Int32))] [(.int (10 : Int32))])) t
    refine XS.iloadN X0.here hx rfl (hb hby d1_1) rfl ?_
    show Steps p.tables e below (s₁.setTop (mkF m 2 #[.val (.int (10 : Int32)), .val (.int (1 : Int32))] [(.int (1 : Int32)), (.int (10 : Int32))])) t
    refine XS.icmpNo X0.here hx rfl (hb hby d1_2) rfl (flt (by decide : ¬ ((10 : Int32) < (1 : Int32)))).1 ?_
    show Steps p.tables e below (s₁.setTop (mkF m 5 #[.val (.int (10 : Int32)), .val (.int (1 : Int32))] [])) t
    refine XS.iloadN X0.here hx rfl (hb hby d1_5) rfl ?_
    show Steps p.tables e below (s₁.setTop (mkF m 6 #[.val (.int (10 : Int32)), .val (.int (1 : Int32))] [(.int (10 : Int32))])) t
    refine XS.goto X0.here hx rfl (pc0 := 6) (pc' := 10) rfl (hb hby d1_6) (by decide) (by decide) ?_
    exact k)
  obtain ⟨fs, hr, hrun, hended, hW, hsame⟩ := X0.leave (v := some (.int (10 : Int32))) (fun h => by rw [Bd.returns] at h; cases h)
  refine ⟨_, _, pre101 _ ?_, hrun, hended, _, _, rfl, ?_, ⟨_, rfl⟩, hW, hsame.mono (by decide) (by decide)⟩
  · exact retI X0 hx Bd.returns (hb hby d1_10) hr
  · show QMax10 Z h0 n0 _ s₁.heap _
    rw [e0]
    exact ⟨rfl, N0, rfl⟩
theorem pn_java_util_AbstractCollection : plainName "java/util/AbstractCollection" = true := by first | (simp [plainName, overriddenIn]; done) | decide +kernel
theorem ef_rmAc (m : MethodId) (x0 : Addr) : entryFrame m #[(.ref x0)] 1 = mkF m 0 #[.val (.ref x0)] [] := by first | (simp [entryFrame, mkF, argsToLocals, Value.category]; done) | rfl
def QAc (Z : State) (a1 : Addr) (h0 : Heap) (n0 : Nat) (v : Option Value) (h : Heap) (L : List Loc) : Prop := v = none ∧ Fr n0 L ∧ h = h0
set_option maxRecDepth 65536 in
set_option maxHeartbeats 40000000 in
theorem rmAc (l : Launch) (Z : State) (a0 : Array Value) (hw : ∀ d ∈ tables_1, d.before a0 Z = true) (ws : List Jvm.Cond) (a1 : Addr) (h0 : Heap) (n0 : Nat) (Z0 : n0 ≤ h0.size) :
    MetFree l (⟨"java/util/AbstractCollection", "<init>", "()V"⟩ : MethodName) (head1 (Jvm.Cond.code (⟨"java/util/AbstractCollection", "<init>", "()V"⟩ : MethodName) jdk_22_method_1_code 1 none :: ws) ({ frames := 1, cells := 0, slots := 0, locals := 12 } : Room)) (fun a U => a = #[(.ref a1)] ∧ Z.Warmed39 U.vm ∧ U.heap = h0) (fun _ _ _ _ _ => True) (fun _ U o U' => ∃ v L, o = .returned v ∧ QAc Z a1 h0 n0 v U'.heap L ∧ FrameEnd U o U' L ({ frames := 1, cells := 0, slots := 0, locals := 12 } : Room).cells ({ frames := 1, cells := 0, slots := 0, locals := 12 } : Room).slots) := by
  refine MetFree.of_bodySF (plainFor_of_name pn_java_util_AbstractCollection) hisR ?_
  intro p e s m args below meth c s₁ Bd hml0 hP hK
  obtain ⟨rfl, hZ, hh⟩ := hP
  have hx := Bd.exec
  have hby := Bd.bytes
  have hml : c.maxLocals = 1 := hml0
  have hown : s.vm.findClass "java/util/AbstractCollection" = some m.cls := findClass_of_methodNamed Bd.named
  have hnm := (name_of_methodNamed Bd.named Bd.method).1
  have X0 : Stand p l e ({ frames := 1, cells := 0, slots := 0, locals := 12 } : Room) s m #[(.ref a1)] below meth c s₁ [] 0 0 := Stand.of_body Bd
  have e0 : s₁.heap = h0 := by rw [← hh, Bd.state]; rfl
  have N0 := Fr.nil n0
  have pre0 : ∀ t, Steps p.tables e below (s₁.setTop (mkF m 0 #[.val (.ref a1)] [])) t → Steps p.tables e below (s₁.setTop (entryFrame m #[(.ref a1)] 1)) t := fun t k => castTop (ef_rmAc m a1) k
  obtain ⟨T101, X101, e101, st101⟩ := initO X0 hx hZ hown (own_i hw 23 rfl) (own_i hw 24 rfl) (own_i hw 25 rfl) e0 (g := (mkF m 1 #[.val (.ref a1)] [(.ref a1)])) rfl (by rw [hml]; rfl) rfl (hb hby d4_1) (by decide) (W := 0) (by show 2 * 0 + _ ≤ _; exact Nat.le_of_eq rfl) (by decide)
  have pre102 : ∀ t, Steps p.tables e below (T101.setTop (mkF m 4 #[.val (.ref a1)] [])) t → Steps p.tables e below (s₁.setTop (entryFrame m #[(.ref a1)] 1)) t := fun t k => pre0 t (by
    show Steps p.tables e below (s₁.setTop (mkF m 0 #[.val (.ref a1)] [])) t
    refine XS.aloadN X0.here hx rfl (hb hby d4_0) rfl rfl ?_
    show Steps p.tables e below (s₁.setTop (mkF m 1 #[.val (.ref a1)] [(.ref a1)])) t
    refine st101 _ ?_
    exact k)
  obtain ⟨fs, hr, hrun, hended, hW, hsame⟩ := X101.leave (v := none) (fun _ => rfl)
  refine ⟨_, _, pre102 _ ?_, hrun, hended, _, _, rfl, ?_, ⟨_, rfl⟩, hW, hsame.mono (by decide) (by decide)⟩
  · exact X101.returnOut hx Bd.returns (hb hby d4_4) hr
  · show QAc Z a1 h0 n0 _ T101.heap _
    rw [e101]
    exact ⟨rfl, N0, rfl⟩
theorem pn_java_util_AbstractList : plainName "java/util/AbstractList" = true := by first | (simp [plainName, overriddenIn]; done) | decide +kernel
theorem pd_0 : parseMethodDescriptor "()V" = some ⟨[], none⟩ := by decide +kernel
theorem ef_rmAb (m : MethodId) (x0 : Addr) : entryFrame m #[(.ref x0)] 1 = mkF m 0 #[.val (.ref x0)] [] := by first | (simp [entryFrame, mkF, argsToLocals, Value.category]; done) | rfl
def QAb (Z : State) (a1 : Addr) (h0 : Heap) (n0 : Nat) (v : Option Value) (h : Heap) (L : List Loc) : Prop := v = none ∧ Fr n0 L ∧ Keep h0 h [a1] ∧ (Exa Z h a1 "java/util/ArrayList") ∧ (Fld Z h a1 "java/util/AbstractList" "modCount" "I" (.int (0 : Int32))) ∧ (Fld Z h a1 "java/util/ArrayList" "size" "I" (.int (0 : Int32))) ∧ (Fld Z h a1 "java/util/ArrayList" "elementData" "[Ljava/lang/Object;" .null)
set_option maxRecDepth 65536 in
set_option maxHeartbeats 40000000 in
theorem rmAb (l : Launch) (Z : State) (a0 : Array Value) (hw : ∀ d ∈ tables_1, d.before a0 Z = true) (ws : List Jvm.Cond) (a1 : Addr) (h0 : Heap) (n0 : Nat) (Z0 : n0 ≤ h0.size) (M1 : Fld Z h0 a1 "java/util/AbstractList" "modCount" "I" (.int (0 : Int32))) (Z1 : Fld Z h0 a1 "java/util/ArrayList" "size" "I" (.int (0 : Int32))) (D1 : Fld Z h0 a1 "java/util/ArrayList" "elementData" "[Ljava/lang/Object;" .null) (E1 : Exa Z h0 a1 "java/util/ArrayList") (g1 : n0 ≤ a1) :
    MetFree l (⟨"java/util/AbstractList", "<init>", "()V"⟩ : MethodName) (head1 (Jvm.Cond.code (⟨"java/util/AbstractList", "<init>", "()V"⟩ : MethodName) jdk_39_method_1_code 1 none :: ws) ({ frames := 2, cells := 0, slots := 0, locals := 24 } : Room)) (fun a U => a = #[(.ref a1)] ∧ Z.Warmed39 U.vm ∧ U.heap = h0) (fun _ _ _ _ _ => True) (fun _ U o U' => ∃ v L, o = .returned v ∧ QAb Z a1 h0 n0 v U'.heap L ∧ FrameEnd U o U' L ({ frames := 2, cells := 0, slots := 0, locals := 24 } : Room).cells ({ frames := 2, cells := 0, slots := 0, locals := 24 } : Room).slots) := by
  refine MetFree.of_bodySF (plainFor_of_name pn_java_util_AbstractList) hisR ?_
  intro p e s m args below meth c s₁ Bd hml0 hP hK
  obtain ⟨rfl, hZ, hh⟩ := hP
  have hx := Bd.exec
  have hby := Bd.bytes
  have hml : c.maxLocals = 1 := hml0
  have hown : s.vm.findClass "java/util/AbstractList" = some m.cls := findClass_of_methodNamed Bd.named
  have hnm := (name_of_methodNamed Bd.named Bd.method).1
  have X0 : Stand p l e ({ frames := 2, cells := 0, slots := 0, locals := 24 } : Room) s m #[(.ref a1)] below meth c s₁ [] 0 0 := Stand.of_body Bd
  have e0 : s₁.heap = h0 := by rw [← hh, Bd.state]; rfl
  have N0 := Fr.nil n0
  have pre0 : ∀ t, Steps p.tables e below (s₁.setTop (mkF m 0 #[.val (.ref a1)] [])) t → Steps p.tables e below (s₁.setTop (entryFrame m #[(.ref a1)] 1)) t := fun t k => castTop (ef_rmAb m a1) k
  have f101 := Keep.refl h0 [a1]
  obtain ⟨_, _, ⟨T102, L102, k102, n102⟩, -, X102, ⟨Lc102, hQ102, l102, y102, z102⟩, st102⟩ := X0.specialBack hx (y := (⟨"java/util/AbstractCollection", "<init>", "()V"⟩ : MethodName)) rfl hown (mvT hZ (own_i hw 17 rfl)) (mvT hZ (own_i hw 18 rfl)) (mvT hZ (own_i hw 22 rfl)) (by decide) (backOf (W := 0) (rmAc l Z a0 hw [] a1 h0 n0 Z0 ) hZ (own_i hw 22 rfl) (own_i hw 21 rfl) (by decide) (by decide)) (g := (mkF m 1 #[.val (.ref a1)] [(.ref a1)])) rfl (by rw [hml]; rfl) (Steps.refl _) (a := a1) (argsL := []) (rest := []) (lenOf pd_0 rfl) rfl (by show 2 * 0 + _ ≤ _; exact Nat.le_of_eq rfl) (hb hby d3_1) (fun _ _ => ⟨rfl, e0, (by decide : 0 + 0 ≤ _), (by decide : 0 + 0 ≤ _)⟩)
  dsimp only [Pt.U, Pt.locs, Pt.cells, Pt.slots] at X102 l102 y102 z102 st102 hQ102
  subst l102 y102 z102
  obtain ⟨rfl, N102q, e102⟩ := hQ102
  have N102 := Fr.app N0 N102q
  obtain ⟨T103, h103, X103, e103, W103, st103⟩ := putF X102 hx hZ hown (host := "") (Or.inl (own_i hw 26 rfl)) Via.refl e102 M1 E1 (Or.inl (own_i hw 27 rfl)) (own_i hw 6 rfl) (ty := .int) (by decide) rfl rfl (g := (mkF m 6 #[.val (.ref a1)] [(.int (0 : Int32)), (.ref a1)])) rfl rfl (hb hby d3_6)
  have Fw103 := M1.same W103
  have N103 := Fr.snoc X103 N102 g1
  have f104 := Nat.le_trans Z0 (Keep.of_wr W103).1
  have f105 := Z1.other W103 (Or.inr (slot_ne (Or.inl (own_i hw 98 rfl)) (Or.inl (own_i hw 27 rfl)) (by decide) (t := .int) (t' := .int) (by decide) (by decide)))
  have f106 := D1.other W103 (Or.inr (slot_ne (Or.inl (own_i hw 30 rfl)) (Or.inl (own_i hw 27 rfl)) (by decide) (t := (.array (.object "java/lang/Object"))) (t' := .int) (by decide) (by decide)))
  have f107 := E1.wr W103
  have f108 := f101.wr W103 (Or.inl (List.mem_of_getElem? (i := 0) rfl))
  have pre109 : ∀ t, Steps p.tables e below (T103.setTop (mkF m 9 #[.val (.ref a1)] [])) t → Steps p.tables e below (s₁.setTop (entryFrame m #[(.ref a1)] 1)) t := fun t k => pre0 t (by
    show Steps p.tables e below (s₁.setTop (mkF m 0 #[.val (.ref a1)] [])) t
    refine XS.aloadN X0.here hx rfl (hb hby d3_0) rfl rfl ?_
    show Steps p.tables e below (s₁.setTop (mkF m 1 #[.val (.ref a1)] [(.ref a1)])) t
    refine st102.trans ?_
    show Steps p.tables e below (T102.setTop (mkF m 4 #[.val (.ref a1)] [])) t
    refine XS.aloadN X102.here hx rfl (hb hby d3_4) rfl rfl ?_
    show Steps p.tables e below (T102.setTop (mkF m 5 #[.val (.ref a1)] [(.ref a1)])) t
    refine XS.iconst X102.here hx rfl (hb hby d3_5) ?_
    show Steps p.tables e below (T102.setTop (mkF m 6 #[.val (.ref a1)] [(.int (0 : Int32)), (.ref a1)])) t
    refine st103 _ ?_
    exact k)
  obtain ⟨fs, hr, hrun, hended, hW, hsame⟩ := X103.leave (v := none) (fun _ => rfl)
  refine ⟨_, _, pre109 _ ?_, hrun, hended, _, _, rfl, ?_, ⟨_, rfl⟩, hW, hsame.mono (by decide) (by decide)⟩
  · exact X103.returnOut hx Bd.returns (hb hby d3_9) hr
  · show QAb Z a1 h0 n0 _ T103.heap _
    rw [e103]
    exact ⟨rfl, N103, f108, f107, Fw103, f105, f106⟩
theorem pn_java_util_ArrayList : plainName "java/util/ArrayList" = true := by first | (simp [plainName, overriddenIn]; done) | decide +kernel
theorem ef_rmAl (m : MethodId) (x0 : Addr) : entryFrame m #[(.ref x0)] 1 = mkF m 0 #[.val (.ref x0)] [] := by first | (simp [entryFrame, mkF, argsToLocals, Value.category]; done) | rfl
def QAl (Z : State) (a1 : Addr) (wD : Addr) (h0 : Heap) (n0 : Nat) (v : Option Value) (h : Heap) (L : List Loc) : Prop := v = none ∧ Fr n0 L ∧ Keep h0 h [a1] ∧ (Exa Z h a1 "java/util/ArrayList") ∧ (Fld Z h a1 "java/util/AbstractList" "modCount" "I" (.int (0 : Int32))) ∧ (Fld Z h a1 "java/util/ArrayList" "size" "I" (.int (0 : Int32))) ∧ (Fld Z h a1 "java/util/ArrayList" "elementData" "[Ljava/lang/Object;" (.ref wD))
set_option maxRecDepth 65536 in
set_option maxHeartbeats 40000000 in
theorem rmAl (l : Launch) (Z : State) (a0 : Array Value) (hw : ∀ d ∈ tables_1, d.before a0 Z = true) (ws : List Jvm.Cond) (a1 : Addr) (wD : Addr) (h0 : Heap) (n0 : Nat) (Z0 : n0 ≤ h0.size) (M1 : Fld Z h0 a1 "java/util/AbstractList" "modCount" "I" (.int (0 : Int32))) (Z1 : Fld Z h0 a1 "java/util/ArrayList" "size" "I" (.int (0 : Int32))) (D1 : Fld Z h0 a1 "java/util/ArrayList" "elementData" "[Ljava/lang/Object;" .null) (E1 : Exa Z h0 a1 "java/util/ArrayList") (g1 : n0 ≤ a1) (SD : Sta Z Z.heap "java/util/ArrayList" "DEFAULTCAPACITY_EMPTY_ELEMENTDATA" "[Ljava/lang/Object;" (.ref wD)) (O0 : Old Z n0 h0) :
    MetFree l (⟨"java/util/ArrayList", "<init>", "()V"⟩ : MethodName) (head1 (Jvm.Cond.code (⟨"java/util/ArrayList", "<init>", "()V"⟩ : MethodName) jdk_38_method_2_code 1 none :: ws) ({ frames := 3, cells := 0, slots := 0, locals := 36 } : Room)) (fun a U => a = #[(.ref a1)] ∧ Z.Warmed39 U.vm ∧ U.heap = h0) (fun _ _ _ _ _ => True) (fun _ U o U' => ∃ v L, o = .returned v ∧ QAl Z a1 wD h0 n0 v U'.heap L ∧ FrameEnd U o U' L ({ frames := 3, cells := 0, slots := 0, locals := 36 } : Room).cells ({ frames := 3, cells := 0, slots := 0, locals := 36 } : Room).slots) := by
  refine MetFree.of_bodySF (plainFor_of_name pn_java_util_ArrayList) hisR ?_
  intro p e s m args below meth c s₁ Bd hml0 hP hK
  obtain ⟨rfl, hZ, hh⟩ := hP
  have hx := Bd.exec
  have hby := Bd.bytes
  have hml : c.maxLocals = 1 := hml0
  have hown : s.vm.findClass "java/util/ArrayList" = some m.cls := findClass_of_methodNamed Bd.named
  have hnm := (name_of_methodNamed Bd.named Bd.method).1
  have X0 : Stand p l e ({ frames := 3, cells := 0, slots := 0, locals := 36 } : Room) s m #[(.ref a1)] below meth c s₁ [] 0 0 := Stand.of_body Bd
  have e0 : s₁.heap = h0 := by rw [← hh, Bd.state]; rfl
  have N0 := Fr.nil n0
  have pre0 : ∀ t, Steps p.tables e below (s₁.setTop (mkF m 0 #[.val (.ref a1)] [])) t → Steps p.tables e below (s₁.setTop (entryFrame m #[(.ref a1)] 1)) t := fun t k => castTop (ef_rmAl m a1) k
  have f101 := Keep.refl h0 [a1]
  obtain ⟨_, _, ⟨T102, L102, k102, n102⟩, -, X102, ⟨Lc102, hQ102, l102, y102, z102⟩, st102⟩ := X0.specialBack hx (y := (⟨"java/util/AbstractList", "<init>", "()V"⟩ : MethodName)) rfl hown (mvT hZ (own_i hw 11 rfl)) (mvT hZ (own_i hw 12 rfl)) (mvT hZ (own_i hw 16 rfl)) (by decide) (backOf (W := 0) (rmAb l Z a0 hw [] a1 h0 n0 Z0 M1 Z1 D1 E1 g1) hZ (own_i hw 16 rfl) (own_i hw 15 rfl) (by decide) (by decide)) (g := (mkF m 1 #[.val (.ref a1)] [(.ref a1)])) rfl (by rw [hml]; rfl) (Steps.refl _) (a := a1) (argsL := []) (rest := []) (lenOf pd_0 rfl) rfl (by show 2 * 0 + _ ≤ _; exact Nat.le_of_eq rfl) (hb hby d2_1) (fun _ _ => ⟨rfl, e0, (by decide : 0 + 0 ≤ _), (by decide : 0 + 0 ≤ _)⟩)
  dsimp only [Pt.U, Pt.locs, Pt.cells, Pt.slots] at X102 l102 y102 z102 st102 hQ102
  subst l102 y102 z102
  obtain ⟨rfl, N102q, K102, f103, f104, f105, f106⟩ := hQ102
  have N102 := Fr.app N0 N102q
  have f107 := Nat.le_trans Z0 K102.1
  have f108 := O0.keep K102 (allS g1 all0)
  have f109 := f101.trans K102 (allS (Or.inl (List.mem_of_getElem? (i := 0) rfl)) all0)
  obtain ⟨T110, X110, e110, st110⟩ := getS2 X102 hx hZ hown (host := "") (Or.inl (own_i hw 28 rfl)) Via.refl rfl (SD.ext f108.2) (g := (mkF m 5 #[.val (.ref a1)] [(.ref a1)])) rfl (hb hby d2_5)
  obtain ⟨T111, h111, X111, e111, W111, st111⟩ := putF X110 hx hZ hown (host := "") (Or.inl (own_i hw 29 rfl)) Via.refl e110 f106 f103 (Or.inl (own_i hw 30 rfl)) (own_i hw 6 rfl) (ty := (.array (.object "java/lang/Object"))) (by decide) rfl rfl (g := (mkF m 8 #[.val (.ref a1)] [(.ref wD), (.ref a1)])) rfl rfl (hb hby d2_8)
  have Fw111 := f106.same W111
  have N111 := Fr.snoc X111 N102 g1
  have f112 := Nat.le_trans f107 (Keep.of_wr W111).1
  have f113 := f103.wr W111
  have f114 := f108.wr W111 g1
  have f115 := f109.wr W111 (Or.inl (List.mem_of_getElem? (i := 0) rfl))
  have f116 := f104.other W111 (Or.inr (slot_ne (Or.inl (own_i hw 27 rfl)) (Or.inl (own_i hw 30 rfl)) (by decide) (t := .int) (t' := (.array (.object "java/lang/Object"))) (by decide) (by decide)))
  have f117 := f105.other W111 (Or.inr (slot_ne (Or.inl (own_i hw 98 rfl)) (Or.inl (own_i hw 30 rfl)) (by decide) (t := .int) (t' := (.array (.object "java/lang/Object"))) (by decide) (by decide)))
  have pre118 : ∀ t, Steps p.tables e below (T111.setTop (mkF m 11 #[.val (.ref a1)] [])) t → Steps p.tables e below (s₁.setTop (entryFrame m #[(.ref a1)] 1)) t := fun t k => pre0 t (by
    show Steps p.tables e below (s₁.setTop (mkF m 0 #[.val (.ref a1)] [])) t
    refine XS.aloadN X0.here hx rfl (hb hby d2_0) rfl rfl ?_
    show Steps p.tables e below (s₁.setTop (mkF m 1 #[.val (.ref a1)] [(.ref a1)])) t
    refine st102.trans ?_
    show Steps p.tables e below (T102.setTop (mkF m 4 #[.val (.ref a1)] [])) t
    refine XS.aloadN X102.here hx rfl (hb hby d2_4) rfl rfl ?_
    show Steps p.tables e below (T102.setTop (mkF m 5 #[.val (.ref a1)] [(.ref a1)])) t
    refine st110 _ ?_
    show Steps p.tables e below (T110.setTop (mkF m 8 #[.val (.ref a1)] [(.ref wD), (.ref a1)])) t
    refine st111 _ ?_
    exact k)
  obtain ⟨fs, hr, hrun, hended, hW, hsame⟩ := X111.leave (v := none) (fun _ => rfl)
  refine ⟨_, _, pre118 _ ?_, hrun, hended, _, _, rfl, ?_, ⟨_, rfl⟩, hW, hsame.mono (by decide) (by decide)⟩
  · exact X111.returnOut hx Bd.returns (hb hby d2_11) hr
  · show QAl Z a1 wD h0 n0 _ T111.heap _
    rw [e111]
    exact ⟨rfl, N111, f115, f113, f116, f117, Fw111⟩
theorem pd_1 : parseMethodDescriptor "(II)I" = some ⟨[.int, .int], some .int⟩ := by decide +kernel
theorem ef_rmG1 (m : MethodId) (x0 : Addr) : entryFrame m #[(.ref x0), (.int (1 : Int32))] 4 = mkF m 0 #[.val (.ref x0), .val (.int (1 : Int32)), .unset, .unset] [] := by first | (simp [entryFrame, mkF, argsToLocals, Value.category]; done) | rfl
def QG1 (Z : State) (a1 : Addr) (wD : Addr) (kD : ClassId) (w : Int32) (h0 : Heap) (n0 : Nat) (v : Option Value) (h : Heap) (L : List Loc) : Prop := ∃ (b : Addr) (kb : ClassId), v = some (.ref b) ∧ Fr n0 L ∧ Keep h0 h [a1] ∧ (n0 ≤ b) ∧ (h0.size ≤ b) ∧ (Exa Z h a1 "java/util/ArrayList") ∧ (Fld Z h a1 "java/util/AbstractList" "modCount" "I" (.int w)) ∧ (Fld Z h a1 "java/util/ArrayList" "size" "I" (.int (0 : Int32))) ∧ (Fld Z h a1 "java/util/ArrayList" "elementData" "[Ljava/lang/Object;" (.ref b)) ∧ (Arv Z h b kb (.object "java/lang/Object") (10 : Int32) [.null, .null, .null, .null, .null, .null, .null, .null, .null, .null] .null) ∧ (Ovr Z kb "java/lang/Object")
set_option maxRecDepth 65536 in
set_option maxHeartbeats 40000000 in
theorem rmG1 (l : Launch) (Z : State) (a0 : Array Value) (hw : ∀ d ∈ tables_1, d.before a0 Z = true) (ws : List Jvm.Cond) (a1 : Addr) (wD : Addr) (kD : ClassId) (w : Int32) (h0 : Heap) (n0 : Nat) (Z0 : n0 ≤ h0.size) (M1 : Fld Z h0 a1 "java/util/AbstractList" "modCount" "I" (.int w)) (Z1 : Fld Z h0 a1 "java/util/ArrayList" "size" "I" (.int (0 : Int32))) (D1 : Fld Z h0 a1 "java/util/ArrayList" "elementData" "[Ljava/lang/Object;" (.ref wD)) (E1 : Exa Z h0 a1 "java/util/ArrayList") (g1 : n0 ≤ a1) (SD : Sta Z Z.heap "java/util/ArrayList" "DEFAULTCAPACITY_EMPTY_ELEMENTDATA" "[Ljava/lang/Object;" (.ref wD)) (O0 : Old Z n0 h0) (VD : Arv Z Z.heap wD kD (.object "java/lang/Object") (0 : Int32) [] .null) :
    MetFree l (⟨"java/util/ArrayList", "grow", "(I)[Ljava/lang/Object;"⟩ : MethodName) (head1 (Jvm.Cond.code (⟨"java/util/ArrayList", "grow", "(I)[Ljava/lang/Object;"⟩ : MethodName) jdk_38_method_6_code 4 (some (.array (.object "java/lang/Object"))) :: ws) ({ frames := 1, cells := 1, slots := 10, locals := 14 } : Room)) (fun a U => a = #[(.ref a1), (.int (1 : Int32))] ∧ Z.Warmed39 U.vm ∧ U.heap = h0) (fun _ _ _ _ _ => True) (fun _ U o U' => ∃ v L, o = .returned v ∧ QG1 Z a1 wD kD w h0 n0 v U'.heap L ∧ FrameEnd U o U' L ({ frames := 1, cells := 1, slots := 10, locals := 14 } : Room).cells ({ frames := 1, cells := 1, slots := 10, locals := 14 } : Room).slots) := by
  refine MetFree.of_bodySF (plainFor_of_name pn_java_util_ArrayList) hisR ?_
  intro p e s m args below meth c s₁ Bd hml0 hP hK
  obtain ⟨rfl, hZ, hh⟩ := hP
  have hx := Bd.exec
  have hby := Bd.bytes
  have hml : c.maxLocals = 4 := hml0
  have hown : s.vm.findClass "java/util/ArrayList" = some m.cls := findClass_of_methodNamed Bd.named
  have hnm := (name_of_methodNamed Bd.named Bd.method).1
  have X0 : Stand p l e ({ frames := 1, cells := 1, slots := 10, locals := 14 } : Room) s m #[(.ref a1), (.int (1 : Int32))] below meth c s₁ [] 0 0 := Stand.of_body Bd
  have e0 : s₁.heap = h0 := by rw [← hh, Bd.state]; rfl
  have N0 := Fr.nil n0
  have pre0 : ∀ t, Steps p.tables e below (s₁.setTop (mkF m 0 #[.val (.ref a1), .val (.int (1 : Int32)), .unset, .unset] [])) t → Steps p.tables e below (s₁.setTop (entryFrame m #[(.ref a1), (.int (1 : Int32))] 4)) t := fun t k => castTop (ef_rmG1 m a1) k
  have f101 := Keep.refl h0 [a1]
  obtain ⟨T102, X102, e102, st102⟩ := getF X0 hx hZ hown (host := "") (Or.inl (own_i hw 29 rfl)) Via.refl e0 D1 (g := (mkF m 1 #[.val (.ref a1), .val (.int (1 : Int32)), .unset, .unset] [(.ref a1)])) rfl rfl (hb hby d15_1)
  obtain ⟨cl103, Ar103, q103, S103, N103z, H103, G103⟩ := (id (VD.ext O0.2))
  obtain ⟨T104, X104, e104, st104⟩ := getF X102 hx hZ hown (host := "") (Or.inl (own_i hw 29 rfl)) Via.refl e102 D1 (g := (mkF m 11 #[.val (.ref a1), .val (.int (1 : Int32)), .val (.int (0 : Int32)), .unset] [(.ref a1)])) rfl rfl (hb hby d15_11)
  obtain ⟨T105, X105, e105, st105⟩ := getS2 X104 hx hZ hown (host := "") (Or.inl (own_i hw 28 rfl)) Via.refl e104 (SD.ext O0.2) (g := (mkF m 14 #[.val (.ref a1), .val (.int (1 : Int32)), .val (.int (0 : Int32)), .unset] [(.ref wD)])) rfl (hb hby d15_14)
  obtain ⟨_, _, ⟨T106, L106, k106, n106⟩, -, X106, ⟨Lc106, hQ106, l106, y106, z106⟩, st106⟩ := Jvm.LawKit.callS X105 hx (y := (⟨"java/lang/Math", "max", "(II)I"⟩ : MethodName)) hown (mvT hZ (own_i hw 114 rfl)) (mvT hZ (own_i hw 2 rfl)) (mvT hZ (own_i hw 3 rfl)) (mvT hZ (own_i hw 4 rfl)) (by decide) (backOf (W := 1) (rmMax10 l Z a0 hw []  h0 n0 Z0 ) hZ (own_i hw 4 rfl) (own_i hw 3 rfl) (by decide) (by decide)) (g := (mkF m 49 #[.val (.ref a1), .val (.int (1 : Int32)), .val (.int (0 : Int32)), .unset] [(.int (1 : Int32)), (.int (10 : Int32)), (.ref a1)])) rfl (by rw [hml]; rfl) (argsL := [(.int (10 : Int32)), (.int (1 : Int32))]) (rest := [(.ref a1)]) (lenOf pd_1 rfl) rfl (by show 2 * 0 + _ ≤ _; exact Nat.le_of_eq rfl) (hb hby d15_49) (fun _ _ => ⟨rfl, e105, (by decide : 0 + 0 ≤ _), (by decide : 0 + 0 ≤ _)⟩)
  dsimp only [Pt.U, Pt.locs, Pt.cells, Pt.slots] at X106 l106 y106 z106 st106 hQ106
  subst l106 y106 z106
  obtain ⟨rfl, N106q, e106⟩ := hQ106
  have N106 := Fr.app N0 N106q
  obtain ⟨T107, h107, k107, X107, e107, E107, A107, O107, st107⟩ := newR X106 hx hZ hown (own_i hw 115 rfl) (own_i hw 116 rfl) e106 (g := (mkF m 52 #[.val (.ref a1), .val (.int (1 : Int32)), .val (.int (0 : Int32)), .unset] [(.int (10 : Int32)), (.ref a1)])) rfl (hb hby d15_52) rfl (by decide) (cap := 10) (by decide) (by decide) (by decide) (by decide)
  obtain ⟨b107, g107⟩ : ∃ z, z = h0.size := ⟨_, rfl⟩
  rw [← g107] at A107 st107
  have ne108 : a1 ≠ b107 := Nat.ne_of_lt (Nat.lt_of_lt_of_le M1.lt (Nat.le_of_eq g107.symm))
  have ga109 : n0 ≤ b107 := Nat.le_trans Z0 (Nat.le_of_eq g107.symm)
  have sz110 : h0.size ≤ b107 := Nat.le_trans f101.1 (Nat.le_of_eq g107.symm)
  have V107 : Arv Z h107 b107 k107 (.object "java/lang/Object") (10 : Int32) [.null, .null, .null, .null, .null, .null, .null, .null, .null, .null] .null := (Arv.new A107 (by decide)).pad (pad_rep [] .null 10)
  have f111 := Nat.le_trans Z0 E107.1
  have f112 := M1.ext E107
  have f113 := Z1.ext E107
  have f114 := D1.ext E107
  have f115 := E1.ext E107
  have f116 := O0.ext E107
  have f117 := f101.ext E107
  obtain ⟨T118, h118, X118, e118, W118, st118⟩ := putF X107 hx hZ hown (host := "") (Or.inl (own_i hw 29 rfl)) Via.refl e107 f114 f115 (Or.inl (own_i hw 30 rfl)) (own_i hw 6 rfl) (ty := (.array (.object "java/lang/Object"))) (by decide) rfl rfl (g := (mkF m 56 #[.val (.ref a1), .val (.int (1 : Int32)), .val (.int (0 : Int32)), .unset] [(.ref b107), (.ref a1), (.ref b107)])) rfl rfl (hb hby d15_56)
  have Fw118 := f114.same W118
  have N118 := Fr.snoc X118 N106 g1
  have f119 := Nat.le_trans f111 (Keep.of_wr W118).1
  have f120 := f112.other W118 (Or.inr (slot_ne (Or.inl (own_i hw 27 rfl)) (Or.inl (own_i hw 30 rfl)) (by decide) (t := .int) (t' := (.array (.object "java/lang/Object"))) (by decide) (by decide)))
  have f121 := f113.other W118 (Or.inr (slot_ne (Or.inl (own_i hw 98 rfl)) (Or.inl (own_i hw 30 rfl)) (by decide) (t := .int) (t' := (.array (.object "java/lang/Object"))) (by decide) (by decide)))
  have f122 := f115.wr W118
  have f123 := f116.wr W118 g1
  have f124 := f117.wr W118 (Or.inl (List.mem_of_getElem? (i := 0) rfl))
  have f125 := V107.other W118 (Ne.symm ne108)
  have pre126 : ∀ t, Steps p.tables e below (T118.setTop (mkF m 59 #[.val (.ref a1), .val (.int (1 : Int32)), .val (.int (0 : Int32)), .unset] [(.ref b107)])) t → Steps p.tables e below (s₁.setTop (entryFrame m #[(.ref a1), (.int (1 : Int32))] 4)) t := fun t k => pre0 t (by
    show Steps p.tables e below (s₁.setTop (mkF m 0 #[.val (.ref a1), .val (.int (1 : Int32)), .unset, .unset] [])) t
    refine XS.aloadN X0.here hx rfl (hb hby d15_0) rfl rfl ?_
    show Steps p.tables e below (s₁.setTop (mkF m 1 #[.val (.ref a1), .val (.int (1 : Int32)), .unset, .unset] [(.ref a1)])) t
    refine st102 _ ?_
    show Steps p.tables e below (T102.setTop (mkF m 4 #[.val (.ref a1), .val (.int (1 : Int32)), .unset, .unset] [(.ref wD)])) t
    refine X102.arraylength hx (by rw [e102]; exact Ar103.1) (State.isArrayOf_alike hZ.alike Ar103.2.1) (g := (mkF m 4 #[.val (.ref a1), .val (.int (1 : Int32)), .unset, .unset] [(.ref wD)])) rfl rfl (hb hby d15_4) _ ?_
    rw [len_of S103 N103z]
    show Steps p.tables e below (T102.setTop (mkF m 5 #[.val (.ref a1), .val (.int (1 : Int32)), .unset, .unset] [(.int (0 : Int32))])) t
    refine XS.istoreN X102.here hx rfl (hb hby d15_5) rfl (l' := #[.val (.ref a1), .val (.int (1 : Int32)), .val (.int (0 : Int32)), .unset]) rfl ?_
    show Steps p.tables e below (T102.setTop (mkF m 6 #[.val (.ref a1), .val (.int (1 : Int32)), .val (.int (0 : Int32)), .unset] [])) t
    refine XS.iloadN X102.here hx rfl (hb hby d15_6) rfl ?_
    show Steps p.tables e below (T102.setTop (mkF m 7 #[.val (.ref a1), .val (.int (1 : Int32)), .val (.int (0 : Int32)), .unset] [(.int (0 : Int32))])) t
    refine XS.ifNo X102.here hx rfl (hb hby d15_7) rfl ((if0 _ _).trans (flt (by decide : ¬ ((0 : Int32) < (0 : Int32)))).2.2.1) ?_
    show Steps p.tables e below (T102.setTop (mkF m 10 #[.val (.ref a1), .val (.int (1 : Int32)), .val (.int (0 : Int32)), .unset] [])) t
    refine XS.aloadN X102.here hx rfl (hb hby d15_10) rfl rfl ?_
    show Steps p.tables e below (T102.setTop (mkF m 11 #[.val (.ref a1), .val (.int (1 : Int32)), .val (.int (0 : Int32)), .unset] [(.ref a1)])) t
    refine st104 _ ?_
    show Steps p.tables e below (T104.setTop (mkF m 14 #[.val (.ref a1), .val (.int (1 : Int32)), .val (.int (0 : Int32)), .unset] [(.ref wD)])) t
    refine st105 _ ?_
    show Steps p.tables e below (T105.setTop (mkF m 17 #[.val (.ref a1), .val (.int (1 : Int32)), .val (.int (0 : Int32)), .unset] [(.ref wD), (.ref wD)])) t
    refine Jvm.RoadKit.acmp (g := (mkF m 17 #[.val (.ref a1), .val (.int (1 : Int32)), .val (.int (0 : Int32)), .unset] [(.ref wD), (.ref wD)])) X105 hx rfl rfl rfl (pc0 := 17) (pc' := 45) (same := true) rfl (hb hby d15_17) rfl (decide_eq_true rfl) (by decide) (by decide) ?_
    show Steps p.tables e below (T105.setTop (mkF m 45 #[.val (.ref a1), .val (.int (1 : Int32)), .val (.int (0 : Int32)), .unset] [])) t
    refine XS.aloadN X105.here hx rfl (hb hby d15_45) rfl rfl ?_
    show Steps p.tables e below (T105.setTop (mkF m 46 #[.val (.ref a1), .val (.int (1 : Int32)), .val (.int (0 : Int32)), .unset] [(.ref a1)])) t
    refine XS.bipush X105.here hx rfl (hb hby d15_46) ?_
    show Steps p.tables e below (T105.setTop (mkF m 48 #[.val (.ref a1), .val (.int (1 : Int32)), .val (.int (0 : Int32)), .unset] [(.int (10 : Int32)), (.ref a1)])) t
    refine XS.iloadN X105.here hx rfl (hb hby d15_48) rfl ?_
    show Steps p.tables e below (T105.setTop (mkF m 49 #[.val (.ref a1), .val (.int (1 : Int32)), .val (.int (0 : Int32)), .unset] [(.int (1 : Int32)), (.int (10 : Int32)), (.ref a1)])) t
    refine st106 _ ?_
    show Steps p.tables e below (T106.setTop (mkF m 52 #[.val (.ref a1), .val (.int (1 : Int32)), .val (.int (0 : Int32)), .unset] [(.int (10 : Int32)), (.ref a1)])) t
    refine st107 _ ?_
    show Steps p.tables e below (T107.setTop (mkF m 55 #[.val (.ref a1), .val (.int (1 : Int32)), .val (.int (0 : Int32)), .unset] [(.ref b107), (.ref a1)])) t
    refine XS.dupX1 X107.here hx rfl (hb hby d15_55) rfl rfl rfl ?_
    show Steps p.tables e below (T107.setTop (mkF m 56 #[.val (.ref a1), .val (.int (1 : Int32)), .val (.int (0 : Int32)), .unset] [(.ref b107), (.ref a1), (.ref b107)])) t
    refine st118 _ ?_
    exact k)
  obtain ⟨fs, hr, hrun, hended, hW, hsame⟩ := X118.leave (v := some (.ref b107)) (fun h => by rw [Bd.returns] at h; cases h)
  refine ⟨_, _, pre126 _ ?_, hrun, hended, _, _, rfl, ?_, ⟨_, rfl⟩, hW, hsame.mono (by decide) (by decide)⟩
  · exact retOut X118 hx Bd.returns rfl (Or.inr (Or.inr (Or.inr (Or.inr ⟨rfl, rfl, rfl⟩)))) (hb hby d15_59) hr
  · show QG1 Z a1 wD kD w h0 n0 _ T118.heap _
    rw [e118]
    exact ⟨b107, k107, rfl, N118, f124, ga109, sz110, f122, f120, f121, Fw118, f125, O107⟩
theorem pd_2 : parseMethodDescriptor "(I)[Ljava/lang/Object;" = some ⟨[.int], some (.array (.object "java/lang/Object"))⟩ := by decide +kernel
theorem ef_rmG0 (m : MethodId) (x0 : Addr) : entryFrame m #[(.ref x0)] 1 = mkF m 0 #[.val (.ref x0)] [] := by first | (simp [entryFrame, mkF, argsToLocals, Value.category]; done) | rfl
def QG0 (Z : State) (a1 : Addr) (wD : Addr) (kD : ClassId) (w : Int32) (h0 : Heap) (n0 : Nat) (v : Option Value) (h : Heap) (L : List Loc) : Prop := ∃ (b : Addr) (kb : ClassId), v = some (.ref b) ∧ Fr n0 L ∧ Keep h0 h [a1] ∧ (n0 ≤ b) ∧ (h0.size ≤ b) ∧ (Exa Z h a1 "java/util/ArrayList") ∧ (Fld Z h a1 "java/util/AbstractList" "modCount" "I" (.int w)) ∧ (Fld Z h a1 "java/util/ArrayList" "size" "I" (.int (0 : Int32))) ∧ (Fld Z h a1 "java/util/ArrayList" "elementData" "[Ljava/lang/Object;" (.ref b)) ∧ (Arv Z h b kb (.object "java/lang/Object") (10 : Int32) [.null, .null, .null, .null, .null, .null, .null, .null, .null, .null] .null) ∧ (Ovr Z kb "java/lang/Object")
set_option maxRecDepth 65536 in
set_option maxHeartbeats 40000000 in
theorem rmG0 (l : Launch) (Z : State) (a0 : Array Value) (hw : ∀ d ∈ tables_1, d.before a0 Z = true) (ws : List Jvm.Cond) (a1 : Addr) (wD : Addr) (kD : ClassId) (w : Int32) (h0 : Heap) (n0 : Nat) (Z0 : n0 ≤ h0.size) (M1 : Fld Z h0 a1 "java/util/AbstractList" "modCount" "I" (.int w)) (Z1 : Fld Z h0 a1 "java/util/ArrayList" "size" "I" (.int (0 : Int32))) (D1 : Fld Z h0 a1 "java/util/ArrayList" "elementData" "[Ljava/lang/Object;" (.ref wD)) (E1 : Exa Z h0 a1 "java/util/ArrayList") (g1 : n0 ≤ a1) (SD : Sta Z Z.heap "java/util/ArrayList" "DEFAULTCAPACITY_EMPTY_ELEMENTDATA" "[Ljava/lang/Object;" (.ref wD)) (O0 : Old Z n0 h0) (VD : Arv Z Z.heap wD kD (.object "java/lang/Object") (0 : Int32) [] .null) :
    MetFree l (⟨"java/util/ArrayList", "grow", "()[Ljava/lang/Object;"⟩ : MethodName) (head1 (Jvm.Cond.code (⟨"java/util/ArrayList", "grow", "()[Ljava/lang/Object;"⟩ : MethodName) jdk_38_method_7_code 1 (some (.array (.object "java/lang/Object"))) :: ws) ({ frames := 2, cells := 1, slots := 10, locals := 29 } : Room)) (fun a U => a = #[(.ref a1)] ∧ Z.Warmed39 U.vm ∧ U.heap = h0) (fun _ _ _ _ _ => True) (fun _ U o U' => ∃ v L, o = .returned v ∧ QG0 Z a1 wD kD w h0 n0 v U'.heap L ∧ FrameEnd U o U' L ({ frames := 2, cells := 1, slots := 10, locals := 29 } : Room).cells ({ frames := 2, cells := 1, slots := 10, locals := 29 } : Room).slots) := by
  refine MetFree.of_bodySF (plainFor_of_name pn_java_util_ArrayList) hisR ?_
  intro p e s m args below meth c s₁ Bd hml0 hP hK
  obtain ⟨rfl, hZ, hh⟩ := hP
  have hx := Bd.exec
  have hby := Bd.bytes
  have hml : c.maxLocals = 1 := hml0
  have hown : s.vm.findClass "java/util/ArrayList" = some m.cls := findClass_of_methodNamed Bd.named
  have hnm := (name_of_methodNamed Bd.named Bd.method).1
  have X0 : Stand p l e ({ frames := 2, cells := 1, slots := 10, locals := 29 } : Room) s m #[(.ref a1)] below meth c s₁ [] 0 0 := Stand.of_body Bd
  have e0 : s₁.heap = h0 := by rw [← hh, Bd.state]; rfl
  have N0 := Fr.nil n0
  have pre0 : ∀ t, Steps p.tables e below (s₁.setTop (mkF m 0 #[.val (.ref a1)] [])) t → Steps p.tables e below (s₁.setTop (entryFrame m #[(.ref a1)] 1)) t := fun t k => castTop (ef_rmG0 m a1) k
  have f101 := Keep.refl h0 [a1]
  obtain ⟨T102, X102, e102, st102⟩ := getF X0 hx hZ hown (host := "") (Or.inl (own_i hw 97 rfl)) Via.refl e0 Z1 (g := (mkF m 2 #[.val (.ref a1)] [(.ref a1), (.ref a1)])) rfl rfl (hb hby d14_2)
  obtain ⟨cq103, q103, q103'⟩ := E1.cell
  obtain ⟨_, _, ⟨T103, L103, k103, n103⟩, -, X103, ⟨Lc103, hQ103, l103, y103, z103⟩, st103⟩ := X102.privateBack hx (y := (⟨"java/util/ArrayList", "grow", "(I)[Ljava/lang/Object;"⟩ : MethodName)) hown (mvT hZ (own_i hw 109 rfl)) (mvT hZ (own_i hw 110 rfl)) (mvT hZ (own_i hw 112 rfl)) (Cond.privateMethod_at (mvP hZ (own_i hw 111 rfl) (args := #[]))) (mvT hZ (own_i hw 113 rfl)) (by decide) (backOf (W := 0) (rmG1 l Z a0 hw [] a1 wD kD w h0 n0 Z0 M1 Z1 D1 E1 g1 SD O0 VD) hZ (own_i hw 113 rfl) (own_i hw 7 rfl) (by decide) (by decide)) (g := (mkF m 7 #[.val (.ref a1)] [(.int (1 : Int32)), (.ref a1)])) rfl (by rw [hml]; rfl) (Steps.refl _) (a := a1) (by rw [e102]; exact q103) q103' (argsL := [(.int (1 : Int32))]) (rest := []) (lenOf pd_2 rfl) rfl (by show 2 * 0 + _ ≤ _; exact Nat.le_of_eq rfl) (hb hby d14_7) (fun _ _ => ⟨rfl, e102, (by decide : 0 + 1 ≤ _), (by decide : 0 + 10 ≤ _)⟩)
  dsimp only [Pt.U, Pt.locs, Pt.cells, Pt.slots] at X103 l103 y103 z103 st103 hQ103
  subst l103 y103 z103
  obtain ⟨b104, x105, rfl, N103q, K103, f106, f107, f108, f109, f110, f111, f112, f113⟩ := hQ103
  have N103 := Fr.app N0 N103q
  have ne114 : a1 ≠ b104 := Nat.ne_of_lt (Nat.lt_of_lt_of_le M1.lt f107)
  have f115 := Nat.le_trans Z0 K103.1
  have f116 := O0.keep K103 (allS g1 all0)
  have f117 := f101.trans K103 (allS (Or.inl (List.mem_of_getElem? (i := 0) rfl)) all0)
  have pre118 : ∀ t, Steps p.tables e below (T103.setTop (mkF m 10 #[.val (.ref a1)] [(.ref b104)])) t → Steps p.tables e below (s₁.setTop (entryFrame m #[(.ref a1)] 1)) t := fun t k => pre0 t (by
    show Steps p.tables e below (s₁.setTop (mkF m 0 #[.val (.ref a1)] [])) t
    refine XS.aloadN X0.here hx rfl (hb hby d14_0) rfl rfl ?_
    show Steps p.tables e below (s₁.setTop (mkF m 1 #[.val (.ref a1)] [(.ref a1)])) t
    refine XS.aloadN X0.here hx rfl (hb hby d14_1) rfl rfl ?_
    show Steps p.tables e below (s₁.setTop (mkF m 2 #[.val (.ref a1)] [(.ref a1), (.ref a1)])) t
    refine st102 _ ?_
    show Steps p.tables e below (T102.setTop (mkF m 5 #[.val (.ref a1)] [(.int (0 : Int32)), (.ref a1)])) t
    refine XS.iconst X102.here hx rfl (hb hby d14_5) ?_
    show Steps p.tables e below (T102.setTop (mkF m 6 #[.val (.ref a1)] [(.int (1 : Int32)), (.int (0 : Int32)), (.ref a1)])) t
    refine XS.iadd X102.here hx rfl (hb hby d14_6) rfl ?_
    show Steps p.tables e below (T102.setTop (mkF m 7 #[.val (.ref a1)] [(.int (1 : Int32)), (.ref a1)])) t
    refine st103.trans ?_
    exact k)
  obtain ⟨fs, hr, hrun, hended, hW, hsame⟩ := X103.leave (v := some (.ref b104)) (fun h => by rw [Bd.returns] at h; cases h)
  refine ⟨_, _, pre118 _ ?_, hrun, hended, _, _, rfl, ?_, ⟨_, rfl⟩, hW, hsame.mono (by decide) (by decide)⟩
  · exact retOut X103 hx Bd.returns rfl (Or.inr (Or.inr (Or.inr (Or.inr ⟨rfl, rfl, rfl⟩)))) (hb hby d14_10) hr
  · show QG0 Z a1 wD kD w h0 n0 _ T103.heap _
    exact ⟨b104, x105, rfl, N103, f117, f106, f107, f108, f109, f110, f111, f112, f113⟩
theorem pd_3 : parseMethodDescriptor "()[Ljava/lang/Object;" = some ⟨[], some (.array (.object "java/lang/Object"))⟩ := by decide +kernel
theorem ef_rmA3 (m : MethodId) (x0 : Addr) (x1 : Addr) (x2 : Addr) : entryFrame m #[(.ref x0), (.ref x1), (.ref x2), (.int (0 : Int32))] 4 = mkF m 0 #[.val (.ref x0), .val (.ref x1), .val (.ref x2), .val (.int (0 : Int32))] [] := by first | (simp [entryFrame, mkF, argsToLocals, Value.category]; done) | rfl
def QA3 (Z : State) (a1 : Addr) (a2 : Addr) (wD : Addr) (kD : ClassId) (w : Int32) (h0 : Heap) (n0 : Nat) (v : Option Value) (h : Heap) (L : List Loc) : Prop := ∃ (b : Addr) (kb : ClassId), v = none ∧ Fr n0 L ∧ Keep h0 h [a1] ∧ (n0 ≤ b) ∧ (h0.size ≤ b) ∧ (Exa Z h a1 "java/util/ArrayList") ∧ (Fld Z h a1 "java/util/AbstractList" "modCount" "I" (.int w)) ∧ (Fld Z h a1 "java/util/ArrayList" "size" "I" (.int (1 : Int32))) ∧ (Fld Z h a1 "java/util/ArrayList" "elementData" "[Ljava/lang/Object;" (.ref b)) ∧ (Arv Z h b kb (.object "java/lang/Object") (10 : Int32) [(.ref a2), .null, .null, .null, .null, .null, .null, .null, .null, .null] .null)
set_option maxRecDepth 65536 in
set_option maxHeartbeats 40000000 in
theorem rmA3 (l : Launch) (Z : State) (a0 : Array Value) (hw : ∀ d ∈ tables_1, d.before a0 Z = true) (ws : List Jvm.Cond) (a1 : Addr) (a2 : Addr) (wD : Addr) (kD : ClassId) (w : Int32) (h0 : Heap) (n0 : Nat) (Z0 : n0 ≤ h0.size) (M1 : Fld Z h0 a1 "java/util/AbstractList" "modCount" "I" (.int w)) (Z1 : Fld Z h0 a1 "java/util/ArrayList" "size" "I" (.int (0 : Int32))) (D1 : Fld Z h0 a1 "java/util/ArrayList" "elementData" "[Ljava/lang/Object;" (.ref wD)) (E1 : Exa Z h0 a1 "java/util/ArrayList") (g1 : n0 ≤ a1) (SD : Sta Z Z.heap "java/util/ArrayList" "DEFAULTCAPACITY_EMPTY_ELEMENTDATA" "[Ljava/lang/Object;" (.ref wD)) (O0 : Old Z n0 h0) (VD : Arv Z Z.heap wD kD (.object "java/lang/Object") (0 : Int32) [] .null) (E2 : Exa Z h0 a2 "com/example/lumenward/lumenward/model/Request") (ne : a2 ≠ a1) :
    MetFree l (⟨"java/util/ArrayList", "add", "(Ljava/lang/Object;[Ljava/lang/Object;I)V"⟩ : MethodName) (head1 (Jvm.Cond.code (⟨"java/util/ArrayList", "add", "(Ljava/lang/Object;[Ljava/lang/Object;I)V"⟩ : MethodName) jdk_38_method_24_code 4 none :: ws) ({ frames := 3, cells := 1, slots := 10, locals := 41 } : Room)) (fun a U => a = #[(.ref a1), (.ref a2), (.ref wD), (.int (0 : Int32))] ∧ Z.Warmed39 U.vm ∧ U.heap = h0) (fun _ _ _ _ _ => True) (fun _ U o U' => ∃ v L, o = .returned v ∧ QA3 Z a1 a2 wD kD w h0 n0 v U'.heap L ∧ FrameEnd U o U' L ({ frames := 3, cells := 1, slots := 10, locals := 41 } : Room).cells ({ frames := 3, cells := 1, slots := 10, locals := 41 } : Room).slots) := by
  refine MetFree.of_bodySF (plainFor_of_name pn_java_util_ArrayList) hisR ?_
  intro p e s m args below meth c s₁ Bd hml0 hP hK
  obtain ⟨rfl, hZ, hh⟩ := hP
  have hx := Bd.exec
  have hby := Bd.bytes
  have hml : c.maxLocals = 4 := hml0
  have hown : s.vm.findClass "java/util/ArrayList" = some m.cls := findClass_of_methodNamed Bd.named
  have hnm := (name_of_methodNamed Bd.named Bd.method).1
  have X0 : Stand p l e ({ frames := 3, cells := 1, slots := 10, locals := 41 } : Room) s m #[(.ref a1), (.ref a2), (.ref wD), (.int (0 : Int32))] below meth c s₁ [] 0 0 := Stand.of_body Bd
  have e0 : s₁.heap = h0 := by rw [← hh, Bd.state]; rfl
  have N0 := Fr.nil n0
  have pre0 : ∀ t, Steps p.tables e below (s₁.setTop (mkF m 0 #[.val (.ref a1), .val (.ref a2), .val (.ref wD), .val (.int (0 : Int32))] [])) t → Steps p.tables e below (s₁.setTop (entryFrame m #[(.ref a1), (.ref a2), (.ref wD), (.int (0 : Int32))] 4)) t := fun t k => castTop (ef_rmA3 m a1 a2 wD) k
  have f101 := Keep.refl h0 [a1]
  obtain ⟨cl102, Ar102, q102, S102, N102z, H102, G102⟩ := (id (VD.ext O0.2))
  obtain ⟨cq103, q103, q103'⟩ := E1.cell
  obtain ⟨_, _, ⟨T103, L103, k103, n103⟩, -, X103, ⟨Lc103, hQ103, l103, y103, z103⟩, st103⟩ := X0.privateBack hx (y := (⟨"java/util/ArrayList", "grow", "()[Ljava/lang/Object;"⟩ : MethodName)) hown (mvT hZ (own_i hw 104 rfl)) (mvT hZ (own_i hw 105 rfl)) (mvT hZ (own_i hw 107 rfl)) (Cond.privateMethod_at (mvP hZ (own_i hw 106 rfl) (args := #[]))) (mvT hZ (own_i hw 108 rfl)) (by decide) (backOf (W := 0) (rmG0 l Z a0 hw [] a1 wD kD w h0 n0 Z0 M1 Z1 D1 E1 g1 SD O0 VD) hZ (own_i hw 108 rfl) (own_i hw 7 rfl) (by decide) (by decide)) (g := (mkF m 7 #[.val (.ref a1), .val (.ref a2), .val (.ref wD), .val (.int (0 : Int32))] [(.ref a1)])) rfl (by rw [hml]; rfl) (Steps.refl _) (a := a1) (by rw [e0]; exact q103) q103' (argsL := []) (rest := []) (lenOf pd_3 rfl) rfl (by show 2 * 0 + _ ≤ _; exact Nat.le_of_eq rfl) (hb hby d13_7) (fun _ _ => ⟨rfl, e0, (by decide : 0 + 1 ≤ _), (by decide : 0 + 10 ≤ _)⟩)
  dsimp only [Pt.U, Pt.locs, Pt.cells, Pt.slots] at X103 l103 y103 z103 st103 hQ103
  subst l103 y103 z103
  obtain ⟨b104, x105, rfl, N103q, K103, f106, f107, f108, f109, f110, f111, f112, f113⟩ := hQ103
  have N103 := Fr.app N0 N103q
  have ne114 : a1 ≠ b104 := Nat.ne_of_lt (Nat.lt_of_lt_of_le M1.lt f107)
  have ne115 : a2 ≠ b104 := Nat.ne_of_lt (Nat.lt_of_lt_of_le E2.lt f107)
  have f116 := Nat.le_trans Z0 K103.1
  have f117 := O0.keep K103 (allS g1 all0)
  have f118 := E2.keep K103
  have f119 := f101.trans K103 (allS (Or.inl (List.mem_of_getElem? (i := 0) rfl)) all0)
  obtain ⟨cl120, Ar120, q120, S120, N120z, H120, G120⟩ := (id f112)
  have hin120 : ¬ ((0 : Int32) < 0 ∨ cl120.slots.size ≤ ((0 : Int32)).toNatClampNeg) := inb_of S120 ⟨by decide, by decide⟩
  obtain ⟨T120, h120, X120, e120, W120, st120⟩ := stR X103 hx hZ rfl Ar120 (j := (0 : Int32)) hin120 rfl (Sto.ofV Ar120 q120 f113 (Ins.of_exa f118 (own_i hw 117 rfl))) (g := (mkF m 14 #[.val (.ref a1), .val (.ref a2), .val (.ref b104), .val (.int (0 : Int32))] [(.ref a2), (.int (0 : Int32)), (.ref b104)])) rfl rfl (hb hby d13_14)
  have V120 : Arv Z h120 b104 x105 (.object "java/lang/Object") (10 : Int32) [(.ref a2), .null, .null, .null, .null, .null, .null, .null, .null, .null] .null := Arv.set Ar120 q120 S120 N120z H120 G120 rfl W120 0 rfl (Nat.le_of_ble_eq_true rfl)
  have N120 := Fr.snoc X120 N103 f106
  have f121 := Nat.le_trans f116 (Keep.of_wr W120).1
  have f122 := f108.wr W120
  have f123 := f117.wr W120 f106
  have f124 := f118.wr W120
  have f125 := f119.wr W120 (Or.inr f107)
  have f126 := f109.other W120 (Or.inl ne114)
  have f127 := f110.other W120 (Or.inl ne114)
  have f128 := f111.other W120 (Or.inl ne114)
  obtain ⟨T129, h129, X129, e129, W129, st129⟩ := putF X120 hx hZ hown (host := "") (Or.inl (own_i hw 97 rfl)) Via.refl e120 f127 f122 (Or.inl (own_i hw 98 rfl)) (own_i hw 6 rfl) (ty := .int) (by decide) rfl rfl (g := (mkF m 19 #[.val (.ref a1), .val (.ref a2), .val (.ref b104), .val (.int (0 : Int32))] [(.int (1 : Int32)), (.ref a1)])) rfl rfl (hb hby d13_19)
  have Fw129 := f127.same W129
  have N129 := Fr.snoc X129 N120 g1
  have f130 := Nat.le_trans f121 (Keep.of_wr W129).1
  have f131 := f122.wr W129
  have f132 := f123.wr W129 g1
  have f133 := f124.wr W129
  have f134 := f125.wr W129 (Or.inl (List.mem_of_getElem? (i := 0) rfl))
  have f135 := f126.other W129 (Or.inr (slot_ne (Or.inl (own_i hw 27 rfl)) (Or.inl (own_i hw 98 rfl)) (by decide) (t := .int) (t' := .int) (by decide) (by decide)))
  have f136 := f128.other W129 (Or.inr (slot_ne (Or.inl (own_i hw 30 rfl)) (Or.inl (own_i hw 98 rfl)) (by decide) (t := (.array (.object "java/lang/Object"))) (t' := .int) (by decide) (by decide)))
  have f137 := V120.other W129 (Ne.symm ne114)
  have pre138 : ∀ t, Steps p.tables e below (T129.setTop (mkF m 22 #[.val (.ref a1), .val (.ref a2), .val (.ref b104), .val (.int (0 : Int32))] [])) t → Steps p.tables e below (s₁.setTop (entryFrame m #[(.ref a1), (.ref a2), (.ref wD), (.int (0 : Int32))] 4)) t := fun t k => pre0 t (by
    show Steps p.tables e below (s₁.setTop (mkF m 0 #[.val (.ref a1), .val (.ref a2), .val (.ref wD), .val (.int (0 : Int32))] [])) t
    refine XS.iloadN X0.here hx rfl (hb hby d13_0) rfl ?_
    show Steps p.tables e below (s₁.setTop (mkF m 1 #[.val (.ref a1), .val (.ref a2), .val (.ref wD), .val (.int (0 : Int32))] [(.int (0 : Int32))])) t
    refine XS.aloadN X0.here hx rfl (hb hby d13_1) rfl rfl ?_
    show Steps p.tables e below (s₁.setTop (mkF m 2 #[.val (.ref a1), .val (.ref a2), .val (.ref wD), .val (.int (0 : Int32))] [(.ref wD), (.int (0 : Int32))])) t
    refine X0.arraylength hx (by rw [e0]; exact Ar102.1) (State.isArrayOf_alike hZ.alike Ar102.2.1) (g := (mkF m 2 #[.val (.ref a1), .val (.ref a2), .val (.ref wD), .val (.int (0 : Int32))] [(.ref wD), (.int (0 : Int32))])) rfl rfl (hb hby d13_2) _ ?_
    rw [len_of S102 N102z]
    show Steps p.tables e below (s₁.setTop (mkF m 3 #[.val (.ref a1), .val (.ref a2), .val (.ref wD), .val (.int (0 : Int32))] [(.int (0 : Int32)), (.int (0 : Int32))])) t
    refine XS.icmpNo X0.here hx rfl (hb hby d13_3) rfl (teq (by decide : (0 : Int32) = (0 : Int32))).2 ?_
    show Steps p.tables e below (s₁.setTop (mkF m 6 #[.val (.ref a1), .val (.ref a2), .val (.ref wD), .val (.int (0 : Int32))] [])) t
    refine XS.aloadN X0.here hx rfl (hb hby d13_6) rfl rfl ?_
    show Steps p.tables e below (s₁.setTop (mkF m 7 #[.val (.ref a1), .val (.ref a2), .val (.ref wD), .val (.int (0 : Int32))] [(.ref a1)])) t
    refine st103.trans ?_
    show Steps p.tables e below (T103.setTop (mkF m 10 #[.val (.ref a1), .val (.ref a2), .val (.ref wD), .val (.int (0 : Int32))] [(.ref b104)])) t
    refine XS.astoreN X103.here hx rfl (hb hby d13_10) rfl rfl (l' := #[.val (.ref a1), .val (.ref a2), .val (.ref b104), .val (.int (0 : Int32))]) rfl ?_
    show Steps p.tables e below (T103.setTop (mkF m 11 #[.val (.ref a1), .val (.ref a2), .val (.ref b104), .val (.int (0 : Int32))] [])) t
    refine XS.aloadN X103.here hx rfl (hb hby d13_11) rfl rfl ?_
    show Steps p.tables e below (T103.setTop (mkF m 12 #[.val (.ref a1), .val (.ref a2), .val (.ref b104), .val (.int (0 : Int32))] [(.ref b104)])) t
    refine XS.iloadN X103.here hx rfl (hb hby d13_12) rfl ?_
    show Steps p.tables e below (T103.setTop (mkF m 13 #[.val (.ref a1), .val (.ref a2), .val (.ref b104), .val (.int (0 : Int32))] [(.int (0 : Int32)), (.ref b104)])) t
    refine XS.aloadN X103.here hx rfl (hb hby d13_13) rfl rfl ?_
    show Steps p.tables e below (T103.setTop (mkF m 14 #[.val (.ref a1), .val (.ref a2), .val (.ref b104), .val (.int (0 : Int32))] [(.ref a2), (.int (0 : Int32)), (.ref b104)])) t
    refine st120 _ ?_
    show Steps p.tables e below (T120.setTop (mkF m 15 #[.val (.ref a1), .val (.ref a2), .val (.ref b104), .val (.int (0 : Int32))] [])) t
    refine XS.aloadN X120.here hx rfl (hb hby d13_15) rfl rfl ?_
    show Steps p.tables e below (T120.setTop (mkF m 16 #[.val (.ref a1), .val (.ref a2), .val (.ref b104), .val (.int (0 : Int32))] [(.ref a1)])) t
    refine XS.iloadN X120.here hx rfl (hb hby d13_16) rfl ?_
    show Steps p.tables e below (T120.setTop (mkF m 17 #[.val (.ref a1), .val (.ref a2), .val (.ref b104), .val (.int (0 : Int32))] [(.int (0 : Int32)), (.ref a1)])) t
    refine XS.iconst X120.here hx rfl (hb hby d13_17) ?_
    show Steps p.tables e below (T120.setTop (mkF m 18 #[.val (.ref a1), .val (.ref a2), .val (.ref b104), .val (.int (0 : Int32))] [(.int (1 : Int32)), (.int (0 : Int32)), (.ref a1)])) t
    refine XS.iadd X120.here hx rfl (hb hby d13_18) rfl ?_
    show Steps p.tables e below (T120.setTop (mkF m 19 #[.val (.ref a1), .val (.ref a2), .val (.ref b104), .val (.int (0 : Int32))] [(.int (1 : Int32)), (.ref a1)])) t
    refine st129 _ ?_
    exact k)
  obtain ⟨fs, hr, hrun, hended, hW, hsame⟩ := X129.leave (v := none) (fun _ => rfl)
  refine ⟨_, _, pre138 _ ?_, hrun, hended, _, _, rfl, ?_, ⟨_, rfl⟩, hW, hsame.mono (by decide) (by decide)⟩
  · exact X129.returnOut hx Bd.returns (hb hby d13_22) hr
  · show QA3 Z a1 a2 wD kD w h0 n0 _ T129.heap _
    rw [e129]
    exact ⟨b104, x105, rfl, N129, f134, f106, f107, f131, f135, Fw129, f136, f137⟩
theorem pd_4 : parseMethodDescriptor "(Ljava/lang/Object;[Ljava/lang/Object;I)V" = some ⟨[(.object "java/lang/Object"), (.array (.object "java/lang/Object")), .int], none⟩ := by decide +kernel
theorem ef_rmA1 (m : MethodId) (x0 : Addr) (x1 : Addr) : entryFrame m #[(.ref x0), (.ref x1)] 2 = mkF m 0 #[.val (.ref x0), .val (.ref x1)] [] := by first | (simp [entryFrame, mkF, argsToLocals, Value.category]; done) | rfl
def QA1 (Z : State) (a1 : Addr) (a2 : Addr) (wD : Addr) (kD : ClassId) (h0 : Heap) (n0 : Nat) (v : Option Value) (h : Heap) (L : List Loc) : Prop := ∃ (b : Addr) (kb : ClassId), v = some (.int (1 : Int32)) ∧ Fr n0 L ∧ Keep h0 h [a1] ∧ (n0 ≤ b) ∧ (h0.size ≤ b) ∧ (Exa Z h a1 "java/util/ArrayList") ∧ (Fld Z h a1 "java/util/ArrayList" "size" "I" (.int (1 : Int32))) ∧ (Fld Z h a1 "java/util/ArrayList" "elementData" "[Ljava/lang/Object;" (.ref b)) ∧ (Arv Z h b kb (.object "java/lang/Object") (10 : Int32) [(.ref a2), .null, .null, .null, .null, .null, .null, .null, .null, .null] .null)
set_option maxRecDepth 65536 in
set_option maxHeartbeats 40000000 in
theorem rmA1 (l : Launch) (Z : State) (a0 : Array Value) (hw : ∀ d ∈ tables_1, d.before a0 Z = true) (ws : List Jvm.Cond) (a1 : Addr) (a2 : Addr) (wD : Addr) (kD : ClassId) (h0 : Heap) (n0 : Nat) (Z0 : n0 ≤ h0.size) (M1 : Fld Z h0 a1 "java/util/AbstractList" "modCount" "I" (.int (0 : Int32))) (Z1 : Fld Z h0 a1 "java/util/ArrayList" "size" "I" (.int (0 : Int32))) (D1 : Fld Z h0 a1 "java/util/ArrayList" "elementData" "[Ljava/lang/Object;" (.ref wD)) (E1 : Exa Z h0 a1 "java/util/ArrayList") (g1 : n0 ≤ a1) (SD : Sta Z Z.heap "java/util/ArrayList" "DEFAULTCAPACITY_EMPTY_ELEMENTDATA" "[Ljava/lang/Object;" (.ref wD)) (O0 : Old Z n0 h0) (VD : Arv Z Z.heap wD kD (.object "java/lang/Object") (0 : Int32) [] .null) (E2 : Exa Z h0 a2 "com/example/lumenward/lumenward/model/Request") (ne : a2 ≠ a1) :
    MetFree l (⟨"java/util/ArrayList", "add", "(Ljava/lang/Object;)Z"⟩ : MethodName) (head1 (Jvm.Cond.code (⟨"java/util/ArrayList", "add", "(Ljava/lang/Object;)Z"⟩ : MethodName) jdk_38_method_25_code 2 (some .boolean) :: ws) ({ frames := 4, cells := 1, slots := 10, locals := 56 } : Room)) (fun a U => a = #[(.ref a1), (.ref a2)] ∧ Z.Warmed39 U.vm ∧ U.heap = h0) (fun _ _ _ _ _ => True) (fun _ U o U' => ∃ v L, o = .returned v ∧ QA1 Z a1 a2 wD kD h0 n0 v U'.heap L ∧ FrameEnd U o U' L ({ frames := 4, cells := 1, slots := 10, locals := 56 } : Room).cells ({ frames := 4, cells := 1, slots := 10, locals := 56 } : Room).slots) := by
  refine MetFree.of_bodySF (plainFor_of_name pn_java_util_ArrayList) hisR ?_
  intro p e s m args below meth c s₁ Bd hml0 hP hK
  obtain ⟨rfl, hZ, hh⟩ := hP
  have hx := Bd.exec
  have hby := Bd.bytes
  have hml : c.maxLocals = 2 := hml0
  have hown : s.vm.findClass "java/util/ArrayList" = some m.cls := findClass_of_methodNamed Bd.named
  have hnm := (name_of_methodNamed Bd.named Bd.method).1
  have X0 : Stand p l e ({ frames := 4, cells := 1, slots := 10, locals := 56 } : Room) s m #[(.ref a1), (.ref a2)] below meth c s₁ [] 0 0 := Stand.of_body Bd
  have e0 : s₁.heap = h0 := by rw [← hh, Bd.state]; rfl
  have N0 := Fr.nil n0
  have pre0 : ∀ t, Steps p.tables e below (s₁.setTop (mkF m 0 #[.val (.ref a1), .val (.ref a2)] [])) t → Steps p.tables e below (s₁.setTop (entryFrame m #[(.ref a1), (.ref a2)] 2)) t := fun t k => castTop (ef_rmA1 m a1 a2) k
  have f101 := Keep.refl h0 [a1]
  obtain ⟨T102, X102, e102, st102⟩ := getF X0 hx hZ hown (host := "") (Or.inl (own_i hw 95 rfl)) (Via.of (own_i hw 96 rfl)) e0 M1 (g := (mkF m 2 #[.val (.ref a1), .val (.ref a2)] [(.ref a1), (.ref a1)])) rfl rfl (hb hby d12_2)
  obtain ⟨T103, h103, X103, e103, W103, st103⟩ := putF X102 hx hZ hown (host := "") (Or.inl (own_i hw 95 rfl)) (Via.of (own_i hw 96 rfl)) e102 M1 E1 (Or.inl (own_i hw 27 rfl)) (own_i hw 6 rfl) (ty := .int) (by decide) rfl rfl (g := (mkF m 7 #[.val (.ref a1), .val (.ref a2)] [(.int (1 : Int32)), (.ref a1)])) rfl rfl (hb hby d12_7)
  have Fw103 := M1.same W103
  have N103 := Fr.snoc X103 N0 g1
  have f104 := Nat.le_trans Z0 (Keep.of_wr W103).1
  have f105 := Z1.other W103 (Or.inr (slot_ne (Or.inl (own_i hw 98 rfl)) (Or.inl (own_i hw 27 rfl)) (by decide) (t := .int) (t' := .int) (by decide) (by decide)))
  have f106 := D1.other W103 (Or.inr (slot_ne (Or.inl (own_i hw 30 rfl)) (Or.inl (own_i hw 27 rfl)) (by decide) (t := (.array (.object "java/lang/Object"))) (t' := .int) (by decide) (by decide)))
  have f107 := E1.wr W103
  have f108 := O0.wr W103 g1
  have f109 := E2.wr W103
  have f110 := f101.wr W103 (Or.inl (List.mem_of_getElem? (i := 0) rfl))
  obtain ⟨T111, X111, e111, st111⟩ := getF X103 hx hZ hown (host := "") (Or.inl (own_i hw 29 rfl)) Via.refl e103 f106 (g := (mkF m 13 #[.val (.ref a1), .val (.ref a2)] [(.ref a1), (.ref a2), (.ref a1)])) rfl rfl (hb hby d12_13)
  obtain ⟨T112, X112, e112, st112⟩ := getF X111 hx hZ hown (host := "") (Or.inl (own_i hw 97 rfl)) Via.refl e111 f105 (g := (mkF m 17 #[.val (.ref a1), .val (.ref a2)] [(.ref a1), (.ref wD), (.ref a2), (.ref a1)])) rfl rfl (hb hby d12_17)
  obtain ⟨cq113, q113, q113'⟩ := f107.cell
  obtain ⟨_, _, ⟨T113, L113, k113, n113⟩, -, X113, ⟨Lc113, hQ113, l113, y113, z113⟩, st113⟩ := X112.privateBack hx (y := (⟨"java/util/ArrayList", "add", "(Ljava/lang/Object;[Ljava/lang/Object;I)V"⟩ : MethodName)) hown (mvT hZ (own_i hw 99 rfl)) (mvT hZ (own_i hw 100 rfl)) (mvT hZ (own_i hw 102 rfl)) (Cond.privateMethod_at (mvP hZ (own_i hw 101 rfl) (args := #[]))) (mvT hZ (own_i hw 103 rfl)) (by decide) (backOf (W := 0) (rmA3 l Z a0 hw [] a1 a2 wD kD (1 : Int32) h103 n0 f104 Fw103 f105 f106 f107 g1 SD f108 VD f109 ne) hZ (own_i hw 103 rfl) (own_i hw 7 rfl) (by decide) (by decide)) (g := (mkF m 20 #[.val (.ref a1), .val (.ref a2)] [(.int (0 : Int32)), (.ref wD), (.ref a2), (.ref a1)])) rfl (by rw [hml]; rfl) (Steps.refl _) (a := a1) (by rw [e112]; exact q113) q113' (argsL := [(.ref a2), (.ref wD), (.int (0 : Int32))]) (rest := []) (lenOf pd_4 rfl) rfl (by show 2 * 0 + _ ≤ _; exact Nat.le_of_eq rfl) (hb hby d12_20) (fun _ _ => ⟨rfl, e112, (by decide : 0 + 1 ≤ _), (by decide : 0 + 10 ≤ _)⟩)
  dsimp only [Pt.U, Pt.locs, Pt.cells, Pt.slots] at X113 l113 y113 z113 st113 hQ113
  subst l113 y113 z113
  obtain ⟨b114, x115, rfl, N113q, K113, f116, f117, f118, f119, f120, f121, f122⟩ := hQ113
  have N113 := Fr.app N103 N113q
  have ne123 : a1 ≠ b114 := Nat.ne_of_lt (Nat.lt_of_lt_of_le f105.lt f117)
  have ne124 : a2 ≠ b114 := Nat.ne_of_lt (Nat.lt_of_lt_of_le f109.lt f117)
  have sz125 : h0.size ≤ b114 := Nat.le_trans f110.1 f117
  have f126 := Nat.le_trans f104 K113.1
  have f127 := f108.keep K113 (allS g1 all0)
  have f128 := f109.keep K113
  have f129 := f110.trans K113 (allS (Or.inl (List.mem_of_getElem? (i := 0) rfl)) all0)
  have pre130 : ∀ t, Steps p.tables e below (T113.setTop (mkF m 24 #[.val (.ref a1), .val (.ref a2)] [(.int (1 : Int32))])) t → Steps p.tables e below (s₁.setTop (entryFrame m #[(.ref a1), (.ref a2)] 2)) t := fun t k => pre0 t (by
    show Steps p.tables e below (s₁.setTop (mkF m 0 #[.val (.ref a1), .val (.ref a2)] [])) t
    refine XS.aloadN X0.here hx rfl (hb hby d12_0) rfl rfl ?_
    show Steps p.tables e below (s₁.setTop (mkF m 1 #[.val (.ref a1), .val (.ref a2)] [(.ref a1)])) t
    refine XS.dup X0.here hx rfl (hb hby d12_1) rfl rfl ?_
    show Steps p.tables e below (s₁.setTop (mkF m 2 #[.val (.ref a1), .val (.ref a2)] [(.ref a1), (.ref a1)])) t
    refine st102 _ ?_
    show Steps p.tables e below (T102.setTop (mkF m 5 #[.val (.ref a1), .val (.ref a2)] [(.int (0 : Int32)), (.ref a1)])) t
    refine XS.iconst X102.here hx rfl (hb hby d12_5) ?_
    show Steps p.tables e below (T102.setTop (mkF m 6 #[.val (.ref a1), .val (.ref a2)] [(.int (1 : Int32)), (.int (0 : Int32)), (.ref a1)])) t
    refine XS.iadd X102.here hx rfl (hb hby d12_6) rfl ?_
    show Steps p.tables e below (T102.setTop (mkF m 7 #[.val (.ref a1), .val (.ref a2)] [(.int (1 : Int32)), (.ref a1)])) t
    refine st103 _ ?_
    show Steps p.tables e below (T103.setTop (mkF m 10 #[.val (.ref a1), .val (.ref a2)] [])) t
    refine XS.aloadN X103.here hx rfl (hb hby d12_10) rfl rfl ?_
    show Steps p.tables e below (T103.setTop (mkF m 11 #[.val (.ref a1), .val (.ref a2)] [(.ref a1)])) t
    refine XS.aloadN X103.here hx rfl (hb hby d12_11) rfl rfl ?_
    show Steps p.tables e below (T103.setTop (mkF m 12 #[.val (.ref a1), .val (.ref a2)] [(.ref a2), (.ref a1)])) t
    refine XS.aloadN X103.here hx rfl (hb hby d12_12) rfl rfl ?_
    show Steps p.tables e below (T103.setTop (mkF m 13 #[.val (.ref a1), .val (.ref a2)] [(.ref a1), (.ref a2), (.ref a1)])) t
    refine st111 _ ?_
    show Steps p.tables e below (T111.setTop (mkF m 16 #[.val (.ref a1), .val (.ref a2)] [(.ref wD), (.ref a2), (.ref a1)])) t
    refine XS.aloadN X111.here hx rfl (hb hby d12_16) rfl rfl ?_
    show Steps p.tables e below (T111.setTop (mkF m 17 #[.val (.ref a1), .val (.ref a2)] [(.ref a1), (.ref wD), (.ref a2), (.ref a1)])) t
    refine st112 _ ?_
    show Steps p.tables e below (T112.setTop (mkF m 20 #[.val (.ref a1), .val (.ref a2)] [(.int (0 : Int32)), (.ref wD), (.ref a2), (.ref a1)])) t
    refine st113.trans ?_
    show Steps p.tables e below (T113.setTop (mkF m 23 #[.val (.ref a1), .val (.ref a2)] [])) t
    refine XS.iconst X113.here hx rfl (hb hby d12_23) ?_
    exact k)
  obtain ⟨fs, hr, hrun, hended, hW, hsame⟩ := X113.leave (v := some (.int (1 : Int32))) (fun h => by rw [Bd.returns] at h; cases h)
  refine ⟨_, _, pre130 _ ?_, hrun, hended, _, _, rfl, ?_, ⟨_, rfl⟩, hW, hsame.mono (by decide) (by decide)⟩
  · exact retN X113 hx (t := .boolean) Bd.returns (by simp) (hb hby d12_24) hr
  · show QA1 Z a1 a2 wD kD h0 n0 _ T113.heap _
    exact ⟨b114, x115, rfl, N113, f129, f116, sz125, f118, f120, f121, f122⟩
theorem pn_com_example_lumenward_lumenward_model_End : plainName "com/example/lumenward/lumenward/model/End" = true := by first | (simp [plainName, overriddenIn]; done) | decide +kernel
theorem ef_rmE0 (m : MethodId) (x0 : Addr) (x1 : Int32) : entryFrame m #[(.ref x0), (.int x1), (.int (0 : Int32))] 3 = mkF m 0 #[.val (.ref x0), .val (.int x1), .val (.int (0 : Int32))] [] := by first | (simp [entryFrame, mkF, argsToLocals, Value.category]; done) | rfl
def QE0 (Z : State) (a1 : Addr) (p2 : Int32) (h0 : Heap) (n0 : Nat) (v : Option Value) (h : Heap) (L : List Loc) : Prop := v = none ∧ Fr n0 L ∧ Keep h0 h [a1] ∧ (Exa Z h a1 "com/example/lumenward/lumenward/model/End") ∧ (Fld Z h a1 "com/example/lumenward/lumenward/model/End" "node" "I" (.int p2)) ∧ (Fld Z h a1 "com/example/lumenward/lumenward/model/End" "anyBorder" "Z" (.int (0 : Int32)))
set_option maxRecDepth 65536 in
set_option maxHeartbeats 40000000 in
theorem rmE0 (l : Launch) (Z : State) (a0 : Array Value) (hw : ∀ d ∈ tables_1, d.before a0 Z = true) (ws : List Jvm.Cond) (a1 : Addr) (p2 : Int32) (h0 : Heap) (n0 : Nat) (Z0 : n0 ≤ h0.size) (N1 : Fld Z h0 a1 "com/example/lumenward/lumenward/model/End" "node" "I" (.int (0 : Int32))) (B1 : Fld Z h0 a1 "com/example/lumenward/lumenward/model/End" "anyBorder" "Z" (.int (0 : Int32))) (E1 : Exa Z h0 a1 "com/example/lumenward/lumenward/model/End") (g1 : n0 ≤ a1) :
    MetFree l (⟨"com/example/lumenward/lumenward/model/End", "<init>", "(IZ)V"⟩ : MethodName) (head1 (Jvm.Cond.code (⟨"com/example/lumenward/lumenward/model/End", "<init>", "(IZ)V"⟩ : MethodName) prog_22_method_1_code 3 none :: ws) ({ frames := 1, cells := 0, slots := 0, locals := 12 } : Room)) (fun a U => a = #[(.ref a1), (.int p2), (.int (0 : Int32))] ∧ Z.Warmed39 U.vm ∧ U.heap = h0) (fun _ _ _ _ _ => True) (fun _ U o U' => ∃ v L, o = .returned v ∧ QE0 Z a1 p2 h0 n0 v U'.heap L ∧ FrameEnd U o U' L ({ frames := 1, cells := 0, slots := 0, locals := 12 } : Room).cells ({ frames := 1, cells := 0, slots := 0, locals := 12 } : Room).slots) := by
  refine MetFree.of_bodySF (plainFor_of_name pn_com_example_lumenward_lumenward_model_End) hisR ?_
  intro p e s m args below meth c s₁ Bd hml0 hP hK
  obtain ⟨rfl, hZ, hh⟩ := hP
  have hx := Bd.exec
  have hby := Bd.bytes
  have hml : c.maxLocals = 3 := hml0
  have hown : s.vm.findClass "com/example/lumenward/lumenward/model/End" = some m.cls := findClass_of_methodNamed Bd.named
  have hnm := (name_of_methodNamed Bd.named Bd.method).1
  have X0 : Stand p l e ({ frames := 1, cells := 0, slots := 0, locals := 12 } : Room) s m #[(.ref a1), (.int p2), (.int (0 : Int32))] below meth c s₁ [] 0 0 := Stand.of_body Bd
  have e0 : s₁.heap = h0 := by rw [← hh, Bd.state]; rfl
  have N0 := Fr.nil n0
  have pre0 : ∀ t, Steps p.tables e below (s₁.setTop (mkF m 0 #[.val (.ref a1), .val (.int p2), .val (.int (0 : Int32))] [])) t → Steps p.tables e below (s₁.setTop (entryFrame m #[(.ref a1), (.int p2), (.int (0 : Int32))] 3)) t := fun t k => castTop (ef_rmE0 m a1 p2) k
  have f101 := Keep.refl h0 [a1]
  obtain ⟨T102, X102, e102, st102⟩ := initO X0 hx hZ hown (own_i hw 51 rfl) (own_i hw 24 rfl) (own_i hw 25 rfl) e0 (g := (mkF m 1 #[.val (.ref a1), .val (.int p2), .val (.int (0 : Int32))] [(.ref a1)])) rfl (by rw [hml]; rfl) rfl (hb hby d7_1) (by decide) (W := 0) (by show 2 * 0 + _ ≤ _; exact Nat.le_of_eq rfl) (by decide)
  obtain ⟨T103, h103, X103, e103, W103, st103⟩ := putF X102 hx hZ hown (host := "") (Or.inl (own_i hw 52 rfl)) Via.refl e102 N1 E1 (Or.inr ⟨(own_i hw 53 rfl), rfl, hnm⟩) (own_i hw 47 rfl) (ty := .int) (by decide) rfl rfl (g := (mkF m 6 #[.val (.ref a1), .val (.int p2), .val (.int (0 : Int32))] [(.int p2), (.ref a1)])) rfl rfl (hb hby d7_6)
  have Fw103 := N1.same W103
  have N103 := Fr.snoc X103 N0 g1
  have f104 := Nat.le_trans Z0 (Keep.of_wr W103).1
  have f105 := B1.other W103 (Or.inr (slot_ne (Or.inr (own_i hw 55 rfl)) (Or.inr (own_i hw 53 rfl)) (by decide) (t := .boolean) (t' := .int) (by decide) (by decide)))
  have f106 := E1.wr W103
  have f107 := f101.wr W103 (Or.inl (List.mem_of_getElem? (i := 0) rfl))
  obtain ⟨T108, h108, X108, e108, W108, st108⟩ := putFN X103 hx hZ hown (own_i hw 54 rfl) Via.refl e103 f105 f106 (Or.inr ⟨(own_i hw 55 rfl), rfl, hnm⟩) (own_i hw 47 rfl) (ty := .boolean) (v' := (.int (0 : Int32))) (by decide) rfl (by decide) (g := (mkF m 11 #[.val (.ref a1), .val (.int p2), .val (.int (0 : Int32))] [(.int (0 : Int32)), (.ref a1)])) rfl rfl (hb hby d7_11)
  have Fw108 := f105.same W108
  have N108 := Fr.snoc X108 N103 g1
  have f109 := Nat.le_trans f104 (Keep.of_wr W108).1
  have f110 := f106.wr W108
  have f111 := f107.wr W108 (Or.inl (List.mem_of_getElem? (i := 0) rfl))
  have f112 := Fw103.other W108 (Or.inr (slot_ne (Or.inr (own_i hw 53 rfl)) (Or.inr (own_i hw 55 rfl)) (by decide) (t := .int) (t' := .boolean) (by decide) (by decide)))
  have pre113 : ∀ t, Steps p.tables e below (T108.setTop (mkF m 14 #[.val (.ref a1), .val (.int p2), .val (.int (0 : Int32))] [])) t → Steps p.tables e below (s₁.setTop (entryFrame m #[(.ref a1), (.int p2), (.int (0 : Int32))] 3)) t := fun t k => pre0 t (by
    show Steps p.tables e below (s₁.setTop (mkF m 0 #[.val (.ref a1), .val (.int p2), .val (.int (0 : Int32))] [])) t
    refine XS.aloadN X0.here hx rfl (hb hby d7_0) rfl rfl ?_
    show Steps p.tables e below (s₁.setTop (mkF m 1 #[.val (.ref a1), .val (.int p2), .val (.int (0 : Int32))] [(.ref a1)])) t
    refine st102 _ ?_
    show Steps p.tables e below (T102.setTop (mkF m 4 #[.val (.ref a1), .val (.int p2), .val (.int (0 : Int32))] [])) t
    refine XS.aloadN X102.here hx rfl (hb hby d7_4) rfl rfl ?_
    show Steps p.tables e below (T102.setTop (mkF m 5 #[.val (.ref a1), .val (.int p2), .val (.int (0 : Int32))] [(.ref a1)])) t
    refine XS.iloadN X102.here hx rfl (hb hby d7_5) rfl ?_
    show Steps p.tables e below (T102.setTop (mkF m 6 #[.val (.ref a1), .val (.int p2), .val (.int (0 : Int32))] [(.int p2), (.ref a1)])) t
    refine st103 _ ?_
    show Steps p.tables e below (T103.setTop (mkF m 9 #[.val (.ref a1), .val (.int p2), .val (.int (0 : Int32))] [])) t
    refine XS.aloadN X103.here hx rfl (hb hby d7_9) rfl rfl ?_
    show Steps p.tables e below (T103.setTop (mkF m 10 #[.val (.ref a1), .val (.int p2), .val (.int (0 : Int32))] [(.ref a1)])) t
    refine XS.iloadN X103.here hx rfl (hb hby d7_10) rfl ?_
    show Steps p.tables e below (T103.setTop (mkF m 11 #[.val (.ref a1), .val (.int p2), .val (.int (0 : Int32))] [(.int (0 : Int32)), (.ref a1)])) t
    refine st108 _ ?_
    exact k)
  obtain ⟨fs, hr, hrun, hended, hW, hsame⟩ := X108.leave (v := none) (fun _ => rfl)
  refine ⟨_, _, pre113 _ ?_, hrun, hended, _, _, rfl, ?_, ⟨_, rfl⟩, hW, hsame.mono (by decide) (by decide)⟩
  · exact X108.returnOut hx Bd.returns (hb hby d7_14) hr
  · show QE0 Z a1 p2 h0 n0 _ T108.heap _
    rw [e108]
    exact ⟨rfl, N108, f111, f110, f112, Fw108⟩
theorem pd_5 : parseMethodDescriptor "(IZ)V" = some ⟨[.int, .boolean], none⟩ := by decide +kernel
theorem ef_rmAt (m : MethodId) (x0 : Int32) : entryFrame m #[(.int x0)] 1 = mkF m 0 #[.val (.int x0)] [] := by first | (simp [entryFrame, mkF, argsToLocals, Value.category]; done) | rfl
def QAt (Z : State) (p1 : Int32) (h0 : Heap) (n0 : Nat) (v : Option Value) (h : Heap) (L : List Loc) : Prop := ∃ (b : Addr), v = some (.ref b) ∧ Fr n0 L ∧ Keep h0 h [] ∧ (n0 ≤ b) ∧ (h0.size ≤ b) ∧ (Exa Z h b "com/example/lumenward/lumenward/model/End") ∧ (Fld Z h b "com/example/lumenward/lumenward/model/End" "node" "I" (.int p1)) ∧ (Fld Z h b "com/example/lumenward/lumenward/model/End" "anyBorder" "Z" (.int (0 : Int32)))
set_option maxRecDepth 65536 in
set_option maxHeartbeats 40000000 in
theorem rmAt (l : Launch) (Z : State) (a0 : Array Value) (hw : ∀ d ∈ tables_1, d.before a0 Z = true) (ws : List Jvm.Cond) (p1 : Int32) (h0 : Heap) (n0 : Nat) (Z0 : n0 ≤ h0.size) :
    MetFree l (⟨"com/example/lumenward/lumenward/model/End", "at", "(I)Lcom/example/lumenward/lumenward/model/End;"⟩ : MethodName) (head1 (Jvm.Cond.code (⟨"com/example/lumenward/lumenward/model/End", "at", "(I)Lcom/example/lumenward/lumenward/model/End;"⟩ : MethodName) prog_22_method_2_code 1 (some (.object "com/example/lumenward/lumenward/model/End")) :: ws) ({ frames := 2, cells := 1, slots := 2, locals := 27 } : Room)) (fun a U => a = #[(.int p1)] ∧ Z.Warmed39 U.vm ∧ U.heap = h0) (fun _ _ _ _ _ => True) (fun _ U o U' => ∃ v L, o = .returned v ∧ QAt Z p1 h0 n0 v U'.heap L ∧ FrameEnd U o U' L ({ frames := 2, cells := 1, slots := 2, locals := 27 } : Room).cells ({ frames := 2, cells := 1, slots := 2, locals := 27 } : Room).slots) := by
  refine MetFree.of_bodySF (plainFor_of_name pn_com_example_lumenward_lumenward_model_End) hisR ?_
  intro p e s m args below meth c s₁ Bd hml0 hP hK
  obtain ⟨rfl, hZ, hh⟩ := hP
  have hx := Bd.exec
  have hby := Bd.bytes
  have hml : c.maxLocals = 1 := hml0
  have hown : s.vm.findClass "com/example/lumenward/lumenward/model/End" = some m.cls := findClass_of_methodNamed Bd.named
  have hnm := (name_of_methodNamed Bd.named Bd.method).1
  have X0 : Stand p l e ({ frames := 2, cells := 1, slots := 2, locals := 27 } : Room) s m #[(.int p1)] below meth c s₁ [] 0 0 := Stand.of_body Bd
  have e0 : s₁.heap = h0 := by rw [← hh, Bd.state]; rfl
  have N0 := Fr.nil n0
  have pre0 : ∀ t, Steps p.tables e below (s₁.setTop (mkF m 0 #[.val (.int p1)] [])) t → Steps p.tables e below (s₁.setTop (entryFrame m #[(.int p1)] 1)) t := fun t k => castTop (ef_rmAt m p1) k
  have f101 := Keep.refl h0 []
  obtain ⟨T102, h102, X102, e102, E102, A102, D102, -, st102⟩ := newO X0 hx hZ hown (own_i hw 46 rfl) (own_i hw 47 rfl) (own_i hw 44 rfl) e0 (g := (mkF m 0 #[.val (.int p1)] [])) rfl (hb hby d6_0) (by decide) (by decide)
  obtain ⟨b102, g102⟩ : ∃ z, z = h0.size := ⟨_, rfl⟩
  rw [← g102] at A102 D102 st102
  have ga103 : n0 ≤ b102 := Nat.le_trans Z0 (Nat.le_of_eq g102.symm)
  have sz104 : h0.size ≤ b102 := Nat.le_trans f101.1 (Nat.le_of_eq g102.symm)
  have f105 : Fld Z h102 b102 "com/example/lumenward/lumenward/model/End" "node" "I" (.int (0 : Int32)) := D102 (Or.inr (own_i hw 53 rfl)) (ty := .int) (by decide)
  have f106 : Fld Z h102 b102 "com/example/lumenward/lumenward/model/End" "anyBorder" "Z" (.int (0 : Int32)) := D102 (Or.inr (own_i hw 55 rfl)) (ty := .boolean) (by decide)
  have f107 := Nat.le_trans Z0 E102.1
  have f108 := f101.ext E102
  obtain ⟨_, _, ⟨T109, L109, k109, n109⟩, -, X109, ⟨Lc109, hQ109, l109, y109, z109⟩, st109⟩ := X102.specialBack hx (y := (⟨"com/example/lumenward/lumenward/model/End", "<init>", "(IZ)V"⟩ : MethodName)) rfl hown (mvT hZ (own_i hw 48 rfl)) (mvT hZ (own_i hw 49 rfl)) (mvT hZ (own_i hw 50 rfl)) (by decide) (backOf (W := 1) (rmE0 l Z a0 hw [] b102 p1 h102 n0 f107 f105 f106 A102 ga103) hZ (own_i hw 50 rfl) (own_i hw 44 rfl) (by decide) (by decide)) (g := (mkF m 6 #[.val (.int p1)] [(.int (0 : Int32)), (.int p1), (.ref b102), (.ref b102)])) rfl (by rw [hml]; rfl) (Steps.refl _) (a := b102) (argsL := [(.int p1), (.int (0 : Int32))]) (rest := [(.ref b102)]) (lenOf pd_5 rfl) rfl (by show 2 * 0 + _ ≤ _; exact Nat.le_of_eq rfl) (hb hby d6_6) (fun _ _ => ⟨rfl, e102, (by decide : 1 + 0 ≤ _), (by decide : 2 + 0 ≤ _)⟩)
  dsimp only [Pt.U, Pt.locs, Pt.cells, Pt.slots] at X109 l109 y109 z109 st109 hQ109
  subst l109 y109 z109
  obtain ⟨rfl, N109q, K109, f110, f111, f112⟩ := hQ109
  have N109 := Fr.app N0 N109q
  have f113 := Nat.le_trans f107 K109.1
  have f114 := f108.trans K109 (allS (Or.inr sz104) all0)
  have pre115 : ∀ t, Steps p.tables e below (T109.setTop (mkF m 9 #[.val (.int p1)] [(.ref b102)])) t → Steps p.tables e below (s₁.setTop (entryFrame m #[(.int p1)] 1)) t := fun t k => pre0 t (by
    show Steps p.tables e below (s₁.setTop (mkF m 0 #[.val (.int p1)] [])) t
    refine st102 _ ?_
    show Steps p.tables e below (T102.setTop (mkF m 3 #[.val (.int p1)] [(.ref b102)])) t
    refine XS.dup X102.here hx rfl (hb hby d6_3) rfl rfl ?_
    show Steps p.tables e below (T102.setTop (mkF m 4 #[.val (.int p1)] [(.ref b102), (.ref b102)])) t
    refine XS.iloadN X102.here hx rfl (hb hby d6_4) rfl ?_
    show Steps p.tables e below (T102.setTop (mkF m 5 #[.val (.int p1)] [(.int p1), (.ref b102), (.ref b102)])) t
    refine XS.iconst X102.here hx rfl (hb hby d6_5) ?_
    show Steps p.tables e below (T102.setTop (mkF m 6 #[.val (.int p1)] [(.int (0 : Int32)), (.int p1), (.ref b102), (.ref b102)])) t
    refine st109.trans ?_
    exact k)
  obtain ⟨fs, hr, hrun, hended, hW, hsame⟩ := X109.leave (v := some (.ref b102)) (fun h => by rw [Bd.returns] at h; cases h)
  refine ⟨_, _, pre115 _ ?_, hrun, hended, _, _, rfl, ?_, ⟨_, rfl⟩, hW, hsame.mono (by decide) (by decide)⟩
  · exact retOut X109 hx Bd.returns rfl (Or.inr (Or.inr (Or.inr (Or.inr ⟨rfl, rfl, rfl⟩)))) (hb hby d6_9) hr
  · show QAt Z p1 h0 n0 _ T109.heap _
    exact ⟨b102, rfl, N109, f114, ga103, sz104, f110, f111, f112⟩
theorem ef_rmIb (m : MethodId) (x0 : Addr) : entryFrame m #[(.ref x0)] 1 = mkF m 0 #[.val (.ref x0)] [] := by first | (simp [entryFrame, mkF, argsToLocals, Value.category]; done) | rfl
def QIb (Z : State) (a1 : Addr) (h0 : Heap) (n0 : Nat) (v : Option Value) (h : Heap) (L : List Loc) : Prop := v = some (.int (0 : Int32)) ∧ Fr n0 L ∧ h = h0
set_option maxRecDepth 65536 in
set_option maxHeartbeats 40000000 in
theorem rmIb (l : Launch) (Z : State) (a0 : Array Value) (hw : ∀ d ∈ tables_1, d.before a0 Z = true) (ws : List Jvm.Cond) (a1 : Addr) (h0 : Heap) (n0 : Nat) (Z0 : n0 ≤ h0.size) (B1 : Fld Z h0 a1 "com/example/lumenward/lumenward/model/End" "anyBorder" "Z" (.int (0 : Int32))) :
    MetFree l (⟨"com/example/lumenward/lumenward/model/End", "isAnyBorder", "()Z"⟩ : MethodName) (head1 (Jvm.Cond.code (⟨"com/example/lumenward/lumenward/model/End", "isAnyBorder", "()Z"⟩ : MethodName) prog_22_method_3_code 1 (some .boolean) :: ws) ({ frames := 0, cells := 0, slots := 0, locals := 0 } : Room)) (fun a U => a = #[(.ref a1)] ∧ Z.Warmed39 U.vm ∧ U.heap = h0) (fun _ _ _ _ _ => True) (fun _ U o U' => ∃ v L, o = .returned v ∧ QIb Z a1 h0 n0 v U'.heap L ∧ FrameEnd U o U' L ({ frames := 0, cells := 0, slots := 0, locals := 0 } : Room).cells ({ frames := 0, cells := 0, slots := 0, locals := 0 } : Room).slots) := by
  refine MetFree.of_bodySF (plainFor_of_name pn_com_example_lumenward_lumenward_model_End) hisR ?_
  intro p e s m args below meth c s₁ Bd hml0 hP hK
  obtain ⟨rfl, hZ, hh⟩ := hP
  have hx := Bd.exec
  have hby := Bd.bytes
  have hml : c.maxLocals = 1 := hml0
  have hown : s.vm.findClass "com/example/lumenward/lumenward/model/End" = some m.cls := findClass_of_methodNamed Bd.named
  have hnm := (name_of_methodNamed Bd.named Bd.method).1
  have X0 : Stand p l e ({ frames := 0, cells := 0, slots := 0, locals := 0 } : Room) s m #[(.ref a1)] below meth c s₁ [] 0 0 := Stand.of_body Bd
  have e0 : s₁.heap = h0 := by rw [← hh, Bd.state]; rfl
  have N0 := Fr.nil n0
  have pre0 : ∀ t, Steps p.tables e below (s₁.setTop (mkF m 0 #[.val (.ref a1)] [])) t → Steps p.tables e below (s₁.setTop (entryFrame m #[(.ref a1)] 1)) t := fun t k => castTop (ef_rmIb m a1) k
  obtain ⟨T101, X101, e101, st101⟩ := getF X0 hx hZ hown (host := "") (Or.inl (own_i hw 54 rfl)) Via.refl e0 B1 (g := (mkF m 1 #[.val (.ref a1)] [(.ref a1)])) rfl rfl (hb hby d10_1)
  have pre102 : ∀ t, Steps p.tables e below (T101.setTop (mkF m 4 #[.val (.ref a1)] [(.int (0 : Int32))])) t → Steps p.tables e below (s₁.setTop (entryFrame m #[(.ref a1)] 1)) t := fun t k => pre0 t (by
    show Steps p.tables e below (s₁.setTop (mkF m 0 #[.val (.ref a1)] [])) t
    refine XS.aloadN X0.here hx rfl (hb hby d10_0) rfl rfl ?_
    show Steps p.tables e below (s₁.setTop (mkF m 1 #[.val (.ref a1)] [(.ref a1)])) t
    refine st101 _ ?_
    exact k)
  obtain ⟨fs, hr, hrun, hended, hW, hsame⟩ := X101.leave (v := some (.int (0 : Int32))) (fun h => by rw [Bd.returns] at h; cases h)
  refine ⟨_, _, pre102 _ ?_, hrun, hended, _, _, rfl, ?_, ⟨_, rfl⟩, hW, hsame.mono (by decide) (by decide)⟩
  · exact retN X101 hx (t := .boolean) Bd.returns (by simp) (hb hby d10_4) hr
  · show QIb Z a1 h0 n0 _ T101.heap _
    rw [e101]
    exact ⟨rfl, N0, rfl⟩
theorem ef_rmGn (m : MethodId) (x0 : Addr) : entryFrame m #[(.ref x0)] 1 = mkF m 0 #[.val (.ref x0)] [] := by first | (simp [entryFrame, mkF, argsToLocals, Value.category]; done) | rfl
def QGn (Z : State) (a1 : Addr) (w : Int32) (h0 : Heap) (n0 : Nat) (v : Option Value) (h : Heap) (L : List Loc) : Prop := v = some (.int w) ∧ Fr n0 L ∧ h = h0
set_option maxRecDepth 65536 in
set_option maxHeartbeats 40000000 in
theorem rmGn (l : Launch) (Z : State) (a0 : Array Value) (hw : ∀ d ∈ tables_1, d.before a0 Z = true) (ws : List Jvm.Cond) (a1 : Addr) (w : Int32) (h0 : Heap) (n0 : Nat) (Z0 : n0 ≤ h0.size) (B1 : Fld Z h0 a1 "com/example/lumenward/lumenward/model/End" "anyBorder" "Z" (.int (0 : Int32))) (N1 : Fld Z h0 a1 "com/example/lumenward/lumenward/model/End" "node" "I" (.int w)) :
    MetFree l (⟨"com/example/lumenward/lumenward/model/End", "getNode", "()I"⟩ : MethodName) (head1 (Jvm.Cond.code (⟨"com/example/lumenward/lumenward/model/End", "getNode", "()I"⟩ : MethodName) prog_22_method_4_code 1 (some .int) :: ws) ({ frames := 0, cells := 0, slots := 0, locals := 0 } : Room)) (fun a U => a = #[(.ref a1)] ∧ Z.Warmed39 U.vm ∧ U.heap = h0) (fun _ _ _ _ _ => True) (fun _ U o U' => ∃ v L, o = .returned v ∧ QGn Z a1 w h0 n0 v U'.heap L ∧ FrameEnd U o U' L ({ frames := 0, cells := 0, slots := 0, locals := 0 } : Room).cells ({ frames := 0, cells := 0, slots := 0, locals := 0 } : Room).slots) := by
  refine MetFree.of_bodySF (plainFor_of_name pn_com_example_lumenward_lumenward_model_End) hisR ?_
  intro p e s m args below meth c s₁ Bd hml0 hP hK
  obtain ⟨rfl, hZ, hh⟩ := hP
  have hx := Bd.exec
  have hby := Bd.bytes
  have hml : c.maxLocals = 1 := hml0
  have hown : s.vm.findClass "com/example/lumenward/lumenward/model/End" = some m.cls := findClass_of_methodNamed Bd.named
  have hnm := (name_of_methodNamed Bd.named Bd.method).1
  have X0 : Stand p l e ({ frames := 0, cells := 0, slots := 0, locals := 0 } : Room) s m #[(.ref a1)] below meth c s₁ [] 0 0 := Stand.of_body Bd
  have e0 : s₁.heap = h0 := by rw [← hh, Bd.state]; rfl
  have N0 := Fr.nil n0
  have pre0 : ∀ t, Steps p.tables e below (s₁.setTop (mkF m 0 #[.val (.ref a1)] [])) t → Steps p.tables e below (s₁.setTop (entryFrame m #[(.ref a1)] 1)) t := fun t k => castTop (ef_rmGn m a1) k
  obtain ⟨T101, X101, e101, st101⟩ := getF X0 hx hZ hown (host := "") (Or.inl (own_i hw 54 rfl)) Via.refl e0 B1 (g := (mkF m 1 #[.val (.ref a1)] [(.ref a1)])) rfl rfl (hb hby d11_1)
  obtain ⟨T102, X102, e102, st102⟩ := getF X101 hx hZ hown (host := "") (Or.inl (own_i hw 52 rfl)) Via.refl e101 N1 (g := (mkF m 18 #[.val (.ref a1)] [(.ref a1)])) rfl rfl (hb hby d11_18)
  have pre103 : ∀ t, Steps p.tables e below (T102.setTop (mkF m 21 #[.val (.ref a1)] [(.int w)])) t → Steps p.tables e below (s₁.setTop (entryFrame m #[(.ref a1)] 1)) t := fun t k => pre0 t (by
    show Steps p.tables e below (s₁.setTop (mkF m 0 #[.val (.ref a1)] [])) t
    refine XS.aloadN X0.here hx rfl (hb hby d11_0) rfl rfl ?_
    show Steps p.tables e below (s₁.setTop (mkF m 1 #[.val (.ref a1)] [(.ref a1)])) t
    refine st101 _ ?_
    show Steps p.tables e below (T101.setTop (mkF m 4 #[.val (.ref a1)] [(.int (0 : Int32))])) t
    refine XS.ifYes X101.here hx rfl (pc0 := 4) (pc' := 17) rfl (hb hby d11_4) rfl ((if0 _ _).trans (teq (by decide : (0 : Int32) = (0 : Int32))).1) (by decide) (by decide) ?_
    show Steps p.tables e below (T101.setTop (mkF m 17 #[.val (.ref a1)] [])) t
    refine XS.aloadN X101.here hx rfl (hb hby d11_17) rfl rfl ?_
    show Steps p.tables e below (T101.setTop (mkF m 18 #[.val (.ref a1)] [(.ref a1)])) t
    refine st102 _ ?_
    exact k)
  obtain ⟨fs, hr, hrun, hended, hW, hsame⟩ := X102.leave (v := some (.int w)) (fun h => by rw [Bd.returns] at h; cases h)
  refine ⟨_, _, pre103 _ ?_, hrun, hended, _, _, rfl, ?_, ⟨_, rfl⟩, hW, hsame.mono (by decide) (by decide)⟩
  · exact retI X102 hx Bd.returns (hb hby d11_21) hr
  · show QGn Z a1 w h0 n0 _ T102.heap _
    rw [e102]
    exact ⟨rfl, N0, rfl⟩
theorem pn_java_lang_String : plainName "java/lang/String" = true := by first | (simp [plainName, overriddenIn]; done) | decide +kernel
theorem ef_rmEm (m : MethodId) (x0 : Addr) : entryFrame m #[(.ref x0)] 1 = mkF m 0 #[.val (.ref x0)] [] := by first | (simp [entryFrame, mkF, argsToLocals, Value.category]; done) | rfl
def QEm (Z : State) (a1 : Addr) (bl : Addr) (kl : ClassId) (vl : Value) (h0 : Heap) (n0 : Nat) (v : Option Value) (h : Heap) (L : List Loc) : Prop := v = some (.int (0 : Int32)) ∧ Fr n0 L ∧ h = h0
set_option maxRecDepth 65536 in
set_option maxHeartbeats 40000000 in
theorem rmEm (l : Launch) (Z : State) (a0 : Array Value) (hw : ∀ d ∈ tables_1, d.before a0 Z = true) (ws : List Jvm.Cond) (a1 : Addr) (bl : Addr) (kl : ClassId) (vl : Value) (h0 : Heap) (n0 : Nat) (Z0 : n0 ≤ h0.size) (W1 : Fld Z h0 a1 "java/lang/String" "value" "[B" (.ref bl)) (V1 : Arv Z h0 bl kl .byte (1 : Int32) [vl] (.int (0 : Int32))) :
    MetFree l (⟨"java/lang/String", "isEmpty", "()Z"⟩ : MethodName) (head1 (Jvm.Cond.code (⟨"java/lang/String", "isEmpty", "()Z"⟩ : MethodName) jdk_42_method_55_code 1 (some .boolean) :: ws) ({ frames := 0, cells := 0, slots := 0, locals := 0 } : Room)) (fun a U => a = #[(.ref a1)] ∧ Z.Warmed39 U.vm ∧ U.heap = h0) (fun _ _ _ _ _ => True) (fun _ U o U' => ∃ v L, o = .returned v ∧ QEm Z a1 bl kl vl h0 n0 v U'.heap L ∧ FrameEnd U o U' L ({ frames := 0, cells := 0, slots := 0, locals := 0 } : Room).cells ({ frames := 0, cells := 0, slots := 0, locals := 0 } : Room).slots) := by
  refine MetFree.of_bodySF (plainFor_of_name pn_java_lang_String) hisR ?_
  intro p e s m args below meth c s₁ Bd hml0 hP hK
  obtain ⟨rfl, hZ, hh⟩ := hP
  have hx := Bd.exec
  have hby := Bd.bytes
  have hml : c.maxLocals = 1 := hml0
  have hown : s.vm.findClass "java/lang/String" = some m.cls := findClass_of_methodNamed Bd.named
  have hnm := (name_of_methodNamed Bd.named Bd.method).1
  have X0 : Stand p l e ({ frames := 0, cells := 0, slots := 0, locals := 0 } : Room) s m #[(.ref a1)] below meth c s₁ [] 0 0 := Stand.of_body Bd
  have e0 : s₁.heap = h0 := by rw [← hh, Bd.state]; rfl
  have N0 := Fr.nil n0
  have pre0 : ∀ t, Steps p.tables e below (s₁.setTop (mkF m 0 #[.val (.ref a1)] [])) t → Steps p.tables e below (s₁.setTop (entryFrame m #[(.ref a1)] 1)) t := fun t k => castTop (ef_rmEm m a1) k
  obtain ⟨T101, X101, e101, st101⟩ := getF X0 hx hZ hown (host := "") (Or.inl (own_i hw 65 rfl)) Via.refl e0 W1 (g := (mkF m 1 #[.val (.ref a1)] [(.ref a1)])) rfl rfl (hb hby d9_1)
  obtain ⟨cl102, Ar102, q102, S102, N102z, H102, G102⟩ := (id V1)
  have pre103 : ∀ t, Steps p.tables e below (T101.setTop (mkF m 13 #[.val (.ref a1)] [(.int (0 : Int32))])) t → Steps p.tables e below (s₁.setTop (entryFrame m #[(.ref a1)] 1)) t := fun t k => pre0 t (by
    show Steps p.tables e below (s₁.setTop (mkF m 0 #[.val (.ref a1)] [])) t
    refine XS.aloadN X0.here hx rfl (hb hby d9_0) rfl rfl ?_
    show Steps p.tables e below (s₁.setTop (mkF m 1 #[.val (.ref a1)] [(.ref a1)])) t
    refine st101 _ ?_
    show Steps p.tables e below (T101.setTop (mkF m 4 #[.val (.ref a1)] [(.ref bl)])) t
    refine X101.arraylength hx (by rw [e101]; exact Ar102.1) (State.isArrayOf_alike hZ.alike Ar102.2.1) (g := (mkF m 4 #[.val (.ref a1)] [(.ref bl)])) rfl rfl (hb hby d9_4) _ ?_
    rw [len_of S102 N102z]
    show Steps p.tables e below (T101.setTop (mkF m 5 #[.val (.ref a1)] [(.int (1 : Int32))])) t
    refine XS.ifYes X101.here hx rfl (pc0 := 5) (pc' := 12) rfl (hb hby d9_5) rfl ((if0 _ _).trans (feq (by decide : ¬ ((1 : Int32) = (0 : Int32)))).2) (by decide) (by decide) ?_
    show Steps p.tables e below (T101.setTop (mkF m 12 #[.val (.ref a1)] [])) t
    refine XS.iconst X101.here hx rfl (hb hby d9_12) ?_
    exact k)
  obtain ⟨fs, hr, hrun, hended, hW, hsame⟩ := X101.leave (v := some (.int (0 : Int32))) (fun h => by rw [Bd.returns] at h; cases h)
  refine ⟨_, _, pre103 _ ?_, hrun, hended, _, _, rfl, ?_, ⟨_, rfl⟩, hW, hsame.mono (by decide) (by decide)⟩
  · exact retN X101 hx (t := .boolean) Bd.returns (by simp) (hb hby d9_13) hr
  · show QEm Z a1 bl kl vl h0 n0 _ T101.heap _
    rw [e101]
    exact ⟨rfl, N0, rfl⟩
theorem pn_com_example_lumenward_lumenward_model_Request : plainName "com/example/lumenward/lumenward/model/Request" = true := by first | (simp [plainName, overriddenIn]; done) | decide +kernel
theorem pd_6 : parseMethodDescriptor "()Z" = some ⟨[], some .boolean⟩ := by decide +kernel
theorem pd_7 : parseMethodDescriptor "()I" = some ⟨[], some .int⟩ := by decide +kernel
theorem ef_rmRq (m : MethodId) (x0 : Addr) (x1 : Addr) (x3 : Addr) (x4 : Addr) (x5 : Int32) : entryFrame m #[(.ref x0), (.ref x1), .null, (.ref x3), (.ref x4), (.int x5)] 6 = mkF m 0 #[.val (.ref x0), .val (.ref x1), .val .null, .val (.ref x3), .val (.ref x4), .val (.int x5)] [] := by first | (simp [entryFrame, mkF, argsToLocals, Value.category]; done) | rfl
def QRq (Z : State) (a1 : Addr) (a2 : Addr) (a4 : Addr) (a5 : Addr) (p6 : Int32) (bl : Addr) (kl : ClassId) (vl : Value) (h0 : Heap) (n0 : Nat) (v : Option Value) (h : Heap) (L : List Loc) : Prop := v = none ∧ Fr n0 L ∧ Keep h0 h [a1] ∧ (Exa Z h a1 "com/example/lumenward/lumenward/model/Request") ∧ (Fld Z h a1 "com/example/lumenward/lumenward/model/Request" "slots" "I" (.int p6))
set_option maxRecDepth 65536 in
set_option maxHeartbeats 40000000 in
theorem rmRq (l : Launch) (Z : State) (a0 : Array Value) (hw : ∀ d ∈ tables_1, d.before a0 Z = true) (ws : List Jvm.Cond) (a1 : Addr) (a2 : Addr) (a4 : Addr) (a5 : Addr) (p6 : Int32) (bl : Addr) (kl : ClassId) (vl : Value) (h0 : Heap) (n0 : Nat) (Z0 : n0 ≤ h0.size) (F_id : Fld Z h0 a1 "com/example/lumenward/lumenward/model/Request" "id" "Ljava/lang/String;" .null) (F_type : Fld Z h0 a1 "com/example/lumenward/lumenward/model/Request" "type" "Lcom/example/lumenward/lumenward/model/RequestType;" .null) (F_src : Fld Z h0 a1 "com/example/lumenward/lumenward/model/Request" "src" "Lcom/example/lumenward/lumenward/model/End;" .null) (F_dst : Fld Z h0 a1 "com/example/lumenward/lumenward/model/Request" "dst" "Lcom/example/lumenward/lumenward/model/End;" .null) (F_slots : Fld Z h0 a1 "com/example/lumenward/lumenward/model/Request" "slots" "I" (.int (0 : Int32))) (E1 : Exa Z h0 a1 "com/example/lumenward/lumenward/model/Request") (E2 : Exa Z h0 a2 "java/lang/String") (W2 : Fld Z h0 a2 "java/lang/String" "value" "[B" (.ref bl)) (V2 : Arv Z h0 bl kl .byte (1 : Int32) [vl] (.int (0 : Int32))) (E4 : Exa Z h0 a4 "com/example/lumenward/lumenward/model/End") (N4 : Fld Z h0 a4 "com/example/lumenward/lumenward/model/End" "node" "I" (.int (1 : Int32))) (B4 : Fld Z h0 a4 "com/example/lumenward/lumenward/model/End" "anyBorder" "Z" (.int (0 : Int32))) (E5 : Exa Z h0 a5 "com/example/lumenward/lumenward/model/End") (N5 : Fld Z h0 a5 "com/example/lumenward/lumenward/model/End" "node" "I" (.int (2 : Int32))) (B5 : Fld Z h0 a5 "com/example/lumenward/lumenward/model/End" "anyBorder" "Z" (.int (0 : Int32))) (hs : ¬ (p6 < (1 : Int32))) (g1 : n0 ≤ a1) :
    MetFree l (⟨"com/example/lumenward/lumenward/model/Request", "<init>", "(Ljava/lang/String;Lcom/example/lumenward/lumenward/model/RequestType;Lcom/example/lumenward/lumenward/model/End;Lcom/example/lumenward/lumenward/model/End;I)V"⟩ : MethodName) (head1 (Jvm.Cond.code (⟨"com/example/lumenward/lumenward/model/Request", "<init>", "(Ljava/lang/String;Lcom/example/lumenward/lumenward/model/RequestType;Lcom/example/lumenward/lumenward/model/End;Lcom/example/lumenward/lumenward/model/End;I)V"⟩ : MethodName) prog_27_method_1_code 6 none :: ws) ({ frames := 1, cells := 0, slots := 0, locals := 13 } : Room)) (fun a U => a = #[(.ref a1), (.ref a2), .null, (.ref a4), (.ref a5), (.int p6)] ∧ Z.Warmed39 U.vm ∧ U.heap = h0) (fun _ _ _ _ _ => True) (fun _ U o U' => ∃ v L, o = .returned v ∧ QRq Z a1 a2 a4 a5 p6 bl kl vl h0 n0 v U'.heap L ∧ FrameEnd U o U' L ({ frames := 1, cells := 0, slots := 0, locals := 13 } : Room).cells ({ frames := 1, cells := 0, slots := 0, locals := 13 } : Room).slots) := by
  refine MetFree.of_bodySF (plainFor_of_name pn_com_example_lumenward_lumenward_model_Request) hisR ?_
  intro p e s m args below meth c s₁ Bd hml0 hP hK
  obtain ⟨rfl, hZ, hh⟩ := hP
  have hx := Bd.exec
  have hby := Bd.bytes
  have hml : c.maxLocals = 6 := hml0
  have hown : s.vm.findClass "com/example/lumenward/lumenward/model/Request" = some m.cls := findClass_of_methodNamed Bd.named
  have hnm := (name_of_methodNamed Bd.named Bd.method).1
  have X0 : Stand p l e ({ frames := 1, cells := 0, slots := 0, locals := 13 } : Room) s m #[(.ref a1), (.ref a2), .null, (.ref a4), (.ref a5), (.int p6)] below meth c s₁ [] 0 0 := Stand.of_body Bd
  have e0 : s₁.heap = h0 := by rw [← hh, Bd.state]; rfl
  have N0 := Fr.nil n0
  have pre0 : ∀ t, Steps p.tables e below (s₁.setTop (mkF m 0 #[.val (.ref a1), .val (.ref a2), .val .null, .val (.ref a4), .val (.ref a5), .val (.int p6)] [])) t → Steps p.tables e below (s₁.setTop (entryFrame m #[(.ref a1), (.ref a2), .null, (.ref a4), (.ref a5), (.int p6)] 6)) t := fun t k => castTop (ef_rmRq m a1 a2 a4 a5 p6) k
  have f101 := Keep.refl h0 [a1]
  obtain ⟨T102, X102, e102, st102⟩ := initO X0 hx hZ hown (own_i hw 59 rfl) (own_i hw 24 rfl) (own_i hw 25 rfl) e0 (g := (mkF m 1 #[.val (.ref a1), .val (.ref a2), .val .null, .val (.ref a4), .val (.ref a5), .val (.int p6)] [(.ref a1)])) rfl (by rw [hml]; rfl) rfl (hb hby d8_1) (by decide) (W := 0) (by show 2 * 0 + _ ≤ _; exact Nat.le_of_eq rfl) (by decide)
  obtain ⟨cq103, kq103, q103a, q103b, q103c⟩ := isOf hZ e102 E2
  obtain ⟨_, _, ⟨T103, L103, k103, n103⟩, -, X103, ⟨Lc103, hQ103, l103, y103, z103⟩, st103⟩ := X102.virtualBack hx (y := (⟨"java/lang/String", "isEmpty", "()Z"⟩ : MethodName)) (z := (⟨"java/lang/String", "isEmpty", "()Z"⟩ : MethodName)) hown (mvT hZ (own_i hw 60 rfl)) (mvT hZ (own_i hw 61 rfl)) (notFace_of_selects (args := #[]) (mvT hZ (own_i hw 63 rfl))) (mvT hZ (own_i hw 63 rfl)) (mvT hZ (own_i hw 62 rfl)) (by decide) (backOf (W := 0) (rmEm l Z a0 hw [] a2 bl kl vl h0 n0 Z0 W2 V2) hZ (own_i hw 64 rfl) (own_i hw 35 rfl) (by decide) (by decide)) q103a q103c (g := (mkF m 5 #[.val (.ref a1), .val (.ref a2), .val .null, .val (.ref a4), .val (.ref a5), .val (.int p6)] [(.ref a2)])) rfl (by rw [hml]; rfl) (Steps.refl _) (argsL := []) (rest := []) (lenOf pd_6 rfl) rfl (by show 2 * 0 + _ ≤ _; exact Nat.le_of_eq rfl) (hb hby d8_5) (fun _ _ => ⟨rfl, e102, (by decide : 0 + 0 ≤ _), (by decide : 0 + 0 ≤ _)⟩)
  dsimp only [Pt.U, Pt.locs, Pt.cells, Pt.slots] at X103 l103 y103 z103 st103 hQ103
  subst l103 y103 z103
  obtain ⟨rfl, N103q, e103⟩ := hQ103
  have N103 := Fr.app N0 N103q
  obtain ⟨cq104, kq104, q104a, q104b, q104c⟩ := isOf hZ e103 E4
  obtain ⟨_, _, ⟨T104, L104, k104, n104⟩, -, X104, ⟨Lc104, hQ104, l104, y104, z104⟩, st104⟩ := X103.virtualBack hx (y := (⟨"com/example/lumenward/lumenward/model/End", "isAnyBorder", "()Z"⟩ : MethodName)) (z := (⟨"com/example/lumenward/lumenward/model/End", "isAnyBorder", "()Z"⟩ : MethodName)) hown (mvT hZ (own_i hw 66 rfl)) (mvT hZ (own_i hw 67 rfl)) (notFace_of_selects (args := #[]) (mvT hZ (own_i hw 69 rfl))) (mvT hZ (own_i hw 69 rfl)) (mvT hZ (own_i hw 68 rfl)) (by decide) (backOf (W := 0) (rmIb l Z a0 hw [] a4 h0 n0 Z0 B4) hZ (own_i hw 70 rfl) (own_i hw 44 rfl) (by decide) (by decide)) q104a q104c (g := (mkF m 22 #[.val (.ref a1), .val (.ref a2), .val .null, .val (.ref a4), .val (.ref a5), .val (.int p6)] [(.ref a4)])) rfl (by rw [hml]; rfl) (Steps.refl _) (argsL := []) (rest := []) (lenOf pd_6 rfl) rfl (by show 2 * 0 + _ ≤ _; exact Nat.le_of_eq rfl) (hb hby d8_22) (fun _ _ => ⟨rfl, e103, (by decide : 0 + 0 ≤ _), (by decide : 0 + 0 ≤ _)⟩)
  dsimp only [Pt.U, Pt.locs, Pt.cells, Pt.slots] at X104 l104 y104 z104 st104 hQ104
  subst l104 y104 z104
  obtain ⟨rfl, N104q, e104⟩ := hQ104
  have N104 := Fr.app N103 N104q
  obtain ⟨cq105, kq105, q105a, q105b, q105c⟩ := isOf hZ e104 E5
  obtain ⟨_, _, ⟨T105, L105, k105, n105⟩, -, X105, ⟨Lc105, hQ105, l105, y105, z105⟩, st105⟩ := X104.virtualBack hx (y := (⟨"com/example/lumenward/lumenward/model/End", "isAnyBorder", "()Z"⟩ : MethodName)) (z := (⟨"com/example/lumenward/lumenward/model/End", "isAnyBorder", "()Z"⟩ : MethodName)) hown (mvT hZ (own_i hw 66 rfl)) (mvT hZ (own_i hw 67 rfl)) (notFace_of_selects (args := #[]) (mvT hZ (own_i hw 69 rfl))) (mvT hZ (own_i hw 69 rfl)) (mvT hZ (own_i hw 68 rfl)) (by decide) (backOf (W := 0) (rmIb l Z a0 hw [] a5 h0 n0 Z0 B5) hZ (own_i hw 70 rfl) (own_i hw 44 rfl) (by decide) (by decide)) q105a q105c (g := (mkF m 58 #[.val (.ref a1), .val (.ref a2), .val .null, .val (.ref a4), .val (.ref a5), .val (.int p6)] [(.ref a5)])) rfl (by rw [hml]; rfl) (Steps.refl _) (argsL := []) (rest := []) (lenOf pd_6 rfl) rfl (by show 2 * 0 + _ ≤ _; exact Nat.le_of_eq rfl) (hb hby d8_58) (fun _ _ => ⟨rfl, e104, (by decide : 0 + 0 ≤ _), (by decide : 0 + 0 ≤ _)⟩)
  dsimp only [Pt.U, Pt.locs, Pt.cells, Pt.slots] at X105 l105 y105 z105 st105 hQ105
  subst l105 y105 z105
  obtain ⟨rfl, N105q, e105⟩ := hQ105
  have N105 := Fr.app N104 N105q
  obtain ⟨cq106, kq106, q106a, q106b, q106c⟩ := isOf hZ e105 E4
  obtain ⟨_, _, ⟨T106, L106, k106, n106⟩, -, X106, ⟨Lc106, hQ106, l106, y106, z106⟩, st106⟩ := X105.virtualBack hx (y := (⟨"com/example/lumenward/lumenward/model/End", "isAnyBorder", "()Z"⟩ : MethodName)) (z := (⟨"com/example/lumenward/lumenward/model/End", "isAnyBorder", "()Z"⟩ : MethodName)) hown (mvT hZ (own_i hw 66 rfl)) (mvT hZ (own_i hw 67 rfl)) (notFace_of_selects (args := #[]) (mvT hZ (own_i hw 69 rfl))) (mvT hZ (own_i hw 69 rfl)) (mvT hZ (own_i hw 68 rfl)) (by decide) (backOf (W := 0) (rmIb l Z a0 hw [] a4 h0 n0 Z0 B4) hZ (own_i hw 70 rfl) (own_i hw 44 rfl) (by decide) (by decide)) q106a q106c (g := (mkF m 94 #[.val (.ref a1), .val (.ref a2), .val .null, .val (.ref a4), .val (.ref a5), .val (.int p6)] [(.ref a4)])) rfl (by rw [hml]; rfl) (Steps.refl _) (argsL := []) (rest := []) (lenOf pd_6 rfl) rfl (by show 2 * 0 + _ ≤ _; exact Nat.le_of_eq rfl) (hb hby d8_94) (fun _ _ => ⟨rfl, e105, (by decide : 0 + 0 ≤ _), (by decide : 0 + 0 ≤ _)⟩)
  dsimp only [Pt.U, Pt.locs, Pt.cells, Pt.slots] at X106 l106 y106 z106 st106 hQ106
  subst l106 y106 z106
  obtain ⟨rfl, N106q, e106⟩ := hQ106
  have N106 := Fr.app N105 N106q
  obtain ⟨cq107, kq107, q107a, q107b, q107c⟩ := isOf hZ e106 E5
  obtain ⟨_, _, ⟨T107, L107, k107, n107⟩, -, X107, ⟨Lc107, hQ107, l107, y107, z107⟩, st107⟩ := X106.virtualBack hx (y := (⟨"com/example/lumenward/lumenward/model/End", "isAnyBorder", "()Z"⟩ : MethodName)) (z := (⟨"com/example/lumenward/lumenward/model/End", "isAnyBorder", "()Z"⟩ : MethodName)) hown (mvT hZ (own_i hw 66 rfl)) (mvT hZ (own_i hw 67 rfl)) (notFace_of_selects (args := #[]) (mvT hZ (own_i hw 69 rfl))) (mvT hZ (own_i hw 69 rfl)) (mvT hZ (own_i hw 68 rfl)) (by decide) (backOf (W := 0) (rmIb l Z a0 hw [] a5 h0 n0 Z0 B5) hZ (own_i hw 70 rfl) (own_i hw 44 rfl) (by decide) (by decide)) q107a q107c (g := (mkF m 102 #[.val (.ref a1), .val (.ref a2), .val .null, .val (.ref a4), .val (.ref a5), .val (.int p6)] [(.ref a5)])) rfl (by rw [hml]; rfl) (Steps.refl _) (argsL := []) (rest := []) (lenOf pd_6 rfl) rfl (by show 2 * 0 + _ ≤ _; exact Nat.le_of_eq rfl) (hb hby d8_102) (fun _ _ => ⟨rfl, e106, (by decide : 0 + 0 ≤ _), (by decide : 0 + 0 ≤ _)⟩)
  dsimp only [Pt.U, Pt.locs, Pt.cells, Pt.slots] at X107 l107 y107 z107 st107 hQ107
  subst l107 y107 z107
  obtain ⟨rfl, N107q, e107⟩ := hQ107
  have N107 := Fr.app N106 N107q
  obtain ⟨cq108, kq108, q108a, q108b, q108c⟩ := isOf hZ e107 E4
  obtain ⟨_, _, ⟨T108, L108, k108, n108⟩, -, X108, ⟨Lc108, hQ108, l108, y108, z108⟩, st108⟩ := X107.virtualBack hx (y := (⟨"com/example/lumenward/lumenward/model/End", "getNode", "()I"⟩ : MethodName)) (z := (⟨"com/example/lumenward/lumenward/model/End", "getNode", "()I"⟩ : MethodName)) hown (mvT hZ (own_i hw 71 rfl)) (mvT hZ (own_i hw 72 rfl)) (notFace_of_selects (args := #[]) (mvT hZ (own_i hw 74 rfl))) (mvT hZ (own_i hw 74 rfl)) (mvT hZ (own_i hw 73 rfl)) (by decide) (backOf (W := 0) (rmGn l Z a0 hw [] a4 (1 : Int32) h0 n0 Z0 B4 N4) hZ (own_i hw 75 rfl) (own_i hw 44 rfl) (by decide) (by decide)) q108a q108c (g := (mkF m 109 #[.val (.ref a1), .val (.ref a2), .val .null, .val (.ref a4), .val (.ref a5), .val (.int p6)] [(.ref a4)])) rfl (by rw [hml]; rfl) (Steps.refl _) (argsL := []) (rest := []) (lenOf pd_7 rfl) rfl (by show 2 * 0 + _ ≤ _; exact Nat.le_of_eq rfl) (hb hby d8_109) (fun _ _ => ⟨rfl, e107, (by decide : 0 + 0 ≤ _), (by decide : 0 + 0 ≤ _)⟩)
  dsimp only [Pt.U, Pt.locs, Pt.cells, Pt.slots] at X108 l108 y108 z108 st108 hQ108
  subst l108 y108 z108
  obtain ⟨rfl, N108q, e108⟩ := hQ108
  have N108 := Fr.app N107 N108q
  obtain ⟨cq109, kq109, q109a, q109b, q109c⟩ := isOf hZ e108 E5
  obtain ⟨_, _, ⟨T109, L109, k109, n109⟩, -, X109, ⟨Lc109, hQ109, l109, y109, z109⟩, st109⟩ := X108.virtualBack hx (y := (⟨"com/example/lumenward/lumenward/model/End", "getNode", "()I"⟩ : MethodName)) (z := (⟨"com/example/lumenward/lumenward/model/End", "getNode", "()I"⟩ : MethodName)) hown (mvT hZ (own_i hw 71 rfl)) (mvT hZ (own_i hw 72 rfl)) (notFace_of_selects (args := #[]) (mvT hZ (own_i hw 74 rfl))) (mvT hZ (own_i hw 74 rfl)) (mvT hZ (own_i hw 73 rfl)) (by decide) (backOf (W := 1) (rmGn l Z a0 hw [] a5 (2 : Int32) h0 n0 Z0 B5 N5) hZ (own_i hw 75 rfl) (own_i hw 44 rfl) (by decide) (by decide)) q109a q109c (g := (mkF m 114 #[.val (.ref a1), .val (.ref a2), .val .null, .val (.ref a4), .val (.ref a5), .val (.int p6)] [(.ref a5), (.int (1 : Int32))])) rfl (by rw [hml]; rfl) (Steps.refl _) (argsL := []) (rest := [(.int (1 : Int32))]) (lenOf pd_7 rfl) rfl (by show 2 * 0 + _ ≤ _; exact Nat.le_of_eq rfl) (hb hby d8_114) (fun _ _ => ⟨rfl, e108, (by decide : 0 + 0 ≤ _), (by decide : 0 + 0 ≤ _)⟩)
  dsimp only [Pt.U, Pt.locs, Pt.cells, Pt.slots] at X109 l109 y109 z109 st109 hQ109
  subst l109 y109 z109
  obtain ⟨rfl, N109q, e109⟩ := hQ109
  have N109 := Fr.app N108 N109q
  obtain ⟨T110, h110, X110, e110, W110, st110⟩ := putF X109 hx hZ hown (host := "") (Or.inl (own_i hw 76 rfl)) Via.refl e109 F_id E1 (Or.inr ⟨(own_i hw 77 rfl), rfl, hnm⟩) (own_i hw 32 rfl) (ty := (.object "java/lang/String")) (by decide) rfl rfl (g := (mkF m 160 #[.val (.ref a1), .val (.ref a2), .val .null, .val (.ref a4), .val (.ref a5), .val (.int p6)] [(.ref a2), (.ref a1)])) rfl rfl (hb hby d8_160)
  have Fw110 := F_id.same W110
  have N110 := Fr.snoc X110 N109 g1
  have f111 := Nat.le_trans Z0 (Keep.of_wr W110).1
  have f112 := F_type.other W110 (Or.inr (slot_ne (Or.inr (own_i hw 79 rfl)) (Or.inr (own_i hw 77 rfl)) (by decide) (t := (.object "com/example/lumenward/lumenward/model/RequestType")) (t' := (.object "java/lang/String")) (by decide) (by decide)))
  have f113 := F_src.other W110 (Or.inr (slot_ne (Or.inr (own_i hw 81 rfl)) (Or.inr (own_i hw 77 rfl)) (by decide) (t := (.object "com/example/lumenward/lumenward/model/End")) (t' := (.object "java/lang/String")) (by decide) (by decide)))
  have f114 := F_dst.other W110 (Or.inr (slot_ne (Or.inr (own_i hw 83 rfl)) (Or.inr (own_i hw 77 rfl)) (by decide) (t := (.object "com/example/lumenward/lumenward/model/End")) (t' := (.object "java/lang/String")) (by decide) (by decide)))
  have f115 := F_slots.other W110 (Or.inr (slot_ne (Or.inr (own_i hw 85 rfl)) (Or.inr (own_i hw 77 rfl)) (by decide) (t := .int) (t' := (.object "java/lang/String")) (by decide) (by decide)))
  have f116 := E1.wr W110
  have f117 := E2.wr W110
  have f118 := E4.wr W110
  have f119 := E5.wr W110
  have f120 := f101.wr W110 (Or.inl (List.mem_of_getElem? (i := 0) rfl))
  obtain ⟨T121, h121, X121, e121, W121, st121⟩ := putF X110 hx hZ hown (host := "") (Or.inl (own_i hw 78 rfl)) Via.refl e110 f112 f116 (Or.inr ⟨(own_i hw 79 rfl), rfl, hnm⟩) (own_i hw 32 rfl) (ty := (.object "com/example/lumenward/lumenward/model/RequestType")) (by decide) rfl rfl (g := (mkF m 165 #[.val (.ref a1), .val (.ref a2), .val .null, .val (.ref a4), .val (.ref a5), .val (.int p6)] [.null, (.ref a1)])) rfl rfl (hb hby d8_165)
  have Fw121 := f112.same W121
  have N121 := Fr.snoc X121 N110 g1
  have f122 := Nat.le_trans f111 (Keep.of_wr W121).1
  have f123 := f113.other W121 (Or.inr (slot_ne (Or.inr (own_i hw 81 rfl)) (Or.inr (own_i hw 79 rfl)) (by decide) (t := (.object "com/example/lumenward/lumenward/model/End")) (t' := (.object "com/example/lumenward/lumenward/model/RequestType")) (by decide) (by decide)))
  have f124 := f114.other W121 (Or.inr (slot_ne (Or.inr (own_i hw 83 rfl)) (Or.inr (own_i hw 79 rfl)) (by decide) (t := (.object "com/example/lumenward/lumenward/model/End")) (t' := (.object "com/example/lumenward/lumenward/model/RequestType")) (by decide) (by decide)))
  have f125 := f115.other W121 (Or.inr (slot_ne (Or.inr (own_i hw 85 rfl)) (Or.inr (own_i hw 79 rfl)) (by decide) (t := .int) (t' := (.object "com/example/lumenward/lumenward/model/RequestType")) (by decide) (by decide)))
  have f126 := f116.wr W121
  have f127 := f117.wr W121
  have f128 := f118.wr W121
  have f129 := f119.wr W121
  have f130 := f120.wr W121 (Or.inl (List.mem_of_getElem? (i := 0) rfl))
  have f131 := Fw110.other W121 (Or.inr (slot_ne (Or.inr (own_i hw 77 rfl)) (Or.inr (own_i hw 79 rfl)) (by decide) (t := (.object "java/lang/String")) (t' := (.object "com/example/lumenward/lumenward/model/RequestType")) (by decide) (by decide)))
  obtain ⟨T132, h132, X132, e132, W132, st132⟩ := putF X121 hx hZ hown (host := "") (Or.inl (own_i hw 80 rfl)) Via.refl e121 f123 f126 (Or.inr ⟨(own_i hw 81 rfl), rfl, hnm⟩) (own_i hw 32 rfl) (ty := (.object "com/example/lumenward/lumenward/model/End")) (by decide) rfl rfl (g := (mkF m 170 #[.val (.ref a1), .val (.ref a2), .val .null, .val (.ref a4), .val (.ref a5), .val (.int p6)] [(.ref a4), (.ref a1)])) rfl rfl (hb hby d8_170)
  have Fw132 := f123.same W132
  have N132 := Fr.snoc X132 N121 g1
  have f133 := Nat.le_trans f122 (Keep.of_wr W132).1
  have f134 := f124.other W132 (Or.inr (slot_ne (Or.inr (own_i hw 83 rfl)) (Or.inr (own_i hw 81 rfl)) (by decide) (t := (.object "com/example/lumenward/lumenward/model/End")) (t' := (.object "com/example/lumenward/lumenward/model/End")) (by decide) (by decide)))
  have f135 := f125.other W132 (Or.inr (slot_ne (Or.inr (own_i hw 85 rfl)) (Or.inr (own_i hw 81 rfl)) (by decide) (t := .int) (t' := (.object "com/example/lumenward/lumenward/model/End")) (by decide) (by decide)))
  have f136 := f126.wr W132
  have f137 := f127.wr W132
  have f138 := f128.wr W132
  have f139 := f129.wr W132
  have f140 := f130.wr W132 (Or.inl (List.mem_of_getElem? (i := 0) rfl))
  have f141 := f131.other W132 (Or.inr (slot_ne (Or.inr (own_i hw 77 rfl)) (Or.inr (own_i hw 81 rfl)) (by decide) (t := (.object "java/lang/String")) (t' := (.object "com/example/lumenward/lumenward/model/End")) (by decide) (by decide)))
  have f142 := Fw121.other W132 (Or.inr (slot_ne (Or.inr (own_i hw 79 rfl)) (Or.inr (own_i hw 81 rfl)) (by decide) (t := (.object "com/example/lumenward/lumenward/model/RequestType")) (t' := (.object "com/example/lumenward/lumenward/model/End")) (by decide) (by decide)))
  obtain ⟨T143, h143, X143, e143, W143, st143⟩ := putF X132 hx hZ hown (host := "") (Or.inl (own_i hw 82 rfl)) Via.refl e132 f134 f136 (Or.inr ⟨(own_i hw 83 rfl), rfl, hnm⟩) (own_i hw 32 rfl) (ty := (.object "com/example/lumenward/lumenward/model/End")) (by decide) rfl rfl (g := (mkF m 176 #[.val (.ref a1), .val (.ref a2), .val .null, .val (.ref a4), .val (.ref a5), .val (.int p6)] [(.ref a5), (.ref a1)])) rfl rfl (hb hby d8_176)
  have Fw143 := f134.same W143
  have N143 := Fr.snoc X143 N132 g1
  have f144 := Nat.le_trans f133 (Keep.of_wr W143).1
  have f145 := f135.other W143 (Or.inr (slot_ne (Or.inr (own_i hw 85 rfl)) (Or.inr (own_i hw 83 rfl)) (by decide) (t := .int) (t' := (.object "com/example/lumenward/lumenward/model/End")) (by decide) (by decide)))
  have f146 := f136.wr W143
  have f147 := f137.wr W143
  have f148 := f138.wr W143
  have f149 := f139.wr W143
  have f150 := f140.wr W143 (Or.inl (List.mem_of_getElem? (i := 0) rfl))
  have f151 := f141.other W143 (Or.inr (slot_ne (Or.inr (own_i hw 77 rfl)) (Or.inr (own_i hw 83 rfl)) (by decide) (t := (.object "java/lang/String")) (t' := (.object "com/example/lumenward/lumenward/model/End")) (by decide) (by decide)))
  have f152 := f142.other W143 (Or.inr (slot_ne (Or.inr (own_i hw 79 rfl)) (Or.inr (own_i hw 83 rfl)) (by decide) (t := (.object "com/example/lumenward/lumenward/model/RequestType")) (t' := (.object "com/example/lumenward/lumenward/model/End")) (by decide) (by decide)))
  have f153 := Fw132.other W143 (Or.inr (slot_ne (Or.inr (own_i hw 81 rfl)) (Or.inr (own_i hw 83 rfl)) (by decide) (t := (.object "com/example/lumenward/lumenward/model/End")) (t' := (.object "com/example/lumenward/lumenward/model/End")) (by decide) (by decide)))
  obtain ⟨T154, h154, X154, e154, W154, st154⟩ := putF X143 hx hZ hown (host := "") (Or.inl (own_i hw 84 rfl)) Via.refl e143 f145 f146 (Or.inr ⟨(own_i hw 85 rfl), rfl, hnm⟩) (own_i hw 32 rfl) (ty := .int) (by decide) rfl rfl (g := (mkF m 182 #[.val (.ref a1), .val (.ref a2), .val .null, .val (.ref a4), .val (.ref a5), .val (.int p6)] [(.int p6), (.ref a1)])) rfl rfl (hb hby d8_182)
  have Fw154 := f145.same W154
  have N154 := Fr.snoc X154 N143 g1
  have f155 := Nat.le_trans f144 (Keep.of_wr W154).1
  have f156 := f146.wr W154
  have f157 := f147.wr W154
  have f158 := f148.wr W154
  have f159 := f149.wr W154
  have f160 := f150.wr W154 (Or.inl (List.mem_of_getElem? (i := 0) rfl))
  have f161 := f151.other W154 (Or.inr (slot_ne (Or.inr (own_i hw 77 rfl)) (Or.inr (own_i hw 85 rfl)) (by decide) (t := (.object "java/lang/String")) (t' := .int) (by decide) (by decide)))
  have f162 := f152.other W154 (Or.inr (slot_ne (Or.inr (own_i hw 79 rfl)) (Or.inr (own_i hw 85 rfl)) (by decide) (t := (.object "com/example/lumenward/lumenward/model/RequestType")) (t' := .int) (by decide) (by decide)))
  have f163 := f153.other W154 (Or.inr (slot_ne (Or.inr (own_i hw 81 rfl)) (Or.inr (own_i hw 85 rfl)) (by decide) (t := (.object "com/example/lumenward/lumenward/model/End")) (t' := .int) (by decide) (by decide)))
  have f164 := Fw143.other W154 (Or.inr (slot_ne (Or.inr (own_i hw 83 rfl)) (Or.inr (own_i hw 85 rfl)) (by decide) (t := (.object "com/example/lumenward/lumenward/model/End")) (t' := .int) (by decide) (by decide)))
  have pre165 : ∀ t, Steps p.tables e below (T154.setTop (mkF m 185 #[.val (.ref a1), .val (.ref a2), .val .null, .val (.ref a4), .val (.ref a5), .val (.int p6)] [])) t → Steps p.tables e below (s₁.setTop (entryFrame m #[(.ref a1), (.ref a2), .null, (.ref a4), (.ref a5), (.int p6)] 6)) t := fun t k => pre0 t (by
    show Steps p.tables e below (s₁.setTop (mkF m 0 #[.val (.ref a1), .val (.ref a2), .val .null, .val (.ref a4), .val (.ref a5), .val (.int p6)] [])) t
    refine XS.aloadN X0.here hx rfl (hb hby d8_0) rfl rfl ?_
    show Steps p.tables e below (s₁.setTop (mkF m 1 #[.val (.ref a1), .val (.ref a2), .val .null, .val (.ref a4), .val (.ref a5), .val (.int p6)] [(.ref a1)])) t
    refine st102 _ ?_
    show Steps p.tables e below (T102.setTop (mkF m 4 #[.val (.ref a1), .val (.ref a2), .val .null, .val (.ref a4), .val (.ref a5), .val (.int p6)] [])) t
    refine XS.aloadN X102.here hx rfl (hb hby d8_4) rfl rfl ?_
    show Steps p.tables e below (T102.setTop (mkF m 5 #[.val (.ref a1), .val (.ref a2), .val .null, .val (.ref a4), .val (.ref a5), .val (.int p6)] [(.ref a2)])) t
    refine st103.trans ?_
    show Steps p.tables e below (T103.setTop (mkF m 8 #[.val (.ref a1), .val (.ref a2), .val .null, .val (.ref a4), .val (.ref a5), .val (.int p6)] [(.int (0 : Int32))])) t
    refine XS.ifYes X103.here hx rfl (pc0 := 8) (pc' := 21) rfl (hb hby d8_8) rfl ((if0 _ _).trans (teq (by decide : (0 : Int32) = (0 : Int32))).1) (by decide) (by decide) ?_
    show Steps p.tables e below (T103.setTop (mkF m 21 #[.val (.ref a1), .val (.ref a2), .val .null, .val (.ref a4), .val (.ref a5), .val (.int p6)] [])) t
    refine XS.aloadN X103.here hx rfl (hb hby d8_21) rfl rfl ?_
    show Steps p.tables e below (T103.setTop (mkF m 22 #[.val (.ref a1), .val (.ref a2), .val .null, .val (.ref a4), .val (.ref a5), .val (.int p6)] [(.ref a4)])) t
    refine st104.trans ?_
    show Steps p.tables e below (T104.setTop (mkF m 25 #[.val (.ref a1), .val (.ref a2), .val .null, .val (.ref a4), .val (.ref a5), .val (.int p6)] [(.int (0 : Int32))])) t
    refine XS.ifYes X104.here hx rfl (pc0 := 25) (pc' := 56) rfl (hb hby d8_25) rfl ((if0 _ _).trans (teq (by decide : (0 : Int32) = (0 : Int32))).1) (by decide) (by decide) ?_
    show Steps p.tables e below (T104.setTop (mkF m 56 #[.val (.ref a1), .val (.ref a2), .val .null, .val (.ref a4), .val (.ref a5), .val (.int p6)] [])) t
    refine XS.aload X104.here hx rfl (hb hby d8_56) rfl rfl ?_
    show Steps p.tables e below (T104.setTop (mkF m 58 #[.val (.ref a1), .val (.ref a2), .val .null, .val (.ref a4), .val (.ref a5), .val (.int p6)] [(.ref a5)])) t
    refine st105.trans ?_
    show Steps p.tables e below (T105.setTop (mkF m 61 #[.val (.ref a1), .val (.ref a2), .val .null, .val (.ref a4), .val (.ref a5), .val (.int p6)] [(.int (0 : Int32))])) t
    refine XS.ifYes X105.here hx rfl (pc0 := 61) (pc' := 93) rfl (hb hby d8_61) rfl ((if0 _ _).trans (teq (by decide : (0 : Int32) = (0 : Int32))).1) (by decide) (by decide) ?_
    show Steps p.tables e below (T105.setTop (mkF m 93 #[.val (.ref a1), .val (.ref a2), .val .null, .val (.ref a4), .val (.ref a5), .val (.int p6)] [])) t
    refine XS.aloadN X105.here hx rfl (hb hby d8_93) rfl rfl ?_
    show Steps p.tables e below (T105.setTop (mkF m 94 #[.val (.ref a1), .val (.ref a2), .val .null, .val (.ref a4), .val (.ref a5), .val (.int p6)] [(.ref a4)])) t
    refine st106.trans ?_
    show Steps p.tables e below (T106.setTop (mkF m 97 #[.val (.ref a1), .val (.ref a2), .val .null, .val (.ref a4), .val (.ref a5), .val (.int p6)] [(.int (0 : Int32))])) t
    refine XS.ifNo X106.here hx rfl (hb hby d8_97) rfl ((if0 _ _).trans (teq (by decide : (0 : Int32) = (0 : Int32))).2) ?_
    show Steps p.tables e below (T106.setTop (mkF m 100 #[.val (.ref a1), .val (.ref a2), .val .null, .val (.ref a4), .val (.ref a5), .val (.int p6)] [])) t
    refine XS.aload X106.here hx rfl (hb hby d8_100) rfl rfl ?_
    show Steps p.tables e below (T106.setTop (mkF m 102 #[.val (.ref a1), .val (.ref a2), .val .null, .val (.ref a4), .val (.ref a5), .val (.int p6)] [(.ref a5)])) t
    refine st107.trans ?_
    show Steps p.tables e below (T107.setTop (mkF m 105 #[.val (.ref a1), .val (.ref a2), .val .null, .val (.ref a4), .val (.ref a5), .val (.int p6)] [(.int (0 : Int32))])) t
    refine XS.ifNo X107.here hx rfl (hb hby d8_105) rfl ((if0 _ _).trans (teq (by decide : (0 : Int32) = (0 : Int32))).2) ?_
    show Steps p.tables e below (T107.setTop (mkF m 108 #[.val (.ref a1), .val (.ref a2), .val .null, .val (.ref a4), .val (.ref a5), .val (.int p6)] [])) t
    refine XS.aloadN X107.here hx rfl (hb hby d8_108) rfl rfl ?_
    show Steps p.tables e below (T107.setTop (mkF m 109 #[.val (.ref a1), .val (.ref a2), .val .null, .val (.ref a4), .val (.ref a5), .val (.int p6)] [(.ref a4)])) t
    refine st108.trans ?_
    show Steps p.tables e below (T108.setTop (mkF m 112 #[.val (.ref a1), .val (.ref a2), .val .null, .val (.ref a4), .val (.ref a5), .val (.int p6)] [(.int (1 : Int32))])) t
    refine XS.aload X108.here hx rfl (hb hby d8_112) rfl rfl ?_
    show Steps p.tables e below (T108.setTop (mkF m 114 #[.val (.ref a1), .val (.ref a2), .val .null, .val (.ref a4), .val (.ref a5), .val (.int p6)] [(.ref a5), (.int (1 : Int32))])) t
    refine st109.trans ?_
    show Steps p.tables e below (T109.setTop (mkF m 117 #[.val (.ref a1), .val (.ref a2), .val .null, .val (.ref a4), .val (.ref a5), .val (.int p6)] [(.int (2 : Int32)), (.int (1 : Int32))])) t
    refine XS.icmpYes X109.here hx rfl (pc0 := 117) (pc' := 137) rfl (hb hby d8_117) rfl (feq (by decide : ¬ ((1 : Int32) = (2 : Int32)))).2 (by decide) (by decide) ?_
    show Steps p.tables e below (T109.setTop (mkF m 137 #[.val (.ref a1), .val (.ref a2), .val .null, .val (.ref a4), .val (.ref a5), .val (.int p6)] [])) t
    refine XS.iload X109.here hx rfl (hb hby d8_137) rfl ?_
    show Steps p.tables e below (T109.setTop (mkF m 139 #[.val (.ref a1), .val (.ref a2), .val .null, .val (.ref a4), .val (.ref a5), .val (.int p6)] [(.int p6)])) t
    refine XS.iconst X109.here hx rfl (hb hby d8_139) ?_
    show Steps p.tables e below (T109.setTop (mkF m 140 #[.val (.ref a1), .val (.ref a2), .val .null, .val (.ref a4), .val (.ref a5), .val (.int p6)] [(.int (1 : Int32)), (.int p6)])) t
    refine XS.icmpYes X109.here hx rfl (pc0 := 140) (pc' := 158) rfl (hb hby d8_140) rfl (flt hs).2.1 (by decide) (by decide) ?_
    show Steps p.tables e below (T109.setTop (mkF m 158 #[.val (.ref a1), .val (.ref a2), .val .null, .val (.ref a4), .val (.ref a5), .val (.int p6)] [])) t
    refine XS.aloadN X109.here hx rfl (hb hby d8_158) rfl rfl ?_
    show Steps p.tables e below (T109.setTop (mkF m 159 #[.val (.ref a1), .val (.ref a2), .val .null, .val (.ref a4), .val (.ref a5), .val (.int p6)] [(.ref a1)])) t
    refine XS.aloadN X109.here hx rfl (hb hby d8_159) rfl rfl ?_
    show Steps p.tables e below (T109.setTop (mkF m 160 #[.val (.ref a1), .val (.ref a2), .val .null, .val (.ref a4), .val (.ref a5), .val (.int p6)] [(.ref a2), (.ref a1)])) t
    refine st110 _ ?_
    show Steps p.tables e below (T110.setTop (mkF m 163 #[.val (.ref a1), .val (.ref a2), .val .null, .val (.ref a4), .val (.ref a5), .val (.int p6)] [])) t
    refine XS.aloadN X110.here hx rfl (hb hby d8_163) rfl rfl ?_
    show Steps p.tables e below (T110.setTop (mkF m 164 #[.val (.ref a1), .val (.ref a2), .val .null, .val (.ref a4), .val (.ref a5), .val (.int p6)] [(.ref a1)])) t
    refine XS.aloadN X110.here hx rfl (hb hby d8_164) rfl rfl ?_
    show Steps p.tables e below (T110.setTop (mkF m 165 #[.val (.ref a1), .val (.ref a2), .val .null, .val (.ref a4), .val (.ref a5), .val (.int p6)] [.null, (.ref a1)])) t
    refine st121 _ ?_
    show Steps p.tables e below (T121.setTop (mkF m 168 #[.val (.ref a1), .val (.ref a2), .val .null, .val (.ref a4), .val (.ref a5), .val (.int p6)] [])) t
    refine XS.aloadN X121.here hx rfl (hb hby d8_168) rfl rfl ?_
    show Steps p.tables e below (T121.setTop (mkF m 169 #[.val (.ref a1), .val (.ref a2), .val .null, .val (.ref a4), .val (.ref a5), .val (.int p6)] [(.ref a1)])) t
    refine XS.aloadN X121.here hx rfl (hb hby d8_169) rfl rfl ?_
    show Steps p.tables e below (T121.setTop (mkF m 170 #[.val (.ref a1), .val (.ref a2), .val .null, .val (.ref a4), .val (.ref a5), .val (.int p6)] [(.ref a4), (.ref a1)])) t
    refine st132 _ ?_
    show Steps p.tables e below (T132.setTop (mkF m 173 #[.val (.ref a1), .val (.ref a2), .val .null, .val (.ref a4), .val (.ref a5), .val (.int p6)] [])) t
    refine XS.aloadN X132.here hx rfl (hb hby d8_173) rfl rfl ?_
    show Steps p.tables e below (T132.setTop (mkF m 174 #[.val (.ref a1), .val (.ref a2), .val .null, .val (.ref a4), .val (.ref a5), .val (.int p6)] [(.ref a1)])) t
    refine XS.aload X132.here hx rfl (hb hby d8_174) rfl rfl ?_
    show Steps p.tables e below (T132.setTop (mkF m 176 #[.val (.ref a1), .val (.ref a2), .val .null, .val (.ref a4), .val (.ref a5), .val (.int p6)] [(.ref a5), (.ref a1)])) t
    refine st143 _ ?_
    show Steps p.tables e below (T143.setTop (mkF m 179 #[.val (.ref a1), .val (.ref a2), .val .null, .val (.ref a4), .val (.ref a5), .val (.int p6)] [])) t
    refine XS.aloadN X143.here hx rfl (hb hby d8_179) rfl rfl ?_
    show Steps p.tables e below (T143.setTop (mkF m 180 #[.val (.ref a1), .val (.ref a2), .val .null, .val (.ref a4), .val (.ref a5), .val (.int p6)] [(.ref a1)])) t
    refine XS.iload X143.here hx rfl (hb hby d8_180) rfl ?_
    show Steps p.tables e below (T143.setTop (mkF m 182 #[.val (.ref a1), .val (.ref a2), .val .null, .val (.ref a4), .val (.ref a5), .val (.int p6)] [(.int p6), (.ref a1)])) t
    refine st154 _ ?_
    exact k)
  obtain ⟨fs, hr, hrun, hended, hW, hsame⟩ := X154.leave (v := none) (fun _ => rfl)
  refine ⟨_, _, pre165 _ ?_, hrun, hended, _, _, rfl, ?_, ⟨_, rfl⟩, hW, hsame.mono (by decide) (by decide)⟩
  · exact X154.returnOut hx Bd.returns (hb hby d8_185) hr
  · show QRq Z a1 a2 a4 a5 p6 bl kl vl h0 n0 _ T154.heap _
    rw [e154]
    exact ⟨rfl, N154, f160, f156, Fw154⟩
theorem ef_rmSl (m : MethodId) (x0 : Addr) : entryFrame m #[(.ref x0)] 1 = mkF m 0 #[.val (.ref x0)] [] := by first | (simp [entryFrame, mkF, argsToLocals, Value.category]; done) | rfl
def QSl (Z : State) (a1 : Addr) (w : Int32) (h0 : Heap) (n0 : Nat) (v : Option Value) (h : Heap) (L : List Loc) : Prop := v = some (.int w) ∧ Fr n0 L ∧ h = h0
set_option maxRecDepth 65536 in
set_option maxHeartbeats 40000000 in
theorem rmSl (l : Launch) (Z : State) (a0 : Array Value) (hw : ∀ d ∈ tables_1, d.before a0 Z = true) (ws : List Jvm.Cond) (a1 : Addr) (w : Int32) (h0 : Heap) (n0 : Nat) (Z0 : n0 ≤ h0.size) (F1 : Fld Z h0 a1 "com/example/lumenward/lumenward/model/Request" "slots" "I" (.int w)) :
    MetFree l (⟨"com/example/lumenward/lumenward/model/Request", "getSlots", "()I"⟩ : MethodName) (head1 (Jvm.Cond.code (⟨"com/example/lumenward/lumenward/model/Request", "getSlots", "()I"⟩ : MethodName) prog_27_method_6_code 1 (some .int) :: ws) ({ frames := 0, cells := 0, slots := 0, locals := 0 } : Room)) (fun a U => a = #[(.ref a1)] ∧ Z.Warmed39 U.vm ∧ U.heap = h0) (fun _ _ _ _ _ => True) (fun _ U o U' => ∃ v L, o = .returned v ∧ QSl Z a1 w h0 n0 v U'.heap L ∧ FrameEnd U o U' L ({ frames := 0, cells := 0, slots := 0, locals := 0 } : Room).cells ({ frames := 0, cells := 0, slots := 0, locals := 0 } : Room).slots) := by
  refine MetFree.of_bodySF (plainFor_of_name pn_com_example_lumenward_lumenward_model_Request) hisR ?_
  intro p e s m args below meth c s₁ Bd hml0 hP hK
  obtain ⟨rfl, hZ, hh⟩ := hP
  have hx := Bd.exec
  have hby := Bd.bytes
  have hml : c.maxLocals = 1 := hml0
  have hown : s.vm.findClass "com/example/lumenward/lumenward/model/Request" = some m.cls := findClass_of_methodNamed Bd.named
  have hnm := (name_of_methodNamed Bd.named Bd.method).1
  have X0 : Stand p l e ({ frames := 0, cells := 0, slots := 0, locals := 0 } : Room) s m #[(.ref a1)] below meth c s₁ [] 0 0 := Stand.of_body Bd
  have e0 : s₁.heap = h0 := by rw [← hh, Bd.state]; rfl
  have N0 := Fr.nil n0
  have pre0 : ∀ t, Steps p.tables e below (s₁.setTop (mkF m 0 #[.val (.ref a1)] [])) t → Steps p.tables e below (s₁.setTop (entryFrame m #[(.ref a1)] 1)) t := fun t k => castTop (ef_rmSl m a1) k
  obtain ⟨T101, X101, e101, st101⟩ := getF X0 hx hZ hown (host := "") (Or.inl (own_i hw 84 rfl)) Via.refl e0 F1 (g := (mkF m 1 #[.val (.ref a1)] [(.ref a1)])) rfl rfl (hb hby d22_1)
  have pre102 : ∀ t, Steps p.tables e below (T101.setTop (mkF m 4 #[.val (.ref a1)] [(.int w)])) t → Steps p.tables e below (s₁.setTop (entryFrame m #[(.ref a1)] 1)) t := fun t k => pre0 t (by
    show Steps p.tables e below (s₁.setTop (mkF m 0 #[.val (.ref a1)] [])) t
    refine XS.aloadN X0.here hx rfl (hb hby d22_0) rfl rfl ?_
    show Steps p.tables e below (s₁.setTop (mkF m 1 #[.val (.ref a1)] [(.ref a1)])) t
    refine st101 _ ?_
    exact k)
  obtain ⟨fs, hr, hrun, hended, hW, hsame⟩ := X101.leave (v := some (.int w)) (fun h => by rw [Bd.returns] at h; cases h)
  refine ⟨_, _, pre102 _ ?_, hrun, hended, _, _, rfl, ?_, ⟨_, rfl⟩, hW, hsame.mono (by decide) (by decide)⟩
  · exact retI X101 hx Bd.returns (hb hby d22_4) hr
  · show QSl Z a1 w h0 n0 _ T101.heap _
    rw [e101]
    exact ⟨rfl, N0, rfl⟩
theorem ef_rmSz (m : MethodId) (x0 : Addr) : entryFrame m #[(.ref x0)] 1 = mkF m 0 #[.val (.ref x0)] [] := by first | (simp [entryFrame, mkF, argsToLocals, Value.category]; done) | rfl
def QSz (Z : State) (a1 : Addr) (w : Int32) (h0 : Heap) (n0 : Nat) (v : Option Value) (h : Heap) (L : List Loc) : Prop := v = some (.int w) ∧ Fr n0 L ∧ h = h0
set_option maxRecDepth 65536 in
set_option maxHeartbeats 40000000 in
theorem rmSz (l : Launch) (Z : State) (a0 : Array Value) (hw : ∀ d ∈ tables_1, d.before a0 Z = true) (ws : List Jvm.Cond) (a1 : Addr) (w : Int32) (h0 : Heap) (n0 : Nat) (Z0 : n0 ≤ h0.size) (F1 : Fld Z h0 a1 "java/util/ArrayList" "size" "I" (.int w)) :
    MetFree l (⟨"java/util/ArrayList", "size", "()I"⟩ : MethodName) (head1 (Jvm.Cond.code (⟨"java/util/ArrayList", "size", "()I"⟩ : MethodName) jdk_38_method_8_code 1 (some .int) :: ws) ({ frames := 0, cells := 0, slots := 0, locals := 0 } : Room)) (fun a U => a = #[(.ref a1)] ∧ Z.Warmed39 U.vm ∧ U.heap = h0) (fun _ _ _ _ _ => True) (fun _ U o U' => ∃ v L, o = .returned v ∧ QSz Z a1 w h0 n0 v U'.heap L ∧ FrameEnd U o U' L ({ frames := 0, cells := 0, slots := 0, locals := 0 } : Room).cells ({ frames := 0, cells := 0, slots := 0, locals := 0 } : Room).slots) := by
  refine MetFree.of_bodySF (plainFor_of_name pn_java_util_ArrayList) hisR ?_
  intro p e s m args below meth c s₁ Bd hml0 hP hK
  obtain ⟨rfl, hZ, hh⟩ := hP
  have hx := Bd.exec
  have hby := Bd.bytes
  have hml : c.maxLocals = 1 := hml0
  have hown : s.vm.findClass "java/util/ArrayList" = some m.cls := findClass_of_methodNamed Bd.named
  have hnm := (name_of_methodNamed Bd.named Bd.method).1
  have X0 : Stand p l e ({ frames := 0, cells := 0, slots := 0, locals := 0 } : Room) s m #[(.ref a1)] below meth c s₁ [] 0 0 := Stand.of_body Bd
  have e0 : s₁.heap = h0 := by rw [← hh, Bd.state]; rfl
  have N0 := Fr.nil n0
  have pre0 : ∀ t, Steps p.tables e below (s₁.setTop (mkF m 0 #[.val (.ref a1)] [])) t → Steps p.tables e below (s₁.setTop (entryFrame m #[(.ref a1)] 1)) t := fun t k => castTop (ef_rmSz m a1) k
  obtain ⟨T101, X101, e101, st101⟩ := getF X0 hx hZ hown (host := "") (Or.inl (own_i hw 97 rfl)) Via.refl e0 F1 (g := (mkF m 1 #[.val (.ref a1)] [(.ref a1)])) rfl rfl (hb hby d17_1)
  have pre102 : ∀ t, Steps p.tables e below (T101.setTop (mkF m 4 #[.val (.ref a1)] [(.int w)])) t → Steps p.tables e below (s₁.setTop (entryFrame m #[(.ref a1)] 1)) t := fun t k => pre0 t (by
    show Steps p.tables e below (s₁.setTop (mkF m 0 #[.val (.ref a1)] [])) t
    refine XS.aloadN X0.here hx rfl (hb hby d17_0) rfl rfl ?_
    show Steps p.tables e below (s₁.setTop (mkF m 1 #[.val (.ref a1)] [(.ref a1)])) t
    refine st101 _ ?_
    exact k)
  obtain ⟨fs, hr, hrun, hended, hW, hsame⟩ := X101.leave (v := some (.int w)) (fun h => by rw [Bd.returns] at h; cases h)
  refine ⟨_, _, pre102 _ ?_, hrun, hended, _, _, rfl, ?_, ⟨_, rfl⟩, hW, hsame.mono (by decide) (by decide)⟩
  · exact retI X101 hx Bd.returns (hb hby d17_4) hr
  · show QSz Z a1 w h0 n0 _ T101.heap _
    rw [e101]
    exact ⟨rfl, N0, rfl⟩
theorem pn_jdk_internal_util_Preconditions : plainName "jdk/internal/util/Preconditions" = true := by first | (simp [plainName, overriddenIn]; done) | decide +kernel
theorem ef_rmPc (m : MethodId)  : entryFrame m #[(.int (0 : Int32)), (.int (1 : Int32)), .null] 3 = mkF m 0 #[.val (.int (0 : Int32)), .val (.int (1 : Int32)), .val .null] [] := by first | (simp [entryFrame, mkF, argsToLocals, Value.category]; done) | rfl
def QPc (Z : State)  (h0 : Heap) (n0 : Nat) (v : Option Value) (h : Heap) (L : List Loc) : Prop := v = some (.int (0 : Int32)) ∧ Fr n0 L ∧ h = h0
set_option maxRecDepth 65536 in
set_option maxHeartbeats 40000000 in
theorem rmPc (l : Launch) (Z : State) (a0 : Array Value) (hw : ∀ d ∈ tables_1, d.before a0 Z = true) (ws : List Jvm.Cond)  (h0 : Heap) (n0 : Nat) (Z0 : n0 ≤ h0.size) :
    MetFree l (⟨"jdk/internal/util/Preconditions", "checkIndex", "(IILjava/util/function/BiFunction;)I"⟩ : MethodName) (head1 (Jvm.Cond.code (⟨"jdk/internal/util/Preconditions", "checkIndex", "(IILjava/util/function/BiFunction;)I"⟩ : MethodName) jdk_41_method_11_code 3 (some .int) :: ws) ({ frames := 0, cells := 0, slots := 0, locals := 0 } : Room)) (fun a U => a = #[(.int (0 : Int32)), (.int (1 : Int32)), .null] ∧ Z.Warmed39 U.vm ∧ U.heap = h0) (fun _ _ _ _ _ => True) (fun _ U o U' => ∃ v L, o = .returned v ∧ QPc Z h0 n0 v U'.heap L ∧ FrameEnd U o U' L ({ frames := 0, cells := 0, slots := 0, locals := 0 } : Room).cells ({ frames := 0, cells := 0, slots := 0, locals := 0 } : Room).slots) := by
  refine MetFree.of_bodySF (plainFor_of_name pn_jdk_internal_util_Preconditions) hisR ?_
  intro p e s m args below meth c s₁ Bd hml0 hP hK
  obtain ⟨rfl, hZ, hh⟩ := hP
  have hx := Bd.exec
  have hby := Bd.bytes
  have hml : c.maxLocals = 3 := hml0
  have hown : s.vm.findClass "jdk/internal/util/Preconditions" = some m.cls := findClass_of_methodNamed Bd.named
  have hnm := (name_of_methodNamed Bd.named Bd.method).1
  have X0 : Stand p l e ({ frames := 0, cells := 0, slots := 0, locals := 0 } : Room) s m #[(.int (0 : Int32)), (.int (1 : Int32)), .null] below meth c s₁ [] 0 0 := Stand.of_body Bd
  have e0 : s₁.heap = h0 := by rw [← hh, Bd.state]; rfl
  have N0 := Fr.nil n0
  have pre0 : ∀ t, Steps p.tables e below (s₁.setTop (mkF m 0 #[.val (.int (0 : Int32)), .val (.int (1 : Int32)), .val .null] [])) t → Steps p.tables e below (s₁.setTop (entryFrame m #[(.int (0 : Int32)), (.int (1 : Int32)), .null] 3)) t := fun t k => castTop (ef_rmPc m ) k
  have pre101 : ∀ t, Steps p.tables e below (s₁.setTop (mkF m 17 #[.val (.int (0 : Int32)), .val (.int (1 : Int32)), .val .null] [(.int (0 : Int32))])) t → Steps p.tables e below (s₁.setTop (entryFrame m #[(.int (0 : Int32)), (.int (1 : Int32)), .null] 3)) t := fun t k => pre0 t (by
    show Steps p.tables e below (s₁.setTop (mkF m 0 #[.val (.int (0 : Int32)), .val (.int (1 : Int32)), .val .null] [])) t
    refine XS.iloadN X0.here hx rfl (hb hby d20_0) rfl ?_
    show Steps p.tables e below (s₁.setTop (mkF m 1 #[.val (.int (0 : Int32)), .val (.int (1 : Int32)), .val .null] [(.int (0 : Int32))])) t
    refine XS.ifNo X0.here hx rfl (hb hby d20_1) rfl ((if0 _ _).trans (flt (by decide : ¬ ((0 : Int32) < (0 : Int32)))).1) ?_
    show Steps p.tables e below (s₁.setTop (mkF m 4 #[.val (.int (0 : Int32)), .val (.int (1 : Int32)), .val .null] [])) t
    refine XS.iloadN X0.here hx rfl (hb hby d20_4) rfl ?_
    show Steps p.tables e below (s₁.setTop (mkF m 5 #[.val (.int (0 : Int32)), .val (.int (1 : Int32)), .val .null] [(.int (0 : Int32))])) t
    refine XS.iloadN X0.here hx rfl (hb hby d20_5) rfl ?_
    show Steps p.tables e below (s₁.setTop (mkF m 6 #[.val (.int (0 : Int32)), .val (.int (1 : Int32)), .val .null] [(.int (1 : Int32)), (.int (0 : Int32))])) t
    refine XS.icmpYes X0.here hx rfl (pc0 := 6) (pc' := 16) rfl (hb hby d20_6) rfl (tlt (by decide : (0 : Int32) < (1 : Int32))).1 (by decide) (by decide) ?_
    show Steps p.tables e below (s₁.setTop (mkF m 16 #[.val (.int (0 : Int32)), .val (.int (1 : Int32)), .val .null] [])) t
    refine XS.iloadN X0.here hx rfl (hb hby d20_16) rfl ?_
    exact k)
  obtain ⟨fs, hr, hrun, hended, hW, hsame⟩ := X0.leave (v := some (.int (0 : Int32))) (fun h => by rw [Bd.returns] at h; cases h)
  refine ⟨_, _, pre101 _ ?_, hrun, hended, _, _, rfl, ?_, ⟨_, rfl⟩, hW, hsame.mono (by decide) (by decide)⟩
  · exact retI X0 hx Bd.returns (hb hby d20_17) hr
  · show QPc Z h0 n0 _ s₁.heap _
    rw [e0]
    exact ⟨rfl, N0, rfl⟩
theorem pn_java_util_Objects : plainName "java/util/Objects" = true := by first | (simp [plainName, overriddenIn]; done) | decide +kernel
theorem pd_8 : parseMethodDescriptor "(IILjava/util/function/BiFunction;)I" = some ⟨[.int, .int, (.object "java/util/function/BiFunction")], some .int⟩ := by decide +kernel
theorem ef_rmCi (m : MethodId)  : entryFrame m #[(.int (0 : Int32)), (.int (1 : Int32))] 2 = mkF m 0 #[.val (.int (0 : Int32)), .val (.int (1 : Int32))] [] := by first | (simp [entryFrame, mkF, argsToLocals, Value.category]; done) | rfl
def QCi (Z : State)  (h0 : Heap) (n0 : Nat) (v : Option Value) (h : Heap) (L : List Loc) : Prop := v = some (.int (0 : Int32)) ∧ Fr n0 L ∧ h = h0
set_option maxRecDepth 65536 in
set_option maxHeartbeats 40000000 in
theorem rmCi (l : Launch) (Z : State) (a0 : Array Value) (hw : ∀ d ∈ tables_1, d.before a0 Z = true) (ws : List Jvm.Cond)  (h0 : Heap) (n0 : Nat) (Z0 : n0 ≤ h0.size) :
    MetFree l (⟨"java/util/Objects", "checkIndex", "(II)I"⟩ : MethodName) (head1 (Jvm.Cond.code (⟨"java/util/Objects", "checkIndex", "(II)I"⟩ : MethodName) jdk_31_method_17_code 2 (some .int) :: ws) ({ frames := 1, cells := 0, slots := 0, locals := 14 } : Room)) (fun a U => a = #[(.int (0 : Int32)), (.int (1 : Int32))] ∧ Z.Warmed39 U.vm ∧ U.heap = h0) (fun _ _ _ _ _ => True) (fun _ U o U' => ∃ v L, o = .returned v ∧ QCi Z h0 n0 v U'.heap L ∧ FrameEnd U o U' L ({ frames := 1, cells := 0, slots := 0, locals := 14 } : Room).cells ({ frames := 1, cells := 0, slots := 0, locals := 14 } : Room).slots) := by
  refine MetFree.of_bodySF (plainFor_of_name pn_java_util_Objects) hisR ?_
  intro p e s m args below meth c s₁ Bd hml0 hP hK
  obtain ⟨rfl, hZ, hh⟩ := hP
  have hx := Bd.exec
  have hby := Bd.bytes
  have hml : c.maxLocals = 2 := hml0
  have hown : s.vm.findClass "java/util/Objects" = some m.cls := findClass_of_methodNamed Bd.named
  have hnm := (name_of_methodNamed Bd.named Bd.method).1
  have X0 : Stand p l e ({ frames := 1, cells := 0, slots := 0, locals := 14 } : Room) s m #[(.int (0 : Int32)), (.int (1 : Int32))] below meth c s₁ [] 0 0 := Stand.of_body Bd
  have e0 : s₁.heap = h0 := by rw [← hh, Bd.state]; rfl
  have N0 := Fr.nil n0
  have pre0 : ∀ t, Steps p.tables e below (s₁.setTop (mkF m 0 #[.val (.int (0 : Int32)), .val (.int (1 : Int32))] [])) t → Steps p.tables e below (s₁.setTop (entryFrame m #[(.int (0 : Int32)), (.int (1 : Int32))] 2)) t := fun t k => castTop (ef_rmCi m ) k
  obtain ⟨_, _, ⟨T101, L101, k101, n101⟩, -, X101, ⟨Lc101, hQ101, l101, y101, z101⟩, st101⟩ := Jvm.LawKit.callS X0 hx (y := (⟨"jdk/internal/util/Preconditions", "checkIndex", "(IILjava/util/function/BiFunction;)I"⟩ : MethodName)) hown (mvT hZ (own_i hw 145 rfl)) (mvT hZ (own_i hw 146 rfl)) (mvT hZ (own_i hw 147 rfl)) (mvT hZ (own_i hw 148 rfl)) (by decide) (backOf (W := 0) (rmPc l Z a0 hw []  h0 n0 Z0 ) hZ (own_i hw 148 rfl) (own_i hw 147 rfl) (by decide) (by decide)) (g := (mkF m 3 #[.val (.int (0 : Int32)), .val (.int (1 : Int32))] [.null, (.int (1 : Int32)), (.int (0 : Int32))])) rfl (by rw [hml]; rfl) (argsL := [(.int (0 : Int32)), (.int (1 : Int32)), .null]) (rest := []) (lenOf pd_8 rfl) rfl (by show 2 * 0 + _ ≤ _; exact Nat.le_of_eq rfl) (hb hby d19_3) (fun _ _ => ⟨rfl, e0, (by decide : 0 + 0 ≤ _), (by decide : 0 + 0 ≤ _)⟩)
  dsimp only [Pt.U, Pt.locs, Pt.cells, Pt.slots] at X101 l101 y101 z101 st101 hQ101
  subst l101 y101 z101
  obtain ⟨rfl, N101q, e101⟩ := hQ101
  have N101 := Fr.app N0 N101q
  have pre102 : ∀ t, Steps p.tables e below (T101.setTop (mkF m 6 #[.val (.int (0 : Int32)), .val (.int (1 : Int32))] [(.int (0 : Int32))])) t → Steps p.tables e below (s₁.setTop (entryFrame m #[(.int (0 : Int32)), (.int (1 : Int32))] 2)) t := fun t k => pre0 t (by
    show Steps p.tables e below (s₁.setTop (mkF m 0 #[.val (.int (0 : Int32)), .val (.int (1 : Int32))] [])) t
    refine XS.iloadN X0.here hx rfl (hb hby d19_0) rfl ?_
    show Steps p.tables e below (s₁.setTop (mkF m 1 #[.val (.int (0 : Int32)), .val (.int (1 : Int32))] [(.int (0 : Int32))])) t
    refine XS.iloadN X0.here hx rfl (hb hby d19_1) rfl ?_
    show Steps p.tables e below (s₁.setTop (mkF m 2 #[.val (.int (0 : Int32)), .val (.int (1 : Int32))] [(.int (1 : Int32)), (.int (0 : Int32))])) t
    refine XS.aconstNull X0.here hx rfl (hb hby d19_2) ?_
    show Steps p.tables e below (s₁.setTop (mkF m 3 #[.val (.int (0 : Int32)), .val (.int (1 : Int32))] [.null, (.int (1 : Int32)), (.int (0 : Int32))])) t
    refine st101 _ ?_
    exact k)
  obtain ⟨fs, hr, hrun, hended, hW, hsame⟩ := X101.leave (v := some (.int (0 : Int32))) (fun h => by rw [Bd.returns] at h; cases h)
  refine ⟨_, _, pre102 _ ?_, hrun, hended, _, _, rfl, ?_, ⟨_, rfl⟩, hW, hsame.mono (by decide) (by decide)⟩
  · exact retI X101 hx Bd.returns (hb hby d19_6) hr
  · show QCi Z h0 n0 _ T101.heap _
    rw [e101]
    exact ⟨rfl, N101, rfl⟩
theorem ef_rmEd (m : MethodId) (x0 : Addr) : entryFrame m #[(.ref x0), (.int (0 : Int32))] 2 = mkF m 0 #[.val (.ref x0), .val (.int (0 : Int32))] [] := by first | (simp [entryFrame, mkF, argsToLocals, Value.category]; done) | rfl
def QEd (Z : State) (a1 : Addr) (b : Addr) (kb : ClassId) (r : Addr) (h0 : Heap) (n0 : Nat) (v : Option Value) (h : Heap) (L : List Loc) : Prop := v = some (.ref r) ∧ Fr n0 L ∧ h = h0
set_option maxRecDepth 65536 in
set_option maxHeartbeats 40000000 in
theorem rmEd (l : Launch) (Z : State) (a0 : Array Value) (hw : ∀ d ∈ tables_1, d.before a0 Z = true) (ws : List Jvm.Cond) (a1 : Addr) (b : Addr) (kb : ClassId) (r : Addr) (h0 : Heap) (n0 : Nat) (Z0 : n0 ≤ h0.size) (D1 : Fld Z h0 a1 "java/util/ArrayList" "elementData" "[Ljava/lang/Object;" (.ref b)) (V1 : Arv Z h0 b kb (.object "java/lang/Object") (10 : Int32) [(.ref r), .null, .null, .null, .null, .null, .null, .null, .null, .null] .null) :
    MetFree l (⟨"java/util/ArrayList", "elementData", "(I)Ljava/lang/Object;"⟩ : MethodName) (head1 (Jvm.Cond.code (⟨"java/util/ArrayList", "elementData", "(I)Ljava/lang/Object;"⟩ : MethodName) jdk_38_method_18_code 2 (some (.object "java/lang/Object")) :: ws) ({ frames := 0, cells := 0, slots := 0, locals := 0 } : Room)) (fun a U => a = #[(.ref a1), (.int (0 : Int32))] ∧ Z.Warmed39 U.vm ∧ U.heap = h0) (fun _ _ _ _ _ => True) (fun _ U o U' => ∃ v L, o = .returned v ∧ QEd Z a1 b kb r h0 n0 v U'.heap L ∧ FrameEnd U o U' L ({ frames := 0, cells := 0, slots := 0, locals := 0 } : Room).cells ({ frames := 0, cells := 0, slots := 0, locals := 0 } : Room).slots) := by
  refine MetFree.of_bodySF (plainFor_of_name pn_java_util_ArrayList) hisR ?_
  intro p e s m args below meth c s₁ Bd hml0 hP hK
  obtain ⟨rfl, hZ, hh⟩ := hP
  have hx := Bd.exec
  have hby := Bd.bytes
  have hml : c.maxLocals = 2 := hml0
  have hown : s.vm.findClass "java/util/ArrayList" = some m.cls := findClass_of_methodNamed Bd.named
  have hnm := (name_of_methodNamed Bd.named Bd.method).1
  have X0 : Stand p l e ({ frames := 0, cells := 0, slots := 0, locals := 0 } : Room) s m #[(.ref a1), (.int (0 : Int32))] below meth c s₁ [] 0 0 := Stand.of_body Bd
  have e0 : s₁.heap = h0 := by rw [← hh, Bd.state]; rfl
  have N0 := Fr.nil n0
  have pre0 : ∀ t, Steps p.tables e below (s₁.setTop (mkF m 0 #[.val (.ref a1), .val (.int (0 : Int32))] [])) t → Steps p.tables e below (s₁.setTop (entryFrame m #[(.ref a1), (.int (0 : Int32))] 2)) t := fun t k => castTop (ef_rmEd m a1) k
  obtain ⟨T101, X101, e101, st101⟩ := getF X0 hx hZ hown (host := "") (Or.inl (own_i hw 29 rfl)) Via.refl e0 D1 (g := (mkF m 1 #[.val (.ref a1), .val (.int (0 : Int32))] [(.ref a1)])) rfl rfl (hb hby d21_1)
  obtain ⟨cl102, Ar102, q102, S102, N102z, H102, G102⟩ := (id V1)
  have hin102 : ¬ ((0 : Int32) < 0 ∨ cl102.slots.size ≤ ((0 : Int32)).toNatClampNeg) := inb_of S102 ⟨by decide, by decide⟩
  have hat102 : cl102.slots[((0 : Int32)).toNatClampNeg]? = some (.ref r) := Has.at H102 hin102 rfl
  have pre103 : ∀ t, Steps p.tables e below (T101.setTop (mkF m 6 #[.val (.ref a1), .val (.int (0 : Int32))] [(.ref r)])) t → Steps p.tables e below (s₁.setTop (entryFrame m #[(.ref a1), (.int (0 : Int32))] 2)) t := fun t k => pre0 t (by
    show Steps p.tables e below (s₁.setTop (mkF m 0 #[.val (.ref a1), .val (.int (0 : Int32))] [])) t
    refine XS.aloadN X0.here hx rfl (hb hby d21_0) rfl rfl ?_
    show Steps p.tables e below (s₁.setTop (mkF m 1 #[.val (.ref a1), .val (.int (0 : Int32))] [(.ref a1)])) t
    refine st101 _ ?_
    show Steps p.tables e below (T101.setTop (mkF m 4 #[.val (.ref a1), .val (.int (0 : Int32))] [(.ref b)])) t
    refine XS.iloadN X101.here hx rfl (hb hby d21_4) rfl ?_
    show Steps p.tables e below (T101.setTop (mkF m 5 #[.val (.ref a1), .val (.int (0 : Int32))] [(.int (0 : Int32)), (.ref b)])) t
    refine X101.aaload hx (j := (0 : Int32)) (v := (.ref r)) (by rw [e101]; exact Ar102.1) (State.isArrayOf_alike hZ.alike Ar102.2.1) rfl Ar102.2.2 hin102 hat102 (g := (mkF m 5 #[.val (.ref a1), .val (.int (0 : Int32))] [(.int (0 : Int32)), (.ref b)])) rfl rfl (hb hby d21_5) _ ?_
    exact k)
  obtain ⟨fs, hr, hrun, hended, hW, hsame⟩ := X101.leave (v := some (.ref r)) (fun h => by rw [Bd.returns] at h; cases h)
  refine ⟨_, _, pre103 _ ?_, hrun, hended, _, _, rfl, ?_, ⟨_, rfl⟩, hW, hsame.mono (by decide) (by decide)⟩
  · exact retOut X101 hx Bd.returns rfl (Or.inr (Or.inr (Or.inr (Or.inr ⟨rfl, rfl, rfl⟩)))) (hb hby d21_6) hr
  · show QEd Z a1 b kb r h0 n0 _ T101.heap _
    rw [e101]
    exact ⟨rfl, N0, rfl⟩
theorem pd_9 : parseMethodDescriptor "(I)Ljava/lang/Object;" = some ⟨[.int], some (.object "java/lang/Object")⟩ := by decide +kernel
theorem ef_rmGet (m : MethodId) (x0 : Addr) : entryFrame m #[(.ref x0), (.int (0 : Int32))] 2 = mkF m 0 #[.val (.ref x0), .val (.int (0 : Int32))] [] := by first | (simp [entryFrame, mkF, argsToLocals, Value.category]; done) | rfl
def QGet (Z : State) (a1 : Addr) (b : Addr) (kb : ClassId) (r : Addr) (h0 : Heap) (n0 : Nat) (v : Option Value) (h : Heap) (L : List Loc) : Prop := v = some (.ref r) ∧ Fr n0 L ∧ h = h0
set_option maxRecDepth 65536 in
set_option maxHeartbeats 40000000 in
theorem rmGet (l : Launch) (Z : State) (a0 : Array Value) (hw : ∀ d ∈ tables_1, d.before a0 Z = true) (ws : List Jvm.Cond) (a1 : Addr) (b : Addr) (kb : ClassId) (r : Addr) (h0 : Heap) (n0 : Nat) (Z0 : n0 ≤ h0.size) (Z1 : Fld Z h0 a1 "java/util/ArrayList" "size" "I" (.int (1 : Int32))) (E1 : Exa Z h0 a1 "java/util/ArrayList") (D1 : Fld Z h0 a1 "java/util/ArrayList" "elementData" "[Ljava/lang/Object;" (.ref b)) (V1 : Arv Z h0 b kb (.object "java/lang/Object") (10 : Int32) [(.ref r), .null, .null, .null, .null, .null, .null, .null, .null, .null] .null) :
    MetFree l (⟨"java/util/ArrayList", "get", "(I)Ljava/lang/Object;"⟩ : MethodName) (head1 (Jvm.Cond.code (⟨"java/util/ArrayList", "get", "(I)Ljava/lang/Object;"⟩ : MethodName) jdk_38_method_20_code 2 (some (.object "java/lang/Object")) :: ws) ({ frames := 2, cells := 0, slots := 0, locals := 27 } : Room)) (fun a U => a = #[(.ref a1), (.int (0 : Int32))] ∧ Z.Warmed39 U.vm ∧ U.heap = h0) (fun _ _ _ _ _ => True) (fun _ U o U' => ∃ v L, o = .returned v ∧ QGet Z a1 b kb r h0 n0 v U'.heap L ∧ FrameEnd U o U' L ({ frames := 2, cells := 0, slots := 0, locals := 27 } : Room).cells ({ frames := 2, cells := 0, slots := 0, locals := 27 } : Room).slots) := by
  refine MetFree.of_bodySF (plainFor_of_name pn_java_util_ArrayList) hisR ?_
  intro p e s m args below meth c s₁ Bd hml0 hP hK
  obtain ⟨rfl, hZ, hh⟩ := hP
  have hx := Bd.exec
  have hby := Bd.bytes
  have hml : c.maxLocals = 2 := hml0
  have hown : s.vm.findClass "java/util/ArrayList" = some m.cls := findClass_of_methodNamed Bd.named
  have hnm := (name_of_methodNamed Bd.named Bd.method).1
  have X0 : Stand p l e ({ frames := 2, cells := 0, slots := 0, locals := 27 } : Room) s m #[(.ref a1), (.int (0 : Int32))] below meth c s₁ [] 0 0 := Stand.of_body Bd
  have e0 : s₁.heap = h0 := by rw [← hh, Bd.state]; rfl
  have N0 := Fr.nil n0
  have pre0 : ∀ t, Steps p.tables e below (s₁.setTop (mkF m 0 #[.val (.ref a1), .val (.int (0 : Int32))] [])) t → Steps p.tables e below (s₁.setTop (entryFrame m #[(.ref a1), (.int (0 : Int32))] 2)) t := fun t k => castTop (ef_rmGet m a1) k
  obtain ⟨T101, X101, e101, st101⟩ := getF X0 hx hZ hown (host := "") (Or.inl (own_i hw 97 rfl)) Via.refl e0 Z1 (g := (mkF m 2 #[.val (.ref a1), .val (.int (0 : Int32))] [(.ref a1), (.int (0 : Int32))])) rfl rfl (hb hby d18_2)
  obtain ⟨_, _, ⟨T102, L102, k102, n102⟩, -, X102, ⟨Lc102, hQ102, l102, y102, z102⟩, st102⟩ := Jvm.LawKit.callS X101 hx (y := (⟨"java/util/Objects", "checkIndex", "(II)I"⟩ : MethodName)) hown (mvT hZ (own_i hw 141 rfl)) (mvT hZ (own_i hw 142 rfl)) (mvT hZ (own_i hw 143 rfl)) (mvT hZ (own_i hw 144 rfl)) (by decide) (backOf (W := 0) (rmCi l Z a0 hw []  h0 n0 Z0 ) hZ (own_i hw 144 rfl) (own_i hw 143 rfl) (by decide) (by decide)) (g := (mkF m 5 #[.val (.ref a1), .val (.int (0 : Int32))] [(.int (1 : Int32)), (.int (0 : Int32))])) rfl (by rw [hml]; rfl) (argsL := [(.int (0 : Int32)), (.int (1 : Int32))]) (rest := []) (lenOf pd_1 rfl) rfl (by show 2 * 0 + _ ≤ _; exact Nat.le_of_eq rfl) (hb hby d18_5) (fun _ _ => ⟨rfl, e101, (by decide : 0 + 0 ≤ _), (by decide : 0 + 0 ≤ _)⟩)
  dsimp only [Pt.U, Pt.locs, Pt.cells, Pt.slots] at X102 l102 y102 z102 st102 hQ102
  subst l102 y102 z102
  obtain ⟨rfl, N102q, e102⟩ := hQ102
  have N102 := Fr.app N0 N102q
  obtain ⟨cq103, kq103, q103a, q103b, q103c⟩ := isOf hZ e102 E1
  obtain ⟨_, _, ⟨T103, L103, k103, n103⟩, -, X103, ⟨Lc103, hQ103, l103, y103, z103⟩, st103⟩ := X102.virtualBack hx (y := (⟨"java/util/ArrayList", "elementData", "(I)Ljava/lang/Object;"⟩ : MethodName)) (z := (⟨"java/util/ArrayList", "elementData", "(I)Ljava/lang/Object;"⟩ : MethodName)) hown (mvT hZ (own_i hw 149 rfl)) (mvT hZ (own_i hw 150 rfl)) (notFace_of_selects (args := #[]) (mvT hZ (own_i hw 152 rfl))) (mvT hZ (own_i hw 152 rfl)) (mvT hZ (own_i hw 151 rfl)) (by decide) (backOf (W := 0) (rmEd l Z a0 hw [] a1 b kb r h0 n0 Z0 D1 V1) hZ (own_i hw 153 rfl) (own_i hw 7 rfl) (by decide) (by decide)) q103a q103c (g := (mkF m 11 #[.val (.ref a1), .val (.int (0 : Int32))] [(.int (0 : Int32)), (.ref a1)])) rfl (by rw [hml]; rfl) (Steps.refl _) (argsL := [(.int (0 : Int32))]) (rest := []) (lenOf pd_9 rfl) rfl (by show 2 * 0 + _ ≤ _; exact Nat.le_of_eq rfl) (hb hby d18_11) (fun _ _ => ⟨rfl, e102, (by decide : 0 + 0 ≤ _), (by decide : 0 + 0 ≤ _)⟩)
  dsimp only [Pt.U, Pt.locs, Pt.cells, Pt.slots] at X103 l103 y103 z103 st103 hQ103
  subst l103 y103 z103
  obtain ⟨rfl, N103q, e103⟩ := hQ103
  have N103 := Fr.app N102 N103q
  have pre104 : ∀ t, Steps p.tables e below (T103.setTop (mkF m 14 #[.val (.ref a1), .val (.int (0 : Int32))] [(.ref r)])) t → Steps p.tables e below (s₁.setTop (entryFrame m #[(.ref a1), (.int (0 : Int32))] 2)) t := fun t k => pre0 t (by
    show Steps p.tables e below (s₁.setTop (mkF m 0 #[.val (.ref a1), .val (.int (0 : Int32))] [])) t
    refine XS.iloadN X0.here hx rfl (hb hby d18_0) rfl ?_
    show Steps p.tables e below (s₁.setTop (mkF m 1 #[.val (.ref a1), .val (.int (0 : Int32))] [(.int (0 : Int32))])) t
    refine XS.aloadN X0.here hx rfl (hb hby d18_1) rfl rfl ?_
    show Steps p.tables e below (s₁.setTop (mkF m 2 #[.val (.ref a1), .val (.int (0 : Int32))] [(.ref a1), (.int (0 : Int32))])) t
    refine st101 _ ?_
    show Steps p.tables e below (T101.setTop (mkF m 5 #[.val (.ref a1), .val (.int (0 : Int32))] [(.int (1 : Int32)), (.int (0 : Int32))])) t
    refine st102 _ ?_
    show Steps p.tables e below (T102.setTop (mkF m 8 #[.val (.ref a1), .val (.int (0 : Int32))] [(.int (0 : Int32))])) t
    refine XS.pop X102.here hx rfl (hb hby d18_8) rfl rfl ?_
    show Steps p.tables e below (T102.setTop (mkF m 9 #[.val (.ref a1), .val (.int (0 : Int32))] [])) t
    refine XS.aloadN X102.here hx rfl (hb hby d18_9) rfl rfl ?_
    show Steps p.tables e below (T102.setTop (mkF m 10 #[.val (.ref a1), .val (.int (0 : Int32))] [(.ref a1)])) t
    refine XS.iloadN X102.here hx rfl (hb hby d18_10) rfl ?_
    show Steps p.tables e below (T102.setTop (mkF m 11 #[.val (.ref a1), .val (.int (0 : Int32))] [(.int (0 : Int32)), (.ref a1)])) t
    refine st103.trans ?_
    exact k)
  obtain ⟨fs, hr, hrun, hended, hW, hsame⟩ := X103.leave (v := some (.ref r)) (fun h => by rw [Bd.returns] at h; cases h)
  refine ⟨_, _, pre104 _ ?_, hrun, hended, _, _, rfl, ?_, ⟨_, rfl⟩, hW, hsame.mono (by decide) (by decide)⟩
  · exact retOut X103 hx Bd.returns rfl (Or.inr (Or.inr (Or.inr (Or.inr ⟨rfl, rfl, rfl⟩)))) (hb hby d18_14) hr
  · show QGet Z a1 b kb r h0 n0 _ T103.heap _
    rw [e103]
    exact ⟨rfl, N103, rfl⟩
theorem pn_com_example_lumenward_lumenward_planner_Objective : plainName "com/example/lumenward/lumenward/planner/Objective" = true := by first | (simp [plainName, overriddenIn]; done) | decide +kernel
theorem ef_rmO0 (m : MethodId) (x0 : Addr) (x1 : Addr) : entryFrame m #[(.ref x0), (.ref x1)] 8 = mkF m 0 #[.val (.ref x0), .val (.ref x1), .unset, .unset, .unset, .unset, .unset, .unset] [] := by first | (simp [entryFrame, mkF, argsToLocals, Value.category]; done) | rfl
def QO0 (Z : State) (a1 : Addr) (a2 : Addr) (h0 : Heap) (n0 : Nat) (v : Option Value) (h : Heap) (L : List Loc) : Prop := v = none ∧ Fr n0 L ∧ Keep h0 h [a1] ∧ (Exa Z h a1 "com/example/lumenward/lumenward/planner/Objective") ∧ (Fld Z h a1 "com/example/lumenward/lumenward/planner/Objective" "attackWeight" "J" (.long (0 : Int64))) ∧ (Fld Z h a1 "com/example/lumenward/lumenward/planner/Objective" "fmaxWeight" "J" (.long (1 : Int64)))
set_option maxRecDepth 65536 in
set_option maxHeartbeats 40000000 in
theorem rmO0 (l : Launch) (Z : State) (a0 : Array Value) (hw : ∀ d ∈ tables_1, d.before a0 Z = true) (ws : List Jvm.Cond) (a1 : Addr) (a2 : Addr) (h0 : Heap) (n0 : Nat) (Z0 : n0 ≤ h0.size) (A1 : Fld Z h0 a1 "com/example/lumenward/lumenward/planner/Objective" "attackWeight" "J" (.long (0 : Int64))) (B1 : Fld Z h0 a1 "com/example/lumenward/lumenward/planner/Objective" "fmaxWeight" "J" (.long (0 : Int64))) (E1 : Exa Z h0 a1 "com/example/lumenward/lumenward/planner/Objective") (g1 : n0 ≤ a1) (E2 : Exa Z h0 a2 "java/util/ArrayList") (ne : a1 ≠ a2) (Z2 : Fld Z h0 a2 "java/util/ArrayList" "size" "I" (.int (0 : Int32))) :
    MetFree l (⟨"com/example/lumenward/lumenward/planner/Objective", "<init>", "(Ljava/util/List;)V"⟩ : MethodName) (head1 (Jvm.Cond.code (⟨"com/example/lumenward/lumenward/planner/Objective", "<init>", "(Ljava/util/List;)V"⟩ : MethodName) prog_44_method_1_code 8 none :: ws) ({ frames := 1, cells := 0, slots := 0, locals := 13 } : Room)) (fun a U => a = #[(.ref a1), (.ref a2)] ∧ Z.Warmed39 U.vm ∧ U.heap = h0) (fun _ _ _ _ _ => True) (fun _ U o U' => ∃ v L, o = .returned v ∧ QO0 Z a1 a2 h0 n0 v U'.heap L ∧ FrameEnd U o U' L ({ frames := 1, cells := 0, slots := 0, locals := 13 } : Room).cells ({ frames := 1, cells := 0, slots := 0, locals := 13 } : Room).slots) := by
  refine MetFree.of_bodySF (plainFor_of_name pn_com_example_lumenward_lumenward_planner_Objective) hisR ?_
  intro p e s m args below meth c s₁ Bd hml0 hP hK
  obtain ⟨rfl, hZ, hh⟩ := hP
  have hx := Bd.exec
  have hby := Bd.bytes
  have hml : c.maxLocals = 8 := hml0
  have hown : s.vm.findClass "com/example/lumenward/lumenward/planner/Objective" = some m.cls := findClass_of_methodNamed Bd.named
  have hnm := (name_of_methodNamed Bd.named Bd.method).1
  have X0 : Stand p l e ({ frames := 1, cells := 0, slots := 0, locals := 13 } : Room) s m #[(.ref a1), (.ref a2)] below meth c s₁ [] 0 0 := Stand.of_body Bd
  have e0 : s₁.heap = h0 := by rw [← hh, Bd.state]; rfl
  have N0 := Fr.nil n0
  have pre0 : ∀ t, Steps p.tables e below (s₁.setTop (mkF m 0 #[.val (.ref a1), .val (.ref a2), .unset, .unset, .unset, .unset, .unset, .unset] [])) t → Steps p.tables e below (s₁.setTop (entryFrame m #[(.ref a1), (.ref a2)] 8)) t := fun t k => castTop (ef_rmO0 m a1 a2) k
  have f101 := Keep.refl h0 [a1]
  obtain ⟨T102, X102, e102, st102⟩ := initO X0 hx hZ hown (own_i hw 124 rfl) (own_i hw 24 rfl) (own_i hw 25 rfl) e0 (g := (mkF m 1 #[.val (.ref a1), .val (.ref a2), .unset, .unset, .unset, .unset, .unset, .unset] [(.ref a1)])) rfl (by rw [hml]; rfl) rfl (hb hby d16_1) (by decide) (W := 0) (by show 2 * 0 + _ ≤ _; exact Nat.le_of_eq rfl) (by decide)
  obtain ⟨cq103, kq103, q103a, q103b, q103c⟩ := isOf hZ e102 E2
  obtain ⟨_, _, ⟨T103, L103, k103, n103⟩, -, X103, ⟨Lc103, hQ103, l103, y103, z103⟩, st103⟩ := X102.interfaceBack hx (xi := (⟨"java/util/List", "size", "()I"⟩ : MethodName)) (y := (⟨"java/util/ArrayList", "size", "()I"⟩ : MethodName)) hown (mvT hZ (own_i hw 125 rfl)) (mvT hZ (own_i hw 126 rfl)) (mvT hZ (own_i hw 127 rfl)) (mvT hZ (own_i hw 128 rfl)) (mvT hZ (own_i hw 129 rfl)) (mvT hZ (own_i hw 130 rfl)) (mvT hZ (own_i hw 131 rfl)) (mvT hZ (own_i hw 93 rfl)) (by decide) (backOf (W := 1) (rmSz l Z a0 hw [] a2 (0 : Int32) h0 n0 Z0 Z2) hZ (own_i hw 132 rfl) (own_i hw 7 rfl) (by decide) (by decide)) q103a q103b q103c (g := (mkF m 15 #[.val (.ref a1), .val (.ref a2), .val (.long (0 : Int64)), .second, .val (.long (0 : Int64)), .second, .val (.int (0 : Int32)), .unset] [(.ref a2), (.int (0 : Int32))])) rfl (by rw [hml]; rfl) (Steps.refl _) (argsL := []) (rest := [(.int (0 : Int32))]) (lenOf pd_7 rfl) rfl (by show 2 * 0 + _ ≤ _; exact Nat.le_of_eq rfl) (hb hby d16_15) (fun _ _ => ⟨rfl, e102, (by decide : 0 + 0 ≤ _), (by decide : 0 + 0 ≤ _)⟩)
  dsimp only [Pt.U, Pt.locs, Pt.cells, Pt.slots] at X103 l103 y103 z103 st103 hQ103
  subst l103 y103 z103
  obtain ⟨rfl, N103q, e103⟩ := hQ103
  have N103 := Fr.app N0 N103q
  obtain ⟨T104, h104, X104, e104, W104, st104⟩ := putF X103 hx hZ hown (host := "") (Or.inl (own_i hw 161 rfl)) Via.refl e103 A1 E1 (Or.inr ⟨(own_i hw 162 rfl), rfl, hnm⟩) (own_i hw 119 rfl) (ty := .long) (by decide) rfl rfl (g := (mkF m 106 #[.val (.ref a1), .val (.ref a2), .val (.long (0 : Int64)), .second, .val (.long (0 : Int64)), .second, .val (.int (0 : Int32)), .unset] [(.long (0 : Int64)), (.ref a1)])) rfl rfl (hb hby d16_106)
  have Fw104 := A1.same W104
  have N104 := Fr.snoc X104 N103 g1
  have f105 := Nat.le_trans Z0 (Keep.of_wr W104).1
  have f106 := B1.other W104 (Or.inr (slot_ne (Or.inr (own_i hw 164 rfl)) (Or.inr (own_i hw 162 rfl)) (by decide) (t := .long) (t' := .long) (by decide) (by decide)))
  have f107 := E1.wr W104
  have f108 := E2.wr W104
  have f109 := Z2.other W104 (Or.inl (Ne.symm ne))
  have f110 := f101.wr W104 (Or.inl (List.mem_of_getElem? (i := 0) rfl))
  obtain ⟨T111, h111, X111, e111, W111, st111⟩ := putF X104 hx hZ hown (host := "") (Or.inl (own_i hw 163 rfl)) Via.refl e104 f106 f107 (Or.inr ⟨(own_i hw 164 rfl), rfl, hnm⟩) (own_i hw 119 rfl) (ty := .long) (by decide) rfl rfl (g := (mkF m 125 #[.val (.ref a1), .val (.ref a2), .val (.long (0 : Int64)), .second, .val (.long (0 : Int64)), .second, .val (.int (0 : Int32)), .unset] [(.long (1 : Int64)), (.ref a1)])) rfl rfl (hb hby d16_125)
  have Fw111 := f106.same W111
  have N111 := Fr.snoc X111 N104 g1
  have f112 := Nat.le_trans f105 (Keep.of_wr W111).1
  have f113 := f107.wr W111
  have f114 := f108.wr W111
  have f115 := f109.other W111 (Or.inl (Ne.symm ne))
  have f116 := f110.wr W111 (Or.inl (List.mem_of_getElem? (i := 0) rfl))
  have f117 := Fw104.other W111 (Or.inr (slot_ne (Or.inr (own_i hw 162 rfl)) (Or.inr (own_i hw 164 rfl)) (by decide) (t := .long) (t' := .long) (by decide) (by decide)))
  have pre118 : ∀ t, Steps p.tables e below (T111.setTop (mkF m 128 #[.val (.ref a1), .val (.ref a2), .val (.long (0 : Int64)), .second, .val (.long (0 : Int64)), .second, .val (.int (0 : Int32)), .unset] [])) t → Steps p.tables e below (s₁.setTop (entryFrame m #[(.ref a1), (.ref a2)] 8)) t := fun t k => pre0 t (by
    show Steps p.tables e below (s₁.setTop (mkF m 0 #[.val (.ref a1), .val (.ref a2), .unset, .unset, .unset, .unset, .unset, .unset] [])) t
    refine XS.aloadN X0.here hx rfl (hb hby d16_0) rfl rfl ?_
    show Steps p.tables e below (s₁.setTop (mkF m 1 #[.val (.ref a1), .val (.ref a2), .unset, .unset, .unset, .unset, .unset, .unset] [(.ref a1)])) t
    refine st102 _ ?_
    show Steps p.tables e below (T102.setTop (mkF m 4 #[.val (.ref a1), .val (.ref a2), .unset, .unset, .unset, .unset, .unset, .unset] [])) t
    refine XS.lconst X102.here hx rfl (hb hby d16_4) ?_
    show Steps p.tables e below (T102.setTop (mkF m 5 #[.val (.ref a1), .val (.ref a2), .unset, .unset, .unset, .unset, .unset, .unset] [(.long (0 : Int64))])) t
    refine XS.lstoreN X102.here hx rfl (hb hby d16_5) rfl (l' := #[.val (.ref a1), .val (.ref a2), .val (.long (0 : Int64)), .second, .unset, .unset, .unset, .unset]) rfl ?_
    show Steps p.tables e below (T102.setTop (mkF m 6 #[.val (.ref a1), .val (.ref a2), .val (.long (0 : Int64)), .second, .unset, .unset, .unset, .unset] [])) t
    refine XS.lconst X102.here hx rfl (hb hby d16_6) ?_
    show Steps p.tables e below (T102.setTop (mkF m 7 #[.val (.ref a1), .val (.ref a2), .val (.long (0 : Int64)), .second, .unset, .unset, .unset, .unset] [(.long (0 : Int64))])) t
    refine XS.lstore X102.here hx rfl (hb hby d16_7) rfl (l' := #[.val (.ref a1), .val (.ref a2), .val (.long (0 : Int64)), .second, .val (.long (0 : Int64)), .second, .unset, .unset]) rfl ?_
    show Steps p.tables e below (T102.setTop (mkF m 9 #[.val (.ref a1), .val (.ref a2), .val (.long (0 : Int64)), .second, .val (.long (0 : Int64)), .second, .unset, .unset] [])) t
    refine XS.iconst X102.here hx rfl (hb hby d16_9) ?_
    show Steps p.tables e below (T102.setTop (mkF m 10 #[.val (.ref a1), .val (.ref a2), .val (.long (0 : Int64)), .second, .val (.long (0 : Int64)), .second, .unset, .unset] [(.int (0 : Int32))])) t
    refine XS.istore X102.here hx rfl (hb hby d16_10) rfl (l' := #[.val (.ref a1), .val (.ref a2), .val (.long (0 : Int64)), .second, .val (.long (0 : Int64)), .second, .val (.int (0 : Int32)), .unset]) rfl ?_
    show Steps p.tables e below (T102.setTop (mkF m 12 #[.val (.ref a1), .val (.ref a2), .val (.long (0 : Int64)), .second, .val (.long (0 : Int64)), .second, .val (.int (0 : Int32)), .unset] [])) t
    refine XS.iload X102.here hx rfl (hb hby d16_12) rfl ?_
    show Steps p.tables e below (T102.setTop (mkF m 14 #[.val (.ref a1), .val (.ref a2), .val (.long (0 : Int64)), .second, .val (.long (0 : Int64)), .second, .val (.int (0 : Int32)), .unset] [(.int (0 : Int32))])) t
    refine XS.aloadN X102.here hx rfl (hb hby d16_14) rfl rfl ?_
    show Steps p.tables e below (T102.setTop (mkF m 15 #[.val (.ref a1), .val (.ref a2), .val (.long (0 : Int64)), .second, .val (.long (0 : Int64)), .second, .val (.int (0 : Int32)), .unset] [(.ref a2), (.int (0 : Int32))])) t
    refine st103.trans ?_
    show Steps p.tables e below (T103.setTop (mkF m 20 #[.val (.ref a1), .val (.ref a2), .val (.long (0 : Int64)), .second, .val (.long (0 : Int64)), .second, .val (.int (0 : Int32)), .unset] [(.int (0 : Int32)), (.int (0 : Int32))])) t
    refine XS.icmpYes X103.here hx rfl (pc0 := 20) (pc' := 103) rfl (hb hby d16_20) rfl (flt (by decide : ¬ ((0 : Int32) < (0 : Int32)))).2.1 (by decide) (by decide) ?_
    show Steps p.tables e below (T103.setTop (mkF m 103 #[.val (.ref a1), .val (.ref a2), .val (.long (0 : Int64)), .second, .val (.long (0 : Int64)), .second, .val (.int (0 : Int32)), .unset] [])) t
    refine XS.aloadN X103.here hx rfl (hb hby d16_103) rfl rfl ?_
    show Steps p.tables e below (T103.setTop (mkF m 104 #[.val (.ref a1), .val (.ref a2), .val (.long (0 : Int64)), .second, .val (.long (0 : Int64)), .second, .val (.int (0 : Int32)), .unset] [(.ref a1)])) t
    refine XS.lload X103.here hx rfl (hb hby d16_104) rfl ?_
    show Steps p.tables e below (T103.setTop (mkF m 106 #[.val (.ref a1), .val (.ref a2), .val (.long (0 : Int64)), .second, .val (.long (0 : Int64)), .second, .val (.int (0 : Int32)), .unset] [(.long (0 : Int64)), (.ref a1)])) t
    refine st104 _ ?_
    show Steps p.tables e below (T104.setTop (mkF m 109 #[.val (.ref a1), .val (.ref a2), .val (.long (0 : Int64)), .second, .val (.long (0 : Int64)), .second, .val (.int (0 : Int32)), .unset] [])) t
    refine XS.aloadN X104.here hx rfl (hb hby d16_109) rfl rfl ?_
    show Steps p.tables e below (T104.setTop (mkF m 110 #[.val (.ref a1), .val (.ref a2), .val (.long (0 : Int64)), .second, .val (.long (0 : Int64)), .second, .val (.int (0 : Int32)), .unset] [(.ref a1)])) t
    refine XS.lloadN X104.here hx rfl (hb hby d16_110) rfl ?_
    show Steps p.tables e below (T104.setTop (mkF m 111 #[.val (.ref a1), .val (.ref a2), .val (.long (0 : Int64)), .second, .val (.long (0 : Int64)), .second, .val (.int (0 : Int32)), .unset] [(.long (0 : Int64)), (.ref a1)])) t
    refine XS.lconst X104.here hx rfl (hb hby d16_111) ?_
    show Steps p.tables e below (T104.setTop (mkF m 112 #[.val (.ref a1), .val (.ref a2), .val (.long (0 : Int64)), .second, .val (.long (0 : Int64)), .second, .val (.int (0 : Int32)), .unset] [(.long (0 : Int64)), (.long (0 : Int64)), (.ref a1)])) t
    refine XS.lcmp X104.here hx rfl (hb hby d16_112) rfl ?_
    show Steps p.tables e below (T104.setTop (mkF m 113 #[.val (.ref a1), .val (.ref a2), .val (.long (0 : Int64)), .second, .val (.long (0 : Int64)), .second, .val (.int (0 : Int32)), .unset] [(.int (lcmpW (0 : Int64) (0 : Int64))), (.ref a1)])) t
    refine XS.ifNo X104.here hx rfl (hb hby d16_113) rfl ((if0 _ _).trans (teq (show (lcmpW (0 : Int64) (0 : Int64)) = (0 : Int32) by rw [lcW]; exact (lc_eq _ _).mpr (by decide : (0 : Int64) = (0 : Int64)))).2) ?_
    show Steps p.tables e below (T104.setTop (mkF m 116 #[.val (.ref a1), .val (.ref a2), .val (.long (0 : Int64)), .second, .val (.long (0 : Int64)), .second, .val (.int (0 : Int32)), .unset] [(.ref a1)])) t
    refine XS.lconst X104.here hx rfl (hb hby d16_116) ?_
    show Steps p.tables e below (T104.setTop (mkF m 117 #[.val (.ref a1), .val (.ref a2), .val (.long (0 : Int64)), .second, .val (.long (0 : Int64)), .second, .val (.int (0 : Int32)), .unset] [(.long (1 : Int64)), (.ref a1)])) t
    refine XS.goto X104.here hx rfl (pc0 := 117) (pc' := 125) rfl (hb hby d16_117) (by decide) (by decide) ?_
    show Steps p.tables e below (T104.setTop (mkF m 125 #[.val (.ref a1), .val (.ref a2), .val (.long (0 : Int64)), .second, .val (.long (0 : Int64)), .second, .val (.int (0 : Int32)), .unset] [(.long (1 : Int64)), (.ref a1)])) t
    refine st111 _ ?_
    exact k)
  obtain ⟨fs, hr, hrun, hended, hW, hsame⟩ := X111.leave (v := none) (fun _ => rfl)
  refine ⟨_, _, pre118 _ ?_, hrun, hended, _, _, rfl, ?_, ⟨_, rfl⟩, hW, hsame.mono (by decide) (by decide)⟩
  · exact X111.returnOut hx Bd.returns (hb hby d16_128) hr
  · show QO0 Z a1 a2 h0 n0 _ T111.heap _
    rw [e111]
    exact ⟨rfl, N111, f116, f113, f117, Fw111⟩
theorem ef_rmO1 (m : MethodId) (x0 : Addr) (x1 : Addr) : entryFrame m #[(.ref x0), (.ref x1)] 8 = mkF m 0 #[.val (.ref x0), .val (.ref x1), .unset, .unset, .unset, .unset, .unset, .unset] [] := by first | (simp [entryFrame, mkF, argsToLocals, Value.category]; done) | rfl
def QO1 (Z : State) (a1 : Addr) (a2 : Addr) (b : Addr) (kb : ClassId) (r : Addr) (w : Int32) (h0 : Heap) (n0 : Nat) (v : Option Value) (h : Heap) (L : List Loc) : Prop := v = none ∧ Fr n0 L ∧ Keep h0 h [a1] ∧ (Exa Z h a1 "com/example/lumenward/lumenward/planner/Objective") ∧ (Fld Z h a1 "com/example/lumenward/lumenward/planner/Objective" "attackWeight" "J" (.long ((0 : Int64) + (w.toInt64)))) ∧ (Fld Z h a1 "com/example/lumenward/lumenward/planner/Objective" "fmaxWeight" "J" (.long (1 : Int64)))
set_option maxRecDepth 65536 in
set_option maxHeartbeats 40000000 in
theorem rmO1 (l : Launch) (Z : State) (a0 : Array Value) (hw : ∀ d ∈ tables_1, d.before a0 Z = true) (ws : List Jvm.Cond) (a1 : Addr) (a2 : Addr) (b : Addr) (kb : ClassId) (r : Addr) (w : Int32) (h0 : Heap) (n0 : Nat) (Z0 : n0 ≤ h0.size) (A1 : Fld Z h0 a1 "com/example/lumenward/lumenward/planner/Objective" "attackWeight" "J" (.long (0 : Int64))) (B1 : Fld Z h0 a1 "com/example/lumenward/lumenward/planner/Objective" "fmaxWeight" "J" (.long (0 : Int64))) (E1 : Exa Z h0 a1 "com/example/lumenward/lumenward/planner/Objective") (g1 : n0 ≤ a1) (E2 : Exa Z h0 a2 "java/util/ArrayList") (ne : a1 ≠ a2) (Z2 : Fld Z h0 a2 "java/util/ArrayList" "size" "I" (.int (1 : Int32))) (D2 : Fld Z h0 a2 "java/util/ArrayList" "elementData" "[Ljava/lang/Object;" (.ref b)) (V2 : Arv Z h0 b kb (.object "java/lang/Object") (10 : Int32) [(.ref r), .null, .null, .null, .null, .null, .null, .null, .null, .null] .null) (ER : Exa Z h0 r "com/example/lumenward/lumenward/model/Request") (FR : Fld Z h0 r "com/example/lumenward/lumenward/model/Request" "slots" "I" (.int w)) :
    MetFree l (⟨"com/example/lumenward/lumenward/planner/Objective", "<init>", "(Ljava/util/List;)V"⟩ : MethodName) (head1 (Jvm.Cond.code (⟨"com/example/lumenward/lumenward/planner/Objective", "<init>", "(Ljava/util/List;)V"⟩ : MethodName) prog_44_method_1_code 8 none :: ws) ({ frames := 3, cells := 0, slots := 0, locals := 42 } : Room)) (fun a U => a = #[(.ref a1), (.ref a2)] ∧ Z.Warmed39 U.vm ∧ U.heap = h0) (fun _ _ _ _ _ => True) (fun _ U o U' => ∃ v L, o = .returned v ∧ QO1 Z a1 a2 b kb r w h0 n0 v U'.heap L ∧ FrameEnd U o U' L ({ frames := 3, cells := 0, slots := 0, locals := 42 } : Room).cells ({ frames := 3, cells := 0, slots := 0, locals := 42 } : Room).slots) := by
  refine MetFree.of_bodySF (plainFor_of_name pn_com_example_lumenward_lumenward_planner_Objective) hisR ?_
  intro p e s m args below meth c s₁ Bd hml0 hP hK
  obtain ⟨rfl, hZ, hh⟩ := hP
  have hx := Bd.exec
  have hby := Bd.bytes
  have hml : c.maxLocals = 8 := hml0
  have hown : s.vm.findClass "com/example/lumenward/lumenward/planner/Objective" = some m.cls := findClass_of_methodNamed Bd.named
  have hnm := (name_of_methodNamed Bd.named Bd.method).1
  have X0 : Stand p l e ({ frames := 3, cells := 0, slots := 0, locals := 42 } : Room) s m #[(.ref a1), (.ref a2)] below meth c s₁ [] 0 0 := Stand.of_body Bd
  have e0 : s₁.heap = h0 := by rw [← hh, Bd.state]; rfl
  have N0 := Fr.nil n0
  have pre0 : ∀ t, Steps p.tables e below (s₁.setTop (mkF m 0 #[.val (.ref a1), .val (.ref a2), .unset, .unset, .unset, .unset, .unset, .unset] [])) t → Steps p.tables e below (s₁.setTop (entryFrame m #[(.ref a1), (.ref a2)] 8)) t := fun t k => castTop (ef_rmO1 m a1 a2) k
  have f101 := Keep.refl h0 [a1]
  obtain ⟨T102, X102, e102, st102⟩ := initO X0 hx hZ hown (own_i hw 124 rfl) (own_i hw 24 rfl) (own_i hw 25 rfl) e0 (g := (mkF m 1 #[.val (.ref a1), .val (.ref a2), .unset, .unset, .unset, .unset, .unset, .unset] [(.ref a1)])) rfl (by rw [hml]; rfl) rfl (hb hby d16_1) (by decide) (W := 0) (by show 2 * 0 + _ ≤ _; exact Nat.le_of_eq rfl) (by decide)
  obtain ⟨cq103, kq103, q103a, q103b, q103c⟩ := isOf hZ e102 E2
  obtain ⟨_, _, ⟨T103, L103, k103, n103⟩, -, X103, ⟨Lc103, hQ103, l103, y103, z103⟩, st103⟩ := X102.interfaceBack hx (xi := (⟨"java/util/List", "size", "()I"⟩ : MethodName)) (y := (⟨"java/util/ArrayList", "size", "()I"⟩ : MethodName)) hown (mvT hZ (own_i hw 125 rfl)) (mvT hZ (own_i hw 126 rfl)) (mvT hZ (own_i hw 127 rfl)) (mvT hZ (own_i hw 128 rfl)) (mvT hZ (own_i hw 129 rfl)) (mvT hZ (own_i hw 130 rfl)) (mvT hZ (own_i hw 131 rfl)) (mvT hZ (own_i hw 93 rfl)) (by decide) (backOf (W := 1) (rmSz l Z a0 hw [] a2 (1 : Int32) h0 n0 Z0 Z2) hZ (own_i hw 132 rfl) (own_i hw 7 rfl) (by decide) (by decide)) q103a q103b q103c (g := (mkF m 15 #[.val (.ref a1), .val (.ref a2), .val (.long (0 : Int64)), .second, .val (.long (0 : Int64)), .second, .val (.int (0 : Int32)), .unset] [(.ref a2), (.int (0 : Int32))])) rfl (by rw [hml]; rfl) (Steps.refl _) (argsL := []) (rest := [(.int (0 : Int32))]) (lenOf pd_7 rfl) rfl (by show 2 * 0 + _ ≤ _; exact Nat.le_of_eq rfl) (hb hby d16_15) (fun _ _ => ⟨rfl, e102, (by decide : 0 + 0 ≤ _), (by decide : 0 + 0 ≤ _)⟩)
  dsimp only [Pt.U, Pt.locs, Pt.cells, Pt.slots] at X103 l103 y103 z103 st103 hQ103
  subst l103 y103 z103
  obtain ⟨rfl, N103q, e103⟩ := hQ103
  have N103 := Fr.app N0 N103q
  obtain ⟨cq104, kq104, q104a, q104b, q104c⟩ := isOf hZ e103 E2
  obtain ⟨_, _, ⟨T104, L104, k104, n104⟩, -, X104, ⟨Lc104, hQ104, l104, y104, z104⟩, st104⟩ := X103.interfaceBack hx (xi := (⟨"java/util/List", "get", "(I)Ljava/lang/Object;"⟩ : MethodName)) (y := (⟨"java/util/ArrayList", "get", "(I)Ljava/lang/Object;"⟩ : MethodName)) hown (mvT hZ (own_i hw 133 rfl)) (mvT hZ (own_i hw 134 rfl)) (mvT hZ (own_i hw 135 rfl)) (mvT hZ (own_i hw 136 rfl)) (mvT hZ (own_i hw 137 rfl)) (mvT hZ (own_i hw 138 rfl)) (mvT hZ (own_i hw 139 rfl)) (mvT hZ (own_i hw 93 rfl)) (by decide) (backOf (W := 2) (rmGet l Z a0 hw [] a2 b kb r h0 n0 Z0 Z2 E2 D2 V2) hZ (own_i hw 140 rfl) (own_i hw 7 rfl) (by decide) (by decide)) q104a q104b q104c (g := (mkF m 28 #[.val (.ref a1), .val (.ref a2), .val (.long (0 : Int64)), .second, .val (.long (0 : Int64)), .second, .val (.int (0 : Int32)), .unset] [(.int (0 : Int32)), (.ref a2), (.long (0 : Int64))])) rfl (by rw [hml]; rfl) (Steps.refl _) (argsL := [(.int (0 : Int32))]) (rest := [(.long (0 : Int64))]) (lenOf pd_9 rfl) rfl (by show 2 * 0 + _ ≤ _; exact Nat.le_of_eq rfl) (hb hby d16_28) (fun _ _ => ⟨rfl, e103, (by decide : 0 + 0 ≤ _), (by decide : 0 + 0 ≤ _)⟩)
  dsimp only [Pt.U, Pt.locs, Pt.cells, Pt.slots] at X104 l104 y104 z104 st104 hQ104
  subst l104 y104 z104
  obtain ⟨rfl, N104q, e104⟩ := hQ104
  have N104 := Fr.app N103 N104q
  obtain ⟨T105, X105, e105, st105⟩ := castY X104 hx hZ hown (own_i hw 154 rfl) e104 (Ins.self ER) (g := (mkF m 33 #[.val (.ref a1), .val (.ref a2), .val (.long (0 : Int64)), .second, .val (.long (0 : Int64)), .second, .val (.int (0 : Int32)), .unset] [(.ref r), (.long (0 : Int64))])) rfl rfl (hb hby d16_33)
  obtain ⟨cq106, kq106, q106a, q106b, q106c⟩ := isOf hZ e105 ER
  obtain ⟨_, _, ⟨T106, L106, k106, n106⟩, -, X106, ⟨Lc106, hQ106, l106, y106, z106⟩, st106⟩ := X105.virtualBack hx (y := (⟨"com/example/lumenward/lumenward/model/Request", "getSlots", "()I"⟩ : MethodName)) (z := (⟨"com/example/lumenward/lumenward/model/Request", "getSlots", "()I"⟩ : MethodName)) hown (mvT hZ (own_i hw 156 rfl)) (mvT hZ (own_i hw 157 rfl)) (notFace_of_selects (args := #[]) (mvT hZ (own_i hw 159 rfl))) (mvT hZ (own_i hw 159 rfl)) (mvT hZ (own_i hw 158 rfl)) (by decide) (backOf (W := 2) (rmSl l Z a0 hw [] r w h0 n0 Z0 FR) hZ (own_i hw 160 rfl) (own_i hw 33 rfl) (by decide) (by decide)) q106a q106c (g := (mkF m 36 #[.val (.ref a1), .val (.ref a2), .val (.long (0 : Int64)), .second, .val (.long (0 : Int64)), .second, .val (.int (0 : Int32)), .unset] [(.ref r), (.long (0 : Int64))])) rfl (by rw [hml]; rfl) (Steps.refl _) (argsL := []) (rest := [(.long (0 : Int64))]) (lenOf pd_7 rfl) rfl (by show 2 * 0 + _ ≤ _; exact Nat.le_of_eq rfl) (hb hby d16_36) (fun _ _ => ⟨rfl, e105, (by decide : 0 + 0 ≤ _), (by decide : 0 + 0 ≤ _)⟩)
  dsimp only [Pt.U, Pt.locs, Pt.cells, Pt.slots] at X106 l106 y106 z106 st106 hQ106
  subst l106 y106 z106
  obtain ⟨rfl, N106q, e106⟩ := hQ106
  have N106 := Fr.app N104 N106q
  obtain ⟨cq107, kq107, q107a, q107b, q107c⟩ := isOf hZ e106 E2
  obtain ⟨_, _, ⟨T107, L107, k107, n107⟩, -, X107, ⟨Lc107, hQ107, l107, y107, z107⟩, st107⟩ := X106.interfaceBack hx (xi := (⟨"java/util/List", "size", "()I"⟩ : MethodName)) (y := (⟨"java/util/ArrayList", "size", "()I"⟩ : MethodName)) hown (mvT hZ (own_i hw 125 rfl)) (mvT hZ (own_i hw 126 rfl)) (mvT hZ (own_i hw 127 rfl)) (mvT hZ (own_i hw 128 rfl)) (mvT hZ (own_i hw 129 rfl)) (mvT hZ (own_i hw 130 rfl)) (mvT hZ (own_i hw 131 rfl)) (mvT hZ (own_i hw 93 rfl)) (by decide) (backOf (W := 1) (rmSz l Z a0 hw [] a2 (1 : Int32) h0 n0 Z0 Z2) hZ (own_i hw 132 rfl) (own_i hw 7 rfl) (by decide) (by decide)) q107a q107b q107c (g := (mkF m 15 #[.val (.ref a1), .val (.ref a2), .val (.long (0 : Int64)), .second, .val (.long ((0 : Int64) + (w.toInt64))), .second, .val (.int (1 : Int32)), .val (.int (0 : Int32))] [(.ref a2), (.int (1 : Int32))])) rfl (by rw [hml]; rfl) (Steps.refl _) (argsL := []) (rest := [(.int (1 : Int32))]) (lenOf pd_7 rfl) rfl (by show 2 * 0 + _ ≤ _; exact Nat.le_of_eq rfl) (hb hby d16_15) (fun _ _ => ⟨rfl, e106, (by decide : 0 + 0 ≤ _), (by decide : 0 + 0 ≤ _)⟩)
  dsimp only [Pt.U, Pt.locs, Pt.cells, Pt.slots] at X107 l107 y107 z107 st107 hQ107
  subst l107 y107 z107
  obtain ⟨rfl, N107q, e107⟩ := hQ107
  have N107 := Fr.app N106 N107q
  obtain ⟨T108, h108, X108, e108, W108, st108⟩ := putF X107 hx hZ hown (host := "") (Or.inl (own_i hw 161 rfl)) Via.refl e107 A1 E1 (Or.inr ⟨(own_i hw 162 rfl), rfl, hnm⟩) (own_i hw 119 rfl) (ty := .long) (by decide) rfl rfl (g := (mkF m 106 #[.val (.ref a1), .val (.ref a2), .val (.long (0 : Int64)), .second, .val (.long ((0 : Int64) + (w.toInt64))), .second, .val (.int (1 : Int32)), .val (.int (0 : Int32))] [(.long ((0 : Int64) + (w.toInt64))), (.ref a1)])) rfl rfl (hb hby d16_106)
  have Fw108 := A1.same W108
  have N108 := Fr.snoc X108 N107 g1
  have f109 := Nat.le_trans Z0 (Keep.of_wr W108).1
  have f110 := B1.other W108 (Or.inr (slot_ne (Or.inr (own_i hw 164 rfl)) (Or.inr (own_i hw 162 rfl)) (by decide) (t := .long) (t' := .long) (by decide) (by decide)))
  have f111 := E1.wr W108
  have f112 := E2.wr W108
  have f113 := Z2.other W108 (Or.inl (Ne.symm ne))
  have f114 := D2.other W108 (Or.inl (Ne.symm ne))
  have f115 := ER.wr W108
  have f116 := f101.wr W108 (Or.inl (List.mem_of_getElem? (i := 0) rfl))
  obtain ⟨T117, h117, X117, e117, W117, st117⟩ := putF X108 hx hZ hown (host := "") (Or.inl (own_i hw 163 rfl)) Via.refl e108 f110 f111 (Or.inr ⟨(own_i hw 164 rfl), rfl, hnm⟩) (own_i hw 119 rfl) (ty := .long) (by decide) rfl rfl (g := (mkF m 125 #[.val (.ref a1), .val (.ref a2), .val (.long (0 : Int64)), .second, .val (.long ((0 : Int64) + (w.toInt64))), .second, .val (.int (1 : Int32)), .val (.int (0 : Int32))] [(.long (1 : Int64)), (.ref a1)])) rfl rfl (hb hby d16_125)
  have Fw117 := f110.same W117
  have N117 := Fr.snoc X117 N108 g1
  have f118 := Nat.le_trans f109 (Keep.of_wr W117).1
  have f119 := f111.wr W117
  have f120 := f112.wr W117
  have f121 := f113.other W117 (Or.inl (Ne.symm ne))
  have f122 := f114.other W117 (Or.inl (Ne.symm ne))
  have f123 := f115.wr W117
  have f124 := f116.wr W117 (Or.inl (List.mem_of_getElem? (i := 0) rfl))
  have f125 := Fw108.other W117 (Or.inr (slot_ne (Or.inr (own_i hw 162 rfl)) (Or.inr (own_i hw 164 rfl)) (by decide) (t := .long) (t' := .long) (by decide) (by decide)))
  have pre126 : ∀ t, Steps p.tables e below (T117.setTop (mkF m 128 #[.val (.ref a1), .val (.ref a2), .val (.long (0 : Int64)), .second, .val (.long ((0 : Int64) + (w.toInt64))), .second, .val (.int (1 : Int32)), .val (.int (0 : Int32))] [])) t → Steps p.tables e below (s₁.setTop (entryFrame m #[(.ref a1), (.ref a2)] 8)) t := fun t k => pre0 t (by
    show Steps p.tables e below (s₁.setTop (mkF m 0 #[.val (.ref a1), .val (.ref a2), .unset, .unset, .unset, .unset, .unset, .unset] [])) t
    refine XS.aloadN X0.here hx rfl (hb hby d16_0) rfl rfl ?_
    show Steps p.tables e below (s₁.setTop (mkF m 1 #[.val (.ref a1), .val (.ref a2), .unset, .unset, .unset, .unset, .unset, .unset] [(.ref a1)])) t
    refine st102 _ ?_
    show Steps p.tables e below (T102.setTop (mkF m 4 #[.val (.ref a1), .val (.ref a2), .unset, .unset, .unset, .unset, .unset, .unset] [])) t
    refine XS.lconst X102.here hx rfl (hb hby d16_4) ?_
    show Steps p.tables e below (T102.setTop (mkF m 5 #[.val (.ref a1), .val (.ref a2), .unset, .unset, .unset, .unset, .unset, .unset] [(.long (0 : Int64))])) t
    refine XS.lstoreN X102.here hx rfl (hb hby d16_5) rfl (l' := #[.val (.ref a1), .val (.ref a2), .val (.long (0 : Int64)), .second, .unset, .unset, .unset, .unset]) rfl ?_
    show Steps p.tables e below (T102.setTop (mkF m 6 #[.val (.ref a1), .val (.ref a2), .val (.long (0 : Int64)), .second, .unset, .unset, .unset, .unset] [])) t
    refine XS.lconst X102.here hx rfl (hb hby d16_6) ?_
    show Steps p.tables e below (T102.setTop (mkF m 7 #[.val (.ref a1), .val (.ref a2), .val (.long (0 : Int64)), .second, .unset, .unset, .unset, .unset] [(.long (0 : Int64))])) t
    refine XS.lstore X102.here hx rfl (hb hby d16_7) rfl (l' := #[.val (.ref a1), .val (.ref a2), .val (.long (0 : Int64)), .second, .val (.long (0 : Int64)), .second, .unset, .unset]) rfl ?_
    show Steps p.tables e below (T102.setTop (mkF m 9 #[.val (.ref a1), .val (.ref a2), .val (.long (0 : Int64)), .second, .val (.long (0 : Int64)), .second, .unset, .unset] [])) t
    refine XS.iconst X102.here hx rfl (hb hby d16_9) ?_
    show Steps p.tables e below (T102.setTop (mkF m 10 #[.val (.ref a1), .val (.ref a2), .val (.long (0 : Int64)), .second, .val (.long (0 : Int64)), .second, .unset, .unset] [(.int (0 : Int32))])) t
    refine XS.istore X102.here hx rfl (hb hby d16_10) rfl (l' := #[.val (.ref a1), .val (.ref a2), .val (.long (0 : Int64)), .second, .val (.long (0 : Int64)), .second, .val (.int (0 : Int32)), .unset]) rfl ?_
    show Steps p.tables e below (T102.setTop (mkF m 12 #[.val (.ref a1), .val (.ref a2), .val (.long (0 : Int64)), .second, .val (.long (0 : Int64)), .second, .val (.int (0 : Int32)), .unset] [])) t
    refine XS.iload X102.here hx rfl (hb hby d16_12) rfl ?_
    show Steps p.tables e below (T102.setTop (mkF m 14 #[.val (.ref a1), .val (.ref a2), .val (.long (0 : Int64)), .second, .val (.long (0 : Int64)), .second, .val (.int (0 : Int32)), .unset] [(.int (0 : Int32))])) t
    refine XS.aloadN X102.here hx rfl (hb hby d16_14) rfl rfl ?_
    show Steps p.tables e below (T102.setTop (mkF m 15 #[.val (.ref a1), .val (.ref a2), .val (.long (0 : Int64)), .second, .val (.long (0 : Int64)), .second, .val (.int (0 : Int32)), .unset] [(.ref a2), (.int (0 : Int32))])) t
    refine st103.trans ?_
    show Steps p.tables e below (T103.setTop (mkF m 20 #[.val (.ref a1), .val (.ref a2), .val (.long (0 : Int64)), .second, .val (.long (0 : Int64)), .second, .val (.int (0 : Int32)), .unset] [(.int (1 : Int32)), (.int (0 : Int32))])) t
    refine XS.icmpNo X103.here hx rfl (hb hby d16_20) rfl (tlt (by decide : (0 : Int32) < (1 : Int32))).2.1 ?_
    show Steps p.tables e below (T103.setTop (mkF m 23 #[.val (.ref a1), .val (.ref a2), .val (.long (0 : Int64)), .second, .val (.long (0 : Int64)), .second, .val (.int (0 : Int32)), .unset] [])) t
    refine XS.lload X103.here hx rfl (hb hby d16_23) rfl ?_
    show Steps p.tables e below (T103.setTop (mkF m 25 #[.val (.ref a1), .val (.ref a2), .val (.long (0 : Int64)), .second, .val (.long (0 : Int64)), .second, .val (.int (0 : Int32)), .unset] [(.long (0 : Int64))])) t
    refine XS.aloadN X103.here hx rfl (hb hby d16_25) rfl rfl ?_
    show Steps p.tables e below (T103.setTop (mkF m 26 #[.val (.ref a1), .val (.ref a2), .val (.long (0 : Int64)), .second, .val (.long (0 : Int64)), .second, .val (.int (0 : Int32)), .unset] [(.ref a2), (.long (0 : Int64))])) t
    refine XS.iload X103.here hx rfl (hb hby d16_26) rfl ?_
    show Steps p.tables e below (T103.setTop (mkF m 28 #[.val (.ref a1), .val (.ref a2), .val (.long (0 : Int64)), .second, .val (.long (0 : Int64)), .second, .val (.int (0 : Int32)), .unset] [(.int (0 : Int32)), (.ref a2), (.long (0 : Int64))])) t
    refine st104.trans ?_
    show Steps p.tables e below (T104.setTop (mkF m 33 #[.val (.ref a1), .val (.ref a2), .val (.long (0 : Int64)), .second, .val (.long (0 : Int64)), .second, .val (.int (0 : Int32)), .unset] [(.ref r), (.long (0 : Int64))])) t
    refine st105 _ ?_
    show Steps p.tables e below (T105.setTop (mkF m 36 #[.val (.ref a1), .val (.ref a2), .val (.long (0 : Int64)), .second, .val (.long (0 : Int64)), .second, .val (.int (0 : Int32)), .unset] [(.ref r), (.long (0 : Int64))])) t
    refine st106.trans ?_
    show Steps p.tables e below (T106.setTop (mkF m 39 #[.val (.ref a1), .val (.ref a2), .val (.long (0 : Int64)), .second, .val (.long (0 : Int64)), .second, .val (.int (0 : Int32)), .unset] [(.int w), (.long (0 : Int64))])) t
    refine XS.i2l X106.here hx rfl (hb hby d16_39) rfl ?_
    show Steps p.tables e below (T106.setTop (mkF m 40 #[.val (.ref a1), .val (.ref a2), .val (.long (0 : Int64)), .second, .val (.long (0 : Int64)), .second, .val (.int (0 : Int32)), .unset] [(.long (w.toInt64)), (.long (0 : Int64))])) t
    refine XS.ladd X106.here hx rfl (hb hby d16_40) rfl ?_
    show Steps p.tables e below (T106.setTop (mkF m 41 #[.val (.ref a1), .val (.ref a2), .val (.long (0 : Int64)), .second, .val (.long (0 : Int64)), .second, .val (.int (0 : Int32)), .unset] [(.long ((0 : Int64) + (w.toInt64)))])) t
    refine XS.lstore X106.here hx rfl (hb hby d16_41) rfl (l' := #[.val (.ref a1), .val (.ref a2), .val (.long (0 : Int64)), .second, .val (.long ((0 : Int64) + (w.toInt64))), .second, .val (.int (0 : Int32)), .unset]) rfl ?_
    show Steps p.tables e below (T106.setTop (mkF m 43 #[.val (.ref a1), .val (.ref a2), .val (.long (0 : Int64)), .second, .val (.long ((0 : Int64) + (w.toInt64))), .second, .val (.int (0 : Int32)), .unset] [])) t
    refine XS.iconst X106.here hx rfl (hb hby d16_43) ?_
    show Steps p.tables e below (T106.setTop (mkF m 44 #[.val (.ref a1), .val (.ref a2), .val (.long (0 : Int64)), .second, .val (.long ((0 : Int64) + (w.toInt64))), .second, .val (.int (0 : Int32)), .unset] [(.int (0 : Int32))])) t
    refine XS.istore X106.here hx rfl (hb hby d16_44) rfl (l' := #[.val (.ref a1), .val (.ref a2), .val (.long (0 : Int64)), .second, .val (.long ((0 : Int64) + (w.toInt64))), .second, .val (.int (0 : Int32)), .val (.int (0 : Int32))]) rfl ?_
    show Steps p.tables e below (T106.setTop (mkF m 46 #[.val (.ref a1), .val (.ref a2), .val (.long (0 : Int64)), .second, .val (.long ((0 : Int64) + (w.toInt64))), .second, .val (.int (0 : Int32)), .val (.int (0 : Int32))] [])) t
    refine XS.iload X106.here hx rfl (hb hby d16_46) rfl ?_
    show Steps p.tables e below (T106.setTop (mkF m 48 #[.val (.ref a1), .val (.ref a2), .val (.long (0 : Int64)), .second, .val (.long ((0 : Int64) + (w.toInt64))), .second, .val (.int (0 : Int32)), .val (.int (0 : Int32))] [(.int (0 : Int32))])) t
    refine XS.iload X106.here hx rfl (hb hby d16_48) rfl ?_
    show Steps p.tables e below (T106.setTop (mkF m 50 #[.val (.ref a1), .val (.ref a2), .val (.long (0 : Int64)), .second, .val (.long ((0 : Int64) + (w.toInt64))), .second, .val (.int (0 : Int32)), .val (.int (0 : Int32))] [(.int (0 : Int32)), (.int (0 : Int32))])) t
    refine XS.icmpYes X106.here hx rfl (pc0 := 50) (pc' := 97) rfl (hb hby d16_50) rfl (flt (by decide : ¬ ((0 : Int32) < (0 : Int32)))).2.1 (by decide) (by decide) ?_
    show Steps p.tables e below (T106.setTop (mkF m 97 #[.val (.ref a1), .val (.ref a2), .val (.long (0 : Int64)), .second, .val (.long ((0 : Int64) + (w.toInt64))), .second, .val (.int (0 : Int32)), .val (.int (0 : Int32))] [])) t
    refine XS.iinc X106.here hx rfl (hb hby d16_97) rfl (l' := #[.val (.ref a1), .val (.ref a2), .val (.long (0 : Int64)), .second, .val (.long ((0 : Int64) + (w.toInt64))), .second, .val (.int (1 : Int32)), .val (.int (0 : Int32))]) rfl ?_
    show Steps p.tables e below (T106.setTop (mkF m 100 #[.val (.ref a1), .val (.ref a2), .val (.long (0 : Int64)), .second, .val (.long ((0 : Int64) + (w.toInt64))), .second, .val (.int (1 : Int32)), .val (.int (0 : Int32))] [])) t
    refine XS.goto X106.here hx rfl (pc0 := 100) (pc' := 12) rfl (hb hby d16_100) (by decide) (by decide) ?_
    show Steps p.tables e below (T106.setTop (mkF m 12 #[.val (.ref a1), .val (.ref a2), .val (.long (0 : Int64)), .second, .val (.long ((0 : Int64) + (w.toInt64))), .second, .val (.int (1 : Int32)), .val (.int (0 : Int32))] [])) t
    refine XS.iload X106.here hx rfl (hb hby d16_12) rfl ?_
    show Steps p.tables e below (T106.setTop (mkF m 14 #[.val (.ref a1), .val (.ref a2), .val (.long (0 : Int64)), .second, .val (.long ((0 : Int64) + (w.toInt64))), .second, .val (.int (1 : Int32)), .val (.int (0 : Int32))] [(.int (1 : Int32))])) t
    refine XS.aloadN X106.here hx rfl (hb hby d16_14) rfl rfl ?_
    show Steps p.tables e below (T106.setTop (mkF m 15 #[.val (.ref a1), .val (.ref a2), .val (.long (0 : Int64)), .second, .val (.long ((0 : Int64) + (w.toInt64))), .second, .val (.int (1 : Int32)), .val (.int (0 : Int32))] [(.ref a2), (.int (1 : Int32))])) t
    refine st107.trans ?_
    show Steps p.tables e below (T107.setTop (mkF m 20 #[.val (.ref a1), .val (.ref a2), .val (.long (0 : Int64)), .second, .val (.long ((0 : Int64) + (w.toInt64))), .second, .val (.int (1 : Int32)), .val (.int (0 : Int32))] [(.int (1 : Int32)), (.int (1 : Int32))])) t
    refine XS.icmpYes X107.here hx rfl (pc0 := 20) (pc' := 103) rfl (hb hby d16_20) rfl (flt (by decide : ¬ ((1 : Int32) < (1 : Int32)))).2.1 (by decide) (by decide) ?_
    show Steps p.tables e below (T107.setTop (mkF m 103 #[.val (.ref a1), .val (.ref a2), .val (.long (0 : Int64)), .second, .val (.long ((0 : Int64) + (w.toInt64))), .second, .val (.int (1 : Int32)), .val (.int (0 : Int32))] [])) t
    refine XS.aloadN X107.here hx rfl (hb hby d16_103) rfl rfl ?_
    show Steps p.tables e below (T107.setTop (mkF m 104 #[.val (.ref a1), .val (.ref a2), .val (.long (0 : Int64)), .second, .val (.long ((0 : Int64) + (w.toInt64))), .second, .val (.int (1 : Int32)), .val (.int (0 : Int32))] [(.ref a1)])) t
    refine XS.lload X107.here hx rfl (hb hby d16_104) rfl ?_
    show Steps p.tables e below (T107.setTop (mkF m 106 #[.val (.ref a1), .val (.ref a2), .val (.long (0 : Int64)), .second, .val (.long ((0 : Int64) + (w.toInt64))), .second, .val (.int (1 : Int32)), .val (.int (0 : Int32))] [(.long ((0 : Int64) + (w.toInt64))), (.ref a1)])) t
    refine st108 _ ?_
    show Steps p.tables e below (T108.setTop (mkF m 109 #[.val (.ref a1), .val (.ref a2), .val (.long (0 : Int64)), .second, .val (.long ((0 : Int64) + (w.toInt64))), .second, .val (.int (1 : Int32)), .val (.int (0 : Int32))] [])) t
    refine XS.aloadN X108.here hx rfl (hb hby d16_109) rfl rfl ?_
    show Steps p.tables e below (T108.setTop (mkF m 110 #[.val (.ref a1), .val (.ref a2), .val (.long (0 : Int64)), .second, .val (.long ((0 : Int64) + (w.toInt64))), .second, .val (.int (1 : Int32)), .val (.int (0 : Int32))] [(.ref a1)])) t
    refine XS.lloadN X108.here hx rfl (hb hby d16_110) rfl ?_
    show Steps p.tables e below (T108.setTop (mkF m 111 #[.val (.ref a1), .val (.ref a2), .val (.long (0 : Int64)), .second, .val (.long ((0 : Int64) + (w.toInt64))), .second, .val (.int (1 : Int32)), .val (.int (0 : Int32))] [(.long (0 : Int64)), (.ref a1)])) t
    refine XS.lconst X108.here hx rfl (hb hby d16_111) ?_
    show Steps p.tables e below (T108.setTop (mkF m 112 #[.val (.ref a1), .val (.ref a2), .val (.long (0 : Int64)), .second, .val (.long ((0 : Int64) + (w.toInt64))), .second, .val (.int (1 : Int32)), .val (.int (0 : Int32))] [(.long (0 : Int64)), (.long (0 : Int64)), (.ref a1)])) t
    refine XS.lcmp X108.here hx rfl (hb hby d16_112) rfl ?_
    show Steps p.tables e below (T108.setTop (mkF m 113 #[.val (.ref a1), .val (.ref a2), .val (.long (0 : Int64)), .second, .val (.long ((0 : Int64) + (w.toInt64))), .second, .val (.int (1 : Int32)), .val (.int (0 : Int32))] [(.int (lcmpW (0 : Int64) (0 : Int64))), (.ref a1)])) t
    refine XS.ifNo X108.here hx rfl (hb hby d16_113) rfl ((if0 _ _).trans (teq (show (lcmpW (0 : Int64) (0 : Int64)) = (0 : Int32) by rw [lcW]; exact (lc_eq _ _).mpr (by decide : (0 : Int64) = (0 : Int64)))).2) ?_
    show Steps p.tables e below (T108.setTop (mkF m 116 #[.val (.ref a1), .val (.ref a2), .val (.long (0 : Int64)), .second, .val (.long ((0 : Int64) + (w.toInt64))), .second, .val (.int (1 : Int32)), .val (.int (0 : Int32))] [(.ref a1)])) t
    refine XS.lconst X108.here hx rfl (hb hby d16_116) ?_
    show Steps p.tables e below (T108.setTop (mkF m 117 #[.val (.ref a1), .val (.ref a2), .val (.long (0 : Int64)), .second, .val (.long ((0 : Int64) + (w.toInt64))), .second, .val (.int (1 : Int32)), .val (.int (0 : Int32))] [(.long (1 : Int64)), (.ref a1)])) t
    refine XS.goto X108.here hx rfl (pc0 := 117) (pc' := 125) rfl (hb hby d16_117) (by decide) (by decide) ?_
    show Steps p.tables e below (T108.setTop (mkF m 125 #[.val (.ref a1), .val (.ref a2), .val (.long (0 : Int64)), .second, .val (.long ((0 : Int64) + (w.toInt64))), .second, .val (.int (1 : Int32)), .val (.int (0 : Int32))] [(.long (1 : Int64)), (.ref a1)])) t
    refine st117 _ ?_
    exact k)
  obtain ⟨fs, hr, hrun, hended, hW, hsame⟩ := X117.leave (v := none) (fun _ => rfl)
  refine ⟨_, _, pre126 _ ?_, hrun, hended, _, _, rfl, ?_, ⟨_, rfl⟩, hW, hsame.mono (by decide) (by decide)⟩
  · exact X117.returnOut hx Bd.returns (hb hby d16_128) hr
  · show QO1 Z a1 a2 b kb r w h0 n0 _ T117.heap _
    rw [e117]
    exact ⟨rfl, N117, f124, f119, f125, Fw117⟩
theorem ef_rmOf (m : MethodId) (x0 : Addr) (x1 : Int64) (x2 : Int64) : entryFrame m #[(.ref x0), (.long x1), (.long x2)] 5 = mkF m 0 #[.val (.ref x0), .val (.long x1), .second, .val (.long x2), .second] [] := by first | (simp [entryFrame, mkF, argsToLocals, Value.category]; done) | rfl
def QOf (Z : State) (a1 : Addr) (q2 : Int64) (q3 : Int64) (wu : Int64) (wv : Int64) (h0 : Heap) (n0 : Nat) (v : Option Value) (h : Heap) (L : List Loc) : Prop := v = some (.long ((wu * q2) + (wv * q3))) ∧ Fr n0 L ∧ h = h0
set_option maxRecDepth 65536 in
set_option maxHeartbeats 40000000 in
theorem rmOf (l : Launch) (Z : State) (a0 : Array Value) (hw : ∀ d ∈ tables_1, d.before a0 Z = true) (ws : List Jvm.Cond) (a1 : Addr) (q2 : Int64) (q3 : Int64) (wu : Int64) (wv : Int64) (h0 : Heap) (n0 : Nat) (Z0 : n0 ≤ h0.size) (A1 : Fld Z h0 a1 "com/example/lumenward/lumenward/planner/Objective" "attackWeight" "J" (.long wu)) (B1 : Fld Z h0 a1 "com/example/lumenward/lumenward/planner/Objective" "fmaxWeight" "J" (.long wv)) :
    MetFree l (⟨"com/example/lumenward/lumenward/planner/Objective", "of", "(JJ)J"⟩ : MethodName) (head1 (Jvm.Cond.code (⟨"com/example/lumenward/lumenward/planner/Objective", "of", "(JJ)J"⟩ : MethodName) prog_44_method_4_code 5 (some .long) :: ws) ({ frames := 0, cells := 0, slots := 0, locals := 0 } : Room)) (fun a U => a = #[(.ref a1), (.long q2), (.long q3)] ∧ Z.Warmed39 U.vm ∧ U.heap = h0) (fun _ _ _ _ _ => True) (fun _ U o U' => ∃ v L, o = .returned v ∧ QOf Z a1 q2 q3 wu wv h0 n0 v U'.heap L ∧ FrameEnd U o U' L ({ frames := 0, cells := 0, slots := 0, locals := 0 } : Room).cells ({ frames := 0, cells := 0, slots := 0, locals := 0 } : Room).slots) := by
  refine MetFree.of_bodySF (plainFor_of_name pn_com_example_lumenward_lumenward_planner_Objective) hisR ?_
  intro p e s m args below meth c s₁ Bd hml0 hP hK
  obtain ⟨rfl, hZ, hh⟩ := hP
  have hx := Bd.exec
  have hby := Bd.bytes
  have hml : c.maxLocals = 5 := hml0
  have hown : s.vm.findClass "com/example/lumenward/lumenward/planner/Objective" = some m.cls := findClass_of_methodNamed Bd.named
  have hnm := (name_of_methodNamed Bd.named Bd.method).1
  have X0 : Stand p l e ({ frames := 0, cells := 0, slots := 0, locals := 0 } : Room) s m #[(.ref a1), (.long q2), (.long q3)] below meth c s₁ [] 0 0 := Stand.of_body Bd
  have e0 : s₁.heap = h0 := by rw [← hh, Bd.state]; rfl
  have N0 := Fr.nil n0
  have pre0 : ∀ t, Steps p.tables e below (s₁.setTop (mkF m 0 #[.val (.ref a1), .val (.long q2), .second, .val (.long q3), .second] [])) t → Steps p.tables e below (s₁.setTop (entryFrame m #[(.ref a1), (.long q2), (.long q3)] 5)) t := fun t k => castTop (ef_rmOf m a1 q2 q3) k
  obtain ⟨T101, X101, e101, st101⟩ := getF X0 hx hZ hown (host := "") (Or.inl (own_i hw 161 rfl)) Via.refl e0 A1 (g := (mkF m 1 #[.val (.ref a1), .val (.long q2), .second, .val (.long q3), .second] [(.ref a1)])) rfl rfl (hb hby d23_1)
  obtain ⟨T102, X102, e102, st102⟩ := getF X101 hx hZ hown (host := "") (Or.inl (own_i hw 163 rfl)) Via.refl e101 B1 (g := (mkF m 7 #[.val (.ref a1), .val (.long q2), .second, .val (.long q3), .second] [(.ref a1), (.long (wu * q2))])) rfl rfl (hb hby d23_7)
  have pre103 : ∀ t, Steps p.tables e below (T102.setTop (mkF m 13 #[.val (.ref a1), .val (.long q2), .second, .val (.long q3), .second] [(.long ((wu * q2) + (wv * q3)))])) t → Steps p.tables e below (s₁.setTop (entryFrame m #[(.ref a1), (.long q2), (.long q3)] 5)) t := fun t k => pre0 t (by
    show Steps p.tables e below (s₁.setTop (mkF m 0 #[.val (.ref a1), .val (.long q2), .second, .val (.long q3), .second] [])) t
    refine XS.aloadN X0.here hx rfl (hb hby d23_0) rfl rfl ?_
    show Steps p.tables e below (s₁.setTop (mkF m 1 #[.val (.ref a1), .val (.long q2), .second, .val (.long q3), .second] [(.ref a1)])) t
    refine st101 _ ?_
    show Steps p.tables e below (T101.setTop (mkF m 4 #[.val (.ref a1), .val (.long q2), .second, .val (.long q3), .second] [(.long wu)])) t
    refine XS.lloadN X101.here hx rfl (hb hby d23_4) rfl ?_
    show Steps p.tables e below (T101.setTop (mkF m 5 #[.val (.ref a1), .val (.long q2), .second, .val (.long q3), .second] [(.long q2), (.long wu)])) t
    refine XS.lmul X101.here hx rfl (hb hby d23_5) rfl ?_
    show Steps p.tables e below (T101.setTop (mkF m 6 #[.val (.ref a1), .val (.long q2), .second, .val (.long q3), .second] [(.long (wu * q2))])) t
    refine XS.aloadN X101.here hx rfl (hb hby d23_6) rfl rfl ?_
    show Steps p.tables e below (T101.setTop (mkF m 7 #[.val (.ref a1), .val (.long q2), .second, .val (.long q3), .second] [(.ref a1), (.long (wu * q2))])) t
    refine st102 _ ?_
    show Steps p.tables e below (T102.setTop (mkF m 10 #[.val (.ref a1), .val (.long q2), .second, .val (.long q3), .second] [(.long wv), (.long (wu * q2))])) t
    refine XS.lloadN X102.here hx rfl (hb hby d23_10) rfl ?_
    show Steps p.tables e below (T102.setTop (mkF m 11 #[.val (.ref a1), .val (.long q2), .second, .val (.long q3), .second] [(.long q3), (.long wv), (.long (wu * q2))])) t
    refine XS.lmul X102.here hx rfl (hb hby d23_11) rfl ?_
    show Steps p.tables e below (T102.setTop (mkF m 12 #[.val (.ref a1), .val (.long q2), .second, .val (.long q3), .second] [(.long (wv * q3)), (.long (wu * q2))])) t
    refine XS.ladd X102.here hx rfl (hb hby d23_12) rfl ?_
    exact k)
  obtain ⟨fs, hr, hrun, hended, hW, hsame⟩ := X102.leave (v := some (.long ((wu * q2) + (wv * q3)))) (fun h => by rw [Bd.returns] at h; cases h)
  refine ⟨_, _, pre103 _ ?_, hrun, hended, _, _, rfl, ?_, ⟨_, rfl⟩, hW, hsame.mono (by decide) (by decide)⟩
  · exact retOut X102 hx Bd.returns rfl (Or.inr (Or.inl ⟨rfl, rfl, _, rfl⟩)) (hb hby d23_13) hr
  · show QOf Z a1 q2 q3 wu wv h0 n0 _ T102.heap _
    rw [e102]
    exact ⟨rfl, N0, rfl⟩
theorem own_max1 (x : Int32) : ¬ ((own_max (1 : Int32) x) < (1 : Int32)) := by
  unfold own_max
  split
  · rename_i h; rw [Int32.lt_iff_toInt_lt] at *; omega
  · decide
theorem pn_com_example_lumenward_lumenward_planner_ObjectiveOfPinLaw : plainName "com/example/lumenward/lumenward/planner/ObjectiveOfPinLaw" = true := by first | (simp [plainName, overriddenIn]; done) | decide +kernel
theorem pd_10 : parseMethodDescriptor "(I)Lcom/example/lumenward/lumenward/model/End;" = some ⟨[.int], some (.object "com/example/lumenward/lumenward/model/End")⟩ := by decide +kernel
theorem pd_11 : parseMethodDescriptor "(Ljava/lang/String;Lcom/example/lumenward/lumenward/model/RequestType;Lcom/example/lumenward/lumenward/model/End;Lcom/example/lumenward/lumenward/model/End;I)V" = some ⟨[(.object "java/lang/String"), (.object "com/example/lumenward/lumenward/model/RequestType"), (.object "com/example/lumenward/lumenward/model/End"), (.object "com/example/lumenward/lumenward/model/End"), .int], none⟩ := by decide +kernel
theorem pd_12 : parseMethodDescriptor "(Ljava/lang/Object;)Z" = some ⟨[(.object "java/lang/Object")], some .boolean⟩ := by decide +kernel
theorem pd_13 : parseMethodDescriptor "(Ljava/util/List;)V" = some ⟨[(.object "java/util/List")], none⟩ := by decide +kernel
theorem pd_14 : parseMethodDescriptor "(JJ)J" = some ⟨[.long, .long], some .long⟩ := by decide +kernel
theorem ef_rm0 (m : MethodId) (x0 : Int32) (x1 : Int32) (x2 : Int64) (x3 : Int64) : entryFrame m #[(.int x0), (.int x1), (.long x2), (.long x3)] maxLocals = mkF m 0 #[.val (.int x0), .val (.int x1), .val (.long x2), .second, .val (.long x3), .second, .unset, .unset, .unset, .unset, .unset, .unset, .unset, .unset] [] := by first | (simp [entryFrame, mkF, argsToLocals, Value.category, maxLocals]; done) | rfl
def Q0 (Z : State) (p1 : Int32) (p2 : Int32) (q3 : Int64) (q4 : Int64) (wD : Addr) (kD : ClassId) (h0 : Heap) (n0 : Nat) (v : Option Value) (h : Heap) (L : List Loc) : Prop := v = some (.int 1) ∧ Fr n0 L
set_option maxRecDepth 65536 in
set_option maxHeartbeats 40000000 in
theorem rm0 (l : Launch) (Z : State) (a0 : Array Value) (hw : ∀ d ∈ tables_1, d.before a0 Z = true) (ws : List Jvm.Cond) (p1 : Int32) (p2 : Int32) (q3 : Int64) (q4 : Int64) (wD : Addr) (kD : ClassId) (h0 : Heap) (n0 : Nat) (Z0 : n0 ≤ h0.size) (SD : Sta Z Z.heap "java/util/ArrayList" "DEFAULTCAPACITY_EMPTY_ELEMENTDATA" "[Ljava/lang/Object;" (.ref wD)) (O0 : Old Z n0 h0) (VD : Arv Z Z.heap wD kD (.object "java/lang/Object") (0 : Int32) [] .null) (hn0 : n0 = h0.size) (hCH : Jvm.Lit.constHeld Z "com/example/lumenward/lumenward/planner/ObjectiveOfPinLaw" 19) (hcw : Jvm.Lit.compactW.before a0 Z = true) :
    MetFree l x (head1 (Jvm.Cond.code x code maxLocals ret :: ws) room_1) (fun a U => a = #[(.int p1), (.int p2), (.long q3), (.long q4)] ∧ Z.Warmed39 U.vm ∧ U.heap = h0 ∧ U = Z) (fun _ _ _ _ _ => True) (fun _ U o U' => ∃ v L, o = .returned v ∧ Q0 Z p1 p2 q3 q4 wD kD h0 n0 v U'.heap L ∧ ReturnedEndW U o U' L 8 32) := by
  refine MetFree.of_bodySF (plainFor_of_name pn_com_example_lumenward_lumenward_planner_ObjectiveOfPinLaw) hisR ?_
  intro p e s m args below meth c s₁ Bd hml0 hP hK
  obtain ⟨rfl, hZ, hh, hUZ⟩ := hP
  have hx := Bd.exec
  have hby := Bd.bytes
  have hml : c.maxLocals = 14 := hml0
  have hown : s.vm.findClass "com/example/lumenward/lumenward/planner/ObjectiveOfPinLaw" = some m.cls := findClass_of_methodNamed Bd.named
  have hnm := (name_of_methodNamed Bd.named Bd.method).1
  have X0 : Stand p l e room_1 s m #[(.int p1), (.int p2), (.long q3), (.long q4)] below meth c s₁ [] 0 0 := Stand.of_body Bd
  have e0 : s₁.heap = h0 := by rw [← hh, Bd.state]; rfl
  have N0 := Fr.nil n0
  have hS0 : s.Since s.vm 0 := (State.WarmedH.refl s).since 0
  have hwS : ∀ a ∈ Bundle.stringAtoms, a.before a0 Z = true := own_atoms hw
  have pre0 : ∀ t, Steps p.tables e below (s₁.setTop (mkF m 0 #[.val (.int p1), .val (.int p2), .val (.long q3), .second, .val (.long q4), .second, .unset, .unset, .unset, .unset, .unset, .unset, .unset, .unset] [])) t → Steps p.tables e below (s₁.setTop (entryFrame m #[(.int p1), (.int p2), (.long q3), (.long q4)] maxLocals)) t := fun t k => castTop (ef_rm0 m p1 p2 q3 q4) k
  have f101 := Keep.refl h0 []
  obtain ⟨v106, hP107, pre107⟩ : ∃ (v106 : Int32), ((((p1 &&& (1 : Int32)) = (0 : Int32)) ∧ v106 = (0 : Int32)) ∨ ((¬ ((p1 &&& (1 : Int32)) = (0 : Int32))) ∧ v106 = (1 : Int32))) ∧ ∀ t, Steps p.tables e below (s₁.setTop (mkF m 13 #[.val (.int p1), .val (.int p2), .val (.long q3), .second, .val (.long q4), .second, .val (.int v106), .unset, .unset, .unset, .unset, .unset, .unset, .unset] [])) t → Steps p.tables e below (s₁.setTop (entryFrame m #[(.int p1), (.int p2), (.long q3), (.long q4)] maxLocals)) t := by
    have pre103 : ∀ t, Steps p.tables e below (s₁.setTop (mkF m 3 #[.val (.int p1), .val (.int p2), .val (.long q3), .second, .val (.long q4), .second, .unset, .unset, .unset, .unset, .unset, .unset, .unset, .unset] [(.int (p1 &&& (1 : Int32)))])) t → Steps p.tables e below (s₁.setTop (entryFrame m #[(.int p1), (.int p2), (.long q3), (.long q4)] maxLocals)) t := fun t k => pre0 t (by
      show Steps p.tables e below (s₁.setTop (mkF m 0 #[.val (.int p1), .val (.int p2), .val (.long q3), .second, .val (.long q4), .second, .unset, .unset, .unset, .unset, .unset, .unset, .unset, .unset] [])) t
      refine XS.iloadN X0.here hx rfl (hb hby at_0) rfl ?_
      show Steps p.tables e below (s₁.setTop (mkF m 1 #[.val (.int p1), .val (.int p2), .val (.long q3), .second, .val (.long q4), .second, .unset, .unset, .unset, .unset, .unset, .unset, .unset, .unset] [(.int p1)])) t
      refine XS.iconst X0.here hx rfl (hb hby at_1) ?_
      show Steps p.tables e below (s₁.setTop (mkF m 2 #[.val (.int p1), .val (.int p2), .val (.long q3), .second, .val (.long q4), .second, .unset, .unset, .unset, .unset, .unset, .unset, .unset, .unset] [(.int (1 : Int32)), (.int p1)])) t
      refine XS.iand X0.here hx rfl (hb hby at_2) rfl ?_
      exact k)
    by_cases hc102 : (p1 &&& (1 : Int32)) = (0 : Int32)
    · have pre104 : ∀ t, Steps p.tables e below (s₁.setTop (mkF m 13 #[.val (.int p1), .val (.int p2), .val (.long q3), .second, .val (.long q4), .second, .val (.int (0 : Int32)), .unset, .unset, .unset, .unset, .unset, .unset, .unset] [])) t → Steps p.tables e below (s₁.setTop (entryFrame m #[(.int p1), (.int p2), (.long q3), (.long q4)] maxLocals)) t := fun t k => pre103 t (by
        show Steps p.tables e below (s₁.setTop (mkF m 3 #[.val (.int p1), .val (.int p2), .val (.long q3), .second, .val (.long q4), .second, .unset, .unset, .unset, .unset, .unset, .unset, .unset, .unset] [(.int (p1 &&& (1 : Int32)))])) t
        refine XS.ifYes X0.here hx rfl (pc0 := 3) (pc' := 10) rfl (hb hby at_3) rfl ((if0 _ _).trans (teq hc102).1) (by decide) (by decide) ?_
        show Steps p.tables e below (s₁.setTop (mkF m 10 #[.val (.int p1), .val (.int p2), .val (.long q3), .second, .val (.long q4), .second, .unset, .unset, .unset, .unset, .unset, .unset, .unset, .unset] [])) t
        refine XS.iconst X0.here hx rfl (hb hby at_10) ?_
        show Steps p.tables e below (s₁.setTop (mkF m 11 #[.val (.int p1), .val (.int p2), .val (.long q3), .second, .val (.long q4), .second, .unset, .unset, .unset, .unset, .unset, .unset, .unset, .unset] [(.int (0 : Int32))])) t
        refine XS.istore X0.here hx rfl (hb hby at_11) rfl (l' := #[.val (.int p1), .val (.int p2), .val (.long q3), .second, .val (.long q4), .second, .val (.int (0 : Int32)), .unset, .unset, .unset, .unset, .unset, .unset, .unset]) rfl ?_
        exact k)
      exact ⟨(0 : Int32), (Or.inl ⟨hc102, rfl⟩), pre104⟩
    · have pre105 : ∀ t, Steps p.tables e below (s₁.setTop (mkF m 13 #[.val (.int p1), .val (.int p2), .val (.long q3), .second, .val (.long q4), .second, .val (.int (1 : Int32)), .unset, .unset, .unset, .unset, .unset, .unset, .unset] [])) t → Steps p.tables e below (s₁.setTop (entryFrame m #[(.int p1), (.int p2), (.long q3), (.long q4)] maxLocals)) t := fun t k => pre103 t (by
        show Steps p.tables e below (s₁.setTop (mkF m 3 #[.val (.int p1), .val (.int p2), .val (.long q3), .second, .val (.long q4), .second, .unset, .unset, .unset, .unset, .unset, .unset, .unset, .unset] [(.int (p1 &&& (1 : Int32)))])) t
        refine XS.ifNo X0.here hx rfl (hb hby at_3) rfl ((if0 _ _).trans (feq hc102).1) ?_
        show Steps p.tables e below (s₁.setTop (mkF m 6 #[.val (.int p1), .val (.int p2), .val (.long q3), .second, .val (.long q4), .second, .unset, .unset, .unset, .unset, .unset, .unset, .unset, .unset] [])) t
        refine XS.iconst X0.here hx rfl (hb hby at_6) ?_
        show Steps p.tables e below (s₁.setTop (mkF m 7 #[.val (.int p1), .val (.int p2), .val (.long q3), .second, .val (.long q4), .second, .unset, .unset, .unset, .unset, .unset, .unset, .unset, .unset] [(.int (1 : Int32))])) t
        refine XS.goto X0.here hx rfl (pc0 := 7) (pc' := 11) rfl (hb hby at_7) (by decide) (by decide) ?_
        show Steps p.tables e below (s₁.setTop (mkF m 11 #[.val (.int p1), .val (.int p2), .val (.long q3), .second, .val (.long q4), .second, .unset, .unset, .unset, .unset, .unset, .unset, .unset, .unset] [(.int (1 : Int32))])) t
        refine XS.istore X0.here hx rfl (hb hby at_11) rfl (l' := #[.val (.int p1), .val (.int p2), .val (.long q3), .second, .val (.long q4), .second, .val (.int (1 : Int32)), .unset, .unset, .unset, .unset, .unset, .unset, .unset]) rfl ?_
        exact k)
      exact ⟨(1 : Int32), (Or.inr (⟨hc102, rfl⟩)), pre105⟩
  obtain ⟨_, _, ⟨T108, L108, k108, n108⟩, -, X108, ⟨Lc108, hQ108, l108, y108, z108⟩, st108⟩ := Jvm.LawKit.callS X0 hx (y := (⟨"java/lang/Math", "max", "(II)I"⟩ : MethodName)) hown (mvT hZ (own_i hw 1 rfl)) (mvT hZ (own_i hw 2 rfl)) (mvT hZ (own_i hw 3 rfl)) (mvT hZ (own_i hw 4 rfl)) (by decide) (backOf (W := 0) (rmMax l Z a0 hw [] (1 : Int32) (p2 &&& (2147483647 : Int32)) h0 n0 Z0 ) hZ (own_i hw 4 rfl) (own_i hw 3 rfl) (by decide) (by decide)) (g := (mkF m 18 #[.val (.int p1), .val (.int p2), .val (.long q3), .second, .val (.long q4), .second, .val (.int v106), .unset, .unset, .unset, .unset, .unset, .unset, .unset] [(.int (p2 &&& (2147483647 : Int32))), (.int (1 : Int32))])) rfl (by rw [hml]; rfl) (argsL := [(.int (1 : Int32)), (.int (p2 &&& (2147483647 : Int32)))]) (rest := []) (lenOf pd_1 rfl) rfl (by show 2 * 0 + _ ≤ _; exact Nat.le_of_eq rfl) (hb hby at_18) (fun _ _ => ⟨rfl, e0, (by decide : 0 + 0 ≤ _), (by decide : 0 + 0 ≤ _)⟩)
  dsimp only [Pt.U, Pt.locs, Pt.cells, Pt.slots] at X108 l108 y108 z108 st108 hQ108
  subst l108 y108 z108
  obtain ⟨rfl, N108q, e108⟩ := hQ108
  have N108 := Fr.app N0 N108q
  obtain ⟨T109, h109, X109, e109, E109, A109, D109, -, st109⟩ := newO X108 hx hZ hown (own_i hw 5 rfl) (own_i hw 6 rfl) (own_i hw 7 rfl) e108 (g := (mkF m 23 #[.val (.int p1), .val (.int p2), .val (.long q3), .second, .val (.long q4), .second, .val (.int v106), .val (.int (own_max (1 : Int32) (p2 &&& (2147483647 : Int32)))), .unset, .unset, .unset, .unset, .unset, .unset] [])) rfl (hb hby at_23) (by decide) (by decide)
  obtain ⟨b109, g109⟩ : ∃ z, z = h0.size := ⟨_, rfl⟩
  rw [← g109] at A109 D109 st109
  have ga110 : n0 ≤ b109 := Nat.le_trans Z0 (Nat.le_of_eq g109.symm)
  have sz111 : h0.size ≤ b109 := Nat.le_trans f101.1 (Nat.le_of_eq g109.symm)
  have f112 : Fld Z h109 b109 "java/util/AbstractList" "modCount" "I" (.int (0 : Int32)) := D109 (Or.inl (own_i hw 27 rfl)) (ty := .int) (by decide)
  have f113 : Fld Z h109 b109 "java/util/ArrayList" "elementData" "[Ljava/lang/Object;" .null := D109 (Or.inl (own_i hw 30 rfl)) (ty := (.array (.object "java/lang/Object"))) (by decide)
  have f114 : Fld Z h109 b109 "java/util/ArrayList" "size" "I" (.int (0 : Int32)) := D109 (Or.inl (own_i hw 98 rfl)) (ty := .int) (by decide)
  have f115 := Nat.le_trans Z0 E109.1
  have f116 := O0.ext E109
  have f117 := f101.ext E109
  obtain ⟨_, _, ⟨T118, L118, k118, n118⟩, -, X118, ⟨Lc118, hQ118, l118, y118, z118⟩, st118⟩ := X109.specialBack hx (y := (⟨"java/util/ArrayList", "<init>", "()V"⟩ : MethodName)) rfl hown (mvT hZ (own_i hw 8 rfl)) (mvT hZ (own_i hw 9 rfl)) (mvT hZ (own_i hw 10 rfl)) (by decide) (backOf (W := 1) (rmAl l Z a0 hw [] b109 wD h109 n0 f115 f112 f114 f113 A109 ga110 SD f116) hZ (own_i hw 10 rfl) (own_i hw 7 rfl) (by decide) (by decide)) (g := (mkF m 27 #[.val (.int p1), .val (.int p2), .val (.long q3), .second, .val (.long q4), .second, .val (.int v106), .val (.int (own_max (1 : Int32) (p2 &&& (2147483647 : Int32)))), .unset, .unset, .unset, .unset, .unset, .unset] [(.ref b109), (.ref b109)])) rfl (by rw [hml]; rfl) (Steps.refl _) (a := b109) (argsL := []) (rest := [(.ref b109)]) (lenOf pd_0 rfl) rfl (by show 2 * 0 + _ ≤ _; exact Nat.le_of_eq rfl) (hb hby at_27) (fun _ _ => ⟨rfl, e109, (by decide : 1 + 0 ≤ _), (by decide : 3 + 0 ≤ _)⟩)
  dsimp only [Pt.U, Pt.locs, Pt.cells, Pt.slots] at X118 l118 y118 z118 st118 hQ118
  subst l118 y118 z118
  obtain ⟨rfl, N118q, K118, f119, f120, f121, f122⟩ := hQ118
  have N118 := Fr.app N108 N118q
  have f123 := Nat.le_trans f115 K118.1
  have f124 := f116.keep K118 (allS ga110 all0)
  have f125 := f117.trans K118 (allS (Or.inr sz111) all0)
  have pre127 : ∀ t, Steps p.tables e below (T118.setTop (mkF m 37 #[.val (.int p1), .val (.int p2), .val (.long q3), .second, .val (.long q4), .second, .val (.int v106), .val (.int (own_max (1 : Int32) (p2 &&& (2147483647 : Int32)))), .val (.ref b109), .val (.long (0 : Int64)), .second, .unset, .unset, .unset] [(.int v106)])) t → Steps p.tables e below (s₁.setTop (entryFrame m #[(.int p1), (.int p2), (.long q3), (.long q4)] maxLocals)) t := fun t k => pre107 t (by
    show Steps p.tables e below (s₁.setTop (mkF m 13 #[.val (.int p1), .val (.int p2), .val (.long q3), .second, .val (.long q4), .second, .val (.int v106), .unset, .unset, .unset, .unset, .unset, .unset, .unset] [])) t
    refine XS.iconst X0.here hx rfl (hb hby at_13) ?_
    show Steps p.tables e below (s₁.setTop (mkF m 14 #[.val (.int p1), .val (.int p2), .val (.long q3), .second, .val (.long q4), .second, .val (.int v106), .unset, .unset, .unset, .unset, .unset, .unset, .unset] [(.int (1 : Int32))])) t
    refine XS.iloadN X0.here hx rfl (hb hby at_14) rfl ?_
    show Steps p.tables e below (s₁.setTop (mkF m 15 #[.val (.int p1), .val (.int p2), .val (.long q3), .second, .val (.long q4), .second, .val (.int v106), .unset, .unset, .unset, .unset, .unset, .unset, .unset] [(.int p2), (.int (1 : Int32))])) t
    refine X0.ldcInt hx hown (mvT hZ (own_i hw 0 rfl)) (g := (mkF m 15 #[.val (.int p1), .val (.int p2), .val (.long q3), .second, .val (.long q4), .second, .val (.int v106), .unset, .unset, .unset, .unset, .unset, .unset, .unset] [(.int p2), (.int (1 : Int32))])) rfl (hb hby at_15) _ ?_
    show Steps p.tables e below (s₁.setTop (mkF m 17 #[.val (.int p1), .val (.int p2), .val (.long q3), .second, .val (.long q4), .second, .val (.int v106), .unset, .unset, .unset, .unset, .unset, .unset, .unset] [(.int (2147483647 : Int32)), (.int p2), (.int (1 : Int32))])) t
    refine XS.iand X0.here hx rfl (hb hby at_17) rfl ?_
    show Steps p.tables e below (s₁.setTop (mkF m 18 #[.val (.int p1), .val (.int p2), .val (.long q3), .second, .val (.long q4), .second, .val (.int v106), .unset, .unset, .unset, .unset, .unset, .unset, .unset] [(.int (p2 &&& (2147483647 : Int32))), (.int (1 : Int32))])) t
    refine st108 _ ?_
    show Steps p.tables e below (T108.setTop (mkF m 21 #[.val (.int p1), .val (.int p2), .val (.long q3), .second, .val (.long q4), .second, .val (.int v106), .unset, .unset, .unset, .unset, .unset, .unset, .unset] [(.int (own_max (1 : Int32) (p2 &&& (2147483647 : Int32))))])) t
    refine XS.istore X108.here hx rfl (hb hby at_21) rfl (l' := #[.val (.int p1), .val (.int p2), .val (.long q3), .second, .val (.long q4), .second, .val (.int v106), .val (.int (own_max (1 : Int32) (p2 &&& (2147483647 : Int32)))), .unset, .unset, .unset, .unset, .unset, .unset]) rfl ?_
    show Steps p.tables e below (T108.setTop (mkF m 23 #[.val (.int p1), .val (.int p2), .val (.long q3), .second, .val (.long q4), .second, .val (.int v106), .val (.int (own_max (1 : Int32) (p2 &&& (2147483647 : Int32)))), .unset, .unset, .unset, .unset, .unset, .unset] [])) t
    refine st109 _ ?_
    show Steps p.tables e below (T109.setTop (mkF m 26 #[.val (.int p1), .val (.int p2), .val (.long q3), .second, .val (.long q4), .second, .val (.int v106), .val (.int (own_max (1 : Int32) (p2 &&& (2147483647 : Int32)))), .unset, .unset, .unset, .unset, .unset, .unset] [(.ref b109)])) t
    refine XS.dup X109.here hx rfl (hb hby at_26) rfl rfl ?_
    show Steps p.tables e below (T109.setTop (mkF m 27 #[.val (.int p1), .val (.int p2), .val (.long q3), .second, .val (.long q4), .second, .val (.int v106), .val (.int (own_max (1 : Int32) (p2 &&& (2147483647 : Int32)))), .unset, .unset, .unset, .unset, .unset, .unset] [(.ref b109), (.ref b109)])) t
    refine st118.trans ?_
    show Steps p.tables e below (T118.setTop (mkF m 30 #[.val (.int p1), .val (.int p2), .val (.long q3), .second, .val (.long q4), .second, .val (.int v106), .val (.int (own_max (1 : Int32) (p2 &&& (2147483647 : Int32)))), .unset, .unset, .unset, .unset, .unset, .unset] [(.ref b109)])) t
    refine XS.astore X118.here hx rfl (hb hby at_30) rfl rfl (l' := #[.val (.int p1), .val (.int p2), .val (.long q3), .second, .val (.long q4), .second, .val (.int v106), .val (.int (own_max (1 : Int32) (p2 &&& (2147483647 : Int32)))), .val (.ref b109), .unset, .unset, .unset, .unset, .unset]) rfl ?_
    show Steps p.tables e below (T118.setTop (mkF m 32 #[.val (.int p1), .val (.int p2), .val (.long q3), .second, .val (.long q4), .second, .val (.int v106), .val (.int (own_max (1 : Int32) (p2 &&& (2147483647 : Int32)))), .val (.ref b109), .unset, .unset, .unset, .unset, .unset] [])) t
    refine XS.lconst X118.here hx rfl (hb hby at_32) ?_
    show Steps p.tables e below (T118.setTop (mkF m 33 #[.val (.int p1), .val (.int p2), .val (.long q3), .second, .val (.long q4), .second, .val (.int v106), .val (.int (own_max (1 : Int32) (p2 &&& (2147483647 : Int32)))), .val (.ref b109), .unset, .unset, .unset, .unset, .unset] [(.long (0 : Int64))])) t
    refine XS.lstore X118.here hx rfl (hb hby at_33) rfl (l' := #[.val (.int p1), .val (.int p2), .val (.long q3), .second, .val (.long q4), .second, .val (.int v106), .val (.int (own_max (1 : Int32) (p2 &&& (2147483647 : Int32)))), .val (.ref b109), .val (.long (0 : Int64)), .second, .unset, .unset, .unset]) rfl ?_
    show Steps p.tables e below (T118.setTop (mkF m 35 #[.val (.int p1), .val (.int p2), .val (.long q3), .second, .val (.long q4), .second, .val (.int v106), .val (.int (own_max (1 : Int32) (p2 &&& (2147483647 : Int32)))), .val (.ref b109), .val (.long (0 : Int64)), .second, .unset, .unset, .unset] [])) t
    refine XS.iload X118.here hx rfl (hb hby at_35) rfl ?_
    exact k)
  by_cases hc126 : v106 = (0 : Int32)
  · obtain ⟨T128, h128, X128, e128, E128, A128, D128, -, st128⟩ := newO X118 hx hZ hown (own_i hw 31 rfl) (own_i hw 32 rfl) (own_i hw 33 rfl) rfl (g := (mkF m 42 #[.val (.int p1), .val (.int p2), .val (.long q3), .second, .val (.long q4), .second, .val (.int v106), .val (.int (own_max (1 : Int32) (p2 &&& (2147483647 : Int32)))), .val (.ref b109), .val (.long (0 : Int64)), .second, .unset, .unset, .unset] [(.ref b109)])) rfl (hb hby at_42) (by decide) (by decide)
    obtain ⟨b128, g128⟩ : ∃ z, z = T118.heap.size := ⟨_, rfl⟩
    rw [← g128] at A128 D128 st128
    have ne129 : b109 ≠ b128 := Nat.ne_of_lt (Nat.lt_of_lt_of_le f119.lt (Nat.le_of_eq g128.symm))
    have ga130 : n0 ≤ b128 := Nat.le_trans f123 (Nat.le_of_eq g128.symm)
    have sz131 : h0.size ≤ b128 := Nat.le_trans f125.1 (Nat.le_of_eq g128.symm)
    have f132 : Fld Z h128 b128 "com/example/lumenward/lumenward/model/Request" "id" "Ljava/lang/String;" .null := D128 (Or.inr (own_i hw 77 rfl)) (ty := (.object "java/lang/String")) (by decide)
    have f133 : Fld Z h128 b128 "com/example/lumenward/lumenward/model/Request" "type" "Lcom/example/lumenward/lumenward/model/RequestType;" .null := D128 (Or.inr (own_i hw 79 rfl)) (ty := (.object "com/example/lumenward/lumenward/model/RequestType")) (by decide)
    have f134 : Fld Z h128 b128 "com/example/lumenward/lumenward/model/Request" "src" "Lcom/example/lumenward/lumenward/model/End;" .null := D128 (Or.inr (own_i hw 81 rfl)) (ty := (.object "com/example/lumenward/lumenward/model/End")) (by decide)
    have f135 : Fld Z h128 b128 "com/example/lumenward/lumenward/model/Request" "dst" "Lcom/example/lumenward/lumenward/model/End;" .null := D128 (Or.inr (own_i hw 83 rfl)) (ty := (.object "com/example/lumenward/lumenward/model/End")) (by decide)
    have f136 : Fld Z h128 b128 "com/example/lumenward/lumenward/model/Request" "slots" "I" (.int (0 : Int32)) := D128 (Or.inr (own_i hw 85 rfl)) (ty := .int) (by decide)
    have f137 := Nat.le_trans f123 E128.1
    have f138 := f124.ext E128
    have f139 := f125.ext E128
    have f140 := f119.ext E128
    have f141 := f120.ext E128
    have f142 := f121.ext E128
    have f143 := f122.ext E128
    obtain ⟨a144, T144, h144, k144, b144, kq144, X144, e144, E144, hS144, hk144, hZ144, ho144, Ex144, Co144, Va144, Ar144, -, -, -, st144⟩ := ldcSV (s := s) (vm0 := s.vm) (Ts := []) X128 hx hZ hown (own_i hw 34 rfl) hwS e128 hS0 (Nat.zero_le _) (by rw [hh, ← hn0]; exact N118) (fun b cl q => by rw [hUZ]; exact q) (by rw [hUZ]; exact IB.start) (by simp) hCH hcw (vs := [(.int (Jvm.Lit.byteI 114))]) (z := (1 : Int32)) ⟨by decide, rfl⟩ (by decide) rfl (g := (mkF m 46 #[.val (.int p1), .val (.int p2), .val (.long q3), .second, .val (.long q4), .second, .val (.int v106), .val (.int (own_max (1 : Int32) (p2 &&& (2147483647 : Int32)))), .val (.ref b109), .val (.long (0 : Int64)), .second, .unset, .unset, .unset] [(.ref b128), (.ref b128), (.ref b109)])) rfl (hb hby at_46) (n := 4) (by decide) (by decide) (by decide) (by decide)
    have f145 := Nat.le_trans f137 E144.1
    have f146 := f138.ext E144
    have f147 := f139.ext E144
    have f148 := f140.ext E144
    have f149 := f141.ext E144
    have f150 := f142.ext E144
    have f151 := f143.ext E144
    have f152 := A128.ext E144
    have f153 := f132.ext E144
    have f154 := f133.ext E144
    have f155 := f134.ext E144
    have f156 := f135.ext E144
    have f157 := f136.ext E144
    obtain ⟨_, _, ⟨T158, L158, k158, n158⟩, -, X158, ⟨Lc158, hQ158, l158, y158, z158⟩, st158⟩ := Jvm.LawKit.callS X144 hx (y := (⟨"com/example/lumenward/lumenward/model/End", "at", "(I)Lcom/example/lumenward/lumenward/model/End;"⟩ : MethodName)) ho144 (mvT hZ144 (own_i hw 42 rfl)) (mvT hZ144 (own_i hw 43 rfl)) (mvT hZ144 (own_i hw 44 rfl)) (mvT hZ144 (own_i hw 45 rfl)) (by decide) (backOf (W := 5) (rmAt l Z a0 hw [] (1 : Int32) h144 n0 f145 ) hZ144 (own_i hw 45 rfl) (own_i hw 44 rfl) (by decide) (by decide)) (g := (mkF m 50 #[.val (.int p1), .val (.int p2), .val (.long q3), .second, .val (.long q4), .second, .val (.int v106), .val (.int (own_max (1 : Int32) (p2 &&& (2147483647 : Int32)))), .val (.ref b109), .val (.long (0 : Int64)), .second, .unset, .unset, .unset] [(.int (1 : Int32)), .null, (.ref a144), (.ref b128), (.ref b128), (.ref b109)])) rfl (by rw [hml]; rfl) (argsL := [(.int (1 : Int32))]) (rest := [.null, (.ref a144), (.ref b128), (.ref b128), (.ref b109)]) (lenOf pd_10 rfl) rfl (by show 2 * 0 + _ ≤ _; exact Nat.le_of_eq rfl) (hb hby at_50) (fun _ _ => ⟨rfl, e144, (by decide : 4 + 1 ≤ _), (by decide : 16 + 2 ≤ _)⟩)
    dsimp only [Pt.U, Pt.locs, Pt.cells, Pt.slots] at X158 l158 y158 z158 st158 hQ158
    subst l158 y158 z158
    obtain ⟨b159, rfl, N158q, K158, f160, f161, f162, f163, f164⟩ := hQ158
    have N158 := Fr.app N118 N158q
    have ne165 : b109 ≠ b159 := Nat.ne_of_lt (Nat.lt_of_lt_of_le f148.lt f161)
    have ne166 : b128 ≠ b159 := Nat.ne_of_lt (Nat.lt_of_lt_of_le f152.lt f161)
    have ne167 : a144 ≠ b159 := Nat.ne_of_lt (Nat.lt_of_lt_of_le Ex144.lt f161)
    have ne168 : b144 ≠ b159 := Nat.ne_of_lt (Nat.lt_of_lt_of_le Ar144.lt f161)
    have sz169 : h0.size ≤ b159 := Nat.le_trans f147.1 f161
    have f170 := Nat.le_trans f145 K158.1
    have f171 := f146.keep K158 all0
    have f172 := f147.trans K158 all0
    have f173 := f148.keep K158
    have f174 := f149.keep K158 nin0
    have f175 := f150.keep K158 nin0
    have f176 := f151.keep K158 nin0
    have f177 := f152.keep K158
    have f178 := f153.keep K158 nin0
    have f179 := f154.keep K158 nin0
    have f180 := f155.keep K158 nin0
    have f181 := f156.keep K158 nin0
    have f182 := f157.keep K158 nin0
    have f183 := Nat.le_trans hk144 K158.1
    have f184 := Ex144.keep K158
    have f185 := Va144.keep K158 nin0
    have f186 := Ar144.keep K158 nin0
    obtain ⟨_, _, ⟨T187, L187, k187, n187⟩, -, X187, ⟨Lc187, hQ187, l187, y187, z187⟩, st187⟩ := Jvm.LawKit.callS X158 hx (y := (⟨"com/example/lumenward/lumenward/model/End", "at", "(I)Lcom/example/lumenward/lumenward/model/End;"⟩ : MethodName)) ho144 (mvT hZ144 (own_i hw 42 rfl)) (mvT hZ144 (own_i hw 43 rfl)) (mvT hZ144 (own_i hw 44 rfl)) (mvT hZ144 (own_i hw 45 rfl)) (by decide) (backOf (W := 6) (rmAt l Z a0 hw [] (2 : Int32) T158.heap n0 f170 ) hZ144 (own_i hw 45 rfl) (own_i hw 44 rfl) (by decide) (by decide)) (g := (mkF m 54 #[.val (.int p1), .val (.int p2), .val (.long q3), .second, .val (.long q4), .second, .val (.int v106), .val (.int (own_max (1 : Int32) (p2 &&& (2147483647 : Int32)))), .val (.ref b109), .val (.long (0 : Int64)), .second, .unset, .unset, .unset] [(.int (2 : Int32)), (.ref b159), .null, (.ref a144), (.ref b128), (.ref b128), (.ref b109)])) rfl (by rw [hml]; rfl) (argsL := [(.int (2 : Int32))]) (rest := [(.ref b159), .null, (.ref a144), (.ref b128), (.ref b128), (.ref b109)]) (lenOf pd_10 rfl) rfl (by show 2 * 0 + _ ≤ _; exact Nat.le_of_eq rfl) (hb hby at_54) (fun _ _ => ⟨rfl, rfl, (by decide : 5 + 1 ≤ _), (by decide : 18 + 2 ≤ _)⟩)
    dsimp only [Pt.U, Pt.locs, Pt.cells, Pt.slots] at X187 l187 y187 z187 st187 hQ187
    subst l187 y187 z187
    obtain ⟨b188, rfl, N187q, K187, f189, f190, f191, f192, f193⟩ := hQ187
    have N187 := Fr.app N158 N187q
    have ne194 : b109 ≠ b188 := Nat.ne_of_lt (Nat.lt_of_lt_of_le f173.lt f190)
    have ne195 : b128 ≠ b188 := Nat.ne_of_lt (Nat.lt_of_lt_of_le f177.lt f190)
    have ne196 : a144 ≠ b188 := Nat.ne_of_lt (Nat.lt_of_lt_of_le f184.lt f190)
    have ne197 : b144 ≠ b188 := Nat.ne_of_lt (Nat.lt_of_lt_of_le f186.lt f190)
    have ne198 : b159 ≠ b188 := Nat.ne_of_lt (Nat.lt_of_lt_of_le f162.lt f190)
    have sz199 : h0.size ≤ b188 := Nat.le_trans f172.1 f190
    have f200 := Nat.le_trans f170 K187.1
    have f201 := f171.keep K187 all0
    have f202 := f172.trans K187 all0
    have f203 := f173.keep K187
    have f204 := f174.keep K187 nin0
    have f205 := f175.keep K187 nin0
    have f206 := f176.keep K187 nin0
    have f207 := f177.keep K187
    have f208 := f178.keep K187 nin0
    have f209 := f179.keep K187 nin0
    have f210 := f180.keep K187 nin0
    have f211 := f181.keep K187 nin0
    have f212 := f182.keep K187 nin0
    have f213 := Nat.le_trans f183 K187.1
    have f214 := f184.keep K187
    have f215 := f185.keep K187 nin0
    have f216 := f186.keep K187 nin0
    have f217 := f162.keep K187
    have f218 := f163.keep K187 nin0
    have f219 := f164.keep K187 nin0
    obtain ⟨_, _, ⟨T220, L220, k220, n220⟩, -, X220, ⟨Lc220, hQ220, l220, y220, z220⟩, st220⟩ := X187.specialBack hx (y := (⟨"com/example/lumenward/lumenward/model/Request", "<init>", "(Ljava/lang/String;Lcom/example/lumenward/lumenward/model/RequestType;Lcom/example/lumenward/lumenward/model/End;Lcom/example/lumenward/lumenward/model/End;I)V"⟩ : MethodName)) rfl ho144 (mvT hZ144 (own_i hw 56 rfl)) (mvT hZ144 (own_i hw 57 rfl)) (mvT hZ144 (own_i hw 58 rfl)) (by decide) (backOf (W := 2) (rmRq l Z a0 hw [] b128 a144 b159 b188 (own_max (1 : Int32) (p2 &&& (2147483647 : Int32))) b144 kq144 (.int (Jvm.Lit.byteI 114)) T187.heap n0 f200 f208 f209 f210 f211 f212 f207 f214 f215 f216 f217 f218 f219 f191 f192 f193 (own_max1 _) ga130) hZ144 (own_i hw 58 rfl) (own_i hw 33 rfl) (by decide) (by decide)) (g := (mkF m 59 #[.val (.int p1), .val (.int p2), .val (.long q3), .second, .val (.long q4), .second, .val (.int v106), .val (.int (own_max (1 : Int32) (p2 &&& (2147483647 : Int32)))), .val (.ref b109), .val (.long (0 : Int64)), .second, .unset, .unset, .unset] [(.int (own_max (1 : Int32) (p2 &&& (2147483647 : Int32)))), (.ref b188), (.ref b159), .null, (.ref a144), (.ref b128), (.ref b128), (.ref b109)])) rfl (by rw [hml]; rfl) (Steps.refl _) (a := b128) (argsL := [(.ref a144), .null, (.ref b159), (.ref b188), (.int (own_max (1 : Int32) (p2 &&& (2147483647 : Int32))))]) (rest := [(.ref b128), (.ref b109)]) (lenOf pd_11 rfl) rfl (by show 2 * 0 + _ ≤ _; exact Nat.le_of_eq rfl) (hb hby at_59) (fun _ _ => ⟨rfl, rfl, (by decide : 6 + 0 ≤ _), (by decide : 20 + 0 ≤ _)⟩)
    dsimp only [Pt.U, Pt.locs, Pt.cells, Pt.slots] at X220 l220 y220 z220 st220 hQ220
    subst l220 y220 z220
    obtain ⟨rfl, N220q, K220, f221, f222⟩ := hQ220
    have N220 := Fr.app N187 N220q
    have f223 := Nat.le_trans f200 K220.1
    have f224 := f201.keep K220 (allS ga130 all0)
    have f225 := f202.trans K220 (allS (Or.inr sz131) all0)
    have f226 := f203.keep K220
    have f227 := f204.keep K220 (ninS ne129 nin0)
    have f228 := f205.keep K220 (ninS ne129 nin0)
    have f229 := f206.keep K220 (ninS ne129 nin0)
    have f230 := Nat.le_trans f213 K220.1
    have f231 := f214.keep K220
    have f232 := f217.keep K220
    have f233 := f218.keep K220 (ninS (Ne.symm ne166) nin0)
    have f234 := f219.keep K220 (ninS (Ne.symm ne166) nin0)
    have f235 := f191.keep K220
    have f236 := f192.keep K220 (ninS (Ne.symm ne195) nin0)
    have f237 := f193.keep K220 (ninS (Ne.symm ne195) nin0)
    obtain ⟨cq238, kq238, q238a, q238b, q238c⟩ := isOf hZ144 rfl f226
    obtain ⟨_, _, ⟨T238, L238, k238, n238⟩, -, X238, ⟨Lc238, hQ238, l238, y238, z238⟩, st238⟩ := X220.interfaceBack hx (xi := (⟨"java/util/List", "add", "(Ljava/lang/Object;)Z"⟩ : MethodName)) (y := (⟨"java/util/ArrayList", "add", "(Ljava/lang/Object;)Z"⟩ : MethodName)) ho144 (mvT hZ144 (own_i hw 86 rfl)) (mvT hZ144 (own_i hw 87 rfl)) (mvT hZ144 (own_i hw 88 rfl)) (mvT hZ144 (own_i hw 89 rfl)) (mvT hZ144 (own_i hw 90 rfl)) (mvT hZ144 (own_i hw 91 rfl)) (mvT hZ144 (own_i hw 92 rfl)) (mvT hZ144 (own_i hw 93 rfl)) (by decide) (backOf (W := 0) (rmA1 l Z a0 hw [] b109 b128 wD kD T220.heap n0 f223 f227 f228 f229 f226 ga110 SD f224 VD f221 (Ne.symm ne129)) hZ144 (own_i hw 94 rfl) (own_i hw 7 rfl) (by decide) (by decide)) q238a q238b q238c (g := (mkF m 62 #[.val (.int p1), .val (.int p2), .val (.long q3), .second, .val (.long q4), .second, .val (.int v106), .val (.int (own_max (1 : Int32) (p2 &&& (2147483647 : Int32)))), .val (.ref b109), .val (.long (0 : Int64)), .second, .unset, .unset, .unset] [(.ref b128), (.ref b109)])) rfl (by rw [hml]; rfl) (Steps.refl _) (argsL := [(.ref b128)]) (rest := []) (lenOf pd_12 rfl) rfl (by show 2 * 0 + _ ≤ _; exact Nat.le_of_eq rfl) (hb hby at_62) (fun _ _ => ⟨rfl, rfl, (by decide : 6 + 1 ≤ _), (by decide : 20 + 10 ≤ _)⟩)
    dsimp only [Pt.U, Pt.locs, Pt.cells, Pt.slots] at X238 l238 y238 z238 st238 hQ238
    subst l238 y238 z238
    obtain ⟨b239, x240, rfl, N238q, K238, f241, f242, f243, f244, f245, f246⟩ := hQ238
    have N238 := Fr.app N220 N238q
    have ne247 : b109 ≠ b239 := Nat.ne_of_lt (Nat.lt_of_lt_of_le f226.lt f242)
    have ne248 : b128 ≠ b239 := Nat.ne_of_lt (Nat.lt_of_lt_of_le f221.lt f242)
    have ne249 : a144 ≠ b239 := Nat.ne_of_lt (Nat.lt_of_lt_of_le f231.lt f242)
    have ne250 : b159 ≠ b239 := Nat.ne_of_lt (Nat.lt_of_lt_of_le f232.lt f242)
    have ne251 : b188 ≠ b239 := Nat.ne_of_lt (Nat.lt_of_lt_of_le f235.lt f242)
    have sz252 : h0.size ≤ b239 := Nat.le_trans f225.1 f242
    have f253 := Nat.le_trans f223 K238.1
    have f254 := f224.keep K238 (allS ga110 all0)
    have f255 := f225.trans K238 (allS (Or.inr sz111) all0)
    have f256 := f221.keep K238
    have f257 := Nat.le_trans f230 K238.1
    have f258 := f231.keep K238
    have f259 := f232.keep K238
    have f260 := f233.keep K238 (ninS (Ne.symm ne165) nin0)
    have f261 := f234.keep K238 (ninS (Ne.symm ne165) nin0)
    have f262 := f235.keep K238
    have f263 := f236.keep K238 (ninS (Ne.symm ne194) nin0)
    have f264 := f237.keep K238 (ninS (Ne.symm ne194) nin0)
    have f265 := f222.keep K238 (ninS (Ne.symm ne129) nin0)
    obtain ⟨T266, h266, X266, e266, E266, A266, D266, -, st266⟩ := newO X238 hx hZ144 ho144 (own_i hw 118 rfl) (own_i hw 119 rfl) (own_i hw 120 rfl) rfl (g := (mkF m 73 #[.val (.int p1), .val (.int p2), .val (.long q3), .second, .val (.long q4), .second, .val (.int v106), .val (.int (own_max (1 : Int32) (p2 &&& (2147483647 : Int32)))), .val (.ref b109), .val (.long ((own_max (1 : Int32) (p2 &&& (2147483647 : Int32))).toInt64)), .second, .unset, .unset, .unset] [])) rfl (hb hby at_73) (by decide) (by decide)
    obtain ⟨b266, g266⟩ : ∃ z, z = T238.heap.size := ⟨_, rfl⟩
    rw [← g266] at A266 D266 st266
    have ne267 : b109 ≠ b266 := Nat.ne_of_lt (Nat.lt_of_lt_of_le f243.lt (Nat.le_of_eq g266.symm))
    have ne268 : b128 ≠ b266 := Nat.ne_of_lt (Nat.lt_of_lt_of_le f256.lt (Nat.le_of_eq g266.symm))
    have ne269 : a144 ≠ b266 := Nat.ne_of_lt (Nat.lt_of_lt_of_le f258.lt (Nat.le_of_eq g266.symm))
    have ne270 : b159 ≠ b266 := Nat.ne_of_lt (Nat.lt_of_lt_of_le f259.lt (Nat.le_of_eq g266.symm))
    have ne271 : b188 ≠ b266 := Nat.ne_of_lt (Nat.lt_of_lt_of_le f262.lt (Nat.le_of_eq g266.symm))
    have ne272 : b239 ≠ b266 := Nat.ne_of_lt (Nat.lt_of_lt_of_le f246.lt (Nat.le_of_eq g266.symm))
    have ga273 : n0 ≤ b266 := Nat.le_trans f253 (Nat.le_of_eq g266.symm)
    have sz274 : h0.size ≤ b266 := Nat.le_trans f255.1 (Nat.le_of_eq g266.symm)
    have f275 : Fld Z h266 b266 "com/example/lumenward/lumenward/planner/Objective" "attackWeight" "J" (.long (0 : Int64)) := D266 (Or.inr (own_i hw 162 rfl)) (ty := .long) (by decide)
    have f276 : Fld Z h266 b266 "com/example/lumenward/lumenward/planner/Objective" "fmaxWeight" "J" (.long (0 : Int64)) := D266 (Or.inr (own_i hw 164 rfl)) (ty := .long) (by decide)
    have f277 := Nat.le_trans f253 E266.1
    have f278 := f254.ext E266
    have f279 := f255.ext E266
    have f280 := f243.ext E266
    have f281 := f256.ext E266
    have f282 := Nat.le_trans f257 E266.1
    have f283 := f258.ext E266
    have f284 := f259.ext E266
    have f285 := f260.ext E266
    have f286 := f261.ext E266
    have f287 := f262.ext E266
    have f288 := f263.ext E266
    have f289 := f264.ext E266
    have f290 := f265.ext E266
    have f291 := f244.ext E266
    have f292 := f245.ext E266
    have f293 := f246.ext E266
    obtain ⟨_, _, ⟨T294, L294, k294, n294⟩, -, X294, ⟨Lc294, hQ294, l294, y294, z294⟩, st294⟩ := X266.specialBack hx (y := (⟨"com/example/lumenward/lumenward/planner/Objective", "<init>", "(Ljava/util/List;)V"⟩ : MethodName)) rfl ho144 (mvT hZ144 (own_i hw 121 rfl)) (mvT hZ144 (own_i hw 122 rfl)) (mvT hZ144 (own_i hw 123 rfl)) (by decide) (backOf (W := 1) (rmO1 l Z a0 hw [] b266 b109 b239 x240 b128 (own_max (1 : Int32) (p2 &&& (2147483647 : Int32))) h266 n0 f277 f275 f276 A266 ga273 f280 (Ne.symm ne267) f291 f292 f293 f281 f290) hZ144 (own_i hw 123 rfl) (own_i hw 120 rfl) (by decide) (by decide)) (g := (mkF m 79 #[.val (.int p1), .val (.int p2), .val (.long q3), .second, .val (.long q4), .second, .val (.int v106), .val (.int (own_max (1 : Int32) (p2 &&& (2147483647 : Int32)))), .val (.ref b109), .val (.long ((own_max (1 : Int32) (p2 &&& (2147483647 : Int32))).toInt64)), .second, .unset, .unset, .unset] [(.ref b109), (.ref b266), (.ref b266)])) rfl (by rw [hml]; rfl) (Steps.refl _) (a := b266) (argsL := [(.ref b109)]) (rest := [(.ref b266)]) (lenOf pd_13 rfl) rfl (by show 2 * 0 + _ ≤ _; exact Nat.le_of_eq rfl) (hb hby at_79) (fun _ _ => ⟨rfl, e266, (by decide : 8 + 0 ≤ _), (by decide : 32 + 0 ≤ _)⟩)
    dsimp only [Pt.U, Pt.locs, Pt.cells, Pt.slots] at X294 l294 y294 z294 st294 hQ294
    subst l294 y294 z294
    obtain ⟨rfl, N294q, K294, f295, f296, f297⟩ := hQ294
    have N294 := Fr.app N238 N294q
    have f298 := Nat.le_trans f277 K294.1
    have f299 := f278.keep K294 (allS ga273 all0)
    have f300 := f279.trans K294 (allS (Or.inr sz274) all0)
    have f301 := f280.keep K294
    have f302 := f281.keep K294
    have f303 := Nat.le_trans f282 K294.1
    have f304 := f283.keep K294
    have f305 := f284.keep K294
    have f306 := f285.keep K294 (ninS ne270 nin0)
    have f307 := f286.keep K294 (ninS ne270 nin0)
    have f308 := f287.keep K294
    have f309 := f288.keep K294 (ninS ne271 nin0)
    have f310 := f289.keep K294 (ninS ne271 nin0)
    have f311 := f290.keep K294 (ninS ne268 nin0)
    have f312 := f291.keep K294 (ninS ne267 nin0)
    have f313 := f292.keep K294 (ninS ne267 nin0)
    have f314 := f293.keep K294 (ninS ne272 nin0)
    obtain ⟨cq315, kq315, q315a, q315b, q315c⟩ := isOf hZ144 rfl f295
    obtain ⟨_, _, ⟨T315, L315, k315, n315⟩, -, X315, ⟨Lc315, hQ315, l315, y315, z315⟩, st315⟩ := X294.virtualBack hx (y := (⟨"com/example/lumenward/lumenward/planner/Objective", "of", "(JJ)J"⟩ : MethodName)) (z := (⟨"com/example/lumenward/lumenward/planner/Objective", "of", "(JJ)J"⟩ : MethodName)) ho144 (mvT hZ144 (own_i hw 165 rfl)) (mvT hZ144 (own_i hw 166 rfl)) (notFace_of_selects (args := #[]) (mvT hZ144 (own_i hw 168 rfl))) (mvT hZ144 (own_i hw 168 rfl)) (mvT hZ144 (own_i hw 167 rfl)) (by decide) (backOf (W := 0) (rmOf l Z a0 hw [] b266 q3 q4 ((0 : Int64) + ((own_max (1 : Int32) (p2 &&& (2147483647 : Int32))).toInt64)) (1 : Int64) T294.heap n0 f298 f296 f297) hZ144 (own_i hw 169 rfl) (own_i hw 120 rfl) (by decide) (by decide)) q315a q315c (g := (mkF m 98 #[.val (.int p1), .val (.int p2), .val (.long q3), .second, .val (.long q4), .second, .val (.int v106), .val (.int (own_max (1 : Int32) (p2 &&& (2147483647 : Int32)))), .val (.ref b109), .val (.long ((own_max (1 : Int32) (p2 &&& (2147483647 : Int32))).toInt64)), .second, .val (.ref b266), .val (.long ((((own_max (1 : Int32) (p2 &&& (2147483647 : Int32))).toInt64) * q3) + q4)), .second] [(.long q4), (.long q3), (.ref b266)])) rfl (by rw [hml]; rfl) (Steps.refl _) (argsL := [(.long q3), (.long q4)]) (rest := []) (lenOf pd_14 rfl) rfl (by show 2 * 0 + _ ≤ _; exact Nat.le_of_eq rfl) (hb hby at_98) (fun _ _ => ⟨rfl, rfl, (by decide : 8 + 0 ≤ _), (by decide : 32 + 0 ≤ _)⟩)
    dsimp only [Pt.U, Pt.locs, Pt.cells, Pt.slots] at X315 l315 y315 z315 st315 hQ315
    subst l315 y315 z315
    obtain ⟨rfl, N315q, e315⟩ := hQ315
    have N315 := Fr.app N294 N315q
    have hd316 : ((((0 : Int64) + ((own_max (1 : Int32) (p2 &&& (2147483647 : Int32))).toInt64)) * q3) + ((1 : Int64) * q4)) = ((((own_max (1 : Int32) (p2 &&& (2147483647 : Int32))).toInt64) * q3) + q4) := by simp
    have pre317 : ∀ t, Steps p.tables e below (T315.setTop (mkF m 112 #[.val (.int p1), .val (.int p2), .val (.long q3), .second, .val (.long q4), .second, .val (.int v106), .val (.int (own_max (1 : Int32) (p2 &&& (2147483647 : Int32)))), .val (.ref b109), .val (.long ((own_max (1 : Int32) (p2 &&& (2147483647 : Int32))).toInt64)), .second, .val (.ref b266), .val (.long ((((own_max (1 : Int32) (p2 &&& (2147483647 : Int32))).toInt64) * q3) + q4)), .second] [(.int (1 : Int32))])) t → Steps p.tables e below (s₁.setTop (entryFrame m #[(.int p1), (.int p2), (.long q3), (.long q4)] maxLocals)) t := fun t k => pre127 t (by
      show Steps p.tables e below (T118.setTop (mkF m 37 #[.val (.int p1), .val (.int p2), .val (.long q3), .second, .val (.long q4), .second, .val (.int v106), .val (.int (own_max (1 : Int32) (p2 &&& (2147483647 : Int32)))), .val (.ref b109), .val (.long (0 : Int64)), .second, .unset, .unset, .unset] [(.int v106)])) t
      refine XS.ifNo X118.here hx rfl (hb hby at_37) rfl ((if0 _ _).trans (teq hc126).2) ?_
      show Steps p.tables e below (T118.setTop (mkF m 40 #[.val (.int p1), .val (.int p2), .val (.long q3), .second, .val (.long q4), .second, .val (.int v106), .val (.int (own_max (1 : Int32) (p2 &&& (2147483647 : Int32)))), .val (.ref b109), .val (.long (0 : Int64)), .second, .unset, .unset, .unset] [])) t
      refine XS.aload X118.here hx rfl (hb hby at_40) rfl rfl ?_
      show Steps p.tables e below (T118.setTop (mkF m 42 #[.val (.int p1), .val (.int p2), .val (.long q3), .second, .val (.long q4), .second, .val (.int v106), .val (.int (own_max (1 : Int32) (p2 &&& (2147483647 : Int32)))), .val (.ref b109), .val (.long (0 : Int64)), .second, .unset, .unset, .unset] [(.ref b109)])) t
      refine st128 _ ?_
      show Steps p.tables e below (T128.setTop (mkF m 45 #[.val (.int p1), .val (.int p2), .val (.long q3), .second, .val (.long q4), .second, .val (.int v106), .val (.int (own_max (1 : Int32) (p2 &&& (2147483647 : Int32)))), .val (.ref b109), .val (.long (0 : Int64)), .second, .unset, .unset, .unset] [(.ref b128), (.ref b109)])) t
      refine XS.dup X128.here hx rfl (hb hby at_45) rfl rfl ?_
      show Steps p.tables e below (T128.setTop (mkF m 46 #[.val (.int p1), .val (.int p2), .val (.long q3), .second, .val (.long q4), .second, .val (.int v106), .val (.int (own_max (1 : Int32) (p2 &&& (2147483647 : Int32)))), .val (.ref b109), .val (.long (0 : Int64)), .second, .unset, .unset, .unset] [(.ref b128), (.ref b128), (.ref b109)])) t
      refine st144 _ ?_
      show Steps p.tables e below (T144.setTop (mkF m 48 #[.val (.int p1), .val (.int p2), .val (.long q3), .second, .val (.long q4), .second, .val (.int v106), .val (.int (own_max (1 : Int32) (p2 &&& (2147483647 : Int32)))), .val (.ref b109), .val (.long (0 : Int64)), .second, .unset, .unset, .unset] [(.ref a144), (.ref b128), (.ref b128), (.ref b109)])) t
      refine XS.aconstNull X144.here hx rfl (hb hby at_48) ?_
      show Steps p.tables e below (T144.setTop (mkF m 49 #[.val (.int p1), .val (.int p2), .val (.long q3), .second, .val (.long q4), .second, .val (.int v106), .val (.int (own_max (1 : Int32) (p2 &&& (2147483647 : Int32)))), .val (.ref b109), .val (.long (0 : Int64)), .second, .unset, .unset, .unset] [.null, (.ref a144), (.ref b128), (.ref b128), (.ref b109)])) t
      refine XS.iconst X144.here hx rfl (hb hby at_49) ?_
      show Steps p.tables e below (T144.setTop (mkF m 50 #[.val (.int p1), .val (.int p2), .val (.long q3), .second, .val (.long q4), .second, .val (.int v106), .val (.int (own_max (1 : Int32) (p2 &&& (2147483647 : Int32)))), .val (.ref b109), .val (.long (0 : Int64)), .second, .unset, .unset, .unset] [(.int (1 : Int32)), .null, (.ref a144), (.ref b128), (.ref b128), (.ref b109)])) t
      refine st158 _ ?_
      show Steps p.tables e below (T158.setTop (mkF m 53 #[.val (.int p1), .val (.int p2), .val (.long q3), .second, .val (.long q4), .second, .val (.int v106), .val (.int (own_max (1 : Int32) (p2 &&& (2147483647 : Int32)))), .val (.ref b109), .val (.long (0 : Int64)), .second, .unset, .unset, .unset] [(.ref b159), .null, (.ref a144), (.ref b128), (.ref b128), (.ref b109)])) t
      refine XS.iconst X158.here hx rfl (hb hby at_53) ?_
      show Steps p.tables e below (T158.setTop (mkF m 54 #[.val (.int p1), .val (.int p2), .val (.long q3), .second, .val (.long q4), .second, .val (.int v106), .val (.int (own_max (1 : Int32) (p2 &&& (2147483647 : Int32)))), .val (.ref b109), .val (.long (0 : Int64)), .second, .unset, .unset, .unset] [(.int (2 : Int32)), (.ref b159), .null, (.ref a144), (.ref b128), (.ref b128), (.ref b109)])) t
      refine st187 _ ?_
      show Steps p.tables e below (T187.setTop (mkF m 57 #[.val (.int p1), .val (.int p2), .val (.long q3), .second, .val (.long q4), .second, .val (.int v106), .val (.int (own_max (1 : Int32) (p2 &&& (2147483647 : Int32)))), .val (.ref b109), .val (.long (0 : Int64)), .second, .unset, .unset, .unset] [(.ref b188), (.ref b159), .null, (.ref a144), (.ref b128), (.ref b128), (.ref b109)])) t
      refine XS.iload X187.here hx rfl (hb hby at_57) rfl ?_
      show Steps p.tables e below (T187.setTop (mkF m 59 #[.val (.int p1), .val (.int p2), .val (.long q3), .second, .val (.long q4), .second, .val (.int v106), .val (.int (own_max (1 : Int32) (p2 &&& (2147483647 : Int32)))), .val (.ref b109), .val (.long (0 : Int64)), .second, .unset, .unset, .unset] [(.int (own_max (1 : Int32) (p2 &&& (2147483647 : Int32)))), (.ref b188), (.ref b159), .null, (.ref a144), (.ref b128), (.ref b128), (.ref b109)])) t
      refine st220.trans ?_
      show Steps p.tables e below (T220.setTop (mkF m 62 #[.val (.int p1), .val (.int p2), .val (.long q3), .second, .val (.long q4), .second, .val (.int v106), .val (.int (own_max (1 : Int32) (p2 &&& (2147483647 : Int32)))), .val (.ref b109), .val (.long (0 : Int64)), .second, .unset, .unset, .unset] [(.ref b128), (.ref b109)])) t
      refine st238.trans ?_
      show Steps p.tables e below (T238.setTop (mkF m 67 #[.val (.int p1), .val (.int p2), .val (.long q3), .second, .val (.long q4), .second, .val (.int v106), .val (.int (own_max (1 : Int32) (p2 &&& (2147483647 : Int32)))), .val (.ref b109), .val (.long (0 : Int64)), .second, .unset, .unset, .unset] [(.int (1 : Int32))])) t
      refine XS.pop X238.here hx rfl (hb hby at_67) rfl rfl ?_
      show Steps p.tables e below (T238.setTop (mkF m 68 #[.val (.int p1), .val (.int p2), .val (.long q3), .second, .val (.long q4), .second, .val (.int v106), .val (.int (own_max (1 : Int32) (p2 &&& (2147483647 : Int32)))), .val (.ref b109), .val (.long (0 : Int64)), .second, .unset, .unset, .unset] [])) t
      refine XS.iload X238.here hx rfl (hb hby at_68) rfl ?_
      show Steps p.tables e below (T238.setTop (mkF m 70 #[.val (.int p1), .val (.int p2), .val (.long q3), .second, .val (.long q4), .second, .val (.int v106), .val (.int (own_max (1 : Int32) (p2 &&& (2147483647 : Int32)))), .val (.ref b109), .val (.long (0 : Int64)), .second, .unset, .unset, .unset] [(.int (own_max (1 : Int32) (p2 &&& (2147483647 : Int32))))])) t
      refine XS.i2l X238.here hx rfl (hb hby at_70) rfl ?_
      show Steps p.tables e below (T238.setTop (mkF m 71 #[.val (.int p1), .val (.int p2), .val (.long q3), .second, .val (.long q4), .second, .val (.int v106), .val (.int (own_max (1 : Int32) (p2 &&& (2147483647 : Int32)))), .val (.ref b109), .val (.long (0 : Int64)), .second, .unset, .unset, .unset] [(.long ((own_max (1 : Int32) (p2 &&& (2147483647 : Int32))).toInt64))])) t
      refine XS.lstore X238.here hx rfl (hb hby at_71) rfl (l' := #[.val (.int p1), .val (.int p2), .val (.long q3), .second, .val (.long q4), .second, .val (.int v106), .val (.int (own_max (1 : Int32) (p2 &&& (2147483647 : Int32)))), .val (.ref b109), .val (.long ((own_max (1 : Int32) (p2 &&& (2147483647 : Int32))).toInt64)), .second, .unset, .unset, .unset]) rfl ?_
      show Steps p.tables e below (T238.setTop (mkF m 73 #[.val (.int p1), .val (.int p2), .val (.long q3), .second, .val (.long q4), .second, .val (.int v106), .val (.int (own_max (1 : Int32) (p2 &&& (2147483647 : Int32)))), .val (.ref b109), .val (.long ((own_max (1 : Int32) (p2 &&& (2147483647 : Int32))).toInt64)), .second, .unset, .unset, .unset] [])) t
      refine st266 _ ?_
      show Steps p.tables e below (T266.setTop (mkF m 76 #[.val (.int p1), .val (.int p2), .val (.long q3), .second, .val (.long q4), .second, .val (.int v106), .val (.int (own_max (1 : Int32) (p2 &&& (2147483647 : Int32)))), .val (.ref b109), .val (.long ((own_max (1 : Int32) (p2 &&& (2147483647 : Int32))).toInt64)), .second, .unset, .unset, .unset] [(.ref b266)])) t
      refine XS.dup X266.here hx rfl (hb hby at_76) rfl rfl ?_
      show Steps p.tables e below (T266.setTop (mkF m 77 #[.val (.int p1), .val (.int p2), .val (.long q3), .second, .val (.long q4), .second, .val (.int v106), .val (.int (own_max (1 : Int32) (p2 &&& (2147483647 : Int32)))), .val (.ref b109), .val (.long ((own_max (1 : Int32) (p2 &&& (2147483647 : Int32))).toInt64)), .second, .unset, .unset, .unset] [(.ref b266), (.ref b266)])) t
      refine XS.aload X266.here hx rfl (hb hby at_77) rfl rfl ?_
      show Steps p.tables e below (T266.setTop (mkF m 79 #[.val (.int p1), .val (.int p2), .val (.long q3), .second, .val (.long q4), .second, .val (.int v106), .val (.int (own_max (1 : Int32) (p2 &&& (2147483647 : Int32)))), .val (.ref b109), .val (.long ((own_max (1 : Int32) (p2 &&& (2147483647 : Int32))).toInt64)), .second, .unset, .unset, .unset] [(.ref b109), (.ref b266), (.ref b266)])) t
      refine st294.trans ?_
      show Steps p.tables e below (T294.setTop (mkF m 82 #[.val (.int p1), .val (.int p2), .val (.long q3), .second, .val (.long q4), .second, .val (.int v106), .val (.int (own_max (1 : Int32) (p2 &&& (2147483647 : Int32)))), .val (.ref b109), .val (.long ((own_max (1 : Int32) (p2 &&& (2147483647 : Int32))).toInt64)), .second, .unset, .unset, .unset] [(.ref b266)])) t
      refine XS.astore X294.here hx rfl (hb hby at_82) rfl rfl (l' := #[.val (.int p1), .val (.int p2), .val (.long q3), .second, .val (.long q4), .second, .val (.int v106), .val (.int (own_max (1 : Int32) (p2 &&& (2147483647 : Int32)))), .val (.ref b109), .val (.long ((own_max (1 : Int32) (p2 &&& (2147483647 : Int32))).toInt64)), .second, .val (.ref b266), .unset, .unset]) rfl ?_
      show Steps p.tables e below (T294.setTop (mkF m 84 #[.val (.int p1), .val (.int p2), .val (.long q3), .second, .val (.long q4), .second, .val (.int v106), .val (.int (own_max (1 : Int32) (p2 &&& (2147483647 : Int32)))), .val (.ref b109), .val (.long ((own_max (1 : Int32) (p2 &&& (2147483647 : Int32))).toInt64)), .second, .val (.ref b266), .unset, .unset] [])) t
      refine XS.lload X294.here hx rfl (hb hby at_84) rfl ?_
      show Steps p.tables e below (T294.setTop (mkF m 86 #[.val (.int p1), .val (.int p2), .val (.long q3), .second, .val (.long q4), .second, .val (.int v106), .val (.int (own_max (1 : Int32) (p2 &&& (2147483647 : Int32)))), .val (.ref b109), .val (.long ((own_max (1 : Int32) (p2 &&& (2147483647 : Int32))).toInt64)), .second, .val (.ref b266), .unset, .unset] [(.long ((own_max (1 : Int32) (p2 &&& (2147483647 : Int32))).toInt64))])) t
      refine XS.lloadN X294.here hx rfl (hb hby at_86) rfl ?_
      show Steps p.tables e below (T294.setTop (mkF m 87 #[.val (.int p1), .val (.int p2), .val (.long q3), .second, .val (.long q4), .second, .val (.int v106), .val (.int (own_max (1 : Int32) (p2 &&& (2147483647 : Int32)))), .val (.ref b109), .val (.long ((own_max (1 : Int32) (p2 &&& (2147483647 : Int32))).toInt64)), .second, .val (.ref b266), .unset, .unset] [(.long q3), (.long ((own_max (1 : Int32) (p2 &&& (2147483647 : Int32))).toInt64))])) t
      refine XS.lmul X294.here hx rfl (hb hby at_87) rfl ?_
      show Steps p.tables e below (T294.setTop (mkF m 88 #[.val (.int p1), .val (.int p2), .val (.long q3), .second, .val (.long q4), .second, .val (.int v106), .val (.int (own_max (1 : Int32) (p2 &&& (2147483647 : Int32)))), .val (.ref b109), .val (.long ((own_max (1 : Int32) (p2 &&& (2147483647 : Int32))).toInt64)), .second, .val (.ref b266), .unset, .unset] [(.long (((own_max (1 : Int32) (p2 &&& (2147483647 : Int32))).toInt64) * q3))])) t
      refine XS.lload X294.here hx rfl (hb hby at_88) rfl ?_
      show Steps p.tables e below (T294.setTop (mkF m 90 #[.val (.int p1), .val (.int p2), .val (.long q3), .second, .val (.long q4), .second, .val (.int v106), .val (.int (own_max (1 : Int32) (p2 &&& (2147483647 : Int32)))), .val (.ref b109), .val (.long ((own_max (1 : Int32) (p2 &&& (2147483647 : Int32))).toInt64)), .second, .val (.ref b266), .unset, .unset] [(.long q4), (.long (((own_max (1 : Int32) (p2 &&& (2147483647 : Int32))).toInt64) * q3))])) t
      refine XS.ladd X294.here hx rfl (hb hby at_90) rfl ?_
      show Steps p.tables e below (T294.setTop (mkF m 91 #[.val (.int p1), .val (.int p2), .val (.long q3), .second, .val (.long q4), .second, .val (.int v106), .val (.int (own_max (1 : Int32) (p2 &&& (2147483647 : Int32)))), .val (.ref b109), .val (.long ((own_max (1 : Int32) (p2 &&& (2147483647 : Int32))).toInt64)), .second, .val (.ref b266), .unset, .unset] [(.long ((((own_max (1 : Int32) (p2 &&& (2147483647 : Int32))).toInt64) * q3) + q4))])) t
      refine XS.lstore X294.here hx rfl (hb hby at_91) rfl (l' := #[.val (.int p1), .val (.int p2), .val (.long q3), .second, .val (.long q4), .second, .val (.int v106), .val (.int (own_max (1 : Int32) (p2 &&& (2147483647 : Int32)))), .val (.ref b109), .val (.long ((own_max (1 : Int32) (p2 &&& (2147483647 : Int32))).toInt64)), .second, .val (.ref b266), .val (.long ((((own_max (1 : Int32) (p2 &&& (2147483647 : Int32))).toInt64) * q3) + q4)), .second]) rfl ?_
      show Steps p.tables e below (T294.setTop (mkF m 93 #[.val (.int p1), .val (.int p2), .val (.long q3), .second, .val (.long q4), .second, .val (.int v106), .val (.int (own_max (1 : Int32) (p2 &&& (2147483647 : Int32)))), .val (.ref b109), .val (.long ((own_max (1 : Int32) (p2 &&& (2147483647 : Int32))).toInt64)), .second, .val (.ref b266), .val (.long ((((own_max (1 : Int32) (p2 &&& (2147483647 : Int32))).toInt64) * q3) + q4)), .second] [])) t
      refine XS.aload X294.here hx rfl (hb hby at_93) rfl rfl ?_
      show Steps p.tables e below (T294.setTop (mkF m 95 #[.val (.int p1), .val (.int p2), .val (.long q3), .second, .val (.long q4), .second, .val (.int v106), .val (.int (own_max (1 : Int32) (p2 &&& (2147483647 : Int32)))), .val (.ref b109), .val (.long ((own_max (1 : Int32) (p2 &&& (2147483647 : Int32))).toInt64)), .second, .val (.ref b266), .val (.long ((((own_max (1 : Int32) (p2 &&& (2147483647 : Int32))).toInt64) * q3) + q4)), .second] [(.ref b266)])) t
      refine XS.lloadN X294.here hx rfl (hb hby at_95) rfl ?_
      show Steps p.tables e below (T294.setTop (mkF m 96 #[.val (.int p1), .val (.int p2), .val (.long q3), .second, .val (.long q4), .second, .val (.int v106), .val (.int (own_max (1 : Int32) (p2 &&& (2147483647 : Int32)))), .val (.ref b109), .val (.long ((own_max (1 : Int32) (p2 &&& (2147483647 : Int32))).toInt64)), .second, .val (.ref b266), .val (.long ((((own_max (1 : Int32) (p2 &&& (2147483647 : Int32))).toInt64) * q3) + q4)), .second] [(.long q3), (.ref b266)])) t
      refine XS.lload X294.here hx rfl (hb hby at_96) rfl ?_
      show Steps p.tables e below (T294.setTop (mkF m 98 #[.val (.int p1), .val (.int p2), .val (.long q3), .second, .val (.long q4), .second, .val (.int v106), .val (.int (own_max (1 : Int32) (p2 &&& (2147483647 : Int32)))), .val (.ref b109), .val (.long ((own_max (1 : Int32) (p2 &&& (2147483647 : Int32))).toInt64)), .second, .val (.ref b266), .val (.long ((((own_max (1 : Int32) (p2 &&& (2147483647 : Int32))).toInt64) * q3) + q4)), .second] [(.long q4), (.long q3), (.ref b266)])) t
      refine st315.trans ?_
      show Steps p.tables e below (T315.setTop (mkF m 101 #[.val (.int p1), .val (.int p2), .val (.long q3), .second, .val (.long q4), .second, .val (.int v106), .val (.int (own_max (1 : Int32) (p2 &&& (2147483647 : Int32)))), .val (.ref b109), .val (.long ((own_max (1 : Int32) (p2 &&& (2147483647 : Int32))).toInt64)), .second, .val (.ref b266), .val (.long ((((own_max (1 : Int32) (p2 &&& (2147483647 : Int32))).toInt64) * q3) + q4)), .second] [(.long ((((0 : Int64) + ((own_max (1 : Int32) (p2 &&& (2147483647 : Int32))).toInt64)) * q3) + ((1 : Int64) * q4)))])) t
      refine XS.lload X315.here hx rfl (hb hby at_101) rfl ?_
      show Steps p.tables e below (T315.setTop (mkF m 103 #[.val (.int p1), .val (.int p2), .val (.long q3), .second, .val (.long q4), .second, .val (.int v106), .val (.int (own_max (1 : Int32) (p2 &&& (2147483647 : Int32)))), .val (.ref b109), .val (.long ((own_max (1 : Int32) (p2 &&& (2147483647 : Int32))).toInt64)), .second, .val (.ref b266), .val (.long ((((own_max (1 : Int32) (p2 &&& (2147483647 : Int32))).toInt64) * q3) + q4)), .second] [(.long ((((own_max (1 : Int32) (p2 &&& (2147483647 : Int32))).toInt64) * q3) + q4)), (.long ((((0 : Int64) + ((own_max (1 : Int32) (p2 &&& (2147483647 : Int32))).toInt64)) * q3) + ((1 : Int64) * q4)))])) t
      refine XS.lcmp X315.here hx rfl (hb hby at_103) rfl ?_
      show Steps p.tables e below (T315.setTop (mkF m 104 #[.val (.int p1), .val (.int p2), .val (.long q3), .second, .val (.long q4), .second, .val (.int v106), .val (.int (own_max (1 : Int32) (p2 &&& (2147483647 : Int32)))), .val (.ref b109), .val (.long ((own_max (1 : Int32) (p2 &&& (2147483647 : Int32))).toInt64)), .second, .val (.ref b266), .val (.long ((((own_max (1 : Int32) (p2 &&& (2147483647 : Int32))).toInt64) * q3) + q4)), .second] [(.int (lcmpW ((((0 : Int64) + ((own_max (1 : Int32) (p2 &&& (2147483647 : Int32))).toInt64)) * q3) + ((1 : Int64) * q4)) ((((own_max (1 : Int32) (p2 &&& (2147483647 : Int32))).toInt64) * q3) + q4)))])) t
      refine XS.ifNo X315.here hx rfl (hb hby at_104) rfl ((if0 _ _).trans (teq (show (lcmpW ((((0 : Int64) + ((own_max (1 : Int32) (p2 &&& (2147483647 : Int32))).toInt64)) * q3) + ((1 : Int64) * q4)) ((((own_max (1 : Int32) (p2 &&& (2147483647 : Int32))).toInt64) * q3) + q4)) = (0 : Int32) by rw [lcW]; exact (lc_eq _ _).mpr hd316)).2) ?_
      show Steps p.tables e below (T315.setTop (mkF m 107 #[.val (.int p1), .val (.int p2), .val (.long q3), .second, .val (.long q4), .second, .val (.int v106), .val (.int (own_max (1 : Int32) (p2 &&& (2147483647 : Int32)))), .val (.ref b109), .val (.long ((own_max (1 : Int32) (p2 &&& (2147483647 : Int32))).toInt64)), .second, .val (.ref b266), .val (.long ((((own_max (1 : Int32) (p2 &&& (2147483647 : Int32))).toInt64) * q3) + q4)), .second] [])) t
      refine XS.iconst X315.here hx rfl (hb hby at_107) ?_
      show Steps p.tables e below (T315.setTop (mkF m 108 #[.val (.int p1), .val (.int p2), .val (.long q3), .second, .val (.long q4), .second, .val (.int v106), .val (.int (own_max (1 : Int32) (p2 &&& (2147483647 : Int32)))), .val (.ref b109), .val (.long ((own_max (1 : Int32) (p2 &&& (2147483647 : Int32))).toInt64)), .second, .val (.ref b266), .val (.long ((((own_max (1 : Int32) (p2 &&& (2147483647 : Int32))).toInt64) * q3) + q4)), .second] [(.int (1 : Int32))])) t
      refine XS.goto X315.here hx rfl (pc0 := 108) (pc' := 112) rfl (hb hby at_108) (by decide) (by decide) ?_
      exact k)
    obtain ⟨fs, hr, hrun, hended, hRW⟩ := X315.leaveW hS144 (by rw [e315]; exact f303) (v := some (.int (1 : Int32))) (fun h => by rw [Bd.returns] at h; cases h)
    refine ⟨_, _, pre317 _ ?_, hrun, hended, _, _, rfl, ?_, hRW.1, hRW.2.1, hRW.2.2.1, hRW.2.2.2.mono (by decide) (by decide)⟩
    · exact retN X315 hx (t := .boolean) Bd.returns (by simp) (hb hby at_112) hr
    · show Q0 Z p1 p2 q3 q4 wD kD h0 n0 _ T315.heap _
      rw [e315]
      exact ⟨rfl, N315⟩
  · obtain ⟨T318, h318, X318, e318, E318, A318, D318, -, st318⟩ := newO X118 hx hZ hown (own_i hw 118 rfl) (own_i hw 119 rfl) (own_i hw 120 rfl) rfl (g := (mkF m 73 #[.val (.int p1), .val (.int p2), .val (.long q3), .second, .val (.long q4), .second, .val (.int v106), .val (.int (own_max (1 : Int32) (p2 &&& (2147483647 : Int32)))), .val (.ref b109), .val (.long (0 : Int64)), .second, .unset, .unset, .unset] [])) rfl (hb hby at_73) (by decide) (by decide)
    obtain ⟨b318, g318⟩ : ∃ z, z = T118.heap.size := ⟨_, rfl⟩
    rw [← g318] at A318 D318 st318
    have ne319 : b109 ≠ b318 := Nat.ne_of_lt (Nat.lt_of_lt_of_le f119.lt (Nat.le_of_eq g318.symm))
    have ga320 : n0 ≤ b318 := Nat.le_trans f123 (Nat.le_of_eq g318.symm)
    have sz321 : h0.size ≤ b318 := Nat.le_trans f125.1 (Nat.le_of_eq g318.symm)
    have f322 : Fld Z h318 b318 "com/example/lumenward/lumenward/planner/Objective" "attackWeight" "J" (.long (0 : Int64)) := D318 (Or.inr (own_i hw 162 rfl)) (ty := .long) (by decide)
    have f323 : Fld Z h318 b318 "com/example/lumenward/lumenward/planner/Objective" "fmaxWeight" "J" (.long (0 : Int64)) := D318 (Or.inr (own_i hw 164 rfl)) (ty := .long) (by decide)
    have f324 := Nat.le_trans f123 E318.1
    have f325 := f124.ext E318
    have f326 := f125.ext E318
    have f327 := f119.ext E318
    have f328 := f120.ext E318
    have f329 := f121.ext E318
    have f330 := f122.ext E318
    obtain ⟨_, _, ⟨T331, L331, k331, n331⟩, -, X331, ⟨Lc331, hQ331, l331, y331, z331⟩, st331⟩ := X318.specialBack hx (y := (⟨"com/example/lumenward/lumenward/planner/Objective", "<init>", "(Ljava/util/List;)V"⟩ : MethodName)) rfl hown (mvT hZ (own_i hw 121 rfl)) (mvT hZ (own_i hw 122 rfl)) (mvT hZ (own_i hw 123 rfl)) (by decide) (backOf (W := 1) (rmO0 l Z a0 hw [] b318 b109 h318 n0 f324 f322 f323 A318 ga320 f327 (Ne.symm ne319) f329) hZ (own_i hw 123 rfl) (own_i hw 120 rfl) (by decide) (by decide)) (g := (mkF m 79 #[.val (.int p1), .val (.int p2), .val (.long q3), .second, .val (.long q4), .second, .val (.int v106), .val (.int (own_max (1 : Int32) (p2 &&& (2147483647 : Int32)))), .val (.ref b109), .val (.long (0 : Int64)), .second, .unset, .unset, .unset] [(.ref b109), (.ref b318), (.ref b318)])) rfl (by rw [hml]; rfl) (Steps.refl _) (a := b318) (argsL := [(.ref b109)]) (rest := [(.ref b318)]) (lenOf pd_13 rfl) rfl (by show 2 * 0 + _ ≤ _; exact Nat.le_of_eq rfl) (hb hby at_79) (fun _ _ => ⟨rfl, e318, (by decide : 2 + 0 ≤ _), (by decide : 5 + 0 ≤ _)⟩)
    dsimp only [Pt.U, Pt.locs, Pt.cells, Pt.slots] at X331 l331 y331 z331 st331 hQ331
    subst l331 y331 z331
    obtain ⟨rfl, N331q, K331, f332, f333, f334⟩ := hQ331
    have N331 := Fr.app N118 N331q
    have f335 := Nat.le_trans f324 K331.1
    have f336 := f325.keep K331 (allS ga320 all0)
    have f337 := f326.trans K331 (allS (Or.inr sz321) all0)
    have f338 := f327.keep K331
    have f339 := f328.keep K331 (ninS ne319 nin0)
    have f340 := f329.keep K331 (ninS ne319 nin0)
    have f341 := f330.keep K331 (ninS ne319 nin0)
    obtain ⟨cq342, kq342, q342a, q342b, q342c⟩ := isOf hZ rfl f332
    obtain ⟨_, _, ⟨T342, L342, k342, n342⟩, -, X342, ⟨Lc342, hQ342, l342, y342, z342⟩, st342⟩ := X331.virtualBack hx (y := (⟨"com/example/lumenward/lumenward/planner/Objective", "of", "(JJ)J"⟩ : MethodName)) (z := (⟨"com/example/lumenward/lumenward/planner/Objective", "of", "(JJ)J"⟩ : MethodName)) hown (mvT hZ (own_i hw 165 rfl)) (mvT hZ (own_i hw 166 rfl)) (notFace_of_selects (args := #[]) (mvT hZ (own_i hw 168 rfl))) (mvT hZ (own_i hw 168 rfl)) (mvT hZ (own_i hw 167 rfl)) (by decide) (backOf (W := 0) (rmOf l Z a0 hw [] b318 q3 q4 (0 : Int64) (1 : Int64) T331.heap n0 f335 f333 f334) hZ (own_i hw 169 rfl) (own_i hw 120 rfl) (by decide) (by decide)) q342a q342c (g := (mkF m 98 #[.val (.int p1), .val (.int p2), .val (.long q3), .second, .val (.long q4), .second, .val (.int v106), .val (.int (own_max (1 : Int32) (p2 &&& (2147483647 : Int32)))), .val (.ref b109), .val (.long (0 : Int64)), .second, .val (.ref b318), .val (.long (((0 : Int64) * q3) + q4)), .second] [(.long q4), (.long q3), (.ref b318)])) rfl (by rw [hml]; rfl) (Steps.refl _) (argsL := [(.long q3), (.long q4)]) (rest := []) (lenOf pd_14 rfl) rfl (by show 2 * 0 + _ ≤ _; exact Nat.le_of_eq rfl) (hb hby at_98) (fun _ _ => ⟨rfl, rfl, (by decide : 2 + 0 ≤ _), (by decide : 5 + 0 ≤ _)⟩)
    dsimp only [Pt.U, Pt.locs, Pt.cells, Pt.slots] at X342 l342 y342 z342 st342 hQ342
    subst l342 y342 z342
    obtain ⟨rfl, N342q, e342⟩ := hQ342
    have N342 := Fr.app N331 N342q
    have hd343 : (((0 : Int64) * q3) + ((1 : Int64) * q4)) = (((0 : Int64) * q3) + q4) := by simp
    have pre344 : ∀ t, Steps p.tables e below (T342.setTop (mkF m 112 #[.val (.int p1), .val (.int p2), .val (.long q3), .second, .val (.long q4), .second, .val (.int v106), .val (.int (own_max (1 : Int32) (p2 &&& (2147483647 : Int32)))), .val (.ref b109), .val (.long (0 : Int64)), .second, .val (.ref b318), .val (.long (((0 : Int64) * q3) + q4)), .second] [(.int (1 : Int32))])) t → Steps p.tables e below (s₁.setTop (entryFrame m #[(.int p1), (.int p2), (.long q3), (.long q4)] maxLocals)) t := fun t k => pre127 t (by
      show Steps p.tables e below (T118.setTop (mkF m 37 #[.val (.int p1), .val (.int p2), .val (.long q3), .second, .val (.long q4), .second, .val (.int v106), .val (.int (own_max (1 : Int32) (p2 &&& (2147483647 : Int32)))), .val (.ref b109), .val (.long (0 : Int64)), .second, .unset, .unset, .unset] [(.int v106)])) t
      refine XS.ifYes X118.here hx rfl (pc0 := 37) (pc' := 73) rfl (hb hby at_37) rfl ((if0 _ _).trans (feq hc126).2) (by decide) (by decide) ?_
      show Steps p.tables e below (T118.setTop (mkF m 73 #[.val (.int p1), .val (.int p2), .val (.long q3), .second, .val (.long q4), .second, .val (.int v106), .val (.int (own_max (1 : Int32) (p2 &&& (2147483647 : Int32)))), .val (.ref b109), .val (.long (0 : Int64)), .second, .unset, .unset, .unset] [])) t
      refine st318 _ ?_
      show Steps p.tables e below (T318.setTop (mkF m 76 #[.val (.int p1), .val (.int p2), .val (.long q3), .second, .val (.long q4), .second, .val (.int v106), .val (.int (own_max (1 : Int32) (p2 &&& (2147483647 : Int32)))), .val (.ref b109), .val (.long (0 : Int64)), .second, .unset, .unset, .unset] [(.ref b318)])) t
      refine XS.dup X318.here hx rfl (hb hby at_76) rfl rfl ?_
      show Steps p.tables e below (T318.setTop (mkF m 77 #[.val (.int p1), .val (.int p2), .val (.long q3), .second, .val (.long q4), .second, .val (.int v106), .val (.int (own_max (1 : Int32) (p2 &&& (2147483647 : Int32)))), .val (.ref b109), .val (.long (0 : Int64)), .second, .unset, .unset, .unset] [(.ref b318), (.ref b318)])) t
      refine XS.aload X318.here hx rfl (hb hby at_77) rfl rfl ?_
      show Steps p.tables e below (T318.setTop (mkF m 79 #[.val (.int p1), .val (.int p2), .val (.long q3), .second, .val (.long q4), .second, .val (.int v106), .val (.int (own_max (1 : Int32) (p2 &&& (2147483647 : Int32)))), .val (.ref b109), .val (.long (0 : Int64)), .second, .unset, .unset, .unset] [(.ref b109), (.ref b318), (.ref b318)])) t
      refine st331.trans ?_
      show Steps p.tables e below (T331.setTop (mkF m 82 #[.val (.int p1), .val (.int p2), .val (.long q3), .second, .val (.long q4), .second, .val (.int v106), .val (.int (own_max (1 : Int32) (p2 &&& (2147483647 : Int32)))), .val (.ref b109), .val (.long (0 : Int64)), .second, .unset, .unset, .unset] [(.ref b318)])) t
      refine XS.astore X331.here hx rfl (hb hby at_82) rfl rfl (l' := #[.val (.int p1), .val (.int p2), .val (.long q3), .second, .val (.long q4), .second, .val (.int v106), .val (.int (own_max (1 : Int32) (p2 &&& (2147483647 : Int32)))), .val (.ref b109), .val (.long (0 : Int64)), .second, .val (.ref b318), .unset, .unset]) rfl ?_
      show Steps p.tables e below (T331.setTop (mkF m 84 #[.val (.int p1), .val (.int p2), .val (.long q3), .second, .val (.long q4), .second, .val (.int v106), .val (.int (own_max (1 : Int32) (p2 &&& (2147483647 : Int32)))), .val (.ref b109), .val (.long (0 : Int64)), .second, .val (.ref b318), .unset, .unset] [])) t
      refine XS.lload X331.here hx rfl (hb hby at_84) rfl ?_
      show Steps p.tables e below (T331.setTop (mkF m 86 #[.val (.int p1), .val (.int p2), .val (.long q3), .second, .val (.long q4), .second, .val (.int v106), .val (.int (own_max (1 : Int32) (p2 &&& (2147483647 : Int32)))), .val (.ref b109), .val (.long (0 : Int64)), .second, .val (.ref b318), .unset, .unset] [(.long (0 : Int64))])) t
      refine XS.lloadN X331.here hx rfl (hb hby at_86) rfl ?_
      show Steps p.tables e below (T331.setTop (mkF m 87 #[.val (.int p1), .val (.int p2), .val (.long q3), .second, .val (.long q4), .second, .val (.int v106), .val (.int (own_max (1 : Int32) (p2 &&& (2147483647 : Int32)))), .val (.ref b109), .val (.long (0 : Int64)), .second, .val (.ref b318), .unset, .unset] [(.long q3), (.long (0 : Int64))])) t
      refine XS.lmul X331.here hx rfl (hb hby at_87) rfl ?_
      show Steps p.tables e below (T331.setTop (mkF m 88 #[.val (.int p1), .val (.int p2), .val (.long q3), .second, .val (.long q4), .second, .val (.int v106), .val (.int (own_max (1 : Int32) (p2 &&& (2147483647 : Int32)))), .val (.ref b109), .val (.long (0 : Int64)), .second, .val (.ref b318), .unset, .unset] [(.long ((0 : Int64) * q3))])) t
      refine XS.lload X331.here hx rfl (hb hby at_88) rfl ?_
      show Steps p.tables e below (T331.setTop (mkF m 90 #[.val (.int p1), .val (.int p2), .val (.long q3), .second, .val (.long q4), .second, .val (.int v106), .val (.int (own_max (1 : Int32) (p2 &&& (2147483647 : Int32)))), .val (.ref b109), .val (.long (0 : Int64)), .second, .val (.ref b318), .unset, .unset] [(.long q4), (.long ((0 : Int64) * q3))])) t
      refine XS.ladd X331.here hx rfl (hb hby at_90) rfl ?_
      show Steps p.tables e below (T331.setTop (mkF m 91 #[.val (.int p1), .val (.int p2), .val (.long q3), .second, .val (.long q4), .second, .val (.int v106), .val (.int (own_max (1 : Int32) (p2 &&& (2147483647 : Int32)))), .val (.ref b109), .val (.long (0 : Int64)), .second, .val (.ref b318), .unset, .unset] [(.long (((0 : Int64) * q3) + q4))])) t
      refine XS.lstore X331.here hx rfl (hb hby at_91) rfl (l' := #[.val (.int p1), .val (.int p2), .val (.long q3), .second, .val (.long q4), .second, .val (.int v106), .val (.int (own_max (1 : Int32) (p2 &&& (2147483647 : Int32)))), .val (.ref b109), .val (.long (0 : Int64)), .second, .val (.ref b318), .val (.long (((0 : Int64) * q3) + q4)), .second]) rfl ?_
      show Steps p.tables e below (T331.setTop (mkF m 93 #[.val (.int p1), .val (.int p2), .val (.long q3), .second, .val (.long q4), .second, .val (.int v106), .val (.int (own_max (1 : Int32) (p2 &&& (2147483647 : Int32)))), .val (.ref b109), .val (.long (0 : Int64)), .second, .val (.ref b318), .val (.long (((0 : Int64) * q3) + q4)), .second] [])) t
      refine XS.aload X331.here hx rfl (hb hby at_93) rfl rfl ?_
      show Steps p.tables e below (T331.setTop (mkF m 95 #[.val (.int p1), .val (.int p2), .val (.long q3), .second, .val (.long q4), .second, .val (.int v106), .val (.int (own_max (1 : Int32) (p2 &&& (2147483647 : Int32)))), .val (.ref b109), .val (.long (0 : Int64)), .second, .val (.ref b318), .val (.long (((0 : Int64) * q3) + q4)), .second] [(.ref b318)])) t
      refine XS.lloadN X331.here hx rfl (hb hby at_95) rfl ?_
      show Steps p.tables e below (T331.setTop (mkF m 96 #[.val (.int p1), .val (.int p2), .val (.long q3), .second, .val (.long q4), .second, .val (.int v106), .val (.int (own_max (1 : Int32) (p2 &&& (2147483647 : Int32)))), .val (.ref b109), .val (.long (0 : Int64)), .second, .val (.ref b318), .val (.long (((0 : Int64) * q3) + q4)), .second] [(.long q3), (.ref b318)])) t
      refine XS.lload X331.here hx rfl (hb hby at_96) rfl ?_
      show Steps p.tables e below (T331.setTop (mkF m 98 #[.val (.int p1), .val (.int p2), .val (.long q3), .second, .val (.long q4), .second, .val (.int v106), .val (.int (own_max (1 : Int32) (p2 &&& (2147483647 : Int32)))), .val (.ref b109), .val (.long (0 : Int64)), .second, .val (.ref b318), .val (.long (((0 : Int64) * q3) + q4)), .second] [(.long q4), (.long q3), (.ref b318)])) t
      refine st342.trans ?_
      show Steps p.tables e below (T342.setTop (mkF m 101 #[.val (.int p1), .val (.int p2), .val (.long q3), .second, .val (.long q4), .second, .val (.int v106), .val (.int (own_max (1 : Int32) (p2 &&& (2147483647 : Int32)))), .val (.ref b109), .val (.long (0 : Int64)), .second, .val (.ref b318), .val (.long (((0 : Int64) * q3) + q4)), .second] [(.long (((0 : Int64) * q3) + ((1 : Int64) * q4)))])) t
      refine XS.lload X342.here hx rfl (hb hby at_101) rfl ?_
      show Steps p.tables e below (T342.setTop (mkF m 103 #[.val (.int p1), .val (.int p2), .val (.long q3), .second, .val (.long q4), .second, .val (.int v106), .val (.int (own_max (1 : Int32) (p2 &&& (2147483647 : Int32)))), .val (.ref b109), .val (.long (0 : Int64)), .second, .val (.ref b318), .val (.long (((0 : Int64) * q3) + q4)), .second] [(.long (((0 : Int64) * q3) + q4)), (.long (((0 : Int64) * q3) + ((1 : Int64) * q4)))])) t
      refine XS.lcmp X342.here hx rfl (hb hby at_103) rfl ?_
      show Steps p.tables e below (T342.setTop (mkF m 104 #[.val (.int p1), .val (.int p2), .val (.long q3), .second, .val (.long q4), .second, .val (.int v106), .val (.int (own_max (1 : Int32) (p2 &&& (2147483647 : Int32)))), .val (.ref b109), .val (.long (0 : Int64)), .second, .val (.ref b318), .val (.long (((0 : Int64) * q3) + q4)), .second] [(.int (lcmpW (((0 : Int64) * q3) + ((1 : Int64) * q4)) (((0 : Int64) * q3) + q4)))])) t
      refine XS.ifNo X342.here hx rfl (hb hby at_104) rfl ((if0 _ _).trans (teq (show (lcmpW (((0 : Int64) * q3) + ((1 : Int64) * q4)) (((0 : Int64) * q3) + q4)) = (0 : Int32) by rw [lcW]; exact (lc_eq _ _).mpr hd343)).2) ?_
      show Steps p.tables e below (T342.setTop (mkF m 107 #[.val (.int p1), .val (.int p2), .val (.long q3), .second, .val (.long q4), .second, .val (.int v106), .val (.int (own_max (1 : Int32) (p2 &&& (2147483647 : Int32)))), .val (.ref b109), .val (.long (0 : Int64)), .second, .val (.ref b318), .val (.long (((0 : Int64) * q3) + q4)), .second] [])) t
      refine XS.iconst X342.here hx rfl (hb hby at_107) ?_
      show Steps p.tables e below (T342.setTop (mkF m 108 #[.val (.int p1), .val (.int p2), .val (.long q3), .second, .val (.long q4), .second, .val (.int v106), .val (.int (own_max (1 : Int32) (p2 &&& (2147483647 : Int32)))), .val (.ref b109), .val (.long (0 : Int64)), .second, .val (.ref b318), .val (.long (((0 : Int64) * q3) + q4)), .second] [(.int (1 : Int32))])) t
      refine XS.goto X342.here hx rfl (pc0 := 108) (pc' := 112) rfl (hb hby at_108) (by decide) (by decide) ?_
      exact k)
    obtain ⟨fs, hr, hrun, hended, hW, hsame⟩ := X342.leave (v := some (.int (1 : Int32))) (fun h => by rw [Bd.returns] at h; cases h)
    refine ⟨_, _, pre344 _ ?_, hrun, hended, _, _, rfl, ?_, ReturnedEndW.of_narrow ⟨_, rfl⟩ hW (hsame.mono (by decide) (by decide))⟩
    · exact retN X342 hx (t := .boolean) Bd.returns (by simp) (hb hby at_112) hr
    · show Q0 Z p1 p2 q3 q4 wD kD h0 n0 _ T342.heap _
      rw [e342]
      exact ⟨rfl, N342⟩
theorem own_arr0 {args : Array Value} {s : State} {t : Jvm.Term} {K : String} {w : Addr} (hf : Fit s) (ht : t.eval args s none [] s = some (.ref w)) (h1 : (Jvm.Cond.arrayOf t (.object K)).value args s none s [] = some true) (h2 : (Jvm.Cond.eq (Jvm.Term.length t) (Jvm.Term.int (0 : Int32))).value args s none s [] = some true) : ∃ k, Arv s s.heap w k (.object K) (0 : Int32) [] .null := by
  obtain ⟨c, A⟩ := Arr.start ht h1
  have fa := A.fin (Vm.Alike.refl _)
  have e := eqv_i (Term.int_eval (0)) h2
  have hl : c.slots.size < 2 ^ 31 := by
    by_cases q : c.slots.size < 2 ^ 31
    · exact q
    · simp [Term.eval, ht, fa, q] at e
  have e2 := (len_f ht fa hl).symm.trans e
  have e3 : c.slots.size.toInt32 = 0 := by injection e2 with e2; injection e2
  exact ⟨c.cls, Arv.start hf A hl e3 (by decide) rfl trivial⟩
set_option maxRecDepth 65536 in
set_option maxHeartbeats 40000000 in
theorem comes_1 {Post : Tables → Env → Array Value → State → Outcome → State → Prop} (hpost : ∀ tb e args s v u, (limb_1_1.after args s (.returned v) u = true ∧ limb_1_2.after args s (.returned v) u = true ∧ True) → ReturnedEndW s (.returned v) u (Jvm.fieldLocs frame_1_writes args s ++ Jvm.arrayLocs frame_1_arrays args s ++ Jvm.staticLocs frame_1_statics s) 24 1152 → Post tb e args s (.returned v) u) :
    ArmFor flags0 classFile x code maxLocals ret World_1 tables_1 room_1 Calls_1 rest_1 Pre_1 Post := by
  intro l hfl _ _ p e ha hc hk s m args below hf hA hF happ hP
  obtain ⟨hcalls, hrest, hpre⟩ := hP
  obtain ⟨-, -, -, hnamed, -, -, -, hat⟩ := (Spec.applies_iff hf).mp happ
  obtain ⟨hg, hn⟩ := and_e (Cond.before_iff.mp (show (Jvm.Cond.and given_1 narrow_1).before args s = true from hpre))
  obtain ⟨hga, hgb⟩ := and_e hg
  obtain ⟨hgba, hgbb⟩ := and_e hgb
  obtain ⟨hgbba, hgbbb⟩ := and_e hgbb
  obtain ⟨hgbbba, hgbbbb⟩ := and_e hgbbb
  obtain ⟨w0, w1, w2, w3, rfl⟩ : ∃ w0 w1 w2 w3 : Value, args = #[w0, w1, w2, w3] := by
    have hs : args.size = 4 := by simpa [Cond.value, given_1] using hga
    obtain ⟨L⟩ := args
    match L, hs with
    | [w0, w1, w2, w3], _ => exact ⟨w0, w1, w2, w3, rfl⟩
  have hw := fun d (hd : d ∈ tables_1) => atoms_spec (ws := Jvm.Cond.code x code maxLocals ret :: tables_1) hat d (List.mem_cons_of_mem _ hd)
  obtain ⟨hsets, hown0⟩ := atoms_of _ (rest_1_c_eq ▸ (show rest_1_c.before _ s = true from hrest))
  have hr0 := Cond.before_iff.mp hown0
  have hfit : Fit s := fun {y c} hc i hi => by
    obtain ⟨ha, rfl⟩ := Array.getElem?_eq_some_iff.mp hc
    have q := List.all_eq_true.mp ((Array.all_eq_true_iff_forall_mem.mp hF) _ (Array.getElem_mem ha)) i (List.mem_range.mpr hi)
    simpa [Array.getElem?_eq_getElem hi] using q
  obtain ⟨i0, ev0⟩ := is_v hgba
  obtain rfl : w0 = (.int i0) := Option.some.inj ev0
  obtain ⟨i1, ev1⟩ := is_v hgbba
  obtain rfl : w1 = (.int i1) := Option.some.inj ev1
  obtain ⟨i2, ev2⟩ := isL_v hgbbba
  obtain rfl : w2 = (.long i2) := Option.some.inj ev2
  obtain ⟨i3, ev3⟩ := isL_v hgbbbb
  obtain rfl : w3 = (.long i3) := Option.some.inj ev3
  have q1 := Cond.before_iff.mp (hsets _ (List.mem_of_getElem? (i := 7) rfl))
  obtain ⟨wD, evD⟩ := exa_v q1
  have SD : Sta s s.heap "java/util/ArrayList" "DEFAULTCAPACITY_EMPTY_ELEMENTDATA" "[Ljava/lang/Object;" (.ref wD) := Sta.start evD (Or.inr ⟨(own_i hw 7 rfl), (hsets _ (List.mem_of_getElem? (i := 2) rfl))⟩)
  obtain ⟨kD, VD⟩ := own_arr0 hfit evD (Cond.before_iff.mp (hsets _ (List.mem_of_getElem? (i := 6) rfl))) (Cond.before_iff.mp (hsets _ (List.mem_of_getElem? (i := 8) rfl)))
  have hCH : Jvm.Lit.constHeld s "com/example/lumenward/lumenward/planner/ObjectiveOfPinLaw" 19 := hcalls.1 _ (List.mem_singleton.mpr rfl)
  obtain ⟨n, o, h1, h2, h3, _, L, rfl, ⟨rfl, N⟩, hq⟩ := rm0 l s _ hw tables_1 i0 i1 i2 i3 wD kD s.heap s.heap.size (Nat.le_refl _) SD (Old.start s) VD rfl hCH (hsets _ (List.mem_of_getElem? (i := 11) rfl)) p e ha hc hk s m _ below hf ((Spec.applies_iff_loose hf).mp happ).1 ⟨rfl, State.Warmed39.refl s, rfl, rfl⟩ trivial
  refine ⟨n, _, h1, h2, h3, hpost _ _ _ _ _ _ ⟨Cond.after_iff.mpr rfl, Cond.after_iff.mpr (eq_i res_at (Term.int_eval (1)) rfl), trivial⟩ ⟨hq.1, hq.2.1, hq.2.2.1, (hq.2.2.2.sift fun y hy => Or.inr (N y hy)).mono (by decide) (by decide)⟩⟩
theorem main_1_1 : Claimed_1_1 := comes_1 fun _ _ _ _ _ _ h hF => ⟨h.1, hF⟩
theorem main_1_2 : Claimed_1_2 := comes_1 fun _ _ _ _ _ _ h hF => ⟨h.2.1, hF⟩
end Jvm.Pilot.@@N@@
namespace Jvm.Pilot.@@N@@
open Jvm Jvm.ClassFile Sem Op Lib Jvm.Free Jvm.Stand Jvm.Pilot.@@N@@.Jvm.D
/-! MADE BY PROGRAM (witnessworld.py) out of the Statement's table words and the real class files: 30 classes; the members and pool entries that the words name. The judged class is class 1, her method 1. -/
namespace start1
open Jvm.ClassFile
def u (s : String) : CpInfo := .utf8 (stringToUtf16 s)
/-- a pool by its gaps: so many unusable entries, then the entry; so many at the end -/
def gap : Nat → List CpInfo → List CpInfo
  | 0, r => r
  | n + 1, r => .unusable :: gap n r
def poolList (es : List (Nat × CpInfo)) (last : Nat) : List CpInfo := es.foldr (fun e r => gap e.1 (e.2 :: r)) (gap last [])
def pool (es : List (Nat × CpInfo)) (last : Nat) : Array CpInfo := ⟨poolList es last⟩
def fileOf (pool : Array CpInfo) (this : Nat) (attrs : Array Attribute := #[]) (ms : Array MethodInfo := #[]) (fl : Nat := 33) (sup : Nat := 0) (ifs : Array Nat := #[]) (fds : Array FieldInfo := #[]) : ClassFile where
  minorVersion := 0
  majorVersion := 65
  constantPool := pool
  accessFlags := fl
  thisClass := this
  superClass := sup
  interfaces := ifs
  fields := fds
  methods := ms
  attributes := attrs
def plain (name : String) (sup : Option ClassId) : Class where
  name := name
  kind := .ordinary
  loader := none
  accessFlags := 33
  super := sup
  interfaces := #[]
  cf := none
  fields := #[]
  methods := #[]
  instanceTypes := #[]
  staticTypes := #[]
  resolved := #[]
  callSites := []
  init := .initialized
  statics := none
  mirror := none

def pool0 : Array CpInfo := pool [(5, u "<init>"), (0, u "()V"), (1, .class_ 10), (1, u "java/lang/Object")] 113

def k0c0 : Code := { maxStack := 0, maxLocals := 1, code := object_method_1_code, exceptionTable := #[], attributes := #[] }
def k0m0 : Method := { name := "<init>", desc := "()V", sig := { parameters := [], returnType := none }, accessFlags := 1, code := some k0c0 }
/-- java/lang/Object -/
def k0 : Class := { plain "java/lang/Object" none with
  accessFlags := 33
  interfaces := #[]
  cf := some (fileOf pool0 8 #[] #[{ accessFlags := 1, nameIndex := 5, descriptorIndex := 6, attributes := #[] }] 33 0 #[] #[])
  fields := #[]
  methods := #[k0m0]
  instanceTypes := #[]
  staticTypes := #[]
  resolved := Array.replicate 124 none
  statics := none }

def pool1 : Array CpInfo := pool [(2, .class_ 4), (0, .nameAndType 5 6), (0, u "java/lang/Object"), (0, u "<init>"), (0, u "()V"), (0, .integer 2147483647), (0, .methodref 9 10), (0, .class_ 11), (0, .nameAndType 12 13), (0, u "java/lang/Math"), (0, u "max"), (0, u "(II)I"), (0, .class_ 15), (0, u "java/util/ArrayList"), (0, .methodref 14 3), (0, .class_ 18), (0, u "com/example/lumenward/lumenward/model/Request"), (0, .string 20), (0, u "r"), (0, .methodref 22 23), (0, .class_ 24), (0, .nameAndType 25 26), (0, u "com/example/lumenward/lumenward/model/End"), (0, u "at"), (0, u "(I)Lcom/example/lumenward/lumenward/model/End;"), (0, .methodref 17 28), (0, .nameAndType 5 29), (0, u "(Ljava/lang/String;Lcom/example/lumenward/lumenward/model/RequestType;Lcom/example/lumenward/lumenward/model/End;Lcom/example/lumenward/lumenward/model/End;I)V"), (0, .interfaceMethodref 31 32), (0, .class_ 33), (0, .nameAndType 34 35), (0, u "java/util/List"), (0, u "add"), (0, u "(Ljava/lang/Object;)Z"), (0, .class_ 37), (0, u "com/example/lumenward/lumenward/planner/Objective"), (0, .methodref 36 39), (0, .nameAndType 5 40), (0, u "(Ljava/util/List;)V"), (0, .methodref 36 42), (0, .nameAndType 43 44), (0, u "of"), (0, u "(JJ)J"), (0, .class_ 46), (0, u "com/example/lumenward/lumenward/planner/ObjectiveOfPinLaw"), (2, u "law"), (0, u "(IIJJ)Z")] 3

def k1m0 : Method := { name := "<init>", desc := "()V", sig := { parameters := [], returnType := none }, accessFlags := 1, code := none }
def k1c1 : Code := { maxStack := 8, maxLocals := 14, code := code, exceptionTable := #[], attributes := #[] }
def k1m1 : Method := { name := "law", desc := "(IIJJ)Z", sig := { parameters := [.int, .int, .long, .long], returnType := some .boolean }, accessFlags := 9, code := some k1c1 }
/-- com/example/lumenward/lumenward/planner/ObjectiveOfPinLaw -/
def k1 : Class := { plain "com/example/lumenward/lumenward/planner/ObjectiveOfPinLaw" (some 0) with
  accessFlags := 49
  interfaces := #[]
  cf := some (fileOf pool1 45 #[] #[{ accessFlags := 1, nameIndex := 5, descriptorIndex := 6, attributes := #[] }, { accessFlags := 9, nameIndex := 49, descriptorIndex := 50, attributes := #[] }] 49 2 #[] #[])
  fields := #[]
  methods := #[k1m0, k1m1]
  instanceTypes := #[]
  staticTypes := #[]
  resolved := Array.replicate 54 none
  statics := none }

def pool2 : Array CpInfo := pool [(1, .class_ 2), (0, u "java/lang/Math"), (1, .class_ 6), (1, u "java/lang/Object"), (0, u "<init>"), (0, u "()V"), (89, .class_ 100), (1, u "java/lang/Math$RandomNumberGeneratorHolder"), (71, u "negativeZeroFloatBits"), (0, u "J"), (2, u "negativeZeroDoubleBits"), (21, u "max"), (46, u "$assertionsDisabled"), (0, u "Z"), (88, u "(II)I"), (2, u "twoToTheDoubleScaleDown"), (0, u "D"), (4, u "twoToTheDoubleScaleUp"), (9, u "E"), (3, u "PI"), (2, u "TAU"), (2, u "DEGREES_TO_RADIANS"), (0, u "RADIANS_TO_DEGREES")] 94

def k2m0 : Method := { name := "<init>", desc := "()V", sig := { parameters := [], returnType := none }, accessFlags := 2, code := none }
def k2c1 : Code := { maxStack := 2, maxLocals := 2, code := jdk_29_method_65_code, exceptionTable := #[], attributes := #[] }
def k2m1 : Method := { name := "max", desc := "(II)I", sig := { parameters := [.int, .int], returnType := some .int }, accessFlags := 9, code := some k2c1 }
/-- java/lang/Math -/
def k2 : Class := { plain "java/lang/Math" (some 0) with
  accessFlags := 49
  interfaces := #[]
  cf := some (fileOf pool2 1 #[.nestMembers #[98]] #[{ accessFlags := 2, nameIndex := 7, descriptorIndex := 8, attributes := #[] }, { accessFlags := 9, nameIndex := 198, descriptorIndex := 335, attributes := #[] }] 49 4 #[] #[{ accessFlags := 25, nameIndex := 354, descriptorIndex := 339, attributes := #[] }, { accessFlags := 25, nameIndex := 358, descriptorIndex := 339, attributes := #[] }, { accessFlags := 25, nameIndex := 361, descriptorIndex := 339, attributes := #[] }, { accessFlags := 26, nameIndex := 364, descriptorIndex := 339, attributes := #[] }, { accessFlags := 26, nameIndex := 365, descriptorIndex := 339, attributes := #[] }, { accessFlags := 26, nameIndex := 172, descriptorIndex := 173, attributes := #[] }, { accessFlags := 26, nameIndex := 176, descriptorIndex := 173, attributes := #[] }, { accessFlags := 8, nameIndex := 344, descriptorIndex := 339, attributes := #[] }, { accessFlags := 8, nameIndex := 338, descriptorIndex := 339, attributes := #[] }, { accessFlags := 4120, nameIndex := 245, descriptorIndex := 246, attributes := #[] }])
  fields := #[{ name := "E", type := .double, accessFlags := 25, slot := 0, constantValue := 0 }, { name := "PI", type := .double, accessFlags := 25, slot := 1, constantValue := 0 }, { name := "TAU", type := .double, accessFlags := 25, slot := 2, constantValue := 0 }, { name := "DEGREES_TO_RADIANS", type := .double, accessFlags := 26, slot := 3, constantValue := 0 }, { name := "RADIANS_TO_DEGREES", type := .double, accessFlags := 26, slot := 4, constantValue := 0 }, { name := "negativeZeroFloatBits", type := .long, accessFlags := 26, slot := 5, constantValue := 0 }, { name := "negativeZeroDoubleBits", type := .long, accessFlags := 26, slot := 6, constantValue := 0 }, { name := "twoToTheDoubleScaleUp", type := .double, accessFlags := 8, slot := 7, constantValue := 0 }, { name := "twoToTheDoubleScaleDown", type := .double, accessFlags := 8, slot := 8, constantValue := 0 }, { name := "$assertionsDisabled", type := .boolean, accessFlags := 4120, slot := 9, constantValue := 0 }]
  methods := #[k2m0, k2m1]
  instanceTypes := #[]
  staticTypes := #[.double, .double, .double, .double, .double, .long, .long, .double, .double, .boolean]
  resolved := Array.replicate 460 none
  statics := none }

def pool3 : Array CpInfo := pool [(8, .class_ 10), (1, u "java/lang/Iterable"), (24, .class_ 36), (0, u "java/lang/Object")] 25

/-- java/lang/Iterable -/
def k3 : Class := { plain "java/lang/Iterable" (some 0) with
  accessFlags := 1537
  interfaces := #[]
  cf := some (fileOf pool3 8 #[] #[] 1537 35 #[] #[])
  fields := #[]
  methods := #[]
  instanceTypes := #[]
  staticTypes := #[]
  resolved := Array.replicate 62 none
  statics := none }

def pool4 : Array CpInfo := pool [(10, .class_ 12), (1, u "java/util/Collection"), (47, .class_ 61), (0, u "java/lang/Object"), (0, .class_ 63), (0, u "java/lang/Iterable")] 51

/-- java/util/Collection -/
def k4 : Class := { plain "java/util/Collection" (some 0) with
  accessFlags := 1537
  interfaces := #[3]
  cf := some (fileOf pool4 10 #[] #[] 1537 60 #[62] #[])
  fields := #[]
  methods := #[]
  instanceTypes := #[]
  staticTypes := #[]
  resolved := Array.replicate 115 none
  statics := none }

def pool5 : Array CpInfo := pool [(1, .methodref 2 3), (0, .class_ 4), (0, .nameAndType 5 6), (0, u "java/lang/Object"), (0, u "<init>"), (0, u "()V"), (1, .class_ 10), (1, u "java/util/AbstractCollection"), (66, .class_ 78), (0, u "java/util/Collection")] 81

def k5c0 : Code := { maxStack := 1, maxLocals := 1, code := jdk_22_method_1_code, exceptionTable := #[], attributes := #[] }
def k5m0 : Method := { name := "<init>", desc := "()V", sig := { parameters := [], returnType := none }, accessFlags := 4, code := some k5c0 }
/-- java/util/AbstractCollection -/
def k5 : Class := { plain "java/util/AbstractCollection" (some 0) with
  accessFlags := 1057
  interfaces := #[4]
  cf := some (fileOf pool5 8 #[] #[{ accessFlags := 4, nameIndex := 5, descriptorIndex := 6, attributes := #[] }] 1057 2 #[77] #[])
  fields := #[]
  methods := #[k5m0]
  instanceTypes := #[]
  staticTypes := #[]
  resolved := Array.replicate 160 none
  statics := none }

def pool6 : Array CpInfo := pool [(8, .class_ 10), (1, u "java/util/SequencedCollection"), (15, .class_ 27), (0, u "java/lang/Object"), (0, .class_ 29), (0, u "java/util/Collection")] 27

/-- java/util/SequencedCollection -/
def k6 : Class := { plain "java/util/SequencedCollection" (some 0) with
  accessFlags := 1537
  interfaces := #[4]
  cf := some (fileOf pool6 8 #[] #[] 1537 26 #[28] #[])
  fields := #[]
  methods := #[]
  instanceTypes := #[]
  staticTypes := #[]
  resolved := Array.replicate 57 none
  statics := none }

def pool7 : Array CpInfo := pool [(8, .class_ 10), (1, u "java/util/List"), (49, u "add"), (3, u "(Ljava/lang/Object;)Z"), (10, u "get"), (0, u "(I)Ljava/lang/Object;"), (2, u "size"), (0, u "()I"), (22, .class_ 104), (0, u "java/lang/Object"), (15, .class_ 121), (0, u "java/util/SequencedCollection")] 129

def k7m0 : Method := { name := "size", desc := "()I", sig := { parameters := [], returnType := some .int }, accessFlags := 1025, code := none }
def k7m1 : Method := { name := "add", desc := "(Ljava/lang/Object;)Z", sig := { parameters := [(.object "java/lang/Object")], returnType := some .boolean }, accessFlags := 1025, code := none }
def k7m2 : Method := { name := "get", desc := "(I)Ljava/lang/Object;", sig := { parameters := [.int], returnType := some (.object "java/lang/Object") }, accessFlags := 1025, code := none }
/-- java/util/List -/
def k7 : Class := { plain "java/util/List" (some 0) with
  accessFlags := 1537
  interfaces := #[6]
  cf := some (fileOf pool7 8 #[] #[{ accessFlags := 1025, nameIndex := 79, descriptorIndex := 80, attributes := #[] }, { accessFlags := 1025, nameIndex := 60, descriptorIndex := 64, attributes := #[] }, { accessFlags := 1025, nameIndex := 75, descriptorIndex := 76, attributes := #[] }] 1537 103 #[120] #[])
  fields := #[]
  methods := #[k7m0, k7m1, k7m2]
  instanceTypes := #[]
  staticTypes := #[]
  resolved := Array.replicate 251 none
  statics := none }

def pool8 : Array CpInfo := pool [(1, .methodref 2 3), (0, .class_ 4), (0, .nameAndType 5 6), (0, u "java/util/AbstractCollection"), (0, u "<init>"), (0, u "()V"), (0, .fieldref 8 9), (0, .class_ 10), (0, .nameAndType 11 12), (0, u "java/util/AbstractList"), (0, u "modCount"), (0, u "I"), (64, .class_ 78), (0, u "java/util/AbstractList$Itr"), (3, .class_ 83), (0, u "java/util/AbstractList$ListItr"), (9, .class_ 94), (0, u "java/util/AbstractList$RandomAccessSubList"), (3, .class_ 99), (0, u "java/util/AbstractList$SubList"), (33, .class_ 134), (0, u "java/util/List"), (73, .class_ 209), (0, u "java/util/AbstractList$SubList$1"), (0, .class_ 211), (0, u "java/util/AbstractList$RandomAccessSpliterator")] 6

def k8c0 : Code := { maxStack := 2, maxLocals := 1, code := jdk_39_method_1_code, exceptionTable := #[], attributes := #[] }
def k8m0 : Method := { name := "<init>", desc := "()V", sig := { parameters := [], returnType := none }, accessFlags := 4, code := some k8c0 }
/-- java/util/AbstractList -/
def k8 : Class := { plain "java/util/AbstractList" (some 5) with
  accessFlags := 1057
  interfaces := #[7]
  cf := some (fileOf pool8 8 #[.nestMembers #[93, 98, 208, 210, 82, 77]] #[{ accessFlags := 4, nameIndex := 5, descriptorIndex := 6, attributes := #[] }] 1057 2 #[133] #[{ accessFlags := 132, nameIndex := 11, descriptorIndex := 12, attributes := #[] }])
  fields := #[{ name := "modCount", type := .int, accessFlags := 132, slot := 0, constantValue := 0 }]
  methods := #[k8m0]
  instanceTypes := #[.int]
  staticTypes := #[]
  resolved := Array.replicate 218 none
  statics := none }

def pool9 : Array CpInfo := pool [(1, .class_ 2), (0, u "java/util/RandomAccess"), (0, .class_ 4), (0, u "java/lang/Object")] 2

/-- java/util/RandomAccess -/
def k9 : Class := { plain "java/util/RandomAccess" (some 0) with
  accessFlags := 1537
  interfaces := #[]
  cf := some (fileOf pool9 1 #[] #[] 1537 3 #[] #[])
  fields := #[]
  methods := #[]
  instanceTypes := #[]
  staticTypes := #[]
  resolved := Array.replicate 7 none
  statics := none }

def pool10 : Array CpInfo := pool [(1, .class_ 2), (0, u "java/lang/Cloneable"), (0, .class_ 4), (0, u "java/lang/Object")] 2

/-- java/lang/Cloneable -/
def k10 : Class := { plain "java/lang/Cloneable" (some 0) with
  accessFlags := 1537
  interfaces := #[]
  cf := some (fileOf pool10 1 #[] #[] 1537 3 #[] #[])
  fields := #[]
  methods := #[]
  instanceTypes := #[]
  staticTypes := #[]
  resolved := Array.replicate 7 none
  statics := none }

def pool11 : Array CpInfo := pool [(1, .class_ 2), (0, u "java/io/Serializable"), (0, .class_ 4), (0, u "java/lang/Object")] 2

/-- java/io/Serializable -/
def k11 : Class := { plain "java/io/Serializable" (some 0) with
  accessFlags := 1537
  interfaces := #[]
  cf := some (fileOf pool11 1 #[] #[] 1537 3 #[] #[])
  fields := #[]
  methods := #[]
  instanceTypes := #[]
  staticTypes := #[]
  resolved := Array.replicate 7 none
  statics := none }

def pool12 : Array CpInfo := pool [(1, .methodref 2 3), (0, .class_ 4), (0, .nameAndType 5 6), (0, u "java/util/AbstractList"), (0, u "<init>"), (0, u "()V"), (0, .class_ 8), (0, u "java/lang/Object"), (0, .fieldref 10 11), (0, .class_ 12), (0, .nameAndType 13 14), (0, u "java/util/ArrayList"), (0, u "elementData"), (0, u "[Ljava/lang/Object;"), (2, u "EMPTY_ELEMENTDATA"), (21, .fieldref 10 40), (0, .nameAndType 41 14), (0, u "DEFAULTCAPACITY_EMPTY_ELEMENTDATA"), (5, u "()[Ljava/lang/Object;"), (0, .fieldref 10 49), (0, .nameAndType 50 51), (0, u "size"), (0, u "I"), (11, .fieldref 10 64), (0, .nameAndType 65 51), (0, u "modCount"), (3, .methodref 10 70), (0, .nameAndType 71 72), (0, u "grow"), (0, u "(I)[Ljava/lang/Object;"), (6, .methodref 80 81), (0, .class_ 82), (0, .nameAndType 83 84), (0, u "java/lang/Math"), (0, u "max"), (0, u "(II)I"), (11, u "(Ljava/lang/Object;)Z"), (21, .methodref 119 120), (0, .class_ 121), (0, .nameAndType 122 84), (0, u "java/util/Objects"), (0, u "checkIndex"), (0, .methodref 10 124), (0, .nameAndType 13 125), (0, u "(I)Ljava/lang/Object;"), (3, .methodref 10 130), (0, .nameAndType 71 47), (0, .methodref 10 132), (0, .nameAndType 133 134), (0, u "add"), (0, u "(Ljava/lang/Object;[Ljava/lang/Object;I)V"), (13, .class_ 149), (0, u "java/util/List"), (36, u "()I"), (75, .class_ 263), (0, u "java/util/ArrayList$ListItr"), (3, .class_ 268), (0, u "java/util/ArrayList$Itr"), (7, .class_ 277), (0, u "java/util/ArrayList$SubList"), (12, .class_ 291), (0, u "java/util/ArrayList$ArrayListSpliterator"), (37, .class_ 330), (0, u "java/util/RandomAccess"), (0, .class_ 332), (0, u "java/lang/Cloneable"), (0, .class_ 334), (0, u "java/io/Serializable"), (0, u "serialVersionUID"), (0, u "J"), (3, u "DEFAULT_CAPACITY"), (40, u "get"), (118, .class_ 501), (0, u "java/util/ArrayList$SubList$2"), (0, .class_ 503), (0, u "java/util/ArrayList$SubList$1")] 5

def k12c0 : Code := { maxStack := 2, maxLocals := 1, code := jdk_38_method_2_code, exceptionTable := #[], attributes := #[] }
def k12m0 : Method := { name := "<init>", desc := "()V", sig := { parameters := [], returnType := none }, accessFlags := 1, code := some k12c0 }
def k12c1 : Code := { maxStack := 4, maxLocals := 4, code := jdk_38_method_6_code, exceptionTable := #[], attributes := #[] }
def k12m1 : Method := { name := "grow", desc := "(I)[Ljava/lang/Object;", sig := { parameters := [.int], returnType := some (.array (.object "java/lang/Object")) }, accessFlags := 2, code := some k12c1 }
def k12c2 : Code := { maxStack := 3, maxLocals := 1, code := jdk_38_method_7_code, exceptionTable := #[], attributes := #[] }
def k12m2 : Method := { name := "grow", desc := "()[Ljava/lang/Object;", sig := { parameters := [], returnType := some (.array (.object "java/lang/Object")) }, accessFlags := 2, code := some k12c2 }
def k12c3 : Code := { maxStack := 1, maxLocals := 1, code := jdk_38_method_8_code, exceptionTable := #[], attributes := #[] }
def k12m3 : Method := { name := "size", desc := "()I", sig := { parameters := [], returnType := some .int }, accessFlags := 1, code := some k12c3 }
def k12c4 : Code := { maxStack := 2, maxLocals := 2, code := jdk_38_method_18_code, exceptionTable := #[], attributes := #[] }
def k12m4 : Method := { name := "elementData", desc := "(I)Ljava/lang/Object;", sig := { parameters := [.int], returnType := some (.object "java/lang/Object") }, accessFlags := 0, code := some k12c4 }
def k12c5 : Code := { maxStack := 2, maxLocals := 2, code := jdk_38_method_20_code, exceptionTable := #[], attributes := #[] }
def k12m5 : Method := { name := "get", desc := "(I)Ljava/lang/Object;", sig := { parameters := [.int], returnType := some (.object "java/lang/Object") }, accessFlags := 1, code := some k12c5 }
def k12c6 : Code := { maxStack := 3, maxLocals := 4, code := jdk_38_method_24_code, exceptionTable := #[], attributes := #[] }
def k12m6 : Method := { name := "add", desc := "(Ljava/lang/Object;[Ljava/lang/Object;I)V", sig := { parameters := [(.object "java/lang/Object"), (.array (.object "java/lang/Object")), .int], returnType := none }, accessFlags := 2, code := some k12c6 }
def k12c7 : Code := { maxStack := 4, maxLocals := 2, code := jdk_38_method_25_code, exceptionTable := #[], attributes := #[] }
def k12m7 : Method := { name := "add", desc := "(Ljava/lang/Object;)Z", sig := { parameters := [(.object "java/lang/Object")], returnType := some .boolean }, accessFlags := 1, code := some k12c7 }
/-- java/util/ArrayList -/
def k12 : Class := { plain "java/util/ArrayList" (some 8) with
  accessFlags := 33
  interfaces := #[7, 9, 10, 11]
  cf := some (fileOf pool12 10 #[.nestMembers #[290, 276, 500, 502, 262, 267]] #[{ accessFlags := 1, nameIndex := 5, descriptorIndex := 6, attributes := #[] }, { accessFlags := 2, nameIndex := 71, descriptorIndex := 72, attributes := #[] }, { accessFlags := 2, nameIndex := 71, descriptorIndex := 47, attributes := #[] }, { accessFlags := 1, nameIndex := 50, descriptorIndex := 186, attributes := #[] }, { accessFlags := 0, nameIndex := 13, descriptorIndex := 125, attributes := #[] }, { accessFlags := 1, nameIndex := 381, descriptorIndex := 125, attributes := #[] }, { accessFlags := 2, nameIndex := 133, descriptorIndex := 134, attributes := #[] }, { accessFlags := 1, nameIndex := 133, descriptorIndex := 96, attributes := #[] }] 33 2 #[148, 329, 331, 333] #[{ accessFlags := 26, nameIndex := 335, descriptorIndex := 336, attributes := #[] }, { accessFlags := 26, nameIndex := 340, descriptorIndex := 51, attributes := #[] }, { accessFlags := 26, nameIndex := 17, descriptorIndex := 14, attributes := #[] }, { accessFlags := 26, nameIndex := 41, descriptorIndex := 14, attributes := #[] }, { accessFlags := 128, nameIndex := 13, descriptorIndex := 14, attributes := #[] }, { accessFlags := 2, nameIndex := 50, descriptorIndex := 51, attributes := #[] }])
  fields := #[{ name := "serialVersionUID", type := .long, accessFlags := 26, slot := 0, constantValue := 0 }, { name := "DEFAULT_CAPACITY", type := .int, accessFlags := 26, slot := 1, constantValue := 0 }, { name := "EMPTY_ELEMENTDATA", type := (.array (.object "java/lang/Object")), accessFlags := 26, slot := 2, constantValue := 0 }, { name := "DEFAULTCAPACITY_EMPTY_ELEMENTDATA", type := (.array (.object "java/lang/Object")), accessFlags := 26, slot := 3, constantValue := 0 }, { name := "elementData", type := (.array (.object "java/lang/Object")), accessFlags := 128, slot := 1, constantValue := 0 }, { name := "size", type := .int, accessFlags := 2, slot := 2, constantValue := 0 }]
  methods := #[k12m0, k12m1, k12m2, k12m3, k12m4, k12m5, k12m6, k12m7]
  instanceTypes := #[.int, (.array (.object "java/lang/Object")), .int]
  staticTypes := #[.long, .int, (.array (.object "java/lang/Object")), (.array (.object "java/lang/Object"))]
  resolved := Array.replicate 509 none
  statics := some 0 }

def pool13 : Array CpInfo := pool [(1, .methodref 2 3), (0, .class_ 4), (0, .nameAndType 5 6), (0, u "java/lang/Object"), (0, u "<init>"), (0, u "()V"), (0, .methodref 8 9), (0, .class_ 10), (0, .nameAndType 11 12), (0, u "java/lang/String"), (0, u "isEmpty"), (0, u "()Z"), (7, .methodref 21 22), (0, .class_ 23), (0, .nameAndType 24 12), (0, u "com/example/lumenward/lumenward/model/End"), (0, u "isAnyBorder"), (17, .methodref 21 43), (0, .nameAndType 44 45), (0, u "getNode"), (0, u "()I"), (6, .fieldref 53 54), (0, .class_ 55), (0, .nameAndType 56 57), (0, u "com/example/lumenward/lumenward/model/Request"), (0, u "id"), (0, u "Ljava/lang/String;"), (0, .fieldref 53 59), (0, .nameAndType 60 61), (0, u "type"), (0, u "Lcom/example/lumenward/lumenward/model/RequestType;"), (0, .fieldref 53 63), (0, .nameAndType 64 65), (0, u "src"), (0, u "Lcom/example/lumenward/lumenward/model/End;"), (0, .fieldref 53 67), (0, .nameAndType 68 65), (0, u "dst"), (0, .fieldref 53 70), (0, .nameAndType 71 72), (0, u "slots"), (0, u "I"), (0, u "(Ljava/lang/String;Lcom/example/lumenward/lumenward/model/RequestType;Lcom/example/lumenward/lumenward/model/End;Lcom/example/lumenward/lumenward/model/End;I)V"), (10, u "getSlots")] 23

def k13c0 : Code := { maxStack := 4, maxLocals := 6, code := prog_27_method_1_code, exceptionTable := #[], attributes := #[] }
def k13m0 : Method := { name := "<init>", desc := "(Ljava/lang/String;Lcom/example/lumenward/lumenward/model/RequestType;Lcom/example/lumenward/lumenward/model/End;Lcom/example/lumenward/lumenward/model/End;I)V", sig := { parameters := [(.object "java/lang/String"), (.object "com/example/lumenward/lumenward/model/RequestType"), (.object "com/example/lumenward/lumenward/model/End"), (.object "com/example/lumenward/lumenward/model/End"), .int], returnType := none }, accessFlags := 1, code := some k13c0 }
def k13c1 : Code := { maxStack := 1, maxLocals := 1, code := prog_27_method_6_code, exceptionTable := #[], attributes := #[] }
def k13m1 : Method := { name := "getSlots", desc := "()I", sig := { parameters := [], returnType := some .int }, accessFlags := 1, code := some k13c1 }
/-- com/example/lumenward/lumenward/model/Request -/
def k13 : Class := { plain "com/example/lumenward/lumenward/model/Request" (some 0) with
  accessFlags := 49
  interfaces := #[]
  cf := some (fileOf pool13 53 #[] #[{ accessFlags := 1, nameIndex := 5, descriptorIndex := 73, attributes := #[] }, { accessFlags := 1, nameIndex := 84, descriptorIndex := 45, attributes := #[] }] 49 2 #[] #[{ accessFlags := 18, nameIndex := 56, descriptorIndex := 57, attributes := #[] }, { accessFlags := 18, nameIndex := 60, descriptorIndex := 61, attributes := #[] }, { accessFlags := 18, nameIndex := 64, descriptorIndex := 65, attributes := #[] }, { accessFlags := 18, nameIndex := 68, descriptorIndex := 65, attributes := #[] }, { accessFlags := 18, nameIndex := 71, descriptorIndex := 72, attributes := #[] }])
  fields := #[{ name := "id", type := (.object "java/lang/String"), accessFlags := 18, slot := 0, constantValue := 0 }, { name := "type", type := (.object "com/example/lumenward/lumenward/model/RequestType"), accessFlags := 18, slot := 1, constantValue := 0 }, { name := "src", type := (.object "com/example/lumenward/lumenward/model/End"), accessFlags := 18, slot := 2, constantValue := 0 }, { name := "dst", type := (.object "com/example/lumenward/lumenward/model/End"), accessFlags := 18, slot := 3, constantValue := 0 }, { name := "slots", type := .int, accessFlags := 18, slot := 4, constantValue := 0 }]
  methods := #[k13m0, k13m1]
  instanceTypes := #[(.object "java/lang/String"), (.object "com/example/lumenward/lumenward/model/RequestType"), (.object "com/example/lumenward/lumenward/model/End"), (.object "com/example/lumenward/lumenward/model/End"), .int]
  staticTypes := #[]
  resolved := Array.replicate 108 none
  statics := none }

def pool14 : Array CpInfo := pool [(1, .class_ 2), (0, u "java/lang/Comparable"), (0, .class_ 4), (0, u "java/lang/Object")] 7

/-- java/lang/Comparable -/
def k14 : Class := { plain "java/lang/Comparable" (some 0) with
  accessFlags := 1537
  interfaces := #[]
  cf := some (fileOf pool14 1 #[] #[] 1537 3 #[] #[])
  fields := #[]
  methods := #[]
  instanceTypes := #[]
  staticTypes := #[]
  resolved := Array.replicate 12 none
  statics := none }

def pool15 : Array CpInfo := pool [(2, .class_ 4), (1, u "java/lang/CharSequence"), (42, .class_ 48), (0, u "java/lang/CharSequence$1CodePointIterator"), (10, .class_ 60), (0, u "java/lang/CharSequence$1CharIterator"), (5, .class_ 67), (0, u "java/lang/Object")] 63

/-- java/lang/CharSequence -/
def k15 : Class := { plain "java/lang/CharSequence" (some 0) with
  accessFlags := 1537
  interfaces := #[]
  cf := some (fileOf pool15 2 #[.nestMembers #[47, 59]] #[] 1537 66 #[] #[])
  fields := #[]
  methods := #[]
  instanceTypes := #[]
  staticTypes := #[]
  resolved := Array.replicate 131 none
  statics := none }

def pool16 : Array CpInfo := pool [(1, .class_ 2), (0, u "java/lang/constant/Constable"), (0, .class_ 4), (0, u "java/lang/Object")] 6

/-- java/lang/constant/Constable -/
def k16 : Class := { plain "java/lang/constant/Constable" (some 0) with
  accessFlags := 1537
  interfaces := #[]
  cf := some (fileOf pool16 1 #[] #[] 1537 3 #[] #[])
  fields := #[]
  methods := #[]
  instanceTypes := #[]
  staticTypes := #[]
  resolved := Array.replicate 11 none
  statics := none }

def pool17 : Array CpInfo := pool [(1, .class_ 2), (0, u "java/lang/constant/ConstantDesc"), (0, .class_ 4), (0, u "java/lang/Object")] 32

/-- java/lang/constant/ConstantDesc -/
def k17 : Class := { plain "java/lang/constant/ConstantDesc" (some 0) with
  accessFlags := 1537
  interfaces := #[]
  cf := some (fileOf pool17 1 #[] #[] 1537 3 #[] #[])
  fields := #[]
  methods := #[]
  instanceTypes := #[]
  staticTypes := #[]
  resolved := Array.replicate 37 none
  statics := none }

def pool18 : Array CpInfo := pool [(2, .class_ 4), (1, u "java/lang/Object"), (0, u "<init>"), (0, u "()V"), (2, .fieldref 10 11), (0, .class_ 12), (0, .nameAndType 13 14), (0, u "java/lang/String"), (0, u "value"), (0, u "[B"), (2, u "coder"), (0, u "B"), (2, u "hash"), (0, u "I"), (2, u "hashIsZero"), (0, u "Z"), (13, u "COMPACT_STRINGS"), (101, u "()Z"), (432, .class_ 576), (0, u "java/lang/CharSequence"), (22, u "CASE_INSENSITIVE_ORDER"), (0, u "Ljava/util/Comparator;"), (91, u "isEmpty"), (408, u "serialPersistentFields"), (0, u "[Ljava/io/ObjectStreamField;"), (0, .class_ 1104), (0, u "java/lang/String$CaseInsensitiveComparator"), (1, .class_ 1107), (0, u "java/io/Serializable"), (0, .class_ 1109), (0, u "java/lang/Comparable"), (0, .class_ 1111), (0, u "java/lang/constant/Constable"), (0, .class_ 1113), (0, u "java/lang/constant/ConstantDesc"), (2, u "serialVersionUID"), (0, u "J"), (3, u "REPL"), (0, u "C"), (2, u "LATIN1"), (1, u "UTF16")] 323

def k18m0 : Method := { name := "<init>", desc := "()V", sig := { parameters := [], returnType := none }, accessFlags := 1, code := none }
def k18c1 : Code := { maxStack := 1, maxLocals := 1, code := jdk_42_method_55_code, exceptionTable := #[], attributes := #[] }
def k18m1 : Method := { name := "isEmpty", desc := "()Z", sig := { parameters := [], returnType := some .boolean }, accessFlags := 1, code := some k18c1 }
/-- java/lang/String -/
def k18 : Class := { plain "java/lang/String" (some 0) with
  accessFlags := 49
  interfaces := #[11, 14, 15, 16, 17]
  cf := some (fileOf pool18 10 #[.nestMembers #[1103]] #[{ accessFlags := 1, nameIndex := 5, descriptorIndex := 6, attributes := #[] }, { accessFlags := 1, nameIndex := 692, descriptorIndex := 142, attributes := #[] }] 49 2 #[1106, 1108, 575, 1110, 1112] #[{ accessFlags := 18, nameIndex := 13, descriptorIndex := 14, attributes := #[] }, { accessFlags := 18, nameIndex := 17, descriptorIndex := 18, attributes := #[] }, { accessFlags := 2, nameIndex := 21, descriptorIndex := 22, attributes := #[] }, { accessFlags := 2, nameIndex := 25, descriptorIndex := 26, attributes := #[] }, { accessFlags := 26, nameIndex := 1116, descriptorIndex := 1117, attributes := #[] }, { accessFlags := 24, nameIndex := 40, descriptorIndex := 26, attributes := #[] }, { accessFlags := 26, nameIndex := 1101, descriptorIndex := 1102, attributes := #[] }, { accessFlags := 26, nameIndex := 1121, descriptorIndex := 1122, attributes := #[] }, { accessFlags := 25, nameIndex := 599, descriptorIndex := 600, attributes := #[] }, { accessFlags := 24, nameIndex := 1125, descriptorIndex := 18, attributes := #[] }, { accessFlags := 24, nameIndex := 1127, descriptorIndex := 18, attributes := #[] }])
  fields := #[{ name := "value", type := (.array .byte), accessFlags := 18, slot := 0, constantValue := 0 }, { name := "coder", type := .byte, accessFlags := 18, slot := 1, constantValue := 0 }, { name := "hash", type := .int, accessFlags := 2, slot := 2, constantValue := 0 }, { name := "hashIsZero", type := .boolean, accessFlags := 2, slot := 3, constantValue := 0 }, { name := "serialVersionUID", type := .long, accessFlags := 26, slot := 0, constantValue := 0 }, { name := "COMPACT_STRINGS", type := .boolean, accessFlags := 24, slot := 1, constantValue := 0 }, { name := "serialPersistentFields", type := (.array (.object "java/io/ObjectStreamField")), accessFlags := 26, slot := 2, constantValue := 0 }, { name := "REPL", type := .char, accessFlags := 26, slot := 3, constantValue := 0 }, { name := "CASE_INSENSITIVE_ORDER", type := (.object "java/util/Comparator"), accessFlags := 25, slot := 4, constantValue := 0 }, { name := "LATIN1", type := .byte, accessFlags := 24, slot := 5, constantValue := 0 }, { name := "UTF16", type := .byte, accessFlags := 24, slot := 6, constantValue := 0 }]
  methods := #[k18m0, k18m1]
  instanceTypes := #[(.array .byte), .byte, .int, .boolean]
  staticTypes := #[.long, .boolean, (.array (.object "java/io/ObjectStreamField")), .char, (.object "java/util/Comparator"), .byte, .byte]
  resolved := Array.replicate 1451 none
  statics := some 1 }

def pool19 : Array CpInfo := pool [(1, .methodref 2 3), (0, .class_ 4), (0, .nameAndType 5 6), (0, u "java/lang/Object"), (0, u "<init>"), (0, u "()V"), (0, .fieldref 8 9), (0, .class_ 10), (0, .nameAndType 11 12), (0, u "com/example/lumenward/lumenward/model/End"), (0, u "node"), (0, u "I"), (0, .fieldref 8 14), (0, .nameAndType 15 16), (0, u "anyBorder"), (0, u "Z"), (0, .methodref 8 18), (0, .nameAndType 5 19), (0, u "(IZ)V"), (48, u "ANY_BORDER"), (0, u "Lcom/example/lumenward/lumenward/model/End;"), (2, u "at"), (0, u "(I)Lcom/example/lumenward/lumenward/model/End;"), (0, u "isAnyBorder"), (0, u "()Z"), (0, u "getNode"), (0, u "()I")] 18

def k19c0 : Code := { maxStack := 2, maxLocals := 3, code := prog_22_method_1_code, exceptionTable := #[], attributes := #[] }
def k19m0 : Method := { name := "<init>", desc := "(IZ)V", sig := { parameters := [.int, .boolean], returnType := none }, accessFlags := 2, code := some k19c0 }
def k19c1 : Code := { maxStack := 4, maxLocals := 1, code := prog_22_method_2_code, exceptionTable := #[], attributes := #[] }
def k19m1 : Method := { name := "at", desc := "(I)Lcom/example/lumenward/lumenward/model/End;", sig := { parameters := [.int], returnType := some (.object "com/example/lumenward/lumenward/model/End") }, accessFlags := 9, code := some k19c1 }
def k19c2 : Code := { maxStack := 1, maxLocals := 1, code := prog_22_method_3_code, exceptionTable := #[], attributes := #[] }
def k19m2 : Method := { name := "isAnyBorder", desc := "()Z", sig := { parameters := [], returnType := some .boolean }, accessFlags := 1, code := some k19c2 }
def k19c3 : Code := { maxStack := 3, maxLocals := 1, code := prog_22_method_4_code, exceptionTable := #[], attributes := #[] }
def k19m3 : Method := { name := "getNode", desc := "()I", sig := { parameters := [], returnType := some .int }, accessFlags := 1, code := some k19c3 }
/-- com/example/lumenward/lumenward/model/End -/
def k19 : Class := { plain "com/example/lumenward/lumenward/model/End" (some 0) with
  accessFlags := 49
  interfaces := #[]
  cf := some (fileOf pool19 8 #[] #[{ accessFlags := 2, nameIndex := 5, descriptorIndex := 19, attributes := #[] }, { accessFlags := 9, nameIndex := 72, descriptorIndex := 73, attributes := #[] }, { accessFlags := 1, nameIndex := 74, descriptorIndex := 75, attributes := #[] }, { accessFlags := 1, nameIndex := 76, descriptorIndex := 77, attributes := #[] }] 49 2 #[] #[{ accessFlags := 25, nameIndex := 68, descriptorIndex := 69, attributes := #[] }, { accessFlags := 18, nameIndex := 11, descriptorIndex := 12, attributes := #[] }, { accessFlags := 18, nameIndex := 15, descriptorIndex := 16, attributes := #[] }])
  fields := #[{ name := "ANY_BORDER", type := (.object "com/example/lumenward/lumenward/model/End"), accessFlags := 25, slot := 0, constantValue := 0 }, { name := "node", type := .int, accessFlags := 18, slot := 0, constantValue := 0 }, { name := "anyBorder", type := .boolean, accessFlags := 18, slot := 1, constantValue := 0 }]
  methods := #[k19m0, k19m1, k19m2, k19m3]
  instanceTypes := #[.int, .boolean]
  staticTypes := #[(.object "com/example/lumenward/lumenward/model/End")]
  resolved := Array.replicate 96 none
  statics := none }

def pool20 : Array CpInfo := pool [(1, .methodref 2 3), (0, .class_ 4), (0, .nameAndType 5 6), (0, u "java/lang/Object"), (0, u "<init>"), (0, u "()V"), (0, .interfaceMethodref 8 9), (0, .class_ 10), (0, .nameAndType 11 12), (0, u "java/util/List"), (0, u "size"), (0, u "()I"), (0, .interfaceMethodref 8 14), (0, .nameAndType 15 16), (0, u "get"), (0, u "(I)Ljava/lang/Object;"), (0, .class_ 18), (0, u "com/example/lumenward/lumenward/model/Request"), (0, .methodref 17 20), (0, .nameAndType 21 12), (0, u "getSlots"), (10, .fieldref 33 34), (0, .class_ 35), (0, .nameAndType 36 37), (0, u "com/example/lumenward/lumenward/planner/Objective"), (0, u "attackWeight"), (0, u "J"), (2, .long 3), (1, .fieldref 33 43), (0, .nameAndType 44 37), (0, u "fmaxWeight"), (0, u "(Ljava/util/List;)V"), (6, u "of"), (0, u "(JJ)J")] 2

def k20c0 : Code := { maxStack := 5, maxLocals := 8, code := prog_44_method_1_code, exceptionTable := #[], attributes := #[] }
def k20m0 : Method := { name := "<init>", desc := "(Ljava/util/List;)V", sig := { parameters := [(.object "java/util/List")], returnType := none }, accessFlags := 0, code := some k20c0 }
def k20c1 : Code := { maxStack := 6, maxLocals := 5, code := prog_44_method_4_code, exceptionTable := #[], attributes := #[] }
def k20m1 : Method := { name := "of", desc := "(JJ)J", sig := { parameters := [.long, .long], returnType := some .long }, accessFlags := 0, code := some k20c1 }
/-- com/example/lumenward/lumenward/planner/Objective -/
def k20 : Class := { plain "com/example/lumenward/lumenward/planner/Objective" (some 0) with
  accessFlags := 48
  interfaces := #[]
  cf := some (fileOf pool20 33 #[] #[{ accessFlags := 0, nameIndex := 5, descriptorIndex := 45, attributes := #[] }, { accessFlags := 0, nameIndex := 52, descriptorIndex := 53, attributes := #[] }] 48 2 #[] #[{ accessFlags := 18, nameIndex := 36, descriptorIndex := 37, attributes := #[] }, { accessFlags := 18, nameIndex := 44, descriptorIndex := 37, attributes := #[] }])
  fields := #[{ name := "attackWeight", type := .long, accessFlags := 18, slot := 0, constantValue := 0 }, { name := "fmaxWeight", type := .long, accessFlags := 18, slot := 1, constantValue := 0 }]
  methods := #[k20m0, k20m1]
  instanceTypes := #[.long, .long]
  staticTypes := #[]
  resolved := Array.replicate 56 none
  statics := none }

def pool21 : Array CpInfo := pool [(2, .class_ 4), (1, u "java/lang/Object"), (0, u "<init>"), (0, u "()V"), (35, .class_ 44), (1, u "java/util/Objects"), (60, .methodref 106 107), (0, .class_ 108), (0, .nameAndType 109 110), (0, u "jdk/internal/util/Preconditions"), (0, u "checkIndex"), (0, u "(IILjava/util/function/BiFunction;)I"), (60, u "(II)I")] 12

def k21m0 : Method := { name := "<init>", desc := "()V", sig := { parameters := [], returnType := none }, accessFlags := 2, code := none }
def k21c1 : Code := { maxStack := 3, maxLocals := 2, code := jdk_31_method_17_code, exceptionTable := #[], attributes := #[] }
def k21m1 : Method := { name := "checkIndex", desc := "(II)I", sig := { parameters := [.int, .int], returnType := some .int }, accessFlags := 9, code := some k21c1 }
/-- java/util/Objects -/
def k21 : Class := { plain "java/util/Objects" (some 0) with
  accessFlags := 49
  interfaces := #[]
  cf := some (fileOf pool21 42 #[] #[{ accessFlags := 2, nameIndex := 5, descriptorIndex := 6, attributes := #[] }, { accessFlags := 9, nameIndex := 109, descriptorIndex := 171, attributes := #[] }] 49 2 #[] #[])
  fields := #[]
  methods := #[k21m0, k21m1]
  instanceTypes := #[]
  staticTypes := #[]
  resolved := Array.replicate 184 none
  statics := none }

def pool22 : Array CpInfo := pool [(2, .class_ 4), (1, u "java/lang/Object"), (0, u "<init>"), (0, u "()V"), (17, .class_ 26), (1, u "jdk/internal/util/Preconditions"), (6, u "checkIndex"), (21, .class_ 56), (0, u "jdk/internal/util/Preconditions$4"), (57, .class_ 115), (0, u "jdk/internal/util/Preconditions$1"), (7, u "SIOOBE_FORMATTER"), (0, u "Ljava/util/function/BiFunction;"), (0, .class_ 126), (0, u "jdk/internal/util/Preconditions$2"), (3, u "AIOOBE_FORMATTER"), (0, .class_ 132), (0, u "jdk/internal/util/Preconditions$3"), (3, u "IOOBE_FORMATTER"), (41, u "(IILjava/util/function/BiFunction;)I")] 15

def k22m0 : Method := { name := "<init>", desc := "()V", sig := { parameters := [], returnType := none }, accessFlags := 1, code := none }
def k22c1 : Code := { maxStack := 3, maxLocals := 3, code := jdk_41_method_11_code, exceptionTable := #[], attributes := #[] }
def k22m1 : Method := { name := "checkIndex", desc := "(IILjava/util/function/BiFunction;)I", sig := { parameters := [.int, .int, (.object "java/util/function/BiFunction")], returnType := some .int }, accessFlags := 9, code := some k22c1 }
/-- jdk/internal/util/Preconditions -/
def k22 : Class := { plain "jdk/internal/util/Preconditions" (some 0) with
  accessFlags := 33
  interfaces := #[]
  cf := some (fileOf pool22 24 #[.nestMembers #[55, 131, 125, 114]] #[{ accessFlags := 1, nameIndex := 5, descriptorIndex := 6, attributes := #[] }, { accessFlags := 9, nameIndex := 33, descriptorIndex := 178, attributes := #[] }] 33 2 #[] #[{ accessFlags := 25, nameIndex := 123, descriptorIndex := 124, attributes := #[] }, { accessFlags := 25, nameIndex := 130, descriptorIndex := 124, attributes := #[] }, { accessFlags := 25, nameIndex := 136, descriptorIndex := 124, attributes := #[] }])
  fields := #[{ name := "SIOOBE_FORMATTER", type := (.object "java/util/function/BiFunction"), accessFlags := 25, slot := 0, constantValue := 0 }, { name := "AIOOBE_FORMATTER", type := (.object "java/util/function/BiFunction"), accessFlags := 25, slot := 1, constantValue := 0 }, { name := "IOOBE_FORMATTER", type := (.object "java/util/function/BiFunction"), accessFlags := 25, slot := 2, constantValue := 0 }]
  methods := #[k22m0, k22m1]
  instanceTypes := #[]
  staticTypes := #[(.object "java/util/function/BiFunction"), (.object "java/util/function/BiFunction"), (.object "java/util/function/BiFunction")]
  resolved := Array.replicate 194 none
  statics := some 2 }

def pool23 : Array CpInfo := pool [(4, .class_ 6), (1, u "java/lang/Object"), (0, u "<init>"), (0, u "()V"), (5, .class_ 16), (1, u "java/lang/StringLatin1"), (104, u "$assertionsDisabled"), (0, u "Z"), (98, .class_ 223), (1, u "java/lang/StringLatin1$LinesSpliterator"), (166, .class_ 391), (0, u "java/lang/StringLatin1$CharsSpliterator")] 3

def k23m0 : Method := { name := "<init>", desc := "()V", sig := { parameters := [], returnType := none }, accessFlags := 0, code := none }
/-- java/lang/StringLatin1 -/
def k23 : Class := { plain "java/lang/StringLatin1" (some 0) with
  accessFlags := 48
  interfaces := #[]
  cf := some (fileOf pool23 14 #[.nestMembers #[390, 221]] #[{ accessFlags := 0, nameIndex := 7, descriptorIndex := 8, attributes := #[] }] 48 4 #[] #[{ accessFlags := 4120, nameIndex := 121, descriptorIndex := 122, attributes := #[] }])
  fields := #[{ name := "$assertionsDisabled", type := .boolean, accessFlags := 4120, slot := 0, constantValue := 0 }]
  methods := #[k23m0]
  instanceTypes := #[]
  staticTypes := #[.boolean]
  resolved := Array.replicate 395 none
  statics := none }

def pool24 : Array CpInfo := pool [(9, u "<init>"), (6, .class_ 18), (1, u "java/lang/Object"), (0, u "()V"), (1, .class_ 23), (1, u "jdk/internal/util/ArraysSupport"), (0, u "LOG2_ARRAY_LONG_INDEX_SCALE"), (0, u "I"), (2, u "U"), (0, u "Ljdk/internal/misc/Unsafe;"), (8, u "BIG_ENDIAN"), (0, u "Z"), (8, u "LOG2_BYTE_BIT_SIZE"), (4, u "LOG2_ARRAY_INT_INDEX_SCALE"), (54, u "JLA"), (0, u "Ljdk/internal/access/JavaLangAccess;"), (11, u "LOG2_ARRAY_BOOLEAN_INDEX_SCALE"), (9, u "LOG2_ARRAY_BYTE_INDEX_SCALE"), (5, u "LOG2_ARRAY_CHAR_INDEX_SCALE"), (5, u "LOG2_ARRAY_SHORT_INDEX_SCALE"), (18, u "LOG2_ARRAY_FLOAT_INDEX_SCALE"), (24, u "LOG2_ARRAY_DOUBLE_INDEX_SCALE"), (89, u "T_BOOLEAN"), (2, u "T_CHAR"), (1, u "T_FLOAT"), (1, u "T_DOUBLE"), (1, u "T_BYTE"), (1, u "T_SHORT"), (1, u "T_INT"), (1, u "T_LONG"), (1, u "SOFT_MAX_ARRAY_LENGTH")] 83

def k24m0 : Method := { name := "<init>", desc := "()V", sig := { parameters := [], returnType := none }, accessFlags := 2, code := none }
/-- jdk/internal/util/ArraysSupport -/
def k24 : Class := { plain "jdk/internal/util/ArraysSupport" (some 0) with
  accessFlags := 33
  interfaces := #[]
  cf := some (fileOf pool24 21 #[] #[{ accessFlags := 2, nameIndex := 9, descriptorIndex := 19, attributes := #[] }] 33 16 #[] #[{ accessFlags := 24, nameIndex := 28, descriptorIndex := 29, attributes := #[] }, { accessFlags := 26, nameIndex := 38, descriptorIndex := 39, attributes := #[] }, { accessFlags := 25, nameIndex := 121, descriptorIndex := 25, attributes := #[] }, { accessFlags := 25, nameIndex := 131, descriptorIndex := 25, attributes := #[] }, { accessFlags := 25, nameIndex := 137, descriptorIndex := 25, attributes := #[] }, { accessFlags := 25, nameIndex := 143, descriptorIndex := 25, attributes := #[] }, { accessFlags := 25, nameIndex := 53, descriptorIndex := 25, attributes := #[] }, { accessFlags := 25, nameIndex := 24, descriptorIndex := 25, attributes := #[] }, { accessFlags := 25, nameIndex := 162, descriptorIndex := 25, attributes := #[] }, { accessFlags := 25, nameIndex := 187, descriptorIndex := 25, attributes := #[] }, { accessFlags := 26, nameIndex := 48, descriptorIndex := 25, attributes := #[] }, { accessFlags := 25, nameIndex := 277, descriptorIndex := 25, attributes := #[] }, { accessFlags := 25, nameIndex := 280, descriptorIndex := 25, attributes := #[] }, { accessFlags := 25, nameIndex := 282, descriptorIndex := 25, attributes := #[] }, { accessFlags := 25, nameIndex := 284, descriptorIndex := 25, attributes := #[] }, { accessFlags := 25, nameIndex := 286, descriptorIndex := 25, attributes := #[] }, { accessFlags := 25, nameIndex := 288, descriptorIndex := 25, attributes := #[] }, { accessFlags := 25, nameIndex := 290, descriptorIndex := 25, attributes := #[] }, { accessFlags := 25, nameIndex := 292, descriptorIndex := 25, attributes := #[] }, { accessFlags := 26, nameIndex := 108, descriptorIndex := 109, attributes := #[] }, { accessFlags := 25, nameIndex := 294, descriptorIndex := 25, attributes := #[] }])
  fields := #[{ name := "U", type := (.object "jdk/internal/misc/Unsafe"), accessFlags := 24, slot := 0, constantValue := 0 }, { name := "BIG_ENDIAN", type := .boolean, accessFlags := 26, slot := 1, constantValue := 0 }, { name := "LOG2_ARRAY_BOOLEAN_INDEX_SCALE", type := .int, accessFlags := 25, slot := 2, constantValue := 0 }, { name := "LOG2_ARRAY_BYTE_INDEX_SCALE", type := .int, accessFlags := 25, slot := 3, constantValue := 0 }, { name := "LOG2_ARRAY_CHAR_INDEX_SCALE", type := .int, accessFlags := 25, slot := 4, constantValue := 0 }, { name := "LOG2_ARRAY_SHORT_INDEX_SCALE", type := .int, accessFlags := 25, slot := 5, constantValue := 0 }, { name := "LOG2_ARRAY_INT_INDEX_SCALE", type := .int, accessFlags := 25, slot := 6, constantValue := 0 }, { name := "LOG2_ARRAY_LONG_INDEX_SCALE", type := .int, accessFlags := 25, slot := 7, constantValue := 0 }, { name := "LOG2_ARRAY_FLOAT_INDEX_SCALE", type := .int, accessFlags := 25, slot := 8, constantValue := 0 }, { name := "LOG2_ARRAY_DOUBLE_INDEX_SCALE", type := .int, accessFlags := 25, slot := 9, constantValue := 0 }, { name := "LOG2_BYTE_BIT_SIZE", type := .int, accessFlags := 26, slot := 10, constantValue := 0 }, { name := "T_BOOLEAN", type := .int, accessFlags := 25, slot := 11, constantValue := 0 }, { name := "T_CHAR", type := .int, accessFlags := 25, slot := 12, constantValue := 0 }, { name := "T_FLOAT", type := .int, accessFlags := 25, slot := 13, constantValue := 0 }, { name := "T_DOUBLE", type := .int, accessFlags := 25, slot := 14, constantValue := 0 }, { name := "T_BYTE", type := .int, accessFlags := 25, slot := 15, constantValue := 0 }, { name := "T_SHORT", type := .int, accessFlags := 25, slot := 16, constantValue := 0 }, { name := "T_INT", type := .int, accessFlags := 25, slot := 17, constantValue := 0 }, { name := "T_LONG", type := .int, accessFlags := 25, slot := 18, constantValue := 0 }, { name := "JLA", type := (.object "jdk/internal/access/JavaLangAccess"), accessFlags := 26, slot := 19, constantValue := 0 }, { name := "SOFT_MAX_ARRAY_LENGTH", type := .int, accessFlags := 25, slot := 20, constantValue := 0 }]
  methods := #[k24m0]
  instanceTypes := #[]
  staticTypes := #[(.object "jdk/internal/misc/Unsafe"), .boolean, .int, .int, .int, .int, .int, .int, .int, .int, .int, .int, .int, .int, .int, .int, .int, .int, .int, (.object "jdk/internal/access/JavaLangAccess"), .int]
  resolved := Array.replicate 378 none
  statics := none }

/-- the primitive byte -/
def k25 : Class := { plain "byte" none with kind := .primitive 'B', accessFlags := 0x411 }
/-- [B -/
def k26 : Class := { plain "[B" (some 0) with kind := .array 25 .byte, interfaces := #[10, 11], accessFlags := 1041 }

/-- the primitive int -/
def k27 : Class := { plain "int" none with kind := .primitive 'I', accessFlags := 0x411 }
/-- [I -/
def k28 : Class := { plain "[I" (some 0) with kind := .array 27 .int, interfaces := #[10, 11], accessFlags := 1041 }

/-- [Ljava/lang/Object; -/
def k29 : Class := { plain "[Ljava/lang/Object;" (some 0) with kind := .array 0 (.object "java/lang/Object"), interfaces := #[10, 11], accessFlags := 1041 }

def heap : Heap := #[{ cls := 12, slots := #[.long 0, .int 0, .ref 3, .ref 4], vm := .statics 12 },
  { cls := 18, slots := #[.long 0, .int 1, .null, .int 0, .null, .int 0, .int 0], vm := .statics 18 },
  { cls := 22, slots := #[.null, .null, .null], vm := .statics 22 },
  { cls := 29, slots := #[], vm := .none },
  { cls := 29, slots := #[], vm := .none }]
def classes : Array Class := #[k0, k1, k2, k3, k4, k5, k6, k7, k8, k9, k10, k11, k12, k13, k14, k15, k16, k17, k18, k19, k20, k21, k22, k23, k24, k25, k26, k27, k28, k29]
def interned : List (Array UInt16 × Addr) := []
def slotsUsed : Nat := 14
def theMethod : MethodId := ⟨1, 1⟩
def args0 : Array Value := #[.int 5, .int 5, .long 5, .long 5]
def aboutOver (below : List Frame) : State where
  vm := { classes := classes, interned := interned.toArray }
  heap := heap
  slotsUsed := slotsUsed
  threads := #[{ frames := .invoking theMethod args0 :: below }]
def below0 : List Frame := [.native { method := ⟨0, 0⟩, args := #[] }]
def about1 : State := aboutOver below0
def p0 : Program := .bare "" "" ""
def e0 : Env := launch0.env 0 0 0
theorem w_frames : about1.frames = Frame.invoking theMethod args0 :: below0 := rfl
set_option maxRecDepth 65536 in
theorem w_args : argsFit about1.vm theMethod args0 = true := by decide +kernel
set_option maxRecDepth 65536 in
theorem w_heap : heapFits about1 = true := by decide +kernel
set_option maxRecDepth 65536 in
theorem w_runnable : about1.curStatus? = some .runnable := by decide +kernel
set_option maxRecDepth 65536 in
theorem w_alone : about1.alone = true := by decide +kernel
set_option maxRecDepth 65536 in
theorem w_named : about1.methodNamed? x = some theMethod := by decide +kernel
set_option maxRecDepth 65536 in
theorem w_hears : about1.hears theMethod below0 = true := by decide +kernel
set_option maxRecDepth 65536 in
theorem w_ripe : about1.ripe theMethod args0 below0 = true := by decide +kernel
theorem w_running : about1.status = .running := rfl
set_option maxRecDepth 65536 in
theorem w_room : about1.hasRoom e0.platform room_1 = true :=
  launch0.hasRoom_least _ room_1 (by decide +kernel) (by decide +kernel) (by decide +kernel) (by decide +kernel) (by decide +kernel) (by decide +kernel)
theorem allAtoms_all (ts : List Jvm.Cond) (a : Array Jvm.Value) (st : Jvm.State) : (allAtoms ts).before a st = ts.all (fun c => c.before a st) := by
  induction ts with
  | nil => rfl
  | cons c t ih =>
    show (Jvm.Cond.and c (allAtoms t)).before a st = _
    rw [Jvm.Cond.before_and, ih, List.all_cons]
def words1 : List Jvm.Cond := Jvm.Cond.code x code maxLocals ret :: tables_1
/-- a 'code' word, met by the world's own term for the bytes: nothing is compared byte by byte -/
theorem code_word {y : MethodName} {bytes : ByteArray} {mx : Nat} {rt : Option FieldType} {a : Array Value} {s : State} {m : MethodId} {meth : Method} {c : Code} (h1 : s.methodNamed? y = some m) (h2 : s.vm.method? m = some meth) (h3 : meth.code = some c) (h4 : c.code = bytes)
    (h5 : (c.maxLocals == mx && c.exceptionTable.isEmpty && decide (c.maxStack ≤ mostOperands) && decide (meth.sig.returnType = rt) && !meth.locks && decide (parseMethodDescriptor y.desc = some meth.sig)) = true) : (Jvm.Cond.code y bytes mx rt).before a s = true := by
  simp only [Bool.and_eq_true, beq_iff_eq, Bool.not_eq_true', decide_eq_true_eq] at h5
  obtain ⟨⟨⟨⟨⟨g1, g2⟩, g3⟩, g4⟩, g5⟩, g6⟩ := h5
  simp [Cond.before, Cond.holds, Cond.value, h1, h2, h3, h4, g1, g2, g3, g4, g5, g6]
def isCode : Jvm.Cond → Bool
  | .code _ _ _ _ => true
  | _ => false
theorem all_split {L : List Jvm.Cond} {P : Jvm.Cond → Bool} (h1 : L.all (fun c => isCode c || P c) = true) (h2 : ∀ c ∈ L.filter isCode, P c = true) : L.all P = true := by
  refine List.all_eq_true.mpr fun c hc => ?_
  have h := List.all_eq_true.mp h1 c hc
  rcases Bool.eq_false_or_eq_true (isCode c) with hi | hi
  · exact h2 c (List.mem_filter.mpr ⟨hc, hi⟩)
  · simpa [hi] using h
set_option maxRecDepth 65536 in
theorem w_c0 : (Jvm.Cond.code x code maxLocals ret).before args0 about1 = true := code_word (m := ⟨1, 1⟩) (meth := k1m1) (c := k1c1) (by decide +kernel) rfl rfl rfl (by decide +kernel)
set_option maxRecDepth 65536 in
theorem w_c1 : (Jvm.Cond.code ({ cls := "java/lang/Math", name := "max", desc := "(II)I" } : Jvm.MethodName) jdk_29_method_65_code (2 : Nat) (Option.some Jvm.ClassFile.FieldType.int)).before args0 about1 = true := code_word (m := ⟨2, 1⟩) (meth := k2m1) (c := k2c1) (by decide +kernel) rfl rfl rfl (by decide +kernel)
set_option maxRecDepth 65536 in
theorem w_c2 : (Jvm.Cond.code ({ cls := "java/util/ArrayList", name := "<init>", desc := "()V" } : Jvm.MethodName) jdk_38_method_2_code (1 : Nat) (Option.none : Option Jvm.ClassFile.FieldType)).before args0 about1 = true := code_word (m := ⟨12, 0⟩) (meth := k12m0) (c := k12c0) (by decide +kernel) rfl rfl rfl (by decide +kernel)
set_option maxRecDepth 65536 in
theorem w_c3 : (Jvm.Cond.code ({ cls := "java/util/AbstractList", name := "<init>", desc := "()V" } : Jvm.MethodName) jdk_39_method_1_code (1 : Nat) (Option.none : Option Jvm.ClassFile.FieldType)).before args0 about1 = true := code_word (m := ⟨8, 0⟩) (meth := k8m0) (c := k8c0) (by decide +kernel) rfl rfl rfl (by decide +kernel)
set_option maxRecDepth 65536 in
theorem w_c4 : (Jvm.Cond.code ({ cls := "java/util/AbstractCollection", name := "<init>", desc := "()V" } : Jvm.MethodName) jdk_22_method_1_code (1 : Nat) (Option.none : Option Jvm.ClassFile.FieldType)).before args0 about1 = true := code_word (m := ⟨5, 0⟩) (meth := k5m0) (c := k5c0) (by decide +kernel) rfl rfl rfl (by decide +kernel)
set_option maxRecDepth 65536 in
theorem w_c5 : (Jvm.Cond.code ({ cls := "java/lang/Object", name := "<init>", desc := "()V" } : Jvm.MethodName) object_method_1_code (1 : Nat) (Option.none : Option Jvm.ClassFile.FieldType)).before args0 about1 = true := code_word (m := ⟨0, 0⟩) (meth := k0m0) (c := k0c0) (by decide +kernel) rfl rfl rfl (by decide +kernel)
set_option maxRecDepth 65536 in
theorem w_c6 : (Jvm.Cond.code ({ cls := "com/example/lumenward/lumenward/model/End", name := "at", desc := "(I)Lcom/example/lumenward/lumenward/model/End;" } : Jvm.MethodName) prog_22_method_2_code (1 : Nat) (Option.some (Jvm.ClassFile.FieldType.object "com/example/lumenward/lumenward/model/End"))).before args0 about1 = true := code_word (m := ⟨19, 1⟩) (meth := k19m1) (c := k19c1) (by decide +kernel) rfl rfl rfl (by decide +kernel)
set_option maxRecDepth 65536 in
theorem w_c7 : (Jvm.Cond.code ({ cls := "com/example/lumenward/lumenward/model/End", name := "<init>", desc := "(IZ)V" } : Jvm.MethodName) prog_22_method_1_code (3 : Nat) (Option.none : Option Jvm.ClassFile.FieldType)).before args0 about1 = true := code_word (m := ⟨19, 0⟩) (meth := k19m0) (c := k19c0) (by decide +kernel) rfl rfl rfl (by decide +kernel)
set_option maxRecDepth 65536 in
theorem w_c8 : (Jvm.Cond.code ({ cls := "com/example/lumenward/lumenward/model/Request", name := "<init>", desc := "(Ljava/lang/String;Lcom/example/lumenward/lumenward/model/RequestType;Lcom/example/lumenward/lumenward/model/End;Lcom/example/lumenward/lumenward/model/End;I)V" } : Jvm.MethodName) prog_27_method_1_code (6 : Nat) (Option.none : Option Jvm.ClassFile.FieldType)).before args0 about1 = true := code_word (m := ⟨13, 0⟩) (meth := k13m0) (c := k13c0) (by decide +kernel) rfl rfl rfl (by decide +kernel)
set_option maxRecDepth 65536 in
theorem w_c9 : (Jvm.Cond.code ({ cls := "java/lang/String", name := "isEmpty", desc := "()Z" } : Jvm.MethodName) jdk_42_method_55_code (1 : Nat) (Option.some Jvm.ClassFile.FieldType.boolean)).before args0 about1 = true := code_word (m := ⟨18, 1⟩) (meth := k18m1) (c := k18c1) (by decide +kernel) rfl rfl rfl (by decide +kernel)
set_option maxRecDepth 65536 in
theorem w_c10 : (Jvm.Cond.code ({ cls := "com/example/lumenward/lumenward/model/End", name := "isAnyBorder", desc := "()Z" } : Jvm.MethodName) prog_22_method_3_code (1 : Nat) (Option.some Jvm.ClassFile.FieldType.boolean)).before args0 about1 = true := code_word (m := ⟨19, 2⟩) (meth := k19m2) (c := k19c2) (by decide +kernel) rfl rfl rfl (by decide +kernel)
set_option maxRecDepth 65536 in
theorem w_c11 : (Jvm.Cond.code ({ cls := "com/example/lumenward/lumenward/model/End", name := "getNode", desc := "()I" } : Jvm.MethodName) prog_22_method_4_code (1 : Nat) (Option.some Jvm.ClassFile.FieldType.int)).before args0 about1 = true := code_word (m := ⟨19, 3⟩) (meth := k19m3) (c := k19c3) (by decide +kernel) rfl rfl rfl (by decide +kernel)
set_option maxRecDepth 65536 in
theorem w_c12 : (Jvm.Cond.code ({ cls := "java/util/ArrayList", name := "add", desc := "(Ljava/lang/Object;)Z" } : Jvm.MethodName) jdk_38_method_25_code (2 : Nat) (Option.some Jvm.ClassFile.FieldType.boolean)).before args0 about1 = true := code_word (m := ⟨12, 7⟩) (meth := k12m7) (c := k12c7) (by decide +kernel) rfl rfl rfl (by decide +kernel)
set_option maxRecDepth 65536 in
theorem w_c13 : (Jvm.Cond.code ({ cls := "java/util/ArrayList", name := "add", desc := "(Ljava/lang/Object;[Ljava/lang/Object;I)V" } : Jvm.MethodName) jdk_38_method_24_code (4 : Nat) (Option.none : Option Jvm.ClassFile.FieldType)).before args0 about1 = true := code_word (m := ⟨12, 6⟩) (meth := k12m6) (c := k12c6) (by decide +kernel) rfl rfl rfl (by decide +kernel)
set_option maxRecDepth 65536 in
theorem w_c14 : (Jvm.Cond.code ({ cls := "java/util/ArrayList", name := "grow", desc := "()[Ljava/lang/Object;" } : Jvm.MethodName) jdk_38_method_7_code (1 : Nat) (Option.some (Jvm.ClassFile.FieldType.array (Jvm.ClassFile.FieldType.object "java/lang/Object")))).before args0 about1 = true := code_word (m := ⟨12, 2⟩) (meth := k12m2) (c := k12c2) (by decide +kernel) rfl rfl rfl (by decide +kernel)
set_option maxRecDepth 65536 in
theorem w_c15 : (Jvm.Cond.code ({ cls := "java/util/ArrayList", name := "grow", desc := "(I)[Ljava/lang/Object;" } : Jvm.MethodName) jdk_38_method_6_code (4 : Nat) (Option.some (Jvm.ClassFile.FieldType.array (Jvm.ClassFile.FieldType.object "java/lang/Object")))).before args0 about1 = true := code_word (m := ⟨12, 1⟩) (meth := k12m1) (c := k12c1) (by decide +kernel) rfl rfl rfl (by decide +kernel)
set_option maxRecDepth 65536 in
theorem w_c16 : (Jvm.Cond.code ({ cls := "com/example/lumenward/lumenward/planner/Objective", name := "<init>", desc := "(Ljava/util/List;)V" } : Jvm.MethodName) prog_44_method_1_code (8 : Nat) (Option.none : Option Jvm.ClassFile.FieldType)).before args0 about1 = true := code_word (m := ⟨20, 0⟩) (meth := k20m0) (c := k20c0) (by decide +kernel) rfl rfl rfl (by decide +kernel)
set_option maxRecDepth 65536 in
theorem w_c17 : (Jvm.Cond.code ({ cls := "java/util/ArrayList", name := "size", desc := "()I" } : Jvm.MethodName) jdk_38_method_8_code (1 : Nat) (Option.some Jvm.ClassFile.FieldType.int)).before args0 about1 = true := code_word (m := ⟨12, 3⟩) (meth := k12m3) (c := k12c3) (by decide +kernel) rfl rfl rfl (by decide +kernel)
set_option maxRecDepth 65536 in
theorem w_c18 : (Jvm.Cond.code ({ cls := "java/util/ArrayList", name := "get", desc := "(I)Ljava/lang/Object;" } : Jvm.MethodName) jdk_38_method_20_code (2 : Nat) (Option.some (Jvm.ClassFile.FieldType.object "java/lang/Object"))).before args0 about1 = true := code_word (m := ⟨12, 5⟩) (meth := k12m5) (c := k12c5) (by decide +kernel) rfl rfl rfl (by decide +kernel)
set_option maxRecDepth 65536 in
theorem w_c19 : (Jvm.Cond.code ({ cls := "java/util/Objects", name := "checkIndex", desc := "(II)I" } : Jvm.MethodName) jdk_31_method_17_code (2 : Nat) (Option.some Jvm.ClassFile.FieldType.int)).before args0 about1 = true := code_word (m := ⟨21, 1⟩) (meth := k21m1) (c := k21c1) (by decide +kernel) rfl rfl rfl (by decide +kernel)
set_option maxRecDepth 65536 in
theorem w_c20 : (Jvm.Cond.code ({ cls := "jdk/internal/util/Preconditions", name := "checkIndex", desc := "(IILjava/util/function/BiFunction;)I" } : Jvm.MethodName) jdk_41_method_11_code (3 : Nat) (Option.some Jvm.ClassFile.FieldType.int)).before args0 about1 = true := code_word (m := ⟨22, 1⟩) (meth := k22m1) (c := k22c1) (by decide +kernel) rfl rfl rfl (by decide +kernel)
set_option maxRecDepth 65536 in
theorem w_c21 : (Jvm.Cond.code ({ cls := "java/util/ArrayList", name := "elementData", desc := "(I)Ljava/lang/Object;" } : Jvm.MethodName) jdk_38_method_18_code (2 : Nat) (Option.some (Jvm.ClassFile.FieldType.object "java/lang/Object"))).before args0 about1 = true := code_word (m := ⟨12, 4⟩) (meth := k12m4) (c := k12c4) (by decide +kernel) rfl rfl rfl (by decide +kernel)
set_option maxRecDepth 65536 in
theorem w_c22 : (Jvm.Cond.code ({ cls := "com/example/lumenward/lumenward/model/Request", name := "getSlots", desc := "()I" } : Jvm.MethodName) prog_27_method_6_code (1 : Nat) (Option.some Jvm.ClassFile.FieldType.int)).before args0 about1 = true := code_word (m := ⟨13, 1⟩) (meth := k13m1) (c := k13c1) (by decide +kernel) rfl rfl rfl (by decide +kernel)
set_option maxRecDepth 65536 in
theorem w_c23 : (Jvm.Cond.code ({ cls := "com/example/lumenward/lumenward/planner/Objective", name := "of", desc := "(JJ)J" } : Jvm.MethodName) prog_44_method_4_code (5 : Nat) (Option.some Jvm.ClassFile.FieldType.long)).before args0 about1 = true := code_word (m := ⟨20, 1⟩) (meth := k20m1) (c := k20c1) (by decide +kernel) rfl rfl rfl (by decide +kernel)
def codes1 : List Jvm.Cond := [Jvm.Cond.code x code maxLocals ret, Jvm.Cond.code ({ cls := "java/lang/Math", name := "max", desc := "(II)I" } : Jvm.MethodName) jdk_29_method_65_code (2 : Nat) (Option.some Jvm.ClassFile.FieldType.int), Jvm.Cond.code ({ cls := "java/util/ArrayList", name := "<init>", desc := "()V" } : Jvm.MethodName) jdk_38_method_2_code (1 : Nat) (Option.none : Option Jvm.ClassFile.FieldType), Jvm.Cond.code ({ cls := "java/util/AbstractList", name := "<init>", desc := "()V" } : Jvm.MethodName) jdk_39_method_1_code (1 : Nat) (Option.none : Option Jvm.ClassFile.FieldType), Jvm.Cond.code ({ cls := "java/util/AbstractCollection", name := "<init>", desc := "()V" } : Jvm.MethodName) jdk_22_method_1_code (1 : Nat) (Option.none : Option Jvm.ClassFile.FieldType), Jvm.Cond.code ({ cls := "java/lang/Object", name := "<init>", desc := "()V" } : Jvm.MethodName) object_method_1_code (1 : Nat) (Option.none : Option Jvm.ClassFile.FieldType), Jvm.Cond.code ({ cls := "com/example/lumenward/lumenward/model/End", name := "at", desc := "(I)Lcom/example/lumenward/lumenward/model/End;" } : Jvm.MethodName) prog_22_method_2_code (1 : Nat) (Option.some (Jvm.ClassFile.FieldType.object "com/example/lumenward/lumenward/model/End")), Jvm.Cond.code ({ cls := "com/example/lumenward/lumenward/model/End", name := "<init>", desc := "(IZ)V" } : Jvm.MethodName) prog_22_method_1_code (3 : Nat) (Option.none : Option Jvm.ClassFile.FieldType), Jvm.Cond.code ({ cls := "com/example/lumenward/lumenward/model/Request", name := "<init>", desc := "(Ljava/lang/String;Lcom/example/lumenward/lumenward/model/RequestType;Lcom/example/lumenward/lumenward/model/End;Lcom/example/lumenward/lumenward/model/End;I)V" } : Jvm.MethodName) prog_27_method_1_code (6 : Nat) (Option.none : Option Jvm.ClassFile.FieldType), Jvm.Cond.code ({ cls := "java/lang/String", name := "isEmpty", desc := "()Z" } : Jvm.MethodName) jdk_42_method_55_code (1 : Nat) (Option.some Jvm.ClassFile.FieldType.boolean), Jvm.Cond.code ({ cls := "com/example/lumenward/lumenward/model/End", name := "isAnyBorder", desc := "()Z" } : Jvm.MethodName) prog_22_method_3_code (1 : Nat) (Option.some Jvm.ClassFile.FieldType.boolean), Jvm.Cond.code ({ cls := "com/example/lumenward/lumenward/model/End", name := "getNode", desc := "()I" } : Jvm.MethodName) prog_22_method_4_code (1 : Nat) (Option.some Jvm.ClassFile.FieldType.int), Jvm.Cond.code ({ cls := "java/util/ArrayList", name := "add", desc := "(Ljava/lang/Object;)Z" } : Jvm.MethodName) jdk_38_method_25_code (2 : Nat) (Option.some Jvm.ClassFile.FieldType.boolean), Jvm.Cond.code ({ cls := "java/util/ArrayList", name := "add", desc := "(Ljava/lang/Object;[Ljava/lang/Object;I)V" } : Jvm.MethodName) jdk_38_method_24_code (4 : Nat) (Option.none : Option Jvm.ClassFile.FieldType), Jvm.Cond.code ({ cls := "java/util/ArrayList", name := "grow", desc := "()[Ljava/lang/Object;" } : Jvm.MethodName) jdk_38_method_7_code (1 : Nat) (Option.some (Jvm.ClassFile.FieldType.array (Jvm.ClassFile.FieldType.object "java/lang/Object"))), Jvm.Cond.code ({ cls := "java/util/ArrayList", name := "grow", desc := "(I)[Ljava/lang/Object;" } : Jvm.MethodName) jdk_38_method_6_code (4 : Nat) (Option.some (Jvm.ClassFile.FieldType.array (Jvm.ClassFile.FieldType.object "java/lang/Object"))), Jvm.Cond.code ({ cls := "com/example/lumenward/lumenward/planner/Objective", name := "<init>", desc := "(Ljava/util/List;)V" } : Jvm.MethodName) prog_44_method_1_code (8 : Nat) (Option.none : Option Jvm.ClassFile.FieldType), Jvm.Cond.code ({ cls := "java/util/ArrayList", name := "size", desc := "()I" } : Jvm.MethodName) jdk_38_method_8_code (1 : Nat) (Option.some Jvm.ClassFile.FieldType.int), Jvm.Cond.code ({ cls := "java/util/ArrayList", name := "get", desc := "(I)Ljava/lang/Object;" } : Jvm.MethodName) jdk_38_method_20_code (2 : Nat) (Option.some (Jvm.ClassFile.FieldType.object "java/lang/Object")), Jvm.Cond.code ({ cls := "java/util/Objects", name := "checkIndex", desc := "(II)I" } : Jvm.MethodName) jdk_31_method_17_code (2 : Nat) (Option.some Jvm.ClassFile.FieldType.int), Jvm.Cond.code ({ cls := "jdk/internal/util/Preconditions", name := "checkIndex", desc := "(IILjava/util/function/BiFunction;)I" } : Jvm.MethodName) jdk_41_method_11_code (3 : Nat) (Option.some Jvm.ClassFile.FieldType.int), Jvm.Cond.code ({ cls := "java/util/ArrayList", name := "elementData", desc := "(I)Ljava/lang/Object;" } : Jvm.MethodName) jdk_38_method_18_code (2 : Nat) (Option.some (Jvm.ClassFile.FieldType.object "java/lang/Object")), Jvm.Cond.code ({ cls := "com/example/lumenward/lumenward/model/Request", name := "getSlots", desc := "()I" } : Jvm.MethodName) prog_27_method_6_code (1 : Nat) (Option.some Jvm.ClassFile.FieldType.int), Jvm.Cond.code ({ cls := "com/example/lumenward/lumenward/planner/Objective", name := "of", desc := "(JJ)J" } : Jvm.MethodName) prog_44_method_4_code (5 : Nat) (Option.some Jvm.ClassFile.FieldType.long)]
set_option maxRecDepth 65536 in
theorem codes_eq : words1.filter isCode = codes1 := rfl
theorem w_codes : ∀ c ∈ words1.filter isCode, c.before args0 about1 = true := by
  rw [codes_eq]
  intro c hc
  simp only [codes1, List.mem_cons, List.not_mem_nil, or_false] at hc
  rcases hc with rfl | rfl | rfl | rfl | rfl | rfl | rfl | rfl | rfl | rfl | rfl | rfl | rfl | rfl | rfl | rfl | rfl | rfl | rfl | rfl | rfl | rfl | rfl | rfl
  · exact w_c0
  · exact w_c1
  · exact w_c2
  · exact w_c3
  · exact w_c4
  · exact w_c5
  · exact w_c6
  · exact w_c7
  · exact w_c8
  · exact w_c9
  · exact w_c10
  · exact w_c11
  · exact w_c12
  · exact w_c13
  · exact w_c14
  · exact w_c15
  · exact w_c16
  · exact w_c17
  · exact w_c18
  · exact w_c19
  · exact w_c20
  · exact w_c21
  · exact w_c22
  · exact w_c23
set_option maxRecDepth 65536 in
theorem w_t1 : (words1.take 24).all (fun c => isCode c || c.before args0 about1) = true := by decide +kernel
set_option maxRecDepth 65536 in
theorem w_t2 : ((words1.drop 24).take 24).all (fun c => isCode c || c.before args0 about1) = true := by decide +kernel
set_option maxRecDepth 65536 in
theorem w_t3 : (((words1.drop 24).drop 24).take 24).all (fun c => isCode c || c.before args0 about1) = true := by decide +kernel
set_option maxRecDepth 65536 in
theorem w_t4 : ((((words1.drop 24).drop 24).drop 24).take 24).all (fun c => isCode c || c.before args0 about1) = true := by decide +kernel
set_option maxRecDepth 65536 in
theorem w_t5 : (((((words1.drop 24).drop 24).drop 24).drop 24).take 24).all (fun c => isCode c || c.before args0 about1) = true := by decide +kernel
set_option maxRecDepth 65536 in
theorem w_t6 : ((((((words1.drop 24).drop 24).drop 24).drop 24).drop 24).take 24).all (fun c => isCode c || c.before args0 about1) = true := by decide +kernel
set_option maxRecDepth 65536 in
theorem w_t7 : (((((((words1.drop 24).drop 24).drop 24).drop 24).drop 24).drop 24).take 24).all (fun c => isCode c || c.before args0 about1) = true := by decide +kernel
set_option maxRecDepth 65536 in
theorem w_t8 : (((((((words1.drop 24).drop 24).drop 24).drop 24).drop 24).drop 24).drop 24).all (fun c => isCode c || c.before args0 about1) = true := by decide +kernel
theorem w_tables : (allAtoms (Jvm.Cond.code x code maxLocals ret :: tables_1)).before args0 about1 = true := by
  rw [allAtoms_all]
  show words1.all (fun c => c.before args0 about1) = true
  refine all_split ?_ w_codes
  rw [← List.take_append_drop 24 words1, List.all_append, w_t1, ← List.take_append_drop 24 (words1.drop 24), List.all_append, w_t2, ← List.take_append_drop 24 ((words1.drop 24).drop 24), List.all_append, w_t3, ← List.take_append_drop 24 (((words1.drop 24).drop 24).drop 24), List.all_append, w_t4, ← List.take_append_drop 24 ((((words1.drop 24).drop 24).drop 24).drop 24), List.all_append, w_t5, ← List.take_append_drop 24 (((((words1.drop 24).drop 24).drop 24).drop 24).drop 24), List.all_append, w_t6, ← List.take_append_drop 24 ((((((words1.drop 24).drop 24).drop 24).drop 24).drop 24).drop 24), List.all_append, w_t7, w_t8]
  rfl
set_option maxRecDepth 65536 in
theorem w_rest : rest_1_c.before args0 about1 = true := by decide +kernel
set_option maxRecDepth 65536 in
theorem w_case : (Jvm.Cond.and given_1 narrow_1).before args0 about1 = true := by decide +kernel
set_option maxRecDepth 65536 in
theorem w_consts : constsHeld consts_1 about1 := Jvm.Lit.constsHeldB_iff.mp (by decide +kernel)
theorem w_applies : (headSpec (Jvm.Cond.code x code maxLocals ret :: tables_1) room_1).applies x e0.platform about1 = true :=
  (Spec.applies_iff w_frames).mpr ⟨w_running, w_runnable, w_alone, w_named, w_hears, w_ripe, w_room, w_tables⟩
theorem atStart : AtStart classFile x code maxLocals ret World_1 tables_1 room_1 Calls_1 rest_1 Pre_1 launch0 p0 e0 about1 theMethod args0 below0 :=
  ⟨lists_1, trivial, launch0.admits_env _ _ _, launch0.least_env, fairChoices_fair.cas, fairChoices_fair.clock, w_frames, w_args, w_heap, w_applies, ⟨w_consts, trivial⟩, w_rest, w_case⟩
end start1
theorem witness_1 : WitnessClaimed_1 := ⟨start1.p0, start1.e0, start1.about1, start1.theMethod, start1.args0, start1.below0, start1.atStart⟩
end Jvm.Pilot.@@N@@
