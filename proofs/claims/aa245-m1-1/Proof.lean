import JvmDerived
import JvmDerived.Pilot.@@N@@Statement
import JvmDerived.Pilot.@@N@@Code
set_option linter.unusedVariables false
set_option linter.unusedSimpArgs false
@@BLOCK:NumsL.lean.txt@@
namespace Jvm.RoadKit
open Sem ClassFile Op Lib Jvm.Stand Jvm.Free Jvm.LawKit
section New
variable {p : Program} {l : Launch} {e : Env} {R : Room} {s : State} {m : MethodId} {args : Array Value} {below : List Frame} {meth : Method} {c : Code} {T : State} {locs : List Loc} {cells slots : Nat}
theorem retI (X : Stand p l e R s m args below meth c T locs cells slots) (hx : p.tables.exec = Jvm.exec) {pc : Nat} {Ls : Array Slot} {z : Int32} {rest : List Value} (hret : meth.sig.returnType = some .int) (hd : decode c.code pc = .ok (.ireturn, 1)) {fs : List Frame}
    (hl : ∀ (f : JFrame) (acts : List Action), f.method = m → f.locked = none → f.entered = [] → (doReturn e (T.setTop f) acts (some (.int z))).1 = T.setFrames fs) : Steps p.tables e below (T.setTop (mkF m pc Ls (.int z :: rest))) (T.setFrames fs) := by
  have hm' : T.vm.method? m = some meth := X.method'
  have hn : narrow .int (.int z) = .int z := rfl
  show Steps p.tables e below (T.setTop { method := m, pc := pc, locals := Ls, stack := _ :: rest, locked := none }) _
  jvm_step X.here [X.here.top, hx, hd, hm', hret, hn]
  first | (intro acts; rw [hl _ acts rfl rfl rfl]) | rw [hl _ _ rfl rfl rfl]
  exact Steps.refl _
end New
end Jvm.RoadKit
namespace Jvm.Pilot.@@N@@
open Jvm Jvm.ClassFile Sem Op Lib Jvm.Free Jvm.Stand Jvm.LawKit Jvm.RoadKit Bundle Jvm.Pilot.@@N@@.Jvm.D
theorem own_nr {n : String} {w : Value} (h : w.isRef = true) : narrow (.object n) w = w := by rcases ref_cases h with rfl | ⟨_, rfl⟩ <;> rfl
theorem own_i {L : List Jvm.Cond} {a0 : Array Value} {Z : State} (hw : ∀ d ∈ L, d.before a0 Z = true) (i : Nat) {d : Jvm.Cond} (h : L[i]? = some d) : d.before a0 Z = true := hw _ (List.mem_of_getElem? h)
theorem d1_0 : decode prog_87_method_1_code 0 = .ok (.aload_n 0, 1) := by decide +kernel
theorem d1_1 : decode prog_87_method_1_code 1 = .ok (.invokespecial 1, 3) := by decide +kernel
theorem d1_4 : decode prog_87_method_1_code 4 = .ok (.aload_n 0, 1) := by decide +kernel
theorem d1_5 : decode prog_87_method_1_code 5 = .ok (.bipush 33, 2) := by decide +kernel
theorem d1_7 : decode prog_87_method_1_code 7 = .ok (.newarray .long, 2) := by decide +kernel
theorem d1_9 : decode prog_87_method_1_code 9 = .ok (.putfield 9, 3) := by decide +kernel
theorem d1_12 : decode prog_87_method_1_code 12 = .ok (.aload_n 0, 1) := by decide +kernel
theorem d1_13 : decode prog_87_method_1_code 13 = .ok (.getstatic 13, 3) := by decide +kernel
theorem d1_16 : decode prog_87_method_1_code 16 = .ok (.iload_n 1, 1) := by decide +kernel
theorem d1_17 : decode prog_87_method_1_code 17 = .ok (.laload, 1) := by decide +kernel
theorem d1_18 : decode prog_87_method_1_code 18 = .ok (.putfield 16, 3) := by decide +kernel
theorem d1_21 : decode prog_87_method_1_code 21 = .ok (.aload_n 0, 1) := by decide +kernel
theorem d1_22 : decode prog_87_method_1_code 22 = .ok (.ldc2_w 20, 3) := by decide +kernel
theorem d1_25 : decode prog_87_method_1_code 25 = .ok (.aload_n 0, 1) := by decide +kernel
theorem d1_26 : decode prog_87_method_1_code 26 = .ok (.getfield 16, 3) := by decide +kernel
theorem d1_29 : decode prog_87_method_1_code 29 = .ok (.lmul, 1) := by decide +kernel
theorem d1_30 : decode prog_87_method_1_code 30 = .ok (.putfield 22, 3) := by decide +kernel
theorem d1_33 : decode prog_87_method_1_code 33 = .ok (.aload_n 0, 1) := by decide +kernel
theorem d1_34 : decode prog_87_method_1_code 34 = .ok (.getfield 16, 3) := by decide +kernel
theorem d1_37 : decode prog_87_method_1_code 37 = .ok (.lstore_n 2, 1) := by decide +kernel
theorem d1_38 : decode prog_87_method_1_code 38 = .ok (.iconst 0, 1) := by decide +kernel
theorem d1_39 : decode prog_87_method_1_code 39 = .ok (.istore 4, 2) := by decide +kernel
theorem d1_41 : decode prog_87_method_1_code 41 = .ok (.iload 4, 2) := by decide +kernel
theorem d1_43 : decode prog_87_method_1_code 43 = .ok (.iconst 5, 1) := by decide +kernel
theorem d1_44 : decode prog_87_method_1_code 44 = .ok (.if_icmp .ge 22, 3) := by decide +kernel
theorem d1_47 : decode prog_87_method_1_code 47 = .ok (.lload_n 2, 1) := by decide +kernel
theorem d1_48 : decode prog_87_method_1_code 48 = .ok (.ldc2_w 20, 3) := by decide +kernel
theorem d1_51 : decode prog_87_method_1_code 51 = .ok (.aload_n 0, 1) := by decide +kernel
theorem d1_52 : decode prog_87_method_1_code 52 = .ok (.getfield 16, 3) := by decide +kernel
theorem d1_55 : decode prog_87_method_1_code 55 = .ok (.lload_n 2, 1) := by decide +kernel
theorem d1_56 : decode prog_87_method_1_code 56 = .ok (.lmul, 1) := by decide +kernel
theorem d1_57 : decode prog_87_method_1_code 57 = .ok (.lsub, 1) := by decide +kernel
theorem d1_58 : decode prog_87_method_1_code 58 = .ok (.lmul, 1) := by decide +kernel
theorem d1_59 : decode prog_87_method_1_code 59 = .ok (.lstore_n 2, 1) := by decide +kernel
theorem d1_60 : decode prog_87_method_1_code 60 = .ok (.iinc 4 1, 3) := by decide +kernel
theorem d1_63 : decode prog_87_method_1_code 63 = .ok (.goto (-22), 3) := by decide +kernel
theorem d1_66 : decode prog_87_method_1_code 66 = .ok (.aload_n 0, 1) := by decide +kernel
theorem d1_67 : decode prog_87_method_1_code 67 = .ok (.lload_n 2, 1) := by decide +kernel
theorem d1_68 : decode prog_87_method_1_code 68 = .ok (.putfield 25, 3) := by decide +kernel
theorem d1_71 : decode prog_87_method_1_code 71 = .ok (.aload_n 0, 1) := by decide +kernel
theorem d1_72 : decode prog_87_method_1_code 72 = .ok (.getfield 16, 3) := by decide +kernel
theorem d1_75 : decode prog_87_method_1_code 75 = .ok (.lneg, 1) := by decide +kernel
theorem d1_76 : decode prog_87_method_1_code 76 = .ok (.aload_n 0, 1) := by decide +kernel
theorem d1_77 : decode prog_87_method_1_code 77 = .ok (.getfield 16, 3) := by decide +kernel
theorem d1_80 : decode prog_87_method_1_code 80 = .ok (.invokestatic 28, 3) := by decide +kernel
theorem d1_83 : decode prog_87_method_1_code 83 = .ok (.lstore 4, 2) := by decide +kernel
theorem d1_85 : decode prog_87_method_1_code 85 = .ok (.iconst 0, 1) := by decide +kernel
theorem d1_86 : decode prog_87_method_1_code 86 = .ok (.istore 6, 2) := by decide +kernel
theorem d1_88 : decode prog_87_method_1_code 88 = .ok (.iload 6, 2) := by decide +kernel
theorem d1_90 : decode prog_87_method_1_code 90 = .ok (.bipush 64, 2) := by decide +kernel
theorem d1_92 : decode prog_87_method_1_code 92 = .ok (.if_icmp .ge 22, 3) := by decide +kernel
theorem d1_95 : decode prog_87_method_1_code 95 = .ok (.lload 4, 2) := by decide +kernel
theorem d1_97 : decode prog_87_method_1_code 97 = .ok (.iconst 1, 1) := by decide +kernel
theorem d1_98 : decode prog_87_method_1_code 98 = .ok (.lshl, 1) := by decide +kernel
theorem d1_99 : decode prog_87_method_1_code 99 = .ok (.aload_n 0, 1) := by decide +kernel
theorem d1_100 : decode prog_87_method_1_code 100 = .ok (.getfield 16, 3) := by decide +kernel
theorem d1_103 : decode prog_87_method_1_code 103 = .ok (.invokestatic 34, 3) := by decide +kernel
theorem d1_106 : decode prog_87_method_1_code 106 = .ok (.lstore 4, 2) := by decide +kernel
theorem d1_108 : decode prog_87_method_1_code 108 = .ok (.iinc 6 1, 3) := by decide +kernel
theorem d1_111 : decode prog_87_method_1_code 111 = .ok (.goto (-23), 3) := by decide +kernel
theorem d1_114 : decode prog_87_method_1_code 114 = .ok (.aload_n 0, 1) := by decide +kernel
theorem d1_115 : decode prog_87_method_1_code 115 = .ok (.lload 4, 2) := by decide +kernel
theorem d1_117 : decode prog_87_method_1_code 117 = .ok (.putfield 37, 3) := by decide +kernel
theorem d1_120 : decode prog_87_method_1_code 120 = .ok (.aload_n 0, 1) := by decide +kernel
theorem d1_121 : decode prog_87_method_1_code 121 = .ok (.getstatic 40, 3) := by decide +kernel
theorem d1_124 : decode prog_87_method_1_code 124 = .ok (.iload_n 1, 1) := by decide +kernel
theorem d1_125 : decode prog_87_method_1_code 125 = .ok (.laload, 1) := by decide +kernel
theorem d1_126 : decode prog_87_method_1_code 126 = .ok (.aload_n 0, 1) := by decide +kernel
theorem d1_127 : decode prog_87_method_1_code 127 = .ok (.getfield 16, 3) := by decide +kernel
theorem d1_130 : decode prog_87_method_1_code 130 = .ok (.lconst 1, 1) := by decide +kernel
theorem d1_131 : decode prog_87_method_1_code 131 = .ok (.lsub, 1) := by decide +kernel
theorem d1_132 : decode prog_87_method_1_code 132 = .ok (.bipush 32, 2) := by decide +kernel
theorem d1_134 : decode prog_87_method_1_code 134 = .ok (.lushr, 1) := by decide +kernel
theorem d1_135 : decode prog_87_method_1_code 135 = .ok (.invokevirtual 43, 3) := by decide +kernel
theorem d1_138 : decode prog_87_method_1_code 138 = .ok (.lstore 6, 2) := by decide +kernel
theorem d1_140 : decode prog_87_method_1_code 140 = .ok (.bipush 32, 2) := by decide +kernel
theorem d1_142 : decode prog_87_method_1_code 142 = .ok (.istore 8, 2) := by decide +kernel
theorem d1_144 : decode prog_87_method_1_code 144 = .ok (.iload 8, 2) := by decide +kernel
theorem d1_146 : decode prog_87_method_1_code 146 = .ok (.ifCond .lt 28, 3) := by decide +kernel
theorem d1_149 : decode prog_87_method_1_code 149 = .ok (.aload_n 0, 1) := by decide +kernel
theorem d1_150 : decode prog_87_method_1_code 150 = .ok (.getfield 9, 3) := by decide +kernel
theorem d1_153 : decode prog_87_method_1_code 153 = .ok (.iload 8, 2) := by decide +kernel
theorem d1_155 : decode prog_87_method_1_code 155 = .ok (.lload 6, 2) := by decide +kernel
theorem d1_157 : decode prog_87_method_1_code 157 = .ok (.lastore, 1) := by decide +kernel
theorem d1_158 : decode prog_87_method_1_code 158 = .ok (.aload_n 0, 1) := by decide +kernel
theorem d1_159 : decode prog_87_method_1_code 159 = .ok (.lload 6, 2) := by decide +kernel
theorem d1_161 : decode prog_87_method_1_code 161 = .ok (.lload 6, 2) := by decide +kernel
theorem d1_163 : decode prog_87_method_1_code 163 = .ok (.invokevirtual 46, 3) := by decide +kernel
theorem d1_166 : decode prog_87_method_1_code 166 = .ok (.lstore 6, 2) := by decide +kernel
theorem d1_168 : decode prog_87_method_1_code 168 = .ok (.iinc 8 (-1), 3) := by decide +kernel
theorem d1_171 : decode prog_87_method_1_code 171 = .ok (.goto (-27), 3) := by decide +kernel
theorem d1_174 : decode prog_87_method_1_code 174 = .ok (.return_, 1) := by decide +kernel
theorem d3_0 : decode jdk_35_method_45_code 0 = .ok (.lload_n 2, 1) := by decide +kernel
theorem d3_1 : decode jdk_35_method_45_code 1 = .ok (.lconst 0, 1) := by decide +kernel
theorem d3_2 : decode jdk_35_method_45_code 2 = .ok (.lcmp, 1) := by decide +kernel
theorem d3_3 : decode jdk_35_method_45_code 3 = .ok (.ifCond .lt 37, 3) := by decide +kernel
theorem d3_6 : decode jdk_35_method_45_code 6 = .ok (.lload_n 0, 1) := by decide +kernel
theorem d3_7 : decode jdk_35_method_45_code 7 = .ok (.iconst 1, 1) := by decide +kernel
theorem d3_8 : decode jdk_35_method_45_code 8 = .ok (.lushr, 1) := by decide +kernel
theorem d3_9 : decode jdk_35_method_45_code 9 = .ok (.lload_n 2, 1) := by decide +kernel
theorem d3_10 : decode jdk_35_method_45_code 10 = .ok (.ldiv, 1) := by decide +kernel
theorem d3_11 : decode jdk_35_method_45_code 11 = .ok (.iconst 1, 1) := by decide +kernel
theorem d3_12 : decode jdk_35_method_45_code 12 = .ok (.lshl, 1) := by decide +kernel
theorem d3_13 : decode jdk_35_method_45_code 13 = .ok (.lstore 4, 2) := by decide +kernel
theorem d3_15 : decode jdk_35_method_45_code 15 = .ok (.lload_n 0, 1) := by decide +kernel
theorem d3_16 : decode jdk_35_method_45_code 16 = .ok (.lload 4, 2) := by decide +kernel
theorem d3_18 : decode jdk_35_method_45_code 18 = .ok (.lload_n 2, 1) := by decide +kernel
theorem d3_19 : decode jdk_35_method_45_code 19 = .ok (.lmul, 1) := by decide +kernel
theorem d3_20 : decode jdk_35_method_45_code 20 = .ok (.lsub, 1) := by decide +kernel
theorem d3_21 : decode jdk_35_method_45_code 21 = .ok (.lstore 6, 2) := by decide +kernel
theorem d3_23 : decode jdk_35_method_45_code 23 = .ok (.lload 6, 2) := by decide +kernel
theorem d3_25 : decode jdk_35_method_45_code 25 = .ok (.lload 6, 2) := by decide +kernel
theorem d3_27 : decode jdk_35_method_45_code 27 = .ok (.lload_n 2, 1) := by decide +kernel
theorem d3_28 : decode jdk_35_method_45_code 28 = .ok (.lsub, 1) := by decide +kernel
theorem d3_29 : decode jdk_35_method_45_code 29 = .ok (.ldc2_w 306, 3) := by decide +kernel
theorem d3_32 : decode jdk_35_method_45_code 32 = .ok (.lxor, 1) := by decide +kernel
theorem d3_33 : decode jdk_35_method_45_code 33 = .ok (.bipush 63, 2) := by decide +kernel
theorem d3_35 : decode jdk_35_method_45_code 35 = .ok (.lshr, 1) := by decide +kernel
theorem d3_36 : decode jdk_35_method_45_code 36 = .ok (.lload_n 2, 1) := by decide +kernel
theorem d3_37 : decode jdk_35_method_45_code 37 = .ok (.land, 1) := by decide +kernel
theorem d3_38 : decode jdk_35_method_45_code 38 = .ok (.lsub, 1) := by decide +kernel
theorem d3_39 : decode jdk_35_method_45_code 39 = .ok (.lreturn, 1) := by decide +kernel
theorem d4_0 : decode prog_87_method_10_code 0 = .ok (.lload_n 0, 1) := by decide +kernel
theorem d4_1 : decode prog_87_method_10_code 1 = .ok (.lload_n 2, 1) := by decide +kernel
theorem d4_2 : decode prog_87_method_10_code 2 = .ok (.lsub, 1) := by decide +kernel
theorem d4_3 : decode prog_87_method_10_code 3 = .ok (.lstore 4, 2) := by decide +kernel
theorem d4_5 : decode prog_87_method_10_code 5 = .ok (.lload 4, 2) := by decide +kernel
theorem d4_7 : decode prog_87_method_10_code 7 = .ok (.lload 4, 2) := by decide +kernel
theorem d4_9 : decode prog_87_method_10_code 9 = .ok (.bipush 63, 2) := by decide +kernel
theorem d4_11 : decode prog_87_method_10_code 11 = .ok (.lshr, 1) := by decide +kernel
theorem d4_12 : decode prog_87_method_10_code 12 = .ok (.lload_n 2, 1) := by decide +kernel
theorem d4_13 : decode prog_87_method_10_code 13 = .ok (.land, 1) := by decide +kernel
theorem d4_14 : decode prog_87_method_10_code 14 = .ok (.ladd, 1) := by decide +kernel
theorem d4_15 : decode prog_87_method_10_code 15 = .ok (.lreturn, 1) := by decide +kernel
theorem d5_0 : decode prog_87_method_6_code 0 = .ok (.lconst 1, 1) := by decide +kernel
theorem d5_1 : decode prog_87_method_6_code 1 = .ok (.lstore 5, 2) := by decide +kernel
theorem d5_3 : decode prog_87_method_6_code 3 = .ok (.lload_n 1, 1) := by decide +kernel
theorem d5_4 : decode prog_87_method_6_code 4 = .ok (.lstore 7, 2) := by decide +kernel
theorem d5_6 : decode prog_87_method_6_code 6 = .ok (.lload_n 3, 1) := by decide +kernel
theorem d5_7 : decode prog_87_method_6_code 7 = .ok (.lstore 9, 2) := by decide +kernel
theorem d5_9 : decode prog_87_method_6_code 9 = .ok (.lload 9, 2) := by decide +kernel
theorem d5_11 : decode prog_87_method_6_code 11 = .ok (.lconst 0, 1) := by decide +kernel
theorem d5_12 : decode prog_87_method_6_code 12 = .ok (.lcmp, 1) := by decide +kernel
theorem d5_13 : decode prog_87_method_6_code 13 = .ok (.ifCond .eq 41, 3) := by decide +kernel
theorem d5_16 : decode prog_87_method_6_code 16 = .ok (.lload 9, 2) := by decide +kernel
theorem d5_18 : decode prog_87_method_6_code 18 = .ok (.lconst 1, 1) := by decide +kernel
theorem d5_19 : decode prog_87_method_6_code 19 = .ok (.land, 1) := by decide +kernel
theorem d5_20 : decode prog_87_method_6_code 20 = .ok (.lconst 0, 1) := by decide +kernel
theorem d5_21 : decode prog_87_method_6_code 21 = .ok (.lcmp, 1) := by decide +kernel
theorem d5_22 : decode prog_87_method_6_code 22 = .ok (.ifCond .eq 13, 3) := by decide +kernel
theorem d5_25 : decode prog_87_method_6_code 25 = .ok (.aload_n 0, 1) := by decide +kernel
theorem d5_26 : decode prog_87_method_6_code 26 = .ok (.lload 5, 2) := by decide +kernel
theorem d5_28 : decode prog_87_method_6_code 28 = .ok (.lload 7, 2) := by decide +kernel
theorem d5_30 : decode prog_87_method_6_code 30 = .ok (.invokevirtual 46, 3) := by decide +kernel
theorem d5_33 : decode prog_87_method_6_code 33 = .ok (.lstore 5, 2) := by decide +kernel
theorem d5_35 : decode prog_87_method_6_code 35 = .ok (.aload_n 0, 1) := by decide +kernel
theorem d5_36 : decode prog_87_method_6_code 36 = .ok (.lload 7, 2) := by decide +kernel
theorem d5_38 : decode prog_87_method_6_code 38 = .ok (.lload 7, 2) := by decide +kernel
theorem d5_40 : decode prog_87_method_6_code 40 = .ok (.invokevirtual 46, 3) := by decide +kernel
theorem d5_43 : decode prog_87_method_6_code 43 = .ok (.lstore 7, 2) := by decide +kernel
theorem d5_45 : decode prog_87_method_6_code 45 = .ok (.lload 9, 2) := by decide +kernel
theorem d5_47 : decode prog_87_method_6_code 47 = .ok (.iconst 1, 1) := by decide +kernel
theorem d5_48 : decode prog_87_method_6_code 48 = .ok (.lushr, 1) := by decide +kernel
theorem d5_49 : decode prog_87_method_6_code 49 = .ok (.lstore 9, 2) := by decide +kernel
theorem d5_51 : decode prog_87_method_6_code 51 = .ok (.goto (-42), 3) := by decide +kernel
theorem d5_54 : decode prog_87_method_6_code 54 = .ok (.lload 5, 2) := by decide +kernel
theorem d5_56 : decode prog_87_method_6_code 56 = .ok (.lreturn, 1) := by decide +kernel
theorem d6_0 : decode prog_87_method_3_code 0 = .ok (.aload_n 0, 1) := by decide +kernel
theorem d6_1 : decode prog_87_method_3_code 1 = .ok (.aload_n 0, 1) := by decide +kernel
theorem d6_2 : decode prog_87_method_3_code 2 = .ok (.lload_n 1, 1) := by decide +kernel
theorem d6_3 : decode prog_87_method_3_code 3 = .ok (.lload_n 3, 1) := by decide +kernel
theorem d6_4 : decode prog_87_method_3_code 4 = .ok (.invokestatic 49, 3) := by decide +kernel
theorem d6_7 : decode prog_87_method_3_code 7 = .ok (.lload_n 1, 1) := by decide +kernel
theorem d6_8 : decode prog_87_method_3_code 8 = .ok (.lload_n 3, 1) := by decide +kernel
theorem d6_9 : decode prog_87_method_3_code 9 = .ok (.lmul, 1) := by decide +kernel
theorem d6_10 : decode prog_87_method_3_code 10 = .ok (.invokevirtual 54, 3) := by decide +kernel
theorem d6_13 : decode prog_87_method_3_code 13 = .ok (.invokevirtual 57, 3) := by decide +kernel
theorem d6_16 : decode prog_87_method_3_code 16 = .ok (.lreturn, 1) := by decide +kernel
theorem d7_0 : decode jdk_29_method_45_code 0 = .ok (.lload_n 0, 1) := by decide +kernel
theorem d7_1 : decode jdk_29_method_45_code 1 = .ok (.bipush 32, 2) := by decide +kernel
theorem d7_3 : decode jdk_29_method_45_code 3 = .ok (.lshr, 1) := by decide +kernel
theorem d7_4 : decode jdk_29_method_45_code 4 = .ok (.lstore 4, 2) := by decide +kernel
theorem d7_6 : decode jdk_29_method_45_code 6 = .ok (.lload_n 0, 1) := by decide +kernel
theorem d7_7 : decode jdk_29_method_45_code 7 = .ok (.ldc2_w 138, 3) := by decide +kernel
theorem d7_10 : decode jdk_29_method_45_code 10 = .ok (.land, 1) := by decide +kernel
theorem d7_11 : decode jdk_29_method_45_code 11 = .ok (.lstore 6, 2) := by decide +kernel
theorem d7_13 : decode jdk_29_method_45_code 13 = .ok (.lload_n 2, 1) := by decide +kernel
theorem d7_14 : decode jdk_29_method_45_code 14 = .ok (.bipush 32, 2) := by decide +kernel
theorem d7_16 : decode jdk_29_method_45_code 16 = .ok (.lshr, 1) := by decide +kernel
theorem d7_17 : decode jdk_29_method_45_code 17 = .ok (.lstore 8, 2) := by decide +kernel
theorem d7_19 : decode jdk_29_method_45_code 19 = .ok (.lload_n 2, 1) := by decide +kernel
theorem d7_20 : decode jdk_29_method_45_code 20 = .ok (.ldc2_w 138, 3) := by decide +kernel
theorem d7_23 : decode jdk_29_method_45_code 23 = .ok (.land, 1) := by decide +kernel
theorem d7_24 : decode jdk_29_method_45_code 24 = .ok (.lstore 10, 2) := by decide +kernel
theorem d7_26 : decode jdk_29_method_45_code 26 = .ok (.lload 6, 2) := by decide +kernel
theorem d7_28 : decode jdk_29_method_45_code 28 = .ok (.lload 10, 2) := by decide +kernel
theorem d7_30 : decode jdk_29_method_45_code 30 = .ok (.lmul, 1) := by decide +kernel
theorem d7_31 : decode jdk_29_method_45_code 31 = .ok (.lstore 12, 2) := by decide +kernel
theorem d7_33 : decode jdk_29_method_45_code 33 = .ok (.lload 4, 2) := by decide +kernel
theorem d7_35 : decode jdk_29_method_45_code 35 = .ok (.lload 10, 2) := by decide +kernel
theorem d7_37 : decode jdk_29_method_45_code 37 = .ok (.lmul, 1) := by decide +kernel
theorem d7_38 : decode jdk_29_method_45_code 38 = .ok (.lload 12, 2) := by decide +kernel
theorem d7_40 : decode jdk_29_method_45_code 40 = .ok (.bipush 32, 2) := by decide +kernel
theorem d7_42 : decode jdk_29_method_45_code 42 = .ok (.lushr, 1) := by decide +kernel
theorem d7_43 : decode jdk_29_method_45_code 43 = .ok (.ladd, 1) := by decide +kernel
theorem d7_44 : decode jdk_29_method_45_code 44 = .ok (.lstore 14, 2) := by decide +kernel
theorem d7_46 : decode jdk_29_method_45_code 46 = .ok (.lload 14, 2) := by decide +kernel
theorem d7_48 : decode jdk_29_method_45_code 48 = .ok (.ldc2_w 138, 3) := by decide +kernel
theorem d7_51 : decode jdk_29_method_45_code 51 = .ok (.land, 1) := by decide +kernel
theorem d7_52 : decode jdk_29_method_45_code 52 = .ok (.lstore 16, 2) := by decide +kernel
theorem d7_54 : decode jdk_29_method_45_code 54 = .ok (.lload 14, 2) := by decide +kernel
theorem d7_56 : decode jdk_29_method_45_code 56 = .ok (.bipush 32, 2) := by decide +kernel
theorem d7_58 : decode jdk_29_method_45_code 58 = .ok (.lshr, 1) := by decide +kernel
theorem d7_59 : decode jdk_29_method_45_code 59 = .ok (.lstore 18, 2) := by decide +kernel
theorem d7_61 : decode jdk_29_method_45_code 61 = .ok (.lload 16, 2) := by decide +kernel
theorem d7_63 : decode jdk_29_method_45_code 63 = .ok (.lload 6, 2) := by decide +kernel
theorem d7_65 : decode jdk_29_method_45_code 65 = .ok (.lload 8, 2) := by decide +kernel
theorem d7_67 : decode jdk_29_method_45_code 67 = .ok (.lmul, 1) := by decide +kernel
theorem d7_68 : decode jdk_29_method_45_code 68 = .ok (.ladd, 1) := by decide +kernel
theorem d7_69 : decode jdk_29_method_45_code 69 = .ok (.lstore 16, 2) := by decide +kernel
theorem d7_71 : decode jdk_29_method_45_code 71 = .ok (.lload 4, 2) := by decide +kernel
theorem d7_73 : decode jdk_29_method_45_code 73 = .ok (.lload 8, 2) := by decide +kernel
theorem d7_75 : decode jdk_29_method_45_code 75 = .ok (.lmul, 1) := by decide +kernel
theorem d7_76 : decode jdk_29_method_45_code 76 = .ok (.lload 18, 2) := by decide +kernel
theorem d7_78 : decode jdk_29_method_45_code 78 = .ok (.ladd, 1) := by decide +kernel
theorem d7_79 : decode jdk_29_method_45_code 79 = .ok (.lload 16, 2) := by decide +kernel
theorem d7_81 : decode jdk_29_method_45_code 81 = .ok (.bipush 32, 2) := by decide +kernel
theorem d7_83 : decode jdk_29_method_45_code 83 = .ok (.lshr, 1) := by decide +kernel
theorem d7_84 : decode jdk_29_method_45_code 84 = .ok (.ladd, 1) := by decide +kernel
theorem d7_85 : decode jdk_29_method_45_code 85 = .ok (.lreturn, 1) := by decide +kernel
theorem d8_0 : decode prog_87_method_2_code 0 = .ok (.lload_n 3, 1) := by decide +kernel
theorem d8_1 : decode prog_87_method_2_code 1 = .ok (.aload_n 0, 1) := by decide +kernel
theorem d8_2 : decode prog_87_method_2_code 2 = .ok (.getfield 25, 3) := by decide +kernel
theorem d8_5 : decode prog_87_method_2_code 5 = .ok (.lmul, 1) := by decide +kernel
theorem d8_6 : decode prog_87_method_2_code 6 = .ok (.lstore 5, 2) := by decide +kernel
theorem d8_8 : decode prog_87_method_2_code 8 = .ok (.lload_n 1, 1) := by decide +kernel
theorem d8_9 : decode prog_87_method_2_code 9 = .ok (.lload 5, 2) := by decide +kernel
theorem d8_11 : decode prog_87_method_2_code 11 = .ok (.aload_n 0, 1) := by decide +kernel
theorem d8_12 : decode prog_87_method_2_code 12 = .ok (.getfield 16, 3) := by decide +kernel
theorem d8_15 : decode prog_87_method_2_code 15 = .ok (.invokestatic 49, 3) := by decide +kernel
theorem d8_18 : decode prog_87_method_2_code 18 = .ok (.lload 5, 2) := by decide +kernel
theorem d8_20 : decode prog_87_method_2_code 20 = .ok (.bipush 63, 2) := by decide +kernel
theorem d8_22 : decode prog_87_method_2_code 22 = .ok (.lshr, 1) := by decide +kernel
theorem d8_23 : decode prog_87_method_2_code 23 = .ok (.aload_n 0, 1) := by decide +kernel
theorem d8_24 : decode prog_87_method_2_code 24 = .ok (.getfield 16, 3) := by decide +kernel
theorem d8_27 : decode prog_87_method_2_code 27 = .ok (.land, 1) := by decide +kernel
theorem d8_28 : decode prog_87_method_2_code 28 = .ok (.ladd, 1) := by decide +kernel
theorem d8_29 : decode prog_87_method_2_code 29 = .ok (.lsub, 1) := by decide +kernel
theorem d8_30 : decode prog_87_method_2_code 30 = .ok (.lstore 7, 2) := by decide +kernel
theorem d8_32 : decode prog_87_method_2_code 32 = .ok (.lload 7, 2) := by decide +kernel
theorem d8_34 : decode prog_87_method_2_code 34 = .ok (.lload 7, 2) := by decide +kernel
theorem d8_36 : decode prog_87_method_2_code 36 = .ok (.bipush 63, 2) := by decide +kernel
theorem d8_38 : decode prog_87_method_2_code 38 = .ok (.lshr, 1) := by decide +kernel
theorem d8_39 : decode prog_87_method_2_code 39 = .ok (.aload_n 0, 1) := by decide +kernel
theorem d8_40 : decode prog_87_method_2_code 40 = .ok (.getfield 16, 3) := by decide +kernel
theorem d8_43 : decode prog_87_method_2_code 43 = .ok (.land, 1) := by decide +kernel
theorem d8_44 : decode prog_87_method_2_code 44 = .ok (.ladd, 1) := by decide +kernel
theorem d8_45 : decode prog_87_method_2_code 45 = .ok (.lreturn, 1) := by decide +kernel
theorem d9_0 : decode prog_87_method_4_code 0 = .ok (.aload_n 0, 1) := by decide +kernel
theorem d9_1 : decode prog_87_method_4_code 1 = .ok (.lload_n 1, 1) := by decide +kernel
theorem d9_2 : decode prog_87_method_4_code 2 = .ok (.aload_n 0, 1) := by decide +kernel
theorem d9_3 : decode prog_87_method_4_code 3 = .ok (.getfield 37, 3) := by decide +kernel
theorem d9_6 : decode prog_87_method_4_code 6 = .ok (.invokestatic 49, 3) := by decide +kernel
theorem d9_9 : decode prog_87_method_4_code 9 = .ok (.lload_n 1, 1) := by decide +kernel
theorem d9_10 : decode prog_87_method_4_code 10 = .ok (.aload_n 0, 1) := by decide +kernel
theorem d9_11 : decode prog_87_method_4_code 11 = .ok (.getfield 37, 3) := by decide +kernel
theorem d9_14 : decode prog_87_method_4_code 14 = .ok (.lmul, 1) := by decide +kernel
theorem d9_15 : decode prog_87_method_4_code 15 = .ok (.invokevirtual 54, 3) := by decide +kernel
theorem d9_18 : decode prog_87_method_4_code 18 = .ok (.lreturn, 1) := by decide +kernel
theorem d10_0 : decode prog_87_method_5_code 0 = .ok (.aload_n 0, 1) := by decide +kernel
theorem d10_1 : decode prog_87_method_5_code 1 = .ok (.getfield 16, 3) := by decide +kernel
theorem d10_4 : decode prog_87_method_5_code 4 = .ok (.lstore_n 3, 1) := by decide +kernel
theorem d10_5 : decode prog_87_method_5_code 5 = .ok (.lload_n 1, 1) := by decide +kernel
theorem d10_6 : decode prog_87_method_5_code 6 = .ok (.lstore 5, 2) := by decide +kernel
theorem d10_8 : decode prog_87_method_5_code 8 = .ok (.lconst 0, 1) := by decide +kernel
theorem d10_9 : decode prog_87_method_5_code 9 = .ok (.lstore 7, 2) := by decide +kernel
theorem d10_11 : decode prog_87_method_5_code 11 = .ok (.lconst 1, 1) := by decide +kernel
theorem d10_12 : decode prog_87_method_5_code 12 = .ok (.lstore 9, 2) := by decide +kernel
theorem d10_14 : decode prog_87_method_5_code 14 = .ok (.lload 5, 2) := by decide +kernel
theorem d10_16 : decode prog_87_method_5_code 16 = .ok (.lconst 0, 1) := by decide +kernel
theorem d10_17 : decode prog_87_method_5_code 17 = .ok (.lcmp, 1) := by decide +kernel
theorem d10_18 : decode prog_87_method_5_code 18 = .ok (.ifCond .eq 46, 3) := by decide +kernel
theorem d10_21 : decode prog_87_method_5_code 21 = .ok (.lload_n 3, 1) := by decide +kernel
theorem d10_22 : decode prog_87_method_5_code 22 = .ok (.lload 5, 2) := by decide +kernel
theorem d10_24 : decode prog_87_method_5_code 24 = .ok (.ldiv, 1) := by decide +kernel
theorem d10_25 : decode prog_87_method_5_code 25 = .ok (.lstore 11, 2) := by decide +kernel
theorem d10_27 : decode prog_87_method_5_code 27 = .ok (.lload_n 3, 1) := by decide +kernel
theorem d10_28 : decode prog_87_method_5_code 28 = .ok (.lload 11, 2) := by decide +kernel
theorem d10_30 : decode prog_87_method_5_code 30 = .ok (.lload 5, 2) := by decide +kernel
theorem d10_32 : decode prog_87_method_5_code 32 = .ok (.lmul, 1) := by decide +kernel
theorem d10_33 : decode prog_87_method_5_code 33 = .ok (.lsub, 1) := by decide +kernel
theorem d10_34 : decode prog_87_method_5_code 34 = .ok (.lstore 13, 2) := by decide +kernel
theorem d10_36 : decode prog_87_method_5_code 36 = .ok (.lload 7, 2) := by decide +kernel
theorem d10_38 : decode prog_87_method_5_code 38 = .ok (.lload 11, 2) := by decide +kernel
theorem d10_40 : decode prog_87_method_5_code 40 = .ok (.lload 9, 2) := by decide +kernel
theorem d10_42 : decode prog_87_method_5_code 42 = .ok (.lmul, 1) := by decide +kernel
theorem d10_43 : decode prog_87_method_5_code 43 = .ok (.lsub, 1) := by decide +kernel
theorem d10_44 : decode prog_87_method_5_code 44 = .ok (.lstore 15, 2) := by decide +kernel
theorem d10_46 : decode prog_87_method_5_code 46 = .ok (.lload 5, 2) := by decide +kernel
theorem d10_48 : decode prog_87_method_5_code 48 = .ok (.lstore_n 3, 1) := by decide +kernel
theorem d10_49 : decode prog_87_method_5_code 49 = .ok (.lload 13, 2) := by decide +kernel
theorem d10_51 : decode prog_87_method_5_code 51 = .ok (.lstore 5, 2) := by decide +kernel
theorem d10_53 : decode prog_87_method_5_code 53 = .ok (.lload 9, 2) := by decide +kernel
theorem d10_55 : decode prog_87_method_5_code 55 = .ok (.lstore 7, 2) := by decide +kernel
theorem d10_57 : decode prog_87_method_5_code 57 = .ok (.lload 15, 2) := by decide +kernel
theorem d10_59 : decode prog_87_method_5_code 59 = .ok (.lstore 9, 2) := by decide +kernel
theorem d10_61 : decode prog_87_method_5_code 61 = .ok (.goto (-47), 3) := by decide +kernel
theorem d10_64 : decode prog_87_method_5_code 64 = .ok (.lload 7, 2) := by decide +kernel
theorem d10_66 : decode prog_87_method_5_code 66 = .ok (.lconst 0, 1) := by decide +kernel
theorem d10_67 : decode prog_87_method_5_code 67 = .ok (.lcmp, 1) := by decide +kernel
theorem d10_68 : decode prog_87_method_5_code 68 = .ok (.ifCond .ge 13, 3) := by decide +kernel
theorem d10_71 : decode prog_87_method_5_code 71 = .ok (.lload 7, 2) := by decide +kernel
theorem d10_73 : decode prog_87_method_5_code 73 = .ok (.aload_n 0, 1) := by decide +kernel
theorem d10_74 : decode prog_87_method_5_code 74 = .ok (.getfield 16, 3) := by decide +kernel
theorem d10_77 : decode prog_87_method_5_code 77 = .ok (.ladd, 1) := by decide +kernel
theorem d10_78 : decode prog_87_method_5_code 78 = .ok (.goto 5, 3) := by decide +kernel
theorem d10_81 : decode prog_87_method_5_code 81 = .ok (.lload 7, 2) := by decide +kernel
theorem d10_83 : decode prog_87_method_5_code 83 = .ok (.lreturn, 1) := by decide +kernel
theorem own_sel {Z : State} {a0 : Array Value} {n : Nat} {y : MethodName} (hi : (Jvm.Cond.instanceMethod y).before a0 Z = true) (hp : (Jvm.Cond.privateMethod y).before a0 Z = true) (hk : (Jvm.Cond.instantiable y.cls n).before a0 Z = true) (hx : y.cls ≠ "java/lang/invoke/MethodHandle" ∧ y.cls ≠ "java/lang/invoke/VarHandle") : (Jvm.Cond.selects y.cls y y).before a0 Z = true := by
  obtain ⟨mk, meth, hn, hm, -, -⟩ := Cond.instanceMethod_spec hi
  have hf := State.methodFound?_of_named hn hx
  have hc := findClass_of_methodNamed hn
  obtain ⟨c, k, h1, h2, -, h4, -, -⟩ := Cond.instantiable_spec hk
  cases hc.symm.trans h1
  have hs : selectMethod {} Z.vm mk.cls mk = .method mk := selectMethod_private hm (Cond.privateMethod_at hp mk meth hn hm)
  have h5 : k.isInterface = false := by
    cases hi : k.isInterface with
    | false => rfl
    | true => rw [hi] at h4; simp at h4
  refine Cond.before_iff.mpr ?_
  simp [Cond.value, h1, hf, hn, hs, h2, h5]
theorem own_pig : ∀ (n : Nat) (f : Nat → Nat), (∀ i, i ≤ n → f i < n) → ∃ i j, i < j ∧ j ≤ n ∧ f i = f j
  | 0, f, h => absurd (h 0 (Nat.le_refl 0)) (Nat.not_lt_zero _)
  | n + 1, f, h => by
    by_cases q : ∃ i, i ≤ n ∧ f i = f (n + 1)
    · obtain ⟨i, hi, e⟩ := q
      exact ⟨i, n + 1, by omega, by omega, e⟩
    · have q' : ∀ i, i ≤ n → f i ≠ f (n + 1) := fun i hi e => q ⟨i, hi, e⟩
      obtain ⟨i, j, h1, h2, h3⟩ := own_pig n (fun i => if f i = n then f (n + 1) else f i) (fun i hi => by
        have a := h i (by omega)
        have b := h (n + 1) (by omega)
        have c := q' i hi
        split <;> omega)
      have c1 := q' i (by omega)
      have c2 := q' j h2
      refine ⟨i, j, h1, by omega, ?_⟩
      split at h3 <;> split at h3 <;> omega
theorem own_xmy (x y : Int) : ∀ n : Nat, (x - y) ∣ x ^ n - y ^ n
  | 0 => ⟨0, by simp⟩
  | n + 1 => by
    obtain ⟨k, hk⟩ := own_xmy x y n
    refine ⟨x * k + y ^ n, ?_⟩
    have e : x ^ n = (x - y) * k + y ^ n := by omega
    rw [Int.pow_succ', Int.pow_succ', e]
    generalize y ^ n = w
    grind
theorem own_xm1 (x : Int) (n : Nat) : (x - 1) ∣ x ^ n - 1 := by
  have h := own_xmy x 1 n
  rw [Int.one_pow] at h
  exact h
theorem own_yp1 (y : Int) : ∀ m : Nat, (y + 1) ∣ y ^ (2 * m + 1) + 1
  | 0 => ⟨1, by rw [show 2 * 0 + 1 = 1 from rfl, Int.pow_one, Int.mul_one]⟩
  | m + 1 => by
    obtain ⟨k, hk⟩ := own_yp1 y m
    refine ⟨y * y * k - (y - 1), ?_⟩
    have e : y ^ (2 * (m + 1) + 1) = y * (y * y ^ (2 * m + 1)) := by
      rw [show 2 * (m + 1) + 1 = (2 * m + 1) + 1 + 1 from by omega, Int.pow_succ', Int.pow_succ']
    have e2 : y ^ (2 * m + 1) = (y + 1) * k - 1 := by omega
    rw [e, e2]
    grind
theorem own_ord {D b : Int} {K : Nat} (h : D ∣ b ^ (2 ^ K) + 1) (h2 : ¬ D ∣ 2) : ∀ (k : Nat), k ≤ K + 1 → ∀ e : Nat, 0 < e → e < 2 ^ k → ¬ D ∣ b ^ (e * 2 ^ (K + 1 - k)) - 1 := by
  intro k
  induction k with
  | zero => intro _ e h0 h1; rw [Nat.pow_zero] at h1; omega
  | succ k ih =>
    intro hk e h0 h1 hd
    by_cases ho : e % 2 = 1
    · obtain ⟨m, hm⟩ : ∃ m, e = 2 * m + 1 := ⟨e / 2, by omega⟩
      have d1 : D ∣ (b ^ (e * 2 ^ (K + 1 - (k + 1)))) ^ (2 ^ k) - 1 := Int.dvd_trans hd (own_xm1 _ _)
      have d2 : D ∣ (b ^ (2 ^ K)) ^ e + 1 := by rw [hm]; exact Int.dvd_trans h (own_yp1 _ m)
      have e3 : (b ^ (e * 2 ^ (K + 1 - (k + 1)))) ^ (2 ^ k) = (b ^ (2 ^ K)) ^ e := by
        rw [← Int.pow_mul, ← Int.pow_mul]
        congr 1
        rw [Nat.mul_assoc, ← Nat.pow_add, show K + 1 - (k + 1) + k = K from by omega, Nat.mul_comm]
      rw [e3] at d1
      have d3 := Int.dvd_sub d2 d1
      generalize (b ^ (2 ^ K)) ^ e = z at d3
      rw [show z + 1 - (z - 1) = 2 from by omega] at d3
      exact h2 d3
    · obtain ⟨m, hm⟩ : ∃ m, e = 2 * m := ⟨e / 2, by omega⟩
      refine ih (by omega) m (by omega) (by rw [Nat.pow_succ] at h1; omega) ?_
      have e4 : m * 2 ^ (K + 1 - k) = e * 2 ^ (K + 1 - (k + 1)) := by
        rw [hm, show K + 1 - k = (K + 1 - (k + 1)) + 1 from by omega, Nat.pow_succ, Nat.mul_comm 2 m, Nat.mul_assoc, Nat.mul_comm 2]
      rw [e4]
      exact hd
theorem own_nodiv {D b : Int} {K d : Nat} (eD : D = (d : Int)) (h : D ∣ b ^ (2 ^ K) + 1) (h1 : 1 < d) (ho : d % 2 = 1) (hlt : d < 2 ^ K) : False := by
  have hD : 0 < D := by omega
  have h2 : ¬ D ∣ 2 := fun q => by have := Int.le_of_dvd (by omega) q; omega
  obtain ⟨i, j, hij, hj, he⟩ := own_pig d (fun i => (b ^ i % D).toNat) (fun i _ => by
    have a1 := Int.emod_nonneg (b ^ i) (show D ≠ 0 by omega)
    have a2 := Int.emod_lt_of_pos (b ^ i) hD
    omega)
  have a1 := Int.emod_nonneg (b ^ i) (show D ≠ 0 by omega)
  have a3 := Int.emod_nonneg (b ^ j) (show D ≠ 0 by omega)
  have e5 : b ^ j % D = b ^ i % D := by omega
  have d1 : D ∣ b ^ j - b ^ i := Int.dvd_of_emod_eq_zero (Int.emod_eq_emod_iff_emod_sub_eq_zero.mp e5)
  have hK : 2 ^ (K + 1) = 2 ^ K + 2 ^ K := by rw [Nat.pow_succ]; omega
  obtain ⟨e, he0⟩ : ∃ e, j = i + e := ⟨j - i, by omega⟩
  obtain ⟨r, hr⟩ : ∃ r, 2 ^ (K + 1) = i + r := ⟨2 ^ (K + 1) - i, by omega⟩
  have d2 : D ∣ b ^ (2 ^ (K + 1)) - 1 := by
    rw [hK, Int.pow_add]
    generalize b ^ (2 ^ K) = z at h ⊢
    exact Int.dvd_trans h ⟨z - 1, by grind⟩
  have d3 : D ∣ b ^ (2 ^ (K + 1)) * (b ^ e - 1) := by
    have d4 : D ∣ b ^ r * (b ^ j - b ^ i) := Int.dvd_mul_of_dvd_right d1
    rw [hr, Int.pow_add]
    rw [he0, Int.pow_add] at d4
    generalize b ^ i = u at d4 ⊢
    generalize b ^ r = w at d4 ⊢
    generalize b ^ e = v at d4 ⊢
    rw [show u * w * (v - 1) = w * (u * v - u) from by grind]
    exact d4
  have d5 : D ∣ b ^ e - 1 := by
    generalize b ^ (2 ^ (K + 1)) = z at d2 d3
    generalize b ^ e = v at d3 ⊢
    have d6 : D ∣ (z - 1) * (v - 1) := Int.dvd_mul_of_dvd_left d2
    have d7 := Int.dvd_sub d3 d6
    rw [show z * (v - 1) - (z - 1) * (v - 1) = v - 1 from by grind] at d7
    exact d7
  have := own_ord h h2 (K + 1) (Nat.le_refl _) e (by omega) (by omega)
  rw [Nat.sub_self, Nat.pow_zero, Nat.mul_one] at this
  exact this d5
theorem own_cop {b : Int} {K p y g : Nat} (h : (p : Int) ∣ b ^ (2 ^ K) + 1) (ho : p % 2 = 1) (hp : p < 2 ^ K * 2 ^ K) (h0 : 0 < y) (h1 : y < p) (g1 : g ∣ p) (g2 : g ∣ y) : g = 1 := by
  have gle := Nat.le_of_dvd h0 g2
  have gpos := Nat.pos_of_dvd_of_pos g2 h0
  obtain ⟨k, hk⟩ := g1
  by_cases hg : g = 1
  · exact hg
  · exfalso
    have k1 : 1 < k := by
      rcases Nat.lt_or_ge 1 k with q | q
      · exact q
      · have := Nat.mul_le_mul_left g q
        omega
    have hgo : g % 2 = 1 := by
      rcases Nat.mod_two_eq_zero_or_one g with q | q
      · exfalso
        rw [hk, Nat.mul_mod, q] at ho
        simp at ho
      · exact q
    have hko : k % 2 = 1 := by
      rcases Nat.mod_two_eq_zero_or_one k with q | q
      · exfalso
        rw [hk, Nat.mul_mod, q] at ho
        simp at ho
      · exact q
    have c1 : 2 ^ K ≤ g := by
      rcases Nat.lt_or_ge g (2 ^ K) with q | q
      · exact (own_nodiv rfl (Int.dvd_trans (Int.natCast_dvd_natCast.mpr ⟨k, hk⟩) h) (by omega) hgo q).elim
      · exact q
    have c2 : 2 ^ K ≤ k := by
      rcases Nat.lt_or_ge k (2 ^ K) with q | q
      · exact (own_nodiv rfl (Int.dvd_trans (Int.natCast_dvd_natCast.mpr ⟨g, by rw [hk, Nat.mul_comm]⟩) h) k1 hko q).elim
      · exact q
    have := Nat.mul_le_mul c1 c2
    omega
def own_ch (p : Nat) : Nat → List Nat → Nat → Bool
  | a, [], z => a == z
  | a, b :: l, z => (a * a % p == b) && own_ch p b l z
theorem own_chd (p : Nat) : ∀ (l : List Nat) (a z : Nat), own_ch p a l z = true → (p : Int) ∣ (a : Int) ^ (2 ^ l.length) - (z : Int)
  | [], a, z, h => by
    have e : a = z := by simpa [own_ch] using h
    subst e
    exact ⟨0, by rw [List.length_nil, Nat.pow_zero, Int.pow_one]; omega⟩
  | b :: l, a, z, h => by
    simp only [own_ch, Bool.and_eq_true, beq_iff_eq] at h
    obtain ⟨h1, h2⟩ := h
    have ih := own_chd p l b z h2
    have d1 : (p : Int) ∣ (a : Int) * (a : Int) - (b : Int) := by
      refine ⟨((a * a / p : Nat) : Int), ?_⟩
      have e := Nat.div_add_mod (a * a) p
      rw [h1] at e
      have e2 : ((p * (a * a / p) + b : Nat) : Int) = ((a * a : Nat) : Int) := congrArg _ e
      simp only [Int.natCast_add, Int.natCast_mul] at e2
      omega
    have d2 := Int.dvd_trans d1 (own_xmy ((a : Int) * (a : Int)) (b : Int) (2 ^ l.length))
    have e3 : (a : Int) ^ (2 ^ (b :: l).length) = ((a : Int) * (a : Int)) ^ (2 ^ l.length) := by
      rw [List.length_cons, Nat.pow_succ, Nat.mul_comm, Int.pow_mul]
      congr 1
      rw [show (2 : Nat) = 1 + 1 from rfl, Int.pow_add, Int.pow_one]
    rw [e3]
    have d3 := Int.dvd_add d2 ih
    generalize ((a : Int) * (a : Int)) ^ (2 ^ l.length) = u at d3 ⊢
    generalize (b : Int) ^ (2 ^ l.length) = w at d3
    rw [show u - w + (w - (z : Int)) = u - (z : Int) from by omega] at d3
    exact d3
/-- what is asked of a prime of the field, all of it for the kernel -/
theorem own_prime {p a y g : Nat} (l : List Nat) (h : own_ch p a l (p - 1) = true) (ho : p % 2 = 1) (hp : p < 2 ^ l.length * 2 ^ l.length) (h0 : 0 < y) (h1 : y < p) (g1 : g ∣ p) (g2 : g ∣ y) : g = 1 := by
  have d := own_chd p l a (p - 1) h
  refine own_cop (b := (a : Int)) (K := l.length) ?_ ho hp h0 h1 g1 g2
  have d2 := Int.dvd_add d (Int.dvd_refl (p : Int))
  generalize (a : Int) ^ (2 ^ l.length) = u at d2 ⊢
  rw [show u - ((p - 1 : Nat) : Int) + (p : Int) = u + 1 from by omega] at d2
  exact d2
/-! the word's arithmetic -/
def own_sr (x : Int64) : Int64 := (x >>> ((32 : Int32) &&& 0x3f).toInt64)
def own_lo32 (x : Int64) : Int64 := (x &&& (4294967295 : Int64))
def own_ur (x : Int64) : Int64 := ((x.toUInt64 >>> ((32 : Int32) &&& 0x3f).toInt64.toUInt64).toInt64)
def own_t (x y : Int64) : Int64 := ((own_sr x) * (own_lo32 y)) + own_ur ((own_lo32 x) * (own_lo32 y))
def own_mh (x y : Int64) : Int64 := (((own_sr x) * (own_sr y)) + own_sr (own_t x y)) + own_sr ((own_lo32 (own_t x y)) + ((own_lo32 x) * (own_sr y)))
theorem own_sr_eq (x : Int64) : (own_sr x).toInt = x.toInt / 2 ^ 32 := Jvm.Kit.i64_shr x _ (k := 32) (by decide)
theorem own_lo32_eq (x : Int64) : (own_lo32 x).toInt = x.toInt % 2 ^ 32 := Jvm.Kit.i64_mask x _ (k := 32) (by decide) (by decide)
theorem own_unat (x : Int64) : (x.toBitVec.toNat : Int) = x.toInt % 2 ^ 64 := by
  have e : x.toInt = Int.bmod (x.toBitVec.toNat : Int) (2 ^ 64) := BitVec.toInt_eq_toNat_bmod x.toBitVec
  have e2 : Int.bmod (x.toBitVec.toNat : Int) (2 ^ 64) % ((2 ^ 64 : Nat) : Int) = (x.toBitVec.toNat : Int) % ((2 ^ 64 : Nat) : Int) := Int.bmod_emod
  have e3 : x.toBitVec.toNat < 2 ^ 64 := x.toBitVec.isLt
  rw [← e] at e2
  have e4 : ((2 ^ 64 : Nat) : Int) = 2 ^ 64 := rfl
  rw [e4] at e2
  omega
theorem own_ushr (x : Int64) {k : Nat} (h : k < 64) : ((x.toUInt64 >>> ((Int32.ofNat k) &&& 0x3f).toInt64.toUInt64).toInt64).toBitVec = x.toBitVec >>> k := by
  have t : ∀ k : Fin 64, (((Int32.ofNat k.val) &&& 0x3f).toInt64.toUInt64.toBitVec % 64) = BitVec.ofNat 64 k.val := by decide +kernel
  show (x.toUInt64 >>> ((Int32.ofNat k) &&& 0x3f).toInt64.toUInt64).toBitVec = _
  rw [UInt64.toBitVec_shiftRight]
  have e := t ⟨k, h⟩
  simp only at e
  rw [e, BitVec.ushiftRight_eq', BitVec.toNat_ofNat, Nat.mod_eq_of_lt (by omega)]
  rfl
theorem own_ur_eq (x : Int64) : (own_ur x).toInt = (x.toInt % 2 ^ 64) / 2 ^ 32 := by
  have e1 : (own_ur x).toBitVec = x.toBitVec >>> 32 := own_ushr x (k := 32) (by decide)
  have e2 : (own_ur x).toBitVec.toNat = x.toBitVec.toNat / 2 ^ 32 := by rw [e1, BitVec.toNat_ushiftRight, Nat.shiftRight_eq_div_pow]
  have e3 : x.toBitVec.toNat < 2 ^ 64 := x.toBitVec.isLt
  have e4 : (own_ur x).toInt = ((own_ur x).toBitVec.toNat : Int) := BitVec.toInt_eq_toNat_of_lt (by rw [e2]; omega)
  have e5 := own_unat x
  rw [e4, e2]
  omega
theorem own_wrap {x y : Int64} : ((x * y).toInt - x.toInt * y.toInt) % 2 ^ 64 = 0 := by
  rw [Int64.toInt_mul]
  have e2 : Int.bmod (x.toInt * y.toInt) (2 ^ 64) % ((2 ^ 64 : Nat) : Int) = (x.toInt * y.toInt) % ((2 ^ 64 : Nat) : Int) := Int.bmod_emod
  have e4 : ((2 ^ 64 : Nat) : Int) = 2 ^ 64 := rfl
  rw [e4] at e2
  omega
theorem own_b1 {a b : Int} (A A2 B : Int) (h1 : -A ≤ a) (h2 : a ≤ A2) (hb : 0 ≤ b) (hb2 : b ≤ B) (hA : 0 ≤ A) (hA2 : 0 ≤ A2) : -(A * B) ≤ a * b ∧ a * b ≤ A2 * B := by
  have c1 : a * b ≤ A2 * b := Int.mul_le_mul_of_nonneg_right h2 hb
  have c2 : (-A) * b ≤ a * b := Int.mul_le_mul_of_nonneg_right h1 hb
  have c3 : A * b ≤ A * B := Int.mul_le_mul_of_nonneg_left hb2 hA
  have c4 : A2 * b ≤ A2 * B := Int.mul_le_mul_of_nonneg_left hb2 hA2
  rw [Int.neg_mul] at c2
  omega
theorem own_mh_eq (x y : Int64) : (own_mh x y).toInt = x.toInt * y.toInt / 2 ^ 64 := by
  have hx1 := x.le_toInt
  have hx2 := x.toInt_lt
  have hy1 := y.le_toInt
  have hy2 := y.toInt_lt
  have X1 := own_sr_eq x
  have X2 := own_lo32_eq x
  have Y1 := own_sr_eq y
  have Y2 := own_lo32_eq y
  obtain ⟨a1, ha1⟩ : ∃ z, z = (own_sr x).toInt := ⟨_, rfl⟩
  obtain ⟨a2, ha2⟩ : ∃ z, z = (own_lo32 x).toInt := ⟨_, rfl⟩
  obtain ⟨c1, hc1⟩ : ∃ z, z = (own_sr y).toInt := ⟨_, rfl⟩
  obtain ⟨c2, hc2⟩ : ∃ z, z = (own_lo32 y).toInt := ⟨_, rfl⟩
  have ex : x.toInt = a1 * 2 ^ 32 + a2 := by omega
  have ey : y.toInt = c1 * 2 ^ 32 + c2 := by omega
  have b1 : -2147483648 ≤ a1 ∧ a1 ≤ 2147483647 := by omega
  have b2 : 0 ≤ a2 ∧ a2 ≤ 4294967295 := by omega
  have b3 : -2147483648 ≤ c1 ∧ c1 ≤ 2147483647 := by omega
  have b4 : 0 ≤ c2 ∧ c2 ≤ 4294967295 := by omega
  have p12 := own_b1 (a := a1) (b := c2) 2147483648 2147483647 4294967295 (by omega) (by omega) b4.1 b4.2 (by decide) (by decide)
  have p21 := own_b1 (a := c1) (b := a2) 2147483648 2147483647 4294967295 (by omega) (by omega) b2.1 b2.2 (by decide) (by decide)
  have p22 := own_b1 (a := a2) (b := c2) 4294967295 4294967295 4294967295 (by omega) (by omega) b4.1 b4.2 (by decide) (by decide)
  have p22' : 0 ≤ a2 * c2 := Int.mul_nonneg b2.1 b4.1
  have p11 : -(4611686018427387904) ≤ a1 * c1 ∧ a1 * c1 ≤ 4611686018427387904 := by
    rcases Int.le_total 0 c1 with q | q
    · have := own_b1 (a := a1) (b := c1) 2147483648 2147483648 2147483648 (by omega) (by omega) q (by omega) (by decide) (by decide)
      omega
    · have := own_b1 (a := a1) (b := -c1) 2147483648 2147483648 2147483648 (by omega) (by omega) (by omega) (by omega) (by decide) (by decide)
      rw [Int.mul_neg] at this
      omega
  have p21' : c1 * a2 = a2 * c1 := Int.mul_comm _ _
  rw [p21'] at p21
  obtain ⟨A, hA⟩ : ∃ z, z = a1 * c1 := ⟨_, rfl⟩
  obtain ⟨B, hB⟩ : ∃ z, z = a1 * c2 := ⟨_, rfl⟩
  obtain ⟨C, hC⟩ : ∃ z, z = a2 * c1 := ⟨_, rfl⟩
  obtain ⟨D, hD⟩ : ∃ z, z = a2 * c2 := ⟨_, rfl⟩
  have eXY : x.toInt * y.toInt = A * 18446744073709551616 + (B + C) * 4294967296 + D := by
    rw [ex, ey, hA, hB, hC, hD]
    grind
  rw [← hA] at p11
  rw [← hB] at p12
  rw [← hC] at p21
  rw [← hD] at p22 p22'
  -- the low product, unsigned
  have u1 := own_ur_eq (own_lo32 x * own_lo32 y)
  have u2 := own_wrap (x := own_lo32 x) (y := own_lo32 y)
  rw [← ha2, ← hc2, ← hD] at u2
  have u3 : (own_ur (own_lo32 x * own_lo32 y)).toInt = D / 4294967296 := by omega
  have m1 : (own_sr x * own_lo32 y).toInt = B := by rw [Jvm.Kit.i64_mul (by rw [← ha1, ← hc2, ← hB]; omega) (by rw [← ha1, ← hc2, ← hB]; omega), ← ha1, ← hc2, ← hB]
  have t1 : (own_t x y).toInt = B + D / 4294967296 := by
    unfold own_t
    rw [Jvm.Kit.i64_add (by rw [m1, u3]; omega) (by rw [m1, u3]; omega), m1, u3]
  have t2 := own_sr_eq (own_t x y)
  have t3 := own_lo32_eq (own_t x y)
  have m2 : (own_lo32 x * own_sr y).toInt = C := by rw [Jvm.Kit.i64_mul (by rw [← ha2, ← hc1, ← hC]; omega) (by rw [← ha2, ← hc1, ← hC]; omega), ← ha2, ← hc1, ← hC]
  have s1 : (own_lo32 (own_t x y) + own_lo32 x * own_sr y).toInt = (own_t x y).toInt % 2 ^ 32 + C := by rw [Jvm.Kit.i64_add (by rw [m2, t3]; omega) (by rw [m2, t3]; omega), m2, t3]
  have s2 := own_sr_eq (own_lo32 (own_t x y) + own_lo32 x * own_sr y)
  have m3 : (own_sr x * own_sr y).toInt = A := by rw [Jvm.Kit.i64_mul (by rw [← ha1, ← hc1, ← hA]; omega) (by rw [← ha1, ← hc1, ← hA]; omega), ← ha1, ← hc1, ← hA]
  rw [s1] at s2
  have s3 : (own_sr x * own_sr y + own_sr (own_t x y)).toInt = A + (own_t x y).toInt / 2 ^ 32 := by rw [Jvm.Kit.i64_add (by rw [m3, t2]; omega) (by rw [m3, t2]; omega), m3, t2]
  unfold own_mh
  rw [Jvm.Kit.i64_add (by rw [s3, s2]; omega) (by rw [s3, s2]; omega), s3, s2, eXY, t1]
  omega
def own_sg (t P : Int64) : Int64 := ((t >>> ((63 : Int32) &&& 0x3f).toInt64) &&& P)
theorem own_sg_eq (t P : Int64) : (own_sg t P).toInt = if t.toInt < 0 then P.toInt else 0 := by
  have e : (t >>> ((63 : Int32) &&& 0x3f).toInt64).toInt = t.toInt / 2 ^ 63 := Jvm.Kit.i64_shr t _ (k := 63) (by decide)
  have h1 := t.le_toInt
  have h2 := t.toInt_lt
  unfold own_sg
  by_cases q : t.toInt < 0
  · rw [if_pos q]
    have e2 : t >>> ((63 : Int32) &&& 0x3f).toInt64 = (-1 : Int64) := Int64.toInt_inj.mp (by rw [e]; show _ = (-1 : Int); omega)
    rw [e2]
    have e3 : (-1 : Int64) &&& P = P := by
      apply Int64.toBitVec_inj.mp
      rw [Int64.toBitVec_and]
      show BitVec.allOnes 64 &&& P.toBitVec = _
      rw [BitVec.allOnes_and]
    rw [e3]
  · rw [if_neg q]
    have e2 : t >>> ((63 : Int32) &&& 0x3f).toInt64 = (0 : Int64) := Int64.toInt_inj.mp (by rw [e]; show _ = (0 : Int); omega)
    rw [e2]
    have e3 : (0 : Int64) &&& P = 0 := by
      apply Int64.toBitVec_inj.mp
      rw [Int64.toBitVec_and]
      show 0#64 &&& P.toBitVec = 0#64
      rw [BitVec.zero_and]
    rw [e3]
    rfl
def own_rt (hi lo P V : Int64) : Int64 := hi - (own_mh (lo * V) P + own_sg (lo * V) P)
def own_red (hi lo P V : Int64) : Int64 := own_rt hi lo P V + own_sg (own_rt hi lo P V) P
theorem own_red_eq {hi lo P V : Int64} (hP : 0 < P.toInt) (hP2 : P.toInt < 2 ^ 62) (hV : (P.toInt * V.toInt) % 2 ^ 64 = 1) (h0 : 0 ≤ hi.toInt) (h1 : hi.toInt < P.toInt) :
    0 ≤ (own_red hi lo P V).toInt ∧ (own_red hi lo P V).toInt < P.toInt ∧ ∃ k : Int, 18446744073709551616 * (own_red hi lo P V).toInt = hi.toInt * 18446744073709551616 + lo.toInt % 18446744073709551616 + k * P.toInt := by
  have w := own_wrap (x := lo) (y := V)
  have mh := own_mh_eq (lo * V) P
  have sg := own_sg_eq (lo * V) P
  have l1 := (lo * V).le_toInt
  have l2 := (lo * V).toInt_lt
  have v1 := lo.le_toInt
  have v2 := lo.toInt_lt
  obtain ⟨M, hM⟩ : ∃ z, z = (lo * V).toInt := ⟨_, rfl⟩
  obtain ⟨Q, hQ⟩ : ∃ z, z = P.toInt := ⟨_, rfl⟩
  obtain ⟨U, hU⟩ : ∃ z, z = M % 18446744073709551616 := ⟨_, rfl⟩
  rw [← hM] at w mh sg l1 l2
  rw [← hQ] at hP hP2 hV h1 mh sg ⊢
  -- M = lo V + 2^64 a, V Q = 1 + 2^64 b
  obtain ⟨a, ha⟩ : ∃ a, M = lo.toInt * V.toInt + 18446744073709551616 * a := ⟨(M - lo.toInt * V.toInt) / 18446744073709551616, by omega⟩
  obtain ⟨b, hb⟩ : ∃ b, Q * V.toInt = 1 + 18446744073709551616 * b := ⟨Q * V.toInt / 18446744073709551616, by omega⟩
  have eMQ : M * Q = lo.toInt + 18446744073709551616 * (lo.toInt * b + a * Q) := by
    have e1 : M * Q = lo.toInt * (Q * V.toInt) + 18446744073709551616 * (a * Q) := by rw [ha]; grind
    rw [e1, hb]
    grind
  have hUM : M = U ∨ M = U - 18446744073709551616 := by omega
  have u1 : 0 ≤ U := by omega
  have u2 : U < 18446744073709551616 := by omega
  have uq : 0 ≤ U * Q := Int.mul_nonneg u1 (by omega)
  have uq2 : U * Q ≤ 18446744073709551615 * Q := Int.mul_le_mul_of_nonneg_right (by omega) (by omega)
  have cM : (own_mh (lo * V) P).toInt + (own_sg (lo * V) P).toInt = U * Q / 18446744073709551616 := by
    rw [mh, sg]
    rcases hUM with e | e
    · rw [if_neg (by omega), e]
      omega
    · rw [if_pos (by omega)]
      have e2 : M * Q = U * Q - 18446744073709551616 * Q := by rw [e]; grind
      rw [e2]
      omega
  have low : U * Q % 18446744073709551616 = lo.toInt % 18446744073709551616 := by
    generalize lo.toInt * b + a * Q = z at eMQ
    rcases hUM with e | e
    · rw [← e, eMQ]
      omega
    · have e2 : M * Q = U * Q - 18446744073709551616 * Q := by rw [e]; grind
      omega
  obtain ⟨c, hc⟩ : ∃ z, z = U * Q / 18446744073709551616 := ⟨_, rfl⟩
  have c1 : 0 ≤ c := by omega
  have c2 : c < Q := by omega
  rw [← hc] at cM
  have s1 : (own_mh (lo * V) P + own_sg (lo * V) P).toInt = c := by rw [Jvm.Kit.i64_add (by rw [cM]; omega) (by rw [cM]; omega), cM]
  have t1 : (own_rt hi lo P V).toInt = hi.toInt - c := by
    unfold own_rt
    rw [Jvm.Kit.i64_sub (by rw [s1]; omega) (by rw [s1]; omega), s1]
  have g1 := own_sg_eq (own_rt hi lo P V) P
  rw [← hQ, t1] at g1
  have key : U * Q = c * 18446744073709551616 + lo.toInt % 18446744073709551616 := by omega
  by_cases q : hi.toInt - c < 0
  · rw [if_pos q] at g1
    have r1 : (own_red hi lo P V).toInt = hi.toInt - c + Q := by
      unfold own_red
      rw [Jvm.Kit.i64_add (by rw [t1, g1]; omega) (by rw [t1, g1]; omega), t1, g1]
    rw [r1]
    refine ⟨by omega, by omega, 18446744073709551616 - U, ?_⟩
    rw [Int.sub_mul, key]
    omega
  · rw [if_neg q] at g1
    have r1 : (own_red hi lo P V).toInt = hi.toInt - c := by
      unfold own_red
      rw [Jvm.Kit.i64_add (by rw [t1, g1]; omega) (by rw [t1, g1]; omega), t1, g1]
      omega
    rw [r1]
    refine ⟨by omega, by omega, -U, ?_⟩
    rw [Int.neg_mul, key]
    omega
def own_tom (a P V S : Int64) : Int64 := own_red (own_mh a S) (a * S) P V
def own_mul (a b P V S : Int64) : Int64 := own_tom (own_red (own_mh a b) (a * b) P V) P V S
theorem own_redp {a b P V : Int64} (hP : 0 < P.toInt) (hP2 : P.toInt < 2 ^ 62) (hV : (P.toInt * V.toInt) % 2 ^ 64 = 1) (a0 : 0 ≤ a.toInt) (a1 : a.toInt < P.toInt) (b0 : 0 ≤ b.toInt) (b1 : b.toInt < P.toInt) :
    0 ≤ (own_red (own_mh a b) (a * b) P V).toInt ∧ (own_red (own_mh a b) (a * b) P V).toInt < P.toInt ∧ ∃ k : Int, 18446744073709551616 * (own_red (own_mh a b) (a * b) P V).toInt = a.toInt * b.toInt + k * P.toInt := by
  have mh := own_mh_eq a b
  have w := own_wrap (x := a) (y := b)
  have p0 : 0 ≤ a.toInt * b.toInt := Int.mul_nonneg a0 b0
  have p1 : a.toInt * b.toInt ≤ P.toInt * b.toInt := Int.mul_le_mul_of_nonneg_right (by omega) b0
  have p2 : P.toInt * b.toInt ≤ P.toInt * 4611686018427387904 := Int.mul_le_mul_of_nonneg_left (by omega) (by omega)
  obtain ⟨r0, r1, k, hk⟩ := own_red_eq (hi := own_mh a b) (lo := a * b) hP hP2 hV (by omega) (by omega)
  refine ⟨r0, r1, k, ?_⟩
  rw [hk, mh]
  generalize k * P.toInt = z
  omega
theorem own_mul_one {a b P V S : Int64} {N : Int} (hP : 1 < P.toInt) (hP2 : P.toInt < 2 ^ 62) (hV : (P.toInt * V.toInt) % 2 ^ 64 = 1) (S0 : 0 ≤ S.toInt) (S1 : S.toInt < P.toInt) (hS : P.toInt ∣ S.toInt - 18446744073709551616 * 18446744073709551616) (hN : P.toInt ∣ N * 18446744073709551616 - 1)
    (a0 : 0 ≤ a.toInt) (a1 : a.toInt < P.toInt) (b0 : 0 ≤ b.toInt) (b1 : b.toInt < P.toInt) (hab : P.toInt ∣ a.toInt * b.toInt - 1) : own_mul a b P V S = 1 := by
  obtain ⟨r0, r1, k1, e1⟩ := own_redp (a := a) (b := b) (by omega) hP2 hV a0 a1 b0 b1
  obtain ⟨q0, q1, k2, e2⟩ := own_redp (a := own_red (own_mh a b) (a * b) P V) (b := S) (by omega) hP2 hV r0 r1 S0 S1
  have hd : own_mul a b P V S = own_red (own_mh (own_red (own_mh a b) (a * b) P V) S) (own_red (own_mh a b) (a * b) P V * S) P V := rfl
  apply Int64.toInt_inj.mp
  rw [hd]
  show _ = (1 : Int)
  generalize own_red (own_mh a b) (a * b) P V = x at r0 r1 e1 q0 q1 e2 ⊢
  generalize own_red (own_mh x S) (x * S) P V = r at q0 q1 e2 ⊢
  obtain ⟨u, hu⟩ := hS
  obtain ⟨v, hv⟩ := hN
  obtain ⟨z, hz⟩ := hab
  generalize P.toInt = Q at *
  generalize r.toInt = R at *
  generalize x.toInt = X at *
  generalize S.toInt = T at *
  generalize a.toInt * b.toInt = AB at *
  have d : Q ∣ R - 1 := by
    have eT : T = Q * u + 18446744073709551616 * 18446744073709551616 := by omega
    have eA : AB = Q * z + 1 := by omega
    have eN : N * 18446744073709551616 = Q * v + 1 := by omega
    -- R - 1 = N 2^64 (R - 1) - v Q (R - 1); 2^64 R = X T + k2 Q; 2^64 X = AB + k1 Q
    have f1 : 18446744073709551616 * R = X * (Q * u) + 18446744073709551616 * (Q * z + 1 + k1 * Q) + k2 * Q := by
      rw [e2, eT, Int.mul_add, ← eA, ← e1]
      grind
    have f2 : 18446744073709551616 * (R - 1) = Q * (X * u + 18446744073709551616 * z + 18446744073709551616 * k1 + k2) := by
      rw [Int.mul_sub, f1]
      grind
    have f3 : (R - 1) * (Q * v + 1) = N * (18446744073709551616 * (R - 1)) := by rw [← eN]; grind
    refine ⟨N * (X * u + 18446744073709551616 * z + 18446744073709551616 * k1 + k2) - v * (R - 1), ?_⟩
    rw [f2] at f3
    grind
  have d2 := Int.emod_eq_zero_of_dvd d
  obtain ⟨w, hw⟩ := d
  have hw0 : w = 0 := by
    rcases Int.lt_trichotomy w 0 with q | q | q
    · have := Int.mul_le_mul_of_nonneg_left (show w ≤ -1 by omega) (show 0 ≤ Q by omega)
      omega
    · exact q
    · have := Int.mul_le_mul_of_nonneg_left (show 1 ≤ w by omega) (show 0 ≤ Q by omega)
      omega
  rw [hw0] at hw
  omega
/-! Euclid -/
def own_eu (P Y r n m v : Int) : Prop := 0 < r ∧ r ≤ P ∧ 0 ≤ n ∧ n ≤ P ∧ P ∣ m * Y - r ∧ P ∣ v * Y - n ∧ -P ≤ m ∧ m ≤ P ∧ -P ≤ v ∧ v ≤ P ∧ ((m ≤ 0 ∧ 0 ≤ v ∧ v * r - m * n = P) ∨ (0 ≤ m ∧ v ≤ 0 ∧ m * n - v * r = P)) ∧ ∀ d : Int, d ∣ r → d ∣ n → d ∣ 1
theorem own_eu0 {P Y : Int} (h0 : 0 < Y) (h1 : Y < P) (hc : ∀ d : Int, d ∣ P → d ∣ Y → d ∣ 1) : own_eu P Y P Y 0 1 :=
  ⟨by omega, by omega, by omega, by omega, ⟨-1, by omega⟩, ⟨0, by omega⟩, by omega, by omega, by omega, by omega, Or.inl ⟨by omega, by omega, by omega⟩, hc⟩
theorem own_eu1 {P Y r n m v q : Int} (h : own_eu P Y r n m v) (hn : 0 < n) (q0 : 0 ≤ q) (q1 : q * n ≤ r) (q2 : r < q * n + n) :
    own_eu P Y n (r - q * n) v (m - q * v) ∧ -P ≤ q * v ∧ q * v ≤ P := by
  obtain ⟨a1, a2, a3, a4, ⟨k1, a5⟩, ⟨k2, a6⟩, a7, a8, a9, a10, a11, a12⟩ := h
  have n1 : 1 ≤ n := by omega
  have hb : (-P ≤ m - q * v ∧ m - q * v ≤ P) ∧ (-P ≤ q * v ∧ q * v ≤ P) ∧ ((v ≤ 0 ∧ 0 ≤ m - q * v ∧ (m - q * v) * n - v * (r - q * n) = P) ∨ (0 ≤ v ∧ m - q * v ≤ 0 ∧ v * (r - q * n) - (m - q * v) * n = P)) := by
    rcases a11 with ⟨b1, b2, b3⟩ | ⟨b1, b2, b3⟩
    · have c0 : 0 ≤ q * v := Int.mul_nonneg q0 b2
      have c1 : v * (r - q * n) - (m - q * v) * n = P := by rw [← b3]; grind
      have c2 : 0 ≤ v * (r - q * n) := Int.mul_nonneg b2 (by omega)
      have c3 : (q * v - m) * 1 ≤ (q * v - m) * n := Int.mul_le_mul_of_nonneg_left n1 (by omega)
      have c4 : (q * v - m) * n = -((m - q * v) * n) := by rw [← Int.neg_mul]; congr 1; omega
      exact ⟨⟨by omega, by omega⟩, ⟨by omega, by omega⟩, Or.inr ⟨b2, by omega, c1⟩⟩
    · have c0 : 0 ≤ q * (-v) := Int.mul_nonneg q0 (by omega)
      rw [Int.mul_neg] at c0
      have c1 : (m - q * v) * n - v * (r - q * n) = P := by rw [← b3]; grind
      have c2 : 0 ≤ (-v) * (r - q * n) := Int.mul_nonneg (by omega) (by omega)
      rw [Int.neg_mul] at c2
      have c3 : (m - q * v) * 1 ≤ (m - q * v) * n := Int.mul_le_mul_of_nonneg_left n1 (by omega)
      exact ⟨⟨by omega, by omega⟩, ⟨by omega, by omega⟩, Or.inl ⟨b2, by omega, c1⟩⟩
  refine ⟨⟨hn, a4, by omega, by omega, ⟨k2, a6⟩, ⟨k1 - q * k2, ?_⟩, a9, a10, hb.1.1, hb.1.2, hb.2.2, fun d d1 d2 => ?_⟩, hb.2.1⟩
  · have e : (m - q * v) * Y - (r - q * n) = (m * Y - r) - q * (v * Y - n) := by grind
    rw [e, a5, a6]
    grind
  · refine a12 d ?_ d1
    have d3 : d ∣ q * n := Int.dvd_mul_of_dvd_right d1
    have d4 := Int.dvd_add d2 d3
    rw [show r - q * n + q * n = r from by omega] at d4
    exact d4
theorem own_eu2 {P Y r m v : Int} (hP : 1 < P) (h : own_eu P Y r 0 m v) : -P < m ∧ m < P ∧ m ≠ 0 ∧ P ∣ m * Y - 1 := by
  obtain ⟨a1, a2, a3, a4, a5, a6, a7, a8, a9, a10, a11, a12⟩ := h
  have r1 : r = 1 := by
    have := Int.le_of_dvd (by omega) (a12 r (Int.dvd_refl r) (Int.dvd_zero r))
    omega
  rw [r1] at a5
  have key : ∀ k : Int, m = P * k → False := fun k hk => by
    have d : P ∣ m * Y := by rw [hk, Int.mul_assoc]; exact Int.dvd_mul_right _ _
    have d2 := Int.dvd_sub d a5
    rw [show m * Y - (m * Y - 1) = 1 from by omega] at d2
    have := Int.le_of_dvd (by omega) d2
    omega
  have k0 := key 0
  have k1 := key 1
  have k2 := key (-1)
  rw [Int.mul_zero] at k0
  rw [Int.mul_one] at k1
  rw [Int.mul_neg, Int.mul_one] at k2
  refine ⟨?_, ?_, fun q => k0 q, a5⟩
  · rcases Int.lt_or_eq_of_le a7 with q | q
    · exact q
    · exact (k2 q.symm).elim
  · rcases Int.lt_or_eq_of_le a8 with q | q
    · exact q
    · exact (k1 q).elim
def own_sub (a P : Int64) : Int64 := (a - P) + own_sg (a - P) P
def own_ru (a P : Int64) : Int64 := ((a - (((((a.toUInt64 >>> ((1 : Int32) &&& 0x3f).toInt64.toUInt64).toInt64) / P) <<< ((1 : Int32) &&& 0x3f).toInt64) * P)) - (((((a - (((((a.toUInt64 >>> ((1 : Int32) &&& 0x3f).toInt64.toUInt64).toInt64) / P) <<< ((1 : Int32) &&& 0x3f).toInt64) * P)) - P) ^^^ (-1 : Int64)) >>> ((63 : Int32) &&& 0x3f).toInt64) &&& P))
def own_dbl (s P : Int64) : Nat → Int64
  | 0 => s
  | k + 1 => own_sub ((own_dbl s P k) <<< ((1 : Int32) &&& 0x3f).toInt64) P
theorem own_half {x : Int64} (h : ¬ (x = (0 : Int64))) : ((x.toUInt64 >>> ((1 : Int32) &&& 0x3f).toInt64.toUInt64).toInt64).toUInt64.toNat < x.toUInt64.toNat := by
  have e : ((x.toUInt64 >>> ((1 : Int32) &&& 0x3f).toInt64.toUInt64).toInt64).toBitVec = x.toBitVec >>> 1 := own_ushr x (k := 1) (by decide)
  have e2 : ((x.toUInt64 >>> ((1 : Int32) &&& 0x3f).toInt64.toUInt64).toInt64).toBitVec.toNat = x.toBitVec.toNat / 2 := by rw [e, BitVec.toNat_ushiftRight, Nat.shiftRight_eq_div_pow]
  show ((x.toUInt64 >>> ((1 : Int32) &&& 0x3f).toInt64.toUInt64).toInt64).toBitVec.toNat < x.toBitVec.toNat
  rw [e2]
  have nz : x.toBitVec.toNat ≠ 0 := fun q => h (Int64.toBitVec_inj.mp (BitVec.eq_of_toNat_eq q))
  omega
theorem own_n32 {k : Nat} (h : k ≤ 64) : (Int32.ofNat k).toInt = (k : Int) := by
  have t : ∀ k : Fin 65, (Int32.ofNat k.val).toInt = (k.val : Int) := by decide +kernel
  exact t ⟨k, by omega⟩
theorem own_inc {k : Nat} {ii : Int32} (h : ii = Int32.ofNat k) : ii + (1 : Int32) = Int32.ofNat (k + 1) := by rw [h]; exact (Jvm.LawKit.inc_ofNat k).symm
theorem own_lt64 {k : Nat} {ii : Int32} (hi : ii = Int32.ofNat k) (hk : k ≤ 64) : ii < (64 : Int32) ↔ k < 64 := by
  rw [Int32.lt_iff_toInt_lt, hi, own_n32 hk]
  show (k : Int) < 64 ↔ k < 64
  omega
theorem own_k64 {k : Nat} {ii : Int32} (hi : ii = Int32.ofNat k) (hk : k ≤ 64) (h : ii < (64 : Int32)) : k + 1 ≤ 64 := (own_lt64 hi hk).mp h
theorem own_m64 {k : Nat} {ii : Int32} (hi : ii = Int32.ofNat k) (hk : k ≤ 64) (h : ii < (64 : Int32)) : 64 - (k + 1) < 64 - k := by
  have := own_k64 hi hk h
  omega
theorem own_dend {s P S sq : Int64} {k : Nat} {ii : Int32} (hq : sq = own_dbl s P k) (hi : ii = Int32.ofNat k) (hk : k ≤ 64) (h : ¬ (ii < (64 : Int32))) (hS : own_dbl s P 64 = S) : sq = S := by
  have e : k = 64 := by
    rw [own_lt64 hi hk] at h
    omega
  rw [hq, e, hS]
def own_A (Z : State) (h : Heap) (b : Addr) : Prop := ∃ cl : Cell, Arr Z h b cl .long ∧ cl.slots.size = 33
theorem own_A_of {Z : State} {h : Heap} {b : Addr} {k : ClassId} {vs : List Value} {dv : Value} (F : Arv Z h b k .long (33 : Int32) vs dv) : own_A Z h b := by
  obtain ⟨c, A, -, S, -⟩ := F
  exact ⟨c, A, S.trans (by decide)⟩
theorem own_A.wr {Z : State} {h h' : Heap} {b : Addr} {j : Nat} {v : Value} (F : own_A Z h b) (W : Wr h h' b j v) : own_A Z h' b := by
  obtain ⟨cl, A, S⟩ := F
  exact ⟨_, A.same W, by rw [sz_set]; exact S⟩
theorem own_inb {cl : Cell} {j : Int32} (S : cl.slots.size = 33) (h1 : ¬ (j < (0 : Int32))) (h2 : j < (33 : Int32)) : ¬ (j < 0 ∨ cl.slots.size ≤ j.toNatClampNeg) := inb_of (z := (33 : Int32)) (S.trans (by decide)) ⟨h1, h2⟩
theorem own_dec {j : Int32} (h1 : j < (33 : Int32)) (h2 : ¬ (j < (0 : Int32))) : (j + (-1 : Int32)).toInt = j.toInt - 1 ∧ 0 ≤ j.toInt ∧ j.toInt < 33 := by
  rw [Int32.lt_iff_toInt_lt] at h1 h2
  have a1 : (33 : Int32).toInt = 33 := rfl
  have a2 : (0 : Int32).toInt = 0 := rfl
  have a3 : (-1 : Int32).toInt = -1 := rfl
  have e : (j + (-1 : Int32)).toInt = j.toInt + (-1 : Int32).toInt := Jvm.Kit.i32_add (by omega) (by omega)
  omega
theorem own_dec33 {j : Int32} (h1 : j < (33 : Int32)) (h2 : ¬ (j < (0 : Int32))) : j + (-1 : Int32) < (33 : Int32) := by
  obtain ⟨e, e1, e2⟩ := own_dec h1 h2
  rw [Int32.lt_iff_toInt_lt, e]
  show j.toInt - 1 < 33
  omega
theorem own_decm {j : Int32} (h1 : j < (33 : Int32)) (h2 : ¬ (j < (0 : Int32))) : ((j + (-1 : Int32)).toInt + 1).toNat < (j.toInt + 1).toNat := by
  obtain ⟨e, e1, e2⟩ := own_dec h1 h2
  rw [e]
  omega
def own_isinv (P Y r : Int64) : Prop := 0 < r.toInt ∧ r.toInt < P.toInt ∧ P.toInt ∣ Y.toInt * r.toInt - 1
theorem own_z64 {x : Int64} : ¬ (x = (0 : Int64)) → x.toInt ≠ 0 := fun h q => h (Int64.toInt_inj.mp q)
theorem own_y0 {x : Int64} (h : 0 < x.toInt) : ¬ (x = (0 : Int64)) := fun q => by
  rw [q] at h
  exact absurd h (by decide)
theorem own_eus {P Y : Int} {er en em ev : Int64} (hp2 : P < 2 ^ 62) (hI : own_eu P Y er.toInt en.toInt em.toInt ev.toInt) (hn : ¬ (en = (0 : Int64))) :
    own_eu P Y en.toInt (er - (er / en) * en).toInt ev.toInt (em - (er / en) * ev).toInt ∧ (er - (er / en) * en).toInt.toNat < en.toInt.toNat := by
  have nz := own_z64 hn
  have a1 := hI.1
  have a2 := hI.2.1
  have a3 := hI.2.2.1
  have hd : (er / en).toInt = er.toInt / en.toInt := by rw [Jvm.Kit.i64_div (by omega), Int.tdiv_eq_ediv_of_nonneg (by omega)]
  have q0 : 0 ≤ (er / en).toInt := by rw [hd]; exact Int.ediv_nonneg (by omega) (by omega)
  have m1 := Int.emod_nonneg er.toInt nz
  have m2 := Int.emod_lt_of_pos er.toInt (show 0 < en.toInt by omega)
  have m3 := Int.emod_add_mul_ediv er.toInt en.toInt
  rw [← hd, Int.mul_comm] at m3
  obtain ⟨e1, e2, e3⟩ := own_eu1 hI (by omega) q0 (by omega) (by omega)
  have q3 := Int.mul_nonneg q0 a3
  have a4 := hI.2.2.2.1
  have w1 : ((er / en) * en).toInt = (er / en).toInt * en.toInt := Jvm.Kit.i64_mul (by omega) (by omega)
  have w2 : (er - (er / en) * en).toInt = er.toInt - (er / en).toInt * en.toInt := by rw [Jvm.Kit.i64_sub (by rw [w1]; omega) (by rw [w1]; omega), w1]
  have w3 : ((er / en) * ev).toInt = (er / en).toInt * ev.toInt := Jvm.Kit.i64_mul (by omega) (by omega)
  have b1 := hI.2.2.2.2.2.2.1
  have b2 := hI.2.2.2.2.2.2.2.1
  have w4 : (em - (er / en) * ev).toInt = em.toInt - (er / en).toInt * ev.toInt := by rw [Jvm.Kit.i64_sub (by rw [w3]; omega) (by rw [w3]; omega), w3]
  rw [w2, w4]
  exact ⟨e1, by omega⟩
theorem own_fin0 {P Y er en em ev : Int64} (hp : 1 < P.toInt) (hI : own_eu P.toInt Y.toInt er.toInt en.toInt em.toInt ev.toInt) (hn : en = (0 : Int64)) : -P.toInt < em.toInt ∧ em.toInt < P.toInt ∧ em.toInt ≠ 0 ∧ P.toInt ∣ em.toInt * Y.toInt - 1 := by
  rw [hn] at hI
  exact own_eu2 hp hI
theorem own_finp {P Y er en em ev : Int64} (hp : 1 < P.toInt) (hp2 : P.toInt < 2 ^ 62) (hI : own_eu P.toInt Y.toInt er.toInt en.toInt em.toInt ev.toInt) (hn : en = (0 : Int64)) (hm : ¬ (em < (0 : Int64))) : own_isinv P Y em := by
  obtain ⟨a, b, c, d⟩ := own_fin0 hp hI hn
  rw [Int64.lt_iff_toInt_lt] at hm
  have e : (0 : Int64).toInt = 0 := rfl
  exact ⟨by omega, by omega, by rw [Int.mul_comm]; exact d⟩
theorem own_finn {P Y er en em ev : Int64} (hp : 1 < P.toInt) (hp2 : P.toInt < 2 ^ 62) (hI : own_eu P.toInt Y.toInt er.toInt en.toInt em.toInt ev.toInt) (hn : en = (0 : Int64)) (hm : em < (0 : Int64)) : own_isinv P Y (em + P) := by
  obtain ⟨a, b, c, d⟩ := own_fin0 hp hI hn
  rw [Int64.lt_iff_toInt_lt] at hm
  have e : (0 : Int64).toInt = 0 := rfl
  have s : (em + P).toInt = em.toInt + P.toInt := Jvm.Kit.i64_add (by omega) (by omega)
  refine ⟨by rw [s]; omega, by rw [s]; omega, ?_⟩
  rw [s, Int.mul_add, Int.mul_comm Y.toInt em.toInt]
  have d2 : P.toInt ∣ Y.toInt * P.toInt := ⟨Y.toInt, Int.mul_comm _ _⟩
  have d3 := Int.dvd_add d d2
  rw [show em.toInt * Y.toInt - 1 + Y.toInt * P.toInt = em.toInt * Y.toInt + Y.toInt * P.toInt - 1 from by omega] at d3
  exact d3
theorem own_and3 (x : Int32) : (x &&& (3 : Int32)) = (0 : Int32) ∨ (x &&& (3 : Int32)) = (1 : Int32) ∨ (x &&& (3 : Int32)) = (2 : Int32) ∨ (x &&& (3 : Int32)) = (3 : Int32) := by
  have h : (x &&& 3).toInt = 0 ∨ (x &&& 3).toInt = 1 ∨ (x &&& 3).toInt = 2 ∨ (x &&& 3).toInt = 3 := by
    have e : (x &&& 3).toInt = x.toInt % 2 ^ 2 := Jvm.Kit.i32_mask x 3 (k := 2) (by decide) (by decide)
    omega
  have q : ∀ k : Int32, (x &&& 3).toInt = k.toInt → x &&& 3 = k := fun k hk => Int32.toInt_inj.mp hk
  rcases h with h | h | h | h
  · exact Or.inl (q 0 h)
  · exact Or.inr (Or.inl (q 1 h))
  · exact Or.inr (Or.inr (Or.inl (q 2 h)))
  · exact Or.inr (Or.inr (Or.inr (q 3 h)))
theorem own_m255 (x : Int64) : 0 ≤ (x &&& (255 : Int64)).toInt ∧ (x &&& (255 : Int64)).toInt ≤ 255 := by
  have e : (x &&& (255 : Int64)).toInt = x.toInt % 2 ^ 8 := Jvm.Kit.i64_mask x 255 (k := 8) (by decide) (by decide)
  omega
theorem own_yA {P : Int64} (x : Int64) (hP : 2 ^ 60 < P.toInt ∧ P.toInt < 2 ^ 61) : 0 < ((x &&& (255 : Int64)) + (1 : Int64)).toInt ∧ ((x &&& (255 : Int64)) + (1 : Int64)).toInt < P.toInt := by
  have h := own_m255 x
  have a1 : (1 : Int64).toInt = 1 := rfl
  rw [Jvm.Kit.i64_add (by omega) (by omega)]
  omega
theorem own_yB {P M : Int64} (x : Int64) (hP : (2 ^ 60 < P.toInt ∧ P.toInt < 2 ^ 61) ∧ M.toInt = P.toInt - 1) : 0 < (M - (x &&& (255 : Int64))).toInt ∧ (M - (x &&& (255 : Int64))).toInt < P.toInt := by
  have h := own_m255 x
  rw [Jvm.Kit.i64_sub (by omega) (by omega)]
  omega
theorem own_rm {M : Int64} (x : Int64) (hM : 0 < M.toInt) : -M.toInt < (x - (x / M) * M).toInt ∧ (x - (x / M) * M).toInt < M.toInt := by
  rw [Jvm.Kit.i64_rem]
  exact Jvm.LawKit.tmod_bounds hM
theorem own_yC {P M : Int64} (x : Int64) (hP : (2 ^ 60 < P.toInt ∧ P.toInt < 2 ^ 61) ∧ M.toInt = P.toInt - 1) (h : (x - (x / M) * M) < (0 : Int64)) : 0 < (((x - (x / M) * M) + M) + (1 : Int64)).toInt ∧ (((x - (x / M) * M) + M) + (1 : Int64)).toInt < P.toInt := by
  have b := own_rm x (M := M) (by omega)
  have a1 : (1 : Int64).toInt = 1 := rfl
  have a0 : (0 : Int64).toInt = 0 := rfl
  rw [Int64.lt_iff_toInt_lt] at h
  have e : ((x - (x / M) * M) + M).toInt = (x - (x / M) * M).toInt + M.toInt := Jvm.Kit.i64_add (by omega) (by omega)
  rw [Jvm.Kit.i64_add (by rw [e]; omega) (by rw [e]; omega), e]
  omega
theorem own_yD {P M : Int64} (x : Int64) (hP : (2 ^ 60 < P.toInt ∧ P.toInt < 2 ^ 61) ∧ M.toInt = P.toInt - 1) (h : ¬ ((x - (x / M) * M) < (0 : Int64))) : 0 < ((x - (x / M) * M) + (1 : Int64)).toInt ∧ ((x - (x / M) * M) + (1 : Int64)).toInt < P.toInt := by
  have b := own_rm x (M := M) (by omega)
  have a1 : (1 : Int64).toInt = 1 := rfl
  have a0 : (0 : Int64).toInt = 0 := rfl
  rw [Int64.lt_iff_toInt_lt] at h
  rw [Jvm.Kit.i64_add (by omega) (by omega)]
  omega
theorem own_lawA {P Y r : Int64} (h : own_isinv P Y r) : ¬ (r < (1 : Int64)) := by
  have a1 : (1 : Int64).toInt = 1 := rfl
  rw [Int64.lt_iff_toInt_lt]
  have := h.1
  omega
theorem own_lawB {P M Y r : Int64} (hM : M.toInt = P.toInt - 1) (h : own_isinv P Y r) : ¬ (M < r) := by
  rw [Int64.lt_iff_toInt_lt]
  have := h.2.1
  omega
theorem own_cpP {P : Int64} {p a : Nat} (l : List Nat) (hp : P.toInt = (p : Int)) (h : own_ch p a l (p - 1) = true) (ho : p % 2 = 1) (hb : p < 2 ^ l.length * 2 ^ l.length) {y : Int64} (h0 : 0 < y.toInt) (h1 : y.toInt < P.toInt) : ∀ d : Int, d ∣ P.toInt → d ∣ y.toInt → d ∣ 1 := by
  intro d d1 d2
  obtain ⟨n, hn⟩ : ∃ n : Nat, y.toInt = (n : Int) := ⟨y.toInt.toNat, by omega⟩
  rw [hp] at d1 h1
  rw [hn] at d2 h0 h1
  have g := own_prime (g := d.natAbs) l h ho hb (y := n) (by omega) (by omega) (Int.ofNat_dvd_right.mp d1) (Int.ofNat_dvd_right.mp d2)
  exact Int.natAbs_dvd.mp (by rw [g]; exact Int.dvd_refl _)
theorem own_starr {args : Array Value} {s : State} {K n d : String} {ty : FieldType} (h : (Jvm.Cond.arrayOf (Jvm.Term.static K n d) ty).value args s none s [] = some true) (hi : (Jvm.Cond.initialized K).before args s = true) (hl : (Jvm.Cond.laysStatic K n d).before args s = true) : ∃ a, (Jvm.Term.static K n d).eval args s none [] s = some (.ref a) ∧ Sta s s.heap K n d (.ref a) := by
  obtain ⟨a, ev⟩ := arr_v h
  exact ⟨a, ev, Sta.start ev (Or.inr ⟨hi, hl⟩)⟩
theorem own_arr4 {args : Array Value} {s : State} {t : Jvm.Term} {w : Addr} {a b c d : Int64} (hf : Fit s) (ht : t.eval args s none [] s = some (.ref w)) (h1 : (Jvm.Cond.arrayOf t .long).value args s none s [] = some true) (h2 : (Jvm.Cond.eq (Jvm.Term.length t) (Jvm.Term.int (4 : Int32))).value args s none s [] = some true)
    (q0 : (Jvm.Cond.eq (Jvm.Term.elem t (Jvm.Term.int (0 : Int32))) (Jvm.Term.long a)).value args s none s [] = some true) (q1 : (Jvm.Cond.eq (Jvm.Term.elem t (Jvm.Term.int (1 : Int32))) (Jvm.Term.long b)).value args s none s [] = some true) (q2 : (Jvm.Cond.eq (Jvm.Term.elem t (Jvm.Term.int (2 : Int32))) (Jvm.Term.long c)).value args s none s [] = some true) (q3 : (Jvm.Cond.eq (Jvm.Term.elem t (Jvm.Term.int (3 : Int32))) (Jvm.Term.long d)).value args s none s [] = some true) :
    ∃ k, Arv s s.heap w k .long (4 : Int32) [(.long a), (.long b), (.long c), (.long d)] (.long (0 : Int64)) := by
  obtain ⟨cl, A⟩ := Arr.start ht h1
  have fa := A.fin (Vm.Alike.refl _)
  have e := eqv_i (Term.int_eval (4)) h2
  have hl : cl.slots.size < 2 ^ 31 := by
    by_cases q : cl.slots.size < 2 ^ 31
    · exact q
    · simp [Term.eval, ht, fa, q] at e
  have e2 := (len_f ht fa hl).symm.trans e
  have e3 : cl.slots.size.toInt32 = 4 := by injection e2 with e2; injection e2
  have at_ : ∀ (j : Int32) (y : Int64), ¬ j < 0 → (Jvm.Cond.eq (Jvm.Term.elem t (Jvm.Term.int j)) (Jvm.Term.long y)).value args s none s [] = some true → cl.slots[j.toNatClampNeg]? = some (.long y) := by
    intro j y hj hq
    exact (elem_f ht (Term.int_eval j) fa hj).symm.trans (eqv_l rfl hq)
  exact ⟨cl.cls, Arv.start hf A hl e3 (by decide) rfl ⟨at_ 0 a (by decide) q0, at_ 1 b (by decide) q1, at_ 2 c (by decide) q2, at_ 3 d (by decide) q3, trivial⟩⟩
theorem own_cp0 {y : Int64} (h0 : 0 < y.toInt) (h1 : y.toInt < (2305842979148922881 : Int64).toInt) : ∀ d : Int, d ∣ (2305842979148922881 : Int64).toInt → d ∣ y.toInt → d ∣ 1 :=
  own_cpP (p := 2305842979148922881) (a := 1861299213724964929) [1559116938926466338, 1036382117548359670, 1436224193859230534, 493842317141348693, 1565603355551335720, 321491880313742758, 2236738950903435561, 520483881017083467, 464248327647207335, 344909491538340980, 2144588938770723082, 408570880241832763, 1117634681143059035, 2191446666474725710, 1669994544125269902, 1256035522308259612, 1275058110157802678, 2105265788833326616, 2065774357360609923, 720292903290312758, 850395855306834913, 1103883387818661894, 265818896893255480, 1622873736858044787, 1620829474569023518, 593587326795614424, 1749676408009505036, 1954092611228565090, 1696408298724454651, 1677437564617045151, 2305842979148922880] (by decide +kernel) (by decide +kernel) (by decide +kernel) (by decide +kernel) h0 h1
theorem own_lawC0 {y r : Int64} (hy : 0 < y.toInt ∧ y.toInt < (2305842979148922881 : Int64).toInt) (h : own_isinv (2305842979148922881 : Int64) y r) : (own_mul y r (2305842979148922881 : Int64) (-2305842979148922879 : Int64) (750416685932096 : Int64)) = (1 : Int64) :=
  own_mul_one (N := 288230368635519025) (by decide +kernel) (by decide +kernel) (by decide +kernel) (by decide +kernel) (by decide +kernel) (by decide +kernel) (by decide +kernel) (by have := hy.1; omega) hy.2 (by have := h.1; omega) h.2.1 h.2.2
theorem own_cp1 {y : Int64} (h0 : 0 < y.toInt) (h1 : y.toInt < (2305842798760296449 : Int64).toInt) : ∀ d : Int, d ∣ (2305842798760296449 : Int64).toInt → d ∣ y.toInt → d ∣ 1 :=
  own_cpP (p := 2305842798760296449) (a := 374955346061310244) [338159607033937120, 215296135633830781, 1823433357967740990, 1586404436444343093, 1201337172459015471, 1610364632057830247, 1611465124146758752, 655225409968383295, 1568979402459210156, 287258951282886489, 73142791957637636, 1991195677747836930, 588408570559867006, 2232767576774451725, 2236947448100501536, 571318574935343641, 243675947120827506, 367138058132304925, 1442263899290719491, 653063993216137634, 1518061671153990290, 1923266150621076012, 1559352724882008889, 1449400300923458416, 113756803792922270, 1855296096469903655, 1773409573341038260, 1523309700389974050, 1301011144209733220, 1729142759046481267, 2305842798760296448] (by decide +kernel) (by decide +kernel) (by decide +kernel) (by decide +kernel) h0 h1
theorem own_lawC1 {y r : Int64} (hy : 0 < y.toInt ∧ y.toInt < (2305842798760296449 : Int64).toInt) (h : own_isinv (2305842798760296449 : Int64) y r) : (own_mul y r (2305842798760296449 : Int64) (-2305842798760296447 : Int64) (258685948956327488 : Int64)) = (1 : Int64) :=
  own_mul_one (N := 288230323538364769) (by decide +kernel) (by decide +kernel) (by decide +kernel) (by decide +kernel) (by decide +kernel) (by decide +kernel) (by decide +kernel) (by have := hy.1; omega) hy.2 (by have := h.1; omega) h.2.1 h.2.2
theorem own_cp2 {y : Int64} (h0 : 0 < y.toInt) (h1 : y.toInt < (2305842644141473793 : Int64).toInt) : ∀ d : Int, d ∣ (2305842644141473793 : Int64).toInt → d ∣ y.toInt → d ∣ 1 :=
  own_cpP (p := 2305842644141473793) (a := 1819289588426020098) [932166737800556361, 1144344298932761392, 732243314403367216, 2000219339044547275, 2115346403339496263, 479115040207229734, 349625771826440085, 2202172201885971231, 782539284198003630, 314369330644485946, 1236264268798659932, 615939141505707973, 2279709737870395947, 2151167341663742640, 2281851554902130552, 1770922892724871059, 1406286460183595829, 226205403351043781, 1078397677031083315, 796984656671084924, 1775819734127717341, 1946272737466790250, 2117653012129412773, 83426505352397236, 436612176952062273, 2071418097464744586, 1733184511108101611, 970130511322581159, 7525787273103817, 1026059596440756957, 2305842644141473792] (by decide +kernel) (by decide +kernel) (by decide +kernel) (by decide +kernel) h0 h1
theorem own_lawC2 {y r : Int64} (hy : 0 < y.toInt ∧ y.toInt < (2305842644141473793 : Int64).toInt) (h : own_isinv (2305842644141473793 : Int64) y r) : (own_mul y r (2305842644141473793 : Int64) (-2305842644141473791 : Int64) (1350428427567992384 : Int64)) = (1 : Int64) :=
  own_mul_one (N := 288230284883663929) (by decide +kernel) (by decide +kernel) (by decide +kernel) (by decide +kernel) (by decide +kernel) (by decide +kernel) (by decide +kernel) (by have := hy.1; omega) hy.2 (by have := h.1; omega) h.2.1 h.2.2
theorem own_cp3 {y : Int64} (h0 : 0 < y.toInt) (h1 : y.toInt < (2305842343493763073 : Int64).toInt) : ∀ d : Int, d ∣ (2305842343493763073 : Int64).toInt → d ∣ y.toInt → d ∣ 1 :=
  own_cpP (p := 2305842343493763073) (a := 2081158096101985629) [554666226860647410, 38842376634881396, 1865719893766295268, 267105809262945229, 471204239108485701, 224585957714970937, 1553915696867779166, 459651806443793962, 1748594454569270604, 906001785155376694, 652460242288974917, 1265907349979259965, 981686278816999533, 651284490504631190, 852468205847499793, 1050379548439941945, 519270740049011905, 330698009369781041, 1985752231427023621, 52430620615812882, 1407671402620854550, 1028092567097516896, 521406692113565520, 2093777139612091064, 1058461055927319953, 1931533969392431362, 1894746050193444291, 1978512870428816445, 1165192558634101486, 1059918608440311021, 2305842343493763072] (by decide +kernel) (by decide +kernel) (by decide +kernel) (by decide +kernel) h0 h1
theorem own_lawC3 {y r : Int64} (hy : 0 < y.toInt ∧ y.toInt < (2305842343493763073 : Int64).toInt) (h : own_isinv (2305842343493763073 : Int64) y r) : (own_mul y r (2305842343493763073 : Int64) (-2305842343493763071 : Int64) (1271275483123961405 : Int64)) = (1 : Int64) :=
  own_mul_one (N := 288230209721753049) (by decide +kernel) (by decide +kernel) (by decide +kernel) (by decide +kernel) (by decide +kernel) (by decide +kernel) (by decide +kernel) (by have := hy.1; omega) hy.2 (by have := h.1; omega) h.2.1 h.2.2
theorem own_sto {s0 s1 s2 s3 s4 s5 s6 s7 s8 s9 s10 v w : Slot} {k : Int32} {x : Int64} (h : (v = .unset ∧ w = .unset) ∨ ∃ z, v = .val (.long z) ∧ w = .second) : storeLocals #[s0, s1, s2, s3, s4, s5, s6, s7, s8, s9, s10, .val (.int k), v, w] 12 (.long x) = some #[s0, s1, s2, s3, s4, s5, s6, s7, s8, s9, s10, .val (.int k), .val (.long x), .second] := by
  rcases h with ⟨rfl, rfl⟩ | ⟨z, rfl, rfl⟩ <;> rfl
theorem ef_rmMH (m : MethodId) (x0 : Int64) (x1 : Int64) : entryFrame m #[(.long x0), (.long x1)] 20 = mkF m 0 #[.val (.long x0), .second, .val (.long x1), .second, .unset, .unset, .unset, .unset, .unset, .unset, .unset, .unset, .unset, .unset, .unset, .unset, .unset, .unset, .unset, .unset] [] := by first | (simp [entryFrame, mkF, argsToLocals, Value.category]; done) | rfl
def QMH (Z : State) (q1 : Int64) (q2 : Int64) (h0 : Heap) (n0 : Nat) (v : Option Value) (h : Heap) (L : List Loc) : Prop := v = some (.long (own_mh q1 q2)) ∧ Fr n0 L ∧ h = h0
set_option maxRecDepth 65536 in
set_option maxHeartbeats 40000000 in
theorem rmMH (l : Launch) (Z : State) (a0 : Array Value) (hw : ∀ d ∈ tables_1, d.before a0 Z = true) (ws : List Jvm.Cond) (q1 : Int64) (q2 : Int64) (h0 : Heap) (n0 : Nat) (Z0 : n0 ≤ h0.size) :
    MetFree l (⟨"java/lang/Math", "multiplyHigh", "(JJ)J"⟩ : MethodName) (head1 (Jvm.Cond.code (⟨"java/lang/Math", "multiplyHigh", "(JJ)J"⟩ : MethodName) jdk_29_method_45_code 20 (some .long) :: ws) ({ frames := 0, cells := 0, slots := 0, locals := 0 } : Room)) (fun a U => a = #[(.long q1), (.long q2)] ∧ Z.Warmed39 U.vm ∧ U.heap = h0) (fun _ _ _ _ _ => True) (fun _ U o U' => ∃ v L, o = .returned v ∧ QMH Z q1 q2 h0 n0 v U'.heap L ∧ FrameEnd U o U' L ({ frames := 0, cells := 0, slots := 0, locals := 0 } : Room).cells ({ frames := 0, cells := 0, slots := 0, locals := 0 } : Room).slots) := by
  refine MetFree.of_bodySF (Jvm.Free.JP.mathPlain rfl (by decide +kernel)) hisR ?_
  intro p e s m args below meth c s₁ Bd hml0 hP hK
  obtain ⟨rfl, hZ, hh⟩ := hP
  have hx := Bd.exec
  have hby := Bd.bytes
  have hml : c.maxLocals = 20 := hml0
  have hown : s.vm.findClass "java/lang/Math" = some m.cls := findClass_of_methodNamed Bd.named
  have hnm := (name_of_methodNamed Bd.named Bd.method).1
  have X0 : Stand p l e ({ frames := 0, cells := 0, slots := 0, locals := 0 } : Room) s m #[(.long q1), (.long q2)] below meth c s₁ [] 0 0 := Stand.of_body Bd
  have e0 : s₁.heap = h0 := by rw [← hh, Bd.state]; rfl
  have N0 := Fr.nil n0
  have pre0 : ∀ t, Steps p.tables e below (s₁.setTop (mkF m 0 #[.val (.long q1), .second, .val (.long q2), .second, .unset, .unset, .unset, .unset, .unset, .unset, .unset, .unset, .unset, .unset, .unset, .unset, .unset, .unset, .unset, .unset] [])) t → Steps p.tables e below (s₁.setTop (entryFrame m #[(.long q1), (.long q2)] 20)) t := fun t k => castTop (ef_rmMH m q1 q2) k
  have pre101 : ∀ t, Steps p.tables e below (s₁.setTop (mkF m 85 #[.val (.long q1), .second, .val (.long q2), .second, .val (.long (own_sr q1)), .second, .val (.long (own_lo32 q1)), .second, .val (.long (own_sr q2)), .second, .val (.long (own_lo32 q2)), .second, .val (.long ((own_lo32 q1) * (own_lo32 q2))), .second, .val (.long (own_t q1 q2)), .second, .val (.long ((own_lo32 (own_t q1 q2)) + ((own_lo32 q1) * (own_sr q2)))), .second, .val (.long (own_sr (own_t q1 q2))), .second] [(.long (own_mh q1 q2))])) t → Steps p.tables e below (s₁.setTop (entryFrame m #[(.long q1), (.long q2)] 20)) t := fun t k => pre0 t (by
    show Steps p.tables e below (s₁.setTop (mkF m 0 #[.val (.long q1), .second, .val (.long q2), .second, .unset, .unset, .unset, .unset, .unset, .unset, .unset, .unset, .unset, .unset, .unset, .unset, .unset, .unset, .unset, .unset] [])) t
    refine XS.lloadN X0.here hx rfl (hb hby d7_0) rfl ?_
    show Steps p.tables e below (s₁.setTop (mkF m 1 #[.val (.long q1), .second, .val (.long q2), .second, .unset, .unset, .unset, .unset, .unset, .unset, .unset, .unset, .unset, .unset, .unset, .unset, .unset, .unset, .unset, .unset] [(.long q1)])) t
    refine XS.bipush X0.here hx rfl (hb hby d7_1) ?_
    show Steps p.tables e below (s₁.setTop (mkF m 3 #[.val (.long q1), .second, .val (.long q2), .second, .unset, .unset, .unset, .unset, .unset, .unset, .unset, .unset, .unset, .unset, .unset, .unset, .unset, .unset, .unset, .unset] [(.int (32 : Int32)), (.long q1)])) t
    refine XS.lshr X0.here hx rfl (hb hby d7_3) rfl ?_
    show Steps p.tables e below (s₁.setTop (mkF m 4 #[.val (.long q1), .second, .val (.long q2), .second, .unset, .unset, .unset, .unset, .unset, .unset, .unset, .unset, .unset, .unset, .unset, .unset, .unset, .unset, .unset, .unset] [(.long (q1 >>> ((32 : Int32) &&& 0x3f).toInt64))])) t
    refine XS.lstore X0.here hx rfl (hb hby d7_4) rfl (l' := #[.val (.long q1), .second, .val (.long q2), .second, .val (.long (q1 >>> ((32 : Int32) &&& 0x3f).toInt64)), .second, .unset, .unset, .unset, .unset, .unset, .unset, .unset, .unset, .unset, .unset, .unset, .unset, .unset, .unset]) rfl ?_
    show Steps p.tables e below (s₁.setTop (mkF m 6 #[.val (.long q1), .second, .val (.long q2), .second, .val (.long (own_sr q1)), .second, .unset, .unset, .unset, .unset, .unset, .unset, .unset, .unset, .unset, .unset, .unset, .unset, .unset, .unset] [])) t
    refine XS.lloadN X0.here hx rfl (hb hby d7_6) rfl ?_
    show Steps p.tables e below (s₁.setTop (mkF m 7 #[.val (.long q1), .second, .val (.long q2), .second, .val (.long (own_sr q1)), .second, .unset, .unset, .unset, .unset, .unset, .unset, .unset, .unset, .unset, .unset, .unset, .unset, .unset, .unset] [(.long q1)])) t
    refine X0.ldc2Long hx hown (mvT hZ (own_i hw 46 rfl)) (g := (mkF m 7 #[.val (.long q1), .second, .val (.long q2), .second, .val (.long (own_sr q1)), .second, .unset, .unset, .unset, .unset, .unset, .unset, .unset, .unset, .unset, .unset, .unset, .unset, .unset, .unset] [(.long q1)])) rfl (hb hby d7_7) _ ?_
    show Steps p.tables e below (s₁.setTop (mkF m 10 #[.val (.long q1), .second, .val (.long q2), .second, .val (.long (own_sr q1)), .second, .unset, .unset, .unset, .unset, .unset, .unset, .unset, .unset, .unset, .unset, .unset, .unset, .unset, .unset] [(.long (4294967295 : Int64)), (.long q1)])) t
    refine XS.land X0.here hx rfl (hb hby d7_10) rfl ?_
    show Steps p.tables e below (s₁.setTop (mkF m 11 #[.val (.long q1), .second, .val (.long q2), .second, .val (.long (own_sr q1)), .second, .unset, .unset, .unset, .unset, .unset, .unset, .unset, .unset, .unset, .unset, .unset, .unset, .unset, .unset] [(.long (q1 &&& (4294967295 : Int64)))])) t
    refine XS.lstore X0.here hx rfl (hb hby d7_11) rfl (l' := #[.val (.long q1), .second, .val (.long q2), .second, .val (.long (own_sr q1)), .second, .val (.long (q1 &&& (4294967295 : Int64))), .second, .unset, .unset, .unset, .unset, .unset, .unset, .unset, .unset, .unset, .unset, .unset, .unset]) rfl ?_
    show Steps p.tables e below (s₁.setTop (mkF m 13 #[.val (.long q1), .second, .val (.long q2), .second, .val (.long (own_sr q1)), .second, .val (.long (own_lo32 q1)), .second, .unset, .unset, .unset, .unset, .unset, .unset, .unset, .unset, .unset, .unset, .unset, .unset] [])) t
    refine XS.lloadN X0.here hx rfl (hb hby d7_13) rfl ?_
    show Steps p.tables e below (s₁.setTop (mkF m 14 #[.val (.long q1), .second, .val (.long q2), .second, .val (.long (own_sr q1)), .second, .val (.long (own_lo32 q1)), .second, .unset, .unset, .unset, .unset, .unset, .unset, .unset, .unset, .unset, .unset, .unset, .unset] [(.long q2)])) t
    refine XS.bipush X0.here hx rfl (hb hby d7_14) ?_
    show Steps p.tables e below (s₁.setTop (mkF m 16 #[.val (.long q1), .second, .val (.long q2), .second, .val (.long (own_sr q1)), .second, .val (.long (own_lo32 q1)), .second, .unset, .unset, .unset, .unset, .unset, .unset, .unset, .unset, .unset, .unset, .unset, .unset] [(.int (32 : Int32)), (.long q2)])) t
    refine XS.lshr X0.here hx rfl (hb hby d7_16) rfl ?_
    show Steps p.tables e below (s₁.setTop (mkF m 17 #[.val (.long q1), .second, .val (.long q2), .second, .val (.long (own_sr q1)), .second, .val (.long (own_lo32 q1)), .second, .unset, .unset, .unset, .unset, .unset, .unset, .unset, .unset, .unset, .unset, .unset, .unset] [(.long (q2 >>> ((32 : Int32) &&& 0x3f).toInt64))])) t
    refine XS.lstore X0.here hx rfl (hb hby d7_17) rfl (l' := #[.val (.long q1), .second, .val (.long q2), .second, .val (.long (own_sr q1)), .second, .val (.long (own_lo32 q1)), .second, .val (.long (q2 >>> ((32 : Int32) &&& 0x3f).toInt64)), .second, .unset, .unset, .unset, .unset, .unset, .unset, .unset, .unset, .unset, .unset]) rfl ?_
    show Steps p.tables e below (s₁.setTop (mkF m 19 #[.val (.long q1), .second, .val (.long q2), .second, .val (.long (own_sr q1)), .second, .val (.long (own_lo32 q1)), .second, .val (.long (own_sr q2)), .second, .unset, .unset, .unset, .unset, .unset, .unset, .unset, .unset, .unset, .unset] [])) t
    refine XS.lloadN X0.here hx rfl (hb hby d7_19) rfl ?_
    show Steps p.tables e below (s₁.setTop (mkF m 20 #[.val (.long q1), .second, .val (.long q2), .second, .val (.long (own_sr q1)), .second, .val (.long (own_lo32 q1)), .second, .val (.long (own_sr q2)), .second, .unset, .unset, .unset, .unset, .unset, .unset, .unset, .unset, .unset, .unset] [(.long q2)])) t
    refine X0.ldc2Long hx hown (mvT hZ (own_i hw 46 rfl)) (g := (mkF m 20 #[.val (.long q1), .second, .val (.long q2), .second, .val (.long (own_sr q1)), .second, .val (.long (own_lo32 q1)), .second, .val (.long (own_sr q2)), .second, .unset, .unset, .unset, .unset, .unset, .unset, .unset, .unset, .unset, .unset] [(.long q2)])) rfl (hb hby d7_20) _ ?_
    show Steps p.tables e below (s₁.setTop (mkF m 23 #[.val (.long q1), .second, .val (.long q2), .second, .val (.long (own_sr q1)), .second, .val (.long (own_lo32 q1)), .second, .val (.long (own_sr q2)), .second, .unset, .unset, .unset, .unset, .unset, .unset, .unset, .unset, .unset, .unset] [(.long (4294967295 : Int64)), (.long q2)])) t
    refine XS.land X0.here hx rfl (hb hby d7_23) rfl ?_
    show Steps p.tables e below (s₁.setTop (mkF m 24 #[.val (.long q1), .second, .val (.long q2), .second, .val (.long (own_sr q1)), .second, .val (.long (own_lo32 q1)), .second, .val (.long (own_sr q2)), .second, .unset, .unset, .unset, .unset, .unset, .unset, .unset, .unset, .unset, .unset] [(.long (q2 &&& (4294967295 : Int64)))])) t
    refine XS.lstore X0.here hx rfl (hb hby d7_24) rfl (l' := #[.val (.long q1), .second, .val (.long q2), .second, .val (.long (own_sr q1)), .second, .val (.long (own_lo32 q1)), .second, .val (.long (own_sr q2)), .second, .val (.long (q2 &&& (4294967295 : Int64))), .second, .unset, .unset, .unset, .unset, .unset, .unset, .unset, .unset]) rfl ?_
    show Steps p.tables e below (s₁.setTop (mkF m 26 #[.val (.long q1), .second, .val (.long q2), .second, .val (.long (own_sr q1)), .second, .val (.long (own_lo32 q1)), .second, .val (.long (own_sr q2)), .second, .val (.long (own_lo32 q2)), .second, .unset, .unset, .unset, .unset, .unset, .unset, .unset, .unset] [])) t
    refine XS.lload X0.here hx rfl (hb hby d7_26) rfl ?_
    show Steps p.tables e below (s₁.setTop (mkF m 28 #[.val (.long q1), .second, .val (.long q2), .second, .val (.long (own_sr q1)), .second, .val (.long (own_lo32 q1)), .second, .val (.long (own_sr q2)), .second, .val (.long (own_lo32 q2)), .second, .unset, .unset, .unset, .unset, .unset, .unset, .unset, .unset] [(.long (own_lo32 q1))])) t
    refine XS.lload X0.here hx rfl (hb hby d7_28) rfl ?_
    show Steps p.tables e below (s₁.setTop (mkF m 30 #[.val (.long q1), .second, .val (.long q2), .second, .val (.long (own_sr q1)), .second, .val (.long (own_lo32 q1)), .second, .val (.long (own_sr q2)), .second, .val (.long (own_lo32 q2)), .second, .unset, .unset, .unset, .unset, .unset, .unset, .unset, .unset] [(.long (own_lo32 q2)), (.long (own_lo32 q1))])) t
    refine XS.lmul X0.here hx rfl (hb hby d7_30) rfl ?_
    show Steps p.tables e below (s₁.setTop (mkF m 31 #[.val (.long q1), .second, .val (.long q2), .second, .val (.long (own_sr q1)), .second, .val (.long (own_lo32 q1)), .second, .val (.long (own_sr q2)), .second, .val (.long (own_lo32 q2)), .second, .unset, .unset, .unset, .unset, .unset, .unset, .unset, .unset] [(.long ((own_lo32 q1) * (own_lo32 q2)))])) t
    refine XS.lstore X0.here hx rfl (hb hby d7_31) rfl (l' := #[.val (.long q1), .second, .val (.long q2), .second, .val (.long (own_sr q1)), .second, .val (.long (own_lo32 q1)), .second, .val (.long (own_sr q2)), .second, .val (.long (own_lo32 q2)), .second, .val (.long ((own_lo32 q1) * (own_lo32 q2))), .second, .unset, .unset, .unset, .unset, .unset, .unset]) rfl ?_
    show Steps p.tables e below (s₁.setTop (mkF m 33 #[.val (.long q1), .second, .val (.long q2), .second, .val (.long (own_sr q1)), .second, .val (.long (own_lo32 q1)), .second, .val (.long (own_sr q2)), .second, .val (.long (own_lo32 q2)), .second, .val (.long ((own_lo32 q1) * (own_lo32 q2))), .second, .unset, .unset, .unset, .unset, .unset, .unset] [])) t
    refine XS.lload X0.here hx rfl (hb hby d7_33) rfl ?_
    show Steps p.tables e below (s₁.setTop (mkF m 35 #[.val (.long q1), .second, .val (.long q2), .second, .val (.long (own_sr q1)), .second, .val (.long (own_lo32 q1)), .second, .val (.long (own_sr q2)), .second, .val (.long (own_lo32 q2)), .second, .val (.long ((own_lo32 q1) * (own_lo32 q2))), .second, .unset, .unset, .unset, .unset, .unset, .unset] [(.long (own_sr q1))])) t
    refine XS.lload X0.here hx rfl (hb hby d7_35) rfl ?_
    show Steps p.tables e below (s₁.setTop (mkF m 37 #[.val (.long q1), .second, .val (.long q2), .second, .val (.long (own_sr q1)), .second, .val (.long (own_lo32 q1)), .second, .val (.long (own_sr q2)), .second, .val (.long (own_lo32 q2)), .second, .val (.long ((own_lo32 q1) * (own_lo32 q2))), .second, .unset, .unset, .unset, .unset, .unset, .unset] [(.long (own_lo32 q2)), (.long (own_sr q1))])) t
    refine XS.lmul X0.here hx rfl (hb hby d7_37) rfl ?_
    show Steps p.tables e below (s₁.setTop (mkF m 38 #[.val (.long q1), .second, .val (.long q2), .second, .val (.long (own_sr q1)), .second, .val (.long (own_lo32 q1)), .second, .val (.long (own_sr q2)), .second, .val (.long (own_lo32 q2)), .second, .val (.long ((own_lo32 q1) * (own_lo32 q2))), .second, .unset, .unset, .unset, .unset, .unset, .unset] [(.long ((own_sr q1) * (own_lo32 q2)))])) t
    refine XS.lload X0.here hx rfl (hb hby d7_38) rfl ?_
    show Steps p.tables e below (s₁.setTop (mkF m 40 #[.val (.long q1), .second, .val (.long q2), .second, .val (.long (own_sr q1)), .second, .val (.long (own_lo32 q1)), .second, .val (.long (own_sr q2)), .second, .val (.long (own_lo32 q2)), .second, .val (.long ((own_lo32 q1) * (own_lo32 q2))), .second, .unset, .unset, .unset, .unset, .unset, .unset] [(.long ((own_lo32 q1) * (own_lo32 q2))), (.long ((own_sr q1) * (own_lo32 q2)))])) t
    refine XS.bipush X0.here hx rfl (hb hby d7_40) ?_
    show Steps p.tables e below (s₁.setTop (mkF m 42 #[.val (.long q1), .second, .val (.long q2), .second, .val (.long (own_sr q1)), .second, .val (.long (own_lo32 q1)), .second, .val (.long (own_sr q2)), .second, .val (.long (own_lo32 q2)), .second, .val (.long ((own_lo32 q1) * (own_lo32 q2))), .second, .unset, .unset, .unset, .unset, .unset, .unset] [(.int (32 : Int32)), (.long ((own_lo32 q1) * (own_lo32 q2))), (.long ((own_sr q1) * (own_lo32 q2)))])) t
    refine XS.lushr X0.here hx rfl (hb hby d7_42) rfl ?_
    show Steps p.tables e below (s₁.setTop (mkF m 43 #[.val (.long q1), .second, .val (.long q2), .second, .val (.long (own_sr q1)), .second, .val (.long (own_lo32 q1)), .second, .val (.long (own_sr q2)), .second, .val (.long (own_lo32 q2)), .second, .val (.long ((own_lo32 q1) * (own_lo32 q2))), .second, .unset, .unset, .unset, .unset, .unset, .unset] [(.long ((((own_lo32 q1) * (own_lo32 q2)).toUInt64 >>> ((32 : Int32) &&& 0x3f).toInt64.toUInt64).toInt64)), (.long ((own_sr q1) * (own_lo32 q2)))])) t
    refine XS.ladd X0.here hx rfl (hb hby d7_43) rfl ?_
    show Steps p.tables e below (s₁.setTop (mkF m 44 #[.val (.long q1), .second, .val (.long q2), .second, .val (.long (own_sr q1)), .second, .val (.long (own_lo32 q1)), .second, .val (.long (own_sr q2)), .second, .val (.long (own_lo32 q2)), .second, .val (.long ((own_lo32 q1) * (own_lo32 q2))), .second, .unset, .unset, .unset, .unset, .unset, .unset] [(.long (((own_sr q1) * (own_lo32 q2)) + ((((own_lo32 q1) * (own_lo32 q2)).toUInt64 >>> ((32 : Int32) &&& 0x3f).toInt64.toUInt64).toInt64)))])) t
    refine XS.lstore X0.here hx rfl (hb hby d7_44) rfl (l' := #[.val (.long q1), .second, .val (.long q2), .second, .val (.long (own_sr q1)), .second, .val (.long (own_lo32 q1)), .second, .val (.long (own_sr q2)), .second, .val (.long (own_lo32 q2)), .second, .val (.long ((own_lo32 q1) * (own_lo32 q2))), .second, .val (.long (((own_sr q1) * (own_lo32 q2)) + ((((own_lo32 q1) * (own_lo32 q2)).toUInt64 >>> ((32 : Int32) &&& 0x3f).toInt64.toUInt64).toInt64))), .second, .unset, .unset, .unset, .unset]) rfl ?_
    show Steps p.tables e below (s₁.setTop (mkF m 46 #[.val (.long q1), .second, .val (.long q2), .second, .val (.long (own_sr q1)), .second, .val (.long (own_lo32 q1)), .second, .val (.long (own_sr q2)), .second, .val (.long (own_lo32 q2)), .second, .val (.long ((own_lo32 q1) * (own_lo32 q2))), .second, .val (.long (own_t q1 q2)), .second, .unset, .unset, .unset, .unset] [])) t
    refine XS.lload X0.here hx rfl (hb hby d7_46) rfl ?_
    show Steps p.tables e below (s₁.setTop (mkF m 48 #[.val (.long q1), .second, .val (.long q2), .second, .val (.long (own_sr q1)), .second, .val (.long (own_lo32 q1)), .second, .val (.long (own_sr q2)), .second, .val (.long (own_lo32 q2)), .second, .val (.long ((own_lo32 q1) * (own_lo32 q2))), .second, .val (.long (own_t q1 q2)), .second, .unset, .unset, .unset, .unset] [(.long (own_t q1 q2))])) t
    refine X0.ldc2Long hx hown (mvT hZ (own_i hw 46 rfl)) (g := (mkF m 48 #[.val (.long q1), .second, .val (.long q2), .second, .val (.long (own_sr q1)), .second, .val (.long (own_lo32 q1)), .second, .val (.long (own_sr q2)), .second, .val (.long (own_lo32 q2)), .second, .val (.long ((own_lo32 q1) * (own_lo32 q2))), .second, .val (.long (own_t q1 q2)), .second, .unset, .unset, .unset, .unset] [(.long (own_t q1 q2))])) rfl (hb hby d7_48) _ ?_
    show Steps p.tables e below (s₁.setTop (mkF m 51 #[.val (.long q1), .second, .val (.long q2), .second, .val (.long (own_sr q1)), .second, .val (.long (own_lo32 q1)), .second, .val (.long (own_sr q2)), .second, .val (.long (own_lo32 q2)), .second, .val (.long ((own_lo32 q1) * (own_lo32 q2))), .second, .val (.long (own_t q1 q2)), .second, .unset, .unset, .unset, .unset] [(.long (4294967295 : Int64)), (.long (own_t q1 q2))])) t
    refine XS.land X0.here hx rfl (hb hby d7_51) rfl ?_
    show Steps p.tables e below (s₁.setTop (mkF m 52 #[.val (.long q1), .second, .val (.long q2), .second, .val (.long (own_sr q1)), .second, .val (.long (own_lo32 q1)), .second, .val (.long (own_sr q2)), .second, .val (.long (own_lo32 q2)), .second, .val (.long ((own_lo32 q1) * (own_lo32 q2))), .second, .val (.long (own_t q1 q2)), .second, .unset, .unset, .unset, .unset] [(.long ((own_t q1 q2) &&& (4294967295 : Int64)))])) t
    refine XS.lstore X0.here hx rfl (hb hby d7_52) rfl (l' := #[.val (.long q1), .second, .val (.long q2), .second, .val (.long (own_sr q1)), .second, .val (.long (own_lo32 q1)), .second, .val (.long (own_sr q2)), .second, .val (.long (own_lo32 q2)), .second, .val (.long ((own_lo32 q1) * (own_lo32 q2))), .second, .val (.long (own_t q1 q2)), .second, .val (.long ((own_t q1 q2) &&& (4294967295 : Int64))), .second, .unset, .unset]) rfl ?_
    show Steps p.tables e below (s₁.setTop (mkF m 54 #[.val (.long q1), .second, .val (.long q2), .second, .val (.long (own_sr q1)), .second, .val (.long (own_lo32 q1)), .second, .val (.long (own_sr q2)), .second, .val (.long (own_lo32 q2)), .second, .val (.long ((own_lo32 q1) * (own_lo32 q2))), .second, .val (.long (own_t q1 q2)), .second, .val (.long (own_lo32 (own_t q1 q2))), .second, .unset, .unset] [])) t
    refine XS.lload X0.here hx rfl (hb hby d7_54) rfl ?_
    show Steps p.tables e below (s₁.setTop (mkF m 56 #[.val (.long q1), .second, .val (.long q2), .second, .val (.long (own_sr q1)), .second, .val (.long (own_lo32 q1)), .second, .val (.long (own_sr q2)), .second, .val (.long (own_lo32 q2)), .second, .val (.long ((own_lo32 q1) * (own_lo32 q2))), .second, .val (.long (own_t q1 q2)), .second, .val (.long (own_lo32 (own_t q1 q2))), .second, .unset, .unset] [(.long (own_t q1 q2))])) t
    refine XS.bipush X0.here hx rfl (hb hby d7_56) ?_
    show Steps p.tables e below (s₁.setTop (mkF m 58 #[.val (.long q1), .second, .val (.long q2), .second, .val (.long (own_sr q1)), .second, .val (.long (own_lo32 q1)), .second, .val (.long (own_sr q2)), .second, .val (.long (own_lo32 q2)), .second, .val (.long ((own_lo32 q1) * (own_lo32 q2))), .second, .val (.long (own_t q1 q2)), .second, .val (.long (own_lo32 (own_t q1 q2))), .second, .unset, .unset] [(.int (32 : Int32)), (.long (own_t q1 q2))])) t
    refine XS.lshr X0.here hx rfl (hb hby d7_58) rfl ?_
    show Steps p.tables e below (s₁.setTop (mkF m 59 #[.val (.long q1), .second, .val (.long q2), .second, .val (.long (own_sr q1)), .second, .val (.long (own_lo32 q1)), .second, .val (.long (own_sr q2)), .second, .val (.long (own_lo32 q2)), .second, .val (.long ((own_lo32 q1) * (own_lo32 q2))), .second, .val (.long (own_t q1 q2)), .second, .val (.long (own_lo32 (own_t q1 q2))), .second, .unset, .unset] [(.long ((own_t q1 q2) >>> ((32 : Int32) &&& 0x3f).toInt64))])) t
    refine XS.lstore X0.here hx rfl (hb hby d7_59) rfl (l' := #[.val (.long q1), .second, .val (.long q2), .second, .val (.long (own_sr q1)), .second, .val (.long (own_lo32 q1)), .second, .val (.long (own_sr q2)), .second, .val (.long (own_lo32 q2)), .second, .val (.long ((own_lo32 q1) * (own_lo32 q2))), .second, .val (.long (own_t q1 q2)), .second, .val (.long (own_lo32 (own_t q1 q2))), .second, .val (.long ((own_t q1 q2) >>> ((32 : Int32) &&& 0x3f).toInt64)), .second]) rfl ?_
    show Steps p.tables e below (s₁.setTop (mkF m 61 #[.val (.long q1), .second, .val (.long q2), .second, .val (.long (own_sr q1)), .second, .val (.long (own_lo32 q1)), .second, .val (.long (own_sr q2)), .second, .val (.long (own_lo32 q2)), .second, .val (.long ((own_lo32 q1) * (own_lo32 q2))), .second, .val (.long (own_t q1 q2)), .second, .val (.long (own_lo32 (own_t q1 q2))), .second, .val (.long (own_sr (own_t q1 q2))), .second] [])) t
    refine XS.lload X0.here hx rfl (hb hby d7_61) rfl ?_
    show Steps p.tables e below (s₁.setTop (mkF m 63 #[.val (.long q1), .second, .val (.long q2), .second, .val (.long (own_sr q1)), .second, .val (.long (own_lo32 q1)), .second, .val (.long (own_sr q2)), .second, .val (.long (own_lo32 q2)), .second, .val (.long ((own_lo32 q1) * (own_lo32 q2))), .second, .val (.long (own_t q1 q2)), .second, .val (.long (own_lo32 (own_t q1 q2))), .second, .val (.long (own_sr (own_t q1 q2))), .second] [(.long (own_lo32 (own_t q1 q2)))])) t
    refine XS.lload X0.here hx rfl (hb hby d7_63) rfl ?_
    show Steps p.tables e below (s₁.setTop (mkF m 65 #[.val (.long q1), .second, .val (.long q2), .second, .val (.long (own_sr q1)), .second, .val (.long (own_lo32 q1)), .second, .val (.long (own_sr q2)), .second, .val (.long (own_lo32 q2)), .second, .val (.long ((own_lo32 q1) * (own_lo32 q2))), .second, .val (.long (own_t q1 q2)), .second, .val (.long (own_lo32 (own_t q1 q2))), .second, .val (.long (own_sr (own_t q1 q2))), .second] [(.long (own_lo32 q1)), (.long (own_lo32 (own_t q1 q2)))])) t
    refine XS.lload X0.here hx rfl (hb hby d7_65) rfl ?_
    show Steps p.tables e below (s₁.setTop (mkF m 67 #[.val (.long q1), .second, .val (.long q2), .second, .val (.long (own_sr q1)), .second, .val (.long (own_lo32 q1)), .second, .val (.long (own_sr q2)), .second, .val (.long (own_lo32 q2)), .second, .val (.long ((own_lo32 q1) * (own_lo32 q2))), .second, .val (.long (own_t q1 q2)), .second, .val (.long (own_lo32 (own_t q1 q2))), .second, .val (.long (own_sr (own_t q1 q2))), .second] [(.long (own_sr q2)), (.long (own_lo32 q1)), (.long (own_lo32 (own_t q1 q2)))])) t
    refine XS.lmul X0.here hx rfl (hb hby d7_67) rfl ?_
    show Steps p.tables e below (s₁.setTop (mkF m 68 #[.val (.long q1), .second, .val (.long q2), .second, .val (.long (own_sr q1)), .second, .val (.long (own_lo32 q1)), .second, .val (.long (own_sr q2)), .second, .val (.long (own_lo32 q2)), .second, .val (.long ((own_lo32 q1) * (own_lo32 q2))), .second, .val (.long (own_t q1 q2)), .second, .val (.long (own_lo32 (own_t q1 q2))), .second, .val (.long (own_sr (own_t q1 q2))), .second] [(.long ((own_lo32 q1) * (own_sr q2))), (.long (own_lo32 (own_t q1 q2)))])) t
    refine XS.ladd X0.here hx rfl (hb hby d7_68) rfl ?_
    show Steps p.tables e below (s₁.setTop (mkF m 69 #[.val (.long q1), .second, .val (.long q2), .second, .val (.long (own_sr q1)), .second, .val (.long (own_lo32 q1)), .second, .val (.long (own_sr q2)), .second, .val (.long (own_lo32 q2)), .second, .val (.long ((own_lo32 q1) * (own_lo32 q2))), .second, .val (.long (own_t q1 q2)), .second, .val (.long (own_lo32 (own_t q1 q2))), .second, .val (.long (own_sr (own_t q1 q2))), .second] [(.long ((own_lo32 (own_t q1 q2)) + ((own_lo32 q1) * (own_sr q2))))])) t
    refine XS.lstore X0.here hx rfl (hb hby d7_69) rfl (l' := #[.val (.long q1), .second, .val (.long q2), .second, .val (.long (own_sr q1)), .second, .val (.long (own_lo32 q1)), .second, .val (.long (own_sr q2)), .second, .val (.long (own_lo32 q2)), .second, .val (.long ((own_lo32 q1) * (own_lo32 q2))), .second, .val (.long (own_t q1 q2)), .second, .val (.long ((own_lo32 (own_t q1 q2)) + ((own_lo32 q1) * (own_sr q2)))), .second, .val (.long (own_sr (own_t q1 q2))), .second]) rfl ?_
    show Steps p.tables e below (s₁.setTop (mkF m 71 #[.val (.long q1), .second, .val (.long q2), .second, .val (.long (own_sr q1)), .second, .val (.long (own_lo32 q1)), .second, .val (.long (own_sr q2)), .second, .val (.long (own_lo32 q2)), .second, .val (.long ((own_lo32 q1) * (own_lo32 q2))), .second, .val (.long (own_t q1 q2)), .second, .val (.long ((own_lo32 (own_t q1 q2)) + ((own_lo32 q1) * (own_sr q2)))), .second, .val (.long (own_sr (own_t q1 q2))), .second] [])) t
    refine XS.lload X0.here hx rfl (hb hby d7_71) rfl ?_
    show Steps p.tables e below (s₁.setTop (mkF m 73 #[.val (.long q1), .second, .val (.long q2), .second, .val (.long (own_sr q1)), .second, .val (.long (own_lo32 q1)), .second, .val (.long (own_sr q2)), .second, .val (.long (own_lo32 q2)), .second, .val (.long ((own_lo32 q1) * (own_lo32 q2))), .second, .val (.long (own_t q1 q2)), .second, .val (.long ((own_lo32 (own_t q1 q2)) + ((own_lo32 q1) * (own_sr q2)))), .second, .val (.long (own_sr (own_t q1 q2))), .second] [(.long (own_sr q1))])) t
    refine XS.lload X0.here hx rfl (hb hby d7_73) rfl ?_
    show Steps p.tables e below (s₁.setTop (mkF m 75 #[.val (.long q1), .second, .val (.long q2), .second, .val (.long (own_sr q1)), .second, .val (.long (own_lo32 q1)), .second, .val (.long (own_sr q2)), .second, .val (.long (own_lo32 q2)), .second, .val (.long ((own_lo32 q1) * (own_lo32 q2))), .second, .val (.long (own_t q1 q2)), .second, .val (.long ((own_lo32 (own_t q1 q2)) + ((own_lo32 q1) * (own_sr q2)))), .second, .val (.long (own_sr (own_t q1 q2))), .second] [(.long (own_sr q2)), (.long (own_sr q1))])) t
    refine XS.lmul X0.here hx rfl (hb hby d7_75) rfl ?_
    show Steps p.tables e below (s₁.setTop (mkF m 76 #[.val (.long q1), .second, .val (.long q2), .second, .val (.long (own_sr q1)), .second, .val (.long (own_lo32 q1)), .second, .val (.long (own_sr q2)), .second, .val (.long (own_lo32 q2)), .second, .val (.long ((own_lo32 q1) * (own_lo32 q2))), .second, .val (.long (own_t q1 q2)), .second, .val (.long ((own_lo32 (own_t q1 q2)) + ((own_lo32 q1) * (own_sr q2)))), .second, .val (.long (own_sr (own_t q1 q2))), .second] [(.long ((own_sr q1) * (own_sr q2)))])) t
    refine XS.lload X0.here hx rfl (hb hby d7_76) rfl ?_
    show Steps p.tables e below (s₁.setTop (mkF m 78 #[.val (.long q1), .second, .val (.long q2), .second, .val (.long (own_sr q1)), .second, .val (.long (own_lo32 q1)), .second, .val (.long (own_sr q2)), .second, .val (.long (own_lo32 q2)), .second, .val (.long ((own_lo32 q1) * (own_lo32 q2))), .second, .val (.long (own_t q1 q2)), .second, .val (.long ((own_lo32 (own_t q1 q2)) + ((own_lo32 q1) * (own_sr q2)))), .second, .val (.long (own_sr (own_t q1 q2))), .second] [(.long (own_sr (own_t q1 q2))), (.long ((own_sr q1) * (own_sr q2)))])) t
    refine XS.ladd X0.here hx rfl (hb hby d7_78) rfl ?_
    show Steps p.tables e below (s₁.setTop (mkF m 79 #[.val (.long q1), .second, .val (.long q2), .second, .val (.long (own_sr q1)), .second, .val (.long (own_lo32 q1)), .second, .val (.long (own_sr q2)), .second, .val (.long (own_lo32 q2)), .second, .val (.long ((own_lo32 q1) * (own_lo32 q2))), .second, .val (.long (own_t q1 q2)), .second, .val (.long ((own_lo32 (own_t q1 q2)) + ((own_lo32 q1) * (own_sr q2)))), .second, .val (.long (own_sr (own_t q1 q2))), .second] [(.long (((own_sr q1) * (own_sr q2)) + (own_sr (own_t q1 q2))))])) t
    refine XS.lload X0.here hx rfl (hb hby d7_79) rfl ?_
    show Steps p.tables e below (s₁.setTop (mkF m 81 #[.val (.long q1), .second, .val (.long q2), .second, .val (.long (own_sr q1)), .second, .val (.long (own_lo32 q1)), .second, .val (.long (own_sr q2)), .second, .val (.long (own_lo32 q2)), .second, .val (.long ((own_lo32 q1) * (own_lo32 q2))), .second, .val (.long (own_t q1 q2)), .second, .val (.long ((own_lo32 (own_t q1 q2)) + ((own_lo32 q1) * (own_sr q2)))), .second, .val (.long (own_sr (own_t q1 q2))), .second] [(.long ((own_lo32 (own_t q1 q2)) + ((own_lo32 q1) * (own_sr q2)))), (.long (((own_sr q1) * (own_sr q2)) + (own_sr (own_t q1 q2))))])) t
    refine XS.bipush X0.here hx rfl (hb hby d7_81) ?_
    show Steps p.tables e below (s₁.setTop (mkF m 83 #[.val (.long q1), .second, .val (.long q2), .second, .val (.long (own_sr q1)), .second, .val (.long (own_lo32 q1)), .second, .val (.long (own_sr q2)), .second, .val (.long (own_lo32 q2)), .second, .val (.long ((own_lo32 q1) * (own_lo32 q2))), .second, .val (.long (own_t q1 q2)), .second, .val (.long ((own_lo32 (own_t q1 q2)) + ((own_lo32 q1) * (own_sr q2)))), .second, .val (.long (own_sr (own_t q1 q2))), .second] [(.int (32 : Int32)), (.long ((own_lo32 (own_t q1 q2)) + ((own_lo32 q1) * (own_sr q2)))), (.long (((own_sr q1) * (own_sr q2)) + (own_sr (own_t q1 q2))))])) t
    refine XS.lshr X0.here hx rfl (hb hby d7_83) rfl ?_
    show Steps p.tables e below (s₁.setTop (mkF m 84 #[.val (.long q1), .second, .val (.long q2), .second, .val (.long (own_sr q1)), .second, .val (.long (own_lo32 q1)), .second, .val (.long (own_sr q2)), .second, .val (.long (own_lo32 q2)), .second, .val (.long ((own_lo32 q1) * (own_lo32 q2))), .second, .val (.long (own_t q1 q2)), .second, .val (.long ((own_lo32 (own_t q1 q2)) + ((own_lo32 q1) * (own_sr q2)))), .second, .val (.long (own_sr (own_t q1 q2))), .second] [(.long (((own_lo32 (own_t q1 q2)) + ((own_lo32 q1) * (own_sr q2))) >>> ((32 : Int32) &&& 0x3f).toInt64)), (.long (((own_sr q1) * (own_sr q2)) + (own_sr (own_t q1 q2))))])) t
    refine XS.ladd X0.here hx rfl (hb hby d7_84) rfl ?_
    exact k)
  obtain ⟨fs, hr, hrun, hended, hW, hsame⟩ := X0.leave (v := some (.long (own_mh q1 q2))) (fun h => by rw [Bd.returns] at h; cases h)
  refine ⟨_, _, pre101 _ ?_, hrun, hended, _, _, rfl, ?_, ⟨_, rfl⟩, hW, hsame.mono (by decide) (by decide)⟩
  · exact retOut X0 hx Bd.returns rfl (Or.inr (Or.inl ⟨rfl, rfl, _, rfl⟩)) (hb hby d7_85) hr
  · show QMH Z q1 q2 h0 n0 _ s₁.heap _
    rw [e0]
    exact ⟨rfl, N0, rfl⟩
theorem pn_com_example_libsld_libsld_PrimeField : plainName "com/example/libsld/libsld/PrimeField" = true := by first | (simp [plainName, overriddenIn]; done) | decide +kernel
theorem pd_0 : parseMethodDescriptor "(JJ)J" = some ⟨[.long, .long], some .long⟩ := by decide +kernel
theorem ef_rmRed (m : MethodId) (x0 : Addr) (x1 : Int64) (x2 : Int64) : entryFrame m #[(.ref x0), (.long x1), (.long x2)] 9 = mkF m 0 #[.val (.ref x0), .val (.long x1), .second, .val (.long x2), .second, .unset, .unset, .unset, .unset] [] := by first | (simp [entryFrame, mkF, argsToLocals, Value.category]; done) | rfl
def QRed (Z : State) (a1 : Addr) (q2 : Int64) (q3 : Int64) (pp : Int64) (vv : Int64) (h0 : Heap) (n0 : Nat) (v : Option Value) (h : Heap) (L : List Loc) : Prop := v = some (.long (own_red q2 q3 pp vv)) ∧ Fr n0 L ∧ h = h0
set_option maxRecDepth 65536 in
set_option maxHeartbeats 40000000 in
theorem rmRed (l : Launch) (Z : State) (a0 : Array Value) (hw : ∀ d ∈ tables_1, d.before a0 Z = true) (ws : List Jvm.Cond) (a1 : Addr) (q2 : Int64) (q3 : Int64) (pp : Int64) (vv : Int64) (h0 : Heap) (n0 : Nat) (Z0 : n0 ≤ h0.size) (F1 : Fld Z h0 a1 "com/example/libsld/libsld/PrimeField" "p" "J" (.long pp)) (F2 : Fld Z h0 a1 "com/example/libsld/libsld/PrimeField" "inverse" "J" (.long vv)) :
    MetFree l (⟨"com/example/libsld/libsld/PrimeField", "reduce", "(JJ)J"⟩ : MethodName) (head1 (Jvm.Cond.code (⟨"com/example/libsld/libsld/PrimeField", "reduce", "(JJ)J"⟩ : MethodName) prog_87_method_2_code 9 (some .long) :: ws) ({ frames := 1, cells := 0, slots := 0, locals := 33 } : Room)) (fun a U => a = #[(.ref a1), (.long q2), (.long q3)] ∧ Z.Warmed39 U.vm ∧ U.heap = h0) (fun _ _ _ _ _ => True) (fun _ U o U' => ∃ v L, o = .returned v ∧ QRed Z a1 q2 q3 pp vv h0 n0 v U'.heap L ∧ FrameEnd U o U' L ({ frames := 1, cells := 0, slots := 0, locals := 33 } : Room).cells ({ frames := 1, cells := 0, slots := 0, locals := 33 } : Room).slots) := by
  refine MetFree.of_bodySF (plainFor_of_name pn_com_example_libsld_libsld_PrimeField) hisR ?_
  intro p e s m args below meth c s₁ Bd hml0 hP hK
  obtain ⟨rfl, hZ, hh⟩ := hP
  have hx := Bd.exec
  have hby := Bd.bytes
  have hml : c.maxLocals = 9 := hml0
  have hown : s.vm.findClass "com/example/libsld/libsld/PrimeField" = some m.cls := findClass_of_methodNamed Bd.named
  have hnm := (name_of_methodNamed Bd.named Bd.method).1
  have X0 : Stand p l e ({ frames := 1, cells := 0, slots := 0, locals := 33 } : Room) s m #[(.ref a1), (.long q2), (.long q3)] below meth c s₁ [] 0 0 := Stand.of_body Bd
  have e0 : s₁.heap = h0 := by rw [← hh, Bd.state]; rfl
  have N0 := Fr.nil n0
  have pre0 : ∀ t, Steps p.tables e below (s₁.setTop (mkF m 0 #[.val (.ref a1), .val (.long q2), .second, .val (.long q3), .second, .unset, .unset, .unset, .unset] [])) t → Steps p.tables e below (s₁.setTop (entryFrame m #[(.ref a1), (.long q2), (.long q3)] 9)) t := fun t k => castTop (ef_rmRed m a1 q2 q3) k
  obtain ⟨T101, X101, e101, st101⟩ := getF X0 hx hZ hown (host := "") (Or.inl (own_i hw 19 rfl)) Via.refl e0 F2 (g := (mkF m 2 #[.val (.ref a1), .val (.long q2), .second, .val (.long q3), .second, .unset, .unset, .unset, .unset] [(.ref a1), (.long q3)])) rfl rfl (hb hby d8_2)
  obtain ⟨T102, X102, e102, st102⟩ := getF X101 hx hZ hown (host := "") (Or.inl (own_i hw 14 rfl)) Via.refl e101 F1 (g := (mkF m 12 #[.val (.ref a1), .val (.long q2), .second, .val (.long q3), .second, .val (.long (q3 * vv)), .second, .unset, .unset] [(.ref a1), (.long (q3 * vv)), (.long q2)])) rfl rfl (hb hby d8_12)
  obtain ⟨_, _, ⟨T103, L103, k103, n103⟩, -, X103, ⟨Lc103, hQ103, l103, y103, z103⟩, st103⟩ := Jvm.LawKit.callS X102 hx (y := (⟨"java/lang/Math", "multiplyHigh", "(JJ)J"⟩ : MethodName)) hown (mvT hZ (own_i hw 42 rfl)) (mvT hZ (own_i hw 43 rfl)) (mvT hZ (own_i hw 44 rfl)) (mvT hZ (own_i hw 45 rfl)) (by decide) (backOf (W := 2) (rmMH l Z a0 hw [] (q3 * vv) pp h0 n0 Z0 ) hZ (own_i hw 45 rfl) (own_i hw 44 rfl) (by decide) (by decide)) (g := (mkF m 15 #[.val (.ref a1), .val (.long q2), .second, .val (.long q3), .second, .val (.long (q3 * vv)), .second, .unset, .unset] [(.long pp), (.long (q3 * vv)), (.long q2)])) rfl (by rw [hml]; rfl) (argsL := [(.long (q3 * vv)), (.long pp)]) (rest := [(.long q2)]) (lenOf pd_0 rfl) rfl (by show 2 * 0 + _ ≤ _; exact Nat.le_of_eq rfl) (hb hby d8_15) (fun _ _ => ⟨rfl, e102, (by decide : 0 + 0 ≤ _), (by decide : 0 + 0 ≤ _)⟩)
  dsimp only [Pt.U, Pt.locs, Pt.cells, Pt.slots] at X103 l103 y103 z103 st103 hQ103
  subst l103 y103 z103
  obtain ⟨rfl, N103q, e103⟩ := hQ103
  have N103 := Fr.app N0 N103q
  obtain ⟨T104, X104, e104, st104⟩ := getF X103 hx hZ hown (host := "") (Or.inl (own_i hw 14 rfl)) Via.refl e103 F1 (g := (mkF m 24 #[.val (.ref a1), .val (.long q2), .second, .val (.long q3), .second, .val (.long (q3 * vv)), .second, .unset, .unset] [(.ref a1), (.long ((q3 * vv) >>> ((63 : Int32) &&& 0x3f).toInt64)), (.long (own_mh (q3 * vv) pp)), (.long q2)])) rfl rfl (hb hby d8_24)
  obtain ⟨T105, X105, e105, st105⟩ := getF X104 hx hZ hown (host := "") (Or.inl (own_i hw 14 rfl)) Via.refl e104 F1 (g := (mkF m 40 #[.val (.ref a1), .val (.long q2), .second, .val (.long q3), .second, .val (.long (q3 * vv)), .second, .val (.long (own_rt q2 q3 pp vv)), .second] [(.ref a1), (.long ((own_rt q2 q3 pp vv) >>> ((63 : Int32) &&& 0x3f).toInt64)), (.long (own_rt q2 q3 pp vv))])) rfl rfl (hb hby d8_40)
  have pre106 : ∀ t, Steps p.tables e below (T105.setTop (mkF m 45 #[.val (.ref a1), .val (.long q2), .second, .val (.long q3), .second, .val (.long (q3 * vv)), .second, .val (.long (own_rt q2 q3 pp vv)), .second] [(.long (own_red q2 q3 pp vv))])) t → Steps p.tables e below (s₁.setTop (entryFrame m #[(.ref a1), (.long q2), (.long q3)] 9)) t := fun t k => pre0 t (by
    show Steps p.tables e below (s₁.setTop (mkF m 0 #[.val (.ref a1), .val (.long q2), .second, .val (.long q3), .second, .unset, .unset, .unset, .unset] [])) t
    refine XS.lloadN X0.here hx rfl (hb hby d8_0) rfl ?_
    show Steps p.tables e below (s₁.setTop (mkF m 1 #[.val (.ref a1), .val (.long q2), .second, .val (.long q3), .second, .unset, .unset, .unset, .unset] [(.long q3)])) t
    refine XS.aloadN X0.here hx rfl (hb hby d8_1) rfl rfl ?_
    show Steps p.tables e below (s₁.setTop (mkF m 2 #[.val (.ref a1), .val (.long q2), .second, .val (.long q3), .second, .unset, .unset, .unset, .unset] [(.ref a1), (.long q3)])) t
    refine st101 _ ?_
    show Steps p.tables e below (T101.setTop (mkF m 5 #[.val (.ref a1), .val (.long q2), .second, .val (.long q3), .second, .unset, .unset, .unset, .unset] [(.long vv), (.long q3)])) t
    refine XS.lmul X101.here hx rfl (hb hby d8_5) rfl ?_
    show Steps p.tables e below (T101.setTop (mkF m 6 #[.val (.ref a1), .val (.long q2), .second, .val (.long q3), .second, .unset, .unset, .unset, .unset] [(.long (q3 * vv))])) t
    refine XS.lstore X101.here hx rfl (hb hby d8_6) rfl (l' := #[.val (.ref a1), .val (.long q2), .second, .val (.long q3), .second, .val (.long (q3 * vv)), .second, .unset, .unset]) rfl ?_
    show Steps p.tables e below (T101.setTop (mkF m 8 #[.val (.ref a1), .val (.long q2), .second, .val (.long q3), .second, .val (.long (q3 * vv)), .second, .unset, .unset] [])) t
    refine XS.lloadN X101.here hx rfl (hb hby d8_8) rfl ?_
    show Steps p.tables e below (T101.setTop (mkF m 9 #[.val (.ref a1), .val (.long q2), .second, .val (.long q3), .second, .val (.long (q3 * vv)), .second, .unset, .unset] [(.long q2)])) t
    refine XS.lload X101.here hx rfl (hb hby d8_9) rfl ?_
    show Steps p.tables e below (T101.setTop (mkF m 11 #[.val (.ref a1), .val (.long q2), .second, .val (.long q3), .second, .val (.long (q3 * vv)), .second, .unset, .unset] [(.long (q3 * vv)), (.long q2)])) t
    refine XS.aloadN X101.here hx rfl (hb hby d8_11) rfl rfl ?_
    show Steps p.tables e below (T101.setTop (mkF m 12 #[.val (.ref a1), .val (.long q2), .second, .val (.long q3), .second, .val (.long (q3 * vv)), .second, .unset, .unset] [(.ref a1), (.long (q3 * vv)), (.long q2)])) t
    refine st102 _ ?_
    show Steps p.tables e below (T102.setTop (mkF m 15 #[.val (.ref a1), .val (.long q2), .second, .val (.long q3), .second, .val (.long (q3 * vv)), .second, .unset, .unset] [(.long pp), (.long (q3 * vv)), (.long q2)])) t
    refine st103 _ ?_
    show Steps p.tables e below (T103.setTop (mkF m 18 #[.val (.ref a1), .val (.long q2), .second, .val (.long q3), .second, .val (.long (q3 * vv)), .second, .unset, .unset] [(.long (own_mh (q3 * vv) pp)), (.long q2)])) t
    refine XS.lload X103.here hx rfl (hb hby d8_18) rfl ?_
    show Steps p.tables e below (T103.setTop (mkF m 20 #[.val (.ref a1), .val (.long q2), .second, .val (.long q3), .second, .val (.long (q3 * vv)), .second, .unset, .unset] [(.long (q3 * vv)), (.long (own_mh (q3 * vv) pp)), (.long q2)])) t
    refine XS.bipush X103.here hx rfl (hb hby d8_20) ?_
    show Steps p.tables e below (T103.setTop (mkF m 22 #[.val (.ref a1), .val (.long q2), .second, .val (.long q3), .second, .val (.long (q3 * vv)), .second, .unset, .unset] [(.int (63 : Int32)), (.long (q3 * vv)), (.long (own_mh (q3 * vv) pp)), (.long q2)])) t
    refine XS.lshr X103.here hx rfl (hb hby d8_22) rfl ?_
    show Steps p.tables e below (T103.setTop (mkF m 23 #[.val (.ref a1), .val (.long q2), .second, .val (.long q3), .second, .val (.long (q3 * vv)), .second, .unset, .unset] [(.long ((q3 * vv) >>> ((63 : Int32) &&& 0x3f).toInt64)), (.long (own_mh (q3 * vv) pp)), (.long q2)])) t
    refine XS.aloadN X103.here hx rfl (hb hby d8_23) rfl rfl ?_
    show Steps p.tables e below (T103.setTop (mkF m 24 #[.val (.ref a1), .val (.long q2), .second, .val (.long q3), .second, .val (.long (q3 * vv)), .second, .unset, .unset] [(.ref a1), (.long ((q3 * vv) >>> ((63 : Int32) &&& 0x3f).toInt64)), (.long (own_mh (q3 * vv) pp)), (.long q2)])) t
    refine st104 _ ?_
    show Steps p.tables e below (T104.setTop (mkF m 27 #[.val (.ref a1), .val (.long q2), .second, .val (.long q3), .second, .val (.long (q3 * vv)), .second, .unset, .unset] [(.long pp), (.long ((q3 * vv) >>> ((63 : Int32) &&& 0x3f).toInt64)), (.long (own_mh (q3 * vv) pp)), (.long q2)])) t
    refine XS.land X104.here hx rfl (hb hby d8_27) rfl ?_
    show Steps p.tables e below (T104.setTop (mkF m 28 #[.val (.ref a1), .val (.long q2), .second, .val (.long q3), .second, .val (.long (q3 * vv)), .second, .unset, .unset] [(.long (((q3 * vv) >>> ((63 : Int32) &&& 0x3f).toInt64) &&& pp)), (.long (own_mh (q3 * vv) pp)), (.long q2)])) t
    refine XS.ladd X104.here hx rfl (hb hby d8_28) rfl ?_
    show Steps p.tables e below (T104.setTop (mkF m 29 #[.val (.ref a1), .val (.long q2), .second, .val (.long q3), .second, .val (.long (q3 * vv)), .second, .unset, .unset] [(.long ((own_mh (q3 * vv) pp) + (((q3 * vv) >>> ((63 : Int32) &&& 0x3f).toInt64) &&& pp))), (.long q2)])) t
    refine XS.lsub X104.here hx rfl (hb hby d8_29) rfl ?_
    show Steps p.tables e below (T104.setTop (mkF m 30 #[.val (.ref a1), .val (.long q2), .second, .val (.long q3), .second, .val (.long (q3 * vv)), .second, .unset, .unset] [(.long (own_rt q2 q3 pp vv))])) t
    refine XS.lstore X104.here hx rfl (hb hby d8_30) rfl (l' := #[.val (.ref a1), .val (.long q2), .second, .val (.long q3), .second, .val (.long (q3 * vv)), .second, .val (.long (own_rt q2 q3 pp vv)), .second]) rfl ?_
    show Steps p.tables e below (T104.setTop (mkF m 32 #[.val (.ref a1), .val (.long q2), .second, .val (.long q3), .second, .val (.long (q3 * vv)), .second, .val (.long (own_rt q2 q3 pp vv)), .second] [])) t
    refine XS.lload X104.here hx rfl (hb hby d8_32) rfl ?_
    show Steps p.tables e below (T104.setTop (mkF m 34 #[.val (.ref a1), .val (.long q2), .second, .val (.long q3), .second, .val (.long (q3 * vv)), .second, .val (.long (own_rt q2 q3 pp vv)), .second] [(.long (own_rt q2 q3 pp vv))])) t
    refine XS.lload X104.here hx rfl (hb hby d8_34) rfl ?_
    show Steps p.tables e below (T104.setTop (mkF m 36 #[.val (.ref a1), .val (.long q2), .second, .val (.long q3), .second, .val (.long (q3 * vv)), .second, .val (.long (own_rt q2 q3 pp vv)), .second] [(.long (own_rt q2 q3 pp vv)), (.long (own_rt q2 q3 pp vv))])) t
    refine XS.bipush X104.here hx rfl (hb hby d8_36) ?_
    show Steps p.tables e below (T104.setTop (mkF m 38 #[.val (.ref a1), .val (.long q2), .second, .val (.long q3), .second, .val (.long (q3 * vv)), .second, .val (.long (own_rt q2 q3 pp vv)), .second] [(.int (63 : Int32)), (.long (own_rt q2 q3 pp vv)), (.long (own_rt q2 q3 pp vv))])) t
    refine XS.lshr X104.here hx rfl (hb hby d8_38) rfl ?_
    show Steps p.tables e below (T104.setTop (mkF m 39 #[.val (.ref a1), .val (.long q2), .second, .val (.long q3), .second, .val (.long (q3 * vv)), .second, .val (.long (own_rt q2 q3 pp vv)), .second] [(.long ((own_rt q2 q3 pp vv) >>> ((63 : Int32) &&& 0x3f).toInt64)), (.long (own_rt q2 q3 pp vv))])) t
    refine XS.aloadN X104.here hx rfl (hb hby d8_39) rfl rfl ?_
    show Steps p.tables e below (T104.setTop (mkF m 40 #[.val (.ref a1), .val (.long q2), .second, .val (.long q3), .second, .val (.long (q3 * vv)), .second, .val (.long (own_rt q2 q3 pp vv)), .second] [(.ref a1), (.long ((own_rt q2 q3 pp vv) >>> ((63 : Int32) &&& 0x3f).toInt64)), (.long (own_rt q2 q3 pp vv))])) t
    refine st105 _ ?_
    show Steps p.tables e below (T105.setTop (mkF m 43 #[.val (.ref a1), .val (.long q2), .second, .val (.long q3), .second, .val (.long (q3 * vv)), .second, .val (.long (own_rt q2 q3 pp vv)), .second] [(.long pp), (.long ((own_rt q2 q3 pp vv) >>> ((63 : Int32) &&& 0x3f).toInt64)), (.long (own_rt q2 q3 pp vv))])) t
    refine XS.land X105.here hx rfl (hb hby d8_43) rfl ?_
    show Steps p.tables e below (T105.setTop (mkF m 44 #[.val (.ref a1), .val (.long q2), .second, .val (.long q3), .second, .val (.long (q3 * vv)), .second, .val (.long (own_rt q2 q3 pp vv)), .second] [(.long (((own_rt q2 q3 pp vv) >>> ((63 : Int32) &&& 0x3f).toInt64) &&& pp)), (.long (own_rt q2 q3 pp vv))])) t
    refine XS.ladd X105.here hx rfl (hb hby d8_44) rfl ?_
    exact k)
  obtain ⟨fs, hr, hrun, hended, hW, hsame⟩ := X105.leave (v := some (.long (own_red q2 q3 pp vv))) (fun h => by rw [Bd.returns] at h; cases h)
  refine ⟨_, _, pre106 _ ?_, hrun, hended, _, _, rfl, ?_, ⟨_, rfl⟩, hW, hsame.mono (by decide) (by decide)⟩
  · exact retOut X105 hx Bd.returns rfl (Or.inr (Or.inl ⟨rfl, rfl, _, rfl⟩)) (hb hby d8_45) hr
  · show QRed Z a1 q2 q3 pp vv h0 n0 _ T105.heap _
    rw [e105]
    exact ⟨rfl, N103, rfl⟩
theorem ef_rmTom (m : MethodId) (x0 : Addr) (x1 : Int64) : entryFrame m #[(.ref x0), (.long x1)] 3 = mkF m 0 #[.val (.ref x0), .val (.long x1), .second] [] := by first | (simp [entryFrame, mkF, argsToLocals, Value.category]; done) | rfl
def QTom (Z : State) (a1 : Addr) (q2 : Int64) (pp : Int64) (vv : Int64) (ss : Int64) (h0 : Heap) (n0 : Nat) (v : Option Value) (h : Heap) (L : List Loc) : Prop := v = some (.long (own_tom q2 pp vv ss)) ∧ Fr n0 L ∧ h = h0
set_option maxRecDepth 65536 in
set_option maxHeartbeats 40000000 in
theorem rmTom (l : Launch) (Z : State) (a0 : Array Value) (hw : ∀ d ∈ tables_1, d.before a0 Z = true) (ws : List Jvm.Cond) (a1 : Addr) (q2 : Int64) (pp : Int64) (vv : Int64) (ss : Int64) (h0 : Heap) (n0 : Nat) (Z0 : n0 ≤ h0.size) (E1 : Exa Z h0 a1 "com/example/libsld/libsld/PrimeField") (F1 : Fld Z h0 a1 "com/example/libsld/libsld/PrimeField" "p" "J" (.long pp)) (F2 : Fld Z h0 a1 "com/example/libsld/libsld/PrimeField" "inverse" "J" (.long vv)) (F3 : Fld Z h0 a1 "com/example/libsld/libsld/PrimeField" "montgomerySquare" "J" (.long ss)) :
    MetFree l (⟨"com/example/libsld/libsld/PrimeField", "toMontgomery", "(J)J"⟩ : MethodName) (head1 (Jvm.Cond.code (⟨"com/example/libsld/libsld/PrimeField", "toMontgomery", "(J)J"⟩ : MethodName) prog_87_method_4_code 3 (some .long) :: ws) ({ frames := 2, cells := 0, slots := 0, locals := 53 } : Room)) (fun a U => a = #[(.ref a1), (.long q2)] ∧ Z.Warmed39 U.vm ∧ U.heap = h0) (fun _ _ _ _ _ => True) (fun _ U o U' => ∃ v L, o = .returned v ∧ QTom Z a1 q2 pp vv ss h0 n0 v U'.heap L ∧ FrameEnd U o U' L ({ frames := 2, cells := 0, slots := 0, locals := 53 } : Room).cells ({ frames := 2, cells := 0, slots := 0, locals := 53 } : Room).slots) := by
  refine MetFree.of_bodySF (plainFor_of_name pn_com_example_libsld_libsld_PrimeField) hisR ?_
  intro p e s m args below meth c s₁ Bd hml0 hP hK
  obtain ⟨rfl, hZ, hh⟩ := hP
  have hx := Bd.exec
  have hby := Bd.bytes
  have hml : c.maxLocals = 3 := hml0
  have hown : s.vm.findClass "com/example/libsld/libsld/PrimeField" = some m.cls := findClass_of_methodNamed Bd.named
  have hnm := (name_of_methodNamed Bd.named Bd.method).1
  have X0 : Stand p l e ({ frames := 2, cells := 0, slots := 0, locals := 53 } : Room) s m #[(.ref a1), (.long q2)] below meth c s₁ [] 0 0 := Stand.of_body Bd
  have e0 : s₁.heap = h0 := by rw [← hh, Bd.state]; rfl
  have N0 := Fr.nil n0
  have pre0 : ∀ t, Steps p.tables e below (s₁.setTop (mkF m 0 #[.val (.ref a1), .val (.long q2), .second] [])) t → Steps p.tables e below (s₁.setTop (entryFrame m #[(.ref a1), (.long q2)] 3)) t := fun t k => castTop (ef_rmTom m a1 q2) k
  obtain ⟨T101, X101, e101, st101⟩ := getF X0 hx hZ hown (host := "") (Or.inl (own_i hw 29 rfl)) Via.refl e0 F3 (g := (mkF m 3 #[.val (.ref a1), .val (.long q2), .second] [(.ref a1), (.long q2), (.ref a1)])) rfl rfl (hb hby d9_3)
  obtain ⟨_, _, ⟨T102, L102, k102, n102⟩, -, X102, ⟨Lc102, hQ102, l102, y102, z102⟩, st102⟩ := Jvm.LawKit.callS X101 hx (y := (⟨"java/lang/Math", "multiplyHigh", "(JJ)J"⟩ : MethodName)) hown (mvT hZ (own_i hw 42 rfl)) (mvT hZ (own_i hw 43 rfl)) (mvT hZ (own_i hw 44 rfl)) (mvT hZ (own_i hw 45 rfl)) (by decide) (backOf (W := 1) (rmMH l Z a0 hw [] q2 ss h0 n0 Z0 ) hZ (own_i hw 45 rfl) (own_i hw 44 rfl) (by decide) (by decide)) (g := (mkF m 6 #[.val (.ref a1), .val (.long q2), .second] [(.long ss), (.long q2), (.ref a1)])) rfl (by rw [hml]; rfl) (argsL := [(.long q2), (.long ss)]) (rest := [(.ref a1)]) (lenOf pd_0 rfl) rfl (by show 2 * 0 + _ ≤ _; exact Nat.le_of_eq rfl) (hb hby d9_6) (fun _ _ => ⟨rfl, e101, (by decide : 0 + 0 ≤ _), (by decide : 0 + 0 ≤ _)⟩)
  dsimp only [Pt.U, Pt.locs, Pt.cells, Pt.slots] at X102 l102 y102 z102 st102 hQ102
  subst l102 y102 z102
  obtain ⟨rfl, N102q, e102⟩ := hQ102
  have N102 := Fr.app N0 N102q
  obtain ⟨T103, X103, e103, st103⟩ := getF X102 hx hZ hown (host := "") (Or.inl (own_i hw 29 rfl)) Via.refl e102 F3 (g := (mkF m 11 #[.val (.ref a1), .val (.long q2), .second] [(.ref a1), (.long q2), (.long (own_mh q2 ss)), (.ref a1)])) rfl rfl (hb hby d9_11)
  obtain ⟨cq104, kq104, q104a, q104b, q104c⟩ := isOf hZ e103 E1
  obtain ⟨_, _, ⟨T104, L104, k104, n104⟩, -, X104, ⟨Lc104, hQ104, l104, y104, z104⟩, st104⟩ := X103.virtualBack hx (y := (⟨"com/example/libsld/libsld/PrimeField", "reduce", "(JJ)J"⟩ : MethodName)) (z := (⟨"com/example/libsld/libsld/PrimeField", "reduce", "(JJ)J"⟩ : MethodName)) hown (mvT hZ (own_i hw 47 rfl)) (mvT hZ (own_i hw 48 rfl)) (notFace_of_selects (args := #[]) (mvT hZ (own_i hw 50 rfl))) (mvT hZ (own_i hw 50 rfl)) (mvT hZ (own_i hw 49 rfl)) (by decide) (backOf (W := 0) (rmRed l Z a0 hw [] a1 (own_mh q2 ss) (q2 * ss) pp vv h0 n0 Z0 F1 F2) hZ (own_i hw 51 rfl) (own_i hw 2 rfl) (by decide) (by decide)) q104a q104c (g := (mkF m 15 #[.val (.ref a1), .val (.long q2), .second] [(.long (q2 * ss)), (.long (own_mh q2 ss)), (.ref a1)])) rfl (by rw [hml]; rfl) (Steps.refl _) (argsL := [(.long (own_mh q2 ss)), (.long (q2 * ss))]) (rest := []) (lenOf pd_0 rfl) rfl (by show 2 * 0 + _ ≤ _; exact Nat.le_of_eq rfl) (hb hby d9_15) (fun _ _ => ⟨rfl, e103, (by decide : 0 + 0 ≤ _), (by decide : 0 + 0 ≤ _)⟩)
  dsimp only [Pt.U, Pt.locs, Pt.cells, Pt.slots] at X104 l104 y104 z104 st104 hQ104
  subst l104 y104 z104
  obtain ⟨rfl, N104q, e104⟩ := hQ104
  have N104 := Fr.app N102 N104q
  have pre105 : ∀ t, Steps p.tables e below (T104.setTop (mkF m 18 #[.val (.ref a1), .val (.long q2), .second] [(.long (own_red (own_mh q2 ss) (q2 * ss) pp vv))])) t → Steps p.tables e below (s₁.setTop (entryFrame m #[(.ref a1), (.long q2)] 3)) t := fun t k => pre0 t (by
    show Steps p.tables e below (s₁.setTop (mkF m 0 #[.val (.ref a1), .val (.long q2), .second] [])) t
    refine XS.aloadN X0.here hx rfl (hb hby d9_0) rfl rfl ?_
    show Steps p.tables e below (s₁.setTop (mkF m 1 #[.val (.ref a1), .val (.long q2), .second] [(.ref a1)])) t
    refine XS.lloadN X0.here hx rfl (hb hby d9_1) rfl ?_
    show Steps p.tables e below (s₁.setTop (mkF m 2 #[.val (.ref a1), .val (.long q2), .second] [(.long q2), (.ref a1)])) t
    refine XS.aloadN X0.here hx rfl (hb hby d9_2) rfl rfl ?_
    show Steps p.tables e below (s₁.setTop (mkF m 3 #[.val (.ref a1), .val (.long q2), .second] [(.ref a1), (.long q2), (.ref a1)])) t
    refine st101 _ ?_
    show Steps p.tables e below (T101.setTop (mkF m 6 #[.val (.ref a1), .val (.long q2), .second] [(.long ss), (.long q2), (.ref a1)])) t
    refine st102 _ ?_
    show Steps p.tables e below (T102.setTop (mkF m 9 #[.val (.ref a1), .val (.long q2), .second] [(.long (own_mh q2 ss)), (.ref a1)])) t
    refine XS.lloadN X102.here hx rfl (hb hby d9_9) rfl ?_
    show Steps p.tables e below (T102.setTop (mkF m 10 #[.val (.ref a1), .val (.long q2), .second] [(.long q2), (.long (own_mh q2 ss)), (.ref a1)])) t
    refine XS.aloadN X102.here hx rfl (hb hby d9_10) rfl rfl ?_
    show Steps p.tables e below (T102.setTop (mkF m 11 #[.val (.ref a1), .val (.long q2), .second] [(.ref a1), (.long q2), (.long (own_mh q2 ss)), (.ref a1)])) t
    refine st103 _ ?_
    show Steps p.tables e below (T103.setTop (mkF m 14 #[.val (.ref a1), .val (.long q2), .second] [(.long ss), (.long q2), (.long (own_mh q2 ss)), (.ref a1)])) t
    refine XS.lmul X103.here hx rfl (hb hby d9_14) rfl ?_
    show Steps p.tables e below (T103.setTop (mkF m 15 #[.val (.ref a1), .val (.long q2), .second] [(.long (q2 * ss)), (.long (own_mh q2 ss)), (.ref a1)])) t
    refine st104.trans ?_
    exact k)
  obtain ⟨fs, hr, hrun, hended, hW, hsame⟩ := X104.leave (v := some (.long (own_red (own_mh q2 ss) (q2 * ss) pp vv))) (fun h => by rw [Bd.returns] at h; cases h)
  refine ⟨_, _, pre105 _ ?_, hrun, hended, _, _, rfl, ?_, ⟨_, rfl⟩, hW, hsame.mono (by decide) (by decide)⟩
  · exact retOut X104 hx Bd.returns rfl (Or.inr (Or.inl ⟨rfl, rfl, _, rfl⟩)) (hb hby d9_18) hr
  · show QTom Z a1 q2 pp vv ss h0 n0 _ T104.heap _
    rw [e104]
    exact ⟨rfl, N104, rfl⟩
theorem pd_1 : parseMethodDescriptor "(J)J" = some ⟨[.long], some .long⟩ := by decide +kernel
theorem ef_rmMul (m : MethodId) (x0 : Addr) (x1 : Int64) (x2 : Int64) : entryFrame m #[(.ref x0), (.long x1), (.long x2)] 5 = mkF m 0 #[.val (.ref x0), .val (.long x1), .second, .val (.long x2), .second] [] := by first | (simp [entryFrame, mkF, argsToLocals, Value.category]; done) | rfl
def QMul (Z : State) (a1 : Addr) (q2 : Int64) (q3 : Int64) (pp : Int64) (vv : Int64) (ss : Int64) (h0 : Heap) (n0 : Nat) (v : Option Value) (h : Heap) (L : List Loc) : Prop := v = some (.long (own_mul q2 q3 pp vv ss)) ∧ Fr n0 L ∧ h = h0
set_option maxRecDepth 65536 in
set_option maxHeartbeats 40000000 in
theorem rmMul (l : Launch) (Z : State) (a0 : Array Value) (hw : ∀ d ∈ tables_1, d.before a0 Z = true) (ws : List Jvm.Cond) (a1 : Addr) (q2 : Int64) (q3 : Int64) (pp : Int64) (vv : Int64) (ss : Int64) (h0 : Heap) (n0 : Nat) (Z0 : n0 ≤ h0.size) (E1 : Exa Z h0 a1 "com/example/libsld/libsld/PrimeField") (F1 : Fld Z h0 a1 "com/example/libsld/libsld/PrimeField" "p" "J" (.long pp)) (F2 : Fld Z h0 a1 "com/example/libsld/libsld/PrimeField" "inverse" "J" (.long vv)) (F3 : Fld Z h0 a1 "com/example/libsld/libsld/PrimeField" "montgomerySquare" "J" (.long ss)) :
    MetFree l (⟨"com/example/libsld/libsld/PrimeField", "multiply", "(JJ)J"⟩ : MethodName) (head1 (Jvm.Cond.code (⟨"com/example/libsld/libsld/PrimeField", "multiply", "(JJ)J"⟩ : MethodName) prog_87_method_3_code 5 (some .long) :: ws) ({ frames := 3, cells := 0, slots := 0, locals := 67 } : Room)) (fun a U => a = #[(.ref a1), (.long q2), (.long q3)] ∧ Z.Warmed39 U.vm ∧ U.heap = h0) (fun _ _ _ _ _ => True) (fun _ U o U' => ∃ v L, o = .returned v ∧ QMul Z a1 q2 q3 pp vv ss h0 n0 v U'.heap L ∧ FrameEnd U o U' L ({ frames := 3, cells := 0, slots := 0, locals := 67 } : Room).cells ({ frames := 3, cells := 0, slots := 0, locals := 67 } : Room).slots) := by
  refine MetFree.of_bodySF (plainFor_of_name pn_com_example_libsld_libsld_PrimeField) hisR ?_
  intro p e s m args below meth c s₁ Bd hml0 hP hK
  obtain ⟨rfl, hZ, hh⟩ := hP
  have hx := Bd.exec
  have hby := Bd.bytes
  have hml : c.maxLocals = 5 := hml0
  have hown : s.vm.findClass "com/example/libsld/libsld/PrimeField" = some m.cls := findClass_of_methodNamed Bd.named
  have hnm := (name_of_methodNamed Bd.named Bd.method).1
  have X0 : Stand p l e ({ frames := 3, cells := 0, slots := 0, locals := 67 } : Room) s m #[(.ref a1), (.long q2), (.long q3)] below meth c s₁ [] 0 0 := Stand.of_body Bd
  have e0 : s₁.heap = h0 := by rw [← hh, Bd.state]; rfl
  have N0 := Fr.nil n0
  have pre0 : ∀ t, Steps p.tables e below (s₁.setTop (mkF m 0 #[.val (.ref a1), .val (.long q2), .second, .val (.long q3), .second] [])) t → Steps p.tables e below (s₁.setTop (entryFrame m #[(.ref a1), (.long q2), (.long q3)] 5)) t := fun t k => castTop (ef_rmMul m a1 q2 q3) k
  obtain ⟨_, _, ⟨T101, L101, k101, n101⟩, -, X101, ⟨Lc101, hQ101, l101, y101, z101⟩, st101⟩ := Jvm.LawKit.callS X0 hx (y := (⟨"java/lang/Math", "multiplyHigh", "(JJ)J"⟩ : MethodName)) hown (mvT hZ (own_i hw 42 rfl)) (mvT hZ (own_i hw 43 rfl)) (mvT hZ (own_i hw 44 rfl)) (mvT hZ (own_i hw 45 rfl)) (by decide) (backOf (W := 2) (rmMH l Z a0 hw [] q2 q3 h0 n0 Z0 ) hZ (own_i hw 45 rfl) (own_i hw 44 rfl) (by decide) (by decide)) (g := (mkF m 4 #[.val (.ref a1), .val (.long q2), .second, .val (.long q3), .second] [(.long q3), (.long q2), (.ref a1), (.ref a1)])) rfl (by rw [hml]; rfl) (argsL := [(.long q2), (.long q3)]) (rest := [(.ref a1), (.ref a1)]) (lenOf pd_0 rfl) rfl (by show 2 * 0 + _ ≤ _; exact Nat.le_of_eq rfl) (hb hby d6_4) (fun _ _ => ⟨rfl, e0, (by decide : 0 + 0 ≤ _), (by decide : 0 + 0 ≤ _)⟩)
  dsimp only [Pt.U, Pt.locs, Pt.cells, Pt.slots] at X101 l101 y101 z101 st101 hQ101
  subst l101 y101 z101
  obtain ⟨rfl, N101q, e101⟩ := hQ101
  have N101 := Fr.app N0 N101q
  obtain ⟨cq102, kq102, q102a, q102b, q102c⟩ := isOf hZ e101 E1
  obtain ⟨_, _, ⟨T102, L102, k102, n102⟩, -, X102, ⟨Lc102, hQ102, l102, y102, z102⟩, st102⟩ := X101.virtualBack hx (y := (⟨"com/example/libsld/libsld/PrimeField", "reduce", "(JJ)J"⟩ : MethodName)) (z := (⟨"com/example/libsld/libsld/PrimeField", "reduce", "(JJ)J"⟩ : MethodName)) hown (mvT hZ (own_i hw 47 rfl)) (mvT hZ (own_i hw 48 rfl)) (notFace_of_selects (args := #[]) (mvT hZ (own_i hw 50 rfl))) (mvT hZ (own_i hw 50 rfl)) (mvT hZ (own_i hw 49 rfl)) (by decide) (backOf (W := 1) (rmRed l Z a0 hw [] a1 (own_mh q2 q3) (q2 * q3) pp vv h0 n0 Z0 F1 F2) hZ (own_i hw 51 rfl) (own_i hw 2 rfl) (by decide) (by decide)) q102a q102c (g := (mkF m 10 #[.val (.ref a1), .val (.long q2), .second, .val (.long q3), .second] [(.long (q2 * q3)), (.long (own_mh q2 q3)), (.ref a1), (.ref a1)])) rfl (by rw [hml]; rfl) (Steps.refl _) (argsL := [(.long (own_mh q2 q3)), (.long (q2 * q3))]) (rest := [(.ref a1)]) (lenOf pd_0 rfl) rfl (by show 2 * 0 + _ ≤ _; exact Nat.le_of_eq rfl) (hb hby d6_10) (fun _ _ => ⟨rfl, e101, (by decide : 0 + 0 ≤ _), (by decide : 0 + 0 ≤ _)⟩)
  dsimp only [Pt.U, Pt.locs, Pt.cells, Pt.slots] at X102 l102 y102 z102 st102 hQ102
  subst l102 y102 z102
  obtain ⟨rfl, N102q, e102⟩ := hQ102
  have N102 := Fr.app N101 N102q
  obtain ⟨cq103, q103, q103'⟩ := E1.cell
  obtain ⟨_, _, ⟨T103, L103, k103, n103⟩, -, X103, ⟨Lc103, hQ103, l103, y103, z103⟩, st103⟩ := X102.privateBack hx (y := (⟨"com/example/libsld/libsld/PrimeField", "toMontgomery", "(J)J"⟩ : MethodName)) hown (mvT hZ (own_i hw 52 rfl)) (mvT hZ (own_i hw 53 rfl)) (mvT hZ (own_sel (y := (⟨"com/example/libsld/libsld/PrimeField", "toMontgomery", "(J)J"⟩ : MethodName)) (own_i hw 53 rfl) (own_i hw 54 rfl) (own_i hw 1 rfl) (by decide))) (Cond.privateMethod_at (mvP hZ (own_i hw 54 rfl) (args := #[]))) (mvT hZ (own_i hw 55 rfl)) (by decide) (backOf (W := 0) (rmTom l Z a0 hw [] a1 (own_red (own_mh q2 q3) (q2 * q3) pp vv) pp vv ss h0 n0 Z0 E1 F1 F2 F3) hZ (own_i hw 55 rfl) (own_i hw 2 rfl) (by decide) (by decide)) (g := (mkF m 13 #[.val (.ref a1), .val (.long q2), .second, .val (.long q3), .second] [(.long (own_red (own_mh q2 q3) (q2 * q3) pp vv)), (.ref a1)])) rfl (by rw [hml]; rfl) (Steps.refl _) (a := a1) (by rw [e102]; exact q103) q103' (argsL := [(.long (own_red (own_mh q2 q3) (q2 * q3) pp vv))]) (rest := []) (lenOf pd_1 rfl) rfl (by show 2 * 0 + _ ≤ _; exact Nat.le_of_eq rfl) (hb hby d6_13) (fun _ _ => ⟨rfl, e102, (by decide : 0 + 0 ≤ _), (by decide : 0 + 0 ≤ _)⟩)
  dsimp only [Pt.U, Pt.locs, Pt.cells, Pt.slots] at X103 l103 y103 z103 st103 hQ103
  subst l103 y103 z103
  obtain ⟨rfl, N103q, e103⟩ := hQ103
  have N103 := Fr.app N102 N103q
  have pre104 : ∀ t, Steps p.tables e below (T103.setTop (mkF m 16 #[.val (.ref a1), .val (.long q2), .second, .val (.long q3), .second] [(.long (own_tom (own_red (own_mh q2 q3) (q2 * q3) pp vv) pp vv ss))])) t → Steps p.tables e below (s₁.setTop (entryFrame m #[(.ref a1), (.long q2), (.long q3)] 5)) t := fun t k => pre0 t (by
    show Steps p.tables e below (s₁.setTop (mkF m 0 #[.val (.ref a1), .val (.long q2), .second, .val (.long q3), .second] [])) t
    refine XS.aloadN X0.here hx rfl (hb hby d6_0) rfl rfl ?_
    show Steps p.tables e below (s₁.setTop (mkF m 1 #[.val (.ref a1), .val (.long q2), .second, .val (.long q3), .second] [(.ref a1)])) t
    refine XS.aloadN X0.here hx rfl (hb hby d6_1) rfl rfl ?_
    show Steps p.tables e below (s₁.setTop (mkF m 2 #[.val (.ref a1), .val (.long q2), .second, .val (.long q3), .second] [(.ref a1), (.ref a1)])) t
    refine XS.lloadN X0.here hx rfl (hb hby d6_2) rfl ?_
    show Steps p.tables e below (s₁.setTop (mkF m 3 #[.val (.ref a1), .val (.long q2), .second, .val (.long q3), .second] [(.long q2), (.ref a1), (.ref a1)])) t
    refine XS.lloadN X0.here hx rfl (hb hby d6_3) rfl ?_
    show Steps p.tables e below (s₁.setTop (mkF m 4 #[.val (.ref a1), .val (.long q2), .second, .val (.long q3), .second] [(.long q3), (.long q2), (.ref a1), (.ref a1)])) t
    refine st101 _ ?_
    show Steps p.tables e below (T101.setTop (mkF m 7 #[.val (.ref a1), .val (.long q2), .second, .val (.long q3), .second] [(.long (own_mh q2 q3)), (.ref a1), (.ref a1)])) t
    refine XS.lloadN X101.here hx rfl (hb hby d6_7) rfl ?_
    show Steps p.tables e below (T101.setTop (mkF m 8 #[.val (.ref a1), .val (.long q2), .second, .val (.long q3), .second] [(.long q2), (.long (own_mh q2 q3)), (.ref a1), (.ref a1)])) t
    refine XS.lloadN X101.here hx rfl (hb hby d6_8) rfl ?_
    show Steps p.tables e below (T101.setTop (mkF m 9 #[.val (.ref a1), .val (.long q2), .second, .val (.long q3), .second] [(.long q3), (.long q2), (.long (own_mh q2 q3)), (.ref a1), (.ref a1)])) t
    refine XS.lmul X101.here hx rfl (hb hby d6_9) rfl ?_
    show Steps p.tables e below (T101.setTop (mkF m 10 #[.val (.ref a1), .val (.long q2), .second, .val (.long q3), .second] [(.long (q2 * q3)), (.long (own_mh q2 q3)), (.ref a1), (.ref a1)])) t
    refine st102.trans ?_
    show Steps p.tables e below (T102.setTop (mkF m 13 #[.val (.ref a1), .val (.long q2), .second, .val (.long q3), .second] [(.long (own_red (own_mh q2 q3) (q2 * q3) pp vv)), (.ref a1)])) t
    refine st103.trans ?_
    exact k)
  obtain ⟨fs, hr, hrun, hended, hW, hsame⟩ := X103.leave (v := some (.long (own_tom (own_red (own_mh q2 q3) (q2 * q3) pp vv) pp vv ss))) (fun h => by rw [Bd.returns] at h; cases h)
  refine ⟨_, _, pre104 _ ?_, hrun, hended, _, _, rfl, ?_, ⟨_, rfl⟩, hW, hsame.mono (by decide) (by decide)⟩
  · exact retOut X103 hx Bd.returns rfl (Or.inr (Or.inl ⟨rfl, rfl, _, rfl⟩)) (hb hby d6_16) hr
  · show QMul Z a1 q2 q3 pp vv ss h0 n0 _ T103.heap _
    rw [e103]
    exact ⟨rfl, N103, rfl⟩
theorem ef_rmSub (m : MethodId) (x0 : Int64) (x1 : Int64) : entryFrame m #[(.long x0), (.long x1)] 6 = mkF m 0 #[.val (.long x0), .second, .val (.long x1), .second, .unset, .unset] [] := by first | (simp [entryFrame, mkF, argsToLocals, Value.category]; done) | rfl
def QSub (Z : State) (q1 : Int64) (q2 : Int64) (h0 : Heap) (n0 : Nat) (v : Option Value) (h : Heap) (L : List Loc) : Prop := v = some (.long (own_sub q1 q2)) ∧ Fr n0 L ∧ h = h0
set_option maxRecDepth 65536 in
set_option maxHeartbeats 40000000 in
theorem rmSub (l : Launch) (Z : State) (a0 : Array Value) (hw : ∀ d ∈ tables_1, d.before a0 Z = true) (ws : List Jvm.Cond) (q1 : Int64) (q2 : Int64) (h0 : Heap) (n0 : Nat) (Z0 : n0 ≤ h0.size) :
    MetFree l (⟨"com/example/libsld/libsld/PrimeField", "subtractIfAbove", "(JJ)J"⟩ : MethodName) (head1 (Jvm.Cond.code (⟨"com/example/libsld/libsld/PrimeField", "subtractIfAbove", "(JJ)J"⟩ : MethodName) prog_87_method_10_code 6 (some .long) :: ws) ({ frames := 0, cells := 0, slots := 0, locals := 0 } : Room)) (fun a U => a = #[(.long q1), (.long q2)] ∧ Z.Warmed39 U.vm ∧ U.heap = h0) (fun _ _ _ _ _ => True) (fun _ U o U' => ∃ v L, o = .returned v ∧ QSub Z q1 q2 h0 n0 v U'.heap L ∧ FrameEnd U o U' L ({ frames := 0, cells := 0, slots := 0, locals := 0 } : Room).cells ({ frames := 0, cells := 0, slots := 0, locals := 0 } : Room).slots) := by
  refine MetFree.of_bodySF (plainFor_of_name pn_com_example_libsld_libsld_PrimeField) hisR ?_
  intro p e s m args below meth c s₁ Bd hml0 hP hK
  obtain ⟨rfl, hZ, hh⟩ := hP
  have hx := Bd.exec
  have hby := Bd.bytes
  have hml : c.maxLocals = 6 := hml0
  have hown : s.vm.findClass "com/example/libsld/libsld/PrimeField" = some m.cls := findClass_of_methodNamed Bd.named
  have hnm := (name_of_methodNamed Bd.named Bd.method).1
  have X0 : Stand p l e ({ frames := 0, cells := 0, slots := 0, locals := 0 } : Room) s m #[(.long q1), (.long q2)] below meth c s₁ [] 0 0 := Stand.of_body Bd
  have e0 : s₁.heap = h0 := by rw [← hh, Bd.state]; rfl
  have N0 := Fr.nil n0
  have pre0 : ∀ t, Steps p.tables e below (s₁.setTop (mkF m 0 #[.val (.long q1), .second, .val (.long q2), .second, .unset, .unset] [])) t → Steps p.tables e below (s₁.setTop (entryFrame m #[(.long q1), (.long q2)] 6)) t := fun t k => castTop (ef_rmSub m q1 q2) k
  have pre101 : ∀ t, Steps p.tables e below (s₁.setTop (mkF m 15 #[.val (.long q1), .second, .val (.long q2), .second, .val (.long (q1 - q2)), .second] [(.long (own_sub q1 q2))])) t → Steps p.tables e below (s₁.setTop (entryFrame m #[(.long q1), (.long q2)] 6)) t := fun t k => pre0 t (by
    show Steps p.tables e below (s₁.setTop (mkF m 0 #[.val (.long q1), .second, .val (.long q2), .second, .unset, .unset] [])) t
    refine XS.lloadN X0.here hx rfl (hb hby d4_0) rfl ?_
    show Steps p.tables e below (s₁.setTop (mkF m 1 #[.val (.long q1), .second, .val (.long q2), .second, .unset, .unset] [(.long q1)])) t
    refine XS.lloadN X0.here hx rfl (hb hby d4_1) rfl ?_
    show Steps p.tables e below (s₁.setTop (mkF m 2 #[.val (.long q1), .second, .val (.long q2), .second, .unset, .unset] [(.long q2), (.long q1)])) t
    refine XS.lsub X0.here hx rfl (hb hby d4_2) rfl ?_
    show Steps p.tables e below (s₁.setTop (mkF m 3 #[.val (.long q1), .second, .val (.long q2), .second, .unset, .unset] [(.long (q1 - q2))])) t
    refine XS.lstore X0.here hx rfl (hb hby d4_3) rfl (l' := #[.val (.long q1), .second, .val (.long q2), .second, .val (.long (q1 - q2)), .second]) rfl ?_
    show Steps p.tables e below (s₁.setTop (mkF m 5 #[.val (.long q1), .second, .val (.long q2), .second, .val (.long (q1 - q2)), .second] [])) t
    refine XS.lload X0.here hx rfl (hb hby d4_5) rfl ?_
    show Steps p.tables e below (s₁.setTop (mkF m 7 #[.val (.long q1), .second, .val (.long q2), .second, .val (.long (q1 - q2)), .second] [(.long (q1 - q2))])) t
    refine XS.lload X0.here hx rfl (hb hby d4_7) rfl ?_
    show Steps p.tables e below (s₁.setTop (mkF m 9 #[.val (.long q1), .second, .val (.long q2), .second, .val (.long (q1 - q2)), .second] [(.long (q1 - q2)), (.long (q1 - q2))])) t
    refine XS.bipush X0.here hx rfl (hb hby d4_9) ?_
    show Steps p.tables e below (s₁.setTop (mkF m 11 #[.val (.long q1), .second, .val (.long q2), .second, .val (.long (q1 - q2)), .second] [(.int (63 : Int32)), (.long (q1 - q2)), (.long (q1 - q2))])) t
    refine XS.lshr X0.here hx rfl (hb hby d4_11) rfl ?_
    show Steps p.tables e below (s₁.setTop (mkF m 12 #[.val (.long q1), .second, .val (.long q2), .second, .val (.long (q1 - q2)), .second] [(.long ((q1 - q2) >>> ((63 : Int32) &&& 0x3f).toInt64)), (.long (q1 - q2))])) t
    refine XS.lloadN X0.here hx rfl (hb hby d4_12) rfl ?_
    show Steps p.tables e below (s₁.setTop (mkF m 13 #[.val (.long q1), .second, .val (.long q2), .second, .val (.long (q1 - q2)), .second] [(.long q2), (.long ((q1 - q2) >>> ((63 : Int32) &&& 0x3f).toInt64)), (.long (q1 - q2))])) t
    refine XS.land X0.here hx rfl (hb hby d4_13) rfl ?_
    show Steps p.tables e below (s₁.setTop (mkF m 14 #[.val (.long q1), .second, .val (.long q2), .second, .val (.long (q1 - q2)), .second] [(.long (((q1 - q2) >>> ((63 : Int32) &&& 0x3f).toInt64) &&& q2)), (.long (q1 - q2))])) t
    refine XS.ladd X0.here hx rfl (hb hby d4_14) rfl ?_
    exact k)
  obtain ⟨fs, hr, hrun, hended, hW, hsame⟩ := X0.leave (v := some (.long (own_sub q1 q2))) (fun h => by rw [Bd.returns] at h; cases h)
  refine ⟨_, _, pre101 _ ?_, hrun, hended, _, _, rfl, ?_, ⟨_, rfl⟩, hW, hsame.mono (by decide) (by decide)⟩
  · exact retOut X0 hx Bd.returns rfl (Or.inr (Or.inl ⟨rfl, rfl, _, rfl⟩)) (hb hby d4_15) hr
  · show QSub Z q1 q2 h0 n0 _ s₁.heap _
    rw [e0]
    exact ⟨rfl, N0, rfl⟩
theorem pn_java_lang_Long : plainName "java/lang/Long" = true := by first | (simp [plainName, overriddenIn]; done) | decide +kernel
theorem ef_rmRU (m : MethodId) (x0 : Int64) (x1 : Int64) : entryFrame m #[(.long x0), (.long x1)] 8 = mkF m 0 #[.val (.long x0), .second, .val (.long x1), .second, .unset, .unset, .unset, .unset] [] := by first | (simp [entryFrame, mkF, argsToLocals, Value.category]; done) | rfl
def QRU (Z : State) (q1 : Int64) (q2 : Int64) (h0 : Heap) (n0 : Nat) (v : Option Value) (h : Heap) (L : List Loc) : Prop := v = some (.long (own_ru q1 q2)) ∧ Fr n0 L ∧ h = h0
set_option maxRecDepth 65536 in
set_option maxHeartbeats 40000000 in
theorem rmRU (l : Launch) (Z : State) (a0 : Array Value) (hw : ∀ d ∈ tables_1, d.before a0 Z = true) (ws : List Jvm.Cond) (q1 : Int64) (q2 : Int64) (h0 : Heap) (n0 : Nat) (Z0 : n0 ≤ h0.size) (hng : ¬ (q2 < (0 : Int64))) (hz : q2 ≠ (0 : Int64)) :
    MetFree l (⟨"java/lang/Long", "remainderUnsigned", "(JJ)J"⟩ : MethodName) (head1 (Jvm.Cond.code (⟨"java/lang/Long", "remainderUnsigned", "(JJ)J"⟩ : MethodName) jdk_35_method_45_code 8 (some .long) :: ws) ({ frames := 0, cells := 0, slots := 0, locals := 0 } : Room)) (fun a U => a = #[(.long q1), (.long q2)] ∧ Z.Warmed39 U.vm ∧ U.heap = h0) (fun _ _ _ _ _ => True) (fun _ U o U' => ∃ v L, o = .returned v ∧ QRU Z q1 q2 h0 n0 v U'.heap L ∧ FrameEnd U o U' L ({ frames := 0, cells := 0, slots := 0, locals := 0 } : Room).cells ({ frames := 0, cells := 0, slots := 0, locals := 0 } : Room).slots) := by
  refine MetFree.of_bodySF (plainFor_of_name pn_java_lang_Long) hisR ?_
  intro p e s m args below meth c s₁ Bd hml0 hP hK
  obtain ⟨rfl, hZ, hh⟩ := hP
  have hx := Bd.exec
  have hby := Bd.bytes
  have hml : c.maxLocals = 8 := hml0
  have hown : s.vm.findClass "java/lang/Long" = some m.cls := findClass_of_methodNamed Bd.named
  have hnm := (name_of_methodNamed Bd.named Bd.method).1
  have X0 : Stand p l e ({ frames := 0, cells := 0, slots := 0, locals := 0 } : Room) s m #[(.long q1), (.long q2)] below meth c s₁ [] 0 0 := Stand.of_body Bd
  have e0 : s₁.heap = h0 := by rw [← hh, Bd.state]; rfl
  have N0 := Fr.nil n0
  have pre0 : ∀ t, Steps p.tables e below (s₁.setTop (mkF m 0 #[.val (.long q1), .second, .val (.long q2), .second, .unset, .unset, .unset, .unset] [])) t → Steps p.tables e below (s₁.setTop (entryFrame m #[(.long q1), (.long q2)] 8)) t := fun t k => castTop (ef_rmRU m q1 q2) k
  have pre101 : ∀ t, Steps p.tables e below (s₁.setTop (mkF m 39 #[.val (.long q1), .second, .val (.long q2), .second, .val (.long ((((q1.toUInt64 >>> ((1 : Int32) &&& 0x3f).toInt64.toUInt64).toInt64) / q2) <<< ((1 : Int32) &&& 0x3f).toInt64)), .second, .val (.long (q1 - (((((q1.toUInt64 >>> ((1 : Int32) &&& 0x3f).toInt64.toUInt64).toInt64) / q2) <<< ((1 : Int32) &&& 0x3f).toInt64) * q2))), .second] [(.long ((q1 - (((((q1.toUInt64 >>> ((1 : Int32) &&& 0x3f).toInt64.toUInt64).toInt64) / q2) <<< ((1 : Int32) &&& 0x3f).toInt64) * q2)) - (((((q1 - (((((q1.toUInt64 >>> ((1 : Int32) &&& 0x3f).toInt64.toUInt64).toInt64) / q2) <<< ((1 : Int32) &&& 0x3f).toInt64) * q2)) - q2) ^^^ (-1 : Int64)) >>> ((63 : Int32) &&& 0x3f).toInt64) &&& q2)))])) t → Steps p.tables e below (s₁.setTop (entryFrame m #[(.long q1), (.long q2)] 8)) t := fun t k => pre0 t (by
    show Steps p.tables e below (s₁.setTop (mkF m 0 #[.val (.long q1), .second, .val (.long q2), .second, .unset, .unset, .unset, .unset] [])) t
    refine XS.lloadN X0.here hx rfl (hb hby d3_0) rfl ?_
    show Steps p.tables e below (s₁.setTop (mkF m 1 #[.val (.long q1), .second, .val (.long q2), .second, .unset, .unset, .unset, .unset] [(.long q2)])) t
    refine XS.lconst X0.here hx rfl (hb hby d3_1) ?_
    show Steps p.tables e below (s₁.setTop (mkF m 2 #[.val (.long q1), .second, .val (.long q2), .second, .unset, .unset, .unset, .unset] [(.long (0 : Int64)), (.long q2)])) t
    refine XS.lcmp X0.here hx rfl (hb hby d3_2) rfl ?_
    show Steps p.tables e below (s₁.setTop (mkF m 3 #[.val (.long q1), .second, .val (.long q2), .second, .unset, .unset, .unset, .unset] [(.int (lcmpW q2 (0 : Int64)))])) t
    refine XS.ifNo X0.here hx rfl (hb hby d3_3) rfl ((if0 _ _).trans (flt (show ¬ ((lcmpW q2 (0 : Int64)) < (0 : Int32)) by rw [lcW]; exact fun q => hng ((lc_lt _ _).mp q))).1) ?_
    show Steps p.tables e below (s₁.setTop (mkF m 6 #[.val (.long q1), .second, .val (.long q2), .second, .unset, .unset, .unset, .unset] [])) t
    refine XS.lloadN X0.here hx rfl (hb hby d3_6) rfl ?_
    show Steps p.tables e below (s₁.setTop (mkF m 7 #[.val (.long q1), .second, .val (.long q2), .second, .unset, .unset, .unset, .unset] [(.long q1)])) t
    refine XS.iconst X0.here hx rfl (hb hby d3_7) ?_
    show Steps p.tables e below (s₁.setTop (mkF m 8 #[.val (.long q1), .second, .val (.long q2), .second, .unset, .unset, .unset, .unset] [(.int (1 : Int32)), (.long q1)])) t
    refine XS.lushr X0.here hx rfl (hb hby d3_8) rfl ?_
    show Steps p.tables e below (s₁.setTop (mkF m 9 #[.val (.long q1), .second, .val (.long q2), .second, .unset, .unset, .unset, .unset] [(.long ((q1.toUInt64 >>> ((1 : Int32) &&& 0x3f).toInt64.toUInt64).toInt64))])) t
    refine XS.lloadN X0.here hx rfl (hb hby d3_9) rfl ?_
    show Steps p.tables e below (s₁.setTop (mkF m 10 #[.val (.long q1), .second, .val (.long q2), .second, .unset, .unset, .unset, .unset] [(.long q2), (.long ((q1.toUInt64 >>> ((1 : Int32) &&& 0x3f).toInt64.toUInt64).toInt64))])) t
    refine XS.ldiv X0.here hx rfl (hb hby d3_10) rfl hz ?_
    show Steps p.tables e below (s₁.setTop (mkF m 11 #[.val (.long q1), .second, .val (.long q2), .second, .unset, .unset, .unset, .unset] [(.long (((q1.toUInt64 >>> ((1 : Int32) &&& 0x3f).toInt64.toUInt64).toInt64) / q2))])) t
    refine XS.iconst X0.here hx rfl (hb hby d3_11) ?_
    show Steps p.tables e below (s₁.setTop (mkF m 12 #[.val (.long q1), .second, .val (.long q2), .second, .unset, .unset, .unset, .unset] [(.int (1 : Int32)), (.long (((q1.toUInt64 >>> ((1 : Int32) &&& 0x3f).toInt64.toUInt64).toInt64) / q2))])) t
    refine XS.lshl X0.here hx rfl (hb hby d3_12) rfl ?_
    show Steps p.tables e below (s₁.setTop (mkF m 13 #[.val (.long q1), .second, .val (.long q2), .second, .unset, .unset, .unset, .unset] [(.long ((((q1.toUInt64 >>> ((1 : Int32) &&& 0x3f).toInt64.toUInt64).toInt64) / q2) <<< ((1 : Int32) &&& 0x3f).toInt64))])) t
    refine XS.lstore X0.here hx rfl (hb hby d3_13) rfl (l' := #[.val (.long q1), .second, .val (.long q2), .second, .val (.long ((((q1.toUInt64 >>> ((1 : Int32) &&& 0x3f).toInt64.toUInt64).toInt64) / q2) <<< ((1 : Int32) &&& 0x3f).toInt64)), .second, .unset, .unset]) rfl ?_
    show Steps p.tables e below (s₁.setTop (mkF m 15 #[.val (.long q1), .second, .val (.long q2), .second, .val (.long ((((q1.toUInt64 >>> ((1 : Int32) &&& 0x3f).toInt64.toUInt64).toInt64) / q2) <<< ((1 : Int32) &&& 0x3f).toInt64)), .second, .unset, .unset] [])) t
    refine XS.lloadN X0.here hx rfl (hb hby d3_15) rfl ?_
    show Steps p.tables e below (s₁.setTop (mkF m 16 #[.val (.long q1), .second, .val (.long q2), .second, .val (.long ((((q1.toUInt64 >>> ((1 : Int32) &&& 0x3f).toInt64.toUInt64).toInt64) / q2) <<< ((1 : Int32) &&& 0x3f).toInt64)), .second, .unset, .unset] [(.long q1)])) t
    refine XS.lload X0.here hx rfl (hb hby d3_16) rfl ?_
    show Steps p.tables e below (s₁.setTop (mkF m 18 #[.val (.long q1), .second, .val (.long q2), .second, .val (.long ((((q1.toUInt64 >>> ((1 : Int32) &&& 0x3f).toInt64.toUInt64).toInt64) / q2) <<< ((1 : Int32) &&& 0x3f).toInt64)), .second, .unset, .unset] [(.long ((((q1.toUInt64 >>> ((1 : Int32) &&& 0x3f).toInt64.toUInt64).toInt64) / q2) <<< ((1 : Int32) &&& 0x3f).toInt64)), (.long q1)])) t
    refine XS.lloadN X0.here hx rfl (hb hby d3_18) rfl ?_
    show Steps p.tables e below (s₁.setTop (mkF m 19 #[.val (.long q1), .second, .val (.long q2), .second, .val (.long ((((q1.toUInt64 >>> ((1 : Int32) &&& 0x3f).toInt64.toUInt64).toInt64) / q2) <<< ((1 : Int32) &&& 0x3f).toInt64)), .second, .unset, .unset] [(.long q2), (.long ((((q1.toUInt64 >>> ((1 : Int32) &&& 0x3f).toInt64.toUInt64).toInt64) / q2) <<< ((1 : Int32) &&& 0x3f).toInt64)), (.long q1)])) t
    refine XS.lmul X0.here hx rfl (hb hby d3_19) rfl ?_
    show Steps p.tables e below (s₁.setTop (mkF m 20 #[.val (.long q1), .second, .val (.long q2), .second, .val (.long ((((q1.toUInt64 >>> ((1 : Int32) &&& 0x3f).toInt64.toUInt64).toInt64) / q2) <<< ((1 : Int32) &&& 0x3f).toInt64)), .second, .unset, .unset] [(.long (((((q1.toUInt64 >>> ((1 : Int32) &&& 0x3f).toInt64.toUInt64).toInt64) / q2) <<< ((1 : Int32) &&& 0x3f).toInt64) * q2)), (.long q1)])) t
    refine XS.lsub X0.here hx rfl (hb hby d3_20) rfl ?_
    show Steps p.tables e below (s₁.setTop (mkF m 21 #[.val (.long q1), .second, .val (.long q2), .second, .val (.long ((((q1.toUInt64 >>> ((1 : Int32) &&& 0x3f).toInt64.toUInt64).toInt64) / q2) <<< ((1 : Int32) &&& 0x3f).toInt64)), .second, .unset, .unset] [(.long (q1 - (((((q1.toUInt64 >>> ((1 : Int32) &&& 0x3f).toInt64.toUInt64).toInt64) / q2) <<< ((1 : Int32) &&& 0x3f).toInt64) * q2)))])) t
    refine XS.lstore X0.here hx rfl (hb hby d3_21) rfl (l' := #[.val (.long q1), .second, .val (.long q2), .second, .val (.long ((((q1.toUInt64 >>> ((1 : Int32) &&& 0x3f).toInt64.toUInt64).toInt64) / q2) <<< ((1 : Int32) &&& 0x3f).toInt64)), .second, .val (.long (q1 - (((((q1.toUInt64 >>> ((1 : Int32) &&& 0x3f).toInt64.toUInt64).toInt64) / q2) <<< ((1 : Int32) &&& 0x3f).toInt64) * q2))), .second]) rfl ?_
    show Steps p.tables e below (s₁.setTop (mkF m 23 #[.val (.long q1), .second, .val (.long q2), .second, .val (.long ((((q1.toUInt64 >>> ((1 : Int32) &&& 0x3f).toInt64.toUInt64).toInt64) / q2) <<< ((1 : Int32) &&& 0x3f).toInt64)), .second, .val (.long (q1 - (((((q1.toUInt64 >>> ((1 : Int32) &&& 0x3f).toInt64.toUInt64).toInt64) / q2) <<< ((1 : Int32) &&& 0x3f).toInt64) * q2))), .second] [])) t
    refine XS.lload X0.here hx rfl (hb hby d3_23) rfl ?_
    show Steps p.tables e below (s₁.setTop (mkF m 25 #[.val (.long q1), .second, .val (.long q2), .second, .val (.long ((((q1.toUInt64 >>> ((1 : Int32) &&& 0x3f).toInt64.toUInt64).toInt64) / q2) <<< ((1 : Int32) &&& 0x3f).toInt64)), .second, .val (.long (q1 - (((((q1.toUInt64 >>> ((1 : Int32) &&& 0x3f).toInt64.toUInt64).toInt64) / q2) <<< ((1 : Int32) &&& 0x3f).toInt64) * q2))), .second] [(.long (q1 - (((((q1.toUInt64 >>> ((1 : Int32) &&& 0x3f).toInt64.toUInt64).toInt64) / q2) <<< ((1 : Int32) &&& 0x3f).toInt64) * q2)))])) t
    refine XS.lload X0.here hx rfl (hb hby d3_25) rfl ?_
    show Steps p.tables e below (s₁.setTop (mkF m 27 #[.val (.long q1), .second, .val (.long q2), .second, .val (.long ((((q1.toUInt64 >>> ((1 : Int32) &&& 0x3f).toInt64.toUInt64).toInt64) / q2) <<< ((1 : Int32) &&& 0x3f).toInt64)), .second, .val (.long (q1 - (((((q1.toUInt64 >>> ((1 : Int32) &&& 0x3f).toInt64.toUInt64).toInt64) / q2) <<< ((1 : Int32) &&& 0x3f).toInt64) * q2))), .second] [(.long (q1 - (((((q1.toUInt64 >>> ((1 : Int32) &&& 0x3f).toInt64.toUInt64).toInt64) / q2) <<< ((1 : Int32) &&& 0x3f).toInt64) * q2))), (.long (q1 - (((((q1.toUInt64 >>> ((1 : Int32) &&& 0x3f).toInt64.toUInt64).toInt64) / q2) <<< ((1 : Int32) &&& 0x3f).toInt64) * q2)))])) t
    refine XS.lloadN X0.here hx rfl (hb hby d3_27) rfl ?_
    show Steps p.tables e below (s₁.setTop (mkF m 28 #[.val (.long q1), .second, .val (.long q2), .second, .val (.long ((((q1.toUInt64 >>> ((1 : Int32) &&& 0x3f).toInt64.toUInt64).toInt64) / q2) <<< ((1 : Int32) &&& 0x3f).toInt64)), .second, .val (.long (q1 - (((((q1.toUInt64 >>> ((1 : Int32) &&& 0x3f).toInt64.toUInt64).toInt64) / q2) <<< ((1 : Int32) &&& 0x3f).toInt64) * q2))), .second] [(.long q2), (.long (q1 - (((((q1.toUInt64 >>> ((1 : Int32) &&& 0x3f).toInt64.toUInt64).toInt64) / q2) <<< ((1 : Int32) &&& 0x3f).toInt64) * q2))), (.long (q1 - (((((q1.toUInt64 >>> ((1 : Int32) &&& 0x3f).toInt64.toUInt64).toInt64) / q2) <<< ((1 : Int32) &&& 0x3f).toInt64) * q2)))])) t
    refine XS.lsub X0.here hx rfl (hb hby d3_28) rfl ?_
    show Steps p.tables e below (s₁.setTop (mkF m 29 #[.val (.long q1), .second, .val (.long q2), .second, .val (.long ((((q1.toUInt64 >>> ((1 : Int32) &&& 0x3f).toInt64.toUInt64).toInt64) / q2) <<< ((1 : Int32) &&& 0x3f).toInt64)), .second, .val (.long (q1 - (((((q1.toUInt64 >>> ((1 : Int32) &&& 0x3f).toInt64.toUInt64).toInt64) / q2) <<< ((1 : Int32) &&& 0x3f).toInt64) * q2))), .second] [(.long ((q1 - (((((q1.toUInt64 >>> ((1 : Int32) &&& 0x3f).toInt64.toUInt64).toInt64) / q2) <<< ((1 : Int32) &&& 0x3f).toInt64) * q2)) - q2)), (.long (q1 - (((((q1.toUInt64 >>> ((1 : Int32) &&& 0x3f).toInt64.toUInt64).toInt64) / q2) <<< ((1 : Int32) &&& 0x3f).toInt64) * q2)))])) t
    refine X0.ldc2Long hx hown (mvT hZ (own_i hw 25 rfl)) (g := (mkF m 29 #[.val (.long q1), .second, .val (.long q2), .second, .val (.long ((((q1.toUInt64 >>> ((1 : Int32) &&& 0x3f).toInt64.toUInt64).toInt64) / q2) <<< ((1 : Int32) &&& 0x3f).toInt64)), .second, .val (.long (q1 - (((((q1.toUInt64 >>> ((1 : Int32) &&& 0x3f).toInt64.toUInt64).toInt64) / q2) <<< ((1 : Int32) &&& 0x3f).toInt64) * q2))), .second] [(.long ((q1 - (((((q1.toUInt64 >>> ((1 : Int32) &&& 0x3f).toInt64.toUInt64).toInt64) / q2) <<< ((1 : Int32) &&& 0x3f).toInt64) * q2)) - q2)), (.long (q1 - (((((q1.toUInt64 >>> ((1 : Int32) &&& 0x3f).toInt64.toUInt64).toInt64) / q2) <<< ((1 : Int32) &&& 0x3f).toInt64) * q2)))])) rfl (hb hby d3_29) _ ?_
    show Steps p.tables e below (s₁.setTop (mkF m 32 #[.val (.long q1), .second, .val (.long q2), .second, .val (.long ((((q1.toUInt64 >>> ((1 : Int32) &&& 0x3f).toInt64.toUInt64).toInt64) / q2) <<< ((1 : Int32) &&& 0x3f).toInt64)), .second, .val (.long (q1 - (((((q1.toUInt64 >>> ((1 : Int32) &&& 0x3f).toInt64.toUInt64).toInt64) / q2) <<< ((1 : Int32) &&& 0x3f).toInt64) * q2))), .second] [(.long (-1 : Int64)), (.long ((q1 - (((((q1.toUInt64 >>> ((1 : Int32) &&& 0x3f).toInt64.toUInt64).toInt64) / q2) <<< ((1 : Int32) &&& 0x3f).toInt64) * q2)) - q2)), (.long (q1 - (((((q1.toUInt64 >>> ((1 : Int32) &&& 0x3f).toInt64.toUInt64).toInt64) / q2) <<< ((1 : Int32) &&& 0x3f).toInt64) * q2)))])) t
    refine XS.lxor X0.here hx rfl (hb hby d3_32) rfl ?_
    show Steps p.tables e below (s₁.setTop (mkF m 33 #[.val (.long q1), .second, .val (.long q2), .second, .val (.long ((((q1.toUInt64 >>> ((1 : Int32) &&& 0x3f).toInt64.toUInt64).toInt64) / q2) <<< ((1 : Int32) &&& 0x3f).toInt64)), .second, .val (.long (q1 - (((((q1.toUInt64 >>> ((1 : Int32) &&& 0x3f).toInt64.toUInt64).toInt64) / q2) <<< ((1 : Int32) &&& 0x3f).toInt64) * q2))), .second] [(.long (((q1 - (((((q1.toUInt64 >>> ((1 : Int32) &&& 0x3f).toInt64.toUInt64).toInt64) / q2) <<< ((1 : Int32) &&& 0x3f).toInt64) * q2)) - q2) ^^^ (-1 : Int64))), (.long (q1 - (((((q1.toUInt64 >>> ((1 : Int32) &&& 0x3f).toInt64.toUInt64).toInt64) / q2) <<< ((1 : Int32) &&& 0x3f).toInt64) * q2)))])) t
    refine XS.bipush X0.here hx rfl (hb hby d3_33) ?_
    show Steps p.tables e below (s₁.setTop (mkF m 35 #[.val (.long q1), .second, .val (.long q2), .second, .val (.long ((((q1.toUInt64 >>> ((1 : Int32) &&& 0x3f).toInt64.toUInt64).toInt64) / q2) <<< ((1 : Int32) &&& 0x3f).toInt64)), .second, .val (.long (q1 - (((((q1.toUInt64 >>> ((1 : Int32) &&& 0x3f).toInt64.toUInt64).toInt64) / q2) <<< ((1 : Int32) &&& 0x3f).toInt64) * q2))), .second] [(.int (63 : Int32)), (.long (((q1 - (((((q1.toUInt64 >>> ((1 : Int32) &&& 0x3f).toInt64.toUInt64).toInt64) / q2) <<< ((1 : Int32) &&& 0x3f).toInt64) * q2)) - q2) ^^^ (-1 : Int64))), (.long (q1 - (((((q1.toUInt64 >>> ((1 : Int32) &&& 0x3f).toInt64.toUInt64).toInt64) / q2) <<< ((1 : Int32) &&& 0x3f).toInt64) * q2)))])) t
    refine XS.lshr X0.here hx rfl (hb hby d3_35) rfl ?_
    show Steps p.tables e below (s₁.setTop (mkF m 36 #[.val (.long q1), .second, .val (.long q2), .second, .val (.long ((((q1.toUInt64 >>> ((1 : Int32) &&& 0x3f).toInt64.toUInt64).toInt64) / q2) <<< ((1 : Int32) &&& 0x3f).toInt64)), .second, .val (.long (q1 - (((((q1.toUInt64 >>> ((1 : Int32) &&& 0x3f).toInt64.toUInt64).toInt64) / q2) <<< ((1 : Int32) &&& 0x3f).toInt64) * q2))), .second] [(.long ((((q1 - (((((q1.toUInt64 >>> ((1 : Int32) &&& 0x3f).toInt64.toUInt64).toInt64) / q2) <<< ((1 : Int32) &&& 0x3f).toInt64) * q2)) - q2) ^^^ (-1 : Int64)) >>> ((63 : Int32) &&& 0x3f).toInt64)), (.long (q1 - (((((q1.toUInt64 >>> ((1 : Int32) &&& 0x3f).toInt64.toUInt64).toInt64) / q2) <<< ((1 : Int32) &&& 0x3f).toInt64) * q2)))])) t
    refine XS.lloadN X0.here hx rfl (hb hby d3_36) rfl ?_
    show Steps p.tables e below (s₁.setTop (mkF m 37 #[.val (.long q1), .second, .val (.long q2), .second, .val (.long ((((q1.toUInt64 >>> ((1 : Int32) &&& 0x3f).toInt64.toUInt64).toInt64) / q2) <<< ((1 : Int32) &&& 0x3f).toInt64)), .second, .val (.long (q1 - (((((q1.toUInt64 >>> ((1 : Int32) &&& 0x3f).toInt64.toUInt64).toInt64) / q2) <<< ((1 : Int32) &&& 0x3f).toInt64) * q2))), .second] [(.long q2), (.long ((((q1 - (((((q1.toUInt64 >>> ((1 : Int32) &&& 0x3f).toInt64.toUInt64).toInt64) / q2) <<< ((1 : Int32) &&& 0x3f).toInt64) * q2)) - q2) ^^^ (-1 : Int64)) >>> ((63 : Int32) &&& 0x3f).toInt64)), (.long (q1 - (((((q1.toUInt64 >>> ((1 : Int32) &&& 0x3f).toInt64.toUInt64).toInt64) / q2) <<< ((1 : Int32) &&& 0x3f).toInt64) * q2)))])) t
    refine XS.land X0.here hx rfl (hb hby d3_37) rfl ?_
    show Steps p.tables e below (s₁.setTop (mkF m 38 #[.val (.long q1), .second, .val (.long q2), .second, .val (.long ((((q1.toUInt64 >>> ((1 : Int32) &&& 0x3f).toInt64.toUInt64).toInt64) / q2) <<< ((1 : Int32) &&& 0x3f).toInt64)), .second, .val (.long (q1 - (((((q1.toUInt64 >>> ((1 : Int32) &&& 0x3f).toInt64.toUInt64).toInt64) / q2) <<< ((1 : Int32) &&& 0x3f).toInt64) * q2))), .second] [(.long (((((q1 - (((((q1.toUInt64 >>> ((1 : Int32) &&& 0x3f).toInt64.toUInt64).toInt64) / q2) <<< ((1 : Int32) &&& 0x3f).toInt64) * q2)) - q2) ^^^ (-1 : Int64)) >>> ((63 : Int32) &&& 0x3f).toInt64) &&& q2)), (.long (q1 - (((((q1.toUInt64 >>> ((1 : Int32) &&& 0x3f).toInt64.toUInt64).toInt64) / q2) <<< ((1 : Int32) &&& 0x3f).toInt64) * q2)))])) t
    refine XS.lsub X0.here hx rfl (hb hby d3_38) rfl ?_
    exact k)
  obtain ⟨fs, hr, hrun, hended, hW, hsame⟩ := X0.leave (v := some (.long ((q1 - (((((q1.toUInt64 >>> ((1 : Int32) &&& 0x3f).toInt64.toUInt64).toInt64) / q2) <<< ((1 : Int32) &&& 0x3f).toInt64) * q2)) - (((((q1 - (((((q1.toUInt64 >>> ((1 : Int32) &&& 0x3f).toInt64.toUInt64).toInt64) / q2) <<< ((1 : Int32) &&& 0x3f).toInt64) * q2)) - q2) ^^^ (-1 : Int64)) >>> ((63 : Int32) &&& 0x3f).toInt64) &&& q2)))) (fun h => by rw [Bd.returns] at h; cases h)
  refine ⟨_, _, pre101 _ ?_, hrun, hended, _, _, rfl, ?_, ⟨_, rfl⟩, hW, hsame.mono (by decide) (by decide)⟩
  · exact retOut X0 hx Bd.returns rfl (Or.inr (Or.inl ⟨rfl, rfl, _, rfl⟩)) (hb hby d3_39) hr
  · show QRU Z q1 q2 h0 n0 _ s₁.heap _
    rw [e0]
    exact ⟨rfl, N0, rfl⟩
theorem ef_rmPow (m : MethodId) (x0 : Addr) (x1 : Int64) (x2 : Int64) : entryFrame m #[(.ref x0), (.long x1), (.long x2)] 11 = mkF m 0 #[.val (.ref x0), .val (.long x1), .second, .val (.long x2), .second, .unset, .unset, .unset, .unset, .unset, .unset] [] := by first | (simp [entryFrame, mkF, argsToLocals, Value.category]; done) | rfl
def QPow (Z : State) (a1 : Addr) (q2 : Int64) (q3 : Int64) (pp : Int64) (vv : Int64) (ss : Int64) (h0 : Heap) (n0 : Nat) (v : Option Value) (h : Heap) (L : List Loc) : Prop := ∃ (rr : Int64), v = some (.long rr) ∧ Fr n0 L ∧ h = h0
set_option maxRecDepth 65536 in
set_option maxHeartbeats 40000000 in
theorem rmPow (l : Launch) (Z : State) (a0 : Array Value) (hw : ∀ d ∈ tables_1, d.before a0 Z = true) (ws : List Jvm.Cond) (a1 : Addr) (q2 : Int64) (q3 : Int64) (pp : Int64) (vv : Int64) (ss : Int64) (h0 : Heap) (n0 : Nat) (Z0 : n0 ≤ h0.size) (E1 : Exa Z h0 a1 "com/example/libsld/libsld/PrimeField") (F1 : Fld Z h0 a1 "com/example/libsld/libsld/PrimeField" "p" "J" (.long pp)) (F2 : Fld Z h0 a1 "com/example/libsld/libsld/PrimeField" "inverse" "J" (.long vv)) (F3 : Fld Z h0 a1 "com/example/libsld/libsld/PrimeField" "montgomerySquare" "J" (.long ss)) :
    MetFree l (⟨"com/example/libsld/libsld/PrimeField", "power", "(JJ)J"⟩ : MethodName) (head1 (Jvm.Cond.code (⟨"com/example/libsld/libsld/PrimeField", "power", "(JJ)J"⟩ : MethodName) prog_87_method_6_code 11 (some .long) :: ws) ({ frames := 4, cells := 0, slots := 0, locals := 83 } : Room)) (fun a U => a = #[(.ref a1), (.long q2), (.long q3)] ∧ Z.Warmed39 U.vm ∧ U.heap = h0) (fun _ _ _ _ _ => True) (fun _ U o U' => ∃ v L, o = .returned v ∧ QPow Z a1 q2 q3 pp vv ss h0 n0 v U'.heap L ∧ FrameEnd U o U' L ({ frames := 4, cells := 0, slots := 0, locals := 83 } : Room).cells ({ frames := 4, cells := 0, slots := 0, locals := 83 } : Room).slots) := by
  refine MetFree.of_bodySF (plainFor_of_name pn_com_example_libsld_libsld_PrimeField) hisR ?_
  intro p e s m args below meth c s₁ Bd hml0 hP hK
  obtain ⟨rfl, hZ, hh⟩ := hP
  have hx := Bd.exec
  have hby := Bd.bytes
  have hml : c.maxLocals = 11 := hml0
  have hown : s.vm.findClass "com/example/libsld/libsld/PrimeField" = some m.cls := findClass_of_methodNamed Bd.named
  have hnm := (name_of_methodNamed Bd.named Bd.method).1
  have X0 : Stand p l e ({ frames := 4, cells := 0, slots := 0, locals := 83 } : Room) s m #[(.ref a1), (.long q2), (.long q3)] below meth c s₁ [] 0 0 := Stand.of_body Bd
  have e0 : s₁.heap = h0 := by rw [← hh, Bd.state]; rfl
  have N0 := Fr.nil n0
  have pre0 : ∀ t, Steps p.tables e below (s₁.setTop (mkF m 0 #[.val (.ref a1), .val (.long q2), .second, .val (.long q3), .second, .unset, .unset, .unset, .unset, .unset, .unset] [])) t → Steps p.tables e below (s₁.setTop (entryFrame m #[(.ref a1), (.long q2), (.long q3)] 11)) t := fun t k => castTop (ef_rmPow m a1 q2 q3) k
  have pre101 : ∀ t, Steps p.tables e below (s₁.setTop (mkF m 9 #[.val (.ref a1), .val (.long q2), .second, .val (.long q3), .second, .val (.long (1 : Int64)), .second, .val (.long q2), .second, .val (.long q3), .second] [])) t → Steps p.tables e below (s₁.setTop (entryFrame m #[(.ref a1), (.long q2), (.long q3)] 11)) t := fun t k => pre0 t (by
    show Steps p.tables e below (s₁.setTop (mkF m 0 #[.val (.ref a1), .val (.long q2), .second, .val (.long q3), .second, .unset, .unset, .unset, .unset, .unset, .unset] [])) t
    refine XS.lconst X0.here hx rfl (hb hby d5_0) ?_
    show Steps p.tables e below (s₁.setTop (mkF m 1 #[.val (.ref a1), .val (.long q2), .second, .val (.long q3), .second, .unset, .unset, .unset, .unset, .unset, .unset] [(.long (1 : Int64))])) t
    refine XS.lstore X0.here hx rfl (hb hby d5_1) rfl (l' := #[.val (.ref a1), .val (.long q2), .second, .val (.long q3), .second, .val (.long (1 : Int64)), .second, .unset, .unset, .unset, .unset]) rfl ?_
    show Steps p.tables e below (s₁.setTop (mkF m 3 #[.val (.ref a1), .val (.long q2), .second, .val (.long q3), .second, .val (.long (1 : Int64)), .second, .unset, .unset, .unset, .unset] [])) t
    refine XS.lloadN X0.here hx rfl (hb hby d5_3) rfl ?_
    show Steps p.tables e below (s₁.setTop (mkF m 4 #[.val (.ref a1), .val (.long q2), .second, .val (.long q3), .second, .val (.long (1 : Int64)), .second, .unset, .unset, .unset, .unset] [(.long q2)])) t
    refine XS.lstore X0.here hx rfl (hb hby d5_4) rfl (l' := #[.val (.ref a1), .val (.long q2), .second, .val (.long q3), .second, .val (.long (1 : Int64)), .second, .val (.long q2), .second, .unset, .unset]) rfl ?_
    show Steps p.tables e below (s₁.setTop (mkF m 6 #[.val (.ref a1), .val (.long q2), .second, .val (.long q3), .second, .val (.long (1 : Int64)), .second, .val (.long q2), .second, .unset, .unset] [])) t
    refine XS.lloadN X0.here hx rfl (hb hby d5_6) rfl ?_
    show Steps p.tables e below (s₁.setTop (mkF m 7 #[.val (.ref a1), .val (.long q2), .second, .val (.long q3), .second, .val (.long (1 : Int64)), .second, .val (.long q2), .second, .unset, .unset] [(.long q3)])) t
    refine XS.lstore X0.here hx rfl (hb hby d5_7) rfl (l' := #[.val (.ref a1), .val (.long q2), .second, .val (.long q3), .second, .val (.long (1 : Int64)), .second, .val (.long q2), .second, .val (.long q3), .second]) rfl ?_
    exact k)
  have hl102 : ∀ (nn : Nat) (T102 : State) (L102 : List Loc) (wr : Int64) (wq : Int64) (we : Int64), Stand p l e ({ frames := 4, cells := 0, slots := 0, locals := 83 } : Room) s m #[(.ref a1), (.long q2), (.long q3)] below meth c T102 L102 0 0 → T102.heap = h0 → Fr n0 L102 → we.toUInt64.toNat < nn → (∀ t, Steps p.tables e below (T102.setTop (mkF m 9 #[.val (.ref a1), .val (.long q2), .second, .val (.long q3), .second, .val (.long wr), .second, .val (.long wq), .second, .val (.long we), .second] [])) t → Steps p.tables e below (s₁.setTop (entryFrame m #[(.ref a1), (.long q2), (.long q3)] 11)) t) → ∃ s₂ o, Steps p.tables e below (s₁.setTop (entryFrame m #[(.ref a1), (.long q2), (.long q3)] 11)) s₂ ∧ s₂.status = .running ∧ Ended s₂ below o ∧ ∃ v L, o = .returned v ∧ QPow Z a1 q2 q3 pp vv ss h0 n0 v s₂.heap L ∧ FrameEnd s o s₂ L ({ frames := 4, cells := 0, slots := 0, locals := 83 } : Room).cells ({ frames := 4, cells := 0, slots := 0, locals := 83 } : Room).slots := by
    intro nn
    induction nn with
    | zero => intro T102 L102 wr wq we X102 e102 N102 hm102 pre102; exact absurd hm102 (Nat.not_lt_zero _)
    | succ nn ih102 =>
      intro T102 L102 wr wq we X102 e102 N102 hm102 pre102
      have pre104 : ∀ t, Steps p.tables e below (T102.setTop (mkF m 13 #[.val (.ref a1), .val (.long q2), .second, .val (.long q3), .second, .val (.long wr), .second, .val (.long wq), .second, .val (.long we), .second] [(.int (lcmpW we (0 : Int64)))])) t → Steps p.tables e below (s₁.setTop (entryFrame m #[(.ref a1), (.long q2), (.long q3)] 11)) t := fun t k => pre102 t (by
        show Steps p.tables e below (T102.setTop (mkF m 9 #[.val (.ref a1), .val (.long q2), .second, .val (.long q3), .second, .val (.long wr), .second, .val (.long wq), .second, .val (.long we), .second] [])) t
        refine XS.lload X102.here hx rfl (hb hby d5_9) rfl ?_
        show Steps p.tables e below (T102.setTop (mkF m 11 #[.val (.ref a1), .val (.long q2), .second, .val (.long q3), .second, .val (.long wr), .second, .val (.long wq), .second, .val (.long we), .second] [(.long we)])) t
        refine XS.lconst X102.here hx rfl (hb hby d5_11) ?_
        show Steps p.tables e below (T102.setTop (mkF m 12 #[.val (.ref a1), .val (.long q2), .second, .val (.long q3), .second, .val (.long wr), .second, .val (.long wq), .second, .val (.long we), .second] [(.long (0 : Int64)), (.long we)])) t
        refine XS.lcmp X102.here hx rfl (hb hby d5_12) rfl ?_
        exact k)
      by_cases hc103 : we = (0 : Int64)
      · have pre105 : ∀ t, Steps p.tables e below (T102.setTop (mkF m 56 #[.val (.ref a1), .val (.long q2), .second, .val (.long q3), .second, .val (.long wr), .second, .val (.long wq), .second, .val (.long we), .second] [(.long wr)])) t → Steps p.tables e below (s₁.setTop (entryFrame m #[(.ref a1), (.long q2), (.long q3)] 11)) t := fun t k => pre104 t (by
          show Steps p.tables e below (T102.setTop (mkF m 13 #[.val (.ref a1), .val (.long q2), .second, .val (.long q3), .second, .val (.long wr), .second, .val (.long wq), .second, .val (.long we), .second] [(.int (lcmpW we (0 : Int64)))])) t
          refine XS.ifYes X102.here hx rfl (pc0 := 13) (pc' := 54) rfl (hb hby d5_13) rfl ((if0 _ _).trans (teq (show (lcmpW we (0 : Int64)) = (0 : Int32) by rw [lcW]; exact (lc_eq _ _).mpr hc103)).1) (by decide) (by decide) ?_
          show Steps p.tables e below (T102.setTop (mkF m 54 #[.val (.ref a1), .val (.long q2), .second, .val (.long q3), .second, .val (.long wr), .second, .val (.long wq), .second, .val (.long we), .second] [])) t
          refine XS.lload X102.here hx rfl (hb hby d5_54) rfl ?_
          exact k)
        obtain ⟨fs, hr, hrun, hended, hW, hsame⟩ := X102.leave (v := some (.long wr)) (fun h => by rw [Bd.returns] at h; cases h)
        refine ⟨_, _, pre105 _ ?_, hrun, hended, _, _, rfl, ?_, ⟨_, rfl⟩, hW, hsame.mono (by decide) (by decide)⟩
        · exact retOut X102 hx Bd.returns rfl (Or.inr (Or.inl ⟨rfl, rfl, _, rfl⟩)) (hb hby d5_56) hr
        · show QPow Z a1 q2 q3 pp vv ss h0 n0 _ T102.heap _
          rw [e102]
          exact ⟨wr, rfl, N102, rfl⟩
      · have pre107 : ∀ t, Steps p.tables e below (T102.setTop (mkF m 22 #[.val (.ref a1), .val (.long q2), .second, .val (.long q3), .second, .val (.long wr), .second, .val (.long wq), .second, .val (.long we), .second] [(.int (lcmpW (we &&& (1 : Int64)) (0 : Int64)))])) t → Steps p.tables e below (s₁.setTop (entryFrame m #[(.ref a1), (.long q2), (.long q3)] 11)) t := fun t k => pre104 t (by
          show Steps p.tables e below (T102.setTop (mkF m 13 #[.val (.ref a1), .val (.long q2), .second, .val (.long q3), .second, .val (.long wr), .second, .val (.long wq), .second, .val (.long we), .second] [(.int (lcmpW we (0 : Int64)))])) t
          refine XS.ifNo X102.here hx rfl (hb hby d5_13) rfl ((if0 _ _).trans (feq (show ¬ ((lcmpW we (0 : Int64)) = (0 : Int32)) by rw [lcW]; exact fun q => hc103 ((lc_eq _ _).mp q))).1) ?_
          show Steps p.tables e below (T102.setTop (mkF m 16 #[.val (.ref a1), .val (.long q2), .second, .val (.long q3), .second, .val (.long wr), .second, .val (.long wq), .second, .val (.long we), .second] [])) t
          refine XS.lload X102.here hx rfl (hb hby d5_16) rfl ?_
          show Steps p.tables e below (T102.setTop (mkF m 18 #[.val (.ref a1), .val (.long q2), .second, .val (.long q3), .second, .val (.long wr), .second, .val (.long wq), .second, .val (.long we), .second] [(.long we)])) t
          refine XS.lconst X102.here hx rfl (hb hby d5_18) ?_
          show Steps p.tables e below (T102.setTop (mkF m 19 #[.val (.ref a1), .val (.long q2), .second, .val (.long q3), .second, .val (.long wr), .second, .val (.long wq), .second, .val (.long we), .second] [(.long (1 : Int64)), (.long we)])) t
          refine XS.land X102.here hx rfl (hb hby d5_19) rfl ?_
          show Steps p.tables e below (T102.setTop (mkF m 20 #[.val (.ref a1), .val (.long q2), .second, .val (.long q3), .second, .val (.long wr), .second, .val (.long wq), .second, .val (.long we), .second] [(.long (we &&& (1 : Int64)))])) t
          refine XS.lconst X102.here hx rfl (hb hby d5_20) ?_
          show Steps p.tables e below (T102.setTop (mkF m 21 #[.val (.ref a1), .val (.long q2), .second, .val (.long q3), .second, .val (.long wr), .second, .val (.long wq), .second, .val (.long we), .second] [(.long (0 : Int64)), (.long (we &&& (1 : Int64)))])) t
          refine XS.lcmp X102.here hx rfl (hb hby d5_21) rfl ?_
          exact k)
        by_cases hc106 : (we &&& (1 : Int64)) = (0 : Int64)
        · obtain ⟨cq108, kq108, q108a, q108b, q108c⟩ := isOf hZ e102 E1
          obtain ⟨_, _, ⟨T108, L108, k108, n108⟩, -, X108, ⟨Lc108, hQ108, l108, y108, z108⟩, st108⟩ := X102.virtualBack hx (y := (⟨"com/example/libsld/libsld/PrimeField", "multiply", "(JJ)J"⟩ : MethodName)) (z := (⟨"com/example/libsld/libsld/PrimeField", "multiply", "(JJ)J"⟩ : MethodName)) hown (mvT hZ (own_i hw 37 rfl)) (mvT hZ (own_i hw 38 rfl)) (notFace_of_selects (args := #[]) (mvT hZ (own_i hw 40 rfl))) (mvT hZ (own_i hw 40 rfl)) (mvT hZ (own_i hw 39 rfl)) (by decide) (backOf (W := 0) (rmMul l Z a0 hw [] a1 wq wq pp vv ss h0 n0 Z0 E1 F1 F2 F3) hZ (own_i hw 41 rfl) (own_i hw 2 rfl) (by decide) (by decide)) q108a q108c (g := (mkF m 40 #[.val (.ref a1), .val (.long q2), .second, .val (.long q3), .second, .val (.long wr), .second, .val (.long wq), .second, .val (.long we), .second] [(.long wq), (.long wq), (.ref a1)])) rfl (by rw [hml]; rfl) (Steps.refl _) (argsL := [(.long wq), (.long wq)]) (rest := []) (lenOf pd_0 rfl) rfl (by show 2 * 0 + _ ≤ _; exact Nat.le_of_eq rfl) (hb hby d5_40) (fun _ _ => ⟨rfl, e102, (by decide : 0 + 0 ≤ _), (by decide : 0 + 0 ≤ _)⟩)
          dsimp only [Pt.U, Pt.locs, Pt.cells, Pt.slots] at X108 l108 y108 z108 st108 hQ108
          subst l108 y108 z108
          obtain ⟨rfl, N108q, e108⟩ := hQ108
          have N108 := Fr.app N102 N108q
          have pre109 : ∀ t, Steps p.tables e below (T108.setTop (mkF m 9 #[.val (.ref a1), .val (.long q2), .second, .val (.long q3), .second, .val (.long wr), .second, .val (.long (own_mul wq wq pp vv ss)), .second, .val (.long ((we.toUInt64 >>> ((1 : Int32) &&& 0x3f).toInt64.toUInt64).toInt64)), .second] [])) t → Steps p.tables e below (s₁.setTop (entryFrame m #[(.ref a1), (.long q2), (.long q3)] 11)) t := fun t k => pre107 t (by
            show Steps p.tables e below (T102.setTop (mkF m 22 #[.val (.ref a1), .val (.long q2), .second, .val (.long q3), .second, .val (.long wr), .second, .val (.long wq), .second, .val (.long we), .second] [(.int (lcmpW (we &&& (1 : Int64)) (0 : Int64)))])) t
            refine XS.ifYes X102.here hx rfl (pc0 := 22) (pc' := 35) rfl (hb hby d5_22) rfl ((if0 _ _).trans (teq (show (lcmpW (we &&& (1 : Int64)) (0 : Int64)) = (0 : Int32) by rw [lcW]; exact (lc_eq _ _).mpr hc106)).1) (by decide) (by decide) ?_
            show Steps p.tables e below (T102.setTop (mkF m 35 #[.val (.ref a1), .val (.long q2), .second, .val (.long q3), .second, .val (.long wr), .second, .val (.long wq), .second, .val (.long we), .second] [])) t
            refine XS.aloadN X102.here hx rfl (hb hby d5_35) rfl rfl ?_
            show Steps p.tables e below (T102.setTop (mkF m 36 #[.val (.ref a1), .val (.long q2), .second, .val (.long q3), .second, .val (.long wr), .second, .val (.long wq), .second, .val (.long we), .second] [(.ref a1)])) t
            refine XS.lload X102.here hx rfl (hb hby d5_36) rfl ?_
            show Steps p.tables e below (T102.setTop (mkF m 38 #[.val (.ref a1), .val (.long q2), .second, .val (.long q3), .second, .val (.long wr), .second, .val (.long wq), .second, .val (.long we), .second] [(.long wq), (.ref a1)])) t
            refine XS.lload X102.here hx rfl (hb hby d5_38) rfl ?_
            show Steps p.tables e below (T102.setTop (mkF m 40 #[.val (.ref a1), .val (.long q2), .second, .val (.long q3), .second, .val (.long wr), .second, .val (.long wq), .second, .val (.long we), .second] [(.long wq), (.long wq), (.ref a1)])) t
            refine st108.trans ?_
            show Steps p.tables e below (T108.setTop (mkF m 43 #[.val (.ref a1), .val (.long q2), .second, .val (.long q3), .second, .val (.long wr), .second, .val (.long wq), .second, .val (.long we), .second] [(.long (own_mul wq wq pp vv ss))])) t
            refine XS.lstore X108.here hx rfl (hb hby d5_43) rfl (l' := #[.val (.ref a1), .val (.long q2), .second, .val (.long q3), .second, .val (.long wr), .second, .val (.long (own_mul wq wq pp vv ss)), .second, .val (.long we), .second]) rfl ?_
            show Steps p.tables e below (T108.setTop (mkF m 45 #[.val (.ref a1), .val (.long q2), .second, .val (.long q3), .second, .val (.long wr), .second, .val (.long (own_mul wq wq pp vv ss)), .second, .val (.long we), .second] [])) t
            refine XS.lload X108.here hx rfl (hb hby d5_45) rfl ?_
            show Steps p.tables e below (T108.setTop (mkF m 47 #[.val (.ref a1), .val (.long q2), .second, .val (.long q3), .second, .val (.long wr), .second, .val (.long (own_mul wq wq pp vv ss)), .second, .val (.long we), .second] [(.long we)])) t
            refine XS.iconst X108.here hx rfl (hb hby d5_47) ?_
            show Steps p.tables e below (T108.setTop (mkF m 48 #[.val (.ref a1), .val (.long q2), .second, .val (.long q3), .second, .val (.long wr), .second, .val (.long (own_mul wq wq pp vv ss)), .second, .val (.long we), .second] [(.int (1 : Int32)), (.long we)])) t
            refine XS.lushr X108.here hx rfl (hb hby d5_48) rfl ?_
            show Steps p.tables e below (T108.setTop (mkF m 49 #[.val (.ref a1), .val (.long q2), .second, .val (.long q3), .second, .val (.long wr), .second, .val (.long (own_mul wq wq pp vv ss)), .second, .val (.long we), .second] [(.long ((we.toUInt64 >>> ((1 : Int32) &&& 0x3f).toInt64.toUInt64).toInt64))])) t
            refine XS.lstore X108.here hx rfl (hb hby d5_49) rfl (l' := #[.val (.ref a1), .val (.long q2), .second, .val (.long q3), .second, .val (.long wr), .second, .val (.long (own_mul wq wq pp vv ss)), .second, .val (.long ((we.toUInt64 >>> ((1 : Int32) &&& 0x3f).toInt64.toUInt64).toInt64)), .second]) rfl ?_
            show Steps p.tables e below (T108.setTop (mkF m 51 #[.val (.ref a1), .val (.long q2), .second, .val (.long q3), .second, .val (.long wr), .second, .val (.long (own_mul wq wq pp vv ss)), .second, .val (.long ((we.toUInt64 >>> ((1 : Int32) &&& 0x3f).toInt64.toUInt64).toInt64)), .second] [])) t
            refine XS.goto X108.here hx rfl (pc0 := 51) (pc' := 9) rfl (hb hby d5_51) (by decide) (by decide) ?_
            exact k)
          exact ih102 _ _ _ _ _ X108 e108 N108 (Nat.lt_of_lt_of_le (own_half hc103) (Nat.lt_succ_iff.mp hm102)) pre109
        · obtain ⟨cq110, kq110, q110a, q110b, q110c⟩ := isOf hZ e102 E1
          obtain ⟨_, _, ⟨T110, L110, k110, n110⟩, -, X110, ⟨Lc110, hQ110, l110, y110, z110⟩, st110⟩ := X102.virtualBack hx (y := (⟨"com/example/libsld/libsld/PrimeField", "multiply", "(JJ)J"⟩ : MethodName)) (z := (⟨"com/example/libsld/libsld/PrimeField", "multiply", "(JJ)J"⟩ : MethodName)) hown (mvT hZ (own_i hw 37 rfl)) (mvT hZ (own_i hw 38 rfl)) (notFace_of_selects (args := #[]) (mvT hZ (own_i hw 40 rfl))) (mvT hZ (own_i hw 40 rfl)) (mvT hZ (own_i hw 39 rfl)) (by decide) (backOf (W := 0) (rmMul l Z a0 hw [] a1 wr wq pp vv ss h0 n0 Z0 E1 F1 F2 F3) hZ (own_i hw 41 rfl) (own_i hw 2 rfl) (by decide) (by decide)) q110a q110c (g := (mkF m 30 #[.val (.ref a1), .val (.long q2), .second, .val (.long q3), .second, .val (.long wr), .second, .val (.long wq), .second, .val (.long we), .second] [(.long wq), (.long wr), (.ref a1)])) rfl (by rw [hml]; rfl) (Steps.refl _) (argsL := [(.long wr), (.long wq)]) (rest := []) (lenOf pd_0 rfl) rfl (by show 2 * 0 + _ ≤ _; exact Nat.le_of_eq rfl) (hb hby d5_30) (fun _ _ => ⟨rfl, e102, (by decide : 0 + 0 ≤ _), (by decide : 0 + 0 ≤ _)⟩)
          dsimp only [Pt.U, Pt.locs, Pt.cells, Pt.slots] at X110 l110 y110 z110 st110 hQ110
          subst l110 y110 z110
          obtain ⟨rfl, N110q, e110⟩ := hQ110
          have N110 := Fr.app N102 N110q
          obtain ⟨cq111, kq111, q111a, q111b, q111c⟩ := isOf hZ e110 E1
          obtain ⟨_, _, ⟨T111, L111, k111, n111⟩, -, X111, ⟨Lc111, hQ111, l111, y111, z111⟩, st111⟩ := X110.virtualBack hx (y := (⟨"com/example/libsld/libsld/PrimeField", "multiply", "(JJ)J"⟩ : MethodName)) (z := (⟨"com/example/libsld/libsld/PrimeField", "multiply", "(JJ)J"⟩ : MethodName)) hown (mvT hZ (own_i hw 37 rfl)) (mvT hZ (own_i hw 38 rfl)) (notFace_of_selects (args := #[]) (mvT hZ (own_i hw 40 rfl))) (mvT hZ (own_i hw 40 rfl)) (mvT hZ (own_i hw 39 rfl)) (by decide) (backOf (W := 0) (rmMul l Z a0 hw [] a1 wq wq pp vv ss h0 n0 Z0 E1 F1 F2 F3) hZ (own_i hw 41 rfl) (own_i hw 2 rfl) (by decide) (by decide)) q111a q111c (g := (mkF m 40 #[.val (.ref a1), .val (.long q2), .second, .val (.long q3), .second, .val (.long (own_mul wr wq pp vv ss)), .second, .val (.long wq), .second, .val (.long we), .second] [(.long wq), (.long wq), (.ref a1)])) rfl (by rw [hml]; rfl) (Steps.refl _) (argsL := [(.long wq), (.long wq)]) (rest := []) (lenOf pd_0 rfl) rfl (by show 2 * 0 + _ ≤ _; exact Nat.le_of_eq rfl) (hb hby d5_40) (fun _ _ => ⟨rfl, e110, (by decide : 0 + 0 ≤ _), (by decide : 0 + 0 ≤ _)⟩)
          dsimp only [Pt.U, Pt.locs, Pt.cells, Pt.slots] at X111 l111 y111 z111 st111 hQ111
          subst l111 y111 z111
          obtain ⟨rfl, N111q, e111⟩ := hQ111
          have N111 := Fr.app N110 N111q
          have pre112 : ∀ t, Steps p.tables e below (T111.setTop (mkF m 9 #[.val (.ref a1), .val (.long q2), .second, .val (.long q3), .second, .val (.long (own_mul wr wq pp vv ss)), .second, .val (.long (own_mul wq wq pp vv ss)), .second, .val (.long ((we.toUInt64 >>> ((1 : Int32) &&& 0x3f).toInt64.toUInt64).toInt64)), .second] [])) t → Steps p.tables e below (s₁.setTop (entryFrame m #[(.ref a1), (.long q2), (.long q3)] 11)) t := fun t k => pre107 t (by
            show Steps p.tables e below (T102.setTop (mkF m 22 #[.val (.ref a1), .val (.long q2), .second, .val (.long q3), .second, .val (.long wr), .second, .val (.long wq), .second, .val (.long we), .second] [(.int (lcmpW (we &&& (1 : Int64)) (0 : Int64)))])) t
            refine XS.ifNo X102.here hx rfl (hb hby d5_22) rfl ((if0 _ _).trans (feq (show ¬ ((lcmpW (we &&& (1 : Int64)) (0 : Int64)) = (0 : Int32)) by rw [lcW]; exact fun q => hc106 ((lc_eq _ _).mp q))).1) ?_
            show Steps p.tables e below (T102.setTop (mkF m 25 #[.val (.ref a1), .val (.long q2), .second, .val (.long q3), .second, .val (.long wr), .second, .val (.long wq), .second, .val (.long we), .second] [])) t
            refine XS.aloadN X102.here hx rfl (hb hby d5_25) rfl rfl ?_
            show Steps p.tables e below (T102.setTop (mkF m 26 #[.val (.ref a1), .val (.long q2), .second, .val (.long q3), .second, .val (.long wr), .second, .val (.long wq), .second, .val (.long we), .second] [(.ref a1)])) t
            refine XS.lload X102.here hx rfl (hb hby d5_26) rfl ?_
            show Steps p.tables e below (T102.setTop (mkF m 28 #[.val (.ref a1), .val (.long q2), .second, .val (.long q3), .second, .val (.long wr), .second, .val (.long wq), .second, .val (.long we), .second] [(.long wr), (.ref a1)])) t
            refine XS.lload X102.here hx rfl (hb hby d5_28) rfl ?_
            show Steps p.tables e below (T102.setTop (mkF m 30 #[.val (.ref a1), .val (.long q2), .second, .val (.long q3), .second, .val (.long wr), .second, .val (.long wq), .second, .val (.long we), .second] [(.long wq), (.long wr), (.ref a1)])) t
            refine st110.trans ?_
            show Steps p.tables e below (T110.setTop (mkF m 33 #[.val (.ref a1), .val (.long q2), .second, .val (.long q3), .second, .val (.long wr), .second, .val (.long wq), .second, .val (.long we), .second] [(.long (own_mul wr wq pp vv ss))])) t
            refine XS.lstore X110.here hx rfl (hb hby d5_33) rfl (l' := #[.val (.ref a1), .val (.long q2), .second, .val (.long q3), .second, .val (.long (own_mul wr wq pp vv ss)), .second, .val (.long wq), .second, .val (.long we), .second]) rfl ?_
            show Steps p.tables e below (T110.setTop (mkF m 35 #[.val (.ref a1), .val (.long q2), .second, .val (.long q3), .second, .val (.long (own_mul wr wq pp vv ss)), .second, .val (.long wq), .second, .val (.long we), .second] [])) t
            refine XS.aloadN X110.here hx rfl (hb hby d5_35) rfl rfl ?_
            show Steps p.tables e below (T110.setTop (mkF m 36 #[.val (.ref a1), .val (.long q2), .second, .val (.long q3), .second, .val (.long (own_mul wr wq pp vv ss)), .second, .val (.long wq), .second, .val (.long we), .second] [(.ref a1)])) t
            refine XS.lload X110.here hx rfl (hb hby d5_36) rfl ?_
            show Steps p.tables e below (T110.setTop (mkF m 38 #[.val (.ref a1), .val (.long q2), .second, .val (.long q3), .second, .val (.long (own_mul wr wq pp vv ss)), .second, .val (.long wq), .second, .val (.long we), .second] [(.long wq), (.ref a1)])) t
            refine XS.lload X110.here hx rfl (hb hby d5_38) rfl ?_
            show Steps p.tables e below (T110.setTop (mkF m 40 #[.val (.ref a1), .val (.long q2), .second, .val (.long q3), .second, .val (.long (own_mul wr wq pp vv ss)), .second, .val (.long wq), .second, .val (.long we), .second] [(.long wq), (.long wq), (.ref a1)])) t
            refine st111.trans ?_
            show Steps p.tables e below (T111.setTop (mkF m 43 #[.val (.ref a1), .val (.long q2), .second, .val (.long q3), .second, .val (.long (own_mul wr wq pp vv ss)), .second, .val (.long wq), .second, .val (.long we), .second] [(.long (own_mul wq wq pp vv ss))])) t
            refine XS.lstore X111.here hx rfl (hb hby d5_43) rfl (l' := #[.val (.ref a1), .val (.long q2), .second, .val (.long q3), .second, .val (.long (own_mul wr wq pp vv ss)), .second, .val (.long (own_mul wq wq pp vv ss)), .second, .val (.long we), .second]) rfl ?_
            show Steps p.tables e below (T111.setTop (mkF m 45 #[.val (.ref a1), .val (.long q2), .second, .val (.long q3), .second, .val (.long (own_mul wr wq pp vv ss)), .second, .val (.long (own_mul wq wq pp vv ss)), .second, .val (.long we), .second] [])) t
            refine XS.lload X111.here hx rfl (hb hby d5_45) rfl ?_
            show Steps p.tables e below (T111.setTop (mkF m 47 #[.val (.ref a1), .val (.long q2), .second, .val (.long q3), .second, .val (.long (own_mul wr wq pp vv ss)), .second, .val (.long (own_mul wq wq pp vv ss)), .second, .val (.long we), .second] [(.long we)])) t
            refine XS.iconst X111.here hx rfl (hb hby d5_47) ?_
            show Steps p.tables e below (T111.setTop (mkF m 48 #[.val (.ref a1), .val (.long q2), .second, .val (.long q3), .second, .val (.long (own_mul wr wq pp vv ss)), .second, .val (.long (own_mul wq wq pp vv ss)), .second, .val (.long we), .second] [(.int (1 : Int32)), (.long we)])) t
            refine XS.lushr X111.here hx rfl (hb hby d5_48) rfl ?_
            show Steps p.tables e below (T111.setTop (mkF m 49 #[.val (.ref a1), .val (.long q2), .second, .val (.long q3), .second, .val (.long (own_mul wr wq pp vv ss)), .second, .val (.long (own_mul wq wq pp vv ss)), .second, .val (.long we), .second] [(.long ((we.toUInt64 >>> ((1 : Int32) &&& 0x3f).toInt64.toUInt64).toInt64))])) t
            refine XS.lstore X111.here hx rfl (hb hby d5_49) rfl (l' := #[.val (.ref a1), .val (.long q2), .second, .val (.long q3), .second, .val (.long (own_mul wr wq pp vv ss)), .second, .val (.long (own_mul wq wq pp vv ss)), .second, .val (.long ((we.toUInt64 >>> ((1 : Int32) &&& 0x3f).toInt64.toUInt64).toInt64)), .second]) rfl ?_
            show Steps p.tables e below (T111.setTop (mkF m 51 #[.val (.ref a1), .val (.long q2), .second, .val (.long q3), .second, .val (.long (own_mul wr wq pp vv ss)), .second, .val (.long (own_mul wq wq pp vv ss)), .second, .val (.long ((we.toUInt64 >>> ((1 : Int32) &&& 0x3f).toInt64.toUInt64).toInt64)), .second] [])) t
            refine XS.goto X111.here hx rfl (pc0 := 51) (pc' := 9) rfl (hb hby d5_51) (by decide) (by decide) ?_
            exact k)
          exact ih102 _ _ _ _ _ X111 e111 N111 (Nat.lt_of_lt_of_le (own_half hc103) (Nat.lt_succ_iff.mp hm102)) pre112
  exact hl102 _ _ _ _ _ _ X0 e0 N0 (Nat.lt_succ_self _) pre101
theorem ef_rmI0 (m : MethodId) (x0 : Addr) : entryFrame m #[(.ref x0), (.int (0 : Int32))] 9 = mkF m 0 #[.val (.ref x0), .val (.int (0 : Int32)), .unset, .unset, .unset, .unset, .unset, .unset, .unset] [] := by first | (simp [entryFrame, mkF, argsToLocals, Value.category]; done) | rfl
def QI0 (Z : State) (a1 : Addr) (wP : Addr) (kP : ClassId) (wN : Addr) (kN : ClassId) (h0 : Heap) (n0 : Nat) (v : Option Value) (h : Heap) (L : List Loc) : Prop := v = none ∧ Fr n0 L ∧ Keep h0 h [a1] ∧ (Exa Z h a1 "com/example/libsld/libsld/PrimeField") ∧ (Fld Z h a1 "com/example/libsld/libsld/PrimeField" "p" "J" (.long (2305842979148922881 : Int64))) ∧ (Fld Z h a1 "com/example/libsld/libsld/PrimeField" "inverse" "J" (.long (-2305842979148922879 : Int64))) ∧ (Fld Z h a1 "com/example/libsld/libsld/PrimeField" "montgomerySquare" "J" (.long (750416685932096 : Int64)))
set_option maxRecDepth 65536 in
set_option maxHeartbeats 40000000 in
theorem rmI0 (l : Launch) (Z : State) (a0 : Array Value) (hw : ∀ d ∈ tables_1, d.before a0 Z = true) (ws : List Jvm.Cond) (a1 : Addr) (wP : Addr) (kP : ClassId) (wN : Addr) (kN : ClassId) (h0 : Heap) (n0 : Nat) (Z0 : n0 ≤ h0.size) (SP : Sta Z Z.heap "com/example/libsld/libsld/PrimeField" "PRIMES" "[J" (.ref wP)) (AP : Arv Z Z.heap wP kP .long (4 : Int32) [(.long (2305842979148922881 : Int64)), (.long (2305842798760296449 : Int64)), (.long (2305842644141473793 : Int64)), (.long (2305842343493763073 : Int64))] (.long (0 : Int64))) (SN : Sta Z Z.heap "com/example/libsld/libsld/PrimeField" "NON_RESIDUES" "[J" (.ref wN)) (AN : Arv Z Z.heap wN kN .long (4 : Int32) [(.long (3 : Int64)), (.long (3 : Int64)), (.long (3 : Int64)), (.long (5 : Int64))] (.long (0 : Int64))) (O0 : Old Z n0 h0) (Z1 : Fld Z h0 a1 "com/example/libsld/libsld/PrimeField" "rootsOfOrder" "[J" .null) (Z2 : Fld Z h0 a1 "com/example/libsld/libsld/PrimeField" "p" "J" (.long (0 : Int64))) (Z3 : Fld Z h0 a1 "com/example/libsld/libsld/PrimeField" "twoP" "J" (.long (0 : Int64))) (Z4 : Fld Z h0 a1 "com/example/libsld/libsld/PrimeField" "inverse" "J" (.long (0 : Int64))) (Z5 : Fld Z h0 a1 "com/example/libsld/libsld/PrimeField" "montgomerySquare" "J" (.long (0 : Int64))) (E1 : Exa Z h0 a1 "com/example/libsld/libsld/PrimeField") (g1 : n0 ≤ a1) :
    MetFree l (⟨"com/example/libsld/libsld/PrimeField", "<init>", "(I)V"⟩ : MethodName) (head1 (Jvm.Cond.code (⟨"com/example/libsld/libsld/PrimeField", "<init>", "(I)V"⟩ : MethodName) prog_87_method_1_code 9 none :: ws) ({ frames := 5, cells := 1, slots := 33, locals := 105 } : Room)) (fun a U => a = #[(.ref a1), (.int (0 : Int32))] ∧ Z.Warmed39 U.vm ∧ U.heap = h0) (fun _ _ _ _ _ => True) (fun _ U o U' => ∃ v L, o = .returned v ∧ QI0 Z a1 wP kP wN kN h0 n0 v U'.heap L ∧ FrameEnd U o U' L ({ frames := 5, cells := 1, slots := 33, locals := 105 } : Room).cells ({ frames := 5, cells := 1, slots := 33, locals := 105 } : Room).slots) := by
  refine MetFree.of_bodySF (plainFor_of_name pn_com_example_libsld_libsld_PrimeField) hisR ?_
  intro p e s m args below meth c s₁ Bd hml0 hP hK
  obtain ⟨rfl, hZ, hh⟩ := hP
  have hx := Bd.exec
  have hby := Bd.bytes
  have hml : c.maxLocals = 9 := hml0
  have hown : s.vm.findClass "com/example/libsld/libsld/PrimeField" = some m.cls := findClass_of_methodNamed Bd.named
  have hnm := (name_of_methodNamed Bd.named Bd.method).1
  have X0 : Stand p l e ({ frames := 5, cells := 1, slots := 33, locals := 105 } : Room) s m #[(.ref a1), (.int (0 : Int32))] below meth c s₁ [] 0 0 := Stand.of_body Bd
  have e0 : s₁.heap = h0 := by rw [← hh, Bd.state]; rfl
  have N0 := Fr.nil n0
  have pre0 : ∀ t, Steps p.tables e below (s₁.setTop (mkF m 0 #[.val (.ref a1), .val (.int (0 : Int32)), .unset, .unset, .unset, .unset, .unset, .unset, .unset] [])) t → Steps p.tables e below (s₁.setTop (entryFrame m #[(.ref a1), (.int (0 : Int32))] 9)) t := fun t k => castTop (ef_rmI0 m a1) k
  have f101 := Keep.refl h0 [a1]
  obtain ⟨T102, X102, e102, st102⟩ := initO X0 hx hZ hown (own_i hw 6 rfl) (own_i hw 7 rfl) (own_i hw 8 rfl) e0 (g := (mkF m 1 #[.val (.ref a1), .val (.int (0 : Int32)), .unset, .unset, .unset, .unset, .unset, .unset, .unset] [(.ref a1)])) rfl (by rw [hml]; rfl) rfl (hb hby d1_1) (by decide) (W := 0) (by show 2 * 0 + _ ≤ _; exact Nat.le_of_eq rfl) (by decide)
  obtain ⟨T103, h103, k103, X103, e103, E103, A103, st103⟩ := newP X102 hx hZ (own_i hw 9 rfl) e102 (g := (mkF m 7 #[.val (.ref a1), .val (.int (0 : Int32)), .unset, .unset, .unset, .unset, .unset, .unset, .unset] [(.int (33 : Int32)), (.ref a1)])) rfl (hb hby d1_7) rfl (by decide) (cap := 33) (by decide) (by decide) (by decide) (by decide)
  obtain ⟨b103, g103⟩ : ∃ z, z = h0.size := ⟨_, rfl⟩
  rw [← g103] at A103 st103
  have ne104 : a1 ≠ b103 := Nat.ne_of_lt (Nat.lt_of_lt_of_le Z1.lt (Nat.le_of_eq g103.symm))
  have ga105 : n0 ≤ b103 := Nat.le_trans Z0 (Nat.le_of_eq g103.symm)
  have sz106 : h0.size ≤ b103 := Nat.le_trans f101.1 (Nat.le_of_eq g103.symm)
  have V103 : Arv Z h103 b103 k103 .long (33 : Int32) [(.long (0 : Int64)), (.long (0 : Int64)), (.long (0 : Int64)), (.long (0 : Int64)), (.long (0 : Int64)), (.long (0 : Int64)), (.long (0 : Int64)), (.long (0 : Int64)), (.long (0 : Int64)), (.long (0 : Int64)), (.long (0 : Int64)), (.long (0 : Int64)), (.long (0 : Int64)), (.long (0 : Int64)), (.long (0 : Int64)), (.long (0 : Int64)), (.long (0 : Int64)), (.long (0 : Int64)), (.long (0 : Int64)), (.long (0 : Int64)), (.long (0 : Int64)), (.long (0 : Int64)), (.long (0 : Int64)), (.long (0 : Int64)), (.long (0 : Int64)), (.long (0 : Int64)), (.long (0 : Int64)), (.long (0 : Int64)), (.long (0 : Int64)), (.long (0 : Int64)), (.long (0 : Int64)), (.long (0 : Int64)), (.long (0 : Int64))] (.long (0 : Int64)) := (Arv.new A103 (by decide)).pad (pad_rep [] (.long (0 : Int64)) 33)
  have f107 := Nat.le_trans Z0 E103.1
  have f108 := O0.ext E103
  have f109 := Z1.ext E103
  have f110 := Z2.ext E103
  have f111 := Z3.ext E103
  have f112 := Z4.ext E103
  have f113 := Z5.ext E103
  have f114 := E1.ext E103
  have f115 := f101.ext E103
  obtain ⟨T116, h116, X116, e116, W116, st116⟩ := putF X103 hx hZ hown (host := "") (Or.inl (own_i hw 10 rfl)) Via.refl e103 f109 f114 (Or.inr ⟨(own_i hw 11 rfl), rfl, hnm⟩) (own_i hw 1 rfl) (ty := (.array .long)) (by decide) rfl rfl (g := (mkF m 9 #[.val (.ref a1), .val (.int (0 : Int32)), .unset, .unset, .unset, .unset, .unset, .unset, .unset] [(.ref b103), (.ref a1)])) rfl rfl (hb hby d1_9)
  have Fw116 := f109.same W116
  have N116 := Fr.snoc X116 N0 g1
  have f117 := Nat.le_trans f107 (Keep.of_wr W116).1
  have f118 := f108.wr W116 g1
  have f119 := f110.other W116 (Or.inr (slot_ne (Or.inr (own_i hw 15 rfl)) (Or.inr (own_i hw 11 rfl)) (by decide) (t := .long) (t' := (.array .long)) (by decide) (by decide)))
  have f120 := f111.other W116 (Or.inr (slot_ne (Or.inr (own_i hw 18 rfl)) (Or.inr (own_i hw 11 rfl)) (by decide) (t := .long) (t' := (.array .long)) (by decide) (by decide)))
  have f121 := f112.other W116 (Or.inr (slot_ne (Or.inr (own_i hw 20 rfl)) (Or.inr (own_i hw 11 rfl)) (by decide) (t := .long) (t' := (.array .long)) (by decide) (by decide)))
  have f122 := f113.other W116 (Or.inr (slot_ne (Or.inr (own_i hw 30 rfl)) (Or.inr (own_i hw 11 rfl)) (by decide) (t := .long) (t' := (.array .long)) (by decide) (by decide)))
  have f123 := f114.wr W116
  have f124 := f115.wr W116 (Or.inl (List.mem_of_getElem? (i := 0) rfl))
  have f125 := V103.other W116 (Ne.symm ne104)
  obtain ⟨T126, X126, e126, st126⟩ := getS2 X116 hx hZ hown (host := "") (Or.inl (own_i hw 12 rfl)) Via.refl e116 (SP.ext f118.2) (g := (mkF m 13 #[.val (.ref a1), .val (.int (0 : Int32)), .unset, .unset, .unset, .unset, .unset, .unset, .unset] [(.ref a1)])) rfl (hb hby d1_13)
  obtain ⟨cl127, Ar127, q127, S127, N127z, H127, G127⟩ := (id (AP.ext f118.2))
  have hin127 : ¬ ((0 : Int32) < 0 ∨ cl127.slots.size ≤ ((0 : Int32)).toNatClampNeg) := inb_of S127 ⟨by decide, by decide⟩
  have hat127 : cl127.slots[((0 : Int32)).toNatClampNeg]? = some (.long (2305842979148922881 : Int64)) := Has.at H127 hin127 rfl
  obtain ⟨T128, h128, X128, e128, W128, st128⟩ := putF X126 hx hZ hown (host := "") (Or.inl (own_i hw 14 rfl)) Via.refl e126 f119 f123 (Or.inr ⟨(own_i hw 15 rfl), rfl, hnm⟩) (own_i hw 1 rfl) (ty := .long) (by decide) rfl rfl (g := (mkF m 18 #[.val (.ref a1), .val (.int (0 : Int32)), .unset, .unset, .unset, .unset, .unset, .unset, .unset] [(.long (2305842979148922881 : Int64)), (.ref a1)])) rfl rfl (hb hby d1_18)
  have Fw128 := f119.same W128
  have N128 := Fr.snoc X128 N116 g1
  have f129 := Nat.le_trans f117 (Keep.of_wr W128).1
  have f130 := f118.wr W128 g1
  have f131 := f120.other W128 (Or.inr (slot_ne (Or.inr (own_i hw 18 rfl)) (Or.inr (own_i hw 15 rfl)) (by decide) (t := .long) (t' := .long) (by decide) (by decide)))
  have f132 := f121.other W128 (Or.inr (slot_ne (Or.inr (own_i hw 20 rfl)) (Or.inr (own_i hw 15 rfl)) (by decide) (t := .long) (t' := .long) (by decide) (by decide)))
  have f133 := f122.other W128 (Or.inr (slot_ne (Or.inr (own_i hw 30 rfl)) (Or.inr (own_i hw 15 rfl)) (by decide) (t := .long) (t' := .long) (by decide) (by decide)))
  have f134 := f123.wr W128
  have f135 := f124.wr W128 (Or.inl (List.mem_of_getElem? (i := 0) rfl))
  have f136 := f125.other W128 (Ne.symm ne104)
  have f137 := Fw116.other W128 (Or.inr (slot_ne (Or.inr (own_i hw 11 rfl)) (Or.inr (own_i hw 15 rfl)) (by decide) (t := (.array .long)) (t' := .long) (by decide) (by decide)))
  obtain ⟨T138, X138, e138, st138⟩ := getF X128 hx hZ hown (host := "") (Or.inl (own_i hw 14 rfl)) Via.refl e128 Fw128 (g := (mkF m 26 #[.val (.ref a1), .val (.int (0 : Int32)), .unset, .unset, .unset, .unset, .unset, .unset, .unset] [(.ref a1), (.long (2 : Int64)), (.ref a1)])) rfl rfl (hb hby d1_26)
  have pre139 : ∀ t, Steps p.tables e below (T138.setTop (mkF m 30 #[.val (.ref a1), .val (.int (0 : Int32)), .unset, .unset, .unset, .unset, .unset, .unset, .unset] [(.long ((2 : Int64) * (2305842979148922881 : Int64))), (.ref a1)])) t → Steps p.tables e below (s₁.setTop (entryFrame m #[(.ref a1), (.int (0 : Int32))] 9)) t := fun t k => pre0 t (by
    show Steps p.tables e below (s₁.setTop (mkF m 0 #[.val (.ref a1), .val (.int (0 : Int32)), .unset, .unset, .unset, .unset, .unset, .unset, .unset] [])) t
    refine XS.aloadN X0.here hx rfl (hb hby d1_0) rfl rfl ?_
    show Steps p.tables e below (s₁.setTop (mkF m 1 #[.val (.ref a1), .val (.int (0 : Int32)), .unset, .unset, .unset, .unset, .unset, .unset, .unset] [(.ref a1)])) t
    refine st102 _ ?_
    show Steps p.tables e below (T102.setTop (mkF m 4 #[.val (.ref a1), .val (.int (0 : Int32)), .unset, .unset, .unset, .unset, .unset, .unset, .unset] [])) t
    refine XS.aloadN X102.here hx rfl (hb hby d1_4) rfl rfl ?_
    show Steps p.tables e below (T102.setTop (mkF m 5 #[.val (.ref a1), .val (.int (0 : Int32)), .unset, .unset, .unset, .unset, .unset, .unset, .unset] [(.ref a1)])) t
    refine XS.bipush X102.here hx rfl (hb hby d1_5) ?_
    show Steps p.tables e below (T102.setTop (mkF m 7 #[.val (.ref a1), .val (.int (0 : Int32)), .unset, .unset, .unset, .unset, .unset, .unset, .unset] [(.int (33 : Int32)), (.ref a1)])) t
    refine st103 _ ?_
    show Steps p.tables e below (T103.setTop (mkF m 9 #[.val (.ref a1), .val (.int (0 : Int32)), .unset, .unset, .unset, .unset, .unset, .unset, .unset] [(.ref b103), (.ref a1)])) t
    refine st116 _ ?_
    show Steps p.tables e below (T116.setTop (mkF m 12 #[.val (.ref a1), .val (.int (0 : Int32)), .unset, .unset, .unset, .unset, .unset, .unset, .unset] [])) t
    refine XS.aloadN X116.here hx rfl (hb hby d1_12) rfl rfl ?_
    show Steps p.tables e below (T116.setTop (mkF m 13 #[.val (.ref a1), .val (.int (0 : Int32)), .unset, .unset, .unset, .unset, .unset, .unset, .unset] [(.ref a1)])) t
    refine st126 _ ?_
    show Steps p.tables e below (T126.setTop (mkF m 16 #[.val (.ref a1), .val (.int (0 : Int32)), .unset, .unset, .unset, .unset, .unset, .unset, .unset] [(.ref wP), (.ref a1)])) t
    refine XS.iloadN X126.here hx rfl (hb hby d1_16) rfl ?_
    show Steps p.tables e below (T126.setTop (mkF m 17 #[.val (.ref a1), .val (.int (0 : Int32)), .unset, .unset, .unset, .unset, .unset, .unset, .unset] [(.int (0 : Int32)), (.ref wP), (.ref a1)])) t
    refine X126.laload hx (j := (0 : Int32)) (v := (.long (2305842979148922881 : Int64))) (by rw [e126]; exact Ar127.1) (State.isArrayOf_alike hZ.alike Ar127.2.1) Ar127.2.2 hin127 hat127 (g := (mkF m 17 #[.val (.ref a1), .val (.int (0 : Int32)), .unset, .unset, .unset, .unset, .unset, .unset, .unset] [(.int (0 : Int32)), (.ref wP), (.ref a1)])) rfl rfl (hb hby d1_17) _ ?_
    show Steps p.tables e below (T126.setTop (mkF m 18 #[.val (.ref a1), .val (.int (0 : Int32)), .unset, .unset, .unset, .unset, .unset, .unset, .unset] [(.long (2305842979148922881 : Int64)), (.ref a1)])) t
    refine st128 _ ?_
    show Steps p.tables e below (T128.setTop (mkF m 21 #[.val (.ref a1), .val (.int (0 : Int32)), .unset, .unset, .unset, .unset, .unset, .unset, .unset] [])) t
    refine XS.aloadN X128.here hx rfl (hb hby d1_21) rfl rfl ?_
    show Steps p.tables e below (T128.setTop (mkF m 22 #[.val (.ref a1), .val (.int (0 : Int32)), .unset, .unset, .unset, .unset, .unset, .unset, .unset] [(.ref a1)])) t
    refine X128.ldc2Long hx hown (mvT hZ (own_i hw 16 rfl)) (g := (mkF m 22 #[.val (.ref a1), .val (.int (0 : Int32)), .unset, .unset, .unset, .unset, .unset, .unset, .unset] [(.ref a1)])) rfl (hb hby d1_22) _ ?_
    show Steps p.tables e below (T128.setTop (mkF m 25 #[.val (.ref a1), .val (.int (0 : Int32)), .unset, .unset, .unset, .unset, .unset, .unset, .unset] [(.long (2 : Int64)), (.ref a1)])) t
    refine XS.aloadN X128.here hx rfl (hb hby d1_25) rfl rfl ?_
    show Steps p.tables e below (T128.setTop (mkF m 26 #[.val (.ref a1), .val (.int (0 : Int32)), .unset, .unset, .unset, .unset, .unset, .unset, .unset] [(.ref a1), (.long (2 : Int64)), (.ref a1)])) t
    refine st138 _ ?_
    show Steps p.tables e below (T138.setTop (mkF m 29 #[.val (.ref a1), .val (.int (0 : Int32)), .unset, .unset, .unset, .unset, .unset, .unset, .unset] [(.long (2305842979148922881 : Int64)), (.long (2 : Int64)), (.ref a1)])) t
    refine XS.lmul X138.here hx rfl (hb hby d1_29) rfl ?_
    exact k)
  have pre140 : ∀ t, Steps p.tables e below (T138.setTop (mkF m 30 #[.val (.ref a1), .val (.int (0 : Int32)), .unset, .unset, .unset, .unset, .unset, .unset, .unset] [(.long (4611685958297845762 : Int64)), (.ref a1)])) t → Steps p.tables e below (s₁.setTop (entryFrame m #[(.ref a1), (.int (0 : Int32))] 9)) t := fun t k => pre139 t (by rw [show ((2 : Int64) * (2305842979148922881 : Int64)) = (4611685958297845762 : Int64) from (by decide +kernel)]; exact k)
  obtain ⟨T141, h141, X141, e141, W141, st141⟩ := putF X138 hx hZ hown (host := "") (Or.inl (own_i hw 17 rfl)) Via.refl e138 f131 f134 (Or.inr ⟨(own_i hw 18 rfl), rfl, hnm⟩) (own_i hw 1 rfl) (ty := .long) (by decide) rfl rfl (g := (mkF m 30 #[.val (.ref a1), .val (.int (0 : Int32)), .unset, .unset, .unset, .unset, .unset, .unset, .unset] [(.long (4611685958297845762 : Int64)), (.ref a1)])) rfl rfl (hb hby d1_30)
  have Fw141 := f131.same W141
  have N141 := Fr.snoc X141 N128 g1
  have f142 := Nat.le_trans f129 (Keep.of_wr W141).1
  have f143 := f130.wr W141 g1
  have f144 := f132.other W141 (Or.inr (slot_ne (Or.inr (own_i hw 20 rfl)) (Or.inr (own_i hw 18 rfl)) (by decide) (t := .long) (t' := .long) (by decide) (by decide)))
  have f145 := f133.other W141 (Or.inr (slot_ne (Or.inr (own_i hw 30 rfl)) (Or.inr (own_i hw 18 rfl)) (by decide) (t := .long) (t' := .long) (by decide) (by decide)))
  have f146 := f134.wr W141
  have f147 := f135.wr W141 (Or.inl (List.mem_of_getElem? (i := 0) rfl))
  have f148 := f136.other W141 (Ne.symm ne104)
  have f149 := f137.other W141 (Or.inr (slot_ne (Or.inr (own_i hw 11 rfl)) (Or.inr (own_i hw 18 rfl)) (by decide) (t := (.array .long)) (t' := .long) (by decide) (by decide)))
  have f150 := Fw128.other W141 (Or.inr (slot_ne (Or.inr (own_i hw 15 rfl)) (Or.inr (own_i hw 18 rfl)) (by decide) (t := .long) (t' := .long) (by decide) (by decide)))
  obtain ⟨T151, X151, e151, st151⟩ := getF X141 hx hZ hown (host := "") (Or.inl (own_i hw 14 rfl)) Via.refl e141 f150 (g := (mkF m 34 #[.val (.ref a1), .val (.int (0 : Int32)), .unset, .unset, .unset, .unset, .unset, .unset, .unset] [(.ref a1)])) rfl rfl (hb hby d1_34)
  obtain ⟨T152, X152, e152, st152⟩ := getF X151 hx hZ hown (host := "") (Or.inl (own_i hw 14 rfl)) Via.refl e151 f150 (g := (mkF m 52 #[.val (.ref a1), .val (.int (0 : Int32)), .val (.long (2305842979148922881 : Int64)), .second, .val (.int (0 : Int32)), .unset, .unset, .unset, .unset] [(.ref a1), (.long (2 : Int64)), (.long (2305842979148922881 : Int64))])) rfl rfl (hb hby d1_52)
  have pre153 : ∀ t, Steps p.tables e below (T152.setTop (mkF m 57 #[.val (.ref a1), .val (.int (0 : Int32)), .val (.long (2305842979148922881 : Int64)), .second, .val (.int (0 : Int32)), .unset, .unset, .unset, .unset] [(.long ((2305842979148922881 : Int64) * (2305842979148922881 : Int64))), (.long (2 : Int64)), (.long (2305842979148922881 : Int64))])) t → Steps p.tables e below (s₁.setTop (entryFrame m #[(.ref a1), (.int (0 : Int32))] 9)) t := fun t k => pre140 t (by
    show Steps p.tables e below (T138.setTop (mkF m 30 #[.val (.ref a1), .val (.int (0 : Int32)), .unset, .unset, .unset, .unset, .unset, .unset, .unset] [(.long (4611685958297845762 : Int64)), (.ref a1)])) t
    refine st141 _ ?_
    show Steps p.tables e below (T141.setTop (mkF m 33 #[.val (.ref a1), .val (.int (0 : Int32)), .unset, .unset, .unset, .unset, .unset, .unset, .unset] [])) t
    refine XS.aloadN X141.here hx rfl (hb hby d1_33) rfl rfl ?_
    show Steps p.tables e below (T141.setTop (mkF m 34 #[.val (.ref a1), .val (.int (0 : Int32)), .unset, .unset, .unset, .unset, .unset, .unset, .unset] [(.ref a1)])) t
    refine st151 _ ?_
    show Steps p.tables e below (T151.setTop (mkF m 37 #[.val (.ref a1), .val (.int (0 : Int32)), .unset, .unset, .unset, .unset, .unset, .unset, .unset] [(.long (2305842979148922881 : Int64))])) t
    refine XS.lstoreN X151.here hx rfl (hb hby d1_37) rfl (l' := #[.val (.ref a1), .val (.int (0 : Int32)), .val (.long (2305842979148922881 : Int64)), .second, .unset, .unset, .unset, .unset, .unset]) rfl ?_
    show Steps p.tables e below (T151.setTop (mkF m 38 #[.val (.ref a1), .val (.int (0 : Int32)), .val (.long (2305842979148922881 : Int64)), .second, .unset, .unset, .unset, .unset, .unset] [])) t
    refine XS.iconst X151.here hx rfl (hb hby d1_38) ?_
    show Steps p.tables e below (T151.setTop (mkF m 39 #[.val (.ref a1), .val (.int (0 : Int32)), .val (.long (2305842979148922881 : Int64)), .second, .unset, .unset, .unset, .unset, .unset] [(.int (0 : Int32))])) t
    refine XS.istore X151.here hx rfl (hb hby d1_39) rfl (l' := #[.val (.ref a1), .val (.int (0 : Int32)), .val (.long (2305842979148922881 : Int64)), .second, .val (.int (0 : Int32)), .unset, .unset, .unset, .unset]) rfl ?_
    show Steps p.tables e below (T151.setTop (mkF m 41 #[.val (.ref a1), .val (.int (0 : Int32)), .val (.long (2305842979148922881 : Int64)), .second, .val (.int (0 : Int32)), .unset, .unset, .unset, .unset] [])) t
    refine XS.iload X151.here hx rfl (hb hby d1_41) rfl ?_
    show Steps p.tables e below (T151.setTop (mkF m 43 #[.val (.ref a1), .val (.int (0 : Int32)), .val (.long (2305842979148922881 : Int64)), .second, .val (.int (0 : Int32)), .unset, .unset, .unset, .unset] [(.int (0 : Int32))])) t
    refine XS.iconst X151.here hx rfl (hb hby d1_43) ?_
    show Steps p.tables e below (T151.setTop (mkF m 44 #[.val (.ref a1), .val (.int (0 : Int32)), .val (.long (2305842979148922881 : Int64)), .second, .val (.int (0 : Int32)), .unset, .unset, .unset, .unset] [(.int (5 : Int32)), (.int (0 : Int32))])) t
    refine XS.icmpNo X151.here hx rfl (hb hby d1_44) rfl (tlt (by decide : (0 : Int32) < (5 : Int32))).2.1 ?_
    show Steps p.tables e below (T151.setTop (mkF m 47 #[.val (.ref a1), .val (.int (0 : Int32)), .val (.long (2305842979148922881 : Int64)), .second, .val (.int (0 : Int32)), .unset, .unset, .unset, .unset] [])) t
    refine XS.lloadN X151.here hx rfl (hb hby d1_47) rfl ?_
    show Steps p.tables e below (T151.setTop (mkF m 48 #[.val (.ref a1), .val (.int (0 : Int32)), .val (.long (2305842979148922881 : Int64)), .second, .val (.int (0 : Int32)), .unset, .unset, .unset, .unset] [(.long (2305842979148922881 : Int64))])) t
    refine X151.ldc2Long hx hown (mvT hZ (own_i hw 16 rfl)) (g := (mkF m 48 #[.val (.ref a1), .val (.int (0 : Int32)), .val (.long (2305842979148922881 : Int64)), .second, .val (.int (0 : Int32)), .unset, .unset, .unset, .unset] [(.long (2305842979148922881 : Int64))])) rfl (hb hby d1_48) _ ?_
    show Steps p.tables e below (T151.setTop (mkF m 51 #[.val (.ref a1), .val (.int (0 : Int32)), .val (.long (2305842979148922881 : Int64)), .second, .val (.int (0 : Int32)), .unset, .unset, .unset, .unset] [(.long (2 : Int64)), (.long (2305842979148922881 : Int64))])) t
    refine XS.aloadN X151.here hx rfl (hb hby d1_51) rfl rfl ?_
    show Steps p.tables e below (T151.setTop (mkF m 52 #[.val (.ref a1), .val (.int (0 : Int32)), .val (.long (2305842979148922881 : Int64)), .second, .val (.int (0 : Int32)), .unset, .unset, .unset, .unset] [(.ref a1), (.long (2 : Int64)), (.long (2305842979148922881 : Int64))])) t
    refine st152 _ ?_
    show Steps p.tables e below (T152.setTop (mkF m 55 #[.val (.ref a1), .val (.int (0 : Int32)), .val (.long (2305842979148922881 : Int64)), .second, .val (.int (0 : Int32)), .unset, .unset, .unset, .unset] [(.long (2305842979148922881 : Int64)), (.long (2 : Int64)), (.long (2305842979148922881 : Int64))])) t
    refine XS.lloadN X152.here hx rfl (hb hby d1_55) rfl ?_
    show Steps p.tables e below (T152.setTop (mkF m 56 #[.val (.ref a1), .val (.int (0 : Int32)), .val (.long (2305842979148922881 : Int64)), .second, .val (.int (0 : Int32)), .unset, .unset, .unset, .unset] [(.long (2305842979148922881 : Int64)), (.long (2305842979148922881 : Int64)), (.long (2 : Int64)), (.long (2305842979148922881 : Int64))])) t
    refine XS.lmul X152.here hx rfl (hb hby d1_56) rfl ?_
    exact k)
  have pre154 : ∀ t, Steps p.tables e below (T152.setTop (mkF m 57 #[.val (.ref a1), .val (.int (0 : Int32)), .val (.long (2305842979148922881 : Int64)), .second, .val (.int (0 : Int32)), .unset, .unset, .unset, .unset] [(.long (4611685958297845761 : Int64)), (.long (2 : Int64)), (.long (2305842979148922881 : Int64))])) t → Steps p.tables e below (s₁.setTop (entryFrame m #[(.ref a1), (.int (0 : Int32))] 9)) t := fun t k => pre153 t (by rw [show ((2305842979148922881 : Int64) * (2305842979148922881 : Int64)) = (4611685958297845761 : Int64) from (by decide +kernel)]; exact k)
  have pre155 : ∀ t, Steps p.tables e below (T152.setTop (mkF m 58 #[.val (.ref a1), .val (.int (0 : Int32)), .val (.long (2305842979148922881 : Int64)), .second, .val (.int (0 : Int32)), .unset, .unset, .unset, .unset] [(.long ((2 : Int64) - (4611685958297845761 : Int64))), (.long (2305842979148922881 : Int64))])) t → Steps p.tables e below (s₁.setTop (entryFrame m #[(.ref a1), (.int (0 : Int32))] 9)) t := fun t k => pre154 t (by
    show Steps p.tables e below (T152.setTop (mkF m 57 #[.val (.ref a1), .val (.int (0 : Int32)), .val (.long (2305842979148922881 : Int64)), .second, .val (.int (0 : Int32)), .unset, .unset, .unset, .unset] [(.long (4611685958297845761 : Int64)), (.long (2 : Int64)), (.long (2305842979148922881 : Int64))])) t
    refine XS.lsub X152.here hx rfl (hb hby d1_57) rfl ?_
    exact k)
  have pre156 : ∀ t, Steps p.tables e below (T152.setTop (mkF m 58 #[.val (.ref a1), .val (.int (0 : Int32)), .val (.long (2305842979148922881 : Int64)), .second, .val (.int (0 : Int32)), .unset, .unset, .unset, .unset] [(.long (-4611685958297845759 : Int64)), (.long (2305842979148922881 : Int64))])) t → Steps p.tables e below (s₁.setTop (entryFrame m #[(.ref a1), (.int (0 : Int32))] 9)) t := fun t k => pre155 t (by rw [show ((2 : Int64) - (4611685958297845761 : Int64)) = (-4611685958297845759 : Int64) from (by decide +kernel)]; exact k)
  have pre157 : ∀ t, Steps p.tables e below (T152.setTop (mkF m 59 #[.val (.ref a1), .val (.int (0 : Int32)), .val (.long (2305842979148922881 : Int64)), .second, .val (.int (0 : Int32)), .unset, .unset, .unset, .unset] [(.long ((2305842979148922881 : Int64) * (-4611685958297845759 : Int64)))])) t → Steps p.tables e below (s₁.setTop (entryFrame m #[(.ref a1), (.int (0 : Int32))] 9)) t := fun t k => pre156 t (by
    show Steps p.tables e below (T152.setTop (mkF m 58 #[.val (.ref a1), .val (.int (0 : Int32)), .val (.long (2305842979148922881 : Int64)), .second, .val (.int (0 : Int32)), .unset, .unset, .unset, .unset] [(.long (-4611685958297845759 : Int64)), (.long (2305842979148922881 : Int64))])) t
    refine XS.lmul X152.here hx rfl (hb hby d1_58) rfl ?_
    exact k)
  have pre158 : ∀ t, Steps p.tables e below (T152.setTop (mkF m 59 #[.val (.ref a1), .val (.int (0 : Int32)), .val (.long (2305842979148922881 : Int64)), .second, .val (.int (0 : Int32)), .unset, .unset, .unset, .unset] [(.long (-2305842979148922879 : Int64))])) t → Steps p.tables e below (s₁.setTop (entryFrame m #[(.ref a1), (.int (0 : Int32))] 9)) t := fun t k => pre157 t (by rw [show ((2305842979148922881 : Int64) * (-4611685958297845759 : Int64)) = (-2305842979148922879 : Int64) from (by decide +kernel)]; exact k)
  obtain ⟨T159, X159, e159, st159⟩ := getF X152 hx hZ hown (host := "") (Or.inl (own_i hw 14 rfl)) Via.refl e152 f150 (g := (mkF m 52 #[.val (.ref a1), .val (.int (0 : Int32)), .val (.long (-2305842979148922879 : Int64)), .second, .val (.int (1 : Int32)), .unset, .unset, .unset, .unset] [(.ref a1), (.long (2 : Int64)), (.long (-2305842979148922879 : Int64))])) rfl rfl (hb hby d1_52)
  have pre160 : ∀ t, Steps p.tables e below (T159.setTop (mkF m 57 #[.val (.ref a1), .val (.int (0 : Int32)), .val (.long (-2305842979148922879 : Int64)), .second, .val (.int (1 : Int32)), .unset, .unset, .unset, .unset] [(.long ((2305842979148922881 : Int64) * (-2305842979148922879 : Int64))), (.long (2 : Int64)), (.long (-2305842979148922879 : Int64))])) t → Steps p.tables e below (s₁.setTop (entryFrame m #[(.ref a1), (.int (0 : Int32))] 9)) t := fun t k => pre158 t (by
    show Steps p.tables e below (T152.setTop (mkF m 59 #[.val (.ref a1), .val (.int (0 : Int32)), .val (.long (2305842979148922881 : Int64)), .second, .val (.int (0 : Int32)), .unset, .unset, .unset, .unset] [(.long (-2305842979148922879 : Int64))])) t
    refine XS.lstoreN X152.here hx rfl (hb hby d1_59) rfl (l' := #[.val (.ref a1), .val (.int (0 : Int32)), .val (.long (-2305842979148922879 : Int64)), .second, .val (.int (0 : Int32)), .unset, .unset, .unset, .unset]) rfl ?_
    show Steps p.tables e below (T152.setTop (mkF m 60 #[.val (.ref a1), .val (.int (0 : Int32)), .val (.long (-2305842979148922879 : Int64)), .second, .val (.int (0 : Int32)), .unset, .unset, .unset, .unset] [])) t
    refine XS.iinc X152.here hx rfl (hb hby d1_60) rfl (l' := #[.val (.ref a1), .val (.int (0 : Int32)), .val (.long (-2305842979148922879 : Int64)), .second, .val (.int (1 : Int32)), .unset, .unset, .unset, .unset]) rfl ?_
    show Steps p.tables e below (T152.setTop (mkF m 63 #[.val (.ref a1), .val (.int (0 : Int32)), .val (.long (-2305842979148922879 : Int64)), .second, .val (.int (1 : Int32)), .unset, .unset, .unset, .unset] [])) t
    refine XS.goto X152.here hx rfl (pc0 := 63) (pc' := 41) rfl (hb hby d1_63) (by decide) (by decide) ?_
    show Steps p.tables e below (T152.setTop (mkF m 41 #[.val (.ref a1), .val (.int (0 : Int32)), .val (.long (-2305842979148922879 : Int64)), .second, .val (.int (1 : Int32)), .unset, .unset, .unset, .unset] [])) t
    refine XS.iload X152.here hx rfl (hb hby d1_41) rfl ?_
    show Steps p.tables e below (T152.setTop (mkF m 43 #[.val (.ref a1), .val (.int (0 : Int32)), .val (.long (-2305842979148922879 : Int64)), .second, .val (.int (1 : Int32)), .unset, .unset, .unset, .unset] [(.int (1 : Int32))])) t
    refine XS.iconst X152.here hx rfl (hb hby d1_43) ?_
    show Steps p.tables e below (T152.setTop (mkF m 44 #[.val (.ref a1), .val (.int (0 : Int32)), .val (.long (-2305842979148922879 : Int64)), .second, .val (.int (1 : Int32)), .unset, .unset, .unset, .unset] [(.int (5 : Int32)), (.int (1 : Int32))])) t
    refine XS.icmpNo X152.here hx rfl (hb hby d1_44) rfl (tlt (by decide : (1 : Int32) < (5 : Int32))).2.1 ?_
    show Steps p.tables e below (T152.setTop (mkF m 47 #[.val (.ref a1), .val (.int (0 : Int32)), .val (.long (-2305842979148922879 : Int64)), .second, .val (.int (1 : Int32)), .unset, .unset, .unset, .unset] [])) t
    refine XS.lloadN X152.here hx rfl (hb hby d1_47) rfl ?_
    show Steps p.tables e below (T152.setTop (mkF m 48 #[.val (.ref a1), .val (.int (0 : Int32)), .val (.long (-2305842979148922879 : Int64)), .second, .val (.int (1 : Int32)), .unset, .unset, .unset, .unset] [(.long (-2305842979148922879 : Int64))])) t
    refine X152.ldc2Long hx hown (mvT hZ (own_i hw 16 rfl)) (g := (mkF m 48 #[.val (.ref a1), .val (.int (0 : Int32)), .val (.long (-2305842979148922879 : Int64)), .second, .val (.int (1 : Int32)), .unset, .unset, .unset, .unset] [(.long (-2305842979148922879 : Int64))])) rfl (hb hby d1_48) _ ?_
    show Steps p.tables e below (T152.setTop (mkF m 51 #[.val (.ref a1), .val (.int (0 : Int32)), .val (.long (-2305842979148922879 : Int64)), .second, .val (.int (1 : Int32)), .unset, .unset, .unset, .unset] [(.long (2 : Int64)), (.long (-2305842979148922879 : Int64))])) t
    refine XS.aloadN X152.here hx rfl (hb hby d1_51) rfl rfl ?_
    show Steps p.tables e below (T152.setTop (mkF m 52 #[.val (.ref a1), .val (.int (0 : Int32)), .val (.long (-2305842979148922879 : Int64)), .second, .val (.int (1 : Int32)), .unset, .unset, .unset, .unset] [(.ref a1), (.long (2 : Int64)), (.long (-2305842979148922879 : Int64))])) t
    refine st159 _ ?_
    show Steps p.tables e below (T159.setTop (mkF m 55 #[.val (.ref a1), .val (.int (0 : Int32)), .val (.long (-2305842979148922879 : Int64)), .second, .val (.int (1 : Int32)), .unset, .unset, .unset, .unset] [(.long (2305842979148922881 : Int64)), (.long (2 : Int64)), (.long (-2305842979148922879 : Int64))])) t
    refine XS.lloadN X159.here hx rfl (hb hby d1_55) rfl ?_
    show Steps p.tables e below (T159.setTop (mkF m 56 #[.val (.ref a1), .val (.int (0 : Int32)), .val (.long (-2305842979148922879 : Int64)), .second, .val (.int (1 : Int32)), .unset, .unset, .unset, .unset] [(.long (-2305842979148922879 : Int64)), (.long (2305842979148922881 : Int64)), (.long (2 : Int64)), (.long (-2305842979148922879 : Int64))])) t
    refine XS.lmul X159.here hx rfl (hb hby d1_56) rfl ?_
    exact k)
  have pre161 : ∀ t, Steps p.tables e below (T159.setTop (mkF m 57 #[.val (.ref a1), .val (.int (0 : Int32)), .val (.long (-2305842979148922879 : Int64)), .second, .val (.int (1 : Int32)), .unset, .unset, .unset, .unset] [(.long (1 : Int64)), (.long (2 : Int64)), (.long (-2305842979148922879 : Int64))])) t → Steps p.tables e below (s₁.setTop (entryFrame m #[(.ref a1), (.int (0 : Int32))] 9)) t := fun t k => pre160 t (by rw [show ((2305842979148922881 : Int64) * (-2305842979148922879 : Int64)) = (1 : Int64) from (by decide +kernel)]; exact k)
  have pre162 : ∀ t, Steps p.tables e below (T159.setTop (mkF m 58 #[.val (.ref a1), .val (.int (0 : Int32)), .val (.long (-2305842979148922879 : Int64)), .second, .val (.int (1 : Int32)), .unset, .unset, .unset, .unset] [(.long ((2 : Int64) - (1 : Int64))), (.long (-2305842979148922879 : Int64))])) t → Steps p.tables e below (s₁.setTop (entryFrame m #[(.ref a1), (.int (0 : Int32))] 9)) t := fun t k => pre161 t (by
    show Steps p.tables e below (T159.setTop (mkF m 57 #[.val (.ref a1), .val (.int (0 : Int32)), .val (.long (-2305842979148922879 : Int64)), .second, .val (.int (1 : Int32)), .unset, .unset, .unset, .unset] [(.long (1 : Int64)), (.long (2 : Int64)), (.long (-2305842979148922879 : Int64))])) t
    refine XS.lsub X159.here hx rfl (hb hby d1_57) rfl ?_
    exact k)
  have pre163 : ∀ t, Steps p.tables e below (T159.setTop (mkF m 58 #[.val (.ref a1), .val (.int (0 : Int32)), .val (.long (-2305842979148922879 : Int64)), .second, .val (.int (1 : Int32)), .unset, .unset, .unset, .unset] [(.long (1 : Int64)), (.long (-2305842979148922879 : Int64))])) t → Steps p.tables e below (s₁.setTop (entryFrame m #[(.ref a1), (.int (0 : Int32))] 9)) t := fun t k => pre162 t (by rw [show ((2 : Int64) - (1 : Int64)) = (1 : Int64) from (by decide +kernel)]; exact k)
  have pre164 : ∀ t, Steps p.tables e below (T159.setTop (mkF m 59 #[.val (.ref a1), .val (.int (0 : Int32)), .val (.long (-2305842979148922879 : Int64)), .second, .val (.int (1 : Int32)), .unset, .unset, .unset, .unset] [(.long ((-2305842979148922879 : Int64) * (1 : Int64)))])) t → Steps p.tables e below (s₁.setTop (entryFrame m #[(.ref a1), (.int (0 : Int32))] 9)) t := fun t k => pre163 t (by
    show Steps p.tables e below (T159.setTop (mkF m 58 #[.val (.ref a1), .val (.int (0 : Int32)), .val (.long (-2305842979148922879 : Int64)), .second, .val (.int (1 : Int32)), .unset, .unset, .unset, .unset] [(.long (1 : Int64)), (.long (-2305842979148922879 : Int64))])) t
    refine XS.lmul X159.here hx rfl (hb hby d1_58) rfl ?_
    exact k)
  have pre165 : ∀ t, Steps p.tables e below (T159.setTop (mkF m 59 #[.val (.ref a1), .val (.int (0 : Int32)), .val (.long (-2305842979148922879 : Int64)), .second, .val (.int (1 : Int32)), .unset, .unset, .unset, .unset] [(.long (-2305842979148922879 : Int64))])) t → Steps p.tables e below (s₁.setTop (entryFrame m #[(.ref a1), (.int (0 : Int32))] 9)) t := fun t k => pre164 t (by rw [show ((-2305842979148922879 : Int64) * (1 : Int64)) = (-2305842979148922879 : Int64) from (by decide +kernel)]; exact k)
  obtain ⟨T166, X166, e166, st166⟩ := getF X159 hx hZ hown (host := "") (Or.inl (own_i hw 14 rfl)) Via.refl e159 f150 (g := (mkF m 52 #[.val (.ref a1), .val (.int (0 : Int32)), .val (.long (-2305842979148922879 : Int64)), .second, .val (.int (2 : Int32)), .unset, .unset, .unset, .unset] [(.ref a1), (.long (2 : Int64)), (.long (-2305842979148922879 : Int64))])) rfl rfl (hb hby d1_52)
  have pre167 : ∀ t, Steps p.tables e below (T166.setTop (mkF m 57 #[.val (.ref a1), .val (.int (0 : Int32)), .val (.long (-2305842979148922879 : Int64)), .second, .val (.int (2 : Int32)), .unset, .unset, .unset, .unset] [(.long ((2305842979148922881 : Int64) * (-2305842979148922879 : Int64))), (.long (2 : Int64)), (.long (-2305842979148922879 : Int64))])) t → Steps p.tables e below (s₁.setTop (entryFrame m #[(.ref a1), (.int (0 : Int32))] 9)) t := fun t k => pre165 t (by
    show Steps p.tables e below (T159.setTop (mkF m 59 #[.val (.ref a1), .val (.int (0 : Int32)), .val (.long (-2305842979148922879 : Int64)), .second, .val (.int (1 : Int32)), .unset, .unset, .unset, .unset] [(.long (-2305842979148922879 : Int64))])) t
    refine XS.lstoreN X159.here hx rfl (hb hby d1_59) rfl (l' := #[.val (.ref a1), .val (.int (0 : Int32)), .val (.long (-2305842979148922879 : Int64)), .second, .val (.int (1 : Int32)), .unset, .unset, .unset, .unset]) rfl ?_
    show Steps p.tables e below (T159.setTop (mkF m 60 #[.val (.ref a1), .val (.int (0 : Int32)), .val (.long (-2305842979148922879 : Int64)), .second, .val (.int (1 : Int32)), .unset, .unset, .unset, .unset] [])) t
    refine XS.iinc X159.here hx rfl (hb hby d1_60) rfl (l' := #[.val (.ref a1), .val (.int (0 : Int32)), .val (.long (-2305842979148922879 : Int64)), .second, .val (.int (2 : Int32)), .unset, .unset, .unset, .unset]) rfl ?_
    show Steps p.tables e below (T159.setTop (mkF m 63 #[.val (.ref a1), .val (.int (0 : Int32)), .val (.long (-2305842979148922879 : Int64)), .second, .val (.int (2 : Int32)), .unset, .unset, .unset, .unset] [])) t
    refine XS.goto X159.here hx rfl (pc0 := 63) (pc' := 41) rfl (hb hby d1_63) (by decide) (by decide) ?_
    show Steps p.tables e below (T159.setTop (mkF m 41 #[.val (.ref a1), .val (.int (0 : Int32)), .val (.long (-2305842979148922879 : Int64)), .second, .val (.int (2 : Int32)), .unset, .unset, .unset, .unset] [])) t
    refine XS.iload X159.here hx rfl (hb hby d1_41) rfl ?_
    show Steps p.tables e below (T159.setTop (mkF m 43 #[.val (.ref a1), .val (.int (0 : Int32)), .val (.long (-2305842979148922879 : Int64)), .second, .val (.int (2 : Int32)), .unset, .unset, .unset, .unset] [(.int (2 : Int32))])) t
    refine XS.iconst X159.here hx rfl (hb hby d1_43) ?_
    show Steps p.tables e below (T159.setTop (mkF m 44 #[.val (.ref a1), .val (.int (0 : Int32)), .val (.long (-2305842979148922879 : Int64)), .second, .val (.int (2 : Int32)), .unset, .unset, .unset, .unset] [(.int (5 : Int32)), (.int (2 : Int32))])) t
    refine XS.icmpNo X159.here hx rfl (hb hby d1_44) rfl (tlt (by decide : (2 : Int32) < (5 : Int32))).2.1 ?_
    show Steps p.tables e below (T159.setTop (mkF m 47 #[.val (.ref a1), .val (.int (0 : Int32)), .val (.long (-2305842979148922879 : Int64)), .second, .val (.int (2 : Int32)), .unset, .unset, .unset, .unset] [])) t
    refine XS.lloadN X159.here hx rfl (hb hby d1_47) rfl ?_
    show Steps p.tables e below (T159.setTop (mkF m 48 #[.val (.ref a1), .val (.int (0 : Int32)), .val (.long (-2305842979148922879 : Int64)), .second, .val (.int (2 : Int32)), .unset, .unset, .unset, .unset] [(.long (-2305842979148922879 : Int64))])) t
    refine X159.ldc2Long hx hown (mvT hZ (own_i hw 16 rfl)) (g := (mkF m 48 #[.val (.ref a1), .val (.int (0 : Int32)), .val (.long (-2305842979148922879 : Int64)), .second, .val (.int (2 : Int32)), .unset, .unset, .unset, .unset] [(.long (-2305842979148922879 : Int64))])) rfl (hb hby d1_48) _ ?_
    show Steps p.tables e below (T159.setTop (mkF m 51 #[.val (.ref a1), .val (.int (0 : Int32)), .val (.long (-2305842979148922879 : Int64)), .second, .val (.int (2 : Int32)), .unset, .unset, .unset, .unset] [(.long (2 : Int64)), (.long (-2305842979148922879 : Int64))])) t
    refine XS.aloadN X159.here hx rfl (hb hby d1_51) rfl rfl ?_
    show Steps p.tables e below (T159.setTop (mkF m 52 #[.val (.ref a1), .val (.int (0 : Int32)), .val (.long (-2305842979148922879 : Int64)), .second, .val (.int (2 : Int32)), .unset, .unset, .unset, .unset] [(.ref a1), (.long (2 : Int64)), (.long (-2305842979148922879 : Int64))])) t
    refine st166 _ ?_
    show Steps p.tables e below (T166.setTop (mkF m 55 #[.val (.ref a1), .val (.int (0 : Int32)), .val (.long (-2305842979148922879 : Int64)), .second, .val (.int (2 : Int32)), .unset, .unset, .unset, .unset] [(.long (2305842979148922881 : Int64)), (.long (2 : Int64)), (.long (-2305842979148922879 : Int64))])) t
    refine XS.lloadN X166.here hx rfl (hb hby d1_55) rfl ?_
    show Steps p.tables e below (T166.setTop (mkF m 56 #[.val (.ref a1), .val (.int (0 : Int32)), .val (.long (-2305842979148922879 : Int64)), .second, .val (.int (2 : Int32)), .unset, .unset, .unset, .unset] [(.long (-2305842979148922879 : Int64)), (.long (2305842979148922881 : Int64)), (.long (2 : Int64)), (.long (-2305842979148922879 : Int64))])) t
    refine XS.lmul X166.here hx rfl (hb hby d1_56) rfl ?_
    exact k)
  have pre168 : ∀ t, Steps p.tables e below (T166.setTop (mkF m 57 #[.val (.ref a1), .val (.int (0 : Int32)), .val (.long (-2305842979148922879 : Int64)), .second, .val (.int (2 : Int32)), .unset, .unset, .unset, .unset] [(.long (1 : Int64)), (.long (2 : Int64)), (.long (-2305842979148922879 : Int64))])) t → Steps p.tables e below (s₁.setTop (entryFrame m #[(.ref a1), (.int (0 : Int32))] 9)) t := fun t k => pre167 t (by rw [show ((2305842979148922881 : Int64) * (-2305842979148922879 : Int64)) = (1 : Int64) from (by decide +kernel)]; exact k)
  have pre169 : ∀ t, Steps p.tables e below (T166.setTop (mkF m 58 #[.val (.ref a1), .val (.int (0 : Int32)), .val (.long (-2305842979148922879 : Int64)), .second, .val (.int (2 : Int32)), .unset, .unset, .unset, .unset] [(.long ((2 : Int64) - (1 : Int64))), (.long (-2305842979148922879 : Int64))])) t → Steps p.tables e below (s₁.setTop (entryFrame m #[(.ref a1), (.int (0 : Int32))] 9)) t := fun t k => pre168 t (by
    show Steps p.tables e below (T166.setTop (mkF m 57 #[.val (.ref a1), .val (.int (0 : Int32)), .val (.long (-2305842979148922879 : Int64)), .second, .val (.int (2 : Int32)), .unset, .unset, .unset, .unset] [(.long (1 : Int64)), (.long (2 : Int64)), (.long (-2305842979148922879 : Int64))])) t
    refine XS.lsub X166.here hx rfl (hb hby d1_57) rfl ?_
    exact k)
  have pre170 : ∀ t, Steps p.tables e below (T166.setTop (mkF m 58 #[.val (.ref a1), .val (.int (0 : Int32)), .val (.long (-2305842979148922879 : Int64)), .second, .val (.int (2 : Int32)), .unset, .unset, .unset, .unset] [(.long (1 : Int64)), (.long (-2305842979148922879 : Int64))])) t → Steps p.tables e below (s₁.setTop (entryFrame m #[(.ref a1), (.int (0 : Int32))] 9)) t := fun t k => pre169 t (by rw [show ((2 : Int64) - (1 : Int64)) = (1 : Int64) from (by decide +kernel)]; exact k)
  have pre171 : ∀ t, Steps p.tables e below (T166.setTop (mkF m 59 #[.val (.ref a1), .val (.int (0 : Int32)), .val (.long (-2305842979148922879 : Int64)), .second, .val (.int (2 : Int32)), .unset, .unset, .unset, .unset] [(.long ((-2305842979148922879 : Int64) * (1 : Int64)))])) t → Steps p.tables e below (s₁.setTop (entryFrame m #[(.ref a1), (.int (0 : Int32))] 9)) t := fun t k => pre170 t (by
    show Steps p.tables e below (T166.setTop (mkF m 58 #[.val (.ref a1), .val (.int (0 : Int32)), .val (.long (-2305842979148922879 : Int64)), .second, .val (.int (2 : Int32)), .unset, .unset, .unset, .unset] [(.long (1 : Int64)), (.long (-2305842979148922879 : Int64))])) t
    refine XS.lmul X166.here hx rfl (hb hby d1_58) rfl ?_
    exact k)
  have pre172 : ∀ t, Steps p.tables e below (T166.setTop (mkF m 59 #[.val (.ref a1), .val (.int (0 : Int32)), .val (.long (-2305842979148922879 : Int64)), .second, .val (.int (2 : Int32)), .unset, .unset, .unset, .unset] [(.long (-2305842979148922879 : Int64))])) t → Steps p.tables e below (s₁.setTop (entryFrame m #[(.ref a1), (.int (0 : Int32))] 9)) t := fun t k => pre171 t (by rw [show ((-2305842979148922879 : Int64) * (1 : Int64)) = (-2305842979148922879 : Int64) from (by decide +kernel)]; exact k)
  obtain ⟨T173, X173, e173, st173⟩ := getF X166 hx hZ hown (host := "") (Or.inl (own_i hw 14 rfl)) Via.refl e166 f150 (g := (mkF m 52 #[.val (.ref a1), .val (.int (0 : Int32)), .val (.long (-2305842979148922879 : Int64)), .second, .val (.int (3 : Int32)), .unset, .unset, .unset, .unset] [(.ref a1), (.long (2 : Int64)), (.long (-2305842979148922879 : Int64))])) rfl rfl (hb hby d1_52)
  have pre174 : ∀ t, Steps p.tables e below (T173.setTop (mkF m 57 #[.val (.ref a1), .val (.int (0 : Int32)), .val (.long (-2305842979148922879 : Int64)), .second, .val (.int (3 : Int32)), .unset, .unset, .unset, .unset] [(.long ((2305842979148922881 : Int64) * (-2305842979148922879 : Int64))), (.long (2 : Int64)), (.long (-2305842979148922879 : Int64))])) t → Steps p.tables e below (s₁.setTop (entryFrame m #[(.ref a1), (.int (0 : Int32))] 9)) t := fun t k => pre172 t (by
    show Steps p.tables e below (T166.setTop (mkF m 59 #[.val (.ref a1), .val (.int (0 : Int32)), .val (.long (-2305842979148922879 : Int64)), .second, .val (.int (2 : Int32)), .unset, .unset, .unset, .unset] [(.long (-2305842979148922879 : Int64))])) t
    refine XS.lstoreN X166.here hx rfl (hb hby d1_59) rfl (l' := #[.val (.ref a1), .val (.int (0 : Int32)), .val (.long (-2305842979148922879 : Int64)), .second, .val (.int (2 : Int32)), .unset, .unset, .unset, .unset]) rfl ?_
    show Steps p.tables e below (T166.setTop (mkF m 60 #[.val (.ref a1), .val (.int (0 : Int32)), .val (.long (-2305842979148922879 : Int64)), .second, .val (.int (2 : Int32)), .unset, .unset, .unset, .unset] [])) t
    refine XS.iinc X166.here hx rfl (hb hby d1_60) rfl (l' := #[.val (.ref a1), .val (.int (0 : Int32)), .val (.long (-2305842979148922879 : Int64)), .second, .val (.int (3 : Int32)), .unset, .unset, .unset, .unset]) rfl ?_
    show Steps p.tables e below (T166.setTop (mkF m 63 #[.val (.ref a1), .val (.int (0 : Int32)), .val (.long (-2305842979148922879 : Int64)), .second, .val (.int (3 : Int32)), .unset, .unset, .unset, .unset] [])) t
    refine XS.goto X166.here hx rfl (pc0 := 63) (pc' := 41) rfl (hb hby d1_63) (by decide) (by decide) ?_
    show Steps p.tables e below (T166.setTop (mkF m 41 #[.val (.ref a1), .val (.int (0 : Int32)), .val (.long (-2305842979148922879 : Int64)), .second, .val (.int (3 : Int32)), .unset, .unset, .unset, .unset] [])) t
    refine XS.iload X166.here hx rfl (hb hby d1_41) rfl ?_
    show Steps p.tables e below (T166.setTop (mkF m 43 #[.val (.ref a1), .val (.int (0 : Int32)), .val (.long (-2305842979148922879 : Int64)), .second, .val (.int (3 : Int32)), .unset, .unset, .unset, .unset] [(.int (3 : Int32))])) t
    refine XS.iconst X166.here hx rfl (hb hby d1_43) ?_
    show Steps p.tables e below (T166.setTop (mkF m 44 #[.val (.ref a1), .val (.int (0 : Int32)), .val (.long (-2305842979148922879 : Int64)), .second, .val (.int (3 : Int32)), .unset, .unset, .unset, .unset] [(.int (5 : Int32)), (.int (3 : Int32))])) t
    refine XS.icmpNo X166.here hx rfl (hb hby d1_44) rfl (tlt (by decide : (3 : Int32) < (5 : Int32))).2.1 ?_
    show Steps p.tables e below (T166.setTop (mkF m 47 #[.val (.ref a1), .val (.int (0 : Int32)), .val (.long (-2305842979148922879 : Int64)), .second, .val (.int (3 : Int32)), .unset, .unset, .unset, .unset] [])) t
    refine XS.lloadN X166.here hx rfl (hb hby d1_47) rfl ?_
    show Steps p.tables e below (T166.setTop (mkF m 48 #[.val (.ref a1), .val (.int (0 : Int32)), .val (.long (-2305842979148922879 : Int64)), .second, .val (.int (3 : Int32)), .unset, .unset, .unset, .unset] [(.long (-2305842979148922879 : Int64))])) t
    refine X166.ldc2Long hx hown (mvT hZ (own_i hw 16 rfl)) (g := (mkF m 48 #[.val (.ref a1), .val (.int (0 : Int32)), .val (.long (-2305842979148922879 : Int64)), .second, .val (.int (3 : Int32)), .unset, .unset, .unset, .unset] [(.long (-2305842979148922879 : Int64))])) rfl (hb hby d1_48) _ ?_
    show Steps p.tables e below (T166.setTop (mkF m 51 #[.val (.ref a1), .val (.int (0 : Int32)), .val (.long (-2305842979148922879 : Int64)), .second, .val (.int (3 : Int32)), .unset, .unset, .unset, .unset] [(.long (2 : Int64)), (.long (-2305842979148922879 : Int64))])) t
    refine XS.aloadN X166.here hx rfl (hb hby d1_51) rfl rfl ?_
    show Steps p.tables e below (T166.setTop (mkF m 52 #[.val (.ref a1), .val (.int (0 : Int32)), .val (.long (-2305842979148922879 : Int64)), .second, .val (.int (3 : Int32)), .unset, .unset, .unset, .unset] [(.ref a1), (.long (2 : Int64)), (.long (-2305842979148922879 : Int64))])) t
    refine st173 _ ?_
    show Steps p.tables e below (T173.setTop (mkF m 55 #[.val (.ref a1), .val (.int (0 : Int32)), .val (.long (-2305842979148922879 : Int64)), .second, .val (.int (3 : Int32)), .unset, .unset, .unset, .unset] [(.long (2305842979148922881 : Int64)), (.long (2 : Int64)), (.long (-2305842979148922879 : Int64))])) t
    refine XS.lloadN X173.here hx rfl (hb hby d1_55) rfl ?_
    show Steps p.tables e below (T173.setTop (mkF m 56 #[.val (.ref a1), .val (.int (0 : Int32)), .val (.long (-2305842979148922879 : Int64)), .second, .val (.int (3 : Int32)), .unset, .unset, .unset, .unset] [(.long (-2305842979148922879 : Int64)), (.long (2305842979148922881 : Int64)), (.long (2 : Int64)), (.long (-2305842979148922879 : Int64))])) t
    refine XS.lmul X173.here hx rfl (hb hby d1_56) rfl ?_
    exact k)
  have pre175 : ∀ t, Steps p.tables e below (T173.setTop (mkF m 57 #[.val (.ref a1), .val (.int (0 : Int32)), .val (.long (-2305842979148922879 : Int64)), .second, .val (.int (3 : Int32)), .unset, .unset, .unset, .unset] [(.long (1 : Int64)), (.long (2 : Int64)), (.long (-2305842979148922879 : Int64))])) t → Steps p.tables e below (s₁.setTop (entryFrame m #[(.ref a1), (.int (0 : Int32))] 9)) t := fun t k => pre174 t (by rw [show ((2305842979148922881 : Int64) * (-2305842979148922879 : Int64)) = (1 : Int64) from (by decide +kernel)]; exact k)
  have pre176 : ∀ t, Steps p.tables e below (T173.setTop (mkF m 58 #[.val (.ref a1), .val (.int (0 : Int32)), .val (.long (-2305842979148922879 : Int64)), .second, .val (.int (3 : Int32)), .unset, .unset, .unset, .unset] [(.long ((2 : Int64) - (1 : Int64))), (.long (-2305842979148922879 : Int64))])) t → Steps p.tables e below (s₁.setTop (entryFrame m #[(.ref a1), (.int (0 : Int32))] 9)) t := fun t k => pre175 t (by
    show Steps p.tables e below (T173.setTop (mkF m 57 #[.val (.ref a1), .val (.int (0 : Int32)), .val (.long (-2305842979148922879 : Int64)), .second, .val (.int (3 : Int32)), .unset, .unset, .unset, .unset] [(.long (1 : Int64)), (.long (2 : Int64)), (.long (-2305842979148922879 : Int64))])) t
    refine XS.lsub X173.here hx rfl (hb hby d1_57) rfl ?_
    exact k)
  have pre177 : ∀ t, Steps p.tables e below (T173.setTop (mkF m 58 #[.val (.ref a1), .val (.int (0 : Int32)), .val (.long (-2305842979148922879 : Int64)), .second, .val (.int (3 : Int32)), .unset, .unset, .unset, .unset] [(.long (1 : Int64)), (.long (-2305842979148922879 : Int64))])) t → Steps p.tables e below (s₁.setTop (entryFrame m #[(.ref a1), (.int (0 : Int32))] 9)) t := fun t k => pre176 t (by rw [show ((2 : Int64) - (1 : Int64)) = (1 : Int64) from (by decide +kernel)]; exact k)
  have pre178 : ∀ t, Steps p.tables e below (T173.setTop (mkF m 59 #[.val (.ref a1), .val (.int (0 : Int32)), .val (.long (-2305842979148922879 : Int64)), .second, .val (.int (3 : Int32)), .unset, .unset, .unset, .unset] [(.long ((-2305842979148922879 : Int64) * (1 : Int64)))])) t → Steps p.tables e below (s₁.setTop (entryFrame m #[(.ref a1), (.int (0 : Int32))] 9)) t := fun t k => pre177 t (by
    show Steps p.tables e below (T173.setTop (mkF m 58 #[.val (.ref a1), .val (.int (0 : Int32)), .val (.long (-2305842979148922879 : Int64)), .second, .val (.int (3 : Int32)), .unset, .unset, .unset, .unset] [(.long (1 : Int64)), (.long (-2305842979148922879 : Int64))])) t
    refine XS.lmul X173.here hx rfl (hb hby d1_58) rfl ?_
    exact k)
  have pre179 : ∀ t, Steps p.tables e below (T173.setTop (mkF m 59 #[.val (.ref a1), .val (.int (0 : Int32)), .val (.long (-2305842979148922879 : Int64)), .second, .val (.int (3 : Int32)), .unset, .unset, .unset, .unset] [(.long (-2305842979148922879 : Int64))])) t → Steps p.tables e below (s₁.setTop (entryFrame m #[(.ref a1), (.int (0 : Int32))] 9)) t := fun t k => pre178 t (by rw [show ((-2305842979148922879 : Int64) * (1 : Int64)) = (-2305842979148922879 : Int64) from (by decide +kernel)]; exact k)
  obtain ⟨T180, X180, e180, st180⟩ := getF X173 hx hZ hown (host := "") (Or.inl (own_i hw 14 rfl)) Via.refl e173 f150 (g := (mkF m 52 #[.val (.ref a1), .val (.int (0 : Int32)), .val (.long (-2305842979148922879 : Int64)), .second, .val (.int (4 : Int32)), .unset, .unset, .unset, .unset] [(.ref a1), (.long (2 : Int64)), (.long (-2305842979148922879 : Int64))])) rfl rfl (hb hby d1_52)
  have pre181 : ∀ t, Steps p.tables e below (T180.setTop (mkF m 57 #[.val (.ref a1), .val (.int (0 : Int32)), .val (.long (-2305842979148922879 : Int64)), .second, .val (.int (4 : Int32)), .unset, .unset, .unset, .unset] [(.long ((2305842979148922881 : Int64) * (-2305842979148922879 : Int64))), (.long (2 : Int64)), (.long (-2305842979148922879 : Int64))])) t → Steps p.tables e below (s₁.setTop (entryFrame m #[(.ref a1), (.int (0 : Int32))] 9)) t := fun t k => pre179 t (by
    show Steps p.tables e below (T173.setTop (mkF m 59 #[.val (.ref a1), .val (.int (0 : Int32)), .val (.long (-2305842979148922879 : Int64)), .second, .val (.int (3 : Int32)), .unset, .unset, .unset, .unset] [(.long (-2305842979148922879 : Int64))])) t
    refine XS.lstoreN X173.here hx rfl (hb hby d1_59) rfl (l' := #[.val (.ref a1), .val (.int (0 : Int32)), .val (.long (-2305842979148922879 : Int64)), .second, .val (.int (3 : Int32)), .unset, .unset, .unset, .unset]) rfl ?_
    show Steps p.tables e below (T173.setTop (mkF m 60 #[.val (.ref a1), .val (.int (0 : Int32)), .val (.long (-2305842979148922879 : Int64)), .second, .val (.int (3 : Int32)), .unset, .unset, .unset, .unset] [])) t
    refine XS.iinc X173.here hx rfl (hb hby d1_60) rfl (l' := #[.val (.ref a1), .val (.int (0 : Int32)), .val (.long (-2305842979148922879 : Int64)), .second, .val (.int (4 : Int32)), .unset, .unset, .unset, .unset]) rfl ?_
    show Steps p.tables e below (T173.setTop (mkF m 63 #[.val (.ref a1), .val (.int (0 : Int32)), .val (.long (-2305842979148922879 : Int64)), .second, .val (.int (4 : Int32)), .unset, .unset, .unset, .unset] [])) t
    refine XS.goto X173.here hx rfl (pc0 := 63) (pc' := 41) rfl (hb hby d1_63) (by decide) (by decide) ?_
    show Steps p.tables e below (T173.setTop (mkF m 41 #[.val (.ref a1), .val (.int (0 : Int32)), .val (.long (-2305842979148922879 : Int64)), .second, .val (.int (4 : Int32)), .unset, .unset, .unset, .unset] [])) t
    refine XS.iload X173.here hx rfl (hb hby d1_41) rfl ?_
    show Steps p.tables e below (T173.setTop (mkF m 43 #[.val (.ref a1), .val (.int (0 : Int32)), .val (.long (-2305842979148922879 : Int64)), .second, .val (.int (4 : Int32)), .unset, .unset, .unset, .unset] [(.int (4 : Int32))])) t
    refine XS.iconst X173.here hx rfl (hb hby d1_43) ?_
    show Steps p.tables e below (T173.setTop (mkF m 44 #[.val (.ref a1), .val (.int (0 : Int32)), .val (.long (-2305842979148922879 : Int64)), .second, .val (.int (4 : Int32)), .unset, .unset, .unset, .unset] [(.int (5 : Int32)), (.int (4 : Int32))])) t
    refine XS.icmpNo X173.here hx rfl (hb hby d1_44) rfl (tlt (by decide : (4 : Int32) < (5 : Int32))).2.1 ?_
    show Steps p.tables e below (T173.setTop (mkF m 47 #[.val (.ref a1), .val (.int (0 : Int32)), .val (.long (-2305842979148922879 : Int64)), .second, .val (.int (4 : Int32)), .unset, .unset, .unset, .unset] [])) t
    refine XS.lloadN X173.here hx rfl (hb hby d1_47) rfl ?_
    show Steps p.tables e below (T173.setTop (mkF m 48 #[.val (.ref a1), .val (.int (0 : Int32)), .val (.long (-2305842979148922879 : Int64)), .second, .val (.int (4 : Int32)), .unset, .unset, .unset, .unset] [(.long (-2305842979148922879 : Int64))])) t
    refine X173.ldc2Long hx hown (mvT hZ (own_i hw 16 rfl)) (g := (mkF m 48 #[.val (.ref a1), .val (.int (0 : Int32)), .val (.long (-2305842979148922879 : Int64)), .second, .val (.int (4 : Int32)), .unset, .unset, .unset, .unset] [(.long (-2305842979148922879 : Int64))])) rfl (hb hby d1_48) _ ?_
    show Steps p.tables e below (T173.setTop (mkF m 51 #[.val (.ref a1), .val (.int (0 : Int32)), .val (.long (-2305842979148922879 : Int64)), .second, .val (.int (4 : Int32)), .unset, .unset, .unset, .unset] [(.long (2 : Int64)), (.long (-2305842979148922879 : Int64))])) t
    refine XS.aloadN X173.here hx rfl (hb hby d1_51) rfl rfl ?_
    show Steps p.tables e below (T173.setTop (mkF m 52 #[.val (.ref a1), .val (.int (0 : Int32)), .val (.long (-2305842979148922879 : Int64)), .second, .val (.int (4 : Int32)), .unset, .unset, .unset, .unset] [(.ref a1), (.long (2 : Int64)), (.long (-2305842979148922879 : Int64))])) t
    refine st180 _ ?_
    show Steps p.tables e below (T180.setTop (mkF m 55 #[.val (.ref a1), .val (.int (0 : Int32)), .val (.long (-2305842979148922879 : Int64)), .second, .val (.int (4 : Int32)), .unset, .unset, .unset, .unset] [(.long (2305842979148922881 : Int64)), (.long (2 : Int64)), (.long (-2305842979148922879 : Int64))])) t
    refine XS.lloadN X180.here hx rfl (hb hby d1_55) rfl ?_
    show Steps p.tables e below (T180.setTop (mkF m 56 #[.val (.ref a1), .val (.int (0 : Int32)), .val (.long (-2305842979148922879 : Int64)), .second, .val (.int (4 : Int32)), .unset, .unset, .unset, .unset] [(.long (-2305842979148922879 : Int64)), (.long (2305842979148922881 : Int64)), (.long (2 : Int64)), (.long (-2305842979148922879 : Int64))])) t
    refine XS.lmul X180.here hx rfl (hb hby d1_56) rfl ?_
    exact k)
  have pre182 : ∀ t, Steps p.tables e below (T180.setTop (mkF m 57 #[.val (.ref a1), .val (.int (0 : Int32)), .val (.long (-2305842979148922879 : Int64)), .second, .val (.int (4 : Int32)), .unset, .unset, .unset, .unset] [(.long (1 : Int64)), (.long (2 : Int64)), (.long (-2305842979148922879 : Int64))])) t → Steps p.tables e below (s₁.setTop (entryFrame m #[(.ref a1), (.int (0 : Int32))] 9)) t := fun t k => pre181 t (by rw [show ((2305842979148922881 : Int64) * (-2305842979148922879 : Int64)) = (1 : Int64) from (by decide +kernel)]; exact k)
  have pre183 : ∀ t, Steps p.tables e below (T180.setTop (mkF m 58 #[.val (.ref a1), .val (.int (0 : Int32)), .val (.long (-2305842979148922879 : Int64)), .second, .val (.int (4 : Int32)), .unset, .unset, .unset, .unset] [(.long ((2 : Int64) - (1 : Int64))), (.long (-2305842979148922879 : Int64))])) t → Steps p.tables e below (s₁.setTop (entryFrame m #[(.ref a1), (.int (0 : Int32))] 9)) t := fun t k => pre182 t (by
    show Steps p.tables e below (T180.setTop (mkF m 57 #[.val (.ref a1), .val (.int (0 : Int32)), .val (.long (-2305842979148922879 : Int64)), .second, .val (.int (4 : Int32)), .unset, .unset, .unset, .unset] [(.long (1 : Int64)), (.long (2 : Int64)), (.long (-2305842979148922879 : Int64))])) t
    refine XS.lsub X180.here hx rfl (hb hby d1_57) rfl ?_
    exact k)
  have pre184 : ∀ t, Steps p.tables e below (T180.setTop (mkF m 58 #[.val (.ref a1), .val (.int (0 : Int32)), .val (.long (-2305842979148922879 : Int64)), .second, .val (.int (4 : Int32)), .unset, .unset, .unset, .unset] [(.long (1 : Int64)), (.long (-2305842979148922879 : Int64))])) t → Steps p.tables e below (s₁.setTop (entryFrame m #[(.ref a1), (.int (0 : Int32))] 9)) t := fun t k => pre183 t (by rw [show ((2 : Int64) - (1 : Int64)) = (1 : Int64) from (by decide +kernel)]; exact k)
  have pre185 : ∀ t, Steps p.tables e below (T180.setTop (mkF m 59 #[.val (.ref a1), .val (.int (0 : Int32)), .val (.long (-2305842979148922879 : Int64)), .second, .val (.int (4 : Int32)), .unset, .unset, .unset, .unset] [(.long ((-2305842979148922879 : Int64) * (1 : Int64)))])) t → Steps p.tables e below (s₁.setTop (entryFrame m #[(.ref a1), (.int (0 : Int32))] 9)) t := fun t k => pre184 t (by
    show Steps p.tables e below (T180.setTop (mkF m 58 #[.val (.ref a1), .val (.int (0 : Int32)), .val (.long (-2305842979148922879 : Int64)), .second, .val (.int (4 : Int32)), .unset, .unset, .unset, .unset] [(.long (1 : Int64)), (.long (-2305842979148922879 : Int64))])) t
    refine XS.lmul X180.here hx rfl (hb hby d1_58) rfl ?_
    exact k)
  have pre186 : ∀ t, Steps p.tables e below (T180.setTop (mkF m 59 #[.val (.ref a1), .val (.int (0 : Int32)), .val (.long (-2305842979148922879 : Int64)), .second, .val (.int (4 : Int32)), .unset, .unset, .unset, .unset] [(.long (-2305842979148922879 : Int64))])) t → Steps p.tables e below (s₁.setTop (entryFrame m #[(.ref a1), (.int (0 : Int32))] 9)) t := fun t k => pre185 t (by rw [show ((-2305842979148922879 : Int64) * (1 : Int64)) = (-2305842979148922879 : Int64) from (by decide +kernel)]; exact k)
  obtain ⟨T187, h187, X187, e187, W187, st187⟩ := putF X180 hx hZ hown (host := "") (Or.inl (own_i hw 19 rfl)) Via.refl e180 f144 f146 (Or.inr ⟨(own_i hw 20 rfl), rfl, hnm⟩) (own_i hw 1 rfl) (ty := .long) (by decide) rfl rfl (g := (mkF m 68 #[.val (.ref a1), .val (.int (0 : Int32)), .val (.long (-2305842979148922879 : Int64)), .second, .val (.int (5 : Int32)), .unset, .unset, .unset, .unset] [(.long (-2305842979148922879 : Int64)), (.ref a1)])) rfl rfl (hb hby d1_68)
  have Fw187 := f144.same W187
  have N187 := Fr.snoc X187 N141 g1
  have f188 := Nat.le_trans f142 (Keep.of_wr W187).1
  have f189 := f143.wr W187 g1
  have f190 := f145.other W187 (Or.inr (slot_ne (Or.inr (own_i hw 30 rfl)) (Or.inr (own_i hw 20 rfl)) (by decide) (t := .long) (t' := .long) (by decide) (by decide)))
  have f191 := f146.wr W187
  have f192 := f147.wr W187 (Or.inl (List.mem_of_getElem? (i := 0) rfl))
  have f193 := f148.other W187 (Ne.symm ne104)
  have f194 := f149.other W187 (Or.inr (slot_ne (Or.inr (own_i hw 11 rfl)) (Or.inr (own_i hw 20 rfl)) (by decide) (t := (.array .long)) (t' := .long) (by decide) (by decide)))
  have f195 := f150.other W187 (Or.inr (slot_ne (Or.inr (own_i hw 15 rfl)) (Or.inr (own_i hw 20 rfl)) (by decide) (t := .long) (t' := .long) (by decide) (by decide)))
  have f196 := Fw141.other W187 (Or.inr (slot_ne (Or.inr (own_i hw 18 rfl)) (Or.inr (own_i hw 20 rfl)) (by decide) (t := .long) (t' := .long) (by decide) (by decide)))
  obtain ⟨T197, X197, e197, st197⟩ := getF X187 hx hZ hown (host := "") (Or.inl (own_i hw 14 rfl)) Via.refl e187 f195 (g := (mkF m 72 #[.val (.ref a1), .val (.int (0 : Int32)), .val (.long (-2305842979148922879 : Int64)), .second, .val (.int (5 : Int32)), .unset, .unset, .unset, .unset] [(.ref a1)])) rfl rfl (hb hby d1_72)
  have pre198 : ∀ t, Steps p.tables e below (T197.setTop (mkF m 76 #[.val (.ref a1), .val (.int (0 : Int32)), .val (.long (-2305842979148922879 : Int64)), .second, .val (.int (5 : Int32)), .unset, .unset, .unset, .unset] [(.long (-(2305842979148922881 : Int64)))])) t → Steps p.tables e below (s₁.setTop (entryFrame m #[(.ref a1), (.int (0 : Int32))] 9)) t := fun t k => pre186 t (by
    show Steps p.tables e below (T180.setTop (mkF m 59 #[.val (.ref a1), .val (.int (0 : Int32)), .val (.long (-2305842979148922879 : Int64)), .second, .val (.int (4 : Int32)), .unset, .unset, .unset, .unset] [(.long (-2305842979148922879 : Int64))])) t
    refine XS.lstoreN X180.here hx rfl (hb hby d1_59) rfl (l' := #[.val (.ref a1), .val (.int (0 : Int32)), .val (.long (-2305842979148922879 : Int64)), .second, .val (.int (4 : Int32)), .unset, .unset, .unset, .unset]) rfl ?_
    show Steps p.tables e below (T180.setTop (mkF m 60 #[.val (.ref a1), .val (.int (0 : Int32)), .val (.long (-2305842979148922879 : Int64)), .second, .val (.int (4 : Int32)), .unset, .unset, .unset, .unset] [])) t
    refine XS.iinc X180.here hx rfl (hb hby d1_60) rfl (l' := #[.val (.ref a1), .val (.int (0 : Int32)), .val (.long (-2305842979148922879 : Int64)), .second, .val (.int (5 : Int32)), .unset, .unset, .unset, .unset]) rfl ?_
    show Steps p.tables e below (T180.setTop (mkF m 63 #[.val (.ref a1), .val (.int (0 : Int32)), .val (.long (-2305842979148922879 : Int64)), .second, .val (.int (5 : Int32)), .unset, .unset, .unset, .unset] [])) t
    refine XS.goto X180.here hx rfl (pc0 := 63) (pc' := 41) rfl (hb hby d1_63) (by decide) (by decide) ?_
    show Steps p.tables e below (T180.setTop (mkF m 41 #[.val (.ref a1), .val (.int (0 : Int32)), .val (.long (-2305842979148922879 : Int64)), .second, .val (.int (5 : Int32)), .unset, .unset, .unset, .unset] [])) t
    refine XS.iload X180.here hx rfl (hb hby d1_41) rfl ?_
    show Steps p.tables e below (T180.setTop (mkF m 43 #[.val (.ref a1), .val (.int (0 : Int32)), .val (.long (-2305842979148922879 : Int64)), .second, .val (.int (5 : Int32)), .unset, .unset, .unset, .unset] [(.int (5 : Int32))])) t
    refine XS.iconst X180.here hx rfl (hb hby d1_43) ?_
    show Steps p.tables e below (T180.setTop (mkF m 44 #[.val (.ref a1), .val (.int (0 : Int32)), .val (.long (-2305842979148922879 : Int64)), .second, .val (.int (5 : Int32)), .unset, .unset, .unset, .unset] [(.int (5 : Int32)), (.int (5 : Int32))])) t
    refine XS.icmpYes X180.here hx rfl (pc0 := 44) (pc' := 66) rfl (hb hby d1_44) rfl (flt (by decide : ¬ ((5 : Int32) < (5 : Int32)))).2.1 (by decide) (by decide) ?_
    show Steps p.tables e below (T180.setTop (mkF m 66 #[.val (.ref a1), .val (.int (0 : Int32)), .val (.long (-2305842979148922879 : Int64)), .second, .val (.int (5 : Int32)), .unset, .unset, .unset, .unset] [])) t
    refine XS.aloadN X180.here hx rfl (hb hby d1_66) rfl rfl ?_
    show Steps p.tables e below (T180.setTop (mkF m 67 #[.val (.ref a1), .val (.int (0 : Int32)), .val (.long (-2305842979148922879 : Int64)), .second, .val (.int (5 : Int32)), .unset, .unset, .unset, .unset] [(.ref a1)])) t
    refine XS.lloadN X180.here hx rfl (hb hby d1_67) rfl ?_
    show Steps p.tables e below (T180.setTop (mkF m 68 #[.val (.ref a1), .val (.int (0 : Int32)), .val (.long (-2305842979148922879 : Int64)), .second, .val (.int (5 : Int32)), .unset, .unset, .unset, .unset] [(.long (-2305842979148922879 : Int64)), (.ref a1)])) t
    refine st187 _ ?_
    show Steps p.tables e below (T187.setTop (mkF m 71 #[.val (.ref a1), .val (.int (0 : Int32)), .val (.long (-2305842979148922879 : Int64)), .second, .val (.int (5 : Int32)), .unset, .unset, .unset, .unset] [])) t
    refine XS.aloadN X187.here hx rfl (hb hby d1_71) rfl rfl ?_
    show Steps p.tables e below (T187.setTop (mkF m 72 #[.val (.ref a1), .val (.int (0 : Int32)), .val (.long (-2305842979148922879 : Int64)), .second, .val (.int (5 : Int32)), .unset, .unset, .unset, .unset] [(.ref a1)])) t
    refine st197 _ ?_
    show Steps p.tables e below (T197.setTop (mkF m 75 #[.val (.ref a1), .val (.int (0 : Int32)), .val (.long (-2305842979148922879 : Int64)), .second, .val (.int (5 : Int32)), .unset, .unset, .unset, .unset] [(.long (2305842979148922881 : Int64))])) t
    refine XS.lneg X197.here hx rfl (hb hby d1_75) rfl ?_
    exact k)
  have pre199 : ∀ t, Steps p.tables e below (T197.setTop (mkF m 76 #[.val (.ref a1), .val (.int (0 : Int32)), .val (.long (-2305842979148922879 : Int64)), .second, .val (.int (5 : Int32)), .unset, .unset, .unset, .unset] [(.long (-2305842979148922881 : Int64))])) t → Steps p.tables e below (s₁.setTop (entryFrame m #[(.ref a1), (.int (0 : Int32))] 9)) t := fun t k => pre198 t (by rw [show (-(2305842979148922881 : Int64)) = (-2305842979148922881 : Int64) from (by decide +kernel)]; exact k)
  obtain ⟨T200, X200, e200, st200⟩ := getF X197 hx hZ hown (host := "") (Or.inl (own_i hw 14 rfl)) Via.refl e197 f195 (g := (mkF m 77 #[.val (.ref a1), .val (.int (0 : Int32)), .val (.long (-2305842979148922879 : Int64)), .second, .val (.int (5 : Int32)), .unset, .unset, .unset, .unset] [(.ref a1), (.long (-2305842979148922881 : Int64))])) rfl rfl (hb hby d1_77)
  obtain ⟨_, _, ⟨T201, L201, k201, n201⟩, -, X201, ⟨Lc201, hQ201, l201, y201, z201⟩, st201⟩ := Jvm.LawKit.callS X200 hx (y := (⟨"java/lang/Long", "remainderUnsigned", "(JJ)J"⟩ : MethodName)) hown (mvT hZ (own_i hw 21 rfl)) (mvT hZ (own_i hw 22 rfl)) (mvT hZ (own_i hw 23 rfl)) (mvT hZ (own_i hw 24 rfl)) (by decide) (backOf (W := 0) (rmRU l Z a0 hw [] (-2305842979148922881 : Int64) (2305842979148922881 : Int64) h187 n0 f188 (by decide) (by decide)) hZ (own_i hw 24 rfl) (own_i hw 23 rfl) (by decide) (by decide)) (g := (mkF m 80 #[.val (.ref a1), .val (.int (0 : Int32)), .val (.long (-2305842979148922879 : Int64)), .second, .val (.int (5 : Int32)), .unset, .unset, .unset, .unset] [(.long (2305842979148922881 : Int64)), (.long (-2305842979148922881 : Int64))])) rfl (by rw [hml]; rfl) (argsL := [(.long (-2305842979148922881 : Int64)), (.long (2305842979148922881 : Int64))]) (rest := []) (lenOf pd_0 rfl) rfl (by show 2 * 0 + _ ≤ _; exact Nat.le_of_eq rfl) (hb hby d1_80) (fun _ _ => ⟨rfl, e200, (by decide : 1 + 0 ≤ _), (by decide : 33 + 0 ≤ _)⟩)
  dsimp only [Pt.U, Pt.locs, Pt.cells, Pt.slots] at X201 l201 y201 z201 st201 hQ201
  subst l201 y201 z201
  obtain ⟨rfl, N201q, e201⟩ := hQ201
  have N201 := Fr.app N187 N201q
  have pre202 : ∀ t, Steps p.tables e below (T201.setTop (mkF m 83 #[.val (.ref a1), .val (.int (0 : Int32)), .val (.long (-2305842979148922879 : Int64)), .second, .val (.int (5 : Int32)), .unset, .unset, .unset, .unset] [(.long (own_ru (-2305842979148922881 : Int64) (2305842979148922881 : Int64)))])) t → Steps p.tables e below (s₁.setTop (entryFrame m #[(.ref a1), (.int (0 : Int32))] 9)) t := fun t k => pre199 t (by
    show Steps p.tables e below (T197.setTop (mkF m 76 #[.val (.ref a1), .val (.int (0 : Int32)), .val (.long (-2305842979148922879 : Int64)), .second, .val (.int (5 : Int32)), .unset, .unset, .unset, .unset] [(.long (-2305842979148922881 : Int64))])) t
    refine XS.aloadN X197.here hx rfl (hb hby d1_76) rfl rfl ?_
    show Steps p.tables e below (T197.setTop (mkF m 77 #[.val (.ref a1), .val (.int (0 : Int32)), .val (.long (-2305842979148922879 : Int64)), .second, .val (.int (5 : Int32)), .unset, .unset, .unset, .unset] [(.ref a1), (.long (-2305842979148922881 : Int64))])) t
    refine st200 _ ?_
    show Steps p.tables e below (T200.setTop (mkF m 80 #[.val (.ref a1), .val (.int (0 : Int32)), .val (.long (-2305842979148922879 : Int64)), .second, .val (.int (5 : Int32)), .unset, .unset, .unset, .unset] [(.long (2305842979148922881 : Int64)), (.long (-2305842979148922881 : Int64))])) t
    refine st201 _ ?_
    exact k)
  have pre203 : ∀ t, Steps p.tables e below (T201.setTop (mkF m 83 #[.val (.ref a1), .val (.int (0 : Int32)), .val (.long (-2305842979148922879 : Int64)), .second, .val (.int (5 : Int32)), .unset, .unset, .unset, .unset] [(.long (240518168568 : Int64))])) t → Steps p.tables e below (s₁.setTop (entryFrame m #[(.ref a1), (.int (0 : Int32))] 9)) t := fun t k => pre202 t (by rw [show (own_ru (-2305842979148922881 : Int64) (2305842979148922881 : Int64)) = (240518168568 : Int64) from (by decide +kernel)]; exact k)
  have pre204 : ∀ t, Steps p.tables e below (T201.setTop (mkF m 88 #[.val (.ref a1), .val (.int (0 : Int32)), .val (.long (-2305842979148922879 : Int64)), .second, .val (.long (240518168568 : Int64)), .second, .val (.int (0 : Int32)), .unset, .unset] [])) t → Steps p.tables e below (s₁.setTop (entryFrame m #[(.ref a1), (.int (0 : Int32))] 9)) t := fun t k => pre203 t (by
    show Steps p.tables e below (T201.setTop (mkF m 83 #[.val (.ref a1), .val (.int (0 : Int32)), .val (.long (-2305842979148922879 : Int64)), .second, .val (.int (5 : Int32)), .unset, .unset, .unset, .unset] [(.long (240518168568 : Int64))])) t
    refine XS.lstore X201.here hx rfl (hb hby d1_83) rfl (l' := #[.val (.ref a1), .val (.int (0 : Int32)), .val (.long (-2305842979148922879 : Int64)), .second, .val (.long (240518168568 : Int64)), .second, .unset, .unset, .unset]) rfl ?_
    show Steps p.tables e below (T201.setTop (mkF m 85 #[.val (.ref a1), .val (.int (0 : Int32)), .val (.long (-2305842979148922879 : Int64)), .second, .val (.long (240518168568 : Int64)), .second, .unset, .unset, .unset] [])) t
    refine XS.iconst X201.here hx rfl (hb hby d1_85) ?_
    show Steps p.tables e below (T201.setTop (mkF m 86 #[.val (.ref a1), .val (.int (0 : Int32)), .val (.long (-2305842979148922879 : Int64)), .second, .val (.long (240518168568 : Int64)), .second, .unset, .unset, .unset] [(.int (0 : Int32))])) t
    refine XS.istore X201.here hx rfl (hb hby d1_86) rfl (l' := #[.val (.ref a1), .val (.int (0 : Int32)), .val (.long (-2305842979148922879 : Int64)), .second, .val (.long (240518168568 : Int64)), .second, .val (.int (0 : Int32)), .unset, .unset]) rfl ?_
    exact k)
  have hl205 : ∀ (nn : Nat) (T205 : State) (L205 : List Loc) (sqv : Int64) (ii : Int32) (k : Nat), Stand p l e ({ frames := 5, cells := 1, slots := 33, locals := 105 } : Room) s m #[(.ref a1), (.int (0 : Int32))] below meth c T205 L205 1 33 → T205.heap = h187 → Fr n0 L205 → (sqv = own_dbl (240518168568 : Int64) (2305842979148922881 : Int64) k) → (ii = Int32.ofNat k) → (k ≤ 64) → (64 - k) < nn → (∀ t, Steps p.tables e below (T205.setTop (mkF m 88 #[.val (.ref a1), .val (.int (0 : Int32)), .val (.long (-2305842979148922879 : Int64)), .second, .val (.long sqv), .second, .val (.int ii), .unset, .unset] [])) t → Steps p.tables e below (s₁.setTop (entryFrame m #[(.ref a1), (.int (0 : Int32))] 9)) t) → ∃ s₂ o, Steps p.tables e below (s₁.setTop (entryFrame m #[(.ref a1), (.int (0 : Int32))] 9)) s₂ ∧ s₂.status = .running ∧ Ended s₂ below o ∧ ∃ v L, o = .returned v ∧ QI0 Z a1 wP kP wN kN h0 n0 v s₂.heap L ∧ FrameEnd s o s₂ L ({ frames := 5, cells := 1, slots := 33, locals := 105 } : Room).cells ({ frames := 5, cells := 1, slots := 33, locals := 105 } : Room).slots := by
    intro nn
    induction nn with
    | zero => intro T205 L205 sqv ii k X205 e205 N205 hq hi hk hm205 pre205; exact absurd hm205 (Nat.not_lt_zero _)
    | succ nn ih205 =>
      intro T205 L205 sqv ii k X205 e205 N205 hq hi hk hm205 pre205
      have pre207 : ∀ t, Steps p.tables e below (T205.setTop (mkF m 92 #[.val (.ref a1), .val (.int (0 : Int32)), .val (.long (-2305842979148922879 : Int64)), .second, .val (.long sqv), .second, .val (.int ii), .unset, .unset] [(.int (64 : Int32)), (.int ii)])) t → Steps p.tables e below (s₁.setTop (entryFrame m #[(.ref a1), (.int (0 : Int32))] 9)) t := fun t k => pre205 t (by
        show Steps p.tables e below (T205.setTop (mkF m 88 #[.val (.ref a1), .val (.int (0 : Int32)), .val (.long (-2305842979148922879 : Int64)), .second, .val (.long sqv), .second, .val (.int ii), .unset, .unset] [])) t
        refine XS.iload X205.here hx rfl (hb hby d1_88) rfl ?_
        show Steps p.tables e below (T205.setTop (mkF m 90 #[.val (.ref a1), .val (.int (0 : Int32)), .val (.long (-2305842979148922879 : Int64)), .second, .val (.long sqv), .second, .val (.int ii), .unset, .unset] [(.int ii)])) t
        refine XS.bipush X205.here hx rfl (hb hby d1_90) ?_
        exact k)
      by_cases hc206 : ii < (64 : Int32)
      · obtain ⟨T208, X208, e208, st208⟩ := getF X205 hx hZ hown (host := "") (Or.inl (own_i hw 14 rfl)) Via.refl e205 f195 (g := (mkF m 100 #[.val (.ref a1), .val (.int (0 : Int32)), .val (.long (-2305842979148922879 : Int64)), .second, .val (.long sqv), .second, .val (.int ii), .unset, .unset] [(.ref a1), (.long (sqv <<< ((1 : Int32) &&& 0x3f).toInt64))])) rfl rfl (hb hby d1_100)
        obtain ⟨_, _, ⟨T209, L209, k209, n209⟩, -, X209, ⟨Lc209, hQ209, l209, y209, z209⟩, st209⟩ := Jvm.LawKit.callS X208 hx (y := (⟨"com/example/libsld/libsld/PrimeField", "subtractIfAbove", "(JJ)J"⟩ : MethodName)) hown (mvT hZ (own_i hw 26 rfl)) (mvT hZ (own_i hw 27 rfl)) (mvT hZ (own_i hw 2 rfl)) (mvT hZ (own_i hw 28 rfl)) (by decide) (backOf (W := 0) (rmSub l Z a0 hw [] (sqv <<< ((1 : Int32) &&& 0x3f).toInt64) (2305842979148922881 : Int64) h187 n0 f188 ) hZ (own_i hw 28 rfl) (own_i hw 2 rfl) (by decide) (by decide)) (g := (mkF m 103 #[.val (.ref a1), .val (.int (0 : Int32)), .val (.long (-2305842979148922879 : Int64)), .second, .val (.long sqv), .second, .val (.int ii), .unset, .unset] [(.long (2305842979148922881 : Int64)), (.long (sqv <<< ((1 : Int32) &&& 0x3f).toInt64))])) rfl (by rw [hml]; rfl) (argsL := [(.long (sqv <<< ((1 : Int32) &&& 0x3f).toInt64)), (.long (2305842979148922881 : Int64))]) (rest := []) (lenOf pd_0 rfl) rfl (by show 2 * 0 + _ ≤ _; exact Nat.le_of_eq rfl) (hb hby d1_103) (fun _ _ => ⟨rfl, e208, (by decide : 1 + 0 ≤ _), (by decide : 33 + 0 ≤ _)⟩)
        dsimp only [Pt.U, Pt.locs, Pt.cells, Pt.slots] at X209 l209 y209 z209 st209 hQ209
        subst l209 y209 z209
        obtain ⟨rfl, N209q, e209⟩ := hQ209
        have N209 := Fr.app N205 N209q
        have pre210 : ∀ t, Steps p.tables e below (T209.setTop (mkF m 88 #[.val (.ref a1), .val (.int (0 : Int32)), .val (.long (-2305842979148922879 : Int64)), .second, .val (.long (own_sub (sqv <<< ((1 : Int32) &&& 0x3f).toInt64) (2305842979148922881 : Int64))), .second, .val (.int (ii + (1 : Int32))), .unset, .unset] [])) t → Steps p.tables e below (s₁.setTop (entryFrame m #[(.ref a1), (.int (0 : Int32))] 9)) t := fun t k => pre207 t (by
          show Steps p.tables e below (T205.setTop (mkF m 92 #[.val (.ref a1), .val (.int (0 : Int32)), .val (.long (-2305842979148922879 : Int64)), .second, .val (.long sqv), .second, .val (.int ii), .unset, .unset] [(.int (64 : Int32)), (.int ii)])) t
          refine XS.icmpNo X205.here hx rfl (hb hby d1_92) rfl (tlt hc206).2.1 ?_
          show Steps p.tables e below (T205.setTop (mkF m 95 #[.val (.ref a1), .val (.int (0 : Int32)), .val (.long (-2305842979148922879 : Int64)), .second, .val (.long sqv), .second, .val (.int ii), .unset, .unset] [])) t
          refine XS.lload X205.here hx rfl (hb hby d1_95) rfl ?_
          show Steps p.tables e below (T205.setTop (mkF m 97 #[.val (.ref a1), .val (.int (0 : Int32)), .val (.long (-2305842979148922879 : Int64)), .second, .val (.long sqv), .second, .val (.int ii), .unset, .unset] [(.long sqv)])) t
          refine XS.iconst X205.here hx rfl (hb hby d1_97) ?_
          show Steps p.tables e below (T205.setTop (mkF m 98 #[.val (.ref a1), .val (.int (0 : Int32)), .val (.long (-2305842979148922879 : Int64)), .second, .val (.long sqv), .second, .val (.int ii), .unset, .unset] [(.int (1 : Int32)), (.long sqv)])) t
          refine XS.lshl X205.here hx rfl (hb hby d1_98) rfl ?_
          show Steps p.tables e below (T205.setTop (mkF m 99 #[.val (.ref a1), .val (.int (0 : Int32)), .val (.long (-2305842979148922879 : Int64)), .second, .val (.long sqv), .second, .val (.int ii), .unset, .unset] [(.long (sqv <<< ((1 : Int32) &&& 0x3f).toInt64))])) t
          refine XS.aloadN X205.here hx rfl (hb hby d1_99) rfl rfl ?_
          show Steps p.tables e below (T205.setTop (mkF m 100 #[.val (.ref a1), .val (.int (0 : Int32)), .val (.long (-2305842979148922879 : Int64)), .second, .val (.long sqv), .second, .val (.int ii), .unset, .unset] [(.ref a1), (.long (sqv <<< ((1 : Int32) &&& 0x3f).toInt64))])) t
          refine st208 _ ?_
          show Steps p.tables e below (T208.setTop (mkF m 103 #[.val (.ref a1), .val (.int (0 : Int32)), .val (.long (-2305842979148922879 : Int64)), .second, .val (.long sqv), .second, .val (.int ii), .unset, .unset] [(.long (2305842979148922881 : Int64)), (.long (sqv <<< ((1 : Int32) &&& 0x3f).toInt64))])) t
          refine st209 _ ?_
          show Steps p.tables e below (T209.setTop (mkF m 106 #[.val (.ref a1), .val (.int (0 : Int32)), .val (.long (-2305842979148922879 : Int64)), .second, .val (.long sqv), .second, .val (.int ii), .unset, .unset] [(.long (own_sub (sqv <<< ((1 : Int32) &&& 0x3f).toInt64) (2305842979148922881 : Int64)))])) t
          refine XS.lstore X209.here hx rfl (hb hby d1_106) rfl (l' := #[.val (.ref a1), .val (.int (0 : Int32)), .val (.long (-2305842979148922879 : Int64)), .second, .val (.long (own_sub (sqv <<< ((1 : Int32) &&& 0x3f).toInt64) (2305842979148922881 : Int64))), .second, .val (.int ii), .unset, .unset]) rfl ?_
          show Steps p.tables e below (T209.setTop (mkF m 108 #[.val (.ref a1), .val (.int (0 : Int32)), .val (.long (-2305842979148922879 : Int64)), .second, .val (.long (own_sub (sqv <<< ((1 : Int32) &&& 0x3f).toInt64) (2305842979148922881 : Int64))), .second, .val (.int ii), .unset, .unset] [])) t
          refine XS.iinc X209.here hx rfl (hb hby d1_108) rfl (l' := #[.val (.ref a1), .val (.int (0 : Int32)), .val (.long (-2305842979148922879 : Int64)), .second, .val (.long (own_sub (sqv <<< ((1 : Int32) &&& 0x3f).toInt64) (2305842979148922881 : Int64))), .second, .val (.int (ii + (1 : Int32))), .unset, .unset]) rfl ?_
          show Steps p.tables e below (T209.setTop (mkF m 111 #[.val (.ref a1), .val (.int (0 : Int32)), .val (.long (-2305842979148922879 : Int64)), .second, .val (.long (own_sub (sqv <<< ((1 : Int32) &&& 0x3f).toInt64) (2305842979148922881 : Int64))), .second, .val (.int (ii + (1 : Int32))), .unset, .unset] [])) t
          refine XS.goto X209.here hx rfl (pc0 := 111) (pc' := 88) rfl (hb hby d1_111) (by decide) (by decide) ?_
          exact k)
        exact ih205 _ _ _ _ (k + 1) X209 e209 N209 (congrArg (fun z => own_sub (z <<< ((1 : Int32) &&& 0x3f).toInt64) (2305842979148922881 : Int64)) hq) (own_inc hi) (own_k64 hi hk hc206) (Nat.lt_of_lt_of_le (own_m64 hi hk hc206) (Nat.lt_succ_iff.mp hm205)) pre210
      · have pre211 : ∀ t, Steps p.tables e below (T205.setTop (mkF m 114 #[.val (.ref a1), .val (.int (0 : Int32)), .val (.long (-2305842979148922879 : Int64)), .second, .val (.long sqv), .second, .val (.int ii), .unset, .unset] [])) t → Steps p.tables e below (s₁.setTop (entryFrame m #[(.ref a1), (.int (0 : Int32))] 9)) t := fun t k => pre207 t (by
          show Steps p.tables e below (T205.setTop (mkF m 92 #[.val (.ref a1), .val (.int (0 : Int32)), .val (.long (-2305842979148922879 : Int64)), .second, .val (.long sqv), .second, .val (.int ii), .unset, .unset] [(.int (64 : Int32)), (.int ii)])) t
          refine XS.icmpYes X205.here hx rfl (pc0 := 92) (pc' := 114) rfl (hb hby d1_92) rfl (flt hc206).2.1 (by decide) (by decide) ?_
          exact k)
        have pre212 : ∀ t, Steps p.tables e below (T205.setTop (mkF m 114 #[.val (.ref a1), .val (.int (0 : Int32)), .val (.long (-2305842979148922879 : Int64)), .second, .val (.long (750416685932096 : Int64)), .second, .val (.int ii), .unset, .unset] [])) t → Steps p.tables e below (s₁.setTop (entryFrame m #[(.ref a1), (.int (0 : Int32))] 9)) t := fun t k => pre211 t (by rw [show sqv = (750416685932096 : Int64) from (own_dend hq hi hk hc206 (by decide +kernel))]; exact k)
        obtain ⟨T213, h213, X213, e213, W213, st213⟩ := putF X205 hx hZ hown (host := "") (Or.inl (own_i hw 29 rfl)) Via.refl e205 f190 f191 (Or.inr ⟨(own_i hw 30 rfl), rfl, hnm⟩) (own_i hw 1 rfl) (ty := .long) (by decide) rfl rfl (g := (mkF m 117 #[.val (.ref a1), .val (.int (0 : Int32)), .val (.long (-2305842979148922879 : Int64)), .second, .val (.long (750416685932096 : Int64)), .second, .val (.int ii), .unset, .unset] [(.long (750416685932096 : Int64)), (.ref a1)])) rfl rfl (hb hby d1_117)
        have Fw213 := f190.same W213
        have N213 := Fr.snoc X213 N205 g1
        have f214 := Nat.le_trans f188 (Keep.of_wr W213).1
        have f215 := f189.wr W213 g1
        have f216 := f191.wr W213
        have f217 := f192.wr W213 (Or.inl (List.mem_of_getElem? (i := 0) rfl))
        have f218 := f193.other W213 (Ne.symm ne104)
        have f219 := f194.other W213 (Or.inr (slot_ne (Or.inr (own_i hw 11 rfl)) (Or.inr (own_i hw 30 rfl)) (by decide) (t := (.array .long)) (t' := .long) (by decide) (by decide)))
        have f220 := f195.other W213 (Or.inr (slot_ne (Or.inr (own_i hw 15 rfl)) (Or.inr (own_i hw 30 rfl)) (by decide) (t := .long) (t' := .long) (by decide) (by decide)))
        have f221 := f196.other W213 (Or.inr (slot_ne (Or.inr (own_i hw 18 rfl)) (Or.inr (own_i hw 30 rfl)) (by decide) (t := .long) (t' := .long) (by decide) (by decide)))
        have f222 := Fw187.other W213 (Or.inr (slot_ne (Or.inr (own_i hw 20 rfl)) (Or.inr (own_i hw 30 rfl)) (by decide) (t := .long) (t' := .long) (by decide) (by decide)))
        obtain ⟨T223, X223, e223, st223⟩ := getS2 X213 hx hZ hown (host := "") (Or.inl (own_i hw 31 rfl)) Via.refl e213 (SN.ext f215.2) (g := (mkF m 121 #[.val (.ref a1), .val (.int (0 : Int32)), .val (.long (-2305842979148922879 : Int64)), .second, .val (.long (750416685932096 : Int64)), .second, .val (.int ii), .unset, .unset] [(.ref a1)])) rfl (hb hby d1_121)
        obtain ⟨cl224, Ar224, q224, S224, N224z, H224, G224⟩ := (id (AN.ext f215.2))
        have hin224 : ¬ ((0 : Int32) < 0 ∨ cl224.slots.size ≤ ((0 : Int32)).toNatClampNeg) := inb_of S224 ⟨by decide, by decide⟩
        have hat224 : cl224.slots[((0 : Int32)).toNatClampNeg]? = some (.long (3 : Int64)) := Has.at H224 hin224 rfl
        obtain ⟨T225, X225, e225, st225⟩ := getF X223 hx hZ hown (host := "") (Or.inl (own_i hw 14 rfl)) Via.refl e223 f220 (g := (mkF m 127 #[.val (.ref a1), .val (.int (0 : Int32)), .val (.long (-2305842979148922879 : Int64)), .second, .val (.long (750416685932096 : Int64)), .second, .val (.int ii), .unset, .unset] [(.ref a1), (.long (3 : Int64)), (.ref a1)])) rfl rfl (hb hby d1_127)
        have pre226 : ∀ t, Steps p.tables e below (T225.setTop (mkF m 132 #[.val (.ref a1), .val (.int (0 : Int32)), .val (.long (-2305842979148922879 : Int64)), .second, .val (.long (750416685932096 : Int64)), .second, .val (.int ii), .unset, .unset] [(.long ((2305842979148922881 : Int64) - (1 : Int64))), (.long (3 : Int64)), (.ref a1)])) t → Steps p.tables e below (s₁.setTop (entryFrame m #[(.ref a1), (.int (0 : Int32))] 9)) t := fun t k => pre212 t (by
          show Steps p.tables e below (T205.setTop (mkF m 114 #[.val (.ref a1), .val (.int (0 : Int32)), .val (.long (-2305842979148922879 : Int64)), .second, .val (.long (750416685932096 : Int64)), .second, .val (.int ii), .unset, .unset] [])) t
          refine XS.aloadN X205.here hx rfl (hb hby d1_114) rfl rfl ?_
          show Steps p.tables e below (T205.setTop (mkF m 115 #[.val (.ref a1), .val (.int (0 : Int32)), .val (.long (-2305842979148922879 : Int64)), .second, .val (.long (750416685932096 : Int64)), .second, .val (.int ii), .unset, .unset] [(.ref a1)])) t
          refine XS.lload X205.here hx rfl (hb hby d1_115) rfl ?_
          show Steps p.tables e below (T205.setTop (mkF m 117 #[.val (.ref a1), .val (.int (0 : Int32)), .val (.long (-2305842979148922879 : Int64)), .second, .val (.long (750416685932096 : Int64)), .second, .val (.int ii), .unset, .unset] [(.long (750416685932096 : Int64)), (.ref a1)])) t
          refine st213 _ ?_
          show Steps p.tables e below (T213.setTop (mkF m 120 #[.val (.ref a1), .val (.int (0 : Int32)), .val (.long (-2305842979148922879 : Int64)), .second, .val (.long (750416685932096 : Int64)), .second, .val (.int ii), .unset, .unset] [])) t
          refine XS.aloadN X213.here hx rfl (hb hby d1_120) rfl rfl ?_
          show Steps p.tables e below (T213.setTop (mkF m 121 #[.val (.ref a1), .val (.int (0 : Int32)), .val (.long (-2305842979148922879 : Int64)), .second, .val (.long (750416685932096 : Int64)), .second, .val (.int ii), .unset, .unset] [(.ref a1)])) t
          refine st223 _ ?_
          show Steps p.tables e below (T223.setTop (mkF m 124 #[.val (.ref a1), .val (.int (0 : Int32)), .val (.long (-2305842979148922879 : Int64)), .second, .val (.long (750416685932096 : Int64)), .second, .val (.int ii), .unset, .unset] [(.ref wN), (.ref a1)])) t
          refine XS.iloadN X223.here hx rfl (hb hby d1_124) rfl ?_
          show Steps p.tables e below (T223.setTop (mkF m 125 #[.val (.ref a1), .val (.int (0 : Int32)), .val (.long (-2305842979148922879 : Int64)), .second, .val (.long (750416685932096 : Int64)), .second, .val (.int ii), .unset, .unset] [(.int (0 : Int32)), (.ref wN), (.ref a1)])) t
          refine X223.laload hx (j := (0 : Int32)) (v := (.long (3 : Int64))) (by rw [e223]; exact Ar224.1) (State.isArrayOf_alike hZ.alike Ar224.2.1) Ar224.2.2 hin224 hat224 (g := (mkF m 125 #[.val (.ref a1), .val (.int (0 : Int32)), .val (.long (-2305842979148922879 : Int64)), .second, .val (.long (750416685932096 : Int64)), .second, .val (.int ii), .unset, .unset] [(.int (0 : Int32)), (.ref wN), (.ref a1)])) rfl rfl (hb hby d1_125) _ ?_
          show Steps p.tables e below (T223.setTop (mkF m 126 #[.val (.ref a1), .val (.int (0 : Int32)), .val (.long (-2305842979148922879 : Int64)), .second, .val (.long (750416685932096 : Int64)), .second, .val (.int ii), .unset, .unset] [(.long (3 : Int64)), (.ref a1)])) t
          refine XS.aloadN X223.here hx rfl (hb hby d1_126) rfl rfl ?_
          show Steps p.tables e below (T223.setTop (mkF m 127 #[.val (.ref a1), .val (.int (0 : Int32)), .val (.long (-2305842979148922879 : Int64)), .second, .val (.long (750416685932096 : Int64)), .second, .val (.int ii), .unset, .unset] [(.ref a1), (.long (3 : Int64)), (.ref a1)])) t
          refine st225 _ ?_
          show Steps p.tables e below (T225.setTop (mkF m 130 #[.val (.ref a1), .val (.int (0 : Int32)), .val (.long (-2305842979148922879 : Int64)), .second, .val (.long (750416685932096 : Int64)), .second, .val (.int ii), .unset, .unset] [(.long (2305842979148922881 : Int64)), (.long (3 : Int64)), (.ref a1)])) t
          refine XS.lconst X225.here hx rfl (hb hby d1_130) ?_
          show Steps p.tables e below (T225.setTop (mkF m 131 #[.val (.ref a1), .val (.int (0 : Int32)), .val (.long (-2305842979148922879 : Int64)), .second, .val (.long (750416685932096 : Int64)), .second, .val (.int ii), .unset, .unset] [(.long (1 : Int64)), (.long (2305842979148922881 : Int64)), (.long (3 : Int64)), (.ref a1)])) t
          refine XS.lsub X225.here hx rfl (hb hby d1_131) rfl ?_
          exact k)
        have pre227 : ∀ t, Steps p.tables e below (T225.setTop (mkF m 132 #[.val (.ref a1), .val (.int (0 : Int32)), .val (.long (-2305842979148922879 : Int64)), .second, .val (.long (750416685932096 : Int64)), .second, .val (.int ii), .unset, .unset] [(.long (2305842979148922880 : Int64)), (.long (3 : Int64)), (.ref a1)])) t → Steps p.tables e below (s₁.setTop (entryFrame m #[(.ref a1), (.int (0 : Int32))] 9)) t := fun t k => pre226 t (by rw [show ((2305842979148922881 : Int64) - (1 : Int64)) = (2305842979148922880 : Int64) from (by decide +kernel)]; exact k)
        obtain ⟨cq228, q228, q228'⟩ := f216.cell
        obtain ⟨_, _, ⟨T228, L228, k228, n228⟩, -, X228, ⟨Lc228, hQ228, l228, y228, z228⟩, st228⟩ := X225.privateBack hx (y := (⟨"com/example/libsld/libsld/PrimeField", "power", "(JJ)J"⟩ : MethodName)) hown (mvT hZ (own_i hw 33 rfl)) (mvT hZ (own_i hw 34 rfl)) (mvT hZ (own_sel (y := (⟨"com/example/libsld/libsld/PrimeField", "power", "(JJ)J"⟩ : MethodName)) (own_i hw 34 rfl) (own_i hw 35 rfl) (own_i hw 1 rfl) (by decide))) (Cond.privateMethod_at (mvP hZ (own_i hw 35 rfl) (args := #[]))) (mvT hZ (own_i hw 36 rfl)) (by decide) (backOf (W := 0) (rmPow l Z a0 hw [] a1 (3 : Int64) (((2305842979148922880 : Int64).toUInt64 >>> ((32 : Int32) &&& 0x3f).toInt64.toUInt64).toInt64) (2305842979148922881 : Int64) (-2305842979148922879 : Int64) (750416685932096 : Int64) h213 n0 f214 f216 f220 f222 Fw213) hZ (own_i hw 36 rfl) (own_i hw 2 rfl) (by decide) (by decide)) (g := (mkF m 135 #[.val (.ref a1), .val (.int (0 : Int32)), .val (.long (-2305842979148922879 : Int64)), .second, .val (.long (750416685932096 : Int64)), .second, .val (.int ii), .unset, .unset] [(.long (((2305842979148922880 : Int64).toUInt64 >>> ((32 : Int32) &&& 0x3f).toInt64.toUInt64).toInt64)), (.long (3 : Int64)), (.ref a1)])) rfl (by rw [hml]; rfl) (Steps.refl _) (a := a1) (by rw [e225]; exact q228) q228' (argsL := [(.long (3 : Int64)), (.long (((2305842979148922880 : Int64).toUInt64 >>> ((32 : Int32) &&& 0x3f).toInt64.toUInt64).toInt64))]) (rest := []) (lenOf pd_0 rfl) rfl (by show 2 * 0 + _ ≤ _; exact Nat.le_of_eq rfl) (hb hby d1_135) (fun _ _ => ⟨rfl, e225, (by decide : 1 + 0 ≤ _), (by decide : 33 + 0 ≤ _)⟩)
        dsimp only [Pt.U, Pt.locs, Pt.cells, Pt.slots] at X228 l228 y228 z228 st228 hQ228
        subst l228 y228 z228
        obtain ⟨x229, rfl, N228q, e228⟩ := hQ228
        have N228 := Fr.app N213 N228q
        have f230 : own_A Z h213 b103 := own_A_of f218
        have pre231 : ∀ t, Steps p.tables e below (T228.setTop (mkF m 144 #[.val (.ref a1), .val (.int (0 : Int32)), .val (.long (-2305842979148922879 : Int64)), .second, .val (.long (750416685932096 : Int64)), .second, .val (.long x229), .second, .val (.int (32 : Int32))] [])) t → Steps p.tables e below (s₁.setTop (entryFrame m #[(.ref a1), (.int (0 : Int32))] 9)) t := fun t k => pre227 t (by
          show Steps p.tables e below (T225.setTop (mkF m 132 #[.val (.ref a1), .val (.int (0 : Int32)), .val (.long (-2305842979148922879 : Int64)), .second, .val (.long (750416685932096 : Int64)), .second, .val (.int ii), .unset, .unset] [(.long (2305842979148922880 : Int64)), (.long (3 : Int64)), (.ref a1)])) t
          refine XS.bipush X225.here hx rfl (hb hby d1_132) ?_
          show Steps p.tables e below (T225.setTop (mkF m 134 #[.val (.ref a1), .val (.int (0 : Int32)), .val (.long (-2305842979148922879 : Int64)), .second, .val (.long (750416685932096 : Int64)), .second, .val (.int ii), .unset, .unset] [(.int (32 : Int32)), (.long (2305842979148922880 : Int64)), (.long (3 : Int64)), (.ref a1)])) t
          refine XS.lushr X225.here hx rfl (hb hby d1_134) rfl ?_
          show Steps p.tables e below (T225.setTop (mkF m 135 #[.val (.ref a1), .val (.int (0 : Int32)), .val (.long (-2305842979148922879 : Int64)), .second, .val (.long (750416685932096 : Int64)), .second, .val (.int ii), .unset, .unset] [(.long (((2305842979148922880 : Int64).toUInt64 >>> ((32 : Int32) &&& 0x3f).toInt64.toUInt64).toInt64)), (.long (3 : Int64)), (.ref a1)])) t
          refine st228.trans ?_
          show Steps p.tables e below (T228.setTop (mkF m 138 #[.val (.ref a1), .val (.int (0 : Int32)), .val (.long (-2305842979148922879 : Int64)), .second, .val (.long (750416685932096 : Int64)), .second, .val (.int ii), .unset, .unset] [(.long x229)])) t
          refine XS.lstore X228.here hx rfl (hb hby d1_138) rfl (l' := #[.val (.ref a1), .val (.int (0 : Int32)), .val (.long (-2305842979148922879 : Int64)), .second, .val (.long (750416685932096 : Int64)), .second, .val (.long x229), .second, .unset]) rfl ?_
          show Steps p.tables e below (T228.setTop (mkF m 140 #[.val (.ref a1), .val (.int (0 : Int32)), .val (.long (-2305842979148922879 : Int64)), .second, .val (.long (750416685932096 : Int64)), .second, .val (.long x229), .second, .unset] [])) t
          refine XS.bipush X228.here hx rfl (hb hby d1_140) ?_
          show Steps p.tables e below (T228.setTop (mkF m 142 #[.val (.ref a1), .val (.int (0 : Int32)), .val (.long (-2305842979148922879 : Int64)), .second, .val (.long (750416685932096 : Int64)), .second, .val (.long x229), .second, .unset] [(.int (32 : Int32))])) t
          refine XS.istore X228.here hx rfl (hb hby d1_142) rfl (l' := #[.val (.ref a1), .val (.int (0 : Int32)), .val (.long (-2305842979148922879 : Int64)), .second, .val (.long (750416685932096 : Int64)), .second, .val (.long x229), .second, .val (.int (32 : Int32))]) rfl ?_
          exact k)
        have hl232 : ∀ (nn : Nat) (T232 : State) (L232 : List Loc) (h232 : Heap) (rv : Int64) (kk : Int32), Stand p l e ({ frames := 5, cells := 1, slots := 33, locals := 105 } : Room) s m #[(.ref a1), (.int (0 : Int32))] below meth c T232 L232 1 33 → T232.heap = h232 → Fr n0 L232 → (n0 ≤ h232.size) → (Keep h0 h232 [a1]) → (Exa Z h232 a1 "com/example/libsld/libsld/PrimeField") → (Fld Z h232 a1 "com/example/libsld/libsld/PrimeField" "p" "J" (.long (2305842979148922881 : Int64))) → (Fld Z h232 a1 "com/example/libsld/libsld/PrimeField" "inverse" "J" (.long (-2305842979148922879 : Int64))) → (Fld Z h232 a1 "com/example/libsld/libsld/PrimeField" "montgomerySquare" "J" (.long (750416685932096 : Int64))) → (Fld Z h232 a1 "com/example/libsld/libsld/PrimeField" "rootsOfOrder" "[J" (.ref b103)) → (own_A Z h232 b103) → (kk < (33 : Int32)) → (kk.toInt + 1).toNat < nn → (∀ t, Steps p.tables e below (T232.setTop (mkF m 144 #[.val (.ref a1), .val (.int (0 : Int32)), .val (.long (-2305842979148922879 : Int64)), .second, .val (.long (750416685932096 : Int64)), .second, .val (.long rv), .second, .val (.int kk)] [])) t → Steps p.tables e below (s₁.setTop (entryFrame m #[(.ref a1), (.int (0 : Int32))] 9)) t) → ∃ s₂ o, Steps p.tables e below (s₁.setTop (entryFrame m #[(.ref a1), (.int (0 : Int32))] 9)) s₂ ∧ s₂.status = .running ∧ Ended s₂ below o ∧ ∃ v L, o = .returned v ∧ QI0 Z a1 wP kP wN kN h0 n0 v s₂.heap L ∧ FrameEnd s o s₂ L ({ frames := 5, cells := 1, slots := 33, locals := 105 } : Room).cells ({ frames := 5, cells := 1, slots := 33, locals := 105 } : Room).slots := by
          intro nn
          induction nn with
          | zero => intro T232 L232 h232 rv kk X232 e232 N232 f233 f234 f235 f236 f237 f238 f239 f240 hk33 hm232 pre232; exact absurd hm232 (Nat.not_lt_zero _)
          | succ nn ih232 =>
            intro T232 L232 h232 rv kk X232 e232 N232 f233 f234 f235 f236 f237 f238 f239 f240 hk33 hm232 pre232
            have pre242 : ∀ t, Steps p.tables e below (T232.setTop (mkF m 146 #[.val (.ref a1), .val (.int (0 : Int32)), .val (.long (-2305842979148922879 : Int64)), .second, .val (.long (750416685932096 : Int64)), .second, .val (.long rv), .second, .val (.int kk)] [(.int kk)])) t → Steps p.tables e below (s₁.setTop (entryFrame m #[(.ref a1), (.int (0 : Int32))] 9)) t := fun t k => pre232 t (by
              show Steps p.tables e below (T232.setTop (mkF m 144 #[.val (.ref a1), .val (.int (0 : Int32)), .val (.long (-2305842979148922879 : Int64)), .second, .val (.long (750416685932096 : Int64)), .second, .val (.long rv), .second, .val (.int kk)] [])) t
              refine XS.iload X232.here hx rfl (hb hby d1_144) rfl ?_
              exact k)
            by_cases hc241 : kk < (0 : Int32)
            · have pre243 : ∀ t, Steps p.tables e below (T232.setTop (mkF m 174 #[.val (.ref a1), .val (.int (0 : Int32)), .val (.long (-2305842979148922879 : Int64)), .second, .val (.long (750416685932096 : Int64)), .second, .val (.long rv), .second, .val (.int kk)] [])) t → Steps p.tables e below (s₁.setTop (entryFrame m #[(.ref a1), (.int (0 : Int32))] 9)) t := fun t k => pre242 t (by
                show Steps p.tables e below (T232.setTop (mkF m 146 #[.val (.ref a1), .val (.int (0 : Int32)), .val (.long (-2305842979148922879 : Int64)), .second, .val (.long (750416685932096 : Int64)), .second, .val (.long rv), .second, .val (.int kk)] [(.int kk)])) t
                refine XS.ifYes X232.here hx rfl (pc0 := 146) (pc' := 174) rfl (hb hby d1_146) rfl ((if0 _ _).trans (tlt hc241).1) (by decide) (by decide) ?_
                exact k)
              obtain ⟨fs, hr, hrun, hended, hW, hsame⟩ := X232.leave (v := none) (fun _ => rfl)
              refine ⟨_, _, pre243 _ ?_, hrun, hended, _, _, rfl, ?_, ⟨_, rfl⟩, hW, hsame.mono (by decide) (by decide)⟩
              · exact X232.returnOut hx Bd.returns (hb hby d1_174) hr
              · show QI0 Z a1 wP kP wN kN h0 n0 _ T232.heap _
                rw [e232]
                exact ⟨rfl, N232, f234, f235, f236, f237, f238⟩
            · obtain ⟨T244, X244, e244, st244⟩ := getF X232 hx hZ hown (host := "") (Or.inl (own_i hw 10 rfl)) Via.refl e232 f239 (g := (mkF m 150 #[.val (.ref a1), .val (.int (0 : Int32)), .val (.long (-2305842979148922879 : Int64)), .second, .val (.long (750416685932096 : Int64)), .second, .val (.long rv), .second, .val (.int kk)] [(.ref a1)])) rfl rfl (hb hby d1_150)
              obtain ⟨cl245, Ar245, Sz245⟩ := (id f240)
              obtain ⟨T245, h245, X245, e245, W245, st245⟩ := stJ X244 hx hZ e244 Ar245 (j := kk) (own_inb Sz245 hc241 hk33) (g := (mkF m 157 #[.val (.ref a1), .val (.int (0 : Int32)), .val (.long (-2305842979148922879 : Int64)), .second, .val (.long (750416685932096 : Int64)), .second, .val (.long rv), .second, .val (.int kk)] [(.long rv), (.int kk), (.ref b103)])) rfl rfl (hb hby d1_157)
              have N245 := Fr.snoc X245 N232 ga105
              have A245 : own_A Z h245 b103 := own_A.wr f240 W245
              have f246 := Nat.le_trans f233 (Keep.of_wr W245).1
              have f247 := f234.wr W245 (Or.inr sz106)
              have f248 := f235.wr W245
              have f249 := f236.other W245 (Or.inl ne104)
              have f250 := f237.other W245 (Or.inl ne104)
              have f251 := f238.other W245 (Or.inl ne104)
              have f252 := f239.other W245 (Or.inl ne104)
              obtain ⟨cq253, kq253, q253a, q253b, q253c⟩ := isOf hZ e245 f248
              obtain ⟨_, _, ⟨T253, L253, k253, n253⟩, -, X253, ⟨Lc253, hQ253, l253, y253, z253⟩, st253⟩ := X245.virtualBack hx (y := (⟨"com/example/libsld/libsld/PrimeField", "multiply", "(JJ)J"⟩ : MethodName)) (z := (⟨"com/example/libsld/libsld/PrimeField", "multiply", "(JJ)J"⟩ : MethodName)) hown (mvT hZ (own_i hw 37 rfl)) (mvT hZ (own_i hw 38 rfl)) (notFace_of_selects (args := #[]) (mvT hZ (own_i hw 40 rfl))) (mvT hZ (own_i hw 40 rfl)) (mvT hZ (own_i hw 39 rfl)) (by decide) (backOf (W := 0) (rmMul l Z a0 hw [] a1 rv rv (2305842979148922881 : Int64) (-2305842979148922879 : Int64) (750416685932096 : Int64) h245 n0 f246 f248 f249 f250 f251) hZ (own_i hw 41 rfl) (own_i hw 2 rfl) (by decide) (by decide)) q253a q253c (g := (mkF m 163 #[.val (.ref a1), .val (.int (0 : Int32)), .val (.long (-2305842979148922879 : Int64)), .second, .val (.long (750416685932096 : Int64)), .second, .val (.long rv), .second, .val (.int kk)] [(.long rv), (.long rv), (.ref a1)])) rfl (by rw [hml]; rfl) (Steps.refl _) (argsL := [(.long rv), (.long rv)]) (rest := []) (lenOf pd_0 rfl) rfl (by show 2 * 0 + _ ≤ _; exact Nat.le_of_eq rfl) (hb hby d1_163) (fun _ _ => ⟨rfl, e245, (by decide : 1 + 0 ≤ _), (by decide : 33 + 0 ≤ _)⟩)
              dsimp only [Pt.U, Pt.locs, Pt.cells, Pt.slots] at X253 l253 y253 z253 st253 hQ253
              subst l253 y253 z253
              obtain ⟨rfl, N253q, e253⟩ := hQ253
              have N253 := Fr.app N245 N253q
              have pre254 : ∀ t, Steps p.tables e below (T253.setTop (mkF m 144 #[.val (.ref a1), .val (.int (0 : Int32)), .val (.long (-2305842979148922879 : Int64)), .second, .val (.long (750416685932096 : Int64)), .second, .val (.long (own_mul rv rv (2305842979148922881 : Int64) (-2305842979148922879 : Int64) (750416685932096 : Int64))), .second, .val (.int (kk + (-1 : Int32)))] [])) t → Steps p.tables e below (s₁.setTop (entryFrame m #[(.ref a1), (.int (0 : Int32))] 9)) t := fun t k => pre242 t (by
                show Steps p.tables e below (T232.setTop (mkF m 146 #[.val (.ref a1), .val (.int (0 : Int32)), .val (.long (-2305842979148922879 : Int64)), .second, .val (.long (750416685932096 : Int64)), .second, .val (.long rv), .second, .val (.int kk)] [(.int kk)])) t
                refine XS.ifNo X232.here hx rfl (hb hby d1_146) rfl ((if0 _ _).trans (flt hc241).1) ?_
                show Steps p.tables e below (T232.setTop (mkF m 149 #[.val (.ref a1), .val (.int (0 : Int32)), .val (.long (-2305842979148922879 : Int64)), .second, .val (.long (750416685932096 : Int64)), .second, .val (.long rv), .second, .val (.int kk)] [])) t
                refine XS.aloadN X232.here hx rfl (hb hby d1_149) rfl rfl ?_
                show Steps p.tables e below (T232.setTop (mkF m 150 #[.val (.ref a1), .val (.int (0 : Int32)), .val (.long (-2305842979148922879 : Int64)), .second, .val (.long (750416685932096 : Int64)), .second, .val (.long rv), .second, .val (.int kk)] [(.ref a1)])) t
                refine st244 _ ?_
                show Steps p.tables e below (T244.setTop (mkF m 153 #[.val (.ref a1), .val (.int (0 : Int32)), .val (.long (-2305842979148922879 : Int64)), .second, .val (.long (750416685932096 : Int64)), .second, .val (.long rv), .second, .val (.int kk)] [(.ref b103)])) t
                refine XS.iload X244.here hx rfl (hb hby d1_153) rfl ?_
                show Steps p.tables e below (T244.setTop (mkF m 155 #[.val (.ref a1), .val (.int (0 : Int32)), .val (.long (-2305842979148922879 : Int64)), .second, .val (.long (750416685932096 : Int64)), .second, .val (.long rv), .second, .val (.int kk)] [(.int kk), (.ref b103)])) t
                refine XS.lload X244.here hx rfl (hb hby d1_155) rfl ?_
                show Steps p.tables e below (T244.setTop (mkF m 157 #[.val (.ref a1), .val (.int (0 : Int32)), .val (.long (-2305842979148922879 : Int64)), .second, .val (.long (750416685932096 : Int64)), .second, .val (.long rv), .second, .val (.int kk)] [(.long rv), (.int kk), (.ref b103)])) t
                refine st245 _ ?_
                show Steps p.tables e below (T245.setTop (mkF m 158 #[.val (.ref a1), .val (.int (0 : Int32)), .val (.long (-2305842979148922879 : Int64)), .second, .val (.long (750416685932096 : Int64)), .second, .val (.long rv), .second, .val (.int kk)] [])) t
                refine XS.aloadN X245.here hx rfl (hb hby d1_158) rfl rfl ?_
                show Steps p.tables e below (T245.setTop (mkF m 159 #[.val (.ref a1), .val (.int (0 : Int32)), .val (.long (-2305842979148922879 : Int64)), .second, .val (.long (750416685932096 : Int64)), .second, .val (.long rv), .second, .val (.int kk)] [(.ref a1)])) t
                refine XS.lload X245.here hx rfl (hb hby d1_159) rfl ?_
                show Steps p.tables e below (T245.setTop (mkF m 161 #[.val (.ref a1), .val (.int (0 : Int32)), .val (.long (-2305842979148922879 : Int64)), .second, .val (.long (750416685932096 : Int64)), .second, .val (.long rv), .second, .val (.int kk)] [(.long rv), (.ref a1)])) t
                refine XS.lload X245.here hx rfl (hb hby d1_161) rfl ?_
                show Steps p.tables e below (T245.setTop (mkF m 163 #[.val (.ref a1), .val (.int (0 : Int32)), .val (.long (-2305842979148922879 : Int64)), .second, .val (.long (750416685932096 : Int64)), .second, .val (.long rv), .second, .val (.int kk)] [(.long rv), (.long rv), (.ref a1)])) t
                refine st253.trans ?_
                show Steps p.tables e below (T253.setTop (mkF m 166 #[.val (.ref a1), .val (.int (0 : Int32)), .val (.long (-2305842979148922879 : Int64)), .second, .val (.long (750416685932096 : Int64)), .second, .val (.long rv), .second, .val (.int kk)] [(.long (own_mul rv rv (2305842979148922881 : Int64) (-2305842979148922879 : Int64) (750416685932096 : Int64)))])) t
                refine XS.lstore X253.here hx rfl (hb hby d1_166) rfl (l' := #[.val (.ref a1), .val (.int (0 : Int32)), .val (.long (-2305842979148922879 : Int64)), .second, .val (.long (750416685932096 : Int64)), .second, .val (.long (own_mul rv rv (2305842979148922881 : Int64) (-2305842979148922879 : Int64) (750416685932096 : Int64))), .second, .val (.int kk)]) rfl ?_
                show Steps p.tables e below (T253.setTop (mkF m 168 #[.val (.ref a1), .val (.int (0 : Int32)), .val (.long (-2305842979148922879 : Int64)), .second, .val (.long (750416685932096 : Int64)), .second, .val (.long (own_mul rv rv (2305842979148922881 : Int64) (-2305842979148922879 : Int64) (750416685932096 : Int64))), .second, .val (.int kk)] [])) t
                refine XS.iinc X253.here hx rfl (hb hby d1_168) rfl (l' := #[.val (.ref a1), .val (.int (0 : Int32)), .val (.long (-2305842979148922879 : Int64)), .second, .val (.long (750416685932096 : Int64)), .second, .val (.long (own_mul rv rv (2305842979148922881 : Int64) (-2305842979148922879 : Int64) (750416685932096 : Int64))), .second, .val (.int (kk + (-1 : Int32)))]) rfl ?_
                show Steps p.tables e below (T253.setTop (mkF m 171 #[.val (.ref a1), .val (.int (0 : Int32)), .val (.long (-2305842979148922879 : Int64)), .second, .val (.long (750416685932096 : Int64)), .second, .val (.long (own_mul rv rv (2305842979148922881 : Int64) (-2305842979148922879 : Int64) (750416685932096 : Int64))), .second, .val (.int (kk + (-1 : Int32)))] [])) t
                refine XS.goto X253.here hx rfl (pc0 := 171) (pc' := 144) rfl (hb hby d1_171) (by decide) (by decide) ?_
                exact k)
              exact ih232 _ _ _ _ _ X253 e253 N253 f246 f247 f248 f249 f250 f251 f252 A245 (own_dec33 hk33 hc241) (Nat.lt_of_lt_of_le (own_decm hk33 hc241) (Nat.lt_succ_iff.mp hm232)) pre254
        exact hl232 _ _ _ _ _ _ X228 e228 N228 f214 f217 f216 f220 f222 Fw213 f219 f230 (by decide) (Nat.lt_succ_self _) pre231
  exact hl205 _ _ _ _ _ (0) X201 e201 N201 (rfl) (by decide) (by decide) (Nat.lt_succ_self _) pre204
theorem ef_rmI1 (m : MethodId) (x0 : Addr) : entryFrame m #[(.ref x0), (.int (1 : Int32))] 9 = mkF m 0 #[.val (.ref x0), .val (.int (1 : Int32)), .unset, .unset, .unset, .unset, .unset, .unset, .unset] [] := by first | (simp [entryFrame, mkF, argsToLocals, Value.category]; done) | rfl
def QI1 (Z : State) (a1 : Addr) (wP : Addr) (kP : ClassId) (wN : Addr) (kN : ClassId) (h0 : Heap) (n0 : Nat) (v : Option Value) (h : Heap) (L : List Loc) : Prop := v = none ∧ Fr n0 L ∧ Keep h0 h [a1] ∧ (Exa Z h a1 "com/example/libsld/libsld/PrimeField") ∧ (Fld Z h a1 "com/example/libsld/libsld/PrimeField" "p" "J" (.long (2305842798760296449 : Int64))) ∧ (Fld Z h a1 "com/example/libsld/libsld/PrimeField" "inverse" "J" (.long (-2305842798760296447 : Int64))) ∧ (Fld Z h a1 "com/example/libsld/libsld/PrimeField" "montgomerySquare" "J" (.long (258685948956327488 : Int64)))
set_option maxRecDepth 65536 in
set_option maxHeartbeats 40000000 in
theorem rmI1 (l : Launch) (Z : State) (a0 : Array Value) (hw : ∀ d ∈ tables_1, d.before a0 Z = true) (ws : List Jvm.Cond) (a1 : Addr) (wP : Addr) (kP : ClassId) (wN : Addr) (kN : ClassId) (h0 : Heap) (n0 : Nat) (Z0 : n0 ≤ h0.size) (SP : Sta Z Z.heap "com/example/libsld/libsld/PrimeField" "PRIMES" "[J" (.ref wP)) (AP : Arv Z Z.heap wP kP .long (4 : Int32) [(.long (2305842979148922881 : Int64)), (.long (2305842798760296449 : Int64)), (.long (2305842644141473793 : Int64)), (.long (2305842343493763073 : Int64))] (.long (0 : Int64))) (SN : Sta Z Z.heap "com/example/libsld/libsld/PrimeField" "NON_RESIDUES" "[J" (.ref wN)) (AN : Arv Z Z.heap wN kN .long (4 : Int32) [(.long (3 : Int64)), (.long (3 : Int64)), (.long (3 : Int64)), (.long (5 : Int64))] (.long (0 : Int64))) (O0 : Old Z n0 h0) (Z1 : Fld Z h0 a1 "com/example/libsld/libsld/PrimeField" "rootsOfOrder" "[J" .null) (Z2 : Fld Z h0 a1 "com/example/libsld/libsld/PrimeField" "p" "J" (.long (0 : Int64))) (Z3 : Fld Z h0 a1 "com/example/libsld/libsld/PrimeField" "twoP" "J" (.long (0 : Int64))) (Z4 : Fld Z h0 a1 "com/example/libsld/libsld/PrimeField" "inverse" "J" (.long (0 : Int64))) (Z5 : Fld Z h0 a1 "com/example/libsld/libsld/PrimeField" "montgomerySquare" "J" (.long (0 : Int64))) (E1 : Exa Z h0 a1 "com/example/libsld/libsld/PrimeField") (g1 : n0 ≤ a1) :
    MetFree l (⟨"com/example/libsld/libsld/PrimeField", "<init>", "(I)V"⟩ : MethodName) (head1 (Jvm.Cond.code (⟨"com/example/libsld/libsld/PrimeField", "<init>", "(I)V"⟩ : MethodName) prog_87_method_1_code 9 none :: ws) ({ frames := 5, cells := 1, slots := 33, locals := 105 } : Room)) (fun a U => a = #[(.ref a1), (.int (1 : Int32))] ∧ Z.Warmed39 U.vm ∧ U.heap = h0) (fun _ _ _ _ _ => True) (fun _ U o U' => ∃ v L, o = .returned v ∧ QI1 Z a1 wP kP wN kN h0 n0 v U'.heap L ∧ FrameEnd U o U' L ({ frames := 5, cells := 1, slots := 33, locals := 105 } : Room).cells ({ frames := 5, cells := 1, slots := 33, locals := 105 } : Room).slots) := by
  refine MetFree.of_bodySF (plainFor_of_name pn_com_example_libsld_libsld_PrimeField) hisR ?_
  intro p e s m args below meth c s₁ Bd hml0 hP hK
  obtain ⟨rfl, hZ, hh⟩ := hP
  have hx := Bd.exec
  have hby := Bd.bytes
  have hml : c.maxLocals = 9 := hml0
  have hown : s.vm.findClass "com/example/libsld/libsld/PrimeField" = some m.cls := findClass_of_methodNamed Bd.named
  have hnm := (name_of_methodNamed Bd.named Bd.method).1
  have X0 : Stand p l e ({ frames := 5, cells := 1, slots := 33, locals := 105 } : Room) s m #[(.ref a1), (.int (1 : Int32))] below meth c s₁ [] 0 0 := Stand.of_body Bd
  have e0 : s₁.heap = h0 := by rw [← hh, Bd.state]; rfl
  have N0 := Fr.nil n0
  have pre0 : ∀ t, Steps p.tables e below (s₁.setTop (mkF m 0 #[.val (.ref a1), .val (.int (1 : Int32)), .unset, .unset, .unset, .unset, .unset, .unset, .unset] [])) t → Steps p.tables e below (s₁.setTop (entryFrame m #[(.ref a1), (.int (1 : Int32))] 9)) t := fun t k => castTop (ef_rmI1 m a1) k
  have f101 := Keep.refl h0 [a1]
  obtain ⟨T102, X102, e102, st102⟩ := initO X0 hx hZ hown (own_i hw 6 rfl) (own_i hw 7 rfl) (own_i hw 8 rfl) e0 (g := (mkF m 1 #[.val (.ref a1), .val (.int (1 : Int32)), .unset, .unset, .unset, .unset, .unset, .unset, .unset] [(.ref a1)])) rfl (by rw [hml]; rfl) rfl (hb hby d1_1) (by decide) (W := 0) (by show 2 * 0 + _ ≤ _; exact Nat.le_of_eq rfl) (by decide)
  obtain ⟨T103, h103, k103, X103, e103, E103, A103, st103⟩ := newP X102 hx hZ (own_i hw 9 rfl) e102 (g := (mkF m 7 #[.val (.ref a1), .val (.int (1 : Int32)), .unset, .unset, .unset, .unset, .unset, .unset, .unset] [(.int (33 : Int32)), (.ref a1)])) rfl (hb hby d1_7) rfl (by decide) (cap := 33) (by decide) (by decide) (by decide) (by decide)
  obtain ⟨b103, g103⟩ : ∃ z, z = h0.size := ⟨_, rfl⟩
  rw [← g103] at A103 st103
  have ne104 : a1 ≠ b103 := Nat.ne_of_lt (Nat.lt_of_lt_of_le Z1.lt (Nat.le_of_eq g103.symm))
  have ga105 : n0 ≤ b103 := Nat.le_trans Z0 (Nat.le_of_eq g103.symm)
  have sz106 : h0.size ≤ b103 := Nat.le_trans f101.1 (Nat.le_of_eq g103.symm)
  have V103 : Arv Z h103 b103 k103 .long (33 : Int32) [(.long (0 : Int64)), (.long (0 : Int64)), (.long (0 : Int64)), (.long (0 : Int64)), (.long (0 : Int64)), (.long (0 : Int64)), (.long (0 : Int64)), (.long (0 : Int64)), (.long (0 : Int64)), (.long (0 : Int64)), (.long (0 : Int64)), (.long (0 : Int64)), (.long (0 : Int64)), (.long (0 : Int64)), (.long (0 : Int64)), (.long (0 : Int64)), (.long (0 : Int64)), (.long (0 : Int64)), (.long (0 : Int64)), (.long (0 : Int64)), (.long (0 : Int64)), (.long (0 : Int64)), (.long (0 : Int64)), (.long (0 : Int64)), (.long (0 : Int64)), (.long (0 : Int64)), (.long (0 : Int64)), (.long (0 : Int64)), (.long (0 : Int64)), (.long (0 : Int64)), (.long (0 : Int64)), (.long (0 : Int64)), (.long (0 : Int64))] (.long (0 : Int64)) := (Arv.new A103 (by decide)).pad (pad_rep [] (.long (0 : Int64)) 33)
  have f107 := Nat.le_trans Z0 E103.1
  have f108 := O0.ext E103
  have f109 := Z1.ext E103
  have f110 := Z2.ext E103
  have f111 := Z3.ext E103
  have f112 := Z4.ext E103
  have f113 := Z5.ext E103
  have f114 := E1.ext E103
  have f115 := f101.ext E103
  obtain ⟨T116, h116, X116, e116, W116, st116⟩ := putF X103 hx hZ hown (host := "") (Or.inl (own_i hw 10 rfl)) Via.refl e103 f109 f114 (Or.inr ⟨(own_i hw 11 rfl), rfl, hnm⟩) (own_i hw 1 rfl) (ty := (.array .long)) (by decide) rfl rfl (g := (mkF m 9 #[.val (.ref a1), .val (.int (1 : Int32)), .unset, .unset, .unset, .unset, .unset, .unset, .unset] [(.ref b103), (.ref a1)])) rfl rfl (hb hby d1_9)
  have Fw116 := f109.same W116
  have N116 := Fr.snoc X116 N0 g1
  have f117 := Nat.le_trans f107 (Keep.of_wr W116).1
  have f118 := f108.wr W116 g1
  have f119 := f110.other W116 (Or.inr (slot_ne (Or.inr (own_i hw 15 rfl)) (Or.inr (own_i hw 11 rfl)) (by decide) (t := .long) (t' := (.array .long)) (by decide) (by decide)))
  have f120 := f111.other W116 (Or.inr (slot_ne (Or.inr (own_i hw 18 rfl)) (Or.inr (own_i hw 11 rfl)) (by decide) (t := .long) (t' := (.array .long)) (by decide) (by decide)))
  have f121 := f112.other W116 (Or.inr (slot_ne (Or.inr (own_i hw 20 rfl)) (Or.inr (own_i hw 11 rfl)) (by decide) (t := .long) (t' := (.array .long)) (by decide) (by decide)))
  have f122 := f113.other W116 (Or.inr (slot_ne (Or.inr (own_i hw 30 rfl)) (Or.inr (own_i hw 11 rfl)) (by decide) (t := .long) (t' := (.array .long)) (by decide) (by decide)))
  have f123 := f114.wr W116
  have f124 := f115.wr W116 (Or.inl (List.mem_of_getElem? (i := 0) rfl))
  have f125 := V103.other W116 (Ne.symm ne104)
  obtain ⟨T126, X126, e126, st126⟩ := getS2 X116 hx hZ hown (host := "") (Or.inl (own_i hw 12 rfl)) Via.refl e116 (SP.ext f118.2) (g := (mkF m 13 #[.val (.ref a1), .val (.int (1 : Int32)), .unset, .unset, .unset, .unset, .unset, .unset, .unset] [(.ref a1)])) rfl (hb hby d1_13)
  obtain ⟨cl127, Ar127, q127, S127, N127z, H127, G127⟩ := (id (AP.ext f118.2))
  have hin127 : ¬ ((1 : Int32) < 0 ∨ cl127.slots.size ≤ ((1 : Int32)).toNatClampNeg) := inb_of S127 ⟨by decide, by decide⟩
  have hat127 : cl127.slots[((1 : Int32)).toNatClampNeg]? = some (.long (2305842798760296449 : Int64)) := Has.at H127 hin127 rfl
  obtain ⟨T128, h128, X128, e128, W128, st128⟩ := putF X126 hx hZ hown (host := "") (Or.inl (own_i hw 14 rfl)) Via.refl e126 f119 f123 (Or.inr ⟨(own_i hw 15 rfl), rfl, hnm⟩) (own_i hw 1 rfl) (ty := .long) (by decide) rfl rfl (g := (mkF m 18 #[.val (.ref a1), .val (.int (1 : Int32)), .unset, .unset, .unset, .unset, .unset, .unset, .unset] [(.long (2305842798760296449 : Int64)), (.ref a1)])) rfl rfl (hb hby d1_18)
  have Fw128 := f119.same W128
  have N128 := Fr.snoc X128 N116 g1
  have f129 := Nat.le_trans f117 (Keep.of_wr W128).1
  have f130 := f118.wr W128 g1
  have f131 := f120.other W128 (Or.inr (slot_ne (Or.inr (own_i hw 18 rfl)) (Or.inr (own_i hw 15 rfl)) (by decide) (t := .long) (t' := .long) (by decide) (by decide)))
  have f132 := f121.other W128 (Or.inr (slot_ne (Or.inr (own_i hw 20 rfl)) (Or.inr (own_i hw 15 rfl)) (by decide) (t := .long) (t' := .long) (by decide) (by decide)))
  have f133 := f122.other W128 (Or.inr (slot_ne (Or.inr (own_i hw 30 rfl)) (Or.inr (own_i hw 15 rfl)) (by decide) (t := .long) (t' := .long) (by decide) (by decide)))
  have f134 := f123.wr W128
  have f135 := f124.wr W128 (Or.inl (List.mem_of_getElem? (i := 0) rfl))
  have f136 := f125.other W128 (Ne.symm ne104)
  have f137 := Fw116.other W128 (Or.inr (slot_ne (Or.inr (own_i hw 11 rfl)) (Or.inr (own_i hw 15 rfl)) (by decide) (t := (.array .long)) (t' := .long) (by decide) (by decide)))
  obtain ⟨T138, X138, e138, st138⟩ := getF X128 hx hZ hown (host := "") (Or.inl (own_i hw 14 rfl)) Via.refl e128 Fw128 (g := (mkF m 26 #[.val (.ref a1), .val (.int (1 : Int32)), .unset, .unset, .unset, .unset, .unset, .unset, .unset] [(.ref a1), (.long (2 : Int64)), (.ref a1)])) rfl rfl (hb hby d1_26)
  have pre139 : ∀ t, Steps p.tables e below (T138.setTop (mkF m 30 #[.val (.ref a1), .val (.int (1 : Int32)), .unset, .unset, .unset, .unset, .unset, .unset, .unset] [(.long ((2 : Int64) * (2305842798760296449 : Int64))), (.ref a1)])) t → Steps p.tables e below (s₁.setTop (entryFrame m #[(.ref a1), (.int (1 : Int32))] 9)) t := fun t k => pre0 t (by
    show Steps p.tables e below (s₁.setTop (mkF m 0 #[.val (.ref a1), .val (.int (1 : Int32)), .unset, .unset, .unset, .unset, .unset, .unset, .unset] [])) t
    refine XS.aloadN X0.here hx rfl (hb hby d1_0) rfl rfl ?_
    show Steps p.tables e below (s₁.setTop (mkF m 1 #[.val (.ref a1), .val (.int (1 : Int32)), .unset, .unset, .unset, .unset, .unset, .unset, .unset] [(.ref a1)])) t
    refine st102 _ ?_
    show Steps p.tables e below (T102.setTop (mkF m 4 #[.val (.ref a1), .val (.int (1 : Int32)), .unset, .unset, .unset, .unset, .unset, .unset, .unset] [])) t
    refine XS.aloadN X102.here hx rfl (hb hby d1_4) rfl rfl ?_
    show Steps p.tables e below (T102.setTop (mkF m 5 #[.val (.ref a1), .val (.int (1 : Int32)), .unset, .unset, .unset, .unset, .unset, .unset, .unset] [(.ref a1)])) t
    refine XS.bipush X102.here hx rfl (hb hby d1_5) ?_
    show Steps p.tables e below (T102.setTop (mkF m 7 #[.val (.ref a1), .val (.int (1 : Int32)), .unset, .unset, .unset, .unset, .unset, .unset, .unset] [(.int (33 : Int32)), (.ref a1)])) t
    refine st103 _ ?_
    show Steps p.tables e below (T103.setTop (mkF m 9 #[.val (.ref a1), .val (.int (1 : Int32)), .unset, .unset, .unset, .unset, .unset, .unset, .unset] [(.ref b103), (.ref a1)])) t
    refine st116 _ ?_
    show Steps p.tables e below (T116.setTop (mkF m 12 #[.val (.ref a1), .val (.int (1 : Int32)), .unset, .unset, .unset, .unset, .unset, .unset, .unset] [])) t
    refine XS.aloadN X116.here hx rfl (hb hby d1_12) rfl rfl ?_
    show Steps p.tables e below (T116.setTop (mkF m 13 #[.val (.ref a1), .val (.int (1 : Int32)), .unset, .unset, .unset, .unset, .unset, .unset, .unset] [(.ref a1)])) t
    refine st126 _ ?_
    show Steps p.tables e below (T126.setTop (mkF m 16 #[.val (.ref a1), .val (.int (1 : Int32)), .unset, .unset, .unset, .unset, .unset, .unset, .unset] [(.ref wP), (.ref a1)])) t
    refine XS.iloadN X126.here hx rfl (hb hby d1_16) rfl ?_
    show Steps p.tables e below (T126.setTop (mkF m 17 #[.val (.ref a1), .val (.int (1 : Int32)), .unset, .unset, .unset, .unset, .unset, .unset, .unset] [(.int (1 : Int32)), (.ref wP), (.ref a1)])) t
    refine X126.laload hx (j := (1 : Int32)) (v := (.long (2305842798760296449 : Int64))) (by rw [e126]; exact Ar127.1) (State.isArrayOf_alike hZ.alike Ar127.2.1) Ar127.2.2 hin127 hat127 (g := (mkF m 17 #[.val (.ref a1), .val (.int (1 : Int32)), .unset, .unset, .unset, .unset, .unset, .unset, .unset] [(.int (1 : Int32)), (.ref wP), (.ref a1)])) rfl rfl (hb hby d1_17) _ ?_
    show Steps p.tables e below (T126.setTop (mkF m 18 #[.val (.ref a1), .val (.int (1 : Int32)), .unset, .unset, .unset, .unset, .unset, .unset, .unset] [(.long (2305842798760296449 : Int64)), (.ref a1)])) t
    refine st128 _ ?_
    show Steps p.tables e below (T128.setTop (mkF m 21 #[.val (.ref a1), .val (.int (1 : Int32)), .unset, .unset, .unset, .unset, .unset, .unset, .unset] [])) t
    refine XS.aloadN X128.here hx rfl (hb hby d1_21) rfl rfl ?_
    show Steps p.tables e below (T128.setTop (mkF m 22 #[.val (.ref a1), .val (.int (1 : Int32)), .unset, .unset, .unset, .unset, .unset, .unset, .unset] [(.ref a1)])) t
    refine X128.ldc2Long hx hown (mvT hZ (own_i hw 16 rfl)) (g := (mkF m 22 #[.val (.ref a1), .val (.int (1 : Int32)), .unset, .unset, .unset, .unset, .unset, .unset, .unset] [(.ref a1)])) rfl (hb hby d1_22) _ ?_
    show Steps p.tables e below (T128.setTop (mkF m 25 #[.val (.ref a1), .val (.int (1 : Int32)), .unset, .unset, .unset, .unset, .unset, .unset, .unset] [(.long (2 : Int64)), (.ref a1)])) t
    refine XS.aloadN X128.here hx rfl (hb hby d1_25) rfl rfl ?_
    show Steps p.tables e below (T128.setTop (mkF m 26 #[.val (.ref a1), .val (.int (1 : Int32)), .unset, .unset, .unset, .unset, .unset, .unset, .unset] [(.ref a1), (.long (2 : Int64)), (.ref a1)])) t
    refine st138 _ ?_
    show Steps p.tables e below (T138.setTop (mkF m 29 #[.val (.ref a1), .val (.int (1 : Int32)), .unset, .unset, .unset, .unset, .unset, .unset, .unset] [(.long (2305842798760296449 : Int64)), (.long (2 : Int64)), (.ref a1)])) t
    refine XS.lmul X138.here hx rfl (hb hby d1_29) rfl ?_
    exact k)
  have pre140 : ∀ t, Steps p.tables e below (T138.setTop (mkF m 30 #[.val (.ref a1), .val (.int (1 : Int32)), .unset, .unset, .unset, .unset, .unset, .unset, .unset] [(.long (4611685597520592898 : Int64)), (.ref a1)])) t → Steps p.tables e below (s₁.setTop (entryFrame m #[(.ref a1), (.int (1 : Int32))] 9)) t := fun t k => pre139 t (by rw [show ((2 : Int64) * (2305842798760296449 : Int64)) = (4611685597520592898 : Int64) from (by decide +kernel)]; exact k)
  obtain ⟨T141, h141, X141, e141, W141, st141⟩ := putF X138 hx hZ hown (host := "") (Or.inl (own_i hw 17 rfl)) Via.refl e138 f131 f134 (Or.inr ⟨(own_i hw 18 rfl), rfl, hnm⟩) (own_i hw 1 rfl) (ty := .long) (by decide) rfl rfl (g := (mkF m 30 #[.val (.ref a1), .val (.int (1 : Int32)), .unset, .unset, .unset, .unset, .unset, .unset, .unset] [(.long (4611685597520592898 : Int64)), (.ref a1)])) rfl rfl (hb hby d1_30)
  have Fw141 := f131.same W141
  have N141 := Fr.snoc X141 N128 g1
  have f142 := Nat.le_trans f129 (Keep.of_wr W141).1
  have f143 := f130.wr W141 g1
  have f144 := f132.other W141 (Or.inr (slot_ne (Or.inr (own_i hw 20 rfl)) (Or.inr (own_i hw 18 rfl)) (by decide) (t := .long) (t' := .long) (by decide) (by decide)))
  have f145 := f133.other W141 (Or.inr (slot_ne (Or.inr (own_i hw 30 rfl)) (Or.inr (own_i hw 18 rfl)) (by decide) (t := .long) (t' := .long) (by decide) (by decide)))
  have f146 := f134.wr W141
  have f147 := f135.wr W141 (Or.inl (List.mem_of_getElem? (i := 0) rfl))
  have f148 := f136.other W141 (Ne.symm ne104)
  have f149 := f137.other W141 (Or.inr (slot_ne (Or.inr (own_i hw 11 rfl)) (Or.inr (own_i hw 18 rfl)) (by decide) (t := (.array .long)) (t' := .long) (by decide) (by decide)))
  have f150 := Fw128.other W141 (Or.inr (slot_ne (Or.inr (own_i hw 15 rfl)) (Or.inr (own_i hw 18 rfl)) (by decide) (t := .long) (t' := .long) (by decide) (by decide)))
  obtain ⟨T151, X151, e151, st151⟩ := getF X141 hx hZ hown (host := "") (Or.inl (own_i hw 14 rfl)) Via.refl e141 f150 (g := (mkF m 34 #[.val (.ref a1), .val (.int (1 : Int32)), .unset, .unset, .unset, .unset, .unset, .unset, .unset] [(.ref a1)])) rfl rfl (hb hby d1_34)
  obtain ⟨T152, X152, e152, st152⟩ := getF X151 hx hZ hown (host := "") (Or.inl (own_i hw 14 rfl)) Via.refl e151 f150 (g := (mkF m 52 #[.val (.ref a1), .val (.int (1 : Int32)), .val (.long (2305842798760296449 : Int64)), .second, .val (.int (0 : Int32)), .unset, .unset, .unset, .unset] [(.ref a1), (.long (2 : Int64)), (.long (2305842798760296449 : Int64))])) rfl rfl (hb hby d1_52)
  have pre153 : ∀ t, Steps p.tables e below (T152.setTop (mkF m 57 #[.val (.ref a1), .val (.int (1 : Int32)), .val (.long (2305842798760296449 : Int64)), .second, .val (.int (0 : Int32)), .unset, .unset, .unset, .unset] [(.long ((2305842798760296449 : Int64) * (2305842798760296449 : Int64))), (.long (2 : Int64)), (.long (2305842798760296449 : Int64))])) t → Steps p.tables e below (s₁.setTop (entryFrame m #[(.ref a1), (.int (1 : Int32))] 9)) t := fun t k => pre140 t (by
    show Steps p.tables e below (T138.setTop (mkF m 30 #[.val (.ref a1), .val (.int (1 : Int32)), .unset, .unset, .unset, .unset, .unset, .unset, .unset] [(.long (4611685597520592898 : Int64)), (.ref a1)])) t
    refine st141 _ ?_
    show Steps p.tables e below (T141.setTop (mkF m 33 #[.val (.ref a1), .val (.int (1 : Int32)), .unset, .unset, .unset, .unset, .unset, .unset, .unset] [])) t
    refine XS.aloadN X141.here hx rfl (hb hby d1_33) rfl rfl ?_
    show Steps p.tables e below (T141.setTop (mkF m 34 #[.val (.ref a1), .val (.int (1 : Int32)), .unset, .unset, .unset, .unset, .unset, .unset, .unset] [(.ref a1)])) t
    refine st151 _ ?_
    show Steps p.tables e below (T151.setTop (mkF m 37 #[.val (.ref a1), .val (.int (1 : Int32)), .unset, .unset, .unset, .unset, .unset, .unset, .unset] [(.long (2305842798760296449 : Int64))])) t
    refine XS.lstoreN X151.here hx rfl (hb hby d1_37) rfl (l' := #[.val (.ref a1), .val (.int (1 : Int32)), .val (.long (2305842798760296449 : Int64)), .second, .unset, .unset, .unset, .unset, .unset]) rfl ?_
    show Steps p.tables e below (T151.setTop (mkF m 38 #[.val (.ref a1), .val (.int (1 : Int32)), .val (.long (2305842798760296449 : Int64)), .second, .unset, .unset, .unset, .unset, .unset] [])) t
    refine XS.iconst X151.here hx rfl (hb hby d1_38) ?_
    show Steps p.tables e below (T151.setTop (mkF m 39 #[.val (.ref a1), .val (.int (1 : Int32)), .val (.long (2305842798760296449 : Int64)), .second, .unset, .unset, .unset, .unset, .unset] [(.int (0 : Int32))])) t
    refine XS.istore X151.here hx rfl (hb hby d1_39) rfl (l' := #[.val (.ref a1), .val (.int (1 : Int32)), .val (.long (2305842798760296449 : Int64)), .second, .val (.int (0 : Int32)), .unset, .unset, .unset, .unset]) rfl ?_
    show Steps p.tables e below (T151.setTop (mkF m 41 #[.val (.ref a1), .val (.int (1 : Int32)), .val (.long (2305842798760296449 : Int64)), .second, .val (.int (0 : Int32)), .unset, .unset, .unset, .unset] [])) t
    refine XS.iload X151.here hx rfl (hb hby d1_41) rfl ?_
    show Steps p.tables e below (T151.setTop (mkF m 43 #[.val (.ref a1), .val (.int (1 : Int32)), .val (.long (2305842798760296449 : Int64)), .second, .val (.int (0 : Int32)), .unset, .unset, .unset, .unset] [(.int (0 : Int32))])) t
    refine XS.iconst X151.here hx rfl (hb hby d1_43) ?_
    show Steps p.tables e below (T151.setTop (mkF m 44 #[.val (.ref a1), .val (.int (1 : Int32)), .val (.long (2305842798760296449 : Int64)), .second, .val (.int (0 : Int32)), .unset, .unset, .unset, .unset] [(.int (5 : Int32)), (.int (0 : Int32))])) t
    refine XS.icmpNo X151.here hx rfl (hb hby d1_44) rfl (tlt (by decide : (0 : Int32) < (5 : Int32))).2.1 ?_
    show Steps p.tables e below (T151.setTop (mkF m 47 #[.val (.ref a1), .val (.int (1 : Int32)), .val (.long (2305842798760296449 : Int64)), .second, .val (.int (0 : Int32)), .unset, .unset, .unset, .unset] [])) t
    refine XS.lloadN X151.here hx rfl (hb hby d1_47) rfl ?_
    show Steps p.tables e below (T151.setTop (mkF m 48 #[.val (.ref a1), .val (.int (1 : Int32)), .val (.long (2305842798760296449 : Int64)), .second, .val (.int (0 : Int32)), .unset, .unset, .unset, .unset] [(.long (2305842798760296449 : Int64))])) t
    refine X151.ldc2Long hx hown (mvT hZ (own_i hw 16 rfl)) (g := (mkF m 48 #[.val (.ref a1), .val (.int (1 : Int32)), .val (.long (2305842798760296449 : Int64)), .second, .val (.int (0 : Int32)), .unset, .unset, .unset, .unset] [(.long (2305842798760296449 : Int64))])) rfl (hb hby d1_48) _ ?_
    show Steps p.tables e below (T151.setTop (mkF m 51 #[.val (.ref a1), .val (.int (1 : Int32)), .val (.long (2305842798760296449 : Int64)), .second, .val (.int (0 : Int32)), .unset, .unset, .unset, .unset] [(.long (2 : Int64)), (.long (2305842798760296449 : Int64))])) t
    refine XS.aloadN X151.here hx rfl (hb hby d1_51) rfl rfl ?_
    show Steps p.tables e below (T151.setTop (mkF m 52 #[.val (.ref a1), .val (.int (1 : Int32)), .val (.long (2305842798760296449 : Int64)), .second, .val (.int (0 : Int32)), .unset, .unset, .unset, .unset] [(.ref a1), (.long (2 : Int64)), (.long (2305842798760296449 : Int64))])) t
    refine st152 _ ?_
    show Steps p.tables e below (T152.setTop (mkF m 55 #[.val (.ref a1), .val (.int (1 : Int32)), .val (.long (2305842798760296449 : Int64)), .second, .val (.int (0 : Int32)), .unset, .unset, .unset, .unset] [(.long (2305842798760296449 : Int64)), (.long (2 : Int64)), (.long (2305842798760296449 : Int64))])) t
    refine XS.lloadN X152.here hx rfl (hb hby d1_55) rfl ?_
    show Steps p.tables e below (T152.setTop (mkF m 56 #[.val (.ref a1), .val (.int (1 : Int32)), .val (.long (2305842798760296449 : Int64)), .second, .val (.int (0 : Int32)), .unset, .unset, .unset, .unset] [(.long (2305842798760296449 : Int64)), (.long (2305842798760296449 : Int64)), (.long (2 : Int64)), (.long (2305842798760296449 : Int64))])) t
    refine XS.lmul X152.here hx rfl (hb hby d1_56) rfl ?_
    exact k)
  have pre154 : ∀ t, Steps p.tables e below (T152.setTop (mkF m 57 #[.val (.ref a1), .val (.int (1 : Int32)), .val (.long (2305842798760296449 : Int64)), .second, .val (.int (0 : Int32)), .unset, .unset, .unset, .unset] [(.long (4611685597520592897 : Int64)), (.long (2 : Int64)), (.long (2305842798760296449 : Int64))])) t → Steps p.tables e below (s₁.setTop (entryFrame m #[(.ref a1), (.int (1 : Int32))] 9)) t := fun t k => pre153 t (by rw [show ((2305842798760296449 : Int64) * (2305842798760296449 : Int64)) = (4611685597520592897 : Int64) from (by decide +kernel)]; exact k)
  have pre155 : ∀ t, Steps p.tables e below (T152.setTop (mkF m 58 #[.val (.ref a1), .val (.int (1 : Int32)), .val (.long (2305842798760296449 : Int64)), .second, .val (.int (0 : Int32)), .unset, .unset, .unset, .unset] [(.long ((2 : Int64) - (4611685597520592897 : Int64))), (.long (2305842798760296449 : Int64))])) t → Steps p.tables e below (s₁.setTop (entryFrame m #[(.ref a1), (.int (1 : Int32))] 9)) t := fun t k => pre154 t (by
    show Steps p.tables e below (T152.setTop (mkF m 57 #[.val (.ref a1), .val (.int (1 : Int32)), .val (.long (2305842798760296449 : Int64)), .second, .val (.int (0 : Int32)), .unset, .unset, .unset, .unset] [(.long (4611685597520592897 : Int64)), (.long (2 : Int64)), (.long (2305842798760296449 : Int64))])) t
    refine XS.lsub X152.here hx rfl (hb hby d1_57) rfl ?_
    exact k)
  have pre156 : ∀ t, Steps p.tables e below (T152.setTop (mkF m 58 #[.val (.ref a1), .val (.int (1 : Int32)), .val (.long (2305842798760296449 : Int64)), .second, .val (.int (0 : Int32)), .unset, .unset, .unset, .unset] [(.long (-4611685597520592895 : Int64)), (.long (2305842798760296449 : Int64))])) t → Steps p.tables e below (s₁.setTop (entryFrame m #[(.ref a1), (.int (1 : Int32))] 9)) t := fun t k => pre155 t (by rw [show ((2 : Int64) - (4611685597520592897 : Int64)) = (-4611685597520592895 : Int64) from (by decide +kernel)]; exact k)
  have pre157 : ∀ t, Steps p.tables e below (T152.setTop (mkF m 59 #[.val (.ref a1), .val (.int (1 : Int32)), .val (.long (2305842798760296449 : Int64)), .second, .val (.int (0 : Int32)), .unset, .unset, .unset, .unset] [(.long ((2305842798760296449 : Int64) * (-4611685597520592895 : Int64)))])) t → Steps p.tables e below (s₁.setTop (entryFrame m #[(.ref a1), (.int (1 : Int32))] 9)) t := fun t k => pre156 t (by
    show Steps p.tables e below (T152.setTop (mkF m 58 #[.val (.ref a1), .val (.int (1 : Int32)), .val (.long (2305842798760296449 : Int64)), .second, .val (.int (0 : Int32)), .unset, .unset, .unset, .unset] [(.long (-4611685597520592895 : Int64)), (.long (2305842798760296449 : Int64))])) t
    refine XS.lmul X152.here hx rfl (hb hby d1_58) rfl ?_
    exact k)
  have pre158 : ∀ t, Steps p.tables e below (T152.setTop (mkF m 59 #[.val (.ref a1), .val (.int (1 : Int32)), .val (.long (2305842798760296449 : Int64)), .second, .val (.int (0 : Int32)), .unset, .unset, .unset, .unset] [(.long (-2305842798760296447 : Int64))])) t → Steps p.tables e below (s₁.setTop (entryFrame m #[(.ref a1), (.int (1 : Int32))] 9)) t := fun t k => pre157 t (by rw [show ((2305842798760296449 : Int64) * (-4611685597520592895 : Int64)) = (-2305842798760296447 : Int64) from (by decide +kernel)]; exact k)
  obtain ⟨T159, X159, e159, st159⟩ := getF X152 hx hZ hown (host := "") (Or.inl (own_i hw 14 rfl)) Via.refl e152 f150 (g := (mkF m 52 #[.val (.ref a1), .val (.int (1 : Int32)), .val (.long (-2305842798760296447 : Int64)), .second, .val (.int (1 : Int32)), .unset, .unset, .unset, .unset] [(.ref a1), (.long (2 : Int64)), (.long (-2305842798760296447 : Int64))])) rfl rfl (hb hby d1_52)
  have pre160 : ∀ t, Steps p.tables e below (T159.setTop (mkF m 57 #[.val (.ref a1), .val (.int (1 : Int32)), .val (.long (-2305842798760296447 : Int64)), .second, .val (.int (1 : Int32)), .unset, .unset, .unset, .unset] [(.long ((2305842798760296449 : Int64) * (-2305842798760296447 : Int64))), (.long (2 : Int64)), (.long (-2305842798760296447 : Int64))])) t → Steps p.tables e below (s₁.setTop (entryFrame m #[(.ref a1), (.int (1 : Int32))] 9)) t := fun t k => pre158 t (by
    show Steps p.tables e below (T152.setTop (mkF m 59 #[.val (.ref a1), .val (.int (1 : Int32)), .val (.long (2305842798760296449 : Int64)), .second, .val (.int (0 : Int32)), .unset, .unset, .unset, .unset] [(.long (-2305842798760296447 : Int64))])) t
    refine XS.lstoreN X152.here hx rfl (hb hby d1_59) rfl (l' := #[.val (.ref a1), .val (.int (1 : Int32)), .val (.long (-2305842798760296447 : Int64)), .second, .val (.int (0 : Int32)), .unset, .unset, .unset, .unset]) rfl ?_
    show Steps p.tables e below (T152.setTop (mkF m 60 #[.val (.ref a1), .val (.int (1 : Int32)), .val (.long (-2305842798760296447 : Int64)), .second, .val (.int (0 : Int32)), .unset, .unset, .unset, .unset] [])) t
    refine XS.iinc X152.here hx rfl (hb hby d1_60) rfl (l' := #[.val (.ref a1), .val (.int (1 : Int32)), .val (.long (-2305842798760296447 : Int64)), .second, .val (.int (1 : Int32)), .unset, .unset, .unset, .unset]) rfl ?_
    show Steps p.tables e below (T152.setTop (mkF m 63 #[.val (.ref a1), .val (.int (1 : Int32)), .val (.long (-2305842798760296447 : Int64)), .second, .val (.int (1 : Int32)), .unset, .unset, .unset, .unset] [])) t
    refine XS.goto X152.here hx rfl (pc0 := 63) (pc' := 41) rfl (hb hby d1_63) (by decide) (by decide) ?_
    show Steps p.tables e below (T152.setTop (mkF m 41 #[.val (.ref a1), .val (.int (1 : Int32)), .val (.long (-2305842798760296447 : Int64)), .second, .val (.int (1 : Int32)), .unset, .unset, .unset, .unset] [])) t
    refine XS.iload X152.here hx rfl (hb hby d1_41) rfl ?_
    show Steps p.tables e below (T152.setTop (mkF m 43 #[.val (.ref a1), .val (.int (1 : Int32)), .val (.long (-2305842798760296447 : Int64)), .second, .val (.int (1 : Int32)), .unset, .unset, .unset, .unset] [(.int (1 : Int32))])) t
    refine XS.iconst X152.here hx rfl (hb hby d1_43) ?_
    show Steps p.tables e below (T152.setTop (mkF m 44 #[.val (.ref a1), .val (.int (1 : Int32)), .val (.long (-2305842798760296447 : Int64)), .second, .val (.int (1 : Int32)), .unset, .unset, .unset, .unset] [(.int (5 : Int32)), (.int (1 : Int32))])) t
    refine XS.icmpNo X152.here hx rfl (hb hby d1_44) rfl (tlt (by decide : (1 : Int32) < (5 : Int32))).2.1 ?_
    show Steps p.tables e below (T152.setTop (mkF m 47 #[.val (.ref a1), .val (.int (1 : Int32)), .val (.long (-2305842798760296447 : Int64)), .second, .val (.int (1 : Int32)), .unset, .unset, .unset, .unset] [])) t
    refine XS.lloadN X152.here hx rfl (hb hby d1_47) rfl ?_
    show Steps p.tables e below (T152.setTop (mkF m 48 #[.val (.ref a1), .val (.int (1 : Int32)), .val (.long (-2305842798760296447 : Int64)), .second, .val (.int (1 : Int32)), .unset, .unset, .unset, .unset] [(.long (-2305842798760296447 : Int64))])) t
    refine X152.ldc2Long hx hown (mvT hZ (own_i hw 16 rfl)) (g := (mkF m 48 #[.val (.ref a1), .val (.int (1 : Int32)), .val (.long (-2305842798760296447 : Int64)), .second, .val (.int (1 : Int32)), .unset, .unset, .unset, .unset] [(.long (-2305842798760296447 : Int64))])) rfl (hb hby d1_48) _ ?_
    show Steps p.tables e below (T152.setTop (mkF m 51 #[.val (.ref a1), .val (.int (1 : Int32)), .val (.long (-2305842798760296447 : Int64)), .second, .val (.int (1 : Int32)), .unset, .unset, .unset, .unset] [(.long (2 : Int64)), (.long (-2305842798760296447 : Int64))])) t
    refine XS.aloadN X152.here hx rfl (hb hby d1_51) rfl rfl ?_
    show Steps p.tables e below (T152.setTop (mkF m 52 #[.val (.ref a1), .val (.int (1 : Int32)), .val (.long (-2305842798760296447 : Int64)), .second, .val (.int (1 : Int32)), .unset, .unset, .unset, .unset] [(.ref a1), (.long (2 : Int64)), (.long (-2305842798760296447 : Int64))])) t
    refine st159 _ ?_
    show Steps p.tables e below (T159.setTop (mkF m 55 #[.val (.ref a1), .val (.int (1 : Int32)), .val (.long (-2305842798760296447 : Int64)), .second, .val (.int (1 : Int32)), .unset, .unset, .unset, .unset] [(.long (2305842798760296449 : Int64)), (.long (2 : Int64)), (.long (-2305842798760296447 : Int64))])) t
    refine XS.lloadN X159.here hx rfl (hb hby d1_55) rfl ?_
    show Steps p.tables e below (T159.setTop (mkF m 56 #[.val (.ref a1), .val (.int (1 : Int32)), .val (.long (-2305842798760296447 : Int64)), .second, .val (.int (1 : Int32)), .unset, .unset, .unset, .unset] [(.long (-2305842798760296447 : Int64)), (.long (2305842798760296449 : Int64)), (.long (2 : Int64)), (.long (-2305842798760296447 : Int64))])) t
    refine XS.lmul X159.here hx rfl (hb hby d1_56) rfl ?_
    exact k)
  have pre161 : ∀ t, Steps p.tables e below (T159.setTop (mkF m 57 #[.val (.ref a1), .val (.int (1 : Int32)), .val (.long (-2305842798760296447 : Int64)), .second, .val (.int (1 : Int32)), .unset, .unset, .unset, .unset] [(.long (1 : Int64)), (.long (2 : Int64)), (.long (-2305842798760296447 : Int64))])) t → Steps p.tables e below (s₁.setTop (entryFrame m #[(.ref a1), (.int (1 : Int32))] 9)) t := fun t k => pre160 t (by rw [show ((2305842798760296449 : Int64) * (-2305842798760296447 : Int64)) = (1 : Int64) from (by decide +kernel)]; exact k)
  have pre162 : ∀ t, Steps p.tables e below (T159.setTop (mkF m 58 #[.val (.ref a1), .val (.int (1 : Int32)), .val (.long (-2305842798760296447 : Int64)), .second, .val (.int (1 : Int32)), .unset, .unset, .unset, .unset] [(.long ((2 : Int64) - (1 : Int64))), (.long (-2305842798760296447 : Int64))])) t → Steps p.tables e below (s₁.setTop (entryFrame m #[(.ref a1), (.int (1 : Int32))] 9)) t := fun t k => pre161 t (by
    show Steps p.tables e below (T159.setTop (mkF m 57 #[.val (.ref a1), .val (.int (1 : Int32)), .val (.long (-2305842798760296447 : Int64)), .second, .val (.int (1 : Int32)), .unset, .unset, .unset, .unset] [(.long (1 : Int64)), (.long (2 : Int64)), (.long (-2305842798760296447 : Int64))])) t
    refine XS.lsub X159.here hx rfl (hb hby d1_57) rfl ?_
    exact k)
  have pre163 : ∀ t, Steps p.tables e below (T159.setTop (mkF m 58 #[.val (.ref a1), .val (.int (1 : Int32)), .val (.long (-2305842798760296447 : Int64)), .second, .val (.int (1 : Int32)), .unset, .unset, .unset, .unset] [(.long (1 : Int64)), (.long (-2305842798760296447 : Int64))])) t → Steps p.tables e below (s₁.setTop (entryFrame m #[(.ref a1), (.int (1 : Int32))] 9)) t := fun t k => pre162 t (by rw [show ((2 : Int64) - (1 : Int64)) = (1 : Int64) from (by decide +kernel)]; exact k)
  have pre164 : ∀ t, Steps p.tables e below (T159.setTop (mkF m 59 #[.val (.ref a1), .val (.int (1 : Int32)), .val (.long (-2305842798760296447 : Int64)), .second, .val (.int (1 : Int32)), .unset, .unset, .unset, .unset] [(.long ((-2305842798760296447 : Int64) * (1 : Int64)))])) t → Steps p.tables e below (s₁.setTop (entryFrame m #[(.ref a1), (.int (1 : Int32))] 9)) t := fun t k => pre163 t (by
    show Steps p.tables e below (T159.setTop (mkF m 58 #[.val (.ref a1), .val (.int (1 : Int32)), .val (.long (-2305842798760296447 : Int64)), .second, .val (.int (1 : Int32)), .unset, .unset, .unset, .unset] [(.long (1 : Int64)), (.long (-2305842798760296447 : Int64))])) t
    refine XS.lmul X159.here hx rfl (hb hby d1_58) rfl ?_
    exact k)
  have pre165 : ∀ t, Steps p.tables e below (T159.setTop (mkF m 59 #[.val (.ref a1), .val (.int (1 : Int32)), .val (.long (-2305842798760296447 : Int64)), .second, .val (.int (1 : Int32)), .unset, .unset, .unset, .unset] [(.long (-2305842798760296447 : Int64))])) t → Steps p.tables e below (s₁.setTop (entryFrame m #[(.ref a1), (.int (1 : Int32))] 9)) t := fun t k => pre164 t (by rw [show ((-2305842798760296447 : Int64) * (1 : Int64)) = (-2305842798760296447 : Int64) from (by decide +kernel)]; exact k)
  obtain ⟨T166, X166, e166, st166⟩ := getF X159 hx hZ hown (host := "") (Or.inl (own_i hw 14 rfl)) Via.refl e159 f150 (g := (mkF m 52 #[.val (.ref a1), .val (.int (1 : Int32)), .val (.long (-2305842798760296447 : Int64)), .second, .val (.int (2 : Int32)), .unset, .unset, .unset, .unset] [(.ref a1), (.long (2 : Int64)), (.long (-2305842798760296447 : Int64))])) rfl rfl (hb hby d1_52)
  have pre167 : ∀ t, Steps p.tables e below (T166.setTop (mkF m 57 #[.val (.ref a1), .val (.int (1 : Int32)), .val (.long (-2305842798760296447 : Int64)), .second, .val (.int (2 : Int32)), .unset, .unset, .unset, .unset] [(.long ((2305842798760296449 : Int64) * (-2305842798760296447 : Int64))), (.long (2 : Int64)), (.long (-2305842798760296447 : Int64))])) t → Steps p.tables e below (s₁.setTop (entryFrame m #[(.ref a1), (.int (1 : Int32))] 9)) t := fun t k => pre165 t (by
    show Steps p.tables e below (T159.setTop (mkF m 59 #[.val (.ref a1), .val (.int (1 : Int32)), .val (.long (-2305842798760296447 : Int64)), .second, .val (.int (1 : Int32)), .unset, .unset, .unset, .unset] [(.long (-2305842798760296447 : Int64))])) t
    refine XS.lstoreN X159.here hx rfl (hb hby d1_59) rfl (l' := #[.val (.ref a1), .val (.int (1 : Int32)), .val (.long (-2305842798760296447 : Int64)), .second, .val (.int (1 : Int32)), .unset, .unset, .unset, .unset]) rfl ?_
    show Steps p.tables e below (T159.setTop (mkF m 60 #[.val (.ref a1), .val (.int (1 : Int32)), .val (.long (-2305842798760296447 : Int64)), .second, .val (.int (1 : Int32)), .unset, .unset, .unset, .unset] [])) t
    refine XS.iinc X159.here hx rfl (hb hby d1_60) rfl (l' := #[.val (.ref a1), .val (.int (1 : Int32)), .val (.long (-2305842798760296447 : Int64)), .second, .val (.int (2 : Int32)), .unset, .unset, .unset, .unset]) rfl ?_
    show Steps p.tables e below (T159.setTop (mkF m 63 #[.val (.ref a1), .val (.int (1 : Int32)), .val (.long (-2305842798760296447 : Int64)), .second, .val (.int (2 : Int32)), .unset, .unset, .unset, .unset] [])) t
    refine XS.goto X159.here hx rfl (pc0 := 63) (pc' := 41) rfl (hb hby d1_63) (by decide) (by decide) ?_
    show Steps p.tables e below (T159.setTop (mkF m 41 #[.val (.ref a1), .val (.int (1 : Int32)), .val (.long (-2305842798760296447 : Int64)), .second, .val (.int (2 : Int32)), .unset, .unset, .unset, .unset] [])) t
    refine XS.iload X159.here hx rfl (hb hby d1_41) rfl ?_
    show Steps p.tables e below (T159.setTop (mkF m 43 #[.val (.ref a1), .val (.int (1 : Int32)), .val (.long (-2305842798760296447 : Int64)), .second, .val (.int (2 : Int32)), .unset, .unset, .unset, .unset] [(.int (2 : Int32))])) t
    refine XS.iconst X159.here hx rfl (hb hby d1_43) ?_
    show Steps p.tables e below (T159.setTop (mkF m 44 #[.val (.ref a1), .val (.int (1 : Int32)), .val (.long (-2305842798760296447 : Int64)), .second, .val (.int (2 : Int32)), .unset, .unset, .unset, .unset] [(.int (5 : Int32)), (.int (2 : Int32))])) t
    refine XS.icmpNo X159.here hx rfl (hb hby d1_44) rfl (tlt (by decide : (2 : Int32) < (5 : Int32))).2.1 ?_
    show Steps p.tables e below (T159.setTop (mkF m 47 #[.val (.ref a1), .val (.int (1 : Int32)), .val (.long (-2305842798760296447 : Int64)), .second, .val (.int (2 : Int32)), .unset, .unset, .unset, .unset] [])) t
    refine XS.lloadN X159.here hx rfl (hb hby d1_47) rfl ?_
    show Steps p.tables e below (T159.setTop (mkF m 48 #[.val (.ref a1), .val (.int (1 : Int32)), .val (.long (-2305842798760296447 : Int64)), .second, .val (.int (2 : Int32)), .unset, .unset, .unset, .unset] [(.long (-2305842798760296447 : Int64))])) t
    refine X159.ldc2Long hx hown (mvT hZ (own_i hw 16 rfl)) (g := (mkF m 48 #[.val (.ref a1), .val (.int (1 : Int32)), .val (.long (-2305842798760296447 : Int64)), .second, .val (.int (2 : Int32)), .unset, .unset, .unset, .unset] [(.long (-2305842798760296447 : Int64))])) rfl (hb hby d1_48) _ ?_
    show Steps p.tables e below (T159.setTop (mkF m 51 #[.val (.ref a1), .val (.int (1 : Int32)), .val (.long (-2305842798760296447 : Int64)), .second, .val (.int (2 : Int32)), .unset, .unset, .unset, .unset] [(.long (2 : Int64)), (.long (-2305842798760296447 : Int64))])) t
    refine XS.aloadN X159.here hx rfl (hb hby d1_51) rfl rfl ?_
    show Steps p.tables e below (T159.setTop (mkF m 52 #[.val (.ref a1), .val (.int (1 : Int32)), .val (.long (-2305842798760296447 : Int64)), .second, .val (.int (2 : Int32)), .unset, .unset, .unset, .unset] [(.ref a1), (.long (2 : Int64)), (.long (-2305842798760296447 : Int64))])) t
    refine st166 _ ?_
    show Steps p.tables e below (T166.setTop (mkF m 55 #[.val (.ref a1), .val (.int (1 : Int32)), .val (.long (-2305842798760296447 : Int64)), .second, .val (.int (2 : Int32)), .unset, .unset, .unset, .unset] [(.long (2305842798760296449 : Int64)), (.long (2 : Int64)), (.long (-2305842798760296447 : Int64))])) t
    refine XS.lloadN X166.here hx rfl (hb hby d1_55) rfl ?_
    show Steps p.tables e below (T166.setTop (mkF m 56 #[.val (.ref a1), .val (.int (1 : Int32)), .val (.long (-2305842798760296447 : Int64)), .second, .val (.int (2 : Int32)), .unset, .unset, .unset, .unset] [(.long (-2305842798760296447 : Int64)), (.long (2305842798760296449 : Int64)), (.long (2 : Int64)), (.long (-2305842798760296447 : Int64))])) t
    refine XS.lmul X166.here hx rfl (hb hby d1_56) rfl ?_
    exact k)
  have pre168 : ∀ t, Steps p.tables e below (T166.setTop (mkF m 57 #[.val (.ref a1), .val (.int (1 : Int32)), .val (.long (-2305842798760296447 : Int64)), .second, .val (.int (2 : Int32)), .unset, .unset, .unset, .unset] [(.long (1 : Int64)), (.long (2 : Int64)), (.long (-2305842798760296447 : Int64))])) t → Steps p.tables e below (s₁.setTop (entryFrame m #[(.ref a1), (.int (1 : Int32))] 9)) t := fun t k => pre167 t (by rw [show ((2305842798760296449 : Int64) * (-2305842798760296447 : Int64)) = (1 : Int64) from (by decide +kernel)]; exact k)
  have pre169 : ∀ t, Steps p.tables e below (T166.setTop (mkF m 58 #[.val (.ref a1), .val (.int (1 : Int32)), .val (.long (-2305842798760296447 : Int64)), .second, .val (.int (2 : Int32)), .unset, .unset, .unset, .unset] [(.long ((2 : Int64) - (1 : Int64))), (.long (-2305842798760296447 : Int64))])) t → Steps p.tables e below (s₁.setTop (entryFrame m #[(.ref a1), (.int (1 : Int32))] 9)) t := fun t k => pre168 t (by
    show Steps p.tables e below (T166.setTop (mkF m 57 #[.val (.ref a1), .val (.int (1 : Int32)), .val (.long (-2305842798760296447 : Int64)), .second, .val (.int (2 : Int32)), .unset, .unset, .unset, .unset] [(.long (1 : Int64)), (.long (2 : Int64)), (.long (-2305842798760296447 : Int64))])) t
    refine XS.lsub X166.here hx rfl (hb hby d1_57) rfl ?_
    exact k)
  have pre170 : ∀ t, Steps p.tables e below (T166.setTop (mkF m 58 #[.val (.ref a1), .val (.int (1 : Int32)), .val (.long (-2305842798760296447 : Int64)), .second, .val (.int (2 : Int32)), .unset, .unset, .unset, .unset] [(.long (1 : Int64)), (.long (-2305842798760296447 : Int64))])) t → Steps p.tables e below (s₁.setTop (entryFrame m #[(.ref a1), (.int (1 : Int32))] 9)) t := fun t k => pre169 t (by rw [show ((2 : Int64) - (1 : Int64)) = (1 : Int64) from (by decide +kernel)]; exact k)
  have pre171 : ∀ t, Steps p.tables e below (T166.setTop (mkF m 59 #[.val (.ref a1), .val (.int (1 : Int32)), .val (.long (-2305842798760296447 : Int64)), .second, .val (.int (2 : Int32)), .unset, .unset, .unset, .unset] [(.long ((-2305842798760296447 : Int64) * (1 : Int64)))])) t → Steps p.tables e below (s₁.setTop (entryFrame m #[(.ref a1), (.int (1 : Int32))] 9)) t := fun t k => pre170 t (by
    show Steps p.tables e below (T166.setTop (mkF m 58 #[.val (.ref a1), .val (.int (1 : Int32)), .val (.long (-2305842798760296447 : Int64)), .second, .val (.int (2 : Int32)), .unset, .unset, .unset, .unset] [(.long (1 : Int64)), (.long (-2305842798760296447 : Int64))])) t
    refine XS.lmul X166.here hx rfl (hb hby d1_58) rfl ?_
    exact k)
  have pre172 : ∀ t, Steps p.tables e below (T166.setTop (mkF m 59 #[.val (.ref a1), .val (.int (1 : Int32)), .val (.long (-2305842798760296447 : Int64)), .second, .val (.int (2 : Int32)), .unset, .unset, .unset, .unset] [(.long (-2305842798760296447 : Int64))])) t → Steps p.tables e below (s₁.setTop (entryFrame m #[(.ref a1), (.int (1 : Int32))] 9)) t := fun t k => pre171 t (by rw [show ((-2305842798760296447 : Int64) * (1 : Int64)) = (-2305842798760296447 : Int64) from (by decide +kernel)]; exact k)
  obtain ⟨T173, X173, e173, st173⟩ := getF X166 hx hZ hown (host := "") (Or.inl (own_i hw 14 rfl)) Via.refl e166 f150 (g := (mkF m 52 #[.val (.ref a1), .val (.int (1 : Int32)), .val (.long (-2305842798760296447 : Int64)), .second, .val (.int (3 : Int32)), .unset, .unset, .unset, .unset] [(.ref a1), (.long (2 : Int64)), (.long (-2305842798760296447 : Int64))])) rfl rfl (hb hby d1_52)
  have pre174 : ∀ t, Steps p.tables e below (T173.setTop (mkF m 57 #[.val (.ref a1), .val (.int (1 : Int32)), .val (.long (-2305842798760296447 : Int64)), .second, .val (.int (3 : Int32)), .unset, .unset, .unset, .unset] [(.long ((2305842798760296449 : Int64) * (-2305842798760296447 : Int64))), (.long (2 : Int64)), (.long (-2305842798760296447 : Int64))])) t → Steps p.tables e below (s₁.setTop (entryFrame m #[(.ref a1), (.int (1 : Int32))] 9)) t := fun t k => pre172 t (by
    show Steps p.tables e below (T166.setTop (mkF m 59 #[.val (.ref a1), .val (.int (1 : Int32)), .val (.long (-2305842798760296447 : Int64)), .second, .val (.int (2 : Int32)), .unset, .unset, .unset, .unset] [(.long (-2305842798760296447 : Int64))])) t
    refine XS.lstoreN X166.here hx rfl (hb hby d1_59) rfl (l' := #[.val (.ref a1), .val (.int (1 : Int32)), .val (.long (-2305842798760296447 : Int64)), .second, .val (.int (2 : Int32)), .unset, .unset, .unset, .unset]) rfl ?_
    show Steps p.tables e below (T166.setTop (mkF m 60 #[.val (.ref a1), .val (.int (1 : Int32)), .val (.long (-2305842798760296447 : Int64)), .second, .val (.int (2 : Int32)), .unset, .unset, .unset, .unset] [])) t
    refine XS.iinc X166.here hx rfl (hb hby d1_60) rfl (l' := #[.val (.ref a1), .val (.int (1 : Int32)), .val (.long (-2305842798760296447 : Int64)), .second, .val (.int (3 : Int32)), .unset, .unset, .unset, .unset]) rfl ?_
    show Steps p.tables e below (T166.setTop (mkF m 63 #[.val (.ref a1), .val (.int (1 : Int32)), .val (.long (-2305842798760296447 : Int64)), .second, .val (.int (3 : Int32)), .unset, .unset, .unset, .unset] [])) t
    refine XS.goto X166.here hx rfl (pc0 := 63) (pc' := 41) rfl (hb hby d1_63) (by decide) (by decide) ?_
    show Steps p.tables e below (T166.setTop (mkF m 41 #[.val (.ref a1), .val (.int (1 : Int32)), .val (.long (-2305842798760296447 : Int64)), .second, .val (.int (3 : Int32)), .unset, .unset, .unset, .unset] [])) t
    refine XS.iload X166.here hx rfl (hb hby d1_41) rfl ?_
    show Steps p.tables e below (T166.setTop (mkF m 43 #[.val (.ref a1), .val (.int (1 : Int32)), .val (.long (-2305842798760296447 : Int64)), .second, .val (.int (3 : Int32)), .unset, .unset, .unset, .unset] [(.int (3 : Int32))])) t
    refine XS.iconst X166.here hx rfl (hb hby d1_43) ?_
    show Steps p.tables e below (T166.setTop (mkF m 44 #[.val (.ref a1), .val (.int (1 : Int32)), .val (.long (-2305842798760296447 : Int64)), .second, .val (.int (3 : Int32)), .unset, .unset, .unset, .unset] [(.int (5 : Int32)), (.int (3 : Int32))])) t
    refine XS.icmpNo X166.here hx rfl (hb hby d1_44) rfl (tlt (by decide : (3 : Int32) < (5 : Int32))).2.1 ?_
    show Steps p.tables e below (T166.setTop (mkF m 47 #[.val (.ref a1), .val (.int (1 : Int32)), .val (.long (-2305842798760296447 : Int64)), .second, .val (.int (3 : Int32)), .unset, .unset, .unset, .unset] [])) t
    refine XS.lloadN X166.here hx rfl (hb hby d1_47) rfl ?_
    show Steps p.tables e below (T166.setTop (mkF m 48 #[.val (.ref a1), .val (.int (1 : Int32)), .val (.long (-2305842798760296447 : Int64)), .second, .val (.int (3 : Int32)), .unset, .unset, .unset, .unset] [(.long (-2305842798760296447 : Int64))])) t
    refine X166.ldc2Long hx hown (mvT hZ (own_i hw 16 rfl)) (g := (mkF m 48 #[.val (.ref a1), .val (.int (1 : Int32)), .val (.long (-2305842798760296447 : Int64)), .second, .val (.int (3 : Int32)), .unset, .unset, .unset, .unset] [(.long (-2305842798760296447 : Int64))])) rfl (hb hby d1_48) _ ?_
    show Steps p.tables e below (T166.setTop (mkF m 51 #[.val (.ref a1), .val (.int (1 : Int32)), .val (.long (-2305842798760296447 : Int64)), .second, .val (.int (3 : Int32)), .unset, .unset, .unset, .unset] [(.long (2 : Int64)), (.long (-2305842798760296447 : Int64))])) t
    refine XS.aloadN X166.here hx rfl (hb hby d1_51) rfl rfl ?_
    show Steps p.tables e below (T166.setTop (mkF m 52 #[.val (.ref a1), .val (.int (1 : Int32)), .val (.long (-2305842798760296447 : Int64)), .second, .val (.int (3 : Int32)), .unset, .unset, .unset, .unset] [(.ref a1), (.long (2 : Int64)), (.long (-2305842798760296447 : Int64))])) t
    refine st173 _ ?_
    show Steps p.tables e below (T173.setTop (mkF m 55 #[.val (.ref a1), .val (.int (1 : Int32)), .val (.long (-2305842798760296447 : Int64)), .second, .val (.int (3 : Int32)), .unset, .unset, .unset, .unset] [(.long (2305842798760296449 : Int64)), (.long (2 : Int64)), (.long (-2305842798760296447 : Int64))])) t
    refine XS.lloadN X173.here hx rfl (hb hby d1_55) rfl ?_
    show Steps p.tables e below (T173.setTop (mkF m 56 #[.val (.ref a1), .val (.int (1 : Int32)), .val (.long (-2305842798760296447 : Int64)), .second, .val (.int (3 : Int32)), .unset, .unset, .unset, .unset] [(.long (-2305842798760296447 : Int64)), (.long (2305842798760296449 : Int64)), (.long (2 : Int64)), (.long (-2305842798760296447 : Int64))])) t
    refine XS.lmul X173.here hx rfl (hb hby d1_56) rfl ?_
    exact k)
  have pre175 : ∀ t, Steps p.tables e below (T173.setTop (mkF m 57 #[.val (.ref a1), .val (.int (1 : Int32)), .val (.long (-2305842798760296447 : Int64)), .second, .val (.int (3 : Int32)), .unset, .unset, .unset, .unset] [(.long (1 : Int64)), (.long (2 : Int64)), (.long (-2305842798760296447 : Int64))])) t → Steps p.tables e below (s₁.setTop (entryFrame m #[(.ref a1), (.int (1 : Int32))] 9)) t := fun t k => pre174 t (by rw [show ((2305842798760296449 : Int64) * (-2305842798760296447 : Int64)) = (1 : Int64) from (by decide +kernel)]; exact k)
  have pre176 : ∀ t, Steps p.tables e below (T173.setTop (mkF m 58 #[.val (.ref a1), .val (.int (1 : Int32)), .val (.long (-2305842798760296447 : Int64)), .second, .val (.int (3 : Int32)), .unset, .unset, .unset, .unset] [(.long ((2 : Int64) - (1 : Int64))), (.long (-2305842798760296447 : Int64))])) t → Steps p.tables e below (s₁.setTop (entryFrame m #[(.ref a1), (.int (1 : Int32))] 9)) t := fun t k => pre175 t (by
    show Steps p.tables e below (T173.setTop (mkF m 57 #[.val (.ref a1), .val (.int (1 : Int32)), .val (.long (-2305842798760296447 : Int64)), .second, .val (.int (3 : Int32)), .unset, .unset, .unset, .unset] [(.long (1 : Int64)), (.long (2 : Int64)), (.long (-2305842798760296447 : Int64))])) t
    refine XS.lsub X173.here hx rfl (hb hby d1_57) rfl ?_
    exact k)
  have pre177 : ∀ t, Steps p.tables e below (T173.setTop (mkF m 58 #[.val (.ref a1), .val (.int (1 : Int32)), .val (.long (-2305842798760296447 : Int64)), .second, .val (.int (3 : Int32)), .unset, .unset, .unset, .unset] [(.long (1 : Int64)), (.long (-2305842798760296447 : Int64))])) t → Steps p.tables e below (s₁.setTop (entryFrame m #[(.ref a1), (.int (1 : Int32))] 9)) t := fun t k => pre176 t (by rw [show ((2 : Int64) - (1 : Int64)) = (1 : Int64) from (by decide +kernel)]; exact k)
  have pre178 : ∀ t, Steps p.tables e below (T173.setTop (mkF m 59 #[.val (.ref a1), .val (.int (1 : Int32)), .val (.long (-2305842798760296447 : Int64)), .second, .val (.int (3 : Int32)), .unset, .unset, .unset, .unset] [(.long ((-2305842798760296447 : Int64) * (1 : Int64)))])) t → Steps p.tables e below (s₁.setTop (entryFrame m #[(.ref a1), (.int (1 : Int32))] 9)) t := fun t k => pre177 t (by
    show Steps p.tables e below (T173.setTop (mkF m 58 #[.val (.ref a1), .val (.int (1 : Int32)), .val (.long (-2305842798760296447 : Int64)), .second, .val (.int (3 : Int32)), .unset, .unset, .unset, .unset] [(.long (1 : Int64)), (.long (-2305842798760296447 : Int64))])) t
    refine XS.lmul X173.here hx rfl (hb hby d1_58) rfl ?_
    exact k)
  have pre179 : ∀ t, Steps p.tables e below (T173.setTop (mkF m 59 #[.val (.ref a1), .val (.int (1 : Int32)), .val (.long (-2305842798760296447 : Int64)), .second, .val (.int (3 : Int32)), .unset, .unset, .unset, .unset] [(.long (-2305842798760296447 : Int64))])) t → Steps p.tables e below (s₁.setTop (entryFrame m #[(.ref a1), (.int (1 : Int32))] 9)) t := fun t k => pre178 t (by rw [show ((-2305842798760296447 : Int64) * (1 : Int64)) = (-2305842798760296447 : Int64) from (by decide +kernel)]; exact k)
  obtain ⟨T180, X180, e180, st180⟩ := getF X173 hx hZ hown (host := "") (Or.inl (own_i hw 14 rfl)) Via.refl e173 f150 (g := (mkF m 52 #[.val (.ref a1), .val (.int (1 : Int32)), .val (.long (-2305842798760296447 : Int64)), .second, .val (.int (4 : Int32)), .unset, .unset, .unset, .unset] [(.ref a1), (.long (2 : Int64)), (.long (-2305842798760296447 : Int64))])) rfl rfl (hb hby d1_52)
  have pre181 : ∀ t, Steps p.tables e below (T180.setTop (mkF m 57 #[.val (.ref a1), .val (.int (1 : Int32)), .val (.long (-2305842798760296447 : Int64)), .second, .val (.int (4 : Int32)), .unset, .unset, .unset, .unset] [(.long ((2305842798760296449 : Int64) * (-2305842798760296447 : Int64))), (.long (2 : Int64)), (.long (-2305842798760296447 : Int64))])) t → Steps p.tables e below (s₁.setTop (entryFrame m #[(.ref a1), (.int (1 : Int32))] 9)) t := fun t k => pre179 t (by
    show Steps p.tables e below (T173.setTop (mkF m 59 #[.val (.ref a1), .val (.int (1 : Int32)), .val (.long (-2305842798760296447 : Int64)), .second, .val (.int (3 : Int32)), .unset, .unset, .unset, .unset] [(.long (-2305842798760296447 : Int64))])) t
    refine XS.lstoreN X173.here hx rfl (hb hby d1_59) rfl (l' := #[.val (.ref a1), .val (.int (1 : Int32)), .val (.long (-2305842798760296447 : Int64)), .second, .val (.int (3 : Int32)), .unset, .unset, .unset, .unset]) rfl ?_
    show Steps p.tables e below (T173.setTop (mkF m 60 #[.val (.ref a1), .val (.int (1 : Int32)), .val (.long (-2305842798760296447 : Int64)), .second, .val (.int (3 : Int32)), .unset, .unset, .unset, .unset] [])) t
    refine XS.iinc X173.here hx rfl (hb hby d1_60) rfl (l' := #[.val (.ref a1), .val (.int (1 : Int32)), .val (.long (-2305842798760296447 : Int64)), .second, .val (.int (4 : Int32)), .unset, .unset, .unset, .unset]) rfl ?_
    show Steps p.tables e below (T173.setTop (mkF m 63 #[.val (.ref a1), .val (.int (1 : Int32)), .val (.long (-2305842798760296447 : Int64)), .second, .val (.int (4 : Int32)), .unset, .unset, .unset, .unset] [])) t
    refine XS.goto X173.here hx rfl (pc0 := 63) (pc' := 41) rfl (hb hby d1_63) (by decide) (by decide) ?_
    show Steps p.tables e below (T173.setTop (mkF m 41 #[.val (.ref a1), .val (.int (1 : Int32)), .val (.long (-2305842798760296447 : Int64)), .second, .val (.int (4 : Int32)), .unset, .unset, .unset, .unset] [])) t
    refine XS.iload X173.here hx rfl (hb hby d1_41) rfl ?_
    show Steps p.tables e below (T173.setTop (mkF m 43 #[.val (.ref a1), .val (.int (1 : Int32)), .val (.long (-2305842798760296447 : Int64)), .second, .val (.int (4 : Int32)), .unset, .unset, .unset, .unset] [(.int (4 : Int32))])) t
    refine XS.iconst X173.here hx rfl (hb hby d1_43) ?_
    show Steps p.tables e below (T173.setTop (mkF m 44 #[.val (.ref a1), .val (.int (1 : Int32)), .val (.long (-2305842798760296447 : Int64)), .second, .val (.int (4 : Int32)), .unset, .unset, .unset, .unset] [(.int (5 : Int32)), (.int (4 : Int32))])) t
    refine XS.icmpNo X173.here hx rfl (hb hby d1_44) rfl (tlt (by decide : (4 : Int32) < (5 : Int32))).2.1 ?_
    show Steps p.tables e below (T173.setTop (mkF m 47 #[.val (.ref a1), .val (.int (1 : Int32)), .val (.long (-2305842798760296447 : Int64)), .second, .val (.int (4 : Int32)), .unset, .unset, .unset, .unset] [])) t
    refine XS.lloadN X173.here hx rfl (hb hby d1_47) rfl ?_
    show Steps p.tables e below (T173.setTop (mkF m 48 #[.val (.ref a1), .val (.int (1 : Int32)), .val (.long (-2305842798760296447 : Int64)), .second, .val (.int (4 : Int32)), .unset, .unset, .unset, .unset] [(.long (-2305842798760296447 : Int64))])) t
    refine X173.ldc2Long hx hown (mvT hZ (own_i hw 16 rfl)) (g := (mkF m 48 #[.val (.ref a1), .val (.int (1 : Int32)), .val (.long (-2305842798760296447 : Int64)), .second, .val (.int (4 : Int32)), .unset, .unset, .unset, .unset] [(.long (-2305842798760296447 : Int64))])) rfl (hb hby d1_48) _ ?_
    show Steps p.tables e below (T173.setTop (mkF m 51 #[.val (.ref a1), .val (.int (1 : Int32)), .val (.long (-2305842798760296447 : Int64)), .second, .val (.int (4 : Int32)), .unset, .unset, .unset, .unset] [(.long (2 : Int64)), (.long (-2305842798760296447 : Int64))])) t
    refine XS.aloadN X173.here hx rfl (hb hby d1_51) rfl rfl ?_
    show Steps p.tables e below (T173.setTop (mkF m 52 #[.val (.ref a1), .val (.int (1 : Int32)), .val (.long (-2305842798760296447 : Int64)), .second, .val (.int (4 : Int32)), .unset, .unset, .unset, .unset] [(.ref a1), (.long (2 : Int64)), (.long (-2305842798760296447 : Int64))])) t
    refine st180 _ ?_
    show Steps p.tables e below (T180.setTop (mkF m 55 #[.val (.ref a1), .val (.int (1 : Int32)), .val (.long (-2305842798760296447 : Int64)), .second, .val (.int (4 : Int32)), .unset, .unset, .unset, .unset] [(.long (2305842798760296449 : Int64)), (.long (2 : Int64)), (.long (-2305842798760296447 : Int64))])) t
    refine XS.lloadN X180.here hx rfl (hb hby d1_55) rfl ?_
    show Steps p.tables e below (T180.setTop (mkF m 56 #[.val (.ref a1), .val (.int (1 : Int32)), .val (.long (-2305842798760296447 : Int64)), .second, .val (.int (4 : Int32)), .unset, .unset, .unset, .unset] [(.long (-2305842798760296447 : Int64)), (.long (2305842798760296449 : Int64)), (.long (2 : Int64)), (.long (-2305842798760296447 : Int64))])) t
    refine XS.lmul X180.here hx rfl (hb hby d1_56) rfl ?_
    exact k)
  have pre182 : ∀ t, Steps p.tables e below (T180.setTop (mkF m 57 #[.val (.ref a1), .val (.int (1 : Int32)), .val (.long (-2305842798760296447 : Int64)), .second, .val (.int (4 : Int32)), .unset, .unset, .unset, .unset] [(.long (1 : Int64)), (.long (2 : Int64)), (.long (-2305842798760296447 : Int64))])) t → Steps p.tables e below (s₁.setTop (entryFrame m #[(.ref a1), (.int (1 : Int32))] 9)) t := fun t k => pre181 t (by rw [show ((2305842798760296449 : Int64) * (-2305842798760296447 : Int64)) = (1 : Int64) from (by decide +kernel)]; exact k)
  have pre183 : ∀ t, Steps p.tables e below (T180.setTop (mkF m 58 #[.val (.ref a1), .val (.int (1 : Int32)), .val (.long (-2305842798760296447 : Int64)), .second, .val (.int (4 : Int32)), .unset, .unset, .unset, .unset] [(.long ((2 : Int64) - (1 : Int64))), (.long (-2305842798760296447 : Int64))])) t → Steps p.tables e below (s₁.setTop (entryFrame m #[(.ref a1), (.int (1 : Int32))] 9)) t := fun t k => pre182 t (by
    show Steps p.tables e below (T180.setTop (mkF m 57 #[.val (.ref a1), .val (.int (1 : Int32)), .val (.long (-2305842798760296447 : Int64)), .second, .val (.int (4 : Int32)), .unset, .unset, .unset, .unset] [(.long (1 : Int64)), (.long (2 : Int64)), (.long (-2305842798760296447 : Int64))])) t
    refine XS.lsub X180.here hx rfl (hb hby d1_57) rfl ?_
    exact k)
  have pre184 : ∀ t, Steps p.tables e below (T180.setTop (mkF m 58 #[.val (.ref a1), .val (.int (1 : Int32)), .val (.long (-2305842798760296447 : Int64)), .second, .val (.int (4 : Int32)), .unset, .unset, .unset, .unset] [(.long (1 : Int64)), (.long (-2305842798760296447 : Int64))])) t → Steps p.tables e below (s₁.setTop (entryFrame m #[(.ref a1), (.int (1 : Int32))] 9)) t := fun t k => pre183 t (by rw [show ((2 : Int64) - (1 : Int64)) = (1 : Int64) from (by decide +kernel)]; exact k)
  have pre185 : ∀ t, Steps p.tables e below (T180.setTop (mkF m 59 #[.val (.ref a1), .val (.int (1 : Int32)), .val (.long (-2305842798760296447 : Int64)), .second, .val (.int (4 : Int32)), .unset, .unset, .unset, .unset] [(.long ((-2305842798760296447 : Int64) * (1 : Int64)))])) t → Steps p.tables e below (s₁.setTop (entryFrame m #[(.ref a1), (.int (1 : Int32))] 9)) t := fun t k => pre184 t (by
    show Steps p.tables e below (T180.setTop (mkF m 58 #[.val (.ref a1), .val (.int (1 : Int32)), .val (.long (-2305842798760296447 : Int64)), .second, .val (.int (4 : Int32)), .unset, .unset, .unset, .unset] [(.long (1 : Int64)), (.long (-2305842798760296447 : Int64))])) t
    refine XS.lmul X180.here hx rfl (hb hby d1_58) rfl ?_
    exact k)
  have pre186 : ∀ t, Steps p.tables e below (T180.setTop (mkF m 59 #[.val (.ref a1), .val (.int (1 : Int32)), .val (.long (-2305842798760296447 : Int64)), .second, .val (.int (4 : Int32)), .unset, .unset, .unset, .unset] [(.long (-2305842798760296447 : Int64))])) t → Steps p.tables e below (s₁.setTop (entryFrame m #[(.ref a1), (.int (1 : Int32))] 9)) t := fun t k => pre185 t (by rw [show ((-2305842798760296447 : Int64) * (1 : Int64)) = (-2305842798760296447 : Int64) from (by decide +kernel)]; exact k)
  obtain ⟨T187, h187, X187, e187, W187, st187⟩ := putF X180 hx hZ hown (host := "") (Or.inl (own_i hw 19 rfl)) Via.refl e180 f144 f146 (Or.inr ⟨(own_i hw 20 rfl), rfl, hnm⟩) (own_i hw 1 rfl) (ty := .long) (by decide) rfl rfl (g := (mkF m 68 #[.val (.ref a1), .val (.int (1 : Int32)), .val (.long (-2305842798760296447 : Int64)), .second, .val (.int (5 : Int32)), .unset, .unset, .unset, .unset] [(.long (-2305842798760296447 : Int64)), (.ref a1)])) rfl rfl (hb hby d1_68)
  have Fw187 := f144.same W187
  have N187 := Fr.snoc X187 N141 g1
  have f188 := Nat.le_trans f142 (Keep.of_wr W187).1
  have f189 := f143.wr W187 g1
  have f190 := f145.other W187 (Or.inr (slot_ne (Or.inr (own_i hw 30 rfl)) (Or.inr (own_i hw 20 rfl)) (by decide) (t := .long) (t' := .long) (by decide) (by decide)))
  have f191 := f146.wr W187
  have f192 := f147.wr W187 (Or.inl (List.mem_of_getElem? (i := 0) rfl))
  have f193 := f148.other W187 (Ne.symm ne104)
  have f194 := f149.other W187 (Or.inr (slot_ne (Or.inr (own_i hw 11 rfl)) (Or.inr (own_i hw 20 rfl)) (by decide) (t := (.array .long)) (t' := .long) (by decide) (by decide)))
  have f195 := f150.other W187 (Or.inr (slot_ne (Or.inr (own_i hw 15 rfl)) (Or.inr (own_i hw 20 rfl)) (by decide) (t := .long) (t' := .long) (by decide) (by decide)))
  have f196 := Fw141.other W187 (Or.inr (slot_ne (Or.inr (own_i hw 18 rfl)) (Or.inr (own_i hw 20 rfl)) (by decide) (t := .long) (t' := .long) (by decide) (by decide)))
  obtain ⟨T197, X197, e197, st197⟩ := getF X187 hx hZ hown (host := "") (Or.inl (own_i hw 14 rfl)) Via.refl e187 f195 (g := (mkF m 72 #[.val (.ref a1), .val (.int (1 : Int32)), .val (.long (-2305842798760296447 : Int64)), .second, .val (.int (5 : Int32)), .unset, .unset, .unset, .unset] [(.ref a1)])) rfl rfl (hb hby d1_72)
  have pre198 : ∀ t, Steps p.tables e below (T197.setTop (mkF m 76 #[.val (.ref a1), .val (.int (1 : Int32)), .val (.long (-2305842798760296447 : Int64)), .second, .val (.int (5 : Int32)), .unset, .unset, .unset, .unset] [(.long (-(2305842798760296449 : Int64)))])) t → Steps p.tables e below (s₁.setTop (entryFrame m #[(.ref a1), (.int (1 : Int32))] 9)) t := fun t k => pre186 t (by
    show Steps p.tables e below (T180.setTop (mkF m 59 #[.val (.ref a1), .val (.int (1 : Int32)), .val (.long (-2305842798760296447 : Int64)), .second, .val (.int (4 : Int32)), .unset, .unset, .unset, .unset] [(.long (-2305842798760296447 : Int64))])) t
    refine XS.lstoreN X180.here hx rfl (hb hby d1_59) rfl (l' := #[.val (.ref a1), .val (.int (1 : Int32)), .val (.long (-2305842798760296447 : Int64)), .second, .val (.int (4 : Int32)), .unset, .unset, .unset, .unset]) rfl ?_
    show Steps p.tables e below (T180.setTop (mkF m 60 #[.val (.ref a1), .val (.int (1 : Int32)), .val (.long (-2305842798760296447 : Int64)), .second, .val (.int (4 : Int32)), .unset, .unset, .unset, .unset] [])) t
    refine XS.iinc X180.here hx rfl (hb hby d1_60) rfl (l' := #[.val (.ref a1), .val (.int (1 : Int32)), .val (.long (-2305842798760296447 : Int64)), .second, .val (.int (5 : Int32)), .unset, .unset, .unset, .unset]) rfl ?_
    show Steps p.tables e below (T180.setTop (mkF m 63 #[.val (.ref a1), .val (.int (1 : Int32)), .val (.long (-2305842798760296447 : Int64)), .second, .val (.int (5 : Int32)), .unset, .unset, .unset, .unset] [])) t
    refine XS.goto X180.here hx rfl (pc0 := 63) (pc' := 41) rfl (hb hby d1_63) (by decide) (by decide) ?_
    show Steps p.tables e below (T180.setTop (mkF m 41 #[.val (.ref a1), .val (.int (1 : Int32)), .val (.long (-2305842798760296447 : Int64)), .second, .val (.int (5 : Int32)), .unset, .unset, .unset, .unset] [])) t
    refine XS.iload X180.here hx rfl (hb hby d1_41) rfl ?_
    show Steps p.tables e below (T180.setTop (mkF m 43 #[.val (.ref a1), .val (.int (1 : Int32)), .val (.long (-2305842798760296447 : Int64)), .second, .val (.int (5 : Int32)), .unset, .unset, .unset, .unset] [(.int (5 : Int32))])) t
    refine XS.iconst X180.here hx rfl (hb hby d1_43) ?_
    show Steps p.tables e below (T180.setTop (mkF m 44 #[.val (.ref a1), .val (.int (1 : Int32)), .val (.long (-2305842798760296447 : Int64)), .second, .val (.int (5 : Int32)), .unset, .unset, .unset, .unset] [(.int (5 : Int32)), (.int (5 : Int32))])) t
    refine XS.icmpYes X180.here hx rfl (pc0 := 44) (pc' := 66) rfl (hb hby d1_44) rfl (flt (by decide : ¬ ((5 : Int32) < (5 : Int32)))).2.1 (by decide) (by decide) ?_
    show Steps p.tables e below (T180.setTop (mkF m 66 #[.val (.ref a1), .val (.int (1 : Int32)), .val (.long (-2305842798760296447 : Int64)), .second, .val (.int (5 : Int32)), .unset, .unset, .unset, .unset] [])) t
    refine XS.aloadN X180.here hx rfl (hb hby d1_66) rfl rfl ?_
    show Steps p.tables e below (T180.setTop (mkF m 67 #[.val (.ref a1), .val (.int (1 : Int32)), .val (.long (-2305842798760296447 : Int64)), .second, .val (.int (5 : Int32)), .unset, .unset, .unset, .unset] [(.ref a1)])) t
    refine XS.lloadN X180.here hx rfl (hb hby d1_67) rfl ?_
    show Steps p.tables e below (T180.setTop (mkF m 68 #[.val (.ref a1), .val (.int (1 : Int32)), .val (.long (-2305842798760296447 : Int64)), .second, .val (.int (5 : Int32)), .unset, .unset, .unset, .unset] [(.long (-2305842798760296447 : Int64)), (.ref a1)])) t
    refine st187 _ ?_
    show Steps p.tables e below (T187.setTop (mkF m 71 #[.val (.ref a1), .val (.int (1 : Int32)), .val (.long (-2305842798760296447 : Int64)), .second, .val (.int (5 : Int32)), .unset, .unset, .unset, .unset] [])) t
    refine XS.aloadN X187.here hx rfl (hb hby d1_71) rfl rfl ?_
    show Steps p.tables e below (T187.setTop (mkF m 72 #[.val (.ref a1), .val (.int (1 : Int32)), .val (.long (-2305842798760296447 : Int64)), .second, .val (.int (5 : Int32)), .unset, .unset, .unset, .unset] [(.ref a1)])) t
    refine st197 _ ?_
    show Steps p.tables e below (T197.setTop (mkF m 75 #[.val (.ref a1), .val (.int (1 : Int32)), .val (.long (-2305842798760296447 : Int64)), .second, .val (.int (5 : Int32)), .unset, .unset, .unset, .unset] [(.long (2305842798760296449 : Int64))])) t
    refine XS.lneg X197.here hx rfl (hb hby d1_75) rfl ?_
    exact k)
  have pre199 : ∀ t, Steps p.tables e below (T197.setTop (mkF m 76 #[.val (.ref a1), .val (.int (1 : Int32)), .val (.long (-2305842798760296447 : Int64)), .second, .val (.int (5 : Int32)), .unset, .unset, .unset, .unset] [(.long (-2305842798760296449 : Int64))])) t → Steps p.tables e below (s₁.setTop (entryFrame m #[(.ref a1), (.int (1 : Int32))] 9)) t := fun t k => pre198 t (by rw [show (-(2305842798760296449 : Int64)) = (-2305842798760296449 : Int64) from (by decide +kernel)]; exact k)
  obtain ⟨T200, X200, e200, st200⟩ := getF X197 hx hZ hown (host := "") (Or.inl (own_i hw 14 rfl)) Via.refl e197 f195 (g := (mkF m 77 #[.val (.ref a1), .val (.int (1 : Int32)), .val (.long (-2305842798760296447 : Int64)), .second, .val (.int (5 : Int32)), .unset, .unset, .unset, .unset] [(.ref a1), (.long (-2305842798760296449 : Int64))])) rfl rfl (hb hby d1_77)
  obtain ⟨_, _, ⟨T201, L201, k201, n201⟩, -, X201, ⟨Lc201, hQ201, l201, y201, z201⟩, st201⟩ := Jvm.LawKit.callS X200 hx (y := (⟨"java/lang/Long", "remainderUnsigned", "(JJ)J"⟩ : MethodName)) hown (mvT hZ (own_i hw 21 rfl)) (mvT hZ (own_i hw 22 rfl)) (mvT hZ (own_i hw 23 rfl)) (mvT hZ (own_i hw 24 rfl)) (by decide) (backOf (W := 0) (rmRU l Z a0 hw [] (-2305842798760296449 : Int64) (2305842798760296449 : Int64) h187 n0 f188 (by decide) (by decide)) hZ (own_i hw 24 rfl) (own_i hw 23 rfl) (by decide) (by decide)) (g := (mkF m 80 #[.val (.ref a1), .val (.int (1 : Int32)), .val (.long (-2305842798760296447 : Int64)), .second, .val (.int (5 : Int32)), .unset, .unset, .unset, .unset] [(.long (2305842798760296449 : Int64)), (.long (-2305842798760296449 : Int64))])) rfl (by rw [hml]; rfl) (argsL := [(.long (-2305842798760296449 : Int64)), (.long (2305842798760296449 : Int64))]) (rest := []) (lenOf pd_0 rfl) rfl (by show 2 * 0 + _ ≤ _; exact Nat.le_of_eq rfl) (hb hby d1_80) (fun _ _ => ⟨rfl, e200, (by decide : 1 + 0 ≤ _), (by decide : 33 + 0 ≤ _)⟩)
  dsimp only [Pt.U, Pt.locs, Pt.cells, Pt.slots] at X201 l201 y201 z201 st201 hQ201
  subst l201 y201 z201
  obtain ⟨rfl, N201q, e201⟩ := hQ201
  have N201 := Fr.app N187 N201q
  have pre202 : ∀ t, Steps p.tables e below (T201.setTop (mkF m 83 #[.val (.ref a1), .val (.int (1 : Int32)), .val (.long (-2305842798760296447 : Int64)), .second, .val (.int (5 : Int32)), .unset, .unset, .unset, .unset] [(.long (own_ru (-2305842798760296449 : Int64) (2305842798760296449 : Int64)))])) t → Steps p.tables e below (s₁.setTop (entryFrame m #[(.ref a1), (.int (1 : Int32))] 9)) t := fun t k => pre199 t (by
    show Steps p.tables e below (T197.setTop (mkF m 76 #[.val (.ref a1), .val (.int (1 : Int32)), .val (.long (-2305842798760296447 : Int64)), .second, .val (.int (5 : Int32)), .unset, .unset, .unset, .unset] [(.long (-2305842798760296449 : Int64))])) t
    refine XS.aloadN X197.here hx rfl (hb hby d1_76) rfl rfl ?_
    show Steps p.tables e below (T197.setTop (mkF m 77 #[.val (.ref a1), .val (.int (1 : Int32)), .val (.long (-2305842798760296447 : Int64)), .second, .val (.int (5 : Int32)), .unset, .unset, .unset, .unset] [(.ref a1), (.long (-2305842798760296449 : Int64))])) t
    refine st200 _ ?_
    show Steps p.tables e below (T200.setTop (mkF m 80 #[.val (.ref a1), .val (.int (1 : Int32)), .val (.long (-2305842798760296447 : Int64)), .second, .val (.int (5 : Int32)), .unset, .unset, .unset, .unset] [(.long (2305842798760296449 : Int64)), (.long (-2305842798760296449 : Int64))])) t
    refine st201 _ ?_
    exact k)
  have pre203 : ∀ t, Steps p.tables e below (T201.setTop (mkF m 83 #[.val (.ref a1), .val (.int (1 : Int32)), .val (.long (-2305842798760296447 : Int64)), .second, .val (.int (5 : Int32)), .unset, .unset, .unset, .unset] [(.long (1683627180024 : Int64))])) t → Steps p.tables e below (s₁.setTop (entryFrame m #[(.ref a1), (.int (1 : Int32))] 9)) t := fun t k => pre202 t (by rw [show (own_ru (-2305842798760296449 : Int64) (2305842798760296449 : Int64)) = (1683627180024 : Int64) from (by decide +kernel)]; exact k)
  have pre204 : ∀ t, Steps p.tables e below (T201.setTop (mkF m 88 #[.val (.ref a1), .val (.int (1 : Int32)), .val (.long (-2305842798760296447 : Int64)), .second, .val (.long (1683627180024 : Int64)), .second, .val (.int (0 : Int32)), .unset, .unset] [])) t → Steps p.tables e below (s₁.setTop (entryFrame m #[(.ref a1), (.int (1 : Int32))] 9)) t := fun t k => pre203 t (by
    show Steps p.tables e below (T201.setTop (mkF m 83 #[.val (.ref a1), .val (.int (1 : Int32)), .val (.long (-2305842798760296447 : Int64)), .second, .val (.int (5 : Int32)), .unset, .unset, .unset, .unset] [(.long (1683627180024 : Int64))])) t
    refine XS.lstore X201.here hx rfl (hb hby d1_83) rfl (l' := #[.val (.ref a1), .val (.int (1 : Int32)), .val (.long (-2305842798760296447 : Int64)), .second, .val (.long (1683627180024 : Int64)), .second, .unset, .unset, .unset]) rfl ?_
    show Steps p.tables e below (T201.setTop (mkF m 85 #[.val (.ref a1), .val (.int (1 : Int32)), .val (.long (-2305842798760296447 : Int64)), .second, .val (.long (1683627180024 : Int64)), .second, .unset, .unset, .unset] [])) t
    refine XS.iconst X201.here hx rfl (hb hby d1_85) ?_
    show Steps p.tables e below (T201.setTop (mkF m 86 #[.val (.ref a1), .val (.int (1 : Int32)), .val (.long (-2305842798760296447 : Int64)), .second, .val (.long (1683627180024 : Int64)), .second, .unset, .unset, .unset] [(.int (0 : Int32))])) t
    refine XS.istore X201.here hx rfl (hb hby d1_86) rfl (l' := #[.val (.ref a1), .val (.int (1 : Int32)), .val (.long (-2305842798760296447 : Int64)), .second, .val (.long (1683627180024 : Int64)), .second, .val (.int (0 : Int32)), .unset, .unset]) rfl ?_
    exact k)
  have hl205 : ∀ (nn : Nat) (T205 : State) (L205 : List Loc) (sqv : Int64) (ii : Int32) (k : Nat), Stand p l e ({ frames := 5, cells := 1, slots := 33, locals := 105 } : Room) s m #[(.ref a1), (.int (1 : Int32))] below meth c T205 L205 1 33 → T205.heap = h187 → Fr n0 L205 → (sqv = own_dbl (1683627180024 : Int64) (2305842798760296449 : Int64) k) → (ii = Int32.ofNat k) → (k ≤ 64) → (64 - k) < nn → (∀ t, Steps p.tables e below (T205.setTop (mkF m 88 #[.val (.ref a1), .val (.int (1 : Int32)), .val (.long (-2305842798760296447 : Int64)), .second, .val (.long sqv), .second, .val (.int ii), .unset, .unset] [])) t → Steps p.tables e below (s₁.setTop (entryFrame m #[(.ref a1), (.int (1 : Int32))] 9)) t) → ∃ s₂ o, Steps p.tables e below (s₁.setTop (entryFrame m #[(.ref a1), (.int (1 : Int32))] 9)) s₂ ∧ s₂.status = .running ∧ Ended s₂ below o ∧ ∃ v L, o = .returned v ∧ QI1 Z a1 wP kP wN kN h0 n0 v s₂.heap L ∧ FrameEnd s o s₂ L ({ frames := 5, cells := 1, slots := 33, locals := 105 } : Room).cells ({ frames := 5, cells := 1, slots := 33, locals := 105 } : Room).slots := by
    intro nn
    induction nn with
    | zero => intro T205 L205 sqv ii k X205 e205 N205 hq hi hk hm205 pre205; exact absurd hm205 (Nat.not_lt_zero _)
    | succ nn ih205 =>
      intro T205 L205 sqv ii k X205 e205 N205 hq hi hk hm205 pre205
      have pre207 : ∀ t, Steps p.tables e below (T205.setTop (mkF m 92 #[.val (.ref a1), .val (.int (1 : Int32)), .val (.long (-2305842798760296447 : Int64)), .second, .val (.long sqv), .second, .val (.int ii), .unset, .unset] [(.int (64 : Int32)), (.int ii)])) t → Steps p.tables e below (s₁.setTop (entryFrame m #[(.ref a1), (.int (1 : Int32))] 9)) t := fun t k => pre205 t (by
        show Steps p.tables e below (T205.setTop (mkF m 88 #[.val (.ref a1), .val (.int (1 : Int32)), .val (.long (-2305842798760296447 : Int64)), .second, .val (.long sqv), .second, .val (.int ii), .unset, .unset] [])) t
        refine XS.iload X205.here hx rfl (hb hby d1_88) rfl ?_
        show Steps p.tables e below (T205.setTop (mkF m 90 #[.val (.ref a1), .val (.int (1 : Int32)), .val (.long (-2305842798760296447 : Int64)), .second, .val (.long sqv), .second, .val (.int ii), .unset, .unset] [(.int ii)])) t
        refine XS.bipush X205.here hx rfl (hb hby d1_90) ?_
        exact k)
      by_cases hc206 : ii < (64 : Int32)
      · obtain ⟨T208, X208, e208, st208⟩ := getF X205 hx hZ hown (host := "") (Or.inl (own_i hw 14 rfl)) Via.refl e205 f195 (g := (mkF m 100 #[.val (.ref a1), .val (.int (1 : Int32)), .val (.long (-2305842798760296447 : Int64)), .second, .val (.long sqv), .second, .val (.int ii), .unset, .unset] [(.ref a1), (.long (sqv <<< ((1 : Int32) &&& 0x3f).toInt64))])) rfl rfl (hb hby d1_100)
        obtain ⟨_, _, ⟨T209, L209, k209, n209⟩, -, X209, ⟨Lc209, hQ209, l209, y209, z209⟩, st209⟩ := Jvm.LawKit.callS X208 hx (y := (⟨"com/example/libsld/libsld/PrimeField", "subtractIfAbove", "(JJ)J"⟩ : MethodName)) hown (mvT hZ (own_i hw 26 rfl)) (mvT hZ (own_i hw 27 rfl)) (mvT hZ (own_i hw 2 rfl)) (mvT hZ (own_i hw 28 rfl)) (by decide) (backOf (W := 0) (rmSub l Z a0 hw [] (sqv <<< ((1 : Int32) &&& 0x3f).toInt64) (2305842798760296449 : Int64) h187 n0 f188 ) hZ (own_i hw 28 rfl) (own_i hw 2 rfl) (by decide) (by decide)) (g := (mkF m 103 #[.val (.ref a1), .val (.int (1 : Int32)), .val (.long (-2305842798760296447 : Int64)), .second, .val (.long sqv), .second, .val (.int ii), .unset, .unset] [(.long (2305842798760296449 : Int64)), (.long (sqv <<< ((1 : Int32) &&& 0x3f).toInt64))])) rfl (by rw [hml]; rfl) (argsL := [(.long (sqv <<< ((1 : Int32) &&& 0x3f).toInt64)), (.long (2305842798760296449 : Int64))]) (rest := []) (lenOf pd_0 rfl) rfl (by show 2 * 0 + _ ≤ _; exact Nat.le_of_eq rfl) (hb hby d1_103) (fun _ _ => ⟨rfl, e208, (by decide : 1 + 0 ≤ _), (by decide : 33 + 0 ≤ _)⟩)
        dsimp only [Pt.U, Pt.locs, Pt.cells, Pt.slots] at X209 l209 y209 z209 st209 hQ209
        subst l209 y209 z209
        obtain ⟨rfl, N209q, e209⟩ := hQ209
        have N209 := Fr.app N205 N209q
        have pre210 : ∀ t, Steps p.tables e below (T209.setTop (mkF m 88 #[.val (.ref a1), .val (.int (1 : Int32)), .val (.long (-2305842798760296447 : Int64)), .second, .val (.long (own_sub (sqv <<< ((1 : Int32) &&& 0x3f).toInt64) (2305842798760296449 : Int64))), .second, .val (.int (ii + (1 : Int32))), .unset, .unset] [])) t → Steps p.tables e below (s₁.setTop (entryFrame m #[(.ref a1), (.int (1 : Int32))] 9)) t := fun t k => pre207 t (by
          show Steps p.tables e below (T205.setTop (mkF m 92 #[.val (.ref a1), .val (.int (1 : Int32)), .val (.long (-2305842798760296447 : Int64)), .second, .val (.long sqv), .second, .val (.int ii), .unset, .unset] [(.int (64 : Int32)), (.int ii)])) t
          refine XS.icmpNo X205.here hx rfl (hb hby d1_92) rfl (tlt hc206).2.1 ?_
          show Steps p.tables e below (T205.setTop (mkF m 95 #[.val (.ref a1), .val (.int (1 : Int32)), .val (.long (-2305842798760296447 : Int64)), .second, .val (.long sqv), .second, .val (.int ii), .unset, .unset] [])) t
          refine XS.lload X205.here hx rfl (hb hby d1_95) rfl ?_
          show Steps p.tables e below (T205.setTop (mkF m 97 #[.val (.ref a1), .val (.int (1 : Int32)), .val (.long (-2305842798760296447 : Int64)), .second, .val (.long sqv), .second, .val (.int ii), .unset, .unset] [(.long sqv)])) t
          refine XS.iconst X205.here hx rfl (hb hby d1_97) ?_
          show Steps p.tables e below (T205.setTop (mkF m 98 #[.val (.ref a1), .val (.int (1 : Int32)), .val (.long (-2305842798760296447 : Int64)), .second, .val (.long sqv), .second, .val (.int ii), .unset, .unset] [(.int (1 : Int32)), (.long sqv)])) t
          refine XS.lshl X205.here hx rfl (hb hby d1_98) rfl ?_
          show Steps p.tables e below (T205.setTop (mkF m 99 #[.val (.ref a1), .val (.int (1 : Int32)), .val (.long (-2305842798760296447 : Int64)), .second, .val (.long sqv), .second, .val (.int ii), .unset, .unset] [(.long (sqv <<< ((1 : Int32) &&& 0x3f).toInt64))])) t
          refine XS.aloadN X205.here hx rfl (hb hby d1_99) rfl rfl ?_
          show Steps p.tables e below (T205.setTop (mkF m 100 #[.val (.ref a1), .val (.int (1 : Int32)), .val (.long (-2305842798760296447 : Int64)), .second, .val (.long sqv), .second, .val (.int ii), .unset, .unset] [(.ref a1), (.long (sqv <<< ((1 : Int32) &&& 0x3f).toInt64))])) t
          refine st208 _ ?_
          show Steps p.tables e below (T208.setTop (mkF m 103 #[.val (.ref a1), .val (.int (1 : Int32)), .val (.long (-2305842798760296447 : Int64)), .second, .val (.long sqv), .second, .val (.int ii), .unset, .unset] [(.long (2305842798760296449 : Int64)), (.long (sqv <<< ((1 : Int32) &&& 0x3f).toInt64))])) t
          refine st209 _ ?_
          show Steps p.tables e below (T209.setTop (mkF m 106 #[.val (.ref a1), .val (.int (1 : Int32)), .val (.long (-2305842798760296447 : Int64)), .second, .val (.long sqv), .second, .val (.int ii), .unset, .unset] [(.long (own_sub (sqv <<< ((1 : Int32) &&& 0x3f).toInt64) (2305842798760296449 : Int64)))])) t
          refine XS.lstore X209.here hx rfl (hb hby d1_106) rfl (l' := #[.val (.ref a1), .val (.int (1 : Int32)), .val (.long (-2305842798760296447 : Int64)), .second, .val (.long (own_sub (sqv <<< ((1 : Int32) &&& 0x3f).toInt64) (2305842798760296449 : Int64))), .second, .val (.int ii), .unset, .unset]) rfl ?_
          show Steps p.tables e below (T209.setTop (mkF m 108 #[.val (.ref a1), .val (.int (1 : Int32)), .val (.long (-2305842798760296447 : Int64)), .second, .val (.long (own_sub (sqv <<< ((1 : Int32) &&& 0x3f).toInt64) (2305842798760296449 : Int64))), .second, .val (.int ii), .unset, .unset] [])) t
          refine XS.iinc X209.here hx rfl (hb hby d1_108) rfl (l' := #[.val (.ref a1), .val (.int (1 : Int32)), .val (.long (-2305842798760296447 : Int64)), .second, .val (.long (own_sub (sqv <<< ((1 : Int32) &&& 0x3f).toInt64) (2305842798760296449 : Int64))), .second, .val (.int (ii + (1 : Int32))), .unset, .unset]) rfl ?_
          show Steps p.tables e below (T209.setTop (mkF m 111 #[.val (.ref a1), .val (.int (1 : Int32)), .val (.long (-2305842798760296447 : Int64)), .second, .val (.long (own_sub (sqv <<< ((1 : Int32) &&& 0x3f).toInt64) (2305842798760296449 : Int64))), .second, .val (.int (ii + (1 : Int32))), .unset, .unset] [])) t
          refine XS.goto X209.here hx rfl (pc0 := 111) (pc' := 88) rfl (hb hby d1_111) (by decide) (by decide) ?_
          exact k)
        exact ih205 _ _ _ _ (k + 1) X209 e209 N209 (congrArg (fun z => own_sub (z <<< ((1 : Int32) &&& 0x3f).toInt64) (2305842798760296449 : Int64)) hq) (own_inc hi) (own_k64 hi hk hc206) (Nat.lt_of_lt_of_le (own_m64 hi hk hc206) (Nat.lt_succ_iff.mp hm205)) pre210
      · have pre211 : ∀ t, Steps p.tables e below (T205.setTop (mkF m 114 #[.val (.ref a1), .val (.int (1 : Int32)), .val (.long (-2305842798760296447 : Int64)), .second, .val (.long sqv), .second, .val (.int ii), .unset, .unset] [])) t → Steps p.tables e below (s₁.setTop (entryFrame m #[(.ref a1), (.int (1 : Int32))] 9)) t := fun t k => pre207 t (by
          show Steps p.tables e below (T205.setTop (mkF m 92 #[.val (.ref a1), .val (.int (1 : Int32)), .val (.long (-2305842798760296447 : Int64)), .second, .val (.long sqv), .second, .val (.int ii), .unset, .unset] [(.int (64 : Int32)), (.int ii)])) t
          refine XS.icmpYes X205.here hx rfl (pc0 := 92) (pc' := 114) rfl (hb hby d1_92) rfl (flt hc206).2.1 (by decide) (by decide) ?_
          exact k)
        have pre212 : ∀ t, Steps p.tables e below (T205.setTop (mkF m 114 #[.val (.ref a1), .val (.int (1 : Int32)), .val (.long (-2305842798760296447 : Int64)), .second, .val (.long (258685948956327488 : Int64)), .second, .val (.int ii), .unset, .unset] [])) t → Steps p.tables e below (s₁.setTop (entryFrame m #[(.ref a1), (.int (1 : Int32))] 9)) t := fun t k => pre211 t (by rw [show sqv = (258685948956327488 : Int64) from (own_dend hq hi hk hc206 (by decide +kernel))]; exact k)
        obtain ⟨T213, h213, X213, e213, W213, st213⟩ := putF X205 hx hZ hown (host := "") (Or.inl (own_i hw 29 rfl)) Via.refl e205 f190 f191 (Or.inr ⟨(own_i hw 30 rfl), rfl, hnm⟩) (own_i hw 1 rfl) (ty := .long) (by decide) rfl rfl (g := (mkF m 117 #[.val (.ref a1), .val (.int (1 : Int32)), .val (.long (-2305842798760296447 : Int64)), .second, .val (.long (258685948956327488 : Int64)), .second, .val (.int ii), .unset, .unset] [(.long (258685948956327488 : Int64)), (.ref a1)])) rfl rfl (hb hby d1_117)
        have Fw213 := f190.same W213
        have N213 := Fr.snoc X213 N205 g1
        have f214 := Nat.le_trans f188 (Keep.of_wr W213).1
        have f215 := f189.wr W213 g1
        have f216 := f191.wr W213
        have f217 := f192.wr W213 (Or.inl (List.mem_of_getElem? (i := 0) rfl))
        have f218 := f193.other W213 (Ne.symm ne104)
        have f219 := f194.other W213 (Or.inr (slot_ne (Or.inr (own_i hw 11 rfl)) (Or.inr (own_i hw 30 rfl)) (by decide) (t := (.array .long)) (t' := .long) (by decide) (by decide)))
        have f220 := f195.other W213 (Or.inr (slot_ne (Or.inr (own_i hw 15 rfl)) (Or.inr (own_i hw 30 rfl)) (by decide) (t := .long) (t' := .long) (by decide) (by decide)))
        have f221 := f196.other W213 (Or.inr (slot_ne (Or.inr (own_i hw 18 rfl)) (Or.inr (own_i hw 30 rfl)) (by decide) (t := .long) (t' := .long) (by decide) (by decide)))
        have f222 := Fw187.other W213 (Or.inr (slot_ne (Or.inr (own_i hw 20 rfl)) (Or.inr (own_i hw 30 rfl)) (by decide) (t := .long) (t' := .long) (by decide) (by decide)))
        obtain ⟨T223, X223, e223, st223⟩ := getS2 X213 hx hZ hown (host := "") (Or.inl (own_i hw 31 rfl)) Via.refl e213 (SN.ext f215.2) (g := (mkF m 121 #[.val (.ref a1), .val (.int (1 : Int32)), .val (.long (-2305842798760296447 : Int64)), .second, .val (.long (258685948956327488 : Int64)), .second, .val (.int ii), .unset, .unset] [(.ref a1)])) rfl (hb hby d1_121)
        obtain ⟨cl224, Ar224, q224, S224, N224z, H224, G224⟩ := (id (AN.ext f215.2))
        have hin224 : ¬ ((1 : Int32) < 0 ∨ cl224.slots.size ≤ ((1 : Int32)).toNatClampNeg) := inb_of S224 ⟨by decide, by decide⟩
        have hat224 : cl224.slots[((1 : Int32)).toNatClampNeg]? = some (.long (3 : Int64)) := Has.at H224 hin224 rfl
        obtain ⟨T225, X225, e225, st225⟩ := getF X223 hx hZ hown (host := "") (Or.inl (own_i hw 14 rfl)) Via.refl e223 f220 (g := (mkF m 127 #[.val (.ref a1), .val (.int (1 : Int32)), .val (.long (-2305842798760296447 : Int64)), .second, .val (.long (258685948956327488 : Int64)), .second, .val (.int ii), .unset, .unset] [(.ref a1), (.long (3 : Int64)), (.ref a1)])) rfl rfl (hb hby d1_127)
        have pre226 : ∀ t, Steps p.tables e below (T225.setTop (mkF m 132 #[.val (.ref a1), .val (.int (1 : Int32)), .val (.long (-2305842798760296447 : Int64)), .second, .val (.long (258685948956327488 : Int64)), .second, .val (.int ii), .unset, .unset] [(.long ((2305842798760296449 : Int64) - (1 : Int64))), (.long (3 : Int64)), (.ref a1)])) t → Steps p.tables e below (s₁.setTop (entryFrame m #[(.ref a1), (.int (1 : Int32))] 9)) t := fun t k => pre212 t (by
          show Steps p.tables e below (T205.setTop (mkF m 114 #[.val (.ref a1), .val (.int (1 : Int32)), .val (.long (-2305842798760296447 : Int64)), .second, .val (.long (258685948956327488 : Int64)), .second, .val (.int ii), .unset, .unset] [])) t
          refine XS.aloadN X205.here hx rfl (hb hby d1_114) rfl rfl ?_
          show Steps p.tables e below (T205.setTop (mkF m 115 #[.val (.ref a1), .val (.int (1 : Int32)), .val (.long (-2305842798760296447 : Int64)), .second, .val (.long (258685948956327488 : Int64)), .second, .val (.int ii), .unset, .unset] [(.ref a1)])) t
          refine XS.lload X205.here hx rfl (hb hby d1_115) rfl ?_
          show Steps p.tables e below (T205.setTop (mkF m 117 #[.val (.ref a1), .val (.int (1 : Int32)), .val (.long (-2305842798760296447 : Int64)), .second, .val (.long (258685948956327488 : Int64)), .second, .val (.int ii), .unset, .unset] [(.long (258685948956327488 : Int64)), (.ref a1)])) t
          refine st213 _ ?_
          show Steps p.tables e below (T213.setTop (mkF m 120 #[.val (.ref a1), .val (.int (1 : Int32)), .val (.long (-2305842798760296447 : Int64)), .second, .val (.long (258685948956327488 : Int64)), .second, .val (.int ii), .unset, .unset] [])) t
          refine XS.aloadN X213.here hx rfl (hb hby d1_120) rfl rfl ?_
          show Steps p.tables e below (T213.setTop (mkF m 121 #[.val (.ref a1), .val (.int (1 : Int32)), .val (.long (-2305842798760296447 : Int64)), .second, .val (.long (258685948956327488 : Int64)), .second, .val (.int ii), .unset, .unset] [(.ref a1)])) t
          refine st223 _ ?_
          show Steps p.tables e below (T223.setTop (mkF m 124 #[.val (.ref a1), .val (.int (1 : Int32)), .val (.long (-2305842798760296447 : Int64)), .second, .val (.long (258685948956327488 : Int64)), .second, .val (.int ii), .unset, .unset] [(.ref wN), (.ref a1)])) t
          refine XS.iloadN X223.here hx rfl (hb hby d1_124) rfl ?_
          show Steps p.tables e below (T223.setTop (mkF m 125 #[.val (.ref a1), .val (.int (1 : Int32)), .val (.long (-2305842798760296447 : Int64)), .second, .val (.long (258685948956327488 : Int64)), .second, .val (.int ii), .unset, .unset] [(.int (1 : Int32)), (.ref wN), (.ref a1)])) t
          refine X223.laload hx (j := (1 : Int32)) (v := (.long (3 : Int64))) (by rw [e223]; exact Ar224.1) (State.isArrayOf_alike hZ.alike Ar224.2.1) Ar224.2.2 hin224 hat224 (g := (mkF m 125 #[.val (.ref a1), .val (.int (1 : Int32)), .val (.long (-2305842798760296447 : Int64)), .second, .val (.long (258685948956327488 : Int64)), .second, .val (.int ii), .unset, .unset] [(.int (1 : Int32)), (.ref wN), (.ref a1)])) rfl rfl (hb hby d1_125) _ ?_
          show Steps p.tables e below (T223.setTop (mkF m 126 #[.val (.ref a1), .val (.int (1 : Int32)), .val (.long (-2305842798760296447 : Int64)), .second, .val (.long (258685948956327488 : Int64)), .second, .val (.int ii), .unset, .unset] [(.long (3 : Int64)), (.ref a1)])) t
          refine XS.aloadN X223.here hx rfl (hb hby d1_126) rfl rfl ?_
          show Steps p.tables e below (T223.setTop (mkF m 127 #[.val (.ref a1), .val (.int (1 : Int32)), .val (.long (-2305842798760296447 : Int64)), .second, .val (.long (258685948956327488 : Int64)), .second, .val (.int ii), .unset, .unset] [(.ref a1), (.long (3 : Int64)), (.ref a1)])) t
          refine st225 _ ?_
          show Steps p.tables e below (T225.setTop (mkF m 130 #[.val (.ref a1), .val (.int (1 : Int32)), .val (.long (-2305842798760296447 : Int64)), .second, .val (.long (258685948956327488 : Int64)), .second, .val (.int ii), .unset, .unset] [(.long (2305842798760296449 : Int64)), (.long (3 : Int64)), (.ref a1)])) t
          refine XS.lconst X225.here hx rfl (hb hby d1_130) ?_
          show Steps p.tables e below (T225.setTop (mkF m 131 #[.val (.ref a1), .val (.int (1 : Int32)), .val (.long (-2305842798760296447 : Int64)), .second, .val (.long (258685948956327488 : Int64)), .second, .val (.int ii), .unset, .unset] [(.long (1 : Int64)), (.long (2305842798760296449 : Int64)), (.long (3 : Int64)), (.ref a1)])) t
          refine XS.lsub X225.here hx rfl (hb hby d1_131) rfl ?_
          exact k)
        have pre227 : ∀ t, Steps p.tables e below (T225.setTop (mkF m 132 #[.val (.ref a1), .val (.int (1 : Int32)), .val (.long (-2305842798760296447 : Int64)), .second, .val (.long (258685948956327488 : Int64)), .second, .val (.int ii), .unset, .unset] [(.long (2305842798760296448 : Int64)), (.long (3 : Int64)), (.ref a1)])) t → Steps p.tables e below (s₁.setTop (entryFrame m #[(.ref a1), (.int (1 : Int32))] 9)) t := fun t k => pre226 t (by rw [show ((2305842798760296449 : Int64) - (1 : Int64)) = (2305842798760296448 : Int64) from (by decide +kernel)]; exact k)
        obtain ⟨cq228, q228, q228'⟩ := f216.cell
        obtain ⟨_, _, ⟨T228, L228, k228, n228⟩, -, X228, ⟨Lc228, hQ228, l228, y228, z228⟩, st228⟩ := X225.privateBack hx (y := (⟨"com/example/libsld/libsld/PrimeField", "power", "(JJ)J"⟩ : MethodName)) hown (mvT hZ (own_i hw 33 rfl)) (mvT hZ (own_i hw 34 rfl)) (mvT hZ (own_sel (y := (⟨"com/example/libsld/libsld/PrimeField", "power", "(JJ)J"⟩ : MethodName)) (own_i hw 34 rfl) (own_i hw 35 rfl) (own_i hw 1 rfl) (by decide))) (Cond.privateMethod_at (mvP hZ (own_i hw 35 rfl) (args := #[]))) (mvT hZ (own_i hw 36 rfl)) (by decide) (backOf (W := 0) (rmPow l Z a0 hw [] a1 (3 : Int64) (((2305842798760296448 : Int64).toUInt64 >>> ((32 : Int32) &&& 0x3f).toInt64.toUInt64).toInt64) (2305842798760296449 : Int64) (-2305842798760296447 : Int64) (258685948956327488 : Int64) h213 n0 f214 f216 f220 f222 Fw213) hZ (own_i hw 36 rfl) (own_i hw 2 rfl) (by decide) (by decide)) (g := (mkF m 135 #[.val (.ref a1), .val (.int (1 : Int32)), .val (.long (-2305842798760296447 : Int64)), .second, .val (.long (258685948956327488 : Int64)), .second, .val (.int ii), .unset, .unset] [(.long (((2305842798760296448 : Int64).toUInt64 >>> ((32 : Int32) &&& 0x3f).toInt64.toUInt64).toInt64)), (.long (3 : Int64)), (.ref a1)])) rfl (by rw [hml]; rfl) (Steps.refl _) (a := a1) (by rw [e225]; exact q228) q228' (argsL := [(.long (3 : Int64)), (.long (((2305842798760296448 : Int64).toUInt64 >>> ((32 : Int32) &&& 0x3f).toInt64.toUInt64).toInt64))]) (rest := []) (lenOf pd_0 rfl) rfl (by show 2 * 0 + _ ≤ _; exact Nat.le_of_eq rfl) (hb hby d1_135) (fun _ _ => ⟨rfl, e225, (by decide : 1 + 0 ≤ _), (by decide : 33 + 0 ≤ _)⟩)
        dsimp only [Pt.U, Pt.locs, Pt.cells, Pt.slots] at X228 l228 y228 z228 st228 hQ228
        subst l228 y228 z228
        obtain ⟨x229, rfl, N228q, e228⟩ := hQ228
        have N228 := Fr.app N213 N228q
        have f230 : own_A Z h213 b103 := own_A_of f218
        have pre231 : ∀ t, Steps p.tables e below (T228.setTop (mkF m 144 #[.val (.ref a1), .val (.int (1 : Int32)), .val (.long (-2305842798760296447 : Int64)), .second, .val (.long (258685948956327488 : Int64)), .second, .val (.long x229), .second, .val (.int (32 : Int32))] [])) t → Steps p.tables e below (s₁.setTop (entryFrame m #[(.ref a1), (.int (1 : Int32))] 9)) t := fun t k => pre227 t (by
          show Steps p.tables e below (T225.setTop (mkF m 132 #[.val (.ref a1), .val (.int (1 : Int32)), .val (.long (-2305842798760296447 : Int64)), .second, .val (.long (258685948956327488 : Int64)), .second, .val (.int ii), .unset, .unset] [(.long (2305842798760296448 : Int64)), (.long (3 : Int64)), (.ref a1)])) t
          refine XS.bipush X225.here hx rfl (hb hby d1_132) ?_
          show Steps p.tables e below (T225.setTop (mkF m 134 #[.val (.ref a1), .val (.int (1 : Int32)), .val (.long (-2305842798760296447 : Int64)), .second, .val (.long (258685948956327488 : Int64)), .second, .val (.int ii), .unset, .unset] [(.int (32 : Int32)), (.long (2305842798760296448 : Int64)), (.long (3 : Int64)), (.ref a1)])) t
          refine XS.lushr X225.here hx rfl (hb hby d1_134) rfl ?_
          show Steps p.tables e below (T225.setTop (mkF m 135 #[.val (.ref a1), .val (.int (1 : Int32)), .val (.long (-2305842798760296447 : Int64)), .second, .val (.long (258685948956327488 : Int64)), .second, .val (.int ii), .unset, .unset] [(.long (((2305842798760296448 : Int64).toUInt64 >>> ((32 : Int32) &&& 0x3f).toInt64.toUInt64).toInt64)), (.long (3 : Int64)), (.ref a1)])) t
          refine st228.trans ?_
          show Steps p.tables e below (T228.setTop (mkF m 138 #[.val (.ref a1), .val (.int (1 : Int32)), .val (.long (-2305842798760296447 : Int64)), .second, .val (.long (258685948956327488 : Int64)), .second, .val (.int ii), .unset, .unset] [(.long x229)])) t
          refine XS.lstore X228.here hx rfl (hb hby d1_138) rfl (l' := #[.val (.ref a1), .val (.int (1 : Int32)), .val (.long (-2305842798760296447 : Int64)), .second, .val (.long (258685948956327488 : Int64)), .second, .val (.long x229), .second, .unset]) rfl ?_
          show Steps p.tables e below (T228.setTop (mkF m 140 #[.val (.ref a1), .val (.int (1 : Int32)), .val (.long (-2305842798760296447 : Int64)), .second, .val (.long (258685948956327488 : Int64)), .second, .val (.long x229), .second, .unset] [])) t
          refine XS.bipush X228.here hx rfl (hb hby d1_140) ?_
          show Steps p.tables e below (T228.setTop (mkF m 142 #[.val (.ref a1), .val (.int (1 : Int32)), .val (.long (-2305842798760296447 : Int64)), .second, .val (.long (258685948956327488 : Int64)), .second, .val (.long x229), .second, .unset] [(.int (32 : Int32))])) t
          refine XS.istore X228.here hx rfl (hb hby d1_142) rfl (l' := #[.val (.ref a1), .val (.int (1 : Int32)), .val (.long (-2305842798760296447 : Int64)), .second, .val (.long (258685948956327488 : Int64)), .second, .val (.long x229), .second, .val (.int (32 : Int32))]) rfl ?_
          exact k)
        have hl232 : ∀ (nn : Nat) (T232 : State) (L232 : List Loc) (h232 : Heap) (rv : Int64) (kk : Int32), Stand p l e ({ frames := 5, cells := 1, slots := 33, locals := 105 } : Room) s m #[(.ref a1), (.int (1 : Int32))] below meth c T232 L232 1 33 → T232.heap = h232 → Fr n0 L232 → (n0 ≤ h232.size) → (Keep h0 h232 [a1]) → (Exa Z h232 a1 "com/example/libsld/libsld/PrimeField") → (Fld Z h232 a1 "com/example/libsld/libsld/PrimeField" "p" "J" (.long (2305842798760296449 : Int64))) → (Fld Z h232 a1 "com/example/libsld/libsld/PrimeField" "inverse" "J" (.long (-2305842798760296447 : Int64))) → (Fld Z h232 a1 "com/example/libsld/libsld/PrimeField" "montgomerySquare" "J" (.long (258685948956327488 : Int64))) → (Fld Z h232 a1 "com/example/libsld/libsld/PrimeField" "rootsOfOrder" "[J" (.ref b103)) → (own_A Z h232 b103) → (kk < (33 : Int32)) → (kk.toInt + 1).toNat < nn → (∀ t, Steps p.tables e below (T232.setTop (mkF m 144 #[.val (.ref a1), .val (.int (1 : Int32)), .val (.long (-2305842798760296447 : Int64)), .second, .val (.long (258685948956327488 : Int64)), .second, .val (.long rv), .second, .val (.int kk)] [])) t → Steps p.tables e below (s₁.setTop (entryFrame m #[(.ref a1), (.int (1 : Int32))] 9)) t) → ∃ s₂ o, Steps p.tables e below (s₁.setTop (entryFrame m #[(.ref a1), (.int (1 : Int32))] 9)) s₂ ∧ s₂.status = .running ∧ Ended s₂ below o ∧ ∃ v L, o = .returned v ∧ QI1 Z a1 wP kP wN kN h0 n0 v s₂.heap L ∧ FrameEnd s o s₂ L ({ frames := 5, cells := 1, slots := 33, locals := 105 } : Room).cells ({ frames := 5, cells := 1, slots := 33, locals := 105 } : Room).slots := by
          intro nn
          induction nn with
          | zero => intro T232 L232 h232 rv kk X232 e232 N232 f233 f234 f235 f236 f237 f238 f239 f240 hk33 hm232 pre232; exact absurd hm232 (Nat.not_lt_zero _)
          | succ nn ih232 =>
            intro T232 L232 h232 rv kk X232 e232 N232 f233 f234 f235 f236 f237 f238 f239 f240 hk33 hm232 pre232
            have pre242 : ∀ t, Steps p.tables e below (T232.setTop (mkF m 146 #[.val (.ref a1), .val (.int (1 : Int32)), .val (.long (-2305842798760296447 : Int64)), .second, .val (.long (258685948956327488 : Int64)), .second, .val (.long rv), .second, .val (.int kk)] [(.int kk)])) t → Steps p.tables e below (s₁.setTop (entryFrame m #[(.ref a1), (.int (1 : Int32))] 9)) t := fun t k => pre232 t (by
              show Steps p.tables e below (T232.setTop (mkF m 144 #[.val (.ref a1), .val (.int (1 : Int32)), .val (.long (-2305842798760296447 : Int64)), .second, .val (.long (258685948956327488 : Int64)), .second, .val (.long rv), .second, .val (.int kk)] [])) t
              refine XS.iload X232.here hx rfl (hb hby d1_144) rfl ?_
              exact k)
            by_cases hc241 : kk < (0 : Int32)
            · have pre243 : ∀ t, Steps p.tables e below (T232.setTop (mkF m 174 #[.val (.ref a1), .val (.int (1 : Int32)), .val (.long (-2305842798760296447 : Int64)), .second, .val (.long (258685948956327488 : Int64)), .second, .val (.long rv), .second, .val (.int kk)] [])) t → Steps p.tables e below (s₁.setTop (entryFrame m #[(.ref a1), (.int (1 : Int32))] 9)) t := fun t k => pre242 t (by
                show Steps p.tables e below (T232.setTop (mkF m 146 #[.val (.ref a1), .val (.int (1 : Int32)), .val (.long (-2305842798760296447 : Int64)), .second, .val (.long (258685948956327488 : Int64)), .second, .val (.long rv), .second, .val (.int kk)] [(.int kk)])) t
                refine XS.ifYes X232.here hx rfl (pc0 := 146) (pc' := 174) rfl (hb hby d1_146) rfl ((if0 _ _).trans (tlt hc241).1) (by decide) (by decide) ?_
                exact k)
              obtain ⟨fs, hr, hrun, hended, hW, hsame⟩ := X232.leave (v := none) (fun _ => rfl)
              refine ⟨_, _, pre243 _ ?_, hrun, hended, _, _, rfl, ?_, ⟨_, rfl⟩, hW, hsame.mono (by decide) (by decide)⟩
              · exact X232.returnOut hx Bd.returns (hb hby d1_174) hr
              · show QI1 Z a1 wP kP wN kN h0 n0 _ T232.heap _
                rw [e232]
                exact ⟨rfl, N232, f234, f235, f236, f237, f238⟩
            · obtain ⟨T244, X244, e244, st244⟩ := getF X232 hx hZ hown (host := "") (Or.inl (own_i hw 10 rfl)) Via.refl e232 f239 (g := (mkF m 150 #[.val (.ref a1), .val (.int (1 : Int32)), .val (.long (-2305842798760296447 : Int64)), .second, .val (.long (258685948956327488 : Int64)), .second, .val (.long rv), .second, .val (.int kk)] [(.ref a1)])) rfl rfl (hb hby d1_150)
              obtain ⟨cl245, Ar245, Sz245⟩ := (id f240)
              obtain ⟨T245, h245, X245, e245, W245, st245⟩ := stJ X244 hx hZ e244 Ar245 (j := kk) (own_inb Sz245 hc241 hk33) (g := (mkF m 157 #[.val (.ref a1), .val (.int (1 : Int32)), .val (.long (-2305842798760296447 : Int64)), .second, .val (.long (258685948956327488 : Int64)), .second, .val (.long rv), .second, .val (.int kk)] [(.long rv), (.int kk), (.ref b103)])) rfl rfl (hb hby d1_157)
              have N245 := Fr.snoc X245 N232 ga105
              have A245 : own_A Z h245 b103 := own_A.wr f240 W245
              have f246 := Nat.le_trans f233 (Keep.of_wr W245).1
              have f247 := f234.wr W245 (Or.inr sz106)
              have f248 := f235.wr W245
              have f249 := f236.other W245 (Or.inl ne104)
              have f250 := f237.other W245 (Or.inl ne104)
              have f251 := f238.other W245 (Or.inl ne104)
              have f252 := f239.other W245 (Or.inl ne104)
              obtain ⟨cq253, kq253, q253a, q253b, q253c⟩ := isOf hZ e245 f248
              obtain ⟨_, _, ⟨T253, L253, k253, n253⟩, -, X253, ⟨Lc253, hQ253, l253, y253, z253⟩, st253⟩ := X245.virtualBack hx (y := (⟨"com/example/libsld/libsld/PrimeField", "multiply", "(JJ)J"⟩ : MethodName)) (z := (⟨"com/example/libsld/libsld/PrimeField", "multiply", "(JJ)J"⟩ : MethodName)) hown (mvT hZ (own_i hw 37 rfl)) (mvT hZ (own_i hw 38 rfl)) (notFace_of_selects (args := #[]) (mvT hZ (own_i hw 40 rfl))) (mvT hZ (own_i hw 40 rfl)) (mvT hZ (own_i hw 39 rfl)) (by decide) (backOf (W := 0) (rmMul l Z a0 hw [] a1 rv rv (2305842798760296449 : Int64) (-2305842798760296447 : Int64) (258685948956327488 : Int64) h245 n0 f246 f248 f249 f250 f251) hZ (own_i hw 41 rfl) (own_i hw 2 rfl) (by decide) (by decide)) q253a q253c (g := (mkF m 163 #[.val (.ref a1), .val (.int (1 : Int32)), .val (.long (-2305842798760296447 : Int64)), .second, .val (.long (258685948956327488 : Int64)), .second, .val (.long rv), .second, .val (.int kk)] [(.long rv), (.long rv), (.ref a1)])) rfl (by rw [hml]; rfl) (Steps.refl _) (argsL := [(.long rv), (.long rv)]) (rest := []) (lenOf pd_0 rfl) rfl (by show 2 * 0 + _ ≤ _; exact Nat.le_of_eq rfl) (hb hby d1_163) (fun _ _ => ⟨rfl, e245, (by decide : 1 + 0 ≤ _), (by decide : 33 + 0 ≤ _)⟩)
              dsimp only [Pt.U, Pt.locs, Pt.cells, Pt.slots] at X253 l253 y253 z253 st253 hQ253
              subst l253 y253 z253
              obtain ⟨rfl, N253q, e253⟩ := hQ253
              have N253 := Fr.app N245 N253q
              have pre254 : ∀ t, Steps p.tables e below (T253.setTop (mkF m 144 #[.val (.ref a1), .val (.int (1 : Int32)), .val (.long (-2305842798760296447 : Int64)), .second, .val (.long (258685948956327488 : Int64)), .second, .val (.long (own_mul rv rv (2305842798760296449 : Int64) (-2305842798760296447 : Int64) (258685948956327488 : Int64))), .second, .val (.int (kk + (-1 : Int32)))] [])) t → Steps p.tables e below (s₁.setTop (entryFrame m #[(.ref a1), (.int (1 : Int32))] 9)) t := fun t k => pre242 t (by
                show Steps p.tables e below (T232.setTop (mkF m 146 #[.val (.ref a1), .val (.int (1 : Int32)), .val (.long (-2305842798760296447 : Int64)), .second, .val (.long (258685948956327488 : Int64)), .second, .val (.long rv), .second, .val (.int kk)] [(.int kk)])) t
                refine XS.ifNo X232.here hx rfl (hb hby d1_146) rfl ((if0 _ _).trans (flt hc241).1) ?_
                show Steps p.tables e below (T232.setTop (mkF m 149 #[.val (.ref a1), .val (.int (1 : Int32)), .val (.long (-2305842798760296447 : Int64)), .second, .val (.long (258685948956327488 : Int64)), .second, .val (.long rv), .second, .val (.int kk)] [])) t
                refine XS.aloadN X232.here hx rfl (hb hby d1_149) rfl rfl ?_
                show Steps p.tables e below (T232.setTop (mkF m 150 #[.val (.ref a1), .val (.int (1 : Int32)), .val (.long (-2305842798760296447 : Int64)), .second, .val (.long (258685948956327488 : Int64)), .second, .val (.long rv), .second, .val (.int kk)] [(.ref a1)])) t
                refine st244 _ ?_
                show Steps p.tables e below (T244.setTop (mkF m 153 #[.val (.ref a1), .val (.int (1 : Int32)), .val (.long (-2305842798760296447 : Int64)), .second, .val (.long (258685948956327488 : Int64)), .second, .val (.long rv), .second, .val (.int kk)] [(.ref b103)])) t
                refine XS.iload X244.here hx rfl (hb hby d1_153) rfl ?_
                show Steps p.tables e below (T244.setTop (mkF m 155 #[.val (.ref a1), .val (.int (1 : Int32)), .val (.long (-2305842798760296447 : Int64)), .second, .val (.long (258685948956327488 : Int64)), .second, .val (.long rv), .second, .val (.int kk)] [(.int kk), (.ref b103)])) t
                refine XS.lload X244.here hx rfl (hb hby d1_155) rfl ?_
                show Steps p.tables e below (T244.setTop (mkF m 157 #[.val (.ref a1), .val (.int (1 : Int32)), .val (.long (-2305842798760296447 : Int64)), .second, .val (.long (258685948956327488 : Int64)), .second, .val (.long rv), .second, .val (.int kk)] [(.long rv), (.int kk), (.ref b103)])) t
                refine st245 _ ?_
                show Steps p.tables e below (T245.setTop (mkF m 158 #[.val (.ref a1), .val (.int (1 : Int32)), .val (.long (-2305842798760296447 : Int64)), .second, .val (.long (258685948956327488 : Int64)), .second, .val (.long rv), .second, .val (.int kk)] [])) t
                refine XS.aloadN X245.here hx rfl (hb hby d1_158) rfl rfl ?_
                show Steps p.tables e below (T245.setTop (mkF m 159 #[.val (.ref a1), .val (.int (1 : Int32)), .val (.long (-2305842798760296447 : Int64)), .second, .val (.long (258685948956327488 : Int64)), .second, .val (.long rv), .second, .val (.int kk)] [(.ref a1)])) t
                refine XS.lload X245.here hx rfl (hb hby d1_159) rfl ?_
                show Steps p.tables e below (T245.setTop (mkF m 161 #[.val (.ref a1), .val (.int (1 : Int32)), .val (.long (-2305842798760296447 : Int64)), .second, .val (.long (258685948956327488 : Int64)), .second, .val (.long rv), .second, .val (.int kk)] [(.long rv), (.ref a1)])) t
                refine XS.lload X245.here hx rfl (hb hby d1_161) rfl ?_
                show Steps p.tables e below (T245.setTop (mkF m 163 #[.val (.ref a1), .val (.int (1 : Int32)), .val (.long (-2305842798760296447 : Int64)), .second, .val (.long (258685948956327488 : Int64)), .second, .val (.long rv), .second, .val (.int kk)] [(.long rv), (.long rv), (.ref a1)])) t
                refine st253.trans ?_
                show Steps p.tables e below (T253.setTop (mkF m 166 #[.val (.ref a1), .val (.int (1 : Int32)), .val (.long (-2305842798760296447 : Int64)), .second, .val (.long (258685948956327488 : Int64)), .second, .val (.long rv), .second, .val (.int kk)] [(.long (own_mul rv rv (2305842798760296449 : Int64) (-2305842798760296447 : Int64) (258685948956327488 : Int64)))])) t
                refine XS.lstore X253.here hx rfl (hb hby d1_166) rfl (l' := #[.val (.ref a1), .val (.int (1 : Int32)), .val (.long (-2305842798760296447 : Int64)), .second, .val (.long (258685948956327488 : Int64)), .second, .val (.long (own_mul rv rv (2305842798760296449 : Int64) (-2305842798760296447 : Int64) (258685948956327488 : Int64))), .second, .val (.int kk)]) rfl ?_
                show Steps p.tables e below (T253.setTop (mkF m 168 #[.val (.ref a1), .val (.int (1 : Int32)), .val (.long (-2305842798760296447 : Int64)), .second, .val (.long (258685948956327488 : Int64)), .second, .val (.long (own_mul rv rv (2305842798760296449 : Int64) (-2305842798760296447 : Int64) (258685948956327488 : Int64))), .second, .val (.int kk)] [])) t
                refine XS.iinc X253.here hx rfl (hb hby d1_168) rfl (l' := #[.val (.ref a1), .val (.int (1 : Int32)), .val (.long (-2305842798760296447 : Int64)), .second, .val (.long (258685948956327488 : Int64)), .second, .val (.long (own_mul rv rv (2305842798760296449 : Int64) (-2305842798760296447 : Int64) (258685948956327488 : Int64))), .second, .val (.int (kk + (-1 : Int32)))]) rfl ?_
                show Steps p.tables e below (T253.setTop (mkF m 171 #[.val (.ref a1), .val (.int (1 : Int32)), .val (.long (-2305842798760296447 : Int64)), .second, .val (.long (258685948956327488 : Int64)), .second, .val (.long (own_mul rv rv (2305842798760296449 : Int64) (-2305842798760296447 : Int64) (258685948956327488 : Int64))), .second, .val (.int (kk + (-1 : Int32)))] [])) t
                refine XS.goto X253.here hx rfl (pc0 := 171) (pc' := 144) rfl (hb hby d1_171) (by decide) (by decide) ?_
                exact k)
              exact ih232 _ _ _ _ _ X253 e253 N253 f246 f247 f248 f249 f250 f251 f252 A245 (own_dec33 hk33 hc241) (Nat.lt_of_lt_of_le (own_decm hk33 hc241) (Nat.lt_succ_iff.mp hm232)) pre254
        exact hl232 _ _ _ _ _ _ X228 e228 N228 f214 f217 f216 f220 f222 Fw213 f219 f230 (by decide) (Nat.lt_succ_self _) pre231
  exact hl205 _ _ _ _ _ (0) X201 e201 N201 (rfl) (by decide) (by decide) (Nat.lt_succ_self _) pre204
theorem ef_rmI2 (m : MethodId) (x0 : Addr) : entryFrame m #[(.ref x0), (.int (2 : Int32))] 9 = mkF m 0 #[.val (.ref x0), .val (.int (2 : Int32)), .unset, .unset, .unset, .unset, .unset, .unset, .unset] [] := by first | (simp [entryFrame, mkF, argsToLocals, Value.category]; done) | rfl
def QI2 (Z : State) (a1 : Addr) (wP : Addr) (kP : ClassId) (wN : Addr) (kN : ClassId) (h0 : Heap) (n0 : Nat) (v : Option Value) (h : Heap) (L : List Loc) : Prop := v = none ∧ Fr n0 L ∧ Keep h0 h [a1] ∧ (Exa Z h a1 "com/example/libsld/libsld/PrimeField") ∧ (Fld Z h a1 "com/example/libsld/libsld/PrimeField" "p" "J" (.long (2305842644141473793 : Int64))) ∧ (Fld Z h a1 "com/example/libsld/libsld/PrimeField" "inverse" "J" (.long (-2305842644141473791 : Int64))) ∧ (Fld Z h a1 "com/example/libsld/libsld/PrimeField" "montgomerySquare" "J" (.long (1350428427567992384 : Int64)))
set_option maxRecDepth 65536 in
set_option maxHeartbeats 40000000 in
theorem rmI2 (l : Launch) (Z : State) (a0 : Array Value) (hw : ∀ d ∈ tables_1, d.before a0 Z = true) (ws : List Jvm.Cond) (a1 : Addr) (wP : Addr) (kP : ClassId) (wN : Addr) (kN : ClassId) (h0 : Heap) (n0 : Nat) (Z0 : n0 ≤ h0.size) (SP : Sta Z Z.heap "com/example/libsld/libsld/PrimeField" "PRIMES" "[J" (.ref wP)) (AP : Arv Z Z.heap wP kP .long (4 : Int32) [(.long (2305842979148922881 : Int64)), (.long (2305842798760296449 : Int64)), (.long (2305842644141473793 : Int64)), (.long (2305842343493763073 : Int64))] (.long (0 : Int64))) (SN : Sta Z Z.heap "com/example/libsld/libsld/PrimeField" "NON_RESIDUES" "[J" (.ref wN)) (AN : Arv Z Z.heap wN kN .long (4 : Int32) [(.long (3 : Int64)), (.long (3 : Int64)), (.long (3 : Int64)), (.long (5 : Int64))] (.long (0 : Int64))) (O0 : Old Z n0 h0) (Z1 : Fld Z h0 a1 "com/example/libsld/libsld/PrimeField" "rootsOfOrder" "[J" .null) (Z2 : Fld Z h0 a1 "com/example/libsld/libsld/PrimeField" "p" "J" (.long (0 : Int64))) (Z3 : Fld Z h0 a1 "com/example/libsld/libsld/PrimeField" "twoP" "J" (.long (0 : Int64))) (Z4 : Fld Z h0 a1 "com/example/libsld/libsld/PrimeField" "inverse" "J" (.long (0 : Int64))) (Z5 : Fld Z h0 a1 "com/example/libsld/libsld/PrimeField" "montgomerySquare" "J" (.long (0 : Int64))) (E1 : Exa Z h0 a1 "com/example/libsld/libsld/PrimeField") (g1 : n0 ≤ a1) :
    MetFree l (⟨"com/example/libsld/libsld/PrimeField", "<init>", "(I)V"⟩ : MethodName) (head1 (Jvm.Cond.code (⟨"com/example/libsld/libsld/PrimeField", "<init>", "(I)V"⟩ : MethodName) prog_87_method_1_code 9 none :: ws) ({ frames := 5, cells := 1, slots := 33, locals := 105 } : Room)) (fun a U => a = #[(.ref a1), (.int (2 : Int32))] ∧ Z.Warmed39 U.vm ∧ U.heap = h0) (fun _ _ _ _ _ => True) (fun _ U o U' => ∃ v L, o = .returned v ∧ QI2 Z a1 wP kP wN kN h0 n0 v U'.heap L ∧ FrameEnd U o U' L ({ frames := 5, cells := 1, slots := 33, locals := 105 } : Room).cells ({ frames := 5, cells := 1, slots := 33, locals := 105 } : Room).slots) := by
  refine MetFree.of_bodySF (plainFor_of_name pn_com_example_libsld_libsld_PrimeField) hisR ?_
  intro p e s m args below meth c s₁ Bd hml0 hP hK
  obtain ⟨rfl, hZ, hh⟩ := hP
  have hx := Bd.exec
  have hby := Bd.bytes
  have hml : c.maxLocals = 9 := hml0
  have hown : s.vm.findClass "com/example/libsld/libsld/PrimeField" = some m.cls := findClass_of_methodNamed Bd.named
  have hnm := (name_of_methodNamed Bd.named Bd.method).1
  have X0 : Stand p l e ({ frames := 5, cells := 1, slots := 33, locals := 105 } : Room) s m #[(.ref a1), (.int (2 : Int32))] below meth c s₁ [] 0 0 := Stand.of_body Bd
  have e0 : s₁.heap = h0 := by rw [← hh, Bd.state]; rfl
  have N0 := Fr.nil n0
  have pre0 : ∀ t, Steps p.tables e below (s₁.setTop (mkF m 0 #[.val (.ref a1), .val (.int (2 : Int32)), .unset, .unset, .unset, .unset, .unset, .unset, .unset] [])) t → Steps p.tables e below (s₁.setTop (entryFrame m #[(.ref a1), (.int (2 : Int32))] 9)) t := fun t k => castTop (ef_rmI2 m a1) k
  have f101 := Keep.refl h0 [a1]
  obtain ⟨T102, X102, e102, st102⟩ := initO X0 hx hZ hown (own_i hw 6 rfl) (own_i hw 7 rfl) (own_i hw 8 rfl) e0 (g := (mkF m 1 #[.val (.ref a1), .val (.int (2 : Int32)), .unset, .unset, .unset, .unset, .unset, .unset, .unset] [(.ref a1)])) rfl (by rw [hml]; rfl) rfl (hb hby d1_1) (by decide) (W := 0) (by show 2 * 0 + _ ≤ _; exact Nat.le_of_eq rfl) (by decide)
  obtain ⟨T103, h103, k103, X103, e103, E103, A103, st103⟩ := newP X102 hx hZ (own_i hw 9 rfl) e102 (g := (mkF m 7 #[.val (.ref a1), .val (.int (2 : Int32)), .unset, .unset, .unset, .unset, .unset, .unset, .unset] [(.int (33 : Int32)), (.ref a1)])) rfl (hb hby d1_7) rfl (by decide) (cap := 33) (by decide) (by decide) (by decide) (by decide)
  obtain ⟨b103, g103⟩ : ∃ z, z = h0.size := ⟨_, rfl⟩
  rw [← g103] at A103 st103
  have ne104 : a1 ≠ b103 := Nat.ne_of_lt (Nat.lt_of_lt_of_le Z1.lt (Nat.le_of_eq g103.symm))
  have ga105 : n0 ≤ b103 := Nat.le_trans Z0 (Nat.le_of_eq g103.symm)
  have sz106 : h0.size ≤ b103 := Nat.le_trans f101.1 (Nat.le_of_eq g103.symm)
  have V103 : Arv Z h103 b103 k103 .long (33 : Int32) [(.long (0 : Int64)), (.long (0 : Int64)), (.long (0 : Int64)), (.long (0 : Int64)), (.long (0 : Int64)), (.long (0 : Int64)), (.long (0 : Int64)), (.long (0 : Int64)), (.long (0 : Int64)), (.long (0 : Int64)), (.long (0 : Int64)), (.long (0 : Int64)), (.long (0 : Int64)), (.long (0 : Int64)), (.long (0 : Int64)), (.long (0 : Int64)), (.long (0 : Int64)), (.long (0 : Int64)), (.long (0 : Int64)), (.long (0 : Int64)), (.long (0 : Int64)), (.long (0 : Int64)), (.long (0 : Int64)), (.long (0 : Int64)), (.long (0 : Int64)), (.long (0 : Int64)), (.long (0 : Int64)), (.long (0 : Int64)), (.long (0 : Int64)), (.long (0 : Int64)), (.long (0 : Int64)), (.long (0 : Int64)), (.long (0 : Int64))] (.long (0 : Int64)) := (Arv.new A103 (by decide)).pad (pad_rep [] (.long (0 : Int64)) 33)
  have f107 := Nat.le_trans Z0 E103.1
  have f108 := O0.ext E103
  have f109 := Z1.ext E103
  have f110 := Z2.ext E103
  have f111 := Z3.ext E103
  have f112 := Z4.ext E103
  have f113 := Z5.ext E103
  have f114 := E1.ext E103
  have f115 := f101.ext E103
  obtain ⟨T116, h116, X116, e116, W116, st116⟩ := putF X103 hx hZ hown (host := "") (Or.inl (own_i hw 10 rfl)) Via.refl e103 f109 f114 (Or.inr ⟨(own_i hw 11 rfl), rfl, hnm⟩) (own_i hw 1 rfl) (ty := (.array .long)) (by decide) rfl rfl (g := (mkF m 9 #[.val (.ref a1), .val (.int (2 : Int32)), .unset, .unset, .unset, .unset, .unset, .unset, .unset] [(.ref b103), (.ref a1)])) rfl rfl (hb hby d1_9)
  have Fw116 := f109.same W116
  have N116 := Fr.snoc X116 N0 g1
  have f117 := Nat.le_trans f107 (Keep.of_wr W116).1
  have f118 := f108.wr W116 g1
  have f119 := f110.other W116 (Or.inr (slot_ne (Or.inr (own_i hw 15 rfl)) (Or.inr (own_i hw 11 rfl)) (by decide) (t := .long) (t' := (.array .long)) (by decide) (by decide)))
  have f120 := f111.other W116 (Or.inr (slot_ne (Or.inr (own_i hw 18 rfl)) (Or.inr (own_i hw 11 rfl)) (by decide) (t := .long) (t' := (.array .long)) (by decide) (by decide)))
  have f121 := f112.other W116 (Or.inr (slot_ne (Or.inr (own_i hw 20 rfl)) (Or.inr (own_i hw 11 rfl)) (by decide) (t := .long) (t' := (.array .long)) (by decide) (by decide)))
  have f122 := f113.other W116 (Or.inr (slot_ne (Or.inr (own_i hw 30 rfl)) (Or.inr (own_i hw 11 rfl)) (by decide) (t := .long) (t' := (.array .long)) (by decide) (by decide)))
  have f123 := f114.wr W116
  have f124 := f115.wr W116 (Or.inl (List.mem_of_getElem? (i := 0) rfl))
  have f125 := V103.other W116 (Ne.symm ne104)
  obtain ⟨T126, X126, e126, st126⟩ := getS2 X116 hx hZ hown (host := "") (Or.inl (own_i hw 12 rfl)) Via.refl e116 (SP.ext f118.2) (g := (mkF m 13 #[.val (.ref a1), .val (.int (2 : Int32)), .unset, .unset, .unset, .unset, .unset, .unset, .unset] [(.ref a1)])) rfl (hb hby d1_13)
  obtain ⟨cl127, Ar127, q127, S127, N127z, H127, G127⟩ := (id (AP.ext f118.2))
  have hin127 : ¬ ((2 : Int32) < 0 ∨ cl127.slots.size ≤ ((2 : Int32)).toNatClampNeg) := inb_of S127 ⟨by decide, by decide⟩
  have hat127 : cl127.slots[((2 : Int32)).toNatClampNeg]? = some (.long (2305842644141473793 : Int64)) := Has.at H127 hin127 rfl
  obtain ⟨T128, h128, X128, e128, W128, st128⟩ := putF X126 hx hZ hown (host := "") (Or.inl (own_i hw 14 rfl)) Via.refl e126 f119 f123 (Or.inr ⟨(own_i hw 15 rfl), rfl, hnm⟩) (own_i hw 1 rfl) (ty := .long) (by decide) rfl rfl (g := (mkF m 18 #[.val (.ref a1), .val (.int (2 : Int32)), .unset, .unset, .unset, .unset, .unset, .unset, .unset] [(.long (2305842644141473793 : Int64)), (.ref a1)])) rfl rfl (hb hby d1_18)
  have Fw128 := f119.same W128
  have N128 := Fr.snoc X128 N116 g1
  have f129 := Nat.le_trans f117 (Keep.of_wr W128).1
  have f130 := f118.wr W128 g1
  have f131 := f120.other W128 (Or.inr (slot_ne (Or.inr (own_i hw 18 rfl)) (Or.inr (own_i hw 15 rfl)) (by decide) (t := .long) (t' := .long) (by decide) (by decide)))
  have f132 := f121.other W128 (Or.inr (slot_ne (Or.inr (own_i hw 20 rfl)) (Or.inr (own_i hw 15 rfl)) (by decide) (t := .long) (t' := .long) (by decide) (by decide)))
  have f133 := f122.other W128 (Or.inr (slot_ne (Or.inr (own_i hw 30 rfl)) (Or.inr (own_i hw 15 rfl)) (by decide) (t := .long) (t' := .long) (by decide) (by decide)))
  have f134 := f123.wr W128
  have f135 := f124.wr W128 (Or.inl (List.mem_of_getElem? (i := 0) rfl))
  have f136 := f125.other W128 (Ne.symm ne104)
  have f137 := Fw116.other W128 (Or.inr (slot_ne (Or.inr (own_i hw 11 rfl)) (Or.inr (own_i hw 15 rfl)) (by decide) (t := (.array .long)) (t' := .long) (by decide) (by decide)))
  obtain ⟨T138, X138, e138, st138⟩ := getF X128 hx hZ hown (host := "") (Or.inl (own_i hw 14 rfl)) Via.refl e128 Fw128 (g := (mkF m 26 #[.val (.ref a1), .val (.int (2 : Int32)), .unset, .unset, .unset, .unset, .unset, .unset, .unset] [(.ref a1), (.long (2 : Int64)), (.ref a1)])) rfl rfl (hb hby d1_26)
  have pre139 : ∀ t, Steps p.tables e below (T138.setTop (mkF m 30 #[.val (.ref a1), .val (.int (2 : Int32)), .unset, .unset, .unset, .unset, .unset, .unset, .unset] [(.long ((2 : Int64) * (2305842644141473793 : Int64))), (.ref a1)])) t → Steps p.tables e below (s₁.setTop (entryFrame m #[(.ref a1), (.int (2 : Int32))] 9)) t := fun t k => pre0 t (by
    show Steps p.tables e below (s₁.setTop (mkF m 0 #[.val (.ref a1), .val (.int (2 : Int32)), .unset, .unset, .unset, .unset, .unset, .unset, .unset] [])) t
    refine XS.aloadN X0.here hx rfl (hb hby d1_0) rfl rfl ?_
    show Steps p.tables e below (s₁.setTop (mkF m 1 #[.val (.ref a1), .val (.int (2 : Int32)), .unset, .unset, .unset, .unset, .unset, .unset, .unset] [(.ref a1)])) t
    refine st102 _ ?_
    show Steps p.tables e below (T102.setTop (mkF m 4 #[.val (.ref a1), .val (.int (2 : Int32)), .unset, .unset, .unset, .unset, .unset, .unset, .unset] [])) t
    refine XS.aloadN X102.here hx rfl (hb hby d1_4) rfl rfl ?_
    show Steps p.tables e below (T102.setTop (mkF m 5 #[.val (.ref a1), .val (.int (2 : Int32)), .unset, .unset, .unset, .unset, .unset, .unset, .unset] [(.ref a1)])) t
    refine XS.bipush X102.here hx rfl (hb hby d1_5) ?_
    show Steps p.tables e below (T102.setTop (mkF m 7 #[.val (.ref a1), .val (.int (2 : Int32)), .unset, .unset, .unset, .unset, .unset, .unset, .unset] [(.int (33 : Int32)), (.ref a1)])) t
    refine st103 _ ?_
    show Steps p.tables e below (T103.setTop (mkF m 9 #[.val (.ref a1), .val (.int (2 : Int32)), .unset, .unset, .unset, .unset, .unset, .unset, .unset] [(.ref b103), (.ref a1)])) t
    refine st116 _ ?_
    show Steps p.tables e below (T116.setTop (mkF m 12 #[.val (.ref a1), .val (.int (2 : Int32)), .unset, .unset, .unset, .unset, .unset, .unset, .unset] [])) t
    refine XS.aloadN X116.here hx rfl (hb hby d1_12) rfl rfl ?_
    show Steps p.tables e below (T116.setTop (mkF m 13 #[.val (.ref a1), .val (.int (2 : Int32)), .unset, .unset, .unset, .unset, .unset, .unset, .unset] [(.ref a1)])) t
    refine st126 _ ?_
    show Steps p.tables e below (T126.setTop (mkF m 16 #[.val (.ref a1), .val (.int (2 : Int32)), .unset, .unset, .unset, .unset, .unset, .unset, .unset] [(.ref wP), (.ref a1)])) t
    refine XS.iloadN X126.here hx rfl (hb hby d1_16) rfl ?_
    show Steps p.tables e below (T126.setTop (mkF m 17 #[.val (.ref a1), .val (.int (2 : Int32)), .unset, .unset, .unset, .unset, .unset, .unset, .unset] [(.int (2 : Int32)), (.ref wP), (.ref a1)])) t
    refine X126.laload hx (j := (2 : Int32)) (v := (.long (2305842644141473793 : Int64))) (by rw [e126]; exact Ar127.1) (State.isArrayOf_alike hZ.alike Ar127.2.1) Ar127.2.2 hin127 hat127 (g := (mkF m 17 #[.val (.ref a1), .val (.int (2 : Int32)), .unset, .unset, .unset, .unset, .unset, .unset, .unset] [(.int (2 : Int32)), (.ref wP), (.ref a1)])) rfl rfl (hb hby d1_17) _ ?_
    show Steps p.tables e below (T126.setTop (mkF m 18 #[.val (.ref a1), .val (.int (2 : Int32)), .unset, .unset, .unset, .unset, .unset, .unset, .unset] [(.long (2305842644141473793 : Int64)), (.ref a1)])) t
    refine st128 _ ?_
    show Steps p.tables e below (T128.setTop (mkF m 21 #[.val (.ref a1), .val (.int (2 : Int32)), .unset, .unset, .unset, .unset, .unset, .unset, .unset] [])) t
    refine XS.aloadN X128.here hx rfl (hb hby d1_21) rfl rfl ?_
    show Steps p.tables e below (T128.setTop (mkF m 22 #[.val (.ref a1), .val (.int (2 : Int32)), .unset, .unset, .unset, .unset, .unset, .unset, .unset] [(.ref a1)])) t
    refine X128.ldc2Long hx hown (mvT hZ (own_i hw 16 rfl)) (g := (mkF m 22 #[.val (.ref a1), .val (.int (2 : Int32)), .unset, .unset, .unset, .unset, .unset, .unset, .unset] [(.ref a1)])) rfl (hb hby d1_22) _ ?_
    show Steps p.tables e below (T128.setTop (mkF m 25 #[.val (.ref a1), .val (.int (2 : Int32)), .unset, .unset, .unset, .unset, .unset, .unset, .unset] [(.long (2 : Int64)), (.ref a1)])) t
    refine XS.aloadN X128.here hx rfl (hb hby d1_25) rfl rfl ?_
    show Steps p.tables e below (T128.setTop (mkF m 26 #[.val (.ref a1), .val (.int (2 : Int32)), .unset, .unset, .unset, .unset, .unset, .unset, .unset] [(.ref a1), (.long (2 : Int64)), (.ref a1)])) t
    refine st138 _ ?_
    show Steps p.tables e below (T138.setTop (mkF m 29 #[.val (.ref a1), .val (.int (2 : Int32)), .unset, .unset, .unset, .unset, .unset, .unset, .unset] [(.long (2305842644141473793 : Int64)), (.long (2 : Int64)), (.ref a1)])) t
    refine XS.lmul X138.here hx rfl (hb hby d1_29) rfl ?_
    exact k)
  have pre140 : ∀ t, Steps p.tables e below (T138.setTop (mkF m 30 #[.val (.ref a1), .val (.int (2 : Int32)), .unset, .unset, .unset, .unset, .unset, .unset, .unset] [(.long (4611685288282947586 : Int64)), (.ref a1)])) t → Steps p.tables e below (s₁.setTop (entryFrame m #[(.ref a1), (.int (2 : Int32))] 9)) t := fun t k => pre139 t (by rw [show ((2 : Int64) * (2305842644141473793 : Int64)) = (4611685288282947586 : Int64) from (by decide +kernel)]; exact k)
  obtain ⟨T141, h141, X141, e141, W141, st141⟩ := putF X138 hx hZ hown (host := "") (Or.inl (own_i hw 17 rfl)) Via.refl e138 f131 f134 (Or.inr ⟨(own_i hw 18 rfl), rfl, hnm⟩) (own_i hw 1 rfl) (ty := .long) (by decide) rfl rfl (g := (mkF m 30 #[.val (.ref a1), .val (.int (2 : Int32)), .unset, .unset, .unset, .unset, .unset, .unset, .unset] [(.long (4611685288282947586 : Int64)), (.ref a1)])) rfl rfl (hb hby d1_30)
  have Fw141 := f131.same W141
  have N141 := Fr.snoc X141 N128 g1
  have f142 := Nat.le_trans f129 (Keep.of_wr W141).1
  have f143 := f130.wr W141 g1
  have f144 := f132.other W141 (Or.inr (slot_ne (Or.inr (own_i hw 20 rfl)) (Or.inr (own_i hw 18 rfl)) (by decide) (t := .long) (t' := .long) (by decide) (by decide)))
  have f145 := f133.other W141 (Or.inr (slot_ne (Or.inr (own_i hw 30 rfl)) (Or.inr (own_i hw 18 rfl)) (by decide) (t := .long) (t' := .long) (by decide) (by decide)))
  have f146 := f134.wr W141
  have f147 := f135.wr W141 (Or.inl (List.mem_of_getElem? (i := 0) rfl))
  have f148 := f136.other W141 (Ne.symm ne104)
  have f149 := f137.other W141 (Or.inr (slot_ne (Or.inr (own_i hw 11 rfl)) (Or.inr (own_i hw 18 rfl)) (by decide) (t := (.array .long)) (t' := .long) (by decide) (by decide)))
  have f150 := Fw128.other W141 (Or.inr (slot_ne (Or.inr (own_i hw 15 rfl)) (Or.inr (own_i hw 18 rfl)) (by decide) (t := .long) (t' := .long) (by decide) (by decide)))
  obtain ⟨T151, X151, e151, st151⟩ := getF X141 hx hZ hown (host := "") (Or.inl (own_i hw 14 rfl)) Via.refl e141 f150 (g := (mkF m 34 #[.val (.ref a1), .val (.int (2 : Int32)), .unset, .unset, .unset, .unset, .unset, .unset, .unset] [(.ref a1)])) rfl rfl (hb hby d1_34)
  obtain ⟨T152, X152, e152, st152⟩ := getF X151 hx hZ hown (host := "") (Or.inl (own_i hw 14 rfl)) Via.refl e151 f150 (g := (mkF m 52 #[.val (.ref a1), .val (.int (2 : Int32)), .val (.long (2305842644141473793 : Int64)), .second, .val (.int (0 : Int32)), .unset, .unset, .unset, .unset] [(.ref a1), (.long (2 : Int64)), (.long (2305842644141473793 : Int64))])) rfl rfl (hb hby d1_52)
  have pre153 : ∀ t, Steps p.tables e below (T152.setTop (mkF m 57 #[.val (.ref a1), .val (.int (2 : Int32)), .val (.long (2305842644141473793 : Int64)), .second, .val (.int (0 : Int32)), .unset, .unset, .unset, .unset] [(.long ((2305842644141473793 : Int64) * (2305842644141473793 : Int64))), (.long (2 : Int64)), (.long (2305842644141473793 : Int64))])) t → Steps p.tables e below (s₁.setTop (entryFrame m #[(.ref a1), (.int (2 : Int32))] 9)) t := fun t k => pre140 t (by
    show Steps p.tables e below (T138.setTop (mkF m 30 #[.val (.ref a1), .val (.int (2 : Int32)), .unset, .unset, .unset, .unset, .unset, .unset, .unset] [(.long (4611685288282947586 : Int64)), (.ref a1)])) t
    refine st141 _ ?_
    show Steps p.tables e below (T141.setTop (mkF m 33 #[.val (.ref a1), .val (.int (2 : Int32)), .unset, .unset, .unset, .unset, .unset, .unset, .unset] [])) t
    refine XS.aloadN X141.here hx rfl (hb hby d1_33) rfl rfl ?_
    show Steps p.tables e below (T141.setTop (mkF m 34 #[.val (.ref a1), .val (.int (2 : Int32)), .unset, .unset, .unset, .unset, .unset, .unset, .unset] [(.ref a1)])) t
    refine st151 _ ?_
    show Steps p.tables e below (T151.setTop (mkF m 37 #[.val (.ref a1), .val (.int (2 : Int32)), .unset, .unset, .unset, .unset, .unset, .unset, .unset] [(.long (2305842644141473793 : Int64))])) t
    refine XS.lstoreN X151.here hx rfl (hb hby d1_37) rfl (l' := #[.val (.ref a1), .val (.int (2 : Int32)), .val (.long (2305842644141473793 : Int64)), .second, .unset, .unset, .unset, .unset, .unset]) rfl ?_
    show Steps p.tables e below (T151.setTop (mkF m 38 #[.val (.ref a1), .val (.int (2 : Int32)), .val (.long (2305842644141473793 : Int64)), .second, .unset, .unset, .unset, .unset, .unset] [])) t
    refine XS.iconst X151.here hx rfl (hb hby d1_38) ?_
    show Steps p.tables e below (T151.setTop (mkF m 39 #[.val (.ref a1), .val (.int (2 : Int32)), .val (.long (2305842644141473793 : Int64)), .second, .unset, .unset, .unset, .unset, .unset] [(.int (0 : Int32))])) t
    refine XS.istore X151.here hx rfl (hb hby d1_39) rfl (l' := #[.val (.ref a1), .val (.int (2 : Int32)), .val (.long (2305842644141473793 : Int64)), .second, .val (.int (0 : Int32)), .unset, .unset, .unset, .unset]) rfl ?_
    show Steps p.tables e below (T151.setTop (mkF m 41 #[.val (.ref a1), .val (.int (2 : Int32)), .val (.long (2305842644141473793 : Int64)), .second, .val (.int (0 : Int32)), .unset, .unset, .unset, .unset] [])) t
    refine XS.iload X151.here hx rfl (hb hby d1_41) rfl ?_
    show Steps p.tables e below (T151.setTop (mkF m 43 #[.val (.ref a1), .val (.int (2 : Int32)), .val (.long (2305842644141473793 : Int64)), .second, .val (.int (0 : Int32)), .unset, .unset, .unset, .unset] [(.int (0 : Int32))])) t
    refine XS.iconst X151.here hx rfl (hb hby d1_43) ?_
    show Steps p.tables e below (T151.setTop (mkF m 44 #[.val (.ref a1), .val (.int (2 : Int32)), .val (.long (2305842644141473793 : Int64)), .second, .val (.int (0 : Int32)), .unset, .unset, .unset, .unset] [(.int (5 : Int32)), (.int (0 : Int32))])) t
    refine XS.icmpNo X151.here hx rfl (hb hby d1_44) rfl (tlt (by decide : (0 : Int32) < (5 : Int32))).2.1 ?_
    show Steps p.tables e below (T151.setTop (mkF m 47 #[.val (.ref a1), .val (.int (2 : Int32)), .val (.long (2305842644141473793 : Int64)), .second, .val (.int (0 : Int32)), .unset, .unset, .unset, .unset] [])) t
    refine XS.lloadN X151.here hx rfl (hb hby d1_47) rfl ?_
    show Steps p.tables e below (T151.setTop (mkF m 48 #[.val (.ref a1), .val (.int (2 : Int32)), .val (.long (2305842644141473793 : Int64)), .second, .val (.int (0 : Int32)), .unset, .unset, .unset, .unset] [(.long (2305842644141473793 : Int64))])) t
    refine X151.ldc2Long hx hown (mvT hZ (own_i hw 16 rfl)) (g := (mkF m 48 #[.val (.ref a1), .val (.int (2 : Int32)), .val (.long (2305842644141473793 : Int64)), .second, .val (.int (0 : Int32)), .unset, .unset, .unset, .unset] [(.long (2305842644141473793 : Int64))])) rfl (hb hby d1_48) _ ?_
    show Steps p.tables e below (T151.setTop (mkF m 51 #[.val (.ref a1), .val (.int (2 : Int32)), .val (.long (2305842644141473793 : Int64)), .second, .val (.int (0 : Int32)), .unset, .unset, .unset, .unset] [(.long (2 : Int64)), (.long (2305842644141473793 : Int64))])) t
    refine XS.aloadN X151.here hx rfl (hb hby d1_51) rfl rfl ?_
    show Steps p.tables e below (T151.setTop (mkF m 52 #[.val (.ref a1), .val (.int (2 : Int32)), .val (.long (2305842644141473793 : Int64)), .second, .val (.int (0 : Int32)), .unset, .unset, .unset, .unset] [(.ref a1), (.long (2 : Int64)), (.long (2305842644141473793 : Int64))])) t
    refine st152 _ ?_
    show Steps p.tables e below (T152.setTop (mkF m 55 #[.val (.ref a1), .val (.int (2 : Int32)), .val (.long (2305842644141473793 : Int64)), .second, .val (.int (0 : Int32)), .unset, .unset, .unset, .unset] [(.long (2305842644141473793 : Int64)), (.long (2 : Int64)), (.long (2305842644141473793 : Int64))])) t
    refine XS.lloadN X152.here hx rfl (hb hby d1_55) rfl ?_
    show Steps p.tables e below (T152.setTop (mkF m 56 #[.val (.ref a1), .val (.int (2 : Int32)), .val (.long (2305842644141473793 : Int64)), .second, .val (.int (0 : Int32)), .unset, .unset, .unset, .unset] [(.long (2305842644141473793 : Int64)), (.long (2305842644141473793 : Int64)), (.long (2 : Int64)), (.long (2305842644141473793 : Int64))])) t
    refine XS.lmul X152.here hx rfl (hb hby d1_56) rfl ?_
    exact k)
  have pre154 : ∀ t, Steps p.tables e below (T152.setTop (mkF m 57 #[.val (.ref a1), .val (.int (2 : Int32)), .val (.long (2305842644141473793 : Int64)), .second, .val (.int (0 : Int32)), .unset, .unset, .unset, .unset] [(.long (4611685288282947585 : Int64)), (.long (2 : Int64)), (.long (2305842644141473793 : Int64))])) t → Steps p.tables e below (s₁.setTop (entryFrame m #[(.ref a1), (.int (2 : Int32))] 9)) t := fun t k => pre153 t (by rw [show ((2305842644141473793 : Int64) * (2305842644141473793 : Int64)) = (4611685288282947585 : Int64) from (by decide +kernel)]; exact k)
  have pre155 : ∀ t, Steps p.tables e below (T152.setTop (mkF m 58 #[.val (.ref a1), .val (.int (2 : Int32)), .val (.long (2305842644141473793 : Int64)), .second, .val (.int (0 : Int32)), .unset, .unset, .unset, .unset] [(.long ((2 : Int64) - (4611685288282947585 : Int64))), (.long (2305842644141473793 : Int64))])) t → Steps p.tables e below (s₁.setTop (entryFrame m #[(.ref a1), (.int (2 : Int32))] 9)) t := fun t k => pre154 t (by
    show Steps p.tables e below (T152.setTop (mkF m 57 #[.val (.ref a1), .val (.int (2 : Int32)), .val (.long (2305842644141473793 : Int64)), .second, .val (.int (0 : Int32)), .unset, .unset, .unset, .unset] [(.long (4611685288282947585 : Int64)), (.long (2 : Int64)), (.long (2305842644141473793 : Int64))])) t
    refine XS.lsub X152.here hx rfl (hb hby d1_57) rfl ?_
    exact k)
  have pre156 : ∀ t, Steps p.tables e below (T152.setTop (mkF m 58 #[.val (.ref a1), .val (.int (2 : Int32)), .val (.long (2305842644141473793 : Int64)), .second, .val (.int (0 : Int32)), .unset, .unset, .unset, .unset] [(.long (-4611685288282947583 : Int64)), (.long (2305842644141473793 : Int64))])) t → Steps p.tables e below (s₁.setTop (entryFrame m #[(.ref a1), (.int (2 : Int32))] 9)) t := fun t k => pre155 t (by rw [show ((2 : Int64) - (4611685288282947585 : Int64)) = (-4611685288282947583 : Int64) from (by decide +kernel)]; exact k)
  have pre157 : ∀ t, Steps p.tables e below (T152.setTop (mkF m 59 #[.val (.ref a1), .val (.int (2 : Int32)), .val (.long (2305842644141473793 : Int64)), .second, .val (.int (0 : Int32)), .unset, .unset, .unset, .unset] [(.long ((2305842644141473793 : Int64) * (-4611685288282947583 : Int64)))])) t → Steps p.tables e below (s₁.setTop (entryFrame m #[(.ref a1), (.int (2 : Int32))] 9)) t := fun t k => pre156 t (by
    show Steps p.tables e below (T152.setTop (mkF m 58 #[.val (.ref a1), .val (.int (2 : Int32)), .val (.long (2305842644141473793 : Int64)), .second, .val (.int (0 : Int32)), .unset, .unset, .unset, .unset] [(.long (-4611685288282947583 : Int64)), (.long (2305842644141473793 : Int64))])) t
    refine XS.lmul X152.here hx rfl (hb hby d1_58) rfl ?_
    exact k)
  have pre158 : ∀ t, Steps p.tables e below (T152.setTop (mkF m 59 #[.val (.ref a1), .val (.int (2 : Int32)), .val (.long (2305842644141473793 : Int64)), .second, .val (.int (0 : Int32)), .unset, .unset, .unset, .unset] [(.long (-2305842644141473791 : Int64))])) t → Steps p.tables e below (s₁.setTop (entryFrame m #[(.ref a1), (.int (2 : Int32))] 9)) t := fun t k => pre157 t (by rw [show ((2305842644141473793 : Int64) * (-4611685288282947583 : Int64)) = (-2305842644141473791 : Int64) from (by decide +kernel)]; exact k)
  obtain ⟨T159, X159, e159, st159⟩ := getF X152 hx hZ hown (host := "") (Or.inl (own_i hw 14 rfl)) Via.refl e152 f150 (g := (mkF m 52 #[.val (.ref a1), .val (.int (2 : Int32)), .val (.long (-2305842644141473791 : Int64)), .second, .val (.int (1 : Int32)), .unset, .unset, .unset, .unset] [(.ref a1), (.long (2 : Int64)), (.long (-2305842644141473791 : Int64))])) rfl rfl (hb hby d1_52)
  have pre160 : ∀ t, Steps p.tables e below (T159.setTop (mkF m 57 #[.val (.ref a1), .val (.int (2 : Int32)), .val (.long (-2305842644141473791 : Int64)), .second, .val (.int (1 : Int32)), .unset, .unset, .unset, .unset] [(.long ((2305842644141473793 : Int64) * (-2305842644141473791 : Int64))), (.long (2 : Int64)), (.long (-2305842644141473791 : Int64))])) t → Steps p.tables e below (s₁.setTop (entryFrame m #[(.ref a1), (.int (2 : Int32))] 9)) t := fun t k => pre158 t (by
    show Steps p.tables e below (T152.setTop (mkF m 59 #[.val (.ref a1), .val (.int (2 : Int32)), .val (.long (2305842644141473793 : Int64)), .second, .val (.int (0 : Int32)), .unset, .unset, .unset, .unset] [(.long (-2305842644141473791 : Int64))])) t
    refine XS.lstoreN X152.here hx rfl (hb hby d1_59) rfl (l' := #[.val (.ref a1), .val (.int (2 : Int32)), .val (.long (-2305842644141473791 : Int64)), .second, .val (.int (0 : Int32)), .unset, .unset, .unset, .unset]) rfl ?_
    show Steps p.tables e below (T152.setTop (mkF m 60 #[.val (.ref a1), .val (.int (2 : Int32)), .val (.long (-2305842644141473791 : Int64)), .second, .val (.int (0 : Int32)), .unset, .unset, .unset, .unset] [])) t
    refine XS.iinc X152.here hx rfl (hb hby d1_60) rfl (l' := #[.val (.ref a1), .val (.int (2 : Int32)), .val (.long (-2305842644141473791 : Int64)), .second, .val (.int (1 : Int32)), .unset, .unset, .unset, .unset]) rfl ?_
    show Steps p.tables e below (T152.setTop (mkF m 63 #[.val (.ref a1), .val (.int (2 : Int32)), .val (.long (-2305842644141473791 : Int64)), .second, .val (.int (1 : Int32)), .unset, .unset, .unset, .unset] [])) t
    refine XS.goto X152.here hx rfl (pc0 := 63) (pc' := 41) rfl (hb hby d1_63) (by decide) (by decide) ?_
    show Steps p.tables e below (T152.setTop (mkF m 41 #[.val (.ref a1), .val (.int (2 : Int32)), .val (.long (-2305842644141473791 : Int64)), .second, .val (.int (1 : Int32)), .unset, .unset, .unset, .unset] [])) t
    refine XS.iload X152.here hx rfl (hb hby d1_41) rfl ?_
    show Steps p.tables e below (T152.setTop (mkF m 43 #[.val (.ref a1), .val (.int (2 : Int32)), .val (.long (-2305842644141473791 : Int64)), .second, .val (.int (1 : Int32)), .unset, .unset, .unset, .unset] [(.int (1 : Int32))])) t
    refine XS.iconst X152.here hx rfl (hb hby d1_43) ?_
    show Steps p.tables e below (T152.setTop (mkF m 44 #[.val (.ref a1), .val (.int (2 : Int32)), .val (.long (-2305842644141473791 : Int64)), .second, .val (.int (1 : Int32)), .unset, .unset, .unset, .unset] [(.int (5 : Int32)), (.int (1 : Int32))])) t
    refine XS.icmpNo X152.here hx rfl (hb hby d1_44) rfl (tlt (by decide : (1 : Int32) < (5 : Int32))).2.1 ?_
    show Steps p.tables e below (T152.setTop (mkF m 47 #[.val (.ref a1), .val (.int (2 : Int32)), .val (.long (-2305842644141473791 : Int64)), .second, .val (.int (1 : Int32)), .unset, .unset, .unset, .unset] [])) t
    refine XS.lloadN X152.here hx rfl (hb hby d1_47) rfl ?_
    show Steps p.tables e below (T152.setTop (mkF m 48 #[.val (.ref a1), .val (.int (2 : Int32)), .val (.long (-2305842644141473791 : Int64)), .second, .val (.int (1 : Int32)), .unset, .unset, .unset, .unset] [(.long (-2305842644141473791 : Int64))])) t
    refine X152.ldc2Long hx hown (mvT hZ (own_i hw 16 rfl)) (g := (mkF m 48 #[.val (.ref a1), .val (.int (2 : Int32)), .val (.long (-2305842644141473791 : Int64)), .second, .val (.int (1 : Int32)), .unset, .unset, .unset, .unset] [(.long (-2305842644141473791 : Int64))])) rfl (hb hby d1_48) _ ?_
    show Steps p.tables e below (T152.setTop (mkF m 51 #[.val (.ref a1), .val (.int (2 : Int32)), .val (.long (-2305842644141473791 : Int64)), .second, .val (.int (1 : Int32)), .unset, .unset, .unset, .unset] [(.long (2 : Int64)), (.long (-2305842644141473791 : Int64))])) t
    refine XS.aloadN X152.here hx rfl (hb hby d1_51) rfl rfl ?_
    show Steps p.tables e below (T152.setTop (mkF m 52 #[.val (.ref a1), .val (.int (2 : Int32)), .val (.long (-2305842644141473791 : Int64)), .second, .val (.int (1 : Int32)), .unset, .unset, .unset, .unset] [(.ref a1), (.long (2 : Int64)), (.long (-2305842644141473791 : Int64))])) t
    refine st159 _ ?_
    show Steps p.tables e below (T159.setTop (mkF m 55 #[.val (.ref a1), .val (.int (2 : Int32)), .val (.long (-2305842644141473791 : Int64)), .second, .val (.int (1 : Int32)), .unset, .unset, .unset, .unset] [(.long (2305842644141473793 : Int64)), (.long (2 : Int64)), (.long (-2305842644141473791 : Int64))])) t
    refine XS.lloadN X159.here hx rfl (hb hby d1_55) rfl ?_
    show Steps p.tables e below (T159.setTop (mkF m 56 #[.val (.ref a1), .val (.int (2 : Int32)), .val (.long (-2305842644141473791 : Int64)), .second, .val (.int (1 : Int32)), .unset, .unset, .unset, .unset] [(.long (-2305842644141473791 : Int64)), (.long (2305842644141473793 : Int64)), (.long (2 : Int64)), (.long (-2305842644141473791 : Int64))])) t
    refine XS.lmul X159.here hx rfl (hb hby d1_56) rfl ?_
    exact k)
  have pre161 : ∀ t, Steps p.tables e below (T159.setTop (mkF m 57 #[.val (.ref a1), .val (.int (2 : Int32)), .val (.long (-2305842644141473791 : Int64)), .second, .val (.int (1 : Int32)), .unset, .unset, .unset, .unset] [(.long (1 : Int64)), (.long (2 : Int64)), (.long (-2305842644141473791 : Int64))])) t → Steps p.tables e below (s₁.setTop (entryFrame m #[(.ref a1), (.int (2 : Int32))] 9)) t := fun t k => pre160 t (by rw [show ((2305842644141473793 : Int64) * (-2305842644141473791 : Int64)) = (1 : Int64) from (by decide +kernel)]; exact k)
  have pre162 : ∀ t, Steps p.tables e below (T159.setTop (mkF m 58 #[.val (.ref a1), .val (.int (2 : Int32)), .val (.long (-2305842644141473791 : Int64)), .second, .val (.int (1 : Int32)), .unset, .unset, .unset, .unset] [(.long ((2 : Int64) - (1 : Int64))), (.long (-2305842644141473791 : Int64))])) t → Steps p.tables e below (s₁.setTop (entryFrame m #[(.ref a1), (.int (2 : Int32))] 9)) t := fun t k => pre161 t (by
    show Steps p.tables e below (T159.setTop (mkF m 57 #[.val (.ref a1), .val (.int (2 : Int32)), .val (.long (-2305842644141473791 : Int64)), .second, .val (.int (1 : Int32)), .unset, .unset, .unset, .unset] [(.long (1 : Int64)), (.long (2 : Int64)), (.long (-2305842644141473791 : Int64))])) t
    refine XS.lsub X159.here hx rfl (hb hby d1_57) rfl ?_
    exact k)
  have pre163 : ∀ t, Steps p.tables e below (T159.setTop (mkF m 58 #[.val (.ref a1), .val (.int (2 : Int32)), .val (.long (-2305842644141473791 : Int64)), .second, .val (.int (1 : Int32)), .unset, .unset, .unset, .unset] [(.long (1 : Int64)), (.long (-2305842644141473791 : Int64))])) t → Steps p.tables e below (s₁.setTop (entryFrame m #[(.ref a1), (.int (2 : Int32))] 9)) t := fun t k => pre162 t (by rw [show ((2 : Int64) - (1 : Int64)) = (1 : Int64) from (by decide +kernel)]; exact k)
  have pre164 : ∀ t, Steps p.tables e below (T159.setTop (mkF m 59 #[.val (.ref a1), .val (.int (2 : Int32)), .val (.long (-2305842644141473791 : Int64)), .second, .val (.int (1 : Int32)), .unset, .unset, .unset, .unset] [(.long ((-2305842644141473791 : Int64) * (1 : Int64)))])) t → Steps p.tables e below (s₁.setTop (entryFrame m #[(.ref a1), (.int (2 : Int32))] 9)) t := fun t k => pre163 t (by
    show Steps p.tables e below (T159.setTop (mkF m 58 #[.val (.ref a1), .val (.int (2 : Int32)), .val (.long (-2305842644141473791 : Int64)), .second, .val (.int (1 : Int32)), .unset, .unset, .unset, .unset] [(.long (1 : Int64)), (.long (-2305842644141473791 : Int64))])) t
    refine XS.lmul X159.here hx rfl (hb hby d1_58) rfl ?_
    exact k)
  have pre165 : ∀ t, Steps p.tables e below (T159.setTop (mkF m 59 #[.val (.ref a1), .val (.int (2 : Int32)), .val (.long (-2305842644141473791 : Int64)), .second, .val (.int (1 : Int32)), .unset, .unset, .unset, .unset] [(.long (-2305842644141473791 : Int64))])) t → Steps p.tables e below (s₁.setTop (entryFrame m #[(.ref a1), (.int (2 : Int32))] 9)) t := fun t k => pre164 t (by rw [show ((-2305842644141473791 : Int64) * (1 : Int64)) = (-2305842644141473791 : Int64) from (by decide +kernel)]; exact k)
  obtain ⟨T166, X166, e166, st166⟩ := getF X159 hx hZ hown (host := "") (Or.inl (own_i hw 14 rfl)) Via.refl e159 f150 (g := (mkF m 52 #[.val (.ref a1), .val (.int (2 : Int32)), .val (.long (-2305842644141473791 : Int64)), .second, .val (.int (2 : Int32)), .unset, .unset, .unset, .unset] [(.ref a1), (.long (2 : Int64)), (.long (-2305842644141473791 : Int64))])) rfl rfl (hb hby d1_52)
  have pre167 : ∀ t, Steps p.tables e below (T166.setTop (mkF m 57 #[.val (.ref a1), .val (.int (2 : Int32)), .val (.long (-2305842644141473791 : Int64)), .second, .val (.int (2 : Int32)), .unset, .unset, .unset, .unset] [(.long ((2305842644141473793 : Int64) * (-2305842644141473791 : Int64))), (.long (2 : Int64)), (.long (-2305842644141473791 : Int64))])) t → Steps p.tables e below (s₁.setTop (entryFrame m #[(.ref a1), (.int (2 : Int32))] 9)) t := fun t k => pre165 t (by
    show Steps p.tables e below (T159.setTop (mkF m 59 #[.val (.ref a1), .val (.int (2 : Int32)), .val (.long (-2305842644141473791 : Int64)), .second, .val (.int (1 : Int32)), .unset, .unset, .unset, .unset] [(.long (-2305842644141473791 : Int64))])) t
    refine XS.lstoreN X159.here hx rfl (hb hby d1_59) rfl (l' := #[.val (.ref a1), .val (.int (2 : Int32)), .val (.long (-2305842644141473791 : Int64)), .second, .val (.int (1 : Int32)), .unset, .unset, .unset, .unset]) rfl ?_
    show Steps p.tables e below (T159.setTop (mkF m 60 #[.val (.ref a1), .val (.int (2 : Int32)), .val (.long (-2305842644141473791 : Int64)), .second, .val (.int (1 : Int32)), .unset, .unset, .unset, .unset] [])) t
    refine XS.iinc X159.here hx rfl (hb hby d1_60) rfl (l' := #[.val (.ref a1), .val (.int (2 : Int32)), .val (.long (-2305842644141473791 : Int64)), .second, .val (.int (2 : Int32)), .unset, .unset, .unset, .unset]) rfl ?_
    show Steps p.tables e below (T159.setTop (mkF m 63 #[.val (.ref a1), .val (.int (2 : Int32)), .val (.long (-2305842644141473791 : Int64)), .second, .val (.int (2 : Int32)), .unset, .unset, .unset, .unset] [])) t
    refine XS.goto X159.here hx rfl (pc0 := 63) (pc' := 41) rfl (hb hby d1_63) (by decide) (by decide) ?_
    show Steps p.tables e below (T159.setTop (mkF m 41 #[.val (.ref a1), .val (.int (2 : Int32)), .val (.long (-2305842644141473791 : Int64)), .second, .val (.int (2 : Int32)), .unset, .unset, .unset, .unset] [])) t
    refine XS.iload X159.here hx rfl (hb hby d1_41) rfl ?_
    show Steps p.tables e below (T159.setTop (mkF m 43 #[.val (.ref a1), .val (.int (2 : Int32)), .val (.long (-2305842644141473791 : Int64)), .second, .val (.int (2 : Int32)), .unset, .unset, .unset, .unset] [(.int (2 : Int32))])) t
    refine XS.iconst X159.here hx rfl (hb hby d1_43) ?_
    show Steps p.tables e below (T159.setTop (mkF m 44 #[.val (.ref a1), .val (.int (2 : Int32)), .val (.long (-2305842644141473791 : Int64)), .second, .val (.int (2 : Int32)), .unset, .unset, .unset, .unset] [(.int (5 : Int32)), (.int (2 : Int32))])) t
    refine XS.icmpNo X159.here hx rfl (hb hby d1_44) rfl (tlt (by decide : (2 : Int32) < (5 : Int32))).2.1 ?_
    show Steps p.tables e below (T159.setTop (mkF m 47 #[.val (.ref a1), .val (.int (2 : Int32)), .val (.long (-2305842644141473791 : Int64)), .second, .val (.int (2 : Int32)), .unset, .unset, .unset, .unset] [])) t
    refine XS.lloadN X159.here hx rfl (hb hby d1_47) rfl ?_
    show Steps p.tables e below (T159.setTop (mkF m 48 #[.val (.ref a1), .val (.int (2 : Int32)), .val (.long (-2305842644141473791 : Int64)), .second, .val (.int (2 : Int32)), .unset, .unset, .unset, .unset] [(.long (-2305842644141473791 : Int64))])) t
    refine X159.ldc2Long hx hown (mvT hZ (own_i hw 16 rfl)) (g := (mkF m 48 #[.val (.ref a1), .val (.int (2 : Int32)), .val (.long (-2305842644141473791 : Int64)), .second, .val (.int (2 : Int32)), .unset, .unset, .unset, .unset] [(.long (-2305842644141473791 : Int64))])) rfl (hb hby d1_48) _ ?_
    show Steps p.tables e below (T159.setTop (mkF m 51 #[.val (.ref a1), .val (.int (2 : Int32)), .val (.long (-2305842644141473791 : Int64)), .second, .val (.int (2 : Int32)), .unset, .unset, .unset, .unset] [(.long (2 : Int64)), (.long (-2305842644141473791 : Int64))])) t
    refine XS.aloadN X159.here hx rfl (hb hby d1_51) rfl rfl ?_
    show Steps p.tables e below (T159.setTop (mkF m 52 #[.val (.ref a1), .val (.int (2 : Int32)), .val (.long (-2305842644141473791 : Int64)), .second, .val (.int (2 : Int32)), .unset, .unset, .unset, .unset] [(.ref a1), (.long (2 : Int64)), (.long (-2305842644141473791 : Int64))])) t
    refine st166 _ ?_
    show Steps p.tables e below (T166.setTop (mkF m 55 #[.val (.ref a1), .val (.int (2 : Int32)), .val (.long (-2305842644141473791 : Int64)), .second, .val (.int (2 : Int32)), .unset, .unset, .unset, .unset] [(.long (2305842644141473793 : Int64)), (.long (2 : Int64)), (.long (-2305842644141473791 : Int64))])) t
    refine XS.lloadN X166.here hx rfl (hb hby d1_55) rfl ?_
    show Steps p.tables e below (T166.setTop (mkF m 56 #[.val (.ref a1), .val (.int (2 : Int32)), .val (.long (-2305842644141473791 : Int64)), .second, .val (.int (2 : Int32)), .unset, .unset, .unset, .unset] [(.long (-2305842644141473791 : Int64)), (.long (2305842644141473793 : Int64)), (.long (2 : Int64)), (.long (-2305842644141473791 : Int64))])) t
    refine XS.lmul X166.here hx rfl (hb hby d1_56) rfl ?_
    exact k)
  have pre168 : ∀ t, Steps p.tables e below (T166.setTop (mkF m 57 #[.val (.ref a1), .val (.int (2 : Int32)), .val (.long (-2305842644141473791 : Int64)), .second, .val (.int (2 : Int32)), .unset, .unset, .unset, .unset] [(.long (1 : Int64)), (.long (2 : Int64)), (.long (-2305842644141473791 : Int64))])) t → Steps p.tables e below (s₁.setTop (entryFrame m #[(.ref a1), (.int (2 : Int32))] 9)) t := fun t k => pre167 t (by rw [show ((2305842644141473793 : Int64) * (-2305842644141473791 : Int64)) = (1 : Int64) from (by decide +kernel)]; exact k)
  have pre169 : ∀ t, Steps p.tables e below (T166.setTop (mkF m 58 #[.val (.ref a1), .val (.int (2 : Int32)), .val (.long (-2305842644141473791 : Int64)), .second, .val (.int (2 : Int32)), .unset, .unset, .unset, .unset] [(.long ((2 : Int64) - (1 : Int64))), (.long (-2305842644141473791 : Int64))])) t → Steps p.tables e below (s₁.setTop (entryFrame m #[(.ref a1), (.int (2 : Int32))] 9)) t := fun t k => pre168 t (by
    show Steps p.tables e below (T166.setTop (mkF m 57 #[.val (.ref a1), .val (.int (2 : Int32)), .val (.long (-2305842644141473791 : Int64)), .second, .val (.int (2 : Int32)), .unset, .unset, .unset, .unset] [(.long (1 : Int64)), (.long (2 : Int64)), (.long (-2305842644141473791 : Int64))])) t
    refine XS.lsub X166.here hx rfl (hb hby d1_57) rfl ?_
    exact k)
  have pre170 : ∀ t, Steps p.tables e below (T166.setTop (mkF m 58 #[.val (.ref a1), .val (.int (2 : Int32)), .val (.long (-2305842644141473791 : Int64)), .second, .val (.int (2 : Int32)), .unset, .unset, .unset, .unset] [(.long (1 : Int64)), (.long (-2305842644141473791 : Int64))])) t → Steps p.tables e below (s₁.setTop (entryFrame m #[(.ref a1), (.int (2 : Int32))] 9)) t := fun t k => pre169 t (by rw [show ((2 : Int64) - (1 : Int64)) = (1 : Int64) from (by decide +kernel)]; exact k)
  have pre171 : ∀ t, Steps p.tables e below (T166.setTop (mkF m 59 #[.val (.ref a1), .val (.int (2 : Int32)), .val (.long (-2305842644141473791 : Int64)), .second, .val (.int (2 : Int32)), .unset, .unset, .unset, .unset] [(.long ((-2305842644141473791 : Int64) * (1 : Int64)))])) t → Steps p.tables e below (s₁.setTop (entryFrame m #[(.ref a1), (.int (2 : Int32))] 9)) t := fun t k => pre170 t (by
    show Steps p.tables e below (T166.setTop (mkF m 58 #[.val (.ref a1), .val (.int (2 : Int32)), .val (.long (-2305842644141473791 : Int64)), .second, .val (.int (2 : Int32)), .unset, .unset, .unset, .unset] [(.long (1 : Int64)), (.long (-2305842644141473791 : Int64))])) t
    refine XS.lmul X166.here hx rfl (hb hby d1_58) rfl ?_
    exact k)
  have pre172 : ∀ t, Steps p.tables e below (T166.setTop (mkF m 59 #[.val (.ref a1), .val (.int (2 : Int32)), .val (.long (-2305842644141473791 : Int64)), .second, .val (.int (2 : Int32)), .unset, .unset, .unset, .unset] [(.long (-2305842644141473791 : Int64))])) t → Steps p.tables e below (s₁.setTop (entryFrame m #[(.ref a1), (.int (2 : Int32))] 9)) t := fun t k => pre171 t (by rw [show ((-2305842644141473791 : Int64) * (1 : Int64)) = (-2305842644141473791 : Int64) from (by decide +kernel)]; exact k)
  obtain ⟨T173, X173, e173, st173⟩ := getF X166 hx hZ hown (host := "") (Or.inl (own_i hw 14 rfl)) Via.refl e166 f150 (g := (mkF m 52 #[.val (.ref a1), .val (.int (2 : Int32)), .val (.long (-2305842644141473791 : Int64)), .second, .val (.int (3 : Int32)), .unset, .unset, .unset, .unset] [(.ref a1), (.long (2 : Int64)), (.long (-2305842644141473791 : Int64))])) rfl rfl (hb hby d1_52)
  have pre174 : ∀ t, Steps p.tables e below (T173.setTop (mkF m 57 #[.val (.ref a1), .val (.int (2 : Int32)), .val (.long (-2305842644141473791 : Int64)), .second, .val (.int (3 : Int32)), .unset, .unset, .unset, .unset] [(.long ((2305842644141473793 : Int64) * (-2305842644141473791 : Int64))), (.long (2 : Int64)), (.long (-2305842644141473791 : Int64))])) t → Steps p.tables e below (s₁.setTop (entryFrame m #[(.ref a1), (.int (2 : Int32))] 9)) t := fun t k => pre172 t (by
    show Steps p.tables e below (T166.setTop (mkF m 59 #[.val (.ref a1), .val (.int (2 : Int32)), .val (.long (-2305842644141473791 : Int64)), .second, .val (.int (2 : Int32)), .unset, .unset, .unset, .unset] [(.long (-2305842644141473791 : Int64))])) t
    refine XS.lstoreN X166.here hx rfl (hb hby d1_59) rfl (l' := #[.val (.ref a1), .val (.int (2 : Int32)), .val (.long (-2305842644141473791 : Int64)), .second, .val (.int (2 : Int32)), .unset, .unset, .unset, .unset]) rfl ?_
    show Steps p.tables e below (T166.setTop (mkF m 60 #[.val (.ref a1), .val (.int (2 : Int32)), .val (.long (-2305842644141473791 : Int64)), .second, .val (.int (2 : Int32)), .unset, .unset, .unset, .unset] [])) t
    refine XS.iinc X166.here hx rfl (hb hby d1_60) rfl (l' := #[.val (.ref a1), .val (.int (2 : Int32)), .val (.long (-2305842644141473791 : Int64)), .second, .val (.int (3 : Int32)), .unset, .unset, .unset, .unset]) rfl ?_
    show Steps p.tables e below (T166.setTop (mkF m 63 #[.val (.ref a1), .val (.int (2 : Int32)), .val (.long (-2305842644141473791 : Int64)), .second, .val (.int (3 : Int32)), .unset, .unset, .unset, .unset] [])) t
    refine XS.goto X166.here hx rfl (pc0 := 63) (pc' := 41) rfl (hb hby d1_63) (by decide) (by decide) ?_
    show Steps p.tables e below (T166.setTop (mkF m 41 #[.val (.ref a1), .val (.int (2 : Int32)), .val (.long (-2305842644141473791 : Int64)), .second, .val (.int (3 : Int32)), .unset, .unset, .unset, .unset] [])) t
    refine XS.iload X166.here hx rfl (hb hby d1_41) rfl ?_
    show Steps p.tables e below (T166.setTop (mkF m 43 #[.val (.ref a1), .val (.int (2 : Int32)), .val (.long (-2305842644141473791 : Int64)), .second, .val (.int (3 : Int32)), .unset, .unset, .unset, .unset] [(.int (3 : Int32))])) t
    refine XS.iconst X166.here hx rfl (hb hby d1_43) ?_
    show Steps p.tables e below (T166.setTop (mkF m 44 #[.val (.ref a1), .val (.int (2 : Int32)), .val (.long (-2305842644141473791 : Int64)), .second, .val (.int (3 : Int32)), .unset, .unset, .unset, .unset] [(.int (5 : Int32)), (.int (3 : Int32))])) t
    refine XS.icmpNo X166.here hx rfl (hb hby d1_44) rfl (tlt (by decide : (3 : Int32) < (5 : Int32))).2.1 ?_
    show Steps p.tables e below (T166.setTop (mkF m 47 #[.val (.ref a1), .val (.int (2 : Int32)), .val (.long (-2305842644141473791 : Int64)), .second, .val (.int (3 : Int32)), .unset, .unset, .unset, .unset] [])) t
    refine XS.lloadN X166.here hx rfl (hb hby d1_47) rfl ?_
    show Steps p.tables e below (T166.setTop (mkF m 48 #[.val (.ref a1), .val (.int (2 : Int32)), .val (.long (-2305842644141473791 : Int64)), .second, .val (.int (3 : Int32)), .unset, .unset, .unset, .unset] [(.long (-2305842644141473791 : Int64))])) t
    refine X166.ldc2Long hx hown (mvT hZ (own_i hw 16 rfl)) (g := (mkF m 48 #[.val (.ref a1), .val (.int (2 : Int32)), .val (.long (-2305842644141473791 : Int64)), .second, .val (.int (3 : Int32)), .unset, .unset, .unset, .unset] [(.long (-2305842644141473791 : Int64))])) rfl (hb hby d1_48) _ ?_
    show Steps p.tables e below (T166.setTop (mkF m 51 #[.val (.ref a1), .val (.int (2 : Int32)), .val (.long (-2305842644141473791 : Int64)), .second, .val (.int (3 : Int32)), .unset, .unset, .unset, .unset] [(.long (2 : Int64)), (.long (-2305842644141473791 : Int64))])) t
    refine XS.aloadN X166.here hx rfl (hb hby d1_51) rfl rfl ?_
    show Steps p.tables e below (T166.setTop (mkF m 52 #[.val (.ref a1), .val (.int (2 : Int32)), .val (.long (-2305842644141473791 : Int64)), .second, .val (.int (3 : Int32)), .unset, .unset, .unset, .unset] [(.ref a1), (.long (2 : Int64)), (.long (-2305842644141473791 : Int64))])) t
    refine st173 _ ?_
    show Steps p.tables e below (T173.setTop (mkF m 55 #[.val (.ref a1), .val (.int (2 : Int32)), .val (.long (-2305842644141473791 : Int64)), .second, .val (.int (3 : Int32)), .unset, .unset, .unset, .unset] [(.long (2305842644141473793 : Int64)), (.long (2 : Int64)), (.long (-2305842644141473791 : Int64))])) t
    refine XS.lloadN X173.here hx rfl (hb hby d1_55) rfl ?_
    show Steps p.tables e below (T173.setTop (mkF m 56 #[.val (.ref a1), .val (.int (2 : Int32)), .val (.long (-2305842644141473791 : Int64)), .second, .val (.int (3 : Int32)), .unset, .unset, .unset, .unset] [(.long (-2305842644141473791 : Int64)), (.long (2305842644141473793 : Int64)), (.long (2 : Int64)), (.long (-2305842644141473791 : Int64))])) t
    refine XS.lmul X173.here hx rfl (hb hby d1_56) rfl ?_
    exact k)
  have pre175 : ∀ t, Steps p.tables e below (T173.setTop (mkF m 57 #[.val (.ref a1), .val (.int (2 : Int32)), .val (.long (-2305842644141473791 : Int64)), .second, .val (.int (3 : Int32)), .unset, .unset, .unset, .unset] [(.long (1 : Int64)), (.long (2 : Int64)), (.long (-2305842644141473791 : Int64))])) t → Steps p.tables e below (s₁.setTop (entryFrame m #[(.ref a1), (.int (2 : Int32))] 9)) t := fun t k => pre174 t (by rw [show ((2305842644141473793 : Int64) * (-2305842644141473791 : Int64)) = (1 : Int64) from (by decide +kernel)]; exact k)
  have pre176 : ∀ t, Steps p.tables e below (T173.setTop (mkF m 58 #[.val (.ref a1), .val (.int (2 : Int32)), .val (.long (-2305842644141473791 : Int64)), .second, .val (.int (3 : Int32)), .unset, .unset, .unset, .unset] [(.long ((2 : Int64) - (1 : Int64))), (.long (-2305842644141473791 : Int64))])) t → Steps p.tables e below (s₁.setTop (entryFrame m #[(.ref a1), (.int (2 : Int32))] 9)) t := fun t k => pre175 t (by
    show Steps p.tables e below (T173.setTop (mkF m 57 #[.val (.ref a1), .val (.int (2 : Int32)), .val (.long (-2305842644141473791 : Int64)), .second, .val (.int (3 : Int32)), .unset, .unset, .unset, .unset] [(.long (1 : Int64)), (.long (2 : Int64)), (.long (-2305842644141473791 : Int64))])) t
    refine XS.lsub X173.here hx rfl (hb hby d1_57) rfl ?_
    exact k)
  have pre177 : ∀ t, Steps p.tables e below (T173.setTop (mkF m 58 #[.val (.ref a1), .val (.int (2 : Int32)), .val (.long (-2305842644141473791 : Int64)), .second, .val (.int (3 : Int32)), .unset, .unset, .unset, .unset] [(.long (1 : Int64)), (.long (-2305842644141473791 : Int64))])) t → Steps p.tables e below (s₁.setTop (entryFrame m #[(.ref a1), (.int (2 : Int32))] 9)) t := fun t k => pre176 t (by rw [show ((2 : Int64) - (1 : Int64)) = (1 : Int64) from (by decide +kernel)]; exact k)
  have pre178 : ∀ t, Steps p.tables e below (T173.setTop (mkF m 59 #[.val (.ref a1), .val (.int (2 : Int32)), .val (.long (-2305842644141473791 : Int64)), .second, .val (.int (3 : Int32)), .unset, .unset, .unset, .unset] [(.long ((-2305842644141473791 : Int64) * (1 : Int64)))])) t → Steps p.tables e below (s₁.setTop (entryFrame m #[(.ref a1), (.int (2 : Int32))] 9)) t := fun t k => pre177 t (by
    show Steps p.tables e below (T173.setTop (mkF m 58 #[.val (.ref a1), .val (.int (2 : Int32)), .val (.long (-2305842644141473791 : Int64)), .second, .val (.int (3 : Int32)), .unset, .unset, .unset, .unset] [(.long (1 : Int64)), (.long (-2305842644141473791 : Int64))])) t
    refine XS.lmul X173.here hx rfl (hb hby d1_58) rfl ?_
    exact k)
  have pre179 : ∀ t, Steps p.tables e below (T173.setTop (mkF m 59 #[.val (.ref a1), .val (.int (2 : Int32)), .val (.long (-2305842644141473791 : Int64)), .second, .val (.int (3 : Int32)), .unset, .unset, .unset, .unset] [(.long (-2305842644141473791 : Int64))])) t → Steps p.tables e below (s₁.setTop (entryFrame m #[(.ref a1), (.int (2 : Int32))] 9)) t := fun t k => pre178 t (by rw [show ((-2305842644141473791 : Int64) * (1 : Int64)) = (-2305842644141473791 : Int64) from (by decide +kernel)]; exact k)
  obtain ⟨T180, X180, e180, st180⟩ := getF X173 hx hZ hown (host := "") (Or.inl (own_i hw 14 rfl)) Via.refl e173 f150 (g := (mkF m 52 #[.val (.ref a1), .val (.int (2 : Int32)), .val (.long (-2305842644141473791 : Int64)), .second, .val (.int (4 : Int32)), .unset, .unset, .unset, .unset] [(.ref a1), (.long (2 : Int64)), (.long (-2305842644141473791 : Int64))])) rfl rfl (hb hby d1_52)
  have pre181 : ∀ t, Steps p.tables e below (T180.setTop (mkF m 57 #[.val (.ref a1), .val (.int (2 : Int32)), .val (.long (-2305842644141473791 : Int64)), .second, .val (.int (4 : Int32)), .unset, .unset, .unset, .unset] [(.long ((2305842644141473793 : Int64) * (-2305842644141473791 : Int64))), (.long (2 : Int64)), (.long (-2305842644141473791 : Int64))])) t → Steps p.tables e below (s₁.setTop (entryFrame m #[(.ref a1), (.int (2 : Int32))] 9)) t := fun t k => pre179 t (by
    show Steps p.tables e below (T173.setTop (mkF m 59 #[.val (.ref a1), .val (.int (2 : Int32)), .val (.long (-2305842644141473791 : Int64)), .second, .val (.int (3 : Int32)), .unset, .unset, .unset, .unset] [(.long (-2305842644141473791 : Int64))])) t
    refine XS.lstoreN X173.here hx rfl (hb hby d1_59) rfl (l' := #[.val (.ref a1), .val (.int (2 : Int32)), .val (.long (-2305842644141473791 : Int64)), .second, .val (.int (3 : Int32)), .unset, .unset, .unset, .unset]) rfl ?_
    show Steps p.tables e below (T173.setTop (mkF m 60 #[.val (.ref a1), .val (.int (2 : Int32)), .val (.long (-2305842644141473791 : Int64)), .second, .val (.int (3 : Int32)), .unset, .unset, .unset, .unset] [])) t
    refine XS.iinc X173.here hx rfl (hb hby d1_60) rfl (l' := #[.val (.ref a1), .val (.int (2 : Int32)), .val (.long (-2305842644141473791 : Int64)), .second, .val (.int (4 : Int32)), .unset, .unset, .unset, .unset]) rfl ?_
    show Steps p.tables e below (T173.setTop (mkF m 63 #[.val (.ref a1), .val (.int (2 : Int32)), .val (.long (-2305842644141473791 : Int64)), .second, .val (.int (4 : Int32)), .unset, .unset, .unset, .unset] [])) t
    refine XS.goto X173.here hx rfl (pc0 := 63) (pc' := 41) rfl (hb hby d1_63) (by decide) (by decide) ?_
    show Steps p.tables e below (T173.setTop (mkF m 41 #[.val (.ref a1), .val (.int (2 : Int32)), .val (.long (-2305842644141473791 : Int64)), .second, .val (.int (4 : Int32)), .unset, .unset, .unset, .unset] [])) t
    refine XS.iload X173.here hx rfl (hb hby d1_41) rfl ?_
    show Steps p.tables e below (T173.setTop (mkF m 43 #[.val (.ref a1), .val (.int (2 : Int32)), .val (.long (-2305842644141473791 : Int64)), .second, .val (.int (4 : Int32)), .unset, .unset, .unset, .unset] [(.int (4 : Int32))])) t
    refine XS.iconst X173.here hx rfl (hb hby d1_43) ?_
    show Steps p.tables e below (T173.setTop (mkF m 44 #[.val (.ref a1), .val (.int (2 : Int32)), .val (.long (-2305842644141473791 : Int64)), .second, .val (.int (4 : Int32)), .unset, .unset, .unset, .unset] [(.int (5 : Int32)), (.int (4 : Int32))])) t
    refine XS.icmpNo X173.here hx rfl (hb hby d1_44) rfl (tlt (by decide : (4 : Int32) < (5 : Int32))).2.1 ?_
    show Steps p.tables e below (T173.setTop (mkF m 47 #[.val (.ref a1), .val (.int (2 : Int32)), .val (.long (-2305842644141473791 : Int64)), .second, .val (.int (4 : Int32)), .unset, .unset, .unset, .unset] [])) t
    refine XS.lloadN X173.here hx rfl (hb hby d1_47) rfl ?_
    show Steps p.tables e below (T173.setTop (mkF m 48 #[.val (.ref a1), .val (.int (2 : Int32)), .val (.long (-2305842644141473791 : Int64)), .second, .val (.int (4 : Int32)), .unset, .unset, .unset, .unset] [(.long (-2305842644141473791 : Int64))])) t
    refine X173.ldc2Long hx hown (mvT hZ (own_i hw 16 rfl)) (g := (mkF m 48 #[.val (.ref a1), .val (.int (2 : Int32)), .val (.long (-2305842644141473791 : Int64)), .second, .val (.int (4 : Int32)), .unset, .unset, .unset, .unset] [(.long (-2305842644141473791 : Int64))])) rfl (hb hby d1_48) _ ?_
    show Steps p.tables e below (T173.setTop (mkF m 51 #[.val (.ref a1), .val (.int (2 : Int32)), .val (.long (-2305842644141473791 : Int64)), .second, .val (.int (4 : Int32)), .unset, .unset, .unset, .unset] [(.long (2 : Int64)), (.long (-2305842644141473791 : Int64))])) t
    refine XS.aloadN X173.here hx rfl (hb hby d1_51) rfl rfl ?_
    show Steps p.tables e below (T173.setTop (mkF m 52 #[.val (.ref a1), .val (.int (2 : Int32)), .val (.long (-2305842644141473791 : Int64)), .second, .val (.int (4 : Int32)), .unset, .unset, .unset, .unset] [(.ref a1), (.long (2 : Int64)), (.long (-2305842644141473791 : Int64))])) t
    refine st180 _ ?_
    show Steps p.tables e below (T180.setTop (mkF m 55 #[.val (.ref a1), .val (.int (2 : Int32)), .val (.long (-2305842644141473791 : Int64)), .second, .val (.int (4 : Int32)), .unset, .unset, .unset, .unset] [(.long (2305842644141473793 : Int64)), (.long (2 : Int64)), (.long (-2305842644141473791 : Int64))])) t
    refine XS.lloadN X180.here hx rfl (hb hby d1_55) rfl ?_
    show Steps p.tables e below (T180.setTop (mkF m 56 #[.val (.ref a1), .val (.int (2 : Int32)), .val (.long (-2305842644141473791 : Int64)), .second, .val (.int (4 : Int32)), .unset, .unset, .unset, .unset] [(.long (-2305842644141473791 : Int64)), (.long (2305842644141473793 : Int64)), (.long (2 : Int64)), (.long (-2305842644141473791 : Int64))])) t
    refine XS.lmul X180.here hx rfl (hb hby d1_56) rfl ?_
    exact k)
  have pre182 : ∀ t, Steps p.tables e below (T180.setTop (mkF m 57 #[.val (.ref a1), .val (.int (2 : Int32)), .val (.long (-2305842644141473791 : Int64)), .second, .val (.int (4 : Int32)), .unset, .unset, .unset, .unset] [(.long (1 : Int64)), (.long (2 : Int64)), (.long (-2305842644141473791 : Int64))])) t → Steps p.tables e below (s₁.setTop (entryFrame m #[(.ref a1), (.int (2 : Int32))] 9)) t := fun t k => pre181 t (by rw [show ((2305842644141473793 : Int64) * (-2305842644141473791 : Int64)) = (1 : Int64) from (by decide +kernel)]; exact k)
  have pre183 : ∀ t, Steps p.tables e below (T180.setTop (mkF m 58 #[.val (.ref a1), .val (.int (2 : Int32)), .val (.long (-2305842644141473791 : Int64)), .second, .val (.int (4 : Int32)), .unset, .unset, .unset, .unset] [(.long ((2 : Int64) - (1 : Int64))), (.long (-2305842644141473791 : Int64))])) t → Steps p.tables e below (s₁.setTop (entryFrame m #[(.ref a1), (.int (2 : Int32))] 9)) t := fun t k => pre182 t (by
    show Steps p.tables e below (T180.setTop (mkF m 57 #[.val (.ref a1), .val (.int (2 : Int32)), .val (.long (-2305842644141473791 : Int64)), .second, .val (.int (4 : Int32)), .unset, .unset, .unset, .unset] [(.long (1 : Int64)), (.long (2 : Int64)), (.long (-2305842644141473791 : Int64))])) t
    refine XS.lsub X180.here hx rfl (hb hby d1_57) rfl ?_
    exact k)
  have pre184 : ∀ t, Steps p.tables e below (T180.setTop (mkF m 58 #[.val (.ref a1), .val (.int (2 : Int32)), .val (.long (-2305842644141473791 : Int64)), .second, .val (.int (4 : Int32)), .unset, .unset, .unset, .unset] [(.long (1 : Int64)), (.long (-2305842644141473791 : Int64))])) t → Steps p.tables e below (s₁.setTop (entryFrame m #[(.ref a1), (.int (2 : Int32))] 9)) t := fun t k => pre183 t (by rw [show ((2 : Int64) - (1 : Int64)) = (1 : Int64) from (by decide +kernel)]; exact k)
  have pre185 : ∀ t, Steps p.tables e below (T180.setTop (mkF m 59 #[.val (.ref a1), .val (.int (2 : Int32)), .val (.long (-2305842644141473791 : Int64)), .second, .val (.int (4 : Int32)), .unset, .unset, .unset, .unset] [(.long ((-2305842644141473791 : Int64) * (1 : Int64)))])) t → Steps p.tables e below (s₁.setTop (entryFrame m #[(.ref a1), (.int (2 : Int32))] 9)) t := fun t k => pre184 t (by
    show Steps p.tables e below (T180.setTop (mkF m 58 #[.val (.ref a1), .val (.int (2 : Int32)), .val (.long (-2305842644141473791 : Int64)), .second, .val (.int (4 : Int32)), .unset, .unset, .unset, .unset] [(.long (1 : Int64)), (.long (-2305842644141473791 : Int64))])) t
    refine XS.lmul X180.here hx rfl (hb hby d1_58) rfl ?_
    exact k)
  have pre186 : ∀ t, Steps p.tables e below (T180.setTop (mkF m 59 #[.val (.ref a1), .val (.int (2 : Int32)), .val (.long (-2305842644141473791 : Int64)), .second, .val (.int (4 : Int32)), .unset, .unset, .unset, .unset] [(.long (-2305842644141473791 : Int64))])) t → Steps p.tables e below (s₁.setTop (entryFrame m #[(.ref a1), (.int (2 : Int32))] 9)) t := fun t k => pre185 t (by rw [show ((-2305842644141473791 : Int64) * (1 : Int64)) = (-2305842644141473791 : Int64) from (by decide +kernel)]; exact k)
  obtain ⟨T187, h187, X187, e187, W187, st187⟩ := putF X180 hx hZ hown (host := "") (Or.inl (own_i hw 19 rfl)) Via.refl e180 f144 f146 (Or.inr ⟨(own_i hw 20 rfl), rfl, hnm⟩) (own_i hw 1 rfl) (ty := .long) (by decide) rfl rfl (g := (mkF m 68 #[.val (.ref a1), .val (.int (2 : Int32)), .val (.long (-2305842644141473791 : Int64)), .second, .val (.int (5 : Int32)), .unset, .unset, .unset, .unset] [(.long (-2305842644141473791 : Int64)), (.ref a1)])) rfl rfl (hb hby d1_68)
  have Fw187 := f144.same W187
  have N187 := Fr.snoc X187 N141 g1
  have f188 := Nat.le_trans f142 (Keep.of_wr W187).1
  have f189 := f143.wr W187 g1
  have f190 := f145.other W187 (Or.inr (slot_ne (Or.inr (own_i hw 30 rfl)) (Or.inr (own_i hw 20 rfl)) (by decide) (t := .long) (t' := .long) (by decide) (by decide)))
  have f191 := f146.wr W187
  have f192 := f147.wr W187 (Or.inl (List.mem_of_getElem? (i := 0) rfl))
  have f193 := f148.other W187 (Ne.symm ne104)
  have f194 := f149.other W187 (Or.inr (slot_ne (Or.inr (own_i hw 11 rfl)) (Or.inr (own_i hw 20 rfl)) (by decide) (t := (.array .long)) (t' := .long) (by decide) (by decide)))
  have f195 := f150.other W187 (Or.inr (slot_ne (Or.inr (own_i hw 15 rfl)) (Or.inr (own_i hw 20 rfl)) (by decide) (t := .long) (t' := .long) (by decide) (by decide)))
  have f196 := Fw141.other W187 (Or.inr (slot_ne (Or.inr (own_i hw 18 rfl)) (Or.inr (own_i hw 20 rfl)) (by decide) (t := .long) (t' := .long) (by decide) (by decide)))
  obtain ⟨T197, X197, e197, st197⟩ := getF X187 hx hZ hown (host := "") (Or.inl (own_i hw 14 rfl)) Via.refl e187 f195 (g := (mkF m 72 #[.val (.ref a1), .val (.int (2 : Int32)), .val (.long (-2305842644141473791 : Int64)), .second, .val (.int (5 : Int32)), .unset, .unset, .unset, .unset] [(.ref a1)])) rfl rfl (hb hby d1_72)
  have pre198 : ∀ t, Steps p.tables e below (T197.setTop (mkF m 76 #[.val (.ref a1), .val (.int (2 : Int32)), .val (.long (-2305842644141473791 : Int64)), .second, .val (.int (5 : Int32)), .unset, .unset, .unset, .unset] [(.long (-(2305842644141473793 : Int64)))])) t → Steps p.tables e below (s₁.setTop (entryFrame m #[(.ref a1), (.int (2 : Int32))] 9)) t := fun t k => pre186 t (by
    show Steps p.tables e below (T180.setTop (mkF m 59 #[.val (.ref a1), .val (.int (2 : Int32)), .val (.long (-2305842644141473791 : Int64)), .second, .val (.int (4 : Int32)), .unset, .unset, .unset, .unset] [(.long (-2305842644141473791 : Int64))])) t
    refine XS.lstoreN X180.here hx rfl (hb hby d1_59) rfl (l' := #[.val (.ref a1), .val (.int (2 : Int32)), .val (.long (-2305842644141473791 : Int64)), .second, .val (.int (4 : Int32)), .unset, .unset, .unset, .unset]) rfl ?_
    show Steps p.tables e below (T180.setTop (mkF m 60 #[.val (.ref a1), .val (.int (2 : Int32)), .val (.long (-2305842644141473791 : Int64)), .second, .val (.int (4 : Int32)), .unset, .unset, .unset, .unset] [])) t
    refine XS.iinc X180.here hx rfl (hb hby d1_60) rfl (l' := #[.val (.ref a1), .val (.int (2 : Int32)), .val (.long (-2305842644141473791 : Int64)), .second, .val (.int (5 : Int32)), .unset, .unset, .unset, .unset]) rfl ?_
    show Steps p.tables e below (T180.setTop (mkF m 63 #[.val (.ref a1), .val (.int (2 : Int32)), .val (.long (-2305842644141473791 : Int64)), .second, .val (.int (5 : Int32)), .unset, .unset, .unset, .unset] [])) t
    refine XS.goto X180.here hx rfl (pc0 := 63) (pc' := 41) rfl (hb hby d1_63) (by decide) (by decide) ?_
    show Steps p.tables e below (T180.setTop (mkF m 41 #[.val (.ref a1), .val (.int (2 : Int32)), .val (.long (-2305842644141473791 : Int64)), .second, .val (.int (5 : Int32)), .unset, .unset, .unset, .unset] [])) t
    refine XS.iload X180.here hx rfl (hb hby d1_41) rfl ?_
    show Steps p.tables e below (T180.setTop (mkF m 43 #[.val (.ref a1), .val (.int (2 : Int32)), .val (.long (-2305842644141473791 : Int64)), .second, .val (.int (5 : Int32)), .unset, .unset, .unset, .unset] [(.int (5 : Int32))])) t
    refine XS.iconst X180.here hx rfl (hb hby d1_43) ?_
    show Steps p.tables e below (T180.setTop (mkF m 44 #[.val (.ref a1), .val (.int (2 : Int32)), .val (.long (-2305842644141473791 : Int64)), .second, .val (.int (5 : Int32)), .unset, .unset, .unset, .unset] [(.int (5 : Int32)), (.int (5 : Int32))])) t
    refine XS.icmpYes X180.here hx rfl (pc0 := 44) (pc' := 66) rfl (hb hby d1_44) rfl (flt (by decide : ¬ ((5 : Int32) < (5 : Int32)))).2.1 (by decide) (by decide) ?_
    show Steps p.tables e below (T180.setTop (mkF m 66 #[.val (.ref a1), .val (.int (2 : Int32)), .val (.long (-2305842644141473791 : Int64)), .second, .val (.int (5 : Int32)), .unset, .unset, .unset, .unset] [])) t
    refine XS.aloadN X180.here hx rfl (hb hby d1_66) rfl rfl ?_
    show Steps p.tables e below (T180.setTop (mkF m 67 #[.val (.ref a1), .val (.int (2 : Int32)), .val (.long (-2305842644141473791 : Int64)), .second, .val (.int (5 : Int32)), .unset, .unset, .unset, .unset] [(.ref a1)])) t
    refine XS.lloadN X180.here hx rfl (hb hby d1_67) rfl ?_
    show Steps p.tables e below (T180.setTop (mkF m 68 #[.val (.ref a1), .val (.int (2 : Int32)), .val (.long (-2305842644141473791 : Int64)), .second, .val (.int (5 : Int32)), .unset, .unset, .unset, .unset] [(.long (-2305842644141473791 : Int64)), (.ref a1)])) t
    refine st187 _ ?_
    show Steps p.tables e below (T187.setTop (mkF m 71 #[.val (.ref a1), .val (.int (2 : Int32)), .val (.long (-2305842644141473791 : Int64)), .second, .val (.int (5 : Int32)), .unset, .unset, .unset, .unset] [])) t
    refine XS.aloadN X187.here hx rfl (hb hby d1_71) rfl rfl ?_
    show Steps p.tables e below (T187.setTop (mkF m 72 #[.val (.ref a1), .val (.int (2 : Int32)), .val (.long (-2305842644141473791 : Int64)), .second, .val (.int (5 : Int32)), .unset, .unset, .unset, .unset] [(.ref a1)])) t
    refine st197 _ ?_
    show Steps p.tables e below (T197.setTop (mkF m 75 #[.val (.ref a1), .val (.int (2 : Int32)), .val (.long (-2305842644141473791 : Int64)), .second, .val (.int (5 : Int32)), .unset, .unset, .unset, .unset] [(.long (2305842644141473793 : Int64))])) t
    refine XS.lneg X197.here hx rfl (hb hby d1_75) rfl ?_
    exact k)
  have pre199 : ∀ t, Steps p.tables e below (T197.setTop (mkF m 76 #[.val (.ref a1), .val (.int (2 : Int32)), .val (.long (-2305842644141473791 : Int64)), .second, .val (.int (5 : Int32)), .unset, .unset, .unset, .unset] [(.long (-2305842644141473793 : Int64))])) t → Steps p.tables e below (s₁.setTop (entryFrame m #[(.ref a1), (.int (2 : Int32))] 9)) t := fun t k => pre198 t (by rw [show (-(2305842644141473793 : Int64)) = (-2305842644141473793 : Int64) from (by decide +kernel)]; exact k)
  obtain ⟨T200, X200, e200, st200⟩ := getF X197 hx hZ hown (host := "") (Or.inl (own_i hw 14 rfl)) Via.refl e197 f195 (g := (mkF m 77 #[.val (.ref a1), .val (.int (2 : Int32)), .val (.long (-2305842644141473791 : Int64)), .second, .val (.int (5 : Int32)), .unset, .unset, .unset, .unset] [(.ref a1), (.long (-2305842644141473793 : Int64))])) rfl rfl (hb hby d1_77)
  obtain ⟨_, _, ⟨T201, L201, k201, n201⟩, -, X201, ⟨Lc201, hQ201, l201, y201, z201⟩, st201⟩ := Jvm.LawKit.callS X200 hx (y := (⟨"java/lang/Long", "remainderUnsigned", "(JJ)J"⟩ : MethodName)) hown (mvT hZ (own_i hw 21 rfl)) (mvT hZ (own_i hw 22 rfl)) (mvT hZ (own_i hw 23 rfl)) (mvT hZ (own_i hw 24 rfl)) (by decide) (backOf (W := 0) (rmRU l Z a0 hw [] (-2305842644141473793 : Int64) (2305842644141473793 : Int64) h187 n0 f188 (by decide) (by decide)) hZ (own_i hw 24 rfl) (own_i hw 23 rfl) (by decide) (by decide)) (g := (mkF m 80 #[.val (.ref a1), .val (.int (2 : Int32)), .val (.long (-2305842644141473791 : Int64)), .second, .val (.int (5 : Int32)), .unset, .unset, .unset, .unset] [(.long (2305842644141473793 : Int64)), (.long (-2305842644141473793 : Int64))])) rfl (by rw [hml]; rfl) (argsL := [(.long (-2305842644141473793 : Int64)), (.long (2305842644141473793 : Int64))]) (rest := []) (lenOf pd_0 rfl) rfl (by show 2 * 0 + _ ≤ _; exact Nat.le_of_eq rfl) (hb hby d1_80) (fun _ _ => ⟨rfl, e200, (by decide : 1 + 0 ≤ _), (by decide : 33 + 0 ≤ _)⟩)
  dsimp only [Pt.U, Pt.locs, Pt.cells, Pt.slots] at X201 l201 y201 z201 st201 hQ201
  subst l201 y201 z201
  obtain ⟨rfl, N201q, e201⟩ := hQ201
  have N201 := Fr.app N187 N201q
  have pre202 : ∀ t, Steps p.tables e below (T201.setTop (mkF m 83 #[.val (.ref a1), .val (.int (2 : Int32)), .val (.long (-2305842644141473791 : Int64)), .second, .val (.int (5 : Int32)), .unset, .unset, .unset, .unset] [(.long (own_ru (-2305842644141473793 : Int64) (2305842644141473793 : Int64)))])) t → Steps p.tables e below (s₁.setTop (entryFrame m #[(.ref a1), (.int (2 : Int32))] 9)) t := fun t k => pre199 t (by
    show Steps p.tables e below (T197.setTop (mkF m 76 #[.val (.ref a1), .val (.int (2 : Int32)), .val (.long (-2305842644141473791 : Int64)), .second, .val (.int (5 : Int32)), .unset, .unset, .unset, .unset] [(.long (-2305842644141473793 : Int64))])) t
    refine XS.aloadN X197.here hx rfl (hb hby d1_76) rfl rfl ?_
    show Steps p.tables e below (T197.setTop (mkF m 77 #[.val (.ref a1), .val (.int (2 : Int32)), .val (.long (-2305842644141473791 : Int64)), .second, .val (.int (5 : Int32)), .unset, .unset, .unset, .unset] [(.ref a1), (.long (-2305842644141473793 : Int64))])) t
    refine st200 _ ?_
    show Steps p.tables e below (T200.setTop (mkF m 80 #[.val (.ref a1), .val (.int (2 : Int32)), .val (.long (-2305842644141473791 : Int64)), .second, .val (.int (5 : Int32)), .unset, .unset, .unset, .unset] [(.long (2305842644141473793 : Int64)), (.long (-2305842644141473793 : Int64))])) t
    refine st201 _ ?_
    exact k)
  have pre203 : ∀ t, Steps p.tables e below (T201.setTop (mkF m 83 #[.val (.ref a1), .val (.int (2 : Int32)), .val (.long (-2305842644141473791 : Int64)), .second, .val (.int (5 : Int32)), .unset, .unset, .unset, .unset] [(.long (2920577761272 : Int64))])) t → Steps p.tables e below (s₁.setTop (entryFrame m #[(.ref a1), (.int (2 : Int32))] 9)) t := fun t k => pre202 t (by rw [show (own_ru (-2305842644141473793 : Int64) (2305842644141473793 : Int64)) = (2920577761272 : Int64) from (by decide +kernel)]; exact k)
  have pre204 : ∀ t, Steps p.tables e below (T201.setTop (mkF m 88 #[.val (.ref a1), .val (.int (2 : Int32)), .val (.long (-2305842644141473791 : Int64)), .second, .val (.long (2920577761272 : Int64)), .second, .val (.int (0 : Int32)), .unset, .unset] [])) t → Steps p.tables e below (s₁.setTop (entryFrame m #[(.ref a1), (.int (2 : Int32))] 9)) t := fun t k => pre203 t (by
    show Steps p.tables e below (T201.setTop (mkF m 83 #[.val (.ref a1), .val (.int (2 : Int32)), .val (.long (-2305842644141473791 : Int64)), .second, .val (.int (5 : Int32)), .unset, .unset, .unset, .unset] [(.long (2920577761272 : Int64))])) t
    refine XS.lstore X201.here hx rfl (hb hby d1_83) rfl (l' := #[.val (.ref a1), .val (.int (2 : Int32)), .val (.long (-2305842644141473791 : Int64)), .second, .val (.long (2920577761272 : Int64)), .second, .unset, .unset, .unset]) rfl ?_
    show Steps p.tables e below (T201.setTop (mkF m 85 #[.val (.ref a1), .val (.int (2 : Int32)), .val (.long (-2305842644141473791 : Int64)), .second, .val (.long (2920577761272 : Int64)), .second, .unset, .unset, .unset] [])) t
    refine XS.iconst X201.here hx rfl (hb hby d1_85) ?_
    show Steps p.tables e below (T201.setTop (mkF m 86 #[.val (.ref a1), .val (.int (2 : Int32)), .val (.long (-2305842644141473791 : Int64)), .second, .val (.long (2920577761272 : Int64)), .second, .unset, .unset, .unset] [(.int (0 : Int32))])) t
    refine XS.istore X201.here hx rfl (hb hby d1_86) rfl (l' := #[.val (.ref a1), .val (.int (2 : Int32)), .val (.long (-2305842644141473791 : Int64)), .second, .val (.long (2920577761272 : Int64)), .second, .val (.int (0 : Int32)), .unset, .unset]) rfl ?_
    exact k)
  have hl205 : ∀ (nn : Nat) (T205 : State) (L205 : List Loc) (sqv : Int64) (ii : Int32) (k : Nat), Stand p l e ({ frames := 5, cells := 1, slots := 33, locals := 105 } : Room) s m #[(.ref a1), (.int (2 : Int32))] below meth c T205 L205 1 33 → T205.heap = h187 → Fr n0 L205 → (sqv = own_dbl (2920577761272 : Int64) (2305842644141473793 : Int64) k) → (ii = Int32.ofNat k) → (k ≤ 64) → (64 - k) < nn → (∀ t, Steps p.tables e below (T205.setTop (mkF m 88 #[.val (.ref a1), .val (.int (2 : Int32)), .val (.long (-2305842644141473791 : Int64)), .second, .val (.long sqv), .second, .val (.int ii), .unset, .unset] [])) t → Steps p.tables e below (s₁.setTop (entryFrame m #[(.ref a1), (.int (2 : Int32))] 9)) t) → ∃ s₂ o, Steps p.tables e below (s₁.setTop (entryFrame m #[(.ref a1), (.int (2 : Int32))] 9)) s₂ ∧ s₂.status = .running ∧ Ended s₂ below o ∧ ∃ v L, o = .returned v ∧ QI2 Z a1 wP kP wN kN h0 n0 v s₂.heap L ∧ FrameEnd s o s₂ L ({ frames := 5, cells := 1, slots := 33, locals := 105 } : Room).cells ({ frames := 5, cells := 1, slots := 33, locals := 105 } : Room).slots := by
    intro nn
    induction nn with
    | zero => intro T205 L205 sqv ii k X205 e205 N205 hq hi hk hm205 pre205; exact absurd hm205 (Nat.not_lt_zero _)
    | succ nn ih205 =>
      intro T205 L205 sqv ii k X205 e205 N205 hq hi hk hm205 pre205
      have pre207 : ∀ t, Steps p.tables e below (T205.setTop (mkF m 92 #[.val (.ref a1), .val (.int (2 : Int32)), .val (.long (-2305842644141473791 : Int64)), .second, .val (.long sqv), .second, .val (.int ii), .unset, .unset] [(.int (64 : Int32)), (.int ii)])) t → Steps p.tables e below (s₁.setTop (entryFrame m #[(.ref a1), (.int (2 : Int32))] 9)) t := fun t k => pre205 t (by
        show Steps p.tables e below (T205.setTop (mkF m 88 #[.val (.ref a1), .val (.int (2 : Int32)), .val (.long (-2305842644141473791 : Int64)), .second, .val (.long sqv), .second, .val (.int ii), .unset, .unset] [])) t
        refine XS.iload X205.here hx rfl (hb hby d1_88) rfl ?_
        show Steps p.tables e below (T205.setTop (mkF m 90 #[.val (.ref a1), .val (.int (2 : Int32)), .val (.long (-2305842644141473791 : Int64)), .second, .val (.long sqv), .second, .val (.int ii), .unset, .unset] [(.int ii)])) t
        refine XS.bipush X205.here hx rfl (hb hby d1_90) ?_
        exact k)
      by_cases hc206 : ii < (64 : Int32)
      · obtain ⟨T208, X208, e208, st208⟩ := getF X205 hx hZ hown (host := "") (Or.inl (own_i hw 14 rfl)) Via.refl e205 f195 (g := (mkF m 100 #[.val (.ref a1), .val (.int (2 : Int32)), .val (.long (-2305842644141473791 : Int64)), .second, .val (.long sqv), .second, .val (.int ii), .unset, .unset] [(.ref a1), (.long (sqv <<< ((1 : Int32) &&& 0x3f).toInt64))])) rfl rfl (hb hby d1_100)
        obtain ⟨_, _, ⟨T209, L209, k209, n209⟩, -, X209, ⟨Lc209, hQ209, l209, y209, z209⟩, st209⟩ := Jvm.LawKit.callS X208 hx (y := (⟨"com/example/libsld/libsld/PrimeField", "subtractIfAbove", "(JJ)J"⟩ : MethodName)) hown (mvT hZ (own_i hw 26 rfl)) (mvT hZ (own_i hw 27 rfl)) (mvT hZ (own_i hw 2 rfl)) (mvT hZ (own_i hw 28 rfl)) (by decide) (backOf (W := 0) (rmSub l Z a0 hw [] (sqv <<< ((1 : Int32) &&& 0x3f).toInt64) (2305842644141473793 : Int64) h187 n0 f188 ) hZ (own_i hw 28 rfl) (own_i hw 2 rfl) (by decide) (by decide)) (g := (mkF m 103 #[.val (.ref a1), .val (.int (2 : Int32)), .val (.long (-2305842644141473791 : Int64)), .second, .val (.long sqv), .second, .val (.int ii), .unset, .unset] [(.long (2305842644141473793 : Int64)), (.long (sqv <<< ((1 : Int32) &&& 0x3f).toInt64))])) rfl (by rw [hml]; rfl) (argsL := [(.long (sqv <<< ((1 : Int32) &&& 0x3f).toInt64)), (.long (2305842644141473793 : Int64))]) (rest := []) (lenOf pd_0 rfl) rfl (by show 2 * 0 + _ ≤ _; exact Nat.le_of_eq rfl) (hb hby d1_103) (fun _ _ => ⟨rfl, e208, (by decide : 1 + 0 ≤ _), (by decide : 33 + 0 ≤ _)⟩)
        dsimp only [Pt.U, Pt.locs, Pt.cells, Pt.slots] at X209 l209 y209 z209 st209 hQ209
        subst l209 y209 z209
        obtain ⟨rfl, N209q, e209⟩ := hQ209
        have N209 := Fr.app N205 N209q
        have pre210 : ∀ t, Steps p.tables e below (T209.setTop (mkF m 88 #[.val (.ref a1), .val (.int (2 : Int32)), .val (.long (-2305842644141473791 : Int64)), .second, .val (.long (own_sub (sqv <<< ((1 : Int32) &&& 0x3f).toInt64) (2305842644141473793 : Int64))), .second, .val (.int (ii + (1 : Int32))), .unset, .unset] [])) t → Steps p.tables e below (s₁.setTop (entryFrame m #[(.ref a1), (.int (2 : Int32))] 9)) t := fun t k => pre207 t (by
          show Steps p.tables e below (T205.setTop (mkF m 92 #[.val (.ref a1), .val (.int (2 : Int32)), .val (.long (-2305842644141473791 : Int64)), .second, .val (.long sqv), .second, .val (.int ii), .unset, .unset] [(.int (64 : Int32)), (.int ii)])) t
          refine XS.icmpNo X205.here hx rfl (hb hby d1_92) rfl (tlt hc206).2.1 ?_
          show Steps p.tables e below (T205.setTop (mkF m 95 #[.val (.ref a1), .val (.int (2 : Int32)), .val (.long (-2305842644141473791 : Int64)), .second, .val (.long sqv), .second, .val (.int ii), .unset, .unset] [])) t
          refine XS.lload X205.here hx rfl (hb hby d1_95) rfl ?_
          show Steps p.tables e below (T205.setTop (mkF m 97 #[.val (.ref a1), .val (.int (2 : Int32)), .val (.long (-2305842644141473791 : Int64)), .second, .val (.long sqv), .second, .val (.int ii), .unset, .unset] [(.long sqv)])) t
          refine XS.iconst X205.here hx rfl (hb hby d1_97) ?_
          show Steps p.tables e below (T205.setTop (mkF m 98 #[.val (.ref a1), .val (.int (2 : Int32)), .val (.long (-2305842644141473791 : Int64)), .second, .val (.long sqv), .second, .val (.int ii), .unset, .unset] [(.int (1 : Int32)), (.long sqv)])) t
          refine XS.lshl X205.here hx rfl (hb hby d1_98) rfl ?_
          show Steps p.tables e below (T205.setTop (mkF m 99 #[.val (.ref a1), .val (.int (2 : Int32)), .val (.long (-2305842644141473791 : Int64)), .second, .val (.long sqv), .second, .val (.int ii), .unset, .unset] [(.long (sqv <<< ((1 : Int32) &&& 0x3f).toInt64))])) t
          refine XS.aloadN X205.here hx rfl (hb hby d1_99) rfl rfl ?_
          show Steps p.tables e below (T205.setTop (mkF m 100 #[.val (.ref a1), .val (.int (2 : Int32)), .val (.long (-2305842644141473791 : Int64)), .second, .val (.long sqv), .second, .val (.int ii), .unset, .unset] [(.ref a1), (.long (sqv <<< ((1 : Int32) &&& 0x3f).toInt64))])) t
          refine st208 _ ?_
          show Steps p.tables e below (T208.setTop (mkF m 103 #[.val (.ref a1), .val (.int (2 : Int32)), .val (.long (-2305842644141473791 : Int64)), .second, .val (.long sqv), .second, .val (.int ii), .unset, .unset] [(.long (2305842644141473793 : Int64)), (.long (sqv <<< ((1 : Int32) &&& 0x3f).toInt64))])) t
          refine st209 _ ?_
          show Steps p.tables e below (T209.setTop (mkF m 106 #[.val (.ref a1), .val (.int (2 : Int32)), .val (.long (-2305842644141473791 : Int64)), .second, .val (.long sqv), .second, .val (.int ii), .unset, .unset] [(.long (own_sub (sqv <<< ((1 : Int32) &&& 0x3f).toInt64) (2305842644141473793 : Int64)))])) t
          refine XS.lstore X209.here hx rfl (hb hby d1_106) rfl (l' := #[.val (.ref a1), .val (.int (2 : Int32)), .val (.long (-2305842644141473791 : Int64)), .second, .val (.long (own_sub (sqv <<< ((1 : Int32) &&& 0x3f).toInt64) (2305842644141473793 : Int64))), .second, .val (.int ii), .unset, .unset]) rfl ?_
          show Steps p.tables e below (T209.setTop (mkF m 108 #[.val (.ref a1), .val (.int (2 : Int32)), .val (.long (-2305842644141473791 : Int64)), .second, .val (.long (own_sub (sqv <<< ((1 : Int32) &&& 0x3f).toInt64) (2305842644141473793 : Int64))), .second, .val (.int ii), .unset, .unset] [])) t
          refine XS.iinc X209.here hx rfl (hb hby d1_108) rfl (l' := #[.val (.ref a1), .val (.int (2 : Int32)), .val (.long (-2305842644141473791 : Int64)), .second, .val (.long (own_sub (sqv <<< ((1 : Int32) &&& 0x3f).toInt64) (2305842644141473793 : Int64))), .second, .val (.int (ii + (1 : Int32))), .unset, .unset]) rfl ?_
          show Steps p.tables e below (T209.setTop (mkF m 111 #[.val (.ref a1), .val (.int (2 : Int32)), .val (.long (-2305842644141473791 : Int64)), .second, .val (.long (own_sub (sqv <<< ((1 : Int32) &&& 0x3f).toInt64) (2305842644141473793 : Int64))), .second, .val (.int (ii + (1 : Int32))), .unset, .unset] [])) t
          refine XS.goto X209.here hx rfl (pc0 := 111) (pc' := 88) rfl (hb hby d1_111) (by decide) (by decide) ?_
          exact k)
        exact ih205 _ _ _ _ (k + 1) X209 e209 N209 (congrArg (fun z => own_sub (z <<< ((1 : Int32) &&& 0x3f).toInt64) (2305842644141473793 : Int64)) hq) (own_inc hi) (own_k64 hi hk hc206) (Nat.lt_of_lt_of_le (own_m64 hi hk hc206) (Nat.lt_succ_iff.mp hm205)) pre210
      · have pre211 : ∀ t, Steps p.tables e below (T205.setTop (mkF m 114 #[.val (.ref a1), .val (.int (2 : Int32)), .val (.long (-2305842644141473791 : Int64)), .second, .val (.long sqv), .second, .val (.int ii), .unset, .unset] [])) t → Steps p.tables e below (s₁.setTop (entryFrame m #[(.ref a1), (.int (2 : Int32))] 9)) t := fun t k => pre207 t (by
          show Steps p.tables e below (T205.setTop (mkF m 92 #[.val (.ref a1), .val (.int (2 : Int32)), .val (.long (-2305842644141473791 : Int64)), .second, .val (.long sqv), .second, .val (.int ii), .unset, .unset] [(.int (64 : Int32)), (.int ii)])) t
          refine XS.icmpYes X205.here hx rfl (pc0 := 92) (pc' := 114) rfl (hb hby d1_92) rfl (flt hc206).2.1 (by decide) (by decide) ?_
          exact k)
        have pre212 : ∀ t, Steps p.tables e below (T205.setTop (mkF m 114 #[.val (.ref a1), .val (.int (2 : Int32)), .val (.long (-2305842644141473791 : Int64)), .second, .val (.long (1350428427567992384 : Int64)), .second, .val (.int ii), .unset, .unset] [])) t → Steps p.tables e below (s₁.setTop (entryFrame m #[(.ref a1), (.int (2 : Int32))] 9)) t := fun t k => pre211 t (by rw [show sqv = (1350428427567992384 : Int64) from (own_dend hq hi hk hc206 (by decide +kernel))]; exact k)
        obtain ⟨T213, h213, X213, e213, W213, st213⟩ := putF X205 hx hZ hown (host := "") (Or.inl (own_i hw 29 rfl)) Via.refl e205 f190 f191 (Or.inr ⟨(own_i hw 30 rfl), rfl, hnm⟩) (own_i hw 1 rfl) (ty := .long) (by decide) rfl rfl (g := (mkF m 117 #[.val (.ref a1), .val (.int (2 : Int32)), .val (.long (-2305842644141473791 : Int64)), .second, .val (.long (1350428427567992384 : Int64)), .second, .val (.int ii), .unset, .unset] [(.long (1350428427567992384 : Int64)), (.ref a1)])) rfl rfl (hb hby d1_117)
        have Fw213 := f190.same W213
        have N213 := Fr.snoc X213 N205 g1
        have f214 := Nat.le_trans f188 (Keep.of_wr W213).1
        have f215 := f189.wr W213 g1
        have f216 := f191.wr W213
        have f217 := f192.wr W213 (Or.inl (List.mem_of_getElem? (i := 0) rfl))
        have f218 := f193.other W213 (Ne.symm ne104)
        have f219 := f194.other W213 (Or.inr (slot_ne (Or.inr (own_i hw 11 rfl)) (Or.inr (own_i hw 30 rfl)) (by decide) (t := (.array .long)) (t' := .long) (by decide) (by decide)))
        have f220 := f195.other W213 (Or.inr (slot_ne (Or.inr (own_i hw 15 rfl)) (Or.inr (own_i hw 30 rfl)) (by decide) (t := .long) (t' := .long) (by decide) (by decide)))
        have f221 := f196.other W213 (Or.inr (slot_ne (Or.inr (own_i hw 18 rfl)) (Or.inr (own_i hw 30 rfl)) (by decide) (t := .long) (t' := .long) (by decide) (by decide)))
        have f222 := Fw187.other W213 (Or.inr (slot_ne (Or.inr (own_i hw 20 rfl)) (Or.inr (own_i hw 30 rfl)) (by decide) (t := .long) (t' := .long) (by decide) (by decide)))
        obtain ⟨T223, X223, e223, st223⟩ := getS2 X213 hx hZ hown (host := "") (Or.inl (own_i hw 31 rfl)) Via.refl e213 (SN.ext f215.2) (g := (mkF m 121 #[.val (.ref a1), .val (.int (2 : Int32)), .val (.long (-2305842644141473791 : Int64)), .second, .val (.long (1350428427567992384 : Int64)), .second, .val (.int ii), .unset, .unset] [(.ref a1)])) rfl (hb hby d1_121)
        obtain ⟨cl224, Ar224, q224, S224, N224z, H224, G224⟩ := (id (AN.ext f215.2))
        have hin224 : ¬ ((2 : Int32) < 0 ∨ cl224.slots.size ≤ ((2 : Int32)).toNatClampNeg) := inb_of S224 ⟨by decide, by decide⟩
        have hat224 : cl224.slots[((2 : Int32)).toNatClampNeg]? = some (.long (3 : Int64)) := Has.at H224 hin224 rfl
        obtain ⟨T225, X225, e225, st225⟩ := getF X223 hx hZ hown (host := "") (Or.inl (own_i hw 14 rfl)) Via.refl e223 f220 (g := (mkF m 127 #[.val (.ref a1), .val (.int (2 : Int32)), .val (.long (-2305842644141473791 : Int64)), .second, .val (.long (1350428427567992384 : Int64)), .second, .val (.int ii), .unset, .unset] [(.ref a1), (.long (3 : Int64)), (.ref a1)])) rfl rfl (hb hby d1_127)
        have pre226 : ∀ t, Steps p.tables e below (T225.setTop (mkF m 132 #[.val (.ref a1), .val (.int (2 : Int32)), .val (.long (-2305842644141473791 : Int64)), .second, .val (.long (1350428427567992384 : Int64)), .second, .val (.int ii), .unset, .unset] [(.long ((2305842644141473793 : Int64) - (1 : Int64))), (.long (3 : Int64)), (.ref a1)])) t → Steps p.tables e below (s₁.setTop (entryFrame m #[(.ref a1), (.int (2 : Int32))] 9)) t := fun t k => pre212 t (by
          show Steps p.tables e below (T205.setTop (mkF m 114 #[.val (.ref a1), .val (.int (2 : Int32)), .val (.long (-2305842644141473791 : Int64)), .second, .val (.long (1350428427567992384 : Int64)), .second, .val (.int ii), .unset, .unset] [])) t
          refine XS.aloadN X205.here hx rfl (hb hby d1_114) rfl rfl ?_
          show Steps p.tables e below (T205.setTop (mkF m 115 #[.val (.ref a1), .val (.int (2 : Int32)), .val (.long (-2305842644141473791 : Int64)), .second, .val (.long (1350428427567992384 : Int64)), .second, .val (.int ii), .unset, .unset] [(.ref a1)])) t
          refine XS.lload X205.here hx rfl (hb hby d1_115) rfl ?_
          show Steps p.tables e below (T205.setTop (mkF m 117 #[.val (.ref a1), .val (.int (2 : Int32)), .val (.long (-2305842644141473791 : Int64)), .second, .val (.long (1350428427567992384 : Int64)), .second, .val (.int ii), .unset, .unset] [(.long (1350428427567992384 : Int64)), (.ref a1)])) t
          refine st213 _ ?_
          show Steps p.tables e below (T213.setTop (mkF m 120 #[.val (.ref a1), .val (.int (2 : Int32)), .val (.long (-2305842644141473791 : Int64)), .second, .val (.long (1350428427567992384 : Int64)), .second, .val (.int ii), .unset, .unset] [])) t
          refine XS.aloadN X213.here hx rfl (hb hby d1_120) rfl rfl ?_
          show Steps p.tables e below (T213.setTop (mkF m 121 #[.val (.ref a1), .val (.int (2 : Int32)), .val (.long (-2305842644141473791 : Int64)), .second, .val (.long (1350428427567992384 : Int64)), .second, .val (.int ii), .unset, .unset] [(.ref a1)])) t
          refine st223 _ ?_
          show Steps p.tables e below (T223.setTop (mkF m 124 #[.val (.ref a1), .val (.int (2 : Int32)), .val (.long (-2305842644141473791 : Int64)), .second, .val (.long (1350428427567992384 : Int64)), .second, .val (.int ii), .unset, .unset] [(.ref wN), (.ref a1)])) t
          refine XS.iloadN X223.here hx rfl (hb hby d1_124) rfl ?_
          show Steps p.tables e below (T223.setTop (mkF m 125 #[.val (.ref a1), .val (.int (2 : Int32)), .val (.long (-2305842644141473791 : Int64)), .second, .val (.long (1350428427567992384 : Int64)), .second, .val (.int ii), .unset, .unset] [(.int (2 : Int32)), (.ref wN), (.ref a1)])) t
          refine X223.laload hx (j := (2 : Int32)) (v := (.long (3 : Int64))) (by rw [e223]; exact Ar224.1) (State.isArrayOf_alike hZ.alike Ar224.2.1) Ar224.2.2 hin224 hat224 (g := (mkF m 125 #[.val (.ref a1), .val (.int (2 : Int32)), .val (.long (-2305842644141473791 : Int64)), .second, .val (.long (1350428427567992384 : Int64)), .second, .val (.int ii), .unset, .unset] [(.int (2 : Int32)), (.ref wN), (.ref a1)])) rfl rfl (hb hby d1_125) _ ?_
          show Steps p.tables e below (T223.setTop (mkF m 126 #[.val (.ref a1), .val (.int (2 : Int32)), .val (.long (-2305842644141473791 : Int64)), .second, .val (.long (1350428427567992384 : Int64)), .second, .val (.int ii), .unset, .unset] [(.long (3 : Int64)), (.ref a1)])) t
          refine XS.aloadN X223.here hx rfl (hb hby d1_126) rfl rfl ?_
          show Steps p.tables e below (T223.setTop (mkF m 127 #[.val (.ref a1), .val (.int (2 : Int32)), .val (.long (-2305842644141473791 : Int64)), .second, .val (.long (1350428427567992384 : Int64)), .second, .val (.int ii), .unset, .unset] [(.ref a1), (.long (3 : Int64)), (.ref a1)])) t
          refine st225 _ ?_
          show Steps p.tables e below (T225.setTop (mkF m 130 #[.val (.ref a1), .val (.int (2 : Int32)), .val (.long (-2305842644141473791 : Int64)), .second, .val (.long (1350428427567992384 : Int64)), .second, .val (.int ii), .unset, .unset] [(.long (2305842644141473793 : Int64)), (.long (3 : Int64)), (.ref a1)])) t
          refine XS.lconst X225.here hx rfl (hb hby d1_130) ?_
          show Steps p.tables e below (T225.setTop (mkF m 131 #[.val (.ref a1), .val (.int (2 : Int32)), .val (.long (-2305842644141473791 : Int64)), .second, .val (.long (1350428427567992384 : Int64)), .second, .val (.int ii), .unset, .unset] [(.long (1 : Int64)), (.long (2305842644141473793 : Int64)), (.long (3 : Int64)), (.ref a1)])) t
          refine XS.lsub X225.here hx rfl (hb hby d1_131) rfl ?_
          exact k)
        have pre227 : ∀ t, Steps p.tables e below (T225.setTop (mkF m 132 #[.val (.ref a1), .val (.int (2 : Int32)), .val (.long (-2305842644141473791 : Int64)), .second, .val (.long (1350428427567992384 : Int64)), .second, .val (.int ii), .unset, .unset] [(.long (2305842644141473792 : Int64)), (.long (3 : Int64)), (.ref a1)])) t → Steps p.tables e below (s₁.setTop (entryFrame m #[(.ref a1), (.int (2 : Int32))] 9)) t := fun t k => pre226 t (by rw [show ((2305842644141473793 : Int64) - (1 : Int64)) = (2305842644141473792 : Int64) from (by decide +kernel)]; exact k)
        obtain ⟨cq228, q228, q228'⟩ := f216.cell
        obtain ⟨_, _, ⟨T228, L228, k228, n228⟩, -, X228, ⟨Lc228, hQ228, l228, y228, z228⟩, st228⟩ := X225.privateBack hx (y := (⟨"com/example/libsld/libsld/PrimeField", "power", "(JJ)J"⟩ : MethodName)) hown (mvT hZ (own_i hw 33 rfl)) (mvT hZ (own_i hw 34 rfl)) (mvT hZ (own_sel (y := (⟨"com/example/libsld/libsld/PrimeField", "power", "(JJ)J"⟩ : MethodName)) (own_i hw 34 rfl) (own_i hw 35 rfl) (own_i hw 1 rfl) (by decide))) (Cond.privateMethod_at (mvP hZ (own_i hw 35 rfl) (args := #[]))) (mvT hZ (own_i hw 36 rfl)) (by decide) (backOf (W := 0) (rmPow l Z a0 hw [] a1 (3 : Int64) (((2305842644141473792 : Int64).toUInt64 >>> ((32 : Int32) &&& 0x3f).toInt64.toUInt64).toInt64) (2305842644141473793 : Int64) (-2305842644141473791 : Int64) (1350428427567992384 : Int64) h213 n0 f214 f216 f220 f222 Fw213) hZ (own_i hw 36 rfl) (own_i hw 2 rfl) (by decide) (by decide)) (g := (mkF m 135 #[.val (.ref a1), .val (.int (2 : Int32)), .val (.long (-2305842644141473791 : Int64)), .second, .val (.long (1350428427567992384 : Int64)), .second, .val (.int ii), .unset, .unset] [(.long (((2305842644141473792 : Int64).toUInt64 >>> ((32 : Int32) &&& 0x3f).toInt64.toUInt64).toInt64)), (.long (3 : Int64)), (.ref a1)])) rfl (by rw [hml]; rfl) (Steps.refl _) (a := a1) (by rw [e225]; exact q228) q228' (argsL := [(.long (3 : Int64)), (.long (((2305842644141473792 : Int64).toUInt64 >>> ((32 : Int32) &&& 0x3f).toInt64.toUInt64).toInt64))]) (rest := []) (lenOf pd_0 rfl) rfl (by show 2 * 0 + _ ≤ _; exact Nat.le_of_eq rfl) (hb hby d1_135) (fun _ _ => ⟨rfl, e225, (by decide : 1 + 0 ≤ _), (by decide : 33 + 0 ≤ _)⟩)
        dsimp only [Pt.U, Pt.locs, Pt.cells, Pt.slots] at X228 l228 y228 z228 st228 hQ228
        subst l228 y228 z228
        obtain ⟨x229, rfl, N228q, e228⟩ := hQ228
        have N228 := Fr.app N213 N228q
        have f230 : own_A Z h213 b103 := own_A_of f218
        have pre231 : ∀ t, Steps p.tables e below (T228.setTop (mkF m 144 #[.val (.ref a1), .val (.int (2 : Int32)), .val (.long (-2305842644141473791 : Int64)), .second, .val (.long (1350428427567992384 : Int64)), .second, .val (.long x229), .second, .val (.int (32 : Int32))] [])) t → Steps p.tables e below (s₁.setTop (entryFrame m #[(.ref a1), (.int (2 : Int32))] 9)) t := fun t k => pre227 t (by
          show Steps p.tables e below (T225.setTop (mkF m 132 #[.val (.ref a1), .val (.int (2 : Int32)), .val (.long (-2305842644141473791 : Int64)), .second, .val (.long (1350428427567992384 : Int64)), .second, .val (.int ii), .unset, .unset] [(.long (2305842644141473792 : Int64)), (.long (3 : Int64)), (.ref a1)])) t
          refine XS.bipush X225.here hx rfl (hb hby d1_132) ?_
          show Steps p.tables e below (T225.setTop (mkF m 134 #[.val (.ref a1), .val (.int (2 : Int32)), .val (.long (-2305842644141473791 : Int64)), .second, .val (.long (1350428427567992384 : Int64)), .second, .val (.int ii), .unset, .unset] [(.int (32 : Int32)), (.long (2305842644141473792 : Int64)), (.long (3 : Int64)), (.ref a1)])) t
          refine XS.lushr X225.here hx rfl (hb hby d1_134) rfl ?_
          show Steps p.tables e below (T225.setTop (mkF m 135 #[.val (.ref a1), .val (.int (2 : Int32)), .val (.long (-2305842644141473791 : Int64)), .second, .val (.long (1350428427567992384 : Int64)), .second, .val (.int ii), .unset, .unset] [(.long (((2305842644141473792 : Int64).toUInt64 >>> ((32 : Int32) &&& 0x3f).toInt64.toUInt64).toInt64)), (.long (3 : Int64)), (.ref a1)])) t
          refine st228.trans ?_
          show Steps p.tables e below (T228.setTop (mkF m 138 #[.val (.ref a1), .val (.int (2 : Int32)), .val (.long (-2305842644141473791 : Int64)), .second, .val (.long (1350428427567992384 : Int64)), .second, .val (.int ii), .unset, .unset] [(.long x229)])) t
          refine XS.lstore X228.here hx rfl (hb hby d1_138) rfl (l' := #[.val (.ref a1), .val (.int (2 : Int32)), .val (.long (-2305842644141473791 : Int64)), .second, .val (.long (1350428427567992384 : Int64)), .second, .val (.long x229), .second, .unset]) rfl ?_
          show Steps p.tables e below (T228.setTop (mkF m 140 #[.val (.ref a1), .val (.int (2 : Int32)), .val (.long (-2305842644141473791 : Int64)), .second, .val (.long (1350428427567992384 : Int64)), .second, .val (.long x229), .second, .unset] [])) t
          refine XS.bipush X228.here hx rfl (hb hby d1_140) ?_
          show Steps p.tables e below (T228.setTop (mkF m 142 #[.val (.ref a1), .val (.int (2 : Int32)), .val (.long (-2305842644141473791 : Int64)), .second, .val (.long (1350428427567992384 : Int64)), .second, .val (.long x229), .second, .unset] [(.int (32 : Int32))])) t
          refine XS.istore X228.here hx rfl (hb hby d1_142) rfl (l' := #[.val (.ref a1), .val (.int (2 : Int32)), .val (.long (-2305842644141473791 : Int64)), .second, .val (.long (1350428427567992384 : Int64)), .second, .val (.long x229), .second, .val (.int (32 : Int32))]) rfl ?_
          exact k)
        have hl232 : ∀ (nn : Nat) (T232 : State) (L232 : List Loc) (h232 : Heap) (rv : Int64) (kk : Int32), Stand p l e ({ frames := 5, cells := 1, slots := 33, locals := 105 } : Room) s m #[(.ref a1), (.int (2 : Int32))] below meth c T232 L232 1 33 → T232.heap = h232 → Fr n0 L232 → (n0 ≤ h232.size) → (Keep h0 h232 [a1]) → (Exa Z h232 a1 "com/example/libsld/libsld/PrimeField") → (Fld Z h232 a1 "com/example/libsld/libsld/PrimeField" "p" "J" (.long (2305842644141473793 : Int64))) → (Fld Z h232 a1 "com/example/libsld/libsld/PrimeField" "inverse" "J" (.long (-2305842644141473791 : Int64))) → (Fld Z h232 a1 "com/example/libsld/libsld/PrimeField" "montgomerySquare" "J" (.long (1350428427567992384 : Int64))) → (Fld Z h232 a1 "com/example/libsld/libsld/PrimeField" "rootsOfOrder" "[J" (.ref b103)) → (own_A Z h232 b103) → (kk < (33 : Int32)) → (kk.toInt + 1).toNat < nn → (∀ t, Steps p.tables e below (T232.setTop (mkF m 144 #[.val (.ref a1), .val (.int (2 : Int32)), .val (.long (-2305842644141473791 : Int64)), .second, .val (.long (1350428427567992384 : Int64)), .second, .val (.long rv), .second, .val (.int kk)] [])) t → Steps p.tables e below (s₁.setTop (entryFrame m #[(.ref a1), (.int (2 : Int32))] 9)) t) → ∃ s₂ o, Steps p.tables e below (s₁.setTop (entryFrame m #[(.ref a1), (.int (2 : Int32))] 9)) s₂ ∧ s₂.status = .running ∧ Ended s₂ below o ∧ ∃ v L, o = .returned v ∧ QI2 Z a1 wP kP wN kN h0 n0 v s₂.heap L ∧ FrameEnd s o s₂ L ({ frames := 5, cells := 1, slots := 33, locals := 105 } : Room).cells ({ frames := 5, cells := 1, slots := 33, locals := 105 } : Room).slots := by
          intro nn
          induction nn with
          | zero => intro T232 L232 h232 rv kk X232 e232 N232 f233 f234 f235 f236 f237 f238 f239 f240 hk33 hm232 pre232; exact absurd hm232 (Nat.not_lt_zero _)
          | succ nn ih232 =>
            intro T232 L232 h232 rv kk X232 e232 N232 f233 f234 f235 f236 f237 f238 f239 f240 hk33 hm232 pre232
            have pre242 : ∀ t, Steps p.tables e below (T232.setTop (mkF m 146 #[.val (.ref a1), .val (.int (2 : Int32)), .val (.long (-2305842644141473791 : Int64)), .second, .val (.long (1350428427567992384 : Int64)), .second, .val (.long rv), .second, .val (.int kk)] [(.int kk)])) t → Steps p.tables e below (s₁.setTop (entryFrame m #[(.ref a1), (.int (2 : Int32))] 9)) t := fun t k => pre232 t (by
              show Steps p.tables e below (T232.setTop (mkF m 144 #[.val (.ref a1), .val (.int (2 : Int32)), .val (.long (-2305842644141473791 : Int64)), .second, .val (.long (1350428427567992384 : Int64)), .second, .val (.long rv), .second, .val (.int kk)] [])) t
              refine XS.iload X232.here hx rfl (hb hby d1_144) rfl ?_
              exact k)
            by_cases hc241 : kk < (0 : Int32)
            · have pre243 : ∀ t, Steps p.tables e below (T232.setTop (mkF m 174 #[.val (.ref a1), .val (.int (2 : Int32)), .val (.long (-2305842644141473791 : Int64)), .second, .val (.long (1350428427567992384 : Int64)), .second, .val (.long rv), .second, .val (.int kk)] [])) t → Steps p.tables e below (s₁.setTop (entryFrame m #[(.ref a1), (.int (2 : Int32))] 9)) t := fun t k => pre242 t (by
                show Steps p.tables e below (T232.setTop (mkF m 146 #[.val (.ref a1), .val (.int (2 : Int32)), .val (.long (-2305842644141473791 : Int64)), .second, .val (.long (1350428427567992384 : Int64)), .second, .val (.long rv), .second, .val (.int kk)] [(.int kk)])) t
                refine XS.ifYes X232.here hx rfl (pc0 := 146) (pc' := 174) rfl (hb hby d1_146) rfl ((if0 _ _).trans (tlt hc241).1) (by decide) (by decide) ?_
                exact k)
              obtain ⟨fs, hr, hrun, hended, hW, hsame⟩ := X232.leave (v := none) (fun _ => rfl)
              refine ⟨_, _, pre243 _ ?_, hrun, hended, _, _, rfl, ?_, ⟨_, rfl⟩, hW, hsame.mono (by decide) (by decide)⟩
              · exact X232.returnOut hx Bd.returns (hb hby d1_174) hr
              · show QI2 Z a1 wP kP wN kN h0 n0 _ T232.heap _
                rw [e232]
                exact ⟨rfl, N232, f234, f235, f236, f237, f238⟩
            · obtain ⟨T244, X244, e244, st244⟩ := getF X232 hx hZ hown (host := "") (Or.inl (own_i hw 10 rfl)) Via.refl e232 f239 (g := (mkF m 150 #[.val (.ref a1), .val (.int (2 : Int32)), .val (.long (-2305842644141473791 : Int64)), .second, .val (.long (1350428427567992384 : Int64)), .second, .val (.long rv), .second, .val (.int kk)] [(.ref a1)])) rfl rfl (hb hby d1_150)
              obtain ⟨cl245, Ar245, Sz245⟩ := (id f240)
              obtain ⟨T245, h245, X245, e245, W245, st245⟩ := stJ X244 hx hZ e244 Ar245 (j := kk) (own_inb Sz245 hc241 hk33) (g := (mkF m 157 #[.val (.ref a1), .val (.int (2 : Int32)), .val (.long (-2305842644141473791 : Int64)), .second, .val (.long (1350428427567992384 : Int64)), .second, .val (.long rv), .second, .val (.int kk)] [(.long rv), (.int kk), (.ref b103)])) rfl rfl (hb hby d1_157)
              have N245 := Fr.snoc X245 N232 ga105
              have A245 : own_A Z h245 b103 := own_A.wr f240 W245
              have f246 := Nat.le_trans f233 (Keep.of_wr W245).1
              have f247 := f234.wr W245 (Or.inr sz106)
              have f248 := f235.wr W245
              have f249 := f236.other W245 (Or.inl ne104)
              have f250 := f237.other W245 (Or.inl ne104)
              have f251 := f238.other W245 (Or.inl ne104)
              have f252 := f239.other W245 (Or.inl ne104)
              obtain ⟨cq253, kq253, q253a, q253b, q253c⟩ := isOf hZ e245 f248
              obtain ⟨_, _, ⟨T253, L253, k253, n253⟩, -, X253, ⟨Lc253, hQ253, l253, y253, z253⟩, st253⟩ := X245.virtualBack hx (y := (⟨"com/example/libsld/libsld/PrimeField", "multiply", "(JJ)J"⟩ : MethodName)) (z := (⟨"com/example/libsld/libsld/PrimeField", "multiply", "(JJ)J"⟩ : MethodName)) hown (mvT hZ (own_i hw 37 rfl)) (mvT hZ (own_i hw 38 rfl)) (notFace_of_selects (args := #[]) (mvT hZ (own_i hw 40 rfl))) (mvT hZ (own_i hw 40 rfl)) (mvT hZ (own_i hw 39 rfl)) (by decide) (backOf (W := 0) (rmMul l Z a0 hw [] a1 rv rv (2305842644141473793 : Int64) (-2305842644141473791 : Int64) (1350428427567992384 : Int64) h245 n0 f246 f248 f249 f250 f251) hZ (own_i hw 41 rfl) (own_i hw 2 rfl) (by decide) (by decide)) q253a q253c (g := (mkF m 163 #[.val (.ref a1), .val (.int (2 : Int32)), .val (.long (-2305842644141473791 : Int64)), .second, .val (.long (1350428427567992384 : Int64)), .second, .val (.long rv), .second, .val (.int kk)] [(.long rv), (.long rv), (.ref a1)])) rfl (by rw [hml]; rfl) (Steps.refl _) (argsL := [(.long rv), (.long rv)]) (rest := []) (lenOf pd_0 rfl) rfl (by show 2 * 0 + _ ≤ _; exact Nat.le_of_eq rfl) (hb hby d1_163) (fun _ _ => ⟨rfl, e245, (by decide : 1 + 0 ≤ _), (by decide : 33 + 0 ≤ _)⟩)
              dsimp only [Pt.U, Pt.locs, Pt.cells, Pt.slots] at X253 l253 y253 z253 st253 hQ253
              subst l253 y253 z253
              obtain ⟨rfl, N253q, e253⟩ := hQ253
              have N253 := Fr.app N245 N253q
              have pre254 : ∀ t, Steps p.tables e below (T253.setTop (mkF m 144 #[.val (.ref a1), .val (.int (2 : Int32)), .val (.long (-2305842644141473791 : Int64)), .second, .val (.long (1350428427567992384 : Int64)), .second, .val (.long (own_mul rv rv (2305842644141473793 : Int64) (-2305842644141473791 : Int64) (1350428427567992384 : Int64))), .second, .val (.int (kk + (-1 : Int32)))] [])) t → Steps p.tables e below (s₁.setTop (entryFrame m #[(.ref a1), (.int (2 : Int32))] 9)) t := fun t k => pre242 t (by
                show Steps p.tables e below (T232.setTop (mkF m 146 #[.val (.ref a1), .val (.int (2 : Int32)), .val (.long (-2305842644141473791 : Int64)), .second, .val (.long (1350428427567992384 : Int64)), .second, .val (.long rv), .second, .val (.int kk)] [(.int kk)])) t
                refine XS.ifNo X232.here hx rfl (hb hby d1_146) rfl ((if0 _ _).trans (flt hc241).1) ?_
                show Steps p.tables e below (T232.setTop (mkF m 149 #[.val (.ref a1), .val (.int (2 : Int32)), .val (.long (-2305842644141473791 : Int64)), .second, .val (.long (1350428427567992384 : Int64)), .second, .val (.long rv), .second, .val (.int kk)] [])) t
                refine XS.aloadN X232.here hx rfl (hb hby d1_149) rfl rfl ?_
                show Steps p.tables e below (T232.setTop (mkF m 150 #[.val (.ref a1), .val (.int (2 : Int32)), .val (.long (-2305842644141473791 : Int64)), .second, .val (.long (1350428427567992384 : Int64)), .second, .val (.long rv), .second, .val (.int kk)] [(.ref a1)])) t
                refine st244 _ ?_
                show Steps p.tables e below (T244.setTop (mkF m 153 #[.val (.ref a1), .val (.int (2 : Int32)), .val (.long (-2305842644141473791 : Int64)), .second, .val (.long (1350428427567992384 : Int64)), .second, .val (.long rv), .second, .val (.int kk)] [(.ref b103)])) t
                refine XS.iload X244.here hx rfl (hb hby d1_153) rfl ?_
                show Steps p.tables e below (T244.setTop (mkF m 155 #[.val (.ref a1), .val (.int (2 : Int32)), .val (.long (-2305842644141473791 : Int64)), .second, .val (.long (1350428427567992384 : Int64)), .second, .val (.long rv), .second, .val (.int kk)] [(.int kk), (.ref b103)])) t
                refine XS.lload X244.here hx rfl (hb hby d1_155) rfl ?_
                show Steps p.tables e below (T244.setTop (mkF m 157 #[.val (.ref a1), .val (.int (2 : Int32)), .val (.long (-2305842644141473791 : Int64)), .second, .val (.long (1350428427567992384 : Int64)), .second, .val (.long rv), .second, .val (.int kk)] [(.long rv), (.int kk), (.ref b103)])) t
                refine st245 _ ?_
                show Steps p.tables e below (T245.setTop (mkF m 158 #[.val (.ref a1), .val (.int (2 : Int32)), .val (.long (-2305842644141473791 : Int64)), .second, .val (.long (1350428427567992384 : Int64)), .second, .val (.long rv), .second, .val (.int kk)] [])) t
                refine XS.aloadN X245.here hx rfl (hb hby d1_158) rfl rfl ?_
                show Steps p.tables e below (T245.setTop (mkF m 159 #[.val (.ref a1), .val (.int (2 : Int32)), .val (.long (-2305842644141473791 : Int64)), .second, .val (.long (1350428427567992384 : Int64)), .second, .val (.long rv), .second, .val (.int kk)] [(.ref a1)])) t
                refine XS.lload X245.here hx rfl (hb hby d1_159) rfl ?_
                show Steps p.tables e below (T245.setTop (mkF m 161 #[.val (.ref a1), .val (.int (2 : Int32)), .val (.long (-2305842644141473791 : Int64)), .second, .val (.long (1350428427567992384 : Int64)), .second, .val (.long rv), .second, .val (.int kk)] [(.long rv), (.ref a1)])) t
                refine XS.lload X245.here hx rfl (hb hby d1_161) rfl ?_
                show Steps p.tables e below (T245.setTop (mkF m 163 #[.val (.ref a1), .val (.int (2 : Int32)), .val (.long (-2305842644141473791 : Int64)), .second, .val (.long (1350428427567992384 : Int64)), .second, .val (.long rv), .second, .val (.int kk)] [(.long rv), (.long rv), (.ref a1)])) t
                refine st253.trans ?_
                show Steps p.tables e below (T253.setTop (mkF m 166 #[.val (.ref a1), .val (.int (2 : Int32)), .val (.long (-2305842644141473791 : Int64)), .second, .val (.long (1350428427567992384 : Int64)), .second, .val (.long rv), .second, .val (.int kk)] [(.long (own_mul rv rv (2305842644141473793 : Int64) (-2305842644141473791 : Int64) (1350428427567992384 : Int64)))])) t
                refine XS.lstore X253.here hx rfl (hb hby d1_166) rfl (l' := #[.val (.ref a1), .val (.int (2 : Int32)), .val (.long (-2305842644141473791 : Int64)), .second, .val (.long (1350428427567992384 : Int64)), .second, .val (.long (own_mul rv rv (2305842644141473793 : Int64) (-2305842644141473791 : Int64) (1350428427567992384 : Int64))), .second, .val (.int kk)]) rfl ?_
                show Steps p.tables e below (T253.setTop (mkF m 168 #[.val (.ref a1), .val (.int (2 : Int32)), .val (.long (-2305842644141473791 : Int64)), .second, .val (.long (1350428427567992384 : Int64)), .second, .val (.long (own_mul rv rv (2305842644141473793 : Int64) (-2305842644141473791 : Int64) (1350428427567992384 : Int64))), .second, .val (.int kk)] [])) t
                refine XS.iinc X253.here hx rfl (hb hby d1_168) rfl (l' := #[.val (.ref a1), .val (.int (2 : Int32)), .val (.long (-2305842644141473791 : Int64)), .second, .val (.long (1350428427567992384 : Int64)), .second, .val (.long (own_mul rv rv (2305842644141473793 : Int64) (-2305842644141473791 : Int64) (1350428427567992384 : Int64))), .second, .val (.int (kk + (-1 : Int32)))]) rfl ?_
                show Steps p.tables e below (T253.setTop (mkF m 171 #[.val (.ref a1), .val (.int (2 : Int32)), .val (.long (-2305842644141473791 : Int64)), .second, .val (.long (1350428427567992384 : Int64)), .second, .val (.long (own_mul rv rv (2305842644141473793 : Int64) (-2305842644141473791 : Int64) (1350428427567992384 : Int64))), .second, .val (.int (kk + (-1 : Int32)))] [])) t
                refine XS.goto X253.here hx rfl (pc0 := 171) (pc' := 144) rfl (hb hby d1_171) (by decide) (by decide) ?_
                exact k)
              exact ih232 _ _ _ _ _ X253 e253 N253 f246 f247 f248 f249 f250 f251 f252 A245 (own_dec33 hk33 hc241) (Nat.lt_of_lt_of_le (own_decm hk33 hc241) (Nat.lt_succ_iff.mp hm232)) pre254
        exact hl232 _ _ _ _ _ _ X228 e228 N228 f214 f217 f216 f220 f222 Fw213 f219 f230 (by decide) (Nat.lt_succ_self _) pre231
  exact hl205 _ _ _ _ _ (0) X201 e201 N201 (rfl) (by decide) (by decide) (Nat.lt_succ_self _) pre204
theorem ef_rmI3 (m : MethodId) (x0 : Addr) : entryFrame m #[(.ref x0), (.int (3 : Int32))] 9 = mkF m 0 #[.val (.ref x0), .val (.int (3 : Int32)), .unset, .unset, .unset, .unset, .unset, .unset, .unset] [] := by first | (simp [entryFrame, mkF, argsToLocals, Value.category]; done) | rfl
def QI3 (Z : State) (a1 : Addr) (wP : Addr) (kP : ClassId) (wN : Addr) (kN : ClassId) (h0 : Heap) (n0 : Nat) (v : Option Value) (h : Heap) (L : List Loc) : Prop := v = none ∧ Fr n0 L ∧ Keep h0 h [a1] ∧ (Exa Z h a1 "com/example/libsld/libsld/PrimeField") ∧ (Fld Z h a1 "com/example/libsld/libsld/PrimeField" "p" "J" (.long (2305842343493763073 : Int64))) ∧ (Fld Z h a1 "com/example/libsld/libsld/PrimeField" "inverse" "J" (.long (-2305842343493763071 : Int64))) ∧ (Fld Z h a1 "com/example/libsld/libsld/PrimeField" "montgomerySquare" "J" (.long (1271275483123961405 : Int64)))
set_option maxRecDepth 65536 in
set_option maxHeartbeats 40000000 in
theorem rmI3 (l : Launch) (Z : State) (a0 : Array Value) (hw : ∀ d ∈ tables_1, d.before a0 Z = true) (ws : List Jvm.Cond) (a1 : Addr) (wP : Addr) (kP : ClassId) (wN : Addr) (kN : ClassId) (h0 : Heap) (n0 : Nat) (Z0 : n0 ≤ h0.size) (SP : Sta Z Z.heap "com/example/libsld/libsld/PrimeField" "PRIMES" "[J" (.ref wP)) (AP : Arv Z Z.heap wP kP .long (4 : Int32) [(.long (2305842979148922881 : Int64)), (.long (2305842798760296449 : Int64)), (.long (2305842644141473793 : Int64)), (.long (2305842343493763073 : Int64))] (.long (0 : Int64))) (SN : Sta Z Z.heap "com/example/libsld/libsld/PrimeField" "NON_RESIDUES" "[J" (.ref wN)) (AN : Arv Z Z.heap wN kN .long (4 : Int32) [(.long (3 : Int64)), (.long (3 : Int64)), (.long (3 : Int64)), (.long (5 : Int64))] (.long (0 : Int64))) (O0 : Old Z n0 h0) (Z1 : Fld Z h0 a1 "com/example/libsld/libsld/PrimeField" "rootsOfOrder" "[J" .null) (Z2 : Fld Z h0 a1 "com/example/libsld/libsld/PrimeField" "p" "J" (.long (0 : Int64))) (Z3 : Fld Z h0 a1 "com/example/libsld/libsld/PrimeField" "twoP" "J" (.long (0 : Int64))) (Z4 : Fld Z h0 a1 "com/example/libsld/libsld/PrimeField" "inverse" "J" (.long (0 : Int64))) (Z5 : Fld Z h0 a1 "com/example/libsld/libsld/PrimeField" "montgomerySquare" "J" (.long (0 : Int64))) (E1 : Exa Z h0 a1 "com/example/libsld/libsld/PrimeField") (g1 : n0 ≤ a1) :
    MetFree l (⟨"com/example/libsld/libsld/PrimeField", "<init>", "(I)V"⟩ : MethodName) (head1 (Jvm.Cond.code (⟨"com/example/libsld/libsld/PrimeField", "<init>", "(I)V"⟩ : MethodName) prog_87_method_1_code 9 none :: ws) ({ frames := 5, cells := 1, slots := 33, locals := 105 } : Room)) (fun a U => a = #[(.ref a1), (.int (3 : Int32))] ∧ Z.Warmed39 U.vm ∧ U.heap = h0) (fun _ _ _ _ _ => True) (fun _ U o U' => ∃ v L, o = .returned v ∧ QI3 Z a1 wP kP wN kN h0 n0 v U'.heap L ∧ FrameEnd U o U' L ({ frames := 5, cells := 1, slots := 33, locals := 105 } : Room).cells ({ frames := 5, cells := 1, slots := 33, locals := 105 } : Room).slots) := by
  refine MetFree.of_bodySF (plainFor_of_name pn_com_example_libsld_libsld_PrimeField) hisR ?_
  intro p e s m args below meth c s₁ Bd hml0 hP hK
  obtain ⟨rfl, hZ, hh⟩ := hP
  have hx := Bd.exec
  have hby := Bd.bytes
  have hml : c.maxLocals = 9 := hml0
  have hown : s.vm.findClass "com/example/libsld/libsld/PrimeField" = some m.cls := findClass_of_methodNamed Bd.named
  have hnm := (name_of_methodNamed Bd.named Bd.method).1
  have X0 : Stand p l e ({ frames := 5, cells := 1, slots := 33, locals := 105 } : Room) s m #[(.ref a1), (.int (3 : Int32))] below meth c s₁ [] 0 0 := Stand.of_body Bd
  have e0 : s₁.heap = h0 := by rw [← hh, Bd.state]; rfl
  have N0 := Fr.nil n0
  have pre0 : ∀ t, Steps p.tables e below (s₁.setTop (mkF m 0 #[.val (.ref a1), .val (.int (3 : Int32)), .unset, .unset, .unset, .unset, .unset, .unset, .unset] [])) t → Steps p.tables e below (s₁.setTop (entryFrame m #[(.ref a1), (.int (3 : Int32))] 9)) t := fun t k => castTop (ef_rmI3 m a1) k
  have f101 := Keep.refl h0 [a1]
  obtain ⟨T102, X102, e102, st102⟩ := initO X0 hx hZ hown (own_i hw 6 rfl) (own_i hw 7 rfl) (own_i hw 8 rfl) e0 (g := (mkF m 1 #[.val (.ref a1), .val (.int (3 : Int32)), .unset, .unset, .unset, .unset, .unset, .unset, .unset] [(.ref a1)])) rfl (by rw [hml]; rfl) rfl (hb hby d1_1) (by decide) (W := 0) (by show 2 * 0 + _ ≤ _; exact Nat.le_of_eq rfl) (by decide)
  obtain ⟨T103, h103, k103, X103, e103, E103, A103, st103⟩ := newP X102 hx hZ (own_i hw 9 rfl) e102 (g := (mkF m 7 #[.val (.ref a1), .val (.int (3 : Int32)), .unset, .unset, .unset, .unset, .unset, .unset, .unset] [(.int (33 : Int32)), (.ref a1)])) rfl (hb hby d1_7) rfl (by decide) (cap := 33) (by decide) (by decide) (by decide) (by decide)
  obtain ⟨b103, g103⟩ : ∃ z, z = h0.size := ⟨_, rfl⟩
  rw [← g103] at A103 st103
  have ne104 : a1 ≠ b103 := Nat.ne_of_lt (Nat.lt_of_lt_of_le Z1.lt (Nat.le_of_eq g103.symm))
  have ga105 : n0 ≤ b103 := Nat.le_trans Z0 (Nat.le_of_eq g103.symm)
  have sz106 : h0.size ≤ b103 := Nat.le_trans f101.1 (Nat.le_of_eq g103.symm)
  have V103 : Arv Z h103 b103 k103 .long (33 : Int32) [(.long (0 : Int64)), (.long (0 : Int64)), (.long (0 : Int64)), (.long (0 : Int64)), (.long (0 : Int64)), (.long (0 : Int64)), (.long (0 : Int64)), (.long (0 : Int64)), (.long (0 : Int64)), (.long (0 : Int64)), (.long (0 : Int64)), (.long (0 : Int64)), (.long (0 : Int64)), (.long (0 : Int64)), (.long (0 : Int64)), (.long (0 : Int64)), (.long (0 : Int64)), (.long (0 : Int64)), (.long (0 : Int64)), (.long (0 : Int64)), (.long (0 : Int64)), (.long (0 : Int64)), (.long (0 : Int64)), (.long (0 : Int64)), (.long (0 : Int64)), (.long (0 : Int64)), (.long (0 : Int64)), (.long (0 : Int64)), (.long (0 : Int64)), (.long (0 : Int64)), (.long (0 : Int64)), (.long (0 : Int64)), (.long (0 : Int64))] (.long (0 : Int64)) := (Arv.new A103 (by decide)).pad (pad_rep [] (.long (0 : Int64)) 33)
  have f107 := Nat.le_trans Z0 E103.1
  have f108 := O0.ext E103
  have f109 := Z1.ext E103
  have f110 := Z2.ext E103
  have f111 := Z3.ext E103
  have f112 := Z4.ext E103
  have f113 := Z5.ext E103
  have f114 := E1.ext E103
  have f115 := f101.ext E103
  obtain ⟨T116, h116, X116, e116, W116, st116⟩ := putF X103 hx hZ hown (host := "") (Or.inl (own_i hw 10 rfl)) Via.refl e103 f109 f114 (Or.inr ⟨(own_i hw 11 rfl), rfl, hnm⟩) (own_i hw 1 rfl) (ty := (.array .long)) (by decide) rfl rfl (g := (mkF m 9 #[.val (.ref a1), .val (.int (3 : Int32)), .unset, .unset, .unset, .unset, .unset, .unset, .unset] [(.ref b103), (.ref a1)])) rfl rfl (hb hby d1_9)
  have Fw116 := f109.same W116
  have N116 := Fr.snoc X116 N0 g1
  have f117 := Nat.le_trans f107 (Keep.of_wr W116).1
  have f118 := f108.wr W116 g1
  have f119 := f110.other W116 (Or.inr (slot_ne (Or.inr (own_i hw 15 rfl)) (Or.inr (own_i hw 11 rfl)) (by decide) (t := .long) (t' := (.array .long)) (by decide) (by decide)))
  have f120 := f111.other W116 (Or.inr (slot_ne (Or.inr (own_i hw 18 rfl)) (Or.inr (own_i hw 11 rfl)) (by decide) (t := .long) (t' := (.array .long)) (by decide) (by decide)))
  have f121 := f112.other W116 (Or.inr (slot_ne (Or.inr (own_i hw 20 rfl)) (Or.inr (own_i hw 11 rfl)) (by decide) (t := .long) (t' := (.array .long)) (by decide) (by decide)))
  have f122 := f113.other W116 (Or.inr (slot_ne (Or.inr (own_i hw 30 rfl)) (Or.inr (own_i hw 11 rfl)) (by decide) (t := .long) (t' := (.array .long)) (by decide) (by decide)))
  have f123 := f114.wr W116
  have f124 := f115.wr W116 (Or.inl (List.mem_of_getElem? (i := 0) rfl))
  have f125 := V103.other W116 (Ne.symm ne104)
  obtain ⟨T126, X126, e126, st126⟩ := getS2 X116 hx hZ hown (host := "") (Or.inl (own_i hw 12 rfl)) Via.refl e116 (SP.ext f118.2) (g := (mkF m 13 #[.val (.ref a1), .val (.int (3 : Int32)), .unset, .unset, .unset, .unset, .unset, .unset, .unset] [(.ref a1)])) rfl (hb hby d1_13)
  obtain ⟨cl127, Ar127, q127, S127, N127z, H127, G127⟩ := (id (AP.ext f118.2))
  have hin127 : ¬ ((3 : Int32) < 0 ∨ cl127.slots.size ≤ ((3 : Int32)).toNatClampNeg) := inb_of S127 ⟨by decide, by decide⟩
  have hat127 : cl127.slots[((3 : Int32)).toNatClampNeg]? = some (.long (2305842343493763073 : Int64)) := Has.at H127 hin127 rfl
  obtain ⟨T128, h128, X128, e128, W128, st128⟩ := putF X126 hx hZ hown (host := "") (Or.inl (own_i hw 14 rfl)) Via.refl e126 f119 f123 (Or.inr ⟨(own_i hw 15 rfl), rfl, hnm⟩) (own_i hw 1 rfl) (ty := .long) (by decide) rfl rfl (g := (mkF m 18 #[.val (.ref a1), .val (.int (3 : Int32)), .unset, .unset, .unset, .unset, .unset, .unset, .unset] [(.long (2305842343493763073 : Int64)), (.ref a1)])) rfl rfl (hb hby d1_18)
  have Fw128 := f119.same W128
  have N128 := Fr.snoc X128 N116 g1
  have f129 := Nat.le_trans f117 (Keep.of_wr W128).1
  have f130 := f118.wr W128 g1
  have f131 := f120.other W128 (Or.inr (slot_ne (Or.inr (own_i hw 18 rfl)) (Or.inr (own_i hw 15 rfl)) (by decide) (t := .long) (t' := .long) (by decide) (by decide)))
  have f132 := f121.other W128 (Or.inr (slot_ne (Or.inr (own_i hw 20 rfl)) (Or.inr (own_i hw 15 rfl)) (by decide) (t := .long) (t' := .long) (by decide) (by decide)))
  have f133 := f122.other W128 (Or.inr (slot_ne (Or.inr (own_i hw 30 rfl)) (Or.inr (own_i hw 15 rfl)) (by decide) (t := .long) (t' := .long) (by decide) (by decide)))
  have f134 := f123.wr W128
  have f135 := f124.wr W128 (Or.inl (List.mem_of_getElem? (i := 0) rfl))
  have f136 := f125.other W128 (Ne.symm ne104)
  have f137 := Fw116.other W128 (Or.inr (slot_ne (Or.inr (own_i hw 11 rfl)) (Or.inr (own_i hw 15 rfl)) (by decide) (t := (.array .long)) (t' := .long) (by decide) (by decide)))
  obtain ⟨T138, X138, e138, st138⟩ := getF X128 hx hZ hown (host := "") (Or.inl (own_i hw 14 rfl)) Via.refl e128 Fw128 (g := (mkF m 26 #[.val (.ref a1), .val (.int (3 : Int32)), .unset, .unset, .unset, .unset, .unset, .unset, .unset] [(.ref a1), (.long (2 : Int64)), (.ref a1)])) rfl rfl (hb hby d1_26)
  have pre139 : ∀ t, Steps p.tables e below (T138.setTop (mkF m 30 #[.val (.ref a1), .val (.int (3 : Int32)), .unset, .unset, .unset, .unset, .unset, .unset, .unset] [(.long ((2 : Int64) * (2305842343493763073 : Int64))), (.ref a1)])) t → Steps p.tables e below (s₁.setTop (entryFrame m #[(.ref a1), (.int (3 : Int32))] 9)) t := fun t k => pre0 t (by
    show Steps p.tables e below (s₁.setTop (mkF m 0 #[.val (.ref a1), .val (.int (3 : Int32)), .unset, .unset, .unset, .unset, .unset, .unset, .unset] [])) t
    refine XS.aloadN X0.here hx rfl (hb hby d1_0) rfl rfl ?_
    show Steps p.tables e below (s₁.setTop (mkF m 1 #[.val (.ref a1), .val (.int (3 : Int32)), .unset, .unset, .unset, .unset, .unset, .unset, .unset] [(.ref a1)])) t
    refine st102 _ ?_
    show Steps p.tables e below (T102.setTop (mkF m 4 #[.val (.ref a1), .val (.int (3 : Int32)), .unset, .unset, .unset, .unset, .unset, .unset, .unset] [])) t
    refine XS.aloadN X102.here hx rfl (hb hby d1_4) rfl rfl ?_
    show Steps p.tables e below (T102.setTop (mkF m 5 #[.val (.ref a1), .val (.int (3 : Int32)), .unset, .unset, .unset, .unset, .unset, .unset, .unset] [(.ref a1)])) t
    refine XS.bipush X102.here hx rfl (hb hby d1_5) ?_
    show Steps p.tables e below (T102.setTop (mkF m 7 #[.val (.ref a1), .val (.int (3 : Int32)), .unset, .unset, .unset, .unset, .unset, .unset, .unset] [(.int (33 : Int32)), (.ref a1)])) t
    refine st103 _ ?_
    show Steps p.tables e below (T103.setTop (mkF m 9 #[.val (.ref a1), .val (.int (3 : Int32)), .unset, .unset, .unset, .unset, .unset, .unset, .unset] [(.ref b103), (.ref a1)])) t
    refine st116 _ ?_
    show Steps p.tables e below (T116.setTop (mkF m 12 #[.val (.ref a1), .val (.int (3 : Int32)), .unset, .unset, .unset, .unset, .unset, .unset, .unset] [])) t
    refine XS.aloadN X116.here hx rfl (hb hby d1_12) rfl rfl ?_
    show Steps p.tables e below (T116.setTop (mkF m 13 #[.val (.ref a1), .val (.int (3 : Int32)), .unset, .unset, .unset, .unset, .unset, .unset, .unset] [(.ref a1)])) t
    refine st126 _ ?_
    show Steps p.tables e below (T126.setTop (mkF m 16 #[.val (.ref a1), .val (.int (3 : Int32)), .unset, .unset, .unset, .unset, .unset, .unset, .unset] [(.ref wP), (.ref a1)])) t
    refine XS.iloadN X126.here hx rfl (hb hby d1_16) rfl ?_
    show Steps p.tables e below (T126.setTop (mkF m 17 #[.val (.ref a1), .val (.int (3 : Int32)), .unset, .unset, .unset, .unset, .unset, .unset, .unset] [(.int (3 : Int32)), (.ref wP), (.ref a1)])) t
    refine X126.laload hx (j := (3 : Int32)) (v := (.long (2305842343493763073 : Int64))) (by rw [e126]; exact Ar127.1) (State.isArrayOf_alike hZ.alike Ar127.2.1) Ar127.2.2 hin127 hat127 (g := (mkF m 17 #[.val (.ref a1), .val (.int (3 : Int32)), .unset, .unset, .unset, .unset, .unset, .unset, .unset] [(.int (3 : Int32)), (.ref wP), (.ref a1)])) rfl rfl (hb hby d1_17) _ ?_
    show Steps p.tables e below (T126.setTop (mkF m 18 #[.val (.ref a1), .val (.int (3 : Int32)), .unset, .unset, .unset, .unset, .unset, .unset, .unset] [(.long (2305842343493763073 : Int64)), (.ref a1)])) t
    refine st128 _ ?_
    show Steps p.tables e below (T128.setTop (mkF m 21 #[.val (.ref a1), .val (.int (3 : Int32)), .unset, .unset, .unset, .unset, .unset, .unset, .unset] [])) t
    refine XS.aloadN X128.here hx rfl (hb hby d1_21) rfl rfl ?_
    show Steps p.tables e below (T128.setTop (mkF m 22 #[.val (.ref a1), .val (.int (3 : Int32)), .unset, .unset, .unset, .unset, .unset, .unset, .unset] [(.ref a1)])) t
    refine X128.ldc2Long hx hown (mvT hZ (own_i hw 16 rfl)) (g := (mkF m 22 #[.val (.ref a1), .val (.int (3 : Int32)), .unset, .unset, .unset, .unset, .unset, .unset, .unset] [(.ref a1)])) rfl (hb hby d1_22) _ ?_
    show Steps p.tables e below (T128.setTop (mkF m 25 #[.val (.ref a1), .val (.int (3 : Int32)), .unset, .unset, .unset, .unset, .unset, .unset, .unset] [(.long (2 : Int64)), (.ref a1)])) t
    refine XS.aloadN X128.here hx rfl (hb hby d1_25) rfl rfl ?_
    show Steps p.tables e below (T128.setTop (mkF m 26 #[.val (.ref a1), .val (.int (3 : Int32)), .unset, .unset, .unset, .unset, .unset, .unset, .unset] [(.ref a1), (.long (2 : Int64)), (.ref a1)])) t
    refine st138 _ ?_
    show Steps p.tables e below (T138.setTop (mkF m 29 #[.val (.ref a1), .val (.int (3 : Int32)), .unset, .unset, .unset, .unset, .unset, .unset, .unset] [(.long (2305842343493763073 : Int64)), (.long (2 : Int64)), (.ref a1)])) t
    refine XS.lmul X138.here hx rfl (hb hby d1_29) rfl ?_
    exact k)
  have pre140 : ∀ t, Steps p.tables e below (T138.setTop (mkF m 30 #[.val (.ref a1), .val (.int (3 : Int32)), .unset, .unset, .unset, .unset, .unset, .unset, .unset] [(.long (4611684686987526146 : Int64)), (.ref a1)])) t → Steps p.tables e below (s₁.setTop (entryFrame m #[(.ref a1), (.int (3 : Int32))] 9)) t := fun t k => pre139 t (by rw [show ((2 : Int64) * (2305842343493763073 : Int64)) = (4611684686987526146 : Int64) from (by decide +kernel)]; exact k)
  obtain ⟨T141, h141, X141, e141, W141, st141⟩ := putF X138 hx hZ hown (host := "") (Or.inl (own_i hw 17 rfl)) Via.refl e138 f131 f134 (Or.inr ⟨(own_i hw 18 rfl), rfl, hnm⟩) (own_i hw 1 rfl) (ty := .long) (by decide) rfl rfl (g := (mkF m 30 #[.val (.ref a1), .val (.int (3 : Int32)), .unset, .unset, .unset, .unset, .unset, .unset, .unset] [(.long (4611684686987526146 : Int64)), (.ref a1)])) rfl rfl (hb hby d1_30)
  have Fw141 := f131.same W141
  have N141 := Fr.snoc X141 N128 g1
  have f142 := Nat.le_trans f129 (Keep.of_wr W141).1
  have f143 := f130.wr W141 g1
  have f144 := f132.other W141 (Or.inr (slot_ne (Or.inr (own_i hw 20 rfl)) (Or.inr (own_i hw 18 rfl)) (by decide) (t := .long) (t' := .long) (by decide) (by decide)))
  have f145 := f133.other W141 (Or.inr (slot_ne (Or.inr (own_i hw 30 rfl)) (Or.inr (own_i hw 18 rfl)) (by decide) (t := .long) (t' := .long) (by decide) (by decide)))
  have f146 := f134.wr W141
  have f147 := f135.wr W141 (Or.inl (List.mem_of_getElem? (i := 0) rfl))
  have f148 := f136.other W141 (Ne.symm ne104)
  have f149 := f137.other W141 (Or.inr (slot_ne (Or.inr (own_i hw 11 rfl)) (Or.inr (own_i hw 18 rfl)) (by decide) (t := (.array .long)) (t' := .long) (by decide) (by decide)))
  have f150 := Fw128.other W141 (Or.inr (slot_ne (Or.inr (own_i hw 15 rfl)) (Or.inr (own_i hw 18 rfl)) (by decide) (t := .long) (t' := .long) (by decide) (by decide)))
  obtain ⟨T151, X151, e151, st151⟩ := getF X141 hx hZ hown (host := "") (Or.inl (own_i hw 14 rfl)) Via.refl e141 f150 (g := (mkF m 34 #[.val (.ref a1), .val (.int (3 : Int32)), .unset, .unset, .unset, .unset, .unset, .unset, .unset] [(.ref a1)])) rfl rfl (hb hby d1_34)
  obtain ⟨T152, X152, e152, st152⟩ := getF X151 hx hZ hown (host := "") (Or.inl (own_i hw 14 rfl)) Via.refl e151 f150 (g := (mkF m 52 #[.val (.ref a1), .val (.int (3 : Int32)), .val (.long (2305842343493763073 : Int64)), .second, .val (.int (0 : Int32)), .unset, .unset, .unset, .unset] [(.ref a1), (.long (2 : Int64)), (.long (2305842343493763073 : Int64))])) rfl rfl (hb hby d1_52)
  have pre153 : ∀ t, Steps p.tables e below (T152.setTop (mkF m 57 #[.val (.ref a1), .val (.int (3 : Int32)), .val (.long (2305842343493763073 : Int64)), .second, .val (.int (0 : Int32)), .unset, .unset, .unset, .unset] [(.long ((2305842343493763073 : Int64) * (2305842343493763073 : Int64))), (.long (2 : Int64)), (.long (2305842343493763073 : Int64))])) t → Steps p.tables e below (s₁.setTop (entryFrame m #[(.ref a1), (.int (3 : Int32))] 9)) t := fun t k => pre140 t (by
    show Steps p.tables e below (T138.setTop (mkF m 30 #[.val (.ref a1), .val (.int (3 : Int32)), .unset, .unset, .unset, .unset, .unset, .unset, .unset] [(.long (4611684686987526146 : Int64)), (.ref a1)])) t
    refine st141 _ ?_
    show Steps p.tables e below (T141.setTop (mkF m 33 #[.val (.ref a1), .val (.int (3 : Int32)), .unset, .unset, .unset, .unset, .unset, .unset, .unset] [])) t
    refine XS.aloadN X141.here hx rfl (hb hby d1_33) rfl rfl ?_
    show Steps p.tables e below (T141.setTop (mkF m 34 #[.val (.ref a1), .val (.int (3 : Int32)), .unset, .unset, .unset, .unset, .unset, .unset, .unset] [(.ref a1)])) t
    refine st151 _ ?_
    show Steps p.tables e below (T151.setTop (mkF m 37 #[.val (.ref a1), .val (.int (3 : Int32)), .unset, .unset, .unset, .unset, .unset, .unset, .unset] [(.long (2305842343493763073 : Int64))])) t
    refine XS.lstoreN X151.here hx rfl (hb hby d1_37) rfl (l' := #[.val (.ref a1), .val (.int (3 : Int32)), .val (.long (2305842343493763073 : Int64)), .second, .unset, .unset, .unset, .unset, .unset]) rfl ?_
    show Steps p.tables e below (T151.setTop (mkF m 38 #[.val (.ref a1), .val (.int (3 : Int32)), .val (.long (2305842343493763073 : Int64)), .second, .unset, .unset, .unset, .unset, .unset] [])) t
    refine XS.iconst X151.here hx rfl (hb hby d1_38) ?_
    show Steps p.tables e below (T151.setTop (mkF m 39 #[.val (.ref a1), .val (.int (3 : Int32)), .val (.long (2305842343493763073 : Int64)), .second, .unset, .unset, .unset, .unset, .unset] [(.int (0 : Int32))])) t
    refine XS.istore X151.here hx rfl (hb hby d1_39) rfl (l' := #[.val (.ref a1), .val (.int (3 : Int32)), .val (.long (2305842343493763073 : Int64)), .second, .val (.int (0 : Int32)), .unset, .unset, .unset, .unset]) rfl ?_
    show Steps p.tables e below (T151.setTop (mkF m 41 #[.val (.ref a1), .val (.int (3 : Int32)), .val (.long (2305842343493763073 : Int64)), .second, .val (.int (0 : Int32)), .unset, .unset, .unset, .unset] [])) t
    refine XS.iload X151.here hx rfl (hb hby d1_41) rfl ?_
    show Steps p.tables e below (T151.setTop (mkF m 43 #[.val (.ref a1), .val (.int (3 : Int32)), .val (.long (2305842343493763073 : Int64)), .second, .val (.int (0 : Int32)), .unset, .unset, .unset, .unset] [(.int (0 : Int32))])) t
    refine XS.iconst X151.here hx rfl (hb hby d1_43) ?_
    show Steps p.tables e below (T151.setTop (mkF m 44 #[.val (.ref a1), .val (.int (3 : Int32)), .val (.long (2305842343493763073 : Int64)), .second, .val (.int (0 : Int32)), .unset, .unset, .unset, .unset] [(.int (5 : Int32)), (.int (0 : Int32))])) t
    refine XS.icmpNo X151.here hx rfl (hb hby d1_44) rfl (tlt (by decide : (0 : Int32) < (5 : Int32))).2.1 ?_
    show Steps p.tables e below (T151.setTop (mkF m 47 #[.val (.ref a1), .val (.int (3 : Int32)), .val (.long (2305842343493763073 : Int64)), .second, .val (.int (0 : Int32)), .unset, .unset, .unset, .unset] [])) t
    refine XS.lloadN X151.here hx rfl (hb hby d1_47) rfl ?_
    show Steps p.tables e below (T151.setTop (mkF m 48 #[.val (.ref a1), .val (.int (3 : Int32)), .val (.long (2305842343493763073 : Int64)), .second, .val (.int (0 : Int32)), .unset, .unset, .unset, .unset] [(.long (2305842343493763073 : Int64))])) t
    refine X151.ldc2Long hx hown (mvT hZ (own_i hw 16 rfl)) (g := (mkF m 48 #[.val (.ref a1), .val (.int (3 : Int32)), .val (.long (2305842343493763073 : Int64)), .second, .val (.int (0 : Int32)), .unset, .unset, .unset, .unset] [(.long (2305842343493763073 : Int64))])) rfl (hb hby d1_48) _ ?_
    show Steps p.tables e below (T151.setTop (mkF m 51 #[.val (.ref a1), .val (.int (3 : Int32)), .val (.long (2305842343493763073 : Int64)), .second, .val (.int (0 : Int32)), .unset, .unset, .unset, .unset] [(.long (2 : Int64)), (.long (2305842343493763073 : Int64))])) t
    refine XS.aloadN X151.here hx rfl (hb hby d1_51) rfl rfl ?_
    show Steps p.tables e below (T151.setTop (mkF m 52 #[.val (.ref a1), .val (.int (3 : Int32)), .val (.long (2305842343493763073 : Int64)), .second, .val (.int (0 : Int32)), .unset, .unset, .unset, .unset] [(.ref a1), (.long (2 : Int64)), (.long (2305842343493763073 : Int64))])) t
    refine st152 _ ?_
    show Steps p.tables e below (T152.setTop (mkF m 55 #[.val (.ref a1), .val (.int (3 : Int32)), .val (.long (2305842343493763073 : Int64)), .second, .val (.int (0 : Int32)), .unset, .unset, .unset, .unset] [(.long (2305842343493763073 : Int64)), (.long (2 : Int64)), (.long (2305842343493763073 : Int64))])) t
    refine XS.lloadN X152.here hx rfl (hb hby d1_55) rfl ?_
    show Steps p.tables e below (T152.setTop (mkF m 56 #[.val (.ref a1), .val (.int (3 : Int32)), .val (.long (2305842343493763073 : Int64)), .second, .val (.int (0 : Int32)), .unset, .unset, .unset, .unset] [(.long (2305842343493763073 : Int64)), (.long (2305842343493763073 : Int64)), (.long (2 : Int64)), (.long (2305842343493763073 : Int64))])) t
    refine XS.lmul X152.here hx rfl (hb hby d1_56) rfl ?_
    exact k)
  have pre154 : ∀ t, Steps p.tables e below (T152.setTop (mkF m 57 #[.val (.ref a1), .val (.int (3 : Int32)), .val (.long (2305842343493763073 : Int64)), .second, .val (.int (0 : Int32)), .unset, .unset, .unset, .unset] [(.long (4611684686987526145 : Int64)), (.long (2 : Int64)), (.long (2305842343493763073 : Int64))])) t → Steps p.tables e below (s₁.setTop (entryFrame m #[(.ref a1), (.int (3 : Int32))] 9)) t := fun t k => pre153 t (by rw [show ((2305842343493763073 : Int64) * (2305842343493763073 : Int64)) = (4611684686987526145 : Int64) from (by decide +kernel)]; exact k)
  have pre155 : ∀ t, Steps p.tables e below (T152.setTop (mkF m 58 #[.val (.ref a1), .val (.int (3 : Int32)), .val (.long (2305842343493763073 : Int64)), .second, .val (.int (0 : Int32)), .unset, .unset, .unset, .unset] [(.long ((2 : Int64) - (4611684686987526145 : Int64))), (.long (2305842343493763073 : Int64))])) t → Steps p.tables e below (s₁.setTop (entryFrame m #[(.ref a1), (.int (3 : Int32))] 9)) t := fun t k => pre154 t (by
    show Steps p.tables e below (T152.setTop (mkF m 57 #[.val (.ref a1), .val (.int (3 : Int32)), .val (.long (2305842343493763073 : Int64)), .second, .val (.int (0 : Int32)), .unset, .unset, .unset, .unset] [(.long (4611684686987526145 : Int64)), (.long (2 : Int64)), (.long (2305842343493763073 : Int64))])) t
    refine XS.lsub X152.here hx rfl (hb hby d1_57) rfl ?_
    exact k)
  have pre156 : ∀ t, Steps p.tables e below (T152.setTop (mkF m 58 #[.val (.ref a1), .val (.int (3 : Int32)), .val (.long (2305842343493763073 : Int64)), .second, .val (.int (0 : Int32)), .unset, .unset, .unset, .unset] [(.long (-4611684686987526143 : Int64)), (.long (2305842343493763073 : Int64))])) t → Steps p.tables e below (s₁.setTop (entryFrame m #[(.ref a1), (.int (3 : Int32))] 9)) t := fun t k => pre155 t (by rw [show ((2 : Int64) - (4611684686987526145 : Int64)) = (-4611684686987526143 : Int64) from (by decide +kernel)]; exact k)
  have pre157 : ∀ t, Steps p.tables e below (T152.setTop (mkF m 59 #[.val (.ref a1), .val (.int (3 : Int32)), .val (.long (2305842343493763073 : Int64)), .second, .val (.int (0 : Int32)), .unset, .unset, .unset, .unset] [(.long ((2305842343493763073 : Int64) * (-4611684686987526143 : Int64)))])) t → Steps p.tables e below (s₁.setTop (entryFrame m #[(.ref a1), (.int (3 : Int32))] 9)) t := fun t k => pre156 t (by
    show Steps p.tables e below (T152.setTop (mkF m 58 #[.val (.ref a1), .val (.int (3 : Int32)), .val (.long (2305842343493763073 : Int64)), .second, .val (.int (0 : Int32)), .unset, .unset, .unset, .unset] [(.long (-4611684686987526143 : Int64)), (.long (2305842343493763073 : Int64))])) t
    refine XS.lmul X152.here hx rfl (hb hby d1_58) rfl ?_
    exact k)
  have pre158 : ∀ t, Steps p.tables e below (T152.setTop (mkF m 59 #[.val (.ref a1), .val (.int (3 : Int32)), .val (.long (2305842343493763073 : Int64)), .second, .val (.int (0 : Int32)), .unset, .unset, .unset, .unset] [(.long (-2305842343493763071 : Int64))])) t → Steps p.tables e below (s₁.setTop (entryFrame m #[(.ref a1), (.int (3 : Int32))] 9)) t := fun t k => pre157 t (by rw [show ((2305842343493763073 : Int64) * (-4611684686987526143 : Int64)) = (-2305842343493763071 : Int64) from (by decide +kernel)]; exact k)
  obtain ⟨T159, X159, e159, st159⟩ := getF X152 hx hZ hown (host := "") (Or.inl (own_i hw 14 rfl)) Via.refl e152 f150 (g := (mkF m 52 #[.val (.ref a1), .val (.int (3 : Int32)), .val (.long (-2305842343493763071 : Int64)), .second, .val (.int (1 : Int32)), .unset, .unset, .unset, .unset] [(.ref a1), (.long (2 : Int64)), (.long (-2305842343493763071 : Int64))])) rfl rfl (hb hby d1_52)
  have pre160 : ∀ t, Steps p.tables e below (T159.setTop (mkF m 57 #[.val (.ref a1), .val (.int (3 : Int32)), .val (.long (-2305842343493763071 : Int64)), .second, .val (.int (1 : Int32)), .unset, .unset, .unset, .unset] [(.long ((2305842343493763073 : Int64) * (-2305842343493763071 : Int64))), (.long (2 : Int64)), (.long (-2305842343493763071 : Int64))])) t → Steps p.tables e below (s₁.setTop (entryFrame m #[(.ref a1), (.int (3 : Int32))] 9)) t := fun t k => pre158 t (by
    show Steps p.tables e below (T152.setTop (mkF m 59 #[.val (.ref a1), .val (.int (3 : Int32)), .val (.long (2305842343493763073 : Int64)), .second, .val (.int (0 : Int32)), .unset, .unset, .unset, .unset] [(.long (-2305842343493763071 : Int64))])) t
    refine XS.lstoreN X152.here hx rfl (hb hby d1_59) rfl (l' := #[.val (.ref a1), .val (.int (3 : Int32)), .val (.long (-2305842343493763071 : Int64)), .second, .val (.int (0 : Int32)), .unset, .unset, .unset, .unset]) rfl ?_
    show Steps p.tables e below (T152.setTop (mkF m 60 #[.val (.ref a1), .val (.int (3 : Int32)), .val (.long (-2305842343493763071 : Int64)), .second, .val (.int (0 : Int32)), .unset, .unset, .unset, .unset] [])) t
    refine XS.iinc X152.here hx rfl (hb hby d1_60) rfl (l' := #[.val (.ref a1), .val (.int (3 : Int32)), .val (.long (-2305842343493763071 : Int64)), .second, .val (.int (1 : Int32)), .unset, .unset, .unset, .unset]) rfl ?_
    show Steps p.tables e below (T152.setTop (mkF m 63 #[.val (.ref a1), .val (.int (3 : Int32)), .val (.long (-2305842343493763071 : Int64)), .second, .val (.int (1 : Int32)), .unset, .unset, .unset, .unset] [])) t
    refine XS.goto X152.here hx rfl (pc0 := 63) (pc' := 41) rfl (hb hby d1_63) (by decide) (by decide) ?_
    show Steps p.tables e below (T152.setTop (mkF m 41 #[.val (.ref a1), .val (.int (3 : Int32)), .val (.long (-2305842343493763071 : Int64)), .second, .val (.int (1 : Int32)), .unset, .unset, .unset, .unset] [])) t
    refine XS.iload X152.here hx rfl (hb hby d1_41) rfl ?_
    show Steps p.tables e below (T152.setTop (mkF m 43 #[.val (.ref a1), .val (.int (3 : Int32)), .val (.long (-2305842343493763071 : Int64)), .second, .val (.int (1 : Int32)), .unset, .unset, .unset, .unset] [(.int (1 : Int32))])) t
    refine XS.iconst X152.here hx rfl (hb hby d1_43) ?_
    show Steps p.tables e below (T152.setTop (mkF m 44 #[.val (.ref a1), .val (.int (3 : Int32)), .val (.long (-2305842343493763071 : Int64)), .second, .val (.int (1 : Int32)), .unset, .unset, .unset, .unset] [(.int (5 : Int32)), (.int (1 : Int32))])) t
    refine XS.icmpNo X152.here hx rfl (hb hby d1_44) rfl (tlt (by decide : (1 : Int32) < (5 : Int32))).2.1 ?_
    show Steps p.tables e below (T152.setTop (mkF m 47 #[.val (.ref a1), .val (.int (3 : Int32)), .val (.long (-2305842343493763071 : Int64)), .second, .val (.int (1 : Int32)), .unset, .unset, .unset, .unset] [])) t
    refine XS.lloadN X152.here hx rfl (hb hby d1_47) rfl ?_
    show Steps p.tables e below (T152.setTop (mkF m 48 #[.val (.ref a1), .val (.int (3 : Int32)), .val (.long (-2305842343493763071 : Int64)), .second, .val (.int (1 : Int32)), .unset, .unset, .unset, .unset] [(.long (-2305842343493763071 : Int64))])) t
    refine X152.ldc2Long hx hown (mvT hZ (own_i hw 16 rfl)) (g := (mkF m 48 #[.val (.ref a1), .val (.int (3 : Int32)), .val (.long (-2305842343493763071 : Int64)), .second, .val (.int (1 : Int32)), .unset, .unset, .unset, .unset] [(.long (-2305842343493763071 : Int64))])) rfl (hb hby d1_48) _ ?_
    show Steps p.tables e below (T152.setTop (mkF m 51 #[.val (.ref a1), .val (.int (3 : Int32)), .val (.long (-2305842343493763071 : Int64)), .second, .val (.int (1 : Int32)), .unset, .unset, .unset, .unset] [(.long (2 : Int64)), (.long (-2305842343493763071 : Int64))])) t
    refine XS.aloadN X152.here hx rfl (hb hby d1_51) rfl rfl ?_
    show Steps p.tables e below (T152.setTop (mkF m 52 #[.val (.ref a1), .val (.int (3 : Int32)), .val (.long (-2305842343493763071 : Int64)), .second, .val (.int (1 : Int32)), .unset, .unset, .unset, .unset] [(.ref a1), (.long (2 : Int64)), (.long (-2305842343493763071 : Int64))])) t
    refine st159 _ ?_
    show Steps p.tables e below (T159.setTop (mkF m 55 #[.val (.ref a1), .val (.int (3 : Int32)), .val (.long (-2305842343493763071 : Int64)), .second, .val (.int (1 : Int32)), .unset, .unset, .unset, .unset] [(.long (2305842343493763073 : Int64)), (.long (2 : Int64)), (.long (-2305842343493763071 : Int64))])) t
    refine XS.lloadN X159.here hx rfl (hb hby d1_55) rfl ?_
    show Steps p.tables e below (T159.setTop (mkF m 56 #[.val (.ref a1), .val (.int (3 : Int32)), .val (.long (-2305842343493763071 : Int64)), .second, .val (.int (1 : Int32)), .unset, .unset, .unset, .unset] [(.long (-2305842343493763071 : Int64)), (.long (2305842343493763073 : Int64)), (.long (2 : Int64)), (.long (-2305842343493763071 : Int64))])) t
    refine XS.lmul X159.here hx rfl (hb hby d1_56) rfl ?_
    exact k)
  have pre161 : ∀ t, Steps p.tables e below (T159.setTop (mkF m 57 #[.val (.ref a1), .val (.int (3 : Int32)), .val (.long (-2305842343493763071 : Int64)), .second, .val (.int (1 : Int32)), .unset, .unset, .unset, .unset] [(.long (1 : Int64)), (.long (2 : Int64)), (.long (-2305842343493763071 : Int64))])) t → Steps p.tables e below (s₁.setTop (entryFrame m #[(.ref a1), (.int (3 : Int32))] 9)) t := fun t k => pre160 t (by rw [show ((2305842343493763073 : Int64) * (-2305842343493763071 : Int64)) = (1 : Int64) from (by decide +kernel)]; exact k)
  have pre162 : ∀ t, Steps p.tables e below (T159.setTop (mkF m 58 #[.val (.ref a1), .val (.int (3 : Int32)), .val (.long (-2305842343493763071 : Int64)), .second, .val (.int (1 : Int32)), .unset, .unset, .unset, .unset] [(.long ((2 : Int64) - (1 : Int64))), (.long (-2305842343493763071 : Int64))])) t → Steps p.tables e below (s₁.setTop (entryFrame m #[(.ref a1), (.int (3 : Int32))] 9)) t := fun t k => pre161 t (by
    show Steps p.tables e below (T159.setTop (mkF m 57 #[.val (.ref a1), .val (.int (3 : Int32)), .val (.long (-2305842343493763071 : Int64)), .second, .val (.int (1 : Int32)), .unset, .unset, .unset, .unset] [(.long (1 : Int64)), (.long (2 : Int64)), (.long (-2305842343493763071 : Int64))])) t
    refine XS.lsub X159.here hx rfl (hb hby d1_57) rfl ?_
    exact k)
  have pre163 : ∀ t, Steps p.tables e below (T159.setTop (mkF m 58 #[.val (.ref a1), .val (.int (3 : Int32)), .val (.long (-2305842343493763071 : Int64)), .second, .val (.int (1 : Int32)), .unset, .unset, .unset, .unset] [(.long (1 : Int64)), (.long (-2305842343493763071 : Int64))])) t → Steps p.tables e below (s₁.setTop (entryFrame m #[(.ref a1), (.int (3 : Int32))] 9)) t := fun t k => pre162 t (by rw [show ((2 : Int64) - (1 : Int64)) = (1 : Int64) from (by decide +kernel)]; exact k)
  have pre164 : ∀ t, Steps p.tables e below (T159.setTop (mkF m 59 #[.val (.ref a1), .val (.int (3 : Int32)), .val (.long (-2305842343493763071 : Int64)), .second, .val (.int (1 : Int32)), .unset, .unset, .unset, .unset] [(.long ((-2305842343493763071 : Int64) * (1 : Int64)))])) t → Steps p.tables e below (s₁.setTop (entryFrame m #[(.ref a1), (.int (3 : Int32))] 9)) t := fun t k => pre163 t (by
    show Steps p.tables e below (T159.setTop (mkF m 58 #[.val (.ref a1), .val (.int (3 : Int32)), .val (.long (-2305842343493763071 : Int64)), .second, .val (.int (1 : Int32)), .unset, .unset, .unset, .unset] [(.long (1 : Int64)), (.long (-2305842343493763071 : Int64))])) t
    refine XS.lmul X159.here hx rfl (hb hby d1_58) rfl ?_
    exact k)
  have pre165 : ∀ t, Steps p.tables e below (T159.setTop (mkF m 59 #[.val (.ref a1), .val (.int (3 : Int32)), .val (.long (-2305842343493763071 : Int64)), .second, .val (.int (1 : Int32)), .unset, .unset, .unset, .unset] [(.long (-2305842343493763071 : Int64))])) t → Steps p.tables e below (s₁.setTop (entryFrame m #[(.ref a1), (.int (3 : Int32))] 9)) t := fun t k => pre164 t (by rw [show ((-2305842343493763071 : Int64) * (1 : Int64)) = (-2305842343493763071 : Int64) from (by decide +kernel)]; exact k)
  obtain ⟨T166, X166, e166, st166⟩ := getF X159 hx hZ hown (host := "") (Or.inl (own_i hw 14 rfl)) Via.refl e159 f150 (g := (mkF m 52 #[.val (.ref a1), .val (.int (3 : Int32)), .val (.long (-2305842343493763071 : Int64)), .second, .val (.int (2 : Int32)), .unset, .unset, .unset, .unset] [(.ref a1), (.long (2 : Int64)), (.long (-2305842343493763071 : Int64))])) rfl rfl (hb hby d1_52)
  have pre167 : ∀ t, Steps p.tables e below (T166.setTop (mkF m 57 #[.val (.ref a1), .val (.int (3 : Int32)), .val (.long (-2305842343493763071 : Int64)), .second, .val (.int (2 : Int32)), .unset, .unset, .unset, .unset] [(.long ((2305842343493763073 : Int64) * (-2305842343493763071 : Int64))), (.long (2 : Int64)), (.long (-2305842343493763071 : Int64))])) t → Steps p.tables e below (s₁.setTop (entryFrame m #[(.ref a1), (.int (3 : Int32))] 9)) t := fun t k => pre165 t (by
    show Steps p.tables e below (T159.setTop (mkF m 59 #[.val (.ref a1), .val (.int (3 : Int32)), .val (.long (-2305842343493763071 : Int64)), .second, .val (.int (1 : Int32)), .unset, .unset, .unset, .unset] [(.long (-2305842343493763071 : Int64))])) t
    refine XS.lstoreN X159.here hx rfl (hb hby d1_59) rfl (l' := #[.val (.ref a1), .val (.int (3 : Int32)), .val (.long (-2305842343493763071 : Int64)), .second, .val (.int (1 : Int32)), .unset, .unset, .unset, .unset]) rfl ?_
    show Steps p.tables e below (T159.setTop (mkF m 60 #[.val (.ref a1), .val (.int (3 : Int32)), .val (.long (-2305842343493763071 : Int64)), .second, .val (.int (1 : Int32)), .unset, .unset, .unset, .unset] [])) t
    refine XS.iinc X159.here hx rfl (hb hby d1_60) rfl (l' := #[.val (.ref a1), .val (.int (3 : Int32)), .val (.long (-2305842343493763071 : Int64)), .second, .val (.int (2 : Int32)), .unset, .unset, .unset, .unset]) rfl ?_
    show Steps p.tables e below (T159.setTop (mkF m 63 #[.val (.ref a1), .val (.int (3 : Int32)), .val (.long (-2305842343493763071 : Int64)), .second, .val (.int (2 : Int32)), .unset, .unset, .unset, .unset] [])) t
    refine XS.goto X159.here hx rfl (pc0 := 63) (pc' := 41) rfl (hb hby d1_63) (by decide) (by decide) ?_
    show Steps p.tables e below (T159.setTop (mkF m 41 #[.val (.ref a1), .val (.int (3 : Int32)), .val (.long (-2305842343493763071 : Int64)), .second, .val (.int (2 : Int32)), .unset, .unset, .unset, .unset] [])) t
    refine XS.iload X159.here hx rfl (hb hby d1_41) rfl ?_
    show Steps p.tables e below (T159.setTop (mkF m 43 #[.val (.ref a1), .val (.int (3 : Int32)), .val (.long (-2305842343493763071 : Int64)), .second, .val (.int (2 : Int32)), .unset, .unset, .unset, .unset] [(.int (2 : Int32))])) t
    refine XS.iconst X159.here hx rfl (hb hby d1_43) ?_
    show Steps p.tables e below (T159.setTop (mkF m 44 #[.val (.ref a1), .val (.int (3 : Int32)), .val (.long (-2305842343493763071 : Int64)), .second, .val (.int (2 : Int32)), .unset, .unset, .unset, .unset] [(.int (5 : Int32)), (.int (2 : Int32))])) t
    refine XS.icmpNo X159.here hx rfl (hb hby d1_44) rfl (tlt (by decide : (2 : Int32) < (5 : Int32))).2.1 ?_
    show Steps p.tables e below (T159.setTop (mkF m 47 #[.val (.ref a1), .val (.int (3 : Int32)), .val (.long (-2305842343493763071 : Int64)), .second, .val (.int (2 : Int32)), .unset, .unset, .unset, .unset] [])) t
    refine XS.lloadN X159.here hx rfl (hb hby d1_47) rfl ?_
    show Steps p.tables e below (T159.setTop (mkF m 48 #[.val (.ref a1), .val (.int (3 : Int32)), .val (.long (-2305842343493763071 : Int64)), .second, .val (.int (2 : Int32)), .unset, .unset, .unset, .unset] [(.long (-2305842343493763071 : Int64))])) t
    refine X159.ldc2Long hx hown (mvT hZ (own_i hw 16 rfl)) (g := (mkF m 48 #[.val (.ref a1), .val (.int (3 : Int32)), .val (.long (-2305842343493763071 : Int64)), .second, .val (.int (2 : Int32)), .unset, .unset, .unset, .unset] [(.long (-2305842343493763071 : Int64))])) rfl (hb hby d1_48) _ ?_
    show Steps p.tables e below (T159.setTop (mkF m 51 #[.val (.ref a1), .val (.int (3 : Int32)), .val (.long (-2305842343493763071 : Int64)), .second, .val (.int (2 : Int32)), .unset, .unset, .unset, .unset] [(.long (2 : Int64)), (.long (-2305842343493763071 : Int64))])) t
    refine XS.aloadN X159.here hx rfl (hb hby d1_51) rfl rfl ?_
    show Steps p.tables e below (T159.setTop (mkF m 52 #[.val (.ref a1), .val (.int (3 : Int32)), .val (.long (-2305842343493763071 : Int64)), .second, .val (.int (2 : Int32)), .unset, .unset, .unset, .unset] [(.ref a1), (.long (2 : Int64)), (.long (-2305842343493763071 : Int64))])) t
    refine st166 _ ?_
    show Steps p.tables e below (T166.setTop (mkF m 55 #[.val (.ref a1), .val (.int (3 : Int32)), .val (.long (-2305842343493763071 : Int64)), .second, .val (.int (2 : Int32)), .unset, .unset, .unset, .unset] [(.long (2305842343493763073 : Int64)), (.long (2 : Int64)), (.long (-2305842343493763071 : Int64))])) t
    refine XS.lloadN X166.here hx rfl (hb hby d1_55) rfl ?_
    show Steps p.tables e below (T166.setTop (mkF m 56 #[.val (.ref a1), .val (.int (3 : Int32)), .val (.long (-2305842343493763071 : Int64)), .second, .val (.int (2 : Int32)), .unset, .unset, .unset, .unset] [(.long (-2305842343493763071 : Int64)), (.long (2305842343493763073 : Int64)), (.long (2 : Int64)), (.long (-2305842343493763071 : Int64))])) t
    refine XS.lmul X166.here hx rfl (hb hby d1_56) rfl ?_
    exact k)
  have pre168 : ∀ t, Steps p.tables e below (T166.setTop (mkF m 57 #[.val (.ref a1), .val (.int (3 : Int32)), .val (.long (-2305842343493763071 : Int64)), .second, .val (.int (2 : Int32)), .unset, .unset, .unset, .unset] [(.long (1 : Int64)), (.long (2 : Int64)), (.long (-2305842343493763071 : Int64))])) t → Steps p.tables e below (s₁.setTop (entryFrame m #[(.ref a1), (.int (3 : Int32))] 9)) t := fun t k => pre167 t (by rw [show ((2305842343493763073 : Int64) * (-2305842343493763071 : Int64)) = (1 : Int64) from (by decide +kernel)]; exact k)
  have pre169 : ∀ t, Steps p.tables e below (T166.setTop (mkF m 58 #[.val (.ref a1), .val (.int (3 : Int32)), .val (.long (-2305842343493763071 : Int64)), .second, .val (.int (2 : Int32)), .unset, .unset, .unset, .unset] [(.long ((2 : Int64) - (1 : Int64))), (.long (-2305842343493763071 : Int64))])) t → Steps p.tables e below (s₁.setTop (entryFrame m #[(.ref a1), (.int (3 : Int32))] 9)) t := fun t k => pre168 t (by
    show Steps p.tables e below (T166.setTop (mkF m 57 #[.val (.ref a1), .val (.int (3 : Int32)), .val (.long (-2305842343493763071 : Int64)), .second, .val (.int (2 : Int32)), .unset, .unset, .unset, .unset] [(.long (1 : Int64)), (.long (2 : Int64)), (.long (-2305842343493763071 : Int64))])) t
    refine XS.lsub X166.here hx rfl (hb hby d1_57) rfl ?_
    exact k)
  have pre170 : ∀ t, Steps p.tables e below (T166.setTop (mkF m 58 #[.val (.ref a1), .val (.int (3 : Int32)), .val (.long (-2305842343493763071 : Int64)), .second, .val (.int (2 : Int32)), .unset, .unset, .unset, .unset] [(.long (1 : Int64)), (.long (-2305842343493763071 : Int64))])) t → Steps p.tables e below (s₁.setTop (entryFrame m #[(.ref a1), (.int (3 : Int32))] 9)) t := fun t k => pre169 t (by rw [show ((2 : Int64) - (1 : Int64)) = (1 : Int64) from (by decide +kernel)]; exact k)
  have pre171 : ∀ t, Steps p.tables e below (T166.setTop (mkF m 59 #[.val (.ref a1), .val (.int (3 : Int32)), .val (.long (-2305842343493763071 : Int64)), .second, .val (.int (2 : Int32)), .unset, .unset, .unset, .unset] [(.long ((-2305842343493763071 : Int64) * (1 : Int64)))])) t → Steps p.tables e below (s₁.setTop (entryFrame m #[(.ref a1), (.int (3 : Int32))] 9)) t := fun t k => pre170 t (by
    show Steps p.tables e below (T166.setTop (mkF m 58 #[.val (.ref a1), .val (.int (3 : Int32)), .val (.long (-2305842343493763071 : Int64)), .second, .val (.int (2 : Int32)), .unset, .unset, .unset, .unset] [(.long (1 : Int64)), (.long (-2305842343493763071 : Int64))])) t
    refine XS.lmul X166.here hx rfl (hb hby d1_58) rfl ?_
    exact k)
  have pre172 : ∀ t, Steps p.tables e below (T166.setTop (mkF m 59 #[.val (.ref a1), .val (.int (3 : Int32)), .val (.long (-2305842343493763071 : Int64)), .second, .val (.int (2 : Int32)), .unset, .unset, .unset, .unset] [(.long (-2305842343493763071 : Int64))])) t → Steps p.tables e below (s₁.setTop (entryFrame m #[(.ref a1), (.int (3 : Int32))] 9)) t := fun t k => pre171 t (by rw [show ((-2305842343493763071 : Int64) * (1 : Int64)) = (-2305842343493763071 : Int64) from (by decide +kernel)]; exact k)
  obtain ⟨T173, X173, e173, st173⟩ := getF X166 hx hZ hown (host := "") (Or.inl (own_i hw 14 rfl)) Via.refl e166 f150 (g := (mkF m 52 #[.val (.ref a1), .val (.int (3 : Int32)), .val (.long (-2305842343493763071 : Int64)), .second, .val (.int (3 : Int32)), .unset, .unset, .unset, .unset] [(.ref a1), (.long (2 : Int64)), (.long (-2305842343493763071 : Int64))])) rfl rfl (hb hby d1_52)
  have pre174 : ∀ t, Steps p.tables e below (T173.setTop (mkF m 57 #[.val (.ref a1), .val (.int (3 : Int32)), .val (.long (-2305842343493763071 : Int64)), .second, .val (.int (3 : Int32)), .unset, .unset, .unset, .unset] [(.long ((2305842343493763073 : Int64) * (-2305842343493763071 : Int64))), (.long (2 : Int64)), (.long (-2305842343493763071 : Int64))])) t → Steps p.tables e below (s₁.setTop (entryFrame m #[(.ref a1), (.int (3 : Int32))] 9)) t := fun t k => pre172 t (by
    show Steps p.tables e below (T166.setTop (mkF m 59 #[.val (.ref a1), .val (.int (3 : Int32)), .val (.long (-2305842343493763071 : Int64)), .second, .val (.int (2 : Int32)), .unset, .unset, .unset, .unset] [(.long (-2305842343493763071 : Int64))])) t
    refine XS.lstoreN X166.here hx rfl (hb hby d1_59) rfl (l' := #[.val (.ref a1), .val (.int (3 : Int32)), .val (.long (-2305842343493763071 : Int64)), .second, .val (.int (2 : Int32)), .unset, .unset, .unset, .unset]) rfl ?_
    show Steps p.tables e below (T166.setTop (mkF m 60 #[.val (.ref a1), .val (.int (3 : Int32)), .val (.long (-2305842343493763071 : Int64)), .second, .val (.int (2 : Int32)), .unset, .unset, .unset, .unset] [])) t
    refine XS.iinc X166.here hx rfl (hb hby d1_60) rfl (l' := #[.val (.ref a1), .val (.int (3 : Int32)), .val (.long (-2305842343493763071 : Int64)), .second, .val (.int (3 : Int32)), .unset, .unset, .unset, .unset]) rfl ?_
    show Steps p.tables e below (T166.setTop (mkF m 63 #[.val (.ref a1), .val (.int (3 : Int32)), .val (.long (-2305842343493763071 : Int64)), .second, .val (.int (3 : Int32)), .unset, .unset, .unset, .unset] [])) t
    refine XS.goto X166.here hx rfl (pc0 := 63) (pc' := 41) rfl (hb hby d1_63) (by decide) (by decide) ?_
    show Steps p.tables e below (T166.setTop (mkF m 41 #[.val (.ref a1), .val (.int (3 : Int32)), .val (.long (-2305842343493763071 : Int64)), .second, .val (.int (3 : Int32)), .unset, .unset, .unset, .unset] [])) t
    refine XS.iload X166.here hx rfl (hb hby d1_41) rfl ?_
    show Steps p.tables e below (T166.setTop (mkF m 43 #[.val (.ref a1), .val (.int (3 : Int32)), .val (.long (-2305842343493763071 : Int64)), .second, .val (.int (3 : Int32)), .unset, .unset, .unset, .unset] [(.int (3 : Int32))])) t
    refine XS.iconst X166.here hx rfl (hb hby d1_43) ?_
    show Steps p.tables e below (T166.setTop (mkF m 44 #[.val (.ref a1), .val (.int (3 : Int32)), .val (.long (-2305842343493763071 : Int64)), .second, .val (.int (3 : Int32)), .unset, .unset, .unset, .unset] [(.int (5 : Int32)), (.int (3 : Int32))])) t
    refine XS.icmpNo X166.here hx rfl (hb hby d1_44) rfl (tlt (by decide : (3 : Int32) < (5 : Int32))).2.1 ?_
    show Steps p.tables e below (T166.setTop (mkF m 47 #[.val (.ref a1), .val (.int (3 : Int32)), .val (.long (-2305842343493763071 : Int64)), .second, .val (.int (3 : Int32)), .unset, .unset, .unset, .unset] [])) t
    refine XS.lloadN X166.here hx rfl (hb hby d1_47) rfl ?_
    show Steps p.tables e below (T166.setTop (mkF m 48 #[.val (.ref a1), .val (.int (3 : Int32)), .val (.long (-2305842343493763071 : Int64)), .second, .val (.int (3 : Int32)), .unset, .unset, .unset, .unset] [(.long (-2305842343493763071 : Int64))])) t
    refine X166.ldc2Long hx hown (mvT hZ (own_i hw 16 rfl)) (g := (mkF m 48 #[.val (.ref a1), .val (.int (3 : Int32)), .val (.long (-2305842343493763071 : Int64)), .second, .val (.int (3 : Int32)), .unset, .unset, .unset, .unset] [(.long (-2305842343493763071 : Int64))])) rfl (hb hby d1_48) _ ?_
    show Steps p.tables e below (T166.setTop (mkF m 51 #[.val (.ref a1), .val (.int (3 : Int32)), .val (.long (-2305842343493763071 : Int64)), .second, .val (.int (3 : Int32)), .unset, .unset, .unset, .unset] [(.long (2 : Int64)), (.long (-2305842343493763071 : Int64))])) t
    refine XS.aloadN X166.here hx rfl (hb hby d1_51) rfl rfl ?_
    show Steps p.tables e below (T166.setTop (mkF m 52 #[.val (.ref a1), .val (.int (3 : Int32)), .val (.long (-2305842343493763071 : Int64)), .second, .val (.int (3 : Int32)), .unset, .unset, .unset, .unset] [(.ref a1), (.long (2 : Int64)), (.long (-2305842343493763071 : Int64))])) t
    refine st173 _ ?_
    show Steps p.tables e below (T173.setTop (mkF m 55 #[.val (.ref a1), .val (.int (3 : Int32)), .val (.long (-2305842343493763071 : Int64)), .second, .val (.int (3 : Int32)), .unset, .unset, .unset, .unset] [(.long (2305842343493763073 : Int64)), (.long (2 : Int64)), (.long (-2305842343493763071 : Int64))])) t
    refine XS.lloadN X173.here hx rfl (hb hby d1_55) rfl ?_
    show Steps p.tables e below (T173.setTop (mkF m 56 #[.val (.ref a1), .val (.int (3 : Int32)), .val (.long (-2305842343493763071 : Int64)), .second, .val (.int (3 : Int32)), .unset, .unset, .unset, .unset] [(.long (-2305842343493763071 : Int64)), (.long (2305842343493763073 : Int64)), (.long (2 : Int64)), (.long (-2305842343493763071 : Int64))])) t
    refine XS.lmul X173.here hx rfl (hb hby d1_56) rfl ?_
    exact k)
  have pre175 : ∀ t, Steps p.tables e below (T173.setTop (mkF m 57 #[.val (.ref a1), .val (.int (3 : Int32)), .val (.long (-2305842343493763071 : Int64)), .second, .val (.int (3 : Int32)), .unset, .unset, .unset, .unset] [(.long (1 : Int64)), (.long (2 : Int64)), (.long (-2305842343493763071 : Int64))])) t → Steps p.tables e below (s₁.setTop (entryFrame m #[(.ref a1), (.int (3 : Int32))] 9)) t := fun t k => pre174 t (by rw [show ((2305842343493763073 : Int64) * (-2305842343493763071 : Int64)) = (1 : Int64) from (by decide +kernel)]; exact k)
  have pre176 : ∀ t, Steps p.tables e below (T173.setTop (mkF m 58 #[.val (.ref a1), .val (.int (3 : Int32)), .val (.long (-2305842343493763071 : Int64)), .second, .val (.int (3 : Int32)), .unset, .unset, .unset, .unset] [(.long ((2 : Int64) - (1 : Int64))), (.long (-2305842343493763071 : Int64))])) t → Steps p.tables e below (s₁.setTop (entryFrame m #[(.ref a1), (.int (3 : Int32))] 9)) t := fun t k => pre175 t (by
    show Steps p.tables e below (T173.setTop (mkF m 57 #[.val (.ref a1), .val (.int (3 : Int32)), .val (.long (-2305842343493763071 : Int64)), .second, .val (.int (3 : Int32)), .unset, .unset, .unset, .unset] [(.long (1 : Int64)), (.long (2 : Int64)), (.long (-2305842343493763071 : Int64))])) t
    refine XS.lsub X173.here hx rfl (hb hby d1_57) rfl ?_
    exact k)
  have pre177 : ∀ t, Steps p.tables e below (T173.setTop (mkF m 58 #[.val (.ref a1), .val (.int (3 : Int32)), .val (.long (-2305842343493763071 : Int64)), .second, .val (.int (3 : Int32)), .unset, .unset, .unset, .unset] [(.long (1 : Int64)), (.long (-2305842343493763071 : Int64))])) t → Steps p.tables e below (s₁.setTop (entryFrame m #[(.ref a1), (.int (3 : Int32))] 9)) t := fun t k => pre176 t (by rw [show ((2 : Int64) - (1 : Int64)) = (1 : Int64) from (by decide +kernel)]; exact k)
  have pre178 : ∀ t, Steps p.tables e below (T173.setTop (mkF m 59 #[.val (.ref a1), .val (.int (3 : Int32)), .val (.long (-2305842343493763071 : Int64)), .second, .val (.int (3 : Int32)), .unset, .unset, .unset, .unset] [(.long ((-2305842343493763071 : Int64) * (1 : Int64)))])) t → Steps p.tables e below (s₁.setTop (entryFrame m #[(.ref a1), (.int (3 : Int32))] 9)) t := fun t k => pre177 t (by
    show Steps p.tables e below (T173.setTop (mkF m 58 #[.val (.ref a1), .val (.int (3 : Int32)), .val (.long (-2305842343493763071 : Int64)), .second, .val (.int (3 : Int32)), .unset, .unset, .unset, .unset] [(.long (1 : Int64)), (.long (-2305842343493763071 : Int64))])) t
    refine XS.lmul X173.here hx rfl (hb hby d1_58) rfl ?_
    exact k)
  have pre179 : ∀ t, Steps p.tables e below (T173.setTop (mkF m 59 #[.val (.ref a1), .val (.int (3 : Int32)), .val (.long (-2305842343493763071 : Int64)), .second, .val (.int (3 : Int32)), .unset, .unset, .unset, .unset] [(.long (-2305842343493763071 : Int64))])) t → Steps p.tables e below (s₁.setTop (entryFrame m #[(.ref a1), (.int (3 : Int32))] 9)) t := fun t k => pre178 t (by rw [show ((-2305842343493763071 : Int64) * (1 : Int64)) = (-2305842343493763071 : Int64) from (by decide +kernel)]; exact k)
  obtain ⟨T180, X180, e180, st180⟩ := getF X173 hx hZ hown (host := "") (Or.inl (own_i hw 14 rfl)) Via.refl e173 f150 (g := (mkF m 52 #[.val (.ref a1), .val (.int (3 : Int32)), .val (.long (-2305842343493763071 : Int64)), .second, .val (.int (4 : Int32)), .unset, .unset, .unset, .unset] [(.ref a1), (.long (2 : Int64)), (.long (-2305842343493763071 : Int64))])) rfl rfl (hb hby d1_52)
  have pre181 : ∀ t, Steps p.tables e below (T180.setTop (mkF m 57 #[.val (.ref a1), .val (.int (3 : Int32)), .val (.long (-2305842343493763071 : Int64)), .second, .val (.int (4 : Int32)), .unset, .unset, .unset, .unset] [(.long ((2305842343493763073 : Int64) * (-2305842343493763071 : Int64))), (.long (2 : Int64)), (.long (-2305842343493763071 : Int64))])) t → Steps p.tables e below (s₁.setTop (entryFrame m #[(.ref a1), (.int (3 : Int32))] 9)) t := fun t k => pre179 t (by
    show Steps p.tables e below (T173.setTop (mkF m 59 #[.val (.ref a1), .val (.int (3 : Int32)), .val (.long (-2305842343493763071 : Int64)), .second, .val (.int (3 : Int32)), .unset, .unset, .unset, .unset] [(.long (-2305842343493763071 : Int64))])) t
    refine XS.lstoreN X173.here hx rfl (hb hby d1_59) rfl (l' := #[.val (.ref a1), .val (.int (3 : Int32)), .val (.long (-2305842343493763071 : Int64)), .second, .val (.int (3 : Int32)), .unset, .unset, .unset, .unset]) rfl ?_
    show Steps p.tables e below (T173.setTop (mkF m 60 #[.val (.ref a1), .val (.int (3 : Int32)), .val (.long (-2305842343493763071 : Int64)), .second, .val (.int (3 : Int32)), .unset, .unset, .unset, .unset] [])) t
    refine XS.iinc X173.here hx rfl (hb hby d1_60) rfl (l' := #[.val (.ref a1), .val (.int (3 : Int32)), .val (.long (-2305842343493763071 : Int64)), .second, .val (.int (4 : Int32)), .unset, .unset, .unset, .unset]) rfl ?_
    show Steps p.tables e below (T173.setTop (mkF m 63 #[.val (.ref a1), .val (.int (3 : Int32)), .val (.long (-2305842343493763071 : Int64)), .second, .val (.int (4 : Int32)), .unset, .unset, .unset, .unset] [])) t
    refine XS.goto X173.here hx rfl (pc0 := 63) (pc' := 41) rfl (hb hby d1_63) (by decide) (by decide) ?_
    show Steps p.tables e below (T173.setTop (mkF m 41 #[.val (.ref a1), .val (.int (3 : Int32)), .val (.long (-2305842343493763071 : Int64)), .second, .val (.int (4 : Int32)), .unset, .unset, .unset, .unset] [])) t
    refine XS.iload X173.here hx rfl (hb hby d1_41) rfl ?_
    show Steps p.tables e below (T173.setTop (mkF m 43 #[.val (.ref a1), .val (.int (3 : Int32)), .val (.long (-2305842343493763071 : Int64)), .second, .val (.int (4 : Int32)), .unset, .unset, .unset, .unset] [(.int (4 : Int32))])) t
    refine XS.iconst X173.here hx rfl (hb hby d1_43) ?_
    show Steps p.tables e below (T173.setTop (mkF m 44 #[.val (.ref a1), .val (.int (3 : Int32)), .val (.long (-2305842343493763071 : Int64)), .second, .val (.int (4 : Int32)), .unset, .unset, .unset, .unset] [(.int (5 : Int32)), (.int (4 : Int32))])) t
    refine XS.icmpNo X173.here hx rfl (hb hby d1_44) rfl (tlt (by decide : (4 : Int32) < (5 : Int32))).2.1 ?_
    show Steps p.tables e below (T173.setTop (mkF m 47 #[.val (.ref a1), .val (.int (3 : Int32)), .val (.long (-2305842343493763071 : Int64)), .second, .val (.int (4 : Int32)), .unset, .unset, .unset, .unset] [])) t
    refine XS.lloadN X173.here hx rfl (hb hby d1_47) rfl ?_
    show Steps p.tables e below (T173.setTop (mkF m 48 #[.val (.ref a1), .val (.int (3 : Int32)), .val (.long (-2305842343493763071 : Int64)), .second, .val (.int (4 : Int32)), .unset, .unset, .unset, .unset] [(.long (-2305842343493763071 : Int64))])) t
    refine X173.ldc2Long hx hown (mvT hZ (own_i hw 16 rfl)) (g := (mkF m 48 #[.val (.ref a1), .val (.int (3 : Int32)), .val (.long (-2305842343493763071 : Int64)), .second, .val (.int (4 : Int32)), .unset, .unset, .unset, .unset] [(.long (-2305842343493763071 : Int64))])) rfl (hb hby d1_48) _ ?_
    show Steps p.tables e below (T173.setTop (mkF m 51 #[.val (.ref a1), .val (.int (3 : Int32)), .val (.long (-2305842343493763071 : Int64)), .second, .val (.int (4 : Int32)), .unset, .unset, .unset, .unset] [(.long (2 : Int64)), (.long (-2305842343493763071 : Int64))])) t
    refine XS.aloadN X173.here hx rfl (hb hby d1_51) rfl rfl ?_
    show Steps p.tables e below (T173.setTop (mkF m 52 #[.val (.ref a1), .val (.int (3 : Int32)), .val (.long (-2305842343493763071 : Int64)), .second, .val (.int (4 : Int32)), .unset, .unset, .unset, .unset] [(.ref a1), (.long (2 : Int64)), (.long (-2305842343493763071 : Int64))])) t
    refine st180 _ ?_
    show Steps p.tables e below (T180.setTop (mkF m 55 #[.val (.ref a1), .val (.int (3 : Int32)), .val (.long (-2305842343493763071 : Int64)), .second, .val (.int (4 : Int32)), .unset, .unset, .unset, .unset] [(.long (2305842343493763073 : Int64)), (.long (2 : Int64)), (.long (-2305842343493763071 : Int64))])) t
    refine XS.lloadN X180.here hx rfl (hb hby d1_55) rfl ?_
    show Steps p.tables e below (T180.setTop (mkF m 56 #[.val (.ref a1), .val (.int (3 : Int32)), .val (.long (-2305842343493763071 : Int64)), .second, .val (.int (4 : Int32)), .unset, .unset, .unset, .unset] [(.long (-2305842343493763071 : Int64)), (.long (2305842343493763073 : Int64)), (.long (2 : Int64)), (.long (-2305842343493763071 : Int64))])) t
    refine XS.lmul X180.here hx rfl (hb hby d1_56) rfl ?_
    exact k)
  have pre182 : ∀ t, Steps p.tables e below (T180.setTop (mkF m 57 #[.val (.ref a1), .val (.int (3 : Int32)), .val (.long (-2305842343493763071 : Int64)), .second, .val (.int (4 : Int32)), .unset, .unset, .unset, .unset] [(.long (1 : Int64)), (.long (2 : Int64)), (.long (-2305842343493763071 : Int64))])) t → Steps p.tables e below (s₁.setTop (entryFrame m #[(.ref a1), (.int (3 : Int32))] 9)) t := fun t k => pre181 t (by rw [show ((2305842343493763073 : Int64) * (-2305842343493763071 : Int64)) = (1 : Int64) from (by decide +kernel)]; exact k)
  have pre183 : ∀ t, Steps p.tables e below (T180.setTop (mkF m 58 #[.val (.ref a1), .val (.int (3 : Int32)), .val (.long (-2305842343493763071 : Int64)), .second, .val (.int (4 : Int32)), .unset, .unset, .unset, .unset] [(.long ((2 : Int64) - (1 : Int64))), (.long (-2305842343493763071 : Int64))])) t → Steps p.tables e below (s₁.setTop (entryFrame m #[(.ref a1), (.int (3 : Int32))] 9)) t := fun t k => pre182 t (by
    show Steps p.tables e below (T180.setTop (mkF m 57 #[.val (.ref a1), .val (.int (3 : Int32)), .val (.long (-2305842343493763071 : Int64)), .second, .val (.int (4 : Int32)), .unset, .unset, .unset, .unset] [(.long (1 : Int64)), (.long (2 : Int64)), (.long (-2305842343493763071 : Int64))])) t
    refine XS.lsub X180.here hx rfl (hb hby d1_57) rfl ?_
    exact k)
  have pre184 : ∀ t, Steps p.tables e below (T180.setTop (mkF m 58 #[.val (.ref a1), .val (.int (3 : Int32)), .val (.long (-2305842343493763071 : Int64)), .second, .val (.int (4 : Int32)), .unset, .unset, .unset, .unset] [(.long (1 : Int64)), (.long (-2305842343493763071 : Int64))])) t → Steps p.tables e below (s₁.setTop (entryFrame m #[(.ref a1), (.int (3 : Int32))] 9)) t := fun t k => pre183 t (by rw [show ((2 : Int64) - (1 : Int64)) = (1 : Int64) from (by decide +kernel)]; exact k)
  have pre185 : ∀ t, Steps p.tables e below (T180.setTop (mkF m 59 #[.val (.ref a1), .val (.int (3 : Int32)), .val (.long (-2305842343493763071 : Int64)), .second, .val (.int (4 : Int32)), .unset, .unset, .unset, .unset] [(.long ((-2305842343493763071 : Int64) * (1 : Int64)))])) t → Steps p.tables e below (s₁.setTop (entryFrame m #[(.ref a1), (.int (3 : Int32))] 9)) t := fun t k => pre184 t (by
    show Steps p.tables e below (T180.setTop (mkF m 58 #[.val (.ref a1), .val (.int (3 : Int32)), .val (.long (-2305842343493763071 : Int64)), .second, .val (.int (4 : Int32)), .unset, .unset, .unset, .unset] [(.long (1 : Int64)), (.long (-2305842343493763071 : Int64))])) t
    refine XS.lmul X180.here hx rfl (hb hby d1_58) rfl ?_
    exact k)
  have pre186 : ∀ t, Steps p.tables e below (T180.setTop (mkF m 59 #[.val (.ref a1), .val (.int (3 : Int32)), .val (.long (-2305842343493763071 : Int64)), .second, .val (.int (4 : Int32)), .unset, .unset, .unset, .unset] [(.long (-2305842343493763071 : Int64))])) t → Steps p.tables e below (s₁.setTop (entryFrame m #[(.ref a1), (.int (3 : Int32))] 9)) t := fun t k => pre185 t (by rw [show ((-2305842343493763071 : Int64) * (1 : Int64)) = (-2305842343493763071 : Int64) from (by decide +kernel)]; exact k)
  obtain ⟨T187, h187, X187, e187, W187, st187⟩ := putF X180 hx hZ hown (host := "") (Or.inl (own_i hw 19 rfl)) Via.refl e180 f144 f146 (Or.inr ⟨(own_i hw 20 rfl), rfl, hnm⟩) (own_i hw 1 rfl) (ty := .long) (by decide) rfl rfl (g := (mkF m 68 #[.val (.ref a1), .val (.int (3 : Int32)), .val (.long (-2305842343493763071 : Int64)), .second, .val (.int (5 : Int32)), .unset, .unset, .unset, .unset] [(.long (-2305842343493763071 : Int64)), (.ref a1)])) rfl rfl (hb hby d1_68)
  have Fw187 := f144.same W187
  have N187 := Fr.snoc X187 N141 g1
  have f188 := Nat.le_trans f142 (Keep.of_wr W187).1
  have f189 := f143.wr W187 g1
  have f190 := f145.other W187 (Or.inr (slot_ne (Or.inr (own_i hw 30 rfl)) (Or.inr (own_i hw 20 rfl)) (by decide) (t := .long) (t' := .long) (by decide) (by decide)))
  have f191 := f146.wr W187
  have f192 := f147.wr W187 (Or.inl (List.mem_of_getElem? (i := 0) rfl))
  have f193 := f148.other W187 (Ne.symm ne104)
  have f194 := f149.other W187 (Or.inr (slot_ne (Or.inr (own_i hw 11 rfl)) (Or.inr (own_i hw 20 rfl)) (by decide) (t := (.array .long)) (t' := .long) (by decide) (by decide)))
  have f195 := f150.other W187 (Or.inr (slot_ne (Or.inr (own_i hw 15 rfl)) (Or.inr (own_i hw 20 rfl)) (by decide) (t := .long) (t' := .long) (by decide) (by decide)))
  have f196 := Fw141.other W187 (Or.inr (slot_ne (Or.inr (own_i hw 18 rfl)) (Or.inr (own_i hw 20 rfl)) (by decide) (t := .long) (t' := .long) (by decide) (by decide)))
  obtain ⟨T197, X197, e197, st197⟩ := getF X187 hx hZ hown (host := "") (Or.inl (own_i hw 14 rfl)) Via.refl e187 f195 (g := (mkF m 72 #[.val (.ref a1), .val (.int (3 : Int32)), .val (.long (-2305842343493763071 : Int64)), .second, .val (.int (5 : Int32)), .unset, .unset, .unset, .unset] [(.ref a1)])) rfl rfl (hb hby d1_72)
  have pre198 : ∀ t, Steps p.tables e below (T197.setTop (mkF m 76 #[.val (.ref a1), .val (.int (3 : Int32)), .val (.long (-2305842343493763071 : Int64)), .second, .val (.int (5 : Int32)), .unset, .unset, .unset, .unset] [(.long (-(2305842343493763073 : Int64)))])) t → Steps p.tables e below (s₁.setTop (entryFrame m #[(.ref a1), (.int (3 : Int32))] 9)) t := fun t k => pre186 t (by
    show Steps p.tables e below (T180.setTop (mkF m 59 #[.val (.ref a1), .val (.int (3 : Int32)), .val (.long (-2305842343493763071 : Int64)), .second, .val (.int (4 : Int32)), .unset, .unset, .unset, .unset] [(.long (-2305842343493763071 : Int64))])) t
    refine XS.lstoreN X180.here hx rfl (hb hby d1_59) rfl (l' := #[.val (.ref a1), .val (.int (3 : Int32)), .val (.long (-2305842343493763071 : Int64)), .second, .val (.int (4 : Int32)), .unset, .unset, .unset, .unset]) rfl ?_
    show Steps p.tables e below (T180.setTop (mkF m 60 #[.val (.ref a1), .val (.int (3 : Int32)), .val (.long (-2305842343493763071 : Int64)), .second, .val (.int (4 : Int32)), .unset, .unset, .unset, .unset] [])) t
    refine XS.iinc X180.here hx rfl (hb hby d1_60) rfl (l' := #[.val (.ref a1), .val (.int (3 : Int32)), .val (.long (-2305842343493763071 : Int64)), .second, .val (.int (5 : Int32)), .unset, .unset, .unset, .unset]) rfl ?_
    show Steps p.tables e below (T180.setTop (mkF m 63 #[.val (.ref a1), .val (.int (3 : Int32)), .val (.long (-2305842343493763071 : Int64)), .second, .val (.int (5 : Int32)), .unset, .unset, .unset, .unset] [])) t
    refine XS.goto X180.here hx rfl (pc0 := 63) (pc' := 41) rfl (hb hby d1_63) (by decide) (by decide) ?_
    show Steps p.tables e below (T180.setTop (mkF m 41 #[.val (.ref a1), .val (.int (3 : Int32)), .val (.long (-2305842343493763071 : Int64)), .second, .val (.int (5 : Int32)), .unset, .unset, .unset, .unset] [])) t
    refine XS.iload X180.here hx rfl (hb hby d1_41) rfl ?_
    show Steps p.tables e below (T180.setTop (mkF m 43 #[.val (.ref a1), .val (.int (3 : Int32)), .val (.long (-2305842343493763071 : Int64)), .second, .val (.int (5 : Int32)), .unset, .unset, .unset, .unset] [(.int (5 : Int32))])) t
    refine XS.iconst X180.here hx rfl (hb hby d1_43) ?_
    show Steps p.tables e below (T180.setTop (mkF m 44 #[.val (.ref a1), .val (.int (3 : Int32)), .val (.long (-2305842343493763071 : Int64)), .second, .val (.int (5 : Int32)), .unset, .unset, .unset, .unset] [(.int (5 : Int32)), (.int (5 : Int32))])) t
    refine XS.icmpYes X180.here hx rfl (pc0 := 44) (pc' := 66) rfl (hb hby d1_44) rfl (flt (by decide : ¬ ((5 : Int32) < (5 : Int32)))).2.1 (by decide) (by decide) ?_
    show Steps p.tables e below (T180.setTop (mkF m 66 #[.val (.ref a1), .val (.int (3 : Int32)), .val (.long (-2305842343493763071 : Int64)), .second, .val (.int (5 : Int32)), .unset, .unset, .unset, .unset] [])) t
    refine XS.aloadN X180.here hx rfl (hb hby d1_66) rfl rfl ?_
    show Steps p.tables e below (T180.setTop (mkF m 67 #[.val (.ref a1), .val (.int (3 : Int32)), .val (.long (-2305842343493763071 : Int64)), .second, .val (.int (5 : Int32)), .unset, .unset, .unset, .unset] [(.ref a1)])) t
    refine XS.lloadN X180.here hx rfl (hb hby d1_67) rfl ?_
    show Steps p.tables e below (T180.setTop (mkF m 68 #[.val (.ref a1), .val (.int (3 : Int32)), .val (.long (-2305842343493763071 : Int64)), .second, .val (.int (5 : Int32)), .unset, .unset, .unset, .unset] [(.long (-2305842343493763071 : Int64)), (.ref a1)])) t
    refine st187 _ ?_
    show Steps p.tables e below (T187.setTop (mkF m 71 #[.val (.ref a1), .val (.int (3 : Int32)), .val (.long (-2305842343493763071 : Int64)), .second, .val (.int (5 : Int32)), .unset, .unset, .unset, .unset] [])) t
    refine XS.aloadN X187.here hx rfl (hb hby d1_71) rfl rfl ?_
    show Steps p.tables e below (T187.setTop (mkF m 72 #[.val (.ref a1), .val (.int (3 : Int32)), .val (.long (-2305842343493763071 : Int64)), .second, .val (.int (5 : Int32)), .unset, .unset, .unset, .unset] [(.ref a1)])) t
    refine st197 _ ?_
    show Steps p.tables e below (T197.setTop (mkF m 75 #[.val (.ref a1), .val (.int (3 : Int32)), .val (.long (-2305842343493763071 : Int64)), .second, .val (.int (5 : Int32)), .unset, .unset, .unset, .unset] [(.long (2305842343493763073 : Int64))])) t
    refine XS.lneg X197.here hx rfl (hb hby d1_75) rfl ?_
    exact k)
  have pre199 : ∀ t, Steps p.tables e below (T197.setTop (mkF m 76 #[.val (.ref a1), .val (.int (3 : Int32)), .val (.long (-2305842343493763071 : Int64)), .second, .val (.int (5 : Int32)), .unset, .unset, .unset, .unset] [(.long (-2305842343493763073 : Int64))])) t → Steps p.tables e below (s₁.setTop (entryFrame m #[(.ref a1), (.int (3 : Int32))] 9)) t := fun t k => pre198 t (by rw [show (-(2305842343493763073 : Int64)) = (-2305842343493763073 : Int64) from (by decide +kernel)]; exact k)
  obtain ⟨T200, X200, e200, st200⟩ := getF X197 hx hZ hown (host := "") (Or.inl (own_i hw 14 rfl)) Via.refl e197 f195 (g := (mkF m 77 #[.val (.ref a1), .val (.int (3 : Int32)), .val (.long (-2305842343493763071 : Int64)), .second, .val (.int (5 : Int32)), .unset, .unset, .unset, .unset] [(.ref a1), (.long (-2305842343493763073 : Int64))])) rfl rfl (hb hby d1_77)
  obtain ⟨_, _, ⟨T201, L201, k201, n201⟩, -, X201, ⟨Lc201, hQ201, l201, y201, z201⟩, st201⟩ := Jvm.LawKit.callS X200 hx (y := (⟨"java/lang/Long", "remainderUnsigned", "(JJ)J"⟩ : MethodName)) hown (mvT hZ (own_i hw 21 rfl)) (mvT hZ (own_i hw 22 rfl)) (mvT hZ (own_i hw 23 rfl)) (mvT hZ (own_i hw 24 rfl)) (by decide) (backOf (W := 0) (rmRU l Z a0 hw [] (-2305842343493763073 : Int64) (2305842343493763073 : Int64) h187 n0 f188 (by decide) (by decide)) hZ (own_i hw 24 rfl) (own_i hw 23 rfl) (by decide) (by decide)) (g := (mkF m 80 #[.val (.ref a1), .val (.int (3 : Int32)), .val (.long (-2305842343493763071 : Int64)), .second, .val (.int (5 : Int32)), .unset, .unset, .unset, .unset] [(.long (2305842343493763073 : Int64)), (.long (-2305842343493763073 : Int64))])) rfl (by rw [hml]; rfl) (argsL := [(.long (-2305842343493763073 : Int64)), (.long (2305842343493763073 : Int64))]) (rest := []) (lenOf pd_0 rfl) rfl (by show 2 * 0 + _ ≤ _; exact Nat.le_of_eq rfl) (hb hby d1_80) (fun _ _ => ⟨rfl, e200, (by decide : 1 + 0 ≤ _), (by decide : 33 + 0 ≤ _)⟩)
  dsimp only [Pt.U, Pt.locs, Pt.cells, Pt.slots] at X201 l201 y201 z201 st201 hQ201
  subst l201 y201 z201
  obtain ⟨rfl, N201q, e201⟩ := hQ201
  have N201 := Fr.app N187 N201q
  have pre202 : ∀ t, Steps p.tables e below (T201.setTop (mkF m 83 #[.val (.ref a1), .val (.int (3 : Int32)), .val (.long (-2305842343493763071 : Int64)), .second, .val (.int (5 : Int32)), .unset, .unset, .unset, .unset] [(.long (own_ru (-2305842343493763073 : Int64) (2305842343493763073 : Int64)))])) t → Steps p.tables e below (s₁.setTop (entryFrame m #[(.ref a1), (.int (3 : Int32))] 9)) t := fun t k => pre199 t (by
    show Steps p.tables e below (T197.setTop (mkF m 76 #[.val (.ref a1), .val (.int (3 : Int32)), .val (.long (-2305842343493763071 : Int64)), .second, .val (.int (5 : Int32)), .unset, .unset, .unset, .unset] [(.long (-2305842343493763073 : Int64))])) t
    refine XS.aloadN X197.here hx rfl (hb hby d1_76) rfl rfl ?_
    show Steps p.tables e below (T197.setTop (mkF m 77 #[.val (.ref a1), .val (.int (3 : Int32)), .val (.long (-2305842343493763071 : Int64)), .second, .val (.int (5 : Int32)), .unset, .unset, .unset, .unset] [(.ref a1), (.long (-2305842343493763073 : Int64))])) t
    refine st200 _ ?_
    show Steps p.tables e below (T200.setTop (mkF m 80 #[.val (.ref a1), .val (.int (3 : Int32)), .val (.long (-2305842343493763071 : Int64)), .second, .val (.int (5 : Int32)), .unset, .unset, .unset, .unset] [(.long (2305842343493763073 : Int64)), (.long (-2305842343493763073 : Int64))])) t
    refine st201 _ ?_
    exact k)
  have pre203 : ∀ t, Steps p.tables e below (T201.setTop (mkF m 83 #[.val (.ref a1), .val (.int (3 : Int32)), .val (.long (-2305842343493763071 : Int64)), .second, .val (.int (5 : Int32)), .unset, .unset, .unset, .unset] [(.long (5325759447032 : Int64))])) t → Steps p.tables e below (s₁.setTop (entryFrame m #[(.ref a1), (.int (3 : Int32))] 9)) t := fun t k => pre202 t (by rw [show (own_ru (-2305842343493763073 : Int64) (2305842343493763073 : Int64)) = (5325759447032 : Int64) from (by decide +kernel)]; exact k)
  have pre204 : ∀ t, Steps p.tables e below (T201.setTop (mkF m 88 #[.val (.ref a1), .val (.int (3 : Int32)), .val (.long (-2305842343493763071 : Int64)), .second, .val (.long (5325759447032 : Int64)), .second, .val (.int (0 : Int32)), .unset, .unset] [])) t → Steps p.tables e below (s₁.setTop (entryFrame m #[(.ref a1), (.int (3 : Int32))] 9)) t := fun t k => pre203 t (by
    show Steps p.tables e below (T201.setTop (mkF m 83 #[.val (.ref a1), .val (.int (3 : Int32)), .val (.long (-2305842343493763071 : Int64)), .second, .val (.int (5 : Int32)), .unset, .unset, .unset, .unset] [(.long (5325759447032 : Int64))])) t
    refine XS.lstore X201.here hx rfl (hb hby d1_83) rfl (l' := #[.val (.ref a1), .val (.int (3 : Int32)), .val (.long (-2305842343493763071 : Int64)), .second, .val (.long (5325759447032 : Int64)), .second, .unset, .unset, .unset]) rfl ?_
    show Steps p.tables e below (T201.setTop (mkF m 85 #[.val (.ref a1), .val (.int (3 : Int32)), .val (.long (-2305842343493763071 : Int64)), .second, .val (.long (5325759447032 : Int64)), .second, .unset, .unset, .unset] [])) t
    refine XS.iconst X201.here hx rfl (hb hby d1_85) ?_
    show Steps p.tables e below (T201.setTop (mkF m 86 #[.val (.ref a1), .val (.int (3 : Int32)), .val (.long (-2305842343493763071 : Int64)), .second, .val (.long (5325759447032 : Int64)), .second, .unset, .unset, .unset] [(.int (0 : Int32))])) t
    refine XS.istore X201.here hx rfl (hb hby d1_86) rfl (l' := #[.val (.ref a1), .val (.int (3 : Int32)), .val (.long (-2305842343493763071 : Int64)), .second, .val (.long (5325759447032 : Int64)), .second, .val (.int (0 : Int32)), .unset, .unset]) rfl ?_
    exact k)
  have hl205 : ∀ (nn : Nat) (T205 : State) (L205 : List Loc) (sqv : Int64) (ii : Int32) (k : Nat), Stand p l e ({ frames := 5, cells := 1, slots := 33, locals := 105 } : Room) s m #[(.ref a1), (.int (3 : Int32))] below meth c T205 L205 1 33 → T205.heap = h187 → Fr n0 L205 → (sqv = own_dbl (5325759447032 : Int64) (2305842343493763073 : Int64) k) → (ii = Int32.ofNat k) → (k ≤ 64) → (64 - k) < nn → (∀ t, Steps p.tables e below (T205.setTop (mkF m 88 #[.val (.ref a1), .val (.int (3 : Int32)), .val (.long (-2305842343493763071 : Int64)), .second, .val (.long sqv), .second, .val (.int ii), .unset, .unset] [])) t → Steps p.tables e below (s₁.setTop (entryFrame m #[(.ref a1), (.int (3 : Int32))] 9)) t) → ∃ s₂ o, Steps p.tables e below (s₁.setTop (entryFrame m #[(.ref a1), (.int (3 : Int32))] 9)) s₂ ∧ s₂.status = .running ∧ Ended s₂ below o ∧ ∃ v L, o = .returned v ∧ QI3 Z a1 wP kP wN kN h0 n0 v s₂.heap L ∧ FrameEnd s o s₂ L ({ frames := 5, cells := 1, slots := 33, locals := 105 } : Room).cells ({ frames := 5, cells := 1, slots := 33, locals := 105 } : Room).slots := by
    intro nn
    induction nn with
    | zero => intro T205 L205 sqv ii k X205 e205 N205 hq hi hk hm205 pre205; exact absurd hm205 (Nat.not_lt_zero _)
    | succ nn ih205 =>
      intro T205 L205 sqv ii k X205 e205 N205 hq hi hk hm205 pre205
      have pre207 : ∀ t, Steps p.tables e below (T205.setTop (mkF m 92 #[.val (.ref a1), .val (.int (3 : Int32)), .val (.long (-2305842343493763071 : Int64)), .second, .val (.long sqv), .second, .val (.int ii), .unset, .unset] [(.int (64 : Int32)), (.int ii)])) t → Steps p.tables e below (s₁.setTop (entryFrame m #[(.ref a1), (.int (3 : Int32))] 9)) t := fun t k => pre205 t (by
        show Steps p.tables e below (T205.setTop (mkF m 88 #[.val (.ref a1), .val (.int (3 : Int32)), .val (.long (-2305842343493763071 : Int64)), .second, .val (.long sqv), .second, .val (.int ii), .unset, .unset] [])) t
        refine XS.iload X205.here hx rfl (hb hby d1_88) rfl ?_
        show Steps p.tables e below (T205.setTop (mkF m 90 #[.val (.ref a1), .val (.int (3 : Int32)), .val (.long (-2305842343493763071 : Int64)), .second, .val (.long sqv), .second, .val (.int ii), .unset, .unset] [(.int ii)])) t
        refine XS.bipush X205.here hx rfl (hb hby d1_90) ?_
        exact k)
      by_cases hc206 : ii < (64 : Int32)
      · obtain ⟨T208, X208, e208, st208⟩ := getF X205 hx hZ hown (host := "") (Or.inl (own_i hw 14 rfl)) Via.refl e205 f195 (g := (mkF m 100 #[.val (.ref a1), .val (.int (3 : Int32)), .val (.long (-2305842343493763071 : Int64)), .second, .val (.long sqv), .second, .val (.int ii), .unset, .unset] [(.ref a1), (.long (sqv <<< ((1 : Int32) &&& 0x3f).toInt64))])) rfl rfl (hb hby d1_100)
        obtain ⟨_, _, ⟨T209, L209, k209, n209⟩, -, X209, ⟨Lc209, hQ209, l209, y209, z209⟩, st209⟩ := Jvm.LawKit.callS X208 hx (y := (⟨"com/example/libsld/libsld/PrimeField", "subtractIfAbove", "(JJ)J"⟩ : MethodName)) hown (mvT hZ (own_i hw 26 rfl)) (mvT hZ (own_i hw 27 rfl)) (mvT hZ (own_i hw 2 rfl)) (mvT hZ (own_i hw 28 rfl)) (by decide) (backOf (W := 0) (rmSub l Z a0 hw [] (sqv <<< ((1 : Int32) &&& 0x3f).toInt64) (2305842343493763073 : Int64) h187 n0 f188 ) hZ (own_i hw 28 rfl) (own_i hw 2 rfl) (by decide) (by decide)) (g := (mkF m 103 #[.val (.ref a1), .val (.int (3 : Int32)), .val (.long (-2305842343493763071 : Int64)), .second, .val (.long sqv), .second, .val (.int ii), .unset, .unset] [(.long (2305842343493763073 : Int64)), (.long (sqv <<< ((1 : Int32) &&& 0x3f).toInt64))])) rfl (by rw [hml]; rfl) (argsL := [(.long (sqv <<< ((1 : Int32) &&& 0x3f).toInt64)), (.long (2305842343493763073 : Int64))]) (rest := []) (lenOf pd_0 rfl) rfl (by show 2 * 0 + _ ≤ _; exact Nat.le_of_eq rfl) (hb hby d1_103) (fun _ _ => ⟨rfl, e208, (by decide : 1 + 0 ≤ _), (by decide : 33 + 0 ≤ _)⟩)
        dsimp only [Pt.U, Pt.locs, Pt.cells, Pt.slots] at X209 l209 y209 z209 st209 hQ209
        subst l209 y209 z209
        obtain ⟨rfl, N209q, e209⟩ := hQ209
        have N209 := Fr.app N205 N209q
        have pre210 : ∀ t, Steps p.tables e below (T209.setTop (mkF m 88 #[.val (.ref a1), .val (.int (3 : Int32)), .val (.long (-2305842343493763071 : Int64)), .second, .val (.long (own_sub (sqv <<< ((1 : Int32) &&& 0x3f).toInt64) (2305842343493763073 : Int64))), .second, .val (.int (ii + (1 : Int32))), .unset, .unset] [])) t → Steps p.tables e below (s₁.setTop (entryFrame m #[(.ref a1), (.int (3 : Int32))] 9)) t := fun t k => pre207 t (by
          show Steps p.tables e below (T205.setTop (mkF m 92 #[.val (.ref a1), .val (.int (3 : Int32)), .val (.long (-2305842343493763071 : Int64)), .second, .val (.long sqv), .second, .val (.int ii), .unset, .unset] [(.int (64 : Int32)), (.int ii)])) t
          refine XS.icmpNo X205.here hx rfl (hb hby d1_92) rfl (tlt hc206).2.1 ?_
          show Steps p.tables e below (T205.setTop (mkF m 95 #[.val (.ref a1), .val (.int (3 : Int32)), .val (.long (-2305842343493763071 : Int64)), .second, .val (.long sqv), .second, .val (.int ii), .unset, .unset] [])) t
          refine XS.lload X205.here hx rfl (hb hby d1_95) rfl ?_
          show Steps p.tables e below (T205.setTop (mkF m 97 #[.val (.ref a1), .val (.int (3 : Int32)), .val (.long (-2305842343493763071 : Int64)), .second, .val (.long sqv), .second, .val (.int ii), .unset, .unset] [(.long sqv)])) t
          refine XS.iconst X205.here hx rfl (hb hby d1_97) ?_
          show Steps p.tables e below (T205.setTop (mkF m 98 #[.val (.ref a1), .val (.int (3 : Int32)), .val (.long (-2305842343493763071 : Int64)), .second, .val (.long sqv), .second, .val (.int ii), .unset, .unset] [(.int (1 : Int32)), (.long sqv)])) t
          refine XS.lshl X205.here hx rfl (hb hby d1_98) rfl ?_
          show Steps p.tables e below (T205.setTop (mkF m 99 #[.val (.ref a1), .val (.int (3 : Int32)), .val (.long (-2305842343493763071 : Int64)), .second, .val (.long sqv), .second, .val (.int ii), .unset, .unset] [(.long (sqv <<< ((1 : Int32) &&& 0x3f).toInt64))])) t
          refine XS.aloadN X205.here hx rfl (hb hby d1_99) rfl rfl ?_
          show Steps p.tables e below (T205.setTop (mkF m 100 #[.val (.ref a1), .val (.int (3 : Int32)), .val (.long (-2305842343493763071 : Int64)), .second, .val (.long sqv), .second, .val (.int ii), .unset, .unset] [(.ref a1), (.long (sqv <<< ((1 : Int32) &&& 0x3f).toInt64))])) t
          refine st208 _ ?_
          show Steps p.tables e below (T208.setTop (mkF m 103 #[.val (.ref a1), .val (.int (3 : Int32)), .val (.long (-2305842343493763071 : Int64)), .second, .val (.long sqv), .second, .val (.int ii), .unset, .unset] [(.long (2305842343493763073 : Int64)), (.long (sqv <<< ((1 : Int32) &&& 0x3f).toInt64))])) t
          refine st209 _ ?_
          show Steps p.tables e below (T209.setTop (mkF m 106 #[.val (.ref a1), .val (.int (3 : Int32)), .val (.long (-2305842343493763071 : Int64)), .second, .val (.long sqv), .second, .val (.int ii), .unset, .unset] [(.long (own_sub (sqv <<< ((1 : Int32) &&& 0x3f).toInt64) (2305842343493763073 : Int64)))])) t
          refine XS.lstore X209.here hx rfl (hb hby d1_106) rfl (l' := #[.val (.ref a1), .val (.int (3 : Int32)), .val (.long (-2305842343493763071 : Int64)), .second, .val (.long (own_sub (sqv <<< ((1 : Int32) &&& 0x3f).toInt64) (2305842343493763073 : Int64))), .second, .val (.int ii), .unset, .unset]) rfl ?_
          show Steps p.tables e below (T209.setTop (mkF m 108 #[.val (.ref a1), .val (.int (3 : Int32)), .val (.long (-2305842343493763071 : Int64)), .second, .val (.long (own_sub (sqv <<< ((1 : Int32) &&& 0x3f).toInt64) (2305842343493763073 : Int64))), .second, .val (.int ii), .unset, .unset] [])) t
          refine XS.iinc X209.here hx rfl (hb hby d1_108) rfl (l' := #[.val (.ref a1), .val (.int (3 : Int32)), .val (.long (-2305842343493763071 : Int64)), .second, .val (.long (own_sub (sqv <<< ((1 : Int32) &&& 0x3f).toInt64) (2305842343493763073 : Int64))), .second, .val (.int (ii + (1 : Int32))), .unset, .unset]) rfl ?_
          show Steps p.tables e below (T209.setTop (mkF m 111 #[.val (.ref a1), .val (.int (3 : Int32)), .val (.long (-2305842343493763071 : Int64)), .second, .val (.long (own_sub (sqv <<< ((1 : Int32) &&& 0x3f).toInt64) (2305842343493763073 : Int64))), .second, .val (.int (ii + (1 : Int32))), .unset, .unset] [])) t
          refine XS.goto X209.here hx rfl (pc0 := 111) (pc' := 88) rfl (hb hby d1_111) (by decide) (by decide) ?_
          exact k)
        exact ih205 _ _ _ _ (k + 1) X209 e209 N209 (congrArg (fun z => own_sub (z <<< ((1 : Int32) &&& 0x3f).toInt64) (2305842343493763073 : Int64)) hq) (own_inc hi) (own_k64 hi hk hc206) (Nat.lt_of_lt_of_le (own_m64 hi hk hc206) (Nat.lt_succ_iff.mp hm205)) pre210
      · have pre211 : ∀ t, Steps p.tables e below (T205.setTop (mkF m 114 #[.val (.ref a1), .val (.int (3 : Int32)), .val (.long (-2305842343493763071 : Int64)), .second, .val (.long sqv), .second, .val (.int ii), .unset, .unset] [])) t → Steps p.tables e below (s₁.setTop (entryFrame m #[(.ref a1), (.int (3 : Int32))] 9)) t := fun t k => pre207 t (by
          show Steps p.tables e below (T205.setTop (mkF m 92 #[.val (.ref a1), .val (.int (3 : Int32)), .val (.long (-2305842343493763071 : Int64)), .second, .val (.long sqv), .second, .val (.int ii), .unset, .unset] [(.int (64 : Int32)), (.int ii)])) t
          refine XS.icmpYes X205.here hx rfl (pc0 := 92) (pc' := 114) rfl (hb hby d1_92) rfl (flt hc206).2.1 (by decide) (by decide) ?_
          exact k)
        have pre212 : ∀ t, Steps p.tables e below (T205.setTop (mkF m 114 #[.val (.ref a1), .val (.int (3 : Int32)), .val (.long (-2305842343493763071 : Int64)), .second, .val (.long (1271275483123961405 : Int64)), .second, .val (.int ii), .unset, .unset] [])) t → Steps p.tables e below (s₁.setTop (entryFrame m #[(.ref a1), (.int (3 : Int32))] 9)) t := fun t k => pre211 t (by rw [show sqv = (1271275483123961405 : Int64) from (own_dend hq hi hk hc206 (by decide +kernel))]; exact k)
        obtain ⟨T213, h213, X213, e213, W213, st213⟩ := putF X205 hx hZ hown (host := "") (Or.inl (own_i hw 29 rfl)) Via.refl e205 f190 f191 (Or.inr ⟨(own_i hw 30 rfl), rfl, hnm⟩) (own_i hw 1 rfl) (ty := .long) (by decide) rfl rfl (g := (mkF m 117 #[.val (.ref a1), .val (.int (3 : Int32)), .val (.long (-2305842343493763071 : Int64)), .second, .val (.long (1271275483123961405 : Int64)), .second, .val (.int ii), .unset, .unset] [(.long (1271275483123961405 : Int64)), (.ref a1)])) rfl rfl (hb hby d1_117)
        have Fw213 := f190.same W213
        have N213 := Fr.snoc X213 N205 g1
        have f214 := Nat.le_trans f188 (Keep.of_wr W213).1
        have f215 := f189.wr W213 g1
        have f216 := f191.wr W213
        have f217 := f192.wr W213 (Or.inl (List.mem_of_getElem? (i := 0) rfl))
        have f218 := f193.other W213 (Ne.symm ne104)
        have f219 := f194.other W213 (Or.inr (slot_ne (Or.inr (own_i hw 11 rfl)) (Or.inr (own_i hw 30 rfl)) (by decide) (t := (.array .long)) (t' := .long) (by decide) (by decide)))
        have f220 := f195.other W213 (Or.inr (slot_ne (Or.inr (own_i hw 15 rfl)) (Or.inr (own_i hw 30 rfl)) (by decide) (t := .long) (t' := .long) (by decide) (by decide)))
        have f221 := f196.other W213 (Or.inr (slot_ne (Or.inr (own_i hw 18 rfl)) (Or.inr (own_i hw 30 rfl)) (by decide) (t := .long) (t' := .long) (by decide) (by decide)))
        have f222 := Fw187.other W213 (Or.inr (slot_ne (Or.inr (own_i hw 20 rfl)) (Or.inr (own_i hw 30 rfl)) (by decide) (t := .long) (t' := .long) (by decide) (by decide)))
        obtain ⟨T223, X223, e223, st223⟩ := getS2 X213 hx hZ hown (host := "") (Or.inl (own_i hw 31 rfl)) Via.refl e213 (SN.ext f215.2) (g := (mkF m 121 #[.val (.ref a1), .val (.int (3 : Int32)), .val (.long (-2305842343493763071 : Int64)), .second, .val (.long (1271275483123961405 : Int64)), .second, .val (.int ii), .unset, .unset] [(.ref a1)])) rfl (hb hby d1_121)
        obtain ⟨cl224, Ar224, q224, S224, N224z, H224, G224⟩ := (id (AN.ext f215.2))
        have hin224 : ¬ ((3 : Int32) < 0 ∨ cl224.slots.size ≤ ((3 : Int32)).toNatClampNeg) := inb_of S224 ⟨by decide, by decide⟩
        have hat224 : cl224.slots[((3 : Int32)).toNatClampNeg]? = some (.long (5 : Int64)) := Has.at H224 hin224 rfl
        obtain ⟨T225, X225, e225, st225⟩ := getF X223 hx hZ hown (host := "") (Or.inl (own_i hw 14 rfl)) Via.refl e223 f220 (g := (mkF m 127 #[.val (.ref a1), .val (.int (3 : Int32)), .val (.long (-2305842343493763071 : Int64)), .second, .val (.long (1271275483123961405 : Int64)), .second, .val (.int ii), .unset, .unset] [(.ref a1), (.long (5 : Int64)), (.ref a1)])) rfl rfl (hb hby d1_127)
        have pre226 : ∀ t, Steps p.tables e below (T225.setTop (mkF m 132 #[.val (.ref a1), .val (.int (3 : Int32)), .val (.long (-2305842343493763071 : Int64)), .second, .val (.long (1271275483123961405 : Int64)), .second, .val (.int ii), .unset, .unset] [(.long ((2305842343493763073 : Int64) - (1 : Int64))), (.long (5 : Int64)), (.ref a1)])) t → Steps p.tables e below (s₁.setTop (entryFrame m #[(.ref a1), (.int (3 : Int32))] 9)) t := fun t k => pre212 t (by
          show Steps p.tables e below (T205.setTop (mkF m 114 #[.val (.ref a1), .val (.int (3 : Int32)), .val (.long (-2305842343493763071 : Int64)), .second, .val (.long (1271275483123961405 : Int64)), .second, .val (.int ii), .unset, .unset] [])) t
          refine XS.aloadN X205.here hx rfl (hb hby d1_114) rfl rfl ?_
          show Steps p.tables e below (T205.setTop (mkF m 115 #[.val (.ref a1), .val (.int (3 : Int32)), .val (.long (-2305842343493763071 : Int64)), .second, .val (.long (1271275483123961405 : Int64)), .second, .val (.int ii), .unset, .unset] [(.ref a1)])) t
          refine XS.lload X205.here hx rfl (hb hby d1_115) rfl ?_
          show Steps p.tables e below (T205.setTop (mkF m 117 #[.val (.ref a1), .val (.int (3 : Int32)), .val (.long (-2305842343493763071 : Int64)), .second, .val (.long (1271275483123961405 : Int64)), .second, .val (.int ii), .unset, .unset] [(.long (1271275483123961405 : Int64)), (.ref a1)])) t
          refine st213 _ ?_
          show Steps p.tables e below (T213.setTop (mkF m 120 #[.val (.ref a1), .val (.int (3 : Int32)), .val (.long (-2305842343493763071 : Int64)), .second, .val (.long (1271275483123961405 : Int64)), .second, .val (.int ii), .unset, .unset] [])) t
          refine XS.aloadN X213.here hx rfl (hb hby d1_120) rfl rfl ?_
          show Steps p.tables e below (T213.setTop (mkF m 121 #[.val (.ref a1), .val (.int (3 : Int32)), .val (.long (-2305842343493763071 : Int64)), .second, .val (.long (1271275483123961405 : Int64)), .second, .val (.int ii), .unset, .unset] [(.ref a1)])) t
          refine st223 _ ?_
          show Steps p.tables e below (T223.setTop (mkF m 124 #[.val (.ref a1), .val (.int (3 : Int32)), .val (.long (-2305842343493763071 : Int64)), .second, .val (.long (1271275483123961405 : Int64)), .second, .val (.int ii), .unset, .unset] [(.ref wN), (.ref a1)])) t
          refine XS.iloadN X223.here hx rfl (hb hby d1_124) rfl ?_
          show Steps p.tables e below (T223.setTop (mkF m 125 #[.val (.ref a1), .val (.int (3 : Int32)), .val (.long (-2305842343493763071 : Int64)), .second, .val (.long (1271275483123961405 : Int64)), .second, .val (.int ii), .unset, .unset] [(.int (3 : Int32)), (.ref wN), (.ref a1)])) t
          refine X223.laload hx (j := (3 : Int32)) (v := (.long (5 : Int64))) (by rw [e223]; exact Ar224.1) (State.isArrayOf_alike hZ.alike Ar224.2.1) Ar224.2.2 hin224 hat224 (g := (mkF m 125 #[.val (.ref a1), .val (.int (3 : Int32)), .val (.long (-2305842343493763071 : Int64)), .second, .val (.long (1271275483123961405 : Int64)), .second, .val (.int ii), .unset, .unset] [(.int (3 : Int32)), (.ref wN), (.ref a1)])) rfl rfl (hb hby d1_125) _ ?_
          show Steps p.tables e below (T223.setTop (mkF m 126 #[.val (.ref a1), .val (.int (3 : Int32)), .val (.long (-2305842343493763071 : Int64)), .second, .val (.long (1271275483123961405 : Int64)), .second, .val (.int ii), .unset, .unset] [(.long (5 : Int64)), (.ref a1)])) t
          refine XS.aloadN X223.here hx rfl (hb hby d1_126) rfl rfl ?_
          show Steps p.tables e below (T223.setTop (mkF m 127 #[.val (.ref a1), .val (.int (3 : Int32)), .val (.long (-2305842343493763071 : Int64)), .second, .val (.long (1271275483123961405 : Int64)), .second, .val (.int ii), .unset, .unset] [(.ref a1), (.long (5 : Int64)), (.ref a1)])) t
          refine st225 _ ?_
          show Steps p.tables e below (T225.setTop (mkF m 130 #[.val (.ref a1), .val (.int (3 : Int32)), .val (.long (-2305842343493763071 : Int64)), .second, .val (.long (1271275483123961405 : Int64)), .second, .val (.int ii), .unset, .unset] [(.long (2305842343493763073 : Int64)), (.long (5 : Int64)), (.ref a1)])) t
          refine XS.lconst X225.here hx rfl (hb hby d1_130) ?_
          show Steps p.tables e below (T225.setTop (mkF m 131 #[.val (.ref a1), .val (.int (3 : Int32)), .val (.long (-2305842343493763071 : Int64)), .second, .val (.long (1271275483123961405 : Int64)), .second, .val (.int ii), .unset, .unset] [(.long (1 : Int64)), (.long (2305842343493763073 : Int64)), (.long (5 : Int64)), (.ref a1)])) t
          refine XS.lsub X225.here hx rfl (hb hby d1_131) rfl ?_
          exact k)
        have pre227 : ∀ t, Steps p.tables e below (T225.setTop (mkF m 132 #[.val (.ref a1), .val (.int (3 : Int32)), .val (.long (-2305842343493763071 : Int64)), .second, .val (.long (1271275483123961405 : Int64)), .second, .val (.int ii), .unset, .unset] [(.long (2305842343493763072 : Int64)), (.long (5 : Int64)), (.ref a1)])) t → Steps p.tables e below (s₁.setTop (entryFrame m #[(.ref a1), (.int (3 : Int32))] 9)) t := fun t k => pre226 t (by rw [show ((2305842343493763073 : Int64) - (1 : Int64)) = (2305842343493763072 : Int64) from (by decide +kernel)]; exact k)
        obtain ⟨cq228, q228, q228'⟩ := f216.cell
        obtain ⟨_, _, ⟨T228, L228, k228, n228⟩, -, X228, ⟨Lc228, hQ228, l228, y228, z228⟩, st228⟩ := X225.privateBack hx (y := (⟨"com/example/libsld/libsld/PrimeField", "power", "(JJ)J"⟩ : MethodName)) hown (mvT hZ (own_i hw 33 rfl)) (mvT hZ (own_i hw 34 rfl)) (mvT hZ (own_sel (y := (⟨"com/example/libsld/libsld/PrimeField", "power", "(JJ)J"⟩ : MethodName)) (own_i hw 34 rfl) (own_i hw 35 rfl) (own_i hw 1 rfl) (by decide))) (Cond.privateMethod_at (mvP hZ (own_i hw 35 rfl) (args := #[]))) (mvT hZ (own_i hw 36 rfl)) (by decide) (backOf (W := 0) (rmPow l Z a0 hw [] a1 (5 : Int64) (((2305842343493763072 : Int64).toUInt64 >>> ((32 : Int32) &&& 0x3f).toInt64.toUInt64).toInt64) (2305842343493763073 : Int64) (-2305842343493763071 : Int64) (1271275483123961405 : Int64) h213 n0 f214 f216 f220 f222 Fw213) hZ (own_i hw 36 rfl) (own_i hw 2 rfl) (by decide) (by decide)) (g := (mkF m 135 #[.val (.ref a1), .val (.int (3 : Int32)), .val (.long (-2305842343493763071 : Int64)), .second, .val (.long (1271275483123961405 : Int64)), .second, .val (.int ii), .unset, .unset] [(.long (((2305842343493763072 : Int64).toUInt64 >>> ((32 : Int32) &&& 0x3f).toInt64.toUInt64).toInt64)), (.long (5 : Int64)), (.ref a1)])) rfl (by rw [hml]; rfl) (Steps.refl _) (a := a1) (by rw [e225]; exact q228) q228' (argsL := [(.long (5 : Int64)), (.long (((2305842343493763072 : Int64).toUInt64 >>> ((32 : Int32) &&& 0x3f).toInt64.toUInt64).toInt64))]) (rest := []) (lenOf pd_0 rfl) rfl (by show 2 * 0 + _ ≤ _; exact Nat.le_of_eq rfl) (hb hby d1_135) (fun _ _ => ⟨rfl, e225, (by decide : 1 + 0 ≤ _), (by decide : 33 + 0 ≤ _)⟩)
        dsimp only [Pt.U, Pt.locs, Pt.cells, Pt.slots] at X228 l228 y228 z228 st228 hQ228
        subst l228 y228 z228
        obtain ⟨x229, rfl, N228q, e228⟩ := hQ228
        have N228 := Fr.app N213 N228q
        have f230 : own_A Z h213 b103 := own_A_of f218
        have pre231 : ∀ t, Steps p.tables e below (T228.setTop (mkF m 144 #[.val (.ref a1), .val (.int (3 : Int32)), .val (.long (-2305842343493763071 : Int64)), .second, .val (.long (1271275483123961405 : Int64)), .second, .val (.long x229), .second, .val (.int (32 : Int32))] [])) t → Steps p.tables e below (s₁.setTop (entryFrame m #[(.ref a1), (.int (3 : Int32))] 9)) t := fun t k => pre227 t (by
          show Steps p.tables e below (T225.setTop (mkF m 132 #[.val (.ref a1), .val (.int (3 : Int32)), .val (.long (-2305842343493763071 : Int64)), .second, .val (.long (1271275483123961405 : Int64)), .second, .val (.int ii), .unset, .unset] [(.long (2305842343493763072 : Int64)), (.long (5 : Int64)), (.ref a1)])) t
          refine XS.bipush X225.here hx rfl (hb hby d1_132) ?_
          show Steps p.tables e below (T225.setTop (mkF m 134 #[.val (.ref a1), .val (.int (3 : Int32)), .val (.long (-2305842343493763071 : Int64)), .second, .val (.long (1271275483123961405 : Int64)), .second, .val (.int ii), .unset, .unset] [(.int (32 : Int32)), (.long (2305842343493763072 : Int64)), (.long (5 : Int64)), (.ref a1)])) t
          refine XS.lushr X225.here hx rfl (hb hby d1_134) rfl ?_
          show Steps p.tables e below (T225.setTop (mkF m 135 #[.val (.ref a1), .val (.int (3 : Int32)), .val (.long (-2305842343493763071 : Int64)), .second, .val (.long (1271275483123961405 : Int64)), .second, .val (.int ii), .unset, .unset] [(.long (((2305842343493763072 : Int64).toUInt64 >>> ((32 : Int32) &&& 0x3f).toInt64.toUInt64).toInt64)), (.long (5 : Int64)), (.ref a1)])) t
          refine st228.trans ?_
          show Steps p.tables e below (T228.setTop (mkF m 138 #[.val (.ref a1), .val (.int (3 : Int32)), .val (.long (-2305842343493763071 : Int64)), .second, .val (.long (1271275483123961405 : Int64)), .second, .val (.int ii), .unset, .unset] [(.long x229)])) t
          refine XS.lstore X228.here hx rfl (hb hby d1_138) rfl (l' := #[.val (.ref a1), .val (.int (3 : Int32)), .val (.long (-2305842343493763071 : Int64)), .second, .val (.long (1271275483123961405 : Int64)), .second, .val (.long x229), .second, .unset]) rfl ?_
          show Steps p.tables e below (T228.setTop (mkF m 140 #[.val (.ref a1), .val (.int (3 : Int32)), .val (.long (-2305842343493763071 : Int64)), .second, .val (.long (1271275483123961405 : Int64)), .second, .val (.long x229), .second, .unset] [])) t
          refine XS.bipush X228.here hx rfl (hb hby d1_140) ?_
          show Steps p.tables e below (T228.setTop (mkF m 142 #[.val (.ref a1), .val (.int (3 : Int32)), .val (.long (-2305842343493763071 : Int64)), .second, .val (.long (1271275483123961405 : Int64)), .second, .val (.long x229), .second, .unset] [(.int (32 : Int32))])) t
          refine XS.istore X228.here hx rfl (hb hby d1_142) rfl (l' := #[.val (.ref a1), .val (.int (3 : Int32)), .val (.long (-2305842343493763071 : Int64)), .second, .val (.long (1271275483123961405 : Int64)), .second, .val (.long x229), .second, .val (.int (32 : Int32))]) rfl ?_
          exact k)
        have hl232 : ∀ (nn : Nat) (T232 : State) (L232 : List Loc) (h232 : Heap) (rv : Int64) (kk : Int32), Stand p l e ({ frames := 5, cells := 1, slots := 33, locals := 105 } : Room) s m #[(.ref a1), (.int (3 : Int32))] below meth c T232 L232 1 33 → T232.heap = h232 → Fr n0 L232 → (n0 ≤ h232.size) → (Keep h0 h232 [a1]) → (Exa Z h232 a1 "com/example/libsld/libsld/PrimeField") → (Fld Z h232 a1 "com/example/libsld/libsld/PrimeField" "p" "J" (.long (2305842343493763073 : Int64))) → (Fld Z h232 a1 "com/example/libsld/libsld/PrimeField" "inverse" "J" (.long (-2305842343493763071 : Int64))) → (Fld Z h232 a1 "com/example/libsld/libsld/PrimeField" "montgomerySquare" "J" (.long (1271275483123961405 : Int64))) → (Fld Z h232 a1 "com/example/libsld/libsld/PrimeField" "rootsOfOrder" "[J" (.ref b103)) → (own_A Z h232 b103) → (kk < (33 : Int32)) → (kk.toInt + 1).toNat < nn → (∀ t, Steps p.tables e below (T232.setTop (mkF m 144 #[.val (.ref a1), .val (.int (3 : Int32)), .val (.long (-2305842343493763071 : Int64)), .second, .val (.long (1271275483123961405 : Int64)), .second, .val (.long rv), .second, .val (.int kk)] [])) t → Steps p.tables e below (s₁.setTop (entryFrame m #[(.ref a1), (.int (3 : Int32))] 9)) t) → ∃ s₂ o, Steps p.tables e below (s₁.setTop (entryFrame m #[(.ref a1), (.int (3 : Int32))] 9)) s₂ ∧ s₂.status = .running ∧ Ended s₂ below o ∧ ∃ v L, o = .returned v ∧ QI3 Z a1 wP kP wN kN h0 n0 v s₂.heap L ∧ FrameEnd s o s₂ L ({ frames := 5, cells := 1, slots := 33, locals := 105 } : Room).cells ({ frames := 5, cells := 1, slots := 33, locals := 105 } : Room).slots := by
          intro nn
          induction nn with
          | zero => intro T232 L232 h232 rv kk X232 e232 N232 f233 f234 f235 f236 f237 f238 f239 f240 hk33 hm232 pre232; exact absurd hm232 (Nat.not_lt_zero _)
          | succ nn ih232 =>
            intro T232 L232 h232 rv kk X232 e232 N232 f233 f234 f235 f236 f237 f238 f239 f240 hk33 hm232 pre232
            have pre242 : ∀ t, Steps p.tables e below (T232.setTop (mkF m 146 #[.val (.ref a1), .val (.int (3 : Int32)), .val (.long (-2305842343493763071 : Int64)), .second, .val (.long (1271275483123961405 : Int64)), .second, .val (.long rv), .second, .val (.int kk)] [(.int kk)])) t → Steps p.tables e below (s₁.setTop (entryFrame m #[(.ref a1), (.int (3 : Int32))] 9)) t := fun t k => pre232 t (by
              show Steps p.tables e below (T232.setTop (mkF m 144 #[.val (.ref a1), .val (.int (3 : Int32)), .val (.long (-2305842343493763071 : Int64)), .second, .val (.long (1271275483123961405 : Int64)), .second, .val (.long rv), .second, .val (.int kk)] [])) t
              refine XS.iload X232.here hx rfl (hb hby d1_144) rfl ?_
              exact k)
            by_cases hc241 : kk < (0 : Int32)
            · have pre243 : ∀ t, Steps p.tables e below (T232.setTop (mkF m 174 #[.val (.ref a1), .val (.int (3 : Int32)), .val (.long (-2305842343493763071 : Int64)), .second, .val (.long (1271275483123961405 : Int64)), .second, .val (.long rv), .second, .val (.int kk)] [])) t → Steps p.tables e below (s₁.setTop (entryFrame m #[(.ref a1), (.int (3 : Int32))] 9)) t := fun t k => pre242 t (by
                show Steps p.tables e below (T232.setTop (mkF m 146 #[.val (.ref a1), .val (.int (3 : Int32)), .val (.long (-2305842343493763071 : Int64)), .second, .val (.long (1271275483123961405 : Int64)), .second, .val (.long rv), .second, .val (.int kk)] [(.int kk)])) t
                refine XS.ifYes X232.here hx rfl (pc0 := 146) (pc' := 174) rfl (hb hby d1_146) rfl ((if0 _ _).trans (tlt hc241).1) (by decide) (by decide) ?_
                exact k)
              obtain ⟨fs, hr, hrun, hended, hW, hsame⟩ := X232.leave (v := none) (fun _ => rfl)
              refine ⟨_, _, pre243 _ ?_, hrun, hended, _, _, rfl, ?_, ⟨_, rfl⟩, hW, hsame.mono (by decide) (by decide)⟩
              · exact X232.returnOut hx Bd.returns (hb hby d1_174) hr
              · show QI3 Z a1 wP kP wN kN h0 n0 _ T232.heap _
                rw [e232]
                exact ⟨rfl, N232, f234, f235, f236, f237, f238⟩
            · obtain ⟨T244, X244, e244, st244⟩ := getF X232 hx hZ hown (host := "") (Or.inl (own_i hw 10 rfl)) Via.refl e232 f239 (g := (mkF m 150 #[.val (.ref a1), .val (.int (3 : Int32)), .val (.long (-2305842343493763071 : Int64)), .second, .val (.long (1271275483123961405 : Int64)), .second, .val (.long rv), .second, .val (.int kk)] [(.ref a1)])) rfl rfl (hb hby d1_150)
              obtain ⟨cl245, Ar245, Sz245⟩ := (id f240)
              obtain ⟨T245, h245, X245, e245, W245, st245⟩ := stJ X244 hx hZ e244 Ar245 (j := kk) (own_inb Sz245 hc241 hk33) (g := (mkF m 157 #[.val (.ref a1), .val (.int (3 : Int32)), .val (.long (-2305842343493763071 : Int64)), .second, .val (.long (1271275483123961405 : Int64)), .second, .val (.long rv), .second, .val (.int kk)] [(.long rv), (.int kk), (.ref b103)])) rfl rfl (hb hby d1_157)
              have N245 := Fr.snoc X245 N232 ga105
              have A245 : own_A Z h245 b103 := own_A.wr f240 W245
              have f246 := Nat.le_trans f233 (Keep.of_wr W245).1
              have f247 := f234.wr W245 (Or.inr sz106)
              have f248 := f235.wr W245
              have f249 := f236.other W245 (Or.inl ne104)
              have f250 := f237.other W245 (Or.inl ne104)
              have f251 := f238.other W245 (Or.inl ne104)
              have f252 := f239.other W245 (Or.inl ne104)
              obtain ⟨cq253, kq253, q253a, q253b, q253c⟩ := isOf hZ e245 f248
              obtain ⟨_, _, ⟨T253, L253, k253, n253⟩, -, X253, ⟨Lc253, hQ253, l253, y253, z253⟩, st253⟩ := X245.virtualBack hx (y := (⟨"com/example/libsld/libsld/PrimeField", "multiply", "(JJ)J"⟩ : MethodName)) (z := (⟨"com/example/libsld/libsld/PrimeField", "multiply", "(JJ)J"⟩ : MethodName)) hown (mvT hZ (own_i hw 37 rfl)) (mvT hZ (own_i hw 38 rfl)) (notFace_of_selects (args := #[]) (mvT hZ (own_i hw 40 rfl))) (mvT hZ (own_i hw 40 rfl)) (mvT hZ (own_i hw 39 rfl)) (by decide) (backOf (W := 0) (rmMul l Z a0 hw [] a1 rv rv (2305842343493763073 : Int64) (-2305842343493763071 : Int64) (1271275483123961405 : Int64) h245 n0 f246 f248 f249 f250 f251) hZ (own_i hw 41 rfl) (own_i hw 2 rfl) (by decide) (by decide)) q253a q253c (g := (mkF m 163 #[.val (.ref a1), .val (.int (3 : Int32)), .val (.long (-2305842343493763071 : Int64)), .second, .val (.long (1271275483123961405 : Int64)), .second, .val (.long rv), .second, .val (.int kk)] [(.long rv), (.long rv), (.ref a1)])) rfl (by rw [hml]; rfl) (Steps.refl _) (argsL := [(.long rv), (.long rv)]) (rest := []) (lenOf pd_0 rfl) rfl (by show 2 * 0 + _ ≤ _; exact Nat.le_of_eq rfl) (hb hby d1_163) (fun _ _ => ⟨rfl, e245, (by decide : 1 + 0 ≤ _), (by decide : 33 + 0 ≤ _)⟩)
              dsimp only [Pt.U, Pt.locs, Pt.cells, Pt.slots] at X253 l253 y253 z253 st253 hQ253
              subst l253 y253 z253
              obtain ⟨rfl, N253q, e253⟩ := hQ253
              have N253 := Fr.app N245 N253q
              have pre254 : ∀ t, Steps p.tables e below (T253.setTop (mkF m 144 #[.val (.ref a1), .val (.int (3 : Int32)), .val (.long (-2305842343493763071 : Int64)), .second, .val (.long (1271275483123961405 : Int64)), .second, .val (.long (own_mul rv rv (2305842343493763073 : Int64) (-2305842343493763071 : Int64) (1271275483123961405 : Int64))), .second, .val (.int (kk + (-1 : Int32)))] [])) t → Steps p.tables e below (s₁.setTop (entryFrame m #[(.ref a1), (.int (3 : Int32))] 9)) t := fun t k => pre242 t (by
                show Steps p.tables e below (T232.setTop (mkF m 146 #[.val (.ref a1), .val (.int (3 : Int32)), .val (.long (-2305842343493763071 : Int64)), .second, .val (.long (1271275483123961405 : Int64)), .second, .val (.long rv), .second, .val (.int kk)] [(.int kk)])) t
                refine XS.ifNo X232.here hx rfl (hb hby d1_146) rfl ((if0 _ _).trans (flt hc241).1) ?_
                show Steps p.tables e below (T232.setTop (mkF m 149 #[.val (.ref a1), .val (.int (3 : Int32)), .val (.long (-2305842343493763071 : Int64)), .second, .val (.long (1271275483123961405 : Int64)), .second, .val (.long rv), .second, .val (.int kk)] [])) t
                refine XS.aloadN X232.here hx rfl (hb hby d1_149) rfl rfl ?_
                show Steps p.tables e below (T232.setTop (mkF m 150 #[.val (.ref a1), .val (.int (3 : Int32)), .val (.long (-2305842343493763071 : Int64)), .second, .val (.long (1271275483123961405 : Int64)), .second, .val (.long rv), .second, .val (.int kk)] [(.ref a1)])) t
                refine st244 _ ?_
                show Steps p.tables e below (T244.setTop (mkF m 153 #[.val (.ref a1), .val (.int (3 : Int32)), .val (.long (-2305842343493763071 : Int64)), .second, .val (.long (1271275483123961405 : Int64)), .second, .val (.long rv), .second, .val (.int kk)] [(.ref b103)])) t
                refine XS.iload X244.here hx rfl (hb hby d1_153) rfl ?_
                show Steps p.tables e below (T244.setTop (mkF m 155 #[.val (.ref a1), .val (.int (3 : Int32)), .val (.long (-2305842343493763071 : Int64)), .second, .val (.long (1271275483123961405 : Int64)), .second, .val (.long rv), .second, .val (.int kk)] [(.int kk), (.ref b103)])) t
                refine XS.lload X244.here hx rfl (hb hby d1_155) rfl ?_
                show Steps p.tables e below (T244.setTop (mkF m 157 #[.val (.ref a1), .val (.int (3 : Int32)), .val (.long (-2305842343493763071 : Int64)), .second, .val (.long (1271275483123961405 : Int64)), .second, .val (.long rv), .second, .val (.int kk)] [(.long rv), (.int kk), (.ref b103)])) t
                refine st245 _ ?_
                show Steps p.tables e below (T245.setTop (mkF m 158 #[.val (.ref a1), .val (.int (3 : Int32)), .val (.long (-2305842343493763071 : Int64)), .second, .val (.long (1271275483123961405 : Int64)), .second, .val (.long rv), .second, .val (.int kk)] [])) t
                refine XS.aloadN X245.here hx rfl (hb hby d1_158) rfl rfl ?_
                show Steps p.tables e below (T245.setTop (mkF m 159 #[.val (.ref a1), .val (.int (3 : Int32)), .val (.long (-2305842343493763071 : Int64)), .second, .val (.long (1271275483123961405 : Int64)), .second, .val (.long rv), .second, .val (.int kk)] [(.ref a1)])) t
                refine XS.lload X245.here hx rfl (hb hby d1_159) rfl ?_
                show Steps p.tables e below (T245.setTop (mkF m 161 #[.val (.ref a1), .val (.int (3 : Int32)), .val (.long (-2305842343493763071 : Int64)), .second, .val (.long (1271275483123961405 : Int64)), .second, .val (.long rv), .second, .val (.int kk)] [(.long rv), (.ref a1)])) t
                refine XS.lload X245.here hx rfl (hb hby d1_161) rfl ?_
                show Steps p.tables e below (T245.setTop (mkF m 163 #[.val (.ref a1), .val (.int (3 : Int32)), .val (.long (-2305842343493763071 : Int64)), .second, .val (.long (1271275483123961405 : Int64)), .second, .val (.long rv), .second, .val (.int kk)] [(.long rv), (.long rv), (.ref a1)])) t
                refine st253.trans ?_
                show Steps p.tables e below (T253.setTop (mkF m 166 #[.val (.ref a1), .val (.int (3 : Int32)), .val (.long (-2305842343493763071 : Int64)), .second, .val (.long (1271275483123961405 : Int64)), .second, .val (.long rv), .second, .val (.int kk)] [(.long (own_mul rv rv (2305842343493763073 : Int64) (-2305842343493763071 : Int64) (1271275483123961405 : Int64)))])) t
                refine XS.lstore X253.here hx rfl (hb hby d1_166) rfl (l' := #[.val (.ref a1), .val (.int (3 : Int32)), .val (.long (-2305842343493763071 : Int64)), .second, .val (.long (1271275483123961405 : Int64)), .second, .val (.long (own_mul rv rv (2305842343493763073 : Int64) (-2305842343493763071 : Int64) (1271275483123961405 : Int64))), .second, .val (.int kk)]) rfl ?_
                show Steps p.tables e below (T253.setTop (mkF m 168 #[.val (.ref a1), .val (.int (3 : Int32)), .val (.long (-2305842343493763071 : Int64)), .second, .val (.long (1271275483123961405 : Int64)), .second, .val (.long (own_mul rv rv (2305842343493763073 : Int64) (-2305842343493763071 : Int64) (1271275483123961405 : Int64))), .second, .val (.int kk)] [])) t
                refine XS.iinc X253.here hx rfl (hb hby d1_168) rfl (l' := #[.val (.ref a1), .val (.int (3 : Int32)), .val (.long (-2305842343493763071 : Int64)), .second, .val (.long (1271275483123961405 : Int64)), .second, .val (.long (own_mul rv rv (2305842343493763073 : Int64) (-2305842343493763071 : Int64) (1271275483123961405 : Int64))), .second, .val (.int (kk + (-1 : Int32)))]) rfl ?_
                show Steps p.tables e below (T253.setTop (mkF m 171 #[.val (.ref a1), .val (.int (3 : Int32)), .val (.long (-2305842343493763071 : Int64)), .second, .val (.long (1271275483123961405 : Int64)), .second, .val (.long (own_mul rv rv (2305842343493763073 : Int64) (-2305842343493763071 : Int64) (1271275483123961405 : Int64))), .second, .val (.int (kk + (-1 : Int32)))] [])) t
                refine XS.goto X253.here hx rfl (pc0 := 171) (pc' := 144) rfl (hb hby d1_171) (by decide) (by decide) ?_
                exact k)
              exact ih232 _ _ _ _ _ X253 e253 N253 f246 f247 f248 f249 f250 f251 f252 A245 (own_dec33 hk33 hc241) (Nat.lt_of_lt_of_le (own_decm hk33 hc241) (Nat.lt_succ_iff.mp hm232)) pre254
        exact hl232 _ _ _ _ _ _ X228 e228 N228 f214 f217 f216 f220 f222 Fw213 f219 f230 (by decide) (Nat.lt_succ_self _) pre231
  exact hl205 _ _ _ _ _ (0) X201 e201 N201 (rfl) (by decide) (by decide) (Nat.lt_succ_self _) pre204
theorem ef_rmInv (m : MethodId) (x0 : Addr) (x1 : Int64) : entryFrame m #[(.ref x0), (.long x1)] 17 = mkF m 0 #[.val (.ref x0), .val (.long x1), .second, .unset, .unset, .unset, .unset, .unset, .unset, .unset, .unset, .unset, .unset, .unset, .unset, .unset, .unset] [] := by first | (simp [entryFrame, mkF, argsToLocals, Value.category]; done) | rfl
def QInv (Z : State) (a1 : Addr) (q2 : Int64) (pp : Int64) (h0 : Heap) (n0 : Nat) (v : Option Value) (h : Heap) (L : List Loc) : Prop := ∃ (rr : Int64), v = some (.long rr) ∧ Fr n0 L ∧ Keep h0 h [] ∧ (own_isinv pp q2 rr)
set_option maxRecDepth 65536 in
set_option maxHeartbeats 40000000 in
theorem rmInv (l : Launch) (Z : State) (a0 : Array Value) (hw : ∀ d ∈ tables_1, d.before a0 Z = true) (ws : List Jvm.Cond) (a1 : Addr) (q2 : Int64) (pp : Int64) (h0 : Heap) (n0 : Nat) (Z0 : n0 ≤ h0.size) (F1 : Fld Z h0 a1 "com/example/libsld/libsld/PrimeField" "p" "J" (.long pp)) (hp : 1 < pp.toInt) (hp2 : pp.toInt < 2 ^ 62) (hy0 : 0 < q2.toInt) (hy1 : q2.toInt < pp.toInt) (hcd : ∀ d : Int, d ∣ pp.toInt → d ∣ q2.toInt → d ∣ 1) :
    MetFree l (⟨"com/example/libsld/libsld/PrimeField", "invert", "(J)J"⟩ : MethodName) (head1 (Jvm.Cond.code (⟨"com/example/libsld/libsld/PrimeField", "invert", "(J)J"⟩ : MethodName) prog_87_method_5_code 17 (some .long) :: ws) ({ frames := 0, cells := 0, slots := 0, locals := 0 } : Room)) (fun a U => a = #[(.ref a1), (.long q2)] ∧ Z.Warmed39 U.vm ∧ U.heap = h0) (fun _ _ _ _ _ => True) (fun _ U o U' => ∃ v L, o = .returned v ∧ QInv Z a1 q2 pp h0 n0 v U'.heap L ∧ FrameEnd U o U' L ({ frames := 0, cells := 0, slots := 0, locals := 0 } : Room).cells ({ frames := 0, cells := 0, slots := 0, locals := 0 } : Room).slots) := by
  refine MetFree.of_bodySF (plainFor_of_name pn_com_example_libsld_libsld_PrimeField) hisR ?_
  intro p e s m args below meth c s₁ Bd hml0 hP hK
  obtain ⟨rfl, hZ, hh⟩ := hP
  have hx := Bd.exec
  have hby := Bd.bytes
  have hml : c.maxLocals = 17 := hml0
  have hown : s.vm.findClass "com/example/libsld/libsld/PrimeField" = some m.cls := findClass_of_methodNamed Bd.named
  have hnm := (name_of_methodNamed Bd.named Bd.method).1
  have X0 : Stand p l e ({ frames := 0, cells := 0, slots := 0, locals := 0 } : Room) s m #[(.ref a1), (.long q2)] below meth c s₁ [] 0 0 := Stand.of_body Bd
  have e0 : s₁.heap = h0 := by rw [← hh, Bd.state]; rfl
  have N0 := Fr.nil n0
  have pre0 : ∀ t, Steps p.tables e below (s₁.setTop (mkF m 0 #[.val (.ref a1), .val (.long q2), .second, .unset, .unset, .unset, .unset, .unset, .unset, .unset, .unset, .unset, .unset, .unset, .unset, .unset, .unset] [])) t → Steps p.tables e below (s₁.setTop (entryFrame m #[(.ref a1), (.long q2)] 17)) t := fun t k => castTop (ef_rmInv m a1 q2) k
  have f101 := Keep.refl h0 []
  obtain ⟨T102, X102, e102, st102⟩ := getF X0 hx hZ hown (host := "") (Or.inl (own_i hw 14 rfl)) Via.refl e0 F1 (g := (mkF m 1 #[.val (.ref a1), .val (.long q2), .second, .unset, .unset, .unset, .unset, .unset, .unset, .unset, .unset, .unset, .unset, .unset, .unset, .unset, .unset] [(.ref a1)])) rfl rfl (hb hby d10_1)
  have hd103 : ¬ (q2 = (0 : Int64)) := own_y0 hy0
  have pre104 : ∀ t, Steps p.tables e below (T102.setTop (mkF m 14 #[.val (.ref a1), .val (.long q2), .second, .val (.long q2), .second, .val (.long (pp - ((pp / q2) * q2))), .second, .val (.long (1 : Int64)), .second, .val (.long ((0 : Int64) - ((pp / q2) * (1 : Int64)))), .second, .val (.long (pp / q2)), .second, .val (.long (pp - ((pp / q2) * q2))), .second, .val (.long ((0 : Int64) - ((pp / q2) * (1 : Int64)))), .second] [])) t → Steps p.tables e below (s₁.setTop (entryFrame m #[(.ref a1), (.long q2)] 17)) t := fun t k => pre0 t (by
    show Steps p.tables e below (s₁.setTop (mkF m 0 #[.val (.ref a1), .val (.long q2), .second, .unset, .unset, .unset, .unset, .unset, .unset, .unset, .unset, .unset, .unset, .unset, .unset, .unset, .unset] [])) t
    refine XS.aloadN X0.here hx rfl (hb hby d10_0) rfl rfl ?_
    show Steps p.tables e below (s₁.setTop (mkF m 1 #[.val (.ref a1), .val (.long q2), .second, .unset, .unset, .unset, .unset, .unset, .unset, .unset, .unset, .unset, .unset, .unset, .unset, .unset, .unset] [(.ref a1)])) t
    refine st102 _ ?_
    show Steps p.tables e below (T102.setTop (mkF m 4 #[.val (.ref a1), .val (.long q2), .second, .unset, .unset, .unset, .unset, .unset, .unset, .unset, .unset, .unset, .unset, .unset, .unset, .unset, .unset] [(.long pp)])) t
    refine XS.lstoreN X102.here hx rfl (hb hby d10_4) rfl (l' := #[.val (.ref a1), .val (.long q2), .second, .val (.long pp), .second, .unset, .unset, .unset, .unset, .unset, .unset, .unset, .unset, .unset, .unset, .unset, .unset]) rfl ?_
    show Steps p.tables e below (T102.setTop (mkF m 5 #[.val (.ref a1), .val (.long q2), .second, .val (.long pp), .second, .unset, .unset, .unset, .unset, .unset, .unset, .unset, .unset, .unset, .unset, .unset, .unset] [])) t
    refine XS.lloadN X102.here hx rfl (hb hby d10_5) rfl ?_
    show Steps p.tables e below (T102.setTop (mkF m 6 #[.val (.ref a1), .val (.long q2), .second, .val (.long pp), .second, .unset, .unset, .unset, .unset, .unset, .unset, .unset, .unset, .unset, .unset, .unset, .unset] [(.long q2)])) t
    refine XS.lstore X102.here hx rfl (hb hby d10_6) rfl (l' := #[.val (.ref a1), .val (.long q2), .second, .val (.long pp), .second, .val (.long q2), .second, .unset, .unset, .unset, .unset, .unset, .unset, .unset, .unset, .unset, .unset]) rfl ?_
    show Steps p.tables e below (T102.setTop (mkF m 8 #[.val (.ref a1), .val (.long q2), .second, .val (.long pp), .second, .val (.long q2), .second, .unset, .unset, .unset, .unset, .unset, .unset, .unset, .unset, .unset, .unset] [])) t
    refine XS.lconst X102.here hx rfl (hb hby d10_8) ?_
    show Steps p.tables e below (T102.setTop (mkF m 9 #[.val (.ref a1), .val (.long q2), .second, .val (.long pp), .second, .val (.long q2), .second, .unset, .unset, .unset, .unset, .unset, .unset, .unset, .unset, .unset, .unset] [(.long (0 : Int64))])) t
    refine XS.lstore X102.here hx rfl (hb hby d10_9) rfl (l' := #[.val (.ref a1), .val (.long q2), .second, .val (.long pp), .second, .val (.long q2), .second, .val (.long (0 : Int64)), .second, .unset, .unset, .unset, .unset, .unset, .unset, .unset, .unset]) rfl ?_
    show Steps p.tables e below (T102.setTop (mkF m 11 #[.val (.ref a1), .val (.long q2), .second, .val (.long pp), .second, .val (.long q2), .second, .val (.long (0 : Int64)), .second, .unset, .unset, .unset, .unset, .unset, .unset, .unset, .unset] [])) t
    refine XS.lconst X102.here hx rfl (hb hby d10_11) ?_
    show Steps p.tables e below (T102.setTop (mkF m 12 #[.val (.ref a1), .val (.long q2), .second, .val (.long pp), .second, .val (.long q2), .second, .val (.long (0 : Int64)), .second, .unset, .unset, .unset, .unset, .unset, .unset, .unset, .unset] [(.long (1 : Int64))])) t
    refine XS.lstore X102.here hx rfl (hb hby d10_12) rfl (l' := #[.val (.ref a1), .val (.long q2), .second, .val (.long pp), .second, .val (.long q2), .second, .val (.long (0 : Int64)), .second, .val (.long (1 : Int64)), .second, .unset, .unset, .unset, .unset, .unset, .unset]) rfl ?_
    show Steps p.tables e below (T102.setTop (mkF m 14 #[.val (.ref a1), .val (.long q2), .second, .val (.long pp), .second, .val (.long q2), .second, .val (.long (0 : Int64)), .second, .val (.long (1 : Int64)), .second, .unset, .unset, .unset, .unset, .unset, .unset] [])) t
    refine XS.lload X102.here hx rfl (hb hby d10_14) rfl ?_
    show Steps p.tables e below (T102.setTop (mkF m 16 #[.val (.ref a1), .val (.long q2), .second, .val (.long pp), .second, .val (.long q2), .second, .val (.long (0 : Int64)), .second, .val (.long (1 : Int64)), .second, .unset, .unset, .unset, .unset, .unset, .unset] [(.long q2)])) t
    refine XS.lconst X102.here hx rfl (hb hby d10_16) ?_
    show Steps p.tables e below (T102.setTop (mkF m 17 #[.val (.ref a1), .val (.long q2), .second, .val (.long pp), .second, .val (.long q2), .second, .val (.long (0 : Int64)), .second, .val (.long (1 : Int64)), .second, .unset, .unset, .unset, .unset, .unset, .unset] [(.long (0 : Int64)), (.long q2)])) t
    refine XS.lcmp X102.here hx rfl (hb hby d10_17) rfl ?_
    show Steps p.tables e below (T102.setTop (mkF m 18 #[.val (.ref a1), .val (.long q2), .second, .val (.long pp), .second, .val (.long q2), .second, .val (.long (0 : Int64)), .second, .val (.long (1 : Int64)), .second, .unset, .unset, .unset, .unset, .unset, .unset] [(.int (lcmpW q2 (0 : Int64)))])) t
    refine XS.ifNo X102.here hx rfl (hb hby d10_18) rfl ((if0 _ _).trans (feq (show ¬ ((lcmpW q2 (0 : Int64)) = (0 : Int32)) by rw [lcW]; exact fun q => hd103 ((lc_eq _ _).mp q))).1) ?_
    show Steps p.tables e below (T102.setTop (mkF m 21 #[.val (.ref a1), .val (.long q2), .second, .val (.long pp), .second, .val (.long q2), .second, .val (.long (0 : Int64)), .second, .val (.long (1 : Int64)), .second, .unset, .unset, .unset, .unset, .unset, .unset] [])) t
    refine XS.lloadN X102.here hx rfl (hb hby d10_21) rfl ?_
    show Steps p.tables e below (T102.setTop (mkF m 22 #[.val (.ref a1), .val (.long q2), .second, .val (.long pp), .second, .val (.long q2), .second, .val (.long (0 : Int64)), .second, .val (.long (1 : Int64)), .second, .unset, .unset, .unset, .unset, .unset, .unset] [(.long pp)])) t
    refine XS.lload X102.here hx rfl (hb hby d10_22) rfl ?_
    show Steps p.tables e below (T102.setTop (mkF m 24 #[.val (.ref a1), .val (.long q2), .second, .val (.long pp), .second, .val (.long q2), .second, .val (.long (0 : Int64)), .second, .val (.long (1 : Int64)), .second, .unset, .unset, .unset, .unset, .unset, .unset] [(.long q2), (.long pp)])) t
    refine XS.ldiv X102.here hx rfl (hb hby d10_24) rfl hd103 ?_
    show Steps p.tables e below (T102.setTop (mkF m 25 #[.val (.ref a1), .val (.long q2), .second, .val (.long pp), .second, .val (.long q2), .second, .val (.long (0 : Int64)), .second, .val (.long (1 : Int64)), .second, .unset, .unset, .unset, .unset, .unset, .unset] [(.long (pp / q2))])) t
    refine XS.lstore X102.here hx rfl (hb hby d10_25) rfl (l' := #[.val (.ref a1), .val (.long q2), .second, .val (.long pp), .second, .val (.long q2), .second, .val (.long (0 : Int64)), .second, .val (.long (1 : Int64)), .second, .val (.long (pp / q2)), .second, .unset, .unset, .unset, .unset]) rfl ?_
    show Steps p.tables e below (T102.setTop (mkF m 27 #[.val (.ref a1), .val (.long q2), .second, .val (.long pp), .second, .val (.long q2), .second, .val (.long (0 : Int64)), .second, .val (.long (1 : Int64)), .second, .val (.long (pp / q2)), .second, .unset, .unset, .unset, .unset] [])) t
    refine XS.lloadN X102.here hx rfl (hb hby d10_27) rfl ?_
    show Steps p.tables e below (T102.setTop (mkF m 28 #[.val (.ref a1), .val (.long q2), .second, .val (.long pp), .second, .val (.long q2), .second, .val (.long (0 : Int64)), .second, .val (.long (1 : Int64)), .second, .val (.long (pp / q2)), .second, .unset, .unset, .unset, .unset] [(.long pp)])) t
    refine XS.lload X102.here hx rfl (hb hby d10_28) rfl ?_
    show Steps p.tables e below (T102.setTop (mkF m 30 #[.val (.ref a1), .val (.long q2), .second, .val (.long pp), .second, .val (.long q2), .second, .val (.long (0 : Int64)), .second, .val (.long (1 : Int64)), .second, .val (.long (pp / q2)), .second, .unset, .unset, .unset, .unset] [(.long (pp / q2)), (.long pp)])) t
    refine XS.lload X102.here hx rfl (hb hby d10_30) rfl ?_
    show Steps p.tables e below (T102.setTop (mkF m 32 #[.val (.ref a1), .val (.long q2), .second, .val (.long pp), .second, .val (.long q2), .second, .val (.long (0 : Int64)), .second, .val (.long (1 : Int64)), .second, .val (.long (pp / q2)), .second, .unset, .unset, .unset, .unset] [(.long q2), (.long (pp / q2)), (.long pp)])) t
    refine XS.lmul X102.here hx rfl (hb hby d10_32) rfl ?_
    show Steps p.tables e below (T102.setTop (mkF m 33 #[.val (.ref a1), .val (.long q2), .second, .val (.long pp), .second, .val (.long q2), .second, .val (.long (0 : Int64)), .second, .val (.long (1 : Int64)), .second, .val (.long (pp / q2)), .second, .unset, .unset, .unset, .unset] [(.long ((pp / q2) * q2)), (.long pp)])) t
    refine XS.lsub X102.here hx rfl (hb hby d10_33) rfl ?_
    show Steps p.tables e below (T102.setTop (mkF m 34 #[.val (.ref a1), .val (.long q2), .second, .val (.long pp), .second, .val (.long q2), .second, .val (.long (0 : Int64)), .second, .val (.long (1 : Int64)), .second, .val (.long (pp / q2)), .second, .unset, .unset, .unset, .unset] [(.long (pp - ((pp / q2) * q2)))])) t
    refine XS.lstore X102.here hx rfl (hb hby d10_34) rfl (l' := #[.val (.ref a1), .val (.long q2), .second, .val (.long pp), .second, .val (.long q2), .second, .val (.long (0 : Int64)), .second, .val (.long (1 : Int64)), .second, .val (.long (pp / q2)), .second, .val (.long (pp - ((pp / q2) * q2))), .second, .unset, .unset]) rfl ?_
    show Steps p.tables e below (T102.setTop (mkF m 36 #[.val (.ref a1), .val (.long q2), .second, .val (.long pp), .second, .val (.long q2), .second, .val (.long (0 : Int64)), .second, .val (.long (1 : Int64)), .second, .val (.long (pp / q2)), .second, .val (.long (pp - ((pp / q2) * q2))), .second, .unset, .unset] [])) t
    refine XS.lload X102.here hx rfl (hb hby d10_36) rfl ?_
    show Steps p.tables e below (T102.setTop (mkF m 38 #[.val (.ref a1), .val (.long q2), .second, .val (.long pp), .second, .val (.long q2), .second, .val (.long (0 : Int64)), .second, .val (.long (1 : Int64)), .second, .val (.long (pp / q2)), .second, .val (.long (pp - ((pp / q2) * q2))), .second, .unset, .unset] [(.long (0 : Int64))])) t
    refine XS.lload X102.here hx rfl (hb hby d10_38) rfl ?_
    show Steps p.tables e below (T102.setTop (mkF m 40 #[.val (.ref a1), .val (.long q2), .second, .val (.long pp), .second, .val (.long q2), .second, .val (.long (0 : Int64)), .second, .val (.long (1 : Int64)), .second, .val (.long (pp / q2)), .second, .val (.long (pp - ((pp / q2) * q2))), .second, .unset, .unset] [(.long (pp / q2)), (.long (0 : Int64))])) t
    refine XS.lload X102.here hx rfl (hb hby d10_40) rfl ?_
    show Steps p.tables e below (T102.setTop (mkF m 42 #[.val (.ref a1), .val (.long q2), .second, .val (.long pp), .second, .val (.long q2), .second, .val (.long (0 : Int64)), .second, .val (.long (1 : Int64)), .second, .val (.long (pp / q2)), .second, .val (.long (pp - ((pp / q2) * q2))), .second, .unset, .unset] [(.long (1 : Int64)), (.long (pp / q2)), (.long (0 : Int64))])) t
    refine XS.lmul X102.here hx rfl (hb hby d10_42) rfl ?_
    show Steps p.tables e below (T102.setTop (mkF m 43 #[.val (.ref a1), .val (.long q2), .second, .val (.long pp), .second, .val (.long q2), .second, .val (.long (0 : Int64)), .second, .val (.long (1 : Int64)), .second, .val (.long (pp / q2)), .second, .val (.long (pp - ((pp / q2) * q2))), .second, .unset, .unset] [(.long ((pp / q2) * (1 : Int64))), (.long (0 : Int64))])) t
    refine XS.lsub X102.here hx rfl (hb hby d10_43) rfl ?_
    show Steps p.tables e below (T102.setTop (mkF m 44 #[.val (.ref a1), .val (.long q2), .second, .val (.long pp), .second, .val (.long q2), .second, .val (.long (0 : Int64)), .second, .val (.long (1 : Int64)), .second, .val (.long (pp / q2)), .second, .val (.long (pp - ((pp / q2) * q2))), .second, .unset, .unset] [(.long ((0 : Int64) - ((pp / q2) * (1 : Int64))))])) t
    refine XS.lstore X102.here hx rfl (hb hby d10_44) rfl (l' := #[.val (.ref a1), .val (.long q2), .second, .val (.long pp), .second, .val (.long q2), .second, .val (.long (0 : Int64)), .second, .val (.long (1 : Int64)), .second, .val (.long (pp / q2)), .second, .val (.long (pp - ((pp / q2) * q2))), .second, .val (.long ((0 : Int64) - ((pp / q2) * (1 : Int64)))), .second]) rfl ?_
    show Steps p.tables e below (T102.setTop (mkF m 46 #[.val (.ref a1), .val (.long q2), .second, .val (.long pp), .second, .val (.long q2), .second, .val (.long (0 : Int64)), .second, .val (.long (1 : Int64)), .second, .val (.long (pp / q2)), .second, .val (.long (pp - ((pp / q2) * q2))), .second, .val (.long ((0 : Int64) - ((pp / q2) * (1 : Int64)))), .second] [])) t
    refine XS.lload X102.here hx rfl (hb hby d10_46) rfl ?_
    show Steps p.tables e below (T102.setTop (mkF m 48 #[.val (.ref a1), .val (.long q2), .second, .val (.long pp), .second, .val (.long q2), .second, .val (.long (0 : Int64)), .second, .val (.long (1 : Int64)), .second, .val (.long (pp / q2)), .second, .val (.long (pp - ((pp / q2) * q2))), .second, .val (.long ((0 : Int64) - ((pp / q2) * (1 : Int64)))), .second] [(.long q2)])) t
    refine XS.lstoreN X102.here hx rfl (hb hby d10_48) rfl (l' := #[.val (.ref a1), .val (.long q2), .second, .val (.long q2), .second, .val (.long q2), .second, .val (.long (0 : Int64)), .second, .val (.long (1 : Int64)), .second, .val (.long (pp / q2)), .second, .val (.long (pp - ((pp / q2) * q2))), .second, .val (.long ((0 : Int64) - ((pp / q2) * (1 : Int64)))), .second]) rfl ?_
    show Steps p.tables e below (T102.setTop (mkF m 49 #[.val (.ref a1), .val (.long q2), .second, .val (.long q2), .second, .val (.long q2), .second, .val (.long (0 : Int64)), .second, .val (.long (1 : Int64)), .second, .val (.long (pp / q2)), .second, .val (.long (pp - ((pp / q2) * q2))), .second, .val (.long ((0 : Int64) - ((pp / q2) * (1 : Int64)))), .second] [])) t
    refine XS.lload X102.here hx rfl (hb hby d10_49) rfl ?_
    show Steps p.tables e below (T102.setTop (mkF m 51 #[.val (.ref a1), .val (.long q2), .second, .val (.long q2), .second, .val (.long q2), .second, .val (.long (0 : Int64)), .second, .val (.long (1 : Int64)), .second, .val (.long (pp / q2)), .second, .val (.long (pp - ((pp / q2) * q2))), .second, .val (.long ((0 : Int64) - ((pp / q2) * (1 : Int64)))), .second] [(.long (pp - ((pp / q2) * q2)))])) t
    refine XS.lstore X102.here hx rfl (hb hby d10_51) rfl (l' := #[.val (.ref a1), .val (.long q2), .second, .val (.long q2), .second, .val (.long (pp - ((pp / q2) * q2))), .second, .val (.long (0 : Int64)), .second, .val (.long (1 : Int64)), .second, .val (.long (pp / q2)), .second, .val (.long (pp - ((pp / q2) * q2))), .second, .val (.long ((0 : Int64) - ((pp / q2) * (1 : Int64)))), .second]) rfl ?_
    show Steps p.tables e below (T102.setTop (mkF m 53 #[.val (.ref a1), .val (.long q2), .second, .val (.long q2), .second, .val (.long (pp - ((pp / q2) * q2))), .second, .val (.long (0 : Int64)), .second, .val (.long (1 : Int64)), .second, .val (.long (pp / q2)), .second, .val (.long (pp - ((pp / q2) * q2))), .second, .val (.long ((0 : Int64) - ((pp / q2) * (1 : Int64)))), .second] [])) t
    refine XS.lload X102.here hx rfl (hb hby d10_53) rfl ?_
    show Steps p.tables e below (T102.setTop (mkF m 55 #[.val (.ref a1), .val (.long q2), .second, .val (.long q2), .second, .val (.long (pp - ((pp / q2) * q2))), .second, .val (.long (0 : Int64)), .second, .val (.long (1 : Int64)), .second, .val (.long (pp / q2)), .second, .val (.long (pp - ((pp / q2) * q2))), .second, .val (.long ((0 : Int64) - ((pp / q2) * (1 : Int64)))), .second] [(.long (1 : Int64))])) t
    refine XS.lstore X102.here hx rfl (hb hby d10_55) rfl (l' := #[.val (.ref a1), .val (.long q2), .second, .val (.long q2), .second, .val (.long (pp - ((pp / q2) * q2))), .second, .val (.long (1 : Int64)), .second, .val (.long (1 : Int64)), .second, .val (.long (pp / q2)), .second, .val (.long (pp - ((pp / q2) * q2))), .second, .val (.long ((0 : Int64) - ((pp / q2) * (1 : Int64)))), .second]) rfl ?_
    show Steps p.tables e below (T102.setTop (mkF m 57 #[.val (.ref a1), .val (.long q2), .second, .val (.long q2), .second, .val (.long (pp - ((pp / q2) * q2))), .second, .val (.long (1 : Int64)), .second, .val (.long (1 : Int64)), .second, .val (.long (pp / q2)), .second, .val (.long (pp - ((pp / q2) * q2))), .second, .val (.long ((0 : Int64) - ((pp / q2) * (1 : Int64)))), .second] [])) t
    refine XS.lload X102.here hx rfl (hb hby d10_57) rfl ?_
    show Steps p.tables e below (T102.setTop (mkF m 59 #[.val (.ref a1), .val (.long q2), .second, .val (.long q2), .second, .val (.long (pp - ((pp / q2) * q2))), .second, .val (.long (1 : Int64)), .second, .val (.long (1 : Int64)), .second, .val (.long (pp / q2)), .second, .val (.long (pp - ((pp / q2) * q2))), .second, .val (.long ((0 : Int64) - ((pp / q2) * (1 : Int64)))), .second] [(.long ((0 : Int64) - ((pp / q2) * (1 : Int64))))])) t
    refine XS.lstore X102.here hx rfl (hb hby d10_59) rfl (l' := #[.val (.ref a1), .val (.long q2), .second, .val (.long q2), .second, .val (.long (pp - ((pp / q2) * q2))), .second, .val (.long (1 : Int64)), .second, .val (.long ((0 : Int64) - ((pp / q2) * (1 : Int64)))), .second, .val (.long (pp / q2)), .second, .val (.long (pp - ((pp / q2) * q2))), .second, .val (.long ((0 : Int64) - ((pp / q2) * (1 : Int64)))), .second]) rfl ?_
    show Steps p.tables e below (T102.setTop (mkF m 61 #[.val (.ref a1), .val (.long q2), .second, .val (.long q2), .second, .val (.long (pp - ((pp / q2) * q2))), .second, .val (.long (1 : Int64)), .second, .val (.long ((0 : Int64) - ((pp / q2) * (1 : Int64)))), .second, .val (.long (pp / q2)), .second, .val (.long (pp - ((pp / q2) * q2))), .second, .val (.long ((0 : Int64) - ((pp / q2) * (1 : Int64)))), .second] [])) t
    refine XS.goto X102.here hx rfl (pc0 := 61) (pc' := 14) rfl (hb hby d10_61) (by decide) (by decide) ?_
    exact k)
  have hl105 : ∀ (nn : Nat) (T105 : State) (L105 : List Loc) (er : Int64) (en : Int64) (em : Int64) (ev : Int64) (z1 : Int64) (z2 : Int64) (z3 : Int64), Stand p l e ({ frames := 0, cells := 0, slots := 0, locals := 0 } : Room) s m #[(.ref a1), (.long q2)] below meth c T105 L105 0 0 → T105.heap = h0 → Fr n0 L105 → (own_eu pp.toInt q2.toInt er.toInt en.toInt em.toInt ev.toInt) → en.toInt.toNat < nn → (∀ t, Steps p.tables e below (T105.setTop (mkF m 14 #[.val (.ref a1), .val (.long q2), .second, .val (.long er), .second, .val (.long en), .second, .val (.long em), .second, .val (.long ev), .second, .val (.long z1), .second, .val (.long z2), .second, .val (.long z3), .second] [])) t → Steps p.tables e below (s₁.setTop (entryFrame m #[(.ref a1), (.long q2)] 17)) t) → ∃ s₂ o, Steps p.tables e below (s₁.setTop (entryFrame m #[(.ref a1), (.long q2)] 17)) s₂ ∧ s₂.status = .running ∧ Ended s₂ below o ∧ ∃ v L, o = .returned v ∧ QInv Z a1 q2 pp h0 n0 v s₂.heap L ∧ FrameEnd s o s₂ L ({ frames := 0, cells := 0, slots := 0, locals := 0 } : Room).cells ({ frames := 0, cells := 0, slots := 0, locals := 0 } : Room).slots := by
    intro nn
    induction nn with
    | zero => intro T105 L105 er en em ev z1 z2 z3 X105 e105 N105 hI hm105 pre105; exact absurd hm105 (Nat.not_lt_zero _)
    | succ nn ih105 =>
      intro T105 L105 er en em ev z1 z2 z3 X105 e105 N105 hI hm105 pre105
      have pre107 : ∀ t, Steps p.tables e below (T105.setTop (mkF m 18 #[.val (.ref a1), .val (.long q2), .second, .val (.long er), .second, .val (.long en), .second, .val (.long em), .second, .val (.long ev), .second, .val (.long z1), .second, .val (.long z2), .second, .val (.long z3), .second] [(.int (lcmpW en (0 : Int64)))])) t → Steps p.tables e below (s₁.setTop (entryFrame m #[(.ref a1), (.long q2)] 17)) t := fun t k => pre105 t (by
        show Steps p.tables e below (T105.setTop (mkF m 14 #[.val (.ref a1), .val (.long q2), .second, .val (.long er), .second, .val (.long en), .second, .val (.long em), .second, .val (.long ev), .second, .val (.long z1), .second, .val (.long z2), .second, .val (.long z3), .second] [])) t
        refine XS.lload X105.here hx rfl (hb hby d10_14) rfl ?_
        show Steps p.tables e below (T105.setTop (mkF m 16 #[.val (.ref a1), .val (.long q2), .second, .val (.long er), .second, .val (.long en), .second, .val (.long em), .second, .val (.long ev), .second, .val (.long z1), .second, .val (.long z2), .second, .val (.long z3), .second] [(.long en)])) t
        refine XS.lconst X105.here hx rfl (hb hby d10_16) ?_
        show Steps p.tables e below (T105.setTop (mkF m 17 #[.val (.ref a1), .val (.long q2), .second, .val (.long er), .second, .val (.long en), .second, .val (.long em), .second, .val (.long ev), .second, .val (.long z1), .second, .val (.long z2), .second, .val (.long z3), .second] [(.long (0 : Int64)), (.long en)])) t
        refine XS.lcmp X105.here hx rfl (hb hby d10_17) rfl ?_
        exact k)
      by_cases hc106 : en = (0 : Int64)
      · have pre109 : ∀ t, Steps p.tables e below (T105.setTop (mkF m 68 #[.val (.ref a1), .val (.long q2), .second, .val (.long er), .second, .val (.long en), .second, .val (.long em), .second, .val (.long ev), .second, .val (.long z1), .second, .val (.long z2), .second, .val (.long z3), .second] [(.int (lcmpW em (0 : Int64)))])) t → Steps p.tables e below (s₁.setTop (entryFrame m #[(.ref a1), (.long q2)] 17)) t := fun t k => pre107 t (by
          show Steps p.tables e below (T105.setTop (mkF m 18 #[.val (.ref a1), .val (.long q2), .second, .val (.long er), .second, .val (.long en), .second, .val (.long em), .second, .val (.long ev), .second, .val (.long z1), .second, .val (.long z2), .second, .val (.long z3), .second] [(.int (lcmpW en (0 : Int64)))])) t
          refine XS.ifYes X105.here hx rfl (pc0 := 18) (pc' := 64) rfl (hb hby d10_18) rfl ((if0 _ _).trans (teq (show (lcmpW en (0 : Int64)) = (0 : Int32) by rw [lcW]; exact (lc_eq _ _).mpr hc106)).1) (by decide) (by decide) ?_
          show Steps p.tables e below (T105.setTop (mkF m 64 #[.val (.ref a1), .val (.long q2), .second, .val (.long er), .second, .val (.long en), .second, .val (.long em), .second, .val (.long ev), .second, .val (.long z1), .second, .val (.long z2), .second, .val (.long z3), .second] [])) t
          refine XS.lload X105.here hx rfl (hb hby d10_64) rfl ?_
          show Steps p.tables e below (T105.setTop (mkF m 66 #[.val (.ref a1), .val (.long q2), .second, .val (.long er), .second, .val (.long en), .second, .val (.long em), .second, .val (.long ev), .second, .val (.long z1), .second, .val (.long z2), .second, .val (.long z3), .second] [(.long em)])) t
          refine XS.lconst X105.here hx rfl (hb hby d10_66) ?_
          show Steps p.tables e below (T105.setTop (mkF m 67 #[.val (.ref a1), .val (.long q2), .second, .val (.long er), .second, .val (.long en), .second, .val (.long em), .second, .val (.long ev), .second, .val (.long z1), .second, .val (.long z2), .second, .val (.long z3), .second] [(.long (0 : Int64)), (.long em)])) t
          refine XS.lcmp X105.here hx rfl (hb hby d10_67) rfl ?_
          exact k)
        by_cases hc108 : em < (0 : Int64)
        · obtain ⟨T110, X110, e110, st110⟩ := getF X105 hx hZ hown (host := "") (Or.inl (own_i hw 14 rfl)) Via.refl e105 F1 (g := (mkF m 74 #[.val (.ref a1), .val (.long q2), .second, .val (.long er), .second, .val (.long en), .second, .val (.long em), .second, .val (.long ev), .second, .val (.long z1), .second, .val (.long z2), .second, .val (.long z3), .second] [(.ref a1), (.long em)])) rfl rfl (hb hby d10_74)
          have pre111 : ∀ t, Steps p.tables e below (T110.setTop (mkF m 83 #[.val (.ref a1), .val (.long q2), .second, .val (.long er), .second, .val (.long en), .second, .val (.long em), .second, .val (.long ev), .second, .val (.long z1), .second, .val (.long z2), .second, .val (.long z3), .second] [(.long (em + pp))])) t → Steps p.tables e below (s₁.setTop (entryFrame m #[(.ref a1), (.long q2)] 17)) t := fun t k => pre109 t (by
            show Steps p.tables e below (T105.setTop (mkF m 68 #[.val (.ref a1), .val (.long q2), .second, .val (.long er), .second, .val (.long en), .second, .val (.long em), .second, .val (.long ev), .second, .val (.long z1), .second, .val (.long z2), .second, .val (.long z3), .second] [(.int (lcmpW em (0 : Int64)))])) t
            refine XS.ifNo X105.here hx rfl (hb hby d10_68) rfl ((if0 _ _).trans (tlt (show (lcmpW em (0 : Int64)) < (0 : Int32) by rw [lcW]; exact (lc_lt _ _).mpr hc108)).2.1) ?_
            show Steps p.tables e below (T105.setTop (mkF m 71 #[.val (.ref a1), .val (.long q2), .second, .val (.long er), .second, .val (.long en), .second, .val (.long em), .second, .val (.long ev), .second, .val (.long z1), .second, .val (.long z2), .second, .val (.long z3), .second] [])) t
            refine XS.lload X105.here hx rfl (hb hby d10_71) rfl ?_
            show Steps p.tables e below (T105.setTop (mkF m 73 #[.val (.ref a1), .val (.long q2), .second, .val (.long er), .second, .val (.long en), .second, .val (.long em), .second, .val (.long ev), .second, .val (.long z1), .second, .val (.long z2), .second, .val (.long z3), .second] [(.long em)])) t
            refine XS.aloadN X105.here hx rfl (hb hby d10_73) rfl rfl ?_
            show Steps p.tables e below (T105.setTop (mkF m 74 #[.val (.ref a1), .val (.long q2), .second, .val (.long er), .second, .val (.long en), .second, .val (.long em), .second, .val (.long ev), .second, .val (.long z1), .second, .val (.long z2), .second, .val (.long z3), .second] [(.ref a1), (.long em)])) t
            refine st110 _ ?_
            show Steps p.tables e below (T110.setTop (mkF m 77 #[.val (.ref a1), .val (.long q2), .second, .val (.long er), .second, .val (.long en), .second, .val (.long em), .second, .val (.long ev), .second, .val (.long z1), .second, .val (.long z2), .second, .val (.long z3), .second] [(.long pp), (.long em)])) t
            refine XS.ladd X110.here hx rfl (hb hby d10_77) rfl ?_
            show Steps p.tables e below (T110.setTop (mkF m 78 #[.val (.ref a1), .val (.long q2), .second, .val (.long er), .second, .val (.long en), .second, .val (.long em), .second, .val (.long ev), .second, .val (.long z1), .second, .val (.long z2), .second, .val (.long z3), .second] [(.long (em + pp))])) t
            refine XS.goto X110.here hx rfl (pc0 := 78) (pc' := 83) rfl (hb hby d10_78) (by decide) (by decide) ?_
            exact k)
          obtain ⟨fs, hr, hrun, hended, hW, hsame⟩ := X110.leave (v := some (.long (em + pp))) (fun h => by rw [Bd.returns] at h; cases h)
          refine ⟨_, _, pre111 _ ?_, hrun, hended, _, _, rfl, ?_, ⟨_, rfl⟩, hW, hsame.mono (by decide) (by decide)⟩
          · exact retOut X110 hx Bd.returns rfl (Or.inr (Or.inl ⟨rfl, rfl, _, rfl⟩)) (hb hby d10_83) hr
          · show QInv Z a1 q2 pp h0 n0 _ T110.heap _
            rw [e110]
            exact ⟨(em + pp), rfl, N105, f101, (own_finn hp hp2 hI hc106 hc108)⟩
        · have pre112 : ∀ t, Steps p.tables e below (T105.setTop (mkF m 83 #[.val (.ref a1), .val (.long q2), .second, .val (.long er), .second, .val (.long en), .second, .val (.long em), .second, .val (.long ev), .second, .val (.long z1), .second, .val (.long z2), .second, .val (.long z3), .second] [(.long em)])) t → Steps p.tables e below (s₁.setTop (entryFrame m #[(.ref a1), (.long q2)] 17)) t := fun t k => pre109 t (by
            show Steps p.tables e below (T105.setTop (mkF m 68 #[.val (.ref a1), .val (.long q2), .second, .val (.long er), .second, .val (.long en), .second, .val (.long em), .second, .val (.long ev), .second, .val (.long z1), .second, .val (.long z2), .second, .val (.long z3), .second] [(.int (lcmpW em (0 : Int64)))])) t
            refine XS.ifYes X105.here hx rfl (pc0 := 68) (pc' := 81) rfl (hb hby d10_68) rfl ((if0 _ _).trans (flt (show ¬ ((lcmpW em (0 : Int64)) < (0 : Int32)) by rw [lcW]; exact fun q => hc108 ((lc_lt _ _).mp q))).2.1) (by decide) (by decide) ?_
            show Steps p.tables e below (T105.setTop (mkF m 81 #[.val (.ref a1), .val (.long q2), .second, .val (.long er), .second, .val (.long en), .second, .val (.long em), .second, .val (.long ev), .second, .val (.long z1), .second, .val (.long z2), .second, .val (.long z3), .second] [])) t
            refine XS.lload X105.here hx rfl (hb hby d10_81) rfl ?_
            exact k)
          obtain ⟨fs, hr, hrun, hended, hW, hsame⟩ := X105.leave (v := some (.long em)) (fun h => by rw [Bd.returns] at h; cases h)
          refine ⟨_, _, pre112 _ ?_, hrun, hended, _, _, rfl, ?_, ⟨_, rfl⟩, hW, hsame.mono (by decide) (by decide)⟩
          · exact retOut X105 hx Bd.returns rfl (Or.inr (Or.inl ⟨rfl, rfl, _, rfl⟩)) (hb hby d10_83) hr
          · show QInv Z a1 q2 pp h0 n0 _ T105.heap _
            rw [e105]
            exact ⟨em, rfl, N105, f101, (own_finp hp hp2 hI hc106 hc108)⟩
      · have pre113 : ∀ t, Steps p.tables e below (T105.setTop (mkF m 14 #[.val (.ref a1), .val (.long q2), .second, .val (.long en), .second, .val (.long (er - ((er / en) * en))), .second, .val (.long ev), .second, .val (.long (em - ((er / en) * ev))), .second, .val (.long (er / en)), .second, .val (.long (er - ((er / en) * en))), .second, .val (.long (em - ((er / en) * ev))), .second] [])) t → Steps p.tables e below (s₁.setTop (entryFrame m #[(.ref a1), (.long q2)] 17)) t := fun t k => pre107 t (by
          show Steps p.tables e below (T105.setTop (mkF m 18 #[.val (.ref a1), .val (.long q2), .second, .val (.long er), .second, .val (.long en), .second, .val (.long em), .second, .val (.long ev), .second, .val (.long z1), .second, .val (.long z2), .second, .val (.long z3), .second] [(.int (lcmpW en (0 : Int64)))])) t
          refine XS.ifNo X105.here hx rfl (hb hby d10_18) rfl ((if0 _ _).trans (feq (show ¬ ((lcmpW en (0 : Int64)) = (0 : Int32)) by rw [lcW]; exact fun q => hc106 ((lc_eq _ _).mp q))).1) ?_
          show Steps p.tables e below (T105.setTop (mkF m 21 #[.val (.ref a1), .val (.long q2), .second, .val (.long er), .second, .val (.long en), .second, .val (.long em), .second, .val (.long ev), .second, .val (.long z1), .second, .val (.long z2), .second, .val (.long z3), .second] [])) t
          refine XS.lloadN X105.here hx rfl (hb hby d10_21) rfl ?_
          show Steps p.tables e below (T105.setTop (mkF m 22 #[.val (.ref a1), .val (.long q2), .second, .val (.long er), .second, .val (.long en), .second, .val (.long em), .second, .val (.long ev), .second, .val (.long z1), .second, .val (.long z2), .second, .val (.long z3), .second] [(.long er)])) t
          refine XS.lload X105.here hx rfl (hb hby d10_22) rfl ?_
          show Steps p.tables e below (T105.setTop (mkF m 24 #[.val (.ref a1), .val (.long q2), .second, .val (.long er), .second, .val (.long en), .second, .val (.long em), .second, .val (.long ev), .second, .val (.long z1), .second, .val (.long z2), .second, .val (.long z3), .second] [(.long en), (.long er)])) t
          refine XS.ldiv X105.here hx rfl (hb hby d10_24) rfl hc106 ?_
          show Steps p.tables e below (T105.setTop (mkF m 25 #[.val (.ref a1), .val (.long q2), .second, .val (.long er), .second, .val (.long en), .second, .val (.long em), .second, .val (.long ev), .second, .val (.long z1), .second, .val (.long z2), .second, .val (.long z3), .second] [(.long (er / en))])) t
          refine XS.lstore X105.here hx rfl (hb hby d10_25) rfl (l' := #[.val (.ref a1), .val (.long q2), .second, .val (.long er), .second, .val (.long en), .second, .val (.long em), .second, .val (.long ev), .second, .val (.long (er / en)), .second, .val (.long z2), .second, .val (.long z3), .second]) rfl ?_
          show Steps p.tables e below (T105.setTop (mkF m 27 #[.val (.ref a1), .val (.long q2), .second, .val (.long er), .second, .val (.long en), .second, .val (.long em), .second, .val (.long ev), .second, .val (.long (er / en)), .second, .val (.long z2), .second, .val (.long z3), .second] [])) t
          refine XS.lloadN X105.here hx rfl (hb hby d10_27) rfl ?_
          show Steps p.tables e below (T105.setTop (mkF m 28 #[.val (.ref a1), .val (.long q2), .second, .val (.long er), .second, .val (.long en), .second, .val (.long em), .second, .val (.long ev), .second, .val (.long (er / en)), .second, .val (.long z2), .second, .val (.long z3), .second] [(.long er)])) t
          refine XS.lload X105.here hx rfl (hb hby d10_28) rfl ?_
          show Steps p.tables e below (T105.setTop (mkF m 30 #[.val (.ref a1), .val (.long q2), .second, .val (.long er), .second, .val (.long en), .second, .val (.long em), .second, .val (.long ev), .second, .val (.long (er / en)), .second, .val (.long z2), .second, .val (.long z3), .second] [(.long (er / en)), (.long er)])) t
          refine XS.lload X105.here hx rfl (hb hby d10_30) rfl ?_
          show Steps p.tables e below (T105.setTop (mkF m 32 #[.val (.ref a1), .val (.long q2), .second, .val (.long er), .second, .val (.long en), .second, .val (.long em), .second, .val (.long ev), .second, .val (.long (er / en)), .second, .val (.long z2), .second, .val (.long z3), .second] [(.long en), (.long (er / en)), (.long er)])) t
          refine XS.lmul X105.here hx rfl (hb hby d10_32) rfl ?_
          show Steps p.tables e below (T105.setTop (mkF m 33 #[.val (.ref a1), .val (.long q2), .second, .val (.long er), .second, .val (.long en), .second, .val (.long em), .second, .val (.long ev), .second, .val (.long (er / en)), .second, .val (.long z2), .second, .val (.long z3), .second] [(.long ((er / en) * en)), (.long er)])) t
          refine XS.lsub X105.here hx rfl (hb hby d10_33) rfl ?_
          show Steps p.tables e below (T105.setTop (mkF m 34 #[.val (.ref a1), .val (.long q2), .second, .val (.long er), .second, .val (.long en), .second, .val (.long em), .second, .val (.long ev), .second, .val (.long (er / en)), .second, .val (.long z2), .second, .val (.long z3), .second] [(.long (er - ((er / en) * en)))])) t
          refine XS.lstore X105.here hx rfl (hb hby d10_34) rfl (l' := #[.val (.ref a1), .val (.long q2), .second, .val (.long er), .second, .val (.long en), .second, .val (.long em), .second, .val (.long ev), .second, .val (.long (er / en)), .second, .val (.long (er - ((er / en) * en))), .second, .val (.long z3), .second]) rfl ?_
          show Steps p.tables e below (T105.setTop (mkF m 36 #[.val (.ref a1), .val (.long q2), .second, .val (.long er), .second, .val (.long en), .second, .val (.long em), .second, .val (.long ev), .second, .val (.long (er / en)), .second, .val (.long (er - ((er / en) * en))), .second, .val (.long z3), .second] [])) t
          refine XS.lload X105.here hx rfl (hb hby d10_36) rfl ?_
          show Steps p.tables e below (T105.setTop (mkF m 38 #[.val (.ref a1), .val (.long q2), .second, .val (.long er), .second, .val (.long en), .second, .val (.long em), .second, .val (.long ev), .second, .val (.long (er / en)), .second, .val (.long (er - ((er / en) * en))), .second, .val (.long z3), .second] [(.long em)])) t
          refine XS.lload X105.here hx rfl (hb hby d10_38) rfl ?_
          show Steps p.tables e below (T105.setTop (mkF m 40 #[.val (.ref a1), .val (.long q2), .second, .val (.long er), .second, .val (.long en), .second, .val (.long em), .second, .val (.long ev), .second, .val (.long (er / en)), .second, .val (.long (er - ((er / en) * en))), .second, .val (.long z3), .second] [(.long (er / en)), (.long em)])) t
          refine XS.lload X105.here hx rfl (hb hby d10_40) rfl ?_
          show Steps p.tables e below (T105.setTop (mkF m 42 #[.val (.ref a1), .val (.long q2), .second, .val (.long er), .second, .val (.long en), .second, .val (.long em), .second, .val (.long ev), .second, .val (.long (er / en)), .second, .val (.long (er - ((er / en) * en))), .second, .val (.long z3), .second] [(.long ev), (.long (er / en)), (.long em)])) t
          refine XS.lmul X105.here hx rfl (hb hby d10_42) rfl ?_
          show Steps p.tables e below (T105.setTop (mkF m 43 #[.val (.ref a1), .val (.long q2), .second, .val (.long er), .second, .val (.long en), .second, .val (.long em), .second, .val (.long ev), .second, .val (.long (er / en)), .second, .val (.long (er - ((er / en) * en))), .second, .val (.long z3), .second] [(.long ((er / en) * ev)), (.long em)])) t
          refine XS.lsub X105.here hx rfl (hb hby d10_43) rfl ?_
          show Steps p.tables e below (T105.setTop (mkF m 44 #[.val (.ref a1), .val (.long q2), .second, .val (.long er), .second, .val (.long en), .second, .val (.long em), .second, .val (.long ev), .second, .val (.long (er / en)), .second, .val (.long (er - ((er / en) * en))), .second, .val (.long z3), .second] [(.long (em - ((er / en) * ev)))])) t
          refine XS.lstore X105.here hx rfl (hb hby d10_44) rfl (l' := #[.val (.ref a1), .val (.long q2), .second, .val (.long er), .second, .val (.long en), .second, .val (.long em), .second, .val (.long ev), .second, .val (.long (er / en)), .second, .val (.long (er - ((er / en) * en))), .second, .val (.long (em - ((er / en) * ev))), .second]) rfl ?_
          show Steps p.tables e below (T105.setTop (mkF m 46 #[.val (.ref a1), .val (.long q2), .second, .val (.long er), .second, .val (.long en), .second, .val (.long em), .second, .val (.long ev), .second, .val (.long (er / en)), .second, .val (.long (er - ((er / en) * en))), .second, .val (.long (em - ((er / en) * ev))), .second] [])) t
          refine XS.lload X105.here hx rfl (hb hby d10_46) rfl ?_
          show Steps p.tables e below (T105.setTop (mkF m 48 #[.val (.ref a1), .val (.long q2), .second, .val (.long er), .second, .val (.long en), .second, .val (.long em), .second, .val (.long ev), .second, .val (.long (er / en)), .second, .val (.long (er - ((er / en) * en))), .second, .val (.long (em - ((er / en) * ev))), .second] [(.long en)])) t
          refine XS.lstoreN X105.here hx rfl (hb hby d10_48) rfl (l' := #[.val (.ref a1), .val (.long q2), .second, .val (.long en), .second, .val (.long en), .second, .val (.long em), .second, .val (.long ev), .second, .val (.long (er / en)), .second, .val (.long (er - ((er / en) * en))), .second, .val (.long (em - ((er / en) * ev))), .second]) rfl ?_
          show Steps p.tables e below (T105.setTop (mkF m 49 #[.val (.ref a1), .val (.long q2), .second, .val (.long en), .second, .val (.long en), .second, .val (.long em), .second, .val (.long ev), .second, .val (.long (er / en)), .second, .val (.long (er - ((er / en) * en))), .second, .val (.long (em - ((er / en) * ev))), .second] [])) t
          refine XS.lload X105.here hx rfl (hb hby d10_49) rfl ?_
          show Steps p.tables e below (T105.setTop (mkF m 51 #[.val (.ref a1), .val (.long q2), .second, .val (.long en), .second, .val (.long en), .second, .val (.long em), .second, .val (.long ev), .second, .val (.long (er / en)), .second, .val (.long (er - ((er / en) * en))), .second, .val (.long (em - ((er / en) * ev))), .second] [(.long (er - ((er / en) * en)))])) t
          refine XS.lstore X105.here hx rfl (hb hby d10_51) rfl (l' := #[.val (.ref a1), .val (.long q2), .second, .val (.long en), .second, .val (.long (er - ((er / en) * en))), .second, .val (.long em), .second, .val (.long ev), .second, .val (.long (er / en)), .second, .val (.long (er - ((er / en) * en))), .second, .val (.long (em - ((er / en) * ev))), .second]) rfl ?_
          show Steps p.tables e below (T105.setTop (mkF m 53 #[.val (.ref a1), .val (.long q2), .second, .val (.long en), .second, .val (.long (er - ((er / en) * en))), .second, .val (.long em), .second, .val (.long ev), .second, .val (.long (er / en)), .second, .val (.long (er - ((er / en) * en))), .second, .val (.long (em - ((er / en) * ev))), .second] [])) t
          refine XS.lload X105.here hx rfl (hb hby d10_53) rfl ?_
          show Steps p.tables e below (T105.setTop (mkF m 55 #[.val (.ref a1), .val (.long q2), .second, .val (.long en), .second, .val (.long (er - ((er / en) * en))), .second, .val (.long em), .second, .val (.long ev), .second, .val (.long (er / en)), .second, .val (.long (er - ((er / en) * en))), .second, .val (.long (em - ((er / en) * ev))), .second] [(.long ev)])) t
          refine XS.lstore X105.here hx rfl (hb hby d10_55) rfl (l' := #[.val (.ref a1), .val (.long q2), .second, .val (.long en), .second, .val (.long (er - ((er / en) * en))), .second, .val (.long ev), .second, .val (.long ev), .second, .val (.long (er / en)), .second, .val (.long (er - ((er / en) * en))), .second, .val (.long (em - ((er / en) * ev))), .second]) rfl ?_
          show Steps p.tables e below (T105.setTop (mkF m 57 #[.val (.ref a1), .val (.long q2), .second, .val (.long en), .second, .val (.long (er - ((er / en) * en))), .second, .val (.long ev), .second, .val (.long ev), .second, .val (.long (er / en)), .second, .val (.long (er - ((er / en) * en))), .second, .val (.long (em - ((er / en) * ev))), .second] [])) t
          refine XS.lload X105.here hx rfl (hb hby d10_57) rfl ?_
          show Steps p.tables e below (T105.setTop (mkF m 59 #[.val (.ref a1), .val (.long q2), .second, .val (.long en), .second, .val (.long (er - ((er / en) * en))), .second, .val (.long ev), .second, .val (.long ev), .second, .val (.long (er / en)), .second, .val (.long (er - ((er / en) * en))), .second, .val (.long (em - ((er / en) * ev))), .second] [(.long (em - ((er / en) * ev)))])) t
          refine XS.lstore X105.here hx rfl (hb hby d10_59) rfl (l' := #[.val (.ref a1), .val (.long q2), .second, .val (.long en), .second, .val (.long (er - ((er / en) * en))), .second, .val (.long ev), .second, .val (.long (em - ((er / en) * ev))), .second, .val (.long (er / en)), .second, .val (.long (er - ((er / en) * en))), .second, .val (.long (em - ((er / en) * ev))), .second]) rfl ?_
          show Steps p.tables e below (T105.setTop (mkF m 61 #[.val (.ref a1), .val (.long q2), .second, .val (.long en), .second, .val (.long (er - ((er / en) * en))), .second, .val (.long ev), .second, .val (.long (em - ((er / en) * ev))), .second, .val (.long (er / en)), .second, .val (.long (er - ((er / en) * en))), .second, .val (.long (em - ((er / en) * ev))), .second] [])) t
          refine XS.goto X105.here hx rfl (pc0 := 61) (pc' := 14) rfl (hb hby d10_61) (by decide) (by decide) ?_
          exact k)
        exact ih105 _ _ _ _ _ _ _ _ _ X105 e105 N105 ((own_eus hp2 hI hc106).1) (Nat.lt_of_lt_of_le ((own_eus hp2 hI hc106).2) (Nat.lt_succ_iff.mp hm105)) pre113
  exact hl105 _ _ _ _ _ _ _ _ _ _ X102 e102 N0 ((own_eus (er := pp) (en := q2) (em := 0) (ev := 1) hp2 (own_eu0 hy0 hy1 hcd) (own_y0 hy0)).1) (Nat.lt_succ_self _) pre104
theorem pn_com_example_libsld_libsld_PrimeFieldInvertPinLaw : plainName "com/example/libsld/libsld/PrimeFieldInvertPinLaw" = true := by first | (simp [plainName, overriddenIn]; done) | decide +kernel
theorem pd_2 : parseMethodDescriptor "(I)V" = some ⟨[.int], none⟩ := by decide +kernel
theorem ef_rm0 (m : MethodId) (x0 : Int32) (x1 : Int64) (x2 : Int32) : entryFrame m #[(.int x0), (.long x1), (.int x2)] maxLocals = mkF m 0 #[.val (.int x0), .val (.long x1), .second, .val (.int x2), .unset, .unset, .unset, .unset, .unset, .unset, .unset, .unset, .unset, .unset] [] := by first | (simp [entryFrame, mkF, argsToLocals, Value.category, maxLocals]; done) | rfl
def Q0 (Z : State) (p1 : Int32) (q2 : Int64) (p3 : Int32) (wP : Addr) (kP : ClassId) (wN : Addr) (kN : ClassId) (h0 : Heap) (n0 : Nat) (v : Option Value) (h : Heap) (L : List Loc) : Prop := v = some (.int 1) ∧ Fr n0 L
set_option maxRecDepth 65536 in
set_option maxHeartbeats 40000000 in
theorem rm0 (l : Launch) (Z : State) (a0 : Array Value) (hw : ∀ d ∈ tables_1, d.before a0 Z = true) (ws : List Jvm.Cond) (p1 : Int32) (q2 : Int64) (p3 : Int32) (wP : Addr) (kP : ClassId) (wN : Addr) (kN : ClassId) (h0 : Heap) (n0 : Nat) (Z0 : n0 ≤ h0.size) (SP : Sta Z Z.heap "com/example/libsld/libsld/PrimeField" "PRIMES" "[J" (.ref wP)) (AP : Arv Z Z.heap wP kP .long (4 : Int32) [(.long (2305842979148922881 : Int64)), (.long (2305842798760296449 : Int64)), (.long (2305842644141473793 : Int64)), (.long (2305842343493763073 : Int64))] (.long (0 : Int64))) (SN : Sta Z Z.heap "com/example/libsld/libsld/PrimeField" "NON_RESIDUES" "[J" (.ref wN)) (AN : Arv Z Z.heap wN kN .long (4 : Int32) [(.long (3 : Int64)), (.long (3 : Int64)), (.long (3 : Int64)), (.long (5 : Int64))] (.long (0 : Int64))) (O0 : Old Z n0 h0) :
    MetFree l x (head1 (Jvm.Cond.code x code maxLocals ret :: ws) room_1) (fun a U => a = #[(.int p1), (.long q2), (.int p3)] ∧ Z.Warmed39 U.vm ∧ U.heap = h0) (fun _ _ _ _ _ => True) (fun _ U o U' => ∃ v L, o = .returned v ∧ Q0 Z p1 q2 p3 wP kP wN kN h0 n0 v U'.heap L ∧ FrameEnd U o U' L 2 38) := by
  refine MetFree.of_bodySF (plainFor_of_name pn_com_example_libsld_libsld_PrimeFieldInvertPinLaw) hisR ?_
  intro p e s m args below meth c s₁ Bd hml0 hP hK
  obtain ⟨rfl, hZ, hh⟩ := hP
  have hx := Bd.exec
  have hby := Bd.bytes
  have hml : c.maxLocals = 14 := hml0
  have hown : s.vm.findClass "com/example/libsld/libsld/PrimeFieldInvertPinLaw" = some m.cls := findClass_of_methodNamed Bd.named
  have hnm := (name_of_methodNamed Bd.named Bd.method).1
  have X0 : Stand p l e room_1 s m #[(.int p1), (.long q2), (.int p3)] below meth c s₁ [] 0 0 := Stand.of_body Bd
  have e0 : s₁.heap = h0 := by rw [← hh, Bd.state]; rfl
  have N0 := Fr.nil n0
  have pre0 : ∀ t, Steps p.tables e below (s₁.setTop (mkF m 0 #[.val (.int p1), .val (.long q2), .second, .val (.int p3), .unset, .unset, .unset, .unset, .unset, .unset, .unset, .unset, .unset, .unset] [])) t → Steps p.tables e below (s₁.setTop (entryFrame m #[(.int p1), (.long q2), (.int p3)] maxLocals)) t := fun t k => castTop (ef_rm0 m p1 q2 p3) k
  have f101 := Keep.refl h0 []
  obtain ⟨T102, h102, X102, e102, E102, A102, D102, -, st102⟩ := newO X0 hx hZ hown (own_i hw 0 rfl) (own_i hw 1 rfl) (own_i hw 2 rfl) e0 (g := (mkF m 0 #[.val (.int p1), .val (.long q2), .second, .val (.int p3), .unset, .unset, .unset, .unset, .unset, .unset, .unset, .unset, .unset, .unset] [])) rfl (hb hby at_0) (by decide) (by decide)
  obtain ⟨b102, g102⟩ : ∃ z, z = h0.size := ⟨_, rfl⟩
  rw [← g102] at A102 D102 st102
  have ga103 : n0 ≤ b102 := Nat.le_trans Z0 (Nat.le_of_eq g102.symm)
  have sz104 : h0.size ≤ b102 := Nat.le_trans f101.1 (Nat.le_of_eq g102.symm)
  have f105 : Fld Z h102 b102 "com/example/libsld/libsld/PrimeField" "rootsOfOrder" "[J" .null := D102 (Or.inr (own_i hw 11 rfl)) (ty := (.array .long)) (by decide)
  have f106 : Fld Z h102 b102 "com/example/libsld/libsld/PrimeField" "p" "J" (.long (0 : Int64)) := D102 (Or.inr (own_i hw 15 rfl)) (ty := .long) (by decide)
  have f107 : Fld Z h102 b102 "com/example/libsld/libsld/PrimeField" "twoP" "J" (.long (0 : Int64)) := D102 (Or.inr (own_i hw 18 rfl)) (ty := .long) (by decide)
  have f108 : Fld Z h102 b102 "com/example/libsld/libsld/PrimeField" "inverse" "J" (.long (0 : Int64)) := D102 (Or.inr (own_i hw 20 rfl)) (ty := .long) (by decide)
  have f109 : Fld Z h102 b102 "com/example/libsld/libsld/PrimeField" "montgomerySquare" "J" (.long (0 : Int64)) := D102 (Or.inr (own_i hw 30 rfl)) (ty := .long) (by decide)
  have f110 := Nat.le_trans Z0 E102.1
  have f111 := O0.ext E102
  have f112 := f101.ext E102
  have pre113 : ∀ t, Steps p.tables e below (T102.setTop (mkF m 7 #[.val (.int p1), .val (.long q2), .second, .val (.int p3), .unset, .unset, .unset, .unset, .unset, .unset, .unset, .unset, .unset, .unset] [(.int (p1 &&& (3 : Int32))), (.ref b102), (.ref b102)])) t → Steps p.tables e below (s₁.setTop (entryFrame m #[(.int p1), (.long q2), (.int p3)] maxLocals)) t := fun t k => pre0 t (by
    show Steps p.tables e below (s₁.setTop (mkF m 0 #[.val (.int p1), .val (.long q2), .second, .val (.int p3), .unset, .unset, .unset, .unset, .unset, .unset, .unset, .unset, .unset, .unset] [])) t
    refine st102 _ ?_
    show Steps p.tables e below (T102.setTop (mkF m 3 #[.val (.int p1), .val (.long q2), .second, .val (.int p3), .unset, .unset, .unset, .unset, .unset, .unset, .unset, .unset, .unset, .unset] [(.ref b102)])) t
    refine XS.dup X102.here hx rfl (hb hby at_3) rfl rfl ?_
    show Steps p.tables e below (T102.setTop (mkF m 4 #[.val (.int p1), .val (.long q2), .second, .val (.int p3), .unset, .unset, .unset, .unset, .unset, .unset, .unset, .unset, .unset, .unset] [(.ref b102), (.ref b102)])) t
    refine XS.iloadN X102.here hx rfl (hb hby at_4) rfl ?_
    show Steps p.tables e below (T102.setTop (mkF m 5 #[.val (.int p1), .val (.long q2), .second, .val (.int p3), .unset, .unset, .unset, .unset, .unset, .unset, .unset, .unset, .unset, .unset] [(.int p1), (.ref b102), (.ref b102)])) t
    refine XS.iconst X102.here hx rfl (hb hby at_5) ?_
    show Steps p.tables e below (T102.setTop (mkF m 6 #[.val (.int p1), .val (.long q2), .second, .val (.int p3), .unset, .unset, .unset, .unset, .unset, .unset, .unset, .unset, .unset, .unset] [(.int (3 : Int32)), (.int p1), (.ref b102), (.ref b102)])) t
    refine XS.iand X102.here hx rfl (hb hby at_6) rfl ?_
    exact k)
  rcases own_and3 p1 with hs114 | hs114 | hs114 | hs114
  · have pre115 : ∀ t, Steps p.tables e below (T102.setTop (mkF m 7 #[.val (.int p1), .val (.long q2), .second, .val (.int p3), .unset, .unset, .unset, .unset, .unset, .unset, .unset, .unset, .unset, .unset] [(.int (0 : Int32)), (.ref b102), (.ref b102)])) t → Steps p.tables e below (s₁.setTop (entryFrame m #[(.int p1), (.long q2), (.int p3)] maxLocals)) t := fun t k => pre113 t (by rw [show (p1 &&& (3 : Int32)) = (0 : Int32) from hs114]; exact k)
    obtain ⟨_, _, ⟨T116, L116, k116, n116⟩, -, X116, ⟨Lc116, hQ116, l116, y116, z116⟩, st116⟩ := X102.specialBack hx (y := (⟨"com/example/libsld/libsld/PrimeField", "<init>", "(I)V"⟩ : MethodName)) rfl hown (mvT hZ (own_i hw 3 rfl)) (mvT hZ (own_i hw 4 rfl)) (mvT hZ (own_i hw 5 rfl)) (by decide) (backOf (W := 1) (rmI0 l Z a0 hw [] b102 wP kP wN kN h102 n0 f110 SP AP SN AN f111 f105 f106 f107 f108 f109 A102 ga103) hZ (own_i hw 5 rfl) (own_i hw 2 rfl) (by decide) (by decide)) (g := (mkF m 7 #[.val (.int p1), .val (.long q2), .second, .val (.int p3), .unset, .unset, .unset, .unset, .unset, .unset, .unset, .unset, .unset, .unset] [(.int (0 : Int32)), (.ref b102), (.ref b102)])) rfl (by rw [hml]; rfl) (Steps.refl _) (a := b102) (argsL := [(.int (0 : Int32))]) (rest := [(.ref b102)]) (lenOf pd_2 rfl) rfl (by show 2 * 0 + _ ≤ _; exact Nat.le_of_eq rfl) (hb hby at_7) (fun _ _ => ⟨rfl, e102, (by decide : 1 + 1 ≤ _), (by decide : 5 + 33 ≤ _)⟩)
    dsimp only [Pt.U, Pt.locs, Pt.cells, Pt.slots] at X116 l116 y116 z116 st116 hQ116
    subst l116 y116 z116
    obtain ⟨rfl, N116q, K116, f117, f118, f119, f120⟩ := hQ116
    have N116 := Fr.app N0 N116q
    have f121 := Nat.le_trans f110 K116.1
    have f122 := f111.keep K116 (allS ga103 all0)
    have f123 := f112.trans K116 (allS (Or.inr sz104) all0)
    obtain ⟨T124, X124, e124, st124⟩ := getF X116 hx hZ hown (host := "") (Or.inl (own_i hw 56 rfl)) Via.refl rfl f118 (g := (mkF m 14 #[.val (.int p1), .val (.long q2), .second, .val (.int p3), .val (.ref b102), .unset, .unset, .unset, .unset, .unset, .unset, .unset, .unset, .unset] [(.ref b102)])) rfl rfl (hb hby at_14)
    have pre125 : ∀ t, Steps p.tables e below (T124.setTop (mkF m 23 #[.val (.int p1), .val (.long q2), .second, .val (.int p3), .val (.ref b102), .val (.long (2305842979148922881 : Int64)), .second, .unset, .unset, .unset, .unset, .unset, .unset, .unset] [(.long ((2305842979148922881 : Int64) - (1 : Int64)))])) t → Steps p.tables e below (s₁.setTop (entryFrame m #[(.int p1), (.long q2), (.int p3)] maxLocals)) t := fun t k => pre115 t (by
      show Steps p.tables e below (T102.setTop (mkF m 7 #[.val (.int p1), .val (.long q2), .second, .val (.int p3), .unset, .unset, .unset, .unset, .unset, .unset, .unset, .unset, .unset, .unset] [(.int (0 : Int32)), (.ref b102), (.ref b102)])) t
      refine st116.trans ?_
      show Steps p.tables e below (T116.setTop (mkF m 10 #[.val (.int p1), .val (.long q2), .second, .val (.int p3), .unset, .unset, .unset, .unset, .unset, .unset, .unset, .unset, .unset, .unset] [(.ref b102)])) t
      refine XS.astore X116.here hx rfl (hb hby at_10) rfl rfl (l' := #[.val (.int p1), .val (.long q2), .second, .val (.int p3), .val (.ref b102), .unset, .unset, .unset, .unset, .unset, .unset, .unset, .unset, .unset]) rfl ?_
      show Steps p.tables e below (T116.setTop (mkF m 12 #[.val (.int p1), .val (.long q2), .second, .val (.int p3), .val (.ref b102), .unset, .unset, .unset, .unset, .unset, .unset, .unset, .unset, .unset] [])) t
      refine XS.aload X116.here hx rfl (hb hby at_12) rfl rfl ?_
      show Steps p.tables e below (T116.setTop (mkF m 14 #[.val (.int p1), .val (.long q2), .second, .val (.int p3), .val (.ref b102), .unset, .unset, .unset, .unset, .unset, .unset, .unset, .unset, .unset] [(.ref b102)])) t
      refine st124 _ ?_
      show Steps p.tables e below (T124.setTop (mkF m 17 #[.val (.int p1), .val (.long q2), .second, .val (.int p3), .val (.ref b102), .unset, .unset, .unset, .unset, .unset, .unset, .unset, .unset, .unset] [(.long (2305842979148922881 : Int64))])) t
      refine XS.lstore X124.here hx rfl (hb hby at_17) rfl (l' := #[.val (.int p1), .val (.long q2), .second, .val (.int p3), .val (.ref b102), .val (.long (2305842979148922881 : Int64)), .second, .unset, .unset, .unset, .unset, .unset, .unset, .unset]) rfl ?_
      show Steps p.tables e below (T124.setTop (mkF m 19 #[.val (.int p1), .val (.long q2), .second, .val (.int p3), .val (.ref b102), .val (.long (2305842979148922881 : Int64)), .second, .unset, .unset, .unset, .unset, .unset, .unset, .unset] [])) t
      refine XS.lload X124.here hx rfl (hb hby at_19) rfl ?_
      show Steps p.tables e below (T124.setTop (mkF m 21 #[.val (.int p1), .val (.long q2), .second, .val (.int p3), .val (.ref b102), .val (.long (2305842979148922881 : Int64)), .second, .unset, .unset, .unset, .unset, .unset, .unset, .unset] [(.long (2305842979148922881 : Int64))])) t
      refine XS.lconst X124.here hx rfl (hb hby at_21) ?_
      show Steps p.tables e below (T124.setTop (mkF m 22 #[.val (.int p1), .val (.long q2), .second, .val (.int p3), .val (.ref b102), .val (.long (2305842979148922881 : Int64)), .second, .unset, .unset, .unset, .unset, .unset, .unset, .unset] [(.long (1 : Int64)), (.long (2305842979148922881 : Int64))])) t
      refine XS.lsub X124.here hx rfl (hb hby at_22) rfl ?_
      exact k)
    have pre126 : ∀ t, Steps p.tables e below (T124.setTop (mkF m 23 #[.val (.int p1), .val (.long q2), .second, .val (.int p3), .val (.ref b102), .val (.long (2305842979148922881 : Int64)), .second, .unset, .unset, .unset, .unset, .unset, .unset, .unset] [(.long (2305842979148922880 : Int64))])) t → Steps p.tables e below (s₁.setTop (entryFrame m #[(.int p1), (.long q2), (.int p3)] maxLocals)) t := fun t k => pre125 t (by rw [show ((2305842979148922881 : Int64) - (1 : Int64)) = (2305842979148922880 : Int64) from (by decide +kernel)]; exact k)
    have pre127 : ∀ t, Steps p.tables e below (T124.setTop (mkF m 30 #[.val (.int p1), .val (.long q2), .second, .val (.int p3), .val (.ref b102), .val (.long (2305842979148922881 : Int64)), .second, .val (.long (2305842979148922880 : Int64)), .second, .unset, .unset, .val (.int (p3 &&& (3 : Int32))), .unset, .unset] [])) t → Steps p.tables e below (s₁.setTop (entryFrame m #[(.int p1), (.long q2), (.int p3)] maxLocals)) t := fun t k => pre126 t (by
      show Steps p.tables e below (T124.setTop (mkF m 23 #[.val (.int p1), .val (.long q2), .second, .val (.int p3), .val (.ref b102), .val (.long (2305842979148922881 : Int64)), .second, .unset, .unset, .unset, .unset, .unset, .unset, .unset] [(.long (2305842979148922880 : Int64))])) t
      refine XS.lstore X124.here hx rfl (hb hby at_23) rfl (l' := #[.val (.int p1), .val (.long q2), .second, .val (.int p3), .val (.ref b102), .val (.long (2305842979148922881 : Int64)), .second, .val (.long (2305842979148922880 : Int64)), .second, .unset, .unset, .unset, .unset, .unset]) rfl ?_
      show Steps p.tables e below (T124.setTop (mkF m 25 #[.val (.int p1), .val (.long q2), .second, .val (.int p3), .val (.ref b102), .val (.long (2305842979148922881 : Int64)), .second, .val (.long (2305842979148922880 : Int64)), .second, .unset, .unset, .unset, .unset, .unset] [])) t
      refine XS.iloadN X124.here hx rfl (hb hby at_25) rfl ?_
      show Steps p.tables e below (T124.setTop (mkF m 26 #[.val (.int p1), .val (.long q2), .second, .val (.int p3), .val (.ref b102), .val (.long (2305842979148922881 : Int64)), .second, .val (.long (2305842979148922880 : Int64)), .second, .unset, .unset, .unset, .unset, .unset] [(.int p3)])) t
      refine XS.iconst X124.here hx rfl (hb hby at_26) ?_
      show Steps p.tables e below (T124.setTop (mkF m 27 #[.val (.int p1), .val (.long q2), .second, .val (.int p3), .val (.ref b102), .val (.long (2305842979148922881 : Int64)), .second, .val (.long (2305842979148922880 : Int64)), .second, .unset, .unset, .unset, .unset, .unset] [(.int (3 : Int32)), (.int p3)])) t
      refine XS.iand X124.here hx rfl (hb hby at_27) rfl ?_
      show Steps p.tables e below (T124.setTop (mkF m 28 #[.val (.int p1), .val (.long q2), .second, .val (.int p3), .val (.ref b102), .val (.long (2305842979148922881 : Int64)), .second, .val (.long (2305842979148922880 : Int64)), .second, .unset, .unset, .unset, .unset, .unset] [(.int (p3 &&& (3 : Int32)))])) t
      refine XS.istore X124.here hx rfl (hb hby at_28) rfl (l' := #[.val (.int p1), .val (.long q2), .second, .val (.int p3), .val (.ref b102), .val (.long (2305842979148922881 : Int64)), .second, .val (.long (2305842979148922880 : Int64)), .second, .unset, .unset, .val (.int (p3 &&& (3 : Int32))), .unset, .unset]) rfl ?_
      exact k)
    obtain ⟨v138, v139, v140, hP141, pre141⟩ : ∃ (v138 : Int64) (v139 : Slot) (v140 : Slot), ((0 < v138.toInt ∧ v138.toInt < (2305842979148922881 : Int64).toInt) ∧ ((v139 = .unset ∧ v140 = .unset) ∨ ∃ z, v139 = .val (.long z) ∧ v140 = .second)) ∧ ∀ t, Steps p.tables e below (T124.setTop (mkF m 93 #[.val (.int p1), .val (.long q2), .second, .val (.int p3), .val (.ref b102), .val (.long (2305842979148922881 : Int64)), .second, .val (.long (2305842979148922880 : Int64)), .second, .val (.long v138), .second, .val (.int (p3 &&& (3 : Int32))), v139, v140] [])) t → Steps p.tables e below (s₁.setTop (entryFrame m #[(.int p1), (.long q2), (.int p3)] maxLocals)) t := by
      have pre129 : ∀ t, Steps p.tables e below (T124.setTop (mkF m 33 #[.val (.int p1), .val (.long q2), .second, .val (.int p3), .val (.ref b102), .val (.long (2305842979148922881 : Int64)), .second, .val (.long (2305842979148922880 : Int64)), .second, .unset, .unset, .val (.int (p3 &&& (3 : Int32))), .unset, .unset] [(.int (1 : Int32)), (.int (p3 &&& (3 : Int32)))])) t → Steps p.tables e below (s₁.setTop (entryFrame m #[(.int p1), (.long q2), (.int p3)] maxLocals)) t := fun t k => pre127 t (by
        show Steps p.tables e below (T124.setTop (mkF m 30 #[.val (.int p1), .val (.long q2), .second, .val (.int p3), .val (.ref b102), .val (.long (2305842979148922881 : Int64)), .second, .val (.long (2305842979148922880 : Int64)), .second, .unset, .unset, .val (.int (p3 &&& (3 : Int32))), .unset, .unset] [])) t
        refine XS.iload X124.here hx rfl (hb hby at_30) rfl ?_
        show Steps p.tables e below (T124.setTop (mkF m 32 #[.val (.int p1), .val (.long q2), .second, .val (.int p3), .val (.ref b102), .val (.long (2305842979148922881 : Int64)), .second, .val (.long (2305842979148922880 : Int64)), .second, .unset, .unset, .val (.int (p3 &&& (3 : Int32))), .unset, .unset] [(.int (p3 &&& (3 : Int32)))])) t
        refine XS.iconst X124.here hx rfl (hb hby at_32) ?_
        exact k)
      by_cases hc128 : (p3 &&& (3 : Int32)) = (1 : Int32)
      · have pre130 : ∀ t, Steps p.tables e below (T124.setTop (mkF m 93 #[.val (.int p1), .val (.long q2), .second, .val (.int p3), .val (.ref b102), .val (.long (2305842979148922881 : Int64)), .second, .val (.long (2305842979148922880 : Int64)), .second, .val (.long ((q2 &&& (255 : Int64)) + (1 : Int64))), .second, .val (.int (p3 &&& (3 : Int32))), .unset, .unset] [])) t → Steps p.tables e below (s₁.setTop (entryFrame m #[(.int p1), (.long q2), (.int p3)] maxLocals)) t := fun t k => pre129 t (by
          show Steps p.tables e below (T124.setTop (mkF m 33 #[.val (.int p1), .val (.long q2), .second, .val (.int p3), .val (.ref b102), .val (.long (2305842979148922881 : Int64)), .second, .val (.long (2305842979148922880 : Int64)), .second, .unset, .unset, .val (.int (p3 &&& (3 : Int32))), .unset, .unset] [(.int (1 : Int32)), (.int (p3 &&& (3 : Int32)))])) t
          refine XS.icmpNo X124.here hx rfl (hb hby at_33) rfl (teq hc128).2 ?_
          show Steps p.tables e below (T124.setTop (mkF m 36 #[.val (.int p1), .val (.long q2), .second, .val (.int p3), .val (.ref b102), .val (.long (2305842979148922881 : Int64)), .second, .val (.long (2305842979148922880 : Int64)), .second, .unset, .unset, .val (.int (p3 &&& (3 : Int32))), .unset, .unset] [])) t
          refine XS.lloadN X124.here hx rfl (hb hby at_36) rfl ?_
          show Steps p.tables e below (T124.setTop (mkF m 37 #[.val (.int p1), .val (.long q2), .second, .val (.int p3), .val (.ref b102), .val (.long (2305842979148922881 : Int64)), .second, .val (.long (2305842979148922880 : Int64)), .second, .unset, .unset, .val (.int (p3 &&& (3 : Int32))), .unset, .unset] [(.long q2)])) t
          refine X124.ldc2Long hx hown (mvT hZ (own_i hw 57 rfl)) (g := (mkF m 37 #[.val (.int p1), .val (.long q2), .second, .val (.int p3), .val (.ref b102), .val (.long (2305842979148922881 : Int64)), .second, .val (.long (2305842979148922880 : Int64)), .second, .unset, .unset, .val (.int (p3 &&& (3 : Int32))), .unset, .unset] [(.long q2)])) rfl (hb hby at_37) _ ?_
          show Steps p.tables e below (T124.setTop (mkF m 40 #[.val (.int p1), .val (.long q2), .second, .val (.int p3), .val (.ref b102), .val (.long (2305842979148922881 : Int64)), .second, .val (.long (2305842979148922880 : Int64)), .second, .unset, .unset, .val (.int (p3 &&& (3 : Int32))), .unset, .unset] [(.long (255 : Int64)), (.long q2)])) t
          refine XS.land X124.here hx rfl (hb hby at_40) rfl ?_
          show Steps p.tables e below (T124.setTop (mkF m 41 #[.val (.int p1), .val (.long q2), .second, .val (.int p3), .val (.ref b102), .val (.long (2305842979148922881 : Int64)), .second, .val (.long (2305842979148922880 : Int64)), .second, .unset, .unset, .val (.int (p3 &&& (3 : Int32))), .unset, .unset] [(.long (q2 &&& (255 : Int64)))])) t
          refine XS.lconst X124.here hx rfl (hb hby at_41) ?_
          show Steps p.tables e below (T124.setTop (mkF m 42 #[.val (.int p1), .val (.long q2), .second, .val (.int p3), .val (.ref b102), .val (.long (2305842979148922881 : Int64)), .second, .val (.long (2305842979148922880 : Int64)), .second, .unset, .unset, .val (.int (p3 &&& (3 : Int32))), .unset, .unset] [(.long (1 : Int64)), (.long (q2 &&& (255 : Int64)))])) t
          refine XS.ladd X124.here hx rfl (hb hby at_42) rfl ?_
          show Steps p.tables e below (T124.setTop (mkF m 43 #[.val (.int p1), .val (.long q2), .second, .val (.int p3), .val (.ref b102), .val (.long (2305842979148922881 : Int64)), .second, .val (.long (2305842979148922880 : Int64)), .second, .unset, .unset, .val (.int (p3 &&& (3 : Int32))), .unset, .unset] [(.long ((q2 &&& (255 : Int64)) + (1 : Int64)))])) t
          refine XS.lstore X124.here hx rfl (hb hby at_43) rfl (l' := #[.val (.int p1), .val (.long q2), .second, .val (.int p3), .val (.ref b102), .val (.long (2305842979148922881 : Int64)), .second, .val (.long (2305842979148922880 : Int64)), .second, .val (.long ((q2 &&& (255 : Int64)) + (1 : Int64))), .second, .val (.int (p3 &&& (3 : Int32))), .unset, .unset]) rfl ?_
          show Steps p.tables e below (T124.setTop (mkF m 45 #[.val (.int p1), .val (.long q2), .second, .val (.int p3), .val (.ref b102), .val (.long (2305842979148922881 : Int64)), .second, .val (.long (2305842979148922880 : Int64)), .second, .val (.long ((q2 &&& (255 : Int64)) + (1 : Int64))), .second, .val (.int (p3 &&& (3 : Int32))), .unset, .unset] [])) t
          refine XS.goto X124.here hx rfl (pc0 := 45) (pc' := 93) rfl (hb hby at_45) (by decide) (by decide) ?_
          exact k)
        exact ⟨((q2 &&& (255 : Int64)) + (1 : Int64)), .unset, .unset, (by exact ⟨own_yA q2 (by decide +kernel), Or.inl ⟨rfl, rfl⟩⟩), pre130⟩
      · have pre132 : ∀ t, Steps p.tables e below (T124.setTop (mkF m 51 #[.val (.int p1), .val (.long q2), .second, .val (.int p3), .val (.ref b102), .val (.long (2305842979148922881 : Int64)), .second, .val (.long (2305842979148922880 : Int64)), .second, .unset, .unset, .val (.int (p3 &&& (3 : Int32))), .unset, .unset] [(.int (2 : Int32)), (.int (p3 &&& (3 : Int32)))])) t → Steps p.tables e below (s₁.setTop (entryFrame m #[(.int p1), (.long q2), (.int p3)] maxLocals)) t := fun t k => pre129 t (by
          show Steps p.tables e below (T124.setTop (mkF m 33 #[.val (.int p1), .val (.long q2), .second, .val (.int p3), .val (.ref b102), .val (.long (2305842979148922881 : Int64)), .second, .val (.long (2305842979148922880 : Int64)), .second, .unset, .unset, .val (.int (p3 &&& (3 : Int32))), .unset, .unset] [(.int (1 : Int32)), (.int (p3 &&& (3 : Int32)))])) t
          refine XS.icmpYes X124.here hx rfl (pc0 := 33) (pc' := 48) rfl (hb hby at_33) rfl (feq hc128).2 (by decide) (by decide) ?_
          show Steps p.tables e below (T124.setTop (mkF m 48 #[.val (.int p1), .val (.long q2), .second, .val (.int p3), .val (.ref b102), .val (.long (2305842979148922881 : Int64)), .second, .val (.long (2305842979148922880 : Int64)), .second, .unset, .unset, .val (.int (p3 &&& (3 : Int32))), .unset, .unset] [])) t
          refine XS.iload X124.here hx rfl (hb hby at_48) rfl ?_
          show Steps p.tables e below (T124.setTop (mkF m 50 #[.val (.int p1), .val (.long q2), .second, .val (.int p3), .val (.ref b102), .val (.long (2305842979148922881 : Int64)), .second, .val (.long (2305842979148922880 : Int64)), .second, .unset, .unset, .val (.int (p3 &&& (3 : Int32))), .unset, .unset] [(.int (p3 &&& (3 : Int32)))])) t
          refine XS.iconst X124.here hx rfl (hb hby at_50) ?_
          exact k)
        by_cases hc131 : (p3 &&& (3 : Int32)) = (2 : Int32)
        · have pre133 : ∀ t, Steps p.tables e below (T124.setTop (mkF m 93 #[.val (.int p1), .val (.long q2), .second, .val (.int p3), .val (.ref b102), .val (.long (2305842979148922881 : Int64)), .second, .val (.long (2305842979148922880 : Int64)), .second, .val (.long ((2305842979148922880 : Int64) - (q2 &&& (255 : Int64)))), .second, .val (.int (p3 &&& (3 : Int32))), .unset, .unset] [])) t → Steps p.tables e below (s₁.setTop (entryFrame m #[(.int p1), (.long q2), (.int p3)] maxLocals)) t := fun t k => pre132 t (by
            show Steps p.tables e below (T124.setTop (mkF m 51 #[.val (.int p1), .val (.long q2), .second, .val (.int p3), .val (.ref b102), .val (.long (2305842979148922881 : Int64)), .second, .val (.long (2305842979148922880 : Int64)), .second, .unset, .unset, .val (.int (p3 &&& (3 : Int32))), .unset, .unset] [(.int (2 : Int32)), (.int (p3 &&& (3 : Int32)))])) t
            refine XS.icmpNo X124.here hx rfl (hb hby at_51) rfl (teq hc131).2 ?_
            show Steps p.tables e below (T124.setTop (mkF m 54 #[.val (.int p1), .val (.long q2), .second, .val (.int p3), .val (.ref b102), .val (.long (2305842979148922881 : Int64)), .second, .val (.long (2305842979148922880 : Int64)), .second, .unset, .unset, .val (.int (p3 &&& (3 : Int32))), .unset, .unset] [])) t
            refine XS.lload X124.here hx rfl (hb hby at_54) rfl ?_
            show Steps p.tables e below (T124.setTop (mkF m 56 #[.val (.int p1), .val (.long q2), .second, .val (.int p3), .val (.ref b102), .val (.long (2305842979148922881 : Int64)), .second, .val (.long (2305842979148922880 : Int64)), .second, .unset, .unset, .val (.int (p3 &&& (3 : Int32))), .unset, .unset] [(.long (2305842979148922880 : Int64))])) t
            refine XS.lloadN X124.here hx rfl (hb hby at_56) rfl ?_
            show Steps p.tables e below (T124.setTop (mkF m 57 #[.val (.int p1), .val (.long q2), .second, .val (.int p3), .val (.ref b102), .val (.long (2305842979148922881 : Int64)), .second, .val (.long (2305842979148922880 : Int64)), .second, .unset, .unset, .val (.int (p3 &&& (3 : Int32))), .unset, .unset] [(.long q2), (.long (2305842979148922880 : Int64))])) t
            refine X124.ldc2Long hx hown (mvT hZ (own_i hw 57 rfl)) (g := (mkF m 57 #[.val (.int p1), .val (.long q2), .second, .val (.int p3), .val (.ref b102), .val (.long (2305842979148922881 : Int64)), .second, .val (.long (2305842979148922880 : Int64)), .second, .unset, .unset, .val (.int (p3 &&& (3 : Int32))), .unset, .unset] [(.long q2), (.long (2305842979148922880 : Int64))])) rfl (hb hby at_57) _ ?_
            show Steps p.tables e below (T124.setTop (mkF m 60 #[.val (.int p1), .val (.long q2), .second, .val (.int p3), .val (.ref b102), .val (.long (2305842979148922881 : Int64)), .second, .val (.long (2305842979148922880 : Int64)), .second, .unset, .unset, .val (.int (p3 &&& (3 : Int32))), .unset, .unset] [(.long (255 : Int64)), (.long q2), (.long (2305842979148922880 : Int64))])) t
            refine XS.land X124.here hx rfl (hb hby at_60) rfl ?_
            show Steps p.tables e below (T124.setTop (mkF m 61 #[.val (.int p1), .val (.long q2), .second, .val (.int p3), .val (.ref b102), .val (.long (2305842979148922881 : Int64)), .second, .val (.long (2305842979148922880 : Int64)), .second, .unset, .unset, .val (.int (p3 &&& (3 : Int32))), .unset, .unset] [(.long (q2 &&& (255 : Int64))), (.long (2305842979148922880 : Int64))])) t
            refine XS.lsub X124.here hx rfl (hb hby at_61) rfl ?_
            show Steps p.tables e below (T124.setTop (mkF m 62 #[.val (.int p1), .val (.long q2), .second, .val (.int p3), .val (.ref b102), .val (.long (2305842979148922881 : Int64)), .second, .val (.long (2305842979148922880 : Int64)), .second, .unset, .unset, .val (.int (p3 &&& (3 : Int32))), .unset, .unset] [(.long ((2305842979148922880 : Int64) - (q2 &&& (255 : Int64))))])) t
            refine XS.lstore X124.here hx rfl (hb hby at_62) rfl (l' := #[.val (.int p1), .val (.long q2), .second, .val (.int p3), .val (.ref b102), .val (.long (2305842979148922881 : Int64)), .second, .val (.long (2305842979148922880 : Int64)), .second, .val (.long ((2305842979148922880 : Int64) - (q2 &&& (255 : Int64)))), .second, .val (.int (p3 &&& (3 : Int32))), .unset, .unset]) rfl ?_
            show Steps p.tables e below (T124.setTop (mkF m 64 #[.val (.int p1), .val (.long q2), .second, .val (.int p3), .val (.ref b102), .val (.long (2305842979148922881 : Int64)), .second, .val (.long (2305842979148922880 : Int64)), .second, .val (.long ((2305842979148922880 : Int64) - (q2 &&& (255 : Int64)))), .second, .val (.int (p3 &&& (3 : Int32))), .unset, .unset] [])) t
            refine XS.goto X124.here hx rfl (pc0 := 64) (pc' := 93) rfl (hb hby at_64) (by decide) (by decide) ?_
            exact k)
          exact ⟨((2305842979148922880 : Int64) - (q2 &&& (255 : Int64))), .unset, .unset, (by exact ⟨own_yB (M := (2305842979148922880 : Int64)) q2 (by decide +kernel), Or.inl ⟨rfl, rfl⟩⟩), pre133⟩
        · have pre135 : ∀ t, Steps p.tables e below (T124.setTop (mkF m 77 #[.val (.int p1), .val (.long q2), .second, .val (.int p3), .val (.ref b102), .val (.long (2305842979148922881 : Int64)), .second, .val (.long (2305842979148922880 : Int64)), .second, .unset, .unset, .val (.int (p3 &&& (3 : Int32))), .val (.long (q2 - (q2 / (2305842979148922880 : Int64)) * (2305842979148922880 : Int64))), .second] [(.int (lcmpW (q2 - (q2 / (2305842979148922880 : Int64)) * (2305842979148922880 : Int64)) (0 : Int64)))])) t → Steps p.tables e below (s₁.setTop (entryFrame m #[(.int p1), (.long q2), (.int p3)] maxLocals)) t := fun t k => pre132 t (by
            show Steps p.tables e below (T124.setTop (mkF m 51 #[.val (.int p1), .val (.long q2), .second, .val (.int p3), .val (.ref b102), .val (.long (2305842979148922881 : Int64)), .second, .val (.long (2305842979148922880 : Int64)), .second, .unset, .unset, .val (.int (p3 &&& (3 : Int32))), .unset, .unset] [(.int (2 : Int32)), (.int (p3 &&& (3 : Int32)))])) t
            refine XS.icmpYes X124.here hx rfl (pc0 := 51) (pc' := 67) rfl (hb hby at_51) rfl (feq hc131).2 (by decide) (by decide) ?_
            show Steps p.tables e below (T124.setTop (mkF m 67 #[.val (.int p1), .val (.long q2), .second, .val (.int p3), .val (.ref b102), .val (.long (2305842979148922881 : Int64)), .second, .val (.long (2305842979148922880 : Int64)), .second, .unset, .unset, .val (.int (p3 &&& (3 : Int32))), .unset, .unset] [])) t
            refine XS.lloadN X124.here hx rfl (hb hby at_67) rfl ?_
            show Steps p.tables e below (T124.setTop (mkF m 68 #[.val (.int p1), .val (.long q2), .second, .val (.int p3), .val (.ref b102), .val (.long (2305842979148922881 : Int64)), .second, .val (.long (2305842979148922880 : Int64)), .second, .unset, .unset, .val (.int (p3 &&& (3 : Int32))), .unset, .unset] [(.long q2)])) t
            refine XS.lload X124.here hx rfl (hb hby at_68) rfl ?_
            show Steps p.tables e below (T124.setTop (mkF m 70 #[.val (.int p1), .val (.long q2), .second, .val (.int p3), .val (.ref b102), .val (.long (2305842979148922881 : Int64)), .second, .val (.long (2305842979148922880 : Int64)), .second, .unset, .unset, .val (.int (p3 &&& (3 : Int32))), .unset, .unset] [(.long (2305842979148922880 : Int64)), (.long q2)])) t
            refine XS.lrem X124.here hx rfl (hb hby at_70) rfl (by decide) ?_
            show Steps p.tables e below (T124.setTop (mkF m 71 #[.val (.int p1), .val (.long q2), .second, .val (.int p3), .val (.ref b102), .val (.long (2305842979148922881 : Int64)), .second, .val (.long (2305842979148922880 : Int64)), .second, .unset, .unset, .val (.int (p3 &&& (3 : Int32))), .unset, .unset] [(.long (q2 - (q2 / (2305842979148922880 : Int64)) * (2305842979148922880 : Int64)))])) t
            refine XS.lstore X124.here hx rfl (hb hby at_71) rfl (l' := #[.val (.int p1), .val (.long q2), .second, .val (.int p3), .val (.ref b102), .val (.long (2305842979148922881 : Int64)), .second, .val (.long (2305842979148922880 : Int64)), .second, .unset, .unset, .val (.int (p3 &&& (3 : Int32))), .val (.long (q2 - (q2 / (2305842979148922880 : Int64)) * (2305842979148922880 : Int64))), .second]) rfl ?_
            show Steps p.tables e below (T124.setTop (mkF m 73 #[.val (.int p1), .val (.long q2), .second, .val (.int p3), .val (.ref b102), .val (.long (2305842979148922881 : Int64)), .second, .val (.long (2305842979148922880 : Int64)), .second, .unset, .unset, .val (.int (p3 &&& (3 : Int32))), .val (.long (q2 - (q2 / (2305842979148922880 : Int64)) * (2305842979148922880 : Int64))), .second] [])) t
            refine XS.lload X124.here hx rfl (hb hby at_73) rfl ?_
            show Steps p.tables e below (T124.setTop (mkF m 75 #[.val (.int p1), .val (.long q2), .second, .val (.int p3), .val (.ref b102), .val (.long (2305842979148922881 : Int64)), .second, .val (.long (2305842979148922880 : Int64)), .second, .unset, .unset, .val (.int (p3 &&& (3 : Int32))), .val (.long (q2 - (q2 / (2305842979148922880 : Int64)) * (2305842979148922880 : Int64))), .second] [(.long (q2 - (q2 / (2305842979148922880 : Int64)) * (2305842979148922880 : Int64)))])) t
            refine XS.lconst X124.here hx rfl (hb hby at_75) ?_
            show Steps p.tables e below (T124.setTop (mkF m 76 #[.val (.int p1), .val (.long q2), .second, .val (.int p3), .val (.ref b102), .val (.long (2305842979148922881 : Int64)), .second, .val (.long (2305842979148922880 : Int64)), .second, .unset, .unset, .val (.int (p3 &&& (3 : Int32))), .val (.long (q2 - (q2 / (2305842979148922880 : Int64)) * (2305842979148922880 : Int64))), .second] [(.long (0 : Int64)), (.long (q2 - (q2 / (2305842979148922880 : Int64)) * (2305842979148922880 : Int64)))])) t
            refine XS.lcmp X124.here hx rfl (hb hby at_76) rfl ?_
            exact k)
          by_cases hc134 : (q2 - (q2 / (2305842979148922880 : Int64)) * (2305842979148922880 : Int64)) < (0 : Int64)
          · have pre136 : ∀ t, Steps p.tables e below (T124.setTop (mkF m 93 #[.val (.int p1), .val (.long q2), .second, .val (.int p3), .val (.ref b102), .val (.long (2305842979148922881 : Int64)), .second, .val (.long (2305842979148922880 : Int64)), .second, .val (.long (((q2 - (q2 / (2305842979148922880 : Int64)) * (2305842979148922880 : Int64)) + (2305842979148922880 : Int64)) + (1 : Int64))), .second, .val (.int (p3 &&& (3 : Int32))), .val (.long ((q2 - (q2 / (2305842979148922880 : Int64)) * (2305842979148922880 : Int64)) + (2305842979148922880 : Int64))), .second] [])) t → Steps p.tables e below (s₁.setTop (entryFrame m #[(.int p1), (.long q2), (.int p3)] maxLocals)) t := fun t k => pre135 t (by
              show Steps p.tables e below (T124.setTop (mkF m 77 #[.val (.int p1), .val (.long q2), .second, .val (.int p3), .val (.ref b102), .val (.long (2305842979148922881 : Int64)), .second, .val (.long (2305842979148922880 : Int64)), .second, .unset, .unset, .val (.int (p3 &&& (3 : Int32))), .val (.long (q2 - (q2 / (2305842979148922880 : Int64)) * (2305842979148922880 : Int64))), .second] [(.int (lcmpW (q2 - (q2 / (2305842979148922880 : Int64)) * (2305842979148922880 : Int64)) (0 : Int64)))])) t
              refine XS.ifNo X124.here hx rfl (hb hby at_77) rfl ((if0 _ _).trans (tlt (show (lcmpW (q2 - (q2 / (2305842979148922880 : Int64)) * (2305842979148922880 : Int64)) (0 : Int64)) < (0 : Int32) by rw [lcW]; exact (lc_lt _ _).mpr hc134)).2.1) ?_
              show Steps p.tables e below (T124.setTop (mkF m 80 #[.val (.int p1), .val (.long q2), .second, .val (.int p3), .val (.ref b102), .val (.long (2305842979148922881 : Int64)), .second, .val (.long (2305842979148922880 : Int64)), .second, .unset, .unset, .val (.int (p3 &&& (3 : Int32))), .val (.long (q2 - (q2 / (2305842979148922880 : Int64)) * (2305842979148922880 : Int64))), .second] [])) t
              refine XS.lload X124.here hx rfl (hb hby at_80) rfl ?_
              show Steps p.tables e below (T124.setTop (mkF m 82 #[.val (.int p1), .val (.long q2), .second, .val (.int p3), .val (.ref b102), .val (.long (2305842979148922881 : Int64)), .second, .val (.long (2305842979148922880 : Int64)), .second, .unset, .unset, .val (.int (p3 &&& (3 : Int32))), .val (.long (q2 - (q2 / (2305842979148922880 : Int64)) * (2305842979148922880 : Int64))), .second] [(.long (q2 - (q2 / (2305842979148922880 : Int64)) * (2305842979148922880 : Int64)))])) t
              refine XS.lload X124.here hx rfl (hb hby at_82) rfl ?_
              show Steps p.tables e below (T124.setTop (mkF m 84 #[.val (.int p1), .val (.long q2), .second, .val (.int p3), .val (.ref b102), .val (.long (2305842979148922881 : Int64)), .second, .val (.long (2305842979148922880 : Int64)), .second, .unset, .unset, .val (.int (p3 &&& (3 : Int32))), .val (.long (q2 - (q2 / (2305842979148922880 : Int64)) * (2305842979148922880 : Int64))), .second] [(.long (2305842979148922880 : Int64)), (.long (q2 - (q2 / (2305842979148922880 : Int64)) * (2305842979148922880 : Int64)))])) t
              refine XS.ladd X124.here hx rfl (hb hby at_84) rfl ?_
              show Steps p.tables e below (T124.setTop (mkF m 85 #[.val (.int p1), .val (.long q2), .second, .val (.int p3), .val (.ref b102), .val (.long (2305842979148922881 : Int64)), .second, .val (.long (2305842979148922880 : Int64)), .second, .unset, .unset, .val (.int (p3 &&& (3 : Int32))), .val (.long (q2 - (q2 / (2305842979148922880 : Int64)) * (2305842979148922880 : Int64))), .second] [(.long ((q2 - (q2 / (2305842979148922880 : Int64)) * (2305842979148922880 : Int64)) + (2305842979148922880 : Int64)))])) t
              refine XS.lstore X124.here hx rfl (hb hby at_85) rfl (l' := #[.val (.int p1), .val (.long q2), .second, .val (.int p3), .val (.ref b102), .val (.long (2305842979148922881 : Int64)), .second, .val (.long (2305842979148922880 : Int64)), .second, .unset, .unset, .val (.int (p3 &&& (3 : Int32))), .val (.long ((q2 - (q2 / (2305842979148922880 : Int64)) * (2305842979148922880 : Int64)) + (2305842979148922880 : Int64))), .second]) rfl ?_
              show Steps p.tables e below (T124.setTop (mkF m 87 #[.val (.int p1), .val (.long q2), .second, .val (.int p3), .val (.ref b102), .val (.long (2305842979148922881 : Int64)), .second, .val (.long (2305842979148922880 : Int64)), .second, .unset, .unset, .val (.int (p3 &&& (3 : Int32))), .val (.long ((q2 - (q2 / (2305842979148922880 : Int64)) * (2305842979148922880 : Int64)) + (2305842979148922880 : Int64))), .second] [])) t
              refine XS.lload X124.here hx rfl (hb hby at_87) rfl ?_
              show Steps p.tables e below (T124.setTop (mkF m 89 #[.val (.int p1), .val (.long q2), .second, .val (.int p3), .val (.ref b102), .val (.long (2305842979148922881 : Int64)), .second, .val (.long (2305842979148922880 : Int64)), .second, .unset, .unset, .val (.int (p3 &&& (3 : Int32))), .val (.long ((q2 - (q2 / (2305842979148922880 : Int64)) * (2305842979148922880 : Int64)) + (2305842979148922880 : Int64))), .second] [(.long ((q2 - (q2 / (2305842979148922880 : Int64)) * (2305842979148922880 : Int64)) + (2305842979148922880 : Int64)))])) t
              refine XS.lconst X124.here hx rfl (hb hby at_89) ?_
              show Steps p.tables e below (T124.setTop (mkF m 90 #[.val (.int p1), .val (.long q2), .second, .val (.int p3), .val (.ref b102), .val (.long (2305842979148922881 : Int64)), .second, .val (.long (2305842979148922880 : Int64)), .second, .unset, .unset, .val (.int (p3 &&& (3 : Int32))), .val (.long ((q2 - (q2 / (2305842979148922880 : Int64)) * (2305842979148922880 : Int64)) + (2305842979148922880 : Int64))), .second] [(.long (1 : Int64)), (.long ((q2 - (q2 / (2305842979148922880 : Int64)) * (2305842979148922880 : Int64)) + (2305842979148922880 : Int64)))])) t
              refine XS.ladd X124.here hx rfl (hb hby at_90) rfl ?_
              show Steps p.tables e below (T124.setTop (mkF m 91 #[.val (.int p1), .val (.long q2), .second, .val (.int p3), .val (.ref b102), .val (.long (2305842979148922881 : Int64)), .second, .val (.long (2305842979148922880 : Int64)), .second, .unset, .unset, .val (.int (p3 &&& (3 : Int32))), .val (.long ((q2 - (q2 / (2305842979148922880 : Int64)) * (2305842979148922880 : Int64)) + (2305842979148922880 : Int64))), .second] [(.long (((q2 - (q2 / (2305842979148922880 : Int64)) * (2305842979148922880 : Int64)) + (2305842979148922880 : Int64)) + (1 : Int64)))])) t
              refine XS.lstore X124.here hx rfl (hb hby at_91) rfl (l' := #[.val (.int p1), .val (.long q2), .second, .val (.int p3), .val (.ref b102), .val (.long (2305842979148922881 : Int64)), .second, .val (.long (2305842979148922880 : Int64)), .second, .val (.long (((q2 - (q2 / (2305842979148922880 : Int64)) * (2305842979148922880 : Int64)) + (2305842979148922880 : Int64)) + (1 : Int64))), .second, .val (.int (p3 &&& (3 : Int32))), .val (.long ((q2 - (q2 / (2305842979148922880 : Int64)) * (2305842979148922880 : Int64)) + (2305842979148922880 : Int64))), .second]) rfl ?_
              exact k)
            exact ⟨(((q2 - (q2 / (2305842979148922880 : Int64)) * (2305842979148922880 : Int64)) + (2305842979148922880 : Int64)) + (1 : Int64)), .val (.long ((q2 - (q2 / (2305842979148922880 : Int64)) * (2305842979148922880 : Int64)) + (2305842979148922880 : Int64))), .second, (by exact ⟨own_yC (M := (2305842979148922880 : Int64)) q2 (by decide +kernel) hc134, Or.inr ⟨_, rfl, rfl⟩⟩), pre136⟩
          · have pre137 : ∀ t, Steps p.tables e below (T124.setTop (mkF m 93 #[.val (.int p1), .val (.long q2), .second, .val (.int p3), .val (.ref b102), .val (.long (2305842979148922881 : Int64)), .second, .val (.long (2305842979148922880 : Int64)), .second, .val (.long ((q2 - (q2 / (2305842979148922880 : Int64)) * (2305842979148922880 : Int64)) + (1 : Int64))), .second, .val (.int (p3 &&& (3 : Int32))), .val (.long (q2 - (q2 / (2305842979148922880 : Int64)) * (2305842979148922880 : Int64))), .second] [])) t → Steps p.tables e below (s₁.setTop (entryFrame m #[(.int p1), (.long q2), (.int p3)] maxLocals)) t := fun t k => pre135 t (by
              show Steps p.tables e below (T124.setTop (mkF m 77 #[.val (.int p1), .val (.long q2), .second, .val (.int p3), .val (.ref b102), .val (.long (2305842979148922881 : Int64)), .second, .val (.long (2305842979148922880 : Int64)), .second, .unset, .unset, .val (.int (p3 &&& (3 : Int32))), .val (.long (q2 - (q2 / (2305842979148922880 : Int64)) * (2305842979148922880 : Int64))), .second] [(.int (lcmpW (q2 - (q2 / (2305842979148922880 : Int64)) * (2305842979148922880 : Int64)) (0 : Int64)))])) t
              refine XS.ifYes X124.here hx rfl (pc0 := 77) (pc' := 87) rfl (hb hby at_77) rfl ((if0 _ _).trans (flt (show ¬ ((lcmpW (q2 - (q2 / (2305842979148922880 : Int64)) * (2305842979148922880 : Int64)) (0 : Int64)) < (0 : Int32)) by rw [lcW]; exact fun q => hc134 ((lc_lt _ _).mp q))).2.1) (by decide) (by decide) ?_
              show Steps p.tables e below (T124.setTop (mkF m 87 #[.val (.int p1), .val (.long q2), .second, .val (.int p3), .val (.ref b102), .val (.long (2305842979148922881 : Int64)), .second, .val (.long (2305842979148922880 : Int64)), .second, .unset, .unset, .val (.int (p3 &&& (3 : Int32))), .val (.long (q2 - (q2 / (2305842979148922880 : Int64)) * (2305842979148922880 : Int64))), .second] [])) t
              refine XS.lload X124.here hx rfl (hb hby at_87) rfl ?_
              show Steps p.tables e below (T124.setTop (mkF m 89 #[.val (.int p1), .val (.long q2), .second, .val (.int p3), .val (.ref b102), .val (.long (2305842979148922881 : Int64)), .second, .val (.long (2305842979148922880 : Int64)), .second, .unset, .unset, .val (.int (p3 &&& (3 : Int32))), .val (.long (q2 - (q2 / (2305842979148922880 : Int64)) * (2305842979148922880 : Int64))), .second] [(.long (q2 - (q2 / (2305842979148922880 : Int64)) * (2305842979148922880 : Int64)))])) t
              refine XS.lconst X124.here hx rfl (hb hby at_89) ?_
              show Steps p.tables e below (T124.setTop (mkF m 90 #[.val (.int p1), .val (.long q2), .second, .val (.int p3), .val (.ref b102), .val (.long (2305842979148922881 : Int64)), .second, .val (.long (2305842979148922880 : Int64)), .second, .unset, .unset, .val (.int (p3 &&& (3 : Int32))), .val (.long (q2 - (q2 / (2305842979148922880 : Int64)) * (2305842979148922880 : Int64))), .second] [(.long (1 : Int64)), (.long (q2 - (q2 / (2305842979148922880 : Int64)) * (2305842979148922880 : Int64)))])) t
              refine XS.ladd X124.here hx rfl (hb hby at_90) rfl ?_
              show Steps p.tables e below (T124.setTop (mkF m 91 #[.val (.int p1), .val (.long q2), .second, .val (.int p3), .val (.ref b102), .val (.long (2305842979148922881 : Int64)), .second, .val (.long (2305842979148922880 : Int64)), .second, .unset, .unset, .val (.int (p3 &&& (3 : Int32))), .val (.long (q2 - (q2 / (2305842979148922880 : Int64)) * (2305842979148922880 : Int64))), .second] [(.long ((q2 - (q2 / (2305842979148922880 : Int64)) * (2305842979148922880 : Int64)) + (1 : Int64)))])) t
              refine XS.lstore X124.here hx rfl (hb hby at_91) rfl (l' := #[.val (.int p1), .val (.long q2), .second, .val (.int p3), .val (.ref b102), .val (.long (2305842979148922881 : Int64)), .second, .val (.long (2305842979148922880 : Int64)), .second, .val (.long ((q2 - (q2 / (2305842979148922880 : Int64)) * (2305842979148922880 : Int64)) + (1 : Int64))), .second, .val (.int (p3 &&& (3 : Int32))), .val (.long (q2 - (q2 / (2305842979148922880 : Int64)) * (2305842979148922880 : Int64))), .second]) rfl ?_
              exact k)
            exact ⟨((q2 - (q2 / (2305842979148922880 : Int64)) * (2305842979148922880 : Int64)) + (1 : Int64)), .val (.long (q2 - (q2 / (2305842979148922880 : Int64)) * (2305842979148922880 : Int64))), .second, (by exact ⟨own_yD (M := (2305842979148922880 : Int64)) q2 (by decide +kernel) hc134, Or.inr ⟨_, rfl, rfl⟩⟩), pre137⟩
    obtain ⟨cq142, kq142, q142a, q142b, q142c⟩ := isOf hZ e124 f117
    obtain ⟨_, _, ⟨T142, L142, k142, n142⟩, -, X142, ⟨Lc142, hQ142, l142, y142, z142⟩, st142⟩ := X124.virtualBack hx (y := (⟨"com/example/libsld/libsld/PrimeField", "invert", "(J)J"⟩ : MethodName)) (z := (⟨"com/example/libsld/libsld/PrimeField", "invert", "(J)J"⟩ : MethodName)) hown (mvT hZ (own_i hw 58 rfl)) (mvT hZ (own_i hw 59 rfl)) (notFace_of_selects (args := #[]) (mvT hZ (own_i hw 61 rfl))) (mvT hZ (own_i hw 61 rfl)) (mvT hZ (own_i hw 60 rfl)) (by decide) (backOf (W := 0) (rmInv l Z a0 hw [] b102 v138 (2305842979148922881 : Int64) T116.heap n0 f121 f118 (by decide +kernel) (by decide +kernel) hP141.1.1 hP141.1.2 (own_cp0 hP141.1.1 hP141.1.2)) hZ (own_i hw 62 rfl) (own_i hw 2 rfl) (by decide) (by decide)) q142a q142c (g := (mkF m 97 #[.val (.int p1), .val (.long q2), .second, .val (.int p3), .val (.ref b102), .val (.long (2305842979148922881 : Int64)), .second, .val (.long (2305842979148922880 : Int64)), .second, .val (.long v138), .second, .val (.int (p3 &&& (3 : Int32))), v139, v140] [(.long v138), (.ref b102)])) rfl (by rw [hml]; rfl) (Steps.refl _) (argsL := [(.long v138)]) (rest := []) (lenOf pd_1 rfl) rfl (by show 2 * 0 + _ ≤ _; exact Nat.le_of_eq rfl) (hb hby at_97) (fun _ _ => ⟨rfl, e124, (by decide : 2 + 0 ≤ _), (by decide : 38 + 0 ≤ _)⟩)
    dsimp only [Pt.U, Pt.locs, Pt.cells, Pt.slots] at X142 l142 y142 z142 st142 hQ142
    subst l142 y142 z142
    obtain ⟨x143, rfl, N142q, K142, f144⟩ := hQ142
    have N142 := Fr.app N116 N142q
    have f145 := Nat.le_trans f121 K142.1
    have f146 := f122.keep K142 all0
    have f147 := f123.trans K142 all0
    have f148 := f117.keep K142
    have f149 := f118.keep K142 nin0
    have f150 := f119.keep K142 nin0
    have f151 := f120.keep K142 nin0
    have hd152 : ¬ (x143 < (1 : Int64)) := own_lawA f144
    have hd153 : ¬ ((2305842979148922880 : Int64) < x143) := own_lawB (by decide +kernel) f144
    obtain ⟨cq154, kq154, q154a, q154b, q154c⟩ := isOf hZ rfl f148
    obtain ⟨_, _, ⟨T154, L154, k154, n154⟩, -, X154, ⟨Lc154, hQ154, l154, y154, z154⟩, st154⟩ := X142.virtualBack hx (y := (⟨"com/example/libsld/libsld/PrimeField", "multiply", "(JJ)J"⟩ : MethodName)) (z := (⟨"com/example/libsld/libsld/PrimeField", "multiply", "(JJ)J"⟩ : MethodName)) hown (mvT hZ (own_i hw 63 rfl)) (mvT hZ (own_i hw 38 rfl)) (notFace_of_selects (args := #[]) (mvT hZ (own_i hw 40 rfl))) (mvT hZ (own_i hw 40 rfl)) (mvT hZ (own_i hw 39 rfl)) (by decide) (backOf (W := 0) (rmMul l Z a0 hw [] b102 v138 x143 (2305842979148922881 : Int64) (-2305842979148922879 : Int64) (750416685932096 : Int64) T142.heap n0 f145 f148 f149 f150 f151) hZ (own_i hw 41 rfl) (own_i hw 2 rfl) (by decide) (by decide)) q154a q154c (g := (mkF m 125 #[.val (.int p1), .val (.long q2), .second, .val (.int p3), .val (.ref b102), .val (.long (2305842979148922881 : Int64)), .second, .val (.long (2305842979148922880 : Int64)), .second, .val (.long v138), .second, .val (.int (p3 &&& (3 : Int32))), .val (.long x143), .second] [(.long x143), (.long v138), (.ref b102)])) rfl (by rw [hml]; rfl) (Steps.refl _) (argsL := [(.long v138), (.long x143)]) (rest := []) (lenOf pd_0 rfl) rfl (by show 2 * 0 + _ ≤ _; exact Nat.le_of_eq rfl) (hb hby at_125) (fun _ _ => ⟨rfl, rfl, (by decide : 2 + 0 ≤ _), (by decide : 38 + 0 ≤ _)⟩)
    dsimp only [Pt.U, Pt.locs, Pt.cells, Pt.slots] at X154 l154 y154 z154 st154 hQ154
    subst l154 y154 z154
    obtain ⟨rfl, N154q, e154⟩ := hQ154
    have N154 := Fr.app N142 N154q
    have hd155 : (own_mul v138 x143 (2305842979148922881 : Int64) (-2305842979148922879 : Int64) (750416685932096 : Int64)) = (1 : Int64) := own_lawC0 hP141.1 f144
    have pre156 : ∀ t, Steps p.tables e below (T154.setTop (mkF m 138 #[.val (.int p1), .val (.long q2), .second, .val (.int p3), .val (.ref b102), .val (.long (2305842979148922881 : Int64)), .second, .val (.long (2305842979148922880 : Int64)), .second, .val (.long v138), .second, .val (.int (p3 &&& (3 : Int32))), .val (.long x143), .second] [(.int (1 : Int32))])) t → Steps p.tables e below (s₁.setTop (entryFrame m #[(.int p1), (.long q2), (.int p3)] maxLocals)) t := fun t k => pre141 t (by
      show Steps p.tables e below (T124.setTop (mkF m 93 #[.val (.int p1), .val (.long q2), .second, .val (.int p3), .val (.ref b102), .val (.long (2305842979148922881 : Int64)), .second, .val (.long (2305842979148922880 : Int64)), .second, .val (.long v138), .second, .val (.int (p3 &&& (3 : Int32))), v139, v140] [])) t
      refine XS.aload X124.here hx rfl (hb hby at_93) rfl rfl ?_
      show Steps p.tables e below (T124.setTop (mkF m 95 #[.val (.int p1), .val (.long q2), .second, .val (.int p3), .val (.ref b102), .val (.long (2305842979148922881 : Int64)), .second, .val (.long (2305842979148922880 : Int64)), .second, .val (.long v138), .second, .val (.int (p3 &&& (3 : Int32))), v139, v140] [(.ref b102)])) t
      refine XS.lload X124.here hx rfl (hb hby at_95) rfl ?_
      show Steps p.tables e below (T124.setTop (mkF m 97 #[.val (.int p1), .val (.long q2), .second, .val (.int p3), .val (.ref b102), .val (.long (2305842979148922881 : Int64)), .second, .val (.long (2305842979148922880 : Int64)), .second, .val (.long v138), .second, .val (.int (p3 &&& (3 : Int32))), v139, v140] [(.long v138), (.ref b102)])) t
      refine st142.trans ?_
      show Steps p.tables e below (T142.setTop (mkF m 100 #[.val (.int p1), .val (.long q2), .second, .val (.int p3), .val (.ref b102), .val (.long (2305842979148922881 : Int64)), .second, .val (.long (2305842979148922880 : Int64)), .second, .val (.long v138), .second, .val (.int (p3 &&& (3 : Int32))), v139, v140] [(.long x143)])) t
      refine XS.lstore X142.here hx rfl (hb hby at_100) rfl (l' := #[.val (.int p1), .val (.long q2), .second, .val (.int p3), .val (.ref b102), .val (.long (2305842979148922881 : Int64)), .second, .val (.long (2305842979148922880 : Int64)), .second, .val (.long v138), .second, .val (.int (p3 &&& (3 : Int32))), .val (.long x143), .second]) (own_sto hP141.2) ?_
      show Steps p.tables e below (T142.setTop (mkF m 102 #[.val (.int p1), .val (.long q2), .second, .val (.int p3), .val (.ref b102), .val (.long (2305842979148922881 : Int64)), .second, .val (.long (2305842979148922880 : Int64)), .second, .val (.long v138), .second, .val (.int (p3 &&& (3 : Int32))), .val (.long x143), .second] [])) t
      refine XS.lload X142.here hx rfl (hb hby at_102) rfl ?_
      show Steps p.tables e below (T142.setTop (mkF m 104 #[.val (.int p1), .val (.long q2), .second, .val (.int p3), .val (.ref b102), .val (.long (2305842979148922881 : Int64)), .second, .val (.long (2305842979148922880 : Int64)), .second, .val (.long v138), .second, .val (.int (p3 &&& (3 : Int32))), .val (.long x143), .second] [(.long x143)])) t
      refine XS.lconst X142.here hx rfl (hb hby at_104) ?_
      show Steps p.tables e below (T142.setTop (mkF m 105 #[.val (.int p1), .val (.long q2), .second, .val (.int p3), .val (.ref b102), .val (.long (2305842979148922881 : Int64)), .second, .val (.long (2305842979148922880 : Int64)), .second, .val (.long v138), .second, .val (.int (p3 &&& (3 : Int32))), .val (.long x143), .second] [(.long (1 : Int64)), (.long x143)])) t
      refine XS.lcmp X142.here hx rfl (hb hby at_105) rfl ?_
      show Steps p.tables e below (T142.setTop (mkF m 106 #[.val (.int p1), .val (.long q2), .second, .val (.int p3), .val (.ref b102), .val (.long (2305842979148922881 : Int64)), .second, .val (.long (2305842979148922880 : Int64)), .second, .val (.long v138), .second, .val (.int (p3 &&& (3 : Int32))), .val (.long x143), .second] [(.int (lcmpW x143 (1 : Int64)))])) t
      refine XS.ifNo X142.here hx rfl (hb hby at_106) rfl ((if0 _ _).trans (flt (show ¬ ((lcmpW x143 (1 : Int64)) < (0 : Int32)) by rw [lcW]; exact fun q => hd152 ((lc_lt _ _).mp q))).1) ?_
      show Steps p.tables e below (T142.setTop (mkF m 109 #[.val (.int p1), .val (.long q2), .second, .val (.int p3), .val (.ref b102), .val (.long (2305842979148922881 : Int64)), .second, .val (.long (2305842979148922880 : Int64)), .second, .val (.long v138), .second, .val (.int (p3 &&& (3 : Int32))), .val (.long x143), .second] [])) t
      refine XS.lload X142.here hx rfl (hb hby at_109) rfl ?_
      show Steps p.tables e below (T142.setTop (mkF m 111 #[.val (.int p1), .val (.long q2), .second, .val (.int p3), .val (.ref b102), .val (.long (2305842979148922881 : Int64)), .second, .val (.long (2305842979148922880 : Int64)), .second, .val (.long v138), .second, .val (.int (p3 &&& (3 : Int32))), .val (.long x143), .second] [(.long x143)])) t
      refine XS.lload X142.here hx rfl (hb hby at_111) rfl ?_
      show Steps p.tables e below (T142.setTop (mkF m 113 #[.val (.int p1), .val (.long q2), .second, .val (.int p3), .val (.ref b102), .val (.long (2305842979148922881 : Int64)), .second, .val (.long (2305842979148922880 : Int64)), .second, .val (.long v138), .second, .val (.int (p3 &&& (3 : Int32))), .val (.long x143), .second] [(.long (2305842979148922880 : Int64)), (.long x143)])) t
      refine XS.lcmp X142.here hx rfl (hb hby at_113) rfl ?_
      show Steps p.tables e below (T142.setTop (mkF m 114 #[.val (.int p1), .val (.long q2), .second, .val (.int p3), .val (.ref b102), .val (.long (2305842979148922881 : Int64)), .second, .val (.long (2305842979148922880 : Int64)), .second, .val (.long v138), .second, .val (.int (p3 &&& (3 : Int32))), .val (.long x143), .second] [(.int (lcmpW x143 (2305842979148922880 : Int64)))])) t
      refine XS.ifYes X142.here hx rfl (pc0 := 114) (pc' := 119) rfl (hb hby at_114) rfl ((if0 _ _).trans (flt (show ¬ ((0 : Int32) < (lcmpW x143 (2305842979148922880 : Int64))) by rw [lcW]; exact fun q => hd153 ((lc_gt _ _).mp q))).2.2.2) (by decide) (by decide) ?_
      show Steps p.tables e below (T142.setTop (mkF m 119 #[.val (.int p1), .val (.long q2), .second, .val (.int p3), .val (.ref b102), .val (.long (2305842979148922881 : Int64)), .second, .val (.long (2305842979148922880 : Int64)), .second, .val (.long v138), .second, .val (.int (p3 &&& (3 : Int32))), .val (.long x143), .second] [])) t
      refine XS.aload X142.here hx rfl (hb hby at_119) rfl rfl ?_
      show Steps p.tables e below (T142.setTop (mkF m 121 #[.val (.int p1), .val (.long q2), .second, .val (.int p3), .val (.ref b102), .val (.long (2305842979148922881 : Int64)), .second, .val (.long (2305842979148922880 : Int64)), .second, .val (.long v138), .second, .val (.int (p3 &&& (3 : Int32))), .val (.long x143), .second] [(.ref b102)])) t
      refine XS.lload X142.here hx rfl (hb hby at_121) rfl ?_
      show Steps p.tables e below (T142.setTop (mkF m 123 #[.val (.int p1), .val (.long q2), .second, .val (.int p3), .val (.ref b102), .val (.long (2305842979148922881 : Int64)), .second, .val (.long (2305842979148922880 : Int64)), .second, .val (.long v138), .second, .val (.int (p3 &&& (3 : Int32))), .val (.long x143), .second] [(.long v138), (.ref b102)])) t
      refine XS.lload X142.here hx rfl (hb hby at_123) rfl ?_
      show Steps p.tables e below (T142.setTop (mkF m 125 #[.val (.int p1), .val (.long q2), .second, .val (.int p3), .val (.ref b102), .val (.long (2305842979148922881 : Int64)), .second, .val (.long (2305842979148922880 : Int64)), .second, .val (.long v138), .second, .val (.int (p3 &&& (3 : Int32))), .val (.long x143), .second] [(.long x143), (.long v138), (.ref b102)])) t
      refine st154.trans ?_
      show Steps p.tables e below (T154.setTop (mkF m 128 #[.val (.int p1), .val (.long q2), .second, .val (.int p3), .val (.ref b102), .val (.long (2305842979148922881 : Int64)), .second, .val (.long (2305842979148922880 : Int64)), .second, .val (.long v138), .second, .val (.int (p3 &&& (3 : Int32))), .val (.long x143), .second] [(.long (own_mul v138 x143 (2305842979148922881 : Int64) (-2305842979148922879 : Int64) (750416685932096 : Int64)))])) t
      refine XS.lconst X154.here hx rfl (hb hby at_128) ?_
      show Steps p.tables e below (T154.setTop (mkF m 129 #[.val (.int p1), .val (.long q2), .second, .val (.int p3), .val (.ref b102), .val (.long (2305842979148922881 : Int64)), .second, .val (.long (2305842979148922880 : Int64)), .second, .val (.long v138), .second, .val (.int (p3 &&& (3 : Int32))), .val (.long x143), .second] [(.long (1 : Int64)), (.long (own_mul v138 x143 (2305842979148922881 : Int64) (-2305842979148922879 : Int64) (750416685932096 : Int64)))])) t
      refine XS.lcmp X154.here hx rfl (hb hby at_129) rfl ?_
      show Steps p.tables e below (T154.setTop (mkF m 130 #[.val (.int p1), .val (.long q2), .second, .val (.int p3), .val (.ref b102), .val (.long (2305842979148922881 : Int64)), .second, .val (.long (2305842979148922880 : Int64)), .second, .val (.long v138), .second, .val (.int (p3 &&& (3 : Int32))), .val (.long x143), .second] [(.int (lcmpW (own_mul v138 x143 (2305842979148922881 : Int64) (-2305842979148922879 : Int64) (750416685932096 : Int64)) (1 : Int64)))])) t
      refine XS.ifNo X154.here hx rfl (hb hby at_130) rfl ((if0 _ _).trans (teq (show (lcmpW (own_mul v138 x143 (2305842979148922881 : Int64) (-2305842979148922879 : Int64) (750416685932096 : Int64)) (1 : Int64)) = (0 : Int32) by rw [lcW]; exact (lc_eq _ _).mpr hd155)).2) ?_
      show Steps p.tables e below (T154.setTop (mkF m 133 #[.val (.int p1), .val (.long q2), .second, .val (.int p3), .val (.ref b102), .val (.long (2305842979148922881 : Int64)), .second, .val (.long (2305842979148922880 : Int64)), .second, .val (.long v138), .second, .val (.int (p3 &&& (3 : Int32))), .val (.long x143), .second] [])) t
      refine XS.iconst X154.here hx rfl (hb hby at_133) ?_
      show Steps p.tables e below (T154.setTop (mkF m 134 #[.val (.int p1), .val (.long q2), .second, .val (.int p3), .val (.ref b102), .val (.long (2305842979148922881 : Int64)), .second, .val (.long (2305842979148922880 : Int64)), .second, .val (.long v138), .second, .val (.int (p3 &&& (3 : Int32))), .val (.long x143), .second] [(.int (1 : Int32))])) t
      refine XS.goto X154.here hx rfl (pc0 := 134) (pc' := 138) rfl (hb hby at_134) (by decide) (by decide) ?_
      exact k)
    obtain ⟨fs, hr, hrun, hended, hW, hsame⟩ := X154.leave (v := some (.int (1 : Int32))) (fun h => by rw [Bd.returns] at h; cases h)
    refine ⟨_, _, pre156 _ ?_, hrun, hended, _, _, rfl, ?_, ⟨_, rfl⟩, hW, hsame.mono (by decide) (by decide)⟩
    · exact retN X154 hx (t := .boolean) Bd.returns (by simp) (hb hby at_138) hr
    · show Q0 Z p1 q2 p3 wP kP wN kN h0 n0 _ T154.heap _
      rw [e154]
      exact ⟨rfl, N154⟩
  · have pre157 : ∀ t, Steps p.tables e below (T102.setTop (mkF m 7 #[.val (.int p1), .val (.long q2), .second, .val (.int p3), .unset, .unset, .unset, .unset, .unset, .unset, .unset, .unset, .unset, .unset] [(.int (1 : Int32)), (.ref b102), (.ref b102)])) t → Steps p.tables e below (s₁.setTop (entryFrame m #[(.int p1), (.long q2), (.int p3)] maxLocals)) t := fun t k => pre113 t (by rw [show (p1 &&& (3 : Int32)) = (1 : Int32) from hs114]; exact k)
    obtain ⟨_, _, ⟨T158, L158, k158, n158⟩, -, X158, ⟨Lc158, hQ158, l158, y158, z158⟩, st158⟩ := X102.specialBack hx (y := (⟨"com/example/libsld/libsld/PrimeField", "<init>", "(I)V"⟩ : MethodName)) rfl hown (mvT hZ (own_i hw 3 rfl)) (mvT hZ (own_i hw 4 rfl)) (mvT hZ (own_i hw 5 rfl)) (by decide) (backOf (W := 1) (rmI1 l Z a0 hw [] b102 wP kP wN kN h102 n0 f110 SP AP SN AN f111 f105 f106 f107 f108 f109 A102 ga103) hZ (own_i hw 5 rfl) (own_i hw 2 rfl) (by decide) (by decide)) (g := (mkF m 7 #[.val (.int p1), .val (.long q2), .second, .val (.int p3), .unset, .unset, .unset, .unset, .unset, .unset, .unset, .unset, .unset, .unset] [(.int (1 : Int32)), (.ref b102), (.ref b102)])) rfl (by rw [hml]; rfl) (Steps.refl _) (a := b102) (argsL := [(.int (1 : Int32))]) (rest := [(.ref b102)]) (lenOf pd_2 rfl) rfl (by show 2 * 0 + _ ≤ _; exact Nat.le_of_eq rfl) (hb hby at_7) (fun _ _ => ⟨rfl, e102, (by decide : 1 + 1 ≤ _), (by decide : 5 + 33 ≤ _)⟩)
    dsimp only [Pt.U, Pt.locs, Pt.cells, Pt.slots] at X158 l158 y158 z158 st158 hQ158
    subst l158 y158 z158
    obtain ⟨rfl, N158q, K158, f159, f160, f161, f162⟩ := hQ158
    have N158 := Fr.app N0 N158q
    have f163 := Nat.le_trans f110 K158.1
    have f164 := f111.keep K158 (allS ga103 all0)
    have f165 := f112.trans K158 (allS (Or.inr sz104) all0)
    obtain ⟨T166, X166, e166, st166⟩ := getF X158 hx hZ hown (host := "") (Or.inl (own_i hw 56 rfl)) Via.refl rfl f160 (g := (mkF m 14 #[.val (.int p1), .val (.long q2), .second, .val (.int p3), .val (.ref b102), .unset, .unset, .unset, .unset, .unset, .unset, .unset, .unset, .unset] [(.ref b102)])) rfl rfl (hb hby at_14)
    have pre167 : ∀ t, Steps p.tables e below (T166.setTop (mkF m 23 #[.val (.int p1), .val (.long q2), .second, .val (.int p3), .val (.ref b102), .val (.long (2305842798760296449 : Int64)), .second, .unset, .unset, .unset, .unset, .unset, .unset, .unset] [(.long ((2305842798760296449 : Int64) - (1 : Int64)))])) t → Steps p.tables e below (s₁.setTop (entryFrame m #[(.int p1), (.long q2), (.int p3)] maxLocals)) t := fun t k => pre157 t (by
      show Steps p.tables e below (T102.setTop (mkF m 7 #[.val (.int p1), .val (.long q2), .second, .val (.int p3), .unset, .unset, .unset, .unset, .unset, .unset, .unset, .unset, .unset, .unset] [(.int (1 : Int32)), (.ref b102), (.ref b102)])) t
      refine st158.trans ?_
      show Steps p.tables e below (T158.setTop (mkF m 10 #[.val (.int p1), .val (.long q2), .second, .val (.int p3), .unset, .unset, .unset, .unset, .unset, .unset, .unset, .unset, .unset, .unset] [(.ref b102)])) t
      refine XS.astore X158.here hx rfl (hb hby at_10) rfl rfl (l' := #[.val (.int p1), .val (.long q2), .second, .val (.int p3), .val (.ref b102), .unset, .unset, .unset, .unset, .unset, .unset, .unset, .unset, .unset]) rfl ?_
      show Steps p.tables e below (T158.setTop (mkF m 12 #[.val (.int p1), .val (.long q2), .second, .val (.int p3), .val (.ref b102), .unset, .unset, .unset, .unset, .unset, .unset, .unset, .unset, .unset] [])) t
      refine XS.aload X158.here hx rfl (hb hby at_12) rfl rfl ?_
      show Steps p.tables e below (T158.setTop (mkF m 14 #[.val (.int p1), .val (.long q2), .second, .val (.int p3), .val (.ref b102), .unset, .unset, .unset, .unset, .unset, .unset, .unset, .unset, .unset] [(.ref b102)])) t
      refine st166 _ ?_
      show Steps p.tables e below (T166.setTop (mkF m 17 #[.val (.int p1), .val (.long q2), .second, .val (.int p3), .val (.ref b102), .unset, .unset, .unset, .unset, .unset, .unset, .unset, .unset, .unset] [(.long (2305842798760296449 : Int64))])) t
      refine XS.lstore X166.here hx rfl (hb hby at_17) rfl (l' := #[.val (.int p1), .val (.long q2), .second, .val (.int p3), .val (.ref b102), .val (.long (2305842798760296449 : Int64)), .second, .unset, .unset, .unset, .unset, .unset, .unset, .unset]) rfl ?_
      show Steps p.tables e below (T166.setTop (mkF m 19 #[.val (.int p1), .val (.long q2), .second, .val (.int p3), .val (.ref b102), .val (.long (2305842798760296449 : Int64)), .second, .unset, .unset, .unset, .unset, .unset, .unset, .unset] [])) t
      refine XS.lload X166.here hx rfl (hb hby at_19) rfl ?_
      show Steps p.tables e below (T166.setTop (mkF m 21 #[.val (.int p1), .val (.long q2), .second, .val (.int p3), .val (.ref b102), .val (.long (2305842798760296449 : Int64)), .second, .unset, .unset, .unset, .unset, .unset, .unset, .unset] [(.long (2305842798760296449 : Int64))])) t
      refine XS.lconst X166.here hx rfl (hb hby at_21) ?_
      show Steps p.tables e below (T166.setTop (mkF m 22 #[.val (.int p1), .val (.long q2), .second, .val (.int p3), .val (.ref b102), .val (.long (2305842798760296449 : Int64)), .second, .unset, .unset, .unset, .unset, .unset, .unset, .unset] [(.long (1 : Int64)), (.long (2305842798760296449 : Int64))])) t
      refine XS.lsub X166.here hx rfl (hb hby at_22) rfl ?_
      exact k)
    have pre168 : ∀ t, Steps p.tables e below (T166.setTop (mkF m 23 #[.val (.int p1), .val (.long q2), .second, .val (.int p3), .val (.ref b102), .val (.long (2305842798760296449 : Int64)), .second, .unset, .unset, .unset, .unset, .unset, .unset, .unset] [(.long (2305842798760296448 : Int64))])) t → Steps p.tables e below (s₁.setTop (entryFrame m #[(.int p1), (.long q2), (.int p3)] maxLocals)) t := fun t k => pre167 t (by rw [show ((2305842798760296449 : Int64) - (1 : Int64)) = (2305842798760296448 : Int64) from (by decide +kernel)]; exact k)
    have pre169 : ∀ t, Steps p.tables e below (T166.setTop (mkF m 30 #[.val (.int p1), .val (.long q2), .second, .val (.int p3), .val (.ref b102), .val (.long (2305842798760296449 : Int64)), .second, .val (.long (2305842798760296448 : Int64)), .second, .unset, .unset, .val (.int (p3 &&& (3 : Int32))), .unset, .unset] [])) t → Steps p.tables e below (s₁.setTop (entryFrame m #[(.int p1), (.long q2), (.int p3)] maxLocals)) t := fun t k => pre168 t (by
      show Steps p.tables e below (T166.setTop (mkF m 23 #[.val (.int p1), .val (.long q2), .second, .val (.int p3), .val (.ref b102), .val (.long (2305842798760296449 : Int64)), .second, .unset, .unset, .unset, .unset, .unset, .unset, .unset] [(.long (2305842798760296448 : Int64))])) t
      refine XS.lstore X166.here hx rfl (hb hby at_23) rfl (l' := #[.val (.int p1), .val (.long q2), .second, .val (.int p3), .val (.ref b102), .val (.long (2305842798760296449 : Int64)), .second, .val (.long (2305842798760296448 : Int64)), .second, .unset, .unset, .unset, .unset, .unset]) rfl ?_
      show Steps p.tables e below (T166.setTop (mkF m 25 #[.val (.int p1), .val (.long q2), .second, .val (.int p3), .val (.ref b102), .val (.long (2305842798760296449 : Int64)), .second, .val (.long (2305842798760296448 : Int64)), .second, .unset, .unset, .unset, .unset, .unset] [])) t
      refine XS.iloadN X166.here hx rfl (hb hby at_25) rfl ?_
      show Steps p.tables e below (T166.setTop (mkF m 26 #[.val (.int p1), .val (.long q2), .second, .val (.int p3), .val (.ref b102), .val (.long (2305842798760296449 : Int64)), .second, .val (.long (2305842798760296448 : Int64)), .second, .unset, .unset, .unset, .unset, .unset] [(.int p3)])) t
      refine XS.iconst X166.here hx rfl (hb hby at_26) ?_
      show Steps p.tables e below (T166.setTop (mkF m 27 #[.val (.int p1), .val (.long q2), .second, .val (.int p3), .val (.ref b102), .val (.long (2305842798760296449 : Int64)), .second, .val (.long (2305842798760296448 : Int64)), .second, .unset, .unset, .unset, .unset, .unset] [(.int (3 : Int32)), (.int p3)])) t
      refine XS.iand X166.here hx rfl (hb hby at_27) rfl ?_
      show Steps p.tables e below (T166.setTop (mkF m 28 #[.val (.int p1), .val (.long q2), .second, .val (.int p3), .val (.ref b102), .val (.long (2305842798760296449 : Int64)), .second, .val (.long (2305842798760296448 : Int64)), .second, .unset, .unset, .unset, .unset, .unset] [(.int (p3 &&& (3 : Int32)))])) t
      refine XS.istore X166.here hx rfl (hb hby at_28) rfl (l' := #[.val (.int p1), .val (.long q2), .second, .val (.int p3), .val (.ref b102), .val (.long (2305842798760296449 : Int64)), .second, .val (.long (2305842798760296448 : Int64)), .second, .unset, .unset, .val (.int (p3 &&& (3 : Int32))), .unset, .unset]) rfl ?_
      exact k)
    obtain ⟨v180, v181, v182, hP183, pre183⟩ : ∃ (v180 : Int64) (v181 : Slot) (v182 : Slot), ((0 < v180.toInt ∧ v180.toInt < (2305842798760296449 : Int64).toInt) ∧ ((v181 = .unset ∧ v182 = .unset) ∨ ∃ z, v181 = .val (.long z) ∧ v182 = .second)) ∧ ∀ t, Steps p.tables e below (T166.setTop (mkF m 93 #[.val (.int p1), .val (.long q2), .second, .val (.int p3), .val (.ref b102), .val (.long (2305842798760296449 : Int64)), .second, .val (.long (2305842798760296448 : Int64)), .second, .val (.long v180), .second, .val (.int (p3 &&& (3 : Int32))), v181, v182] [])) t → Steps p.tables e below (s₁.setTop (entryFrame m #[(.int p1), (.long q2), (.int p3)] maxLocals)) t := by
      have pre171 : ∀ t, Steps p.tables e below (T166.setTop (mkF m 33 #[.val (.int p1), .val (.long q2), .second, .val (.int p3), .val (.ref b102), .val (.long (2305842798760296449 : Int64)), .second, .val (.long (2305842798760296448 : Int64)), .second, .unset, .unset, .val (.int (p3 &&& (3 : Int32))), .unset, .unset] [(.int (1 : Int32)), (.int (p3 &&& (3 : Int32)))])) t → Steps p.tables e below (s₁.setTop (entryFrame m #[(.int p1), (.long q2), (.int p3)] maxLocals)) t := fun t k => pre169 t (by
        show Steps p.tables e below (T166.setTop (mkF m 30 #[.val (.int p1), .val (.long q2), .second, .val (.int p3), .val (.ref b102), .val (.long (2305842798760296449 : Int64)), .second, .val (.long (2305842798760296448 : Int64)), .second, .unset, .unset, .val (.int (p3 &&& (3 : Int32))), .unset, .unset] [])) t
        refine XS.iload X166.here hx rfl (hb hby at_30) rfl ?_
        show Steps p.tables e below (T166.setTop (mkF m 32 #[.val (.int p1), .val (.long q2), .second, .val (.int p3), .val (.ref b102), .val (.long (2305842798760296449 : Int64)), .second, .val (.long (2305842798760296448 : Int64)), .second, .unset, .unset, .val (.int (p3 &&& (3 : Int32))), .unset, .unset] [(.int (p3 &&& (3 : Int32)))])) t
        refine XS.iconst X166.here hx rfl (hb hby at_32) ?_
        exact k)
      by_cases hc170 : (p3 &&& (3 : Int32)) = (1 : Int32)
      · have pre172 : ∀ t, Steps p.tables e below (T166.setTop (mkF m 93 #[.val (.int p1), .val (.long q2), .second, .val (.int p3), .val (.ref b102), .val (.long (2305842798760296449 : Int64)), .second, .val (.long (2305842798760296448 : Int64)), .second, .val (.long ((q2 &&& (255 : Int64)) + (1 : Int64))), .second, .val (.int (p3 &&& (3 : Int32))), .unset, .unset] [])) t → Steps p.tables e below (s₁.setTop (entryFrame m #[(.int p1), (.long q2), (.int p3)] maxLocals)) t := fun t k => pre171 t (by
          show Steps p.tables e below (T166.setTop (mkF m 33 #[.val (.int p1), .val (.long q2), .second, .val (.int p3), .val (.ref b102), .val (.long (2305842798760296449 : Int64)), .second, .val (.long (2305842798760296448 : Int64)), .second, .unset, .unset, .val (.int (p3 &&& (3 : Int32))), .unset, .unset] [(.int (1 : Int32)), (.int (p3 &&& (3 : Int32)))])) t
          refine XS.icmpNo X166.here hx rfl (hb hby at_33) rfl (teq hc170).2 ?_
          show Steps p.tables e below (T166.setTop (mkF m 36 #[.val (.int p1), .val (.long q2), .second, .val (.int p3), .val (.ref b102), .val (.long (2305842798760296449 : Int64)), .second, .val (.long (2305842798760296448 : Int64)), .second, .unset, .unset, .val (.int (p3 &&& (3 : Int32))), .unset, .unset] [])) t
          refine XS.lloadN X166.here hx rfl (hb hby at_36) rfl ?_
          show Steps p.tables e below (T166.setTop (mkF m 37 #[.val (.int p1), .val (.long q2), .second, .val (.int p3), .val (.ref b102), .val (.long (2305842798760296449 : Int64)), .second, .val (.long (2305842798760296448 : Int64)), .second, .unset, .unset, .val (.int (p3 &&& (3 : Int32))), .unset, .unset] [(.long q2)])) t
          refine X166.ldc2Long hx hown (mvT hZ (own_i hw 57 rfl)) (g := (mkF m 37 #[.val (.int p1), .val (.long q2), .second, .val (.int p3), .val (.ref b102), .val (.long (2305842798760296449 : Int64)), .second, .val (.long (2305842798760296448 : Int64)), .second, .unset, .unset, .val (.int (p3 &&& (3 : Int32))), .unset, .unset] [(.long q2)])) rfl (hb hby at_37) _ ?_
          show Steps p.tables e below (T166.setTop (mkF m 40 #[.val (.int p1), .val (.long q2), .second, .val (.int p3), .val (.ref b102), .val (.long (2305842798760296449 : Int64)), .second, .val (.long (2305842798760296448 : Int64)), .second, .unset, .unset, .val (.int (p3 &&& (3 : Int32))), .unset, .unset] [(.long (255 : Int64)), (.long q2)])) t
          refine XS.land X166.here hx rfl (hb hby at_40) rfl ?_
          show Steps p.tables e below (T166.setTop (mkF m 41 #[.val (.int p1), .val (.long q2), .second, .val (.int p3), .val (.ref b102), .val (.long (2305842798760296449 : Int64)), .second, .val (.long (2305842798760296448 : Int64)), .second, .unset, .unset, .val (.int (p3 &&& (3 : Int32))), .unset, .unset] [(.long (q2 &&& (255 : Int64)))])) t
          refine XS.lconst X166.here hx rfl (hb hby at_41) ?_
          show Steps p.tables e below (T166.setTop (mkF m 42 #[.val (.int p1), .val (.long q2), .second, .val (.int p3), .val (.ref b102), .val (.long (2305842798760296449 : Int64)), .second, .val (.long (2305842798760296448 : Int64)), .second, .unset, .unset, .val (.int (p3 &&& (3 : Int32))), .unset, .unset] [(.long (1 : Int64)), (.long (q2 &&& (255 : Int64)))])) t
          refine XS.ladd X166.here hx rfl (hb hby at_42) rfl ?_
          show Steps p.tables e below (T166.setTop (mkF m 43 #[.val (.int p1), .val (.long q2), .second, .val (.int p3), .val (.ref b102), .val (.long (2305842798760296449 : Int64)), .second, .val (.long (2305842798760296448 : Int64)), .second, .unset, .unset, .val (.int (p3 &&& (3 : Int32))), .unset, .unset] [(.long ((q2 &&& (255 : Int64)) + (1 : Int64)))])) t
          refine XS.lstore X166.here hx rfl (hb hby at_43) rfl (l' := #[.val (.int p1), .val (.long q2), .second, .val (.int p3), .val (.ref b102), .val (.long (2305842798760296449 : Int64)), .second, .val (.long (2305842798760296448 : Int64)), .second, .val (.long ((q2 &&& (255 : Int64)) + (1 : Int64))), .second, .val (.int (p3 &&& (3 : Int32))), .unset, .unset]) rfl ?_
          show Steps p.tables e below (T166.setTop (mkF m 45 #[.val (.int p1), .val (.long q2), .second, .val (.int p3), .val (.ref b102), .val (.long (2305842798760296449 : Int64)), .second, .val (.long (2305842798760296448 : Int64)), .second, .val (.long ((q2 &&& (255 : Int64)) + (1 : Int64))), .second, .val (.int (p3 &&& (3 : Int32))), .unset, .unset] [])) t
          refine XS.goto X166.here hx rfl (pc0 := 45) (pc' := 93) rfl (hb hby at_45) (by decide) (by decide) ?_
          exact k)
        exact ⟨((q2 &&& (255 : Int64)) + (1 : Int64)), .unset, .unset, (by exact ⟨own_yA q2 (by decide +kernel), Or.inl ⟨rfl, rfl⟩⟩), pre172⟩
      · have pre174 : ∀ t, Steps p.tables e below (T166.setTop (mkF m 51 #[.val (.int p1), .val (.long q2), .second, .val (.int p3), .val (.ref b102), .val (.long (2305842798760296449 : Int64)), .second, .val (.long (2305842798760296448 : Int64)), .second, .unset, .unset, .val (.int (p3 &&& (3 : Int32))), .unset, .unset] [(.int (2 : Int32)), (.int (p3 &&& (3 : Int32)))])) t → Steps p.tables e below (s₁.setTop (entryFrame m #[(.int p1), (.long q2), (.int p3)] maxLocals)) t := fun t k => pre171 t (by
          show Steps p.tables e below (T166.setTop (mkF m 33 #[.val (.int p1), .val (.long q2), .second, .val (.int p3), .val (.ref b102), .val (.long (2305842798760296449 : Int64)), .second, .val (.long (2305842798760296448 : Int64)), .second, .unset, .unset, .val (.int (p3 &&& (3 : Int32))), .unset, .unset] [(.int (1 : Int32)), (.int (p3 &&& (3 : Int32)))])) t
          refine XS.icmpYes X166.here hx rfl (pc0 := 33) (pc' := 48) rfl (hb hby at_33) rfl (feq hc170).2 (by decide) (by decide) ?_
          show Steps p.tables e below (T166.setTop (mkF m 48 #[.val (.int p1), .val (.long q2), .second, .val (.int p3), .val (.ref b102), .val (.long (2305842798760296449 : Int64)), .second, .val (.long (2305842798760296448 : Int64)), .second, .unset, .unset, .val (.int (p3 &&& (3 : Int32))), .unset, .unset] [])) t
          refine XS.iload X166.here hx rfl (hb hby at_48) rfl ?_
          show Steps p.tables e below (T166.setTop (mkF m 50 #[.val (.int p1), .val (.long q2), .second, .val (.int p3), .val (.ref b102), .val (.long (2305842798760296449 : Int64)), .second, .val (.long (2305842798760296448 : Int64)), .second, .unset, .unset, .val (.int (p3 &&& (3 : Int32))), .unset, .unset] [(.int (p3 &&& (3 : Int32)))])) t
          refine XS.iconst X166.here hx rfl (hb hby at_50) ?_
          exact k)
        by_cases hc173 : (p3 &&& (3 : Int32)) = (2 : Int32)
        · have pre175 : ∀ t, Steps p.tables e below (T166.setTop (mkF m 93 #[.val (.int p1), .val (.long q2), .second, .val (.int p3), .val (.ref b102), .val (.long (2305842798760296449 : Int64)), .second, .val (.long (2305842798760296448 : Int64)), .second, .val (.long ((2305842798760296448 : Int64) - (q2 &&& (255 : Int64)))), .second, .val (.int (p3 &&& (3 : Int32))), .unset, .unset] [])) t → Steps p.tables e below (s₁.setTop (entryFrame m #[(.int p1), (.long q2), (.int p3)] maxLocals)) t := fun t k => pre174 t (by
            show Steps p.tables e below (T166.setTop (mkF m 51 #[.val (.int p1), .val (.long q2), .second, .val (.int p3), .val (.ref b102), .val (.long (2305842798760296449 : Int64)), .second, .val (.long (2305842798760296448 : Int64)), .second, .unset, .unset, .val (.int (p3 &&& (3 : Int32))), .unset, .unset] [(.int (2 : Int32)), (.int (p3 &&& (3 : Int32)))])) t
            refine XS.icmpNo X166.here hx rfl (hb hby at_51) rfl (teq hc173).2 ?_
            show Steps p.tables e below (T166.setTop (mkF m 54 #[.val (.int p1), .val (.long q2), .second, .val (.int p3), .val (.ref b102), .val (.long (2305842798760296449 : Int64)), .second, .val (.long (2305842798760296448 : Int64)), .second, .unset, .unset, .val (.int (p3 &&& (3 : Int32))), .unset, .unset] [])) t
            refine XS.lload X166.here hx rfl (hb hby at_54) rfl ?_
            show Steps p.tables e below (T166.setTop (mkF m 56 #[.val (.int p1), .val (.long q2), .second, .val (.int p3), .val (.ref b102), .val (.long (2305842798760296449 : Int64)), .second, .val (.long (2305842798760296448 : Int64)), .second, .unset, .unset, .val (.int (p3 &&& (3 : Int32))), .unset, .unset] [(.long (2305842798760296448 : Int64))])) t
            refine XS.lloadN X166.here hx rfl (hb hby at_56) rfl ?_
            show Steps p.tables e below (T166.setTop (mkF m 57 #[.val (.int p1), .val (.long q2), .second, .val (.int p3), .val (.ref b102), .val (.long (2305842798760296449 : Int64)), .second, .val (.long (2305842798760296448 : Int64)), .second, .unset, .unset, .val (.int (p3 &&& (3 : Int32))), .unset, .unset] [(.long q2), (.long (2305842798760296448 : Int64))])) t
            refine X166.ldc2Long hx hown (mvT hZ (own_i hw 57 rfl)) (g := (mkF m 57 #[.val (.int p1), .val (.long q2), .second, .val (.int p3), .val (.ref b102), .val (.long (2305842798760296449 : Int64)), .second, .val (.long (2305842798760296448 : Int64)), .second, .unset, .unset, .val (.int (p3 &&& (3 : Int32))), .unset, .unset] [(.long q2), (.long (2305842798760296448 : Int64))])) rfl (hb hby at_57) _ ?_
            show Steps p.tables e below (T166.setTop (mkF m 60 #[.val (.int p1), .val (.long q2), .second, .val (.int p3), .val (.ref b102), .val (.long (2305842798760296449 : Int64)), .second, .val (.long (2305842798760296448 : Int64)), .second, .unset, .unset, .val (.int (p3 &&& (3 : Int32))), .unset, .unset] [(.long (255 : Int64)), (.long q2), (.long (2305842798760296448 : Int64))])) t
            refine XS.land X166.here hx rfl (hb hby at_60) rfl ?_
            show Steps p.tables e below (T166.setTop (mkF m 61 #[.val (.int p1), .val (.long q2), .second, .val (.int p3), .val (.ref b102), .val (.long (2305842798760296449 : Int64)), .second, .val (.long (2305842798760296448 : Int64)), .second, .unset, .unset, .val (.int (p3 &&& (3 : Int32))), .unset, .unset] [(.long (q2 &&& (255 : Int64))), (.long (2305842798760296448 : Int64))])) t
            refine XS.lsub X166.here hx rfl (hb hby at_61) rfl ?_
            show Steps p.tables e below (T166.setTop (mkF m 62 #[.val (.int p1), .val (.long q2), .second, .val (.int p3), .val (.ref b102), .val (.long (2305842798760296449 : Int64)), .second, .val (.long (2305842798760296448 : Int64)), .second, .unset, .unset, .val (.int (p3 &&& (3 : Int32))), .unset, .unset] [(.long ((2305842798760296448 : Int64) - (q2 &&& (255 : Int64))))])) t
            refine XS.lstore X166.here hx rfl (hb hby at_62) rfl (l' := #[.val (.int p1), .val (.long q2), .second, .val (.int p3), .val (.ref b102), .val (.long (2305842798760296449 : Int64)), .second, .val (.long (2305842798760296448 : Int64)), .second, .val (.long ((2305842798760296448 : Int64) - (q2 &&& (255 : Int64)))), .second, .val (.int (p3 &&& (3 : Int32))), .unset, .unset]) rfl ?_
            show Steps p.tables e below (T166.setTop (mkF m 64 #[.val (.int p1), .val (.long q2), .second, .val (.int p3), .val (.ref b102), .val (.long (2305842798760296449 : Int64)), .second, .val (.long (2305842798760296448 : Int64)), .second, .val (.long ((2305842798760296448 : Int64) - (q2 &&& (255 : Int64)))), .second, .val (.int (p3 &&& (3 : Int32))), .unset, .unset] [])) t
            refine XS.goto X166.here hx rfl (pc0 := 64) (pc' := 93) rfl (hb hby at_64) (by decide) (by decide) ?_
            exact k)
          exact ⟨((2305842798760296448 : Int64) - (q2 &&& (255 : Int64))), .unset, .unset, (by exact ⟨own_yB (M := (2305842798760296448 : Int64)) q2 (by decide +kernel), Or.inl ⟨rfl, rfl⟩⟩), pre175⟩
        · have pre177 : ∀ t, Steps p.tables e below (T166.setTop (mkF m 77 #[.val (.int p1), .val (.long q2), .second, .val (.int p3), .val (.ref b102), .val (.long (2305842798760296449 : Int64)), .second, .val (.long (2305842798760296448 : Int64)), .second, .unset, .unset, .val (.int (p3 &&& (3 : Int32))), .val (.long (q2 - (q2 / (2305842798760296448 : Int64)) * (2305842798760296448 : Int64))), .second] [(.int (lcmpW (q2 - (q2 / (2305842798760296448 : Int64)) * (2305842798760296448 : Int64)) (0 : Int64)))])) t → Steps p.tables e below (s₁.setTop (entryFrame m #[(.int p1), (.long q2), (.int p3)] maxLocals)) t := fun t k => pre174 t (by
            show Steps p.tables e below (T166.setTop (mkF m 51 #[.val (.int p1), .val (.long q2), .second, .val (.int p3), .val (.ref b102), .val (.long (2305842798760296449 : Int64)), .second, .val (.long (2305842798760296448 : Int64)), .second, .unset, .unset, .val (.int (p3 &&& (3 : Int32))), .unset, .unset] [(.int (2 : Int32)), (.int (p3 &&& (3 : Int32)))])) t
            refine XS.icmpYes X166.here hx rfl (pc0 := 51) (pc' := 67) rfl (hb hby at_51) rfl (feq hc173).2 (by decide) (by decide) ?_
            show Steps p.tables e below (T166.setTop (mkF m 67 #[.val (.int p1), .val (.long q2), .second, .val (.int p3), .val (.ref b102), .val (.long (2305842798760296449 : Int64)), .second, .val (.long (2305842798760296448 : Int64)), .second, .unset, .unset, .val (.int (p3 &&& (3 : Int32))), .unset, .unset] [])) t
            refine XS.lloadN X166.here hx rfl (hb hby at_67) rfl ?_
            show Steps p.tables e below (T166.setTop (mkF m 68 #[.val (.int p1), .val (.long q2), .second, .val (.int p3), .val (.ref b102), .val (.long (2305842798760296449 : Int64)), .second, .val (.long (2305842798760296448 : Int64)), .second, .unset, .unset, .val (.int (p3 &&& (3 : Int32))), .unset, .unset] [(.long q2)])) t
            refine XS.lload X166.here hx rfl (hb hby at_68) rfl ?_
            show Steps p.tables e below (T166.setTop (mkF m 70 #[.val (.int p1), .val (.long q2), .second, .val (.int p3), .val (.ref b102), .val (.long (2305842798760296449 : Int64)), .second, .val (.long (2305842798760296448 : Int64)), .second, .unset, .unset, .val (.int (p3 &&& (3 : Int32))), .unset, .unset] [(.long (2305842798760296448 : Int64)), (.long q2)])) t
            refine XS.lrem X166.here hx rfl (hb hby at_70) rfl (by decide) ?_
            show Steps p.tables e below (T166.setTop (mkF m 71 #[.val (.int p1), .val (.long q2), .second, .val (.int p3), .val (.ref b102), .val (.long (2305842798760296449 : Int64)), .second, .val (.long (2305842798760296448 : Int64)), .second, .unset, .unset, .val (.int (p3 &&& (3 : Int32))), .unset, .unset] [(.long (q2 - (q2 / (2305842798760296448 : Int64)) * (2305842798760296448 : Int64)))])) t
            refine XS.lstore X166.here hx rfl (hb hby at_71) rfl (l' := #[.val (.int p1), .val (.long q2), .second, .val (.int p3), .val (.ref b102), .val (.long (2305842798760296449 : Int64)), .second, .val (.long (2305842798760296448 : Int64)), .second, .unset, .unset, .val (.int (p3 &&& (3 : Int32))), .val (.long (q2 - (q2 / (2305842798760296448 : Int64)) * (2305842798760296448 : Int64))), .second]) rfl ?_
            show Steps p.tables e below (T166.setTop (mkF m 73 #[.val (.int p1), .val (.long q2), .second, .val (.int p3), .val (.ref b102), .val (.long (2305842798760296449 : Int64)), .second, .val (.long (2305842798760296448 : Int64)), .second, .unset, .unset, .val (.int (p3 &&& (3 : Int32))), .val (.long (q2 - (q2 / (2305842798760296448 : Int64)) * (2305842798760296448 : Int64))), .second] [])) t
            refine XS.lload X166.here hx rfl (hb hby at_73) rfl ?_
            show Steps p.tables e below (T166.setTop (mkF m 75 #[.val (.int p1), .val (.long q2), .second, .val (.int p3), .val (.ref b102), .val (.long (2305842798760296449 : Int64)), .second, .val (.long (2305842798760296448 : Int64)), .second, .unset, .unset, .val (.int (p3 &&& (3 : Int32))), .val (.long (q2 - (q2 / (2305842798760296448 : Int64)) * (2305842798760296448 : Int64))), .second] [(.long (q2 - (q2 / (2305842798760296448 : Int64)) * (2305842798760296448 : Int64)))])) t
            refine XS.lconst X166.here hx rfl (hb hby at_75) ?_
            show Steps p.tables e below (T166.setTop (mkF m 76 #[.val (.int p1), .val (.long q2), .second, .val (.int p3), .val (.ref b102), .val (.long (2305842798760296449 : Int64)), .second, .val (.long (2305842798760296448 : Int64)), .second, .unset, .unset, .val (.int (p3 &&& (3 : Int32))), .val (.long (q2 - (q2 / (2305842798760296448 : Int64)) * (2305842798760296448 : Int64))), .second] [(.long (0 : Int64)), (.long (q2 - (q2 / (2305842798760296448 : Int64)) * (2305842798760296448 : Int64)))])) t
            refine XS.lcmp X166.here hx rfl (hb hby at_76) rfl ?_
            exact k)
          by_cases hc176 : (q2 - (q2 / (2305842798760296448 : Int64)) * (2305842798760296448 : Int64)) < (0 : Int64)
          · have pre178 : ∀ t, Steps p.tables e below (T166.setTop (mkF m 93 #[.val (.int p1), .val (.long q2), .second, .val (.int p3), .val (.ref b102), .val (.long (2305842798760296449 : Int64)), .second, .val (.long (2305842798760296448 : Int64)), .second, .val (.long (((q2 - (q2 / (2305842798760296448 : Int64)) * (2305842798760296448 : Int64)) + (2305842798760296448 : Int64)) + (1 : Int64))), .second, .val (.int (p3 &&& (3 : Int32))), .val (.long ((q2 - (q2 / (2305842798760296448 : Int64)) * (2305842798760296448 : Int64)) + (2305842798760296448 : Int64))), .second] [])) t → Steps p.tables e below (s₁.setTop (entryFrame m #[(.int p1), (.long q2), (.int p3)] maxLocals)) t := fun t k => pre177 t (by
              show Steps p.tables e below (T166.setTop (mkF m 77 #[.val (.int p1), .val (.long q2), .second, .val (.int p3), .val (.ref b102), .val (.long (2305842798760296449 : Int64)), .second, .val (.long (2305842798760296448 : Int64)), .second, .unset, .unset, .val (.int (p3 &&& (3 : Int32))), .val (.long (q2 - (q2 / (2305842798760296448 : Int64)) * (2305842798760296448 : Int64))), .second] [(.int (lcmpW (q2 - (q2 / (2305842798760296448 : Int64)) * (2305842798760296448 : Int64)) (0 : Int64)))])) t
              refine XS.ifNo X166.here hx rfl (hb hby at_77) rfl ((if0 _ _).trans (tlt (show (lcmpW (q2 - (q2 / (2305842798760296448 : Int64)) * (2305842798760296448 : Int64)) (0 : Int64)) < (0 : Int32) by rw [lcW]; exact (lc_lt _ _).mpr hc176)).2.1) ?_
              show Steps p.tables e below (T166.setTop (mkF m 80 #[.val (.int p1), .val (.long q2), .second, .val (.int p3), .val (.ref b102), .val (.long (2305842798760296449 : Int64)), .second, .val (.long (2305842798760296448 : Int64)), .second, .unset, .unset, .val (.int (p3 &&& (3 : Int32))), .val (.long (q2 - (q2 / (2305842798760296448 : Int64)) * (2305842798760296448 : Int64))), .second] [])) t
              refine XS.lload X166.here hx rfl (hb hby at_80) rfl ?_
              show Steps p.tables e below (T166.setTop (mkF m 82 #[.val (.int p1), .val (.long q2), .second, .val (.int p3), .val (.ref b102), .val (.long (2305842798760296449 : Int64)), .second, .val (.long (2305842798760296448 : Int64)), .second, .unset, .unset, .val (.int (p3 &&& (3 : Int32))), .val (.long (q2 - (q2 / (2305842798760296448 : Int64)) * (2305842798760296448 : Int64))), .second] [(.long (q2 - (q2 / (2305842798760296448 : Int64)) * (2305842798760296448 : Int64)))])) t
              refine XS.lload X166.here hx rfl (hb hby at_82) rfl ?_
              show Steps p.tables e below (T166.setTop (mkF m 84 #[.val (.int p1), .val (.long q2), .second, .val (.int p3), .val (.ref b102), .val (.long (2305842798760296449 : Int64)), .second, .val (.long (2305842798760296448 : Int64)), .second, .unset, .unset, .val (.int (p3 &&& (3 : Int32))), .val (.long (q2 - (q2 / (2305842798760296448 : Int64)) * (2305842798760296448 : Int64))), .second] [(.long (2305842798760296448 : Int64)), (.long (q2 - (q2 / (2305842798760296448 : Int64)) * (2305842798760296448 : Int64)))])) t
              refine XS.ladd X166.here hx rfl (hb hby at_84) rfl ?_
              show Steps p.tables e below (T166.setTop (mkF m 85 #[.val (.int p1), .val (.long q2), .second, .val (.int p3), .val (.ref b102), .val (.long (2305842798760296449 : Int64)), .second, .val (.long (2305842798760296448 : Int64)), .second, .unset, .unset, .val (.int (p3 &&& (3 : Int32))), .val (.long (q2 - (q2 / (2305842798760296448 : Int64)) * (2305842798760296448 : Int64))), .second] [(.long ((q2 - (q2 / (2305842798760296448 : Int64)) * (2305842798760296448 : Int64)) + (2305842798760296448 : Int64)))])) t
              refine XS.lstore X166.here hx rfl (hb hby at_85) rfl (l' := #[.val (.int p1), .val (.long q2), .second, .val (.int p3), .val (.ref b102), .val (.long (2305842798760296449 : Int64)), .second, .val (.long (2305842798760296448 : Int64)), .second, .unset, .unset, .val (.int (p3 &&& (3 : Int32))), .val (.long ((q2 - (q2 / (2305842798760296448 : Int64)) * (2305842798760296448 : Int64)) + (2305842798760296448 : Int64))), .second]) rfl ?_
              show Steps p.tables e below (T166.setTop (mkF m 87 #[.val (.int p1), .val (.long q2), .second, .val (.int p3), .val (.ref b102), .val (.long (2305842798760296449 : Int64)), .second, .val (.long (2305842798760296448 : Int64)), .second, .unset, .unset, .val (.int (p3 &&& (3 : Int32))), .val (.long ((q2 - (q2 / (2305842798760296448 : Int64)) * (2305842798760296448 : Int64)) + (2305842798760296448 : Int64))), .second] [])) t
              refine XS.lload X166.here hx rfl (hb hby at_87) rfl ?_
              show Steps p.tables e below (T166.setTop (mkF m 89 #[.val (.int p1), .val (.long q2), .second, .val (.int p3), .val (.ref b102), .val (.long (2305842798760296449 : Int64)), .second, .val (.long (2305842798760296448 : Int64)), .second, .unset, .unset, .val (.int (p3 &&& (3 : Int32))), .val (.long ((q2 - (q2 / (2305842798760296448 : Int64)) * (2305842798760296448 : Int64)) + (2305842798760296448 : Int64))), .second] [(.long ((q2 - (q2 / (2305842798760296448 : Int64)) * (2305842798760296448 : Int64)) + (2305842798760296448 : Int64)))])) t
              refine XS.lconst X166.here hx rfl (hb hby at_89) ?_
              show Steps p.tables e below (T166.setTop (mkF m 90 #[.val (.int p1), .val (.long q2), .second, .val (.int p3), .val (.ref b102), .val (.long (2305842798760296449 : Int64)), .second, .val (.long (2305842798760296448 : Int64)), .second, .unset, .unset, .val (.int (p3 &&& (3 : Int32))), .val (.long ((q2 - (q2 / (2305842798760296448 : Int64)) * (2305842798760296448 : Int64)) + (2305842798760296448 : Int64))), .second] [(.long (1 : Int64)), (.long ((q2 - (q2 / (2305842798760296448 : Int64)) * (2305842798760296448 : Int64)) + (2305842798760296448 : Int64)))])) t
              refine XS.ladd X166.here hx rfl (hb hby at_90) rfl ?_
              show Steps p.tables e below (T166.setTop (mkF m 91 #[.val (.int p1), .val (.long q2), .second, .val (.int p3), .val (.ref b102), .val (.long (2305842798760296449 : Int64)), .second, .val (.long (2305842798760296448 : Int64)), .second, .unset, .unset, .val (.int (p3 &&& (3 : Int32))), .val (.long ((q2 - (q2 / (2305842798760296448 : Int64)) * (2305842798760296448 : Int64)) + (2305842798760296448 : Int64))), .second] [(.long (((q2 - (q2 / (2305842798760296448 : Int64)) * (2305842798760296448 : Int64)) + (2305842798760296448 : Int64)) + (1 : Int64)))])) t
              refine XS.lstore X166.here hx rfl (hb hby at_91) rfl (l' := #[.val (.int p1), .val (.long q2), .second, .val (.int p3), .val (.ref b102), .val (.long (2305842798760296449 : Int64)), .second, .val (.long (2305842798760296448 : Int64)), .second, .val (.long (((q2 - (q2 / (2305842798760296448 : Int64)) * (2305842798760296448 : Int64)) + (2305842798760296448 : Int64)) + (1 : Int64))), .second, .val (.int (p3 &&& (3 : Int32))), .val (.long ((q2 - (q2 / (2305842798760296448 : Int64)) * (2305842798760296448 : Int64)) + (2305842798760296448 : Int64))), .second]) rfl ?_
              exact k)
            exact ⟨(((q2 - (q2 / (2305842798760296448 : Int64)) * (2305842798760296448 : Int64)) + (2305842798760296448 : Int64)) + (1 : Int64)), .val (.long ((q2 - (q2 / (2305842798760296448 : Int64)) * (2305842798760296448 : Int64)) + (2305842798760296448 : Int64))), .second, (by exact ⟨own_yC (M := (2305842798760296448 : Int64)) q2 (by decide +kernel) hc176, Or.inr ⟨_, rfl, rfl⟩⟩), pre178⟩
          · have pre179 : ∀ t, Steps p.tables e below (T166.setTop (mkF m 93 #[.val (.int p1), .val (.long q2), .second, .val (.int p3), .val (.ref b102), .val (.long (2305842798760296449 : Int64)), .second, .val (.long (2305842798760296448 : Int64)), .second, .val (.long ((q2 - (q2 / (2305842798760296448 : Int64)) * (2305842798760296448 : Int64)) + (1 : Int64))), .second, .val (.int (p3 &&& (3 : Int32))), .val (.long (q2 - (q2 / (2305842798760296448 : Int64)) * (2305842798760296448 : Int64))), .second] [])) t → Steps p.tables e below (s₁.setTop (entryFrame m #[(.int p1), (.long q2), (.int p3)] maxLocals)) t := fun t k => pre177 t (by
              show Steps p.tables e below (T166.setTop (mkF m 77 #[.val (.int p1), .val (.long q2), .second, .val (.int p3), .val (.ref b102), .val (.long (2305842798760296449 : Int64)), .second, .val (.long (2305842798760296448 : Int64)), .second, .unset, .unset, .val (.int (p3 &&& (3 : Int32))), .val (.long (q2 - (q2 / (2305842798760296448 : Int64)) * (2305842798760296448 : Int64))), .second] [(.int (lcmpW (q2 - (q2 / (2305842798760296448 : Int64)) * (2305842798760296448 : Int64)) (0 : Int64)))])) t
              refine XS.ifYes X166.here hx rfl (pc0 := 77) (pc' := 87) rfl (hb hby at_77) rfl ((if0 _ _).trans (flt (show ¬ ((lcmpW (q2 - (q2 / (2305842798760296448 : Int64)) * (2305842798760296448 : Int64)) (0 : Int64)) < (0 : Int32)) by rw [lcW]; exact fun q => hc176 ((lc_lt _ _).mp q))).2.1) (by decide) (by decide) ?_
              show Steps p.tables e below (T166.setTop (mkF m 87 #[.val (.int p1), .val (.long q2), .second, .val (.int p3), .val (.ref b102), .val (.long (2305842798760296449 : Int64)), .second, .val (.long (2305842798760296448 : Int64)), .second, .unset, .unset, .val (.int (p3 &&& (3 : Int32))), .val (.long (q2 - (q2 / (2305842798760296448 : Int64)) * (2305842798760296448 : Int64))), .second] [])) t
              refine XS.lload X166.here hx rfl (hb hby at_87) rfl ?_
              show Steps p.tables e below (T166.setTop (mkF m 89 #[.val (.int p1), .val (.long q2), .second, .val (.int p3), .val (.ref b102), .val (.long (2305842798760296449 : Int64)), .second, .val (.long (2305842798760296448 : Int64)), .second, .unset, .unset, .val (.int (p3 &&& (3 : Int32))), .val (.long (q2 - (q2 / (2305842798760296448 : Int64)) * (2305842798760296448 : Int64))), .second] [(.long (q2 - (q2 / (2305842798760296448 : Int64)) * (2305842798760296448 : Int64)))])) t
              refine XS.lconst X166.here hx rfl (hb hby at_89) ?_
              show Steps p.tables e below (T166.setTop (mkF m 90 #[.val (.int p1), .val (.long q2), .second, .val (.int p3), .val (.ref b102), .val (.long (2305842798760296449 : Int64)), .second, .val (.long (2305842798760296448 : Int64)), .second, .unset, .unset, .val (.int (p3 &&& (3 : Int32))), .val (.long (q2 - (q2 / (2305842798760296448 : Int64)) * (2305842798760296448 : Int64))), .second] [(.long (1 : Int64)), (.long (q2 - (q2 / (2305842798760296448 : Int64)) * (2305842798760296448 : Int64)))])) t
              refine XS.ladd X166.here hx rfl (hb hby at_90) rfl ?_
              show Steps p.tables e below (T166.setTop (mkF m 91 #[.val (.int p1), .val (.long q2), .second, .val (.int p3), .val (.ref b102), .val (.long (2305842798760296449 : Int64)), .second, .val (.long (2305842798760296448 : Int64)), .second, .unset, .unset, .val (.int (p3 &&& (3 : Int32))), .val (.long (q2 - (q2 / (2305842798760296448 : Int64)) * (2305842798760296448 : Int64))), .second] [(.long ((q2 - (q2 / (2305842798760296448 : Int64)) * (2305842798760296448 : Int64)) + (1 : Int64)))])) t
              refine XS.lstore X166.here hx rfl (hb hby at_91) rfl (l' := #[.val (.int p1), .val (.long q2), .second, .val (.int p3), .val (.ref b102), .val (.long (2305842798760296449 : Int64)), .second, .val (.long (2305842798760296448 : Int64)), .second, .val (.long ((q2 - (q2 / (2305842798760296448 : Int64)) * (2305842798760296448 : Int64)) + (1 : Int64))), .second, .val (.int (p3 &&& (3 : Int32))), .val (.long (q2 - (q2 / (2305842798760296448 : Int64)) * (2305842798760296448 : Int64))), .second]) rfl ?_
              exact k)
            exact ⟨((q2 - (q2 / (2305842798760296448 : Int64)) * (2305842798760296448 : Int64)) + (1 : Int64)), .val (.long (q2 - (q2 / (2305842798760296448 : Int64)) * (2305842798760296448 : Int64))), .second, (by exact ⟨own_yD (M := (2305842798760296448 : Int64)) q2 (by decide +kernel) hc176, Or.inr ⟨_, rfl, rfl⟩⟩), pre179⟩
    obtain ⟨cq184, kq184, q184a, q184b, q184c⟩ := isOf hZ e166 f159
    obtain ⟨_, _, ⟨T184, L184, k184, n184⟩, -, X184, ⟨Lc184, hQ184, l184, y184, z184⟩, st184⟩ := X166.virtualBack hx (y := (⟨"com/example/libsld/libsld/PrimeField", "invert", "(J)J"⟩ : MethodName)) (z := (⟨"com/example/libsld/libsld/PrimeField", "invert", "(J)J"⟩ : MethodName)) hown (mvT hZ (own_i hw 58 rfl)) (mvT hZ (own_i hw 59 rfl)) (notFace_of_selects (args := #[]) (mvT hZ (own_i hw 61 rfl))) (mvT hZ (own_i hw 61 rfl)) (mvT hZ (own_i hw 60 rfl)) (by decide) (backOf (W := 0) (rmInv l Z a0 hw [] b102 v180 (2305842798760296449 : Int64) T158.heap n0 f163 f160 (by decide +kernel) (by decide +kernel) hP183.1.1 hP183.1.2 (own_cp1 hP183.1.1 hP183.1.2)) hZ (own_i hw 62 rfl) (own_i hw 2 rfl) (by decide) (by decide)) q184a q184c (g := (mkF m 97 #[.val (.int p1), .val (.long q2), .second, .val (.int p3), .val (.ref b102), .val (.long (2305842798760296449 : Int64)), .second, .val (.long (2305842798760296448 : Int64)), .second, .val (.long v180), .second, .val (.int (p3 &&& (3 : Int32))), v181, v182] [(.long v180), (.ref b102)])) rfl (by rw [hml]; rfl) (Steps.refl _) (argsL := [(.long v180)]) (rest := []) (lenOf pd_1 rfl) rfl (by show 2 * 0 + _ ≤ _; exact Nat.le_of_eq rfl) (hb hby at_97) (fun _ _ => ⟨rfl, e166, (by decide : 2 + 0 ≤ _), (by decide : 38 + 0 ≤ _)⟩)
    dsimp only [Pt.U, Pt.locs, Pt.cells, Pt.slots] at X184 l184 y184 z184 st184 hQ184
    subst l184 y184 z184
    obtain ⟨x185, rfl, N184q, K184, f186⟩ := hQ184
    have N184 := Fr.app N158 N184q
    have f187 := Nat.le_trans f163 K184.1
    have f188 := f164.keep K184 all0
    have f189 := f165.trans K184 all0
    have f190 := f159.keep K184
    have f191 := f160.keep K184 nin0
    have f192 := f161.keep K184 nin0
    have f193 := f162.keep K184 nin0
    have hd194 : ¬ (x185 < (1 : Int64)) := own_lawA f186
    have hd195 : ¬ ((2305842798760296448 : Int64) < x185) := own_lawB (by decide +kernel) f186
    obtain ⟨cq196, kq196, q196a, q196b, q196c⟩ := isOf hZ rfl f190
    obtain ⟨_, _, ⟨T196, L196, k196, n196⟩, -, X196, ⟨Lc196, hQ196, l196, y196, z196⟩, st196⟩ := X184.virtualBack hx (y := (⟨"com/example/libsld/libsld/PrimeField", "multiply", "(JJ)J"⟩ : MethodName)) (z := (⟨"com/example/libsld/libsld/PrimeField", "multiply", "(JJ)J"⟩ : MethodName)) hown (mvT hZ (own_i hw 63 rfl)) (mvT hZ (own_i hw 38 rfl)) (notFace_of_selects (args := #[]) (mvT hZ (own_i hw 40 rfl))) (mvT hZ (own_i hw 40 rfl)) (mvT hZ (own_i hw 39 rfl)) (by decide) (backOf (W := 0) (rmMul l Z a0 hw [] b102 v180 x185 (2305842798760296449 : Int64) (-2305842798760296447 : Int64) (258685948956327488 : Int64) T184.heap n0 f187 f190 f191 f192 f193) hZ (own_i hw 41 rfl) (own_i hw 2 rfl) (by decide) (by decide)) q196a q196c (g := (mkF m 125 #[.val (.int p1), .val (.long q2), .second, .val (.int p3), .val (.ref b102), .val (.long (2305842798760296449 : Int64)), .second, .val (.long (2305842798760296448 : Int64)), .second, .val (.long v180), .second, .val (.int (p3 &&& (3 : Int32))), .val (.long x185), .second] [(.long x185), (.long v180), (.ref b102)])) rfl (by rw [hml]; rfl) (Steps.refl _) (argsL := [(.long v180), (.long x185)]) (rest := []) (lenOf pd_0 rfl) rfl (by show 2 * 0 + _ ≤ _; exact Nat.le_of_eq rfl) (hb hby at_125) (fun _ _ => ⟨rfl, rfl, (by decide : 2 + 0 ≤ _), (by decide : 38 + 0 ≤ _)⟩)
    dsimp only [Pt.U, Pt.locs, Pt.cells, Pt.slots] at X196 l196 y196 z196 st196 hQ196
    subst l196 y196 z196
    obtain ⟨rfl, N196q, e196⟩ := hQ196
    have N196 := Fr.app N184 N196q
    have hd197 : (own_mul v180 x185 (2305842798760296449 : Int64) (-2305842798760296447 : Int64) (258685948956327488 : Int64)) = (1 : Int64) := own_lawC1 hP183.1 f186
    have pre198 : ∀ t, Steps p.tables e below (T196.setTop (mkF m 138 #[.val (.int p1), .val (.long q2), .second, .val (.int p3), .val (.ref b102), .val (.long (2305842798760296449 : Int64)), .second, .val (.long (2305842798760296448 : Int64)), .second, .val (.long v180), .second, .val (.int (p3 &&& (3 : Int32))), .val (.long x185), .second] [(.int (1 : Int32))])) t → Steps p.tables e below (s₁.setTop (entryFrame m #[(.int p1), (.long q2), (.int p3)] maxLocals)) t := fun t k => pre183 t (by
      show Steps p.tables e below (T166.setTop (mkF m 93 #[.val (.int p1), .val (.long q2), .second, .val (.int p3), .val (.ref b102), .val (.long (2305842798760296449 : Int64)), .second, .val (.long (2305842798760296448 : Int64)), .second, .val (.long v180), .second, .val (.int (p3 &&& (3 : Int32))), v181, v182] [])) t
      refine XS.aload X166.here hx rfl (hb hby at_93) rfl rfl ?_
      show Steps p.tables e below (T166.setTop (mkF m 95 #[.val (.int p1), .val (.long q2), .second, .val (.int p3), .val (.ref b102), .val (.long (2305842798760296449 : Int64)), .second, .val (.long (2305842798760296448 : Int64)), .second, .val (.long v180), .second, .val (.int (p3 &&& (3 : Int32))), v181, v182] [(.ref b102)])) t
      refine XS.lload X166.here hx rfl (hb hby at_95) rfl ?_
      show Steps p.tables e below (T166.setTop (mkF m 97 #[.val (.int p1), .val (.long q2), .second, .val (.int p3), .val (.ref b102), .val (.long (2305842798760296449 : Int64)), .second, .val (.long (2305842798760296448 : Int64)), .second, .val (.long v180), .second, .val (.int (p3 &&& (3 : Int32))), v181, v182] [(.long v180), (.ref b102)])) t
      refine st184.trans ?_
      show Steps p.tables e below (T184.setTop (mkF m 100 #[.val (.int p1), .val (.long q2), .second, .val (.int p3), .val (.ref b102), .val (.long (2305842798760296449 : Int64)), .second, .val (.long (2305842798760296448 : Int64)), .second, .val (.long v180), .second, .val (.int (p3 &&& (3 : Int32))), v181, v182] [(.long x185)])) t
      refine XS.lstore X184.here hx rfl (hb hby at_100) rfl (l' := #[.val (.int p1), .val (.long q2), .second, .val (.int p3), .val (.ref b102), .val (.long (2305842798760296449 : Int64)), .second, .val (.long (2305842798760296448 : Int64)), .second, .val (.long v180), .second, .val (.int (p3 &&& (3 : Int32))), .val (.long x185), .second]) (own_sto hP183.2) ?_
      show Steps p.tables e below (T184.setTop (mkF m 102 #[.val (.int p1), .val (.long q2), .second, .val (.int p3), .val (.ref b102), .val (.long (2305842798760296449 : Int64)), .second, .val (.long (2305842798760296448 : Int64)), .second, .val (.long v180), .second, .val (.int (p3 &&& (3 : Int32))), .val (.long x185), .second] [])) t
      refine XS.lload X184.here hx rfl (hb hby at_102) rfl ?_
      show Steps p.tables e below (T184.setTop (mkF m 104 #[.val (.int p1), .val (.long q2), .second, .val (.int p3), .val (.ref b102), .val (.long (2305842798760296449 : Int64)), .second, .val (.long (2305842798760296448 : Int64)), .second, .val (.long v180), .second, .val (.int (p3 &&& (3 : Int32))), .val (.long x185), .second] [(.long x185)])) t
      refine XS.lconst X184.here hx rfl (hb hby at_104) ?_
      show Steps p.tables e below (T184.setTop (mkF m 105 #[.val (.int p1), .val (.long q2), .second, .val (.int p3), .val (.ref b102), .val (.long (2305842798760296449 : Int64)), .second, .val (.long (2305842798760296448 : Int64)), .second, .val (.long v180), .second, .val (.int (p3 &&& (3 : Int32))), .val (.long x185), .second] [(.long (1 : Int64)), (.long x185)])) t
      refine XS.lcmp X184.here hx rfl (hb hby at_105) rfl ?_
      show Steps p.tables e below (T184.setTop (mkF m 106 #[.val (.int p1), .val (.long q2), .second, .val (.int p3), .val (.ref b102), .val (.long (2305842798760296449 : Int64)), .second, .val (.long (2305842798760296448 : Int64)), .second, .val (.long v180), .second, .val (.int (p3 &&& (3 : Int32))), .val (.long x185), .second] [(.int (lcmpW x185 (1 : Int64)))])) t
      refine XS.ifNo X184.here hx rfl (hb hby at_106) rfl ((if0 _ _).trans (flt (show ¬ ((lcmpW x185 (1 : Int64)) < (0 : Int32)) by rw [lcW]; exact fun q => hd194 ((lc_lt _ _).mp q))).1) ?_
      show Steps p.tables e below (T184.setTop (mkF m 109 #[.val (.int p1), .val (.long q2), .second, .val (.int p3), .val (.ref b102), .val (.long (2305842798760296449 : Int64)), .second, .val (.long (2305842798760296448 : Int64)), .second, .val (.long v180), .second, .val (.int (p3 &&& (3 : Int32))), .val (.long x185), .second] [])) t
      refine XS.lload X184.here hx rfl (hb hby at_109) rfl ?_
      show Steps p.tables e below (T184.setTop (mkF m 111 #[.val (.int p1), .val (.long q2), .second, .val (.int p3), .val (.ref b102), .val (.long (2305842798760296449 : Int64)), .second, .val (.long (2305842798760296448 : Int64)), .second, .val (.long v180), .second, .val (.int (p3 &&& (3 : Int32))), .val (.long x185), .second] [(.long x185)])) t
      refine XS.lload X184.here hx rfl (hb hby at_111) rfl ?_
      show Steps p.tables e below (T184.setTop (mkF m 113 #[.val (.int p1), .val (.long q2), .second, .val (.int p3), .val (.ref b102), .val (.long (2305842798760296449 : Int64)), .second, .val (.long (2305842798760296448 : Int64)), .second, .val (.long v180), .second, .val (.int (p3 &&& (3 : Int32))), .val (.long x185), .second] [(.long (2305842798760296448 : Int64)), (.long x185)])) t
      refine XS.lcmp X184.here hx rfl (hb hby at_113) rfl ?_
      show Steps p.tables e below (T184.setTop (mkF m 114 #[.val (.int p1), .val (.long q2), .second, .val (.int p3), .val (.ref b102), .val (.long (2305842798760296449 : Int64)), .second, .val (.long (2305842798760296448 : Int64)), .second, .val (.long v180), .second, .val (.int (p3 &&& (3 : Int32))), .val (.long x185), .second] [(.int (lcmpW x185 (2305842798760296448 : Int64)))])) t
      refine XS.ifYes X184.here hx rfl (pc0 := 114) (pc' := 119) rfl (hb hby at_114) rfl ((if0 _ _).trans (flt (show ¬ ((0 : Int32) < (lcmpW x185 (2305842798760296448 : Int64))) by rw [lcW]; exact fun q => hd195 ((lc_gt _ _).mp q))).2.2.2) (by decide) (by decide) ?_
      show Steps p.tables e below (T184.setTop (mkF m 119 #[.val (.int p1), .val (.long q2), .second, .val (.int p3), .val (.ref b102), .val (.long (2305842798760296449 : Int64)), .second, .val (.long (2305842798760296448 : Int64)), .second, .val (.long v180), .second, .val (.int (p3 &&& (3 : Int32))), .val (.long x185), .second] [])) t
      refine XS.aload X184.here hx rfl (hb hby at_119) rfl rfl ?_
      show Steps p.tables e below (T184.setTop (mkF m 121 #[.val (.int p1), .val (.long q2), .second, .val (.int p3), .val (.ref b102), .val (.long (2305842798760296449 : Int64)), .second, .val (.long (2305842798760296448 : Int64)), .second, .val (.long v180), .second, .val (.int (p3 &&& (3 : Int32))), .val (.long x185), .second] [(.ref b102)])) t
      refine XS.lload X184.here hx rfl (hb hby at_121) rfl ?_
      show Steps p.tables e below (T184.setTop (mkF m 123 #[.val (.int p1), .val (.long q2), .second, .val (.int p3), .val (.ref b102), .val (.long (2305842798760296449 : Int64)), .second, .val (.long (2305842798760296448 : Int64)), .second, .val (.long v180), .second, .val (.int (p3 &&& (3 : Int32))), .val (.long x185), .second] [(.long v180), (.ref b102)])) t
      refine XS.lload X184.here hx rfl (hb hby at_123) rfl ?_
      show Steps p.tables e below (T184.setTop (mkF m 125 #[.val (.int p1), .val (.long q2), .second, .val (.int p3), .val (.ref b102), .val (.long (2305842798760296449 : Int64)), .second, .val (.long (2305842798760296448 : Int64)), .second, .val (.long v180), .second, .val (.int (p3 &&& (3 : Int32))), .val (.long x185), .second] [(.long x185), (.long v180), (.ref b102)])) t
      refine st196.trans ?_
      show Steps p.tables e below (T196.setTop (mkF m 128 #[.val (.int p1), .val (.long q2), .second, .val (.int p3), .val (.ref b102), .val (.long (2305842798760296449 : Int64)), .second, .val (.long (2305842798760296448 : Int64)), .second, .val (.long v180), .second, .val (.int (p3 &&& (3 : Int32))), .val (.long x185), .second] [(.long (own_mul v180 x185 (2305842798760296449 : Int64) (-2305842798760296447 : Int64) (258685948956327488 : Int64)))])) t
      refine XS.lconst X196.here hx rfl (hb hby at_128) ?_
      show Steps p.tables e below (T196.setTop (mkF m 129 #[.val (.int p1), .val (.long q2), .second, .val (.int p3), .val (.ref b102), .val (.long (2305842798760296449 : Int64)), .second, .val (.long (2305842798760296448 : Int64)), .second, .val (.long v180), .second, .val (.int (p3 &&& (3 : Int32))), .val (.long x185), .second] [(.long (1 : Int64)), (.long (own_mul v180 x185 (2305842798760296449 : Int64) (-2305842798760296447 : Int64) (258685948956327488 : Int64)))])) t
      refine XS.lcmp X196.here hx rfl (hb hby at_129) rfl ?_
      show Steps p.tables e below (T196.setTop (mkF m 130 #[.val (.int p1), .val (.long q2), .second, .val (.int p3), .val (.ref b102), .val (.long (2305842798760296449 : Int64)), .second, .val (.long (2305842798760296448 : Int64)), .second, .val (.long v180), .second, .val (.int (p3 &&& (3 : Int32))), .val (.long x185), .second] [(.int (lcmpW (own_mul v180 x185 (2305842798760296449 : Int64) (-2305842798760296447 : Int64) (258685948956327488 : Int64)) (1 : Int64)))])) t
      refine XS.ifNo X196.here hx rfl (hb hby at_130) rfl ((if0 _ _).trans (teq (show (lcmpW (own_mul v180 x185 (2305842798760296449 : Int64) (-2305842798760296447 : Int64) (258685948956327488 : Int64)) (1 : Int64)) = (0 : Int32) by rw [lcW]; exact (lc_eq _ _).mpr hd197)).2) ?_
      show Steps p.tables e below (T196.setTop (mkF m 133 #[.val (.int p1), .val (.long q2), .second, .val (.int p3), .val (.ref b102), .val (.long (2305842798760296449 : Int64)), .second, .val (.long (2305842798760296448 : Int64)), .second, .val (.long v180), .second, .val (.int (p3 &&& (3 : Int32))), .val (.long x185), .second] [])) t
      refine XS.iconst X196.here hx rfl (hb hby at_133) ?_
      show Steps p.tables e below (T196.setTop (mkF m 134 #[.val (.int p1), .val (.long q2), .second, .val (.int p3), .val (.ref b102), .val (.long (2305842798760296449 : Int64)), .second, .val (.long (2305842798760296448 : Int64)), .second, .val (.long v180), .second, .val (.int (p3 &&& (3 : Int32))), .val (.long x185), .second] [(.int (1 : Int32))])) t
      refine XS.goto X196.here hx rfl (pc0 := 134) (pc' := 138) rfl (hb hby at_134) (by decide) (by decide) ?_
      exact k)
    obtain ⟨fs, hr, hrun, hended, hW, hsame⟩ := X196.leave (v := some (.int (1 : Int32))) (fun h => by rw [Bd.returns] at h; cases h)
    refine ⟨_, _, pre198 _ ?_, hrun, hended, _, _, rfl, ?_, ⟨_, rfl⟩, hW, hsame.mono (by decide) (by decide)⟩
    · exact retN X196 hx (t := .boolean) Bd.returns (by simp) (hb hby at_138) hr
    · show Q0 Z p1 q2 p3 wP kP wN kN h0 n0 _ T196.heap _
      rw [e196]
      exact ⟨rfl, N196⟩
  · have pre199 : ∀ t, Steps p.tables e below (T102.setTop (mkF m 7 #[.val (.int p1), .val (.long q2), .second, .val (.int p3), .unset, .unset, .unset, .unset, .unset, .unset, .unset, .unset, .unset, .unset] [(.int (2 : Int32)), (.ref b102), (.ref b102)])) t → Steps p.tables e below (s₁.setTop (entryFrame m #[(.int p1), (.long q2), (.int p3)] maxLocals)) t := fun t k => pre113 t (by rw [show (p1 &&& (3 : Int32)) = (2 : Int32) from hs114]; exact k)
    obtain ⟨_, _, ⟨T200, L200, k200, n200⟩, -, X200, ⟨Lc200, hQ200, l200, y200, z200⟩, st200⟩ := X102.specialBack hx (y := (⟨"com/example/libsld/libsld/PrimeField", "<init>", "(I)V"⟩ : MethodName)) rfl hown (mvT hZ (own_i hw 3 rfl)) (mvT hZ (own_i hw 4 rfl)) (mvT hZ (own_i hw 5 rfl)) (by decide) (backOf (W := 1) (rmI2 l Z a0 hw [] b102 wP kP wN kN h102 n0 f110 SP AP SN AN f111 f105 f106 f107 f108 f109 A102 ga103) hZ (own_i hw 5 rfl) (own_i hw 2 rfl) (by decide) (by decide)) (g := (mkF m 7 #[.val (.int p1), .val (.long q2), .second, .val (.int p3), .unset, .unset, .unset, .unset, .unset, .unset, .unset, .unset, .unset, .unset] [(.int (2 : Int32)), (.ref b102), (.ref b102)])) rfl (by rw [hml]; rfl) (Steps.refl _) (a := b102) (argsL := [(.int (2 : Int32))]) (rest := [(.ref b102)]) (lenOf pd_2 rfl) rfl (by show 2 * 0 + _ ≤ _; exact Nat.le_of_eq rfl) (hb hby at_7) (fun _ _ => ⟨rfl, e102, (by decide : 1 + 1 ≤ _), (by decide : 5 + 33 ≤ _)⟩)
    dsimp only [Pt.U, Pt.locs, Pt.cells, Pt.slots] at X200 l200 y200 z200 st200 hQ200
    subst l200 y200 z200
    obtain ⟨rfl, N200q, K200, f201, f202, f203, f204⟩ := hQ200
    have N200 := Fr.app N0 N200q
    have f205 := Nat.le_trans f110 K200.1
    have f206 := f111.keep K200 (allS ga103 all0)
    have f207 := f112.trans K200 (allS (Or.inr sz104) all0)
    obtain ⟨T208, X208, e208, st208⟩ := getF X200 hx hZ hown (host := "") (Or.inl (own_i hw 56 rfl)) Via.refl rfl f202 (g := (mkF m 14 #[.val (.int p1), .val (.long q2), .second, .val (.int p3), .val (.ref b102), .unset, .unset, .unset, .unset, .unset, .unset, .unset, .unset, .unset] [(.ref b102)])) rfl rfl (hb hby at_14)
    have pre209 : ∀ t, Steps p.tables e below (T208.setTop (mkF m 23 #[.val (.int p1), .val (.long q2), .second, .val (.int p3), .val (.ref b102), .val (.long (2305842644141473793 : Int64)), .second, .unset, .unset, .unset, .unset, .unset, .unset, .unset] [(.long ((2305842644141473793 : Int64) - (1 : Int64)))])) t → Steps p.tables e below (s₁.setTop (entryFrame m #[(.int p1), (.long q2), (.int p3)] maxLocals)) t := fun t k => pre199 t (by
      show Steps p.tables e below (T102.setTop (mkF m 7 #[.val (.int p1), .val (.long q2), .second, .val (.int p3), .unset, .unset, .unset, .unset, .unset, .unset, .unset, .unset, .unset, .unset] [(.int (2 : Int32)), (.ref b102), (.ref b102)])) t
      refine st200.trans ?_
      show Steps p.tables e below (T200.setTop (mkF m 10 #[.val (.int p1), .val (.long q2), .second, .val (.int p3), .unset, .unset, .unset, .unset, .unset, .unset, .unset, .unset, .unset, .unset] [(.ref b102)])) t
      refine XS.astore X200.here hx rfl (hb hby at_10) rfl rfl (l' := #[.val (.int p1), .val (.long q2), .second, .val (.int p3), .val (.ref b102), .unset, .unset, .unset, .unset, .unset, .unset, .unset, .unset, .unset]) rfl ?_
      show Steps p.tables e below (T200.setTop (mkF m 12 #[.val (.int p1), .val (.long q2), .second, .val (.int p3), .val (.ref b102), .unset, .unset, .unset, .unset, .unset, .unset, .unset, .unset, .unset] [])) t
      refine XS.aload X200.here hx rfl (hb hby at_12) rfl rfl ?_
      show Steps p.tables e below (T200.setTop (mkF m 14 #[.val (.int p1), .val (.long q2), .second, .val (.int p3), .val (.ref b102), .unset, .unset, .unset, .unset, .unset, .unset, .unset, .unset, .unset] [(.ref b102)])) t
      refine st208 _ ?_
      show Steps p.tables e below (T208.setTop (mkF m 17 #[.val (.int p1), .val (.long q2), .second, .val (.int p3), .val (.ref b102), .unset, .unset, .unset, .unset, .unset, .unset, .unset, .unset, .unset] [(.long (2305842644141473793 : Int64))])) t
      refine XS.lstore X208.here hx rfl (hb hby at_17) rfl (l' := #[.val (.int p1), .val (.long q2), .second, .val (.int p3), .val (.ref b102), .val (.long (2305842644141473793 : Int64)), .second, .unset, .unset, .unset, .unset, .unset, .unset, .unset]) rfl ?_
      show Steps p.tables e below (T208.setTop (mkF m 19 #[.val (.int p1), .val (.long q2), .second, .val (.int p3), .val (.ref b102), .val (.long (2305842644141473793 : Int64)), .second, .unset, .unset, .unset, .unset, .unset, .unset, .unset] [])) t
      refine XS.lload X208.here hx rfl (hb hby at_19) rfl ?_
      show Steps p.tables e below (T208.setTop (mkF m 21 #[.val (.int p1), .val (.long q2), .second, .val (.int p3), .val (.ref b102), .val (.long (2305842644141473793 : Int64)), .second, .unset, .unset, .unset, .unset, .unset, .unset, .unset] [(.long (2305842644141473793 : Int64))])) t
      refine XS.lconst X208.here hx rfl (hb hby at_21) ?_
      show Steps p.tables e below (T208.setTop (mkF m 22 #[.val (.int p1), .val (.long q2), .second, .val (.int p3), .val (.ref b102), .val (.long (2305842644141473793 : Int64)), .second, .unset, .unset, .unset, .unset, .unset, .unset, .unset] [(.long (1 : Int64)), (.long (2305842644141473793 : Int64))])) t
      refine XS.lsub X208.here hx rfl (hb hby at_22) rfl ?_
      exact k)
    have pre210 : ∀ t, Steps p.tables e below (T208.setTop (mkF m 23 #[.val (.int p1), .val (.long q2), .second, .val (.int p3), .val (.ref b102), .val (.long (2305842644141473793 : Int64)), .second, .unset, .unset, .unset, .unset, .unset, .unset, .unset] [(.long (2305842644141473792 : Int64))])) t → Steps p.tables e below (s₁.setTop (entryFrame m #[(.int p1), (.long q2), (.int p3)] maxLocals)) t := fun t k => pre209 t (by rw [show ((2305842644141473793 : Int64) - (1 : Int64)) = (2305842644141473792 : Int64) from (by decide +kernel)]; exact k)
    have pre211 : ∀ t, Steps p.tables e below (T208.setTop (mkF m 30 #[.val (.int p1), .val (.long q2), .second, .val (.int p3), .val (.ref b102), .val (.long (2305842644141473793 : Int64)), .second, .val (.long (2305842644141473792 : Int64)), .second, .unset, .unset, .val (.int (p3 &&& (3 : Int32))), .unset, .unset] [])) t → Steps p.tables e below (s₁.setTop (entryFrame m #[(.int p1), (.long q2), (.int p3)] maxLocals)) t := fun t k => pre210 t (by
      show Steps p.tables e below (T208.setTop (mkF m 23 #[.val (.int p1), .val (.long q2), .second, .val (.int p3), .val (.ref b102), .val (.long (2305842644141473793 : Int64)), .second, .unset, .unset, .unset, .unset, .unset, .unset, .unset] [(.long (2305842644141473792 : Int64))])) t
      refine XS.lstore X208.here hx rfl (hb hby at_23) rfl (l' := #[.val (.int p1), .val (.long q2), .second, .val (.int p3), .val (.ref b102), .val (.long (2305842644141473793 : Int64)), .second, .val (.long (2305842644141473792 : Int64)), .second, .unset, .unset, .unset, .unset, .unset]) rfl ?_
      show Steps p.tables e below (T208.setTop (mkF m 25 #[.val (.int p1), .val (.long q2), .second, .val (.int p3), .val (.ref b102), .val (.long (2305842644141473793 : Int64)), .second, .val (.long (2305842644141473792 : Int64)), .second, .unset, .unset, .unset, .unset, .unset] [])) t
      refine XS.iloadN X208.here hx rfl (hb hby at_25) rfl ?_
      show Steps p.tables e below (T208.setTop (mkF m 26 #[.val (.int p1), .val (.long q2), .second, .val (.int p3), .val (.ref b102), .val (.long (2305842644141473793 : Int64)), .second, .val (.long (2305842644141473792 : Int64)), .second, .unset, .unset, .unset, .unset, .unset] [(.int p3)])) t
      refine XS.iconst X208.here hx rfl (hb hby at_26) ?_
      show Steps p.tables e below (T208.setTop (mkF m 27 #[.val (.int p1), .val (.long q2), .second, .val (.int p3), .val (.ref b102), .val (.long (2305842644141473793 : Int64)), .second, .val (.long (2305842644141473792 : Int64)), .second, .unset, .unset, .unset, .unset, .unset] [(.int (3 : Int32)), (.int p3)])) t
      refine XS.iand X208.here hx rfl (hb hby at_27) rfl ?_
      show Steps p.tables e below (T208.setTop (mkF m 28 #[.val (.int p1), .val (.long q2), .second, .val (.int p3), .val (.ref b102), .val (.long (2305842644141473793 : Int64)), .second, .val (.long (2305842644141473792 : Int64)), .second, .unset, .unset, .unset, .unset, .unset] [(.int (p3 &&& (3 : Int32)))])) t
      refine XS.istore X208.here hx rfl (hb hby at_28) rfl (l' := #[.val (.int p1), .val (.long q2), .second, .val (.int p3), .val (.ref b102), .val (.long (2305842644141473793 : Int64)), .second, .val (.long (2305842644141473792 : Int64)), .second, .unset, .unset, .val (.int (p3 &&& (3 : Int32))), .unset, .unset]) rfl ?_
      exact k)
    obtain ⟨v222, v223, v224, hP225, pre225⟩ : ∃ (v222 : Int64) (v223 : Slot) (v224 : Slot), ((0 < v222.toInt ∧ v222.toInt < (2305842644141473793 : Int64).toInt) ∧ ((v223 = .unset ∧ v224 = .unset) ∨ ∃ z, v223 = .val (.long z) ∧ v224 = .second)) ∧ ∀ t, Steps p.tables e below (T208.setTop (mkF m 93 #[.val (.int p1), .val (.long q2), .second, .val (.int p3), .val (.ref b102), .val (.long (2305842644141473793 : Int64)), .second, .val (.long (2305842644141473792 : Int64)), .second, .val (.long v222), .second, .val (.int (p3 &&& (3 : Int32))), v223, v224] [])) t → Steps p.tables e below (s₁.setTop (entryFrame m #[(.int p1), (.long q2), (.int p3)] maxLocals)) t := by
      have pre213 : ∀ t, Steps p.tables e below (T208.setTop (mkF m 33 #[.val (.int p1), .val (.long q2), .second, .val (.int p3), .val (.ref b102), .val (.long (2305842644141473793 : Int64)), .second, .val (.long (2305842644141473792 : Int64)), .second, .unset, .unset, .val (.int (p3 &&& (3 : Int32))), .unset, .unset] [(.int (1 : Int32)), (.int (p3 &&& (3 : Int32)))])) t → Steps p.tables e below (s₁.setTop (entryFrame m #[(.int p1), (.long q2), (.int p3)] maxLocals)) t := fun t k => pre211 t (by
        show Steps p.tables e below (T208.setTop (mkF m 30 #[.val (.int p1), .val (.long q2), .second, .val (.int p3), .val (.ref b102), .val (.long (2305842644141473793 : Int64)), .second, .val (.long (2305842644141473792 : Int64)), .second, .unset, .unset, .val (.int (p3 &&& (3 : Int32))), .unset, .unset] [])) t
        refine XS.iload X208.here hx rfl (hb hby at_30) rfl ?_
        show Steps p.tables e below (T208.setTop (mkF m 32 #[.val (.int p1), .val (.long q2), .second, .val (.int p3), .val (.ref b102), .val (.long (2305842644141473793 : Int64)), .second, .val (.long (2305842644141473792 : Int64)), .second, .unset, .unset, .val (.int (p3 &&& (3 : Int32))), .unset, .unset] [(.int (p3 &&& (3 : Int32)))])) t
        refine XS.iconst X208.here hx rfl (hb hby at_32) ?_
        exact k)
      by_cases hc212 : (p3 &&& (3 : Int32)) = (1 : Int32)
      · have pre214 : ∀ t, Steps p.tables e below (T208.setTop (mkF m 93 #[.val (.int p1), .val (.long q2), .second, .val (.int p3), .val (.ref b102), .val (.long (2305842644141473793 : Int64)), .second, .val (.long (2305842644141473792 : Int64)), .second, .val (.long ((q2 &&& (255 : Int64)) + (1 : Int64))), .second, .val (.int (p3 &&& (3 : Int32))), .unset, .unset] [])) t → Steps p.tables e below (s₁.setTop (entryFrame m #[(.int p1), (.long q2), (.int p3)] maxLocals)) t := fun t k => pre213 t (by
          show Steps p.tables e below (T208.setTop (mkF m 33 #[.val (.int p1), .val (.long q2), .second, .val (.int p3), .val (.ref b102), .val (.long (2305842644141473793 : Int64)), .second, .val (.long (2305842644141473792 : Int64)), .second, .unset, .unset, .val (.int (p3 &&& (3 : Int32))), .unset, .unset] [(.int (1 : Int32)), (.int (p3 &&& (3 : Int32)))])) t
          refine XS.icmpNo X208.here hx rfl (hb hby at_33) rfl (teq hc212).2 ?_
          show Steps p.tables e below (T208.setTop (mkF m 36 #[.val (.int p1), .val (.long q2), .second, .val (.int p3), .val (.ref b102), .val (.long (2305842644141473793 : Int64)), .second, .val (.long (2305842644141473792 : Int64)), .second, .unset, .unset, .val (.int (p3 &&& (3 : Int32))), .unset, .unset] [])) t
          refine XS.lloadN X208.here hx rfl (hb hby at_36) rfl ?_
          show Steps p.tables e below (T208.setTop (mkF m 37 #[.val (.int p1), .val (.long q2), .second, .val (.int p3), .val (.ref b102), .val (.long (2305842644141473793 : Int64)), .second, .val (.long (2305842644141473792 : Int64)), .second, .unset, .unset, .val (.int (p3 &&& (3 : Int32))), .unset, .unset] [(.long q2)])) t
          refine X208.ldc2Long hx hown (mvT hZ (own_i hw 57 rfl)) (g := (mkF m 37 #[.val (.int p1), .val (.long q2), .second, .val (.int p3), .val (.ref b102), .val (.long (2305842644141473793 : Int64)), .second, .val (.long (2305842644141473792 : Int64)), .second, .unset, .unset, .val (.int (p3 &&& (3 : Int32))), .unset, .unset] [(.long q2)])) rfl (hb hby at_37) _ ?_
          show Steps p.tables e below (T208.setTop (mkF m 40 #[.val (.int p1), .val (.long q2), .second, .val (.int p3), .val (.ref b102), .val (.long (2305842644141473793 : Int64)), .second, .val (.long (2305842644141473792 : Int64)), .second, .unset, .unset, .val (.int (p3 &&& (3 : Int32))), .unset, .unset] [(.long (255 : Int64)), (.long q2)])) t
          refine XS.land X208.here hx rfl (hb hby at_40) rfl ?_
          show Steps p.tables e below (T208.setTop (mkF m 41 #[.val (.int p1), .val (.long q2), .second, .val (.int p3), .val (.ref b102), .val (.long (2305842644141473793 : Int64)), .second, .val (.long (2305842644141473792 : Int64)), .second, .unset, .unset, .val (.int (p3 &&& (3 : Int32))), .unset, .unset] [(.long (q2 &&& (255 : Int64)))])) t
          refine XS.lconst X208.here hx rfl (hb hby at_41) ?_
          show Steps p.tables e below (T208.setTop (mkF m 42 #[.val (.int p1), .val (.long q2), .second, .val (.int p3), .val (.ref b102), .val (.long (2305842644141473793 : Int64)), .second, .val (.long (2305842644141473792 : Int64)), .second, .unset, .unset, .val (.int (p3 &&& (3 : Int32))), .unset, .unset] [(.long (1 : Int64)), (.long (q2 &&& (255 : Int64)))])) t
          refine XS.ladd X208.here hx rfl (hb hby at_42) rfl ?_
          show Steps p.tables e below (T208.setTop (mkF m 43 #[.val (.int p1), .val (.long q2), .second, .val (.int p3), .val (.ref b102), .val (.long (2305842644141473793 : Int64)), .second, .val (.long (2305842644141473792 : Int64)), .second, .unset, .unset, .val (.int (p3 &&& (3 : Int32))), .unset, .unset] [(.long ((q2 &&& (255 : Int64)) + (1 : Int64)))])) t
          refine XS.lstore X208.here hx rfl (hb hby at_43) rfl (l' := #[.val (.int p1), .val (.long q2), .second, .val (.int p3), .val (.ref b102), .val (.long (2305842644141473793 : Int64)), .second, .val (.long (2305842644141473792 : Int64)), .second, .val (.long ((q2 &&& (255 : Int64)) + (1 : Int64))), .second, .val (.int (p3 &&& (3 : Int32))), .unset, .unset]) rfl ?_
          show Steps p.tables e below (T208.setTop (mkF m 45 #[.val (.int p1), .val (.long q2), .second, .val (.int p3), .val (.ref b102), .val (.long (2305842644141473793 : Int64)), .second, .val (.long (2305842644141473792 : Int64)), .second, .val (.long ((q2 &&& (255 : Int64)) + (1 : Int64))), .second, .val (.int (p3 &&& (3 : Int32))), .unset, .unset] [])) t
          refine XS.goto X208.here hx rfl (pc0 := 45) (pc' := 93) rfl (hb hby at_45) (by decide) (by decide) ?_
          exact k)
        exact ⟨((q2 &&& (255 : Int64)) + (1 : Int64)), .unset, .unset, (by exact ⟨own_yA q2 (by decide +kernel), Or.inl ⟨rfl, rfl⟩⟩), pre214⟩
      · have pre216 : ∀ t, Steps p.tables e below (T208.setTop (mkF m 51 #[.val (.int p1), .val (.long q2), .second, .val (.int p3), .val (.ref b102), .val (.long (2305842644141473793 : Int64)), .second, .val (.long (2305842644141473792 : Int64)), .second, .unset, .unset, .val (.int (p3 &&& (3 : Int32))), .unset, .unset] [(.int (2 : Int32)), (.int (p3 &&& (3 : Int32)))])) t → Steps p.tables e below (s₁.setTop (entryFrame m #[(.int p1), (.long q2), (.int p3)] maxLocals)) t := fun t k => pre213 t (by
          show Steps p.tables e below (T208.setTop (mkF m 33 #[.val (.int p1), .val (.long q2), .second, .val (.int p3), .val (.ref b102), .val (.long (2305842644141473793 : Int64)), .second, .val (.long (2305842644141473792 : Int64)), .second, .unset, .unset, .val (.int (p3 &&& (3 : Int32))), .unset, .unset] [(.int (1 : Int32)), (.int (p3 &&& (3 : Int32)))])) t
          refine XS.icmpYes X208.here hx rfl (pc0 := 33) (pc' := 48) rfl (hb hby at_33) rfl (feq hc212).2 (by decide) (by decide) ?_
          show Steps p.tables e below (T208.setTop (mkF m 48 #[.val (.int p1), .val (.long q2), .second, .val (.int p3), .val (.ref b102), .val (.long (2305842644141473793 : Int64)), .second, .val (.long (2305842644141473792 : Int64)), .second, .unset, .unset, .val (.int (p3 &&& (3 : Int32))), .unset, .unset] [])) t
          refine XS.iload X208.here hx rfl (hb hby at_48) rfl ?_
          show Steps p.tables e below (T208.setTop (mkF m 50 #[.val (.int p1), .val (.long q2), .second, .val (.int p3), .val (.ref b102), .val (.long (2305842644141473793 : Int64)), .second, .val (.long (2305842644141473792 : Int64)), .second, .unset, .unset, .val (.int (p3 &&& (3 : Int32))), .unset, .unset] [(.int (p3 &&& (3 : Int32)))])) t
          refine XS.iconst X208.here hx rfl (hb hby at_50) ?_
          exact k)
        by_cases hc215 : (p3 &&& (3 : Int32)) = (2 : Int32)
        · have pre217 : ∀ t, Steps p.tables e below (T208.setTop (mkF m 93 #[.val (.int p1), .val (.long q2), .second, .val (.int p3), .val (.ref b102), .val (.long (2305842644141473793 : Int64)), .second, .val (.long (2305842644141473792 : Int64)), .second, .val (.long ((2305842644141473792 : Int64) - (q2 &&& (255 : Int64)))), .second, .val (.int (p3 &&& (3 : Int32))), .unset, .unset] [])) t → Steps p.tables e below (s₁.setTop (entryFrame m #[(.int p1), (.long q2), (.int p3)] maxLocals)) t := fun t k => pre216 t (by
            show Steps p.tables e below (T208.setTop (mkF m 51 #[.val (.int p1), .val (.long q2), .second, .val (.int p3), .val (.ref b102), .val (.long (2305842644141473793 : Int64)), .second, .val (.long (2305842644141473792 : Int64)), .second, .unset, .unset, .val (.int (p3 &&& (3 : Int32))), .unset, .unset] [(.int (2 : Int32)), (.int (p3 &&& (3 : Int32)))])) t
            refine XS.icmpNo X208.here hx rfl (hb hby at_51) rfl (teq hc215).2 ?_
            show Steps p.tables e below (T208.setTop (mkF m 54 #[.val (.int p1), .val (.long q2), .second, .val (.int p3), .val (.ref b102), .val (.long (2305842644141473793 : Int64)), .second, .val (.long (2305842644141473792 : Int64)), .second, .unset, .unset, .val (.int (p3 &&& (3 : Int32))), .unset, .unset] [])) t
            refine XS.lload X208.here hx rfl (hb hby at_54) rfl ?_
            show Steps p.tables e below (T208.setTop (mkF m 56 #[.val (.int p1), .val (.long q2), .second, .val (.int p3), .val (.ref b102), .val (.long (2305842644141473793 : Int64)), .second, .val (.long (2305842644141473792 : Int64)), .second, .unset, .unset, .val (.int (p3 &&& (3 : Int32))), .unset, .unset] [(.long (2305842644141473792 : Int64))])) t
            refine XS.lloadN X208.here hx rfl (hb hby at_56) rfl ?_
            show Steps p.tables e below (T208.setTop (mkF m 57 #[.val (.int p1), .val (.long q2), .second, .val (.int p3), .val (.ref b102), .val (.long (2305842644141473793 : Int64)), .second, .val (.long (2305842644141473792 : Int64)), .second, .unset, .unset, .val (.int (p3 &&& (3 : Int32))), .unset, .unset] [(.long q2), (.long (2305842644141473792 : Int64))])) t
            refine X208.ldc2Long hx hown (mvT hZ (own_i hw 57 rfl)) (g := (mkF m 57 #[.val (.int p1), .val (.long q2), .second, .val (.int p3), .val (.ref b102), .val (.long (2305842644141473793 : Int64)), .second, .val (.long (2305842644141473792 : Int64)), .second, .unset, .unset, .val (.int (p3 &&& (3 : Int32))), .unset, .unset] [(.long q2), (.long (2305842644141473792 : Int64))])) rfl (hb hby at_57) _ ?_
            show Steps p.tables e below (T208.setTop (mkF m 60 #[.val (.int p1), .val (.long q2), .second, .val (.int p3), .val (.ref b102), .val (.long (2305842644141473793 : Int64)), .second, .val (.long (2305842644141473792 : Int64)), .second, .unset, .unset, .val (.int (p3 &&& (3 : Int32))), .unset, .unset] [(.long (255 : Int64)), (.long q2), (.long (2305842644141473792 : Int64))])) t
            refine XS.land X208.here hx rfl (hb hby at_60) rfl ?_
            show Steps p.tables e below (T208.setTop (mkF m 61 #[.val (.int p1), .val (.long q2), .second, .val (.int p3), .val (.ref b102), .val (.long (2305842644141473793 : Int64)), .second, .val (.long (2305842644141473792 : Int64)), .second, .unset, .unset, .val (.int (p3 &&& (3 : Int32))), .unset, .unset] [(.long (q2 &&& (255 : Int64))), (.long (2305842644141473792 : Int64))])) t
            refine XS.lsub X208.here hx rfl (hb hby at_61) rfl ?_
            show Steps p.tables e below (T208.setTop (mkF m 62 #[.val (.int p1), .val (.long q2), .second, .val (.int p3), .val (.ref b102), .val (.long (2305842644141473793 : Int64)), .second, .val (.long (2305842644141473792 : Int64)), .second, .unset, .unset, .val (.int (p3 &&& (3 : Int32))), .unset, .unset] [(.long ((2305842644141473792 : Int64) - (q2 &&& (255 : Int64))))])) t
            refine XS.lstore X208.here hx rfl (hb hby at_62) rfl (l' := #[.val (.int p1), .val (.long q2), .second, .val (.int p3), .val (.ref b102), .val (.long (2305842644141473793 : Int64)), .second, .val (.long (2305842644141473792 : Int64)), .second, .val (.long ((2305842644141473792 : Int64) - (q2 &&& (255 : Int64)))), .second, .val (.int (p3 &&& (3 : Int32))), .unset, .unset]) rfl ?_
            show Steps p.tables e below (T208.setTop (mkF m 64 #[.val (.int p1), .val (.long q2), .second, .val (.int p3), .val (.ref b102), .val (.long (2305842644141473793 : Int64)), .second, .val (.long (2305842644141473792 : Int64)), .second, .val (.long ((2305842644141473792 : Int64) - (q2 &&& (255 : Int64)))), .second, .val (.int (p3 &&& (3 : Int32))), .unset, .unset] [])) t
            refine XS.goto X208.here hx rfl (pc0 := 64) (pc' := 93) rfl (hb hby at_64) (by decide) (by decide) ?_
            exact k)
          exact ⟨((2305842644141473792 : Int64) - (q2 &&& (255 : Int64))), .unset, .unset, (by exact ⟨own_yB (M := (2305842644141473792 : Int64)) q2 (by decide +kernel), Or.inl ⟨rfl, rfl⟩⟩), pre217⟩
        · have pre219 : ∀ t, Steps p.tables e below (T208.setTop (mkF m 77 #[.val (.int p1), .val (.long q2), .second, .val (.int p3), .val (.ref b102), .val (.long (2305842644141473793 : Int64)), .second, .val (.long (2305842644141473792 : Int64)), .second, .unset, .unset, .val (.int (p3 &&& (3 : Int32))), .val (.long (q2 - (q2 / (2305842644141473792 : Int64)) * (2305842644141473792 : Int64))), .second] [(.int (lcmpW (q2 - (q2 / (2305842644141473792 : Int64)) * (2305842644141473792 : Int64)) (0 : Int64)))])) t → Steps p.tables e below (s₁.setTop (entryFrame m #[(.int p1), (.long q2), (.int p3)] maxLocals)) t := fun t k => pre216 t (by
            show Steps p.tables e below (T208.setTop (mkF m 51 #[.val (.int p1), .val (.long q2), .second, .val (.int p3), .val (.ref b102), .val (.long (2305842644141473793 : Int64)), .second, .val (.long (2305842644141473792 : Int64)), .second, .unset, .unset, .val (.int (p3 &&& (3 : Int32))), .unset, .unset] [(.int (2 : Int32)), (.int (p3 &&& (3 : Int32)))])) t
            refine XS.icmpYes X208.here hx rfl (pc0 := 51) (pc' := 67) rfl (hb hby at_51) rfl (feq hc215).2 (by decide) (by decide) ?_
            show Steps p.tables e below (T208.setTop (mkF m 67 #[.val (.int p1), .val (.long q2), .second, .val (.int p3), .val (.ref b102), .val (.long (2305842644141473793 : Int64)), .second, .val (.long (2305842644141473792 : Int64)), .second, .unset, .unset, .val (.int (p3 &&& (3 : Int32))), .unset, .unset] [])) t
            refine XS.lloadN X208.here hx rfl (hb hby at_67) rfl ?_
            show Steps p.tables e below (T208.setTop (mkF m 68 #[.val (.int p1), .val (.long q2), .second, .val (.int p3), .val (.ref b102), .val (.long (2305842644141473793 : Int64)), .second, .val (.long (2305842644141473792 : Int64)), .second, .unset, .unset, .val (.int (p3 &&& (3 : Int32))), .unset, .unset] [(.long q2)])) t
            refine XS.lload X208.here hx rfl (hb hby at_68) rfl ?_
            show Steps p.tables e below (T208.setTop (mkF m 70 #[.val (.int p1), .val (.long q2), .second, .val (.int p3), .val (.ref b102), .val (.long (2305842644141473793 : Int64)), .second, .val (.long (2305842644141473792 : Int64)), .second, .unset, .unset, .val (.int (p3 &&& (3 : Int32))), .unset, .unset] [(.long (2305842644141473792 : Int64)), (.long q2)])) t
            refine XS.lrem X208.here hx rfl (hb hby at_70) rfl (by decide) ?_
            show Steps p.tables e below (T208.setTop (mkF m 71 #[.val (.int p1), .val (.long q2), .second, .val (.int p3), .val (.ref b102), .val (.long (2305842644141473793 : Int64)), .second, .val (.long (2305842644141473792 : Int64)), .second, .unset, .unset, .val (.int (p3 &&& (3 : Int32))), .unset, .unset] [(.long (q2 - (q2 / (2305842644141473792 : Int64)) * (2305842644141473792 : Int64)))])) t
            refine XS.lstore X208.here hx rfl (hb hby at_71) rfl (l' := #[.val (.int p1), .val (.long q2), .second, .val (.int p3), .val (.ref b102), .val (.long (2305842644141473793 : Int64)), .second, .val (.long (2305842644141473792 : Int64)), .second, .unset, .unset, .val (.int (p3 &&& (3 : Int32))), .val (.long (q2 - (q2 / (2305842644141473792 : Int64)) * (2305842644141473792 : Int64))), .second]) rfl ?_
            show Steps p.tables e below (T208.setTop (mkF m 73 #[.val (.int p1), .val (.long q2), .second, .val (.int p3), .val (.ref b102), .val (.long (2305842644141473793 : Int64)), .second, .val (.long (2305842644141473792 : Int64)), .second, .unset, .unset, .val (.int (p3 &&& (3 : Int32))), .val (.long (q2 - (q2 / (2305842644141473792 : Int64)) * (2305842644141473792 : Int64))), .second] [])) t
            refine XS.lload X208.here hx rfl (hb hby at_73) rfl ?_
            show Steps p.tables e below (T208.setTop (mkF m 75 #[.val (.int p1), .val (.long q2), .second, .val (.int p3), .val (.ref b102), .val (.long (2305842644141473793 : Int64)), .second, .val (.long (2305842644141473792 : Int64)), .second, .unset, .unset, .val (.int (p3 &&& (3 : Int32))), .val (.long (q2 - (q2 / (2305842644141473792 : Int64)) * (2305842644141473792 : Int64))), .second] [(.long (q2 - (q2 / (2305842644141473792 : Int64)) * (2305842644141473792 : Int64)))])) t
            refine XS.lconst X208.here hx rfl (hb hby at_75) ?_
            show Steps p.tables e below (T208.setTop (mkF m 76 #[.val (.int p1), .val (.long q2), .second, .val (.int p3), .val (.ref b102), .val (.long (2305842644141473793 : Int64)), .second, .val (.long (2305842644141473792 : Int64)), .second, .unset, .unset, .val (.int (p3 &&& (3 : Int32))), .val (.long (q2 - (q2 / (2305842644141473792 : Int64)) * (2305842644141473792 : Int64))), .second] [(.long (0 : Int64)), (.long (q2 - (q2 / (2305842644141473792 : Int64)) * (2305842644141473792 : Int64)))])) t
            refine XS.lcmp X208.here hx rfl (hb hby at_76) rfl ?_
            exact k)
          by_cases hc218 : (q2 - (q2 / (2305842644141473792 : Int64)) * (2305842644141473792 : Int64)) < (0 : Int64)
          · have pre220 : ∀ t, Steps p.tables e below (T208.setTop (mkF m 93 #[.val (.int p1), .val (.long q2), .second, .val (.int p3), .val (.ref b102), .val (.long (2305842644141473793 : Int64)), .second, .val (.long (2305842644141473792 : Int64)), .second, .val (.long (((q2 - (q2 / (2305842644141473792 : Int64)) * (2305842644141473792 : Int64)) + (2305842644141473792 : Int64)) + (1 : Int64))), .second, .val (.int (p3 &&& (3 : Int32))), .val (.long ((q2 - (q2 / (2305842644141473792 : Int64)) * (2305842644141473792 : Int64)) + (2305842644141473792 : Int64))), .second] [])) t → Steps p.tables e below (s₁.setTop (entryFrame m #[(.int p1), (.long q2), (.int p3)] maxLocals)) t := fun t k => pre219 t (by
              show Steps p.tables e below (T208.setTop (mkF m 77 #[.val (.int p1), .val (.long q2), .second, .val (.int p3), .val (.ref b102), .val (.long (2305842644141473793 : Int64)), .second, .val (.long (2305842644141473792 : Int64)), .second, .unset, .unset, .val (.int (p3 &&& (3 : Int32))), .val (.long (q2 - (q2 / (2305842644141473792 : Int64)) * (2305842644141473792 : Int64))), .second] [(.int (lcmpW (q2 - (q2 / (2305842644141473792 : Int64)) * (2305842644141473792 : Int64)) (0 : Int64)))])) t
              refine XS.ifNo X208.here hx rfl (hb hby at_77) rfl ((if0 _ _).trans (tlt (show (lcmpW (q2 - (q2 / (2305842644141473792 : Int64)) * (2305842644141473792 : Int64)) (0 : Int64)) < (0 : Int32) by rw [lcW]; exact (lc_lt _ _).mpr hc218)).2.1) ?_
              show Steps p.tables e below (T208.setTop (mkF m 80 #[.val (.int p1), .val (.long q2), .second, .val (.int p3), .val (.ref b102), .val (.long (2305842644141473793 : Int64)), .second, .val (.long (2305842644141473792 : Int64)), .second, .unset, .unset, .val (.int (p3 &&& (3 : Int32))), .val (.long (q2 - (q2 / (2305842644141473792 : Int64)) * (2305842644141473792 : Int64))), .second] [])) t
              refine XS.lload X208.here hx rfl (hb hby at_80) rfl ?_
              show Steps p.tables e below (T208.setTop (mkF m 82 #[.val (.int p1), .val (.long q2), .second, .val (.int p3), .val (.ref b102), .val (.long (2305842644141473793 : Int64)), .second, .val (.long (2305842644141473792 : Int64)), .second, .unset, .unset, .val (.int (p3 &&& (3 : Int32))), .val (.long (q2 - (q2 / (2305842644141473792 : Int64)) * (2305842644141473792 : Int64))), .second] [(.long (q2 - (q2 / (2305842644141473792 : Int64)) * (2305842644141473792 : Int64)))])) t
              refine XS.lload X208.here hx rfl (hb hby at_82) rfl ?_
              show Steps p.tables e below (T208.setTop (mkF m 84 #[.val (.int p1), .val (.long q2), .second, .val (.int p3), .val (.ref b102), .val (.long (2305842644141473793 : Int64)), .second, .val (.long (2305842644141473792 : Int64)), .second, .unset, .unset, .val (.int (p3 &&& (3 : Int32))), .val (.long (q2 - (q2 / (2305842644141473792 : Int64)) * (2305842644141473792 : Int64))), .second] [(.long (2305842644141473792 : Int64)), (.long (q2 - (q2 / (2305842644141473792 : Int64)) * (2305842644141473792 : Int64)))])) t
              refine XS.ladd X208.here hx rfl (hb hby at_84) rfl ?_
              show Steps p.tables e below (T208.setTop (mkF m 85 #[.val (.int p1), .val (.long q2), .second, .val (.int p3), .val (.ref b102), .val (.long (2305842644141473793 : Int64)), .second, .val (.long (2305842644141473792 : Int64)), .second, .unset, .unset, .val (.int (p3 &&& (3 : Int32))), .val (.long (q2 - (q2 / (2305842644141473792 : Int64)) * (2305842644141473792 : Int64))), .second] [(.long ((q2 - (q2 / (2305842644141473792 : Int64)) * (2305842644141473792 : Int64)) + (2305842644141473792 : Int64)))])) t
              refine XS.lstore X208.here hx rfl (hb hby at_85) rfl (l' := #[.val (.int p1), .val (.long q2), .second, .val (.int p3), .val (.ref b102), .val (.long (2305842644141473793 : Int64)), .second, .val (.long (2305842644141473792 : Int64)), .second, .unset, .unset, .val (.int (p3 &&& (3 : Int32))), .val (.long ((q2 - (q2 / (2305842644141473792 : Int64)) * (2305842644141473792 : Int64)) + (2305842644141473792 : Int64))), .second]) rfl ?_
              show Steps p.tables e below (T208.setTop (mkF m 87 #[.val (.int p1), .val (.long q2), .second, .val (.int p3), .val (.ref b102), .val (.long (2305842644141473793 : Int64)), .second, .val (.long (2305842644141473792 : Int64)), .second, .unset, .unset, .val (.int (p3 &&& (3 : Int32))), .val (.long ((q2 - (q2 / (2305842644141473792 : Int64)) * (2305842644141473792 : Int64)) + (2305842644141473792 : Int64))), .second] [])) t
              refine XS.lload X208.here hx rfl (hb hby at_87) rfl ?_
              show Steps p.tables e below (T208.setTop (mkF m 89 #[.val (.int p1), .val (.long q2), .second, .val (.int p3), .val (.ref b102), .val (.long (2305842644141473793 : Int64)), .second, .val (.long (2305842644141473792 : Int64)), .second, .unset, .unset, .val (.int (p3 &&& (3 : Int32))), .val (.long ((q2 - (q2 / (2305842644141473792 : Int64)) * (2305842644141473792 : Int64)) + (2305842644141473792 : Int64))), .second] [(.long ((q2 - (q2 / (2305842644141473792 : Int64)) * (2305842644141473792 : Int64)) + (2305842644141473792 : Int64)))])) t
              refine XS.lconst X208.here hx rfl (hb hby at_89) ?_
              show Steps p.tables e below (T208.setTop (mkF m 90 #[.val (.int p1), .val (.long q2), .second, .val (.int p3), .val (.ref b102), .val (.long (2305842644141473793 : Int64)), .second, .val (.long (2305842644141473792 : Int64)), .second, .unset, .unset, .val (.int (p3 &&& (3 : Int32))), .val (.long ((q2 - (q2 / (2305842644141473792 : Int64)) * (2305842644141473792 : Int64)) + (2305842644141473792 : Int64))), .second] [(.long (1 : Int64)), (.long ((q2 - (q2 / (2305842644141473792 : Int64)) * (2305842644141473792 : Int64)) + (2305842644141473792 : Int64)))])) t
              refine XS.ladd X208.here hx rfl (hb hby at_90) rfl ?_
              show Steps p.tables e below (T208.setTop (mkF m 91 #[.val (.int p1), .val (.long q2), .second, .val (.int p3), .val (.ref b102), .val (.long (2305842644141473793 : Int64)), .second, .val (.long (2305842644141473792 : Int64)), .second, .unset, .unset, .val (.int (p3 &&& (3 : Int32))), .val (.long ((q2 - (q2 / (2305842644141473792 : Int64)) * (2305842644141473792 : Int64)) + (2305842644141473792 : Int64))), .second] [(.long (((q2 - (q2 / (2305842644141473792 : Int64)) * (2305842644141473792 : Int64)) + (2305842644141473792 : Int64)) + (1 : Int64)))])) t
              refine XS.lstore X208.here hx rfl (hb hby at_91) rfl (l' := #[.val (.int p1), .val (.long q2), .second, .val (.int p3), .val (.ref b102), .val (.long (2305842644141473793 : Int64)), .second, .val (.long (2305842644141473792 : Int64)), .second, .val (.long (((q2 - (q2 / (2305842644141473792 : Int64)) * (2305842644141473792 : Int64)) + (2305842644141473792 : Int64)) + (1 : Int64))), .second, .val (.int (p3 &&& (3 : Int32))), .val (.long ((q2 - (q2 / (2305842644141473792 : Int64)) * (2305842644141473792 : Int64)) + (2305842644141473792 : Int64))), .second]) rfl ?_
              exact k)
            exact ⟨(((q2 - (q2 / (2305842644141473792 : Int64)) * (2305842644141473792 : Int64)) + (2305842644141473792 : Int64)) + (1 : Int64)), .val (.long ((q2 - (q2 / (2305842644141473792 : Int64)) * (2305842644141473792 : Int64)) + (2305842644141473792 : Int64))), .second, (by exact ⟨own_yC (M := (2305842644141473792 : Int64)) q2 (by decide +kernel) hc218, Or.inr ⟨_, rfl, rfl⟩⟩), pre220⟩
          · have pre221 : ∀ t, Steps p.tables e below (T208.setTop (mkF m 93 #[.val (.int p1), .val (.long q2), .second, .val (.int p3), .val (.ref b102), .val (.long (2305842644141473793 : Int64)), .second, .val (.long (2305842644141473792 : Int64)), .second, .val (.long ((q2 - (q2 / (2305842644141473792 : Int64)) * (2305842644141473792 : Int64)) + (1 : Int64))), .second, .val (.int (p3 &&& (3 : Int32))), .val (.long (q2 - (q2 / (2305842644141473792 : Int64)) * (2305842644141473792 : Int64))), .second] [])) t → Steps p.tables e below (s₁.setTop (entryFrame m #[(.int p1), (.long q2), (.int p3)] maxLocals)) t := fun t k => pre219 t (by
              show Steps p.tables e below (T208.setTop (mkF m 77 #[.val (.int p1), .val (.long q2), .second, .val (.int p3), .val (.ref b102), .val (.long (2305842644141473793 : Int64)), .second, .val (.long (2305842644141473792 : Int64)), .second, .unset, .unset, .val (.int (p3 &&& (3 : Int32))), .val (.long (q2 - (q2 / (2305842644141473792 : Int64)) * (2305842644141473792 : Int64))), .second] [(.int (lcmpW (q2 - (q2 / (2305842644141473792 : Int64)) * (2305842644141473792 : Int64)) (0 : Int64)))])) t
              refine XS.ifYes X208.here hx rfl (pc0 := 77) (pc' := 87) rfl (hb hby at_77) rfl ((if0 _ _).trans (flt (show ¬ ((lcmpW (q2 - (q2 / (2305842644141473792 : Int64)) * (2305842644141473792 : Int64)) (0 : Int64)) < (0 : Int32)) by rw [lcW]; exact fun q => hc218 ((lc_lt _ _).mp q))).2.1) (by decide) (by decide) ?_
              show Steps p.tables e below (T208.setTop (mkF m 87 #[.val (.int p1), .val (.long q2), .second, .val (.int p3), .val (.ref b102), .val (.long (2305842644141473793 : Int64)), .second, .val (.long (2305842644141473792 : Int64)), .second, .unset, .unset, .val (.int (p3 &&& (3 : Int32))), .val (.long (q2 - (q2 / (2305842644141473792 : Int64)) * (2305842644141473792 : Int64))), .second] [])) t
              refine XS.lload X208.here hx rfl (hb hby at_87) rfl ?_
              show Steps p.tables e below (T208.setTop (mkF m 89 #[.val (.int p1), .val (.long q2), .second, .val (.int p3), .val (.ref b102), .val (.long (2305842644141473793 : Int64)), .second, .val (.long (2305842644141473792 : Int64)), .second, .unset, .unset, .val (.int (p3 &&& (3 : Int32))), .val (.long (q2 - (q2 / (2305842644141473792 : Int64)) * (2305842644141473792 : Int64))), .second] [(.long (q2 - (q2 / (2305842644141473792 : Int64)) * (2305842644141473792 : Int64)))])) t
              refine XS.lconst X208.here hx rfl (hb hby at_89) ?_
              show Steps p.tables e below (T208.setTop (mkF m 90 #[.val (.int p1), .val (.long q2), .second, .val (.int p3), .val (.ref b102), .val (.long (2305842644141473793 : Int64)), .second, .val (.long (2305842644141473792 : Int64)), .second, .unset, .unset, .val (.int (p3 &&& (3 : Int32))), .val (.long (q2 - (q2 / (2305842644141473792 : Int64)) * (2305842644141473792 : Int64))), .second] [(.long (1 : Int64)), (.long (q2 - (q2 / (2305842644141473792 : Int64)) * (2305842644141473792 : Int64)))])) t
              refine XS.ladd X208.here hx rfl (hb hby at_90) rfl ?_
              show Steps p.tables e below (T208.setTop (mkF m 91 #[.val (.int p1), .val (.long q2), .second, .val (.int p3), .val (.ref b102), .val (.long (2305842644141473793 : Int64)), .second, .val (.long (2305842644141473792 : Int64)), .second, .unset, .unset, .val (.int (p3 &&& (3 : Int32))), .val (.long (q2 - (q2 / (2305842644141473792 : Int64)) * (2305842644141473792 : Int64))), .second] [(.long ((q2 - (q2 / (2305842644141473792 : Int64)) * (2305842644141473792 : Int64)) + (1 : Int64)))])) t
              refine XS.lstore X208.here hx rfl (hb hby at_91) rfl (l' := #[.val (.int p1), .val (.long q2), .second, .val (.int p3), .val (.ref b102), .val (.long (2305842644141473793 : Int64)), .second, .val (.long (2305842644141473792 : Int64)), .second, .val (.long ((q2 - (q2 / (2305842644141473792 : Int64)) * (2305842644141473792 : Int64)) + (1 : Int64))), .second, .val (.int (p3 &&& (3 : Int32))), .val (.long (q2 - (q2 / (2305842644141473792 : Int64)) * (2305842644141473792 : Int64))), .second]) rfl ?_
              exact k)
            exact ⟨((q2 - (q2 / (2305842644141473792 : Int64)) * (2305842644141473792 : Int64)) + (1 : Int64)), .val (.long (q2 - (q2 / (2305842644141473792 : Int64)) * (2305842644141473792 : Int64))), .second, (by exact ⟨own_yD (M := (2305842644141473792 : Int64)) q2 (by decide +kernel) hc218, Or.inr ⟨_, rfl, rfl⟩⟩), pre221⟩
    obtain ⟨cq226, kq226, q226a, q226b, q226c⟩ := isOf hZ e208 f201
    obtain ⟨_, _, ⟨T226, L226, k226, n226⟩, -, X226, ⟨Lc226, hQ226, l226, y226, z226⟩, st226⟩ := X208.virtualBack hx (y := (⟨"com/example/libsld/libsld/PrimeField", "invert", "(J)J"⟩ : MethodName)) (z := (⟨"com/example/libsld/libsld/PrimeField", "invert", "(J)J"⟩ : MethodName)) hown (mvT hZ (own_i hw 58 rfl)) (mvT hZ (own_i hw 59 rfl)) (notFace_of_selects (args := #[]) (mvT hZ (own_i hw 61 rfl))) (mvT hZ (own_i hw 61 rfl)) (mvT hZ (own_i hw 60 rfl)) (by decide) (backOf (W := 0) (rmInv l Z a0 hw [] b102 v222 (2305842644141473793 : Int64) T200.heap n0 f205 f202 (by decide +kernel) (by decide +kernel) hP225.1.1 hP225.1.2 (own_cp2 hP225.1.1 hP225.1.2)) hZ (own_i hw 62 rfl) (own_i hw 2 rfl) (by decide) (by decide)) q226a q226c (g := (mkF m 97 #[.val (.int p1), .val (.long q2), .second, .val (.int p3), .val (.ref b102), .val (.long (2305842644141473793 : Int64)), .second, .val (.long (2305842644141473792 : Int64)), .second, .val (.long v222), .second, .val (.int (p3 &&& (3 : Int32))), v223, v224] [(.long v222), (.ref b102)])) rfl (by rw [hml]; rfl) (Steps.refl _) (argsL := [(.long v222)]) (rest := []) (lenOf pd_1 rfl) rfl (by show 2 * 0 + _ ≤ _; exact Nat.le_of_eq rfl) (hb hby at_97) (fun _ _ => ⟨rfl, e208, (by decide : 2 + 0 ≤ _), (by decide : 38 + 0 ≤ _)⟩)
    dsimp only [Pt.U, Pt.locs, Pt.cells, Pt.slots] at X226 l226 y226 z226 st226 hQ226
    subst l226 y226 z226
    obtain ⟨x227, rfl, N226q, K226, f228⟩ := hQ226
    have N226 := Fr.app N200 N226q
    have f229 := Nat.le_trans f205 K226.1
    have f230 := f206.keep K226 all0
    have f231 := f207.trans K226 all0
    have f232 := f201.keep K226
    have f233 := f202.keep K226 nin0
    have f234 := f203.keep K226 nin0
    have f235 := f204.keep K226 nin0
    have hd236 : ¬ (x227 < (1 : Int64)) := own_lawA f228
    have hd237 : ¬ ((2305842644141473792 : Int64) < x227) := own_lawB (by decide +kernel) f228
    obtain ⟨cq238, kq238, q238a, q238b, q238c⟩ := isOf hZ rfl f232
    obtain ⟨_, _, ⟨T238, L238, k238, n238⟩, -, X238, ⟨Lc238, hQ238, l238, y238, z238⟩, st238⟩ := X226.virtualBack hx (y := (⟨"com/example/libsld/libsld/PrimeField", "multiply", "(JJ)J"⟩ : MethodName)) (z := (⟨"com/example/libsld/libsld/PrimeField", "multiply", "(JJ)J"⟩ : MethodName)) hown (mvT hZ (own_i hw 63 rfl)) (mvT hZ (own_i hw 38 rfl)) (notFace_of_selects (args := #[]) (mvT hZ (own_i hw 40 rfl))) (mvT hZ (own_i hw 40 rfl)) (mvT hZ (own_i hw 39 rfl)) (by decide) (backOf (W := 0) (rmMul l Z a0 hw [] b102 v222 x227 (2305842644141473793 : Int64) (-2305842644141473791 : Int64) (1350428427567992384 : Int64) T226.heap n0 f229 f232 f233 f234 f235) hZ (own_i hw 41 rfl) (own_i hw 2 rfl) (by decide) (by decide)) q238a q238c (g := (mkF m 125 #[.val (.int p1), .val (.long q2), .second, .val (.int p3), .val (.ref b102), .val (.long (2305842644141473793 : Int64)), .second, .val (.long (2305842644141473792 : Int64)), .second, .val (.long v222), .second, .val (.int (p3 &&& (3 : Int32))), .val (.long x227), .second] [(.long x227), (.long v222), (.ref b102)])) rfl (by rw [hml]; rfl) (Steps.refl _) (argsL := [(.long v222), (.long x227)]) (rest := []) (lenOf pd_0 rfl) rfl (by show 2 * 0 + _ ≤ _; exact Nat.le_of_eq rfl) (hb hby at_125) (fun _ _ => ⟨rfl, rfl, (by decide : 2 + 0 ≤ _), (by decide : 38 + 0 ≤ _)⟩)
    dsimp only [Pt.U, Pt.locs, Pt.cells, Pt.slots] at X238 l238 y238 z238 st238 hQ238
    subst l238 y238 z238
    obtain ⟨rfl, N238q, e238⟩ := hQ238
    have N238 := Fr.app N226 N238q
    have hd239 : (own_mul v222 x227 (2305842644141473793 : Int64) (-2305842644141473791 : Int64) (1350428427567992384 : Int64)) = (1 : Int64) := own_lawC2 hP225.1 f228
    have pre240 : ∀ t, Steps p.tables e below (T238.setTop (mkF m 138 #[.val (.int p1), .val (.long q2), .second, .val (.int p3), .val (.ref b102), .val (.long (2305842644141473793 : Int64)), .second, .val (.long (2305842644141473792 : Int64)), .second, .val (.long v222), .second, .val (.int (p3 &&& (3 : Int32))), .val (.long x227), .second] [(.int (1 : Int32))])) t → Steps p.tables e below (s₁.setTop (entryFrame m #[(.int p1), (.long q2), (.int p3)] maxLocals)) t := fun t k => pre225 t (by
      show Steps p.tables e below (T208.setTop (mkF m 93 #[.val (.int p1), .val (.long q2), .second, .val (.int p3), .val (.ref b102), .val (.long (2305842644141473793 : Int64)), .second, .val (.long (2305842644141473792 : Int64)), .second, .val (.long v222), .second, .val (.int (p3 &&& (3 : Int32))), v223, v224] [])) t
      refine XS.aload X208.here hx rfl (hb hby at_93) rfl rfl ?_
      show Steps p.tables e below (T208.setTop (mkF m 95 #[.val (.int p1), .val (.long q2), .second, .val (.int p3), .val (.ref b102), .val (.long (2305842644141473793 : Int64)), .second, .val (.long (2305842644141473792 : Int64)), .second, .val (.long v222), .second, .val (.int (p3 &&& (3 : Int32))), v223, v224] [(.ref b102)])) t
      refine XS.lload X208.here hx rfl (hb hby at_95) rfl ?_
      show Steps p.tables e below (T208.setTop (mkF m 97 #[.val (.int p1), .val (.long q2), .second, .val (.int p3), .val (.ref b102), .val (.long (2305842644141473793 : Int64)), .second, .val (.long (2305842644141473792 : Int64)), .second, .val (.long v222), .second, .val (.int (p3 &&& (3 : Int32))), v223, v224] [(.long v222), (.ref b102)])) t
      refine st226.trans ?_
      show Steps p.tables e below (T226.setTop (mkF m 100 #[.val (.int p1), .val (.long q2), .second, .val (.int p3), .val (.ref b102), .val (.long (2305842644141473793 : Int64)), .second, .val (.long (2305842644141473792 : Int64)), .second, .val (.long v222), .second, .val (.int (p3 &&& (3 : Int32))), v223, v224] [(.long x227)])) t
      refine XS.lstore X226.here hx rfl (hb hby at_100) rfl (l' := #[.val (.int p1), .val (.long q2), .second, .val (.int p3), .val (.ref b102), .val (.long (2305842644141473793 : Int64)), .second, .val (.long (2305842644141473792 : Int64)), .second, .val (.long v222), .second, .val (.int (p3 &&& (3 : Int32))), .val (.long x227), .second]) (own_sto hP225.2) ?_
      show Steps p.tables e below (T226.setTop (mkF m 102 #[.val (.int p1), .val (.long q2), .second, .val (.int p3), .val (.ref b102), .val (.long (2305842644141473793 : Int64)), .second, .val (.long (2305842644141473792 : Int64)), .second, .val (.long v222), .second, .val (.int (p3 &&& (3 : Int32))), .val (.long x227), .second] [])) t
      refine XS.lload X226.here hx rfl (hb hby at_102) rfl ?_
      show Steps p.tables e below (T226.setTop (mkF m 104 #[.val (.int p1), .val (.long q2), .second, .val (.int p3), .val (.ref b102), .val (.long (2305842644141473793 : Int64)), .second, .val (.long (2305842644141473792 : Int64)), .second, .val (.long v222), .second, .val (.int (p3 &&& (3 : Int32))), .val (.long x227), .second] [(.long x227)])) t
      refine XS.lconst X226.here hx rfl (hb hby at_104) ?_
      show Steps p.tables e below (T226.setTop (mkF m 105 #[.val (.int p1), .val (.long q2), .second, .val (.int p3), .val (.ref b102), .val (.long (2305842644141473793 : Int64)), .second, .val (.long (2305842644141473792 : Int64)), .second, .val (.long v222), .second, .val (.int (p3 &&& (3 : Int32))), .val (.long x227), .second] [(.long (1 : Int64)), (.long x227)])) t
      refine XS.lcmp X226.here hx rfl (hb hby at_105) rfl ?_
      show Steps p.tables e below (T226.setTop (mkF m 106 #[.val (.int p1), .val (.long q2), .second, .val (.int p3), .val (.ref b102), .val (.long (2305842644141473793 : Int64)), .second, .val (.long (2305842644141473792 : Int64)), .second, .val (.long v222), .second, .val (.int (p3 &&& (3 : Int32))), .val (.long x227), .second] [(.int (lcmpW x227 (1 : Int64)))])) t
      refine XS.ifNo X226.here hx rfl (hb hby at_106) rfl ((if0 _ _).trans (flt (show ¬ ((lcmpW x227 (1 : Int64)) < (0 : Int32)) by rw [lcW]; exact fun q => hd236 ((lc_lt _ _).mp q))).1) ?_
      show Steps p.tables e below (T226.setTop (mkF m 109 #[.val (.int p1), .val (.long q2), .second, .val (.int p3), .val (.ref b102), .val (.long (2305842644141473793 : Int64)), .second, .val (.long (2305842644141473792 : Int64)), .second, .val (.long v222), .second, .val (.int (p3 &&& (3 : Int32))), .val (.long x227), .second] [])) t
      refine XS.lload X226.here hx rfl (hb hby at_109) rfl ?_
      show Steps p.tables e below (T226.setTop (mkF m 111 #[.val (.int p1), .val (.long q2), .second, .val (.int p3), .val (.ref b102), .val (.long (2305842644141473793 : Int64)), .second, .val (.long (2305842644141473792 : Int64)), .second, .val (.long v222), .second, .val (.int (p3 &&& (3 : Int32))), .val (.long x227), .second] [(.long x227)])) t
      refine XS.lload X226.here hx rfl (hb hby at_111) rfl ?_
      show Steps p.tables e below (T226.setTop (mkF m 113 #[.val (.int p1), .val (.long q2), .second, .val (.int p3), .val (.ref b102), .val (.long (2305842644141473793 : Int64)), .second, .val (.long (2305842644141473792 : Int64)), .second, .val (.long v222), .second, .val (.int (p3 &&& (3 : Int32))), .val (.long x227), .second] [(.long (2305842644141473792 : Int64)), (.long x227)])) t
      refine XS.lcmp X226.here hx rfl (hb hby at_113) rfl ?_
      show Steps p.tables e below (T226.setTop (mkF m 114 #[.val (.int p1), .val (.long q2), .second, .val (.int p3), .val (.ref b102), .val (.long (2305842644141473793 : Int64)), .second, .val (.long (2305842644141473792 : Int64)), .second, .val (.long v222), .second, .val (.int (p3 &&& (3 : Int32))), .val (.long x227), .second] [(.int (lcmpW x227 (2305842644141473792 : Int64)))])) t
      refine XS.ifYes X226.here hx rfl (pc0 := 114) (pc' := 119) rfl (hb hby at_114) rfl ((if0 _ _).trans (flt (show ¬ ((0 : Int32) < (lcmpW x227 (2305842644141473792 : Int64))) by rw [lcW]; exact fun q => hd237 ((lc_gt _ _).mp q))).2.2.2) (by decide) (by decide) ?_
      show Steps p.tables e below (T226.setTop (mkF m 119 #[.val (.int p1), .val (.long q2), .second, .val (.int p3), .val (.ref b102), .val (.long (2305842644141473793 : Int64)), .second, .val (.long (2305842644141473792 : Int64)), .second, .val (.long v222), .second, .val (.int (p3 &&& (3 : Int32))), .val (.long x227), .second] [])) t
      refine XS.aload X226.here hx rfl (hb hby at_119) rfl rfl ?_
      show Steps p.tables e below (T226.setTop (mkF m 121 #[.val (.int p1), .val (.long q2), .second, .val (.int p3), .val (.ref b102), .val (.long (2305842644141473793 : Int64)), .second, .val (.long (2305842644141473792 : Int64)), .second, .val (.long v222), .second, .val (.int (p3 &&& (3 : Int32))), .val (.long x227), .second] [(.ref b102)])) t
      refine XS.lload X226.here hx rfl (hb hby at_121) rfl ?_
      show Steps p.tables e below (T226.setTop (mkF m 123 #[.val (.int p1), .val (.long q2), .second, .val (.int p3), .val (.ref b102), .val (.long (2305842644141473793 : Int64)), .second, .val (.long (2305842644141473792 : Int64)), .second, .val (.long v222), .second, .val (.int (p3 &&& (3 : Int32))), .val (.long x227), .second] [(.long v222), (.ref b102)])) t
      refine XS.lload X226.here hx rfl (hb hby at_123) rfl ?_
      show Steps p.tables e below (T226.setTop (mkF m 125 #[.val (.int p1), .val (.long q2), .second, .val (.int p3), .val (.ref b102), .val (.long (2305842644141473793 : Int64)), .second, .val (.long (2305842644141473792 : Int64)), .second, .val (.long v222), .second, .val (.int (p3 &&& (3 : Int32))), .val (.long x227), .second] [(.long x227), (.long v222), (.ref b102)])) t
      refine st238.trans ?_
      show Steps p.tables e below (T238.setTop (mkF m 128 #[.val (.int p1), .val (.long q2), .second, .val (.int p3), .val (.ref b102), .val (.long (2305842644141473793 : Int64)), .second, .val (.long (2305842644141473792 : Int64)), .second, .val (.long v222), .second, .val (.int (p3 &&& (3 : Int32))), .val (.long x227), .second] [(.long (own_mul v222 x227 (2305842644141473793 : Int64) (-2305842644141473791 : Int64) (1350428427567992384 : Int64)))])) t
      refine XS.lconst X238.here hx rfl (hb hby at_128) ?_
      show Steps p.tables e below (T238.setTop (mkF m 129 #[.val (.int p1), .val (.long q2), .second, .val (.int p3), .val (.ref b102), .val (.long (2305842644141473793 : Int64)), .second, .val (.long (2305842644141473792 : Int64)), .second, .val (.long v222), .second, .val (.int (p3 &&& (3 : Int32))), .val (.long x227), .second] [(.long (1 : Int64)), (.long (own_mul v222 x227 (2305842644141473793 : Int64) (-2305842644141473791 : Int64) (1350428427567992384 : Int64)))])) t
      refine XS.lcmp X238.here hx rfl (hb hby at_129) rfl ?_
      show Steps p.tables e below (T238.setTop (mkF m 130 #[.val (.int p1), .val (.long q2), .second, .val (.int p3), .val (.ref b102), .val (.long (2305842644141473793 : Int64)), .second, .val (.long (2305842644141473792 : Int64)), .second, .val (.long v222), .second, .val (.int (p3 &&& (3 : Int32))), .val (.long x227), .second] [(.int (lcmpW (own_mul v222 x227 (2305842644141473793 : Int64) (-2305842644141473791 : Int64) (1350428427567992384 : Int64)) (1 : Int64)))])) t
      refine XS.ifNo X238.here hx rfl (hb hby at_130) rfl ((if0 _ _).trans (teq (show (lcmpW (own_mul v222 x227 (2305842644141473793 : Int64) (-2305842644141473791 : Int64) (1350428427567992384 : Int64)) (1 : Int64)) = (0 : Int32) by rw [lcW]; exact (lc_eq _ _).mpr hd239)).2) ?_
      show Steps p.tables e below (T238.setTop (mkF m 133 #[.val (.int p1), .val (.long q2), .second, .val (.int p3), .val (.ref b102), .val (.long (2305842644141473793 : Int64)), .second, .val (.long (2305842644141473792 : Int64)), .second, .val (.long v222), .second, .val (.int (p3 &&& (3 : Int32))), .val (.long x227), .second] [])) t
      refine XS.iconst X238.here hx rfl (hb hby at_133) ?_
      show Steps p.tables e below (T238.setTop (mkF m 134 #[.val (.int p1), .val (.long q2), .second, .val (.int p3), .val (.ref b102), .val (.long (2305842644141473793 : Int64)), .second, .val (.long (2305842644141473792 : Int64)), .second, .val (.long v222), .second, .val (.int (p3 &&& (3 : Int32))), .val (.long x227), .second] [(.int (1 : Int32))])) t
      refine XS.goto X238.here hx rfl (pc0 := 134) (pc' := 138) rfl (hb hby at_134) (by decide) (by decide) ?_
      exact k)
    obtain ⟨fs, hr, hrun, hended, hW, hsame⟩ := X238.leave (v := some (.int (1 : Int32))) (fun h => by rw [Bd.returns] at h; cases h)
    refine ⟨_, _, pre240 _ ?_, hrun, hended, _, _, rfl, ?_, ⟨_, rfl⟩, hW, hsame.mono (by decide) (by decide)⟩
    · exact retN X238 hx (t := .boolean) Bd.returns (by simp) (hb hby at_138) hr
    · show Q0 Z p1 q2 p3 wP kP wN kN h0 n0 _ T238.heap _
      rw [e238]
      exact ⟨rfl, N238⟩
  · have pre241 : ∀ t, Steps p.tables e below (T102.setTop (mkF m 7 #[.val (.int p1), .val (.long q2), .second, .val (.int p3), .unset, .unset, .unset, .unset, .unset, .unset, .unset, .unset, .unset, .unset] [(.int (3 : Int32)), (.ref b102), (.ref b102)])) t → Steps p.tables e below (s₁.setTop (entryFrame m #[(.int p1), (.long q2), (.int p3)] maxLocals)) t := fun t k => pre113 t (by rw [show (p1 &&& (3 : Int32)) = (3 : Int32) from hs114]; exact k)
    obtain ⟨_, _, ⟨T242, L242, k242, n242⟩, -, X242, ⟨Lc242, hQ242, l242, y242, z242⟩, st242⟩ := X102.specialBack hx (y := (⟨"com/example/libsld/libsld/PrimeField", "<init>", "(I)V"⟩ : MethodName)) rfl hown (mvT hZ (own_i hw 3 rfl)) (mvT hZ (own_i hw 4 rfl)) (mvT hZ (own_i hw 5 rfl)) (by decide) (backOf (W := 1) (rmI3 l Z a0 hw [] b102 wP kP wN kN h102 n0 f110 SP AP SN AN f111 f105 f106 f107 f108 f109 A102 ga103) hZ (own_i hw 5 rfl) (own_i hw 2 rfl) (by decide) (by decide)) (g := (mkF m 7 #[.val (.int p1), .val (.long q2), .second, .val (.int p3), .unset, .unset, .unset, .unset, .unset, .unset, .unset, .unset, .unset, .unset] [(.int (3 : Int32)), (.ref b102), (.ref b102)])) rfl (by rw [hml]; rfl) (Steps.refl _) (a := b102) (argsL := [(.int (3 : Int32))]) (rest := [(.ref b102)]) (lenOf pd_2 rfl) rfl (by show 2 * 0 + _ ≤ _; exact Nat.le_of_eq rfl) (hb hby at_7) (fun _ _ => ⟨rfl, e102, (by decide : 1 + 1 ≤ _), (by decide : 5 + 33 ≤ _)⟩)
    dsimp only [Pt.U, Pt.locs, Pt.cells, Pt.slots] at X242 l242 y242 z242 st242 hQ242
    subst l242 y242 z242
    obtain ⟨rfl, N242q, K242, f243, f244, f245, f246⟩ := hQ242
    have N242 := Fr.app N0 N242q
    have f247 := Nat.le_trans f110 K242.1
    have f248 := f111.keep K242 (allS ga103 all0)
    have f249 := f112.trans K242 (allS (Or.inr sz104) all0)
    obtain ⟨T250, X250, e250, st250⟩ := getF X242 hx hZ hown (host := "") (Or.inl (own_i hw 56 rfl)) Via.refl rfl f244 (g := (mkF m 14 #[.val (.int p1), .val (.long q2), .second, .val (.int p3), .val (.ref b102), .unset, .unset, .unset, .unset, .unset, .unset, .unset, .unset, .unset] [(.ref b102)])) rfl rfl (hb hby at_14)
    have pre251 : ∀ t, Steps p.tables e below (T250.setTop (mkF m 23 #[.val (.int p1), .val (.long q2), .second, .val (.int p3), .val (.ref b102), .val (.long (2305842343493763073 : Int64)), .second, .unset, .unset, .unset, .unset, .unset, .unset, .unset] [(.long ((2305842343493763073 : Int64) - (1 : Int64)))])) t → Steps p.tables e below (s₁.setTop (entryFrame m #[(.int p1), (.long q2), (.int p3)] maxLocals)) t := fun t k => pre241 t (by
      show Steps p.tables e below (T102.setTop (mkF m 7 #[.val (.int p1), .val (.long q2), .second, .val (.int p3), .unset, .unset, .unset, .unset, .unset, .unset, .unset, .unset, .unset, .unset] [(.int (3 : Int32)), (.ref b102), (.ref b102)])) t
      refine st242.trans ?_
      show Steps p.tables e below (T242.setTop (mkF m 10 #[.val (.int p1), .val (.long q2), .second, .val (.int p3), .unset, .unset, .unset, .unset, .unset, .unset, .unset, .unset, .unset, .unset] [(.ref b102)])) t
      refine XS.astore X242.here hx rfl (hb hby at_10) rfl rfl (l' := #[.val (.int p1), .val (.long q2), .second, .val (.int p3), .val (.ref b102), .unset, .unset, .unset, .unset, .unset, .unset, .unset, .unset, .unset]) rfl ?_
      show Steps p.tables e below (T242.setTop (mkF m 12 #[.val (.int p1), .val (.long q2), .second, .val (.int p3), .val (.ref b102), .unset, .unset, .unset, .unset, .unset, .unset, .unset, .unset, .unset] [])) t
      refine XS.aload X242.here hx rfl (hb hby at_12) rfl rfl ?_
      show Steps p.tables e below (T242.setTop (mkF m 14 #[.val (.int p1), .val (.long q2), .second, .val (.int p3), .val (.ref b102), .unset, .unset, .unset, .unset, .unset, .unset, .unset, .unset, .unset] [(.ref b102)])) t
      refine st250 _ ?_
      show Steps p.tables e below (T250.setTop (mkF m 17 #[.val (.int p1), .val (.long q2), .second, .val (.int p3), .val (.ref b102), .unset, .unset, .unset, .unset, .unset, .unset, .unset, .unset, .unset] [(.long (2305842343493763073 : Int64))])) t
      refine XS.lstore X250.here hx rfl (hb hby at_17) rfl (l' := #[.val (.int p1), .val (.long q2), .second, .val (.int p3), .val (.ref b102), .val (.long (2305842343493763073 : Int64)), .second, .unset, .unset, .unset, .unset, .unset, .unset, .unset]) rfl ?_
      show Steps p.tables e below (T250.setTop (mkF m 19 #[.val (.int p1), .val (.long q2), .second, .val (.int p3), .val (.ref b102), .val (.long (2305842343493763073 : Int64)), .second, .unset, .unset, .unset, .unset, .unset, .unset, .unset] [])) t
      refine XS.lload X250.here hx rfl (hb hby at_19) rfl ?_
      show Steps p.tables e below (T250.setTop (mkF m 21 #[.val (.int p1), .val (.long q2), .second, .val (.int p3), .val (.ref b102), .val (.long (2305842343493763073 : Int64)), .second, .unset, .unset, .unset, .unset, .unset, .unset, .unset] [(.long (2305842343493763073 : Int64))])) t
      refine XS.lconst X250.here hx rfl (hb hby at_21) ?_
      show Steps p.tables e below (T250.setTop (mkF m 22 #[.val (.int p1), .val (.long q2), .second, .val (.int p3), .val (.ref b102), .val (.long (2305842343493763073 : Int64)), .second, .unset, .unset, .unset, .unset, .unset, .unset, .unset] [(.long (1 : Int64)), (.long (2305842343493763073 : Int64))])) t
      refine XS.lsub X250.here hx rfl (hb hby at_22) rfl ?_
      exact k)
    have pre252 : ∀ t, Steps p.tables e below (T250.setTop (mkF m 23 #[.val (.int p1), .val (.long q2), .second, .val (.int p3), .val (.ref b102), .val (.long (2305842343493763073 : Int64)), .second, .unset, .unset, .unset, .unset, .unset, .unset, .unset] [(.long (2305842343493763072 : Int64))])) t → Steps p.tables e below (s₁.setTop (entryFrame m #[(.int p1), (.long q2), (.int p3)] maxLocals)) t := fun t k => pre251 t (by rw [show ((2305842343493763073 : Int64) - (1 : Int64)) = (2305842343493763072 : Int64) from (by decide +kernel)]; exact k)
    have pre253 : ∀ t, Steps p.tables e below (T250.setTop (mkF m 30 #[.val (.int p1), .val (.long q2), .second, .val (.int p3), .val (.ref b102), .val (.long (2305842343493763073 : Int64)), .second, .val (.long (2305842343493763072 : Int64)), .second, .unset, .unset, .val (.int (p3 &&& (3 : Int32))), .unset, .unset] [])) t → Steps p.tables e below (s₁.setTop (entryFrame m #[(.int p1), (.long q2), (.int p3)] maxLocals)) t := fun t k => pre252 t (by
      show Steps p.tables e below (T250.setTop (mkF m 23 #[.val (.int p1), .val (.long q2), .second, .val (.int p3), .val (.ref b102), .val (.long (2305842343493763073 : Int64)), .second, .unset, .unset, .unset, .unset, .unset, .unset, .unset] [(.long (2305842343493763072 : Int64))])) t
      refine XS.lstore X250.here hx rfl (hb hby at_23) rfl (l' := #[.val (.int p1), .val (.long q2), .second, .val (.int p3), .val (.ref b102), .val (.long (2305842343493763073 : Int64)), .second, .val (.long (2305842343493763072 : Int64)), .second, .unset, .unset, .unset, .unset, .unset]) rfl ?_
      show Steps p.tables e below (T250.setTop (mkF m 25 #[.val (.int p1), .val (.long q2), .second, .val (.int p3), .val (.ref b102), .val (.long (2305842343493763073 : Int64)), .second, .val (.long (2305842343493763072 : Int64)), .second, .unset, .unset, .unset, .unset, .unset] [])) t
      refine XS.iloadN X250.here hx rfl (hb hby at_25) rfl ?_
      show Steps p.tables e below (T250.setTop (mkF m 26 #[.val (.int p1), .val (.long q2), .second, .val (.int p3), .val (.ref b102), .val (.long (2305842343493763073 : Int64)), .second, .val (.long (2305842343493763072 : Int64)), .second, .unset, .unset, .unset, .unset, .unset] [(.int p3)])) t
      refine XS.iconst X250.here hx rfl (hb hby at_26) ?_
      show Steps p.tables e below (T250.setTop (mkF m 27 #[.val (.int p1), .val (.long q2), .second, .val (.int p3), .val (.ref b102), .val (.long (2305842343493763073 : Int64)), .second, .val (.long (2305842343493763072 : Int64)), .second, .unset, .unset, .unset, .unset, .unset] [(.int (3 : Int32)), (.int p3)])) t
      refine XS.iand X250.here hx rfl (hb hby at_27) rfl ?_
      show Steps p.tables e below (T250.setTop (mkF m 28 #[.val (.int p1), .val (.long q2), .second, .val (.int p3), .val (.ref b102), .val (.long (2305842343493763073 : Int64)), .second, .val (.long (2305842343493763072 : Int64)), .second, .unset, .unset, .unset, .unset, .unset] [(.int (p3 &&& (3 : Int32)))])) t
      refine XS.istore X250.here hx rfl (hb hby at_28) rfl (l' := #[.val (.int p1), .val (.long q2), .second, .val (.int p3), .val (.ref b102), .val (.long (2305842343493763073 : Int64)), .second, .val (.long (2305842343493763072 : Int64)), .second, .unset, .unset, .val (.int (p3 &&& (3 : Int32))), .unset, .unset]) rfl ?_
      exact k)
    obtain ⟨v264, v265, v266, hP267, pre267⟩ : ∃ (v264 : Int64) (v265 : Slot) (v266 : Slot), ((0 < v264.toInt ∧ v264.toInt < (2305842343493763073 : Int64).toInt) ∧ ((v265 = .unset ∧ v266 = .unset) ∨ ∃ z, v265 = .val (.long z) ∧ v266 = .second)) ∧ ∀ t, Steps p.tables e below (T250.setTop (mkF m 93 #[.val (.int p1), .val (.long q2), .second, .val (.int p3), .val (.ref b102), .val (.long (2305842343493763073 : Int64)), .second, .val (.long (2305842343493763072 : Int64)), .second, .val (.long v264), .second, .val (.int (p3 &&& (3 : Int32))), v265, v266] [])) t → Steps p.tables e below (s₁.setTop (entryFrame m #[(.int p1), (.long q2), (.int p3)] maxLocals)) t := by
      have pre255 : ∀ t, Steps p.tables e below (T250.setTop (mkF m 33 #[.val (.int p1), .val (.long q2), .second, .val (.int p3), .val (.ref b102), .val (.long (2305842343493763073 : Int64)), .second, .val (.long (2305842343493763072 : Int64)), .second, .unset, .unset, .val (.int (p3 &&& (3 : Int32))), .unset, .unset] [(.int (1 : Int32)), (.int (p3 &&& (3 : Int32)))])) t → Steps p.tables e below (s₁.setTop (entryFrame m #[(.int p1), (.long q2), (.int p3)] maxLocals)) t := fun t k => pre253 t (by
        show Steps p.tables e below (T250.setTop (mkF m 30 #[.val (.int p1), .val (.long q2), .second, .val (.int p3), .val (.ref b102), .val (.long (2305842343493763073 : Int64)), .second, .val (.long (2305842343493763072 : Int64)), .second, .unset, .unset, .val (.int (p3 &&& (3 : Int32))), .unset, .unset] [])) t
        refine XS.iload X250.here hx rfl (hb hby at_30) rfl ?_
        show Steps p.tables e below (T250.setTop (mkF m 32 #[.val (.int p1), .val (.long q2), .second, .val (.int p3), .val (.ref b102), .val (.long (2305842343493763073 : Int64)), .second, .val (.long (2305842343493763072 : Int64)), .second, .unset, .unset, .val (.int (p3 &&& (3 : Int32))), .unset, .unset] [(.int (p3 &&& (3 : Int32)))])) t
        refine XS.iconst X250.here hx rfl (hb hby at_32) ?_
        exact k)
      by_cases hc254 : (p3 &&& (3 : Int32)) = (1 : Int32)
      · have pre256 : ∀ t, Steps p.tables e below (T250.setTop (mkF m 93 #[.val (.int p1), .val (.long q2), .second, .val (.int p3), .val (.ref b102), .val (.long (2305842343493763073 : Int64)), .second, .val (.long (2305842343493763072 : Int64)), .second, .val (.long ((q2 &&& (255 : Int64)) + (1 : Int64))), .second, .val (.int (p3 &&& (3 : Int32))), .unset, .unset] [])) t → Steps p.tables e below (s₁.setTop (entryFrame m #[(.int p1), (.long q2), (.int p3)] maxLocals)) t := fun t k => pre255 t (by
          show Steps p.tables e below (T250.setTop (mkF m 33 #[.val (.int p1), .val (.long q2), .second, .val (.int p3), .val (.ref b102), .val (.long (2305842343493763073 : Int64)), .second, .val (.long (2305842343493763072 : Int64)), .second, .unset, .unset, .val (.int (p3 &&& (3 : Int32))), .unset, .unset] [(.int (1 : Int32)), (.int (p3 &&& (3 : Int32)))])) t
          refine XS.icmpNo X250.here hx rfl (hb hby at_33) rfl (teq hc254).2 ?_
          show Steps p.tables e below (T250.setTop (mkF m 36 #[.val (.int p1), .val (.long q2), .second, .val (.int p3), .val (.ref b102), .val (.long (2305842343493763073 : Int64)), .second, .val (.long (2305842343493763072 : Int64)), .second, .unset, .unset, .val (.int (p3 &&& (3 : Int32))), .unset, .unset] [])) t
          refine XS.lloadN X250.here hx rfl (hb hby at_36) rfl ?_
          show Steps p.tables e below (T250.setTop (mkF m 37 #[.val (.int p1), .val (.long q2), .second, .val (.int p3), .val (.ref b102), .val (.long (2305842343493763073 : Int64)), .second, .val (.long (2305842343493763072 : Int64)), .second, .unset, .unset, .val (.int (p3 &&& (3 : Int32))), .unset, .unset] [(.long q2)])) t
          refine X250.ldc2Long hx hown (mvT hZ (own_i hw 57 rfl)) (g := (mkF m 37 #[.val (.int p1), .val (.long q2), .second, .val (.int p3), .val (.ref b102), .val (.long (2305842343493763073 : Int64)), .second, .val (.long (2305842343493763072 : Int64)), .second, .unset, .unset, .val (.int (p3 &&& (3 : Int32))), .unset, .unset] [(.long q2)])) rfl (hb hby at_37) _ ?_
          show Steps p.tables e below (T250.setTop (mkF m 40 #[.val (.int p1), .val (.long q2), .second, .val (.int p3), .val (.ref b102), .val (.long (2305842343493763073 : Int64)), .second, .val (.long (2305842343493763072 : Int64)), .second, .unset, .unset, .val (.int (p3 &&& (3 : Int32))), .unset, .unset] [(.long (255 : Int64)), (.long q2)])) t
          refine XS.land X250.here hx rfl (hb hby at_40) rfl ?_
          show Steps p.tables e below (T250.setTop (mkF m 41 #[.val (.int p1), .val (.long q2), .second, .val (.int p3), .val (.ref b102), .val (.long (2305842343493763073 : Int64)), .second, .val (.long (2305842343493763072 : Int64)), .second, .unset, .unset, .val (.int (p3 &&& (3 : Int32))), .unset, .unset] [(.long (q2 &&& (255 : Int64)))])) t
          refine XS.lconst X250.here hx rfl (hb hby at_41) ?_
          show Steps p.tables e below (T250.setTop (mkF m 42 #[.val (.int p1), .val (.long q2), .second, .val (.int p3), .val (.ref b102), .val (.long (2305842343493763073 : Int64)), .second, .val (.long (2305842343493763072 : Int64)), .second, .unset, .unset, .val (.int (p3 &&& (3 : Int32))), .unset, .unset] [(.long (1 : Int64)), (.long (q2 &&& (255 : Int64)))])) t
          refine XS.ladd X250.here hx rfl (hb hby at_42) rfl ?_
          show Steps p.tables e below (T250.setTop (mkF m 43 #[.val (.int p1), .val (.long q2), .second, .val (.int p3), .val (.ref b102), .val (.long (2305842343493763073 : Int64)), .second, .val (.long (2305842343493763072 : Int64)), .second, .unset, .unset, .val (.int (p3 &&& (3 : Int32))), .unset, .unset] [(.long ((q2 &&& (255 : Int64)) + (1 : Int64)))])) t
          refine XS.lstore X250.here hx rfl (hb hby at_43) rfl (l' := #[.val (.int p1), .val (.long q2), .second, .val (.int p3), .val (.ref b102), .val (.long (2305842343493763073 : Int64)), .second, .val (.long (2305842343493763072 : Int64)), .second, .val (.long ((q2 &&& (255 : Int64)) + (1 : Int64))), .second, .val (.int (p3 &&& (3 : Int32))), .unset, .unset]) rfl ?_
          show Steps p.tables e below (T250.setTop (mkF m 45 #[.val (.int p1), .val (.long q2), .second, .val (.int p3), .val (.ref b102), .val (.long (2305842343493763073 : Int64)), .second, .val (.long (2305842343493763072 : Int64)), .second, .val (.long ((q2 &&& (255 : Int64)) + (1 : Int64))), .second, .val (.int (p3 &&& (3 : Int32))), .unset, .unset] [])) t
          refine XS.goto X250.here hx rfl (pc0 := 45) (pc' := 93) rfl (hb hby at_45) (by decide) (by decide) ?_
          exact k)
        exact ⟨((q2 &&& (255 : Int64)) + (1 : Int64)), .unset, .unset, (by exact ⟨own_yA q2 (by decide +kernel), Or.inl ⟨rfl, rfl⟩⟩), pre256⟩
      · have pre258 : ∀ t, Steps p.tables e below (T250.setTop (mkF m 51 #[.val (.int p1), .val (.long q2), .second, .val (.int p3), .val (.ref b102), .val (.long (2305842343493763073 : Int64)), .second, .val (.long (2305842343493763072 : Int64)), .second, .unset, .unset, .val (.int (p3 &&& (3 : Int32))), .unset, .unset] [(.int (2 : Int32)), (.int (p3 &&& (3 : Int32)))])) t → Steps p.tables e below (s₁.setTop (entryFrame m #[(.int p1), (.long q2), (.int p3)] maxLocals)) t := fun t k => pre255 t (by
          show Steps p.tables e below (T250.setTop (mkF m 33 #[.val (.int p1), .val (.long q2), .second, .val (.int p3), .val (.ref b102), .val (.long (2305842343493763073 : Int64)), .second, .val (.long (2305842343493763072 : Int64)), .second, .unset, .unset, .val (.int (p3 &&& (3 : Int32))), .unset, .unset] [(.int (1 : Int32)), (.int (p3 &&& (3 : Int32)))])) t
          refine XS.icmpYes X250.here hx rfl (pc0 := 33) (pc' := 48) rfl (hb hby at_33) rfl (feq hc254).2 (by decide) (by decide) ?_
          show Steps p.tables e below (T250.setTop (mkF m 48 #[.val (.int p1), .val (.long q2), .second, .val (.int p3), .val (.ref b102), .val (.long (2305842343493763073 : Int64)), .second, .val (.long (2305842343493763072 : Int64)), .second, .unset, .unset, .val (.int (p3 &&& (3 : Int32))), .unset, .unset] [])) t
          refine XS.iload X250.here hx rfl (hb hby at_48) rfl ?_
          show Steps p.tables e below (T250.setTop (mkF m 50 #[.val (.int p1), .val (.long q2), .second, .val (.int p3), .val (.ref b102), .val (.long (2305842343493763073 : Int64)), .second, .val (.long (2305842343493763072 : Int64)), .second, .unset, .unset, .val (.int (p3 &&& (3 : Int32))), .unset, .unset] [(.int (p3 &&& (3 : Int32)))])) t
          refine XS.iconst X250.here hx rfl (hb hby at_50) ?_
          exact k)
        by_cases hc257 : (p3 &&& (3 : Int32)) = (2 : Int32)
        · have pre259 : ∀ t, Steps p.tables e below (T250.setTop (mkF m 93 #[.val (.int p1), .val (.long q2), .second, .val (.int p3), .val (.ref b102), .val (.long (2305842343493763073 : Int64)), .second, .val (.long (2305842343493763072 : Int64)), .second, .val (.long ((2305842343493763072 : Int64) - (q2 &&& (255 : Int64)))), .second, .val (.int (p3 &&& (3 : Int32))), .unset, .unset] [])) t → Steps p.tables e below (s₁.setTop (entryFrame m #[(.int p1), (.long q2), (.int p3)] maxLocals)) t := fun t k => pre258 t (by
            show Steps p.tables e below (T250.setTop (mkF m 51 #[.val (.int p1), .val (.long q2), .second, .val (.int p3), .val (.ref b102), .val (.long (2305842343493763073 : Int64)), .second, .val (.long (2305842343493763072 : Int64)), .second, .unset, .unset, .val (.int (p3 &&& (3 : Int32))), .unset, .unset] [(.int (2 : Int32)), (.int (p3 &&& (3 : Int32)))])) t
            refine XS.icmpNo X250.here hx rfl (hb hby at_51) rfl (teq hc257).2 ?_
            show Steps p.tables e below (T250.setTop (mkF m 54 #[.val (.int p1), .val (.long q2), .second, .val (.int p3), .val (.ref b102), .val (.long (2305842343493763073 : Int64)), .second, .val (.long (2305842343493763072 : Int64)), .second, .unset, .unset, .val (.int (p3 &&& (3 : Int32))), .unset, .unset] [])) t
            refine XS.lload X250.here hx rfl (hb hby at_54) rfl ?_
            show Steps p.tables e below (T250.setTop (mkF m 56 #[.val (.int p1), .val (.long q2), .second, .val (.int p3), .val (.ref b102), .val (.long (2305842343493763073 : Int64)), .second, .val (.long (2305842343493763072 : Int64)), .second, .unset, .unset, .val (.int (p3 &&& (3 : Int32))), .unset, .unset] [(.long (2305842343493763072 : Int64))])) t
            refine XS.lloadN X250.here hx rfl (hb hby at_56) rfl ?_
            show Steps p.tables e below (T250.setTop (mkF m 57 #[.val (.int p1), .val (.long q2), .second, .val (.int p3), .val (.ref b102), .val (.long (2305842343493763073 : Int64)), .second, .val (.long (2305842343493763072 : Int64)), .second, .unset, .unset, .val (.int (p3 &&& (3 : Int32))), .unset, .unset] [(.long q2), (.long (2305842343493763072 : Int64))])) t
            refine X250.ldc2Long hx hown (mvT hZ (own_i hw 57 rfl)) (g := (mkF m 57 #[.val (.int p1), .val (.long q2), .second, .val (.int p3), .val (.ref b102), .val (.long (2305842343493763073 : Int64)), .second, .val (.long (2305842343493763072 : Int64)), .second, .unset, .unset, .val (.int (p3 &&& (3 : Int32))), .unset, .unset] [(.long q2), (.long (2305842343493763072 : Int64))])) rfl (hb hby at_57) _ ?_
            show Steps p.tables e below (T250.setTop (mkF m 60 #[.val (.int p1), .val (.long q2), .second, .val (.int p3), .val (.ref b102), .val (.long (2305842343493763073 : Int64)), .second, .val (.long (2305842343493763072 : Int64)), .second, .unset, .unset, .val (.int (p3 &&& (3 : Int32))), .unset, .unset] [(.long (255 : Int64)), (.long q2), (.long (2305842343493763072 : Int64))])) t
            refine XS.land X250.here hx rfl (hb hby at_60) rfl ?_
            show Steps p.tables e below (T250.setTop (mkF m 61 #[.val (.int p1), .val (.long q2), .second, .val (.int p3), .val (.ref b102), .val (.long (2305842343493763073 : Int64)), .second, .val (.long (2305842343493763072 : Int64)), .second, .unset, .unset, .val (.int (p3 &&& (3 : Int32))), .unset, .unset] [(.long (q2 &&& (255 : Int64))), (.long (2305842343493763072 : Int64))])) t
            refine XS.lsub X250.here hx rfl (hb hby at_61) rfl ?_
            show Steps p.tables e below (T250.setTop (mkF m 62 #[.val (.int p1), .val (.long q2), .second, .val (.int p3), .val (.ref b102), .val (.long (2305842343493763073 : Int64)), .second, .val (.long (2305842343493763072 : Int64)), .second, .unset, .unset, .val (.int (p3 &&& (3 : Int32))), .unset, .unset] [(.long ((2305842343493763072 : Int64) - (q2 &&& (255 : Int64))))])) t
            refine XS.lstore X250.here hx rfl (hb hby at_62) rfl (l' := #[.val (.int p1), .val (.long q2), .second, .val (.int p3), .val (.ref b102), .val (.long (2305842343493763073 : Int64)), .second, .val (.long (2305842343493763072 : Int64)), .second, .val (.long ((2305842343493763072 : Int64) - (q2 &&& (255 : Int64)))), .second, .val (.int (p3 &&& (3 : Int32))), .unset, .unset]) rfl ?_
            show Steps p.tables e below (T250.setTop (mkF m 64 #[.val (.int p1), .val (.long q2), .second, .val (.int p3), .val (.ref b102), .val (.long (2305842343493763073 : Int64)), .second, .val (.long (2305842343493763072 : Int64)), .second, .val (.long ((2305842343493763072 : Int64) - (q2 &&& (255 : Int64)))), .second, .val (.int (p3 &&& (3 : Int32))), .unset, .unset] [])) t
            refine XS.goto X250.here hx rfl (pc0 := 64) (pc' := 93) rfl (hb hby at_64) (by decide) (by decide) ?_
            exact k)
          exact ⟨((2305842343493763072 : Int64) - (q2 &&& (255 : Int64))), .unset, .unset, (by exact ⟨own_yB (M := (2305842343493763072 : Int64)) q2 (by decide +kernel), Or.inl ⟨rfl, rfl⟩⟩), pre259⟩
        · have pre261 : ∀ t, Steps p.tables e below (T250.setTop (mkF m 77 #[.val (.int p1), .val (.long q2), .second, .val (.int p3), .val (.ref b102), .val (.long (2305842343493763073 : Int64)), .second, .val (.long (2305842343493763072 : Int64)), .second, .unset, .unset, .val (.int (p3 &&& (3 : Int32))), .val (.long (q2 - (q2 / (2305842343493763072 : Int64)) * (2305842343493763072 : Int64))), .second] [(.int (lcmpW (q2 - (q2 / (2305842343493763072 : Int64)) * (2305842343493763072 : Int64)) (0 : Int64)))])) t → Steps p.tables e below (s₁.setTop (entryFrame m #[(.int p1), (.long q2), (.int p3)] maxLocals)) t := fun t k => pre258 t (by
            show Steps p.tables e below (T250.setTop (mkF m 51 #[.val (.int p1), .val (.long q2), .second, .val (.int p3), .val (.ref b102), .val (.long (2305842343493763073 : Int64)), .second, .val (.long (2305842343493763072 : Int64)), .second, .unset, .unset, .val (.int (p3 &&& (3 : Int32))), .unset, .unset] [(.int (2 : Int32)), (.int (p3 &&& (3 : Int32)))])) t
            refine XS.icmpYes X250.here hx rfl (pc0 := 51) (pc' := 67) rfl (hb hby at_51) rfl (feq hc257).2 (by decide) (by decide) ?_
            show Steps p.tables e below (T250.setTop (mkF m 67 #[.val (.int p1), .val (.long q2), .second, .val (.int p3), .val (.ref b102), .val (.long (2305842343493763073 : Int64)), .second, .val (.long (2305842343493763072 : Int64)), .second, .unset, .unset, .val (.int (p3 &&& (3 : Int32))), .unset, .unset] [])) t
            refine XS.lloadN X250.here hx rfl (hb hby at_67) rfl ?_
            show Steps p.tables e below (T250.setTop (mkF m 68 #[.val (.int p1), .val (.long q2), .second, .val (.int p3), .val (.ref b102), .val (.long (2305842343493763073 : Int64)), .second, .val (.long (2305842343493763072 : Int64)), .second, .unset, .unset, .val (.int (p3 &&& (3 : Int32))), .unset, .unset] [(.long q2)])) t
            refine XS.lload X250.here hx rfl (hb hby at_68) rfl ?_
            show Steps p.tables e below (T250.setTop (mkF m 70 #[.val (.int p1), .val (.long q2), .second, .val (.int p3), .val (.ref b102), .val (.long (2305842343493763073 : Int64)), .second, .val (.long (2305842343493763072 : Int64)), .second, .unset, .unset, .val (.int (p3 &&& (3 : Int32))), .unset, .unset] [(.long (2305842343493763072 : Int64)), (.long q2)])) t
            refine XS.lrem X250.here hx rfl (hb hby at_70) rfl (by decide) ?_
            show Steps p.tables e below (T250.setTop (mkF m 71 #[.val (.int p1), .val (.long q2), .second, .val (.int p3), .val (.ref b102), .val (.long (2305842343493763073 : Int64)), .second, .val (.long (2305842343493763072 : Int64)), .second, .unset, .unset, .val (.int (p3 &&& (3 : Int32))), .unset, .unset] [(.long (q2 - (q2 / (2305842343493763072 : Int64)) * (2305842343493763072 : Int64)))])) t
            refine XS.lstore X250.here hx rfl (hb hby at_71) rfl (l' := #[.val (.int p1), .val (.long q2), .second, .val (.int p3), .val (.ref b102), .val (.long (2305842343493763073 : Int64)), .second, .val (.long (2305842343493763072 : Int64)), .second, .unset, .unset, .val (.int (p3 &&& (3 : Int32))), .val (.long (q2 - (q2 / (2305842343493763072 : Int64)) * (2305842343493763072 : Int64))), .second]) rfl ?_
            show Steps p.tables e below (T250.setTop (mkF m 73 #[.val (.int p1), .val (.long q2), .second, .val (.int p3), .val (.ref b102), .val (.long (2305842343493763073 : Int64)), .second, .val (.long (2305842343493763072 : Int64)), .second, .unset, .unset, .val (.int (p3 &&& (3 : Int32))), .val (.long (q2 - (q2 / (2305842343493763072 : Int64)) * (2305842343493763072 : Int64))), .second] [])) t
            refine XS.lload X250.here hx rfl (hb hby at_73) rfl ?_
            show Steps p.tables e below (T250.setTop (mkF m 75 #[.val (.int p1), .val (.long q2), .second, .val (.int p3), .val (.ref b102), .val (.long (2305842343493763073 : Int64)), .second, .val (.long (2305842343493763072 : Int64)), .second, .unset, .unset, .val (.int (p3 &&& (3 : Int32))), .val (.long (q2 - (q2 / (2305842343493763072 : Int64)) * (2305842343493763072 : Int64))), .second] [(.long (q2 - (q2 / (2305842343493763072 : Int64)) * (2305842343493763072 : Int64)))])) t
            refine XS.lconst X250.here hx rfl (hb hby at_75) ?_
            show Steps p.tables e below (T250.setTop (mkF m 76 #[.val (.int p1), .val (.long q2), .second, .val (.int p3), .val (.ref b102), .val (.long (2305842343493763073 : Int64)), .second, .val (.long (2305842343493763072 : Int64)), .second, .unset, .unset, .val (.int (p3 &&& (3 : Int32))), .val (.long (q2 - (q2 / (2305842343493763072 : Int64)) * (2305842343493763072 : Int64))), .second] [(.long (0 : Int64)), (.long (q2 - (q2 / (2305842343493763072 : Int64)) * (2305842343493763072 : Int64)))])) t
            refine XS.lcmp X250.here hx rfl (hb hby at_76) rfl ?_
            exact k)
          by_cases hc260 : (q2 - (q2 / (2305842343493763072 : Int64)) * (2305842343493763072 : Int64)) < (0 : Int64)
          · have pre262 : ∀ t, Steps p.tables e below (T250.setTop (mkF m 93 #[.val (.int p1), .val (.long q2), .second, .val (.int p3), .val (.ref b102), .val (.long (2305842343493763073 : Int64)), .second, .val (.long (2305842343493763072 : Int64)), .second, .val (.long (((q2 - (q2 / (2305842343493763072 : Int64)) * (2305842343493763072 : Int64)) + (2305842343493763072 : Int64)) + (1 : Int64))), .second, .val (.int (p3 &&& (3 : Int32))), .val (.long ((q2 - (q2 / (2305842343493763072 : Int64)) * (2305842343493763072 : Int64)) + (2305842343493763072 : Int64))), .second] [])) t → Steps p.tables e below (s₁.setTop (entryFrame m #[(.int p1), (.long q2), (.int p3)] maxLocals)) t := fun t k => pre261 t (by
              show Steps p.tables e below (T250.setTop (mkF m 77 #[.val (.int p1), .val (.long q2), .second, .val (.int p3), .val (.ref b102), .val (.long (2305842343493763073 : Int64)), .second, .val (.long (2305842343493763072 : Int64)), .second, .unset, .unset, .val (.int (p3 &&& (3 : Int32))), .val (.long (q2 - (q2 / (2305842343493763072 : Int64)) * (2305842343493763072 : Int64))), .second] [(.int (lcmpW (q2 - (q2 / (2305842343493763072 : Int64)) * (2305842343493763072 : Int64)) (0 : Int64)))])) t
              refine XS.ifNo X250.here hx rfl (hb hby at_77) rfl ((if0 _ _).trans (tlt (show (lcmpW (q2 - (q2 / (2305842343493763072 : Int64)) * (2305842343493763072 : Int64)) (0 : Int64)) < (0 : Int32) by rw [lcW]; exact (lc_lt _ _).mpr hc260)).2.1) ?_
              show Steps p.tables e below (T250.setTop (mkF m 80 #[.val (.int p1), .val (.long q2), .second, .val (.int p3), .val (.ref b102), .val (.long (2305842343493763073 : Int64)), .second, .val (.long (2305842343493763072 : Int64)), .second, .unset, .unset, .val (.int (p3 &&& (3 : Int32))), .val (.long (q2 - (q2 / (2305842343493763072 : Int64)) * (2305842343493763072 : Int64))), .second] [])) t
              refine XS.lload X250.here hx rfl (hb hby at_80) rfl ?_
              show Steps p.tables e below (T250.setTop (mkF m 82 #[.val (.int p1), .val (.long q2), .second, .val (.int p3), .val (.ref b102), .val (.long (2305842343493763073 : Int64)), .second, .val (.long (2305842343493763072 : Int64)), .second, .unset, .unset, .val (.int (p3 &&& (3 : Int32))), .val (.long (q2 - (q2 / (2305842343493763072 : Int64)) * (2305842343493763072 : Int64))), .second] [(.long (q2 - (q2 / (2305842343493763072 : Int64)) * (2305842343493763072 : Int64)))])) t
              refine XS.lload X250.here hx rfl (hb hby at_82) rfl ?_
              show Steps p.tables e below (T250.setTop (mkF m 84 #[.val (.int p1), .val (.long q2), .second, .val (.int p3), .val (.ref b102), .val (.long (2305842343493763073 : Int64)), .second, .val (.long (2305842343493763072 : Int64)), .second, .unset, .unset, .val (.int (p3 &&& (3 : Int32))), .val (.long (q2 - (q2 / (2305842343493763072 : Int64)) * (2305842343493763072 : Int64))), .second] [(.long (2305842343493763072 : Int64)), (.long (q2 - (q2 / (2305842343493763072 : Int64)) * (2305842343493763072 : Int64)))])) t
              refine XS.ladd X250.here hx rfl (hb hby at_84) rfl ?_
              show Steps p.tables e below (T250.setTop (mkF m 85 #[.val (.int p1), .val (.long q2), .second, .val (.int p3), .val (.ref b102), .val (.long (2305842343493763073 : Int64)), .second, .val (.long (2305842343493763072 : Int64)), .second, .unset, .unset, .val (.int (p3 &&& (3 : Int32))), .val (.long (q2 - (q2 / (2305842343493763072 : Int64)) * (2305842343493763072 : Int64))), .second] [(.long ((q2 - (q2 / (2305842343493763072 : Int64)) * (2305842343493763072 : Int64)) + (2305842343493763072 : Int64)))])) t
              refine XS.lstore X250.here hx rfl (hb hby at_85) rfl (l' := #[.val (.int p1), .val (.long q2), .second, .val (.int p3), .val (.ref b102), .val (.long (2305842343493763073 : Int64)), .second, .val (.long (2305842343493763072 : Int64)), .second, .unset, .unset, .val (.int (p3 &&& (3 : Int32))), .val (.long ((q2 - (q2 / (2305842343493763072 : Int64)) * (2305842343493763072 : Int64)) + (2305842343493763072 : Int64))), .second]) rfl ?_
              show Steps p.tables e below (T250.setTop (mkF m 87 #[.val (.int p1), .val (.long q2), .second, .val (.int p3), .val (.ref b102), .val (.long (2305842343493763073 : Int64)), .second, .val (.long (2305842343493763072 : Int64)), .second, .unset, .unset, .val (.int (p3 &&& (3 : Int32))), .val (.long ((q2 - (q2 / (2305842343493763072 : Int64)) * (2305842343493763072 : Int64)) + (2305842343493763072 : Int64))), .second] [])) t
              refine XS.lload X250.here hx rfl (hb hby at_87) rfl ?_
              show Steps p.tables e below (T250.setTop (mkF m 89 #[.val (.int p1), .val (.long q2), .second, .val (.int p3), .val (.ref b102), .val (.long (2305842343493763073 : Int64)), .second, .val (.long (2305842343493763072 : Int64)), .second, .unset, .unset, .val (.int (p3 &&& (3 : Int32))), .val (.long ((q2 - (q2 / (2305842343493763072 : Int64)) * (2305842343493763072 : Int64)) + (2305842343493763072 : Int64))), .second] [(.long ((q2 - (q2 / (2305842343493763072 : Int64)) * (2305842343493763072 : Int64)) + (2305842343493763072 : Int64)))])) t
              refine XS.lconst X250.here hx rfl (hb hby at_89) ?_
              show Steps p.tables e below (T250.setTop (mkF m 90 #[.val (.int p1), .val (.long q2), .second, .val (.int p3), .val (.ref b102), .val (.long (2305842343493763073 : Int64)), .second, .val (.long (2305842343493763072 : Int64)), .second, .unset, .unset, .val (.int (p3 &&& (3 : Int32))), .val (.long ((q2 - (q2 / (2305842343493763072 : Int64)) * (2305842343493763072 : Int64)) + (2305842343493763072 : Int64))), .second] [(.long (1 : Int64)), (.long ((q2 - (q2 / (2305842343493763072 : Int64)) * (2305842343493763072 : Int64)) + (2305842343493763072 : Int64)))])) t
              refine XS.ladd X250.here hx rfl (hb hby at_90) rfl ?_
              show Steps p.tables e below (T250.setTop (mkF m 91 #[.val (.int p1), .val (.long q2), .second, .val (.int p3), .val (.ref b102), .val (.long (2305842343493763073 : Int64)), .second, .val (.long (2305842343493763072 : Int64)), .second, .unset, .unset, .val (.int (p3 &&& (3 : Int32))), .val (.long ((q2 - (q2 / (2305842343493763072 : Int64)) * (2305842343493763072 : Int64)) + (2305842343493763072 : Int64))), .second] [(.long (((q2 - (q2 / (2305842343493763072 : Int64)) * (2305842343493763072 : Int64)) + (2305842343493763072 : Int64)) + (1 : Int64)))])) t
              refine XS.lstore X250.here hx rfl (hb hby at_91) rfl (l' := #[.val (.int p1), .val (.long q2), .second, .val (.int p3), .val (.ref b102), .val (.long (2305842343493763073 : Int64)), .second, .val (.long (2305842343493763072 : Int64)), .second, .val (.long (((q2 - (q2 / (2305842343493763072 : Int64)) * (2305842343493763072 : Int64)) + (2305842343493763072 : Int64)) + (1 : Int64))), .second, .val (.int (p3 &&& (3 : Int32))), .val (.long ((q2 - (q2 / (2305842343493763072 : Int64)) * (2305842343493763072 : Int64)) + (2305842343493763072 : Int64))), .second]) rfl ?_
              exact k)
            exact ⟨(((q2 - (q2 / (2305842343493763072 : Int64)) * (2305842343493763072 : Int64)) + (2305842343493763072 : Int64)) + (1 : Int64)), .val (.long ((q2 - (q2 / (2305842343493763072 : Int64)) * (2305842343493763072 : Int64)) + (2305842343493763072 : Int64))), .second, (by exact ⟨own_yC (M := (2305842343493763072 : Int64)) q2 (by decide +kernel) hc260, Or.inr ⟨_, rfl, rfl⟩⟩), pre262⟩
          · have pre263 : ∀ t, Steps p.tables e below (T250.setTop (mkF m 93 #[.val (.int p1), .val (.long q2), .second, .val (.int p3), .val (.ref b102), .val (.long (2305842343493763073 : Int64)), .second, .val (.long (2305842343493763072 : Int64)), .second, .val (.long ((q2 - (q2 / (2305842343493763072 : Int64)) * (2305842343493763072 : Int64)) + (1 : Int64))), .second, .val (.int (p3 &&& (3 : Int32))), .val (.long (q2 - (q2 / (2305842343493763072 : Int64)) * (2305842343493763072 : Int64))), .second] [])) t → Steps p.tables e below (s₁.setTop (entryFrame m #[(.int p1), (.long q2), (.int p3)] maxLocals)) t := fun t k => pre261 t (by
              show Steps p.tables e below (T250.setTop (mkF m 77 #[.val (.int p1), .val (.long q2), .second, .val (.int p3), .val (.ref b102), .val (.long (2305842343493763073 : Int64)), .second, .val (.long (2305842343493763072 : Int64)), .second, .unset, .unset, .val (.int (p3 &&& (3 : Int32))), .val (.long (q2 - (q2 / (2305842343493763072 : Int64)) * (2305842343493763072 : Int64))), .second] [(.int (lcmpW (q2 - (q2 / (2305842343493763072 : Int64)) * (2305842343493763072 : Int64)) (0 : Int64)))])) t
              refine XS.ifYes X250.here hx rfl (pc0 := 77) (pc' := 87) rfl (hb hby at_77) rfl ((if0 _ _).trans (flt (show ¬ ((lcmpW (q2 - (q2 / (2305842343493763072 : Int64)) * (2305842343493763072 : Int64)) (0 : Int64)) < (0 : Int32)) by rw [lcW]; exact fun q => hc260 ((lc_lt _ _).mp q))).2.1) (by decide) (by decide) ?_
              show Steps p.tables e below (T250.setTop (mkF m 87 #[.val (.int p1), .val (.long q2), .second, .val (.int p3), .val (.ref b102), .val (.long (2305842343493763073 : Int64)), .second, .val (.long (2305842343493763072 : Int64)), .second, .unset, .unset, .val (.int (p3 &&& (3 : Int32))), .val (.long (q2 - (q2 / (2305842343493763072 : Int64)) * (2305842343493763072 : Int64))), .second] [])) t
              refine XS.lload X250.here hx rfl (hb hby at_87) rfl ?_
              show Steps p.tables e below (T250.setTop (mkF m 89 #[.val (.int p1), .val (.long q2), .second, .val (.int p3), .val (.ref b102), .val (.long (2305842343493763073 : Int64)), .second, .val (.long (2305842343493763072 : Int64)), .second, .unset, .unset, .val (.int (p3 &&& (3 : Int32))), .val (.long (q2 - (q2 / (2305842343493763072 : Int64)) * (2305842343493763072 : Int64))), .second] [(.long (q2 - (q2 / (2305842343493763072 : Int64)) * (2305842343493763072 : Int64)))])) t
              refine XS.lconst X250.here hx rfl (hb hby at_89) ?_
              show Steps p.tables e below (T250.setTop (mkF m 90 #[.val (.int p1), .val (.long q2), .second, .val (.int p3), .val (.ref b102), .val (.long (2305842343493763073 : Int64)), .second, .val (.long (2305842343493763072 : Int64)), .second, .unset, .unset, .val (.int (p3 &&& (3 : Int32))), .val (.long (q2 - (q2 / (2305842343493763072 : Int64)) * (2305842343493763072 : Int64))), .second] [(.long (1 : Int64)), (.long (q2 - (q2 / (2305842343493763072 : Int64)) * (2305842343493763072 : Int64)))])) t
              refine XS.ladd X250.here hx rfl (hb hby at_90) rfl ?_
              show Steps p.tables e below (T250.setTop (mkF m 91 #[.val (.int p1), .val (.long q2), .second, .val (.int p3), .val (.ref b102), .val (.long (2305842343493763073 : Int64)), .second, .val (.long (2305842343493763072 : Int64)), .second, .unset, .unset, .val (.int (p3 &&& (3 : Int32))), .val (.long (q2 - (q2 / (2305842343493763072 : Int64)) * (2305842343493763072 : Int64))), .second] [(.long ((q2 - (q2 / (2305842343493763072 : Int64)) * (2305842343493763072 : Int64)) + (1 : Int64)))])) t
              refine XS.lstore X250.here hx rfl (hb hby at_91) rfl (l' := #[.val (.int p1), .val (.long q2), .second, .val (.int p3), .val (.ref b102), .val (.long (2305842343493763073 : Int64)), .second, .val (.long (2305842343493763072 : Int64)), .second, .val (.long ((q2 - (q2 / (2305842343493763072 : Int64)) * (2305842343493763072 : Int64)) + (1 : Int64))), .second, .val (.int (p3 &&& (3 : Int32))), .val (.long (q2 - (q2 / (2305842343493763072 : Int64)) * (2305842343493763072 : Int64))), .second]) rfl ?_
              exact k)
            exact ⟨((q2 - (q2 / (2305842343493763072 : Int64)) * (2305842343493763072 : Int64)) + (1 : Int64)), .val (.long (q2 - (q2 / (2305842343493763072 : Int64)) * (2305842343493763072 : Int64))), .second, (by exact ⟨own_yD (M := (2305842343493763072 : Int64)) q2 (by decide +kernel) hc260, Or.inr ⟨_, rfl, rfl⟩⟩), pre263⟩
    obtain ⟨cq268, kq268, q268a, q268b, q268c⟩ := isOf hZ e250 f243
    obtain ⟨_, _, ⟨T268, L268, k268, n268⟩, -, X268, ⟨Lc268, hQ268, l268, y268, z268⟩, st268⟩ := X250.virtualBack hx (y := (⟨"com/example/libsld/libsld/PrimeField", "invert", "(J)J"⟩ : MethodName)) (z := (⟨"com/example/libsld/libsld/PrimeField", "invert", "(J)J"⟩ : MethodName)) hown (mvT hZ (own_i hw 58 rfl)) (mvT hZ (own_i hw 59 rfl)) (notFace_of_selects (args := #[]) (mvT hZ (own_i hw 61 rfl))) (mvT hZ (own_i hw 61 rfl)) (mvT hZ (own_i hw 60 rfl)) (by decide) (backOf (W := 0) (rmInv l Z a0 hw [] b102 v264 (2305842343493763073 : Int64) T242.heap n0 f247 f244 (by decide +kernel) (by decide +kernel) hP267.1.1 hP267.1.2 (own_cp3 hP267.1.1 hP267.1.2)) hZ (own_i hw 62 rfl) (own_i hw 2 rfl) (by decide) (by decide)) q268a q268c (g := (mkF m 97 #[.val (.int p1), .val (.long q2), .second, .val (.int p3), .val (.ref b102), .val (.long (2305842343493763073 : Int64)), .second, .val (.long (2305842343493763072 : Int64)), .second, .val (.long v264), .second, .val (.int (p3 &&& (3 : Int32))), v265, v266] [(.long v264), (.ref b102)])) rfl (by rw [hml]; rfl) (Steps.refl _) (argsL := [(.long v264)]) (rest := []) (lenOf pd_1 rfl) rfl (by show 2 * 0 + _ ≤ _; exact Nat.le_of_eq rfl) (hb hby at_97) (fun _ _ => ⟨rfl, e250, (by decide : 2 + 0 ≤ _), (by decide : 38 + 0 ≤ _)⟩)
    dsimp only [Pt.U, Pt.locs, Pt.cells, Pt.slots] at X268 l268 y268 z268 st268 hQ268
    subst l268 y268 z268
    obtain ⟨x269, rfl, N268q, K268, f270⟩ := hQ268
    have N268 := Fr.app N242 N268q
    have f271 := Nat.le_trans f247 K268.1
    have f272 := f248.keep K268 all0
    have f273 := f249.trans K268 all0
    have f274 := f243.keep K268
    have f275 := f244.keep K268 nin0
    have f276 := f245.keep K268 nin0
    have f277 := f246.keep K268 nin0
    have hd278 : ¬ (x269 < (1 : Int64)) := own_lawA f270
    have hd279 : ¬ ((2305842343493763072 : Int64) < x269) := own_lawB (by decide +kernel) f270
    obtain ⟨cq280, kq280, q280a, q280b, q280c⟩ := isOf hZ rfl f274
    obtain ⟨_, _, ⟨T280, L280, k280, n280⟩, -, X280, ⟨Lc280, hQ280, l280, y280, z280⟩, st280⟩ := X268.virtualBack hx (y := (⟨"com/example/libsld/libsld/PrimeField", "multiply", "(JJ)J"⟩ : MethodName)) (z := (⟨"com/example/libsld/libsld/PrimeField", "multiply", "(JJ)J"⟩ : MethodName)) hown (mvT hZ (own_i hw 63 rfl)) (mvT hZ (own_i hw 38 rfl)) (notFace_of_selects (args := #[]) (mvT hZ (own_i hw 40 rfl))) (mvT hZ (own_i hw 40 rfl)) (mvT hZ (own_i hw 39 rfl)) (by decide) (backOf (W := 0) (rmMul l Z a0 hw [] b102 v264 x269 (2305842343493763073 : Int64) (-2305842343493763071 : Int64) (1271275483123961405 : Int64) T268.heap n0 f271 f274 f275 f276 f277) hZ (own_i hw 41 rfl) (own_i hw 2 rfl) (by decide) (by decide)) q280a q280c (g := (mkF m 125 #[.val (.int p1), .val (.long q2), .second, .val (.int p3), .val (.ref b102), .val (.long (2305842343493763073 : Int64)), .second, .val (.long (2305842343493763072 : Int64)), .second, .val (.long v264), .second, .val (.int (p3 &&& (3 : Int32))), .val (.long x269), .second] [(.long x269), (.long v264), (.ref b102)])) rfl (by rw [hml]; rfl) (Steps.refl _) (argsL := [(.long v264), (.long x269)]) (rest := []) (lenOf pd_0 rfl) rfl (by show 2 * 0 + _ ≤ _; exact Nat.le_of_eq rfl) (hb hby at_125) (fun _ _ => ⟨rfl, rfl, (by decide : 2 + 0 ≤ _), (by decide : 38 + 0 ≤ _)⟩)
    dsimp only [Pt.U, Pt.locs, Pt.cells, Pt.slots] at X280 l280 y280 z280 st280 hQ280
    subst l280 y280 z280
    obtain ⟨rfl, N280q, e280⟩ := hQ280
    have N280 := Fr.app N268 N280q
    have hd281 : (own_mul v264 x269 (2305842343493763073 : Int64) (-2305842343493763071 : Int64) (1271275483123961405 : Int64)) = (1 : Int64) := own_lawC3 hP267.1 f270
    have pre282 : ∀ t, Steps p.tables e below (T280.setTop (mkF m 138 #[.val (.int p1), .val (.long q2), .second, .val (.int p3), .val (.ref b102), .val (.long (2305842343493763073 : Int64)), .second, .val (.long (2305842343493763072 : Int64)), .second, .val (.long v264), .second, .val (.int (p3 &&& (3 : Int32))), .val (.long x269), .second] [(.int (1 : Int32))])) t → Steps p.tables e below (s₁.setTop (entryFrame m #[(.int p1), (.long q2), (.int p3)] maxLocals)) t := fun t k => pre267 t (by
      show Steps p.tables e below (T250.setTop (mkF m 93 #[.val (.int p1), .val (.long q2), .second, .val (.int p3), .val (.ref b102), .val (.long (2305842343493763073 : Int64)), .second, .val (.long (2305842343493763072 : Int64)), .second, .val (.long v264), .second, .val (.int (p3 &&& (3 : Int32))), v265, v266] [])) t
      refine XS.aload X250.here hx rfl (hb hby at_93) rfl rfl ?_
      show Steps p.tables e below (T250.setTop (mkF m 95 #[.val (.int p1), .val (.long q2), .second, .val (.int p3), .val (.ref b102), .val (.long (2305842343493763073 : Int64)), .second, .val (.long (2305842343493763072 : Int64)), .second, .val (.long v264), .second, .val (.int (p3 &&& (3 : Int32))), v265, v266] [(.ref b102)])) t
      refine XS.lload X250.here hx rfl (hb hby at_95) rfl ?_
      show Steps p.tables e below (T250.setTop (mkF m 97 #[.val (.int p1), .val (.long q2), .second, .val (.int p3), .val (.ref b102), .val (.long (2305842343493763073 : Int64)), .second, .val (.long (2305842343493763072 : Int64)), .second, .val (.long v264), .second, .val (.int (p3 &&& (3 : Int32))), v265, v266] [(.long v264), (.ref b102)])) t
      refine st268.trans ?_
      show Steps p.tables e below (T268.setTop (mkF m 100 #[.val (.int p1), .val (.long q2), .second, .val (.int p3), .val (.ref b102), .val (.long (2305842343493763073 : Int64)), .second, .val (.long (2305842343493763072 : Int64)), .second, .val (.long v264), .second, .val (.int (p3 &&& (3 : Int32))), v265, v266] [(.long x269)])) t
      refine XS.lstore X268.here hx rfl (hb hby at_100) rfl (l' := #[.val (.int p1), .val (.long q2), .second, .val (.int p3), .val (.ref b102), .val (.long (2305842343493763073 : Int64)), .second, .val (.long (2305842343493763072 : Int64)), .second, .val (.long v264), .second, .val (.int (p3 &&& (3 : Int32))), .val (.long x269), .second]) (own_sto hP267.2) ?_
      show Steps p.tables e below (T268.setTop (mkF m 102 #[.val (.int p1), .val (.long q2), .second, .val (.int p3), .val (.ref b102), .val (.long (2305842343493763073 : Int64)), .second, .val (.long (2305842343493763072 : Int64)), .second, .val (.long v264), .second, .val (.int (p3 &&& (3 : Int32))), .val (.long x269), .second] [])) t
      refine XS.lload X268.here hx rfl (hb hby at_102) rfl ?_
      show Steps p.tables e below (T268.setTop (mkF m 104 #[.val (.int p1), .val (.long q2), .second, .val (.int p3), .val (.ref b102), .val (.long (2305842343493763073 : Int64)), .second, .val (.long (2305842343493763072 : Int64)), .second, .val (.long v264), .second, .val (.int (p3 &&& (3 : Int32))), .val (.long x269), .second] [(.long x269)])) t
      refine XS.lconst X268.here hx rfl (hb hby at_104) ?_
      show Steps p.tables e below (T268.setTop (mkF m 105 #[.val (.int p1), .val (.long q2), .second, .val (.int p3), .val (.ref b102), .val (.long (2305842343493763073 : Int64)), .second, .val (.long (2305842343493763072 : Int64)), .second, .val (.long v264), .second, .val (.int (p3 &&& (3 : Int32))), .val (.long x269), .second] [(.long (1 : Int64)), (.long x269)])) t
      refine XS.lcmp X268.here hx rfl (hb hby at_105) rfl ?_
      show Steps p.tables e below (T268.setTop (mkF m 106 #[.val (.int p1), .val (.long q2), .second, .val (.int p3), .val (.ref b102), .val (.long (2305842343493763073 : Int64)), .second, .val (.long (2305842343493763072 : Int64)), .second, .val (.long v264), .second, .val (.int (p3 &&& (3 : Int32))), .val (.long x269), .second] [(.int (lcmpW x269 (1 : Int64)))])) t
      refine XS.ifNo X268.here hx rfl (hb hby at_106) rfl ((if0 _ _).trans (flt (show ¬ ((lcmpW x269 (1 : Int64)) < (0 : Int32)) by rw [lcW]; exact fun q => hd278 ((lc_lt _ _).mp q))).1) ?_
      show Steps p.tables e below (T268.setTop (mkF m 109 #[.val (.int p1), .val (.long q2), .second, .val (.int p3), .val (.ref b102), .val (.long (2305842343493763073 : Int64)), .second, .val (.long (2305842343493763072 : Int64)), .second, .val (.long v264), .second, .val (.int (p3 &&& (3 : Int32))), .val (.long x269), .second] [])) t
      refine XS.lload X268.here hx rfl (hb hby at_109) rfl ?_
      show Steps p.tables e below (T268.setTop (mkF m 111 #[.val (.int p1), .val (.long q2), .second, .val (.int p3), .val (.ref b102), .val (.long (2305842343493763073 : Int64)), .second, .val (.long (2305842343493763072 : Int64)), .second, .val (.long v264), .second, .val (.int (p3 &&& (3 : Int32))), .val (.long x269), .second] [(.long x269)])) t
      refine XS.lload X268.here hx rfl (hb hby at_111) rfl ?_
      show Steps p.tables e below (T268.setTop (mkF m 113 #[.val (.int p1), .val (.long q2), .second, .val (.int p3), .val (.ref b102), .val (.long (2305842343493763073 : Int64)), .second, .val (.long (2305842343493763072 : Int64)), .second, .val (.long v264), .second, .val (.int (p3 &&& (3 : Int32))), .val (.long x269), .second] [(.long (2305842343493763072 : Int64)), (.long x269)])) t
      refine XS.lcmp X268.here hx rfl (hb hby at_113) rfl ?_
      show Steps p.tables e below (T268.setTop (mkF m 114 #[.val (.int p1), .val (.long q2), .second, .val (.int p3), .val (.ref b102), .val (.long (2305842343493763073 : Int64)), .second, .val (.long (2305842343493763072 : Int64)), .second, .val (.long v264), .second, .val (.int (p3 &&& (3 : Int32))), .val (.long x269), .second] [(.int (lcmpW x269 (2305842343493763072 : Int64)))])) t
      refine XS.ifYes X268.here hx rfl (pc0 := 114) (pc' := 119) rfl (hb hby at_114) rfl ((if0 _ _).trans (flt (show ¬ ((0 : Int32) < (lcmpW x269 (2305842343493763072 : Int64))) by rw [lcW]; exact fun q => hd279 ((lc_gt _ _).mp q))).2.2.2) (by decide) (by decide) ?_
      show Steps p.tables e below (T268.setTop (mkF m 119 #[.val (.int p1), .val (.long q2), .second, .val (.int p3), .val (.ref b102), .val (.long (2305842343493763073 : Int64)), .second, .val (.long (2305842343493763072 : Int64)), .second, .val (.long v264), .second, .val (.int (p3 &&& (3 : Int32))), .val (.long x269), .second] [])) t
      refine XS.aload X268.here hx rfl (hb hby at_119) rfl rfl ?_
      show Steps p.tables e below (T268.setTop (mkF m 121 #[.val (.int p1), .val (.long q2), .second, .val (.int p3), .val (.ref b102), .val (.long (2305842343493763073 : Int64)), .second, .val (.long (2305842343493763072 : Int64)), .second, .val (.long v264), .second, .val (.int (p3 &&& (3 : Int32))), .val (.long x269), .second] [(.ref b102)])) t
      refine XS.lload X268.here hx rfl (hb hby at_121) rfl ?_
      show Steps p.tables e below (T268.setTop (mkF m 123 #[.val (.int p1), .val (.long q2), .second, .val (.int p3), .val (.ref b102), .val (.long (2305842343493763073 : Int64)), .second, .val (.long (2305842343493763072 : Int64)), .second, .val (.long v264), .second, .val (.int (p3 &&& (3 : Int32))), .val (.long x269), .second] [(.long v264), (.ref b102)])) t
      refine XS.lload X268.here hx rfl (hb hby at_123) rfl ?_
      show Steps p.tables e below (T268.setTop (mkF m 125 #[.val (.int p1), .val (.long q2), .second, .val (.int p3), .val (.ref b102), .val (.long (2305842343493763073 : Int64)), .second, .val (.long (2305842343493763072 : Int64)), .second, .val (.long v264), .second, .val (.int (p3 &&& (3 : Int32))), .val (.long x269), .second] [(.long x269), (.long v264), (.ref b102)])) t
      refine st280.trans ?_
      show Steps p.tables e below (T280.setTop (mkF m 128 #[.val (.int p1), .val (.long q2), .second, .val (.int p3), .val (.ref b102), .val (.long (2305842343493763073 : Int64)), .second, .val (.long (2305842343493763072 : Int64)), .second, .val (.long v264), .second, .val (.int (p3 &&& (3 : Int32))), .val (.long x269), .second] [(.long (own_mul v264 x269 (2305842343493763073 : Int64) (-2305842343493763071 : Int64) (1271275483123961405 : Int64)))])) t
      refine XS.lconst X280.here hx rfl (hb hby at_128) ?_
      show Steps p.tables e below (T280.setTop (mkF m 129 #[.val (.int p1), .val (.long q2), .second, .val (.int p3), .val (.ref b102), .val (.long (2305842343493763073 : Int64)), .second, .val (.long (2305842343493763072 : Int64)), .second, .val (.long v264), .second, .val (.int (p3 &&& (3 : Int32))), .val (.long x269), .second] [(.long (1 : Int64)), (.long (own_mul v264 x269 (2305842343493763073 : Int64) (-2305842343493763071 : Int64) (1271275483123961405 : Int64)))])) t
      refine XS.lcmp X280.here hx rfl (hb hby at_129) rfl ?_
      show Steps p.tables e below (T280.setTop (mkF m 130 #[.val (.int p1), .val (.long q2), .second, .val (.int p3), .val (.ref b102), .val (.long (2305842343493763073 : Int64)), .second, .val (.long (2305842343493763072 : Int64)), .second, .val (.long v264), .second, .val (.int (p3 &&& (3 : Int32))), .val (.long x269), .second] [(.int (lcmpW (own_mul v264 x269 (2305842343493763073 : Int64) (-2305842343493763071 : Int64) (1271275483123961405 : Int64)) (1 : Int64)))])) t
      refine XS.ifNo X280.here hx rfl (hb hby at_130) rfl ((if0 _ _).trans (teq (show (lcmpW (own_mul v264 x269 (2305842343493763073 : Int64) (-2305842343493763071 : Int64) (1271275483123961405 : Int64)) (1 : Int64)) = (0 : Int32) by rw [lcW]; exact (lc_eq _ _).mpr hd281)).2) ?_
      show Steps p.tables e below (T280.setTop (mkF m 133 #[.val (.int p1), .val (.long q2), .second, .val (.int p3), .val (.ref b102), .val (.long (2305842343493763073 : Int64)), .second, .val (.long (2305842343493763072 : Int64)), .second, .val (.long v264), .second, .val (.int (p3 &&& (3 : Int32))), .val (.long x269), .second] [])) t
      refine XS.iconst X280.here hx rfl (hb hby at_133) ?_
      show Steps p.tables e below (T280.setTop (mkF m 134 #[.val (.int p1), .val (.long q2), .second, .val (.int p3), .val (.ref b102), .val (.long (2305842343493763073 : Int64)), .second, .val (.long (2305842343493763072 : Int64)), .second, .val (.long v264), .second, .val (.int (p3 &&& (3 : Int32))), .val (.long x269), .second] [(.int (1 : Int32))])) t
      refine XS.goto X280.here hx rfl (pc0 := 134) (pc' := 138) rfl (hb hby at_134) (by decide) (by decide) ?_
      exact k)
    obtain ⟨fs, hr, hrun, hended, hW, hsame⟩ := X280.leave (v := some (.int (1 : Int32))) (fun h => by rw [Bd.returns] at h; cases h)
    refine ⟨_, _, pre282 _ ?_, hrun, hended, _, _, rfl, ?_, ⟨_, rfl⟩, hW, hsame.mono (by decide) (by decide)⟩
    · exact retN X280 hx (t := .boolean) Bd.returns (by simp) (hb hby at_138) hr
    · show Q0 Z p1 q2 p3 wP kP wN kN h0 n0 _ T280.heap _
      rw [e280]
      exact ⟨rfl, N280⟩
set_option maxRecDepth 65536 in
set_option maxHeartbeats 40000000 in
theorem comes_1 {Post : Tables → Env → Array Value → State → Outcome → State → Prop} (hpost : ∀ tb e args s v u, (limb_1_1.after args s (.returned v) u = true ∧ limb_1_2.after args s (.returned v) u = true ∧ True) → FrameEnd s (.returned v) u (Jvm.fieldLocs frame_1_writes args s ++ Jvm.arrayLocs frame_1_arrays args s ++ Jvm.staticLocs frame_1_statics s) 16 192 → Post tb e args s (.returned v) u) :
    ArmFor flags0 classFile x code maxLocals ret World_1 tables_1 room_1 Calls_1 rest_1 Pre_1 Post := by
  intro l hfl _ _ p e ha hc hk s m args below hf hA hF happ hP
  obtain ⟨hcalls, hrest, hpre⟩ := hP
  obtain ⟨-, -, -, hnamed, -, -, -, hat⟩ := (Spec.applies_iff hf).mp happ
  obtain ⟨hg, hn⟩ := and_e (Cond.before_iff.mp (show (Jvm.Cond.and given_1 narrow_1).before args s = true from hpre))
  obtain ⟨hga, hgb⟩ := and_e hg
  obtain ⟨hgba, hgbb⟩ := and_e hgb
  obtain ⟨hgbba, hgbbb⟩ := and_e hgbb
  obtain ⟨w0, w1, w2, rfl⟩ : ∃ w0 w1 w2 : Value, args = #[w0, w1, w2] := by
    have hs : args.size = 3 := by simpa [Cond.value, given_1] using hga
    obtain ⟨L⟩ := args
    match L, hs with
    | [w0, w1, w2], _ => exact ⟨w0, w1, w2, rfl⟩
  have hw := fun d (hd : d ∈ tables_1) => atoms_spec (ws := Jvm.Cond.code x code maxLocals ret :: tables_1) hat d (List.mem_cons_of_mem _ hd)
  have hfit : Fit s := fun {y c} hc i hi => by
    obtain ⟨ha, rfl⟩ := Array.getElem?_eq_some_iff.mp hc
    have q := List.all_eq_true.mp ((Array.all_eq_true_iff_forall_mem.mp hF) _ (Array.getElem_mem ha)) i (List.mem_range.mpr hi)
    simpa [Array.getElem?_eq_getElem hi] using q
  obtain ⟨i0, ev0⟩ := is_v hgba
  obtain rfl : w0 = (.int i0) := Option.some.inj ev0
  obtain ⟨i1, ev1⟩ := isL_v hgbba
  obtain rfl : w1 = (.long i1) := Option.some.inj ev1
  obtain ⟨i2, ev2⟩ := is_v hgbbb
  obtain rfl : w2 = (.int i2) := Option.some.inj ev2
  obtain ⟨hna, hnb⟩ := and_e hn
  obtain ⟨hnba, hnbb⟩ := and_e hnb
  obtain ⟨hnbba, hnbbb⟩ := and_e hnbb
  obtain ⟨hnbbba, hnbbbb⟩ := and_e hnbbb
  obtain ⟨hnbbbba, hnbbbbb⟩ := and_e hnbbbb
  obtain ⟨hnbbbbba, hnbbbbbb⟩ := and_e hnbbbbb
  obtain ⟨hnbbbbbba, hnbbbbbbb⟩ := and_e hnbbbbbb
  obtain ⟨hnbbbbbbba, hnbbbbbbbb⟩ := and_e hnbbbbbbb
  obtain ⟨hnbbbbbbbba, hnbbbbbbbbb⟩ := and_e hnbbbbbbbb
  obtain ⟨hnbbbbbbbbba, hnbbbbbbbbbb⟩ := and_e hnbbbbbbbbb
  obtain ⟨hnbbbbbbbbbba, hnbbbbbbbbbbb⟩ := and_e hnbbbbbbbbbb
  obtain ⟨wP, ev_PRIMES, S_PRIMES⟩ := own_starr hna (own_i hw 2 rfl) (own_i hw 13 rfl)
  obtain ⟨kP, A_PRIMES⟩ := own_arr4 hfit ev_PRIMES hna hnba hnbba hnbbbbbbbbbba hnbbbbbbbba hnbbbbbba
  obtain ⟨wN, ev_NON_RESIDUES, S_NON_RESIDUES⟩ := own_starr hnbbba (own_i hw 2 rfl) (own_i hw 32 rfl)
  obtain ⟨kN, A_NON_RESIDUES⟩ := own_arr4 hfit ev_NON_RESIDUES hnbbba hnbbbba hnbbbbba hnbbbbbbbbbbb hnbbbbbbbbba hnbbbbbbba
  obtain ⟨n, o, h1, h2, h3, _, L, rfl, ⟨rfl, N⟩, hq⟩ := rm0 l s _ hw tables_1 i0 i1 i2 wP kP wN kN s.heap s.heap.size (Nat.le_refl _) S_PRIMES A_PRIMES S_NON_RESIDUES A_NON_RESIDUES (Old.start s) p e ha hc hk s m _ below hf ((Spec.applies_iff_loose hf).mp happ).1 ⟨rfl, State.Warmed39.refl s, rfl⟩ trivial
  refine ⟨n, _, h1, h2, h3, hpost _ _ _ _ _ _ ⟨Cond.after_iff.mpr rfl, Cond.after_iff.mpr (eq_i res_at (Term.int_eval (1)) rfl), trivial⟩ ⟨hq.1, hq.2.1, (hq.2.2.sift fun y hy => Or.inr (N y hy)).mono (by decide) (by decide)⟩⟩
theorem main_1_1 : Claimed_1_1 := comes_1 fun _ _ _ _ _ _ h hF => ⟨h.1, hF⟩
theorem main_1_2 : Claimed_1_2 := comes_1 fun _ _ _ _ _ _ h hF => ⟨h.2.1, hF⟩
end Jvm.Pilot.@@N@@
namespace Jvm.Pilot.@@N@@
open Jvm Jvm.ClassFile Sem Op Lib Jvm.Free Jvm.Stand Jvm.Pilot.@@N@@.Jvm.D
/-! MADE BY PROGRAM (witnessworld.py) out of the Statement's table words and the real class files: 17 classes; the members and pool entries that the words name. The judged class is class 1, her method 1. -/
namespace start1
open Jvm.ClassFile
def u (s : String) : CpInfo := .utf8 (stringToUtf16 s)
/-- a pool by its gaps: so many unusable entries, then the entry; so many at the end -/
def gap : Nat → List CpInfo → List CpInfo
  | 0, r => r
  | n + 1, r => .unusable :: gap n r
def poolList (es : List (Nat × CpInfo)) (last : Nat) : List CpInfo := es.foldr (fun e r => gap e.1 (e.2 :: r)) (gap last [])
def pool (es : List (Nat × CpInfo)) (last : Nat) : Array CpInfo := ⟨poolList es last⟩
def fileOf (pool : Array CpInfo) (this : Nat) (attrs : Array Attribute := #[]) (ms : Array MethodInfo := #[]) (fl : Nat := 33) (sup : Nat := 0) (ifs : Array Nat := #[]) (fds : Array FieldInfo := #[]) : ClassFile where
  minorVersion := 0
  majorVersion := 65
  constantPool := pool
  accessFlags := fl
  thisClass := this
  superClass := sup
  interfaces := ifs
  fields := fds
  methods := ms
  attributes := attrs
def plain (name : String) (sup : Option ClassId) : Class where
  name := name
  kind := .ordinary
  loader := none
  accessFlags := 33
  super := sup
  interfaces := #[]
  cf := none
  fields := #[]
  methods := #[]
  instanceTypes := #[]
  staticTypes := #[]
  resolved := #[]
  callSites := []
  init := .initialized
  statics := none
  mirror := none

def pool0 : Array CpInfo := pool [(5, u "<init>"), (0, u "()V"), (1, .class_ 10), (1, u "java/lang/Object")] 113

def k0c0 : Code := { maxStack := 0, maxLocals := 1, code := object_method_1_code, exceptionTable := #[], attributes := #[] }
def k0m0 : Method := { name := "<init>", desc := "()V", sig := { parameters := [], returnType := none }, accessFlags := 1, code := some k0c0 }
/-- java/lang/Object -/
def k0 : Class := { plain "java/lang/Object" none with
  accessFlags := 33
  interfaces := #[]
  cf := some (fileOf pool0 8 #[] #[{ accessFlags := 1, nameIndex := 5, descriptorIndex := 6, attributes := #[] }] 33 0 #[] #[])
  fields := #[]
  methods := #[k0m0]
  instanceTypes := #[]
  staticTypes := #[]
  resolved := Array.replicate 124 none
  statics := none }

def pool1 : Array CpInfo := pool [(2, .class_ 4), (1, u "java/lang/Object"), (0, u "<init>"), (0, u "()V"), (0, .class_ 8), (0, u "com/example/libsld/libsld/PrimeField"), (0, .methodref 7 10), (0, .nameAndType 5 11), (0, u "(I)V"), (0, .fieldref 7 13), (0, .nameAndType 14 15), (0, u "p"), (0, u "J"), (0, .long 255), (1, .methodref 7 19), (0, .nameAndType 20 21), (0, u "invert"), (0, u "(J)J"), (0, .methodref 7 23), (0, .nameAndType 24 25), (0, u "multiply"), (0, u "(JJ)J"), (0, .class_ 27), (0, u "com/example/libsld/libsld/PrimeFieldInvertPinLaw"), (2, u "law"), (0, u "(IJI)Z")] 3

def k1m0 : Method := { name := "<init>", desc := "()V", sig := { parameters := [], returnType := none }, accessFlags := 1, code := none }
def k1c1 : Code := { maxStack := 6, maxLocals := 14, code := code, exceptionTable := #[], attributes := #[] }
def k1m1 : Method := { name := "law", desc := "(IJI)Z", sig := { parameters := [.int, .long, .int], returnType := some .boolean }, accessFlags := 9, code := some k1c1 }
/-- com/example/libsld/libsld/PrimeFieldInvertPinLaw -/
def k1 : Class := { plain "com/example/libsld/libsld/PrimeFieldInvertPinLaw" (some 0) with
  accessFlags := 49
  interfaces := #[]
  cf := some (fileOf pool1 26 #[] #[{ accessFlags := 1, nameIndex := 5, descriptorIndex := 6, attributes := #[] }, { accessFlags := 9, nameIndex := 30, descriptorIndex := 31, attributes := #[] }] 49 2 #[] #[])
  fields := #[]
  methods := #[k1m0, k1m1]
  instanceTypes := #[]
  staticTypes := #[]
  resolved := Array.replicate 35 none
  statics := none }

def pool2 : Array CpInfo := pool [(1, .methodref 2 3), (0, .class_ 4), (0, .nameAndType 5 6), (0, u "java/lang/Object"), (0, u "<init>"), (0, u "()V"), (0, .class_ 8), (0, u "com/example/libsld/libsld/PrimeField"), (0, .fieldref 7 10), (0, .nameAndType 11 12), (0, u "rootsOfOrder"), (0, u "[J"), (0, .fieldref 7 14), (0, .nameAndType 15 12), (0, u "PRIMES"), (0, .fieldref 7 17), (0, .nameAndType 18 19), (0, u "p"), (0, u "J"), (0, .long 2), (1, .fieldref 7 23), (0, .nameAndType 24 19), (0, u "twoP"), (0, .fieldref 7 26), (0, .nameAndType 27 19), (0, u "inverse"), (0, .methodref 29 30), (0, .class_ 31), (0, .nameAndType 32 33), (0, u "java/lang/Long"), (0, u "remainderUnsigned"), (0, u "(JJ)J"), (0, .methodref 7 35), (0, .nameAndType 36 33), (0, u "subtractIfAbove"), (0, .fieldref 7 38), (0, .nameAndType 39 19), (0, u "montgomerySquare"), (0, .fieldref 7 41), (0, .nameAndType 42 12), (0, u "NON_RESIDUES"), (0, .methodref 7 44), (0, .nameAndType 45 33), (0, u "power"), (0, .methodref 7 47), (0, .nameAndType 48 33), (0, u "multiply"), (0, .methodref 50 51), (0, .class_ 52), (0, .nameAndType 53 33), (0, u "java/lang/Math"), (0, u "multiplyHigh"), (0, .methodref 7 55), (0, .nameAndType 56 33), (0, u "reduce"), (0, .methodref 7 58), (0, .nameAndType 59 60), (0, u "toMontgomery"), (0, u "(J)J"), (4, .class_ 67), (1, u "com/example/libsld/libsld/PrimeField$Roots"), (24, u "I"), (74, u "MOST_LOG_POINTS"), (2, u "RUN"), (0, u "CACHED_POINTS"), (1, u "(I)V"), (3, u "invert")] 11

def k2c0 : Code := { maxStack := 8, maxLocals := 9, code := prog_87_method_1_code, exceptionTable := #[], attributes := #[] }
def k2m0 : Method := { name := "<init>", desc := "(I)V", sig := { parameters := [.int], returnType := none }, accessFlags := 0, code := some k2c0 }
def k2c1 : Code := { maxStack := 8, maxLocals := 9, code := prog_87_method_2_code, exceptionTable := #[], attributes := #[] }
def k2m1 : Method := { name := "reduce", desc := "(JJ)J", sig := { parameters := [.long, .long], returnType := some .long }, accessFlags := 0, code := some k2c1 }
def k2c2 : Code := { maxStack := 8, maxLocals := 5, code := prog_87_method_3_code, exceptionTable := #[], attributes := #[] }
def k2m2 : Method := { name := "multiply", desc := "(JJ)J", sig := { parameters := [.long, .long], returnType := some .long }, accessFlags := 0, code := some k2c2 }
def k2c3 : Code := { maxStack := 7, maxLocals := 3, code := prog_87_method_4_code, exceptionTable := #[], attributes := #[] }
def k2m3 : Method := { name := "toMontgomery", desc := "(J)J", sig := { parameters := [.long], returnType := some .long }, accessFlags := 2, code := some k2c3 }
def k2c4 : Code := { maxStack := 6, maxLocals := 17, code := prog_87_method_5_code, exceptionTable := #[], attributes := #[] }
def k2m4 : Method := { name := "invert", desc := "(J)J", sig := { parameters := [.long], returnType := some .long }, accessFlags := 0, code := some k2c4 }
def k2c5 : Code := { maxStack := 5, maxLocals := 11, code := prog_87_method_6_code, exceptionTable := #[], attributes := #[] }
def k2m5 : Method := { name := "power", desc := "(JJ)J", sig := { parameters := [.long, .long], returnType := some .long }, accessFlags := 2, code := some k2c5 }
def k2c6 : Code := { maxStack := 6, maxLocals := 6, code := prog_87_method_10_code, exceptionTable := #[], attributes := #[] }
def k2m6 : Method := { name := "subtractIfAbove", desc := "(JJ)J", sig := { parameters := [.long, .long], returnType := some .long }, accessFlags := 8, code := some k2c6 }
/-- com/example/libsld/libsld/PrimeField -/
def k2 : Class := { plain "com/example/libsld/libsld/PrimeField" (some 0) with
  accessFlags := 48
  interfaces := #[]
  cf := some (fileOf pool2 7 #[.nestMembers #[65]] #[{ accessFlags := 0, nameIndex := 5, descriptorIndex := 173, attributes := #[] }, { accessFlags := 0, nameIndex := 56, descriptorIndex := 33, attributes := #[] }, { accessFlags := 0, nameIndex := 48, descriptorIndex := 33, attributes := #[] }, { accessFlags := 2, nameIndex := 59, descriptorIndex := 60, attributes := #[] }, { accessFlags := 0, nameIndex := 177, descriptorIndex := 60, attributes := #[] }, { accessFlags := 2, nameIndex := 45, descriptorIndex := 33, attributes := #[] }, { accessFlags := 8, nameIndex := 36, descriptorIndex := 33, attributes := #[] }] 48 2 #[] #[{ accessFlags := 24, nameIndex := 15, descriptorIndex := 12, attributes := #[] }, { accessFlags := 26, nameIndex := 42, descriptorIndex := 12, attributes := #[] }, { accessFlags := 24, nameIndex := 167, descriptorIndex := 92, attributes := #[] }, { accessFlags := 24, nameIndex := 170, descriptorIndex := 92, attributes := #[] }, { accessFlags := 26, nameIndex := 171, descriptorIndex := 92, attributes := #[] }, { accessFlags := 16, nameIndex := 18, descriptorIndex := 19, attributes := #[] }, { accessFlags := 18, nameIndex := 24, descriptorIndex := 19, attributes := #[] }, { accessFlags := 18, nameIndex := 11, descriptorIndex := 12, attributes := #[] }, { accessFlags := 18, nameIndex := 27, descriptorIndex := 19, attributes := #[] }, { accessFlags := 18, nameIndex := 39, descriptorIndex := 19, attributes := #[] }])
  fields := #[{ name := "PRIMES", type := (.array .long), accessFlags := 24, slot := 0, constantValue := 0 }, { name := "NON_RESIDUES", type := (.array .long), accessFlags := 26, slot := 1, constantValue := 0 }, { name := "MOST_LOG_POINTS", type := .int, accessFlags := 24, slot := 2, constantValue := 0 }, { name := "RUN", type := .int, accessFlags := 24, slot := 3, constantValue := 0 }, { name := "CACHED_POINTS", type := .int, accessFlags := 26, slot := 4, constantValue := 0 }, { name := "p", type := .long, accessFlags := 16, slot := 0, constantValue := 0 }, { name := "twoP", type := .long, accessFlags := 18, slot := 1, constantValue := 0 }, { name := "rootsOfOrder", type := (.array .long), accessFlags := 18, slot := 2, constantValue := 0 }, { name := "inverse", type := .long, accessFlags := 18, slot := 3, constantValue := 0 }, { name := "montgomerySquare", type := .long, accessFlags := 18, slot := 4, constantValue := 0 }]
  methods := #[k2m0, k2m1, k2m2, k2m3, k2m4, k2m5, k2m6]
  instanceTypes := #[.long, .long, (.array .long), .long, .long]
  staticTypes := #[(.array .long), (.array .long), .int, .int, .int]
  resolved := Array.replicate 189 none
  statics := some 0 }

def pool3 : Array CpInfo := pool [(1, .class_ 2), (0, u "java/io/Serializable"), (0, .class_ 4), (0, u "java/lang/Object")] 2

/-- java/io/Serializable -/
def k3 : Class := { plain "java/io/Serializable" (some 0) with
  accessFlags := 1537
  interfaces := #[]
  cf := some (fileOf pool3 1 #[] #[] 1537 3 #[] #[])
  fields := #[]
  methods := #[]
  instanceTypes := #[]
  staticTypes := #[]
  resolved := Array.replicate 7 none
  statics := none }

def pool4 : Array CpInfo := pool [(2, .class_ 4), (1, u "java/lang/Object"), (0, u "<init>"), (0, u "()V"), (1, .class_ 10), (1, u "java/lang/Number"), (2, .class_ 14), (0, u "java/io/Serializable"), (0, u "serialVersionUID"), (0, u "J")] 20

def k4m0 : Method := { name := "<init>", desc := "()V", sig := { parameters := [], returnType := none }, accessFlags := 1, code := none }
/-- java/lang/Number -/
def k4 : Class := { plain "java/lang/Number" (some 0) with
  accessFlags := 1057
  interfaces := #[3]
  cf := some (fileOf pool4 8 #[] #[{ accessFlags := 1, nameIndex := 5, descriptorIndex := 6, attributes := #[] }] 1057 2 #[13] #[{ accessFlags := 26, nameIndex := 15, descriptorIndex := 16, attributes := #[] }])
  fields := #[{ name := "serialVersionUID", type := .long, accessFlags := 26, slot := 0, constantValue := 0 }]
  methods := #[k4m0]
  instanceTypes := #[]
  staticTypes := #[.long]
  resolved := Array.replicate 37 none
  statics := none }

def pool5 : Array CpInfo := pool [(1, .class_ 2), (0, u "java/lang/Comparable"), (0, .class_ 4), (0, u "java/lang/Object")] 7

/-- java/lang/Comparable -/
def k5 : Class := { plain "java/lang/Comparable" (some 0) with
  accessFlags := 1537
  interfaces := #[]
  cf := some (fileOf pool5 1 #[] #[] 1537 3 #[] #[])
  fields := #[]
  methods := #[]
  instanceTypes := #[]
  staticTypes := #[]
  resolved := Array.replicate 12 none
  statics := none }

def pool6 : Array CpInfo := pool [(1, .class_ 2), (0, u "java/lang/constant/Constable"), (0, .class_ 4), (0, u "java/lang/Object")] 6

/-- java/lang/constant/Constable -/
def k6 : Class := { plain "java/lang/constant/Constable" (some 0) with
  accessFlags := 1537
  interfaces := #[]
  cf := some (fileOf pool6 1 #[] #[] 1537 3 #[] #[])
  fields := #[]
  methods := #[]
  instanceTypes := #[]
  staticTypes := #[]
  resolved := Array.replicate 11 none
  statics := none }

def pool7 : Array CpInfo := pool [(1, .class_ 2), (0, u "java/lang/constant/ConstantDesc"), (0, .class_ 4), (0, u "java/lang/Object")] 32

/-- java/lang/constant/ConstantDesc -/
def k7 : Class := { plain "java/lang/constant/ConstantDesc" (some 0) with
  accessFlags := 1537
  interfaces := #[]
  cf := some (fileOf pool7 1 #[] #[] 1537 3 #[] #[])
  fields := #[]
  methods := #[]
  instanceTypes := #[]
  staticTypes := #[]
  resolved := Array.replicate 37 none
  statics := none }

def pool8 : Array CpInfo := pool [(1, .class_ 2), (0, u "java/lang/Long"), (232, .class_ 237), (1, u "java/lang/Long$LongCache"), (33, .class_ 272), (0, u "java/lang/Number"), (2, u "value"), (0, u "J"), (29, .long 18446744073709551615), (26, u "(JJ)J"), (27, u "TYPE"), (0, u "Ljava/lang/Class;"), (0, .class_ 364), (0, u "java/lang/Comparable"), (0, .class_ 366), (0, u "java/lang/constant/Constable"), (0, .class_ 368), (0, u "java/lang/constant/ConstantDesc"), (0, u "MIN_VALUE"), (1, u "MAX_VALUE"), (4, u "SIZE"), (0, u "I"), (1, u "BYTES"), (1, u "serialVersionUID"), (91, u "remainderUnsigned")] 50

def k8c0 : Code := { maxStack := 8, maxLocals := 8, code := jdk_35_method_45_code, exceptionTable := #[], attributes := #[] }
def k8m0 : Method := { name := "remainderUnsigned", desc := "(JJ)J", sig := { parameters := [.long, .long], returnType := some .long }, accessFlags := 9, code := some k8c0 }
/-- java/lang/Long -/
def k8 : Class := { plain "java/lang/Long" (some 4) with
  accessFlags := 49
  interfaces := #[5, 6, 7]
  cf := some (fileOf pool8 1 #[.nestMembers #[235]] #[{ accessFlags := 9, nameIndex := 473, descriptorIndex := 333, attributes := #[] }] 49 271 #[363, 365, 367] #[{ accessFlags := 25, nameIndex := 369, descriptorIndex := 276, attributes := #[] }, { accessFlags := 25, nameIndex := 371, descriptorIndex := 276, attributes := #[] }, { accessFlags := 25, nameIndex := 361, descriptorIndex := 362, attributes := #[] }, { accessFlags := 18, nameIndex := 275, descriptorIndex := 276, attributes := #[] }, { accessFlags := 25, nameIndex := 376, descriptorIndex := 377, attributes := #[] }, { accessFlags := 25, nameIndex := 379, descriptorIndex := 377, attributes := #[] }, { accessFlags := 26, nameIndex := 381, descriptorIndex := 276, attributes := #[] }])
  fields := #[{ name := "MIN_VALUE", type := .long, accessFlags := 25, slot := 0, constantValue := 0 }, { name := "MAX_VALUE", type := .long, accessFlags := 25, slot := 1, constantValue := 0 }, { name := "TYPE", type := (.object "java/lang/Class"), accessFlags := 25, slot := 2, constantValue := 0 }, { name := "value", type := .long, accessFlags := 18, slot := 0, constantValue := 0 }, { name := "SIZE", type := .int, accessFlags := 25, slot := 3, constantValue := 0 }, { name := "BYTES", type := .int, accessFlags := 25, slot := 4, constantValue := 0 }, { name := "serialVersionUID", type := .long, accessFlags := 26, slot := 5, constantValue := 0 }]
  methods := #[k8m0]
  instanceTypes := #[.long]
  staticTypes := #[.long, .long, (.object "java/lang/Class"), .int, .int, .long]
  resolved := Array.replicate 524 none
  statics := none }

def pool9 : Array CpInfo := pool [(1, .class_ 2), (0, u "java/lang/Math"), (1, .class_ 6), (1, u "java/lang/Object"), (0, u "<init>"), (0, u "()V"), (89, .class_ 100), (1, u "java/lang/Math$RandomNumberGeneratorHolder"), (20, u "(JJ)J"), (16, .long 4294967295), (3, u "multiplyHigh"), (29, u "negativeZeroFloatBits"), (0, u "J"), (2, u "negativeZeroDoubleBits"), (68, u "$assertionsDisabled"), (0, u "Z"), (91, u "twoToTheDoubleScaleDown"), (0, u "D"), (4, u "twoToTheDoubleScaleUp"), (9, u "E"), (3, u "PI"), (2, u "TAU"), (2, u "DEGREES_TO_RADIANS"), (0, u "RADIANS_TO_DEGREES")] 94

def k9m0 : Method := { name := "<init>", desc := "()V", sig := { parameters := [], returnType := none }, accessFlags := 2, code := none }
def k9c1 : Code := { maxStack := 6, maxLocals := 20, code := jdk_29_method_45_code, exceptionTable := #[], attributes := #[] }
def k9m1 : Method := { name := "multiplyHigh", desc := "(JJ)J", sig := { parameters := [.long, .long], returnType := some .long }, accessFlags := 9, code := some k9c1 }
/-- java/lang/Math -/
def k9 : Class := { plain "java/lang/Math" (some 0) with
  accessFlags := 49
  interfaces := #[]
  cf := some (fileOf pool9 1 #[.nestMembers #[98]] #[{ accessFlags := 2, nameIndex := 7, descriptorIndex := 8, attributes := #[] }, { accessFlags := 9, nameIndex := 142, descriptorIndex := 121, attributes := #[] }] 49 4 #[] #[{ accessFlags := 25, nameIndex := 354, descriptorIndex := 339, attributes := #[] }, { accessFlags := 25, nameIndex := 358, descriptorIndex := 339, attributes := #[] }, { accessFlags := 25, nameIndex := 361, descriptorIndex := 339, attributes := #[] }, { accessFlags := 26, nameIndex := 364, descriptorIndex := 339, attributes := #[] }, { accessFlags := 26, nameIndex := 365, descriptorIndex := 339, attributes := #[] }, { accessFlags := 26, nameIndex := 172, descriptorIndex := 173, attributes := #[] }, { accessFlags := 26, nameIndex := 176, descriptorIndex := 173, attributes := #[] }, { accessFlags := 8, nameIndex := 344, descriptorIndex := 339, attributes := #[] }, { accessFlags := 8, nameIndex := 338, descriptorIndex := 339, attributes := #[] }, { accessFlags := 4120, nameIndex := 245, descriptorIndex := 246, attributes := #[] }])
  fields := #[{ name := "E", type := .double, accessFlags := 25, slot := 0, constantValue := 0 }, { name := "PI", type := .double, accessFlags := 25, slot := 1, constantValue := 0 }, { name := "TAU", type := .double, accessFlags := 25, slot := 2, constantValue := 0 }, { name := "DEGREES_TO_RADIANS", type := .double, accessFlags := 26, slot := 3, constantValue := 0 }, { name := "RADIANS_TO_DEGREES", type := .double, accessFlags := 26, slot := 4, constantValue := 0 }, { name := "negativeZeroFloatBits", type := .long, accessFlags := 26, slot := 5, constantValue := 0 }, { name := "negativeZeroDoubleBits", type := .long, accessFlags := 26, slot := 6, constantValue := 0 }, { name := "twoToTheDoubleScaleUp", type := .double, accessFlags := 8, slot := 7, constantValue := 0 }, { name := "twoToTheDoubleScaleDown", type := .double, accessFlags := 8, slot := 8, constantValue := 0 }, { name := "$assertionsDisabled", type := .boolean, accessFlags := 4120, slot := 9, constantValue := 0 }]
  methods := #[k9m0, k9m1]
  instanceTypes := #[]
  staticTypes := #[.double, .double, .double, .double, .double, .long, .long, .double, .double, .boolean]
  resolved := Array.replicate 460 none
  statics := none }

def pool10 : Array CpInfo := pool [(1, u "java/lang/Cloneable"), (0, .class_ 1), (0, u "java/lang/Object"), (0, .class_ 3)] 3

/-- java/lang/Cloneable -/
def k10 : Class := { plain "java/lang/Cloneable" (some 0) with
  accessFlags := 1537
  interfaces := #[]
  cf := some (fileOf pool10 2 #[] #[] 1537 4 #[] #[])
  fields := #[]
  methods := #[]
  instanceTypes := #[]
  staticTypes := #[]
  resolved := Array.replicate 8 none
  statics := none }

/-- the primitive byte -/
def k11 : Class := { plain "byte" none with kind := .primitive 'B', accessFlags := 0x411 }
/-- [B -/
def k12 : Class := { plain "[B" (some 0) with kind := .array 11 .byte, interfaces := #[10, 3], accessFlags := 1041 }

/-- the primitive int -/
def k13 : Class := { plain "int" none with kind := .primitive 'I', accessFlags := 0x411 }
/-- [I -/
def k14 : Class := { plain "[I" (some 0) with kind := .array 13 .int, interfaces := #[10, 3], accessFlags := 1041 }

/-- the primitive long -/
def k15 : Class := { plain "long" none with kind := .primitive 'J', accessFlags := 0x411 }
/-- [J -/
def k16 : Class := { plain "[J" (some 0) with kind := .array 15 .long, interfaces := #[10, 3], accessFlags := 1041 }

def heap : Heap := #[{ cls := 2, slots := #[.ref 1, .ref 2, .int 0, .int 0, .int 0], vm := .statics 2 },
  { cls := 16, slots := #[.long 2305842979148922881, .long 2305842798760296449, .long 2305842644141473793, .long 2305842343493763073], vm := .none },
  { cls := 16, slots := #[.long 3, .long 3, .long 3, .long 5], vm := .none }]
def classes : Array Class := #[k0, k1, k2, k3, k4, k5, k6, k7, k8, k9, k10, k11, k12, k13, k14, k15, k16]
def interned : List (Array UInt16 × Addr) := []
def slotsUsed : Nat := 13
def theMethod : MethodId := ⟨1, 1⟩
def args0 : Array Value := #[.int 5, .long 5, .int 5]
def aboutOver (below : List Frame) : State where
  vm := { classes := classes, interned := interned.toArray }
  heap := heap
  slotsUsed := slotsUsed
  threads := #[{ frames := .invoking theMethod args0 :: below }]
def below0 : List Frame := [.native { method := ⟨0, 0⟩, args := #[] }]
def about1 : State := aboutOver below0
def p0 : Program := .bare "" "" ""
def e0 : Env := launch0.env 0 0 0
theorem w_frames : about1.frames = Frame.invoking theMethod args0 :: below0 := rfl
set_option maxRecDepth 65536 in
theorem w_args : argsFit about1.vm theMethod args0 = true := by decide +kernel
set_option maxRecDepth 65536 in
theorem w_heap : heapFits about1 = true := by decide +kernel
set_option maxRecDepth 65536 in
theorem w_runnable : about1.curStatus? = some .runnable := by decide +kernel
set_option maxRecDepth 65536 in
theorem w_alone : about1.alone = true := by decide +kernel
set_option maxRecDepth 65536 in
theorem w_named : about1.methodNamed? x = some theMethod := by decide +kernel
set_option maxRecDepth 65536 in
theorem w_hears : about1.hears theMethod below0 = true := by decide +kernel
set_option maxRecDepth 65536 in
theorem w_ripe : about1.ripe theMethod args0 below0 = true := by decide +kernel
theorem w_running : about1.status = .running := rfl
set_option maxRecDepth 65536 in
theorem w_room : about1.hasRoom e0.platform room_1 = true :=
  launch0.hasRoom_least _ room_1 (by decide +kernel) (by decide +kernel) (by decide +kernel) (by decide +kernel) (by decide +kernel) (by decide +kernel)
theorem allAtoms_all (ts : List Jvm.Cond) (a : Array Jvm.Value) (st : Jvm.State) : (allAtoms ts).before a st = ts.all (fun c => c.before a st) := by
  induction ts with
  | nil => rfl
  | cons c t ih =>
    show (Jvm.Cond.and c (allAtoms t)).before a st = _
    rw [Jvm.Cond.before_and, ih, List.all_cons]
def words1 : List Jvm.Cond := Jvm.Cond.code x code maxLocals ret :: tables_1
/-- a 'code' word, met by the world's own term for the bytes: nothing is compared byte by byte -/
theorem code_word {y : MethodName} {bytes : ByteArray} {mx : Nat} {rt : Option FieldType} {a : Array Value} {s : State} {m : MethodId} {meth : Method} {c : Code} (h1 : s.methodNamed? y = some m) (h2 : s.vm.method? m = some meth) (h3 : meth.code = some c) (h4 : c.code = bytes)
    (h5 : (c.maxLocals == mx && c.exceptionTable.isEmpty && decide (c.maxStack ≤ mostOperands) && decide (meth.sig.returnType = rt) && !meth.locks && decide (parseMethodDescriptor y.desc = some meth.sig)) = true) : (Jvm.Cond.code y bytes mx rt).before a s = true := by
  simp only [Bool.and_eq_true, beq_iff_eq, Bool.not_eq_true', decide_eq_true_eq] at h5
  obtain ⟨⟨⟨⟨⟨g1, g2⟩, g3⟩, g4⟩, g5⟩, g6⟩ := h5
  simp [Cond.before, Cond.holds, Cond.value, h1, h2, h3, h4, g1, g2, g3, g4, g5, g6]
def isCode : Jvm.Cond → Bool
  | .code _ _ _ _ => true
  | _ => false
theorem all_split {L : List Jvm.Cond} {P : Jvm.Cond → Bool} (h1 : L.all (fun c => isCode c || P c) = true) (h2 : ∀ c ∈ L.filter isCode, P c = true) : L.all P = true := by
  refine List.all_eq_true.mpr fun c hc => ?_
  have h := List.all_eq_true.mp h1 c hc
  rcases Bool.eq_false_or_eq_true (isCode c) with hi | hi
  · exact h2 c (List.mem_filter.mpr ⟨hc, hi⟩)
  · simpa [hi] using h
set_option maxRecDepth 65536 in
theorem w_c0 : (Jvm.Cond.code x code maxLocals ret).before args0 about1 = true := code_word (m := ⟨1, 1⟩) (meth := k1m1) (c := k1c1) (by decide +kernel) rfl rfl rfl (by decide +kernel)
set_option maxRecDepth 65536 in
theorem w_c1 : (Jvm.Cond.code ({ cls := "com/example/libsld/libsld/PrimeField", name := "<init>", desc := "(I)V" } : Jvm.MethodName) prog_87_method_1_code (9 : Nat) (Option.none : Option Jvm.ClassFile.FieldType)).before args0 about1 = true := code_word (m := ⟨2, 0⟩) (meth := k2m0) (c := k2c0) (by decide +kernel) rfl rfl rfl (by decide +kernel)
set_option maxRecDepth 65536 in
theorem w_c2 : (Jvm.Cond.code ({ cls := "java/lang/Object", name := "<init>", desc := "()V" } : Jvm.MethodName) object_method_1_code (1 : Nat) (Option.none : Option Jvm.ClassFile.FieldType)).before args0 about1 = true := code_word (m := ⟨0, 0⟩) (meth := k0m0) (c := k0c0) (by decide +kernel) rfl rfl rfl (by decide +kernel)
set_option maxRecDepth 65536 in
theorem w_c3 : (Jvm.Cond.code ({ cls := "java/lang/Long", name := "remainderUnsigned", desc := "(JJ)J" } : Jvm.MethodName) jdk_35_method_45_code (8 : Nat) (Option.some Jvm.ClassFile.FieldType.long)).before args0 about1 = true := code_word (m := ⟨8, 0⟩) (meth := k8m0) (c := k8c0) (by decide +kernel) rfl rfl rfl (by decide +kernel)
set_option maxRecDepth 65536 in
theorem w_c4 : (Jvm.Cond.code ({ cls := "com/example/libsld/libsld/PrimeField", name := "subtractIfAbove", desc := "(JJ)J" } : Jvm.MethodName) prog_87_method_10_code (6 : Nat) (Option.some Jvm.ClassFile.FieldType.long)).before args0 about1 = true := code_word (m := ⟨2, 6⟩) (meth := k2m6) (c := k2c6) (by decide +kernel) rfl rfl rfl (by decide +kernel)
set_option maxRecDepth 65536 in
theorem w_c5 : (Jvm.Cond.code ({ cls := "com/example/libsld/libsld/PrimeField", name := "power", desc := "(JJ)J" } : Jvm.MethodName) prog_87_method_6_code (11 : Nat) (Option.some Jvm.ClassFile.FieldType.long)).before args0 about1 = true := code_word (m := ⟨2, 5⟩) (meth := k2m5) (c := k2c5) (by decide +kernel) rfl rfl rfl (by decide +kernel)
set_option maxRecDepth 65536 in
theorem w_c6 : (Jvm.Cond.code ({ cls := "com/example/libsld/libsld/PrimeField", name := "multiply", desc := "(JJ)J" } : Jvm.MethodName) prog_87_method_3_code (5 : Nat) (Option.some Jvm.ClassFile.FieldType.long)).before args0 about1 = true := code_word (m := ⟨2, 2⟩) (meth := k2m2) (c := k2c2) (by decide +kernel) rfl rfl rfl (by decide +kernel)
set_option maxRecDepth 65536 in
theorem w_c7 : (Jvm.Cond.code ({ cls := "java/lang/Math", name := "multiplyHigh", desc := "(JJ)J" } : Jvm.MethodName) jdk_29_method_45_code (20 : Nat) (Option.some Jvm.ClassFile.FieldType.long)).before args0 about1 = true := code_word (m := ⟨9, 1⟩) (meth := k9m1) (c := k9c1) (by decide +kernel) rfl rfl rfl (by decide +kernel)
set_option maxRecDepth 65536 in
theorem w_c8 : (Jvm.Cond.code ({ cls := "com/example/libsld/libsld/PrimeField", name := "reduce", desc := "(JJ)J" } : Jvm.MethodName) prog_87_method_2_code (9 : Nat) (Option.some Jvm.ClassFile.FieldType.long)).before args0 about1 = true := code_word (m := ⟨2, 1⟩) (meth := k2m1) (c := k2c1) (by decide +kernel) rfl rfl rfl (by decide +kernel)
set_option maxRecDepth 65536 in
theorem w_c9 : (Jvm.Cond.code ({ cls := "com/example/libsld/libsld/PrimeField", name := "toMontgomery", desc := "(J)J" } : Jvm.MethodName) prog_87_method_4_code (3 : Nat) (Option.some Jvm.ClassFile.FieldType.long)).before args0 about1 = true := code_word (m := ⟨2, 3⟩) (meth := k2m3) (c := k2c3) (by decide +kernel) rfl rfl rfl (by decide +kernel)
set_option maxRecDepth 65536 in
theorem w_c10 : (Jvm.Cond.code ({ cls := "com/example/libsld/libsld/PrimeField", name := "invert", desc := "(J)J" } : Jvm.MethodName) prog_87_method_5_code (17 : Nat) (Option.some Jvm.ClassFile.FieldType.long)).before args0 about1 = true := code_word (m := ⟨2, 4⟩) (meth := k2m4) (c := k2c4) (by decide +kernel) rfl rfl rfl (by decide +kernel)
def codes1 : List Jvm.Cond := [Jvm.Cond.code x code maxLocals ret, Jvm.Cond.code ({ cls := "com/example/libsld/libsld/PrimeField", name := "<init>", desc := "(I)V" } : Jvm.MethodName) prog_87_method_1_code (9 : Nat) (Option.none : Option Jvm.ClassFile.FieldType), Jvm.Cond.code ({ cls := "java/lang/Object", name := "<init>", desc := "()V" } : Jvm.MethodName) object_method_1_code (1 : Nat) (Option.none : Option Jvm.ClassFile.FieldType), Jvm.Cond.code ({ cls := "java/lang/Long", name := "remainderUnsigned", desc := "(JJ)J" } : Jvm.MethodName) jdk_35_method_45_code (8 : Nat) (Option.some Jvm.ClassFile.FieldType.long), Jvm.Cond.code ({ cls := "com/example/libsld/libsld/PrimeField", name := "subtractIfAbove", desc := "(JJ)J" } : Jvm.MethodName) prog_87_method_10_code (6 : Nat) (Option.some Jvm.ClassFile.FieldType.long), Jvm.Cond.code ({ cls := "com/example/libsld/libsld/PrimeField", name := "power", desc := "(JJ)J" } : Jvm.MethodName) prog_87_method_6_code (11 : Nat) (Option.some Jvm.ClassFile.FieldType.long), Jvm.Cond.code ({ cls := "com/example/libsld/libsld/PrimeField", name := "multiply", desc := "(JJ)J" } : Jvm.MethodName) prog_87_method_3_code (5 : Nat) (Option.some Jvm.ClassFile.FieldType.long), Jvm.Cond.code ({ cls := "java/lang/Math", name := "multiplyHigh", desc := "(JJ)J" } : Jvm.MethodName) jdk_29_method_45_code (20 : Nat) (Option.some Jvm.ClassFile.FieldType.long), Jvm.Cond.code ({ cls := "com/example/libsld/libsld/PrimeField", name := "reduce", desc := "(JJ)J" } : Jvm.MethodName) prog_87_method_2_code (9 : Nat) (Option.some Jvm.ClassFile.FieldType.long), Jvm.Cond.code ({ cls := "com/example/libsld/libsld/PrimeField", name := "toMontgomery", desc := "(J)J" } : Jvm.MethodName) prog_87_method_4_code (3 : Nat) (Option.some Jvm.ClassFile.FieldType.long), Jvm.Cond.code ({ cls := "com/example/libsld/libsld/PrimeField", name := "invert", desc := "(J)J" } : Jvm.MethodName) prog_87_method_5_code (17 : Nat) (Option.some Jvm.ClassFile.FieldType.long)]
set_option maxRecDepth 65536 in
theorem codes_eq : words1.filter isCode = codes1 := rfl
theorem w_codes : ∀ c ∈ words1.filter isCode, c.before args0 about1 = true := by
  rw [codes_eq]
  intro c hc
  simp only [codes1, List.mem_cons, List.not_mem_nil, or_false] at hc
  rcases hc with rfl | rfl | rfl | rfl | rfl | rfl | rfl | rfl | rfl | rfl | rfl
  · exact w_c0
  · exact w_c1
  · exact w_c2
  · exact w_c3
  · exact w_c4
  · exact w_c5
  · exact w_c6
  · exact w_c7
  · exact w_c8
  · exact w_c9
  · exact w_c10
set_option maxRecDepth 65536 in
theorem w_t1 : (words1.take 24).all (fun c => isCode c || c.before args0 about1) = true := by decide +kernel
set_option maxRecDepth 65536 in
theorem w_t2 : ((words1.drop 24).take 24).all (fun c => isCode c || c.before args0 about1) = true := by decide +kernel
set_option maxRecDepth 65536 in
theorem w_t3 : ((words1.drop 24).drop 24).all (fun c => isCode c || c.before args0 about1) = true := by decide +kernel
theorem w_tables : (allAtoms (Jvm.Cond.code x code maxLocals ret :: tables_1)).before args0 about1 = true := by
  rw [allAtoms_all]
  show words1.all (fun c => c.before args0 about1) = true
  refine all_split ?_ w_codes
  rw [← List.take_append_drop 24 words1, List.all_append, w_t1, ← List.take_append_drop 24 (words1.drop 24), List.all_append, w_t2, w_t3]
  rfl
set_option maxRecDepth 65536 in
theorem w_case : (Jvm.Cond.and given_1 narrow_1).before args0 about1 = true := by decide +kernel
theorem w_applies : (headSpec (Jvm.Cond.code x code maxLocals ret :: tables_1) room_1).applies x e0.platform about1 = true :=
  (Spec.applies_iff w_frames).mpr ⟨w_running, w_runnable, w_alone, w_named, w_hears, w_ripe, w_room, w_tables⟩
theorem atStart : AtStart classFile x code maxLocals ret World_1 tables_1 room_1 Calls_1 rest_1 Pre_1 launch0 p0 e0 about1 theMethod args0 below0 :=
  ⟨lists_1, trivial, launch0.admits_env _ _ _, launch0.least_env, fairChoices_fair.cas, fairChoices_fair.clock, w_frames, w_args, w_heap, w_applies, trivial, trivial, w_case⟩
end start1
theorem witness_1 : WitnessClaimed_1 := ⟨start1.p0, start1.e0, start1.about1, start1.theMethod, start1.args0, start1.below0, start1.atStart⟩
end Jvm.Pilot.@@N@@
