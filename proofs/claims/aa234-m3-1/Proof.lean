import JvmDerived
import JvmDerived.Pilot.@@N@@Statement
import JvmDerived.Pilot.@@N@@Code
set_option linter.unusedVariables false
set_option linter.unusedSimpArgs false
@@BLOCK:NumsL.lean.txt@@
namespace Jvm.RoadKit
open Sem ClassFile Op Lib Jvm.Stand Jvm.Free Jvm.LawKit
section New
variable {p : Program} {l : Launch} {e : Env} {R : Room} {s : State} {m : MethodId} {args : Array Value} {below : List Frame} {meth : Method} {c : Code} {T : State} {locs : List Loc} {cells slots : Nat}
theorem retI (X : Stand p l e R s m args below meth c T locs cells slots) (hx : p.tables.exec = Jvm.exec) {pc : Nat} {Ls : Array Slot} {z : Int32} {rest : List Value} (hret : meth.sig.returnType = some .int) (hd : decode c.code pc = .ok (.ireturn, 1)) {fs : List Frame}
    (hl : ∀ (f : JFrame) (acts : List Action), f.method = m → f.locked = none → f.entered = [] → (doReturn e (T.setTop f) acts (some (.int z))).1 = T.setFrames fs) : Steps p.tables e below (T.setTop (mkF m pc Ls (.int z :: rest))) (T.setFrames fs) := by
  have hm' : T.vm.method? m = some meth := X.method'
  have hn : narrow .int (.int z) = .int z := rfl
  show Steps p.tables e below (T.setTop { method := m, pc := pc, locals := Ls, stack := _ :: rest, locked := none }) _
  jvm_step X.here [X.here.top, hx, hd, hm', hret, hn]
  first | (intro acts; rw [hl _ acts rfl rfl rfl]) | rw [hl _ _ rfl rfl rfl]
  exact Steps.refl _
end New
end Jvm.RoadKit
namespace Jvm.Pilot.@@N@@
open Jvm Jvm.ClassFile Sem Op Lib Jvm.Free Jvm.Stand Jvm.LawKit Jvm.RoadKit Bundle Jvm.Pilot.@@N@@.Jvm.D
abbrev own_P (p : Program) (e : Env) (below : List Frame) (S : State) (E : JFrame) (T : State) (F : JFrame) : Prop := ∀ t, Steps p.tables e below (T.setTop F) t → Steps p.tables e below (S.setTop E) t
abbrev own_M (l : Launch) (y : MethodName) (b : ByteArray) (ml : Nat) (rt : Option FieldType) (ws : List Jvm.Cond) (rm : Room) (Z : State) (h0 : Heap) (as : Array Value) (Q : Option Value → Heap → List Loc → Prop) : Prop := MetFree l y (head1 (Jvm.Cond.code y b ml rt :: ws) rm) (fun a U => a = as ∧ Z.Warmed39 U.vm ∧ U.heap = h0) (fun _ _ _ _ _ => True) (fun _ U o U' => ∃ v L, o = .returned v ∧ Q v U'.heap L ∧ FrameEnd U o U' L rm.cells rm.slots)
theorem own_m {L : List Jvm.Cond} {a0 args : Array Value} {Z s : State} (hZ : Z.Warmed39 s.vm) (hw : ∀ d ∈ L, d.before a0 Z = true) (i : Nat) {d : Jvm.Cond} (h : L[i]? = some d := by rfl) (hd : (d.onTables && d.keepsFace) = true := by first | rfl | simp [Cond.onTables, Cond.keepsFace, Cond.keeps, Cond.steady]) : d.before args s = true := mvT hZ (hw _ (List.mem_of_getElem? h)) hd
abbrev own_R (a b c d : Nat) : Room := { frames := a, cells := b, slots := c, locals := d }
abbrev own_y0 : MethodName := ⟨"java/lang/StringUTF16", "compress", "([CI[BII)I"⟩
abbrev own_y1 : MethodName := ⟨"java/lang/StringUTF16", "compress", "([CII)[B"⟩
abbrev own_y2 : MethodName := ⟨"java/lang/StringUTF16", "coderFromArrayLen", "([BI)B"⟩
abbrev own_y3 : MethodName := ⟨"java/lang/String", "<init>", "([CIILjava/lang/Void;)V"⟩
abbrev own_y4 : MethodName := ⟨"java/lang/String", "<init>", "([C)V"⟩
abbrev own_y5 : MethodName := ⟨"com/example/millipede/millipede/DecimalNumbersCanonicalPinLaw", "digit", "(III)I"⟩
abbrev own_y6 : MethodName := ⟨"com/example/millipede/millipede/DecimalNumbersCanonicalPinLaw", "ch", "(I)C"⟩
abbrev own_y7 : MethodName := ⟨"com/example/millipede/millipede/DecimalNumbersCanonicalPinLaw", "text", "(IIIII)Ljava/lang/String;"⟩
abbrev own_y8 : MethodName := ⟨"com/example/millipede/millipede/DecimalNumbersCanonicalPinLaw", "decimal", "(I)Ljava/lang/String;"⟩
abbrev own_y9 : MethodName := ⟨"java/lang/String", "coder", "()B"⟩
abbrev own_y10 : MethodName := ⟨"java/lang/String", "isLatin1", "()Z"⟩
abbrev own_y11 : MethodName := ⟨"java/lang/String", "length", "()I"⟩
abbrev own_y12 : MethodName := ⟨"jdk/internal/util/Preconditions", "checkIndex", "(IILjava/util/function/BiFunction;)I"⟩
abbrev own_y13 : MethodName := ⟨"java/lang/String", "checkIndex", "(II)V"⟩
abbrev own_y14 : MethodName := ⟨"java/lang/StringLatin1", "charAt", "([BI)C"⟩
abbrev own_y15 : MethodName := ⟨"java/lang/String", "charAt", "(I)C"⟩
abbrev own_y16 : MethodName := ⟨"jdk/internal/util/Preconditions", "checkFromToIndex", "(IIILjava/util/function/BiFunction;)I"⟩
abbrev own_y17 : MethodName := ⟨"java/lang/String", "checkBoundsBeginEnd", "(III)V"⟩
abbrev own_y18 : MethodName := ⟨"java/util/Arrays", "checkLength", "(II)V"⟩
abbrev own_y19 : MethodName := ⟨"java/lang/String", "<init>", "([BB)V"⟩
abbrev own_y20 : MethodName := ⟨"java/lang/Math", "min", "(II)I"⟩
abbrev own_y21 : MethodName := ⟨"java/util/Arrays", "copyOfRangeByte", "([BII)[B"⟩
abbrev own_y22 : MethodName := ⟨"java/util/Arrays", "copyOfRange", "([BII)[B"⟩
abbrev own_y23 : MethodName := ⟨"java/lang/StringLatin1", "newString", "([BII)Ljava/lang/String;"⟩
abbrev own_y24 : MethodName := ⟨"java/lang/String", "substring", "(II)Ljava/lang/String;"⟩
abbrev own_y25 : MethodName := ⟨"java/lang/String", "substring", "(I)Ljava/lang/String;"⟩
abbrev own_y26 : MethodName := ⟨"com/example/millipede/millipede/DecimalNumbers", "canonical", "(Ljava/lang/String;)Ljava/lang/String;"⟩
abbrev own_y27 : MethodName := ⟨"java/lang/StringLatin1", "equals", "([B[B)Z"⟩
abbrev own_y28 : MethodName := ⟨"java/lang/String", "equals", "(Ljava/lang/Object;)Z"⟩
theorem own_nr {n : String} {w : Value} (h : w.isRef = true) : narrow (.object n) w = w := by rcases ref_cases h with rfl | ⟨_, rfl⟩ <;> rfl
theorem own_i {L : List Jvm.Cond} {a0 : Array Value} {Z : State} (hw : ∀ d ∈ L, d.before a0 Z = true) (i : Nat) {d : Jvm.Cond} (h : L[i]? = some d) : d.before a0 Z = true := hw _ (List.mem_of_getElem? h)
theorem d1_0 : decode method_3_code 0 = .ok (.iload_n 1, 1) := by decide +kernel
theorem d1_1 : decode method_3_code 1 = .ok (.iload_n 2, 1) := by decide +kernel
theorem d1_2 : decode method_3_code 2 = .ok (.ishr, 1) := by decide +kernel
theorem d1_3 : decode method_3_code 3 = .ok (.iconst 1, 1) := by decide +kernel
theorem d1_4 : decode method_3_code 4 = .ok (.iand, 1) := by decide +kernel
theorem d1_5 : decode method_3_code 5 = .ok (.ifCond .eq 5, 3) := by decide +kernel
theorem d1_8 : decode method_3_code 8 = .ok (.iconst 0, 1) := by decide +kernel
theorem d1_9 : decode method_3_code 9 = .ok (.ireturn, 1) := by decide +kernel
theorem d1_10 : decode method_3_code 10 = .ok (.iload_n 0, 1) := by decide +kernel
theorem d1_11 : decode method_3_code 11 = .ok (.ldc 33, 2) := by decide +kernel
theorem d1_13 : decode method_3_code 13 = .ok (.iand, 1) := by decide +kernel
theorem d1_14 : decode method_3_code 14 = .ok (.bipush 10, 2) := by decide +kernel
theorem d1_16 : decode method_3_code 16 = .ok (.irem, 1) := by decide +kernel
theorem d1_17 : decode method_3_code 17 = .ok (.ireturn, 1) := by decide +kernel
theorem d2_0 : decode method_5_code 0 = .ok (.iload_n 0, 1) := by decide +kernel
theorem d2_1 : decode method_5_code 1 = .ok (.iconst 1, 1) := by decide +kernel
theorem d2_2 : decode method_5_code 2 = .ok (.if_icmp .ne 21, 3) := by decide +kernel
theorem d2_5 : decode method_5_code 5 = .ok (.new 28, 3) := by decide +kernel
theorem d2_8 : decode method_5_code 8 = .ok (.dup, 1) := by decide +kernel
theorem d2_9 : decode method_5_code 9 = .ok (.iconst 1, 1) := by decide +kernel
theorem d2_10 : decode method_5_code 10 = .ok (.newarray .char, 2) := by decide +kernel
theorem d2_12 : decode method_5_code 12 = .ok (.dup, 1) := by decide +kernel
theorem d2_13 : decode method_5_code 13 = .ok (.iconst 0, 1) := by decide +kernel
theorem d2_14 : decode method_5_code 14 = .ok (.iload_n 1, 1) := by decide +kernel
theorem d2_15 : decode method_5_code 15 = .ok (.invokestatic 34, 3) := by decide +kernel
theorem d2_18 : decode method_5_code 18 = .ok (.castore, 1) := by decide +kernel
theorem d2_19 : decode method_5_code 19 = .ok (.invokespecial 38, 3) := by decide +kernel
theorem d2_22 : decode method_5_code 22 = .ok (.areturn, 1) := by decide +kernel
theorem d2_23 : decode method_5_code 23 = .ok (.iload_n 0, 1) := by decide +kernel
theorem d2_24 : decode method_5_code 24 = .ok (.iconst 2, 1) := by decide +kernel
theorem d2_25 : decode method_5_code 25 = .ok (.if_icmp .ne 28, 3) := by decide +kernel
theorem d2_28 : decode method_5_code 28 = .ok (.new 28, 3) := by decide +kernel
theorem d2_31 : decode method_5_code 31 = .ok (.dup, 1) := by decide +kernel
theorem d2_32 : decode method_5_code 32 = .ok (.iconst 2, 1) := by decide +kernel
theorem d2_33 : decode method_5_code 33 = .ok (.newarray .char, 2) := by decide +kernel
theorem d2_35 : decode method_5_code 35 = .ok (.dup, 1) := by decide +kernel
theorem d2_36 : decode method_5_code 36 = .ok (.iconst 0, 1) := by decide +kernel
theorem d2_37 : decode method_5_code 37 = .ok (.iload_n 1, 1) := by decide +kernel
theorem d2_38 : decode method_5_code 38 = .ok (.invokestatic 34, 3) := by decide +kernel
theorem d2_41 : decode method_5_code 41 = .ok (.castore, 1) := by decide +kernel
theorem d2_42 : decode method_5_code 42 = .ok (.dup, 1) := by decide +kernel
theorem d2_43 : decode method_5_code 43 = .ok (.iconst 1, 1) := by decide +kernel
theorem d2_44 : decode method_5_code 44 = .ok (.iload_n 2, 1) := by decide +kernel
theorem d2_45 : decode method_5_code 45 = .ok (.invokestatic 34, 3) := by decide +kernel
theorem d2_48 : decode method_5_code 48 = .ok (.castore, 1) := by decide +kernel
theorem d2_49 : decode method_5_code 49 = .ok (.invokespecial 38, 3) := by decide +kernel
theorem d2_52 : decode method_5_code 52 = .ok (.areturn, 1) := by decide +kernel
theorem d2_53 : decode method_5_code 53 = .ok (.iload_n 0, 1) := by decide +kernel
theorem d2_54 : decode method_5_code 54 = .ok (.iconst 3, 1) := by decide +kernel
theorem d2_55 : decode method_5_code 55 = .ok (.if_icmp .ne 35, 3) := by decide +kernel
theorem d2_58 : decode method_5_code 58 = .ok (.new 28, 3) := by decide +kernel
theorem d2_61 : decode method_5_code 61 = .ok (.dup, 1) := by decide +kernel
theorem d2_62 : decode method_5_code 62 = .ok (.iconst 3, 1) := by decide +kernel
theorem d2_63 : decode method_5_code 63 = .ok (.newarray .char, 2) := by decide +kernel
theorem d2_65 : decode method_5_code 65 = .ok (.dup, 1) := by decide +kernel
theorem d2_66 : decode method_5_code 66 = .ok (.iconst 0, 1) := by decide +kernel
theorem d2_67 : decode method_5_code 67 = .ok (.iload_n 1, 1) := by decide +kernel
theorem d2_68 : decode method_5_code 68 = .ok (.invokestatic 34, 3) := by decide +kernel
theorem d2_71 : decode method_5_code 71 = .ok (.castore, 1) := by decide +kernel
theorem d2_72 : decode method_5_code 72 = .ok (.dup, 1) := by decide +kernel
theorem d2_73 : decode method_5_code 73 = .ok (.iconst 1, 1) := by decide +kernel
theorem d2_74 : decode method_5_code 74 = .ok (.iload_n 2, 1) := by decide +kernel
theorem d2_75 : decode method_5_code 75 = .ok (.invokestatic 34, 3) := by decide +kernel
theorem d2_78 : decode method_5_code 78 = .ok (.castore, 1) := by decide +kernel
theorem d2_79 : decode method_5_code 79 = .ok (.dup, 1) := by decide +kernel
theorem d2_80 : decode method_5_code 80 = .ok (.iconst 2, 1) := by decide +kernel
theorem d2_81 : decode method_5_code 81 = .ok (.iload_n 3, 1) := by decide +kernel
theorem d2_82 : decode method_5_code 82 = .ok (.invokestatic 34, 3) := by decide +kernel
theorem d2_85 : decode method_5_code 85 = .ok (.castore, 1) := by decide +kernel
theorem d2_86 : decode method_5_code 86 = .ok (.invokespecial 38, 3) := by decide +kernel
theorem d2_89 : decode method_5_code 89 = .ok (.areturn, 1) := by decide +kernel
theorem d2_90 : decode method_5_code 90 = .ok (.new 28, 3) := by decide +kernel
theorem d2_93 : decode method_5_code 93 = .ok (.dup, 1) := by decide +kernel
theorem d2_94 : decode method_5_code 94 = .ok (.iconst 4, 1) := by decide +kernel
theorem d2_95 : decode method_5_code 95 = .ok (.newarray .char, 2) := by decide +kernel
theorem d2_97 : decode method_5_code 97 = .ok (.dup, 1) := by decide +kernel
theorem d2_98 : decode method_5_code 98 = .ok (.iconst 0, 1) := by decide +kernel
theorem d2_99 : decode method_5_code 99 = .ok (.iload_n 1, 1) := by decide +kernel
theorem d2_100 : decode method_5_code 100 = .ok (.invokestatic 34, 3) := by decide +kernel
theorem d2_103 : decode method_5_code 103 = .ok (.castore, 1) := by decide +kernel
theorem d2_104 : decode method_5_code 104 = .ok (.dup, 1) := by decide +kernel
theorem d2_105 : decode method_5_code 105 = .ok (.iconst 1, 1) := by decide +kernel
theorem d2_106 : decode method_5_code 106 = .ok (.iload_n 2, 1) := by decide +kernel
theorem d2_107 : decode method_5_code 107 = .ok (.invokestatic 34, 3) := by decide +kernel
theorem d2_110 : decode method_5_code 110 = .ok (.castore, 1) := by decide +kernel
theorem d2_111 : decode method_5_code 111 = .ok (.dup, 1) := by decide +kernel
theorem d2_112 : decode method_5_code 112 = .ok (.iconst 2, 1) := by decide +kernel
theorem d2_113 : decode method_5_code 113 = .ok (.iload_n 3, 1) := by decide +kernel
theorem d2_114 : decode method_5_code 114 = .ok (.invokestatic 34, 3) := by decide +kernel
theorem d2_117 : decode method_5_code 117 = .ok (.castore, 1) := by decide +kernel
theorem d2_118 : decode method_5_code 118 = .ok (.dup, 1) := by decide +kernel
theorem d2_119 : decode method_5_code 119 = .ok (.iconst 3, 1) := by decide +kernel
theorem d2_120 : decode method_5_code 120 = .ok (.iload 4, 2) := by decide +kernel
theorem d2_122 : decode method_5_code 122 = .ok (.invokestatic 34, 3) := by decide +kernel
theorem d2_125 : decode method_5_code 125 = .ok (.castore, 1) := by decide +kernel
theorem d2_126 : decode method_5_code 126 = .ok (.invokespecial 38, 3) := by decide +kernel
theorem d2_129 : decode method_5_code 129 = .ok (.areturn, 1) := by decide +kernel
theorem d3_0 : decode method_4_code 0 = .ok (.bipush 48, 2) := by decide +kernel
theorem d3_2 : decode method_4_code 2 = .ok (.iload_n 0, 1) := by decide +kernel
theorem d3_3 : decode method_4_code 3 = .ok (.iadd, 1) := by decide +kernel
theorem d3_4 : decode method_4_code 4 = .ok (.i2c, 1) := by decide +kernel
theorem d3_5 : decode method_4_code 5 = .ok (.ireturn, 1) := by decide +kernel
theorem d4_0 : decode jdk_42_method_3_code 0 = .ok (.aload_n 0, 1) := by decide +kernel
theorem d4_1 : decode jdk_42_method_3_code 1 = .ok (.aload_n 1, 1) := by decide +kernel
theorem d4_2 : decode jdk_42_method_3_code 2 = .ok (.iconst 0, 1) := by decide +kernel
theorem d4_3 : decode jdk_42_method_3_code 3 = .ok (.aload_n 1, 1) := by decide +kernel
theorem d4_4 : decode jdk_42_method_3_code 4 = .ok (.arraylength, 1) := by decide +kernel
theorem d4_5 : decode jdk_42_method_3_code 5 = .ok (.aconst_null, 1) := by decide +kernel
theorem d4_6 : decode jdk_42_method_3_code 6 = .ok (.invokespecial 27, 3) := by decide +kernel
theorem d4_9 : decode jdk_42_method_3_code 9 = .ok (.return_, 1) := by decide +kernel
theorem d5_0 : decode jdk_42_method_149_code 0 = .ok (.aload_n 0, 1) := by decide +kernel
theorem d5_1 : decode jdk_42_method_149_code 1 = .ok (.invokespecial 1, 3) := by decide +kernel
theorem d5_4 : decode jdk_42_method_149_code 4 = .ok (.iload_n 3, 1) := by decide +kernel
theorem d5_5 : decode jdk_42_method_149_code 5 = .ok (.ifCond .ne 22, 3) := by decide +kernel
theorem d5_27 : decode jdk_42_method_149_code 27 = .ok (.getstatic 38, 3) := by decide +kernel
theorem d5_30 : decode jdk_42_method_149_code 30 = .ok (.ifCond .eq 28, 3) := by decide +kernel
theorem d5_33 : decode jdk_42_method_149_code 33 = .ok (.aload_n 1, 1) := by decide +kernel
theorem d5_34 : decode jdk_42_method_149_code 34 = .ok (.iload_n 2, 1) := by decide +kernel
theorem d5_35 : decode jdk_42_method_149_code 35 = .ok (.iload_n 3, 1) := by decide +kernel
theorem d5_36 : decode jdk_42_method_149_code 36 = .ok (.invokestatic 177, 3) := by decide +kernel
theorem d5_39 : decode jdk_42_method_149_code 39 = .ok (.astore 5, 2) := by decide +kernel
theorem d5_41 : decode jdk_42_method_149_code 41 = .ok (.aload_n 0, 1) := by decide +kernel
theorem d5_42 : decode jdk_42_method_149_code 42 = .ok (.aload 5, 2) := by decide +kernel
theorem d5_44 : decode jdk_42_method_149_code 44 = .ok (.iload_n 3, 1) := by decide +kernel
theorem d5_45 : decode jdk_42_method_149_code 45 = .ok (.invokestatic 47, 3) := by decide +kernel
theorem d5_48 : decode jdk_42_method_149_code 48 = .ok (.putfield 15, 3) := by decide +kernel
theorem d5_51 : decode jdk_42_method_149_code 51 = .ok (.aload_n 0, 1) := by decide +kernel
theorem d5_52 : decode jdk_42_method_149_code 52 = .ok (.aload 5, 2) := by decide +kernel
theorem d5_54 : decode jdk_42_method_149_code 54 = .ok (.putfield 9, 3) := by decide +kernel
theorem d5_57 : decode jdk_42_method_149_code 57 = .ok (.return_, 1) := by decide +kernel
theorem d7_0 : decode jdk_52_method_16_code 0 = .ok (.iload_n 2, 1) := by decide +kernel
theorem d7_1 : decode jdk_52_method_16_code 1 = .ok (.newarray .byte, 2) := by decide +kernel
theorem d7_3 : decode jdk_52_method_16_code 3 = .ok (.astore_n 3, 1) := by decide +kernel
theorem d7_4 : decode jdk_52_method_16_code 4 = .ok (.aload_n 0, 1) := by decide +kernel
theorem d7_5 : decode jdk_52_method_16_code 5 = .ok (.iload_n 1, 1) := by decide +kernel
theorem d7_6 : decode jdk_52_method_16_code 6 = .ok (.aload_n 3, 1) := by decide +kernel
theorem d7_7 : decode jdk_52_method_16_code 7 = .ok (.iconst 0, 1) := by decide +kernel
theorem d7_8 : decode jdk_52_method_16_code 8 = .ok (.iload_n 2, 1) := by decide +kernel
theorem d7_9 : decode jdk_52_method_16_code 9 = .ok (.invokestatic 115, 3) := by decide +kernel
theorem d7_12 : decode jdk_52_method_16_code 12 = .ok (.istore 4, 2) := by decide +kernel
theorem d7_14 : decode jdk_52_method_16_code 14 = .ok (.iload 4, 2) := by decide +kernel
theorem d7_16 : decode jdk_52_method_16_code 16 = .ok (.iload_n 2, 1) := by decide +kernel
theorem d7_17 : decode jdk_52_method_16_code 17 = .ok (.if_icmp .eq 40, 3) := by decide +kernel
theorem d7_57 : decode jdk_52_method_16_code 57 = .ok (.aload_n 3, 1) := by decide +kernel
theorem d7_58 : decode jdk_52_method_16_code 58 = .ok (.areturn, 1) := by decide +kernel
theorem d8_0 : decode jdk_52_method_21_code 0 = .ok (.iconst 0, 1) := by decide +kernel
theorem d8_1 : decode jdk_52_method_21_code 1 = .ok (.istore 5, 2) := by decide +kernel
theorem d8_3 : decode jdk_52_method_21_code 3 = .ok (.iload 5, 2) := by decide +kernel
theorem d8_5 : decode jdk_52_method_21_code 5 = .ok (.iload 4, 2) := by decide +kernel
theorem d8_7 : decode jdk_52_method_21_code 7 = .ok (.if_icmp .ge 37, 3) := by decide +kernel
theorem d8_10 : decode jdk_52_method_21_code 10 = .ok (.aload_n 0, 1) := by decide +kernel
theorem d8_11 : decode jdk_52_method_21_code 11 = .ok (.iload_n 1, 1) := by decide +kernel
theorem d8_12 : decode jdk_52_method_21_code 12 = .ok (.caload, 1) := by decide +kernel
theorem d8_13 : decode jdk_52_method_21_code 13 = .ok (.istore 6, 2) := by decide +kernel
theorem d8_15 : decode jdk_52_method_21_code 15 = .ok (.iload 6, 2) := by decide +kernel
theorem d8_17 : decode jdk_52_method_21_code 17 = .ok (.sipush 255, 3) := by decide +kernel
theorem d8_20 : decode jdk_52_method_21_code 20 = .ok (.if_icmp .le 6, 3) := by decide +kernel
theorem d8_26 : decode jdk_52_method_21_code 26 = .ok (.aload_n 2, 1) := by decide +kernel
theorem d8_27 : decode jdk_52_method_21_code 27 = .ok (.iload_n 3, 1) := by decide +kernel
theorem d8_28 : decode jdk_52_method_21_code 28 = .ok (.iload 6, 2) := by decide +kernel
theorem d8_30 : decode jdk_52_method_21_code 30 = .ok (.i2b, 1) := by decide +kernel
theorem d8_31 : decode jdk_52_method_21_code 31 = .ok (.bastore, 1) := by decide +kernel
theorem d8_32 : decode jdk_52_method_21_code 32 = .ok (.iinc 1 1, 3) := by decide +kernel
theorem d8_35 : decode jdk_52_method_21_code 35 = .ok (.iinc 3 1, 3) := by decide +kernel
theorem d8_38 : decode jdk_52_method_21_code 38 = .ok (.iinc 5 1, 3) := by decide +kernel
theorem d8_41 : decode jdk_52_method_21_code 41 = .ok (.goto (-38), 3) := by decide +kernel
theorem d8_44 : decode jdk_52_method_21_code 44 = .ok (.iload 4, 2) := by decide +kernel
theorem d8_46 : decode jdk_52_method_21_code 46 = .ok (.ireturn, 1) := by decide +kernel
theorem d9_0 : decode jdk_52_method_15_code 0 = .ok (.iload_n 1, 1) := by decide +kernel
theorem d9_1 : decode jdk_52_method_15_code 1 = .ok (.aload_n 0, 1) := by decide +kernel
theorem d9_2 : decode jdk_52_method_15_code 2 = .ok (.arraylength, 1) := by decide +kernel
theorem d9_3 : decode jdk_52_method_15_code 3 = .ok (.isub, 1) := by decide +kernel
theorem d9_4 : decode jdk_52_method_15_code 4 = .ok (.bipush 31, 2) := by decide +kernel
theorem d9_6 : decode jdk_52_method_15_code 6 = .ok (.iushr, 1) := by decide +kernel
theorem d9_7 : decode jdk_52_method_15_code 7 = .ok (.i2b, 1) := by decide +kernel
theorem d9_8 : decode jdk_52_method_15_code 8 = .ok (.ireturn, 1) := by decide +kernel
theorem d10_0 : decode method_6_code 0 = .ok (.iload_n 0, 1) := by decide +kernel
theorem d10_1 : decode method_6_code 1 = .ok (.sipush 1000, 3) := by decide +kernel
theorem d10_4 : decode method_6_code 4 = .ok (.if_icmp .lt 61, 3) := by decide +kernel
theorem d10_7 : decode method_6_code 7 = .ok (.new 28, 3) := by decide +kernel
theorem d10_10 : decode method_6_code 10 = .ok (.dup, 1) := by decide +kernel
theorem d10_11 : decode method_6_code 11 = .ok (.iconst 4, 1) := by decide +kernel
theorem d10_12 : decode method_6_code 12 = .ok (.newarray .char, 2) := by decide +kernel
theorem d10_14 : decode method_6_code 14 = .ok (.dup, 1) := by decide +kernel
theorem d10_15 : decode method_6_code 15 = .ok (.iconst 0, 1) := by decide +kernel
theorem d10_16 : decode method_6_code 16 = .ok (.iload_n 0, 1) := by decide +kernel
theorem d10_17 : decode method_6_code 17 = .ok (.sipush 1000, 3) := by decide +kernel
theorem d10_20 : decode method_6_code 20 = .ok (.idiv, 1) := by decide +kernel
theorem d10_21 : decode method_6_code 21 = .ok (.invokestatic 34, 3) := by decide +kernel
theorem d10_24 : decode method_6_code 24 = .ok (.castore, 1) := by decide +kernel
theorem d10_25 : decode method_6_code 25 = .ok (.dup, 1) := by decide +kernel
theorem d10_26 : decode method_6_code 26 = .ok (.iconst 1, 1) := by decide +kernel
theorem d10_27 : decode method_6_code 27 = .ok (.iload_n 0, 1) := by decide +kernel
theorem d10_28 : decode method_6_code 28 = .ok (.bipush 100, 2) := by decide +kernel
theorem d10_30 : decode method_6_code 30 = .ok (.idiv, 1) := by decide +kernel
theorem d10_31 : decode method_6_code 31 = .ok (.bipush 10, 2) := by decide +kernel
theorem d10_33 : decode method_6_code 33 = .ok (.irem, 1) := by decide +kernel
theorem d10_34 : decode method_6_code 34 = .ok (.invokestatic 34, 3) := by decide +kernel
theorem d10_37 : decode method_6_code 37 = .ok (.castore, 1) := by decide +kernel
theorem d10_38 : decode method_6_code 38 = .ok (.dup, 1) := by decide +kernel
theorem d10_39 : decode method_6_code 39 = .ok (.iconst 2, 1) := by decide +kernel
theorem d10_40 : decode method_6_code 40 = .ok (.iload_n 0, 1) := by decide +kernel
theorem d10_41 : decode method_6_code 41 = .ok (.bipush 10, 2) := by decide +kernel
theorem d10_43 : decode method_6_code 43 = .ok (.idiv, 1) := by decide +kernel
theorem d10_44 : decode method_6_code 44 = .ok (.bipush 10, 2) := by decide +kernel
theorem d10_46 : decode method_6_code 46 = .ok (.irem, 1) := by decide +kernel
theorem d10_47 : decode method_6_code 47 = .ok (.invokestatic 34, 3) := by decide +kernel
theorem d10_50 : decode method_6_code 50 = .ok (.castore, 1) := by decide +kernel
theorem d10_51 : decode method_6_code 51 = .ok (.dup, 1) := by decide +kernel
theorem d10_52 : decode method_6_code 52 = .ok (.iconst 3, 1) := by decide +kernel
theorem d10_53 : decode method_6_code 53 = .ok (.iload_n 0, 1) := by decide +kernel
theorem d10_54 : decode method_6_code 54 = .ok (.bipush 10, 2) := by decide +kernel
theorem d10_56 : decode method_6_code 56 = .ok (.irem, 1) := by decide +kernel
theorem d10_57 : decode method_6_code 57 = .ok (.invokestatic 34, 3) := by decide +kernel
theorem d10_60 : decode method_6_code 60 = .ok (.castore, 1) := by decide +kernel
theorem d10_61 : decode method_6_code 61 = .ok (.invokespecial 38, 3) := by decide +kernel
theorem d10_64 : decode method_6_code 64 = .ok (.areturn, 1) := by decide +kernel
theorem d10_65 : decode method_6_code 65 = .ok (.iload_n 0, 1) := by decide +kernel
theorem d10_66 : decode method_6_code 66 = .ok (.bipush 100, 2) := by decide +kernel
theorem d10_68 : decode method_6_code 68 = .ok (.if_icmp .lt 47, 3) := by decide +kernel
theorem d10_71 : decode method_6_code 71 = .ok (.new 28, 3) := by decide +kernel
theorem d10_74 : decode method_6_code 74 = .ok (.dup, 1) := by decide +kernel
theorem d10_75 : decode method_6_code 75 = .ok (.iconst 3, 1) := by decide +kernel
theorem d10_76 : decode method_6_code 76 = .ok (.newarray .char, 2) := by decide +kernel
theorem d10_78 : decode method_6_code 78 = .ok (.dup, 1) := by decide +kernel
theorem d10_79 : decode method_6_code 79 = .ok (.iconst 0, 1) := by decide +kernel
theorem d10_80 : decode method_6_code 80 = .ok (.iload_n 0, 1) := by decide +kernel
theorem d10_81 : decode method_6_code 81 = .ok (.bipush 100, 2) := by decide +kernel
theorem d10_83 : decode method_6_code 83 = .ok (.idiv, 1) := by decide +kernel
theorem d10_84 : decode method_6_code 84 = .ok (.invokestatic 34, 3) := by decide +kernel
theorem d10_87 : decode method_6_code 87 = .ok (.castore, 1) := by decide +kernel
theorem d10_88 : decode method_6_code 88 = .ok (.dup, 1) := by decide +kernel
theorem d10_89 : decode method_6_code 89 = .ok (.iconst 1, 1) := by decide +kernel
theorem d10_90 : decode method_6_code 90 = .ok (.iload_n 0, 1) := by decide +kernel
theorem d10_91 : decode method_6_code 91 = .ok (.bipush 10, 2) := by decide +kernel
theorem d10_93 : decode method_6_code 93 = .ok (.idiv, 1) := by decide +kernel
theorem d10_94 : decode method_6_code 94 = .ok (.bipush 10, 2) := by decide +kernel
theorem d10_96 : decode method_6_code 96 = .ok (.irem, 1) := by decide +kernel
theorem d10_97 : decode method_6_code 97 = .ok (.invokestatic 34, 3) := by decide +kernel
theorem d10_100 : decode method_6_code 100 = .ok (.castore, 1) := by decide +kernel
theorem d10_101 : decode method_6_code 101 = .ok (.dup, 1) := by decide +kernel
theorem d10_102 : decode method_6_code 102 = .ok (.iconst 2, 1) := by decide +kernel
theorem d10_103 : decode method_6_code 103 = .ok (.iload_n 0, 1) := by decide +kernel
theorem d10_104 : decode method_6_code 104 = .ok (.bipush 10, 2) := by decide +kernel
theorem d10_106 : decode method_6_code 106 = .ok (.irem, 1) := by decide +kernel
theorem d10_107 : decode method_6_code 107 = .ok (.invokestatic 34, 3) := by decide +kernel
theorem d10_110 : decode method_6_code 110 = .ok (.castore, 1) := by decide +kernel
theorem d10_111 : decode method_6_code 111 = .ok (.invokespecial 38, 3) := by decide +kernel
theorem d10_114 : decode method_6_code 114 = .ok (.areturn, 1) := by decide +kernel
theorem d10_115 : decode method_6_code 115 = .ok (.iload_n 0, 1) := by decide +kernel
theorem d10_116 : decode method_6_code 116 = .ok (.bipush 10, 2) := by decide +kernel
theorem d10_118 : decode method_6_code 118 = .ok (.if_icmp .lt 34, 3) := by decide +kernel
theorem d10_121 : decode method_6_code 121 = .ok (.new 28, 3) := by decide +kernel
theorem d10_124 : decode method_6_code 124 = .ok (.dup, 1) := by decide +kernel
theorem d10_125 : decode method_6_code 125 = .ok (.iconst 2, 1) := by decide +kernel
theorem d10_126 : decode method_6_code 126 = .ok (.newarray .char, 2) := by decide +kernel
theorem d10_128 : decode method_6_code 128 = .ok (.dup, 1) := by decide +kernel
theorem d10_129 : decode method_6_code 129 = .ok (.iconst 0, 1) := by decide +kernel
theorem d10_130 : decode method_6_code 130 = .ok (.iload_n 0, 1) := by decide +kernel
theorem d10_131 : decode method_6_code 131 = .ok (.bipush 10, 2) := by decide +kernel
theorem d10_133 : decode method_6_code 133 = .ok (.idiv, 1) := by decide +kernel
theorem d10_134 : decode method_6_code 134 = .ok (.invokestatic 34, 3) := by decide +kernel
theorem d10_137 : decode method_6_code 137 = .ok (.castore, 1) := by decide +kernel
theorem d10_138 : decode method_6_code 138 = .ok (.dup, 1) := by decide +kernel
theorem d10_139 : decode method_6_code 139 = .ok (.iconst 1, 1) := by decide +kernel
theorem d10_140 : decode method_6_code 140 = .ok (.iload_n 0, 1) := by decide +kernel
theorem d10_141 : decode method_6_code 141 = .ok (.bipush 10, 2) := by decide +kernel
theorem d10_143 : decode method_6_code 143 = .ok (.irem, 1) := by decide +kernel
theorem d10_144 : decode method_6_code 144 = .ok (.invokestatic 34, 3) := by decide +kernel
theorem d10_147 : decode method_6_code 147 = .ok (.castore, 1) := by decide +kernel
theorem d10_148 : decode method_6_code 148 = .ok (.invokespecial 38, 3) := by decide +kernel
theorem d10_151 : decode method_6_code 151 = .ok (.areturn, 1) := by decide +kernel
theorem d10_152 : decode method_6_code 152 = .ok (.new 28, 3) := by decide +kernel
theorem d10_155 : decode method_6_code 155 = .ok (.dup, 1) := by decide +kernel
theorem d10_156 : decode method_6_code 156 = .ok (.iconst 1, 1) := by decide +kernel
theorem d10_157 : decode method_6_code 157 = .ok (.newarray .char, 2) := by decide +kernel
theorem d10_159 : decode method_6_code 159 = .ok (.dup, 1) := by decide +kernel
theorem d10_160 : decode method_6_code 160 = .ok (.iconst 0, 1) := by decide +kernel
theorem d10_161 : decode method_6_code 161 = .ok (.iload_n 0, 1) := by decide +kernel
theorem d10_162 : decode method_6_code 162 = .ok (.invokestatic 34, 3) := by decide +kernel
theorem d10_165 : decode method_6_code 165 = .ok (.castore, 1) := by decide +kernel
theorem d10_166 : decode method_6_code 166 = .ok (.invokespecial 38, 3) := by decide +kernel
theorem d10_169 : decode method_6_code 169 = .ok (.areturn, 1) := by decide +kernel
theorem d11_0 : decode prog_20_method_3_code 0 = .ok (.iconst 0, 1) := by decide +kernel
theorem d11_1 : decode prog_20_method_3_code 1 = .ok (.istore_n 1, 1) := by decide +kernel
theorem d11_2 : decode prog_20_method_3_code 2 = .ok (.iload_n 1, 1) := by decide +kernel
theorem d11_3 : decode prog_20_method_3_code 3 = .ok (.aload_n 0, 1) := by decide +kernel
theorem d11_4 : decode prog_20_method_3_code 4 = .ok (.invokevirtual 13, 3) := by decide +kernel
theorem d11_7 : decode prog_20_method_3_code 7 = .ok (.iconst 1, 1) := by decide +kernel
theorem d11_8 : decode prog_20_method_3_code 8 = .ok (.isub, 1) := by decide +kernel
theorem d11_9 : decode prog_20_method_3_code 9 = .ok (.if_icmp .ge 19, 3) := by decide +kernel
theorem d11_12 : decode prog_20_method_3_code 12 = .ok (.aload_n 0, 1) := by decide +kernel
theorem d11_13 : decode prog_20_method_3_code 13 = .ok (.iload_n 1, 1) := by decide +kernel
theorem d11_14 : decode prog_20_method_3_code 14 = .ok (.invokevirtual 17, 3) := by decide +kernel
theorem d11_17 : decode prog_20_method_3_code 17 = .ok (.bipush 48, 2) := by decide +kernel
theorem d11_19 : decode prog_20_method_3_code 19 = .ok (.if_icmp .ne 9, 3) := by decide +kernel
theorem d11_22 : decode prog_20_method_3_code 22 = .ok (.iinc 1 1, 3) := by decide +kernel
theorem d11_25 : decode prog_20_method_3_code 25 = .ok (.goto (-23), 3) := by decide +kernel
theorem d11_28 : decode prog_20_method_3_code 28 = .ok (.aload_n 0, 1) := by decide +kernel
theorem d11_29 : decode prog_20_method_3_code 29 = .ok (.iload_n 1, 1) := by decide +kernel
theorem d11_30 : decode prog_20_method_3_code 30 = .ok (.invokevirtual 21, 3) := by decide +kernel
theorem d11_33 : decode prog_20_method_3_code 33 = .ok (.areturn, 1) := by decide +kernel
theorem d12_0 : decode jdk_42_method_54_code 0 = .ok (.aload_n 0, 1) := by decide +kernel
theorem d12_1 : decode jdk_42_method_54_code 1 = .ok (.getfield 9, 3) := by decide +kernel
theorem d12_4 : decode jdk_42_method_54_code 4 = .ok (.arraylength, 1) := by decide +kernel
theorem d12_5 : decode jdk_42_method_54_code 5 = .ok (.aload_n 0, 1) := by decide +kernel
theorem d12_6 : decode jdk_42_method_54_code 6 = .ok (.invokevirtual 335, 3) := by decide +kernel
theorem d12_9 : decode jdk_42_method_54_code 9 = .ok (.ishr, 1) := by decide +kernel
theorem d12_10 : decode jdk_42_method_54_code 10 = .ok (.ireturn, 1) := by decide +kernel
theorem d13_0 : decode jdk_42_method_152_code 0 = .ok (.getstatic 38, 3) := by decide +kernel
theorem d13_3 : decode jdk_42_method_152_code 3 = .ok (.ifCond .eq 10, 3) := by decide +kernel
theorem d13_6 : decode jdk_42_method_152_code 6 = .ok (.aload_n 0, 1) := by decide +kernel
theorem d13_7 : decode jdk_42_method_152_code 7 = .ok (.getfield 15, 3) := by decide +kernel
theorem d13_10 : decode jdk_42_method_152_code 10 = .ok (.goto 4, 3) := by decide +kernel
theorem d13_14 : decode jdk_42_method_152_code 14 = .ok (.ireturn, 1) := by decide +kernel
theorem d14_0 : decode jdk_42_method_91_code 0 = .ok (.aload_n 0, 1) := by decide +kernel
theorem d14_1 : decode jdk_42_method_91_code 1 = .ok (.iload_n 1, 1) := by decide +kernel
theorem d14_2 : decode jdk_42_method_91_code 2 = .ok (.aload_n 0, 1) := by decide +kernel
theorem d14_3 : decode jdk_42_method_91_code 3 = .ok (.invokevirtual 505, 3) := by decide +kernel
theorem d14_6 : decode jdk_42_method_91_code 6 = .ok (.invokevirtual 681, 3) := by decide +kernel
theorem d14_9 : decode jdk_42_method_91_code 9 = .ok (.areturn, 1) := by decide +kernel
theorem d15_0 : decode jdk_42_method_92_code 0 = .ok (.aload_n 0, 1) := by decide +kernel
theorem d15_1 : decode jdk_42_method_92_code 1 = .ok (.invokevirtual 505, 3) := by decide +kernel
theorem d15_4 : decode jdk_42_method_92_code 4 = .ok (.istore_n 3, 1) := by decide +kernel
theorem d15_5 : decode jdk_42_method_92_code 5 = .ok (.iload_n 1, 1) := by decide +kernel
theorem d15_6 : decode jdk_42_method_92_code 6 = .ok (.iload_n 2, 1) := by decide +kernel
theorem d15_7 : decode jdk_42_method_92_code 7 = .ok (.iload_n 3, 1) := by decide +kernel
theorem d15_8 : decode jdk_42_method_92_code 8 = .ok (.invokestatic 521, 3) := by decide +kernel
theorem d15_11 : decode jdk_42_method_92_code 11 = .ok (.iload_n 1, 1) := by decide +kernel
theorem d15_12 : decode jdk_42_method_92_code 12 = .ok (.ifCond .ne 10, 3) := by decide +kernel
theorem d15_15 : decode jdk_42_method_92_code 15 = .ok (.iload_n 2, 1) := by decide +kernel
theorem d15_16 : decode jdk_42_method_92_code 16 = .ok (.iload_n 3, 1) := by decide +kernel
theorem d15_17 : decode jdk_42_method_92_code 17 = .ok (.if_icmp .ne 5, 3) := by decide +kernel
theorem d15_20 : decode jdk_42_method_92_code 20 = .ok (.aload_n 0, 1) := by decide +kernel
theorem d15_21 : decode jdk_42_method_92_code 21 = .ok (.areturn, 1) := by decide +kernel
theorem d15_22 : decode jdk_42_method_92_code 22 = .ok (.iload_n 2, 1) := by decide +kernel
theorem d15_23 : decode jdk_42_method_92_code 23 = .ok (.iload_n 1, 1) := by decide +kernel
theorem d15_24 : decode jdk_42_method_92_code 24 = .ok (.isub, 1) := by decide +kernel
theorem d15_25 : decode jdk_42_method_92_code 25 = .ok (.istore 4, 2) := by decide +kernel
theorem d15_27 : decode jdk_42_method_92_code 27 = .ok (.aload_n 0, 1) := by decide +kernel
theorem d15_28 : decode jdk_42_method_92_code 28 = .ok (.invokevirtual 492, 3) := by decide +kernel
theorem d15_31 : decode jdk_42_method_92_code 31 = .ok (.ifCond .eq 16, 3) := by decide +kernel
theorem d15_34 : decode jdk_42_method_92_code 34 = .ok (.aload_n 0, 1) := by decide +kernel
theorem d15_35 : decode jdk_42_method_92_code 35 = .ok (.getfield 9, 3) := by decide +kernel
theorem d15_38 : decode jdk_42_method_92_code 38 = .ok (.iload_n 1, 1) := by decide +kernel
theorem d15_39 : decode jdk_42_method_92_code 39 = .ok (.iload 4, 2) := by decide +kernel
theorem d15_41 : decode jdk_42_method_92_code 41 = .ok (.invokestatic 685, 3) := by decide +kernel
theorem d15_44 : decode jdk_42_method_92_code 44 = .ok (.goto 13, 3) := by decide +kernel
theorem d15_57 : decode jdk_42_method_92_code 57 = .ok (.areturn, 1) := by decide +kernel
theorem d16_0 : decode jdk_42_method_158_code 0 = .ok (.iload_n 0, 1) := by decide +kernel
theorem d16_1 : decode jdk_42_method_158_code 1 = .ok (.iload_n 1, 1) := by decide +kernel
theorem d16_2 : decode jdk_42_method_158_code 2 = .ok (.iload_n 2, 1) := by decide +kernel
theorem d16_3 : decode jdk_42_method_158_code 3 = .ok (.getstatic 1053, 3) := by decide +kernel
theorem d16_6 : decode jdk_42_method_158_code 6 = .ok (.invokestatic 1062, 3) := by decide +kernel
theorem d16_9 : decode jdk_42_method_158_code 9 = .ok (.pop, 1) := by decide +kernel
theorem d16_10 : decode jdk_42_method_158_code 10 = .ok (.return_, 1) := by decide +kernel
theorem d17_0 : decode jdk_41_method_12_code 0 = .ok (.iload_n 0, 1) := by decide +kernel
theorem d17_1 : decode jdk_41_method_12_code 1 = .ok (.ifCond .lt 13, 3) := by decide +kernel
theorem d17_4 : decode jdk_41_method_12_code 4 = .ok (.iload_n 0, 1) := by decide +kernel
theorem d17_5 : decode jdk_41_method_12_code 5 = .ok (.iload_n 1, 1) := by decide +kernel
theorem d17_6 : decode jdk_41_method_12_code 6 = .ok (.if_icmp .gt 8, 3) := by decide +kernel
theorem d17_9 : decode jdk_41_method_12_code 9 = .ok (.iload_n 1, 1) := by decide +kernel
theorem d17_10 : decode jdk_41_method_12_code 10 = .ok (.iload_n 2, 1) := by decide +kernel
theorem d17_11 : decode jdk_41_method_12_code 11 = .ok (.if_icmp .le 11, 3) := by decide +kernel
theorem d17_22 : decode jdk_41_method_12_code 22 = .ok (.iload_n 0, 1) := by decide +kernel
theorem d17_23 : decode jdk_41_method_12_code 23 = .ok (.ireturn, 1) := by decide +kernel
theorem d18_0 : decode jdk_42_method_66_code 0 = .ok (.aload_n 0, 1) := by decide +kernel
theorem d18_1 : decode jdk_42_method_66_code 1 = .ok (.aload_n 1, 1) := by decide +kernel
theorem d18_2 : decode jdk_42_method_66_code 2 = .ok (.if_acmp .ne 5, 3) := by decide +kernel
theorem d18_5 : decode jdk_42_method_66_code 5 = .ok (.iconst 1, 1) := by decide +kernel
theorem d18_6 : decode jdk_42_method_66_code 6 = .ok (.ireturn, 1) := by decide +kernel
theorem d18_7 : decode jdk_42_method_66_code 7 = .ok (.aload_n 1, 1) := by decide +kernel
theorem d18_8 : decode jdk_42_method_66_code 8 = .ok (.instanceof 10, 3) := by decide +kernel
theorem d18_11 : decode jdk_42_method_66_code 11 = .ok (.ifCond .eq 43, 3) := by decide +kernel
theorem d18_14 : decode jdk_42_method_66_code 14 = .ok (.aload_n 1, 1) := by decide +kernel
theorem d18_15 : decode jdk_42_method_66_code 15 = .ok (.checkcast 10, 3) := by decide +kernel
theorem d18_18 : decode jdk_42_method_66_code 18 = .ok (.astore_n 2, 1) := by decide +kernel
theorem d18_19 : decode jdk_42_method_66_code 19 = .ok (.getstatic 38, 3) := by decide +kernel
theorem d18_22 : decode jdk_42_method_66_code 22 = .ok (.ifCond .eq 14, 3) := by decide +kernel
theorem d18_25 : decode jdk_42_method_66_code 25 = .ok (.aload_n 0, 1) := by decide +kernel
theorem d18_26 : decode jdk_42_method_66_code 26 = .ok (.getfield 15, 3) := by decide +kernel
theorem d18_29 : decode jdk_42_method_66_code 29 = .ok (.aload_n 2, 1) := by decide +kernel
theorem d18_30 : decode jdk_42_method_66_code 30 = .ok (.getfield 15, 3) := by decide +kernel
theorem d18_33 : decode jdk_42_method_66_code 33 = .ok (.if_icmp .ne 21, 3) := by decide +kernel
theorem d18_36 : decode jdk_42_method_66_code 36 = .ok (.aload_n 0, 1) := by decide +kernel
theorem d18_37 : decode jdk_42_method_66_code 37 = .ok (.getfield 9, 3) := by decide +kernel
theorem d18_40 : decode jdk_42_method_66_code 40 = .ok (.aload_n 2, 1) := by decide +kernel
theorem d18_41 : decode jdk_42_method_66_code 41 = .ok (.getfield 9, 3) := by decide +kernel
theorem d18_44 : decode jdk_42_method_66_code 44 = .ok (.invokestatic 541, 3) := by decide +kernel
theorem d18_47 : decode jdk_42_method_66_code 47 = .ok (.ifCond .eq 7, 3) := by decide +kernel
theorem d18_50 : decode jdk_42_method_66_code 50 = .ok (.iconst 1, 1) := by decide +kernel
theorem d18_51 : decode jdk_42_method_66_code 51 = .ok (.goto 4, 3) := by decide +kernel
theorem d18_55 : decode jdk_42_method_66_code 55 = .ok (.ireturn, 1) := by decide +kernel
theorem d19_0 : decode jdk_43_method_13_code 0 = .ok (.aload_n 0, 1) := by decide +kernel
theorem d19_1 : decode jdk_43_method_13_code 1 = .ok (.arraylength, 1) := by decide +kernel
theorem d19_2 : decode jdk_43_method_13_code 2 = .ok (.aload_n 1, 1) := by decide +kernel
theorem d19_3 : decode jdk_43_method_13_code 3 = .ok (.arraylength, 1) := by decide +kernel
theorem d19_4 : decode jdk_43_method_13_code 4 = .ok (.if_icmp .ne 30, 3) := by decide +kernel
theorem d19_7 : decode jdk_43_method_13_code 7 = .ok (.iconst 0, 1) := by decide +kernel
theorem d19_8 : decode jdk_43_method_13_code 8 = .ok (.istore_n 2, 1) := by decide +kernel
theorem d19_9 : decode jdk_43_method_13_code 9 = .ok (.iload_n 2, 1) := by decide +kernel
theorem d19_10 : decode jdk_43_method_13_code 10 = .ok (.aload_n 0, 1) := by decide +kernel
theorem d19_11 : decode jdk_43_method_13_code 11 = .ok (.arraylength, 1) := by decide +kernel
theorem d19_12 : decode jdk_43_method_13_code 12 = .ok (.if_icmp .ge 20, 3) := by decide +kernel
theorem d19_15 : decode jdk_43_method_13_code 15 = .ok (.aload_n 0, 1) := by decide +kernel
theorem d19_16 : decode jdk_43_method_13_code 16 = .ok (.iload_n 2, 1) := by decide +kernel
theorem d19_17 : decode jdk_43_method_13_code 17 = .ok (.baload, 1) := by decide +kernel
theorem d19_18 : decode jdk_43_method_13_code 18 = .ok (.aload_n 1, 1) := by decide +kernel
theorem d19_19 : decode jdk_43_method_13_code 19 = .ok (.iload_n 2, 1) := by decide +kernel
theorem d19_20 : decode jdk_43_method_13_code 20 = .ok (.baload, 1) := by decide +kernel
theorem d19_21 : decode jdk_43_method_13_code 21 = .ok (.if_icmp .eq 5, 3) := by decide +kernel
theorem d19_26 : decode jdk_43_method_13_code 26 = .ok (.iinc 2 1, 3) := by decide +kernel
theorem d19_29 : decode jdk_43_method_13_code 29 = .ok (.goto (-20), 3) := by decide +kernel
theorem d19_32 : decode jdk_43_method_13_code 32 = .ok (.iconst 1, 1) := by decide +kernel
theorem d19_33 : decode jdk_43_method_13_code 33 = .ok (.ireturn, 1) := by decide +kernel
theorem d20_0 : decode jdk_42_method_56_code 0 = .ok (.aload_n 0, 1) := by decide +kernel
theorem d20_1 : decode jdk_42_method_56_code 1 = .ok (.invokevirtual 492, 3) := by decide +kernel
theorem d20_4 : decode jdk_42_method_56_code 4 = .ok (.ifCond .eq 12, 3) := by decide +kernel
theorem d20_7 : decode jdk_42_method_56_code 7 = .ok (.aload_n 0, 1) := by decide +kernel
theorem d20_8 : decode jdk_42_method_56_code 8 = .ok (.getfield 9, 3) := by decide +kernel
theorem d20_11 : decode jdk_42_method_56_code 11 = .ok (.iload_n 1, 1) := by decide +kernel
theorem d20_12 : decode jdk_42_method_56_code 12 = .ok (.invokestatic 495, 3) := by decide +kernel
theorem d20_15 : decode jdk_42_method_56_code 15 = .ok (.ireturn, 1) := by decide +kernel
theorem d21_0 : decode jdk_42_method_154_code 0 = .ok (.getstatic 38, 3) := by decide +kernel
theorem d21_3 : decode jdk_42_method_154_code 3 = .ok (.ifCond .eq 14, 3) := by decide +kernel
theorem d21_6 : decode jdk_42_method_154_code 6 = .ok (.aload_n 0, 1) := by decide +kernel
theorem d21_7 : decode jdk_42_method_154_code 7 = .ok (.getfield 15, 3) := by decide +kernel
theorem d21_10 : decode jdk_42_method_154_code 10 = .ok (.ifCond .ne 7, 3) := by decide +kernel
theorem d21_13 : decode jdk_42_method_154_code 13 = .ok (.iconst 1, 1) := by decide +kernel
theorem d21_14 : decode jdk_42_method_154_code 14 = .ok (.goto 4, 3) := by decide +kernel
theorem d21_18 : decode jdk_42_method_154_code 18 = .ok (.ireturn, 1) := by decide +kernel
theorem d22_0 : decode jdk_43_method_2_code 0 = .ok (.iload_n 1, 1) := by decide +kernel
theorem d22_1 : decode jdk_43_method_2_code 1 = .ok (.aload_n 0, 1) := by decide +kernel
theorem d22_2 : decode jdk_43_method_2_code 2 = .ok (.arraylength, 1) := by decide +kernel
theorem d22_3 : decode jdk_43_method_2_code 3 = .ok (.invokestatic 9, 3) := by decide +kernel
theorem d22_6 : decode jdk_43_method_2_code 6 = .ok (.aload_n 0, 1) := by decide +kernel
theorem d22_7 : decode jdk_43_method_2_code 7 = .ok (.iload_n 1, 1) := by decide +kernel
theorem d22_8 : decode jdk_43_method_2_code 8 = .ok (.baload, 1) := by decide +kernel
theorem d22_9 : decode jdk_43_method_2_code 9 = .ok (.sipush 255, 3) := by decide +kernel
theorem d22_12 : decode jdk_43_method_2_code 12 = .ok (.iand, 1) := by decide +kernel
theorem d22_13 : decode jdk_43_method_2_code 13 = .ok (.i2c, 1) := by decide +kernel
theorem d22_14 : decode jdk_43_method_2_code 14 = .ok (.ireturn, 1) := by decide +kernel
theorem d23_0 : decode jdk_42_method_155_code 0 = .ok (.iload_n 0, 1) := by decide +kernel
theorem d23_1 : decode jdk_42_method_155_code 1 = .ok (.iload_n 1, 1) := by decide +kernel
theorem d23_2 : decode jdk_42_method_155_code 2 = .ok (.getstatic 1053, 3) := by decide +kernel
theorem d23_5 : decode jdk_42_method_155_code 5 = .ok (.invokestatic 1059, 3) := by decide +kernel
theorem d23_8 : decode jdk_42_method_155_code 8 = .ok (.pop, 1) := by decide +kernel
theorem d23_9 : decode jdk_42_method_155_code 9 = .ok (.return_, 1) := by decide +kernel
theorem d24_0 : decode jdk_41_method_11_code 0 = .ok (.iload_n 0, 1) := by decide +kernel
theorem d24_1 : decode jdk_41_method_11_code 1 = .ok (.ifCond .lt 8, 3) := by decide +kernel
theorem d24_4 : decode jdk_41_method_11_code 4 = .ok (.iload_n 0, 1) := by decide +kernel
theorem d24_5 : decode jdk_41_method_11_code 5 = .ok (.iload_n 1, 1) := by decide +kernel
theorem d24_6 : decode jdk_41_method_11_code 6 = .ok (.if_icmp .lt 10, 3) := by decide +kernel
theorem d24_16 : decode jdk_41_method_11_code 16 = .ok (.iload_n 0, 1) := by decide +kernel
theorem d24_17 : decode jdk_41_method_11_code 17 = .ok (.ireturn, 1) := by decide +kernel
theorem d25_0 : decode jdk_43_method_47_code 0 = .ok (.iload_n 2, 1) := by decide +kernel
theorem d25_1 : decode jdk_43_method_47_code 1 = .ok (.ifCond .ne 6, 3) := by decide +kernel
theorem d25_7 : decode jdk_43_method_47_code 7 = .ok (.new 1, 3) := by decide +kernel
theorem d25_10 : decode jdk_43_method_47_code 10 = .ok (.dup, 1) := by decide +kernel
theorem d25_11 : decode jdk_43_method_47_code 11 = .ok (.aload_n 0, 1) := by decide +kernel
theorem d25_12 : decode jdk_43_method_47_code 12 = .ok (.iload_n 1, 1) := by decide +kernel
theorem d25_13 : decode jdk_43_method_47_code 13 = .ok (.iload_n 1, 1) := by decide +kernel
theorem d25_14 : decode jdk_43_method_47_code 14 = .ok (.iload_n 2, 1) := by decide +kernel
theorem d25_15 : decode jdk_43_method_47_code 15 = .ok (.iadd, 1) := by decide +kernel
theorem d25_16 : decode jdk_43_method_47_code 16 = .ok (.invokestatic 232, 3) := by decide +kernel
theorem d25_19 : decode jdk_43_method_47_code 19 = .ok (.iconst 0, 1) := by decide +kernel
theorem d25_20 : decode jdk_43_method_47_code 20 = .ok (.invokespecial 112, 3) := by decide +kernel
theorem d25_23 : decode jdk_43_method_47_code 23 = .ok (.areturn, 1) := by decide +kernel
theorem d26_0 : decode jdk_65_method_132_code 0 = .ok (.iload_n 1, 1) := by decide +kernel
theorem d26_1 : decode jdk_65_method_132_code 1 = .ok (.ifCond .ne 9, 3) := by decide +kernel
theorem d26_10 : decode jdk_65_method_132_code 10 = .ok (.aload_n 0, 1) := by decide +kernel
theorem d26_11 : decode jdk_65_method_132_code 11 = .ok (.iload_n 1, 1) := by decide +kernel
theorem d26_12 : decode jdk_65_method_132_code 12 = .ok (.iload_n 2, 1) := by decide +kernel
theorem d26_13 : decode jdk_65_method_132_code 13 = .ok (.invokestatic 339, 3) := by decide +kernel
theorem d26_16 : decode jdk_65_method_132_code 16 = .ok (.areturn, 1) := by decide +kernel
theorem d27_0 : decode jdk_65_method_133_code 0 = .ok (.iload_n 1, 1) := by decide +kernel
theorem d27_1 : decode jdk_65_method_133_code 1 = .ok (.iload_n 2, 1) := by decide +kernel
theorem d27_2 : decode jdk_65_method_133_code 2 = .ok (.invokestatic 343, 3) := by decide +kernel
theorem d27_5 : decode jdk_65_method_133_code 5 = .ok (.iload_n 2, 1) := by decide +kernel
theorem d27_6 : decode jdk_65_method_133_code 6 = .ok (.iload_n 1, 1) := by decide +kernel
theorem d27_7 : decode jdk_65_method_133_code 7 = .ok (.isub, 1) := by decide +kernel
theorem d27_8 : decode jdk_65_method_133_code 8 = .ok (.istore_n 3, 1) := by decide +kernel
theorem d27_9 : decode jdk_65_method_133_code 9 = .ok (.iload_n 3, 1) := by decide +kernel
theorem d27_10 : decode jdk_65_method_133_code 10 = .ok (.newarray .byte, 2) := by decide +kernel
theorem d27_12 : decode jdk_65_method_133_code 12 = .ok (.astore 4, 2) := by decide +kernel
theorem d27_14 : decode jdk_65_method_133_code 14 = .ok (.aload_n 0, 1) := by decide +kernel
theorem d27_15 : decode jdk_65_method_133_code 15 = .ok (.iload_n 1, 1) := by decide +kernel
theorem d27_16 : decode jdk_65_method_133_code 16 = .ok (.aload 4, 2) := by decide +kernel
theorem d27_18 : decode jdk_65_method_133_code 18 = .ok (.iconst 0, 1) := by decide +kernel
theorem d27_19 : decode jdk_65_method_133_code 19 = .ok (.aload_n 0, 1) := by decide +kernel
theorem d27_20 : decode jdk_65_method_133_code 20 = .ok (.arraylength, 1) := by decide +kernel
theorem d27_21 : decode jdk_65_method_133_code 21 = .ok (.iload_n 1, 1) := by decide +kernel
theorem d27_22 : decode jdk_65_method_133_code 22 = .ok (.isub, 1) := by decide +kernel
theorem d27_23 : decode jdk_65_method_133_code 23 = .ok (.iload_n 3, 1) := by decide +kernel
theorem d27_24 : decode jdk_65_method_133_code 24 = .ok (.invokestatic 304, 3) := by decide +kernel
theorem d27_27 : decode jdk_65_method_133_code 27 = .ok (.invokestatic 150, 3) := by decide +kernel
theorem d27_30 : decode jdk_65_method_133_code 30 = .ok (.aload 4, 2) := by decide +kernel
theorem d27_32 : decode jdk_65_method_133_code 32 = .ok (.areturn, 1) := by decide +kernel
theorem d28_0 : decode jdk_65_method_131_code 0 = .ok (.iload_n 1, 1) := by decide +kernel
theorem d28_1 : decode jdk_65_method_131_code 1 = .ok (.iload_n 0, 1) := by decide +kernel
theorem d28_2 : decode jdk_65_method_131_code 2 = .ok (.if_icmp .ge 35, 3) := by decide +kernel
theorem d28_37 : decode jdk_65_method_131_code 37 = .ok (.return_, 1) := by decide +kernel
theorem d29_0 : decode jdk_29_method_69_code 0 = .ok (.iload_n 0, 1) := by decide +kernel
theorem d29_1 : decode jdk_29_method_69_code 1 = .ok (.iload_n 1, 1) := by decide +kernel
theorem d29_2 : decode jdk_29_method_69_code 2 = .ok (.if_icmp .gt 7, 3) := by decide +kernel
theorem d29_5 : decode jdk_29_method_69_code 5 = .ok (.iload_n 0, 1) := by decide +kernel
theorem d29_6 : decode jdk_29_method_69_code 6 = .ok (.goto 4, 3) := by decide +kernel
theorem d29_10 : decode jdk_29_method_69_code 10 = .ok (.ireturn, 1) := by decide +kernel
theorem d30_0 : decode jdk_42_method_151_code 0 = .ok (.aload_n 0, 1) := by decide +kernel
theorem d30_1 : decode jdk_42_method_151_code 1 = .ok (.invokespecial 1, 3) := by decide +kernel
theorem d30_4 : decode jdk_42_method_151_code 4 = .ok (.aload_n 0, 1) := by decide +kernel
theorem d30_5 : decode jdk_42_method_151_code 5 = .ok (.aload_n 1, 1) := by decide +kernel
theorem d30_6 : decode jdk_42_method_151_code 6 = .ok (.putfield 9, 3) := by decide +kernel
theorem d30_9 : decode jdk_42_method_151_code 9 = .ok (.aload_n 0, 1) := by decide +kernel
theorem d30_10 : decode jdk_42_method_151_code 10 = .ok (.iload_n 2, 1) := by decide +kernel
theorem d30_11 : decode jdk_42_method_151_code 11 = .ok (.putfield 15, 3) := by decide +kernel
theorem d30_14 : decode jdk_42_method_151_code 14 = .ok (.return_, 1) := by decide +kernel
theorem pn_java_lang_StringUTF16 : plainName "java/lang/StringUTF16" = true := by first | (simp [plainName, overriddenIn]; done) | decide +kernel
theorem ef_rmC_1 (m : MethodId) (x0 : Addr) (x2 : Addr) : entryFrame m #[(.ref x0), (.int 0), (.ref x2), (.int 0), (.int 1)] 7 = mkF m 0 #[rv x0, iv 0, rv x2, iv 0, iv 1, .unset, .unset] [] := by first | (simp [entryFrame, mkF, argsToLocals, Value.category]; done) | rfl
def QC_1 (Z : State) (a1 : Addr) (a3 : Addr) (k1 : ClassId) (k3 : ClassId) (x0 : Int32) (h0 : Heap) (n0 : Nat) (v : Option Value) (h : Heap) (L : List Loc) : Prop := v = some (.int 1) ∧ Fr n0 L ∧ Keep h0 h [a3] ∧ (Arv Z h a3 k3 .byte (1 : Int32) [(.int (nar .byte (x0.toInt8.toInt32)))] (.int 0))
set_option maxRecDepth 65536 in
set_option maxHeartbeats 40000000 in
theorem rmC_1 (l : Launch) (Z : State) (a0 : Array Value) (hw : ∀ d ∈ tables_1, d.before a0 Z = true) (ws : List Jvm.Cond) (a1 : Addr) (a3 : Addr) (k1 : ClassId) (k3 : ClassId) (x0 : Int32) (h0 : Heap) (n0 : Nat) (Z0 : n0 ≤ h0.size) (V1 : Arv Z h0 a1 k1 .char (1 : Int32) [(.int x0)] (.int 0)) (V3 : Arv Z h0 a3 k3 .byte (1 : Int32) [(.int 0)] (.int 0)) (g3 : n0 ≤ a3) (ne : a1 ≠ a3) (hx0 : ¬ ((255 : Int32) < x0)) :
    own_M l own_y0 jdk_52_method_21_code 7 (some .int) ws (own_R 0 0 0 0) Z h0 #[(.ref a1), (.int 0), (.ref a3), (.int 0), (.int 1)] (QC_1 Z a1 a3 k1 k3 x0 h0 n0) := by
  refine MetFree.of_bodySF (plainFor_of_name pn_java_lang_StringUTF16) hisR ?_
  intro p e s m args below meth c s₁ Bd hml0 hP hK
  obtain ⟨rfl, hZ, hh⟩ := hP
  have hx := Bd.exec
  have hby := Bd.bytes
  have hml : c.maxLocals = 7 := hml0
  have hown : s.vm.findClass "java/lang/StringUTF16" = some m.cls := findClass_of_methodNamed Bd.named
  have hnm := (name_of_methodNamed Bd.named Bd.method).1
  have X0 : Stand p l e (own_R 0 0 0 0) s m #[(.ref a1), (.int 0), (.ref a3), (.int 0), (.int 1)] below meth c s₁ [] 0 0 := Stand.of_body Bd
  have e0 : s₁.heap = h0 := by rw [← hh, Bd.state]; rfl
  have N0 := Fr.nil n0
  have pre0 : own_P p e below s₁ (entryFrame m #[(.ref a1), (.int 0), (.ref a3), (.int 0), (.int 1)] 7) s₁ (mkF m 0 #[rv a1, iv 0, rv a3, iv 0, iv 1, .unset, .unset] []) := fun t k => castTop (ef_rmC_1 m a1 a3) k
  have f101 := Keep.refl h0 [a3]
  obtain ⟨cl102, Ar102, q102, S102, N102z, H102, G102⟩ := (id V1)
  have hin102 : ¬ ((0 : Int32) < 0 ∨ cl102.slots.size ≤ ((0 : Int32)).toNatClampNeg) := inb_of S102 ⟨by decide, by decide⟩
  have hat102 : cl102.slots[((0 : Int32)).toNatClampNeg]? = some (.int x0) := Has.at H102 hin102 rfl
  obtain ⟨cl103, Ar103, q103, S103, N103z, H103, G103⟩ := (id V3)
  have hin103 : ¬ ((0 : Int32) < 0 ∨ cl103.slots.size ≤ ((0 : Int32)).toNatClampNeg) := inb_of S103 ⟨by decide, by decide⟩
  obtain ⟨T103, h103, X103, e103, W103, st103⟩ := stB X0 hx hZ e0 Ar103 (j := (0 : Int32)) hin103 (g := (mkF m 31 #[rv a1, iv 0, rv a3, iv 0, iv 1, iv 0, iv x0] [(.int (x0.toInt8.toInt32)), (.int 0), (.ref a3)])) rfl rfl (hb hby d8_31)
  have V103 : Arv Z h103 a3 k3 .byte (1 : Int32) [(.int (nar .byte (x0.toInt8.toInt32)))] (.int 0) := Arv.set Ar103 q103 S103 N103z H103 G103 (fits_nar_byte _) W103 0 rfl (Nat.le_of_ble_eq_true rfl)
  have N103 := Fr.snoc X103 N0 g3
  have f104 := Nat.le_trans Z0 (Keep.of_wr W103).1
  have f105 := V1.other W103 ne
  have f106 := f101.wr W103 (Or.inl (List.mem_of_getElem? (i := 0) rfl))
  have pre107 : own_P p e below s₁ (entryFrame m #[(.ref a1), (.int 0), (.ref a3), (.int 0), (.int 1)] 7) T103 (mkF m 46 #[rv a1, iv 1, rv a3, iv 1, iv 1, iv 1, iv x0] [(.int 1)]) := fun t k => pre0 t (by
    show Steps p.tables e below (s₁.setTop (mkF m 0 #[rv a1, iv 0, rv a3, iv 0, iv 1, .unset, .unset] [])) t
    refine XS.iconst X0.here hx rfl (hb hby d8_0) ?_
    refine XS.istore X0.here hx rfl (hb hby d8_1) rfl (l' := #[rv a1, iv 0, rv a3, iv 0, iv 1, iv 0, .unset]) rfl ?_
    refine XS.iload X0.here hx rfl (hb hby d8_3) rfl ?_
    refine XS.iload X0.here hx rfl (hb hby d8_5) rfl ?_
    refine XS.icmpNo X0.here hx rfl (hb hby d8_7) rfl (tlt (by decide : (0 : Int32) < (1 : Int32))).2.1 ?_
    refine XS.aloadN X0.here hx rfl (hb hby d8_10) rfl rfl ?_
    refine XS.iloadN X0.here hx rfl (hb hby d8_11) rfl ?_
    refine X0.caload hx (j := (0 : Int32)) (v := (.int x0)) (by rw [e0]; exact Ar102.1) (State.isArrayOf_alike hZ.alike Ar102.2.1) Ar102.2.2 hin102 hat102 (g := (mkF m 12 #[rv a1, iv 0, rv a3, iv 0, iv 1, iv 0, .unset] [(.int 0), (.ref a1)])) rfl rfl (hb hby d8_12) _ ?_
    refine XS.istore X0.here hx rfl (hb hby d8_13) rfl (l' := #[rv a1, iv 0, rv a3, iv 0, iv 1, iv 0, iv x0]) rfl ?_
    refine XS.iload X0.here hx rfl (hb hby d8_15) rfl ?_
    refine XS.sipush X0.here hx rfl (hb hby d8_17) ?_
    refine XS.icmpYes X0.here hx rfl (pc0 := 20) (pc' := 26) rfl (hb hby d8_20) rfl (flt hx0).2.2.2 (by decide) (by decide) ?_
    refine XS.aloadN X0.here hx rfl (hb hby d8_26) rfl rfl ?_
    refine XS.iloadN X0.here hx rfl (hb hby d8_27) rfl ?_
    refine XS.iload X0.here hx rfl (hb hby d8_28) rfl ?_
    refine XS.i2b X0.here hx rfl (hb hby d8_30) rfl ?_
    refine st103 _ ?_
    refine XS.iinc X103.here hx rfl (hb hby d8_32) rfl (l' := #[rv a1, iv 1, rv a3, iv 0, iv 1, iv 0, iv x0]) rfl ?_
    refine XS.iinc X103.here hx rfl (hb hby d8_35) rfl (l' := #[rv a1, iv 1, rv a3, iv 1, iv 1, iv 0, iv x0]) rfl ?_
    refine XS.iinc X103.here hx rfl (hb hby d8_38) rfl (l' := #[rv a1, iv 1, rv a3, iv 1, iv 1, iv 1, iv x0]) rfl ?_
    refine XS.goto X103.here hx rfl (pc0 := 41) (pc' := 3) rfl (hb hby d8_41) (by decide) (by decide) ?_
    refine XS.iload X103.here hx rfl (hb hby d8_3) rfl ?_
    refine XS.iload X103.here hx rfl (hb hby d8_5) rfl ?_
    refine XS.icmpYes X103.here hx rfl (pc0 := 7) (pc' := 44) rfl (hb hby d8_7) rfl (flt (by decide : ¬ ((1 : Int32) < (1 : Int32)))).2.1 (by decide) (by decide) ?_
    refine XS.iload X103.here hx rfl (hb hby d8_44) rfl ?_
    exact k)
  obtain ⟨fs, hr, hrun, hended, hW, hsame⟩ := X103.leave (v := some (.int 1)) (fun h => by rw [Bd.returns] at h; cases h)
  refine ⟨_, _, pre107 _ ?_, hrun, hended, _, _, rfl, ?_, ⟨_, rfl⟩, hW, hsame.mono (by decide) (by decide)⟩
  · exact retI X103 hx Bd.returns (hb hby d8_46) hr
  · show QC_1 Z a1 a3 k1 k3 x0 h0 n0 _ T103.heap _
    rw [e103]
    exact ⟨rfl, N103, f106, V103⟩
theorem pd_0 : parseMethodDescriptor "([CI[BII)I" = some ⟨[(.array .char), .int, (.array .byte), .int, .int], some .int⟩ := by decide +kernel
theorem ef_rmD_1 (m : MethodId) (x0 : Addr) : entryFrame m #[(.ref x0), (.int 0), (.int 1)] 6 = mkF m 0 #[rv x0, iv 0, iv 1, .unset, .unset, .unset] [] := by first | (simp [entryFrame, mkF, argsToLocals, Value.category]; done) | rfl
def QD_1 (Z : State) (a1 : Addr) (k1 : ClassId) (x0 : Int32) (h0 : Heap) (n0 : Nat) (v : Option Value) (h : Heap) (L : List Loc) : Prop := ∃ (b : Addr) (kb : ClassId), v = some (.ref b) ∧ Fr n0 L ∧ Keep h0 h [] ∧ (n0 ≤ b) ∧ (h0.size ≤ b) ∧ (Arv Z h b kb .byte (1 : Int32) [(.int (nar .byte (x0.toInt8.toInt32)))] (.int 0))
set_option maxRecDepth 65536 in
set_option maxHeartbeats 40000000 in
theorem rmD_1 (l : Launch) (Z : State) (a0 : Array Value) (hw : ∀ d ∈ tables_1, d.before a0 Z = true) (ws : List Jvm.Cond) (a1 : Addr) (k1 : ClassId) (x0 : Int32) (h0 : Heap) (n0 : Nat) (Z0 : n0 ≤ h0.size) (V1 : Arv Z h0 a1 k1 .char (1 : Int32) [(.int x0)] (.int 0)) (hx0 : ¬ ((255 : Int32) < x0)) :
    own_M l own_y1 jdk_52_method_16_code 6 (some (.array .byte)) ws (own_R 1 1 1 18) Z h0 #[(.ref a1), (.int 0), (.int 1)] (QD_1 Z a1 k1 x0 h0 n0) := by
  refine MetFree.of_bodySF (plainFor_of_name pn_java_lang_StringUTF16) hisR ?_
  intro p e s m args below meth c s₁ Bd hml0 hP hK
  obtain ⟨rfl, hZ, hh⟩ := hP
  have hx := Bd.exec
  have hby := Bd.bytes
  have hml : c.maxLocals = 6 := hml0
  have hown : s.vm.findClass "java/lang/StringUTF16" = some m.cls := findClass_of_methodNamed Bd.named
  have hnm := (name_of_methodNamed Bd.named Bd.method).1
  have X0 : Stand p l e (own_R 1 1 1 18) s m #[(.ref a1), (.int 0), (.int 1)] below meth c s₁ [] 0 0 := Stand.of_body Bd
  have e0 : s₁.heap = h0 := by rw [← hh, Bd.state]; rfl
  have N0 := Fr.nil n0
  have pre0 : own_P p e below s₁ (entryFrame m #[(.ref a1), (.int 0), (.int 1)] 6) s₁ (mkF m 0 #[rv a1, iv 0, iv 1, .unset, .unset, .unset] []) := fun t k => castTop (ef_rmD_1 m a1) k
  have f101 := Keep.refl h0 []
  obtain ⟨T102, h102, k102, X102, e102, E102, A102, st102⟩ := newP X0 hx hZ (own_i hw 30 rfl) e0 (g := (mkF m 1 #[rv a1, iv 0, iv 1, .unset, .unset, .unset] [(.int 1)])) rfl (hb hby d7_1) rfl (by decide) (cap := 1) (by decide) (by decide) (by decide) (by decide)
  obtain ⟨b102, g102⟩ : ∃ z, z = h0.size := ⟨_, rfl⟩
  rw [← g102] at A102 st102
  have ne103 : a1 ≠ b102 := Nat.ne_of_lt (Nat.lt_of_lt_of_le V1.lt (Nat.le_of_eq g102.symm))
  have ga104 : n0 ≤ b102 := Nat.le_trans Z0 (Nat.le_of_eq g102.symm)
  have sz105 : h0.size ≤ b102 := Nat.le_trans f101.1 (Nat.le_of_eq g102.symm)
  have V102 : Arv Z h102 b102 k102 .byte (1 : Int32) [(.int 0)] (.int 0) := (Arv.new A102 (by decide)).pad (pad_rep [] (.int 0) 1)
  have f106 := Nat.le_trans Z0 E102.1
  have f107 := V1.ext E102
  have f108 := f101.ext E102
  obtain ⟨_, _, ⟨T109, L109, k109, n109⟩, -, X109, ⟨Lc109, hQ109, l109, y109, z109⟩, st109⟩ := Jvm.LawKit.callS X102 hx (y := own_y0) hown (own_m hZ hw 31) (own_m hZ hw 32) (own_m hZ hw 28) (own_m hZ hw 33) (by decide) (backOf (W := 0) (rmC_1 l Z a0 hw [] a1 b102 k1 k102 x0 h102 n0 f106 f107 V102 ga104 ne103 hx0) hZ (own_i hw 33 rfl) (own_i hw 28 rfl) (by decide) (by decide)) (g := (mkF m 9 #[rv a1, iv 0, iv 1, rv b102, .unset, .unset] [(.int 1), (.int 0), (.ref b102), (.int 0), (.ref a1)])) rfl (by rw [hml]; rfl) (argsL := [(.ref a1), (.int 0), (.ref b102), (.int 0), (.int 1)]) (rest := []) (lenOf pd_0 rfl) rfl (Nat.le_of_eq rfl) (hb hby d7_9) (fun _ _ => ⟨rfl, e102, (by decide : 1 + 0 ≤ _), (by decide : 1 + 0 ≤ _)⟩)
  dsimp only [Pt.U, Pt.locs, Pt.cells, Pt.slots] at X109 l109 y109 z109 st109 hQ109
  subst l109 y109 z109
  obtain ⟨rfl, N109q, K109, f110⟩ := hQ109
  have N109 := Fr.app N0 N109q
  have f111 := Nat.le_trans f106 K109.1
  have f112 := f107.keep K109 (ninS ne103 nin0)
  have f113 := f108.trans K109 (allS (Or.inr sz105) all0)
  have pre114 : own_P p e below s₁ (entryFrame m #[(.ref a1), (.int 0), (.int 1)] 6) T109 (mkF m 58 #[rv a1, iv 0, iv 1, rv b102, iv 1, .unset] [(.ref b102)]) := fun t k => pre0 t (by
    show Steps p.tables e below (s₁.setTop (mkF m 0 #[rv a1, iv 0, iv 1, .unset, .unset, .unset] [])) t
    refine XS.iloadN X0.here hx rfl (hb hby d7_0) rfl ?_
    refine st102 _ ?_
    refine XS.astoreN X102.here hx rfl (hb hby d7_3) rfl rfl (l' := #[rv a1, iv 0, iv 1, rv b102, .unset, .unset]) rfl ?_
    refine XS.aloadN X102.here hx rfl (hb hby d7_4) rfl rfl ?_
    refine XS.iloadN X102.here hx rfl (hb hby d7_5) rfl ?_
    refine XS.aloadN X102.here hx rfl (hb hby d7_6) rfl rfl ?_
    refine XS.iconst X102.here hx rfl (hb hby d7_7) ?_
    refine XS.iloadN X102.here hx rfl (hb hby d7_8) rfl ?_
    refine st109 _ ?_
    refine XS.istore X109.here hx rfl (hb hby d7_12) rfl (l' := #[rv a1, iv 0, iv 1, rv b102, iv 1, .unset]) rfl ?_
    refine XS.iload X109.here hx rfl (hb hby d7_14) rfl ?_
    refine XS.iloadN X109.here hx rfl (hb hby d7_16) rfl ?_
    refine XS.icmpYes X109.here hx rfl (pc0 := 17) (pc' := 57) rfl (hb hby d7_17) rfl (teq (by decide : (1 : Int32) = (1 : Int32))).1 (by decide) (by decide) ?_
    refine XS.aloadN X109.here hx rfl (hb hby d7_57) rfl rfl ?_
    exact k)
  obtain ⟨fs, hr, hrun, hended, hW, hsame⟩ := X109.leave (v := some (.ref b102)) (fun h => by rw [Bd.returns] at h; cases h)
  refine ⟨_, _, pre114 _ ?_, hrun, hended, _, _, rfl, ?_, ⟨_, rfl⟩, hW, hsame.mono (by decide) (by decide)⟩
  · exact retOut X109 hx Bd.returns rfl (Or.inr (Or.inr (Or.inr (Or.inr ⟨rfl, rfl, rfl⟩)))) (hb hby d7_58) hr
  · show QD_1 Z a1 k1 x0 h0 n0 _ T109.heap _
    exact ⟨b102, k102, rfl, N109, f113, ga104, sz105, f110⟩
theorem ef_rmE_1 (m : MethodId) (x0 : Addr) : entryFrame m #[(.ref x0), (.int 1)] 2 = mkF m 0 #[rv x0, iv 1] [] := by first | (simp [entryFrame, mkF, argsToLocals, Value.category]; done) | rfl
def QE_1 (Z : State) (a1 : Addr) (k1 : ClassId) (x0 : Int32) (h0 : Heap) (n0 : Nat) (v : Option Value) (h : Heap) (L : List Loc) : Prop := v = some (.int 0) ∧ Fr n0 L ∧ h = h0
set_option maxRecDepth 65536 in
set_option maxHeartbeats 40000000 in
theorem rmE_1 (l : Launch) (Z : State) (a0 : Array Value) (hw : ∀ d ∈ tables_1, d.before a0 Z = true) (ws : List Jvm.Cond) (a1 : Addr) (k1 : ClassId) (x0 : Int32) (h0 : Heap) (n0 : Nat) (Z0 : n0 ≤ h0.size) (V1 : Arv Z h0 a1 k1 .byte (1 : Int32) [(.int (nar .byte (x0.toInt8.toInt32)))] (.int 0)) :
    own_M l own_y2 jdk_52_method_15_code 2 (some .byte) ws (own_R 0 0 0 0) Z h0 #[(.ref a1), (.int 1)] (QE_1 Z a1 k1 x0 h0 n0) := by
  refine MetFree.of_bodySF (plainFor_of_name pn_java_lang_StringUTF16) hisR ?_
  intro p e s m args below meth c s₁ Bd hml0 hP hK
  obtain ⟨rfl, hZ, hh⟩ := hP
  have hx := Bd.exec
  have hby := Bd.bytes
  have hml : c.maxLocals = 2 := hml0
  have hown : s.vm.findClass "java/lang/StringUTF16" = some m.cls := findClass_of_methodNamed Bd.named
  have hnm := (name_of_methodNamed Bd.named Bd.method).1
  have X0 : Stand p l e (own_R 0 0 0 0) s m #[(.ref a1), (.int 1)] below meth c s₁ [] 0 0 := Stand.of_body Bd
  have e0 : s₁.heap = h0 := by rw [← hh, Bd.state]; rfl
  have N0 := Fr.nil n0
  have pre0 : own_P p e below s₁ (entryFrame m #[(.ref a1), (.int 1)] 2) s₁ (mkF m 0 #[rv a1, iv 1] []) := fun t k => castTop (ef_rmE_1 m a1) k
  obtain ⟨cl101, Ar101, q101, S101, N101z, H101, G101⟩ := (id V1)
  have pre102 : own_P p e below s₁ (entryFrame m #[(.ref a1), (.int 1)] 2) s₁ (mkF m 8 #[rv a1, iv 1] [(.int ((((0 : Int32).toUInt32 >>> ((31 : Int32) &&& 31).toUInt32).toInt32).toInt8.toInt32))]) := fun t k => pre0 t (by
    show Steps p.tables e below (s₁.setTop (mkF m 0 #[rv a1, iv 1] [])) t
    refine XS.iloadN X0.here hx rfl (hb hby d9_0) rfl ?_
    refine XS.aloadN X0.here hx rfl (hb hby d9_1) rfl rfl ?_
    refine X0.arraylength hx (by rw [e0]; exact Ar101.1) (State.isArrayOf_alike hZ.alike Ar101.2.1) (g := (mkF m 2 #[rv a1, iv 1] [(.ref a1), (.int 1)])) rfl rfl (hb hby d9_2) _ ?_
    rw [len_of S101 N101z]
    refine XS.isub X0.here hx rfl (hb hby d9_3) rfl ?_
    refine XS.bipush X0.here hx rfl (hb hby d9_4) ?_
    refine XS.iushr X0.here hx rfl (hb hby d9_6) rfl ?_
    refine XS.i2b X0.here hx rfl (hb hby d9_7) rfl ?_
    exact k)
  obtain ⟨fs, hr, hrun, hended, hW, hsame⟩ := X0.leave (v := some (.int (nar .byte ((((0 : Int32).toUInt32 >>> ((31 : Int32) &&& 31).toUInt32).toInt32).toInt8.toInt32)))) (fun h => by rw [Bd.returns] at h; cases h)
  refine ⟨_, _, pre102 _ ?_, hrun, hended, _, _, rfl, ?_, ⟨_, rfl⟩, hW, hsame.mono (by decide) (by decide)⟩
  · exact retN X0 hx (t := .byte) Bd.returns (by simp) (hb hby d9_8) hr
  · show QE_1 Z a1 k1 x0 h0 n0 _ s₁.heap _
    rw [e0]
    exact ⟨rfl, N0, rfl⟩
theorem pn_java_lang_String : plainName "java/lang/String" = true := by first | (simp [plainName, overriddenIn]; done) | decide +kernel
theorem pd_1 : parseMethodDescriptor "([CII)[B" = some ⟨[(.array .char), .int, .int], some (.array .byte)⟩ := by decide +kernel
theorem pd_2 : parseMethodDescriptor "([BI)B" = some ⟨[(.array .byte), .int], some .byte⟩ := by decide +kernel
theorem ef_rmF_1 (m : MethodId) (x0 : Addr) (x1 : Addr) : entryFrame m #[(.ref x0), (.ref x1), (.int 0), (.int 1), .null] 6 = mkF m 0 #[rv x0, rv x1, iv 0, iv 1, .val .null, .unset] [] := by first | (simp [entryFrame, mkF, argsToLocals, Value.category]; done) | rfl
def QF_1 (Z : State) (a1 : Addr) (a2 : Addr) (k2 : ClassId) (cs : Int32) (x0 : Int32) (h0 : Heap) (n0 : Nat) (v : Option Value) (h : Heap) (L : List Loc) : Prop := ∃ (t : Addr) (kt : ClassId), v = none ∧ Fr n0 L ∧ Keep h0 h [a1] ∧ (Exa Z h a1 "java/lang/String") ∧ (Fld Z h a1 "java/lang/String" "coder" "B" (.int 0)) ∧ (Fld Z h a1 "java/lang/String" "value" "[B" (.ref t)) ∧ (n0 ≤ t) ∧ (h0.size ≤ t) ∧ (Arv Z h t kt .byte (1 : Int32) [(.int (nar .byte (x0.toInt8.toInt32)))] (.int 0))
set_option maxRecDepth 65536 in
set_option maxHeartbeats 40000000 in
theorem rmF_1 (l : Launch) (Z : State) (a0 : Array Value) (hw : ∀ d ∈ tables_1, d.before a0 Z = true) (ws : List Jvm.Cond) (a1 : Addr) (a2 : Addr) (k2 : ClassId) (cs : Int32) (x0 : Int32) (h0 : Heap) (n0 : Nat) (Z0 : n0 ≤ h0.size) (F1 : Fld Z h0 a1 "java/lang/String" "value" "[B" .null) (F2 : Fld Z h0 a1 "java/lang/String" "coder" "B" (.int 0)) (E1 : Exa Z h0 a1 "java/lang/String") (g1 : n0 ≤ a1) (V2 : Arv Z h0 a2 k2 .char (1 : Int32) [(.int x0)] (.int 0)) (SC : Sta Z h0 "java/lang/String" "COMPACT_STRINGS" "Z" (.int cs)) (hcs : ¬ (cs = (0 : Int32))) (ne : a1 ≠ a2) (hx0 : ¬ ((255 : Int32) < x0)) :
    own_M l own_y3 jdk_42_method_149_code 6 none ws (own_R 2 1 1 35) Z h0 #[(.ref a1), (.ref a2), (.int 0), (.int 1), .null] (QF_1 Z a1 a2 k2 cs x0 h0 n0) := by
  refine MetFree.of_bodySF (plainFor_of_name pn_java_lang_String) hisR ?_
  intro p e s m args below meth c s₁ Bd hml0 hP hK
  obtain ⟨rfl, hZ, hh⟩ := hP
  have hx := Bd.exec
  have hby := Bd.bytes
  have hml : c.maxLocals = 6 := hml0
  have hown : s.vm.findClass "java/lang/String" = some m.cls := findClass_of_methodNamed Bd.named
  have hnm := (name_of_methodNamed Bd.named Bd.method).1
  have X0 : Stand p l e (own_R 2 1 1 35) s m #[(.ref a1), (.ref a2), (.int 0), (.int 1), .null] below meth c s₁ [] 0 0 := Stand.of_body Bd
  have e0 : s₁.heap = h0 := by rw [← hh, Bd.state]; rfl
  have N0 := Fr.nil n0
  have pre0 : own_P p e below s₁ (entryFrame m #[(.ref a1), (.ref a2), (.int 0), (.int 1), .null] 6) s₁ (mkF m 0 #[rv a1, rv a2, iv 0, iv 1, .val .null, .unset] []) := fun t k => castTop (ef_rmF_1 m a1 a2) k
  have f101 := Keep.refl h0 [a1]
  obtain ⟨T102, X102, e102, st102⟩ := initO X0 hx hZ hown (own_i hw 22 rfl) (own_i hw 23 rfl) (own_i hw 24 rfl) e0 (g := (mkF m 1 #[rv a1, rv a2, iv 0, iv 1, .val .null, .unset] [(.ref a1)])) rfl (by rw [hml]; rfl) rfl (hb hby d5_1) (by decide) (W := 0) (Nat.le_of_eq rfl) (by decide)
  obtain ⟨T103, X103, e103, st103⟩ := getS2 X102 hx hZ hown (host := "") (Or.inl (own_i hw 25 rfl)) Via.refl e102 SC (g := (mkF m 27 #[rv a1, rv a2, iv 0, iv 1, .val .null, .unset] [])) rfl (hb hby d5_27)
  obtain ⟨_, _, ⟨T104, L104, k104, n104⟩, -, X104, ⟨Lc104, hQ104, l104, y104, z104⟩, st104⟩ := Jvm.LawKit.callS X103 hx (y := own_y1) hown (own_m hZ hw 26) (own_m hZ hw 27) (own_m hZ hw 28) (own_m hZ hw 29) (by decide) (backOf (W := 0) (rmD_1 l Z a0 hw [] a2 k2 x0 h0 n0 Z0 V2 hx0) hZ (own_i hw 29 rfl) (own_i hw 28 rfl) (by decide) (by decide)) (g := (mkF m 36 #[rv a1, rv a2, iv 0, iv 1, .val .null, .unset] [(.int 1), (.int 0), (.ref a2)])) rfl (by rw [hml]; rfl) (argsL := [(.ref a2), (.int 0), (.int 1)]) (rest := []) (lenOf pd_1 rfl) rfl (Nat.le_of_eq rfl) (hb hby d5_36) (fun _ _ => ⟨rfl, e103, (by decide : 0 + 1 ≤ _), (by decide : 0 + 1 ≤ _)⟩)
  dsimp only [Pt.U, Pt.locs, Pt.cells, Pt.slots] at X104 l104 y104 z104 st104 hQ104
  subst l104 y104 z104
  obtain ⟨b105, x106, rfl, N104q, K104, f107, f108, f109⟩ := hQ104
  have N104 := Fr.app N0 N104q
  have ne110 : a1 ≠ b105 := Nat.ne_of_lt (Nat.lt_of_lt_of_le F1.lt f108)
  have ne111 : a2 ≠ b105 := Nat.ne_of_lt (Nat.lt_of_lt_of_le V2.lt f108)
  have f112 := Nat.le_trans Z0 K104.1
  have f113 := F1.keep K104 nin0
  have f114 := F2.keep K104 nin0
  have f115 := E1.keep K104
  have f116 := V2.keep K104 nin0
  have f117 := f101.trans K104 all0
  obtain ⟨_, _, ⟨T118, L118, k118, n118⟩, -, X118, ⟨Lc118, hQ118, l118, y118, z118⟩, st118⟩ := Jvm.LawKit.callS X104 hx (y := own_y2) hown (own_m hZ hw 34) (own_m hZ hw 35) (own_m hZ hw 28) (own_m hZ hw 36) (by decide) (backOf (W := 1) (rmE_1 l Z a0 hw [] b105 x106 x0 T104.heap n0 f112 f109) hZ (own_i hw 36 rfl) (own_i hw 28 rfl) (by decide) (by decide)) (g := (mkF m 45 #[rv a1, rv a2, iv 0, iv 1, .val .null, rv b105] [(.int 1), (.ref b105), (.ref a1)])) rfl (by rw [hml]; rfl) (argsL := [(.ref b105), (.int 1)]) (rest := [(.ref a1)]) (lenOf pd_2 rfl) rfl (Nat.le_of_eq rfl) (hb hby d5_45) (fun _ _ => ⟨rfl, rfl, (by decide : 1 + 0 ≤ _), (by decide : 1 + 0 ≤ _)⟩)
  dsimp only [Pt.U, Pt.locs, Pt.cells, Pt.slots] at X118 l118 y118 z118 st118 hQ118
  subst l118 y118 z118
  obtain ⟨rfl, N118q, e118⟩ := hQ118
  have N118 := Fr.app N104 N118q
  obtain ⟨T119, h119, X119, e119, W119, st119⟩ := putFN X118 hx hZ hown (own_i hw 37 rfl) Via.refl e118 f114 f115 (Or.inr ⟨(own_i hw 38 rfl), rfl, hnm⟩) (own_i hw 9 rfl) (ty := .byte) (v' := (.int 0)) (by decide) rfl (by decide) (g := (mkF m 48 #[rv a1, rv a2, iv 0, iv 1, .val .null, rv b105] [(.int 0), (.ref a1)])) rfl rfl (hb hby d5_48)
  have Fw119 := f114.same W119
  have N119 := Fr.snoc X119 N118 g1
  have f120 := Nat.le_trans f112 (Keep.of_wr W119).1
  have f121 := f113.other W119 (Or.inr (slot_ne (Or.inr (own_i hw 40 rfl)) (Or.inr (own_i hw 38 rfl)) (by decide) (t := (.array .byte)) (t' := .byte) (by decide) (by decide)))
  have f122 := f115.wr W119
  have f123 := f116.other W119 (Ne.symm ne)
  have f124 := f117.wr W119 (Or.inl (List.mem_of_getElem? (i := 0) rfl))
  have f125 := f109.other W119 (Ne.symm ne110)
  obtain ⟨T126, h126, X126, e126, W126, st126⟩ := putF X119 hx hZ hown (host := "") (Or.inl (own_i hw 39 rfl)) Via.refl e119 f121 f122 (Or.inr ⟨(own_i hw 40 rfl), rfl, hnm⟩) (own_i hw 9 rfl) (ty := (.array .byte)) (by decide) rfl rfl (g := (mkF m 54 #[rv a1, rv a2, iv 0, iv 1, .val .null, rv b105] [(.ref b105), (.ref a1)])) rfl rfl (hb hby d5_54)
  have Fw126 := f121.same W126
  have N126 := Fr.snoc X126 N119 g1
  have f127 := Nat.le_trans f120 (Keep.of_wr W126).1
  have f128 := f122.wr W126
  have f129 := f123.other W126 (Ne.symm ne)
  have f130 := f124.wr W126 (Or.inl (List.mem_of_getElem? (i := 0) rfl))
  have f131 := f125.other W126 (Ne.symm ne110)
  have f132 := Fw119.other W126 (Or.inr (slot_ne (Or.inr (own_i hw 38 rfl)) (Or.inr (own_i hw 40 rfl)) (by decide) (t := .byte) (t' := (.array .byte)) (by decide) (by decide)))
  have pre133 : own_P p e below s₁ (entryFrame m #[(.ref a1), (.ref a2), (.int 0), (.int 1), .null] 6) T126 (mkF m 57 #[rv a1, rv a2, iv 0, iv 1, .val .null, rv b105] []) := fun t k => pre0 t (by
    show Steps p.tables e below (s₁.setTop (mkF m 0 #[rv a1, rv a2, iv 0, iv 1, .val .null, .unset] [])) t
    refine XS.aloadN X0.here hx rfl (hb hby d5_0) rfl rfl ?_
    refine st102 _ ?_
    refine XS.iloadN X102.here hx rfl (hb hby d5_4) rfl ?_
    refine XS.ifYes X102.here hx rfl (pc0 := 5) (pc' := 27) rfl (hb hby d5_5) rfl ((if0 _ _).trans (feq (by decide : ¬ ((1 : Int32) = (0 : Int32)))).2) (by decide) (by decide) ?_
    refine st103 _ ?_
    refine XS.ifNo X103.here hx rfl (hb hby d5_30) rfl ((if0 _ _).trans (feq hcs).1) ?_
    refine XS.aloadN X103.here hx rfl (hb hby d5_33) rfl rfl ?_
    refine XS.iloadN X103.here hx rfl (hb hby d5_34) rfl ?_
    refine XS.iloadN X103.here hx rfl (hb hby d5_35) rfl ?_
    refine st104 _ ?_
    refine XS.astore X104.here hx rfl (hb hby d5_39) rfl rfl (l' := #[rv a1, rv a2, iv 0, iv 1, .val .null, rv b105]) rfl ?_
    refine XS.aloadN X104.here hx rfl (hb hby d5_41) rfl rfl ?_
    refine XS.aload X104.here hx rfl (hb hby d5_42) rfl rfl ?_
    refine XS.iloadN X104.here hx rfl (hb hby d5_44) rfl ?_
    refine st118 _ ?_
    refine st119 _ ?_
    refine XS.aloadN X119.here hx rfl (hb hby d5_51) rfl rfl ?_
    refine XS.aload X119.here hx rfl (hb hby d5_52) rfl rfl ?_
    refine st126 _ ?_
    exact k)
  obtain ⟨fs, hr, hrun, hended, hW, hsame⟩ := X126.leave (v := none) (fun _ => rfl)
  refine ⟨_, _, pre133 _ ?_, hrun, hended, _, _, rfl, ?_, ⟨_, rfl⟩, hW, hsame.mono (by decide) (by decide)⟩
  · exact X126.returnOut hx Bd.returns (hb hby d5_57) hr
  · show QF_1 Z a1 a2 k2 cs x0 h0 n0 _ T126.heap _
    rw [e126]
    exact ⟨b105, x106, rfl, N126, f130, f128, f132, Fw126, f107, f108, f131⟩
theorem pd_3 : parseMethodDescriptor "([CIILjava/lang/Void;)V" = some ⟨[(.array .char), .int, .int, (.object "java/lang/Void")], none⟩ := by decide +kernel
theorem ef_rmG_1 (m : MethodId) (x0 : Addr) (x1 : Addr) : entryFrame m #[(.ref x0), (.ref x1)] 2 = mkF m 0 #[rv x0, rv x1] [] := by first | (simp [entryFrame, mkF, argsToLocals, Value.category]; done) | rfl
def QG_1 (Z : State) (a1 : Addr) (a2 : Addr) (k2 : ClassId) (cs : Int32) (x0 : Int32) (h0 : Heap) (n0 : Nat) (v : Option Value) (h : Heap) (L : List Loc) : Prop := ∃ (t : Addr) (kt : ClassId), v = none ∧ Fr n0 L ∧ Keep h0 h [a1] ∧ (Exa Z h a1 "java/lang/String") ∧ (Fld Z h a1 "java/lang/String" "coder" "B" (.int 0)) ∧ (Fld Z h a1 "java/lang/String" "value" "[B" (.ref t)) ∧ (n0 ≤ t) ∧ (h0.size ≤ t) ∧ (Arv Z h t kt .byte (1 : Int32) [(.int (nar .byte (x0.toInt8.toInt32)))] (.int 0))
set_option maxRecDepth 65536 in
set_option maxHeartbeats 40000000 in
theorem rmG_1 (l : Launch) (Z : State) (a0 : Array Value) (hw : ∀ d ∈ tables_1, d.before a0 Z = true) (ws : List Jvm.Cond) (a1 : Addr) (a2 : Addr) (k2 : ClassId) (cs : Int32) (x0 : Int32) (h0 : Heap) (n0 : Nat) (Z0 : n0 ≤ h0.size) (F1 : Fld Z h0 a1 "java/lang/String" "value" "[B" .null) (F2 : Fld Z h0 a1 "java/lang/String" "coder" "B" (.int 0)) (E1 : Exa Z h0 a1 "java/lang/String") (g1 : n0 ≤ a1) (V2 : Arv Z h0 a2 k2 .char (1 : Int32) [(.int x0)] (.int 0)) (SC : Sta Z h0 "java/lang/String" "COMPACT_STRINGS" "Z" (.int cs)) (hcs : ¬ (cs = (0 : Int32))) (ne : a1 ≠ a2) (hx0 : ¬ ((255 : Int32) < x0)) :
    own_M l own_y4 jdk_42_method_3_code 2 none ws (own_R 3 1 1 52) Z h0 #[(.ref a1), (.ref a2)] (QG_1 Z a1 a2 k2 cs x0 h0 n0) := by
  refine MetFree.of_bodySF (plainFor_of_name pn_java_lang_String) hisR ?_
  intro p e s m args below meth c s₁ Bd hml0 hP hK
  obtain ⟨rfl, hZ, hh⟩ := hP
  have hx := Bd.exec
  have hby := Bd.bytes
  have hml : c.maxLocals = 2 := hml0
  have hown : s.vm.findClass "java/lang/String" = some m.cls := findClass_of_methodNamed Bd.named
  have hnm := (name_of_methodNamed Bd.named Bd.method).1
  have X0 : Stand p l e (own_R 3 1 1 52) s m #[(.ref a1), (.ref a2)] below meth c s₁ [] 0 0 := Stand.of_body Bd
  have e0 : s₁.heap = h0 := by rw [← hh, Bd.state]; rfl
  have N0 := Fr.nil n0
  have pre0 : own_P p e below s₁ (entryFrame m #[(.ref a1), (.ref a2)] 2) s₁ (mkF m 0 #[rv a1, rv a2] []) := fun t k => castTop (ef_rmG_1 m a1 a2) k
  have f101 := Keep.refl h0 [a1]
  obtain ⟨cl102, Ar102, q102, S102, N102z, H102, G102⟩ := (id V2)
  obtain ⟨_, _, ⟨T103, L103, k103, n103⟩, -, X103, ⟨Lc103, hQ103, l103, y103, z103⟩, st103⟩ := X0.specialBack hx (y := own_y3) rfl hown (own_m hZ hw 18) (own_m hZ hw 19) (own_m hZ hw 21) (by decide) (backOf (W := 0) (rmF_1 l Z a0 hw [] a1 a2 k2 cs x0 h0 n0 Z0 F1 F2 E1 g1 V2 SC hcs ne hx0) hZ (own_i hw 21 rfl) (own_i hw 10 rfl) (by decide) (by decide)) (g := (mkF m 6 #[rv a1, rv a2] [.null, (.int 1), (.int 0), (.ref a2), (.ref a1)])) rfl (by rw [hml]; rfl) (Steps.refl _) (a := a1) (argsL := [(.ref a2), (.int 0), (.int 1), .null]) (rest := []) (lenOf pd_3 rfl) rfl (Nat.le_of_eq rfl) (hb hby d4_6) (fun _ _ => ⟨rfl, e0, (by decide : 0 + 1 ≤ _), (by decide : 0 + 1 ≤ _)⟩)
  dsimp only [Pt.U, Pt.locs, Pt.cells, Pt.slots] at X103 l103 y103 z103 st103 hQ103
  subst l103 y103 z103
  obtain ⟨b104, x105, rfl, N103q, K103, f106, f107, f108, f109, f110, f111⟩ := hQ103
  have N103 := Fr.app N0 N103q
  have ne112 : a1 ≠ b104 := Nat.ne_of_lt (Nat.lt_of_lt_of_le F1.lt f110)
  have ne113 : a2 ≠ b104 := Nat.ne_of_lt (Nat.lt_of_lt_of_le V2.lt f110)
  have f114 := Nat.le_trans Z0 K103.1
  have f115 := V2.keep K103 (ninS (Ne.symm ne) nin0)
  have f116 := f101.trans K103 (allS (Or.inl (List.mem_of_getElem? (i := 0) rfl)) all0)
  have pre117 : own_P p e below s₁ (entryFrame m #[(.ref a1), (.ref a2)] 2) T103 (mkF m 9 #[rv a1, rv a2] []) := fun t k => pre0 t (by
    show Steps p.tables e below (s₁.setTop (mkF m 0 #[rv a1, rv a2] [])) t
    refine XS.aloadN X0.here hx rfl (hb hby d4_0) rfl rfl ?_
    refine XS.aloadN X0.here hx rfl (hb hby d4_1) rfl rfl ?_
    refine XS.iconst X0.here hx rfl (hb hby d4_2) ?_
    refine XS.aloadN X0.here hx rfl (hb hby d4_3) rfl rfl ?_
    refine X0.arraylength hx (by rw [e0]; exact Ar102.1) (State.isArrayOf_alike hZ.alike Ar102.2.1) (g := (mkF m 4 #[rv a1, rv a2] [(.ref a2), (.int 0), (.ref a2), (.ref a1)])) rfl rfl (hb hby d4_4) _ ?_
    rw [len_of S102 N102z]
    refine XS.aconstNull X0.here hx rfl (hb hby d4_5) ?_
    refine st103.trans ?_
    exact k)
  obtain ⟨fs, hr, hrun, hended, hW, hsame⟩ := X103.leave (v := none) (fun _ => rfl)
  refine ⟨_, _, pre117 _ ?_, hrun, hended, _, _, rfl, ?_, ⟨_, rfl⟩, hW, hsame.mono (by decide) (by decide)⟩
  · exact X103.returnOut hx Bd.returns (hb hby d4_9) hr
  · show QG_1 Z a1 a2 k2 cs x0 h0 n0 _ T103.heap _
    exact ⟨b104, x105, rfl, N103, f116, f106, f107, f108, f109, f110, f111⟩
theorem ef_rmC_2 (m : MethodId) (x0 : Addr) (x2 : Addr) : entryFrame m #[(.ref x0), (.int 0), (.ref x2), (.int 0), (.int 2)] 7 = mkF m 0 #[rv x0, iv 0, rv x2, iv 0, iv 2, .unset, .unset] [] := by first | (simp [entryFrame, mkF, argsToLocals, Value.category]; done) | rfl
def QC_2 (Z : State) (a1 : Addr) (a3 : Addr) (k1 : ClassId) (k3 : ClassId) (x0 : Int32) (x1 : Int32) (h0 : Heap) (n0 : Nat) (v : Option Value) (h : Heap) (L : List Loc) : Prop := v = some (.int 2) ∧ Fr n0 L ∧ Keep h0 h [a3] ∧ (Arv Z h a3 k3 .byte (2 : Int32) [(.int (nar .byte (x0.toInt8.toInt32))), (.int (nar .byte (x1.toInt8.toInt32)))] (.int 0))
set_option maxRecDepth 65536 in
set_option maxHeartbeats 40000000 in
theorem rmC_2 (l : Launch) (Z : State) (a0 : Array Value) (hw : ∀ d ∈ tables_1, d.before a0 Z = true) (ws : List Jvm.Cond) (a1 : Addr) (a3 : Addr) (k1 : ClassId) (k3 : ClassId) (x0 : Int32) (x1 : Int32) (h0 : Heap) (n0 : Nat) (Z0 : n0 ≤ h0.size) (V1 : Arv Z h0 a1 k1 .char (2 : Int32) [(.int x0), (.int x1)] (.int 0)) (V3 : Arv Z h0 a3 k3 .byte (2 : Int32) [(.int 0), (.int 0)] (.int 0)) (g3 : n0 ≤ a3) (ne : a1 ≠ a3) (hx0 : ¬ ((255 : Int32) < x0)) (hx1 : ¬ ((255 : Int32) < x1)) :
    own_M l own_y0 jdk_52_method_21_code 7 (some .int) ws (own_R 0 0 0 0) Z h0 #[(.ref a1), (.int 0), (.ref a3), (.int 0), (.int 2)] (QC_2 Z a1 a3 k1 k3 x0 x1 h0 n0) := by
  refine MetFree.of_bodySF (plainFor_of_name pn_java_lang_StringUTF16) hisR ?_
  intro p e s m args below meth c s₁ Bd hml0 hP hK
  obtain ⟨rfl, hZ, hh⟩ := hP
  have hx := Bd.exec
  have hby := Bd.bytes
  have hml : c.maxLocals = 7 := hml0
  have hown : s.vm.findClass "java/lang/StringUTF16" = some m.cls := findClass_of_methodNamed Bd.named
  have hnm := (name_of_methodNamed Bd.named Bd.method).1
  have X0 : Stand p l e (own_R 0 0 0 0) s m #[(.ref a1), (.int 0), (.ref a3), (.int 0), (.int 2)] below meth c s₁ [] 0 0 := Stand.of_body Bd
  have e0 : s₁.heap = h0 := by rw [← hh, Bd.state]; rfl
  have N0 := Fr.nil n0
  have pre0 : own_P p e below s₁ (entryFrame m #[(.ref a1), (.int 0), (.ref a3), (.int 0), (.int 2)] 7) s₁ (mkF m 0 #[rv a1, iv 0, rv a3, iv 0, iv 2, .unset, .unset] []) := fun t k => castTop (ef_rmC_2 m a1 a3) k
  have f101 := Keep.refl h0 [a3]
  obtain ⟨cl102, Ar102, q102, S102, N102z, H102, G102⟩ := (id V1)
  have hin102 : ¬ ((0 : Int32) < 0 ∨ cl102.slots.size ≤ ((0 : Int32)).toNatClampNeg) := inb_of S102 ⟨by decide, by decide⟩
  have hat102 : cl102.slots[((0 : Int32)).toNatClampNeg]? = some (.int x0) := Has.at H102 hin102 rfl
  obtain ⟨cl103, Ar103, q103, S103, N103z, H103, G103⟩ := (id V3)
  have hin103 : ¬ ((0 : Int32) < 0 ∨ cl103.slots.size ≤ ((0 : Int32)).toNatClampNeg) := inb_of S103 ⟨by decide, by decide⟩
  obtain ⟨T103, h103, X103, e103, W103, st103⟩ := stB X0 hx hZ e0 Ar103 (j := (0 : Int32)) hin103 (g := (mkF m 31 #[rv a1, iv 0, rv a3, iv 0, iv 2, iv 0, iv x0] [(.int (x0.toInt8.toInt32)), (.int 0), (.ref a3)])) rfl rfl (hb hby d8_31)
  have V103 : Arv Z h103 a3 k3 .byte (2 : Int32) [(.int (nar .byte (x0.toInt8.toInt32))), (.int 0)] (.int 0) := Arv.set Ar103 q103 S103 N103z H103 G103 (fits_nar_byte _) W103 0 rfl (Nat.le_of_ble_eq_true rfl)
  have N103 := Fr.snoc X103 N0 g3
  have f104 := Nat.le_trans Z0 (Keep.of_wr W103).1
  have f105 := V1.other W103 ne
  have f106 := f101.wr W103 (Or.inl (List.mem_of_getElem? (i := 0) rfl))
  obtain ⟨cl107, Ar107, q107, S107, N107z, H107, G107⟩ := (id f105)
  have hin107 : ¬ ((1 : Int32) < 0 ∨ cl107.slots.size ≤ ((1 : Int32)).toNatClampNeg) := inb_of S107 ⟨by decide, by decide⟩
  have hat107 : cl107.slots[((1 : Int32)).toNatClampNeg]? = some (.int x1) := Has.at H107 hin107 rfl
  obtain ⟨cl108, Ar108, q108, S108, N108z, H108, G108⟩ := (id V103)
  have hin108 : ¬ ((1 : Int32) < 0 ∨ cl108.slots.size ≤ ((1 : Int32)).toNatClampNeg) := inb_of S108 ⟨by decide, by decide⟩
  obtain ⟨T108, h108, X108, e108, W108, st108⟩ := stB X103 hx hZ e103 Ar108 (j := (1 : Int32)) hin108 (g := (mkF m 31 #[rv a1, iv 1, rv a3, iv 1, iv 2, iv 1, iv x1] [(.int (x1.toInt8.toInt32)), (.int 1), (.ref a3)])) rfl rfl (hb hby d8_31)
  have V108 : Arv Z h108 a3 k3 .byte (2 : Int32) [(.int (nar .byte (x0.toInt8.toInt32))), (.int (nar .byte (x1.toInt8.toInt32)))] (.int 0) := Arv.set Ar108 q108 S108 N108z H108 G108 (fits_nar_byte _) W108 1 rfl (Nat.le_of_ble_eq_true rfl)
  have N108 := Fr.snoc X108 N103 g3
  have f109 := Nat.le_trans f104 (Keep.of_wr W108).1
  have f110 := f105.other W108 ne
  have f111 := f106.wr W108 (Or.inl (List.mem_of_getElem? (i := 0) rfl))
  have pre112 : own_P p e below s₁ (entryFrame m #[(.ref a1), (.int 0), (.ref a3), (.int 0), (.int 2)] 7) T108 (mkF m 46 #[rv a1, iv 2, rv a3, iv 2, iv 2, iv 2, iv x1] [(.int 2)]) := fun t k => pre0 t (by
    show Steps p.tables e below (s₁.setTop (mkF m 0 #[rv a1, iv 0, rv a3, iv 0, iv 2, .unset, .unset] [])) t
    refine XS.iconst X0.here hx rfl (hb hby d8_0) ?_
    refine XS.istore X0.here hx rfl (hb hby d8_1) rfl (l' := #[rv a1, iv 0, rv a3, iv 0, iv 2, iv 0, .unset]) rfl ?_
    refine XS.iload X0.here hx rfl (hb hby d8_3) rfl ?_
    refine XS.iload X0.here hx rfl (hb hby d8_5) rfl ?_
    refine XS.icmpNo X0.here hx rfl (hb hby d8_7) rfl (tlt (by decide : (0 : Int32) < (2 : Int32))).2.1 ?_
    refine XS.aloadN X0.here hx rfl (hb hby d8_10) rfl rfl ?_
    refine XS.iloadN X0.here hx rfl (hb hby d8_11) rfl ?_
    refine X0.caload hx (j := (0 : Int32)) (v := (.int x0)) (by rw [e0]; exact Ar102.1) (State.isArrayOf_alike hZ.alike Ar102.2.1) Ar102.2.2 hin102 hat102 (g := (mkF m 12 #[rv a1, iv 0, rv a3, iv 0, iv 2, iv 0, .unset] [(.int 0), (.ref a1)])) rfl rfl (hb hby d8_12) _ ?_
    refine XS.istore X0.here hx rfl (hb hby d8_13) rfl (l' := #[rv a1, iv 0, rv a3, iv 0, iv 2, iv 0, iv x0]) rfl ?_
    refine XS.iload X0.here hx rfl (hb hby d8_15) rfl ?_
    refine XS.sipush X0.here hx rfl (hb hby d8_17) ?_
    refine XS.icmpYes X0.here hx rfl (pc0 := 20) (pc' := 26) rfl (hb hby d8_20) rfl (flt hx0).2.2.2 (by decide) (by decide) ?_
    refine XS.aloadN X0.here hx rfl (hb hby d8_26) rfl rfl ?_
    refine XS.iloadN X0.here hx rfl (hb hby d8_27) rfl ?_
    refine XS.iload X0.here hx rfl (hb hby d8_28) rfl ?_
    refine XS.i2b X0.here hx rfl (hb hby d8_30) rfl ?_
    refine st103 _ ?_
    refine XS.iinc X103.here hx rfl (hb hby d8_32) rfl (l' := #[rv a1, iv 1, rv a3, iv 0, iv 2, iv 0, iv x0]) rfl ?_
    refine XS.iinc X103.here hx rfl (hb hby d8_35) rfl (l' := #[rv a1, iv 1, rv a3, iv 1, iv 2, iv 0, iv x0]) rfl ?_
    refine XS.iinc X103.here hx rfl (hb hby d8_38) rfl (l' := #[rv a1, iv 1, rv a3, iv 1, iv 2, iv 1, iv x0]) rfl ?_
    refine XS.goto X103.here hx rfl (pc0 := 41) (pc' := 3) rfl (hb hby d8_41) (by decide) (by decide) ?_
    refine XS.iload X103.here hx rfl (hb hby d8_3) rfl ?_
    refine XS.iload X103.here hx rfl (hb hby d8_5) rfl ?_
    refine XS.icmpNo X103.here hx rfl (hb hby d8_7) rfl (tlt (by decide : (1 : Int32) < (2 : Int32))).2.1 ?_
    refine XS.aloadN X103.here hx rfl (hb hby d8_10) rfl rfl ?_
    show Steps p.tables e below (T103.setTop (mkF m 11 #[rv a1, iv 1, rv a3, iv 1, iv 2, iv 1, iv x0] [(.ref a1)])) t
    refine XS.iloadN X103.here hx rfl (hb hby d8_11) rfl ?_
    refine X103.caload hx (j := (1 : Int32)) (v := (.int x1)) (by rw [e103]; exact Ar107.1) (State.isArrayOf_alike hZ.alike Ar107.2.1) Ar107.2.2 hin107 hat107 (g := (mkF m 12 #[rv a1, iv 1, rv a3, iv 1, iv 2, iv 1, iv x0] [(.int 1), (.ref a1)])) rfl rfl (hb hby d8_12) _ ?_
    refine XS.istore X103.here hx rfl (hb hby d8_13) rfl (l' := #[rv a1, iv 1, rv a3, iv 1, iv 2, iv 1, iv x1]) rfl ?_
    refine XS.iload X103.here hx rfl (hb hby d8_15) rfl ?_
    refine XS.sipush X103.here hx rfl (hb hby d8_17) ?_
    refine XS.icmpYes X103.here hx rfl (pc0 := 20) (pc' := 26) rfl (hb hby d8_20) rfl (flt hx1).2.2.2 (by decide) (by decide) ?_
    refine XS.aloadN X103.here hx rfl (hb hby d8_26) rfl rfl ?_
    refine XS.iloadN X103.here hx rfl (hb hby d8_27) rfl ?_
    refine XS.iload X103.here hx rfl (hb hby d8_28) rfl ?_
    refine XS.i2b X103.here hx rfl (hb hby d8_30) rfl ?_
    refine st108 _ ?_
    refine XS.iinc X108.here hx rfl (hb hby d8_32) rfl (l' := #[rv a1, iv 2, rv a3, iv 1, iv 2, iv 1, iv x1]) rfl ?_
    refine XS.iinc X108.here hx rfl (hb hby d8_35) rfl (l' := #[rv a1, iv 2, rv a3, iv 2, iv 2, iv 1, iv x1]) rfl ?_
    refine XS.iinc X108.here hx rfl (hb hby d8_38) rfl (l' := #[rv a1, iv 2, rv a3, iv 2, iv 2, iv 2, iv x1]) rfl ?_
    refine XS.goto X108.here hx rfl (pc0 := 41) (pc' := 3) rfl (hb hby d8_41) (by decide) (by decide) ?_
    refine XS.iload X108.here hx rfl (hb hby d8_3) rfl ?_
    refine XS.iload X108.here hx rfl (hb hby d8_5) rfl ?_
    refine XS.icmpYes X108.here hx rfl (pc0 := 7) (pc' := 44) rfl (hb hby d8_7) rfl (flt (by decide : ¬ ((2 : Int32) < (2 : Int32)))).2.1 (by decide) (by decide) ?_
    refine XS.iload X108.here hx rfl (hb hby d8_44) rfl ?_
    exact k)
  obtain ⟨fs, hr, hrun, hended, hW, hsame⟩ := X108.leave (v := some (.int 2)) (fun h => by rw [Bd.returns] at h; cases h)
  refine ⟨_, _, pre112 _ ?_, hrun, hended, _, _, rfl, ?_, ⟨_, rfl⟩, hW, hsame.mono (by decide) (by decide)⟩
  · exact retI X108 hx Bd.returns (hb hby d8_46) hr
  · show QC_2 Z a1 a3 k1 k3 x0 x1 h0 n0 _ T108.heap _
    rw [e108]
    exact ⟨rfl, N108, f111, V108⟩
theorem ef_rmD_2 (m : MethodId) (x0 : Addr) : entryFrame m #[(.ref x0), (.int 0), (.int 2)] 6 = mkF m 0 #[rv x0, iv 0, iv 2, .unset, .unset, .unset] [] := by first | (simp [entryFrame, mkF, argsToLocals, Value.category]; done) | rfl
def QD_2 (Z : State) (a1 : Addr) (k1 : ClassId) (x0 : Int32) (x1 : Int32) (h0 : Heap) (n0 : Nat) (v : Option Value) (h : Heap) (L : List Loc) : Prop := ∃ (b : Addr) (kb : ClassId), v = some (.ref b) ∧ Fr n0 L ∧ Keep h0 h [] ∧ (n0 ≤ b) ∧ (h0.size ≤ b) ∧ (Arv Z h b kb .byte (2 : Int32) [(.int (nar .byte (x0.toInt8.toInt32))), (.int (nar .byte (x1.toInt8.toInt32)))] (.int 0))
set_option maxRecDepth 65536 in
set_option maxHeartbeats 40000000 in
theorem rmD_2 (l : Launch) (Z : State) (a0 : Array Value) (hw : ∀ d ∈ tables_1, d.before a0 Z = true) (ws : List Jvm.Cond) (a1 : Addr) (k1 : ClassId) (x0 : Int32) (x1 : Int32) (h0 : Heap) (n0 : Nat) (Z0 : n0 ≤ h0.size) (V1 : Arv Z h0 a1 k1 .char (2 : Int32) [(.int x0), (.int x1)] (.int 0)) (hx0 : ¬ ((255 : Int32) < x0)) (hx1 : ¬ ((255 : Int32) < x1)) :
    own_M l own_y1 jdk_52_method_16_code 6 (some (.array .byte)) ws (own_R 1 1 2 18) Z h0 #[(.ref a1), (.int 0), (.int 2)] (QD_2 Z a1 k1 x0 x1 h0 n0) := by
  refine MetFree.of_bodySF (plainFor_of_name pn_java_lang_StringUTF16) hisR ?_
  intro p e s m args below meth c s₁ Bd hml0 hP hK
  obtain ⟨rfl, hZ, hh⟩ := hP
  have hx := Bd.exec
  have hby := Bd.bytes
  have hml : c.maxLocals = 6 := hml0
  have hown : s.vm.findClass "java/lang/StringUTF16" = some m.cls := findClass_of_methodNamed Bd.named
  have hnm := (name_of_methodNamed Bd.named Bd.method).1
  have X0 : Stand p l e (own_R 1 1 2 18) s m #[(.ref a1), (.int 0), (.int 2)] below meth c s₁ [] 0 0 := Stand.of_body Bd
  have e0 : s₁.heap = h0 := by rw [← hh, Bd.state]; rfl
  have N0 := Fr.nil n0
  have pre0 : own_P p e below s₁ (entryFrame m #[(.ref a1), (.int 0), (.int 2)] 6) s₁ (mkF m 0 #[rv a1, iv 0, iv 2, .unset, .unset, .unset] []) := fun t k => castTop (ef_rmD_2 m a1) k
  have f101 := Keep.refl h0 []
  obtain ⟨T102, h102, k102, X102, e102, E102, A102, st102⟩ := newP X0 hx hZ (own_i hw 30 rfl) e0 (g := (mkF m 1 #[rv a1, iv 0, iv 2, .unset, .unset, .unset] [(.int 2)])) rfl (hb hby d7_1) rfl (by decide) (cap := 2) (by decide) (by decide) (by decide) (by decide)
  obtain ⟨b102, g102⟩ : ∃ z, z = h0.size := ⟨_, rfl⟩
  rw [← g102] at A102 st102
  have ne103 : a1 ≠ b102 := Nat.ne_of_lt (Nat.lt_of_lt_of_le V1.lt (Nat.le_of_eq g102.symm))
  have ga104 : n0 ≤ b102 := Nat.le_trans Z0 (Nat.le_of_eq g102.symm)
  have sz105 : h0.size ≤ b102 := Nat.le_trans f101.1 (Nat.le_of_eq g102.symm)
  have V102 : Arv Z h102 b102 k102 .byte (2 : Int32) [(.int 0), (.int 0)] (.int 0) := (Arv.new A102 (by decide)).pad (pad_rep [] (.int 0) 2)
  have f106 := Nat.le_trans Z0 E102.1
  have f107 := V1.ext E102
  have f108 := f101.ext E102
  obtain ⟨_, _, ⟨T109, L109, k109, n109⟩, -, X109, ⟨Lc109, hQ109, l109, y109, z109⟩, st109⟩ := Jvm.LawKit.callS X102 hx (y := own_y0) hown (own_m hZ hw 31) (own_m hZ hw 32) (own_m hZ hw 28) (own_m hZ hw 33) (by decide) (backOf (W := 0) (rmC_2 l Z a0 hw [] a1 b102 k1 k102 x0 x1 h102 n0 f106 f107 V102 ga104 ne103 hx0 hx1) hZ (own_i hw 33 rfl) (own_i hw 28 rfl) (by decide) (by decide)) (g := (mkF m 9 #[rv a1, iv 0, iv 2, rv b102, .unset, .unset] [(.int 2), (.int 0), (.ref b102), (.int 0), (.ref a1)])) rfl (by rw [hml]; rfl) (argsL := [(.ref a1), (.int 0), (.ref b102), (.int 0), (.int 2)]) (rest := []) (lenOf pd_0 rfl) rfl (Nat.le_of_eq rfl) (hb hby d7_9) (fun _ _ => ⟨rfl, e102, (by decide : 1 + 0 ≤ _), (by decide : 2 + 0 ≤ _)⟩)
  dsimp only [Pt.U, Pt.locs, Pt.cells, Pt.slots] at X109 l109 y109 z109 st109 hQ109
  subst l109 y109 z109
  obtain ⟨rfl, N109q, K109, f110⟩ := hQ109
  have N109 := Fr.app N0 N109q
  have f111 := Nat.le_trans f106 K109.1
  have f112 := f107.keep K109 (ninS ne103 nin0)
  have f113 := f108.trans K109 (allS (Or.inr sz105) all0)
  have pre114 : own_P p e below s₁ (entryFrame m #[(.ref a1), (.int 0), (.int 2)] 6) T109 (mkF m 58 #[rv a1, iv 0, iv 2, rv b102, iv 2, .unset] [(.ref b102)]) := fun t k => pre0 t (by
    show Steps p.tables e below (s₁.setTop (mkF m 0 #[rv a1, iv 0, iv 2, .unset, .unset, .unset] [])) t
    refine XS.iloadN X0.here hx rfl (hb hby d7_0) rfl ?_
    refine st102 _ ?_
    refine XS.astoreN X102.here hx rfl (hb hby d7_3) rfl rfl (l' := #[rv a1, iv 0, iv 2, rv b102, .unset, .unset]) rfl ?_
    refine XS.aloadN X102.here hx rfl (hb hby d7_4) rfl rfl ?_
    refine XS.iloadN X102.here hx rfl (hb hby d7_5) rfl ?_
    refine XS.aloadN X102.here hx rfl (hb hby d7_6) rfl rfl ?_
    refine XS.iconst X102.here hx rfl (hb hby d7_7) ?_
    refine XS.iloadN X102.here hx rfl (hb hby d7_8) rfl ?_
    refine st109 _ ?_
    refine XS.istore X109.here hx rfl (hb hby d7_12) rfl (l' := #[rv a1, iv 0, iv 2, rv b102, iv 2, .unset]) rfl ?_
    refine XS.iload X109.here hx rfl (hb hby d7_14) rfl ?_
    refine XS.iloadN X109.here hx rfl (hb hby d7_16) rfl ?_
    refine XS.icmpYes X109.here hx rfl (pc0 := 17) (pc' := 57) rfl (hb hby d7_17) rfl (teq (by decide : (2 : Int32) = (2 : Int32))).1 (by decide) (by decide) ?_
    refine XS.aloadN X109.here hx rfl (hb hby d7_57) rfl rfl ?_
    exact k)
  obtain ⟨fs, hr, hrun, hended, hW, hsame⟩ := X109.leave (v := some (.ref b102)) (fun h => by rw [Bd.returns] at h; cases h)
  refine ⟨_, _, pre114 _ ?_, hrun, hended, _, _, rfl, ?_, ⟨_, rfl⟩, hW, hsame.mono (by decide) (by decide)⟩
  · exact retOut X109 hx Bd.returns rfl (Or.inr (Or.inr (Or.inr (Or.inr ⟨rfl, rfl, rfl⟩)))) (hb hby d7_58) hr
  · show QD_2 Z a1 k1 x0 x1 h0 n0 _ T109.heap _
    exact ⟨b102, k102, rfl, N109, f113, ga104, sz105, f110⟩
theorem ef_rmE_2 (m : MethodId) (x0 : Addr) : entryFrame m #[(.ref x0), (.int 2)] 2 = mkF m 0 #[rv x0, iv 2] [] := by first | (simp [entryFrame, mkF, argsToLocals, Value.category]; done) | rfl
def QE_2 (Z : State) (a1 : Addr) (k1 : ClassId) (x0 : Int32) (x1 : Int32) (h0 : Heap) (n0 : Nat) (v : Option Value) (h : Heap) (L : List Loc) : Prop := v = some (.int 0) ∧ Fr n0 L ∧ h = h0
set_option maxRecDepth 65536 in
set_option maxHeartbeats 40000000 in
theorem rmE_2 (l : Launch) (Z : State) (a0 : Array Value) (hw : ∀ d ∈ tables_1, d.before a0 Z = true) (ws : List Jvm.Cond) (a1 : Addr) (k1 : ClassId) (x0 : Int32) (x1 : Int32) (h0 : Heap) (n0 : Nat) (Z0 : n0 ≤ h0.size) (V1 : Arv Z h0 a1 k1 .byte (2 : Int32) [(.int (nar .byte (x0.toInt8.toInt32))), (.int (nar .byte (x1.toInt8.toInt32)))] (.int 0)) :
    own_M l own_y2 jdk_52_method_15_code 2 (some .byte) ws (own_R 0 0 0 0) Z h0 #[(.ref a1), (.int 2)] (QE_2 Z a1 k1 x0 x1 h0 n0) := by
  refine MetFree.of_bodySF (plainFor_of_name pn_java_lang_StringUTF16) hisR ?_
  intro p e s m args below meth c s₁ Bd hml0 hP hK
  obtain ⟨rfl, hZ, hh⟩ := hP
  have hx := Bd.exec
  have hby := Bd.bytes
  have hml : c.maxLocals = 2 := hml0
  have hown : s.vm.findClass "java/lang/StringUTF16" = some m.cls := findClass_of_methodNamed Bd.named
  have hnm := (name_of_methodNamed Bd.named Bd.method).1
  have X0 : Stand p l e (own_R 0 0 0 0) s m #[(.ref a1), (.int 2)] below meth c s₁ [] 0 0 := Stand.of_body Bd
  have e0 : s₁.heap = h0 := by rw [← hh, Bd.state]; rfl
  have N0 := Fr.nil n0
  have pre0 : own_P p e below s₁ (entryFrame m #[(.ref a1), (.int 2)] 2) s₁ (mkF m 0 #[rv a1, iv 2] []) := fun t k => castTop (ef_rmE_2 m a1) k
  obtain ⟨cl101, Ar101, q101, S101, N101z, H101, G101⟩ := (id V1)
  have pre102 : own_P p e below s₁ (entryFrame m #[(.ref a1), (.int 2)] 2) s₁ (mkF m 8 #[rv a1, iv 2] [(.int ((((0 : Int32).toUInt32 >>> ((31 : Int32) &&& 31).toUInt32).toInt32).toInt8.toInt32))]) := fun t k => pre0 t (by
    show Steps p.tables e below (s₁.setTop (mkF m 0 #[rv a1, iv 2] [])) t
    refine XS.iloadN X0.here hx rfl (hb hby d9_0) rfl ?_
    refine XS.aloadN X0.here hx rfl (hb hby d9_1) rfl rfl ?_
    refine X0.arraylength hx (by rw [e0]; exact Ar101.1) (State.isArrayOf_alike hZ.alike Ar101.2.1) (g := (mkF m 2 #[rv a1, iv 2] [(.ref a1), (.int 2)])) rfl rfl (hb hby d9_2) _ ?_
    rw [len_of S101 N101z]
    refine XS.isub X0.here hx rfl (hb hby d9_3) rfl ?_
    refine XS.bipush X0.here hx rfl (hb hby d9_4) ?_
    refine XS.iushr X0.here hx rfl (hb hby d9_6) rfl ?_
    refine XS.i2b X0.here hx rfl (hb hby d9_7) rfl ?_
    exact k)
  obtain ⟨fs, hr, hrun, hended, hW, hsame⟩ := X0.leave (v := some (.int (nar .byte ((((0 : Int32).toUInt32 >>> ((31 : Int32) &&& 31).toUInt32).toInt32).toInt8.toInt32)))) (fun h => by rw [Bd.returns] at h; cases h)
  refine ⟨_, _, pre102 _ ?_, hrun, hended, _, _, rfl, ?_, ⟨_, rfl⟩, hW, hsame.mono (by decide) (by decide)⟩
  · exact retN X0 hx (t := .byte) Bd.returns (by simp) (hb hby d9_8) hr
  · show QE_2 Z a1 k1 x0 x1 h0 n0 _ s₁.heap _
    rw [e0]
    exact ⟨rfl, N0, rfl⟩
theorem ef_rmF_2 (m : MethodId) (x0 : Addr) (x1 : Addr) : entryFrame m #[(.ref x0), (.ref x1), (.int 0), (.int 2), .null] 6 = mkF m 0 #[rv x0, rv x1, iv 0, iv 2, .val .null, .unset] [] := by first | (simp [entryFrame, mkF, argsToLocals, Value.category]; done) | rfl
def QF_2 (Z : State) (a1 : Addr) (a2 : Addr) (k2 : ClassId) (cs : Int32) (x0 : Int32) (x1 : Int32) (h0 : Heap) (n0 : Nat) (v : Option Value) (h : Heap) (L : List Loc) : Prop := ∃ (t : Addr) (kt : ClassId), v = none ∧ Fr n0 L ∧ Keep h0 h [a1] ∧ (Exa Z h a1 "java/lang/String") ∧ (Fld Z h a1 "java/lang/String" "coder" "B" (.int 0)) ∧ (Fld Z h a1 "java/lang/String" "value" "[B" (.ref t)) ∧ (n0 ≤ t) ∧ (h0.size ≤ t) ∧ (Arv Z h t kt .byte (2 : Int32) [(.int (nar .byte (x0.toInt8.toInt32))), (.int (nar .byte (x1.toInt8.toInt32)))] (.int 0))
set_option maxRecDepth 65536 in
set_option maxHeartbeats 40000000 in
theorem rmF_2 (l : Launch) (Z : State) (a0 : Array Value) (hw : ∀ d ∈ tables_1, d.before a0 Z = true) (ws : List Jvm.Cond) (a1 : Addr) (a2 : Addr) (k2 : ClassId) (cs : Int32) (x0 : Int32) (x1 : Int32) (h0 : Heap) (n0 : Nat) (Z0 : n0 ≤ h0.size) (F1 : Fld Z h0 a1 "java/lang/String" "value" "[B" .null) (F2 : Fld Z h0 a1 "java/lang/String" "coder" "B" (.int 0)) (E1 : Exa Z h0 a1 "java/lang/String") (g1 : n0 ≤ a1) (V2 : Arv Z h0 a2 k2 .char (2 : Int32) [(.int x0), (.int x1)] (.int 0)) (SC : Sta Z h0 "java/lang/String" "COMPACT_STRINGS" "Z" (.int cs)) (hcs : ¬ (cs = (0 : Int32))) (ne : a1 ≠ a2) (hx0 : ¬ ((255 : Int32) < x0)) (hx1 : ¬ ((255 : Int32) < x1)) :
    own_M l own_y3 jdk_42_method_149_code 6 none ws (own_R 2 1 2 35) Z h0 #[(.ref a1), (.ref a2), (.int 0), (.int 2), .null] (QF_2 Z a1 a2 k2 cs x0 x1 h0 n0) := by
  refine MetFree.of_bodySF (plainFor_of_name pn_java_lang_String) hisR ?_
  intro p e s m args below meth c s₁ Bd hml0 hP hK
  obtain ⟨rfl, hZ, hh⟩ := hP
  have hx := Bd.exec
  have hby := Bd.bytes
  have hml : c.maxLocals = 6 := hml0
  have hown : s.vm.findClass "java/lang/String" = some m.cls := findClass_of_methodNamed Bd.named
  have hnm := (name_of_methodNamed Bd.named Bd.method).1
  have X0 : Stand p l e (own_R 2 1 2 35) s m #[(.ref a1), (.ref a2), (.int 0), (.int 2), .null] below meth c s₁ [] 0 0 := Stand.of_body Bd
  have e0 : s₁.heap = h0 := by rw [← hh, Bd.state]; rfl
  have N0 := Fr.nil n0
  have pre0 : own_P p e below s₁ (entryFrame m #[(.ref a1), (.ref a2), (.int 0), (.int 2), .null] 6) s₁ (mkF m 0 #[rv a1, rv a2, iv 0, iv 2, .val .null, .unset] []) := fun t k => castTop (ef_rmF_2 m a1 a2) k
  have f101 := Keep.refl h0 [a1]
  obtain ⟨T102, X102, e102, st102⟩ := initO X0 hx hZ hown (own_i hw 22 rfl) (own_i hw 23 rfl) (own_i hw 24 rfl) e0 (g := (mkF m 1 #[rv a1, rv a2, iv 0, iv 2, .val .null, .unset] [(.ref a1)])) rfl (by rw [hml]; rfl) rfl (hb hby d5_1) (by decide) (W := 0) (Nat.le_of_eq rfl) (by decide)
  obtain ⟨T103, X103, e103, st103⟩ := getS2 X102 hx hZ hown (host := "") (Or.inl (own_i hw 25 rfl)) Via.refl e102 SC (g := (mkF m 27 #[rv a1, rv a2, iv 0, iv 2, .val .null, .unset] [])) rfl (hb hby d5_27)
  obtain ⟨_, _, ⟨T104, L104, k104, n104⟩, -, X104, ⟨Lc104, hQ104, l104, y104, z104⟩, st104⟩ := Jvm.LawKit.callS X103 hx (y := own_y1) hown (own_m hZ hw 26) (own_m hZ hw 27) (own_m hZ hw 28) (own_m hZ hw 29) (by decide) (backOf (W := 0) (rmD_2 l Z a0 hw [] a2 k2 x0 x1 h0 n0 Z0 V2 hx0 hx1) hZ (own_i hw 29 rfl) (own_i hw 28 rfl) (by decide) (by decide)) (g := (mkF m 36 #[rv a1, rv a2, iv 0, iv 2, .val .null, .unset] [(.int 2), (.int 0), (.ref a2)])) rfl (by rw [hml]; rfl) (argsL := [(.ref a2), (.int 0), (.int 2)]) (rest := []) (lenOf pd_1 rfl) rfl (Nat.le_of_eq rfl) (hb hby d5_36) (fun _ _ => ⟨rfl, e103, (by decide : 0 + 1 ≤ _), (by decide : 0 + 2 ≤ _)⟩)
  dsimp only [Pt.U, Pt.locs, Pt.cells, Pt.slots] at X104 l104 y104 z104 st104 hQ104
  subst l104 y104 z104
  obtain ⟨b105, x106, rfl, N104q, K104, f107, f108, f109⟩ := hQ104
  have N104 := Fr.app N0 N104q
  have ne110 : a1 ≠ b105 := Nat.ne_of_lt (Nat.lt_of_lt_of_le F1.lt f108)
  have ne111 : a2 ≠ b105 := Nat.ne_of_lt (Nat.lt_of_lt_of_le V2.lt f108)
  have f112 := Nat.le_trans Z0 K104.1
  have f113 := F1.keep K104 nin0
  have f114 := F2.keep K104 nin0
  have f115 := E1.keep K104
  have f116 := V2.keep K104 nin0
  have f117 := f101.trans K104 all0
  obtain ⟨_, _, ⟨T118, L118, k118, n118⟩, -, X118, ⟨Lc118, hQ118, l118, y118, z118⟩, st118⟩ := Jvm.LawKit.callS X104 hx (y := own_y2) hown (own_m hZ hw 34) (own_m hZ hw 35) (own_m hZ hw 28) (own_m hZ hw 36) (by decide) (backOf (W := 1) (rmE_2 l Z a0 hw [] b105 x106 x0 x1 T104.heap n0 f112 f109) hZ (own_i hw 36 rfl) (own_i hw 28 rfl) (by decide) (by decide)) (g := (mkF m 45 #[rv a1, rv a2, iv 0, iv 2, .val .null, rv b105] [(.int 2), (.ref b105), (.ref a1)])) rfl (by rw [hml]; rfl) (argsL := [(.ref b105), (.int 2)]) (rest := [(.ref a1)]) (lenOf pd_2 rfl) rfl (Nat.le_of_eq rfl) (hb hby d5_45) (fun _ _ => ⟨rfl, rfl, (by decide : 1 + 0 ≤ _), (by decide : 2 + 0 ≤ _)⟩)
  dsimp only [Pt.U, Pt.locs, Pt.cells, Pt.slots] at X118 l118 y118 z118 st118 hQ118
  subst l118 y118 z118
  obtain ⟨rfl, N118q, e118⟩ := hQ118
  have N118 := Fr.app N104 N118q
  obtain ⟨T119, h119, X119, e119, W119, st119⟩ := putFN X118 hx hZ hown (own_i hw 37 rfl) Via.refl e118 f114 f115 (Or.inr ⟨(own_i hw 38 rfl), rfl, hnm⟩) (own_i hw 9 rfl) (ty := .byte) (v' := (.int 0)) (by decide) rfl (by decide) (g := (mkF m 48 #[rv a1, rv a2, iv 0, iv 2, .val .null, rv b105] [(.int 0), (.ref a1)])) rfl rfl (hb hby d5_48)
  have Fw119 := f114.same W119
  have N119 := Fr.snoc X119 N118 g1
  have f120 := Nat.le_trans f112 (Keep.of_wr W119).1
  have f121 := f113.other W119 (Or.inr (slot_ne (Or.inr (own_i hw 40 rfl)) (Or.inr (own_i hw 38 rfl)) (by decide) (t := (.array .byte)) (t' := .byte) (by decide) (by decide)))
  have f122 := f115.wr W119
  have f123 := f116.other W119 (Ne.symm ne)
  have f124 := f117.wr W119 (Or.inl (List.mem_of_getElem? (i := 0) rfl))
  have f125 := f109.other W119 (Ne.symm ne110)
  obtain ⟨T126, h126, X126, e126, W126, st126⟩ := putF X119 hx hZ hown (host := "") (Or.inl (own_i hw 39 rfl)) Via.refl e119 f121 f122 (Or.inr ⟨(own_i hw 40 rfl), rfl, hnm⟩) (own_i hw 9 rfl) (ty := (.array .byte)) (by decide) rfl rfl (g := (mkF m 54 #[rv a1, rv a2, iv 0, iv 2, .val .null, rv b105] [(.ref b105), (.ref a1)])) rfl rfl (hb hby d5_54)
  have Fw126 := f121.same W126
  have N126 := Fr.snoc X126 N119 g1
  have f127 := Nat.le_trans f120 (Keep.of_wr W126).1
  have f128 := f122.wr W126
  have f129 := f123.other W126 (Ne.symm ne)
  have f130 := f124.wr W126 (Or.inl (List.mem_of_getElem? (i := 0) rfl))
  have f131 := f125.other W126 (Ne.symm ne110)
  have f132 := Fw119.other W126 (Or.inr (slot_ne (Or.inr (own_i hw 38 rfl)) (Or.inr (own_i hw 40 rfl)) (by decide) (t := .byte) (t' := (.array .byte)) (by decide) (by decide)))
  have pre133 : own_P p e below s₁ (entryFrame m #[(.ref a1), (.ref a2), (.int 0), (.int 2), .null] 6) T126 (mkF m 57 #[rv a1, rv a2, iv 0, iv 2, .val .null, rv b105] []) := fun t k => pre0 t (by
    show Steps p.tables e below (s₁.setTop (mkF m 0 #[rv a1, rv a2, iv 0, iv 2, .val .null, .unset] [])) t
    refine XS.aloadN X0.here hx rfl (hb hby d5_0) rfl rfl ?_
    refine st102 _ ?_
    refine XS.iloadN X102.here hx rfl (hb hby d5_4) rfl ?_
    refine XS.ifYes X102.here hx rfl (pc0 := 5) (pc' := 27) rfl (hb hby d5_5) rfl ((if0 _ _).trans (feq (by decide : ¬ ((2 : Int32) = (0 : Int32)))).2) (by decide) (by decide) ?_
    refine st103 _ ?_
    refine XS.ifNo X103.here hx rfl (hb hby d5_30) rfl ((if0 _ _).trans (feq hcs).1) ?_
    refine XS.aloadN X103.here hx rfl (hb hby d5_33) rfl rfl ?_
    refine XS.iloadN X103.here hx rfl (hb hby d5_34) rfl ?_
    refine XS.iloadN X103.here hx rfl (hb hby d5_35) rfl ?_
    refine st104 _ ?_
    refine XS.astore X104.here hx rfl (hb hby d5_39) rfl rfl (l' := #[rv a1, rv a2, iv 0, iv 2, .val .null, rv b105]) rfl ?_
    refine XS.aloadN X104.here hx rfl (hb hby d5_41) rfl rfl ?_
    refine XS.aload X104.here hx rfl (hb hby d5_42) rfl rfl ?_
    refine XS.iloadN X104.here hx rfl (hb hby d5_44) rfl ?_
    refine st118 _ ?_
    refine st119 _ ?_
    refine XS.aloadN X119.here hx rfl (hb hby d5_51) rfl rfl ?_
    refine XS.aload X119.here hx rfl (hb hby d5_52) rfl rfl ?_
    refine st126 _ ?_
    exact k)
  obtain ⟨fs, hr, hrun, hended, hW, hsame⟩ := X126.leave (v := none) (fun _ => rfl)
  refine ⟨_, _, pre133 _ ?_, hrun, hended, _, _, rfl, ?_, ⟨_, rfl⟩, hW, hsame.mono (by decide) (by decide)⟩
  · exact X126.returnOut hx Bd.returns (hb hby d5_57) hr
  · show QF_2 Z a1 a2 k2 cs x0 x1 h0 n0 _ T126.heap _
    rw [e126]
    exact ⟨b105, x106, rfl, N126, f130, f128, f132, Fw126, f107, f108, f131⟩
theorem ef_rmG_2 (m : MethodId) (x0 : Addr) (x1 : Addr) : entryFrame m #[(.ref x0), (.ref x1)] 2 = mkF m 0 #[rv x0, rv x1] [] := by first | (simp [entryFrame, mkF, argsToLocals, Value.category]; done) | rfl
def QG_2 (Z : State) (a1 : Addr) (a2 : Addr) (k2 : ClassId) (cs : Int32) (x0 : Int32) (x1 : Int32) (h0 : Heap) (n0 : Nat) (v : Option Value) (h : Heap) (L : List Loc) : Prop := ∃ (t : Addr) (kt : ClassId), v = none ∧ Fr n0 L ∧ Keep h0 h [a1] ∧ (Exa Z h a1 "java/lang/String") ∧ (Fld Z h a1 "java/lang/String" "coder" "B" (.int 0)) ∧ (Fld Z h a1 "java/lang/String" "value" "[B" (.ref t)) ∧ (n0 ≤ t) ∧ (h0.size ≤ t) ∧ (Arv Z h t kt .byte (2 : Int32) [(.int (nar .byte (x0.toInt8.toInt32))), (.int (nar .byte (x1.toInt8.toInt32)))] (.int 0))
set_option maxRecDepth 65536 in
set_option maxHeartbeats 40000000 in
theorem rmG_2 (l : Launch) (Z : State) (a0 : Array Value) (hw : ∀ d ∈ tables_1, d.before a0 Z = true) (ws : List Jvm.Cond) (a1 : Addr) (a2 : Addr) (k2 : ClassId) (cs : Int32) (x0 : Int32) (x1 : Int32) (h0 : Heap) (n0 : Nat) (Z0 : n0 ≤ h0.size) (F1 : Fld Z h0 a1 "java/lang/String" "value" "[B" .null) (F2 : Fld Z h0 a1 "java/lang/String" "coder" "B" (.int 0)) (E1 : Exa Z h0 a1 "java/lang/String") (g1 : n0 ≤ a1) (V2 : Arv Z h0 a2 k2 .char (2 : Int32) [(.int x0), (.int x1)] (.int 0)) (SC : Sta Z h0 "java/lang/String" "COMPACT_STRINGS" "Z" (.int cs)) (hcs : ¬ (cs = (0 : Int32))) (ne : a1 ≠ a2) (hx0 : ¬ ((255 : Int32) < x0)) (hx1 : ¬ ((255 : Int32) < x1)) :
    own_M l own_y4 jdk_42_method_3_code 2 none ws (own_R 3 1 2 52) Z h0 #[(.ref a1), (.ref a2)] (QG_2 Z a1 a2 k2 cs x0 x1 h0 n0) := by
  refine MetFree.of_bodySF (plainFor_of_name pn_java_lang_String) hisR ?_
  intro p e s m args below meth c s₁ Bd hml0 hP hK
  obtain ⟨rfl, hZ, hh⟩ := hP
  have hx := Bd.exec
  have hby := Bd.bytes
  have hml : c.maxLocals = 2 := hml0
  have hown : s.vm.findClass "java/lang/String" = some m.cls := findClass_of_methodNamed Bd.named
  have hnm := (name_of_methodNamed Bd.named Bd.method).1
  have X0 : Stand p l e (own_R 3 1 2 52) s m #[(.ref a1), (.ref a2)] below meth c s₁ [] 0 0 := Stand.of_body Bd
  have e0 : s₁.heap = h0 := by rw [← hh, Bd.state]; rfl
  have N0 := Fr.nil n0
  have pre0 : own_P p e below s₁ (entryFrame m #[(.ref a1), (.ref a2)] 2) s₁ (mkF m 0 #[rv a1, rv a2] []) := fun t k => castTop (ef_rmG_2 m a1 a2) k
  have f101 := Keep.refl h0 [a1]
  obtain ⟨cl102, Ar102, q102, S102, N102z, H102, G102⟩ := (id V2)
  obtain ⟨_, _, ⟨T103, L103, k103, n103⟩, -, X103, ⟨Lc103, hQ103, l103, y103, z103⟩, st103⟩ := X0.specialBack hx (y := own_y3) rfl hown (own_m hZ hw 18) (own_m hZ hw 19) (own_m hZ hw 21) (by decide) (backOf (W := 0) (rmF_2 l Z a0 hw [] a1 a2 k2 cs x0 x1 h0 n0 Z0 F1 F2 E1 g1 V2 SC hcs ne hx0 hx1) hZ (own_i hw 21 rfl) (own_i hw 10 rfl) (by decide) (by decide)) (g := (mkF m 6 #[rv a1, rv a2] [.null, (.int 2), (.int 0), (.ref a2), (.ref a1)])) rfl (by rw [hml]; rfl) (Steps.refl _) (a := a1) (argsL := [(.ref a2), (.int 0), (.int 2), .null]) (rest := []) (lenOf pd_3 rfl) rfl (Nat.le_of_eq rfl) (hb hby d4_6) (fun _ _ => ⟨rfl, e0, (by decide : 0 + 1 ≤ _), (by decide : 0 + 2 ≤ _)⟩)
  dsimp only [Pt.U, Pt.locs, Pt.cells, Pt.slots] at X103 l103 y103 z103 st103 hQ103
  subst l103 y103 z103
  obtain ⟨b104, x105, rfl, N103q, K103, f106, f107, f108, f109, f110, f111⟩ := hQ103
  have N103 := Fr.app N0 N103q
  have ne112 : a1 ≠ b104 := Nat.ne_of_lt (Nat.lt_of_lt_of_le F1.lt f110)
  have ne113 : a2 ≠ b104 := Nat.ne_of_lt (Nat.lt_of_lt_of_le V2.lt f110)
  have f114 := Nat.le_trans Z0 K103.1
  have f115 := V2.keep K103 (ninS (Ne.symm ne) nin0)
  have f116 := f101.trans K103 (allS (Or.inl (List.mem_of_getElem? (i := 0) rfl)) all0)
  have pre117 : own_P p e below s₁ (entryFrame m #[(.ref a1), (.ref a2)] 2) T103 (mkF m 9 #[rv a1, rv a2] []) := fun t k => pre0 t (by
    show Steps p.tables e below (s₁.setTop (mkF m 0 #[rv a1, rv a2] [])) t
    refine XS.aloadN X0.here hx rfl (hb hby d4_0) rfl rfl ?_
    refine XS.aloadN X0.here hx rfl (hb hby d4_1) rfl rfl ?_
    refine XS.iconst X0.here hx rfl (hb hby d4_2) ?_
    refine XS.aloadN X0.here hx rfl (hb hby d4_3) rfl rfl ?_
    refine X0.arraylength hx (by rw [e0]; exact Ar102.1) (State.isArrayOf_alike hZ.alike Ar102.2.1) (g := (mkF m 4 #[rv a1, rv a2] [(.ref a2), (.int 0), (.ref a2), (.ref a1)])) rfl rfl (hb hby d4_4) _ ?_
    rw [len_of S102 N102z]
    refine XS.aconstNull X0.here hx rfl (hb hby d4_5) ?_
    refine st103.trans ?_
    exact k)
  obtain ⟨fs, hr, hrun, hended, hW, hsame⟩ := X103.leave (v := none) (fun _ => rfl)
  refine ⟨_, _, pre117 _ ?_, hrun, hended, _, _, rfl, ?_, ⟨_, rfl⟩, hW, hsame.mono (by decide) (by decide)⟩
  · exact X103.returnOut hx Bd.returns (hb hby d4_9) hr
  · show QG_2 Z a1 a2 k2 cs x0 x1 h0 n0 _ T103.heap _
    exact ⟨b104, x105, rfl, N103, f116, f106, f107, f108, f109, f110, f111⟩
theorem ef_rmC_3 (m : MethodId) (x0 : Addr) (x2 : Addr) : entryFrame m #[(.ref x0), (.int 0), (.ref x2), (.int 0), (.int 3)] 7 = mkF m 0 #[rv x0, iv 0, rv x2, iv 0, iv 3, .unset, .unset] [] := by first | (simp [entryFrame, mkF, argsToLocals, Value.category]; done) | rfl
def QC_3 (Z : State) (a1 : Addr) (a3 : Addr) (k1 : ClassId) (k3 : ClassId) (x0 : Int32) (x1 : Int32) (x2 : Int32) (h0 : Heap) (n0 : Nat) (v : Option Value) (h : Heap) (L : List Loc) : Prop := v = some (.int 3) ∧ Fr n0 L ∧ Keep h0 h [a3] ∧ (Arv Z h a3 k3 .byte (3 : Int32) [(.int (nar .byte (x0.toInt8.toInt32))), (.int (nar .byte (x1.toInt8.toInt32))), (.int (nar .byte (x2.toInt8.toInt32)))] (.int 0))
set_option maxRecDepth 65536 in
set_option maxHeartbeats 40000000 in
theorem rmC_3 (l : Launch) (Z : State) (a0 : Array Value) (hw : ∀ d ∈ tables_1, d.before a0 Z = true) (ws : List Jvm.Cond) (a1 : Addr) (a3 : Addr) (k1 : ClassId) (k3 : ClassId) (x0 : Int32) (x1 : Int32) (x2 : Int32) (h0 : Heap) (n0 : Nat) (Z0 : n0 ≤ h0.size) (V1 : Arv Z h0 a1 k1 .char (3 : Int32) [(.int x0), (.int x1), (.int x2)] (.int 0)) (V3 : Arv Z h0 a3 k3 .byte (3 : Int32) [(.int 0), (.int 0), (.int 0)] (.int 0)) (g3 : n0 ≤ a3) (ne : a1 ≠ a3) (hx0 : ¬ ((255 : Int32) < x0)) (hx1 : ¬ ((255 : Int32) < x1)) (hx2 : ¬ ((255 : Int32) < x2)) :
    own_M l own_y0 jdk_52_method_21_code 7 (some .int) ws (own_R 0 0 0 0) Z h0 #[(.ref a1), (.int 0), (.ref a3), (.int 0), (.int 3)] (QC_3 Z a1 a3 k1 k3 x0 x1 x2 h0 n0) := by
  refine MetFree.of_bodySF (plainFor_of_name pn_java_lang_StringUTF16) hisR ?_
  intro p e s m args below meth c s₁ Bd hml0 hP hK
  obtain ⟨rfl, hZ, hh⟩ := hP
  have hx := Bd.exec
  have hby := Bd.bytes
  have hml : c.maxLocals = 7 := hml0
  have hown : s.vm.findClass "java/lang/StringUTF16" = some m.cls := findClass_of_methodNamed Bd.named
  have hnm := (name_of_methodNamed Bd.named Bd.method).1
  have X0 : Stand p l e (own_R 0 0 0 0) s m #[(.ref a1), (.int 0), (.ref a3), (.int 0), (.int 3)] below meth c s₁ [] 0 0 := Stand.of_body Bd
  have e0 : s₁.heap = h0 := by rw [← hh, Bd.state]; rfl
  have N0 := Fr.nil n0
  have pre0 : own_P p e below s₁ (entryFrame m #[(.ref a1), (.int 0), (.ref a3), (.int 0), (.int 3)] 7) s₁ (mkF m 0 #[rv a1, iv 0, rv a3, iv 0, iv 3, .unset, .unset] []) := fun t k => castTop (ef_rmC_3 m a1 a3) k
  have f101 := Keep.refl h0 [a3]
  obtain ⟨cl102, Ar102, q102, S102, N102z, H102, G102⟩ := (id V1)
  have hin102 : ¬ ((0 : Int32) < 0 ∨ cl102.slots.size ≤ ((0 : Int32)).toNatClampNeg) := inb_of S102 ⟨by decide, by decide⟩
  have hat102 : cl102.slots[((0 : Int32)).toNatClampNeg]? = some (.int x0) := Has.at H102 hin102 rfl
  obtain ⟨cl103, Ar103, q103, S103, N103z, H103, G103⟩ := (id V3)
  have hin103 : ¬ ((0 : Int32) < 0 ∨ cl103.slots.size ≤ ((0 : Int32)).toNatClampNeg) := inb_of S103 ⟨by decide, by decide⟩
  obtain ⟨T103, h103, X103, e103, W103, st103⟩ := stB X0 hx hZ e0 Ar103 (j := (0 : Int32)) hin103 (g := (mkF m 31 #[rv a1, iv 0, rv a3, iv 0, iv 3, iv 0, iv x0] [(.int (x0.toInt8.toInt32)), (.int 0), (.ref a3)])) rfl rfl (hb hby d8_31)
  have V103 : Arv Z h103 a3 k3 .byte (3 : Int32) [(.int (nar .byte (x0.toInt8.toInt32))), (.int 0), (.int 0)] (.int 0) := Arv.set Ar103 q103 S103 N103z H103 G103 (fits_nar_byte _) W103 0 rfl (Nat.le_of_ble_eq_true rfl)
  have N103 := Fr.snoc X103 N0 g3
  have f104 := Nat.le_trans Z0 (Keep.of_wr W103).1
  have f105 := V1.other W103 ne
  have f106 := f101.wr W103 (Or.inl (List.mem_of_getElem? (i := 0) rfl))
  obtain ⟨cl107, Ar107, q107, S107, N107z, H107, G107⟩ := (id f105)
  have hin107 : ¬ ((1 : Int32) < 0 ∨ cl107.slots.size ≤ ((1 : Int32)).toNatClampNeg) := inb_of S107 ⟨by decide, by decide⟩
  have hat107 : cl107.slots[((1 : Int32)).toNatClampNeg]? = some (.int x1) := Has.at H107 hin107 rfl
  obtain ⟨cl108, Ar108, q108, S108, N108z, H108, G108⟩ := (id V103)
  have hin108 : ¬ ((1 : Int32) < 0 ∨ cl108.slots.size ≤ ((1 : Int32)).toNatClampNeg) := inb_of S108 ⟨by decide, by decide⟩
  obtain ⟨T108, h108, X108, e108, W108, st108⟩ := stB X103 hx hZ e103 Ar108 (j := (1 : Int32)) hin108 (g := (mkF m 31 #[rv a1, iv 1, rv a3, iv 1, iv 3, iv 1, iv x1] [(.int (x1.toInt8.toInt32)), (.int 1), (.ref a3)])) rfl rfl (hb hby d8_31)
  have V108 : Arv Z h108 a3 k3 .byte (3 : Int32) [(.int (nar .byte (x0.toInt8.toInt32))), (.int (nar .byte (x1.toInt8.toInt32))), (.int 0)] (.int 0) := Arv.set Ar108 q108 S108 N108z H108 G108 (fits_nar_byte _) W108 1 rfl (Nat.le_of_ble_eq_true rfl)
  have N108 := Fr.snoc X108 N103 g3
  have f109 := Nat.le_trans f104 (Keep.of_wr W108).1
  have f110 := f105.other W108 ne
  have f111 := f106.wr W108 (Or.inl (List.mem_of_getElem? (i := 0) rfl))
  obtain ⟨cl112, Ar112, q112, S112, N112z, H112, G112⟩ := (id f110)
  have hin112 : ¬ ((2 : Int32) < 0 ∨ cl112.slots.size ≤ ((2 : Int32)).toNatClampNeg) := inb_of S112 ⟨by decide, by decide⟩
  have hat112 : cl112.slots[((2 : Int32)).toNatClampNeg]? = some (.int x2) := Has.at H112 hin112 rfl
  obtain ⟨cl113, Ar113, q113, S113, N113z, H113, G113⟩ := (id V108)
  have hin113 : ¬ ((2 : Int32) < 0 ∨ cl113.slots.size ≤ ((2 : Int32)).toNatClampNeg) := inb_of S113 ⟨by decide, by decide⟩
  obtain ⟨T113, h113, X113, e113, W113, st113⟩ := stB X108 hx hZ e108 Ar113 (j := (2 : Int32)) hin113 (g := (mkF m 31 #[rv a1, iv 2, rv a3, iv 2, iv 3, iv 2, iv x2] [(.int (x2.toInt8.toInt32)), (.int 2), (.ref a3)])) rfl rfl (hb hby d8_31)
  have V113 : Arv Z h113 a3 k3 .byte (3 : Int32) [(.int (nar .byte (x0.toInt8.toInt32))), (.int (nar .byte (x1.toInt8.toInt32))), (.int (nar .byte (x2.toInt8.toInt32)))] (.int 0) := Arv.set Ar113 q113 S113 N113z H113 G113 (fits_nar_byte _) W113 2 rfl (Nat.le_of_ble_eq_true rfl)
  have N113 := Fr.snoc X113 N108 g3
  have f114 := Nat.le_trans f109 (Keep.of_wr W113).1
  have f115 := f110.other W113 ne
  have f116 := f111.wr W113 (Or.inl (List.mem_of_getElem? (i := 0) rfl))
  have pre117 : own_P p e below s₁ (entryFrame m #[(.ref a1), (.int 0), (.ref a3), (.int 0), (.int 3)] 7) T113 (mkF m 46 #[rv a1, iv 3, rv a3, iv 3, iv 3, iv 3, iv x2] [(.int 3)]) := fun t k => pre0 t (by
    show Steps p.tables e below (s₁.setTop (mkF m 0 #[rv a1, iv 0, rv a3, iv 0, iv 3, .unset, .unset] [])) t
    refine XS.iconst X0.here hx rfl (hb hby d8_0) ?_
    refine XS.istore X0.here hx rfl (hb hby d8_1) rfl (l' := #[rv a1, iv 0, rv a3, iv 0, iv 3, iv 0, .unset]) rfl ?_
    refine XS.iload X0.here hx rfl (hb hby d8_3) rfl ?_
    refine XS.iload X0.here hx rfl (hb hby d8_5) rfl ?_
    refine XS.icmpNo X0.here hx rfl (hb hby d8_7) rfl (tlt (by decide : (0 : Int32) < (3 : Int32))).2.1 ?_
    refine XS.aloadN X0.here hx rfl (hb hby d8_10) rfl rfl ?_
    refine XS.iloadN X0.here hx rfl (hb hby d8_11) rfl ?_
    refine X0.caload hx (j := (0 : Int32)) (v := (.int x0)) (by rw [e0]; exact Ar102.1) (State.isArrayOf_alike hZ.alike Ar102.2.1) Ar102.2.2 hin102 hat102 (g := (mkF m 12 #[rv a1, iv 0, rv a3, iv 0, iv 3, iv 0, .unset] [(.int 0), (.ref a1)])) rfl rfl (hb hby d8_12) _ ?_
    refine XS.istore X0.here hx rfl (hb hby d8_13) rfl (l' := #[rv a1, iv 0, rv a3, iv 0, iv 3, iv 0, iv x0]) rfl ?_
    refine XS.iload X0.here hx rfl (hb hby d8_15) rfl ?_
    refine XS.sipush X0.here hx rfl (hb hby d8_17) ?_
    refine XS.icmpYes X0.here hx rfl (pc0 := 20) (pc' := 26) rfl (hb hby d8_20) rfl (flt hx0).2.2.2 (by decide) (by decide) ?_
    refine XS.aloadN X0.here hx rfl (hb hby d8_26) rfl rfl ?_
    refine XS.iloadN X0.here hx rfl (hb hby d8_27) rfl ?_
    refine XS.iload X0.here hx rfl (hb hby d8_28) rfl ?_
    refine XS.i2b X0.here hx rfl (hb hby d8_30) rfl ?_
    refine st103 _ ?_
    refine XS.iinc X103.here hx rfl (hb hby d8_32) rfl (l' := #[rv a1, iv 1, rv a3, iv 0, iv 3, iv 0, iv x0]) rfl ?_
    refine XS.iinc X103.here hx rfl (hb hby d8_35) rfl (l' := #[rv a1, iv 1, rv a3, iv 1, iv 3, iv 0, iv x0]) rfl ?_
    refine XS.iinc X103.here hx rfl (hb hby d8_38) rfl (l' := #[rv a1, iv 1, rv a3, iv 1, iv 3, iv 1, iv x0]) rfl ?_
    refine XS.goto X103.here hx rfl (pc0 := 41) (pc' := 3) rfl (hb hby d8_41) (by decide) (by decide) ?_
    refine XS.iload X103.here hx rfl (hb hby d8_3) rfl ?_
    refine XS.iload X103.here hx rfl (hb hby d8_5) rfl ?_
    refine XS.icmpNo X103.here hx rfl (hb hby d8_7) rfl (tlt (by decide : (1 : Int32) < (3 : Int32))).2.1 ?_
    refine XS.aloadN X103.here hx rfl (hb hby d8_10) rfl rfl ?_
    show Steps p.tables e below (T103.setTop (mkF m 11 #[rv a1, iv 1, rv a3, iv 1, iv 3, iv 1, iv x0] [(.ref a1)])) t
    refine XS.iloadN X103.here hx rfl (hb hby d8_11) rfl ?_
    refine X103.caload hx (j := (1 : Int32)) (v := (.int x1)) (by rw [e103]; exact Ar107.1) (State.isArrayOf_alike hZ.alike Ar107.2.1) Ar107.2.2 hin107 hat107 (g := (mkF m 12 #[rv a1, iv 1, rv a3, iv 1, iv 3, iv 1, iv x0] [(.int 1), (.ref a1)])) rfl rfl (hb hby d8_12) _ ?_
    refine XS.istore X103.here hx rfl (hb hby d8_13) rfl (l' := #[rv a1, iv 1, rv a3, iv 1, iv 3, iv 1, iv x1]) rfl ?_
    refine XS.iload X103.here hx rfl (hb hby d8_15) rfl ?_
    refine XS.sipush X103.here hx rfl (hb hby d8_17) ?_
    refine XS.icmpYes X103.here hx rfl (pc0 := 20) (pc' := 26) rfl (hb hby d8_20) rfl (flt hx1).2.2.2 (by decide) (by decide) ?_
    refine XS.aloadN X103.here hx rfl (hb hby d8_26) rfl rfl ?_
    refine XS.iloadN X103.here hx rfl (hb hby d8_27) rfl ?_
    refine XS.iload X103.here hx rfl (hb hby d8_28) rfl ?_
    refine XS.i2b X103.here hx rfl (hb hby d8_30) rfl ?_
    refine st108 _ ?_
    refine XS.iinc X108.here hx rfl (hb hby d8_32) rfl (l' := #[rv a1, iv 2, rv a3, iv 1, iv 3, iv 1, iv x1]) rfl ?_
    refine XS.iinc X108.here hx rfl (hb hby d8_35) rfl (l' := #[rv a1, iv 2, rv a3, iv 2, iv 3, iv 1, iv x1]) rfl ?_
    refine XS.iinc X108.here hx rfl (hb hby d8_38) rfl (l' := #[rv a1, iv 2, rv a3, iv 2, iv 3, iv 2, iv x1]) rfl ?_
    refine XS.goto X108.here hx rfl (pc0 := 41) (pc' := 3) rfl (hb hby d8_41) (by decide) (by decide) ?_
    refine XS.iload X108.here hx rfl (hb hby d8_3) rfl ?_
    refine XS.iload X108.here hx rfl (hb hby d8_5) rfl ?_
    refine XS.icmpNo X108.here hx rfl (hb hby d8_7) rfl (tlt (by decide : (2 : Int32) < (3 : Int32))).2.1 ?_
    refine XS.aloadN X108.here hx rfl (hb hby d8_10) rfl rfl ?_
    refine XS.iloadN X108.here hx rfl (hb hby d8_11) rfl ?_
    refine X108.caload hx (j := (2 : Int32)) (v := (.int x2)) (by rw [e108]; exact Ar112.1) (State.isArrayOf_alike hZ.alike Ar112.2.1) Ar112.2.2 hin112 hat112 (g := (mkF m 12 #[rv a1, iv 2, rv a3, iv 2, iv 3, iv 2, iv x1] [(.int 2), (.ref a1)])) rfl rfl (hb hby d8_12) _ ?_
    refine XS.istore X108.here hx rfl (hb hby d8_13) rfl (l' := #[rv a1, iv 2, rv a3, iv 2, iv 3, iv 2, iv x2]) rfl ?_
    refine XS.iload X108.here hx rfl (hb hby d8_15) rfl ?_
    refine XS.sipush X108.here hx rfl (hb hby d8_17) ?_
    refine XS.icmpYes X108.here hx rfl (pc0 := 20) (pc' := 26) rfl (hb hby d8_20) rfl (flt hx2).2.2.2 (by decide) (by decide) ?_
    show Steps p.tables e below (T108.setTop (mkF m 26 #[rv a1, iv 2, rv a3, iv 2, iv 3, iv 2, iv x2] [])) t
    refine XS.aloadN X108.here hx rfl (hb hby d8_26) rfl rfl ?_
    refine XS.iloadN X108.here hx rfl (hb hby d8_27) rfl ?_
    refine XS.iload X108.here hx rfl (hb hby d8_28) rfl ?_
    refine XS.i2b X108.here hx rfl (hb hby d8_30) rfl ?_
    refine st113 _ ?_
    refine XS.iinc X113.here hx rfl (hb hby d8_32) rfl (l' := #[rv a1, iv 3, rv a3, iv 2, iv 3, iv 2, iv x2]) rfl ?_
    refine XS.iinc X113.here hx rfl (hb hby d8_35) rfl (l' := #[rv a1, iv 3, rv a3, iv 3, iv 3, iv 2, iv x2]) rfl ?_
    refine XS.iinc X113.here hx rfl (hb hby d8_38) rfl (l' := #[rv a1, iv 3, rv a3, iv 3, iv 3, iv 3, iv x2]) rfl ?_
    refine XS.goto X113.here hx rfl (pc0 := 41) (pc' := 3) rfl (hb hby d8_41) (by decide) (by decide) ?_
    refine XS.iload X113.here hx rfl (hb hby d8_3) rfl ?_
    refine XS.iload X113.here hx rfl (hb hby d8_5) rfl ?_
    refine XS.icmpYes X113.here hx rfl (pc0 := 7) (pc' := 44) rfl (hb hby d8_7) rfl (flt (by decide : ¬ ((3 : Int32) < (3 : Int32)))).2.1 (by decide) (by decide) ?_
    refine XS.iload X113.here hx rfl (hb hby d8_44) rfl ?_
    exact k)
  obtain ⟨fs, hr, hrun, hended, hW, hsame⟩ := X113.leave (v := some (.int 3)) (fun h => by rw [Bd.returns] at h; cases h)
  refine ⟨_, _, pre117 _ ?_, hrun, hended, _, _, rfl, ?_, ⟨_, rfl⟩, hW, hsame.mono (by decide) (by decide)⟩
  · exact retI X113 hx Bd.returns (hb hby d8_46) hr
  · show QC_3 Z a1 a3 k1 k3 x0 x1 x2 h0 n0 _ T113.heap _
    rw [e113]
    exact ⟨rfl, N113, f116, V113⟩
theorem ef_rmD_3 (m : MethodId) (x0 : Addr) : entryFrame m #[(.ref x0), (.int 0), (.int 3)] 6 = mkF m 0 #[rv x0, iv 0, iv 3, .unset, .unset, .unset] [] := by first | (simp [entryFrame, mkF, argsToLocals, Value.category]; done) | rfl
def QD_3 (Z : State) (a1 : Addr) (k1 : ClassId) (x0 : Int32) (x1 : Int32) (x2 : Int32) (h0 : Heap) (n0 : Nat) (v : Option Value) (h : Heap) (L : List Loc) : Prop := ∃ (b : Addr) (kb : ClassId), v = some (.ref b) ∧ Fr n0 L ∧ Keep h0 h [] ∧ (n0 ≤ b) ∧ (h0.size ≤ b) ∧ (Arv Z h b kb .byte (3 : Int32) [(.int (nar .byte (x0.toInt8.toInt32))), (.int (nar .byte (x1.toInt8.toInt32))), (.int (nar .byte (x2.toInt8.toInt32)))] (.int 0))
set_option maxRecDepth 65536 in
set_option maxHeartbeats 40000000 in
theorem rmD_3 (l : Launch) (Z : State) (a0 : Array Value) (hw : ∀ d ∈ tables_1, d.before a0 Z = true) (ws : List Jvm.Cond) (a1 : Addr) (k1 : ClassId) (x0 : Int32) (x1 : Int32) (x2 : Int32) (h0 : Heap) (n0 : Nat) (Z0 : n0 ≤ h0.size) (V1 : Arv Z h0 a1 k1 .char (3 : Int32) [(.int x0), (.int x1), (.int x2)] (.int 0)) (hx0 : ¬ ((255 : Int32) < x0)) (hx1 : ¬ ((255 : Int32) < x1)) (hx2 : ¬ ((255 : Int32) < x2)) :
    own_M l own_y1 jdk_52_method_16_code 6 (some (.array .byte)) ws (own_R 1 1 3 18) Z h0 #[(.ref a1), (.int 0), (.int 3)] (QD_3 Z a1 k1 x0 x1 x2 h0 n0) := by
  refine MetFree.of_bodySF (plainFor_of_name pn_java_lang_StringUTF16) hisR ?_
  intro p e s m args below meth c s₁ Bd hml0 hP hK
  obtain ⟨rfl, hZ, hh⟩ := hP
  have hx := Bd.exec
  have hby := Bd.bytes
  have hml : c.maxLocals = 6 := hml0
  have hown : s.vm.findClass "java/lang/StringUTF16" = some m.cls := findClass_of_methodNamed Bd.named
  have hnm := (name_of_methodNamed Bd.named Bd.method).1
  have X0 : Stand p l e (own_R 1 1 3 18) s m #[(.ref a1), (.int 0), (.int 3)] below meth c s₁ [] 0 0 := Stand.of_body Bd
  have e0 : s₁.heap = h0 := by rw [← hh, Bd.state]; rfl
  have N0 := Fr.nil n0
  have pre0 : own_P p e below s₁ (entryFrame m #[(.ref a1), (.int 0), (.int 3)] 6) s₁ (mkF m 0 #[rv a1, iv 0, iv 3, .unset, .unset, .unset] []) := fun t k => castTop (ef_rmD_3 m a1) k
  have f101 := Keep.refl h0 []
  obtain ⟨T102, h102, k102, X102, e102, E102, A102, st102⟩ := newP X0 hx hZ (own_i hw 30 rfl) e0 (g := (mkF m 1 #[rv a1, iv 0, iv 3, .unset, .unset, .unset] [(.int 3)])) rfl (hb hby d7_1) rfl (by decide) (cap := 3) (by decide) (by decide) (by decide) (by decide)
  obtain ⟨b102, g102⟩ : ∃ z, z = h0.size := ⟨_, rfl⟩
  rw [← g102] at A102 st102
  have ne103 : a1 ≠ b102 := Nat.ne_of_lt (Nat.lt_of_lt_of_le V1.lt (Nat.le_of_eq g102.symm))
  have ga104 : n0 ≤ b102 := Nat.le_trans Z0 (Nat.le_of_eq g102.symm)
  have sz105 : h0.size ≤ b102 := Nat.le_trans f101.1 (Nat.le_of_eq g102.symm)
  have V102 : Arv Z h102 b102 k102 .byte (3 : Int32) [(.int 0), (.int 0), (.int 0)] (.int 0) := (Arv.new A102 (by decide)).pad (pad_rep [] (.int 0) 3)
  have f106 := Nat.le_trans Z0 E102.1
  have f107 := V1.ext E102
  have f108 := f101.ext E102
  obtain ⟨_, _, ⟨T109, L109, k109, n109⟩, -, X109, ⟨Lc109, hQ109, l109, y109, z109⟩, st109⟩ := Jvm.LawKit.callS X102 hx (y := own_y0) hown (own_m hZ hw 31) (own_m hZ hw 32) (own_m hZ hw 28) (own_m hZ hw 33) (by decide) (backOf (W := 0) (rmC_3 l Z a0 hw [] a1 b102 k1 k102 x0 x1 x2 h102 n0 f106 f107 V102 ga104 ne103 hx0 hx1 hx2) hZ (own_i hw 33 rfl) (own_i hw 28 rfl) (by decide) (by decide)) (g := (mkF m 9 #[rv a1, iv 0, iv 3, rv b102, .unset, .unset] [(.int 3), (.int 0), (.ref b102), (.int 0), (.ref a1)])) rfl (by rw [hml]; rfl) (argsL := [(.ref a1), (.int 0), (.ref b102), (.int 0), (.int 3)]) (rest := []) (lenOf pd_0 rfl) rfl (Nat.le_of_eq rfl) (hb hby d7_9) (fun _ _ => ⟨rfl, e102, (by decide : 1 + 0 ≤ _), (by decide : 3 + 0 ≤ _)⟩)
  dsimp only [Pt.U, Pt.locs, Pt.cells, Pt.slots] at X109 l109 y109 z109 st109 hQ109
  subst l109 y109 z109
  obtain ⟨rfl, N109q, K109, f110⟩ := hQ109
  have N109 := Fr.app N0 N109q
  have f111 := Nat.le_trans f106 K109.1
  have f112 := f107.keep K109 (ninS ne103 nin0)
  have f113 := f108.trans K109 (allS (Or.inr sz105) all0)
  have pre114 : own_P p e below s₁ (entryFrame m #[(.ref a1), (.int 0), (.int 3)] 6) T109 (mkF m 58 #[rv a1, iv 0, iv 3, rv b102, iv 3, .unset] [(.ref b102)]) := fun t k => pre0 t (by
    show Steps p.tables e below (s₁.setTop (mkF m 0 #[rv a1, iv 0, iv 3, .unset, .unset, .unset] [])) t
    refine XS.iloadN X0.here hx rfl (hb hby d7_0) rfl ?_
    refine st102 _ ?_
    refine XS.astoreN X102.here hx rfl (hb hby d7_3) rfl rfl (l' := #[rv a1, iv 0, iv 3, rv b102, .unset, .unset]) rfl ?_
    refine XS.aloadN X102.here hx rfl (hb hby d7_4) rfl rfl ?_
    refine XS.iloadN X102.here hx rfl (hb hby d7_5) rfl ?_
    refine XS.aloadN X102.here hx rfl (hb hby d7_6) rfl rfl ?_
    refine XS.iconst X102.here hx rfl (hb hby d7_7) ?_
    refine XS.iloadN X102.here hx rfl (hb hby d7_8) rfl ?_
    refine st109 _ ?_
    refine XS.istore X109.here hx rfl (hb hby d7_12) rfl (l' := #[rv a1, iv 0, iv 3, rv b102, iv 3, .unset]) rfl ?_
    refine XS.iload X109.here hx rfl (hb hby d7_14) rfl ?_
    refine XS.iloadN X109.here hx rfl (hb hby d7_16) rfl ?_
    refine XS.icmpYes X109.here hx rfl (pc0 := 17) (pc' := 57) rfl (hb hby d7_17) rfl (teq (by decide : (3 : Int32) = (3 : Int32))).1 (by decide) (by decide) ?_
    refine XS.aloadN X109.here hx rfl (hb hby d7_57) rfl rfl ?_
    exact k)
  obtain ⟨fs, hr, hrun, hended, hW, hsame⟩ := X109.leave (v := some (.ref b102)) (fun h => by rw [Bd.returns] at h; cases h)
  refine ⟨_, _, pre114 _ ?_, hrun, hended, _, _, rfl, ?_, ⟨_, rfl⟩, hW, hsame.mono (by decide) (by decide)⟩
  · exact retOut X109 hx Bd.returns rfl (Or.inr (Or.inr (Or.inr (Or.inr ⟨rfl, rfl, rfl⟩)))) (hb hby d7_58) hr
  · show QD_3 Z a1 k1 x0 x1 x2 h0 n0 _ T109.heap _
    exact ⟨b102, k102, rfl, N109, f113, ga104, sz105, f110⟩
theorem ef_rmE_3 (m : MethodId) (x0 : Addr) : entryFrame m #[(.ref x0), (.int 3)] 2 = mkF m 0 #[rv x0, iv 3] [] := by first | (simp [entryFrame, mkF, argsToLocals, Value.category]; done) | rfl
def QE_3 (Z : State) (a1 : Addr) (k1 : ClassId) (x0 : Int32) (x1 : Int32) (x2 : Int32) (h0 : Heap) (n0 : Nat) (v : Option Value) (h : Heap) (L : List Loc) : Prop := v = some (.int 0) ∧ Fr n0 L ∧ h = h0
set_option maxRecDepth 65536 in
set_option maxHeartbeats 40000000 in
theorem rmE_3 (l : Launch) (Z : State) (a0 : Array Value) (hw : ∀ d ∈ tables_1, d.before a0 Z = true) (ws : List Jvm.Cond) (a1 : Addr) (k1 : ClassId) (x0 : Int32) (x1 : Int32) (x2 : Int32) (h0 : Heap) (n0 : Nat) (Z0 : n0 ≤ h0.size) (V1 : Arv Z h0 a1 k1 .byte (3 : Int32) [(.int (nar .byte (x0.toInt8.toInt32))), (.int (nar .byte (x1.toInt8.toInt32))), (.int (nar .byte (x2.toInt8.toInt32)))] (.int 0)) :
    own_M l own_y2 jdk_52_method_15_code 2 (some .byte) ws (own_R 0 0 0 0) Z h0 #[(.ref a1), (.int 3)] (QE_3 Z a1 k1 x0 x1 x2 h0 n0) := by
  refine MetFree.of_bodySF (plainFor_of_name pn_java_lang_StringUTF16) hisR ?_
  intro p e s m args below meth c s₁ Bd hml0 hP hK
  obtain ⟨rfl, hZ, hh⟩ := hP
  have hx := Bd.exec
  have hby := Bd.bytes
  have hml : c.maxLocals = 2 := hml0
  have hown : s.vm.findClass "java/lang/StringUTF16" = some m.cls := findClass_of_methodNamed Bd.named
  have hnm := (name_of_methodNamed Bd.named Bd.method).1
  have X0 : Stand p l e (own_R 0 0 0 0) s m #[(.ref a1), (.int 3)] below meth c s₁ [] 0 0 := Stand.of_body Bd
  have e0 : s₁.heap = h0 := by rw [← hh, Bd.state]; rfl
  have N0 := Fr.nil n0
  have pre0 : own_P p e below s₁ (entryFrame m #[(.ref a1), (.int 3)] 2) s₁ (mkF m 0 #[rv a1, iv 3] []) := fun t k => castTop (ef_rmE_3 m a1) k
  obtain ⟨cl101, Ar101, q101, S101, N101z, H101, G101⟩ := (id V1)
  have pre102 : own_P p e below s₁ (entryFrame m #[(.ref a1), (.int 3)] 2) s₁ (mkF m 8 #[rv a1, iv 3] [(.int ((((0 : Int32).toUInt32 >>> ((31 : Int32) &&& 31).toUInt32).toInt32).toInt8.toInt32))]) := fun t k => pre0 t (by
    show Steps p.tables e below (s₁.setTop (mkF m 0 #[rv a1, iv 3] [])) t
    refine XS.iloadN X0.here hx rfl (hb hby d9_0) rfl ?_
    refine XS.aloadN X0.here hx rfl (hb hby d9_1) rfl rfl ?_
    refine X0.arraylength hx (by rw [e0]; exact Ar101.1) (State.isArrayOf_alike hZ.alike Ar101.2.1) (g := (mkF m 2 #[rv a1, iv 3] [(.ref a1), (.int 3)])) rfl rfl (hb hby d9_2) _ ?_
    rw [len_of S101 N101z]
    refine XS.isub X0.here hx rfl (hb hby d9_3) rfl ?_
    refine XS.bipush X0.here hx rfl (hb hby d9_4) ?_
    refine XS.iushr X0.here hx rfl (hb hby d9_6) rfl ?_
    refine XS.i2b X0.here hx rfl (hb hby d9_7) rfl ?_
    exact k)
  obtain ⟨fs, hr, hrun, hended, hW, hsame⟩ := X0.leave (v := some (.int (nar .byte ((((0 : Int32).toUInt32 >>> ((31 : Int32) &&& 31).toUInt32).toInt32).toInt8.toInt32)))) (fun h => by rw [Bd.returns] at h; cases h)
  refine ⟨_, _, pre102 _ ?_, hrun, hended, _, _, rfl, ?_, ⟨_, rfl⟩, hW, hsame.mono (by decide) (by decide)⟩
  · exact retN X0 hx (t := .byte) Bd.returns (by simp) (hb hby d9_8) hr
  · show QE_3 Z a1 k1 x0 x1 x2 h0 n0 _ s₁.heap _
    rw [e0]
    exact ⟨rfl, N0, rfl⟩
theorem ef_rmF_3 (m : MethodId) (x0 : Addr) (x1 : Addr) : entryFrame m #[(.ref x0), (.ref x1), (.int 0), (.int 3), .null] 6 = mkF m 0 #[rv x0, rv x1, iv 0, iv 3, .val .null, .unset] [] := by first | (simp [entryFrame, mkF, argsToLocals, Value.category]; done) | rfl
def QF_3 (Z : State) (a1 : Addr) (a2 : Addr) (k2 : ClassId) (cs : Int32) (x0 : Int32) (x1 : Int32) (x2 : Int32) (h0 : Heap) (n0 : Nat) (v : Option Value) (h : Heap) (L : List Loc) : Prop := ∃ (t : Addr) (kt : ClassId), v = none ∧ Fr n0 L ∧ Keep h0 h [a1] ∧ (Exa Z h a1 "java/lang/String") ∧ (Fld Z h a1 "java/lang/String" "coder" "B" (.int 0)) ∧ (Fld Z h a1 "java/lang/String" "value" "[B" (.ref t)) ∧ (n0 ≤ t) ∧ (h0.size ≤ t) ∧ (Arv Z h t kt .byte (3 : Int32) [(.int (nar .byte (x0.toInt8.toInt32))), (.int (nar .byte (x1.toInt8.toInt32))), (.int (nar .byte (x2.toInt8.toInt32)))] (.int 0))
set_option maxRecDepth 65536 in
set_option maxHeartbeats 40000000 in
theorem rmF_3 (l : Launch) (Z : State) (a0 : Array Value) (hw : ∀ d ∈ tables_1, d.before a0 Z = true) (ws : List Jvm.Cond) (a1 : Addr) (a2 : Addr) (k2 : ClassId) (cs : Int32) (x0 : Int32) (x1 : Int32) (x2 : Int32) (h0 : Heap) (n0 : Nat) (Z0 : n0 ≤ h0.size) (F1 : Fld Z h0 a1 "java/lang/String" "value" "[B" .null) (F2 : Fld Z h0 a1 "java/lang/String" "coder" "B" (.int 0)) (E1 : Exa Z h0 a1 "java/lang/String") (g1 : n0 ≤ a1) (V2 : Arv Z h0 a2 k2 .char (3 : Int32) [(.int x0), (.int x1), (.int x2)] (.int 0)) (SC : Sta Z h0 "java/lang/String" "COMPACT_STRINGS" "Z" (.int cs)) (hcs : ¬ (cs = (0 : Int32))) (ne : a1 ≠ a2) (hx0 : ¬ ((255 : Int32) < x0)) (hx1 : ¬ ((255 : Int32) < x1)) (hx2 : ¬ ((255 : Int32) < x2)) :
    own_M l own_y3 jdk_42_method_149_code 6 none ws (own_R 2 1 3 35) Z h0 #[(.ref a1), (.ref a2), (.int 0), (.int 3), .null] (QF_3 Z a1 a2 k2 cs x0 x1 x2 h0 n0) := by
  refine MetFree.of_bodySF (plainFor_of_name pn_java_lang_String) hisR ?_
  intro p e s m args below meth c s₁ Bd hml0 hP hK
  obtain ⟨rfl, hZ, hh⟩ := hP
  have hx := Bd.exec
  have hby := Bd.bytes
  have hml : c.maxLocals = 6 := hml0
  have hown : s.vm.findClass "java/lang/String" = some m.cls := findClass_of_methodNamed Bd.named
  have hnm := (name_of_methodNamed Bd.named Bd.method).1
  have X0 : Stand p l e (own_R 2 1 3 35) s m #[(.ref a1), (.ref a2), (.int 0), (.int 3), .null] below meth c s₁ [] 0 0 := Stand.of_body Bd
  have e0 : s₁.heap = h0 := by rw [← hh, Bd.state]; rfl
  have N0 := Fr.nil n0
  have pre0 : own_P p e below s₁ (entryFrame m #[(.ref a1), (.ref a2), (.int 0), (.int 3), .null] 6) s₁ (mkF m 0 #[rv a1, rv a2, iv 0, iv 3, .val .null, .unset] []) := fun t k => castTop (ef_rmF_3 m a1 a2) k
  have f101 := Keep.refl h0 [a1]
  obtain ⟨T102, X102, e102, st102⟩ := initO X0 hx hZ hown (own_i hw 22 rfl) (own_i hw 23 rfl) (own_i hw 24 rfl) e0 (g := (mkF m 1 #[rv a1, rv a2, iv 0, iv 3, .val .null, .unset] [(.ref a1)])) rfl (by rw [hml]; rfl) rfl (hb hby d5_1) (by decide) (W := 0) (Nat.le_of_eq rfl) (by decide)
  obtain ⟨T103, X103, e103, st103⟩ := getS2 X102 hx hZ hown (host := "") (Or.inl (own_i hw 25 rfl)) Via.refl e102 SC (g := (mkF m 27 #[rv a1, rv a2, iv 0, iv 3, .val .null, .unset] [])) rfl (hb hby d5_27)
  obtain ⟨_, _, ⟨T104, L104, k104, n104⟩, -, X104, ⟨Lc104, hQ104, l104, y104, z104⟩, st104⟩ := Jvm.LawKit.callS X103 hx (y := own_y1) hown (own_m hZ hw 26) (own_m hZ hw 27) (own_m hZ hw 28) (own_m hZ hw 29) (by decide) (backOf (W := 0) (rmD_3 l Z a0 hw [] a2 k2 x0 x1 x2 h0 n0 Z0 V2 hx0 hx1 hx2) hZ (own_i hw 29 rfl) (own_i hw 28 rfl) (by decide) (by decide)) (g := (mkF m 36 #[rv a1, rv a2, iv 0, iv 3, .val .null, .unset] [(.int 3), (.int 0), (.ref a2)])) rfl (by rw [hml]; rfl) (argsL := [(.ref a2), (.int 0), (.int 3)]) (rest := []) (lenOf pd_1 rfl) rfl (Nat.le_of_eq rfl) (hb hby d5_36) (fun _ _ => ⟨rfl, e103, (by decide : 0 + 1 ≤ _), (by decide : 0 + 3 ≤ _)⟩)
  dsimp only [Pt.U, Pt.locs, Pt.cells, Pt.slots] at X104 l104 y104 z104 st104 hQ104
  subst l104 y104 z104
  obtain ⟨b105, x106, rfl, N104q, K104, f107, f108, f109⟩ := hQ104
  have N104 := Fr.app N0 N104q
  have ne110 : a1 ≠ b105 := Nat.ne_of_lt (Nat.lt_of_lt_of_le F1.lt f108)
  have ne111 : a2 ≠ b105 := Nat.ne_of_lt (Nat.lt_of_lt_of_le V2.lt f108)
  have f112 := Nat.le_trans Z0 K104.1
  have f113 := F1.keep K104 nin0
  have f114 := F2.keep K104 nin0
  have f115 := E1.keep K104
  have f116 := V2.keep K104 nin0
  have f117 := f101.trans K104 all0
  obtain ⟨_, _, ⟨T118, L118, k118, n118⟩, -, X118, ⟨Lc118, hQ118, l118, y118, z118⟩, st118⟩ := Jvm.LawKit.callS X104 hx (y := own_y2) hown (own_m hZ hw 34) (own_m hZ hw 35) (own_m hZ hw 28) (own_m hZ hw 36) (by decide) (backOf (W := 1) (rmE_3 l Z a0 hw [] b105 x106 x0 x1 x2 T104.heap n0 f112 f109) hZ (own_i hw 36 rfl) (own_i hw 28 rfl) (by decide) (by decide)) (g := (mkF m 45 #[rv a1, rv a2, iv 0, iv 3, .val .null, rv b105] [(.int 3), (.ref b105), (.ref a1)])) rfl (by rw [hml]; rfl) (argsL := [(.ref b105), (.int 3)]) (rest := [(.ref a1)]) (lenOf pd_2 rfl) rfl (Nat.le_of_eq rfl) (hb hby d5_45) (fun _ _ => ⟨rfl, rfl, (by decide : 1 + 0 ≤ _), (by decide : 3 + 0 ≤ _)⟩)
  dsimp only [Pt.U, Pt.locs, Pt.cells, Pt.slots] at X118 l118 y118 z118 st118 hQ118
  subst l118 y118 z118
  obtain ⟨rfl, N118q, e118⟩ := hQ118
  have N118 := Fr.app N104 N118q
  obtain ⟨T119, h119, X119, e119, W119, st119⟩ := putFN X118 hx hZ hown (own_i hw 37 rfl) Via.refl e118 f114 f115 (Or.inr ⟨(own_i hw 38 rfl), rfl, hnm⟩) (own_i hw 9 rfl) (ty := .byte) (v' := (.int 0)) (by decide) rfl (by decide) (g := (mkF m 48 #[rv a1, rv a2, iv 0, iv 3, .val .null, rv b105] [(.int 0), (.ref a1)])) rfl rfl (hb hby d5_48)
  have Fw119 := f114.same W119
  have N119 := Fr.snoc X119 N118 g1
  have f120 := Nat.le_trans f112 (Keep.of_wr W119).1
  have f121 := f113.other W119 (Or.inr (slot_ne (Or.inr (own_i hw 40 rfl)) (Or.inr (own_i hw 38 rfl)) (by decide) (t := (.array .byte)) (t' := .byte) (by decide) (by decide)))
  have f122 := f115.wr W119
  have f123 := f116.other W119 (Ne.symm ne)
  have f124 := f117.wr W119 (Or.inl (List.mem_of_getElem? (i := 0) rfl))
  have f125 := f109.other W119 (Ne.symm ne110)
  obtain ⟨T126, h126, X126, e126, W126, st126⟩ := putF X119 hx hZ hown (host := "") (Or.inl (own_i hw 39 rfl)) Via.refl e119 f121 f122 (Or.inr ⟨(own_i hw 40 rfl), rfl, hnm⟩) (own_i hw 9 rfl) (ty := (.array .byte)) (by decide) rfl rfl (g := (mkF m 54 #[rv a1, rv a2, iv 0, iv 3, .val .null, rv b105] [(.ref b105), (.ref a1)])) rfl rfl (hb hby d5_54)
  have Fw126 := f121.same W126
  have N126 := Fr.snoc X126 N119 g1
  have f127 := Nat.le_trans f120 (Keep.of_wr W126).1
  have f128 := f122.wr W126
  have f129 := f123.other W126 (Ne.symm ne)
  have f130 := f124.wr W126 (Or.inl (List.mem_of_getElem? (i := 0) rfl))
  have f131 := f125.other W126 (Ne.symm ne110)
  have f132 := Fw119.other W126 (Or.inr (slot_ne (Or.inr (own_i hw 38 rfl)) (Or.inr (own_i hw 40 rfl)) (by decide) (t := .byte) (t' := (.array .byte)) (by decide) (by decide)))
  have pre133 : own_P p e below s₁ (entryFrame m #[(.ref a1), (.ref a2), (.int 0), (.int 3), .null] 6) T126 (mkF m 57 #[rv a1, rv a2, iv 0, iv 3, .val .null, rv b105] []) := fun t k => pre0 t (by
    show Steps p.tables e below (s₁.setTop (mkF m 0 #[rv a1, rv a2, iv 0, iv 3, .val .null, .unset] [])) t
    refine XS.aloadN X0.here hx rfl (hb hby d5_0) rfl rfl ?_
    refine st102 _ ?_
    refine XS.iloadN X102.here hx rfl (hb hby d5_4) rfl ?_
    refine XS.ifYes X102.here hx rfl (pc0 := 5) (pc' := 27) rfl (hb hby d5_5) rfl ((if0 _ _).trans (feq (by decide : ¬ ((3 : Int32) = (0 : Int32)))).2) (by decide) (by decide) ?_
    refine st103 _ ?_
    refine XS.ifNo X103.here hx rfl (hb hby d5_30) rfl ((if0 _ _).trans (feq hcs).1) ?_
    refine XS.aloadN X103.here hx rfl (hb hby d5_33) rfl rfl ?_
    refine XS.iloadN X103.here hx rfl (hb hby d5_34) rfl ?_
    refine XS.iloadN X103.here hx rfl (hb hby d5_35) rfl ?_
    refine st104 _ ?_
    refine XS.astore X104.here hx rfl (hb hby d5_39) rfl rfl (l' := #[rv a1, rv a2, iv 0, iv 3, .val .null, rv b105]) rfl ?_
    refine XS.aloadN X104.here hx rfl (hb hby d5_41) rfl rfl ?_
    refine XS.aload X104.here hx rfl (hb hby d5_42) rfl rfl ?_
    refine XS.iloadN X104.here hx rfl (hb hby d5_44) rfl ?_
    refine st118 _ ?_
    refine st119 _ ?_
    refine XS.aloadN X119.here hx rfl (hb hby d5_51) rfl rfl ?_
    refine XS.aload X119.here hx rfl (hb hby d5_52) rfl rfl ?_
    refine st126 _ ?_
    exact k)
  obtain ⟨fs, hr, hrun, hended, hW, hsame⟩ := X126.leave (v := none) (fun _ => rfl)
  refine ⟨_, _, pre133 _ ?_, hrun, hended, _, _, rfl, ?_, ⟨_, rfl⟩, hW, hsame.mono (by decide) (by decide)⟩
  · exact X126.returnOut hx Bd.returns (hb hby d5_57) hr
  · show QF_3 Z a1 a2 k2 cs x0 x1 x2 h0 n0 _ T126.heap _
    rw [e126]
    exact ⟨b105, x106, rfl, N126, f130, f128, f132, Fw126, f107, f108, f131⟩
theorem ef_rmG_3 (m : MethodId) (x0 : Addr) (x1 : Addr) : entryFrame m #[(.ref x0), (.ref x1)] 2 = mkF m 0 #[rv x0, rv x1] [] := by first | (simp [entryFrame, mkF, argsToLocals, Value.category]; done) | rfl
def QG_3 (Z : State) (a1 : Addr) (a2 : Addr) (k2 : ClassId) (cs : Int32) (x0 : Int32) (x1 : Int32) (x2 : Int32) (h0 : Heap) (n0 : Nat) (v : Option Value) (h : Heap) (L : List Loc) : Prop := ∃ (t : Addr) (kt : ClassId), v = none ∧ Fr n0 L ∧ Keep h0 h [a1] ∧ (Exa Z h a1 "java/lang/String") ∧ (Fld Z h a1 "java/lang/String" "coder" "B" (.int 0)) ∧ (Fld Z h a1 "java/lang/String" "value" "[B" (.ref t)) ∧ (n0 ≤ t) ∧ (h0.size ≤ t) ∧ (Arv Z h t kt .byte (3 : Int32) [(.int (nar .byte (x0.toInt8.toInt32))), (.int (nar .byte (x1.toInt8.toInt32))), (.int (nar .byte (x2.toInt8.toInt32)))] (.int 0))
set_option maxRecDepth 65536 in
set_option maxHeartbeats 40000000 in
theorem rmG_3 (l : Launch) (Z : State) (a0 : Array Value) (hw : ∀ d ∈ tables_1, d.before a0 Z = true) (ws : List Jvm.Cond) (a1 : Addr) (a2 : Addr) (k2 : ClassId) (cs : Int32) (x0 : Int32) (x1 : Int32) (x2 : Int32) (h0 : Heap) (n0 : Nat) (Z0 : n0 ≤ h0.size) (F1 : Fld Z h0 a1 "java/lang/String" "value" "[B" .null) (F2 : Fld Z h0 a1 "java/lang/String" "coder" "B" (.int 0)) (E1 : Exa Z h0 a1 "java/lang/String") (g1 : n0 ≤ a1) (V2 : Arv Z h0 a2 k2 .char (3 : Int32) [(.int x0), (.int x1), (.int x2)] (.int 0)) (SC : Sta Z h0 "java/lang/String" "COMPACT_STRINGS" "Z" (.int cs)) (hcs : ¬ (cs = (0 : Int32))) (ne : a1 ≠ a2) (hx0 : ¬ ((255 : Int32) < x0)) (hx1 : ¬ ((255 : Int32) < x1)) (hx2 : ¬ ((255 : Int32) < x2)) :
    own_M l own_y4 jdk_42_method_3_code 2 none ws (own_R 3 1 3 52) Z h0 #[(.ref a1), (.ref a2)] (QG_3 Z a1 a2 k2 cs x0 x1 x2 h0 n0) := by
  refine MetFree.of_bodySF (plainFor_of_name pn_java_lang_String) hisR ?_
  intro p e s m args below meth c s₁ Bd hml0 hP hK
  obtain ⟨rfl, hZ, hh⟩ := hP
  have hx := Bd.exec
  have hby := Bd.bytes
  have hml : c.maxLocals = 2 := hml0
  have hown : s.vm.findClass "java/lang/String" = some m.cls := findClass_of_methodNamed Bd.named
  have hnm := (name_of_methodNamed Bd.named Bd.method).1
  have X0 : Stand p l e (own_R 3 1 3 52) s m #[(.ref a1), (.ref a2)] below meth c s₁ [] 0 0 := Stand.of_body Bd
  have e0 : s₁.heap = h0 := by rw [← hh, Bd.state]; rfl
  have N0 := Fr.nil n0
  have pre0 : own_P p e below s₁ (entryFrame m #[(.ref a1), (.ref a2)] 2) s₁ (mkF m 0 #[rv a1, rv a2] []) := fun t k => castTop (ef_rmG_3 m a1 a2) k
  have f101 := Keep.refl h0 [a1]
  obtain ⟨cl102, Ar102, q102, S102, N102z, H102, G102⟩ := (id V2)
  obtain ⟨_, _, ⟨T103, L103, k103, n103⟩, -, X103, ⟨Lc103, hQ103, l103, y103, z103⟩, st103⟩ := X0.specialBack hx (y := own_y3) rfl hown (own_m hZ hw 18) (own_m hZ hw 19) (own_m hZ hw 21) (by decide) (backOf (W := 0) (rmF_3 l Z a0 hw [] a1 a2 k2 cs x0 x1 x2 h0 n0 Z0 F1 F2 E1 g1 V2 SC hcs ne hx0 hx1 hx2) hZ (own_i hw 21 rfl) (own_i hw 10 rfl) (by decide) (by decide)) (g := (mkF m 6 #[rv a1, rv a2] [.null, (.int 3), (.int 0), (.ref a2), (.ref a1)])) rfl (by rw [hml]; rfl) (Steps.refl _) (a := a1) (argsL := [(.ref a2), (.int 0), (.int 3), .null]) (rest := []) (lenOf pd_3 rfl) rfl (Nat.le_of_eq rfl) (hb hby d4_6) (fun _ _ => ⟨rfl, e0, (by decide : 0 + 1 ≤ _), (by decide : 0 + 3 ≤ _)⟩)
  dsimp only [Pt.U, Pt.locs, Pt.cells, Pt.slots] at X103 l103 y103 z103 st103 hQ103
  subst l103 y103 z103
  obtain ⟨b104, x105, rfl, N103q, K103, f106, f107, f108, f109, f110, f111⟩ := hQ103
  have N103 := Fr.app N0 N103q
  have ne112 : a1 ≠ b104 := Nat.ne_of_lt (Nat.lt_of_lt_of_le F1.lt f110)
  have ne113 : a2 ≠ b104 := Nat.ne_of_lt (Nat.lt_of_lt_of_le V2.lt f110)
  have f114 := Nat.le_trans Z0 K103.1
  have f115 := V2.keep K103 (ninS (Ne.symm ne) nin0)
  have f116 := f101.trans K103 (allS (Or.inl (List.mem_of_getElem? (i := 0) rfl)) all0)
  have pre117 : own_P p e below s₁ (entryFrame m #[(.ref a1), (.ref a2)] 2) T103 (mkF m 9 #[rv a1, rv a2] []) := fun t k => pre0 t (by
    show Steps p.tables e below (s₁.setTop (mkF m 0 #[rv a1, rv a2] [])) t
    refine XS.aloadN X0.here hx rfl (hb hby d4_0) rfl rfl ?_
    refine XS.aloadN X0.here hx rfl (hb hby d4_1) rfl rfl ?_
    refine XS.iconst X0.here hx rfl (hb hby d4_2) ?_
    refine XS.aloadN X0.here hx rfl (hb hby d4_3) rfl rfl ?_
    refine X0.arraylength hx (by rw [e0]; exact Ar102.1) (State.isArrayOf_alike hZ.alike Ar102.2.1) (g := (mkF m 4 #[rv a1, rv a2] [(.ref a2), (.int 0), (.ref a2), (.ref a1)])) rfl rfl (hb hby d4_4) _ ?_
    rw [len_of S102 N102z]
    refine XS.aconstNull X0.here hx rfl (hb hby d4_5) ?_
    refine st103.trans ?_
    exact k)
  obtain ⟨fs, hr, hrun, hended, hW, hsame⟩ := X103.leave (v := none) (fun _ => rfl)
  refine ⟨_, _, pre117 _ ?_, hrun, hended, _, _, rfl, ?_, ⟨_, rfl⟩, hW, hsame.mono (by decide) (by decide)⟩
  · exact X103.returnOut hx Bd.returns (hb hby d4_9) hr
  · show QG_3 Z a1 a2 k2 cs x0 x1 x2 h0 n0 _ T103.heap _
    exact ⟨b104, x105, rfl, N103, f116, f106, f107, f108, f109, f110, f111⟩
theorem ef_rmC_4 (m : MethodId) (x0 : Addr) (x2 : Addr) : entryFrame m #[(.ref x0), (.int 0), (.ref x2), (.int 0), (.int 4)] 7 = mkF m 0 #[rv x0, iv 0, rv x2, iv 0, iv 4, .unset, .unset] [] := by first | (simp [entryFrame, mkF, argsToLocals, Value.category]; done) | rfl
def QC_4 (Z : State) (a1 : Addr) (a3 : Addr) (k1 : ClassId) (k3 : ClassId) (x0 : Int32) (x1 : Int32) (x2 : Int32) (x3 : Int32) (h0 : Heap) (n0 : Nat) (v : Option Value) (h : Heap) (L : List Loc) : Prop := v = some (.int 4) ∧ Fr n0 L ∧ Keep h0 h [a3] ∧ (Arv Z h a3 k3 .byte (4 : Int32) [(.int (nar .byte (x0.toInt8.toInt32))), (.int (nar .byte (x1.toInt8.toInt32))), (.int (nar .byte (x2.toInt8.toInt32))), (.int (nar .byte (x3.toInt8.toInt32)))] (.int 0))
set_option maxRecDepth 65536 in
set_option maxHeartbeats 40000000 in
theorem rmC_4 (l : Launch) (Z : State) (a0 : Array Value) (hw : ∀ d ∈ tables_1, d.before a0 Z = true) (ws : List Jvm.Cond) (a1 : Addr) (a3 : Addr) (k1 : ClassId) (k3 : ClassId) (x0 : Int32) (x1 : Int32) (x2 : Int32) (x3 : Int32) (h0 : Heap) (n0 : Nat) (Z0 : n0 ≤ h0.size) (V1 : Arv Z h0 a1 k1 .char (4 : Int32) [(.int x0), (.int x1), (.int x2), (.int x3)] (.int 0)) (V3 : Arv Z h0 a3 k3 .byte (4 : Int32) [(.int 0), (.int 0), (.int 0), (.int 0)] (.int 0)) (g3 : n0 ≤ a3) (ne : a1 ≠ a3) (hx0 : ¬ ((255 : Int32) < x0)) (hx1 : ¬ ((255 : Int32) < x1)) (hx2 : ¬ ((255 : Int32) < x2)) (hx3 : ¬ ((255 : Int32) < x3)) :
    own_M l own_y0 jdk_52_method_21_code 7 (some .int) ws (own_R 0 0 0 0) Z h0 #[(.ref a1), (.int 0), (.ref a3), (.int 0), (.int 4)] (QC_4 Z a1 a3 k1 k3 x0 x1 x2 x3 h0 n0) := by
  refine MetFree.of_bodySF (plainFor_of_name pn_java_lang_StringUTF16) hisR ?_
  intro p e s m args below meth c s₁ Bd hml0 hP hK
  obtain ⟨rfl, hZ, hh⟩ := hP
  have hx := Bd.exec
  have hby := Bd.bytes
  have hml : c.maxLocals = 7 := hml0
  have hown : s.vm.findClass "java/lang/StringUTF16" = some m.cls := findClass_of_methodNamed Bd.named
  have hnm := (name_of_methodNamed Bd.named Bd.method).1
  have X0 : Stand p l e (own_R 0 0 0 0) s m #[(.ref a1), (.int 0), (.ref a3), (.int 0), (.int 4)] below meth c s₁ [] 0 0 := Stand.of_body Bd
  have e0 : s₁.heap = h0 := by rw [← hh, Bd.state]; rfl
  have N0 := Fr.nil n0
  have pre0 : own_P p e below s₁ (entryFrame m #[(.ref a1), (.int 0), (.ref a3), (.int 0), (.int 4)] 7) s₁ (mkF m 0 #[rv a1, iv 0, rv a3, iv 0, iv 4, .unset, .unset] []) := fun t k => castTop (ef_rmC_4 m a1 a3) k
  have f101 := Keep.refl h0 [a3]
  obtain ⟨cl102, Ar102, q102, S102, N102z, H102, G102⟩ := (id V1)
  have hin102 : ¬ ((0 : Int32) < 0 ∨ cl102.slots.size ≤ ((0 : Int32)).toNatClampNeg) := inb_of S102 ⟨by decide, by decide⟩
  have hat102 : cl102.slots[((0 : Int32)).toNatClampNeg]? = some (.int x0) := Has.at H102 hin102 rfl
  obtain ⟨cl103, Ar103, q103, S103, N103z, H103, G103⟩ := (id V3)
  have hin103 : ¬ ((0 : Int32) < 0 ∨ cl103.slots.size ≤ ((0 : Int32)).toNatClampNeg) := inb_of S103 ⟨by decide, by decide⟩
  obtain ⟨T103, h103, X103, e103, W103, st103⟩ := stB X0 hx hZ e0 Ar103 (j := (0 : Int32)) hin103 (g := (mkF m 31 #[rv a1, iv 0, rv a3, iv 0, iv 4, iv 0, iv x0] [(.int (x0.toInt8.toInt32)), (.int 0), (.ref a3)])) rfl rfl (hb hby d8_31)
  have V103 : Arv Z h103 a3 k3 .byte (4 : Int32) [(.int (nar .byte (x0.toInt8.toInt32))), (.int 0), (.int 0), (.int 0)] (.int 0) := Arv.set Ar103 q103 S103 N103z H103 G103 (fits_nar_byte _) W103 0 rfl (Nat.le_of_ble_eq_true rfl)
  have N103 := Fr.snoc X103 N0 g3
  have f104 := Nat.le_trans Z0 (Keep.of_wr W103).1
  have f105 := V1.other W103 ne
  have f106 := f101.wr W103 (Or.inl (List.mem_of_getElem? (i := 0) rfl))
  obtain ⟨cl107, Ar107, q107, S107, N107z, H107, G107⟩ := (id f105)
  have hin107 : ¬ ((1 : Int32) < 0 ∨ cl107.slots.size ≤ ((1 : Int32)).toNatClampNeg) := inb_of S107 ⟨by decide, by decide⟩
  have hat107 : cl107.slots[((1 : Int32)).toNatClampNeg]? = some (.int x1) := Has.at H107 hin107 rfl
  obtain ⟨cl108, Ar108, q108, S108, N108z, H108, G108⟩ := (id V103)
  have hin108 : ¬ ((1 : Int32) < 0 ∨ cl108.slots.size ≤ ((1 : Int32)).toNatClampNeg) := inb_of S108 ⟨by decide, by decide⟩
  obtain ⟨T108, h108, X108, e108, W108, st108⟩ := stB X103 hx hZ e103 Ar108 (j := (1 : Int32)) hin108 (g := (mkF m 31 #[rv a1, iv 1, rv a3, iv 1, iv 4, iv 1, iv x1] [(.int (x1.toInt8.toInt32)), (.int 1), (.ref a3)])) rfl rfl (hb hby d8_31)
  have V108 : Arv Z h108 a3 k3 .byte (4 : Int32) [(.int (nar .byte (x0.toInt8.toInt32))), (.int (nar .byte (x1.toInt8.toInt32))), (.int 0), (.int 0)] (.int 0) := Arv.set Ar108 q108 S108 N108z H108 G108 (fits_nar_byte _) W108 1 rfl (Nat.le_of_ble_eq_true rfl)
  have N108 := Fr.snoc X108 N103 g3
  have f109 := Nat.le_trans f104 (Keep.of_wr W108).1
  have f110 := f105.other W108 ne
  have f111 := f106.wr W108 (Or.inl (List.mem_of_getElem? (i := 0) rfl))
  obtain ⟨cl112, Ar112, q112, S112, N112z, H112, G112⟩ := (id f110)
  have hin112 : ¬ ((2 : Int32) < 0 ∨ cl112.slots.size ≤ ((2 : Int32)).toNatClampNeg) := inb_of S112 ⟨by decide, by decide⟩
  have hat112 : cl112.slots[((2 : Int32)).toNatClampNeg]? = some (.int x2) := Has.at H112 hin112 rfl
  obtain ⟨cl113, Ar113, q113, S113, N113z, H113, G113⟩ := (id V108)
  have hin113 : ¬ ((2 : Int32) < 0 ∨ cl113.slots.size ≤ ((2 : Int32)).toNatClampNeg) := inb_of S113 ⟨by decide, by decide⟩
  obtain ⟨T113, h113, X113, e113, W113, st113⟩ := stB X108 hx hZ e108 Ar113 (j := (2 : Int32)) hin113 (g := (mkF m 31 #[rv a1, iv 2, rv a3, iv 2, iv 4, iv 2, iv x2] [(.int (x2.toInt8.toInt32)), (.int 2), (.ref a3)])) rfl rfl (hb hby d8_31)
  have V113 : Arv Z h113 a3 k3 .byte (4 : Int32) [(.int (nar .byte (x0.toInt8.toInt32))), (.int (nar .byte (x1.toInt8.toInt32))), (.int (nar .byte (x2.toInt8.toInt32))), (.int 0)] (.int 0) := Arv.set Ar113 q113 S113 N113z H113 G113 (fits_nar_byte _) W113 2 rfl (Nat.le_of_ble_eq_true rfl)
  have N113 := Fr.snoc X113 N108 g3
  have f114 := Nat.le_trans f109 (Keep.of_wr W113).1
  have f115 := f110.other W113 ne
  have f116 := f111.wr W113 (Or.inl (List.mem_of_getElem? (i := 0) rfl))
  obtain ⟨cl117, Ar117, q117, S117, N117z, H117, G117⟩ := (id f115)
  have hin117 : ¬ ((3 : Int32) < 0 ∨ cl117.slots.size ≤ ((3 : Int32)).toNatClampNeg) := inb_of S117 ⟨by decide, by decide⟩
  have hat117 : cl117.slots[((3 : Int32)).toNatClampNeg]? = some (.int x3) := Has.at H117 hin117 rfl
  obtain ⟨cl118, Ar118, q118, S118, N118z, H118, G118⟩ := (id V113)
  have hin118 : ¬ ((3 : Int32) < 0 ∨ cl118.slots.size ≤ ((3 : Int32)).toNatClampNeg) := inb_of S118 ⟨by decide, by decide⟩
  obtain ⟨T118, h118, X118, e118, W118, st118⟩ := stB X113 hx hZ e113 Ar118 (j := (3 : Int32)) hin118 (g := (mkF m 31 #[rv a1, iv 3, rv a3, iv 3, iv 4, iv 3, iv x3] [(.int (x3.toInt8.toInt32)), (.int 3), (.ref a3)])) rfl rfl (hb hby d8_31)
  have V118 : Arv Z h118 a3 k3 .byte (4 : Int32) [(.int (nar .byte (x0.toInt8.toInt32))), (.int (nar .byte (x1.toInt8.toInt32))), (.int (nar .byte (x2.toInt8.toInt32))), (.int (nar .byte (x3.toInt8.toInt32)))] (.int 0) := Arv.set Ar118 q118 S118 N118z H118 G118 (fits_nar_byte _) W118 3 rfl (Nat.le_of_ble_eq_true rfl)
  have N118 := Fr.snoc X118 N113 g3
  have f119 := Nat.le_trans f114 (Keep.of_wr W118).1
  have f120 := f115.other W118 ne
  have f121 := f116.wr W118 (Or.inl (List.mem_of_getElem? (i := 0) rfl))
  have pre122 : own_P p e below s₁ (entryFrame m #[(.ref a1), (.int 0), (.ref a3), (.int 0), (.int 4)] 7) T118 (mkF m 46 #[rv a1, iv 4, rv a3, iv 4, iv 4, iv 4, iv x3] [(.int 4)]) := fun t k => pre0 t (by
    show Steps p.tables e below (s₁.setTop (mkF m 0 #[rv a1, iv 0, rv a3, iv 0, iv 4, .unset, .unset] [])) t
    refine XS.iconst X0.here hx rfl (hb hby d8_0) ?_
    refine XS.istore X0.here hx rfl (hb hby d8_1) rfl (l' := #[rv a1, iv 0, rv a3, iv 0, iv 4, iv 0, .unset]) rfl ?_
    refine XS.iload X0.here hx rfl (hb hby d8_3) rfl ?_
    refine XS.iload X0.here hx rfl (hb hby d8_5) rfl ?_
    refine XS.icmpNo X0.here hx rfl (hb hby d8_7) rfl (tlt (by decide : (0 : Int32) < (4 : Int32))).2.1 ?_
    refine XS.aloadN X0.here hx rfl (hb hby d8_10) rfl rfl ?_
    refine XS.iloadN X0.here hx rfl (hb hby d8_11) rfl ?_
    refine X0.caload hx (j := (0 : Int32)) (v := (.int x0)) (by rw [e0]; exact Ar102.1) (State.isArrayOf_alike hZ.alike Ar102.2.1) Ar102.2.2 hin102 hat102 (g := (mkF m 12 #[rv a1, iv 0, rv a3, iv 0, iv 4, iv 0, .unset] [(.int 0), (.ref a1)])) rfl rfl (hb hby d8_12) _ ?_
    refine XS.istore X0.here hx rfl (hb hby d8_13) rfl (l' := #[rv a1, iv 0, rv a3, iv 0, iv 4, iv 0, iv x0]) rfl ?_
    refine XS.iload X0.here hx rfl (hb hby d8_15) rfl ?_
    refine XS.sipush X0.here hx rfl (hb hby d8_17) ?_
    refine XS.icmpYes X0.here hx rfl (pc0 := 20) (pc' := 26) rfl (hb hby d8_20) rfl (flt hx0).2.2.2 (by decide) (by decide) ?_
    refine XS.aloadN X0.here hx rfl (hb hby d8_26) rfl rfl ?_
    refine XS.iloadN X0.here hx rfl (hb hby d8_27) rfl ?_
    refine XS.iload X0.here hx rfl (hb hby d8_28) rfl ?_
    refine XS.i2b X0.here hx rfl (hb hby d8_30) rfl ?_
    refine st103 _ ?_
    refine XS.iinc X103.here hx rfl (hb hby d8_32) rfl (l' := #[rv a1, iv 1, rv a3, iv 0, iv 4, iv 0, iv x0]) rfl ?_
    refine XS.iinc X103.here hx rfl (hb hby d8_35) rfl (l' := #[rv a1, iv 1, rv a3, iv 1, iv 4, iv 0, iv x0]) rfl ?_
    refine XS.iinc X103.here hx rfl (hb hby d8_38) rfl (l' := #[rv a1, iv 1, rv a3, iv 1, iv 4, iv 1, iv x0]) rfl ?_
    refine XS.goto X103.here hx rfl (pc0 := 41) (pc' := 3) rfl (hb hby d8_41) (by decide) (by decide) ?_
    refine XS.iload X103.here hx rfl (hb hby d8_3) rfl ?_
    refine XS.iload X103.here hx rfl (hb hby d8_5) rfl ?_
    refine XS.icmpNo X103.here hx rfl (hb hby d8_7) rfl (tlt (by decide : (1 : Int32) < (4 : Int32))).2.1 ?_
    refine XS.aloadN X103.here hx rfl (hb hby d8_10) rfl rfl ?_
    show Steps p.tables e below (T103.setTop (mkF m 11 #[rv a1, iv 1, rv a3, iv 1, iv 4, iv 1, iv x0] [(.ref a1)])) t
    refine XS.iloadN X103.here hx rfl (hb hby d8_11) rfl ?_
    refine X103.caload hx (j := (1 : Int32)) (v := (.int x1)) (by rw [e103]; exact Ar107.1) (State.isArrayOf_alike hZ.alike Ar107.2.1) Ar107.2.2 hin107 hat107 (g := (mkF m 12 #[rv a1, iv 1, rv a3, iv 1, iv 4, iv 1, iv x0] [(.int 1), (.ref a1)])) rfl rfl (hb hby d8_12) _ ?_
    refine XS.istore X103.here hx rfl (hb hby d8_13) rfl (l' := #[rv a1, iv 1, rv a3, iv 1, iv 4, iv 1, iv x1]) rfl ?_
    refine XS.iload X103.here hx rfl (hb hby d8_15) rfl ?_
    refine XS.sipush X103.here hx rfl (hb hby d8_17) ?_
    refine XS.icmpYes X103.here hx rfl (pc0 := 20) (pc' := 26) rfl (hb hby d8_20) rfl (flt hx1).2.2.2 (by decide) (by decide) ?_
    refine XS.aloadN X103.here hx rfl (hb hby d8_26) rfl rfl ?_
    refine XS.iloadN X103.here hx rfl (hb hby d8_27) rfl ?_
    refine XS.iload X103.here hx rfl (hb hby d8_28) rfl ?_
    refine XS.i2b X103.here hx rfl (hb hby d8_30) rfl ?_
    refine st108 _ ?_
    refine XS.iinc X108.here hx rfl (hb hby d8_32) rfl (l' := #[rv a1, iv 2, rv a3, iv 1, iv 4, iv 1, iv x1]) rfl ?_
    refine XS.iinc X108.here hx rfl (hb hby d8_35) rfl (l' := #[rv a1, iv 2, rv a3, iv 2, iv 4, iv 1, iv x1]) rfl ?_
    refine XS.iinc X108.here hx rfl (hb hby d8_38) rfl (l' := #[rv a1, iv 2, rv a3, iv 2, iv 4, iv 2, iv x1]) rfl ?_
    refine XS.goto X108.here hx rfl (pc0 := 41) (pc' := 3) rfl (hb hby d8_41) (by decide) (by decide) ?_
    refine XS.iload X108.here hx rfl (hb hby d8_3) rfl ?_
    refine XS.iload X108.here hx rfl (hb hby d8_5) rfl ?_
    refine XS.icmpNo X108.here hx rfl (hb hby d8_7) rfl (tlt (by decide : (2 : Int32) < (4 : Int32))).2.1 ?_
    refine XS.aloadN X108.here hx rfl (hb hby d8_10) rfl rfl ?_
    refine XS.iloadN X108.here hx rfl (hb hby d8_11) rfl ?_
    refine X108.caload hx (j := (2 : Int32)) (v := (.int x2)) (by rw [e108]; exact Ar112.1) (State.isArrayOf_alike hZ.alike Ar112.2.1) Ar112.2.2 hin112 hat112 (g := (mkF m 12 #[rv a1, iv 2, rv a3, iv 2, iv 4, iv 2, iv x1] [(.int 2), (.ref a1)])) rfl rfl (hb hby d8_12) _ ?_
    refine XS.istore X108.here hx rfl (hb hby d8_13) rfl (l' := #[rv a1, iv 2, rv a3, iv 2, iv 4, iv 2, iv x2]) rfl ?_
    refine XS.iload X108.here hx rfl (hb hby d8_15) rfl ?_
    refine XS.sipush X108.here hx rfl (hb hby d8_17) ?_
    refine XS.icmpYes X108.here hx rfl (pc0 := 20) (pc' := 26) rfl (hb hby d8_20) rfl (flt hx2).2.2.2 (by decide) (by decide) ?_
    show Steps p.tables e below (T108.setTop (mkF m 26 #[rv a1, iv 2, rv a3, iv 2, iv 4, iv 2, iv x2] [])) t
    refine XS.aloadN X108.here hx rfl (hb hby d8_26) rfl rfl ?_
    refine XS.iloadN X108.here hx rfl (hb hby d8_27) rfl ?_
    refine XS.iload X108.here hx rfl (hb hby d8_28) rfl ?_
    refine XS.i2b X108.here hx rfl (hb hby d8_30) rfl ?_
    refine st113 _ ?_
    refine XS.iinc X113.here hx rfl (hb hby d8_32) rfl (l' := #[rv a1, iv 3, rv a3, iv 2, iv 4, iv 2, iv x2]) rfl ?_
    refine XS.iinc X113.here hx rfl (hb hby d8_35) rfl (l' := #[rv a1, iv 3, rv a3, iv 3, iv 4, iv 2, iv x2]) rfl ?_
    refine XS.iinc X113.here hx rfl (hb hby d8_38) rfl (l' := #[rv a1, iv 3, rv a3, iv 3, iv 4, iv 3, iv x2]) rfl ?_
    refine XS.goto X113.here hx rfl (pc0 := 41) (pc' := 3) rfl (hb hby d8_41) (by decide) (by decide) ?_
    refine XS.iload X113.here hx rfl (hb hby d8_3) rfl ?_
    refine XS.iload X113.here hx rfl (hb hby d8_5) rfl ?_
    refine XS.icmpNo X113.here hx rfl (hb hby d8_7) rfl (tlt (by decide : (3 : Int32) < (4 : Int32))).2.1 ?_
    refine XS.aloadN X113.here hx rfl (hb hby d8_10) rfl rfl ?_
    refine XS.iloadN X113.here hx rfl (hb hby d8_11) rfl ?_
    refine X113.caload hx (j := (3 : Int32)) (v := (.int x3)) (by rw [e113]; exact Ar117.1) (State.isArrayOf_alike hZ.alike Ar117.2.1) Ar117.2.2 hin117 hat117 (g := (mkF m 12 #[rv a1, iv 3, rv a3, iv 3, iv 4, iv 3, iv x2] [(.int 3), (.ref a1)])) rfl rfl (hb hby d8_12) _ ?_
    refine XS.istore X113.here hx rfl (hb hby d8_13) rfl (l' := #[rv a1, iv 3, rv a3, iv 3, iv 4, iv 3, iv x3]) rfl ?_
    refine XS.iload X113.here hx rfl (hb hby d8_15) rfl ?_
    refine XS.sipush X113.here hx rfl (hb hby d8_17) ?_
    refine XS.icmpYes X113.here hx rfl (pc0 := 20) (pc' := 26) rfl (hb hby d8_20) rfl (flt hx3).2.2.2 (by decide) (by decide) ?_
    refine XS.aloadN X113.here hx rfl (hb hby d8_26) rfl rfl ?_
    refine XS.iloadN X113.here hx rfl (hb hby d8_27) rfl ?_
    refine XS.iload X113.here hx rfl (hb hby d8_28) rfl ?_
    refine XS.i2b X113.here hx rfl (hb hby d8_30) rfl ?_
    refine st118 _ ?_
    refine XS.iinc X118.here hx rfl (hb hby d8_32) rfl (l' := #[rv a1, iv 4, rv a3, iv 3, iv 4, iv 3, iv x3]) rfl ?_
    show Steps p.tables e below (T118.setTop (mkF m 35 #[rv a1, iv 4, rv a3, iv 3, iv 4, iv 3, iv x3] [])) t
    refine XS.iinc X118.here hx rfl (hb hby d8_35) rfl (l' := #[rv a1, iv 4, rv a3, iv 4, iv 4, iv 3, iv x3]) rfl ?_
    refine XS.iinc X118.here hx rfl (hb hby d8_38) rfl (l' := #[rv a1, iv 4, rv a3, iv 4, iv 4, iv 4, iv x3]) rfl ?_
    refine XS.goto X118.here hx rfl (pc0 := 41) (pc' := 3) rfl (hb hby d8_41) (by decide) (by decide) ?_
    refine XS.iload X118.here hx rfl (hb hby d8_3) rfl ?_
    refine XS.iload X118.here hx rfl (hb hby d8_5) rfl ?_
    refine XS.icmpYes X118.here hx rfl (pc0 := 7) (pc' := 44) rfl (hb hby d8_7) rfl (flt (by decide : ¬ ((4 : Int32) < (4 : Int32)))).2.1 (by decide) (by decide) ?_
    refine XS.iload X118.here hx rfl (hb hby d8_44) rfl ?_
    exact k)
  obtain ⟨fs, hr, hrun, hended, hW, hsame⟩ := X118.leave (v := some (.int 4)) (fun h => by rw [Bd.returns] at h; cases h)
  refine ⟨_, _, pre122 _ ?_, hrun, hended, _, _, rfl, ?_, ⟨_, rfl⟩, hW, hsame.mono (by decide) (by decide)⟩
  · exact retI X118 hx Bd.returns (hb hby d8_46) hr
  · show QC_4 Z a1 a3 k1 k3 x0 x1 x2 x3 h0 n0 _ T118.heap _
    rw [e118]
    exact ⟨rfl, N118, f121, V118⟩
theorem ef_rmD_4 (m : MethodId) (x0 : Addr) : entryFrame m #[(.ref x0), (.int 0), (.int 4)] 6 = mkF m 0 #[rv x0, iv 0, iv 4, .unset, .unset, .unset] [] := by first | (simp [entryFrame, mkF, argsToLocals, Value.category]; done) | rfl
def QD_4 (Z : State) (a1 : Addr) (k1 : ClassId) (x0 : Int32) (x1 : Int32) (x2 : Int32) (x3 : Int32) (h0 : Heap) (n0 : Nat) (v : Option Value) (h : Heap) (L : List Loc) : Prop := ∃ (b : Addr) (kb : ClassId), v = some (.ref b) ∧ Fr n0 L ∧ Keep h0 h [] ∧ (n0 ≤ b) ∧ (h0.size ≤ b) ∧ (Arv Z h b kb .byte (4 : Int32) [(.int (nar .byte (x0.toInt8.toInt32))), (.int (nar .byte (x1.toInt8.toInt32))), (.int (nar .byte (x2.toInt8.toInt32))), (.int (nar .byte (x3.toInt8.toInt32)))] (.int 0))
set_option maxRecDepth 65536 in
set_option maxHeartbeats 40000000 in
theorem rmD_4 (l : Launch) (Z : State) (a0 : Array Value) (hw : ∀ d ∈ tables_1, d.before a0 Z = true) (ws : List Jvm.Cond) (a1 : Addr) (k1 : ClassId) (x0 : Int32) (x1 : Int32) (x2 : Int32) (x3 : Int32) (h0 : Heap) (n0 : Nat) (Z0 : n0 ≤ h0.size) (V1 : Arv Z h0 a1 k1 .char (4 : Int32) [(.int x0), (.int x1), (.int x2), (.int x3)] (.int 0)) (hx0 : ¬ ((255 : Int32) < x0)) (hx1 : ¬ ((255 : Int32) < x1)) (hx2 : ¬ ((255 : Int32) < x2)) (hx3 : ¬ ((255 : Int32) < x3)) :
    own_M l own_y1 jdk_52_method_16_code 6 (some (.array .byte)) ws (own_R 1 1 4 18) Z h0 #[(.ref a1), (.int 0), (.int 4)] (QD_4 Z a1 k1 x0 x1 x2 x3 h0 n0) := by
  refine MetFree.of_bodySF (plainFor_of_name pn_java_lang_StringUTF16) hisR ?_
  intro p e s m args below meth c s₁ Bd hml0 hP hK
  obtain ⟨rfl, hZ, hh⟩ := hP
  have hx := Bd.exec
  have hby := Bd.bytes
  have hml : c.maxLocals = 6 := hml0
  have hown : s.vm.findClass "java/lang/StringUTF16" = some m.cls := findClass_of_methodNamed Bd.named
  have hnm := (name_of_methodNamed Bd.named Bd.method).1
  have X0 : Stand p l e (own_R 1 1 4 18) s m #[(.ref a1), (.int 0), (.int 4)] below meth c s₁ [] 0 0 := Stand.of_body Bd
  have e0 : s₁.heap = h0 := by rw [← hh, Bd.state]; rfl
  have N0 := Fr.nil n0
  have pre0 : own_P p e below s₁ (entryFrame m #[(.ref a1), (.int 0), (.int 4)] 6) s₁ (mkF m 0 #[rv a1, iv 0, iv 4, .unset, .unset, .unset] []) := fun t k => castTop (ef_rmD_4 m a1) k
  have f101 := Keep.refl h0 []
  obtain ⟨T102, h102, k102, X102, e102, E102, A102, st102⟩ := newP X0 hx hZ (own_i hw 30 rfl) e0 (g := (mkF m 1 #[rv a1, iv 0, iv 4, .unset, .unset, .unset] [(.int 4)])) rfl (hb hby d7_1) rfl (by decide) (cap := 4) (by decide) (by decide) (by decide) (by decide)
  obtain ⟨b102, g102⟩ : ∃ z, z = h0.size := ⟨_, rfl⟩
  rw [← g102] at A102 st102
  have ne103 : a1 ≠ b102 := Nat.ne_of_lt (Nat.lt_of_lt_of_le V1.lt (Nat.le_of_eq g102.symm))
  have ga104 : n0 ≤ b102 := Nat.le_trans Z0 (Nat.le_of_eq g102.symm)
  have sz105 : h0.size ≤ b102 := Nat.le_trans f101.1 (Nat.le_of_eq g102.symm)
  have V102 : Arv Z h102 b102 k102 .byte (4 : Int32) [(.int 0), (.int 0), (.int 0), (.int 0)] (.int 0) := (Arv.new A102 (by decide)).pad (pad_rep [] (.int 0) 4)
  have f106 := Nat.le_trans Z0 E102.1
  have f107 := V1.ext E102
  have f108 := f101.ext E102
  obtain ⟨_, _, ⟨T109, L109, k109, n109⟩, -, X109, ⟨Lc109, hQ109, l109, y109, z109⟩, st109⟩ := Jvm.LawKit.callS X102 hx (y := own_y0) hown (own_m hZ hw 31) (own_m hZ hw 32) (own_m hZ hw 28) (own_m hZ hw 33) (by decide) (backOf (W := 0) (rmC_4 l Z a0 hw [] a1 b102 k1 k102 x0 x1 x2 x3 h102 n0 f106 f107 V102 ga104 ne103 hx0 hx1 hx2 hx3) hZ (own_i hw 33 rfl) (own_i hw 28 rfl) (by decide) (by decide)) (g := (mkF m 9 #[rv a1, iv 0, iv 4, rv b102, .unset, .unset] [(.int 4), (.int 0), (.ref b102), (.int 0), (.ref a1)])) rfl (by rw [hml]; rfl) (argsL := [(.ref a1), (.int 0), (.ref b102), (.int 0), (.int 4)]) (rest := []) (lenOf pd_0 rfl) rfl (Nat.le_of_eq rfl) (hb hby d7_9) (fun _ _ => ⟨rfl, e102, (by decide : 1 + 0 ≤ _), (by decide : 4 + 0 ≤ _)⟩)
  dsimp only [Pt.U, Pt.locs, Pt.cells, Pt.slots] at X109 l109 y109 z109 st109 hQ109
  subst l109 y109 z109
  obtain ⟨rfl, N109q, K109, f110⟩ := hQ109
  have N109 := Fr.app N0 N109q
  have f111 := Nat.le_trans f106 K109.1
  have f112 := f107.keep K109 (ninS ne103 nin0)
  have f113 := f108.trans K109 (allS (Or.inr sz105) all0)
  have pre114 : own_P p e below s₁ (entryFrame m #[(.ref a1), (.int 0), (.int 4)] 6) T109 (mkF m 58 #[rv a1, iv 0, iv 4, rv b102, iv 4, .unset] [(.ref b102)]) := fun t k => pre0 t (by
    show Steps p.tables e below (s₁.setTop (mkF m 0 #[rv a1, iv 0, iv 4, .unset, .unset, .unset] [])) t
    refine XS.iloadN X0.here hx rfl (hb hby d7_0) rfl ?_
    refine st102 _ ?_
    refine XS.astoreN X102.here hx rfl (hb hby d7_3) rfl rfl (l' := #[rv a1, iv 0, iv 4, rv b102, .unset, .unset]) rfl ?_
    refine XS.aloadN X102.here hx rfl (hb hby d7_4) rfl rfl ?_
    refine XS.iloadN X102.here hx rfl (hb hby d7_5) rfl ?_
    refine XS.aloadN X102.here hx rfl (hb hby d7_6) rfl rfl ?_
    refine XS.iconst X102.here hx rfl (hb hby d7_7) ?_
    refine XS.iloadN X102.here hx rfl (hb hby d7_8) rfl ?_
    refine st109 _ ?_
    refine XS.istore X109.here hx rfl (hb hby d7_12) rfl (l' := #[rv a1, iv 0, iv 4, rv b102, iv 4, .unset]) rfl ?_
    refine XS.iload X109.here hx rfl (hb hby d7_14) rfl ?_
    refine XS.iloadN X109.here hx rfl (hb hby d7_16) rfl ?_
    refine XS.icmpYes X109.here hx rfl (pc0 := 17) (pc' := 57) rfl (hb hby d7_17) rfl (teq (by decide : (4 : Int32) = (4 : Int32))).1 (by decide) (by decide) ?_
    refine XS.aloadN X109.here hx rfl (hb hby d7_57) rfl rfl ?_
    exact k)
  obtain ⟨fs, hr, hrun, hended, hW, hsame⟩ := X109.leave (v := some (.ref b102)) (fun h => by rw [Bd.returns] at h; cases h)
  refine ⟨_, _, pre114 _ ?_, hrun, hended, _, _, rfl, ?_, ⟨_, rfl⟩, hW, hsame.mono (by decide) (by decide)⟩
  · exact retOut X109 hx Bd.returns rfl (Or.inr (Or.inr (Or.inr (Or.inr ⟨rfl, rfl, rfl⟩)))) (hb hby d7_58) hr
  · show QD_4 Z a1 k1 x0 x1 x2 x3 h0 n0 _ T109.heap _
    exact ⟨b102, k102, rfl, N109, f113, ga104, sz105, f110⟩
theorem ef_rmE_4 (m : MethodId) (x0 : Addr) : entryFrame m #[(.ref x0), (.int 4)] 2 = mkF m 0 #[rv x0, iv 4] [] := by first | (simp [entryFrame, mkF, argsToLocals, Value.category]; done) | rfl
def QE_4 (Z : State) (a1 : Addr) (k1 : ClassId) (x0 : Int32) (x1 : Int32) (x2 : Int32) (x3 : Int32) (h0 : Heap) (n0 : Nat) (v : Option Value) (h : Heap) (L : List Loc) : Prop := v = some (.int 0) ∧ Fr n0 L ∧ h = h0
set_option maxRecDepth 65536 in
set_option maxHeartbeats 40000000 in
theorem rmE_4 (l : Launch) (Z : State) (a0 : Array Value) (hw : ∀ d ∈ tables_1, d.before a0 Z = true) (ws : List Jvm.Cond) (a1 : Addr) (k1 : ClassId) (x0 : Int32) (x1 : Int32) (x2 : Int32) (x3 : Int32) (h0 : Heap) (n0 : Nat) (Z0 : n0 ≤ h0.size) (V1 : Arv Z h0 a1 k1 .byte (4 : Int32) [(.int (nar .byte (x0.toInt8.toInt32))), (.int (nar .byte (x1.toInt8.toInt32))), (.int (nar .byte (x2.toInt8.toInt32))), (.int (nar .byte (x3.toInt8.toInt32)))] (.int 0)) :
    own_M l own_y2 jdk_52_method_15_code 2 (some .byte) ws (own_R 0 0 0 0) Z h0 #[(.ref a1), (.int 4)] (QE_4 Z a1 k1 x0 x1 x2 x3 h0 n0) := by
  refine MetFree.of_bodySF (plainFor_of_name pn_java_lang_StringUTF16) hisR ?_
  intro p e s m args below meth c s₁ Bd hml0 hP hK
  obtain ⟨rfl, hZ, hh⟩ := hP
  have hx := Bd.exec
  have hby := Bd.bytes
  have hml : c.maxLocals = 2 := hml0
  have hown : s.vm.findClass "java/lang/StringUTF16" = some m.cls := findClass_of_methodNamed Bd.named
  have hnm := (name_of_methodNamed Bd.named Bd.method).1
  have X0 : Stand p l e (own_R 0 0 0 0) s m #[(.ref a1), (.int 4)] below meth c s₁ [] 0 0 := Stand.of_body Bd
  have e0 : s₁.heap = h0 := by rw [← hh, Bd.state]; rfl
  have N0 := Fr.nil n0
  have pre0 : own_P p e below s₁ (entryFrame m #[(.ref a1), (.int 4)] 2) s₁ (mkF m 0 #[rv a1, iv 4] []) := fun t k => castTop (ef_rmE_4 m a1) k
  obtain ⟨cl101, Ar101, q101, S101, N101z, H101, G101⟩ := (id V1)
  have pre102 : own_P p e below s₁ (entryFrame m #[(.ref a1), (.int 4)] 2) s₁ (mkF m 8 #[rv a1, iv 4] [(.int ((((0 : Int32).toUInt32 >>> ((31 : Int32) &&& 31).toUInt32).toInt32).toInt8.toInt32))]) := fun t k => pre0 t (by
    show Steps p.tables e below (s₁.setTop (mkF m 0 #[rv a1, iv 4] [])) t
    refine XS.iloadN X0.here hx rfl (hb hby d9_0) rfl ?_
    refine XS.aloadN X0.here hx rfl (hb hby d9_1) rfl rfl ?_
    refine X0.arraylength hx (by rw [e0]; exact Ar101.1) (State.isArrayOf_alike hZ.alike Ar101.2.1) (g := (mkF m 2 #[rv a1, iv 4] [(.ref a1), (.int 4)])) rfl rfl (hb hby d9_2) _ ?_
    rw [len_of S101 N101z]
    refine XS.isub X0.here hx rfl (hb hby d9_3) rfl ?_
    refine XS.bipush X0.here hx rfl (hb hby d9_4) ?_
    refine XS.iushr X0.here hx rfl (hb hby d9_6) rfl ?_
    refine XS.i2b X0.here hx rfl (hb hby d9_7) rfl ?_
    exact k)
  obtain ⟨fs, hr, hrun, hended, hW, hsame⟩ := X0.leave (v := some (.int (nar .byte ((((0 : Int32).toUInt32 >>> ((31 : Int32) &&& 31).toUInt32).toInt32).toInt8.toInt32)))) (fun h => by rw [Bd.returns] at h; cases h)
  refine ⟨_, _, pre102 _ ?_, hrun, hended, _, _, rfl, ?_, ⟨_, rfl⟩, hW, hsame.mono (by decide) (by decide)⟩
  · exact retN X0 hx (t := .byte) Bd.returns (by simp) (hb hby d9_8) hr
  · show QE_4 Z a1 k1 x0 x1 x2 x3 h0 n0 _ s₁.heap _
    rw [e0]
    exact ⟨rfl, N0, rfl⟩
theorem ef_rmF_4 (m : MethodId) (x0 : Addr) (x1 : Addr) : entryFrame m #[(.ref x0), (.ref x1), (.int 0), (.int 4), .null] 6 = mkF m 0 #[rv x0, rv x1, iv 0, iv 4, .val .null, .unset] [] := by first | (simp [entryFrame, mkF, argsToLocals, Value.category]; done) | rfl
def QF_4 (Z : State) (a1 : Addr) (a2 : Addr) (k2 : ClassId) (cs : Int32) (x0 : Int32) (x1 : Int32) (x2 : Int32) (x3 : Int32) (h0 : Heap) (n0 : Nat) (v : Option Value) (h : Heap) (L : List Loc) : Prop := ∃ (t : Addr) (kt : ClassId), v = none ∧ Fr n0 L ∧ Keep h0 h [a1] ∧ (Exa Z h a1 "java/lang/String") ∧ (Fld Z h a1 "java/lang/String" "coder" "B" (.int 0)) ∧ (Fld Z h a1 "java/lang/String" "value" "[B" (.ref t)) ∧ (n0 ≤ t) ∧ (h0.size ≤ t) ∧ (Arv Z h t kt .byte (4 : Int32) [(.int (nar .byte (x0.toInt8.toInt32))), (.int (nar .byte (x1.toInt8.toInt32))), (.int (nar .byte (x2.toInt8.toInt32))), (.int (nar .byte (x3.toInt8.toInt32)))] (.int 0))
set_option maxRecDepth 65536 in
set_option maxHeartbeats 40000000 in
theorem rmF_4 (l : Launch) (Z : State) (a0 : Array Value) (hw : ∀ d ∈ tables_1, d.before a0 Z = true) (ws : List Jvm.Cond) (a1 : Addr) (a2 : Addr) (k2 : ClassId) (cs : Int32) (x0 : Int32) (x1 : Int32) (x2 : Int32) (x3 : Int32) (h0 : Heap) (n0 : Nat) (Z0 : n0 ≤ h0.size) (F1 : Fld Z h0 a1 "java/lang/String" "value" "[B" .null) (F2 : Fld Z h0 a1 "java/lang/String" "coder" "B" (.int 0)) (E1 : Exa Z h0 a1 "java/lang/String") (g1 : n0 ≤ a1) (V2 : Arv Z h0 a2 k2 .char (4 : Int32) [(.int x0), (.int x1), (.int x2), (.int x3)] (.int 0)) (SC : Sta Z h0 "java/lang/String" "COMPACT_STRINGS" "Z" (.int cs)) (hcs : ¬ (cs = (0 : Int32))) (ne : a1 ≠ a2) (hx0 : ¬ ((255 : Int32) < x0)) (hx1 : ¬ ((255 : Int32) < x1)) (hx2 : ¬ ((255 : Int32) < x2)) (hx3 : ¬ ((255 : Int32) < x3)) :
    own_M l own_y3 jdk_42_method_149_code 6 none ws (own_R 2 1 4 35) Z h0 #[(.ref a1), (.ref a2), (.int 0), (.int 4), .null] (QF_4 Z a1 a2 k2 cs x0 x1 x2 x3 h0 n0) := by
  refine MetFree.of_bodySF (plainFor_of_name pn_java_lang_String) hisR ?_
  intro p e s m args below meth c s₁ Bd hml0 hP hK
  obtain ⟨rfl, hZ, hh⟩ := hP
  have hx := Bd.exec
  have hby := Bd.bytes
  have hml : c.maxLocals = 6 := hml0
  have hown : s.vm.findClass "java/lang/String" = some m.cls := findClass_of_methodNamed Bd.named
  have hnm := (name_of_methodNamed Bd.named Bd.method).1
  have X0 : Stand p l e (own_R 2 1 4 35) s m #[(.ref a1), (.ref a2), (.int 0), (.int 4), .null] below meth c s₁ [] 0 0 := Stand.of_body Bd
  have e0 : s₁.heap = h0 := by rw [← hh, Bd.state]; rfl
  have N0 := Fr.nil n0
  have pre0 : own_P p e below s₁ (entryFrame m #[(.ref a1), (.ref a2), (.int 0), (.int 4), .null] 6) s₁ (mkF m 0 #[rv a1, rv a2, iv 0, iv 4, .val .null, .unset] []) := fun t k => castTop (ef_rmF_4 m a1 a2) k
  have f101 := Keep.refl h0 [a1]
  obtain ⟨T102, X102, e102, st102⟩ := initO X0 hx hZ hown (own_i hw 22 rfl) (own_i hw 23 rfl) (own_i hw 24 rfl) e0 (g := (mkF m 1 #[rv a1, rv a2, iv 0, iv 4, .val .null, .unset] [(.ref a1)])) rfl (by rw [hml]; rfl) rfl (hb hby d5_1) (by decide) (W := 0) (Nat.le_of_eq rfl) (by decide)
  obtain ⟨T103, X103, e103, st103⟩ := getS2 X102 hx hZ hown (host := "") (Or.inl (own_i hw 25 rfl)) Via.refl e102 SC (g := (mkF m 27 #[rv a1, rv a2, iv 0, iv 4, .val .null, .unset] [])) rfl (hb hby d5_27)
  obtain ⟨_, _, ⟨T104, L104, k104, n104⟩, -, X104, ⟨Lc104, hQ104, l104, y104, z104⟩, st104⟩ := Jvm.LawKit.callS X103 hx (y := own_y1) hown (own_m hZ hw 26) (own_m hZ hw 27) (own_m hZ hw 28) (own_m hZ hw 29) (by decide) (backOf (W := 0) (rmD_4 l Z a0 hw [] a2 k2 x0 x1 x2 x3 h0 n0 Z0 V2 hx0 hx1 hx2 hx3) hZ (own_i hw 29 rfl) (own_i hw 28 rfl) (by decide) (by decide)) (g := (mkF m 36 #[rv a1, rv a2, iv 0, iv 4, .val .null, .unset] [(.int 4), (.int 0), (.ref a2)])) rfl (by rw [hml]; rfl) (argsL := [(.ref a2), (.int 0), (.int 4)]) (rest := []) (lenOf pd_1 rfl) rfl (Nat.le_of_eq rfl) (hb hby d5_36) (fun _ _ => ⟨rfl, e103, (by decide : 0 + 1 ≤ _), (by decide : 0 + 4 ≤ _)⟩)
  dsimp only [Pt.U, Pt.locs, Pt.cells, Pt.slots] at X104 l104 y104 z104 st104 hQ104
  subst l104 y104 z104
  obtain ⟨b105, x106, rfl, N104q, K104, f107, f108, f109⟩ := hQ104
  have N104 := Fr.app N0 N104q
  have ne110 : a1 ≠ b105 := Nat.ne_of_lt (Nat.lt_of_lt_of_le F1.lt f108)
  have ne111 : a2 ≠ b105 := Nat.ne_of_lt (Nat.lt_of_lt_of_le V2.lt f108)
  have f112 := Nat.le_trans Z0 K104.1
  have f113 := F1.keep K104 nin0
  have f114 := F2.keep K104 nin0
  have f115 := E1.keep K104
  have f116 := V2.keep K104 nin0
  have f117 := f101.trans K104 all0
  obtain ⟨_, _, ⟨T118, L118, k118, n118⟩, -, X118, ⟨Lc118, hQ118, l118, y118, z118⟩, st118⟩ := Jvm.LawKit.callS X104 hx (y := own_y2) hown (own_m hZ hw 34) (own_m hZ hw 35) (own_m hZ hw 28) (own_m hZ hw 36) (by decide) (backOf (W := 1) (rmE_4 l Z a0 hw [] b105 x106 x0 x1 x2 x3 T104.heap n0 f112 f109) hZ (own_i hw 36 rfl) (own_i hw 28 rfl) (by decide) (by decide)) (g := (mkF m 45 #[rv a1, rv a2, iv 0, iv 4, .val .null, rv b105] [(.int 4), (.ref b105), (.ref a1)])) rfl (by rw [hml]; rfl) (argsL := [(.ref b105), (.int 4)]) (rest := [(.ref a1)]) (lenOf pd_2 rfl) rfl (Nat.le_of_eq rfl) (hb hby d5_45) (fun _ _ => ⟨rfl, rfl, (by decide : 1 + 0 ≤ _), (by decide : 4 + 0 ≤ _)⟩)
  dsimp only [Pt.U, Pt.locs, Pt.cells, Pt.slots] at X118 l118 y118 z118 st118 hQ118
  subst l118 y118 z118
  obtain ⟨rfl, N118q, e118⟩ := hQ118
  have N118 := Fr.app N104 N118q
  obtain ⟨T119, h119, X119, e119, W119, st119⟩ := putFN X118 hx hZ hown (own_i hw 37 rfl) Via.refl e118 f114 f115 (Or.inr ⟨(own_i hw 38 rfl), rfl, hnm⟩) (own_i hw 9 rfl) (ty := .byte) (v' := (.int 0)) (by decide) rfl (by decide) (g := (mkF m 48 #[rv a1, rv a2, iv 0, iv 4, .val .null, rv b105] [(.int 0), (.ref a1)])) rfl rfl (hb hby d5_48)
  have Fw119 := f114.same W119
  have N119 := Fr.snoc X119 N118 g1
  have f120 := Nat.le_trans f112 (Keep.of_wr W119).1
  have f121 := f113.other W119 (Or.inr (slot_ne (Or.inr (own_i hw 40 rfl)) (Or.inr (own_i hw 38 rfl)) (by decide) (t := (.array .byte)) (t' := .byte) (by decide) (by decide)))
  have f122 := f115.wr W119
  have f123 := f116.other W119 (Ne.symm ne)
  have f124 := f117.wr W119 (Or.inl (List.mem_of_getElem? (i := 0) rfl))
  have f125 := f109.other W119 (Ne.symm ne110)
  obtain ⟨T126, h126, X126, e126, W126, st126⟩ := putF X119 hx hZ hown (host := "") (Or.inl (own_i hw 39 rfl)) Via.refl e119 f121 f122 (Or.inr ⟨(own_i hw 40 rfl), rfl, hnm⟩) (own_i hw 9 rfl) (ty := (.array .byte)) (by decide) rfl rfl (g := (mkF m 54 #[rv a1, rv a2, iv 0, iv 4, .val .null, rv b105] [(.ref b105), (.ref a1)])) rfl rfl (hb hby d5_54)
  have Fw126 := f121.same W126
  have N126 := Fr.snoc X126 N119 g1
  have f127 := Nat.le_trans f120 (Keep.of_wr W126).1
  have f128 := f122.wr W126
  have f129 := f123.other W126 (Ne.symm ne)
  have f130 := f124.wr W126 (Or.inl (List.mem_of_getElem? (i := 0) rfl))
  have f131 := f125.other W126 (Ne.symm ne110)
  have f132 := Fw119.other W126 (Or.inr (slot_ne (Or.inr (own_i hw 38 rfl)) (Or.inr (own_i hw 40 rfl)) (by decide) (t := .byte) (t' := (.array .byte)) (by decide) (by decide)))
  have pre133 : own_P p e below s₁ (entryFrame m #[(.ref a1), (.ref a2), (.int 0), (.int 4), .null] 6) T126 (mkF m 57 #[rv a1, rv a2, iv 0, iv 4, .val .null, rv b105] []) := fun t k => pre0 t (by
    show Steps p.tables e below (s₁.setTop (mkF m 0 #[rv a1, rv a2, iv 0, iv 4, .val .null, .unset] [])) t
    refine XS.aloadN X0.here hx rfl (hb hby d5_0) rfl rfl ?_
    refine st102 _ ?_
    refine XS.iloadN X102.here hx rfl (hb hby d5_4) rfl ?_
    refine XS.ifYes X102.here hx rfl (pc0 := 5) (pc' := 27) rfl (hb hby d5_5) rfl ((if0 _ _).trans (feq (by decide : ¬ ((4 : Int32) = (0 : Int32)))).2) (by decide) (by decide) ?_
    refine st103 _ ?_
    refine XS.ifNo X103.here hx rfl (hb hby d5_30) rfl ((if0 _ _).trans (feq hcs).1) ?_
    refine XS.aloadN X103.here hx rfl (hb hby d5_33) rfl rfl ?_
    refine XS.iloadN X103.here hx rfl (hb hby d5_34) rfl ?_
    refine XS.iloadN X103.here hx rfl (hb hby d5_35) rfl ?_
    refine st104 _ ?_
    refine XS.astore X104.here hx rfl (hb hby d5_39) rfl rfl (l' := #[rv a1, rv a2, iv 0, iv 4, .val .null, rv b105]) rfl ?_
    refine XS.aloadN X104.here hx rfl (hb hby d5_41) rfl rfl ?_
    refine XS.aload X104.here hx rfl (hb hby d5_42) rfl rfl ?_
    refine XS.iloadN X104.here hx rfl (hb hby d5_44) rfl ?_
    refine st118 _ ?_
    refine st119 _ ?_
    refine XS.aloadN X119.here hx rfl (hb hby d5_51) rfl rfl ?_
    refine XS.aload X119.here hx rfl (hb hby d5_52) rfl rfl ?_
    refine st126 _ ?_
    exact k)
  obtain ⟨fs, hr, hrun, hended, hW, hsame⟩ := X126.leave (v := none) (fun _ => rfl)
  refine ⟨_, _, pre133 _ ?_, hrun, hended, _, _, rfl, ?_, ⟨_, rfl⟩, hW, hsame.mono (by decide) (by decide)⟩
  · exact X126.returnOut hx Bd.returns (hb hby d5_57) hr
  · show QF_4 Z a1 a2 k2 cs x0 x1 x2 x3 h0 n0 _ T126.heap _
    rw [e126]
    exact ⟨b105, x106, rfl, N126, f130, f128, f132, Fw126, f107, f108, f131⟩
theorem ef_rmG_4 (m : MethodId) (x0 : Addr) (x1 : Addr) : entryFrame m #[(.ref x0), (.ref x1)] 2 = mkF m 0 #[rv x0, rv x1] [] := by first | (simp [entryFrame, mkF, argsToLocals, Value.category]; done) | rfl
def QG_4 (Z : State) (a1 : Addr) (a2 : Addr) (k2 : ClassId) (cs : Int32) (x0 : Int32) (x1 : Int32) (x2 : Int32) (x3 : Int32) (h0 : Heap) (n0 : Nat) (v : Option Value) (h : Heap) (L : List Loc) : Prop := ∃ (t : Addr) (kt : ClassId), v = none ∧ Fr n0 L ∧ Keep h0 h [a1] ∧ (Exa Z h a1 "java/lang/String") ∧ (Fld Z h a1 "java/lang/String" "coder" "B" (.int 0)) ∧ (Fld Z h a1 "java/lang/String" "value" "[B" (.ref t)) ∧ (n0 ≤ t) ∧ (h0.size ≤ t) ∧ (Arv Z h t kt .byte (4 : Int32) [(.int (nar .byte (x0.toInt8.toInt32))), (.int (nar .byte (x1.toInt8.toInt32))), (.int (nar .byte (x2.toInt8.toInt32))), (.int (nar .byte (x3.toInt8.toInt32)))] (.int 0))
set_option maxRecDepth 65536 in
set_option maxHeartbeats 40000000 in
theorem rmG_4 (l : Launch) (Z : State) (a0 : Array Value) (hw : ∀ d ∈ tables_1, d.before a0 Z = true) (ws : List Jvm.Cond) (a1 : Addr) (a2 : Addr) (k2 : ClassId) (cs : Int32) (x0 : Int32) (x1 : Int32) (x2 : Int32) (x3 : Int32) (h0 : Heap) (n0 : Nat) (Z0 : n0 ≤ h0.size) (F1 : Fld Z h0 a1 "java/lang/String" "value" "[B" .null) (F2 : Fld Z h0 a1 "java/lang/String" "coder" "B" (.int 0)) (E1 : Exa Z h0 a1 "java/lang/String") (g1 : n0 ≤ a1) (V2 : Arv Z h0 a2 k2 .char (4 : Int32) [(.int x0), (.int x1), (.int x2), (.int x3)] (.int 0)) (SC : Sta Z h0 "java/lang/String" "COMPACT_STRINGS" "Z" (.int cs)) (hcs : ¬ (cs = (0 : Int32))) (ne : a1 ≠ a2) (hx0 : ¬ ((255 : Int32) < x0)) (hx1 : ¬ ((255 : Int32) < x1)) (hx2 : ¬ ((255 : Int32) < x2)) (hx3 : ¬ ((255 : Int32) < x3)) :
    own_M l own_y4 jdk_42_method_3_code 2 none ws (own_R 3 1 4 52) Z h0 #[(.ref a1), (.ref a2)] (QG_4 Z a1 a2 k2 cs x0 x1 x2 x3 h0 n0) := by
  refine MetFree.of_bodySF (plainFor_of_name pn_java_lang_String) hisR ?_
  intro p e s m args below meth c s₁ Bd hml0 hP hK
  obtain ⟨rfl, hZ, hh⟩ := hP
  have hx := Bd.exec
  have hby := Bd.bytes
  have hml : c.maxLocals = 2 := hml0
  have hown : s.vm.findClass "java/lang/String" = some m.cls := findClass_of_methodNamed Bd.named
  have hnm := (name_of_methodNamed Bd.named Bd.method).1
  have X0 : Stand p l e (own_R 3 1 4 52) s m #[(.ref a1), (.ref a2)] below meth c s₁ [] 0 0 := Stand.of_body Bd
  have e0 : s₁.heap = h0 := by rw [← hh, Bd.state]; rfl
  have N0 := Fr.nil n0
  have pre0 : own_P p e below s₁ (entryFrame m #[(.ref a1), (.ref a2)] 2) s₁ (mkF m 0 #[rv a1, rv a2] []) := fun t k => castTop (ef_rmG_4 m a1 a2) k
  have f101 := Keep.refl h0 [a1]
  obtain ⟨cl102, Ar102, q102, S102, N102z, H102, G102⟩ := (id V2)
  obtain ⟨_, _, ⟨T103, L103, k103, n103⟩, -, X103, ⟨Lc103, hQ103, l103, y103, z103⟩, st103⟩ := X0.specialBack hx (y := own_y3) rfl hown (own_m hZ hw 18) (own_m hZ hw 19) (own_m hZ hw 21) (by decide) (backOf (W := 0) (rmF_4 l Z a0 hw [] a1 a2 k2 cs x0 x1 x2 x3 h0 n0 Z0 F1 F2 E1 g1 V2 SC hcs ne hx0 hx1 hx2 hx3) hZ (own_i hw 21 rfl) (own_i hw 10 rfl) (by decide) (by decide)) (g := (mkF m 6 #[rv a1, rv a2] [.null, (.int 4), (.int 0), (.ref a2), (.ref a1)])) rfl (by rw [hml]; rfl) (Steps.refl _) (a := a1) (argsL := [(.ref a2), (.int 0), (.int 4), .null]) (rest := []) (lenOf pd_3 rfl) rfl (Nat.le_of_eq rfl) (hb hby d4_6) (fun _ _ => ⟨rfl, e0, (by decide : 0 + 1 ≤ _), (by decide : 0 + 4 ≤ _)⟩)
  dsimp only [Pt.U, Pt.locs, Pt.cells, Pt.slots] at X103 l103 y103 z103 st103 hQ103
  subst l103 y103 z103
  obtain ⟨b104, x105, rfl, N103q, K103, f106, f107, f108, f109, f110, f111⟩ := hQ103
  have N103 := Fr.app N0 N103q
  have ne112 : a1 ≠ b104 := Nat.ne_of_lt (Nat.lt_of_lt_of_le F1.lt f110)
  have ne113 : a2 ≠ b104 := Nat.ne_of_lt (Nat.lt_of_lt_of_le V2.lt f110)
  have f114 := Nat.le_trans Z0 K103.1
  have f115 := V2.keep K103 (ninS (Ne.symm ne) nin0)
  have f116 := f101.trans K103 (allS (Or.inl (List.mem_of_getElem? (i := 0) rfl)) all0)
  have pre117 : own_P p e below s₁ (entryFrame m #[(.ref a1), (.ref a2)] 2) T103 (mkF m 9 #[rv a1, rv a2] []) := fun t k => pre0 t (by
    show Steps p.tables e below (s₁.setTop (mkF m 0 #[rv a1, rv a2] [])) t
    refine XS.aloadN X0.here hx rfl (hb hby d4_0) rfl rfl ?_
    refine XS.aloadN X0.here hx rfl (hb hby d4_1) rfl rfl ?_
    refine XS.iconst X0.here hx rfl (hb hby d4_2) ?_
    refine XS.aloadN X0.here hx rfl (hb hby d4_3) rfl rfl ?_
    refine X0.arraylength hx (by rw [e0]; exact Ar102.1) (State.isArrayOf_alike hZ.alike Ar102.2.1) (g := (mkF m 4 #[rv a1, rv a2] [(.ref a2), (.int 0), (.ref a2), (.ref a1)])) rfl rfl (hb hby d4_4) _ ?_
    rw [len_of S102 N102z]
    refine XS.aconstNull X0.here hx rfl (hb hby d4_5) ?_
    refine st103.trans ?_
    exact k)
  obtain ⟨fs, hr, hrun, hended, hW, hsame⟩ := X103.leave (v := none) (fun _ => rfl)
  refine ⟨_, _, pre117 _ ?_, hrun, hended, _, _, rfl, ?_, ⟨_, rfl⟩, hW, hsame.mono (by decide) (by decide)⟩
  · exact X103.returnOut hx Bd.returns (hb hby d4_9) hr
  · show QG_4 Z a1 a2 k2 cs x0 x1 x2 x3 h0 n0 _ T103.heap _
    exact ⟨b104, x105, rfl, N103, f116, f106, f107, f108, f109, f110, f111⟩
def own_ch (d : Int32) : Int32 := nar .char (((48 : Int32) + d).toUInt32.toUInt16.toUInt32.toInt32)
def own_dig (x s b : Int32) : Int32 := if ((s >>> (b &&& 31)) &&& (1 : Int32)) = (0 : Int32) then ((x &&& (2147483647 : Int32)) % (10 : Int32)) else (0 : Int32)
abbrev own_D (d : Int32) : Prop := 0 ≤ d.toInt ∧ d.toInt ≤ 9
def own_lc (y : Int32) : Int32 := nar .char ((y &&& (255 : Int32)).toUInt32.toUInt16.toUInt32.toInt32)
def own_cat (y : Int32) : Int32 := nar .char (own_lc y)
theorem own_cases {d : Int32} (h : own_D d) : ∃ k : Fin 10, d = Int32.ofNat k.val := by
  obtain ⟨h1, h2⟩ := h
  have t : ∀ k : Fin 10, (Int32.ofNat k.val).toInt = (k.val : Int) := by decide +kernel
  refine ⟨⟨d.toInt.toNat, by omega⟩, ?_⟩
  apply Int32.toInt_inj.mp
  rw [t]
  show d.toInt = ((d.toInt.toNat : Nat) : Int)
  omega
theorem own_chle {d : Int32} (h : own_D d) : ¬ ((255 : Int32) < (nar .char (own_ch d))) := by
  obtain ⟨k, rfl⟩ := own_cases h
  revert k
  decide +kernel
theorem own_cz {d : Int32} (h : own_D d) : (own_cat (nar .byte ((nar .char (own_ch d)).toInt8.toInt32))) = (48 : Int32) ↔ d = (0 : Int32) := by
  obtain ⟨k, rfl⟩ := own_cases h
  revert k
  decide +kernel
theorem own_digD (x s b : Int32) : own_D (own_dig x s b) := by
  unfold own_dig
  split
  · have e : (x &&& (2147483647 : Int32)).toInt = x.toInt % 2 ^ 31 := Jvm.Kit.i32_mask x 2147483647 (k := 31) (by decide) (by decide)
    have e2 : ((x &&& (2147483647 : Int32)) % (10 : Int32)).toInt = (x &&& (2147483647 : Int32)).toInt % (10 : Int32).toInt := Jvm.Kit.i32_rem_nonneg (by omega)
    have e3 : (10 : Int32).toInt = 10 := rfl
    rw [e3] at e2
    omega
  · decide
theorem pn_com_example_millipede_millipede_DecimalNumbersCanonicalPinLaw : plainName "com/example/millipede/millipede/DecimalNumbersCanonicalPinLaw" = true := by first | (simp [plainName, overriddenIn]; done) | decide +kernel
theorem ef_rmDg (m : MethodId) (x0 : Int32) (x1 : Int32) (x2 : Int32) : entryFrame m #[(.int x0), (.int x1), (.int x2)] 3 = mkF m 0 #[iv x0, iv x1, iv x2] [] := by first | (simp [entryFrame, mkF, argsToLocals, Value.category]; done) | rfl
def QDg (Z : State) (p1 : Int32) (p2 : Int32) (p3 : Int32) (h0 : Heap) (n0 : Nat) (v : Option Value) (h : Heap) (L : List Loc) : Prop := v = some (.int (own_dig p1 p2 p3)) ∧ Fr n0 L ∧ h = h0
set_option maxRecDepth 65536 in
set_option maxHeartbeats 40000000 in
theorem rmDg (l : Launch) (Z : State) (a0 : Array Value) (hw : ∀ d ∈ tables_1, d.before a0 Z = true) (ws : List Jvm.Cond) (p1 : Int32) (p2 : Int32) (p3 : Int32) (h0 : Heap) (n0 : Nat) (Z0 : n0 ≤ h0.size) :
    own_M l own_y5 method_3_code 3 (some .int) ws (own_R 0 0 0 0) Z h0 #[(.int p1), (.int p2), (.int p3)] (QDg Z p1 p2 p3 h0 n0) := by
  refine MetFree.of_bodySF (plainFor_of_name pn_com_example_millipede_millipede_DecimalNumbersCanonicalPinLaw) hisR ?_
  intro p e s m args below meth c s₁ Bd hml0 hP hK
  obtain ⟨rfl, hZ, hh⟩ := hP
  have hx := Bd.exec
  have hby := Bd.bytes
  have hml : c.maxLocals = 3 := hml0
  have hown : s.vm.findClass "com/example/millipede/millipede/DecimalNumbersCanonicalPinLaw" = some m.cls := findClass_of_methodNamed Bd.named
  have hnm := (name_of_methodNamed Bd.named Bd.method).1
  have X0 : Stand p l e (own_R 0 0 0 0) s m #[(.int p1), (.int p2), (.int p3)] below meth c s₁ [] 0 0 := Stand.of_body Bd
  have e0 : s₁.heap = h0 := by rw [← hh, Bd.state]; rfl
  have N0 := Fr.nil n0
  have pre0 : own_P p e below s₁ (entryFrame m #[(.int p1), (.int p2), (.int p3)] 3) s₁ (mkF m 0 #[iv p1, iv p2, iv p3] []) := fun t k => castTop (ef_rmDg m p1 p2 p3) k
  have pre102 : own_P p e below s₁ (entryFrame m #[(.int p1), (.int p2), (.int p3)] 3) s₁ (mkF m 5 #[iv p1, iv p2, iv p3] [(.int ((p2 >>> (p3 &&& 31)) &&& (1 : Int32)))]) := fun t k => pre0 t (by
    show Steps p.tables e below (s₁.setTop (mkF m 0 #[iv p1, iv p2, iv p3] [])) t
    refine XS.iloadN X0.here hx rfl (hb hby d1_0) rfl ?_
    refine XS.iloadN X0.here hx rfl (hb hby d1_1) rfl ?_
    refine XS.ishr X0.here hx rfl (hb hby d1_2) rfl ?_
    refine XS.iconst X0.here hx rfl (hb hby d1_3) ?_
    refine XS.iand X0.here hx rfl (hb hby d1_4) rfl ?_
    exact k)
  by_cases hc101 : ((p2 >>> (p3 &&& 31)) &&& (1 : Int32)) = (0 : Int32)
  · have pre103 : own_P p e below s₁ (entryFrame m #[(.int p1), (.int p2), (.int p3)] 3) s₁ (mkF m 17 #[iv p1, iv p2, iv p3] [(.int ((p1 &&& (2147483647 : Int32)) % (10 : Int32)))]) := fun t k => pre102 t (by
      refine XS.ifYes X0.here hx rfl (pc0 := 5) (pc' := 10) rfl (hb hby d1_5) rfl ((if0 _ _).trans (teq hc101).1) (by decide) (by decide) ?_
      refine XS.iloadN X0.here hx rfl (hb hby d1_10) rfl ?_
      refine X0.ldcInt hx hown (own_m hZ hw 4) (g := (mkF m 11 #[iv p1, iv p2, iv p3] [(.int p1)])) rfl (hb hby d1_11) _ ?_
      refine XS.iand X0.here hx rfl (hb hby d1_13) rfl ?_
      refine XS.bipush X0.here hx rfl (hb hby d1_14) ?_
      refine iremM (g := (mkF m 16 #[iv p1, iv p2, iv p3] [(.int 10), (.int (p1 &&& (2147483647 : Int32)))])) X0 hx rfl (hb hby d1_16) rfl (by decide) ?_
      exact k)
    obtain ⟨fs, hr, hrun, hended, hW, hsame⟩ := X0.leave (v := some (.int ((p1 &&& (2147483647 : Int32)) % (10 : Int32)))) (fun h => by rw [Bd.returns] at h; cases h)
    refine ⟨_, _, pre103 _ ?_, hrun, hended, _, _, rfl, ?_, ⟨_, rfl⟩, hW, hsame.mono (by decide) (by decide)⟩
    · exact retI X0 hx Bd.returns (hb hby d1_17) hr
    · show QDg Z p1 p2 p3 h0 n0 _ s₁.heap _
      rw [e0]
      exact ⟨(by simp [own_dig, hc101]), N0, rfl⟩
  · have pre104 : own_P p e below s₁ (entryFrame m #[(.int p1), (.int p2), (.int p3)] 3) s₁ (mkF m 9 #[iv p1, iv p2, iv p3] [(.int 0)]) := fun t k => pre102 t (by
      refine XS.ifNo X0.here hx rfl (hb hby d1_5) rfl ((if0 _ _).trans (feq hc101).1) ?_
      refine XS.iconst X0.here hx rfl (hb hby d1_8) ?_
      exact k)
    obtain ⟨fs, hr, hrun, hended, hW, hsame⟩ := X0.leave (v := some (.int 0)) (fun h => by rw [Bd.returns] at h; cases h)
    refine ⟨_, _, pre104 _ ?_, hrun, hended, _, _, rfl, ?_, ⟨_, rfl⟩, hW, hsame.mono (by decide) (by decide)⟩
    · exact retI X0 hx Bd.returns (hb hby d1_9) hr
    · show QDg Z p1 p2 p3 h0 n0 _ s₁.heap _
      rw [e0]
      exact ⟨(by simp [own_dig, hc101]), N0, rfl⟩
theorem ef_rmCc (m : MethodId) (x0 : Int32) : entryFrame m #[(.int x0)] 1 = mkF m 0 #[iv x0] [] := by first | (simp [entryFrame, mkF, argsToLocals, Value.category]; done) | rfl
def QCc (Z : State) (p1 : Int32) (h0 : Heap) (n0 : Nat) (v : Option Value) (h : Heap) (L : List Loc) : Prop := v = some (.int (own_ch p1)) ∧ Fr n0 L ∧ h = h0
set_option maxRecDepth 65536 in
set_option maxHeartbeats 40000000 in
theorem rmCc (l : Launch) (Z : State) (a0 : Array Value) (hw : ∀ d ∈ tables_1, d.before a0 Z = true) (ws : List Jvm.Cond) (p1 : Int32) (h0 : Heap) (n0 : Nat) (Z0 : n0 ≤ h0.size) :
    own_M l own_y6 method_4_code 1 (some .char) ws (own_R 0 0 0 0) Z h0 #[(.int p1)] (QCc Z p1 h0 n0) := by
  refine MetFree.of_bodySF (plainFor_of_name pn_com_example_millipede_millipede_DecimalNumbersCanonicalPinLaw) hisR ?_
  intro p e s m args below meth c s₁ Bd hml0 hP hK
  obtain ⟨rfl, hZ, hh⟩ := hP
  have hx := Bd.exec
  have hby := Bd.bytes
  have hml : c.maxLocals = 1 := hml0
  have hown : s.vm.findClass "com/example/millipede/millipede/DecimalNumbersCanonicalPinLaw" = some m.cls := findClass_of_methodNamed Bd.named
  have hnm := (name_of_methodNamed Bd.named Bd.method).1
  have X0 : Stand p l e (own_R 0 0 0 0) s m #[(.int p1)] below meth c s₁ [] 0 0 := Stand.of_body Bd
  have e0 : s₁.heap = h0 := by rw [← hh, Bd.state]; rfl
  have N0 := Fr.nil n0
  have pre0 : own_P p e below s₁ (entryFrame m #[(.int p1)] 1) s₁ (mkF m 0 #[iv p1] []) := fun t k => castTop (ef_rmCc m p1) k
  have pre101 : own_P p e below s₁ (entryFrame m #[(.int p1)] 1) s₁ (mkF m 5 #[iv p1] [(.int (((48 : Int32) + p1).toUInt32.toUInt16.toUInt32.toInt32))]) := fun t k => pre0 t (by
    show Steps p.tables e below (s₁.setTop (mkF m 0 #[iv p1] [])) t
    refine XS.bipush X0.here hx rfl (hb hby d3_0) ?_
    refine XS.iloadN X0.here hx rfl (hb hby d3_2) rfl ?_
    refine XS.iadd X0.here hx rfl (hb hby d3_3) rfl ?_
    refine XS.i2c X0.here hx rfl (hb hby d3_4) rfl ?_
    exact k)
  obtain ⟨fs, hr, hrun, hended, hW, hsame⟩ := X0.leave (v := some (.int (nar .char (((48 : Int32) + p1).toUInt32.toUInt16.toUInt32.toInt32)))) (fun h => by rw [Bd.returns] at h; cases h)
  refine ⟨_, _, pre101 _ ?_, hrun, hended, _, _, rfl, ?_, ⟨_, rfl⟩, hW, hsame.mono (by decide) (by decide)⟩
  · exact retN X0 hx (t := .char) Bd.returns (by simp) (hb hby d3_5) hr
  · show QCc Z p1 h0 n0 _ s₁.heap _
    rw [e0]
    exact ⟨rfl, N0, rfl⟩
theorem pd_4 : parseMethodDescriptor "(I)C" = some ⟨[.int], some .char⟩ := by decide +kernel
theorem pd_5 : parseMethodDescriptor "([C)V" = some ⟨[(.array .char)], none⟩ := by decide +kernel
theorem ef_rmT_1 (m : MethodId) (x1 : Int32) (x2 : Int32) (x3 : Int32) (x4 : Int32) : entryFrame m #[(.int 1), (.int x1), (.int x2), (.int x3), (.int x4)] 5 = mkF m 0 #[iv 1, iv x1, iv x2, iv x3, iv x4] [] := by first | (simp [entryFrame, mkF, argsToLocals, Value.category]; done) | rfl
def QT_1 (Z : State) (p2 : Int32) (p3 : Int32) (p4 : Int32) (p5 : Int32) (cs : Int32) (h0 : Heap) (n0 : Nat) (v : Option Value) (h : Heap) (L : List Loc) : Prop := ∃ (b : Addr) (t : Addr) (kt : ClassId), v = some (.ref b) ∧ Fr n0 L ∧ Keep h0 h [] ∧ (n0 ≤ b) ∧ (h0.size ≤ b) ∧ (Exa Z h b "java/lang/String") ∧ (Fld Z h b "java/lang/String" "coder" "B" (.int 0)) ∧ (Fld Z h b "java/lang/String" "value" "[B" (.ref t)) ∧ (n0 ≤ t) ∧ (h0.size ≤ t) ∧ (Arv Z h t kt .byte (1 : Int32) [(.int (nar .byte ((nar .char (own_ch p2)).toInt8.toInt32)))] (.int 0))
set_option maxRecDepth 65536 in
set_option maxHeartbeats 40000000 in
theorem rmT_1 (l : Launch) (Z : State) (a0 : Array Value) (hw : ∀ d ∈ tables_1, d.before a0 Z = true) (ws : List Jvm.Cond) (p2 : Int32) (p3 : Int32) (p4 : Int32) (p5 : Int32) (cs : Int32) (h0 : Heap) (n0 : Nat) (Z0 : n0 ≤ h0.size) (hd0 : own_D p2) (SC : Sta Z Z.heap "java/lang/String" "COMPACT_STRINGS" "Z" (.int cs)) (hcs : ¬ (cs = (0 : Int32))) (O0 : Old Z n0 h0) :
    own_M l own_y7 method_5_code 5 (some (.object "java/lang/String")) ws (own_R 4 3 6 66) Z h0 #[(.int 1), (.int p2), (.int p3), (.int p4), (.int p5)] (QT_1 Z p2 p3 p4 p5 cs h0 n0) := by
  refine MetFree.of_bodySF (plainFor_of_name pn_com_example_millipede_millipede_DecimalNumbersCanonicalPinLaw) hisR ?_
  intro p e s m args below meth c s₁ Bd hml0 hP hK
  obtain ⟨rfl, hZ, hh⟩ := hP
  have hx := Bd.exec
  have hby := Bd.bytes
  have hml : c.maxLocals = 5 := hml0
  have hown : s.vm.findClass "com/example/millipede/millipede/DecimalNumbersCanonicalPinLaw" = some m.cls := findClass_of_methodNamed Bd.named
  have hnm := (name_of_methodNamed Bd.named Bd.method).1
  have X0 : Stand p l e (own_R 4 3 6 66) s m #[(.int 1), (.int p2), (.int p3), (.int p4), (.int p5)] below meth c s₁ [] 0 0 := Stand.of_body Bd
  have e0 : s₁.heap = h0 := by rw [← hh, Bd.state]; rfl
  have N0 := Fr.nil n0
  have pre0 : own_P p e below s₁ (entryFrame m #[(.int 1), (.int p2), (.int p3), (.int p4), (.int p5)] 5) s₁ (mkF m 0 #[iv 1, iv p2, iv p3, iv p4, iv p5] []) := fun t k => castTop (ef_rmT_1 m p2 p3 p4 p5) k
  have f101 := Keep.refl h0 []
  obtain ⟨T102, h102, X102, e102, E102, A102, D102, -, st102⟩ := newO X0 hx hZ hown (own_i hw 8 rfl) (own_i hw 9 rfl) (own_i hw 10 rfl) e0 (g := (mkF m 5 #[iv 1, iv p2, iv p3, iv p4, iv p5] [])) rfl (hb hby d2_5) (by decide) (by decide)
  obtain ⟨b102, g102⟩ : ∃ z, z = h0.size := ⟨_, rfl⟩
  rw [← g102] at A102 D102 st102
  have ga103 : n0 ≤ b102 := Nat.le_trans Z0 (Nat.le_of_eq g102.symm)
  have sz104 : h0.size ≤ b102 := Nat.le_trans f101.1 (Nat.le_of_eq g102.symm)
  have f105 : Fld Z h102 b102 "java/lang/String" "coder" "B" (.int 0) := D102 (Or.inr (own_i hw 38 rfl)) (ty := .byte) (by decide)
  have f106 : Fld Z h102 b102 "java/lang/String" "value" "[B" .null := D102 (Or.inr (own_i hw 40 rfl)) (ty := (.array .byte)) (by decide)
  have f107 := Nat.le_trans Z0 E102.1
  have f108 := O0.ext E102
  have f109 := f101.ext E102
  obtain ⟨T110, h110, k110, X110, e110, E110, A110, st110⟩ := newP X102 hx hZ (own_i hw 11 rfl) e102 (g := (mkF m 10 #[iv 1, iv p2, iv p3, iv p4, iv p5] [(.int 1), (.ref b102), (.ref b102)])) rfl (hb hby d2_10) rfl (by decide) (cap := 1) (by decide) (by decide) (by decide) (by decide)
  obtain ⟨b110, g110⟩ : ∃ z, z = h102.size := ⟨_, rfl⟩
  rw [← g110] at A110 st110
  have ne111 : b102 ≠ b110 := Nat.ne_of_lt (Nat.lt_of_lt_of_le A102.lt (Nat.le_of_eq g110.symm))
  have ga112 : n0 ≤ b110 := Nat.le_trans f107 (Nat.le_of_eq g110.symm)
  have sz113 : h0.size ≤ b110 := Nat.le_trans f109.1 (Nat.le_of_eq g110.symm)
  have V110 : Arv Z h110 b110 k110 .char (1 : Int32) [(.int 0)] (.int 0) := (Arv.new A110 (by decide)).pad (pad_rep [] (.int 0) 1)
  have f114 := Nat.le_trans f107 E110.1
  have f115 := f108.ext E110
  have f116 := f109.ext E110
  have f117 := A102.ext E110
  have f118 := f105.ext E110
  have f119 := f106.ext E110
  obtain ⟨_, _, ⟨T120, L120, k120, n120⟩, -, X120, ⟨Lc120, hQ120, l120, y120, z120⟩, st120⟩ := Jvm.LawKit.callS X110 hx (y := own_y6) hown (own_m hZ hw 12) (own_m hZ hw 13) (own_m hZ hw 2) (own_m hZ hw 14) (by decide) (backOf (W := 5) (rmCc l Z a0 hw [] p2 h110 n0 f114 ) hZ (own_i hw 14 rfl) (own_i hw 2 rfl) (by decide) (by decide)) (g := (mkF m 15 #[iv 1, iv p2, iv p3, iv p4, iv p5] [(.int p2), (.int 0), (.ref b110), (.ref b110), (.ref b102), (.ref b102)])) rfl (by rw [hml]; rfl) (argsL := [(.int p2)]) (rest := [(.int 0), (.ref b110), (.ref b110), (.ref b102), (.ref b102)]) (lenOf pd_4 rfl) rfl (Nat.le_of_eq rfl) (hb hby d2_15) (fun _ _ => ⟨rfl, e110, (by decide : 2 + 0 ≤ _), (by decide : 5 + 0 ≤ _)⟩)
  dsimp only [Pt.U, Pt.locs, Pt.cells, Pt.slots] at X120 l120 y120 z120 st120 hQ120
  subst l120 y120 z120
  obtain ⟨rfl, N120q, e120⟩ := hQ120
  have N120 := Fr.app N0 N120q
  obtain ⟨cl121, Ar121, q121, S121, N121z, H121, G121⟩ := (id V110)
  have hin121 : ¬ ((0 : Int32) < 0 ∨ cl121.slots.size ≤ ((0 : Int32)).toNatClampNeg) := inb_of S121 ⟨by decide, by decide⟩
  obtain ⟨T121, h121, X121, e121, W121, st121⟩ := stC X120 hx hZ e120 Ar121 (j := (0 : Int32)) hin121 (g := (mkF m 18 #[iv 1, iv p2, iv p3, iv p4, iv p5] [(.int (own_ch p2)), (.int 0), (.ref b110), (.ref b110), (.ref b102), (.ref b102)])) rfl rfl (hb hby d2_18)
  have V121 : Arv Z h121 b110 k110 .char (1 : Int32) [(.int (nar .char (own_ch p2)))] (.int 0) := Arv.set Ar121 q121 S121 N121z H121 G121 (fits_nar_char _) W121 0 rfl (Nat.le_of_ble_eq_true rfl)
  have N121 := Fr.snoc X121 N120 ga112
  have f122 := Nat.le_trans f114 (Keep.of_wr W121).1
  have f123 := f115.wr W121 ga112
  have f124 := f116.wr W121 (Or.inr sz113)
  have f125 := f117.wr W121
  have f126 := f118.other W121 (Or.inl ne111)
  have f127 := f119.other W121 (Or.inl ne111)
  obtain ⟨_, _, ⟨T128, L128, k128, n128⟩, -, X128, ⟨Lc128, hQ128, l128, y128, z128⟩, st128⟩ := X121.specialBack hx (y := own_y4) rfl hown (own_m hZ hw 15) (own_m hZ hw 16) (own_m hZ hw 17) (by decide) (backOf (W := 1) (rmG_1 l Z a0 hw [] b102 b110 k110 cs (nar .char (own_ch p2)) h121 n0 f122 f127 f126 f125 ga103 V121 (SC.ext f123.2) hcs ne111 (own_chle hd0)) hZ (own_i hw 17 rfl) (own_i hw 10 rfl) (by decide) (by decide)) (g := (mkF m 19 #[iv 1, iv p2, iv p3, iv p4, iv p5] [(.ref b110), (.ref b102), (.ref b102)])) rfl (by rw [hml]; rfl) (Steps.refl _) (a := b102) (argsL := [(.ref b110)]) (rest := [(.ref b102)]) (lenOf pd_5 rfl) rfl (Nat.le_of_eq rfl) (hb hby d2_19) (fun _ _ => ⟨rfl, e121, (by decide : 2 + 1 ≤ _), (by decide : 5 + 1 ≤ _)⟩)
  dsimp only [Pt.U, Pt.locs, Pt.cells, Pt.slots] at X128 l128 y128 z128 st128 hQ128
  subst l128 y128 z128
  obtain ⟨b129, x130, rfl, N128q, K128, f131, f132, f133, f134, f135, f136⟩ := hQ128
  have N128 := Fr.app N121 N128q
  have ne137 : b102 ≠ b129 := Nat.ne_of_lt (Nat.lt_of_lt_of_le f125.lt f135)
  have ne138 : b110 ≠ b129 := Nat.ne_of_lt (Nat.lt_of_lt_of_le V121.lt f135)
  have sz139 : h0.size ≤ b129 := Nat.le_trans f124.1 f135
  have f140 := Nat.le_trans f122 K128.1
  have f141 := f123.keep K128 (allS ga103 all0)
  have f142 := f124.trans K128 (allS (Or.inr sz104) all0)
  have f143 := V121.keep K128 (ninS (Ne.symm ne111) nin0)
  have pre144 : own_P p e below s₁ (entryFrame m #[(.int 1), (.int p2), (.int p3), (.int p4), (.int p5)] 5) T128 (mkF m 22 #[iv 1, iv p2, iv p3, iv p4, iv p5] [(.ref b102)]) := fun t k => pre0 t (by
    show Steps p.tables e below (s₁.setTop (mkF m 0 #[iv 1, iv p2, iv p3, iv p4, iv p5] [])) t
    refine XS.iloadN X0.here hx rfl (hb hby d2_0) rfl ?_
    refine XS.iconst X0.here hx rfl (hb hby d2_1) ?_
    refine XS.icmpNo X0.here hx rfl (hb hby d2_2) rfl (teq (by decide : (1 : Int32) = (1 : Int32))).2 ?_
    refine st102 _ ?_
    refine XS.dup X102.here hx rfl (hb hby d2_8) rfl rfl ?_
    refine XS.iconst X102.here hx rfl (hb hby d2_9) ?_
    refine st110 _ ?_
    refine XS.dup X110.here hx rfl (hb hby d2_12) rfl rfl ?_
    refine XS.iconst X110.here hx rfl (hb hby d2_13) ?_
    refine XS.iloadN X110.here hx rfl (hb hby d2_14) rfl ?_
    refine st120 _ ?_
    refine st121 _ ?_
    refine st128.trans ?_
    exact k)
  obtain ⟨fs, hr, hrun, hended, hW, hsame⟩ := X128.leave (v := some (.ref b102)) (fun h => by rw [Bd.returns] at h; cases h)
  refine ⟨_, _, pre144 _ ?_, hrun, hended, _, _, rfl, ?_, ⟨_, rfl⟩, hW, hsame.mono (by decide) (by decide)⟩
  · exact retOut X128 hx Bd.returns rfl (Or.inr (Or.inr (Or.inr (Or.inr ⟨rfl, rfl, rfl⟩)))) (hb hby d2_22) hr
  · show QT_1 Z p2 p3 p4 p5 cs h0 n0 _ T128.heap _
    exact ⟨b102, b129, x130, rfl, N128, f142, ga103, sz104, f131, f132, f133, f134, sz139, f136⟩
theorem ef_rmT_2 (m : MethodId) (x1 : Int32) (x2 : Int32) (x3 : Int32) (x4 : Int32) : entryFrame m #[(.int 2), (.int x1), (.int x2), (.int x3), (.int x4)] 5 = mkF m 0 #[iv 2, iv x1, iv x2, iv x3, iv x4] [] := by first | (simp [entryFrame, mkF, argsToLocals, Value.category]; done) | rfl
def QT_2 (Z : State) (p2 : Int32) (p3 : Int32) (p4 : Int32) (p5 : Int32) (cs : Int32) (h0 : Heap) (n0 : Nat) (v : Option Value) (h : Heap) (L : List Loc) : Prop := ∃ (b : Addr) (t : Addr) (kt : ClassId), v = some (.ref b) ∧ Fr n0 L ∧ Keep h0 h [] ∧ (n0 ≤ b) ∧ (h0.size ≤ b) ∧ (Exa Z h b "java/lang/String") ∧ (Fld Z h b "java/lang/String" "coder" "B" (.int 0)) ∧ (Fld Z h b "java/lang/String" "value" "[B" (.ref t)) ∧ (n0 ≤ t) ∧ (h0.size ≤ t) ∧ (Arv Z h t kt .byte (2 : Int32) [(.int (nar .byte ((nar .char (own_ch p2)).toInt8.toInt32))), (.int (nar .byte ((nar .char (own_ch p3)).toInt8.toInt32)))] (.int 0))
set_option maxRecDepth 65536 in
set_option maxHeartbeats 40000000 in
theorem rmT_2 (l : Launch) (Z : State) (a0 : Array Value) (hw : ∀ d ∈ tables_1, d.before a0 Z = true) (ws : List Jvm.Cond) (p2 : Int32) (p3 : Int32) (p4 : Int32) (p5 : Int32) (cs : Int32) (h0 : Heap) (n0 : Nat) (Z0 : n0 ≤ h0.size) (hd0 : own_D p2) (hd1 : own_D p3) (SC : Sta Z Z.heap "java/lang/String" "COMPACT_STRINGS" "Z" (.int cs)) (hcs : ¬ (cs = (0 : Int32))) (O0 : Old Z n0 h0) :
    own_M l own_y7 method_5_code 5 (some (.object "java/lang/String")) ws (own_R 4 3 8 66) Z h0 #[(.int 2), (.int p2), (.int p3), (.int p4), (.int p5)] (QT_2 Z p2 p3 p4 p5 cs h0 n0) := by
  refine MetFree.of_bodySF (plainFor_of_name pn_com_example_millipede_millipede_DecimalNumbersCanonicalPinLaw) hisR ?_
  intro p e s m args below meth c s₁ Bd hml0 hP hK
  obtain ⟨rfl, hZ, hh⟩ := hP
  have hx := Bd.exec
  have hby := Bd.bytes
  have hml : c.maxLocals = 5 := hml0
  have hown : s.vm.findClass "com/example/millipede/millipede/DecimalNumbersCanonicalPinLaw" = some m.cls := findClass_of_methodNamed Bd.named
  have hnm := (name_of_methodNamed Bd.named Bd.method).1
  have X0 : Stand p l e (own_R 4 3 8 66) s m #[(.int 2), (.int p2), (.int p3), (.int p4), (.int p5)] below meth c s₁ [] 0 0 := Stand.of_body Bd
  have e0 : s₁.heap = h0 := by rw [← hh, Bd.state]; rfl
  have N0 := Fr.nil n0
  have pre0 : own_P p e below s₁ (entryFrame m #[(.int 2), (.int p2), (.int p3), (.int p4), (.int p5)] 5) s₁ (mkF m 0 #[iv 2, iv p2, iv p3, iv p4, iv p5] []) := fun t k => castTop (ef_rmT_2 m p2 p3 p4 p5) k
  have f101 := Keep.refl h0 []
  obtain ⟨T102, h102, X102, e102, E102, A102, D102, -, st102⟩ := newO X0 hx hZ hown (own_i hw 8 rfl) (own_i hw 9 rfl) (own_i hw 10 rfl) e0 (g := (mkF m 28 #[iv 2, iv p2, iv p3, iv p4, iv p5] [])) rfl (hb hby d2_28) (by decide) (by decide)
  obtain ⟨b102, g102⟩ : ∃ z, z = h0.size := ⟨_, rfl⟩
  rw [← g102] at A102 D102 st102
  have ga103 : n0 ≤ b102 := Nat.le_trans Z0 (Nat.le_of_eq g102.symm)
  have sz104 : h0.size ≤ b102 := Nat.le_trans f101.1 (Nat.le_of_eq g102.symm)
  have f105 : Fld Z h102 b102 "java/lang/String" "coder" "B" (.int 0) := D102 (Or.inr (own_i hw 38 rfl)) (ty := .byte) (by decide)
  have f106 : Fld Z h102 b102 "java/lang/String" "value" "[B" .null := D102 (Or.inr (own_i hw 40 rfl)) (ty := (.array .byte)) (by decide)
  have f107 := Nat.le_trans Z0 E102.1
  have f108 := O0.ext E102
  have f109 := f101.ext E102
  obtain ⟨T110, h110, k110, X110, e110, E110, A110, st110⟩ := newP X102 hx hZ (own_i hw 11 rfl) e102 (g := (mkF m 33 #[iv 2, iv p2, iv p3, iv p4, iv p5] [(.int 2), (.ref b102), (.ref b102)])) rfl (hb hby d2_33) rfl (by decide) (cap := 2) (by decide) (by decide) (by decide) (by decide)
  obtain ⟨b110, g110⟩ : ∃ z, z = h102.size := ⟨_, rfl⟩
  rw [← g110] at A110 st110
  have ne111 : b102 ≠ b110 := Nat.ne_of_lt (Nat.lt_of_lt_of_le A102.lt (Nat.le_of_eq g110.symm))
  have ga112 : n0 ≤ b110 := Nat.le_trans f107 (Nat.le_of_eq g110.symm)
  have sz113 : h0.size ≤ b110 := Nat.le_trans f109.1 (Nat.le_of_eq g110.symm)
  have V110 : Arv Z h110 b110 k110 .char (2 : Int32) [(.int 0), (.int 0)] (.int 0) := (Arv.new A110 (by decide)).pad (pad_rep [] (.int 0) 2)
  have f114 := Nat.le_trans f107 E110.1
  have f115 := f108.ext E110
  have f116 := f109.ext E110
  have f117 := A102.ext E110
  have f118 := f105.ext E110
  have f119 := f106.ext E110
  obtain ⟨_, _, ⟨T120, L120, k120, n120⟩, -, X120, ⟨Lc120, hQ120, l120, y120, z120⟩, st120⟩ := Jvm.LawKit.callS X110 hx (y := own_y6) hown (own_m hZ hw 12) (own_m hZ hw 13) (own_m hZ hw 2) (own_m hZ hw 14) (by decide) (backOf (W := 5) (rmCc l Z a0 hw [] p2 h110 n0 f114 ) hZ (own_i hw 14 rfl) (own_i hw 2 rfl) (by decide) (by decide)) (g := (mkF m 38 #[iv 2, iv p2, iv p3, iv p4, iv p5] [(.int p2), (.int 0), (.ref b110), (.ref b110), (.ref b102), (.ref b102)])) rfl (by rw [hml]; rfl) (argsL := [(.int p2)]) (rest := [(.int 0), (.ref b110), (.ref b110), (.ref b102), (.ref b102)]) (lenOf pd_4 rfl) rfl (Nat.le_of_eq rfl) (hb hby d2_38) (fun _ _ => ⟨rfl, e110, (by decide : 2 + 0 ≤ _), (by decide : 6 + 0 ≤ _)⟩)
  dsimp only [Pt.U, Pt.locs, Pt.cells, Pt.slots] at X120 l120 y120 z120 st120 hQ120
  subst l120 y120 z120
  obtain ⟨rfl, N120q, e120⟩ := hQ120
  have N120 := Fr.app N0 N120q
  obtain ⟨cl121, Ar121, q121, S121, N121z, H121, G121⟩ := (id V110)
  have hin121 : ¬ ((0 : Int32) < 0 ∨ cl121.slots.size ≤ ((0 : Int32)).toNatClampNeg) := inb_of S121 ⟨by decide, by decide⟩
  obtain ⟨T121, h121, X121, e121, W121, st121⟩ := stC X120 hx hZ e120 Ar121 (j := (0 : Int32)) hin121 (g := (mkF m 41 #[iv 2, iv p2, iv p3, iv p4, iv p5] [(.int (own_ch p2)), (.int 0), (.ref b110), (.ref b110), (.ref b102), (.ref b102)])) rfl rfl (hb hby d2_41)
  have V121 : Arv Z h121 b110 k110 .char (2 : Int32) [(.int (nar .char (own_ch p2))), (.int 0)] (.int 0) := Arv.set Ar121 q121 S121 N121z H121 G121 (fits_nar_char _) W121 0 rfl (Nat.le_of_ble_eq_true rfl)
  have N121 := Fr.snoc X121 N120 ga112
  have f122 := Nat.le_trans f114 (Keep.of_wr W121).1
  have f123 := f115.wr W121 ga112
  have f124 := f116.wr W121 (Or.inr sz113)
  have f125 := f117.wr W121
  have f126 := f118.other W121 (Or.inl ne111)
  have f127 := f119.other W121 (Or.inl ne111)
  obtain ⟨_, _, ⟨T128, L128, k128, n128⟩, -, X128, ⟨Lc128, hQ128, l128, y128, z128⟩, st128⟩ := Jvm.LawKit.callS X121 hx (y := own_y6) hown (own_m hZ hw 12) (own_m hZ hw 13) (own_m hZ hw 2) (own_m hZ hw 14) (by decide) (backOf (W := 5) (rmCc l Z a0 hw [] p3 h121 n0 f122 ) hZ (own_i hw 14 rfl) (own_i hw 2 rfl) (by decide) (by decide)) (g := (mkF m 45 #[iv 2, iv p2, iv p3, iv p4, iv p5] [(.int p3), (.int 1), (.ref b110), (.ref b110), (.ref b102), (.ref b102)])) rfl (by rw [hml]; rfl) (argsL := [(.int p3)]) (rest := [(.int 1), (.ref b110), (.ref b110), (.ref b102), (.ref b102)]) (lenOf pd_4 rfl) rfl (Nat.le_of_eq rfl) (hb hby d2_45) (fun _ _ => ⟨rfl, e121, (by decide : 2 + 0 ≤ _), (by decide : 6 + 0 ≤ _)⟩)
  dsimp only [Pt.U, Pt.locs, Pt.cells, Pt.slots] at X128 l128 y128 z128 st128 hQ128
  subst l128 y128 z128
  obtain ⟨rfl, N128q, e128⟩ := hQ128
  have N128 := Fr.app N121 N128q
  obtain ⟨cl129, Ar129, q129, S129, N129z, H129, G129⟩ := (id V121)
  have hin129 : ¬ ((1 : Int32) < 0 ∨ cl129.slots.size ≤ ((1 : Int32)).toNatClampNeg) := inb_of S129 ⟨by decide, by decide⟩
  obtain ⟨T129, h129, X129, e129, W129, st129⟩ := stC X128 hx hZ e128 Ar129 (j := (1 : Int32)) hin129 (g := (mkF m 48 #[iv 2, iv p2, iv p3, iv p4, iv p5] [(.int (own_ch p3)), (.int 1), (.ref b110), (.ref b110), (.ref b102), (.ref b102)])) rfl rfl (hb hby d2_48)
  have V129 : Arv Z h129 b110 k110 .char (2 : Int32) [(.int (nar .char (own_ch p2))), (.int (nar .char (own_ch p3)))] (.int 0) := Arv.set Ar129 q129 S129 N129z H129 G129 (fits_nar_char _) W129 1 rfl (Nat.le_of_ble_eq_true rfl)
  have N129 := Fr.snoc X129 N128 ga112
  have f130 := Nat.le_trans f122 (Keep.of_wr W129).1
  have f131 := f123.wr W129 ga112
  have f132 := f124.wr W129 (Or.inr sz113)
  have f133 := f125.wr W129
  have f134 := f126.other W129 (Or.inl ne111)
  have f135 := f127.other W129 (Or.inl ne111)
  obtain ⟨_, _, ⟨T136, L136, k136, n136⟩, -, X136, ⟨Lc136, hQ136, l136, y136, z136⟩, st136⟩ := X129.specialBack hx (y := own_y4) rfl hown (own_m hZ hw 15) (own_m hZ hw 16) (own_m hZ hw 17) (by decide) (backOf (W := 1) (rmG_2 l Z a0 hw [] b102 b110 k110 cs (nar .char (own_ch p2)) (nar .char (own_ch p3)) h129 n0 f130 f135 f134 f133 ga103 V129 (SC.ext f131.2) hcs ne111 (own_chle hd0) (own_chle hd1)) hZ (own_i hw 17 rfl) (own_i hw 10 rfl) (by decide) (by decide)) (g := (mkF m 49 #[iv 2, iv p2, iv p3, iv p4, iv p5] [(.ref b110), (.ref b102), (.ref b102)])) rfl (by rw [hml]; rfl) (Steps.refl _) (a := b102) (argsL := [(.ref b110)]) (rest := [(.ref b102)]) (lenOf pd_5 rfl) rfl (Nat.le_of_eq rfl) (hb hby d2_49) (fun _ _ => ⟨rfl, e129, (by decide : 2 + 1 ≤ _), (by decide : 6 + 2 ≤ _)⟩)
  dsimp only [Pt.U, Pt.locs, Pt.cells, Pt.slots] at X136 l136 y136 z136 st136 hQ136
  subst l136 y136 z136
  obtain ⟨b137, x138, rfl, N136q, K136, f139, f140, f141, f142, f143, f144⟩ := hQ136
  have N136 := Fr.app N129 N136q
  have ne145 : b102 ≠ b137 := Nat.ne_of_lt (Nat.lt_of_lt_of_le f133.lt f143)
  have ne146 : b110 ≠ b137 := Nat.ne_of_lt (Nat.lt_of_lt_of_le V129.lt f143)
  have sz147 : h0.size ≤ b137 := Nat.le_trans f132.1 f143
  have f148 := Nat.le_trans f130 K136.1
  have f149 := f131.keep K136 (allS ga103 all0)
  have f150 := f132.trans K136 (allS (Or.inr sz104) all0)
  have f151 := V129.keep K136 (ninS (Ne.symm ne111) nin0)
  have pre152 : own_P p e below s₁ (entryFrame m #[(.int 2), (.int p2), (.int p3), (.int p4), (.int p5)] 5) T136 (mkF m 52 #[iv 2, iv p2, iv p3, iv p4, iv p5] [(.ref b102)]) := fun t k => pre0 t (by
    show Steps p.tables e below (s₁.setTop (mkF m 0 #[iv 2, iv p2, iv p3, iv p4, iv p5] [])) t
    refine XS.iloadN X0.here hx rfl (hb hby d2_0) rfl ?_
    refine XS.iconst X0.here hx rfl (hb hby d2_1) ?_
    refine XS.icmpYes X0.here hx rfl (pc0 := 2) (pc' := 23) rfl (hb hby d2_2) rfl (feq (by decide : ¬ ((2 : Int32) = (1 : Int32)))).2 (by decide) (by decide) ?_
    refine XS.iloadN X0.here hx rfl (hb hby d2_23) rfl ?_
    refine XS.iconst X0.here hx rfl (hb hby d2_24) ?_
    refine XS.icmpNo X0.here hx rfl (hb hby d2_25) rfl (teq (by decide : (2 : Int32) = (2 : Int32))).2 ?_
    refine st102 _ ?_
    refine XS.dup X102.here hx rfl (hb hby d2_31) rfl rfl ?_
    refine XS.iconst X102.here hx rfl (hb hby d2_32) ?_
    refine st110 _ ?_
    refine XS.dup X110.here hx rfl (hb hby d2_35) rfl rfl ?_
    refine XS.iconst X110.here hx rfl (hb hby d2_36) ?_
    refine XS.iloadN X110.here hx rfl (hb hby d2_37) rfl ?_
    refine st120 _ ?_
    refine st121 _ ?_
    refine XS.dup X121.here hx rfl (hb hby d2_42) rfl rfl ?_
    refine XS.iconst X121.here hx rfl (hb hby d2_43) ?_
    refine XS.iloadN X121.here hx rfl (hb hby d2_44) rfl ?_
    refine st128 _ ?_
    refine st129 _ ?_
    refine st136.trans ?_
    exact k)
  obtain ⟨fs, hr, hrun, hended, hW, hsame⟩ := X136.leave (v := some (.ref b102)) (fun h => by rw [Bd.returns] at h; cases h)
  refine ⟨_, _, pre152 _ ?_, hrun, hended, _, _, rfl, ?_, ⟨_, rfl⟩, hW, hsame.mono (by decide) (by decide)⟩
  · exact retOut X136 hx Bd.returns rfl (Or.inr (Or.inr (Or.inr (Or.inr ⟨rfl, rfl, rfl⟩)))) (hb hby d2_52) hr
  · show QT_2 Z p2 p3 p4 p5 cs h0 n0 _ T136.heap _
    exact ⟨b102, b137, x138, rfl, N136, f150, ga103, sz104, f139, f140, f141, f142, sz147, f144⟩
theorem ef_rmT_3 (m : MethodId) (x1 : Int32) (x2 : Int32) (x3 : Int32) (x4 : Int32) : entryFrame m #[(.int 3), (.int x1), (.int x2), (.int x3), (.int x4)] 5 = mkF m 0 #[iv 3, iv x1, iv x2, iv x3, iv x4] [] := by first | (simp [entryFrame, mkF, argsToLocals, Value.category]; done) | rfl
def QT_3 (Z : State) (p2 : Int32) (p3 : Int32) (p4 : Int32) (p5 : Int32) (cs : Int32) (h0 : Heap) (n0 : Nat) (v : Option Value) (h : Heap) (L : List Loc) : Prop := ∃ (b : Addr) (t : Addr) (kt : ClassId), v = some (.ref b) ∧ Fr n0 L ∧ Keep h0 h [] ∧ (n0 ≤ b) ∧ (h0.size ≤ b) ∧ (Exa Z h b "java/lang/String") ∧ (Fld Z h b "java/lang/String" "coder" "B" (.int 0)) ∧ (Fld Z h b "java/lang/String" "value" "[B" (.ref t)) ∧ (n0 ≤ t) ∧ (h0.size ≤ t) ∧ (Arv Z h t kt .byte (3 : Int32) [(.int (nar .byte ((nar .char (own_ch p2)).toInt8.toInt32))), (.int (nar .byte ((nar .char (own_ch p3)).toInt8.toInt32))), (.int (nar .byte ((nar .char (own_ch p4)).toInt8.toInt32)))] (.int 0))
set_option maxRecDepth 65536 in
set_option maxHeartbeats 40000000 in
theorem rmT_3 (l : Launch) (Z : State) (a0 : Array Value) (hw : ∀ d ∈ tables_1, d.before a0 Z = true) (ws : List Jvm.Cond) (p2 : Int32) (p3 : Int32) (p4 : Int32) (p5 : Int32) (cs : Int32) (h0 : Heap) (n0 : Nat) (Z0 : n0 ≤ h0.size) (hd0 : own_D p2) (hd1 : own_D p3) (hd2 : own_D p4) (SC : Sta Z Z.heap "java/lang/String" "COMPACT_STRINGS" "Z" (.int cs)) (hcs : ¬ (cs = (0 : Int32))) (O0 : Old Z n0 h0) :
    own_M l own_y7 method_5_code 5 (some (.object "java/lang/String")) ws (own_R 4 3 10 66) Z h0 #[(.int 3), (.int p2), (.int p3), (.int p4), (.int p5)] (QT_3 Z p2 p3 p4 p5 cs h0 n0) := by
  refine MetFree.of_bodySF (plainFor_of_name pn_com_example_millipede_millipede_DecimalNumbersCanonicalPinLaw) hisR ?_
  intro p e s m args below meth c s₁ Bd hml0 hP hK
  obtain ⟨rfl, hZ, hh⟩ := hP
  have hx := Bd.exec
  have hby := Bd.bytes
  have hml : c.maxLocals = 5 := hml0
  have hown : s.vm.findClass "com/example/millipede/millipede/DecimalNumbersCanonicalPinLaw" = some m.cls := findClass_of_methodNamed Bd.named
  have hnm := (name_of_methodNamed Bd.named Bd.method).1
  have X0 : Stand p l e (own_R 4 3 10 66) s m #[(.int 3), (.int p2), (.int p3), (.int p4), (.int p5)] below meth c s₁ [] 0 0 := Stand.of_body Bd
  have e0 : s₁.heap = h0 := by rw [← hh, Bd.state]; rfl
  have N0 := Fr.nil n0
  have pre0 : own_P p e below s₁ (entryFrame m #[(.int 3), (.int p2), (.int p3), (.int p4), (.int p5)] 5) s₁ (mkF m 0 #[iv 3, iv p2, iv p3, iv p4, iv p5] []) := fun t k => castTop (ef_rmT_3 m p2 p3 p4 p5) k
  have f101 := Keep.refl h0 []
  obtain ⟨T102, h102, X102, e102, E102, A102, D102, -, st102⟩ := newO X0 hx hZ hown (own_i hw 8 rfl) (own_i hw 9 rfl) (own_i hw 10 rfl) e0 (g := (mkF m 58 #[iv 3, iv p2, iv p3, iv p4, iv p5] [])) rfl (hb hby d2_58) (by decide) (by decide)
  obtain ⟨b102, g102⟩ : ∃ z, z = h0.size := ⟨_, rfl⟩
  rw [← g102] at A102 D102 st102
  have ga103 : n0 ≤ b102 := Nat.le_trans Z0 (Nat.le_of_eq g102.symm)
  have sz104 : h0.size ≤ b102 := Nat.le_trans f101.1 (Nat.le_of_eq g102.symm)
  have f105 : Fld Z h102 b102 "java/lang/String" "coder" "B" (.int 0) := D102 (Or.inr (own_i hw 38 rfl)) (ty := .byte) (by decide)
  have f106 : Fld Z h102 b102 "java/lang/String" "value" "[B" .null := D102 (Or.inr (own_i hw 40 rfl)) (ty := (.array .byte)) (by decide)
  have f107 := Nat.le_trans Z0 E102.1
  have f108 := O0.ext E102
  have f109 := f101.ext E102
  obtain ⟨T110, h110, k110, X110, e110, E110, A110, st110⟩ := newP X102 hx hZ (own_i hw 11 rfl) e102 (g := (mkF m 63 #[iv 3, iv p2, iv p3, iv p4, iv p5] [(.int 3), (.ref b102), (.ref b102)])) rfl (hb hby d2_63) rfl (by decide) (cap := 3) (by decide) (by decide) (by decide) (by decide)
  obtain ⟨b110, g110⟩ : ∃ z, z = h102.size := ⟨_, rfl⟩
  rw [← g110] at A110 st110
  have ne111 : b102 ≠ b110 := Nat.ne_of_lt (Nat.lt_of_lt_of_le A102.lt (Nat.le_of_eq g110.symm))
  have ga112 : n0 ≤ b110 := Nat.le_trans f107 (Nat.le_of_eq g110.symm)
  have sz113 : h0.size ≤ b110 := Nat.le_trans f109.1 (Nat.le_of_eq g110.symm)
  have V110 : Arv Z h110 b110 k110 .char (3 : Int32) [(.int 0), (.int 0), (.int 0)] (.int 0) := (Arv.new A110 (by decide)).pad (pad_rep [] (.int 0) 3)
  have f114 := Nat.le_trans f107 E110.1
  have f115 := f108.ext E110
  have f116 := f109.ext E110
  have f117 := A102.ext E110
  have f118 := f105.ext E110
  have f119 := f106.ext E110
  obtain ⟨_, _, ⟨T120, L120, k120, n120⟩, -, X120, ⟨Lc120, hQ120, l120, y120, z120⟩, st120⟩ := Jvm.LawKit.callS X110 hx (y := own_y6) hown (own_m hZ hw 12) (own_m hZ hw 13) (own_m hZ hw 2) (own_m hZ hw 14) (by decide) (backOf (W := 5) (rmCc l Z a0 hw [] p2 h110 n0 f114 ) hZ (own_i hw 14 rfl) (own_i hw 2 rfl) (by decide) (by decide)) (g := (mkF m 68 #[iv 3, iv p2, iv p3, iv p4, iv p5] [(.int p2), (.int 0), (.ref b110), (.ref b110), (.ref b102), (.ref b102)])) rfl (by rw [hml]; rfl) (argsL := [(.int p2)]) (rest := [(.int 0), (.ref b110), (.ref b110), (.ref b102), (.ref b102)]) (lenOf pd_4 rfl) rfl (Nat.le_of_eq rfl) (hb hby d2_68) (fun _ _ => ⟨rfl, e110, (by decide : 2 + 0 ≤ _), (by decide : 7 + 0 ≤ _)⟩)
  dsimp only [Pt.U, Pt.locs, Pt.cells, Pt.slots] at X120 l120 y120 z120 st120 hQ120
  subst l120 y120 z120
  obtain ⟨rfl, N120q, e120⟩ := hQ120
  have N120 := Fr.app N0 N120q
  obtain ⟨cl121, Ar121, q121, S121, N121z, H121, G121⟩ := (id V110)
  have hin121 : ¬ ((0 : Int32) < 0 ∨ cl121.slots.size ≤ ((0 : Int32)).toNatClampNeg) := inb_of S121 ⟨by decide, by decide⟩
  obtain ⟨T121, h121, X121, e121, W121, st121⟩ := stC X120 hx hZ e120 Ar121 (j := (0 : Int32)) hin121 (g := (mkF m 71 #[iv 3, iv p2, iv p3, iv p4, iv p5] [(.int (own_ch p2)), (.int 0), (.ref b110), (.ref b110), (.ref b102), (.ref b102)])) rfl rfl (hb hby d2_71)
  have V121 : Arv Z h121 b110 k110 .char (3 : Int32) [(.int (nar .char (own_ch p2))), (.int 0), (.int 0)] (.int 0) := Arv.set Ar121 q121 S121 N121z H121 G121 (fits_nar_char _) W121 0 rfl (Nat.le_of_ble_eq_true rfl)
  have N121 := Fr.snoc X121 N120 ga112
  have f122 := Nat.le_trans f114 (Keep.of_wr W121).1
  have f123 := f115.wr W121 ga112
  have f124 := f116.wr W121 (Or.inr sz113)
  have f125 := f117.wr W121
  have f126 := f118.other W121 (Or.inl ne111)
  have f127 := f119.other W121 (Or.inl ne111)
  obtain ⟨_, _, ⟨T128, L128, k128, n128⟩, -, X128, ⟨Lc128, hQ128, l128, y128, z128⟩, st128⟩ := Jvm.LawKit.callS X121 hx (y := own_y6) hown (own_m hZ hw 12) (own_m hZ hw 13) (own_m hZ hw 2) (own_m hZ hw 14) (by decide) (backOf (W := 5) (rmCc l Z a0 hw [] p3 h121 n0 f122 ) hZ (own_i hw 14 rfl) (own_i hw 2 rfl) (by decide) (by decide)) (g := (mkF m 75 #[iv 3, iv p2, iv p3, iv p4, iv p5] [(.int p3), (.int 1), (.ref b110), (.ref b110), (.ref b102), (.ref b102)])) rfl (by rw [hml]; rfl) (argsL := [(.int p3)]) (rest := [(.int 1), (.ref b110), (.ref b110), (.ref b102), (.ref b102)]) (lenOf pd_4 rfl) rfl (Nat.le_of_eq rfl) (hb hby d2_75) (fun _ _ => ⟨rfl, e121, (by decide : 2 + 0 ≤ _), (by decide : 7 + 0 ≤ _)⟩)
  dsimp only [Pt.U, Pt.locs, Pt.cells, Pt.slots] at X128 l128 y128 z128 st128 hQ128
  subst l128 y128 z128
  obtain ⟨rfl, N128q, e128⟩ := hQ128
  have N128 := Fr.app N121 N128q
  obtain ⟨cl129, Ar129, q129, S129, N129z, H129, G129⟩ := (id V121)
  have hin129 : ¬ ((1 : Int32) < 0 ∨ cl129.slots.size ≤ ((1 : Int32)).toNatClampNeg) := inb_of S129 ⟨by decide, by decide⟩
  obtain ⟨T129, h129, X129, e129, W129, st129⟩ := stC X128 hx hZ e128 Ar129 (j := (1 : Int32)) hin129 (g := (mkF m 78 #[iv 3, iv p2, iv p3, iv p4, iv p5] [(.int (own_ch p3)), (.int 1), (.ref b110), (.ref b110), (.ref b102), (.ref b102)])) rfl rfl (hb hby d2_78)
  have V129 : Arv Z h129 b110 k110 .char (3 : Int32) [(.int (nar .char (own_ch p2))), (.int (nar .char (own_ch p3))), (.int 0)] (.int 0) := Arv.set Ar129 q129 S129 N129z H129 G129 (fits_nar_char _) W129 1 rfl (Nat.le_of_ble_eq_true rfl)
  have N129 := Fr.snoc X129 N128 ga112
  have f130 := Nat.le_trans f122 (Keep.of_wr W129).1
  have f131 := f123.wr W129 ga112
  have f132 := f124.wr W129 (Or.inr sz113)
  have f133 := f125.wr W129
  have f134 := f126.other W129 (Or.inl ne111)
  have f135 := f127.other W129 (Or.inl ne111)
  obtain ⟨_, _, ⟨T136, L136, k136, n136⟩, -, X136, ⟨Lc136, hQ136, l136, y136, z136⟩, st136⟩ := Jvm.LawKit.callS X129 hx (y := own_y6) hown (own_m hZ hw 12) (own_m hZ hw 13) (own_m hZ hw 2) (own_m hZ hw 14) (by decide) (backOf (W := 5) (rmCc l Z a0 hw [] p4 h129 n0 f130 ) hZ (own_i hw 14 rfl) (own_i hw 2 rfl) (by decide) (by decide)) (g := (mkF m 82 #[iv 3, iv p2, iv p3, iv p4, iv p5] [(.int p4), (.int 2), (.ref b110), (.ref b110), (.ref b102), (.ref b102)])) rfl (by rw [hml]; rfl) (argsL := [(.int p4)]) (rest := [(.int 2), (.ref b110), (.ref b110), (.ref b102), (.ref b102)]) (lenOf pd_4 rfl) rfl (Nat.le_of_eq rfl) (hb hby d2_82) (fun _ _ => ⟨rfl, e129, (by decide : 2 + 0 ≤ _), (by decide : 7 + 0 ≤ _)⟩)
  dsimp only [Pt.U, Pt.locs, Pt.cells, Pt.slots] at X136 l136 y136 z136 st136 hQ136
  subst l136 y136 z136
  obtain ⟨rfl, N136q, e136⟩ := hQ136
  have N136 := Fr.app N129 N136q
  obtain ⟨cl137, Ar137, q137, S137, N137z, H137, G137⟩ := (id V129)
  have hin137 : ¬ ((2 : Int32) < 0 ∨ cl137.slots.size ≤ ((2 : Int32)).toNatClampNeg) := inb_of S137 ⟨by decide, by decide⟩
  obtain ⟨T137, h137, X137, e137, W137, st137⟩ := stC X136 hx hZ e136 Ar137 (j := (2 : Int32)) hin137 (g := (mkF m 85 #[iv 3, iv p2, iv p3, iv p4, iv p5] [(.int (own_ch p4)), (.int 2), (.ref b110), (.ref b110), (.ref b102), (.ref b102)])) rfl rfl (hb hby d2_85)
  have V137 : Arv Z h137 b110 k110 .char (3 : Int32) [(.int (nar .char (own_ch p2))), (.int (nar .char (own_ch p3))), (.int (nar .char (own_ch p4)))] (.int 0) := Arv.set Ar137 q137 S137 N137z H137 G137 (fits_nar_char _) W137 2 rfl (Nat.le_of_ble_eq_true rfl)
  have N137 := Fr.snoc X137 N136 ga112
  have f138 := Nat.le_trans f130 (Keep.of_wr W137).1
  have f139 := f131.wr W137 ga112
  have f140 := f132.wr W137 (Or.inr sz113)
  have f141 := f133.wr W137
  have f142 := f134.other W137 (Or.inl ne111)
  have f143 := f135.other W137 (Or.inl ne111)
  obtain ⟨_, _, ⟨T144, L144, k144, n144⟩, -, X144, ⟨Lc144, hQ144, l144, y144, z144⟩, st144⟩ := X137.specialBack hx (y := own_y4) rfl hown (own_m hZ hw 15) (own_m hZ hw 16) (own_m hZ hw 17) (by decide) (backOf (W := 1) (rmG_3 l Z a0 hw [] b102 b110 k110 cs (nar .char (own_ch p2)) (nar .char (own_ch p3)) (nar .char (own_ch p4)) h137 n0 f138 f143 f142 f141 ga103 V137 (SC.ext f139.2) hcs ne111 (own_chle hd0) (own_chle hd1) (own_chle hd2)) hZ (own_i hw 17 rfl) (own_i hw 10 rfl) (by decide) (by decide)) (g := (mkF m 86 #[iv 3, iv p2, iv p3, iv p4, iv p5] [(.ref b110), (.ref b102), (.ref b102)])) rfl (by rw [hml]; rfl) (Steps.refl _) (a := b102) (argsL := [(.ref b110)]) (rest := [(.ref b102)]) (lenOf pd_5 rfl) rfl (Nat.le_of_eq rfl) (hb hby d2_86) (fun _ _ => ⟨rfl, e137, (by decide : 2 + 1 ≤ _), (by decide : 7 + 3 ≤ _)⟩)
  dsimp only [Pt.U, Pt.locs, Pt.cells, Pt.slots] at X144 l144 y144 z144 st144 hQ144
  subst l144 y144 z144
  obtain ⟨b145, x146, rfl, N144q, K144, f147, f148, f149, f150, f151, f152⟩ := hQ144
  have N144 := Fr.app N137 N144q
  have ne153 : b102 ≠ b145 := Nat.ne_of_lt (Nat.lt_of_lt_of_le f141.lt f151)
  have ne154 : b110 ≠ b145 := Nat.ne_of_lt (Nat.lt_of_lt_of_le V137.lt f151)
  have sz155 : h0.size ≤ b145 := Nat.le_trans f140.1 f151
  have f156 := Nat.le_trans f138 K144.1
  have f157 := f139.keep K144 (allS ga103 all0)
  have f158 := f140.trans K144 (allS (Or.inr sz104) all0)
  have f159 := V137.keep K144 (ninS (Ne.symm ne111) nin0)
  have pre160 : own_P p e below s₁ (entryFrame m #[(.int 3), (.int p2), (.int p3), (.int p4), (.int p5)] 5) T144 (mkF m 89 #[iv 3, iv p2, iv p3, iv p4, iv p5] [(.ref b102)]) := fun t k => pre0 t (by
    show Steps p.tables e below (s₁.setTop (mkF m 0 #[iv 3, iv p2, iv p3, iv p4, iv p5] [])) t
    refine XS.iloadN X0.here hx rfl (hb hby d2_0) rfl ?_
    refine XS.iconst X0.here hx rfl (hb hby d2_1) ?_
    refine XS.icmpYes X0.here hx rfl (pc0 := 2) (pc' := 23) rfl (hb hby d2_2) rfl (feq (by decide : ¬ ((3 : Int32) = (1 : Int32)))).2 (by decide) (by decide) ?_
    refine XS.iloadN X0.here hx rfl (hb hby d2_23) rfl ?_
    refine XS.iconst X0.here hx rfl (hb hby d2_24) ?_
    refine XS.icmpYes X0.here hx rfl (pc0 := 25) (pc' := 53) rfl (hb hby d2_25) rfl (feq (by decide : ¬ ((3 : Int32) = (2 : Int32)))).2 (by decide) (by decide) ?_
    refine XS.iloadN X0.here hx rfl (hb hby d2_53) rfl ?_
    refine XS.iconst X0.here hx rfl (hb hby d2_54) ?_
    refine XS.icmpNo X0.here hx rfl (hb hby d2_55) rfl (teq (by decide : (3 : Int32) = (3 : Int32))).2 ?_
    refine st102 _ ?_
    refine XS.dup X102.here hx rfl (hb hby d2_61) rfl rfl ?_
    refine XS.iconst X102.here hx rfl (hb hby d2_62) ?_
    refine st110 _ ?_
    refine XS.dup X110.here hx rfl (hb hby d2_65) rfl rfl ?_
    refine XS.iconst X110.here hx rfl (hb hby d2_66) ?_
    refine XS.iloadN X110.here hx rfl (hb hby d2_67) rfl ?_
    refine st120 _ ?_
    refine st121 _ ?_
    refine XS.dup X121.here hx rfl (hb hby d2_72) rfl rfl ?_
    refine XS.iconst X121.here hx rfl (hb hby d2_73) ?_
    refine XS.iloadN X121.here hx rfl (hb hby d2_74) rfl ?_
    refine st128 _ ?_
    refine st129 _ ?_
    refine XS.dup X129.here hx rfl (hb hby d2_79) rfl rfl ?_
    refine XS.iconst X129.here hx rfl (hb hby d2_80) ?_
    show Steps p.tables e below (T129.setTop (mkF m 81 #[iv 3, iv p2, iv p3, iv p4, iv p5] [(.int 2), (.ref b110), (.ref b110), (.ref b102), (.ref b102)])) t
    refine XS.iloadN X129.here hx rfl (hb hby d2_81) rfl ?_
    refine st136 _ ?_
    refine st137 _ ?_
    refine st144.trans ?_
    exact k)
  obtain ⟨fs, hr, hrun, hended, hW, hsame⟩ := X144.leave (v := some (.ref b102)) (fun h => by rw [Bd.returns] at h; cases h)
  refine ⟨_, _, pre160 _ ?_, hrun, hended, _, _, rfl, ?_, ⟨_, rfl⟩, hW, hsame.mono (by decide) (by decide)⟩
  · exact retOut X144 hx Bd.returns rfl (Or.inr (Or.inr (Or.inr (Or.inr ⟨rfl, rfl, rfl⟩)))) (hb hby d2_89) hr
  · show QT_3 Z p2 p3 p4 p5 cs h0 n0 _ T144.heap _
    exact ⟨b102, b145, x146, rfl, N144, f158, ga103, sz104, f147, f148, f149, f150, sz155, f152⟩
theorem ef_rmT_4 (m : MethodId) (x1 : Int32) (x2 : Int32) (x3 : Int32) (x4 : Int32) : entryFrame m #[(.int 4), (.int x1), (.int x2), (.int x3), (.int x4)] 5 = mkF m 0 #[iv 4, iv x1, iv x2, iv x3, iv x4] [] := by first | (simp [entryFrame, mkF, argsToLocals, Value.category]; done) | rfl
def QT_4 (Z : State) (p2 : Int32) (p3 : Int32) (p4 : Int32) (p5 : Int32) (cs : Int32) (h0 : Heap) (n0 : Nat) (v : Option Value) (h : Heap) (L : List Loc) : Prop := ∃ (b : Addr) (t : Addr) (kt : ClassId), v = some (.ref b) ∧ Fr n0 L ∧ Keep h0 h [] ∧ (n0 ≤ b) ∧ (h0.size ≤ b) ∧ (Exa Z h b "java/lang/String") ∧ (Fld Z h b "java/lang/String" "coder" "B" (.int 0)) ∧ (Fld Z h b "java/lang/String" "value" "[B" (.ref t)) ∧ (n0 ≤ t) ∧ (h0.size ≤ t) ∧ (Arv Z h t kt .byte (4 : Int32) [(.int (nar .byte ((nar .char (own_ch p2)).toInt8.toInt32))), (.int (nar .byte ((nar .char (own_ch p3)).toInt8.toInt32))), (.int (nar .byte ((nar .char (own_ch p4)).toInt8.toInt32))), (.int (nar .byte ((nar .char (own_ch p5)).toInt8.toInt32)))] (.int 0))
set_option maxRecDepth 65536 in
set_option maxHeartbeats 40000000 in
theorem rmT_4 (l : Launch) (Z : State) (a0 : Array Value) (hw : ∀ d ∈ tables_1, d.before a0 Z = true) (ws : List Jvm.Cond) (p2 : Int32) (p3 : Int32) (p4 : Int32) (p5 : Int32) (cs : Int32) (h0 : Heap) (n0 : Nat) (Z0 : n0 ≤ h0.size) (hd0 : own_D p2) (hd1 : own_D p3) (hd2 : own_D p4) (hd3 : own_D p5) (SC : Sta Z Z.heap "java/lang/String" "COMPACT_STRINGS" "Z" (.int cs)) (hcs : ¬ (cs = (0 : Int32))) (O0 : Old Z n0 h0) :
    own_M l own_y7 method_5_code 5 (some (.object "java/lang/String")) ws (own_R 4 3 12 66) Z h0 #[(.int 4), (.int p2), (.int p3), (.int p4), (.int p5)] (QT_4 Z p2 p3 p4 p5 cs h0 n0) := by
  refine MetFree.of_bodySF (plainFor_of_name pn_com_example_millipede_millipede_DecimalNumbersCanonicalPinLaw) hisR ?_
  intro p e s m args below meth c s₁ Bd hml0 hP hK
  obtain ⟨rfl, hZ, hh⟩ := hP
  have hx := Bd.exec
  have hby := Bd.bytes
  have hml : c.maxLocals = 5 := hml0
  have hown : s.vm.findClass "com/example/millipede/millipede/DecimalNumbersCanonicalPinLaw" = some m.cls := findClass_of_methodNamed Bd.named
  have hnm := (name_of_methodNamed Bd.named Bd.method).1
  have X0 : Stand p l e (own_R 4 3 12 66) s m #[(.int 4), (.int p2), (.int p3), (.int p4), (.int p5)] below meth c s₁ [] 0 0 := Stand.of_body Bd
  have e0 : s₁.heap = h0 := by rw [← hh, Bd.state]; rfl
  have N0 := Fr.nil n0
  have pre0 : own_P p e below s₁ (entryFrame m #[(.int 4), (.int p2), (.int p3), (.int p4), (.int p5)] 5) s₁ (mkF m 0 #[iv 4, iv p2, iv p3, iv p4, iv p5] []) := fun t k => castTop (ef_rmT_4 m p2 p3 p4 p5) k
  have f101 := Keep.refl h0 []
  obtain ⟨T102, h102, X102, e102, E102, A102, D102, -, st102⟩ := newO X0 hx hZ hown (own_i hw 8 rfl) (own_i hw 9 rfl) (own_i hw 10 rfl) e0 (g := (mkF m 90 #[iv 4, iv p2, iv p3, iv p4, iv p5] [])) rfl (hb hby d2_90) (by decide) (by decide)
  obtain ⟨b102, g102⟩ : ∃ z, z = h0.size := ⟨_, rfl⟩
  rw [← g102] at A102 D102 st102
  have ga103 : n0 ≤ b102 := Nat.le_trans Z0 (Nat.le_of_eq g102.symm)
  have sz104 : h0.size ≤ b102 := Nat.le_trans f101.1 (Nat.le_of_eq g102.symm)
  have f105 : Fld Z h102 b102 "java/lang/String" "coder" "B" (.int 0) := D102 (Or.inr (own_i hw 38 rfl)) (ty := .byte) (by decide)
  have f106 : Fld Z h102 b102 "java/lang/String" "value" "[B" .null := D102 (Or.inr (own_i hw 40 rfl)) (ty := (.array .byte)) (by decide)
  have f107 := Nat.le_trans Z0 E102.1
  have f108 := O0.ext E102
  have f109 := f101.ext E102
  obtain ⟨T110, h110, k110, X110, e110, E110, A110, st110⟩ := newP X102 hx hZ (own_i hw 11 rfl) e102 (g := (mkF m 95 #[iv 4, iv p2, iv p3, iv p4, iv p5] [(.int 4), (.ref b102), (.ref b102)])) rfl (hb hby d2_95) rfl (by decide) (cap := 4) (by decide) (by decide) (by decide) (by decide)
  obtain ⟨b110, g110⟩ : ∃ z, z = h102.size := ⟨_, rfl⟩
  rw [← g110] at A110 st110
  have ne111 : b102 ≠ b110 := Nat.ne_of_lt (Nat.lt_of_lt_of_le A102.lt (Nat.le_of_eq g110.symm))
  have ga112 : n0 ≤ b110 := Nat.le_trans f107 (Nat.le_of_eq g110.symm)
  have sz113 : h0.size ≤ b110 := Nat.le_trans f109.1 (Nat.le_of_eq g110.symm)
  have V110 : Arv Z h110 b110 k110 .char (4 : Int32) [(.int 0), (.int 0), (.int 0), (.int 0)] (.int 0) := (Arv.new A110 (by decide)).pad (pad_rep [] (.int 0) 4)
  have f114 := Nat.le_trans f107 E110.1
  have f115 := f108.ext E110
  have f116 := f109.ext E110
  have f117 := A102.ext E110
  have f118 := f105.ext E110
  have f119 := f106.ext E110
  obtain ⟨_, _, ⟨T120, L120, k120, n120⟩, -, X120, ⟨Lc120, hQ120, l120, y120, z120⟩, st120⟩ := Jvm.LawKit.callS X110 hx (y := own_y6) hown (own_m hZ hw 12) (own_m hZ hw 13) (own_m hZ hw 2) (own_m hZ hw 14) (by decide) (backOf (W := 5) (rmCc l Z a0 hw [] p2 h110 n0 f114 ) hZ (own_i hw 14 rfl) (own_i hw 2 rfl) (by decide) (by decide)) (g := (mkF m 100 #[iv 4, iv p2, iv p3, iv p4, iv p5] [(.int p2), (.int 0), (.ref b110), (.ref b110), (.ref b102), (.ref b102)])) rfl (by rw [hml]; rfl) (argsL := [(.int p2)]) (rest := [(.int 0), (.ref b110), (.ref b110), (.ref b102), (.ref b102)]) (lenOf pd_4 rfl) rfl (Nat.le_of_eq rfl) (hb hby d2_100) (fun _ _ => ⟨rfl, e110, (by decide : 2 + 0 ≤ _), (by decide : 8 + 0 ≤ _)⟩)
  dsimp only [Pt.U, Pt.locs, Pt.cells, Pt.slots] at X120 l120 y120 z120 st120 hQ120
  subst l120 y120 z120
  obtain ⟨rfl, N120q, e120⟩ := hQ120
  have N120 := Fr.app N0 N120q
  obtain ⟨cl121, Ar121, q121, S121, N121z, H121, G121⟩ := (id V110)
  have hin121 : ¬ ((0 : Int32) < 0 ∨ cl121.slots.size ≤ ((0 : Int32)).toNatClampNeg) := inb_of S121 ⟨by decide, by decide⟩
  obtain ⟨T121, h121, X121, e121, W121, st121⟩ := stC X120 hx hZ e120 Ar121 (j := (0 : Int32)) hin121 (g := (mkF m 103 #[iv 4, iv p2, iv p3, iv p4, iv p5] [(.int (own_ch p2)), (.int 0), (.ref b110), (.ref b110), (.ref b102), (.ref b102)])) rfl rfl (hb hby d2_103)
  have V121 : Arv Z h121 b110 k110 .char (4 : Int32) [(.int (nar .char (own_ch p2))), (.int 0), (.int 0), (.int 0)] (.int 0) := Arv.set Ar121 q121 S121 N121z H121 G121 (fits_nar_char _) W121 0 rfl (Nat.le_of_ble_eq_true rfl)
  have N121 := Fr.snoc X121 N120 ga112
  have f122 := Nat.le_trans f114 (Keep.of_wr W121).1
  have f123 := f115.wr W121 ga112
  have f124 := f116.wr W121 (Or.inr sz113)
  have f125 := f117.wr W121
  have f126 := f118.other W121 (Or.inl ne111)
  have f127 := f119.other W121 (Or.inl ne111)
  obtain ⟨_, _, ⟨T128, L128, k128, n128⟩, -, X128, ⟨Lc128, hQ128, l128, y128, z128⟩, st128⟩ := Jvm.LawKit.callS X121 hx (y := own_y6) hown (own_m hZ hw 12) (own_m hZ hw 13) (own_m hZ hw 2) (own_m hZ hw 14) (by decide) (backOf (W := 5) (rmCc l Z a0 hw [] p3 h121 n0 f122 ) hZ (own_i hw 14 rfl) (own_i hw 2 rfl) (by decide) (by decide)) (g := (mkF m 107 #[iv 4, iv p2, iv p3, iv p4, iv p5] [(.int p3), (.int 1), (.ref b110), (.ref b110), (.ref b102), (.ref b102)])) rfl (by rw [hml]; rfl) (argsL := [(.int p3)]) (rest := [(.int 1), (.ref b110), (.ref b110), (.ref b102), (.ref b102)]) (lenOf pd_4 rfl) rfl (Nat.le_of_eq rfl) (hb hby d2_107) (fun _ _ => ⟨rfl, e121, (by decide : 2 + 0 ≤ _), (by decide : 8 + 0 ≤ _)⟩)
  dsimp only [Pt.U, Pt.locs, Pt.cells, Pt.slots] at X128 l128 y128 z128 st128 hQ128
  subst l128 y128 z128
  obtain ⟨rfl, N128q, e128⟩ := hQ128
  have N128 := Fr.app N121 N128q
  obtain ⟨cl129, Ar129, q129, S129, N129z, H129, G129⟩ := (id V121)
  have hin129 : ¬ ((1 : Int32) < 0 ∨ cl129.slots.size ≤ ((1 : Int32)).toNatClampNeg) := inb_of S129 ⟨by decide, by decide⟩
  obtain ⟨T129, h129, X129, e129, W129, st129⟩ := stC X128 hx hZ e128 Ar129 (j := (1 : Int32)) hin129 (g := (mkF m 110 #[iv 4, iv p2, iv p3, iv p4, iv p5] [(.int (own_ch p3)), (.int 1), (.ref b110), (.ref b110), (.ref b102), (.ref b102)])) rfl rfl (hb hby d2_110)
  have V129 : Arv Z h129 b110 k110 .char (4 : Int32) [(.int (nar .char (own_ch p2))), (.int (nar .char (own_ch p3))), (.int 0), (.int 0)] (.int 0) := Arv.set Ar129 q129 S129 N129z H129 G129 (fits_nar_char _) W129 1 rfl (Nat.le_of_ble_eq_true rfl)
  have N129 := Fr.snoc X129 N128 ga112
  have f130 := Nat.le_trans f122 (Keep.of_wr W129).1
  have f131 := f123.wr W129 ga112
  have f132 := f124.wr W129 (Or.inr sz113)
  have f133 := f125.wr W129
  have f134 := f126.other W129 (Or.inl ne111)
  have f135 := f127.other W129 (Or.inl ne111)
  obtain ⟨_, _, ⟨T136, L136, k136, n136⟩, -, X136, ⟨Lc136, hQ136, l136, y136, z136⟩, st136⟩ := Jvm.LawKit.callS X129 hx (y := own_y6) hown (own_m hZ hw 12) (own_m hZ hw 13) (own_m hZ hw 2) (own_m hZ hw 14) (by decide) (backOf (W := 5) (rmCc l Z a0 hw [] p4 h129 n0 f130 ) hZ (own_i hw 14 rfl) (own_i hw 2 rfl) (by decide) (by decide)) (g := (mkF m 114 #[iv 4, iv p2, iv p3, iv p4, iv p5] [(.int p4), (.int 2), (.ref b110), (.ref b110), (.ref b102), (.ref b102)])) rfl (by rw [hml]; rfl) (argsL := [(.int p4)]) (rest := [(.int 2), (.ref b110), (.ref b110), (.ref b102), (.ref b102)]) (lenOf pd_4 rfl) rfl (Nat.le_of_eq rfl) (hb hby d2_114) (fun _ _ => ⟨rfl, e129, (by decide : 2 + 0 ≤ _), (by decide : 8 + 0 ≤ _)⟩)
  dsimp only [Pt.U, Pt.locs, Pt.cells, Pt.slots] at X136 l136 y136 z136 st136 hQ136
  subst l136 y136 z136
  obtain ⟨rfl, N136q, e136⟩ := hQ136
  have N136 := Fr.app N129 N136q
  obtain ⟨cl137, Ar137, q137, S137, N137z, H137, G137⟩ := (id V129)
  have hin137 : ¬ ((2 : Int32) < 0 ∨ cl137.slots.size ≤ ((2 : Int32)).toNatClampNeg) := inb_of S137 ⟨by decide, by decide⟩
  obtain ⟨T137, h137, X137, e137, W137, st137⟩ := stC X136 hx hZ e136 Ar137 (j := (2 : Int32)) hin137 (g := (mkF m 117 #[iv 4, iv p2, iv p3, iv p4, iv p5] [(.int (own_ch p4)), (.int 2), (.ref b110), (.ref b110), (.ref b102), (.ref b102)])) rfl rfl (hb hby d2_117)
  have V137 : Arv Z h137 b110 k110 .char (4 : Int32) [(.int (nar .char (own_ch p2))), (.int (nar .char (own_ch p3))), (.int (nar .char (own_ch p4))), (.int 0)] (.int 0) := Arv.set Ar137 q137 S137 N137z H137 G137 (fits_nar_char _) W137 2 rfl (Nat.le_of_ble_eq_true rfl)
  have N137 := Fr.snoc X137 N136 ga112
  have f138 := Nat.le_trans f130 (Keep.of_wr W137).1
  have f139 := f131.wr W137 ga112
  have f140 := f132.wr W137 (Or.inr sz113)
  have f141 := f133.wr W137
  have f142 := f134.other W137 (Or.inl ne111)
  have f143 := f135.other W137 (Or.inl ne111)
  obtain ⟨_, _, ⟨T144, L144, k144, n144⟩, -, X144, ⟨Lc144, hQ144, l144, y144, z144⟩, st144⟩ := Jvm.LawKit.callS X137 hx (y := own_y6) hown (own_m hZ hw 12) (own_m hZ hw 13) (own_m hZ hw 2) (own_m hZ hw 14) (by decide) (backOf (W := 5) (rmCc l Z a0 hw [] p5 h137 n0 f138 ) hZ (own_i hw 14 rfl) (own_i hw 2 rfl) (by decide) (by decide)) (g := (mkF m 122 #[iv 4, iv p2, iv p3, iv p4, iv p5] [(.int p5), (.int 3), (.ref b110), (.ref b110), (.ref b102), (.ref b102)])) rfl (by rw [hml]; rfl) (argsL := [(.int p5)]) (rest := [(.int 3), (.ref b110), (.ref b110), (.ref b102), (.ref b102)]) (lenOf pd_4 rfl) rfl (Nat.le_of_eq rfl) (hb hby d2_122) (fun _ _ => ⟨rfl, e137, (by decide : 2 + 0 ≤ _), (by decide : 8 + 0 ≤ _)⟩)
  dsimp only [Pt.U, Pt.locs, Pt.cells, Pt.slots] at X144 l144 y144 z144 st144 hQ144
  subst l144 y144 z144
  obtain ⟨rfl, N144q, e144⟩ := hQ144
  have N144 := Fr.app N137 N144q
  obtain ⟨cl145, Ar145, q145, S145, N145z, H145, G145⟩ := (id V137)
  have hin145 : ¬ ((3 : Int32) < 0 ∨ cl145.slots.size ≤ ((3 : Int32)).toNatClampNeg) := inb_of S145 ⟨by decide, by decide⟩
  obtain ⟨T145, h145, X145, e145, W145, st145⟩ := stC X144 hx hZ e144 Ar145 (j := (3 : Int32)) hin145 (g := (mkF m 125 #[iv 4, iv p2, iv p3, iv p4, iv p5] [(.int (own_ch p5)), (.int 3), (.ref b110), (.ref b110), (.ref b102), (.ref b102)])) rfl rfl (hb hby d2_125)
  have V145 : Arv Z h145 b110 k110 .char (4 : Int32) [(.int (nar .char (own_ch p2))), (.int (nar .char (own_ch p3))), (.int (nar .char (own_ch p4))), (.int (nar .char (own_ch p5)))] (.int 0) := Arv.set Ar145 q145 S145 N145z H145 G145 (fits_nar_char _) W145 3 rfl (Nat.le_of_ble_eq_true rfl)
  have N145 := Fr.snoc X145 N144 ga112
  have f146 := Nat.le_trans f138 (Keep.of_wr W145).1
  have f147 := f139.wr W145 ga112
  have f148 := f140.wr W145 (Or.inr sz113)
  have f149 := f141.wr W145
  have f150 := f142.other W145 (Or.inl ne111)
  have f151 := f143.other W145 (Or.inl ne111)
  obtain ⟨_, _, ⟨T152, L152, k152, n152⟩, -, X152, ⟨Lc152, hQ152, l152, y152, z152⟩, st152⟩ := X145.specialBack hx (y := own_y4) rfl hown (own_m hZ hw 15) (own_m hZ hw 16) (own_m hZ hw 17) (by decide) (backOf (W := 1) (rmG_4 l Z a0 hw [] b102 b110 k110 cs (nar .char (own_ch p2)) (nar .char (own_ch p3)) (nar .char (own_ch p4)) (nar .char (own_ch p5)) h145 n0 f146 f151 f150 f149 ga103 V145 (SC.ext f147.2) hcs ne111 (own_chle hd0) (own_chle hd1) (own_chle hd2) (own_chle hd3)) hZ (own_i hw 17 rfl) (own_i hw 10 rfl) (by decide) (by decide)) (g := (mkF m 126 #[iv 4, iv p2, iv p3, iv p4, iv p5] [(.ref b110), (.ref b102), (.ref b102)])) rfl (by rw [hml]; rfl) (Steps.refl _) (a := b102) (argsL := [(.ref b110)]) (rest := [(.ref b102)]) (lenOf pd_5 rfl) rfl (Nat.le_of_eq rfl) (hb hby d2_126) (fun _ _ => ⟨rfl, e145, (by decide : 2 + 1 ≤ _), (by decide : 8 + 4 ≤ _)⟩)
  dsimp only [Pt.U, Pt.locs, Pt.cells, Pt.slots] at X152 l152 y152 z152 st152 hQ152
  subst l152 y152 z152
  obtain ⟨b153, x154, rfl, N152q, K152, f155, f156, f157, f158, f159, f160⟩ := hQ152
  have N152 := Fr.app N145 N152q
  have ne161 : b102 ≠ b153 := Nat.ne_of_lt (Nat.lt_of_lt_of_le f149.lt f159)
  have ne162 : b110 ≠ b153 := Nat.ne_of_lt (Nat.lt_of_lt_of_le V145.lt f159)
  have sz163 : h0.size ≤ b153 := Nat.le_trans f148.1 f159
  have f164 := Nat.le_trans f146 K152.1
  have f165 := f147.keep K152 (allS ga103 all0)
  have f166 := f148.trans K152 (allS (Or.inr sz104) all0)
  have f167 := V145.keep K152 (ninS (Ne.symm ne111) nin0)
  have pre168 : own_P p e below s₁ (entryFrame m #[(.int 4), (.int p2), (.int p3), (.int p4), (.int p5)] 5) T152 (mkF m 129 #[iv 4, iv p2, iv p3, iv p4, iv p5] [(.ref b102)]) := fun t k => pre0 t (by
    show Steps p.tables e below (s₁.setTop (mkF m 0 #[iv 4, iv p2, iv p3, iv p4, iv p5] [])) t
    refine XS.iloadN X0.here hx rfl (hb hby d2_0) rfl ?_
    refine XS.iconst X0.here hx rfl (hb hby d2_1) ?_
    refine XS.icmpYes X0.here hx rfl (pc0 := 2) (pc' := 23) rfl (hb hby d2_2) rfl (feq (by decide : ¬ ((4 : Int32) = (1 : Int32)))).2 (by decide) (by decide) ?_
    refine XS.iloadN X0.here hx rfl (hb hby d2_23) rfl ?_
    refine XS.iconst X0.here hx rfl (hb hby d2_24) ?_
    refine XS.icmpYes X0.here hx rfl (pc0 := 25) (pc' := 53) rfl (hb hby d2_25) rfl (feq (by decide : ¬ ((4 : Int32) = (2 : Int32)))).2 (by decide) (by decide) ?_
    refine XS.iloadN X0.here hx rfl (hb hby d2_53) rfl ?_
    refine XS.iconst X0.here hx rfl (hb hby d2_54) ?_
    refine XS.icmpYes X0.here hx rfl (pc0 := 55) (pc' := 90) rfl (hb hby d2_55) rfl (feq (by decide : ¬ ((4 : Int32) = (3 : Int32)))).2 (by decide) (by decide) ?_
    refine st102 _ ?_
    refine XS.dup X102.here hx rfl (hb hby d2_93) rfl rfl ?_
    refine XS.iconst X102.here hx rfl (hb hby d2_94) ?_
    refine st110 _ ?_
    refine XS.dup X110.here hx rfl (hb hby d2_97) rfl rfl ?_
    refine XS.iconst X110.here hx rfl (hb hby d2_98) ?_
    refine XS.iloadN X110.here hx rfl (hb hby d2_99) rfl ?_
    refine st120 _ ?_
    refine st121 _ ?_
    refine XS.dup X121.here hx rfl (hb hby d2_104) rfl rfl ?_
    refine XS.iconst X121.here hx rfl (hb hby d2_105) ?_
    refine XS.iloadN X121.here hx rfl (hb hby d2_106) rfl ?_
    refine st128 _ ?_
    refine st129 _ ?_
    refine XS.dup X129.here hx rfl (hb hby d2_111) rfl rfl ?_
    refine XS.iconst X129.here hx rfl (hb hby d2_112) ?_
    show Steps p.tables e below (T129.setTop (mkF m 113 #[iv 4, iv p2, iv p3, iv p4, iv p5] [(.int 2), (.ref b110), (.ref b110), (.ref b102), (.ref b102)])) t
    refine XS.iloadN X129.here hx rfl (hb hby d2_113) rfl ?_
    refine st136 _ ?_
    refine st137 _ ?_
    refine XS.dup X137.here hx rfl (hb hby d2_118) rfl rfl ?_
    refine XS.iconst X137.here hx rfl (hb hby d2_119) ?_
    refine XS.iload X137.here hx rfl (hb hby d2_120) rfl ?_
    refine st144 _ ?_
    refine st145 _ ?_
    refine st152.trans ?_
    exact k)
  obtain ⟨fs, hr, hrun, hended, hW, hsame⟩ := X152.leave (v := some (.ref b102)) (fun h => by rw [Bd.returns] at h; cases h)
  refine ⟨_, _, pre168 _ ?_, hrun, hended, _, _, rfl, ?_, ⟨_, rfl⟩, hW, hsame.mono (by decide) (by decide)⟩
  · exact retOut X152 hx Bd.returns rfl (Or.inr (Or.inr (Or.inr (Or.inr ⟨rfl, rfl, rfl⟩)))) (hb hby d2_129) hr
  · show QT_4 Z p2 p3 p4 p5 cs h0 n0 _ T152.heap _
    exact ⟨b102, b153, x154, rfl, N152, f166, ga103, sz104, f155, f156, f157, f158, sz163, f160⟩
theorem ef_rmV_1 (m : MethodId) (x0 : Int32) : entryFrame m #[(.int x0)] 1 = mkF m 0 #[iv x0] [] := by first | (simp [entryFrame, mkF, argsToLocals, Value.category]; done) | rfl
def QV_1 (Z : State) (p1 : Int32) (cs : Int32) (h0 : Heap) (n0 : Nat) (v : Option Value) (h : Heap) (L : List Loc) : Prop := ∃ (b : Addr) (t : Addr) (kt : ClassId), v = some (.ref b) ∧ Fr n0 L ∧ Keep h0 h [] ∧ (n0 ≤ b) ∧ (h0.size ≤ b) ∧ (Exa Z h b "java/lang/String") ∧ (Fld Z h b "java/lang/String" "coder" "B" (.int 0)) ∧ (Fld Z h b "java/lang/String" "value" "[B" (.ref t)) ∧ (n0 ≤ t) ∧ (h0.size ≤ t) ∧ (Arv Z h t kt .byte (1 : Int32) [(.int (nar .byte ((nar .char (own_ch p1)).toInt8.toInt32)))] (.int 0))
set_option maxRecDepth 65536 in
set_option maxHeartbeats 40000000 in
theorem rmV_1 (l : Launch) (Z : State) (a0 : Array Value) (hw : ∀ d ∈ tables_1, d.before a0 Z = true) (ws : List Jvm.Cond) (p1 : Int32) (cs : Int32) (h0 : Heap) (n0 : Nat) (Z0 : n0 ≤ h0.size) (hr0 : p1 < (1000 : Int32)) (hr1 : p1 < (100 : Int32)) (hr2 : p1 < (10 : Int32)) (hd0 : own_D p1) (SC : Sta Z Z.heap "java/lang/String" "COMPACT_STRINGS" "Z" (.int cs)) (hcs : ¬ (cs = (0 : Int32))) (O0 : Old Z n0 h0) :
    own_M l own_y8 method_6_code 1 (some (.object "java/lang/String")) ws (own_R 4 3 6 66) Z h0 #[(.int p1)] (QV_1 Z p1 cs h0 n0) := by
  refine MetFree.of_bodySF (plainFor_of_name pn_com_example_millipede_millipede_DecimalNumbersCanonicalPinLaw) hisR ?_
  intro p e s m args below meth c s₁ Bd hml0 hP hK
  obtain ⟨rfl, hZ, hh⟩ := hP
  have hx := Bd.exec
  have hby := Bd.bytes
  have hml : c.maxLocals = 1 := hml0
  have hown : s.vm.findClass "com/example/millipede/millipede/DecimalNumbersCanonicalPinLaw" = some m.cls := findClass_of_methodNamed Bd.named
  have hnm := (name_of_methodNamed Bd.named Bd.method).1
  have X0 : Stand p l e (own_R 4 3 6 66) s m #[(.int p1)] below meth c s₁ [] 0 0 := Stand.of_body Bd
  have e0 : s₁.heap = h0 := by rw [← hh, Bd.state]; rfl
  have N0 := Fr.nil n0
  have pre0 : own_P p e below s₁ (entryFrame m #[(.int p1)] 1) s₁ (mkF m 0 #[iv p1] []) := fun t k => castTop (ef_rmV_1 m p1) k
  have f101 := Keep.refl h0 []
  obtain ⟨T102, h102, X102, e102, E102, A102, D102, -, st102⟩ := newO X0 hx hZ hown (own_i hw 8 rfl) (own_i hw 9 rfl) (own_i hw 10 rfl) e0 (g := (mkF m 152 #[iv p1] [])) rfl (hb hby d10_152) (by decide) (by decide)
  obtain ⟨b102, g102⟩ : ∃ z, z = h0.size := ⟨_, rfl⟩
  rw [← g102] at A102 D102 st102
  have ga103 : n0 ≤ b102 := Nat.le_trans Z0 (Nat.le_of_eq g102.symm)
  have sz104 : h0.size ≤ b102 := Nat.le_trans f101.1 (Nat.le_of_eq g102.symm)
  have f105 : Fld Z h102 b102 "java/lang/String" "coder" "B" (.int 0) := D102 (Or.inr (own_i hw 38 rfl)) (ty := .byte) (by decide)
  have f106 : Fld Z h102 b102 "java/lang/String" "value" "[B" .null := D102 (Or.inr (own_i hw 40 rfl)) (ty := (.array .byte)) (by decide)
  have f107 := Nat.le_trans Z0 E102.1
  have f108 := O0.ext E102
  have f109 := f101.ext E102
  obtain ⟨T110, h110, k110, X110, e110, E110, A110, st110⟩ := newP X102 hx hZ (own_i hw 11 rfl) e102 (g := (mkF m 157 #[iv p1] [(.int 1), (.ref b102), (.ref b102)])) rfl (hb hby d10_157) rfl (by decide) (cap := 1) (by decide) (by decide) (by decide) (by decide)
  obtain ⟨b110, g110⟩ : ∃ z, z = h102.size := ⟨_, rfl⟩
  rw [← g110] at A110 st110
  have ne111 : b102 ≠ b110 := Nat.ne_of_lt (Nat.lt_of_lt_of_le A102.lt (Nat.le_of_eq g110.symm))
  have ga112 : n0 ≤ b110 := Nat.le_trans f107 (Nat.le_of_eq g110.symm)
  have sz113 : h0.size ≤ b110 := Nat.le_trans f109.1 (Nat.le_of_eq g110.symm)
  have V110 : Arv Z h110 b110 k110 .char (1 : Int32) [(.int 0)] (.int 0) := (Arv.new A110 (by decide)).pad (pad_rep [] (.int 0) 1)
  have f114 := Nat.le_trans f107 E110.1
  have f115 := f108.ext E110
  have f116 := f109.ext E110
  have f117 := A102.ext E110
  have f118 := f105.ext E110
  have f119 := f106.ext E110
  obtain ⟨_, _, ⟨T120, L120, k120, n120⟩, -, X120, ⟨Lc120, hQ120, l120, y120, z120⟩, st120⟩ := Jvm.LawKit.callS X110 hx (y := own_y6) hown (own_m hZ hw 12) (own_m hZ hw 13) (own_m hZ hw 2) (own_m hZ hw 14) (by decide) (backOf (W := 5) (rmCc l Z a0 hw [] p1 h110 n0 f114 ) hZ (own_i hw 14 rfl) (own_i hw 2 rfl) (by decide) (by decide)) (g := (mkF m 162 #[iv p1] [(.int p1), (.int 0), (.ref b110), (.ref b110), (.ref b102), (.ref b102)])) rfl (by rw [hml]; rfl) (argsL := [(.int p1)]) (rest := [(.int 0), (.ref b110), (.ref b110), (.ref b102), (.ref b102)]) (lenOf pd_4 rfl) rfl (Nat.le_of_eq rfl) (hb hby d10_162) (fun _ _ => ⟨rfl, e110, (by decide : 2 + 0 ≤ _), (by decide : 5 + 0 ≤ _)⟩)
  dsimp only [Pt.U, Pt.locs, Pt.cells, Pt.slots] at X120 l120 y120 z120 st120 hQ120
  subst l120 y120 z120
  obtain ⟨rfl, N120q, e120⟩ := hQ120
  have N120 := Fr.app N0 N120q
  obtain ⟨cl121, Ar121, q121, S121, N121z, H121, G121⟩ := (id V110)
  have hin121 : ¬ ((0 : Int32) < 0 ∨ cl121.slots.size ≤ ((0 : Int32)).toNatClampNeg) := inb_of S121 ⟨by decide, by decide⟩
  obtain ⟨T121, h121, X121, e121, W121, st121⟩ := stC X120 hx hZ e120 Ar121 (j := (0 : Int32)) hin121 (g := (mkF m 165 #[iv p1] [(.int (own_ch p1)), (.int 0), (.ref b110), (.ref b110), (.ref b102), (.ref b102)])) rfl rfl (hb hby d10_165)
  have V121 : Arv Z h121 b110 k110 .char (1 : Int32) [(.int (nar .char (own_ch p1)))] (.int 0) := Arv.set Ar121 q121 S121 N121z H121 G121 (fits_nar_char _) W121 0 rfl (Nat.le_of_ble_eq_true rfl)
  have N121 := Fr.snoc X121 N120 ga112
  have f122 := Nat.le_trans f114 (Keep.of_wr W121).1
  have f123 := f115.wr W121 ga112
  have f124 := f116.wr W121 (Or.inr sz113)
  have f125 := f117.wr W121
  have f126 := f118.other W121 (Or.inl ne111)
  have f127 := f119.other W121 (Or.inl ne111)
  obtain ⟨_, _, ⟨T128, L128, k128, n128⟩, -, X128, ⟨Lc128, hQ128, l128, y128, z128⟩, st128⟩ := X121.specialBack hx (y := own_y4) rfl hown (own_m hZ hw 15) (own_m hZ hw 16) (own_m hZ hw 17) (by decide) (backOf (W := 1) (rmG_1 l Z a0 hw [] b102 b110 k110 cs (nar .char (own_ch p1)) h121 n0 f122 f127 f126 f125 ga103 V121 (SC.ext f123.2) hcs ne111 (own_chle hd0)) hZ (own_i hw 17 rfl) (own_i hw 10 rfl) (by decide) (by decide)) (g := (mkF m 166 #[iv p1] [(.ref b110), (.ref b102), (.ref b102)])) rfl (by rw [hml]; rfl) (Steps.refl _) (a := b102) (argsL := [(.ref b110)]) (rest := [(.ref b102)]) (lenOf pd_5 rfl) rfl (Nat.le_of_eq rfl) (hb hby d10_166) (fun _ _ => ⟨rfl, e121, (by decide : 2 + 1 ≤ _), (by decide : 5 + 1 ≤ _)⟩)
  dsimp only [Pt.U, Pt.locs, Pt.cells, Pt.slots] at X128 l128 y128 z128 st128 hQ128
  subst l128 y128 z128
  obtain ⟨b129, x130, rfl, N128q, K128, f131, f132, f133, f134, f135, f136⟩ := hQ128
  have N128 := Fr.app N121 N128q
  have ne137 : b102 ≠ b129 := Nat.ne_of_lt (Nat.lt_of_lt_of_le f125.lt f135)
  have ne138 : b110 ≠ b129 := Nat.ne_of_lt (Nat.lt_of_lt_of_le V121.lt f135)
  have sz139 : h0.size ≤ b129 := Nat.le_trans f124.1 f135
  have f140 := Nat.le_trans f122 K128.1
  have f141 := f123.keep K128 (allS ga103 all0)
  have f142 := f124.trans K128 (allS (Or.inr sz104) all0)
  have f143 := V121.keep K128 (ninS (Ne.symm ne111) nin0)
  have pre144 : own_P p e below s₁ (entryFrame m #[(.int p1)] 1) T128 (mkF m 169 #[iv p1] [(.ref b102)]) := fun t k => pre0 t (by
    show Steps p.tables e below (s₁.setTop (mkF m 0 #[iv p1] [])) t
    refine XS.iloadN X0.here hx rfl (hb hby d10_0) rfl ?_
    refine XS.sipush X0.here hx rfl (hb hby d10_1) ?_
    refine XS.icmpYes X0.here hx rfl (pc0 := 4) (pc' := 65) rfl (hb hby d10_4) rfl (tlt hr0).1 (by decide) (by decide) ?_
    refine XS.iloadN X0.here hx rfl (hb hby d10_65) rfl ?_
    refine XS.bipush X0.here hx rfl (hb hby d10_66) ?_
    refine XS.icmpYes X0.here hx rfl (pc0 := 68) (pc' := 115) rfl (hb hby d10_68) rfl (tlt hr1).1 (by decide) (by decide) ?_
    refine XS.iloadN X0.here hx rfl (hb hby d10_115) rfl ?_
    refine XS.bipush X0.here hx rfl (hb hby d10_116) ?_
    refine XS.icmpYes X0.here hx rfl (pc0 := 118) (pc' := 152) rfl (hb hby d10_118) rfl (tlt hr2).1 (by decide) (by decide) ?_
    refine st102 _ ?_
    refine XS.dup X102.here hx rfl (hb hby d10_155) rfl rfl ?_
    refine XS.iconst X102.here hx rfl (hb hby d10_156) ?_
    refine st110 _ ?_
    refine XS.dup X110.here hx rfl (hb hby d10_159) rfl rfl ?_
    refine XS.iconst X110.here hx rfl (hb hby d10_160) ?_
    refine XS.iloadN X110.here hx rfl (hb hby d10_161) rfl ?_
    refine st120 _ ?_
    refine st121 _ ?_
    refine st128.trans ?_
    exact k)
  obtain ⟨fs, hr, hrun, hended, hW, hsame⟩ := X128.leave (v := some (.ref b102)) (fun h => by rw [Bd.returns] at h; cases h)
  refine ⟨_, _, pre144 _ ?_, hrun, hended, _, _, rfl, ?_, ⟨_, rfl⟩, hW, hsame.mono (by decide) (by decide)⟩
  · exact retOut X128 hx Bd.returns rfl (Or.inr (Or.inr (Or.inr (Or.inr ⟨rfl, rfl, rfl⟩)))) (hb hby d10_169) hr
  · show QV_1 Z p1 cs h0 n0 _ T128.heap _
    exact ⟨b102, b129, x130, rfl, N128, f142, ga103, sz104, f131, f132, f133, f134, sz139, f136⟩
theorem ef_rmV_2 (m : MethodId) (x0 : Int32) : entryFrame m #[(.int x0)] 1 = mkF m 0 #[iv x0] [] := by first | (simp [entryFrame, mkF, argsToLocals, Value.category]; done) | rfl
def QV_2 (Z : State) (p1 : Int32) (cs : Int32) (h0 : Heap) (n0 : Nat) (v : Option Value) (h : Heap) (L : List Loc) : Prop := ∃ (b : Addr) (t : Addr) (kt : ClassId), v = some (.ref b) ∧ Fr n0 L ∧ Keep h0 h [] ∧ (n0 ≤ b) ∧ (h0.size ≤ b) ∧ (Exa Z h b "java/lang/String") ∧ (Fld Z h b "java/lang/String" "coder" "B" (.int 0)) ∧ (Fld Z h b "java/lang/String" "value" "[B" (.ref t)) ∧ (n0 ≤ t) ∧ (h0.size ≤ t) ∧ (Arv Z h t kt .byte (2 : Int32) [(.int (nar .byte ((nar .char (own_ch (p1 / (10 : Int32)))).toInt8.toInt32))), (.int (nar .byte ((nar .char (own_ch (p1 % (10 : Int32)))).toInt8.toInt32)))] (.int 0))
set_option maxRecDepth 65536 in
set_option maxHeartbeats 40000000 in
theorem rmV_2 (l : Launch) (Z : State) (a0 : Array Value) (hw : ∀ d ∈ tables_1, d.before a0 Z = true) (ws : List Jvm.Cond) (p1 : Int32) (cs : Int32) (h0 : Heap) (n0 : Nat) (Z0 : n0 ≤ h0.size) (hr0 : p1 < (1000 : Int32)) (hr1 : p1 < (100 : Int32)) (hr2 : ¬ (p1 < (10 : Int32))) (hd0 : own_D (p1 / (10 : Int32))) (hd1 : own_D (p1 % (10 : Int32))) (SC : Sta Z Z.heap "java/lang/String" "COMPACT_STRINGS" "Z" (.int cs)) (hcs : ¬ (cs = (0 : Int32))) (O0 : Old Z n0 h0) :
    own_M l own_y8 method_6_code 1 (some (.object "java/lang/String")) ws (own_R 4 3 8 66) Z h0 #[(.int p1)] (QV_2 Z p1 cs h0 n0) := by
  refine MetFree.of_bodySF (plainFor_of_name pn_com_example_millipede_millipede_DecimalNumbersCanonicalPinLaw) hisR ?_
  intro p e s m args below meth c s₁ Bd hml0 hP hK
  obtain ⟨rfl, hZ, hh⟩ := hP
  have hx := Bd.exec
  have hby := Bd.bytes
  have hml : c.maxLocals = 1 := hml0
  have hown : s.vm.findClass "com/example/millipede/millipede/DecimalNumbersCanonicalPinLaw" = some m.cls := findClass_of_methodNamed Bd.named
  have hnm := (name_of_methodNamed Bd.named Bd.method).1
  have X0 : Stand p l e (own_R 4 3 8 66) s m #[(.int p1)] below meth c s₁ [] 0 0 := Stand.of_body Bd
  have e0 : s₁.heap = h0 := by rw [← hh, Bd.state]; rfl
  have N0 := Fr.nil n0
  have pre0 : own_P p e below s₁ (entryFrame m #[(.int p1)] 1) s₁ (mkF m 0 #[iv p1] []) := fun t k => castTop (ef_rmV_2 m p1) k
  have f101 := Keep.refl h0 []
  obtain ⟨T102, h102, X102, e102, E102, A102, D102, -, st102⟩ := newO X0 hx hZ hown (own_i hw 8 rfl) (own_i hw 9 rfl) (own_i hw 10 rfl) e0 (g := (mkF m 121 #[iv p1] [])) rfl (hb hby d10_121) (by decide) (by decide)
  obtain ⟨b102, g102⟩ : ∃ z, z = h0.size := ⟨_, rfl⟩
  rw [← g102] at A102 D102 st102
  have ga103 : n0 ≤ b102 := Nat.le_trans Z0 (Nat.le_of_eq g102.symm)
  have sz104 : h0.size ≤ b102 := Nat.le_trans f101.1 (Nat.le_of_eq g102.symm)
  have f105 : Fld Z h102 b102 "java/lang/String" "coder" "B" (.int 0) := D102 (Or.inr (own_i hw 38 rfl)) (ty := .byte) (by decide)
  have f106 : Fld Z h102 b102 "java/lang/String" "value" "[B" .null := D102 (Or.inr (own_i hw 40 rfl)) (ty := (.array .byte)) (by decide)
  have f107 := Nat.le_trans Z0 E102.1
  have f108 := O0.ext E102
  have f109 := f101.ext E102
  obtain ⟨T110, h110, k110, X110, e110, E110, A110, st110⟩ := newP X102 hx hZ (own_i hw 11 rfl) e102 (g := (mkF m 126 #[iv p1] [(.int 2), (.ref b102), (.ref b102)])) rfl (hb hby d10_126) rfl (by decide) (cap := 2) (by decide) (by decide) (by decide) (by decide)
  obtain ⟨b110, g110⟩ : ∃ z, z = h102.size := ⟨_, rfl⟩
  rw [← g110] at A110 st110
  have ne111 : b102 ≠ b110 := Nat.ne_of_lt (Nat.lt_of_lt_of_le A102.lt (Nat.le_of_eq g110.symm))
  have ga112 : n0 ≤ b110 := Nat.le_trans f107 (Nat.le_of_eq g110.symm)
  have sz113 : h0.size ≤ b110 := Nat.le_trans f109.1 (Nat.le_of_eq g110.symm)
  have V110 : Arv Z h110 b110 k110 .char (2 : Int32) [(.int 0), (.int 0)] (.int 0) := (Arv.new A110 (by decide)).pad (pad_rep [] (.int 0) 2)
  have f114 := Nat.le_trans f107 E110.1
  have f115 := f108.ext E110
  have f116 := f109.ext E110
  have f117 := A102.ext E110
  have f118 := f105.ext E110
  have f119 := f106.ext E110
  obtain ⟨_, _, ⟨T120, L120, k120, n120⟩, -, X120, ⟨Lc120, hQ120, l120, y120, z120⟩, st120⟩ := Jvm.LawKit.callS X110 hx (y := own_y6) hown (own_m hZ hw 12) (own_m hZ hw 13) (own_m hZ hw 2) (own_m hZ hw 14) (by decide) (backOf (W := 5) (rmCc l Z a0 hw [] (p1 / (10 : Int32)) h110 n0 f114 ) hZ (own_i hw 14 rfl) (own_i hw 2 rfl) (by decide) (by decide)) (g := (mkF m 134 #[iv p1] [(.int (p1 / (10 : Int32))), (.int 0), (.ref b110), (.ref b110), (.ref b102), (.ref b102)])) rfl (by rw [hml]; rfl) (argsL := [(.int (p1 / (10 : Int32)))]) (rest := [(.int 0), (.ref b110), (.ref b110), (.ref b102), (.ref b102)]) (lenOf pd_4 rfl) rfl (Nat.le_of_eq rfl) (hb hby d10_134) (fun _ _ => ⟨rfl, e110, (by decide : 2 + 0 ≤ _), (by decide : 6 + 0 ≤ _)⟩)
  dsimp only [Pt.U, Pt.locs, Pt.cells, Pt.slots] at X120 l120 y120 z120 st120 hQ120
  subst l120 y120 z120
  obtain ⟨rfl, N120q, e120⟩ := hQ120
  have N120 := Fr.app N0 N120q
  obtain ⟨cl121, Ar121, q121, S121, N121z, H121, G121⟩ := (id V110)
  have hin121 : ¬ ((0 : Int32) < 0 ∨ cl121.slots.size ≤ ((0 : Int32)).toNatClampNeg) := inb_of S121 ⟨by decide, by decide⟩
  obtain ⟨T121, h121, X121, e121, W121, st121⟩ := stC X120 hx hZ e120 Ar121 (j := (0 : Int32)) hin121 (g := (mkF m 137 #[iv p1] [(.int (own_ch (p1 / (10 : Int32)))), (.int 0), (.ref b110), (.ref b110), (.ref b102), (.ref b102)])) rfl rfl (hb hby d10_137)
  have V121 : Arv Z h121 b110 k110 .char (2 : Int32) [(.int (nar .char (own_ch (p1 / (10 : Int32))))), (.int 0)] (.int 0) := Arv.set Ar121 q121 S121 N121z H121 G121 (fits_nar_char _) W121 0 rfl (Nat.le_of_ble_eq_true rfl)
  have N121 := Fr.snoc X121 N120 ga112
  have f122 := Nat.le_trans f114 (Keep.of_wr W121).1
  have f123 := f115.wr W121 ga112
  have f124 := f116.wr W121 (Or.inr sz113)
  have f125 := f117.wr W121
  have f126 := f118.other W121 (Or.inl ne111)
  have f127 := f119.other W121 (Or.inl ne111)
  obtain ⟨_, _, ⟨T128, L128, k128, n128⟩, -, X128, ⟨Lc128, hQ128, l128, y128, z128⟩, st128⟩ := Jvm.LawKit.callS X121 hx (y := own_y6) hown (own_m hZ hw 12) (own_m hZ hw 13) (own_m hZ hw 2) (own_m hZ hw 14) (by decide) (backOf (W := 5) (rmCc l Z a0 hw [] (p1 % (10 : Int32)) h121 n0 f122 ) hZ (own_i hw 14 rfl) (own_i hw 2 rfl) (by decide) (by decide)) (g := (mkF m 144 #[iv p1] [(.int (p1 % (10 : Int32))), (.int 1), (.ref b110), (.ref b110), (.ref b102), (.ref b102)])) rfl (by rw [hml]; rfl) (argsL := [(.int (p1 % (10 : Int32)))]) (rest := [(.int 1), (.ref b110), (.ref b110), (.ref b102), (.ref b102)]) (lenOf pd_4 rfl) rfl (Nat.le_of_eq rfl) (hb hby d10_144) (fun _ _ => ⟨rfl, e121, (by decide : 2 + 0 ≤ _), (by decide : 6 + 0 ≤ _)⟩)
  dsimp only [Pt.U, Pt.locs, Pt.cells, Pt.slots] at X128 l128 y128 z128 st128 hQ128
  subst l128 y128 z128
  obtain ⟨rfl, N128q, e128⟩ := hQ128
  have N128 := Fr.app N121 N128q
  obtain ⟨cl129, Ar129, q129, S129, N129z, H129, G129⟩ := (id V121)
  have hin129 : ¬ ((1 : Int32) < 0 ∨ cl129.slots.size ≤ ((1 : Int32)).toNatClampNeg) := inb_of S129 ⟨by decide, by decide⟩
  obtain ⟨T129, h129, X129, e129, W129, st129⟩ := stC X128 hx hZ e128 Ar129 (j := (1 : Int32)) hin129 (g := (mkF m 147 #[iv p1] [(.int (own_ch (p1 % (10 : Int32)))), (.int 1), (.ref b110), (.ref b110), (.ref b102), (.ref b102)])) rfl rfl (hb hby d10_147)
  have V129 : Arv Z h129 b110 k110 .char (2 : Int32) [(.int (nar .char (own_ch (p1 / (10 : Int32))))), (.int (nar .char (own_ch (p1 % (10 : Int32)))))] (.int 0) := Arv.set Ar129 q129 S129 N129z H129 G129 (fits_nar_char _) W129 1 rfl (Nat.le_of_ble_eq_true rfl)
  have N129 := Fr.snoc X129 N128 ga112
  have f130 := Nat.le_trans f122 (Keep.of_wr W129).1
  have f131 := f123.wr W129 ga112
  have f132 := f124.wr W129 (Or.inr sz113)
  have f133 := f125.wr W129
  have f134 := f126.other W129 (Or.inl ne111)
  have f135 := f127.other W129 (Or.inl ne111)
  obtain ⟨_, _, ⟨T136, L136, k136, n136⟩, -, X136, ⟨Lc136, hQ136, l136, y136, z136⟩, st136⟩ := X129.specialBack hx (y := own_y4) rfl hown (own_m hZ hw 15) (own_m hZ hw 16) (own_m hZ hw 17) (by decide) (backOf (W := 1) (rmG_2 l Z a0 hw [] b102 b110 k110 cs (nar .char (own_ch (p1 / (10 : Int32)))) (nar .char (own_ch (p1 % (10 : Int32)))) h129 n0 f130 f135 f134 f133 ga103 V129 (SC.ext f131.2) hcs ne111 (own_chle hd0) (own_chle hd1)) hZ (own_i hw 17 rfl) (own_i hw 10 rfl) (by decide) (by decide)) (g := (mkF m 148 #[iv p1] [(.ref b110), (.ref b102), (.ref b102)])) rfl (by rw [hml]; rfl) (Steps.refl _) (a := b102) (argsL := [(.ref b110)]) (rest := [(.ref b102)]) (lenOf pd_5 rfl) rfl (Nat.le_of_eq rfl) (hb hby d10_148) (fun _ _ => ⟨rfl, e129, (by decide : 2 + 1 ≤ _), (by decide : 6 + 2 ≤ _)⟩)
  dsimp only [Pt.U, Pt.locs, Pt.cells, Pt.slots] at X136 l136 y136 z136 st136 hQ136
  subst l136 y136 z136
  obtain ⟨b137, x138, rfl, N136q, K136, f139, f140, f141, f142, f143, f144⟩ := hQ136
  have N136 := Fr.app N129 N136q
  have ne145 : b102 ≠ b137 := Nat.ne_of_lt (Nat.lt_of_lt_of_le f133.lt f143)
  have ne146 : b110 ≠ b137 := Nat.ne_of_lt (Nat.lt_of_lt_of_le V129.lt f143)
  have sz147 : h0.size ≤ b137 := Nat.le_trans f132.1 f143
  have f148 := Nat.le_trans f130 K136.1
  have f149 := f131.keep K136 (allS ga103 all0)
  have f150 := f132.trans K136 (allS (Or.inr sz104) all0)
  have f151 := V129.keep K136 (ninS (Ne.symm ne111) nin0)
  have pre152 : own_P p e below s₁ (entryFrame m #[(.int p1)] 1) T136 (mkF m 151 #[iv p1] [(.ref b102)]) := fun t k => pre0 t (by
    show Steps p.tables e below (s₁.setTop (mkF m 0 #[iv p1] [])) t
    refine XS.iloadN X0.here hx rfl (hb hby d10_0) rfl ?_
    refine XS.sipush X0.here hx rfl (hb hby d10_1) ?_
    refine XS.icmpYes X0.here hx rfl (pc0 := 4) (pc' := 65) rfl (hb hby d10_4) rfl (tlt hr0).1 (by decide) (by decide) ?_
    refine XS.iloadN X0.here hx rfl (hb hby d10_65) rfl ?_
    refine XS.bipush X0.here hx rfl (hb hby d10_66) ?_
    refine XS.icmpYes X0.here hx rfl (pc0 := 68) (pc' := 115) rfl (hb hby d10_68) rfl (tlt hr1).1 (by decide) (by decide) ?_
    refine XS.iloadN X0.here hx rfl (hb hby d10_115) rfl ?_
    refine XS.bipush X0.here hx rfl (hb hby d10_116) ?_
    refine XS.icmpNo X0.here hx rfl (hb hby d10_118) rfl (flt hr2).1 ?_
    refine st102 _ ?_
    refine XS.dup X102.here hx rfl (hb hby d10_124) rfl rfl ?_
    refine XS.iconst X102.here hx rfl (hb hby d10_125) ?_
    refine st110 _ ?_
    refine XS.dup X110.here hx rfl (hb hby d10_128) rfl rfl ?_
    refine XS.iconst X110.here hx rfl (hb hby d10_129) ?_
    refine XS.iloadN X110.here hx rfl (hb hby d10_130) rfl ?_
    refine XS.bipush X110.here hx rfl (hb hby d10_131) ?_
    refine XS.idiv X110.here hx rfl (hb hby d10_133) rfl (by decide) ?_
    refine st120 _ ?_
    refine st121 _ ?_
    refine XS.dup X121.here hx rfl (hb hby d10_138) rfl rfl ?_
    refine XS.iconst X121.here hx rfl (hb hby d10_139) ?_
    refine XS.iloadN X121.here hx rfl (hb hby d10_140) rfl ?_
    refine XS.bipush X121.here hx rfl (hb hby d10_141) ?_
    refine iremM (g := (mkF m 143 #[iv p1] [(.int 10), (.int p1), (.int 1), (.ref b110), (.ref b110), (.ref b102), (.ref b102)])) X121 hx rfl (hb hby d10_143) rfl (by decide) ?_
    show Steps p.tables e below (T121.setTop (mkF m 144 #[iv p1] [(.int (p1 % (10 : Int32))), (.int 1), (.ref b110), (.ref b110), (.ref b102), (.ref b102)])) t
    refine st128 _ ?_
    refine st129 _ ?_
    refine st136.trans ?_
    exact k)
  obtain ⟨fs, hr, hrun, hended, hW, hsame⟩ := X136.leave (v := some (.ref b102)) (fun h => by rw [Bd.returns] at h; cases h)
  refine ⟨_, _, pre152 _ ?_, hrun, hended, _, _, rfl, ?_, ⟨_, rfl⟩, hW, hsame.mono (by decide) (by decide)⟩
  · exact retOut X136 hx Bd.returns rfl (Or.inr (Or.inr (Or.inr (Or.inr ⟨rfl, rfl, rfl⟩)))) (hb hby d10_151) hr
  · show QV_2 Z p1 cs h0 n0 _ T136.heap _
    exact ⟨b102, b137, x138, rfl, N136, f150, ga103, sz104, f139, f140, f141, f142, sz147, f144⟩
theorem ef_rmV_3 (m : MethodId) (x0 : Int32) : entryFrame m #[(.int x0)] 1 = mkF m 0 #[iv x0] [] := by first | (simp [entryFrame, mkF, argsToLocals, Value.category]; done) | rfl
def QV_3 (Z : State) (p1 : Int32) (cs : Int32) (h0 : Heap) (n0 : Nat) (v : Option Value) (h : Heap) (L : List Loc) : Prop := ∃ (b : Addr) (t : Addr) (kt : ClassId), v = some (.ref b) ∧ Fr n0 L ∧ Keep h0 h [] ∧ (n0 ≤ b) ∧ (h0.size ≤ b) ∧ (Exa Z h b "java/lang/String") ∧ (Fld Z h b "java/lang/String" "coder" "B" (.int 0)) ∧ (Fld Z h b "java/lang/String" "value" "[B" (.ref t)) ∧ (n0 ≤ t) ∧ (h0.size ≤ t) ∧ (Arv Z h t kt .byte (3 : Int32) [(.int (nar .byte ((nar .char (own_ch (p1 / (100 : Int32)))).toInt8.toInt32))), (.int (nar .byte ((nar .char (own_ch ((p1 / (10 : Int32)) % (10 : Int32)))).toInt8.toInt32))), (.int (nar .byte ((nar .char (own_ch (p1 % (10 : Int32)))).toInt8.toInt32)))] (.int 0))
set_option maxRecDepth 65536 in
set_option maxHeartbeats 40000000 in
theorem rmV_3 (l : Launch) (Z : State) (a0 : Array Value) (hw : ∀ d ∈ tables_1, d.before a0 Z = true) (ws : List Jvm.Cond) (p1 : Int32) (cs : Int32) (h0 : Heap) (n0 : Nat) (Z0 : n0 ≤ h0.size) (hr0 : p1 < (1000 : Int32)) (hr1 : ¬ (p1 < (100 : Int32))) (hd0 : own_D (p1 / (100 : Int32))) (hd1 : own_D ((p1 / (10 : Int32)) % (10 : Int32))) (hd2 : own_D (p1 % (10 : Int32))) (SC : Sta Z Z.heap "java/lang/String" "COMPACT_STRINGS" "Z" (.int cs)) (hcs : ¬ (cs = (0 : Int32))) (O0 : Old Z n0 h0) :
    own_M l own_y8 method_6_code 1 (some (.object "java/lang/String")) ws (own_R 4 3 10 66) Z h0 #[(.int p1)] (QV_3 Z p1 cs h0 n0) := by
  refine MetFree.of_bodySF (plainFor_of_name pn_com_example_millipede_millipede_DecimalNumbersCanonicalPinLaw) hisR ?_
  intro p e s m args below meth c s₁ Bd hml0 hP hK
  obtain ⟨rfl, hZ, hh⟩ := hP
  have hx := Bd.exec
  have hby := Bd.bytes
  have hml : c.maxLocals = 1 := hml0
  have hown : s.vm.findClass "com/example/millipede/millipede/DecimalNumbersCanonicalPinLaw" = some m.cls := findClass_of_methodNamed Bd.named
  have hnm := (name_of_methodNamed Bd.named Bd.method).1
  have X0 : Stand p l e (own_R 4 3 10 66) s m #[(.int p1)] below meth c s₁ [] 0 0 := Stand.of_body Bd
  have e0 : s₁.heap = h0 := by rw [← hh, Bd.state]; rfl
  have N0 := Fr.nil n0
  have pre0 : own_P p e below s₁ (entryFrame m #[(.int p1)] 1) s₁ (mkF m 0 #[iv p1] []) := fun t k => castTop (ef_rmV_3 m p1) k
  have f101 := Keep.refl h0 []
  obtain ⟨T102, h102, X102, e102, E102, A102, D102, -, st102⟩ := newO X0 hx hZ hown (own_i hw 8 rfl) (own_i hw 9 rfl) (own_i hw 10 rfl) e0 (g := (mkF m 71 #[iv p1] [])) rfl (hb hby d10_71) (by decide) (by decide)
  obtain ⟨b102, g102⟩ : ∃ z, z = h0.size := ⟨_, rfl⟩
  rw [← g102] at A102 D102 st102
  have ga103 : n0 ≤ b102 := Nat.le_trans Z0 (Nat.le_of_eq g102.symm)
  have sz104 : h0.size ≤ b102 := Nat.le_trans f101.1 (Nat.le_of_eq g102.symm)
  have f105 : Fld Z h102 b102 "java/lang/String" "coder" "B" (.int 0) := D102 (Or.inr (own_i hw 38 rfl)) (ty := .byte) (by decide)
  have f106 : Fld Z h102 b102 "java/lang/String" "value" "[B" .null := D102 (Or.inr (own_i hw 40 rfl)) (ty := (.array .byte)) (by decide)
  have f107 := Nat.le_trans Z0 E102.1
  have f108 := O0.ext E102
  have f109 := f101.ext E102
  obtain ⟨T110, h110, k110, X110, e110, E110, A110, st110⟩ := newP X102 hx hZ (own_i hw 11 rfl) e102 (g := (mkF m 76 #[iv p1] [(.int 3), (.ref b102), (.ref b102)])) rfl (hb hby d10_76) rfl (by decide) (cap := 3) (by decide) (by decide) (by decide) (by decide)
  obtain ⟨b110, g110⟩ : ∃ z, z = h102.size := ⟨_, rfl⟩
  rw [← g110] at A110 st110
  have ne111 : b102 ≠ b110 := Nat.ne_of_lt (Nat.lt_of_lt_of_le A102.lt (Nat.le_of_eq g110.symm))
  have ga112 : n0 ≤ b110 := Nat.le_trans f107 (Nat.le_of_eq g110.symm)
  have sz113 : h0.size ≤ b110 := Nat.le_trans f109.1 (Nat.le_of_eq g110.symm)
  have V110 : Arv Z h110 b110 k110 .char (3 : Int32) [(.int 0), (.int 0), (.int 0)] (.int 0) := (Arv.new A110 (by decide)).pad (pad_rep [] (.int 0) 3)
  have f114 := Nat.le_trans f107 E110.1
  have f115 := f108.ext E110
  have f116 := f109.ext E110
  have f117 := A102.ext E110
  have f118 := f105.ext E110
  have f119 := f106.ext E110
  obtain ⟨_, _, ⟨T120, L120, k120, n120⟩, -, X120, ⟨Lc120, hQ120, l120, y120, z120⟩, st120⟩ := Jvm.LawKit.callS X110 hx (y := own_y6) hown (own_m hZ hw 12) (own_m hZ hw 13) (own_m hZ hw 2) (own_m hZ hw 14) (by decide) (backOf (W := 5) (rmCc l Z a0 hw [] (p1 / (100 : Int32)) h110 n0 f114 ) hZ (own_i hw 14 rfl) (own_i hw 2 rfl) (by decide) (by decide)) (g := (mkF m 84 #[iv p1] [(.int (p1 / (100 : Int32))), (.int 0), (.ref b110), (.ref b110), (.ref b102), (.ref b102)])) rfl (by rw [hml]; rfl) (argsL := [(.int (p1 / (100 : Int32)))]) (rest := [(.int 0), (.ref b110), (.ref b110), (.ref b102), (.ref b102)]) (lenOf pd_4 rfl) rfl (Nat.le_of_eq rfl) (hb hby d10_84) (fun _ _ => ⟨rfl, e110, (by decide : 2 + 0 ≤ _), (by decide : 7 + 0 ≤ _)⟩)
  dsimp only [Pt.U, Pt.locs, Pt.cells, Pt.slots] at X120 l120 y120 z120 st120 hQ120
  subst l120 y120 z120
  obtain ⟨rfl, N120q, e120⟩ := hQ120
  have N120 := Fr.app N0 N120q
  obtain ⟨cl121, Ar121, q121, S121, N121z, H121, G121⟩ := (id V110)
  have hin121 : ¬ ((0 : Int32) < 0 ∨ cl121.slots.size ≤ ((0 : Int32)).toNatClampNeg) := inb_of S121 ⟨by decide, by decide⟩
  obtain ⟨T121, h121, X121, e121, W121, st121⟩ := stC X120 hx hZ e120 Ar121 (j := (0 : Int32)) hin121 (g := (mkF m 87 #[iv p1] [(.int (own_ch (p1 / (100 : Int32)))), (.int 0), (.ref b110), (.ref b110), (.ref b102), (.ref b102)])) rfl rfl (hb hby d10_87)
  have V121 : Arv Z h121 b110 k110 .char (3 : Int32) [(.int (nar .char (own_ch (p1 / (100 : Int32))))), (.int 0), (.int 0)] (.int 0) := Arv.set Ar121 q121 S121 N121z H121 G121 (fits_nar_char _) W121 0 rfl (Nat.le_of_ble_eq_true rfl)
  have N121 := Fr.snoc X121 N120 ga112
  have f122 := Nat.le_trans f114 (Keep.of_wr W121).1
  have f123 := f115.wr W121 ga112
  have f124 := f116.wr W121 (Or.inr sz113)
  have f125 := f117.wr W121
  have f126 := f118.other W121 (Or.inl ne111)
  have f127 := f119.other W121 (Or.inl ne111)
  obtain ⟨_, _, ⟨T128, L128, k128, n128⟩, -, X128, ⟨Lc128, hQ128, l128, y128, z128⟩, st128⟩ := Jvm.LawKit.callS X121 hx (y := own_y6) hown (own_m hZ hw 12) (own_m hZ hw 13) (own_m hZ hw 2) (own_m hZ hw 14) (by decide) (backOf (W := 5) (rmCc l Z a0 hw [] ((p1 / (10 : Int32)) % (10 : Int32)) h121 n0 f122 ) hZ (own_i hw 14 rfl) (own_i hw 2 rfl) (by decide) (by decide)) (g := (mkF m 97 #[iv p1] [(.int ((p1 / (10 : Int32)) % (10 : Int32))), (.int 1), (.ref b110), (.ref b110), (.ref b102), (.ref b102)])) rfl (by rw [hml]; rfl) (argsL := [(.int ((p1 / (10 : Int32)) % (10 : Int32)))]) (rest := [(.int 1), (.ref b110), (.ref b110), (.ref b102), (.ref b102)]) (lenOf pd_4 rfl) rfl (Nat.le_of_eq rfl) (hb hby d10_97) (fun _ _ => ⟨rfl, e121, (by decide : 2 + 0 ≤ _), (by decide : 7 + 0 ≤ _)⟩)
  dsimp only [Pt.U, Pt.locs, Pt.cells, Pt.slots] at X128 l128 y128 z128 st128 hQ128
  subst l128 y128 z128
  obtain ⟨rfl, N128q, e128⟩ := hQ128
  have N128 := Fr.app N121 N128q
  obtain ⟨cl129, Ar129, q129, S129, N129z, H129, G129⟩ := (id V121)
  have hin129 : ¬ ((1 : Int32) < 0 ∨ cl129.slots.size ≤ ((1 : Int32)).toNatClampNeg) := inb_of S129 ⟨by decide, by decide⟩
  obtain ⟨T129, h129, X129, e129, W129, st129⟩ := stC X128 hx hZ e128 Ar129 (j := (1 : Int32)) hin129 (g := (mkF m 100 #[iv p1] [(.int (own_ch ((p1 / (10 : Int32)) % (10 : Int32)))), (.int 1), (.ref b110), (.ref b110), (.ref b102), (.ref b102)])) rfl rfl (hb hby d10_100)
  have V129 : Arv Z h129 b110 k110 .char (3 : Int32) [(.int (nar .char (own_ch (p1 / (100 : Int32))))), (.int (nar .char (own_ch ((p1 / (10 : Int32)) % (10 : Int32))))), (.int 0)] (.int 0) := Arv.set Ar129 q129 S129 N129z H129 G129 (fits_nar_char _) W129 1 rfl (Nat.le_of_ble_eq_true rfl)
  have N129 := Fr.snoc X129 N128 ga112
  have f130 := Nat.le_trans f122 (Keep.of_wr W129).1
  have f131 := f123.wr W129 ga112
  have f132 := f124.wr W129 (Or.inr sz113)
  have f133 := f125.wr W129
  have f134 := f126.other W129 (Or.inl ne111)
  have f135 := f127.other W129 (Or.inl ne111)
  obtain ⟨_, _, ⟨T136, L136, k136, n136⟩, -, X136, ⟨Lc136, hQ136, l136, y136, z136⟩, st136⟩ := Jvm.LawKit.callS X129 hx (y := own_y6) hown (own_m hZ hw 12) (own_m hZ hw 13) (own_m hZ hw 2) (own_m hZ hw 14) (by decide) (backOf (W := 5) (rmCc l Z a0 hw [] (p1 % (10 : Int32)) h129 n0 f130 ) hZ (own_i hw 14 rfl) (own_i hw 2 rfl) (by decide) (by decide)) (g := (mkF m 107 #[iv p1] [(.int (p1 % (10 : Int32))), (.int 2), (.ref b110), (.ref b110), (.ref b102), (.ref b102)])) rfl (by rw [hml]; rfl) (argsL := [(.int (p1 % (10 : Int32)))]) (rest := [(.int 2), (.ref b110), (.ref b110), (.ref b102), (.ref b102)]) (lenOf pd_4 rfl) rfl (Nat.le_of_eq rfl) (hb hby d10_107) (fun _ _ => ⟨rfl, e129, (by decide : 2 + 0 ≤ _), (by decide : 7 + 0 ≤ _)⟩)
  dsimp only [Pt.U, Pt.locs, Pt.cells, Pt.slots] at X136 l136 y136 z136 st136 hQ136
  subst l136 y136 z136
  obtain ⟨rfl, N136q, e136⟩ := hQ136
  have N136 := Fr.app N129 N136q
  obtain ⟨cl137, Ar137, q137, S137, N137z, H137, G137⟩ := (id V129)
  have hin137 : ¬ ((2 : Int32) < 0 ∨ cl137.slots.size ≤ ((2 : Int32)).toNatClampNeg) := inb_of S137 ⟨by decide, by decide⟩
  obtain ⟨T137, h137, X137, e137, W137, st137⟩ := stC X136 hx hZ e136 Ar137 (j := (2 : Int32)) hin137 (g := (mkF m 110 #[iv p1] [(.int (own_ch (p1 % (10 : Int32)))), (.int 2), (.ref b110), (.ref b110), (.ref b102), (.ref b102)])) rfl rfl (hb hby d10_110)
  have V137 : Arv Z h137 b110 k110 .char (3 : Int32) [(.int (nar .char (own_ch (p1 / (100 : Int32))))), (.int (nar .char (own_ch ((p1 / (10 : Int32)) % (10 : Int32))))), (.int (nar .char (own_ch (p1 % (10 : Int32)))))] (.int 0) := Arv.set Ar137 q137 S137 N137z H137 G137 (fits_nar_char _) W137 2 rfl (Nat.le_of_ble_eq_true rfl)
  have N137 := Fr.snoc X137 N136 ga112
  have f138 := Nat.le_trans f130 (Keep.of_wr W137).1
  have f139 := f131.wr W137 ga112
  have f140 := f132.wr W137 (Or.inr sz113)
  have f141 := f133.wr W137
  have f142 := f134.other W137 (Or.inl ne111)
  have f143 := f135.other W137 (Or.inl ne111)
  obtain ⟨_, _, ⟨T144, L144, k144, n144⟩, -, X144, ⟨Lc144, hQ144, l144, y144, z144⟩, st144⟩ := X137.specialBack hx (y := own_y4) rfl hown (own_m hZ hw 15) (own_m hZ hw 16) (own_m hZ hw 17) (by decide) (backOf (W := 1) (rmG_3 l Z a0 hw [] b102 b110 k110 cs (nar .char (own_ch (p1 / (100 : Int32)))) (nar .char (own_ch ((p1 / (10 : Int32)) % (10 : Int32)))) (nar .char (own_ch (p1 % (10 : Int32)))) h137 n0 f138 f143 f142 f141 ga103 V137 (SC.ext f139.2) hcs ne111 (own_chle hd0) (own_chle hd1) (own_chle hd2)) hZ (own_i hw 17 rfl) (own_i hw 10 rfl) (by decide) (by decide)) (g := (mkF m 111 #[iv p1] [(.ref b110), (.ref b102), (.ref b102)])) rfl (by rw [hml]; rfl) (Steps.refl _) (a := b102) (argsL := [(.ref b110)]) (rest := [(.ref b102)]) (lenOf pd_5 rfl) rfl (Nat.le_of_eq rfl) (hb hby d10_111) (fun _ _ => ⟨rfl, e137, (by decide : 2 + 1 ≤ _), (by decide : 7 + 3 ≤ _)⟩)
  dsimp only [Pt.U, Pt.locs, Pt.cells, Pt.slots] at X144 l144 y144 z144 st144 hQ144
  subst l144 y144 z144
  obtain ⟨b145, x146, rfl, N144q, K144, f147, f148, f149, f150, f151, f152⟩ := hQ144
  have N144 := Fr.app N137 N144q
  have ne153 : b102 ≠ b145 := Nat.ne_of_lt (Nat.lt_of_lt_of_le f141.lt f151)
  have ne154 : b110 ≠ b145 := Nat.ne_of_lt (Nat.lt_of_lt_of_le V137.lt f151)
  have sz155 : h0.size ≤ b145 := Nat.le_trans f140.1 f151
  have f156 := Nat.le_trans f138 K144.1
  have f157 := f139.keep K144 (allS ga103 all0)
  have f158 := f140.trans K144 (allS (Or.inr sz104) all0)
  have f159 := V137.keep K144 (ninS (Ne.symm ne111) nin0)
  have pre160 : own_P p e below s₁ (entryFrame m #[(.int p1)] 1) T144 (mkF m 114 #[iv p1] [(.ref b102)]) := fun t k => pre0 t (by
    show Steps p.tables e below (s₁.setTop (mkF m 0 #[iv p1] [])) t
    refine XS.iloadN X0.here hx rfl (hb hby d10_0) rfl ?_
    refine XS.sipush X0.here hx rfl (hb hby d10_1) ?_
    refine XS.icmpYes X0.here hx rfl (pc0 := 4) (pc' := 65) rfl (hb hby d10_4) rfl (tlt hr0).1 (by decide) (by decide) ?_
    refine XS.iloadN X0.here hx rfl (hb hby d10_65) rfl ?_
    refine XS.bipush X0.here hx rfl (hb hby d10_66) ?_
    refine XS.icmpNo X0.here hx rfl (hb hby d10_68) rfl (flt hr1).1 ?_
    refine st102 _ ?_
    refine XS.dup X102.here hx rfl (hb hby d10_74) rfl rfl ?_
    refine XS.iconst X102.here hx rfl (hb hby d10_75) ?_
    refine st110 _ ?_
    refine XS.dup X110.here hx rfl (hb hby d10_78) rfl rfl ?_
    refine XS.iconst X110.here hx rfl (hb hby d10_79) ?_
    refine XS.iloadN X110.here hx rfl (hb hby d10_80) rfl ?_
    refine XS.bipush X110.here hx rfl (hb hby d10_81) ?_
    refine XS.idiv X110.here hx rfl (hb hby d10_83) rfl (by decide) ?_
    refine st120 _ ?_
    refine st121 _ ?_
    refine XS.dup X121.here hx rfl (hb hby d10_88) rfl rfl ?_
    refine XS.iconst X121.here hx rfl (hb hby d10_89) ?_
    refine XS.iloadN X121.here hx rfl (hb hby d10_90) rfl ?_
    refine XS.bipush X121.here hx rfl (hb hby d10_91) ?_
    refine XS.idiv X121.here hx rfl (hb hby d10_93) rfl (by decide) ?_
    refine XS.bipush X121.here hx rfl (hb hby d10_94) ?_
    refine iremM (g := (mkF m 96 #[iv p1] [(.int 10), (.int (p1 / (10 : Int32))), (.int 1), (.ref b110), (.ref b110), (.ref b102), (.ref b102)])) X121 hx rfl (hb hby d10_96) rfl (by decide) ?_
    refine st128 _ ?_
    show Steps p.tables e below (T128.setTop (mkF m 100 #[iv p1] [(.int (own_ch ((p1 / (10 : Int32)) % (10 : Int32)))), (.int 1), (.ref b110), (.ref b110), (.ref b102), (.ref b102)])) t
    refine st129 _ ?_
    refine XS.dup X129.here hx rfl (hb hby d10_101) rfl rfl ?_
    refine XS.iconst X129.here hx rfl (hb hby d10_102) ?_
    refine XS.iloadN X129.here hx rfl (hb hby d10_103) rfl ?_
    refine XS.bipush X129.here hx rfl (hb hby d10_104) ?_
    refine iremM (g := (mkF m 106 #[iv p1] [(.int 10), (.int p1), (.int 2), (.ref b110), (.ref b110), (.ref b102), (.ref b102)])) X129 hx rfl (hb hby d10_106) rfl (by decide) ?_
    refine st136 _ ?_
    refine st137 _ ?_
    refine st144.trans ?_
    exact k)
  obtain ⟨fs, hr, hrun, hended, hW, hsame⟩ := X144.leave (v := some (.ref b102)) (fun h => by rw [Bd.returns] at h; cases h)
  refine ⟨_, _, pre160 _ ?_, hrun, hended, _, _, rfl, ?_, ⟨_, rfl⟩, hW, hsame.mono (by decide) (by decide)⟩
  · exact retOut X144 hx Bd.returns rfl (Or.inr (Or.inr (Or.inr (Or.inr ⟨rfl, rfl, rfl⟩)))) (hb hby d10_114) hr
  · show QV_3 Z p1 cs h0 n0 _ T144.heap _
    exact ⟨b102, b145, x146, rfl, N144, f158, ga103, sz104, f147, f148, f149, f150, sz155, f152⟩
theorem ef_rmV_4 (m : MethodId) (x0 : Int32) : entryFrame m #[(.int x0)] 1 = mkF m 0 #[iv x0] [] := by first | (simp [entryFrame, mkF, argsToLocals, Value.category]; done) | rfl
def QV_4 (Z : State) (p1 : Int32) (cs : Int32) (h0 : Heap) (n0 : Nat) (v : Option Value) (h : Heap) (L : List Loc) : Prop := ∃ (b : Addr) (t : Addr) (kt : ClassId), v = some (.ref b) ∧ Fr n0 L ∧ Keep h0 h [] ∧ (n0 ≤ b) ∧ (h0.size ≤ b) ∧ (Exa Z h b "java/lang/String") ∧ (Fld Z h b "java/lang/String" "coder" "B" (.int 0)) ∧ (Fld Z h b "java/lang/String" "value" "[B" (.ref t)) ∧ (n0 ≤ t) ∧ (h0.size ≤ t) ∧ (Arv Z h t kt .byte (4 : Int32) [(.int (nar .byte ((nar .char (own_ch (p1 / (1000 : Int32)))).toInt8.toInt32))), (.int (nar .byte ((nar .char (own_ch ((p1 / (100 : Int32)) % (10 : Int32)))).toInt8.toInt32))), (.int (nar .byte ((nar .char (own_ch ((p1 / (10 : Int32)) % (10 : Int32)))).toInt8.toInt32))), (.int (nar .byte ((nar .char (own_ch (p1 % (10 : Int32)))).toInt8.toInt32)))] (.int 0))
set_option maxRecDepth 65536 in
set_option maxHeartbeats 40000000 in
theorem rmV_4 (l : Launch) (Z : State) (a0 : Array Value) (hw : ∀ d ∈ tables_1, d.before a0 Z = true) (ws : List Jvm.Cond) (p1 : Int32) (cs : Int32) (h0 : Heap) (n0 : Nat) (Z0 : n0 ≤ h0.size) (hr0 : ¬ (p1 < (1000 : Int32))) (hd0 : own_D (p1 / (1000 : Int32))) (hd1 : own_D ((p1 / (100 : Int32)) % (10 : Int32))) (hd2 : own_D ((p1 / (10 : Int32)) % (10 : Int32))) (hd3 : own_D (p1 % (10 : Int32))) (SC : Sta Z Z.heap "java/lang/String" "COMPACT_STRINGS" "Z" (.int cs)) (hcs : ¬ (cs = (0 : Int32))) (O0 : Old Z n0 h0) :
    own_M l own_y8 method_6_code 1 (some (.object "java/lang/String")) ws (own_R 4 3 12 66) Z h0 #[(.int p1)] (QV_4 Z p1 cs h0 n0) := by
  refine MetFree.of_bodySF (plainFor_of_name pn_com_example_millipede_millipede_DecimalNumbersCanonicalPinLaw) hisR ?_
  intro p e s m args below meth c s₁ Bd hml0 hP hK
  obtain ⟨rfl, hZ, hh⟩ := hP
  have hx := Bd.exec
  have hby := Bd.bytes
  have hml : c.maxLocals = 1 := hml0
  have hown : s.vm.findClass "com/example/millipede/millipede/DecimalNumbersCanonicalPinLaw" = some m.cls := findClass_of_methodNamed Bd.named
  have hnm := (name_of_methodNamed Bd.named Bd.method).1
  have X0 : Stand p l e (own_R 4 3 12 66) s m #[(.int p1)] below meth c s₁ [] 0 0 := Stand.of_body Bd
  have e0 : s₁.heap = h0 := by rw [← hh, Bd.state]; rfl
  have N0 := Fr.nil n0
  have pre0 : own_P p e below s₁ (entryFrame m #[(.int p1)] 1) s₁ (mkF m 0 #[iv p1] []) := fun t k => castTop (ef_rmV_4 m p1) k
  have f101 := Keep.refl h0 []
  obtain ⟨T102, h102, X102, e102, E102, A102, D102, -, st102⟩ := newO X0 hx hZ hown (own_i hw 8 rfl) (own_i hw 9 rfl) (own_i hw 10 rfl) e0 (g := (mkF m 7 #[iv p1] [])) rfl (hb hby d10_7) (by decide) (by decide)
  obtain ⟨b102, g102⟩ : ∃ z, z = h0.size := ⟨_, rfl⟩
  rw [← g102] at A102 D102 st102
  have ga103 : n0 ≤ b102 := Nat.le_trans Z0 (Nat.le_of_eq g102.symm)
  have sz104 : h0.size ≤ b102 := Nat.le_trans f101.1 (Nat.le_of_eq g102.symm)
  have f105 : Fld Z h102 b102 "java/lang/String" "coder" "B" (.int 0) := D102 (Or.inr (own_i hw 38 rfl)) (ty := .byte) (by decide)
  have f106 : Fld Z h102 b102 "java/lang/String" "value" "[B" .null := D102 (Or.inr (own_i hw 40 rfl)) (ty := (.array .byte)) (by decide)
  have f107 := Nat.le_trans Z0 E102.1
  have f108 := O0.ext E102
  have f109 := f101.ext E102
  obtain ⟨T110, h110, k110, X110, e110, E110, A110, st110⟩ := newP X102 hx hZ (own_i hw 11 rfl) e102 (g := (mkF m 12 #[iv p1] [(.int 4), (.ref b102), (.ref b102)])) rfl (hb hby d10_12) rfl (by decide) (cap := 4) (by decide) (by decide) (by decide) (by decide)
  obtain ⟨b110, g110⟩ : ∃ z, z = h102.size := ⟨_, rfl⟩
  rw [← g110] at A110 st110
  have ne111 : b102 ≠ b110 := Nat.ne_of_lt (Nat.lt_of_lt_of_le A102.lt (Nat.le_of_eq g110.symm))
  have ga112 : n0 ≤ b110 := Nat.le_trans f107 (Nat.le_of_eq g110.symm)
  have sz113 : h0.size ≤ b110 := Nat.le_trans f109.1 (Nat.le_of_eq g110.symm)
  have V110 : Arv Z h110 b110 k110 .char (4 : Int32) [(.int 0), (.int 0), (.int 0), (.int 0)] (.int 0) := (Arv.new A110 (by decide)).pad (pad_rep [] (.int 0) 4)
  have f114 := Nat.le_trans f107 E110.1
  have f115 := f108.ext E110
  have f116 := f109.ext E110
  have f117 := A102.ext E110
  have f118 := f105.ext E110
  have f119 := f106.ext E110
  obtain ⟨_, _, ⟨T120, L120, k120, n120⟩, -, X120, ⟨Lc120, hQ120, l120, y120, z120⟩, st120⟩ := Jvm.LawKit.callS X110 hx (y := own_y6) hown (own_m hZ hw 12) (own_m hZ hw 13) (own_m hZ hw 2) (own_m hZ hw 14) (by decide) (backOf (W := 5) (rmCc l Z a0 hw [] (p1 / (1000 : Int32)) h110 n0 f114 ) hZ (own_i hw 14 rfl) (own_i hw 2 rfl) (by decide) (by decide)) (g := (mkF m 21 #[iv p1] [(.int (p1 / (1000 : Int32))), (.int 0), (.ref b110), (.ref b110), (.ref b102), (.ref b102)])) rfl (by rw [hml]; rfl) (argsL := [(.int (p1 / (1000 : Int32)))]) (rest := [(.int 0), (.ref b110), (.ref b110), (.ref b102), (.ref b102)]) (lenOf pd_4 rfl) rfl (Nat.le_of_eq rfl) (hb hby d10_21) (fun _ _ => ⟨rfl, e110, (by decide : 2 + 0 ≤ _), (by decide : 8 + 0 ≤ _)⟩)
  dsimp only [Pt.U, Pt.locs, Pt.cells, Pt.slots] at X120 l120 y120 z120 st120 hQ120
  subst l120 y120 z120
  obtain ⟨rfl, N120q, e120⟩ := hQ120
  have N120 := Fr.app N0 N120q
  obtain ⟨cl121, Ar121, q121, S121, N121z, H121, G121⟩ := (id V110)
  have hin121 : ¬ ((0 : Int32) < 0 ∨ cl121.slots.size ≤ ((0 : Int32)).toNatClampNeg) := inb_of S121 ⟨by decide, by decide⟩
  obtain ⟨T121, h121, X121, e121, W121, st121⟩ := stC X120 hx hZ e120 Ar121 (j := (0 : Int32)) hin121 (g := (mkF m 24 #[iv p1] [(.int (own_ch (p1 / (1000 : Int32)))), (.int 0), (.ref b110), (.ref b110), (.ref b102), (.ref b102)])) rfl rfl (hb hby d10_24)
  have V121 : Arv Z h121 b110 k110 .char (4 : Int32) [(.int (nar .char (own_ch (p1 / (1000 : Int32))))), (.int 0), (.int 0), (.int 0)] (.int 0) := Arv.set Ar121 q121 S121 N121z H121 G121 (fits_nar_char _) W121 0 rfl (Nat.le_of_ble_eq_true rfl)
  have N121 := Fr.snoc X121 N120 ga112
  have f122 := Nat.le_trans f114 (Keep.of_wr W121).1
  have f123 := f115.wr W121 ga112
  have f124 := f116.wr W121 (Or.inr sz113)
  have f125 := f117.wr W121
  have f126 := f118.other W121 (Or.inl ne111)
  have f127 := f119.other W121 (Or.inl ne111)
  obtain ⟨_, _, ⟨T128, L128, k128, n128⟩, -, X128, ⟨Lc128, hQ128, l128, y128, z128⟩, st128⟩ := Jvm.LawKit.callS X121 hx (y := own_y6) hown (own_m hZ hw 12) (own_m hZ hw 13) (own_m hZ hw 2) (own_m hZ hw 14) (by decide) (backOf (W := 5) (rmCc l Z a0 hw [] ((p1 / (100 : Int32)) % (10 : Int32)) h121 n0 f122 ) hZ (own_i hw 14 rfl) (own_i hw 2 rfl) (by decide) (by decide)) (g := (mkF m 34 #[iv p1] [(.int ((p1 / (100 : Int32)) % (10 : Int32))), (.int 1), (.ref b110), (.ref b110), (.ref b102), (.ref b102)])) rfl (by rw [hml]; rfl) (argsL := [(.int ((p1 / (100 : Int32)) % (10 : Int32)))]) (rest := [(.int 1), (.ref b110), (.ref b110), (.ref b102), (.ref b102)]) (lenOf pd_4 rfl) rfl (Nat.le_of_eq rfl) (hb hby d10_34) (fun _ _ => ⟨rfl, e121, (by decide : 2 + 0 ≤ _), (by decide : 8 + 0 ≤ _)⟩)
  dsimp only [Pt.U, Pt.locs, Pt.cells, Pt.slots] at X128 l128 y128 z128 st128 hQ128
  subst l128 y128 z128
  obtain ⟨rfl, N128q, e128⟩ := hQ128
  have N128 := Fr.app N121 N128q
  obtain ⟨cl129, Ar129, q129, S129, N129z, H129, G129⟩ := (id V121)
  have hin129 : ¬ ((1 : Int32) < 0 ∨ cl129.slots.size ≤ ((1 : Int32)).toNatClampNeg) := inb_of S129 ⟨by decide, by decide⟩
  obtain ⟨T129, h129, X129, e129, W129, st129⟩ := stC X128 hx hZ e128 Ar129 (j := (1 : Int32)) hin129 (g := (mkF m 37 #[iv p1] [(.int (own_ch ((p1 / (100 : Int32)) % (10 : Int32)))), (.int 1), (.ref b110), (.ref b110), (.ref b102), (.ref b102)])) rfl rfl (hb hby d10_37)
  have V129 : Arv Z h129 b110 k110 .char (4 : Int32) [(.int (nar .char (own_ch (p1 / (1000 : Int32))))), (.int (nar .char (own_ch ((p1 / (100 : Int32)) % (10 : Int32))))), (.int 0), (.int 0)] (.int 0) := Arv.set Ar129 q129 S129 N129z H129 G129 (fits_nar_char _) W129 1 rfl (Nat.le_of_ble_eq_true rfl)
  have N129 := Fr.snoc X129 N128 ga112
  have f130 := Nat.le_trans f122 (Keep.of_wr W129).1
  have f131 := f123.wr W129 ga112
  have f132 := f124.wr W129 (Or.inr sz113)
  have f133 := f125.wr W129
  have f134 := f126.other W129 (Or.inl ne111)
  have f135 := f127.other W129 (Or.inl ne111)
  obtain ⟨_, _, ⟨T136, L136, k136, n136⟩, -, X136, ⟨Lc136, hQ136, l136, y136, z136⟩, st136⟩ := Jvm.LawKit.callS X129 hx (y := own_y6) hown (own_m hZ hw 12) (own_m hZ hw 13) (own_m hZ hw 2) (own_m hZ hw 14) (by decide) (backOf (W := 5) (rmCc l Z a0 hw [] ((p1 / (10 : Int32)) % (10 : Int32)) h129 n0 f130 ) hZ (own_i hw 14 rfl) (own_i hw 2 rfl) (by decide) (by decide)) (g := (mkF m 47 #[iv p1] [(.int ((p1 / (10 : Int32)) % (10 : Int32))), (.int 2), (.ref b110), (.ref b110), (.ref b102), (.ref b102)])) rfl (by rw [hml]; rfl) (argsL := [(.int ((p1 / (10 : Int32)) % (10 : Int32)))]) (rest := [(.int 2), (.ref b110), (.ref b110), (.ref b102), (.ref b102)]) (lenOf pd_4 rfl) rfl (Nat.le_of_eq rfl) (hb hby d10_47) (fun _ _ => ⟨rfl, e129, (by decide : 2 + 0 ≤ _), (by decide : 8 + 0 ≤ _)⟩)
  dsimp only [Pt.U, Pt.locs, Pt.cells, Pt.slots] at X136 l136 y136 z136 st136 hQ136
  subst l136 y136 z136
  obtain ⟨rfl, N136q, e136⟩ := hQ136
  have N136 := Fr.app N129 N136q
  obtain ⟨cl137, Ar137, q137, S137, N137z, H137, G137⟩ := (id V129)
  have hin137 : ¬ ((2 : Int32) < 0 ∨ cl137.slots.size ≤ ((2 : Int32)).toNatClampNeg) := inb_of S137 ⟨by decide, by decide⟩
  obtain ⟨T137, h137, X137, e137, W137, st137⟩ := stC X136 hx hZ e136 Ar137 (j := (2 : Int32)) hin137 (g := (mkF m 50 #[iv p1] [(.int (own_ch ((p1 / (10 : Int32)) % (10 : Int32)))), (.int 2), (.ref b110), (.ref b110), (.ref b102), (.ref b102)])) rfl rfl (hb hby d10_50)
  have V137 : Arv Z h137 b110 k110 .char (4 : Int32) [(.int (nar .char (own_ch (p1 / (1000 : Int32))))), (.int (nar .char (own_ch ((p1 / (100 : Int32)) % (10 : Int32))))), (.int (nar .char (own_ch ((p1 / (10 : Int32)) % (10 : Int32))))), (.int 0)] (.int 0) := Arv.set Ar137 q137 S137 N137z H137 G137 (fits_nar_char _) W137 2 rfl (Nat.le_of_ble_eq_true rfl)
  have N137 := Fr.snoc X137 N136 ga112
  have f138 := Nat.le_trans f130 (Keep.of_wr W137).1
  have f139 := f131.wr W137 ga112
  have f140 := f132.wr W137 (Or.inr sz113)
  have f141 := f133.wr W137
  have f142 := f134.other W137 (Or.inl ne111)
  have f143 := f135.other W137 (Or.inl ne111)
  obtain ⟨_, _, ⟨T144, L144, k144, n144⟩, -, X144, ⟨Lc144, hQ144, l144, y144, z144⟩, st144⟩ := Jvm.LawKit.callS X137 hx (y := own_y6) hown (own_m hZ hw 12) (own_m hZ hw 13) (own_m hZ hw 2) (own_m hZ hw 14) (by decide) (backOf (W := 5) (rmCc l Z a0 hw [] (p1 % (10 : Int32)) h137 n0 f138 ) hZ (own_i hw 14 rfl) (own_i hw 2 rfl) (by decide) (by decide)) (g := (mkF m 57 #[iv p1] [(.int (p1 % (10 : Int32))), (.int 3), (.ref b110), (.ref b110), (.ref b102), (.ref b102)])) rfl (by rw [hml]; rfl) (argsL := [(.int (p1 % (10 : Int32)))]) (rest := [(.int 3), (.ref b110), (.ref b110), (.ref b102), (.ref b102)]) (lenOf pd_4 rfl) rfl (Nat.le_of_eq rfl) (hb hby d10_57) (fun _ _ => ⟨rfl, e137, (by decide : 2 + 0 ≤ _), (by decide : 8 + 0 ≤ _)⟩)
  dsimp only [Pt.U, Pt.locs, Pt.cells, Pt.slots] at X144 l144 y144 z144 st144 hQ144
  subst l144 y144 z144
  obtain ⟨rfl, N144q, e144⟩ := hQ144
  have N144 := Fr.app N137 N144q
  obtain ⟨cl145, Ar145, q145, S145, N145z, H145, G145⟩ := (id V137)
  have hin145 : ¬ ((3 : Int32) < 0 ∨ cl145.slots.size ≤ ((3 : Int32)).toNatClampNeg) := inb_of S145 ⟨by decide, by decide⟩
  obtain ⟨T145, h145, X145, e145, W145, st145⟩ := stC X144 hx hZ e144 Ar145 (j := (3 : Int32)) hin145 (g := (mkF m 60 #[iv p1] [(.int (own_ch (p1 % (10 : Int32)))), (.int 3), (.ref b110), (.ref b110), (.ref b102), (.ref b102)])) rfl rfl (hb hby d10_60)
  have V145 : Arv Z h145 b110 k110 .char (4 : Int32) [(.int (nar .char (own_ch (p1 / (1000 : Int32))))), (.int (nar .char (own_ch ((p1 / (100 : Int32)) % (10 : Int32))))), (.int (nar .char (own_ch ((p1 / (10 : Int32)) % (10 : Int32))))), (.int (nar .char (own_ch (p1 % (10 : Int32)))))] (.int 0) := Arv.set Ar145 q145 S145 N145z H145 G145 (fits_nar_char _) W145 3 rfl (Nat.le_of_ble_eq_true rfl)
  have N145 := Fr.snoc X145 N144 ga112
  have f146 := Nat.le_trans f138 (Keep.of_wr W145).1
  have f147 := f139.wr W145 ga112
  have f148 := f140.wr W145 (Or.inr sz113)
  have f149 := f141.wr W145
  have f150 := f142.other W145 (Or.inl ne111)
  have f151 := f143.other W145 (Or.inl ne111)
  obtain ⟨_, _, ⟨T152, L152, k152, n152⟩, -, X152, ⟨Lc152, hQ152, l152, y152, z152⟩, st152⟩ := X145.specialBack hx (y := own_y4) rfl hown (own_m hZ hw 15) (own_m hZ hw 16) (own_m hZ hw 17) (by decide) (backOf (W := 1) (rmG_4 l Z a0 hw [] b102 b110 k110 cs (nar .char (own_ch (p1 / (1000 : Int32)))) (nar .char (own_ch ((p1 / (100 : Int32)) % (10 : Int32)))) (nar .char (own_ch ((p1 / (10 : Int32)) % (10 : Int32)))) (nar .char (own_ch (p1 % (10 : Int32)))) h145 n0 f146 f151 f150 f149 ga103 V145 (SC.ext f147.2) hcs ne111 (own_chle hd0) (own_chle hd1) (own_chle hd2) (own_chle hd3)) hZ (own_i hw 17 rfl) (own_i hw 10 rfl) (by decide) (by decide)) (g := (mkF m 61 #[iv p1] [(.ref b110), (.ref b102), (.ref b102)])) rfl (by rw [hml]; rfl) (Steps.refl _) (a := b102) (argsL := [(.ref b110)]) (rest := [(.ref b102)]) (lenOf pd_5 rfl) rfl (Nat.le_of_eq rfl) (hb hby d10_61) (fun _ _ => ⟨rfl, e145, (by decide : 2 + 1 ≤ _), (by decide : 8 + 4 ≤ _)⟩)
  dsimp only [Pt.U, Pt.locs, Pt.cells, Pt.slots] at X152 l152 y152 z152 st152 hQ152
  subst l152 y152 z152
  obtain ⟨b153, x154, rfl, N152q, K152, f155, f156, f157, f158, f159, f160⟩ := hQ152
  have N152 := Fr.app N145 N152q
  have ne161 : b102 ≠ b153 := Nat.ne_of_lt (Nat.lt_of_lt_of_le f149.lt f159)
  have ne162 : b110 ≠ b153 := Nat.ne_of_lt (Nat.lt_of_lt_of_le V145.lt f159)
  have sz163 : h0.size ≤ b153 := Nat.le_trans f148.1 f159
  have f164 := Nat.le_trans f146 K152.1
  have f165 := f147.keep K152 (allS ga103 all0)
  have f166 := f148.trans K152 (allS (Or.inr sz104) all0)
  have f167 := V145.keep K152 (ninS (Ne.symm ne111) nin0)
  have pre168 : own_P p e below s₁ (entryFrame m #[(.int p1)] 1) T152 (mkF m 64 #[iv p1] [(.ref b102)]) := fun t k => pre0 t (by
    show Steps p.tables e below (s₁.setTop (mkF m 0 #[iv p1] [])) t
    refine XS.iloadN X0.here hx rfl (hb hby d10_0) rfl ?_
    refine XS.sipush X0.here hx rfl (hb hby d10_1) ?_
    refine XS.icmpNo X0.here hx rfl (hb hby d10_4) rfl (flt hr0).1 ?_
    refine st102 _ ?_
    refine XS.dup X102.here hx rfl (hb hby d10_10) rfl rfl ?_
    refine XS.iconst X102.here hx rfl (hb hby d10_11) ?_
    refine st110 _ ?_
    refine XS.dup X110.here hx rfl (hb hby d10_14) rfl rfl ?_
    refine XS.iconst X110.here hx rfl (hb hby d10_15) ?_
    refine XS.iloadN X110.here hx rfl (hb hby d10_16) rfl ?_
    refine XS.sipush X110.here hx rfl (hb hby d10_17) ?_
    refine XS.idiv X110.here hx rfl (hb hby d10_20) rfl (by decide) ?_
    refine st120 _ ?_
    refine st121 _ ?_
    refine XS.dup X121.here hx rfl (hb hby d10_25) rfl rfl ?_
    refine XS.iconst X121.here hx rfl (hb hby d10_26) ?_
    refine XS.iloadN X121.here hx rfl (hb hby d10_27) rfl ?_
    refine XS.bipush X121.here hx rfl (hb hby d10_28) ?_
    refine XS.idiv X121.here hx rfl (hb hby d10_30) rfl (by decide) ?_
    refine XS.bipush X121.here hx rfl (hb hby d10_31) ?_
    refine iremM (g := (mkF m 33 #[iv p1] [(.int 10), (.int (p1 / (100 : Int32))), (.int 1), (.ref b110), (.ref b110), (.ref b102), (.ref b102)])) X121 hx rfl (hb hby d10_33) rfl (by decide) ?_
    refine st128 _ ?_
    refine st129 _ ?_
    refine XS.dup X129.here hx rfl (hb hby d10_38) rfl rfl ?_
    refine XS.iconst X129.here hx rfl (hb hby d10_39) ?_
    show Steps p.tables e below (T129.setTop (mkF m 40 #[iv p1] [(.int 2), (.ref b110), (.ref b110), (.ref b102), (.ref b102)])) t
    refine XS.iloadN X129.here hx rfl (hb hby d10_40) rfl ?_
    refine XS.bipush X129.here hx rfl (hb hby d10_41) ?_
    refine XS.idiv X129.here hx rfl (hb hby d10_43) rfl (by decide) ?_
    refine XS.bipush X129.here hx rfl (hb hby d10_44) ?_
    refine iremM (g := (mkF m 46 #[iv p1] [(.int 10), (.int (p1 / (10 : Int32))), (.int 2), (.ref b110), (.ref b110), (.ref b102), (.ref b102)])) X129 hx rfl (hb hby d10_46) rfl (by decide) ?_
    refine st136 _ ?_
    refine st137 _ ?_
    refine XS.dup X137.here hx rfl (hb hby d10_51) rfl rfl ?_
    refine XS.iconst X137.here hx rfl (hb hby d10_52) ?_
    refine XS.iloadN X137.here hx rfl (hb hby d10_53) rfl ?_
    refine XS.bipush X137.here hx rfl (hb hby d10_54) ?_
    refine iremM (g := (mkF m 56 #[iv p1] [(.int 10), (.int p1), (.int 3), (.ref b110), (.ref b110), (.ref b102), (.ref b102)])) X137 hx rfl (hb hby d10_56) rfl (by decide) ?_
    refine st144 _ ?_
    refine st145 _ ?_
    refine st152.trans ?_
    exact k)
  obtain ⟨fs, hr, hrun, hended, hW, hsame⟩ := X152.leave (v := some (.ref b102)) (fun h => by rw [Bd.returns] at h; cases h)
  refine ⟨_, _, pre168 _ ?_, hrun, hended, _, _, rfl, ?_, ⟨_, rfl⟩, hW, hsame.mono (by decide) (by decide)⟩
  · exact retOut X152 hx Bd.returns rfl (Or.inr (Or.inr (Or.inr (Or.inr ⟨rfl, rfl, rfl⟩)))) (hb hby d10_64) hr
  · show QV_4 Z p1 cs h0 n0 _ T152.heap _
    exact ⟨b102, b153, x154, rfl, N152, f166, ga103, sz104, f155, f156, f157, f158, sz163, f160⟩
theorem ef_rmCo (m : MethodId) (x0 : Addr) : entryFrame m #[(.ref x0)] 1 = mkF m 0 #[rv x0] [] := by first | (simp [entryFrame, mkF, argsToLocals, Value.category]; done) | rfl
def QCo (Z : State) (a1 : Addr) (cs : Int32) (h0 : Heap) (n0 : Nat) (v : Option Value) (h : Heap) (L : List Loc) : Prop := v = some (.int 0) ∧ Fr n0 L ∧ h = h0
set_option maxRecDepth 65536 in
set_option maxHeartbeats 40000000 in
theorem rmCo (l : Launch) (Z : State) (a0 : Array Value) (hw : ∀ d ∈ tables_1, d.before a0 Z = true) (ws : List Jvm.Cond) (a1 : Addr) (cs : Int32) (h0 : Heap) (n0 : Nat) (Z0 : n0 ≤ h0.size) (SC : Sta Z h0 "java/lang/String" "COMPACT_STRINGS" "Z" (.int cs)) (hcs : ¬ (cs = (0 : Int32))) (C1 : Fld Z h0 a1 "java/lang/String" "coder" "B" (.int 0)) :
    own_M l own_y9 jdk_42_method_152_code 1 (some .byte) ws (own_R 0 0 0 0) Z h0 #[(.ref a1)] (QCo Z a1 cs h0 n0) := by
  refine MetFree.of_bodySF (plainFor_of_name pn_java_lang_String) hisR ?_
  intro p e s m args below meth c s₁ Bd hml0 hP hK
  obtain ⟨rfl, hZ, hh⟩ := hP
  have hx := Bd.exec
  have hby := Bd.bytes
  have hml : c.maxLocals = 1 := hml0
  have hown : s.vm.findClass "java/lang/String" = some m.cls := findClass_of_methodNamed Bd.named
  have hnm := (name_of_methodNamed Bd.named Bd.method).1
  have X0 : Stand p l e (own_R 0 0 0 0) s m #[(.ref a1)] below meth c s₁ [] 0 0 := Stand.of_body Bd
  have e0 : s₁.heap = h0 := by rw [← hh, Bd.state]; rfl
  have N0 := Fr.nil n0
  have pre0 : own_P p e below s₁ (entryFrame m #[(.ref a1)] 1) s₁ (mkF m 0 #[rv a1] []) := fun t k => castTop (ef_rmCo m a1) k
  obtain ⟨T101, X101, e101, st101⟩ := getS2 X0 hx hZ hown (host := "") (Or.inl (own_i hw 25 rfl)) Via.refl e0 SC (g := (mkF m 0 #[rv a1] [])) rfl (hb hby d13_0)
  obtain ⟨T102, X102, e102, st102⟩ := getF X101 hx hZ hown (host := "") (Or.inl (own_i hw 37 rfl)) Via.refl e101 C1 (g := (mkF m 7 #[rv a1] [(.ref a1)])) rfl rfl (hb hby d13_7)
  have pre103 : own_P p e below s₁ (entryFrame m #[(.ref a1)] 1) T102 (mkF m 14 #[rv a1] [(.int 0)]) := fun t k => pre0 t (by
    show Steps p.tables e below (s₁.setTop (mkF m 0 #[rv a1] [])) t
    refine st101 _ ?_
    refine XS.ifNo X101.here hx rfl (hb hby d13_3) rfl ((if0 _ _).trans (feq hcs).1) ?_
    refine XS.aloadN X101.here hx rfl (hb hby d13_6) rfl rfl ?_
    refine st102 _ ?_
    refine XS.goto X102.here hx rfl (pc0 := 10) (pc' := 14) rfl (hb hby d13_10) (by decide) (by decide) ?_
    exact k)
  obtain ⟨fs, hr, hrun, hended, hW, hsame⟩ := X102.leave (v := some (.int (nar .byte (0 : Int32)))) (fun h => by rw [Bd.returns] at h; cases h)
  refine ⟨_, _, pre103 _ ?_, hrun, hended, _, _, rfl, ?_, ⟨_, rfl⟩, hW, hsame.mono (by decide) (by decide)⟩
  · exact retN X102 hx (t := .byte) Bd.returns (by simp) (hb hby d13_14) hr
  · show QCo Z a1 cs h0 n0 _ T102.heap _
    rw [e102]
    exact ⟨rfl, N0, rfl⟩
theorem ef_rmIl (m : MethodId) (x0 : Addr) : entryFrame m #[(.ref x0)] 1 = mkF m 0 #[rv x0] [] := by first | (simp [entryFrame, mkF, argsToLocals, Value.category]; done) | rfl
def QIl (Z : State) (a1 : Addr) (cs : Int32) (h0 : Heap) (n0 : Nat) (v : Option Value) (h : Heap) (L : List Loc) : Prop := v = some (.int 1) ∧ Fr n0 L ∧ h = h0
set_option maxRecDepth 65536 in
set_option maxHeartbeats 40000000 in
theorem rmIl (l : Launch) (Z : State) (a0 : Array Value) (hw : ∀ d ∈ tables_1, d.before a0 Z = true) (ws : List Jvm.Cond) (a1 : Addr) (cs : Int32) (h0 : Heap) (n0 : Nat) (Z0 : n0 ≤ h0.size) (SC : Sta Z h0 "java/lang/String" "COMPACT_STRINGS" "Z" (.int cs)) (hcs : ¬ (cs = (0 : Int32))) (C1 : Fld Z h0 a1 "java/lang/String" "coder" "B" (.int 0)) :
    own_M l own_y10 jdk_42_method_154_code 1 (some .boolean) ws (own_R 0 0 0 0) Z h0 #[(.ref a1)] (QIl Z a1 cs h0 n0) := by
  refine MetFree.of_bodySF (plainFor_of_name pn_java_lang_String) hisR ?_
  intro p e s m args below meth c s₁ Bd hml0 hP hK
  obtain ⟨rfl, hZ, hh⟩ := hP
  have hx := Bd.exec
  have hby := Bd.bytes
  have hml : c.maxLocals = 1 := hml0
  have hown : s.vm.findClass "java/lang/String" = some m.cls := findClass_of_methodNamed Bd.named
  have hnm := (name_of_methodNamed Bd.named Bd.method).1
  have X0 : Stand p l e (own_R 0 0 0 0) s m #[(.ref a1)] below meth c s₁ [] 0 0 := Stand.of_body Bd
  have e0 : s₁.heap = h0 := by rw [← hh, Bd.state]; rfl
  have N0 := Fr.nil n0
  have pre0 : own_P p e below s₁ (entryFrame m #[(.ref a1)] 1) s₁ (mkF m 0 #[rv a1] []) := fun t k => castTop (ef_rmIl m a1) k
  obtain ⟨T101, X101, e101, st101⟩ := getS2 X0 hx hZ hown (host := "") (Or.inl (own_i hw 25 rfl)) Via.refl e0 SC (g := (mkF m 0 #[rv a1] [])) rfl (hb hby d21_0)
  obtain ⟨T102, X102, e102, st102⟩ := getF X101 hx hZ hown (host := "") (Or.inl (own_i hw 37 rfl)) Via.refl e101 C1 (g := (mkF m 7 #[rv a1] [(.ref a1)])) rfl rfl (hb hby d21_7)
  have pre103 : own_P p e below s₁ (entryFrame m #[(.ref a1)] 1) T102 (mkF m 18 #[rv a1] [(.int 1)]) := fun t k => pre0 t (by
    show Steps p.tables e below (s₁.setTop (mkF m 0 #[rv a1] [])) t
    refine st101 _ ?_
    refine XS.ifNo X101.here hx rfl (hb hby d21_3) rfl ((if0 _ _).trans (feq hcs).1) ?_
    refine XS.aloadN X101.here hx rfl (hb hby d21_6) rfl rfl ?_
    refine st102 _ ?_
    refine XS.ifNo X102.here hx rfl (hb hby d21_10) rfl ((if0 _ _).trans (teq (by decide : (0 : Int32) = (0 : Int32))).2) ?_
    refine XS.iconst X102.here hx rfl (hb hby d21_13) ?_
    refine XS.goto X102.here hx rfl (pc0 := 14) (pc' := 18) rfl (hb hby d21_14) (by decide) (by decide) ?_
    exact k)
  obtain ⟨fs, hr, hrun, hended, hW, hsame⟩ := X102.leave (v := some (.int 1)) (fun h => by rw [Bd.returns] at h; cases h)
  refine ⟨_, _, pre103 _ ?_, hrun, hended, _, _, rfl, ?_, ⟨_, rfl⟩, hW, hsame.mono (by decide) (by decide)⟩
  · exact retN X102 hx (t := .boolean) Bd.returns (by simp) (hb hby d21_18) hr
  · show QIl Z a1 cs h0 n0 _ T102.heap _
    rw [e102]
    exact ⟨rfl, N0, rfl⟩
theorem own_shr0 (z : Int32) : z >>> ((0 : Int32) &&& 31) = z := by
  have e : ((0 : Int32) &&& 31) = 0 := rfl
  rw [e]
  simp
theorem pd_6 : parseMethodDescriptor "()B" = some ⟨[], some .byte⟩ := by decide +kernel
theorem ef_rmLen (m : MethodId) (x0 : Addr) : entryFrame m #[(.ref x0)] 1 = mkF m 0 #[rv x0] [] := by first | (simp [entryFrame, mkF, argsToLocals, Value.category]; done) | rfl
def QLen (Z : State) (a1 : Addr) (cs : Int32) (tv : Addr) (kt : ClassId) (z : Int32) (vs : List Value) (h0 : Heap) (n0 : Nat) (v : Option Value) (h : Heap) (L : List Loc) : Prop := v = some (.int z) ∧ Fr n0 L ∧ h = h0
set_option maxRecDepth 65536 in
set_option maxHeartbeats 40000000 in
theorem rmLen (l : Launch) (Z : State) (a0 : Array Value) (hw : ∀ d ∈ tables_1, d.before a0 Z = true) (ws : List Jvm.Cond) (a1 : Addr) (cs : Int32) (tv : Addr) (kt : ClassId) (z : Int32) (vs : List Value) (h0 : Heap) (n0 : Nat) (Z0 : n0 ≤ h0.size) (SC : Sta Z h0 "java/lang/String" "COMPACT_STRINGS" "Z" (.int cs)) (hcs : ¬ (cs = (0 : Int32))) (E1 : Exa Z h0 a1 "java/lang/String") (C1 : Fld Z h0 a1 "java/lang/String" "coder" "B" (.int 0)) (W1 : Fld Z h0 a1 "java/lang/String" "value" "[B" (.ref tv)) (V1 : Arv Z h0 tv kt .byte z vs (.int 0)) :
    own_M l own_y11 jdk_42_method_54_code 1 (some .int) ws (own_R 1 0 0 13) Z h0 #[(.ref a1)] (QLen Z a1 cs tv kt z vs h0 n0) := by
  refine MetFree.of_bodySF (plainFor_of_name pn_java_lang_String) hisR ?_
  intro p e s m args below meth c s₁ Bd hml0 hP hK
  obtain ⟨rfl, hZ, hh⟩ := hP
  have hx := Bd.exec
  have hby := Bd.bytes
  have hml : c.maxLocals = 1 := hml0
  have hown : s.vm.findClass "java/lang/String" = some m.cls := findClass_of_methodNamed Bd.named
  have hnm := (name_of_methodNamed Bd.named Bd.method).1
  have X0 : Stand p l e (own_R 1 0 0 13) s m #[(.ref a1)] below meth c s₁ [] 0 0 := Stand.of_body Bd
  have e0 : s₁.heap = h0 := by rw [← hh, Bd.state]; rfl
  have N0 := Fr.nil n0
  have pre0 : own_P p e below s₁ (entryFrame m #[(.ref a1)] 1) s₁ (mkF m 0 #[rv a1] []) := fun t k => castTop (ef_rmLen m a1) k
  obtain ⟨T101, X101, e101, st101⟩ := getF X0 hx hZ hown (host := "") (Or.inl (own_i hw 39 rfl)) Via.refl e0 W1 (g := (mkF m 1 #[rv a1] [(.ref a1)])) rfl rfl (hb hby d12_1)
  obtain ⟨cl102, Ar102, q102, S102, N102z, H102, G102⟩ := (id V1)
  obtain ⟨cq103, kq103, q103a, q103b, q103c⟩ := isOf hZ e101 E1
  obtain ⟨_, _, ⟨T103, L103, k103, n103⟩, -, X103, ⟨Lc103, hQ103, l103, y103, z103⟩, st103⟩ := X101.virtualBack hx (y := own_y9) (z := own_y9) hown (own_m hZ hw 53) (own_m hZ hw 54) (notFace_of_selects (args := #[]) (own_m hZ hw 56)) (own_m hZ hw 56) (own_m hZ hw 55) (by decide) (backOf (W := 1) (rmCo l Z a0 hw [] a1 cs h0 n0 Z0 SC hcs C1) hZ (own_i hw 57 rfl) (own_i hw 10 rfl) (by decide) (by decide)) q103a q103c (g := (mkF m 6 #[rv a1] [(.ref a1), (.int z)])) rfl (by rw [hml]; rfl) (Steps.refl _) (argsL := []) (rest := [(.int z)]) (lenOf pd_6 rfl) rfl (Nat.le_of_eq rfl) (hb hby d12_6) (fun _ _ => ⟨rfl, e101, (by decide : 0 + 0 ≤ _), (by decide : 0 + 0 ≤ _)⟩)
  dsimp only [Pt.U, Pt.locs, Pt.cells, Pt.slots] at X103 l103 y103 z103 st103 hQ103
  subst l103 y103 z103
  obtain ⟨rfl, N103q, e103⟩ := hQ103
  have N103 := Fr.app N0 N103q
  have pre104 : own_P p e below s₁ (entryFrame m #[(.ref a1)] 1) T103 (mkF m 10 #[rv a1] [(.int (z >>> ((0 : Int32) &&& 31)))]) := fun t k => pre0 t (by
    show Steps p.tables e below (s₁.setTop (mkF m 0 #[rv a1] [])) t
    refine XS.aloadN X0.here hx rfl (hb hby d12_0) rfl rfl ?_
    refine st101 _ ?_
    refine X101.arraylength hx (by rw [e101]; exact Ar102.1) (State.isArrayOf_alike hZ.alike Ar102.2.1) (g := (mkF m 4 #[rv a1] [(.ref tv)])) rfl rfl (hb hby d12_4) _ ?_
    rw [len_of S102 N102z]
    refine XS.aloadN X101.here hx rfl (hb hby d12_5) rfl rfl ?_
    refine st103.trans ?_
    refine XS.ishr X103.here hx rfl (hb hby d12_9) rfl ?_
    exact k)
  obtain ⟨fs, hr, hrun, hended, hW, hsame⟩ := X103.leave (v := some (.int (z >>> ((0 : Int32) &&& 31)))) (fun h => by rw [Bd.returns] at h; cases h)
  refine ⟨_, _, pre104 _ ?_, hrun, hended, _, _, rfl, ?_, ⟨_, rfl⟩, hW, hsame.mono (by decide) (by decide)⟩
  · exact retI X103 hx Bd.returns (hb hby d12_10) hr
  · show QLen Z a1 cs tv kt z vs h0 n0 _ T103.heap _
    rw [e103]
    exact ⟨(by rw [own_shr0]), N103, rfl⟩
theorem pn_jdk_internal_util_Preconditions : plainName "jdk/internal/util/Preconditions" = true := by first | (simp [plainName, overriddenIn]; done) | decide +kernel
theorem ef_rmPi (m : MethodId) (x0 : Int32) (x1 : Int32) (x2 : Value) (hv2 : x2.isRef = true) : entryFrame m #[(.int x0), (.int x1), x2] 3 = mkF m 0 #[iv x0, iv x1, .val x2] [] := by
  rcases ref_cases hv2 with rfl | ⟨_, rfl⟩ <;> first | (simp [entryFrame, mkF, argsToLocals, Value.category]; done) | rfl
def QPi (Z : State) (p1 : Int32) (p2 : Int32) (vF : Value) (h0 : Heap) (n0 : Nat) (v : Option Value) (h : Heap) (L : List Loc) : Prop := v = some (.int p1) ∧ Fr n0 L ∧ h = h0
set_option maxRecDepth 65536 in
set_option maxHeartbeats 40000000 in
theorem rmPi (l : Launch) (Z : State) (a0 : Array Value) (hw : ∀ d ∈ tables_1, d.before a0 Z = true) (ws : List Jvm.Cond) (p1 : Int32) (p2 : Int32) (vF : Value) (h0 : Heap) (n0 : Nat) (Z0 : n0 ≤ h0.size) (hF : vF.isRef = true) (h1 : ¬ (p1 < (0 : Int32))) (h2 : p1 < p2) :
    own_M l own_y12 jdk_41_method_11_code 3 (some .int) ws (own_R 0 0 0 0) Z h0 #[(.int p1), (.int p2), vF] (QPi Z p1 p2 vF h0 n0) := by
  refine MetFree.of_bodySF (plainFor_of_name pn_jdk_internal_util_Preconditions) hisR ?_
  intro p e s m args below meth c s₁ Bd hml0 hP hK
  obtain ⟨rfl, hZ, hh⟩ := hP
  have hx := Bd.exec
  have hby := Bd.bytes
  have hml : c.maxLocals = 3 := hml0
  have hown : s.vm.findClass "jdk/internal/util/Preconditions" = some m.cls := findClass_of_methodNamed Bd.named
  have hnm := (name_of_methodNamed Bd.named Bd.method).1
  have X0 : Stand p l e (own_R 0 0 0 0) s m #[(.int p1), (.int p2), vF] below meth c s₁ [] 0 0 := Stand.of_body Bd
  have e0 : s₁.heap = h0 := by rw [← hh, Bd.state]; rfl
  have N0 := Fr.nil n0
  have pre0 : own_P p e below s₁ (entryFrame m #[(.int p1), (.int p2), vF] 3) s₁ (mkF m 0 #[iv p1, iv p2, .val vF] []) := fun t k => castTop (ef_rmPi m p1 p2 vF hF) k
  have pre101 : own_P p e below s₁ (entryFrame m #[(.int p1), (.int p2), vF] 3) s₁ (mkF m 17 #[iv p1, iv p2, .val vF] [(.int p1)]) := fun t k => pre0 t (by
    show Steps p.tables e below (s₁.setTop (mkF m 0 #[iv p1, iv p2, .val vF] [])) t
    refine XS.iloadN X0.here hx rfl (hb hby d24_0) rfl ?_
    refine XS.ifNo X0.here hx rfl (hb hby d24_1) rfl ((if0 _ _).trans (flt h1).1) ?_
    refine XS.iloadN X0.here hx rfl (hb hby d24_4) rfl ?_
    refine XS.iloadN X0.here hx rfl (hb hby d24_5) rfl ?_
    refine XS.icmpYes X0.here hx rfl (pc0 := 6) (pc' := 16) rfl (hb hby d24_6) rfl (tlt h2).1 (by decide) (by decide) ?_
    refine XS.iloadN X0.here hx rfl (hb hby d24_16) rfl ?_
    exact k)
  obtain ⟨fs, hr, hrun, hended, hW, hsame⟩ := X0.leave (v := some (.int p1)) (fun h => by rw [Bd.returns] at h; cases h)
  refine ⟨_, _, pre101 _ ?_, hrun, hended, _, _, rfl, ?_, ⟨_, rfl⟩, hW, hsame.mono (by decide) (by decide)⟩
  · exact retI X0 hx Bd.returns (hb hby d24_17) hr
  · show QPi Z p1 p2 vF h0 n0 _ s₁.heap _
    rw [e0]
    exact ⟨rfl, N0, rfl⟩
theorem pd_7 : parseMethodDescriptor "(IILjava/util/function/BiFunction;)I" = some ⟨[.int, .int, (.object "java/util/function/BiFunction")], some .int⟩ := by decide +kernel
theorem ef_rmKi (m : MethodId) (x0 : Int32) (x1 : Int32) : entryFrame m #[(.int x0), (.int x1)] 2 = mkF m 0 #[iv x0, iv x1] [] := by first | (simp [entryFrame, mkF, argsToLocals, Value.category]; done) | rfl
def QKi (Z : State) (p1 : Int32) (p2 : Int32) (vF : Value) (h0 : Heap) (n0 : Nat) (v : Option Value) (h : Heap) (L : List Loc) : Prop := v = none ∧ Fr n0 L ∧ h = h0
set_option maxRecDepth 65536 in
set_option maxHeartbeats 40000000 in
theorem rmKi (l : Launch) (Z : State) (a0 : Array Value) (hw : ∀ d ∈ tables_1, d.before a0 Z = true) (ws : List Jvm.Cond) (p1 : Int32) (p2 : Int32) (vF : Value) (h0 : Heap) (n0 : Nat) (Z0 : n0 ≤ h0.size) (SF : Sta Z h0 "jdk/internal/util/Preconditions" "SIOOBE_FORMATTER" "Ljava/util/function/BiFunction;" vF) (hF : vF.isRef = true) (h1 : ¬ (p1 < (0 : Int32))) (h2 : p1 < p2) :
    own_M l own_y13 jdk_42_method_155_code 2 none ws (own_R 1 0 0 14) Z h0 #[(.int p1), (.int p2)] (QKi Z p1 p2 vF h0 n0) := by
  refine MetFree.of_bodySF (plainFor_of_name pn_java_lang_String) hisR ?_
  intro p e s m args below meth c s₁ Bd hml0 hP hK
  obtain ⟨rfl, hZ, hh⟩ := hP
  have hx := Bd.exec
  have hby := Bd.bytes
  have hml : c.maxLocals = 2 := hml0
  have hown : s.vm.findClass "java/lang/String" = some m.cls := findClass_of_methodNamed Bd.named
  have hnm := (name_of_methodNamed Bd.named Bd.method).1
  have X0 : Stand p l e (own_R 1 0 0 14) s m #[(.int p1), (.int p2)] below meth c s₁ [] 0 0 := Stand.of_body Bd
  have e0 : s₁.heap = h0 := by rw [← hh, Bd.state]; rfl
  have N0 := Fr.nil n0
  have pre0 : own_P p e below s₁ (entryFrame m #[(.int p1), (.int p2)] 2) s₁ (mkF m 0 #[iv p1, iv p2] []) := fun t k => castTop (ef_rmKi m p1 p2) k
  obtain ⟨T101, X101, e101, st101⟩ := getS2 X0 hx hZ hown (host := "") (Or.inl (own_i hw 72 rfl)) Via.refl e0 SF (g := (mkF m 2 #[iv p1, iv p2] [(.int p2), (.int p1)])) rfl (hb hby d23_2)
  obtain ⟨_, _, ⟨T102, L102, k102, n102⟩, -, X102, ⟨Lc102, hQ102, l102, y102, z102⟩, st102⟩ := Jvm.LawKit.callS X101 hx (y := own_y12) hown (own_m hZ hw 103) (own_m hZ hw 104) (own_m hZ hw 73) (own_m hZ hw 105) (by decide) (backOf (W := 0) (rmPi l Z a0 hw [] p1 p2 vF h0 n0 Z0 hF h1 h2) hZ (own_i hw 105 rfl) (own_i hw 73 rfl) (by decide) (by decide)) (g := (mkF m 5 #[iv p1, iv p2] [vF, (.int p2), (.int p1)])) rfl (by rw [hml]; rfl) (argsL := [(.int p1), (.int p2), vF]) (rest := []) (lenOf pd_7 rfl) rfl (Nat.le_of_eq rfl) (hb hby d23_5) (fun _ _ => ⟨rfl, e101, (by decide : 0 + 0 ≤ _), (by decide : 0 + 0 ≤ _)⟩)
  dsimp only [Pt.U, Pt.locs, Pt.cells, Pt.slots] at X102 l102 y102 z102 st102 hQ102
  subst l102 y102 z102
  obtain ⟨rfl, N102q, e102⟩ := hQ102
  have N102 := Fr.app N0 N102q
  have pre103 : own_P p e below s₁ (entryFrame m #[(.int p1), (.int p2)] 2) T102 (mkF m 9 #[iv p1, iv p2] []) := fun t k => pre0 t (by
    show Steps p.tables e below (s₁.setTop (mkF m 0 #[iv p1, iv p2] [])) t
    refine XS.iloadN X0.here hx rfl (hb hby d23_0) rfl ?_
    refine XS.iloadN X0.here hx rfl (hb hby d23_1) rfl ?_
    refine st101 _ ?_
    refine st102 _ ?_
    refine XS.pop X102.here hx rfl (hb hby d23_8) rfl rfl ?_
    exact k)
  obtain ⟨fs, hr, hrun, hended, hW, hsame⟩ := X102.leave (v := none) (fun _ => rfl)
  refine ⟨_, _, pre103 _ ?_, hrun, hended, _, _, rfl, ?_, ⟨_, rfl⟩, hW, hsame.mono (by decide) (by decide)⟩
  · exact X102.returnOut hx Bd.returns (hb hby d23_9) hr
  · show QKi Z p1 p2 vF h0 n0 _ T102.heap _
    rw [e102]
    exact ⟨rfl, N102, rfl⟩
theorem pn_java_lang_StringLatin1 : plainName "java/lang/StringLatin1" = true := by first | (simp [plainName, overriddenIn]; done) | decide +kernel
theorem pd_8 : parseMethodDescriptor "(II)V" = some ⟨[.int, .int], none⟩ := by decide +kernel
theorem ef_rmLc (m : MethodId) (x0 : Addr) (x1 : Int32) : entryFrame m #[(.ref x0), (.int x1)] 2 = mkF m 0 #[rv x0, iv x1] [] := by first | (simp [entryFrame, mkF, argsToLocals, Value.category]; done) | rfl
def QLc (Z : State) (a1 : Addr) (p2 : Int32) (vF : Value) (kt : ClassId) (y : Int32) (z : Int32) (vs : List Value) (h0 : Heap) (n0 : Nat) (v : Option Value) (h : Heap) (L : List Loc) : Prop := v = some (.int (own_lc y)) ∧ Fr n0 L ∧ h = h0
set_option maxRecDepth 65536 in
set_option maxHeartbeats 40000000 in
theorem rmLc (l : Launch) (Z : State) (a0 : Array Value) (hw : ∀ d ∈ tables_1, d.before a0 Z = true) (ws : List Jvm.Cond) (a1 : Addr) (p2 : Int32) (vF : Value) (kt : ClassId) (y : Int32) (z : Int32) (vs : List Value) (h0 : Heap) (n0 : Nat) (Z0 : n0 ≤ h0.size) (SF : Sta Z h0 "jdk/internal/util/Preconditions" "SIOOBE_FORMATTER" "Ljava/util/function/BiFunction;" vF) (hF : vF.isRef = true) (V1 : Arv Z h0 a1 kt .byte z vs (.int 0)) (h1 : ¬ (p2 < (0 : Int32))) (h2 : p2 < z) (hy : vs.getD p2.toNatClampNeg (.int 0) = (.int y)) :
    own_M l own_y14 jdk_43_method_2_code 2 (some .char) ws (own_R 2 0 0 27) Z h0 #[(.ref a1), (.int p2)] (QLc Z a1 p2 vF kt y z vs h0 n0) := by
  refine MetFree.of_bodySF (plainFor_of_name pn_java_lang_StringLatin1) hisR ?_
  intro p e s m args below meth c s₁ Bd hml0 hP hK
  obtain ⟨rfl, hZ, hh⟩ := hP
  have hx := Bd.exec
  have hby := Bd.bytes
  have hml : c.maxLocals = 2 := hml0
  have hown : s.vm.findClass "java/lang/StringLatin1" = some m.cls := findClass_of_methodNamed Bd.named
  have hnm := (name_of_methodNamed Bd.named Bd.method).1
  have X0 : Stand p l e (own_R 2 0 0 27) s m #[(.ref a1), (.int p2)] below meth c s₁ [] 0 0 := Stand.of_body Bd
  have e0 : s₁.heap = h0 := by rw [← hh, Bd.state]; rfl
  have N0 := Fr.nil n0
  have pre0 : own_P p e below s₁ (entryFrame m #[(.ref a1), (.int p2)] 2) s₁ (mkF m 0 #[rv a1, iv p2] []) := fun t k => castTop (ef_rmLc m a1 p2) k
  obtain ⟨cl101, Ar101, q101, S101, N101z, H101, G101⟩ := (id V1)
  obtain ⟨_, _, ⟨T102, L102, k102, n102⟩, -, X102, ⟨Lc102, hQ102, l102, y102, z102⟩, st102⟩ := Jvm.LawKit.callS X0 hx (y := own_y13) hown (own_m hZ hw 100) (own_m hZ hw 101) (own_m hZ hw 10) (own_m hZ hw 102) (by decide) (backOf (W := 0) (rmKi l Z a0 hw [] p2 z vF h0 n0 Z0 SF hF h1 h2) hZ (own_i hw 102 rfl) (own_i hw 10 rfl) (by decide) (by decide)) (g := (mkF m 3 #[rv a1, iv p2] [(.int z), (.int p2)])) rfl (by rw [hml]; rfl) (argsL := [(.int p2), (.int z)]) (rest := []) (lenOf pd_8 rfl) rfl (Nat.le_of_eq rfl) (hb hby d22_3) (fun _ _ => ⟨rfl, e0, (by decide : 0 + 0 ≤ _), (by decide : 0 + 0 ≤ _)⟩)
  dsimp only [Pt.U, Pt.locs, Pt.cells, Pt.slots] at X102 l102 y102 z102 st102 hQ102
  subst l102 y102 z102
  obtain ⟨rfl, N102q, e102⟩ := hQ102
  have N102 := Fr.app N0 N102q
  obtain ⟨cl103, Ar103, q103, S103, N103z, H103, G103⟩ := (id V1)
  have hin103 : ¬ (p2 < 0 ∨ cl103.slots.size ≤ p2.toNatClampNeg) := inb_of S103 ⟨h1, h2⟩
  have hat103 : cl103.slots[p2.toNatClampNeg]? = some (.int y) := Has.at H103 hin103 hy
  have pre104 : own_P p e below s₁ (entryFrame m #[(.ref a1), (.int p2)] 2) T102 (mkF m 14 #[rv a1, iv p2] [(.int ((y &&& (255 : Int32)).toUInt32.toUInt16.toUInt32.toInt32))]) := fun t k => pre0 t (by
    show Steps p.tables e below (s₁.setTop (mkF m 0 #[rv a1, iv p2] [])) t
    refine XS.iloadN X0.here hx rfl (hb hby d22_0) rfl ?_
    refine XS.aloadN X0.here hx rfl (hb hby d22_1) rfl rfl ?_
    refine X0.arraylength hx (by rw [e0]; exact Ar101.1) (State.isArrayOf_alike hZ.alike Ar101.2.1) (g := (mkF m 2 #[rv a1, iv p2] [(.ref a1), (.int p2)])) rfl rfl (hb hby d22_2) _ ?_
    rw [len_of S101 N101z]
    refine st102 _ ?_
    refine XS.aloadN X102.here hx rfl (hb hby d22_6) rfl rfl ?_
    refine XS.iloadN X102.here hx rfl (hb hby d22_7) rfl ?_
    refine X102.baloadBytes hx (j := p2) (v := (.int y)) (by rw [e102]; exact Ar103.1) (State.isArrayOf_alike hZ.alike Ar103.2.1) Ar103.2.2 hin103 hat103 (g := (mkF m 8 #[rv a1, iv p2] [(.int p2), (.ref a1)])) rfl rfl (hb hby d22_8) _ ?_
    refine XS.sipush X102.here hx rfl (hb hby d22_9) ?_
    refine XS.iand X102.here hx rfl (hb hby d22_12) rfl ?_
    refine XS.i2c X102.here hx rfl (hb hby d22_13) rfl ?_
    exact k)
  obtain ⟨fs, hr, hrun, hended, hW, hsame⟩ := X102.leave (v := some (.int (nar .char ((y &&& (255 : Int32)).toUInt32.toUInt16.toUInt32.toInt32)))) (fun h => by rw [Bd.returns] at h; cases h)
  refine ⟨_, _, pre104 _ ?_, hrun, hended, _, _, rfl, ?_, ⟨_, rfl⟩, hW, hsame.mono (by decide) (by decide)⟩
  · exact retN X102 hx (t := .char) Bd.returns (by simp) (hb hby d22_14) hr
  · show QLc Z a1 p2 vF kt y z vs h0 n0 _ T102.heap _
    rw [e102]
    exact ⟨rfl, N102, rfl⟩
theorem pd_9 : parseMethodDescriptor "()Z" = some ⟨[], some .boolean⟩ := by decide +kernel
theorem pd_10 : parseMethodDescriptor "([BI)C" = some ⟨[(.array .byte), .int], some .char⟩ := by decide +kernel
theorem ef_rmCh (m : MethodId) (x0 : Addr) (x1 : Int32) : entryFrame m #[(.ref x0), (.int x1)] 2 = mkF m 0 #[rv x0, iv x1] [] := by first | (simp [entryFrame, mkF, argsToLocals, Value.category]; done) | rfl
def QCh (Z : State) (a1 : Addr) (p2 : Int32) (cs : Int32) (vF : Value) (t : Addr) (kt : ClassId) (y : Int32) (z : Int32) (vs : List Value) (h0 : Heap) (n0 : Nat) (v : Option Value) (h : Heap) (L : List Loc) : Prop := v = some (.int (own_cat y)) ∧ Fr n0 L ∧ h = h0
set_option maxRecDepth 65536 in
set_option maxHeartbeats 40000000 in
theorem rmCh (l : Launch) (Z : State) (a0 : Array Value) (hw : ∀ d ∈ tables_1, d.before a0 Z = true) (ws : List Jvm.Cond) (a1 : Addr) (p2 : Int32) (cs : Int32) (vF : Value) (t : Addr) (kt : ClassId) (y : Int32) (z : Int32) (vs : List Value) (h0 : Heap) (n0 : Nat) (Z0 : n0 ≤ h0.size) (SC : Sta Z h0 "java/lang/String" "COMPACT_STRINGS" "Z" (.int cs)) (hcs : ¬ (cs = (0 : Int32))) (SF : Sta Z h0 "jdk/internal/util/Preconditions" "SIOOBE_FORMATTER" "Ljava/util/function/BiFunction;" vF) (hF : vF.isRef = true) (E1 : Exa Z h0 a1 "java/lang/String") (C1 : Fld Z h0 a1 "java/lang/String" "coder" "B" (.int 0)) (W1 : Fld Z h0 a1 "java/lang/String" "value" "[B" (.ref t)) (V1 : Arv Z h0 t kt .byte z vs (.int 0)) (h1 : ¬ (p2 < (0 : Int32))) (h2 : p2 < z) (hy : vs.getD p2.toNatClampNeg (.int 0) = (.int y)) :
    own_M l own_y15 jdk_42_method_56_code 2 (some .char) ws (own_R 3 0 0 40) Z h0 #[(.ref a1), (.int p2)] (QCh Z a1 p2 cs vF t kt y z vs h0 n0) := by
  refine MetFree.of_bodySF (plainFor_of_name pn_java_lang_String) hisR ?_
  intro p e s m args below meth c s₁ Bd hml0 hP hK
  obtain ⟨rfl, hZ, hh⟩ := hP
  have hx := Bd.exec
  have hby := Bd.bytes
  have hml : c.maxLocals = 2 := hml0
  have hown : s.vm.findClass "java/lang/String" = some m.cls := findClass_of_methodNamed Bd.named
  have hnm := (name_of_methodNamed Bd.named Bd.method).1
  have X0 : Stand p l e (own_R 3 0 0 40) s m #[(.ref a1), (.int p2)] below meth c s₁ [] 0 0 := Stand.of_body Bd
  have e0 : s₁.heap = h0 := by rw [← hh, Bd.state]; rfl
  have N0 := Fr.nil n0
  have pre0 : own_P p e below s₁ (entryFrame m #[(.ref a1), (.int p2)] 2) s₁ (mkF m 0 #[rv a1, iv p2] []) := fun t k => castTop (ef_rmCh m a1 p2) k
  obtain ⟨cq101, kq101, q101a, q101b, q101c⟩ := isOf hZ e0 E1
  obtain ⟨_, _, ⟨T101, L101, k101, n101⟩, -, X101, ⟨Lc101, hQ101, l101, y101, z101⟩, st101⟩ := X0.virtualBack hx (y := own_y10) (z := own_y10) hown (own_m hZ hw 92) (own_m hZ hw 93) (notFace_of_selects (args := #[]) (own_m hZ hw 95)) (own_m hZ hw 95) (own_m hZ hw 94) (by decide) (backOf (W := 0) (rmIl l Z a0 hw [] a1 cs h0 n0 Z0 SC hcs C1) hZ (own_i hw 96 rfl) (own_i hw 10 rfl) (by decide) (by decide)) q101a q101c (g := (mkF m 1 #[rv a1, iv p2] [(.ref a1)])) rfl (by rw [hml]; rfl) (Steps.refl _) (argsL := []) (rest := []) (lenOf pd_9 rfl) rfl (Nat.le_of_eq rfl) (hb hby d20_1) (fun _ _ => ⟨rfl, e0, (by decide : 0 + 0 ≤ _), (by decide : 0 + 0 ≤ _)⟩)
  dsimp only [Pt.U, Pt.locs, Pt.cells, Pt.slots] at X101 l101 y101 z101 st101 hQ101
  subst l101 y101 z101
  obtain ⟨rfl, N101q, e101⟩ := hQ101
  have N101 := Fr.app N0 N101q
  obtain ⟨T102, X102, e102, st102⟩ := getF X101 hx hZ hown (host := "") (Or.inl (own_i hw 39 rfl)) Via.refl e101 W1 (g := (mkF m 8 #[rv a1, iv p2] [(.ref a1)])) rfl rfl (hb hby d20_8)
  obtain ⟨_, _, ⟨T103, L103, k103, n103⟩, -, X103, ⟨Lc103, hQ103, l103, y103, z103⟩, st103⟩ := Jvm.LawKit.callS X102 hx (y := own_y14) hown (own_m hZ hw 97) (own_m hZ hw 98) (own_m hZ hw 85) (own_m hZ hw 99) (by decide) (backOf (W := 0) (rmLc l Z a0 hw [] t p2 vF kt y z vs h0 n0 Z0 SF hF V1 h1 h2 hy) hZ (own_i hw 99 rfl) (own_i hw 85 rfl) (by decide) (by decide)) (g := (mkF m 12 #[rv a1, iv p2] [(.int p2), (.ref t)])) rfl (by rw [hml]; rfl) (argsL := [(.ref t), (.int p2)]) (rest := []) (lenOf pd_10 rfl) rfl (Nat.le_of_eq rfl) (hb hby d20_12) (fun _ _ => ⟨rfl, e102, (by decide : 0 + 0 ≤ _), (by decide : 0 + 0 ≤ _)⟩)
  dsimp only [Pt.U, Pt.locs, Pt.cells, Pt.slots] at X103 l103 y103 z103 st103 hQ103
  subst l103 y103 z103
  obtain ⟨rfl, N103q, e103⟩ := hQ103
  have N103 := Fr.app N101 N103q
  have pre104 : own_P p e below s₁ (entryFrame m #[(.ref a1), (.int p2)] 2) T103 (mkF m 15 #[rv a1, iv p2] [(.int (own_lc y))]) := fun t k => pre0 t (by
    show Steps p.tables e below (s₁.setTop (mkF m 0 #[rv a1, iv p2] [])) t
    refine XS.aloadN X0.here hx rfl (hb hby d20_0) rfl rfl ?_
    refine st101.trans ?_
    refine XS.ifNo X101.here hx rfl (hb hby d20_4) rfl ((if0 _ _).trans (feq (by decide : ¬ ((1 : Int32) = (0 : Int32)))).1) ?_
    refine XS.aloadN X101.here hx rfl (hb hby d20_7) rfl rfl ?_
    refine st102 _ ?_
    refine XS.iloadN X102.here hx rfl (hb hby d20_11) rfl ?_
    refine st103 _ ?_
    exact k)
  obtain ⟨fs, hr, hrun, hended, hW, hsame⟩ := X103.leave (v := some (.int (nar .char (own_lc y)))) (fun h => by rw [Bd.returns] at h; cases h)
  refine ⟨_, _, pre104 _ ?_, hrun, hended, _, _, rfl, ?_, ⟨_, rfl⟩, hW, hsame.mono (by decide) (by decide)⟩
  · exact retN X103 hx (t := .char) Bd.returns (by simp) (hb hby d20_15) hr
  · show QCh Z a1 p2 cs vF t kt y z vs h0 n0 _ T103.heap _
    rw [e103]
    exact ⟨rfl, N103, rfl⟩
theorem ef_rmFt (m : MethodId) (x0 : Int32) (x1 : Int32) (x2 : Int32) (x3 : Value) (hv3 : x3.isRef = true) : entryFrame m #[(.int x0), (.int x1), (.int x2), x3] 4 = mkF m 0 #[iv x0, iv x1, iv x2, .val x3] [] := by
  rcases ref_cases hv3 with rfl | ⟨_, rfl⟩ <;> first | (simp [entryFrame, mkF, argsToLocals, Value.category]; done) | rfl
def QFt (Z : State) (p1 : Int32) (p2 : Int32) (p3 : Int32) (vF : Value) (h0 : Heap) (n0 : Nat) (v : Option Value) (h : Heap) (L : List Loc) : Prop := v = some (.int p1) ∧ Fr n0 L ∧ h = h0
set_option maxRecDepth 65536 in
set_option maxHeartbeats 40000000 in
theorem rmFt (l : Launch) (Z : State) (a0 : Array Value) (hw : ∀ d ∈ tables_1, d.before a0 Z = true) (ws : List Jvm.Cond) (p1 : Int32) (p2 : Int32) (p3 : Int32) (vF : Value) (h0 : Heap) (n0 : Nat) (Z0 : n0 ≤ h0.size) (hF : vF.isRef = true) (h1 : ¬ (p1 < (0 : Int32))) (h2 : ¬ (p2 < p1)) (h3 : ¬ (p3 < p2)) :
    own_M l own_y16 jdk_41_method_12_code 4 (some .int) ws (own_R 0 0 0 0) Z h0 #[(.int p1), (.int p2), (.int p3), vF] (QFt Z p1 p2 p3 vF h0 n0) := by
  refine MetFree.of_bodySF (plainFor_of_name pn_jdk_internal_util_Preconditions) hisR ?_
  intro p e s m args below meth c s₁ Bd hml0 hP hK
  obtain ⟨rfl, hZ, hh⟩ := hP
  have hx := Bd.exec
  have hby := Bd.bytes
  have hml : c.maxLocals = 4 := hml0
  have hown : s.vm.findClass "jdk/internal/util/Preconditions" = some m.cls := findClass_of_methodNamed Bd.named
  have hnm := (name_of_methodNamed Bd.named Bd.method).1
  have X0 : Stand p l e (own_R 0 0 0 0) s m #[(.int p1), (.int p2), (.int p3), vF] below meth c s₁ [] 0 0 := Stand.of_body Bd
  have e0 : s₁.heap = h0 := by rw [← hh, Bd.state]; rfl
  have N0 := Fr.nil n0
  have pre0 : own_P p e below s₁ (entryFrame m #[(.int p1), (.int p2), (.int p3), vF] 4) s₁ (mkF m 0 #[iv p1, iv p2, iv p3, .val vF] []) := fun t k => castTop (ef_rmFt m p1 p2 p3 vF hF) k
  have pre101 : own_P p e below s₁ (entryFrame m #[(.int p1), (.int p2), (.int p3), vF] 4) s₁ (mkF m 23 #[iv p1, iv p2, iv p3, .val vF] [(.int p1)]) := fun t k => pre0 t (by
    show Steps p.tables e below (s₁.setTop (mkF m 0 #[iv p1, iv p2, iv p3, .val vF] [])) t
    refine XS.iloadN X0.here hx rfl (hb hby d17_0) rfl ?_
    refine XS.ifNo X0.here hx rfl (hb hby d17_1) rfl ((if0 _ _).trans (flt h1).1) ?_
    refine XS.iloadN X0.here hx rfl (hb hby d17_4) rfl ?_
    refine XS.iloadN X0.here hx rfl (hb hby d17_5) rfl ?_
    refine XS.icmpNo X0.here hx rfl (hb hby d17_6) rfl (flt h2).2.2.1 ?_
    refine XS.iloadN X0.here hx rfl (hb hby d17_9) rfl ?_
    refine XS.iloadN X0.here hx rfl (hb hby d17_10) rfl ?_
    refine XS.icmpYes X0.here hx rfl (pc0 := 11) (pc' := 22) rfl (hb hby d17_11) rfl (flt h3).2.2.2 (by decide) (by decide) ?_
    refine XS.iloadN X0.here hx rfl (hb hby d17_22) rfl ?_
    exact k)
  obtain ⟨fs, hr, hrun, hended, hW, hsame⟩ := X0.leave (v := some (.int p1)) (fun h => by rw [Bd.returns] at h; cases h)
  refine ⟨_, _, pre101 _ ?_, hrun, hended, _, _, rfl, ?_, ⟨_, rfl⟩, hW, hsame.mono (by decide) (by decide)⟩
  · exact retI X0 hx Bd.returns (hb hby d17_23) hr
  · show QFt Z p1 p2 p3 vF h0 n0 _ s₁.heap _
    rw [e0]
    exact ⟨rfl, N0, rfl⟩
theorem pd_11 : parseMethodDescriptor "(IIILjava/util/function/BiFunction;)I" = some ⟨[.int, .int, .int, (.object "java/util/function/BiFunction")], some .int⟩ := by decide +kernel
theorem ef_rmBe (m : MethodId) (x0 : Int32) (x1 : Int32) (x2 : Int32) : entryFrame m #[(.int x0), (.int x1), (.int x2)] 3 = mkF m 0 #[iv x0, iv x1, iv x2] [] := by first | (simp [entryFrame, mkF, argsToLocals, Value.category]; done) | rfl
def QBe (Z : State) (p1 : Int32) (p2 : Int32) (p3 : Int32) (vF : Value) (h0 : Heap) (n0 : Nat) (v : Option Value) (h : Heap) (L : List Loc) : Prop := v = none ∧ Fr n0 L ∧ h = h0
set_option maxRecDepth 65536 in
set_option maxHeartbeats 40000000 in
theorem rmBe (l : Launch) (Z : State) (a0 : Array Value) (hw : ∀ d ∈ tables_1, d.before a0 Z = true) (ws : List Jvm.Cond) (p1 : Int32) (p2 : Int32) (p3 : Int32) (vF : Value) (h0 : Heap) (n0 : Nat) (Z0 : n0 ≤ h0.size) (SF : Sta Z h0 "jdk/internal/util/Preconditions" "SIOOBE_FORMATTER" "Ljava/util/function/BiFunction;" vF) (hF : vF.isRef = true) (h1 : ¬ (p1 < (0 : Int32))) (h2 : ¬ (p2 < p1)) (h3 : ¬ (p3 < p2)) :
    own_M l own_y17 jdk_42_method_158_code 3 none ws (own_R 1 0 0 15) Z h0 #[(.int p1), (.int p2), (.int p3)] (QBe Z p1 p2 p3 vF h0 n0) := by
  refine MetFree.of_bodySF (plainFor_of_name pn_java_lang_String) hisR ?_
  intro p e s m args below meth c s₁ Bd hml0 hP hK
  obtain ⟨rfl, hZ, hh⟩ := hP
  have hx := Bd.exec
  have hby := Bd.bytes
  have hml : c.maxLocals = 3 := hml0
  have hown : s.vm.findClass "java/lang/String" = some m.cls := findClass_of_methodNamed Bd.named
  have hnm := (name_of_methodNamed Bd.named Bd.method).1
  have X0 : Stand p l e (own_R 1 0 0 15) s m #[(.int p1), (.int p2), (.int p3)] below meth c s₁ [] 0 0 := Stand.of_body Bd
  have e0 : s₁.heap = h0 := by rw [← hh, Bd.state]; rfl
  have N0 := Fr.nil n0
  have pre0 : own_P p e below s₁ (entryFrame m #[(.int p1), (.int p2), (.int p3)] 3) s₁ (mkF m 0 #[iv p1, iv p2, iv p3] []) := fun t k => castTop (ef_rmBe m p1 p2 p3) k
  obtain ⟨T101, X101, e101, st101⟩ := getS2 X0 hx hZ hown (host := "") (Or.inl (own_i hw 72 rfl)) Via.refl e0 SF (g := (mkF m 3 #[iv p1, iv p2, iv p3] [(.int p3), (.int p2), (.int p1)])) rfl (hb hby d16_3)
  obtain ⟨_, _, ⟨T102, L102, k102, n102⟩, -, X102, ⟨Lc102, hQ102, l102, y102, z102⟩, st102⟩ := Jvm.LawKit.callS X101 hx (y := own_y16) hown (own_m hZ hw 74) (own_m hZ hw 75) (own_m hZ hw 73) (own_m hZ hw 76) (by decide) (backOf (W := 0) (rmFt l Z a0 hw [] p1 p2 p3 vF h0 n0 Z0 hF h1 h2 h3) hZ (own_i hw 76 rfl) (own_i hw 73 rfl) (by decide) (by decide)) (g := (mkF m 6 #[iv p1, iv p2, iv p3] [vF, (.int p3), (.int p2), (.int p1)])) rfl (by rw [hml]; rfl) (argsL := [(.int p1), (.int p2), (.int p3), vF]) (rest := []) (lenOf pd_11 rfl) rfl (Nat.le_of_eq rfl) (hb hby d16_6) (fun _ _ => ⟨rfl, e101, (by decide : 0 + 0 ≤ _), (by decide : 0 + 0 ≤ _)⟩)
  dsimp only [Pt.U, Pt.locs, Pt.cells, Pt.slots] at X102 l102 y102 z102 st102 hQ102
  subst l102 y102 z102
  obtain ⟨rfl, N102q, e102⟩ := hQ102
  have N102 := Fr.app N0 N102q
  have pre103 : own_P p e below s₁ (entryFrame m #[(.int p1), (.int p2), (.int p3)] 3) T102 (mkF m 10 #[iv p1, iv p2, iv p3] []) := fun t k => pre0 t (by
    show Steps p.tables e below (s₁.setTop (mkF m 0 #[iv p1, iv p2, iv p3] [])) t
    refine XS.iloadN X0.here hx rfl (hb hby d16_0) rfl ?_
    refine XS.iloadN X0.here hx rfl (hb hby d16_1) rfl ?_
    refine XS.iloadN X0.here hx rfl (hb hby d16_2) rfl ?_
    refine st101 _ ?_
    refine st102 _ ?_
    refine XS.pop X102.here hx rfl (hb hby d16_9) rfl rfl ?_
    exact k)
  obtain ⟨fs, hr, hrun, hended, hW, hsame⟩ := X102.leave (v := none) (fun _ => rfl)
  refine ⟨_, _, pre103 _ ?_, hrun, hended, _, _, rfl, ?_, ⟨_, rfl⟩, hW, hsame.mono (by decide) (by decide)⟩
  · exact X102.returnOut hx Bd.returns (hb hby d16_10) hr
  · show QBe Z p1 p2 p3 vF h0 n0 _ T102.heap _
    rw [e102]
    exact ⟨rfl, N102, rfl⟩
theorem pn_java_util_Arrays : plainName "java/util/Arrays" = true := by first | (simp [plainName, overriddenIn]; done) | decide +kernel
theorem ef_rmCl (m : MethodId) (x0 : Int32) (x1 : Int32) : entryFrame m #[(.int x0), (.int x1)] 2 = mkF m 0 #[iv x0, iv x1] [] := by first | (simp [entryFrame, mkF, argsToLocals, Value.category]; done) | rfl
def QCl (Z : State) (p1 : Int32) (p2 : Int32) (h0 : Heap) (n0 : Nat) (v : Option Value) (h : Heap) (L : List Loc) : Prop := v = none ∧ Fr n0 L ∧ h = h0
set_option maxRecDepth 65536 in
set_option maxHeartbeats 40000000 in
theorem rmCl (l : Launch) (Z : State) (a0 : Array Value) (hw : ∀ d ∈ tables_1, d.before a0 Z = true) (ws : List Jvm.Cond) (p1 : Int32) (p2 : Int32) (h0 : Heap) (n0 : Nat) (Z0 : n0 ≤ h0.size) (h1 : ¬ (p2 < p1)) :
    own_M l own_y18 jdk_65_method_131_code 2 none ws (own_R 0 0 0 0) Z h0 #[(.int p1), (.int p2)] (QCl Z p1 p2 h0 n0) := by
  refine MetFree.of_bodySF (plainFor_of_name pn_java_util_Arrays) hisR ?_
  intro p e s m args below meth c s₁ Bd hml0 hP hK
  obtain ⟨rfl, hZ, hh⟩ := hP
  have hx := Bd.exec
  have hby := Bd.bytes
  have hml : c.maxLocals = 2 := hml0
  have hown : s.vm.findClass "java/util/Arrays" = some m.cls := findClass_of_methodNamed Bd.named
  have hnm := (name_of_methodNamed Bd.named Bd.method).1
  have X0 : Stand p l e (own_R 0 0 0 0) s m #[(.int p1), (.int p2)] below meth c s₁ [] 0 0 := Stand.of_body Bd
  have e0 : s₁.heap = h0 := by rw [← hh, Bd.state]; rfl
  have N0 := Fr.nil n0
  have pre0 : own_P p e below s₁ (entryFrame m #[(.int p1), (.int p2)] 2) s₁ (mkF m 0 #[iv p1, iv p2] []) := fun t k => castTop (ef_rmCl m p1 p2) k
  have pre101 : own_P p e below s₁ (entryFrame m #[(.int p1), (.int p2)] 2) s₁ (mkF m 37 #[iv p1, iv p2] []) := fun t k => pre0 t (by
    show Steps p.tables e below (s₁.setTop (mkF m 0 #[iv p1, iv p2] [])) t
    refine XS.iloadN X0.here hx rfl (hb hby d28_0) rfl ?_
    refine XS.iloadN X0.here hx rfl (hb hby d28_1) rfl ?_
    refine XS.icmpYes X0.here hx rfl (pc0 := 2) (pc' := 37) rfl (hb hby d28_2) rfl (flt h1).2.1 (by decide) (by decide) ?_
    exact k)
  obtain ⟨fs, hr, hrun, hended, hW, hsame⟩ := X0.leave (v := none) (fun _ => rfl)
  refine ⟨_, _, pre101 _ ?_, hrun, hended, _, _, rfl, ?_, ⟨_, rfl⟩, hW, hsame.mono (by decide) (by decide)⟩
  · exact X0.returnOut hx Bd.returns (hb hby d28_37) hr
  · show QCl Z p1 p2 h0 n0 _ s₁.heap _
    rw [e0]
    exact ⟨rfl, N0, rfl⟩
theorem ef_rmSi (m : MethodId) (x0 : Addr) (x1 : Addr) : entryFrame m #[(.ref x0), (.ref x1), (.int 0)] 3 = mkF m 0 #[rv x0, rv x1, iv 0] [] := by first | (simp [entryFrame, mkF, argsToLocals, Value.category]; done) | rfl
def QSi (Z : State) (a1 : Addr) (a2 : Addr) (h0 : Heap) (n0 : Nat) (v : Option Value) (h : Heap) (L : List Loc) : Prop := v = none ∧ Fr n0 L ∧ Keep h0 h [a1] ∧ (Exa Z h a1 "java/lang/String") ∧ (Fld Z h a1 "java/lang/String" "coder" "B" (.int 0)) ∧ (Fld Z h a1 "java/lang/String" "value" "[B" (.ref a2))
set_option maxRecDepth 65536 in
set_option maxHeartbeats 40000000 in
theorem rmSi (l : Launch) (Z : State) (a0 : Array Value) (hw : ∀ d ∈ tables_1, d.before a0 Z = true) (ws : List Jvm.Cond) (a1 : Addr) (a2 : Addr) (h0 : Heap) (n0 : Nat) (Z0 : n0 ≤ h0.size) (F1 : Fld Z h0 a1 "java/lang/String" "value" "[B" .null) (F2 : Fld Z h0 a1 "java/lang/String" "coder" "B" (.int 0)) (E1 : Exa Z h0 a1 "java/lang/String") (g1 : n0 ≤ a1) :
    own_M l own_y19 jdk_42_method_151_code 3 none ws (own_R 1 0 0 12) Z h0 #[(.ref a1), (.ref a2), (.int 0)] (QSi Z a1 a2 h0 n0) := by
  refine MetFree.of_bodySF (plainFor_of_name pn_java_lang_String) hisR ?_
  intro p e s m args below meth c s₁ Bd hml0 hP hK
  obtain ⟨rfl, hZ, hh⟩ := hP
  have hx := Bd.exec
  have hby := Bd.bytes
  have hml : c.maxLocals = 3 := hml0
  have hown : s.vm.findClass "java/lang/String" = some m.cls := findClass_of_methodNamed Bd.named
  have hnm := (name_of_methodNamed Bd.named Bd.method).1
  have X0 : Stand p l e (own_R 1 0 0 12) s m #[(.ref a1), (.ref a2), (.int 0)] below meth c s₁ [] 0 0 := Stand.of_body Bd
  have e0 : s₁.heap = h0 := by rw [← hh, Bd.state]; rfl
  have N0 := Fr.nil n0
  have pre0 : own_P p e below s₁ (entryFrame m #[(.ref a1), (.ref a2), (.int 0)] 3) s₁ (mkF m 0 #[rv a1, rv a2, iv 0] []) := fun t k => castTop (ef_rmSi m a1 a2) k
  have f101 := Keep.refl h0 [a1]
  obtain ⟨T102, X102, e102, st102⟩ := initO X0 hx hZ hown (own_i hw 22 rfl) (own_i hw 23 rfl) (own_i hw 24 rfl) e0 (g := (mkF m 1 #[rv a1, rv a2, iv 0] [(.ref a1)])) rfl (by rw [hml]; rfl) rfl (hb hby d30_1) (by decide) (W := 0) (Nat.le_of_eq rfl) (by decide)
  obtain ⟨T103, h103, X103, e103, W103, st103⟩ := putF X102 hx hZ hown (host := "") (Or.inl (own_i hw 39 rfl)) Via.refl e102 F1 E1 (Or.inr ⟨(own_i hw 40 rfl), rfl, hnm⟩) (own_i hw 9 rfl) (ty := (.array .byte)) (by decide) rfl rfl (g := (mkF m 6 #[rv a1, rv a2, iv 0] [(.ref a2), (.ref a1)])) rfl rfl (hb hby d30_6)
  have Fw103 := F1.same W103
  have N103 := Fr.snoc X103 N0 g1
  have f104 := Nat.le_trans Z0 (Keep.of_wr W103).1
  have f105 := F2.other W103 (Or.inr (slot_ne (Or.inr (own_i hw 38 rfl)) (Or.inr (own_i hw 40 rfl)) (by decide) (t := .byte) (t' := (.array .byte)) (by decide) (by decide)))
  have f106 := E1.wr W103
  have f107 := f101.wr W103 (Or.inl (List.mem_of_getElem? (i := 0) rfl))
  obtain ⟨T108, h108, X108, e108, W108, st108⟩ := putFN X103 hx hZ hown (own_i hw 37 rfl) Via.refl e103 f105 f106 (Or.inr ⟨(own_i hw 38 rfl), rfl, hnm⟩) (own_i hw 9 rfl) (ty := .byte) (v' := (.int 0)) (by decide) rfl (by decide) (g := (mkF m 11 #[rv a1, rv a2, iv 0] [(.int 0), (.ref a1)])) rfl rfl (hb hby d30_11)
  have Fw108 := f105.same W108
  have N108 := Fr.snoc X108 N103 g1
  have f109 := Nat.le_trans f104 (Keep.of_wr W108).1
  have f110 := f106.wr W108
  have f111 := f107.wr W108 (Or.inl (List.mem_of_getElem? (i := 0) rfl))
  have f112 := Fw103.other W108 (Or.inr (slot_ne (Or.inr (own_i hw 40 rfl)) (Or.inr (own_i hw 38 rfl)) (by decide) (t := (.array .byte)) (t' := .byte) (by decide) (by decide)))
  have pre113 : own_P p e below s₁ (entryFrame m #[(.ref a1), (.ref a2), (.int 0)] 3) T108 (mkF m 14 #[rv a1, rv a2, iv 0] []) := fun t k => pre0 t (by
    show Steps p.tables e below (s₁.setTop (mkF m 0 #[rv a1, rv a2, iv 0] [])) t
    refine XS.aloadN X0.here hx rfl (hb hby d30_0) rfl rfl ?_
    refine st102 _ ?_
    refine XS.aloadN X102.here hx rfl (hb hby d30_4) rfl rfl ?_
    refine XS.aloadN X102.here hx rfl (hb hby d30_5) rfl rfl ?_
    refine st103 _ ?_
    refine XS.aloadN X103.here hx rfl (hb hby d30_9) rfl rfl ?_
    refine XS.iloadN X103.here hx rfl (hb hby d30_10) rfl ?_
    refine st108 _ ?_
    exact k)
  obtain ⟨fs, hr, hrun, hended, hW, hsame⟩ := X108.leave (v := none) (fun _ => rfl)
  refine ⟨_, _, pre113 _ ?_, hrun, hended, _, _, rfl, ?_, ⟨_, rfl⟩, hW, hsame.mono (by decide) (by decide)⟩
  · exact X108.returnOut hx Bd.returns (hb hby d30_14) hr
  · show QSi Z a1 a2 h0 n0 _ T108.heap _
    rw [e108]
    exact ⟨rfl, N108, f111, f110, Fw108, f112⟩
theorem ef_rmMin_1 (m : MethodId)  : entryFrame m #[(.int 1), (.int 1)] 2 = mkF m 0 #[iv 1, iv 1] [] := by first | (simp [entryFrame, mkF, argsToLocals, Value.category]; done) | rfl
def QMin_1 (Z : State)  (h0 : Heap) (n0 : Nat) (v : Option Value) (h : Heap) (L : List Loc) : Prop := v = some (.int 1) ∧ Fr n0 L ∧ h = h0
set_option maxRecDepth 65536 in
set_option maxHeartbeats 40000000 in
theorem rmMin_1 (l : Launch) (Z : State) (a0 : Array Value) (hw : ∀ d ∈ tables_1, d.before a0 Z = true) (ws : List Jvm.Cond)  (h0 : Heap) (n0 : Nat) (Z0 : n0 ≤ h0.size) :
    own_M l own_y20 jdk_29_method_69_code 2 (some .int) ws (own_R 0 0 0 0) Z h0 #[(.int 1), (.int 1)] (QMin_1 Z h0 n0) := by
  refine MetFree.of_bodySF (Jvm.Free.JP.mathPlain rfl (by decide +kernel)) hisR ?_
  intro p e s m args below meth c s₁ Bd hml0 hP hK
  obtain ⟨rfl, hZ, hh⟩ := hP
  have hx := Bd.exec
  have hby := Bd.bytes
  have hml : c.maxLocals = 2 := hml0
  have hown : s.vm.findClass "java/lang/Math" = some m.cls := findClass_of_methodNamed Bd.named
  have hnm := (name_of_methodNamed Bd.named Bd.method).1
  have X0 : Stand p l e (own_R 0 0 0 0) s m #[(.int 1), (.int 1)] below meth c s₁ [] 0 0 := Stand.of_body Bd
  have e0 : s₁.heap = h0 := by rw [← hh, Bd.state]; rfl
  have N0 := Fr.nil n0
  have pre0 : own_P p e below s₁ (entryFrame m #[(.int 1), (.int 1)] 2) s₁ (mkF m 0 #[iv 1, iv 1] []) := fun t k => castTop (ef_rmMin_1 m ) k
  have pre101 : own_P p e below s₁ (entryFrame m #[(.int 1), (.int 1)] 2) s₁ (mkF m 10 #[iv 1, iv 1] [(.int 1)]) := fun t k => pre0 t (by
    show Steps p.tables e below (s₁.setTop (mkF m 0 #[iv 1, iv 1] [])) t
    refine XS.iloadN X0.here hx rfl (hb hby d29_0) rfl ?_
    refine XS.iloadN X0.here hx rfl (hb hby d29_1) rfl ?_
    refine XS.icmpNo X0.here hx rfl (hb hby d29_2) rfl (flt (by decide : ¬ ((1 : Int32) < (1 : Int32)))).2.2.1 ?_
    refine XS.iloadN X0.here hx rfl (hb hby d29_5) rfl ?_
    refine XS.goto X0.here hx rfl (pc0 := 6) (pc' := 10) rfl (hb hby d29_6) (by decide) (by decide) ?_
    exact k)
  obtain ⟨fs, hr, hrun, hended, hW, hsame⟩ := X0.leave (v := some (.int 1)) (fun h => by rw [Bd.returns] at h; cases h)
  refine ⟨_, _, pre101 _ ?_, hrun, hended, _, _, rfl, ?_, ⟨_, rfl⟩, hW, hsame.mono (by decide) (by decide)⟩
  · exact retI X0 hx Bd.returns (hb hby d29_10) hr
  · show QMin_1 Z h0 n0 _ s₁.heap _
    rw [e0]
    exact ⟨rfl, N0, rfl⟩
theorem pd_12 : parseMethodDescriptor "(II)I" = some ⟨[.int, .int], some .int⟩ := by decide +kernel
theorem ef_rmCb_2_1 (m : MethodId) (x0 : Addr) : entryFrame m #[(.ref x0), (.int 1), (.int 2)] 5 = mkF m 0 #[rv x0, iv 1, iv 2, .unset, .unset] [] := by first | (simp [entryFrame, mkF, argsToLocals, Value.category]; done) | rfl
def QCb_2_1 (Z : State) (a1 : Addr) (k1 : ClassId) (y0 : Int32) (y1 : Int32) (h0 : Heap) (n0 : Nat) (v : Option Value) (h : Heap) (L : List Loc) : Prop := ∃ (b : Addr) (kb : ClassId), v = some (.ref b) ∧ Fr n0 L ∧ Keep h0 h [] ∧ (n0 ≤ b) ∧ (h0.size ≤ b) ∧ (Arv Z h b kb .byte (1 : Int32) [(.int y1)] (.int 0))
set_option maxRecDepth 65536 in
set_option maxHeartbeats 40000000 in
theorem rmCb_2_1 (l : Launch) (Z : State) (a0 : Array Value) (hw : ∀ d ∈ tables_1, d.before a0 Z = true) (ws : List Jvm.Cond) (a1 : Addr) (k1 : ClassId) (y0 : Int32) (y1 : Int32) (h0 : Heap) (n0 : Nat) (Z0 : n0 ≤ h0.size) (V1 : Arv Z h0 a1 k1 .byte (2 : Int32) [(.int y0), (.int y1)] (.int 0)) :
    own_M l own_y21 jdk_65_method_133_code 5 (some (.array .byte)) ws (own_R 1 1 1 40) Z h0 #[(.ref a1), (.int 1), (.int 2)] (QCb_2_1 Z a1 k1 y0 y1 h0 n0) := by
  refine MetFree.of_bodySF (plainFor_of_name pn_java_util_Arrays) hisR ?_
  intro p e s m args below meth c s₁ Bd hml0 hP hK
  obtain ⟨rfl, hZ, hh⟩ := hP
  have hx := Bd.exec
  have hby := Bd.bytes
  have hml : c.maxLocals = 5 := hml0
  have hown : s.vm.findClass "java/util/Arrays" = some m.cls := findClass_of_methodNamed Bd.named
  have hnm := (name_of_methodNamed Bd.named Bd.method).1
  have X0 : Stand p l e (own_R 1 1 1 40) s m #[(.ref a1), (.int 1), (.int 2)] below meth c s₁ [] 0 0 := Stand.of_body Bd
  have e0 : s₁.heap = h0 := by rw [← hh, Bd.state]; rfl
  have N0 := Fr.nil n0
  have pre0 : own_P p e below s₁ (entryFrame m #[(.ref a1), (.int 1), (.int 2)] 5) s₁ (mkF m 0 #[rv a1, iv 1, iv 2, .unset, .unset] []) := fun t k => castTop (ef_rmCb_2_1 m a1) k
  have f101 := Keep.refl h0 []
  obtain ⟨_, _, ⟨T102, L102, k102, n102⟩, -, X102, ⟨Lc102, hQ102, l102, y102, z102⟩, st102⟩ := Jvm.LawKit.callS X0 hx (y := own_y18) hown (own_m hZ hw 117) (own_m hZ hw 118) (own_m hZ hw 112) (own_m hZ hw 119) (by decide) (backOf (W := 0) (rmCl l Z a0 hw [] (1 : Int32) (2 : Int32) h0 n0 Z0 (by first | assumption | rfl | decide | omega | simp_all)) hZ (own_i hw 119 rfl) (own_i hw 112 rfl) (by decide) (by decide)) (g := (mkF m 2 #[rv a1, iv 1, iv 2, .unset, .unset] [(.int 2), (.int 1)])) rfl (by rw [hml]; rfl) (argsL := [(.int 1), (.int 2)]) (rest := []) (lenOf pd_8 rfl) rfl (Nat.le_of_eq rfl) (hb hby d27_2) (fun _ _ => ⟨rfl, e0, (by decide : 0 + 0 ≤ _), (by decide : 0 + 0 ≤ _)⟩)
  dsimp only [Pt.U, Pt.locs, Pt.cells, Pt.slots] at X102 l102 y102 z102 st102 hQ102
  subst l102 y102 z102
  obtain ⟨rfl, N102q, e102⟩ := hQ102
  have N102 := Fr.app N0 N102q
  obtain ⟨T103, h103, k103, X103, e103, E103, A103, st103⟩ := newP X102 hx hZ (own_i hw 30 rfl) e102 (g := (mkF m 10 #[rv a1, iv 1, iv 2, iv 1, .unset] [(.int 1)])) rfl (hb hby d27_10) rfl (by decide) (cap := 1) (by decide) (by decide) (by decide) (by decide)
  obtain ⟨b103, g103⟩ : ∃ z, z = h0.size := ⟨_, rfl⟩
  rw [← g103] at A103 st103
  have ne104 : a1 ≠ b103 := Nat.ne_of_lt (Nat.lt_of_lt_of_le V1.lt (Nat.le_of_eq g103.symm))
  have ga105 : n0 ≤ b103 := Nat.le_trans Z0 (Nat.le_of_eq g103.symm)
  have sz106 : h0.size ≤ b103 := Nat.le_trans f101.1 (Nat.le_of_eq g103.symm)
  have V103 : Arv Z h103 b103 k103 .byte (1 : Int32) [(.int 0)] (.int 0) := (Arv.new A103 (by decide)).pad (pad_rep [] (.int 0) 1)
  have f107 := Nat.le_trans Z0 E103.1
  have f108 := V1.ext E103
  have f109 := f101.ext E103
  obtain ⟨cl110, Ar110, q110, S110, N110z, H110, G110⟩ := (id f108)
  obtain ⟨_, _, ⟨T111, L111, k111, n111⟩, -, X111, ⟨Lc111, hQ111, l111, y111, z111⟩, st111⟩ := Jvm.LawKit.callS X103 hx (y := own_y20) hown (own_m hZ hw 120) (own_m hZ hw 121) (own_m hZ hw 122) (own_m hZ hw 123) (by decide) (backOf (W := 4) (rmMin_1 l Z a0 hw []  h103 n0 f107 ) hZ (own_i hw 123 rfl) (own_i hw 122 rfl) (by decide) (by decide)) (g := (mkF m 24 #[rv a1, iv 1, iv 2, iv 1, rv b103] [(.int 1), (.int 1), (.int 0), (.ref b103), (.int 1), (.ref a1)])) rfl (by rw [hml]; rfl) (argsL := [(.int 1), (.int 1)]) (rest := [(.int 0), (.ref b103), (.int 1), (.ref a1)]) (lenOf pd_12 rfl) rfl (Nat.le_of_eq rfl) (hb hby d27_24) (fun _ _ => ⟨rfl, e103, (by decide : 1 + 0 ≤ _), (by decide : 1 + 0 ≤ _)⟩)
  dsimp only [Pt.U, Pt.locs, Pt.cells, Pt.slots] at X111 l111 y111 z111 st111 hQ111
  subst l111 y111 z111
  obtain ⟨rfl, N111q, e111⟩ := hQ111
  have N111 := Fr.app N102 N111q
  obtain ⟨T112, h112, L112, X112, e112, N112, K112, V112, st112⟩ := cpA X111 hx hZ hown (own_i hw 124 rfl) (own_i hw 127 rfl) (own_i hw 125 rfl) (own_i hw 126 rfl) e111 f108 V103 (us := [(.int y1)]) (Or.inl ⟨rfl, rfl⟩) (by decide) (by decide) (by decide) (by decide) (by decide) rfl (by decide) N111 ga105 (g := (mkF m 27 #[rv a1, iv 1, iv 2, iv 1, rv b103] [(.int 1), (.int 0), (.ref b103), (.int 1), (.ref a1)])) rfl (by rw [hml]; rfl) rfl (hb hby d27_27) (by decide) (W := 0) (Nat.le_of_eq rfl) (by decide)
  have Vc112 : Arv Z h112 b103 k103 .byte (1 : Int32) [(.int y1)] (.int 0) := V112
  have f113 := Nat.le_trans f107 K112.1
  have f114 := f108.keep K112 (ninS ne104 nin0)
  have f115 := f109.trans K112 (allS (Or.inr sz106) all0)
  have pre116 : own_P p e below s₁ (entryFrame m #[(.ref a1), (.int 1), (.int 2)] 5) T112 (mkF m 32 #[rv a1, iv 1, iv 2, iv 1, rv b103] [(.ref b103)]) := fun t k => pre0 t (by
    show Steps p.tables e below (s₁.setTop (mkF m 0 #[rv a1, iv 1, iv 2, .unset, .unset] [])) t
    refine XS.iloadN X0.here hx rfl (hb hby d27_0) rfl ?_
    refine XS.iloadN X0.here hx rfl (hb hby d27_1) rfl ?_
    refine st102 _ ?_
    refine XS.iloadN X102.here hx rfl (hb hby d27_5) rfl ?_
    refine XS.iloadN X102.here hx rfl (hb hby d27_6) rfl ?_
    refine XS.isub X102.here hx rfl (hb hby d27_7) rfl ?_
    refine XS.istoreN X102.here hx rfl (hb hby d27_8) rfl (l' := #[rv a1, iv 1, iv 2, iv 1, .unset]) rfl ?_
    refine XS.iloadN X102.here hx rfl (hb hby d27_9) rfl ?_
    refine st103 _ ?_
    refine XS.astore X103.here hx rfl (hb hby d27_12) rfl rfl (l' := #[rv a1, iv 1, iv 2, iv 1, rv b103]) rfl ?_
    refine XS.aloadN X103.here hx rfl (hb hby d27_14) rfl rfl ?_
    refine XS.iloadN X103.here hx rfl (hb hby d27_15) rfl ?_
    refine XS.aload X103.here hx rfl (hb hby d27_16) rfl rfl ?_
    refine XS.iconst X103.here hx rfl (hb hby d27_18) ?_
    refine XS.aloadN X103.here hx rfl (hb hby d27_19) rfl rfl ?_
    refine X103.arraylength hx (by rw [e103]; exact Ar110.1) (State.isArrayOf_alike hZ.alike Ar110.2.1) (g := (mkF m 20 #[rv a1, iv 1, iv 2, iv 1, rv b103] [(.ref a1), (.int 0), (.ref b103), (.int 1), (.ref a1)])) rfl rfl (hb hby d27_20) _ ?_
    rw [len_of S110 N110z]
    refine XS.iloadN X103.here hx rfl (hb hby d27_21) rfl ?_
    refine XS.isub X103.here hx rfl (hb hby d27_22) rfl ?_
    refine XS.iloadN X103.here hx rfl (hb hby d27_23) rfl ?_
    refine st111 _ ?_
    refine st112 _ ?_
    refine XS.aload X112.here hx rfl (hb hby d27_30) rfl rfl ?_
    exact k)
  obtain ⟨fs, hr, hrun, hended, hW, hsame⟩ := X112.leave (v := some (.ref b103)) (fun h => by rw [Bd.returns] at h; cases h)
  refine ⟨_, _, pre116 _ ?_, hrun, hended, _, _, rfl, ?_, ⟨_, rfl⟩, hW, hsame.mono (by decide) (by decide)⟩
  · exact retOut X112 hx Bd.returns rfl (Or.inr (Or.inr (Or.inr (Or.inr ⟨rfl, rfl, rfl⟩)))) (hb hby d27_32) hr
  · show QCb_2_1 Z a1 k1 y0 y1 h0 n0 _ T112.heap _
    rw [e112]
    exact ⟨b103, k103, rfl, N112, f115, ga105, sz106, Vc112⟩
theorem pd_13 : parseMethodDescriptor "([BII)[B" = some ⟨[(.array .byte), .int, .int], some (.array .byte)⟩ := by decide +kernel
theorem ef_rmCr_2_1 (m : MethodId) (x0 : Addr) : entryFrame m #[(.ref x0), (.int 1), (.int 2)] 3 = mkF m 0 #[rv x0, iv 1, iv 2] [] := by first | (simp [entryFrame, mkF, argsToLocals, Value.category]; done) | rfl
def QCr_2_1 (Z : State) (a1 : Addr) (k1 : ClassId) (y0 : Int32) (y1 : Int32) (h0 : Heap) (n0 : Nat) (v : Option Value) (h : Heap) (L : List Loc) : Prop := ∃ (b : Addr) (kb : ClassId), v = some (.ref b) ∧ Fr n0 L ∧ Keep h0 h [] ∧ (n0 ≤ b) ∧ (h0.size ≤ b) ∧ (Arv Z h b kb .byte (1 : Int32) [(.int y1)] (.int 0))
set_option maxRecDepth 65536 in
set_option maxHeartbeats 40000000 in
theorem rmCr_2_1 (l : Launch) (Z : State) (a0 : Array Value) (hw : ∀ d ∈ tables_1, d.before a0 Z = true) (ws : List Jvm.Cond) (a1 : Addr) (k1 : ClassId) (y0 : Int32) (y1 : Int32) (h0 : Heap) (n0 : Nat) (Z0 : n0 ≤ h0.size) (V1 : Arv Z h0 a1 k1 .byte (2 : Int32) [(.int y0), (.int y1)] (.int 0)) :
    own_M l own_y22 jdk_65_method_132_code 3 (some (.array .byte)) ws (own_R 2 1 1 56) Z h0 #[(.ref a1), (.int 1), (.int 2)] (QCr_2_1 Z a1 k1 y0 y1 h0 n0) := by
  refine MetFree.of_bodySF (plainFor_of_name pn_java_util_Arrays) hisR ?_
  intro p e s m args below meth c s₁ Bd hml0 hP hK
  obtain ⟨rfl, hZ, hh⟩ := hP
  have hx := Bd.exec
  have hby := Bd.bytes
  have hml : c.maxLocals = 3 := hml0
  have hown : s.vm.findClass "java/util/Arrays" = some m.cls := findClass_of_methodNamed Bd.named
  have hnm := (name_of_methodNamed Bd.named Bd.method).1
  have X0 : Stand p l e (own_R 2 1 1 56) s m #[(.ref a1), (.int 1), (.int 2)] below meth c s₁ [] 0 0 := Stand.of_body Bd
  have e0 : s₁.heap = h0 := by rw [← hh, Bd.state]; rfl
  have N0 := Fr.nil n0
  have pre0 : own_P p e below s₁ (entryFrame m #[(.ref a1), (.int 1), (.int 2)] 3) s₁ (mkF m 0 #[rv a1, iv 1, iv 2] []) := fun t k => castTop (ef_rmCr_2_1 m a1) k
  have f101 := Keep.refl h0 []
  obtain ⟨_, _, ⟨T102, L102, k102, n102⟩, -, X102, ⟨Lc102, hQ102, l102, y102, z102⟩, st102⟩ := Jvm.LawKit.callS X0 hx (y := own_y21) hown (own_m hZ hw 114) (own_m hZ hw 115) (own_m hZ hw 112) (own_m hZ hw 116) (by decide) (backOf (W := 0) (rmCb_2_1 l Z a0 hw [] a1 k1 y0 y1 h0 n0 Z0 V1) hZ (own_i hw 116 rfl) (own_i hw 112 rfl) (by decide) (by decide)) (g := (mkF m 13 #[rv a1, iv 1, iv 2] [(.int 2), (.int 1), (.ref a1)])) rfl (by rw [hml]; rfl) (argsL := [(.ref a1), (.int 1), (.int 2)]) (rest := []) (lenOf pd_13 rfl) rfl (Nat.le_of_eq rfl) (hb hby d26_13) (fun _ _ => ⟨rfl, e0, (by decide : 0 + 1 ≤ _), (by decide : 0 + 1 ≤ _)⟩)
  dsimp only [Pt.U, Pt.locs, Pt.cells, Pt.slots] at X102 l102 y102 z102 st102 hQ102
  subst l102 y102 z102
  obtain ⟨b103, x104, rfl, N102q, K102, f105, f106, f107⟩ := hQ102
  have N102 := Fr.app N0 N102q
  have ne108 : a1 ≠ b103 := Nat.ne_of_lt (Nat.lt_of_lt_of_le V1.lt f106)
  have f109 := Nat.le_trans Z0 K102.1
  have f110 := V1.keep K102 nin0
  have f111 := f101.trans K102 all0
  have pre112 : own_P p e below s₁ (entryFrame m #[(.ref a1), (.int 1), (.int 2)] 3) T102 (mkF m 16 #[rv a1, iv 1, iv 2] [(.ref b103)]) := fun t k => pre0 t (by
    show Steps p.tables e below (s₁.setTop (mkF m 0 #[rv a1, iv 1, iv 2] [])) t
    refine XS.iloadN X0.here hx rfl (hb hby d26_0) rfl ?_
    refine XS.ifYes X0.here hx rfl (pc0 := 1) (pc' := 10) rfl (hb hby d26_1) rfl ((if0 _ _).trans (feq (by decide : ¬ ((1 : Int32) = (0 : Int32)))).2) (by decide) (by decide) ?_
    refine XS.aloadN X0.here hx rfl (hb hby d26_10) rfl rfl ?_
    refine XS.iloadN X0.here hx rfl (hb hby d26_11) rfl ?_
    refine XS.iloadN X0.here hx rfl (hb hby d26_12) rfl ?_
    refine st102 _ ?_
    exact k)
  obtain ⟨fs, hr, hrun, hended, hW, hsame⟩ := X102.leave (v := some (.ref b103)) (fun h => by rw [Bd.returns] at h; cases h)
  refine ⟨_, _, pre112 _ ?_, hrun, hended, _, _, rfl, ?_, ⟨_, rfl⟩, hW, hsame.mono (by decide) (by decide)⟩
  · exact retOut X102 hx Bd.returns rfl (Or.inr (Or.inr (Or.inr (Or.inr ⟨rfl, rfl, rfl⟩)))) (hb hby d26_16) hr
  · show QCr_2_1 Z a1 k1 y0 y1 h0 n0 _ T102.heap _
    exact ⟨b103, x104, rfl, N102, f111, f105, f106, f107⟩
theorem pd_14 : parseMethodDescriptor "([BB)V" = some ⟨[(.array .byte), .byte], none⟩ := by decide +kernel
theorem ef_rmNs_2_1 (m : MethodId) (x0 : Addr) : entryFrame m #[(.ref x0), (.int 1), (.int 1)] 3 = mkF m 0 #[rv x0, iv 1, iv 1] [] := by first | (simp [entryFrame, mkF, argsToLocals, Value.category]; done) | rfl
def QNs_2_1 (Z : State) (a1 : Addr) (k1 : ClassId) (y0 : Int32) (y1 : Int32) (h0 : Heap) (n0 : Nat) (v : Option Value) (h : Heap) (L : List Loc) : Prop := ∃ (b : Addr) (tb : Addr) (kb : ClassId), v = some (.ref b) ∧ Fr n0 L ∧ Keep h0 h [] ∧ (n0 ≤ b) ∧ (h0.size ≤ b) ∧ (Exa Z h b "java/lang/String") ∧ (Fld Z h b "java/lang/String" "coder" "B" (.int 0)) ∧ (Fld Z h b "java/lang/String" "value" "[B" (.ref tb)) ∧ (n0 ≤ tb) ∧ (h0.size ≤ tb) ∧ (Arv Z h tb kb .byte (1 : Int32) [(.int y1)] (.int 0))
set_option maxRecDepth 65536 in
set_option maxHeartbeats 40000000 in
theorem rmNs_2_1 (l : Launch) (Z : State) (a0 : Array Value) (hw : ∀ d ∈ tables_1, d.before a0 Z = true) (ws : List Jvm.Cond) (a1 : Addr) (k1 : ClassId) (y0 : Int32) (y1 : Int32) (h0 : Heap) (n0 : Nat) (Z0 : n0 ≤ h0.size) (V1 : Arv Z h0 a1 k1 .byte (2 : Int32) [(.int y0), (.int y1)] (.int 0)) :
    own_M l own_y23 jdk_43_method_47_code 3 (some (.object "java/lang/String")) ws (own_R 3 2 5 72) Z h0 #[(.ref a1), (.int 1), (.int 1)] (QNs_2_1 Z a1 k1 y0 y1 h0 n0) := by
  refine MetFree.of_bodySF (plainFor_of_name pn_java_lang_StringLatin1) hisR ?_
  intro p e s m args below meth c s₁ Bd hml0 hP hK
  obtain ⟨rfl, hZ, hh⟩ := hP
  have hx := Bd.exec
  have hby := Bd.bytes
  have hml : c.maxLocals = 3 := hml0
  have hown : s.vm.findClass "java/lang/StringLatin1" = some m.cls := findClass_of_methodNamed Bd.named
  have hnm := (name_of_methodNamed Bd.named Bd.method).1
  have X0 : Stand p l e (own_R 3 2 5 72) s m #[(.ref a1), (.int 1), (.int 1)] below meth c s₁ [] 0 0 := Stand.of_body Bd
  have e0 : s₁.heap = h0 := by rw [← hh, Bd.state]; rfl
  have N0 := Fr.nil n0
  have pre0 : own_P p e below s₁ (entryFrame m #[(.ref a1), (.int 1), (.int 1)] 3) s₁ (mkF m 0 #[rv a1, iv 1, iv 1] []) := fun t k => castTop (ef_rmNs_2_1 m a1) k
  have f101 := Keep.refl h0 []
  obtain ⟨T102, h102, X102, e102, E102, A102, D102, -, st102⟩ := newO X0 hx hZ hown (own_i hw 109 rfl) (own_i hw 9 rfl) (own_i hw 10 rfl) e0 (g := (mkF m 7 #[rv a1, iv 1, iv 1] [])) rfl (hb hby d25_7) (by decide) (by decide)
  obtain ⟨b102, g102⟩ : ∃ z, z = h0.size := ⟨_, rfl⟩
  rw [← g102] at A102 D102 st102
  have ne103 : a1 ≠ b102 := Nat.ne_of_lt (Nat.lt_of_lt_of_le V1.lt (Nat.le_of_eq g102.symm))
  have ga104 : n0 ≤ b102 := Nat.le_trans Z0 (Nat.le_of_eq g102.symm)
  have sz105 : h0.size ≤ b102 := Nat.le_trans f101.1 (Nat.le_of_eq g102.symm)
  have f106 : Fld Z h102 b102 "java/lang/String" "coder" "B" (.int 0) := D102 (Or.inr (own_i hw 38 rfl)) (ty := .byte) (by decide)
  have f107 : Fld Z h102 b102 "java/lang/String" "value" "[B" .null := D102 (Or.inr (own_i hw 40 rfl)) (ty := (.array .byte)) (by decide)
  have f108 := Nat.le_trans Z0 E102.1
  have f109 := V1.ext E102
  have f110 := f101.ext E102
  obtain ⟨_, _, ⟨T111, L111, k111, n111⟩, -, X111, ⟨Lc111, hQ111, l111, y111, z111⟩, st111⟩ := Jvm.LawKit.callS X102 hx (y := own_y22) hown (own_m hZ hw 110) (own_m hZ hw 111) (own_m hZ hw 112) (own_m hZ hw 113) (by decide) (backOf (W := 2) (rmCr_2_1 l Z a0 hw [] a1 k1 y0 y1 h102 n0 f108 f109) hZ (own_i hw 113 rfl) (own_i hw 112 rfl) (by decide) (by decide)) (g := (mkF m 16 #[rv a1, iv 1, iv 1] [(.int 2), (.int 1), (.ref a1), (.ref b102), (.ref b102)])) rfl (by rw [hml]; rfl) (argsL := [(.ref a1), (.int 1), (.int 2)]) (rest := [(.ref b102), (.ref b102)]) (lenOf pd_13 rfl) rfl (Nat.le_of_eq rfl) (hb hby d25_16) (fun _ _ => ⟨rfl, e102, (by decide : 1 + 1 ≤ _), (by decide : 4 + 1 ≤ _)⟩)
  dsimp only [Pt.U, Pt.locs, Pt.cells, Pt.slots] at X111 l111 y111 z111 st111 hQ111
  subst l111 y111 z111
  obtain ⟨b112, x113, rfl, N111q, K111, f114, f115, f116⟩ := hQ111
  have N111 := Fr.app N0 N111q
  have ne117 : a1 ≠ b112 := Nat.ne_of_lt (Nat.lt_of_lt_of_le f109.lt f115)
  have ne118 : b102 ≠ b112 := Nat.ne_of_lt (Nat.lt_of_lt_of_le A102.lt f115)
  have sz119 : h0.size ≤ b112 := Nat.le_trans f110.1 f115
  have f120 := Nat.le_trans f108 K111.1
  have f121 := f109.keep K111 nin0
  have f122 := f110.trans K111 all0
  have f123 := A102.keep K111
  have f124 := f106.keep K111 nin0
  have f125 := f107.keep K111 nin0
  obtain ⟨_, _, ⟨T126, L126, k126, n126⟩, -, X126, ⟨Lc126, hQ126, l126, y126, z126⟩, st126⟩ := X111.specialBack hx (y := own_y19) rfl hown (own_m hZ hw 128) (own_m hZ hw 129) (own_m hZ hw 130) (by decide) (backOf (W := 1) (rmSi l Z a0 hw [] b102 b112 T111.heap n0 f120 f125 f124 f123 ga104) hZ (own_i hw 130 rfl) (own_i hw 10 rfl) (by decide) (by decide)) (g := (mkF m 20 #[rv a1, iv 1, iv 1] [(.int 0), (.ref b112), (.ref b102), (.ref b102)])) rfl (by rw [hml]; rfl) (Steps.refl _) (a := b102) (argsL := [(.ref b112), (.int 0)]) (rest := [(.ref b102)]) (lenOf pd_14 rfl) rfl (Nat.le_of_eq rfl) (hb hby d25_20) (fun _ _ => ⟨rfl, rfl, (by decide : 2 + 0 ≤ _), (by decide : 5 + 0 ≤ _)⟩)
  dsimp only [Pt.U, Pt.locs, Pt.cells, Pt.slots] at X126 l126 y126 z126 st126 hQ126
  subst l126 y126 z126
  obtain ⟨rfl, N126q, K126, f127, f128, f129⟩ := hQ126
  have N126 := Fr.app N111 N126q
  have f130 := Nat.le_trans f120 K126.1
  have f131 := f121.keep K126 (ninS ne103 nin0)
  have f132 := f122.trans K126 (allS (Or.inr sz105) all0)
  have f133 := f116.keep K126 (ninS (Ne.symm ne118) nin0)
  have pre134 : own_P p e below s₁ (entryFrame m #[(.ref a1), (.int 1), (.int 1)] 3) T126 (mkF m 23 #[rv a1, iv 1, iv 1] [(.ref b102)]) := fun t k => pre0 t (by
    show Steps p.tables e below (s₁.setTop (mkF m 0 #[rv a1, iv 1, iv 1] [])) t
    refine XS.iloadN X0.here hx rfl (hb hby d25_0) rfl ?_
    refine XS.ifYes X0.here hx rfl (pc0 := 1) (pc' := 7) rfl (hb hby d25_1) rfl ((if0 _ _).trans (feq (by decide : ¬ ((1 : Int32) = (0 : Int32)))).2) (by decide) (by decide) ?_
    refine st102 _ ?_
    refine XS.dup X102.here hx rfl (hb hby d25_10) rfl rfl ?_
    refine XS.aloadN X102.here hx rfl (hb hby d25_11) rfl rfl ?_
    refine XS.iloadN X102.here hx rfl (hb hby d25_12) rfl ?_
    refine XS.iloadN X102.here hx rfl (hb hby d25_13) rfl ?_
    refine XS.iloadN X102.here hx rfl (hb hby d25_14) rfl ?_
    refine XS.iadd X102.here hx rfl (hb hby d25_15) rfl ?_
    refine st111 _ ?_
    refine XS.iconst X111.here hx rfl (hb hby d25_19) ?_
    refine st126.trans ?_
    exact k)
  obtain ⟨fs, hr, hrun, hended, hW, hsame⟩ := X126.leave (v := some (.ref b102)) (fun h => by rw [Bd.returns] at h; cases h)
  refine ⟨_, _, pre134 _ ?_, hrun, hended, _, _, rfl, ?_, ⟨_, rfl⟩, hW, hsame.mono (by decide) (by decide)⟩
  · exact retOut X126 hx Bd.returns rfl (Or.inr (Or.inr (Or.inr (Or.inr ⟨rfl, rfl, rfl⟩)))) (hb hby d25_23) hr
  · show QNs_2_1 Z a1 k1 y0 y1 h0 n0 _ T126.heap _
    exact ⟨b102, b112, x113, rfl, N126, f132, ga104, sz105, f127, f128, f129, f114, sz119, f133⟩
theorem pd_15 : parseMethodDescriptor "()I" = some ⟨[], some .int⟩ := by decide +kernel
theorem pd_16 : parseMethodDescriptor "(III)V" = some ⟨[.int, .int, .int], none⟩ := by decide +kernel
theorem pd_17 : parseMethodDescriptor "([BII)Ljava/lang/String;" = some ⟨[(.array .byte), .int, .int], some (.object "java/lang/String")⟩ := by decide +kernel
theorem ef_rmS2_2_1 (m : MethodId) (x0 : Addr) : entryFrame m #[(.ref x0), (.int 1), (.int 2)] 5 = mkF m 0 #[rv x0, iv 1, iv 2, .unset, .unset] [] := by first | (simp [entryFrame, mkF, argsToLocals, Value.category]; done) | rfl
def QS2_2_1 (Z : State) (a1 : Addr) (cs : Int32) (vF : Value) (t : Addr) (kt : ClassId) (y0 : Int32) (y1 : Int32) (h0 : Heap) (n0 : Nat) (v : Option Value) (h : Heap) (L : List Loc) : Prop := ∃ (b : Addr) (tb : Addr) (kb : ClassId), v = some (.ref b) ∧ Fr n0 L ∧ Keep h0 h [] ∧ (n0 ≤ b) ∧ (h0.size ≤ b) ∧ (Exa Z h b "java/lang/String") ∧ (Fld Z h b "java/lang/String" "coder" "B" (.int 0)) ∧ (Fld Z h b "java/lang/String" "value" "[B" (.ref tb)) ∧ (n0 ≤ tb) ∧ (h0.size ≤ tb) ∧ (Arv Z h tb kb .byte (1 : Int32) [(.int y1)] (.int 0))
set_option maxRecDepth 65536 in
set_option maxHeartbeats 40000000 in
theorem rmS2_2_1 (l : Launch) (Z : State) (a0 : Array Value) (hw : ∀ d ∈ tables_1, d.before a0 Z = true) (ws : List Jvm.Cond) (a1 : Addr) (cs : Int32) (vF : Value) (t : Addr) (kt : ClassId) (y0 : Int32) (y1 : Int32) (h0 : Heap) (n0 : Nat) (Z0 : n0 ≤ h0.size) (SC : Sta Z h0 "java/lang/String" "COMPACT_STRINGS" "Z" (.int cs)) (hcs : ¬ (cs = (0 : Int32))) (SF : Sta Z h0 "jdk/internal/util/Preconditions" "SIOOBE_FORMATTER" "Ljava/util/function/BiFunction;" vF) (hF : vF.isRef = true) (E1 : Exa Z h0 a1 "java/lang/String") (C1 : Fld Z h0 a1 "java/lang/String" "coder" "B" (.int 0)) (W1 : Fld Z h0 a1 "java/lang/String" "value" "[B" (.ref t)) (V1 : Arv Z h0 t kt .byte (2 : Int32) [(.int y0), (.int y1)] (.int 0)) :
    own_M l own_y24 jdk_42_method_92_code 5 (some (.object "java/lang/String")) ws (own_R 4 2 5 86) Z h0 #[(.ref a1), (.int 1), (.int 2)] (QS2_2_1 Z a1 cs vF t kt y0 y1 h0 n0) := by
  refine MetFree.of_bodySF (plainFor_of_name pn_java_lang_String) hisR ?_
  intro p e s m args below meth c s₁ Bd hml0 hP hK
  obtain ⟨rfl, hZ, hh⟩ := hP
  have hx := Bd.exec
  have hby := Bd.bytes
  have hml : c.maxLocals = 5 := hml0
  have hown : s.vm.findClass "java/lang/String" = some m.cls := findClass_of_methodNamed Bd.named
  have hnm := (name_of_methodNamed Bd.named Bd.method).1
  have X0 : Stand p l e (own_R 4 2 5 86) s m #[(.ref a1), (.int 1), (.int 2)] below meth c s₁ [] 0 0 := Stand.of_body Bd
  have e0 : s₁.heap = h0 := by rw [← hh, Bd.state]; rfl
  have N0 := Fr.nil n0
  have pre0 : own_P p e below s₁ (entryFrame m #[(.ref a1), (.int 1), (.int 2)] 5) s₁ (mkF m 0 #[rv a1, iv 1, iv 2, .unset, .unset] []) := fun t k => castTop (ef_rmS2_2_1 m a1) k
  have f101 := Keep.refl h0 []
  obtain ⟨cq102, kq102, q102a, q102b, q102c⟩ := isOf hZ e0 E1
  obtain ⟨_, _, ⟨T102, L102, k102, n102⟩, -, X102, ⟨Lc102, hQ102, l102, y102, z102⟩, st102⟩ := X0.virtualBack hx (y := own_y11) (z := own_y11) hown (own_m hZ hw 63) (own_m hZ hw 49) (notFace_of_selects (args := #[]) (own_m hZ hw 51)) (own_m hZ hw 51) (own_m hZ hw 50) (by decide) (backOf (W := 0) (rmLen l Z a0 hw [] a1 cs t kt (2 : Int32) ([(.int y0), (.int y1)]) h0 n0 Z0 SC hcs E1 C1 W1 V1) hZ (own_i hw 52 rfl) (own_i hw 10 rfl) (by decide) (by decide)) q102a q102c (g := (mkF m 1 #[rv a1, iv 1, iv 2, .unset, .unset] [(.ref a1)])) rfl (by rw [hml]; rfl) (Steps.refl _) (argsL := []) (rest := []) (lenOf pd_15 rfl) rfl (Nat.le_of_eq rfl) (hb hby d15_1) (fun _ _ => ⟨rfl, e0, (by decide : 0 + 0 ≤ _), (by decide : 0 + 0 ≤ _)⟩)
  dsimp only [Pt.U, Pt.locs, Pt.cells, Pt.slots] at X102 l102 y102 z102 st102 hQ102
  subst l102 y102 z102
  obtain ⟨rfl, N102q, e102⟩ := hQ102
  have N102 := Fr.app N0 N102q
  obtain ⟨_, _, ⟨T103, L103, k103, n103⟩, -, X103, ⟨Lc103, hQ103, l103, y103, z103⟩, st103⟩ := Jvm.LawKit.callS X102 hx (y := own_y17) hown (own_m hZ hw 69) (own_m hZ hw 70) (own_m hZ hw 10) (own_m hZ hw 71) (by decide) (backOf (W := 0) (rmBe l Z a0 hw [] (1 : Int32) (2 : Int32) (2 : Int32) vF h0 n0 Z0 SF hF (by first | assumption | rfl | decide | omega | simp_all) (by first | assumption | rfl | decide | omega | simp_all) (by first | assumption | rfl | decide | omega | simp_all)) hZ (own_i hw 71 rfl) (own_i hw 10 rfl) (by decide) (by decide)) (g := (mkF m 8 #[rv a1, iv 1, iv 2, iv 2, .unset] [(.int 2), (.int 2), (.int 1)])) rfl (by rw [hml]; rfl) (argsL := [(.int 1), (.int 2), (.int 2)]) (rest := []) (lenOf pd_16 rfl) rfl (Nat.le_of_eq rfl) (hb hby d15_8) (fun _ _ => ⟨rfl, e102, (by decide : 0 + 0 ≤ _), (by decide : 0 + 0 ≤ _)⟩)
  dsimp only [Pt.U, Pt.locs, Pt.cells, Pt.slots] at X103 l103 y103 z103 st103 hQ103
  subst l103 y103 z103
  obtain ⟨rfl, N103q, e103⟩ := hQ103
  have N103 := Fr.app N102 N103q
  obtain ⟨cq104, kq104, q104a, q104b, q104c⟩ := isOf hZ e103 E1
  obtain ⟨_, _, ⟨T104, L104, k104, n104⟩, -, X104, ⟨Lc104, hQ104, l104, y104, z104⟩, st104⟩ := X103.virtualBack hx (y := own_y10) (z := own_y10) hown (own_m hZ hw 92) (own_m hZ hw 93) (notFace_of_selects (args := #[]) (own_m hZ hw 95)) (own_m hZ hw 95) (own_m hZ hw 94) (by decide) (backOf (W := 0) (rmIl l Z a0 hw [] a1 cs h0 n0 Z0 SC hcs C1) hZ (own_i hw 96 rfl) (own_i hw 10 rfl) (by decide) (by decide)) q104a q104c (g := (mkF m 28 #[rv a1, iv 1, iv 2, iv 2, iv 1] [(.ref a1)])) rfl (by rw [hml]; rfl) (Steps.refl _) (argsL := []) (rest := []) (lenOf pd_9 rfl) rfl (Nat.le_of_eq rfl) (hb hby d15_28) (fun _ _ => ⟨rfl, e103, (by decide : 0 + 0 ≤ _), (by decide : 0 + 0 ≤ _)⟩)
  dsimp only [Pt.U, Pt.locs, Pt.cells, Pt.slots] at X104 l104 y104 z104 st104 hQ104
  subst l104 y104 z104
  obtain ⟨rfl, N104q, e104⟩ := hQ104
  have N104 := Fr.app N103 N104q
  obtain ⟨T105, X105, e105, st105⟩ := getF X104 hx hZ hown (host := "") (Or.inl (own_i hw 39 rfl)) Via.refl e104 W1 (g := (mkF m 35 #[rv a1, iv 1, iv 2, iv 2, iv 1] [(.ref a1)])) rfl rfl (hb hby d15_35)
  obtain ⟨_, _, ⟨T106, L106, k106, n106⟩, -, X106, ⟨Lc106, hQ106, l106, y106, z106⟩, st106⟩ := Jvm.LawKit.callS X105 hx (y := own_y23) hown (own_m hZ hw 106) (own_m hZ hw 107) (own_m hZ hw 85) (own_m hZ hw 108) (by decide) (backOf (W := 0) (rmNs_2_1 l Z a0 hw [] t kt y0 y1 h0 n0 Z0 V1) hZ (own_i hw 108 rfl) (own_i hw 85 rfl) (by decide) (by decide)) (g := (mkF m 41 #[rv a1, iv 1, iv 2, iv 2, iv 1] [(.int 1), (.int 1), (.ref t)])) rfl (by rw [hml]; rfl) (argsL := [(.ref t), (.int 1), (.int 1)]) (rest := []) (lenOf pd_17 rfl) rfl (Nat.le_of_eq rfl) (hb hby d15_41) (fun _ _ => ⟨rfl, e105, (by decide : 0 + 2 ≤ _), (by decide : 0 + 5 ≤ _)⟩)
  dsimp only [Pt.U, Pt.locs, Pt.cells, Pt.slots] at X106 l106 y106 z106 st106 hQ106
  subst l106 y106 z106
  obtain ⟨b107, b108, x109, rfl, N106q, K106, f110, f111, f112, f113, f114, f115, f116, f117⟩ := hQ106
  have N106 := Fr.app N104 N106q
  have ne118 : a1 ≠ b107 := Nat.ne_of_lt (Nat.lt_of_lt_of_le E1.lt f111)
  have ne119 : t ≠ b107 := Nat.ne_of_lt (Nat.lt_of_lt_of_le V1.lt f111)
  have ne120 : a1 ≠ b108 := Nat.ne_of_lt (Nat.lt_of_lt_of_le E1.lt f116)
  have ne121 : t ≠ b108 := Nat.ne_of_lt (Nat.lt_of_lt_of_le V1.lt f116)
  have f122 := Nat.le_trans Z0 K106.1
  have f123 := E1.keep K106
  have f124 := C1.keep K106 nin0
  have f125 := W1.keep K106 nin0
  have f126 := V1.keep K106 nin0
  have f127 := f101.trans K106 all0
  have pre128 : own_P p e below s₁ (entryFrame m #[(.ref a1), (.int 1), (.int 2)] 5) T106 (mkF m 57 #[rv a1, iv 1, iv 2, iv 2, iv 1] [(.ref b107)]) := fun t k => pre0 t (by
    show Steps p.tables e below (s₁.setTop (mkF m 0 #[rv a1, iv 1, iv 2, .unset, .unset] [])) t
    refine XS.aloadN X0.here hx rfl (hb hby d15_0) rfl rfl ?_
    refine st102.trans ?_
    refine XS.istoreN X102.here hx rfl (hb hby d15_4) rfl (l' := #[rv a1, iv 1, iv 2, iv 2, .unset]) rfl ?_
    refine XS.iloadN X102.here hx rfl (hb hby d15_5) rfl ?_
    refine XS.iloadN X102.here hx rfl (hb hby d15_6) rfl ?_
    refine XS.iloadN X102.here hx rfl (hb hby d15_7) rfl ?_
    refine st103 _ ?_
    refine XS.iloadN X103.here hx rfl (hb hby d15_11) rfl ?_
    refine XS.ifYes X103.here hx rfl (pc0 := 12) (pc' := 22) rfl (hb hby d15_12) rfl ((if0 _ _).trans (feq (by decide : ¬ ((1 : Int32) = (0 : Int32)))).2) (by decide) (by decide) ?_
    refine XS.iloadN X103.here hx rfl (hb hby d15_22) rfl ?_
    refine XS.iloadN X103.here hx rfl (hb hby d15_23) rfl ?_
    refine XS.isub X103.here hx rfl (hb hby d15_24) rfl ?_
    refine XS.istore X103.here hx rfl (hb hby d15_25) rfl (l' := #[rv a1, iv 1, iv 2, iv 2, iv 1]) rfl ?_
    refine XS.aloadN X103.here hx rfl (hb hby d15_27) rfl rfl ?_
    refine st104.trans ?_
    refine XS.ifNo X104.here hx rfl (hb hby d15_31) rfl ((if0 _ _).trans (feq (by decide : ¬ ((1 : Int32) = (0 : Int32)))).1) ?_
    refine XS.aloadN X104.here hx rfl (hb hby d15_34) rfl rfl ?_
    refine st105 _ ?_
    refine XS.iloadN X105.here hx rfl (hb hby d15_38) rfl ?_
    refine XS.iload X105.here hx rfl (hb hby d15_39) rfl ?_
    refine st106 _ ?_
    refine XS.goto X106.here hx rfl (pc0 := 44) (pc' := 57) rfl (hb hby d15_44) (by decide) (by decide) ?_
    exact k)
  obtain ⟨fs, hr, hrun, hended, hW, hsame⟩ := X106.leave (v := some (.ref b107)) (fun h => by rw [Bd.returns] at h; cases h)
  refine ⟨_, _, pre128 _ ?_, hrun, hended, _, _, rfl, ?_, ⟨_, rfl⟩, hW, hsame.mono (by decide) (by decide)⟩
  · exact retOut X106 hx Bd.returns rfl (Or.inr (Or.inr (Or.inr (Or.inr ⟨rfl, rfl, rfl⟩)))) (hb hby d15_57) hr
  · show QS2_2_1 Z a1 cs vF t kt y0 y1 h0 n0 _ T106.heap _
    exact ⟨b107, b108, x109, rfl, N106, f127, f110, f111, f112, f113, f114, f115, f116, f117⟩
theorem pd_18 : parseMethodDescriptor "(II)Ljava/lang/String;" = some ⟨[.int, .int], some (.object "java/lang/String")⟩ := by decide +kernel
theorem ef_rmS1_2_1 (m : MethodId) (x0 : Addr) : entryFrame m #[(.ref x0), (.int 1)] 2 = mkF m 0 #[rv x0, iv 1] [] := by first | (simp [entryFrame, mkF, argsToLocals, Value.category]; done) | rfl
def QS1_2_1 (Z : State) (a1 : Addr) (cs : Int32) (vF : Value) (t : Addr) (kt : ClassId) (y0 : Int32) (y1 : Int32) (h0 : Heap) (n0 : Nat) (v : Option Value) (h : Heap) (L : List Loc) : Prop := ∃ (b : Addr) (tb : Addr) (kb : ClassId), v = some (.ref b) ∧ Fr n0 L ∧ Keep h0 h [] ∧ (n0 ≤ b) ∧ (h0.size ≤ b) ∧ (Exa Z h b "java/lang/String") ∧ (Fld Z h b "java/lang/String" "coder" "B" (.int 0)) ∧ (Fld Z h b "java/lang/String" "value" "[B" (.ref tb)) ∧ (n0 ≤ tb) ∧ (h0.size ≤ tb) ∧ (Arv Z h tb kb .byte (1 : Int32) [(.int y1)] (.int 0))
set_option maxRecDepth 65536 in
set_option maxHeartbeats 40000000 in
theorem rmS1_2_1 (l : Launch) (Z : State) (a0 : Array Value) (hw : ∀ d ∈ tables_1, d.before a0 Z = true) (ws : List Jvm.Cond) (a1 : Addr) (cs : Int32) (vF : Value) (t : Addr) (kt : ClassId) (y0 : Int32) (y1 : Int32) (h0 : Heap) (n0 : Nat) (Z0 : n0 ≤ h0.size) (SC : Sta Z h0 "java/lang/String" "COMPACT_STRINGS" "Z" (.int cs)) (hcs : ¬ (cs = (0 : Int32))) (SF : Sta Z h0 "jdk/internal/util/Preconditions" "SIOOBE_FORMATTER" "Ljava/util/function/BiFunction;" vF) (hF : vF.isRef = true) (E1 : Exa Z h0 a1 "java/lang/String") (C1 : Fld Z h0 a1 "java/lang/String" "coder" "B" (.int 0)) (W1 : Fld Z h0 a1 "java/lang/String" "value" "[B" (.ref t)) (V1 : Arv Z h0 t kt .byte (2 : Int32) [(.int y0), (.int y1)] (.int 0)) :
    own_M l own_y25 jdk_42_method_91_code 2 (some (.object "java/lang/String")) ws (own_R 5 2 5 102) Z h0 #[(.ref a1), (.int 1)] (QS1_2_1 Z a1 cs vF t kt y0 y1 h0 n0) := by
  refine MetFree.of_bodySF (plainFor_of_name pn_java_lang_String) hisR ?_
  intro p e s m args below meth c s₁ Bd hml0 hP hK
  obtain ⟨rfl, hZ, hh⟩ := hP
  have hx := Bd.exec
  have hby := Bd.bytes
  have hml : c.maxLocals = 2 := hml0
  have hown : s.vm.findClass "java/lang/String" = some m.cls := findClass_of_methodNamed Bd.named
  have hnm := (name_of_methodNamed Bd.named Bd.method).1
  have X0 : Stand p l e (own_R 5 2 5 102) s m #[(.ref a1), (.int 1)] below meth c s₁ [] 0 0 := Stand.of_body Bd
  have e0 : s₁.heap = h0 := by rw [← hh, Bd.state]; rfl
  have N0 := Fr.nil n0
  have pre0 : own_P p e below s₁ (entryFrame m #[(.ref a1), (.int 1)] 2) s₁ (mkF m 0 #[rv a1, iv 1] []) := fun t k => castTop (ef_rmS1_2_1 m a1) k
  have f101 := Keep.refl h0 []
  obtain ⟨cq102, kq102, q102a, q102b, q102c⟩ := isOf hZ e0 E1
  obtain ⟨_, _, ⟨T102, L102, k102, n102⟩, -, X102, ⟨Lc102, hQ102, l102, y102, z102⟩, st102⟩ := X0.virtualBack hx (y := own_y11) (z := own_y11) hown (own_m hZ hw 63) (own_m hZ hw 49) (notFace_of_selects (args := #[]) (own_m hZ hw 51)) (own_m hZ hw 51) (own_m hZ hw 50) (by decide) (backOf (W := 2) (rmLen l Z a0 hw [] a1 cs t kt (2 : Int32) ([(.int y0), (.int y1)]) h0 n0 Z0 SC hcs E1 C1 W1 V1) hZ (own_i hw 52 rfl) (own_i hw 10 rfl) (by decide) (by decide)) q102a q102c (g := (mkF m 3 #[rv a1, iv 1] [(.ref a1), (.int 1), (.ref a1)])) rfl (by rw [hml]; rfl) (Steps.refl _) (argsL := []) (rest := [(.int 1), (.ref a1)]) (lenOf pd_15 rfl) rfl (Nat.le_of_eq rfl) (hb hby d14_3) (fun _ _ => ⟨rfl, e0, (by decide : 0 + 0 ≤ _), (by decide : 0 + 0 ≤ _)⟩)
  dsimp only [Pt.U, Pt.locs, Pt.cells, Pt.slots] at X102 l102 y102 z102 st102 hQ102
  subst l102 y102 z102
  obtain ⟨rfl, N102q, e102⟩ := hQ102
  have N102 := Fr.app N0 N102q
  obtain ⟨cq103, kq103, q103a, q103b, q103c⟩ := isOf hZ e102 E1
  obtain ⟨_, _, ⟨T103, L103, k103, n103⟩, -, X103, ⟨Lc103, hQ103, l103, y103, z103⟩, st103⟩ := X102.virtualBack hx (y := own_y24) (z := own_y24) hown (own_m hZ hw 64) (own_m hZ hw 65) (notFace_of_selects (args := #[]) (own_m hZ hw 67)) (own_m hZ hw 67) (own_m hZ hw 66) (by decide) (backOf (W := 0) (rmS2_2_1 l Z a0 hw [] a1 cs vF t kt y0 y1 h0 n0 Z0 SC hcs SF hF E1 C1 W1 V1) hZ (own_i hw 68 rfl) (own_i hw 10 rfl) (by decide) (by decide)) q103a q103c (g := (mkF m 6 #[rv a1, iv 1] [(.int 2), (.int 1), (.ref a1)])) rfl (by rw [hml]; rfl) (Steps.refl _) (argsL := [(.int 1), (.int 2)]) (rest := []) (lenOf pd_18 rfl) rfl (Nat.le_of_eq rfl) (hb hby d14_6) (fun _ _ => ⟨rfl, e102, (by decide : 0 + 2 ≤ _), (by decide : 0 + 5 ≤ _)⟩)
  dsimp only [Pt.U, Pt.locs, Pt.cells, Pt.slots] at X103 l103 y103 z103 st103 hQ103
  subst l103 y103 z103
  obtain ⟨b104, b105, x106, rfl, N103q, K103, f107, f108, f109, f110, f111, f112, f113, f114⟩ := hQ103
  have N103 := Fr.app N102 N103q
  have ne115 : a1 ≠ b104 := Nat.ne_of_lt (Nat.lt_of_lt_of_le E1.lt f108)
  have ne116 : t ≠ b104 := Nat.ne_of_lt (Nat.lt_of_lt_of_le V1.lt f108)
  have ne117 : a1 ≠ b105 := Nat.ne_of_lt (Nat.lt_of_lt_of_le E1.lt f113)
  have ne118 : t ≠ b105 := Nat.ne_of_lt (Nat.lt_of_lt_of_le V1.lt f113)
  have f119 := Nat.le_trans Z0 K103.1
  have f120 := E1.keep K103
  have f121 := C1.keep K103 nin0
  have f122 := W1.keep K103 nin0
  have f123 := V1.keep K103 nin0
  have f124 := f101.trans K103 all0
  have pre125 : own_P p e below s₁ (entryFrame m #[(.ref a1), (.int 1)] 2) T103 (mkF m 9 #[rv a1, iv 1] [(.ref b104)]) := fun t k => pre0 t (by
    show Steps p.tables e below (s₁.setTop (mkF m 0 #[rv a1, iv 1] [])) t
    refine XS.aloadN X0.here hx rfl (hb hby d14_0) rfl rfl ?_
    refine XS.iloadN X0.here hx rfl (hb hby d14_1) rfl ?_
    refine XS.aloadN X0.here hx rfl (hb hby d14_2) rfl rfl ?_
    refine st102.trans ?_
    refine st103.trans ?_
    exact k)
  obtain ⟨fs, hr, hrun, hended, hW, hsame⟩ := X103.leave (v := some (.ref b104)) (fun h => by rw [Bd.returns] at h; cases h)
  refine ⟨_, _, pre125 _ ?_, hrun, hended, _, _, rfl, ?_, ⟨_, rfl⟩, hW, hsame.mono (by decide) (by decide)⟩
  · exact retOut X103 hx Bd.returns rfl (Or.inr (Or.inr (Or.inr (Or.inr ⟨rfl, rfl, rfl⟩)))) (hb hby d14_9) hr
  · show QS1_2_1 Z a1 cs vF t kt y0 y1 h0 n0 _ T103.heap _
    exact ⟨b104, b105, x106, rfl, N103, f124, f107, f108, f109, f110, f111, f112, f113, f114⟩
theorem ef_rmMin_2 (m : MethodId)  : entryFrame m #[(.int 2), (.int 2)] 2 = mkF m 0 #[iv 2, iv 2] [] := by first | (simp [entryFrame, mkF, argsToLocals, Value.category]; done) | rfl
def QMin_2 (Z : State)  (h0 : Heap) (n0 : Nat) (v : Option Value) (h : Heap) (L : List Loc) : Prop := v = some (.int 2) ∧ Fr n0 L ∧ h = h0
set_option maxRecDepth 65536 in
set_option maxHeartbeats 40000000 in
theorem rmMin_2 (l : Launch) (Z : State) (a0 : Array Value) (hw : ∀ d ∈ tables_1, d.before a0 Z = true) (ws : List Jvm.Cond)  (h0 : Heap) (n0 : Nat) (Z0 : n0 ≤ h0.size) :
    own_M l own_y20 jdk_29_method_69_code 2 (some .int) ws (own_R 0 0 0 0) Z h0 #[(.int 2), (.int 2)] (QMin_2 Z h0 n0) := by
  refine MetFree.of_bodySF (Jvm.Free.JP.mathPlain rfl (by decide +kernel)) hisR ?_
  intro p e s m args below meth c s₁ Bd hml0 hP hK
  obtain ⟨rfl, hZ, hh⟩ := hP
  have hx := Bd.exec
  have hby := Bd.bytes
  have hml : c.maxLocals = 2 := hml0
  have hown : s.vm.findClass "java/lang/Math" = some m.cls := findClass_of_methodNamed Bd.named
  have hnm := (name_of_methodNamed Bd.named Bd.method).1
  have X0 : Stand p l e (own_R 0 0 0 0) s m #[(.int 2), (.int 2)] below meth c s₁ [] 0 0 := Stand.of_body Bd
  have e0 : s₁.heap = h0 := by rw [← hh, Bd.state]; rfl
  have N0 := Fr.nil n0
  have pre0 : own_P p e below s₁ (entryFrame m #[(.int 2), (.int 2)] 2) s₁ (mkF m 0 #[iv 2, iv 2] []) := fun t k => castTop (ef_rmMin_2 m ) k
  have pre101 : own_P p e below s₁ (entryFrame m #[(.int 2), (.int 2)] 2) s₁ (mkF m 10 #[iv 2, iv 2] [(.int 2)]) := fun t k => pre0 t (by
    show Steps p.tables e below (s₁.setTop (mkF m 0 #[iv 2, iv 2] [])) t
    refine XS.iloadN X0.here hx rfl (hb hby d29_0) rfl ?_
    refine XS.iloadN X0.here hx rfl (hb hby d29_1) rfl ?_
    refine XS.icmpNo X0.here hx rfl (hb hby d29_2) rfl (flt (by decide : ¬ ((2 : Int32) < (2 : Int32)))).2.2.1 ?_
    refine XS.iloadN X0.here hx rfl (hb hby d29_5) rfl ?_
    refine XS.goto X0.here hx rfl (pc0 := 6) (pc' := 10) rfl (hb hby d29_6) (by decide) (by decide) ?_
    exact k)
  obtain ⟨fs, hr, hrun, hended, hW, hsame⟩ := X0.leave (v := some (.int 2)) (fun h => by rw [Bd.returns] at h; cases h)
  refine ⟨_, _, pre101 _ ?_, hrun, hended, _, _, rfl, ?_, ⟨_, rfl⟩, hW, hsame.mono (by decide) (by decide)⟩
  · exact retI X0 hx Bd.returns (hb hby d29_10) hr
  · show QMin_2 Z h0 n0 _ s₁.heap _
    rw [e0]
    exact ⟨rfl, N0, rfl⟩
theorem ef_rmCb_3_1 (m : MethodId) (x0 : Addr) : entryFrame m #[(.ref x0), (.int 1), (.int 3)] 5 = mkF m 0 #[rv x0, iv 1, iv 3, .unset, .unset] [] := by first | (simp [entryFrame, mkF, argsToLocals, Value.category]; done) | rfl
def QCb_3_1 (Z : State) (a1 : Addr) (k1 : ClassId) (y0 : Int32) (y1 : Int32) (y2 : Int32) (h0 : Heap) (n0 : Nat) (v : Option Value) (h : Heap) (L : List Loc) : Prop := ∃ (b : Addr) (kb : ClassId), v = some (.ref b) ∧ Fr n0 L ∧ Keep h0 h [] ∧ (n0 ≤ b) ∧ (h0.size ≤ b) ∧ (Arv Z h b kb .byte (2 : Int32) [(.int y1), (.int y2)] (.int 0))
set_option maxRecDepth 65536 in
set_option maxHeartbeats 40000000 in
theorem rmCb_3_1 (l : Launch) (Z : State) (a0 : Array Value) (hw : ∀ d ∈ tables_1, d.before a0 Z = true) (ws : List Jvm.Cond) (a1 : Addr) (k1 : ClassId) (y0 : Int32) (y1 : Int32) (y2 : Int32) (h0 : Heap) (n0 : Nat) (Z0 : n0 ≤ h0.size) (V1 : Arv Z h0 a1 k1 .byte (3 : Int32) [(.int y0), (.int y1), (.int y2)] (.int 0)) :
    own_M l own_y21 jdk_65_method_133_code 5 (some (.array .byte)) ws (own_R 1 1 2 40) Z h0 #[(.ref a1), (.int 1), (.int 3)] (QCb_3_1 Z a1 k1 y0 y1 y2 h0 n0) := by
  refine MetFree.of_bodySF (plainFor_of_name pn_java_util_Arrays) hisR ?_
  intro p e s m args below meth c s₁ Bd hml0 hP hK
  obtain ⟨rfl, hZ, hh⟩ := hP
  have hx := Bd.exec
  have hby := Bd.bytes
  have hml : c.maxLocals = 5 := hml0
  have hown : s.vm.findClass "java/util/Arrays" = some m.cls := findClass_of_methodNamed Bd.named
  have hnm := (name_of_methodNamed Bd.named Bd.method).1
  have X0 : Stand p l e (own_R 1 1 2 40) s m #[(.ref a1), (.int 1), (.int 3)] below meth c s₁ [] 0 0 := Stand.of_body Bd
  have e0 : s₁.heap = h0 := by rw [← hh, Bd.state]; rfl
  have N0 := Fr.nil n0
  have pre0 : own_P p e below s₁ (entryFrame m #[(.ref a1), (.int 1), (.int 3)] 5) s₁ (mkF m 0 #[rv a1, iv 1, iv 3, .unset, .unset] []) := fun t k => castTop (ef_rmCb_3_1 m a1) k
  have f101 := Keep.refl h0 []
  obtain ⟨_, _, ⟨T102, L102, k102, n102⟩, -, X102, ⟨Lc102, hQ102, l102, y102, z102⟩, st102⟩ := Jvm.LawKit.callS X0 hx (y := own_y18) hown (own_m hZ hw 117) (own_m hZ hw 118) (own_m hZ hw 112) (own_m hZ hw 119) (by decide) (backOf (W := 0) (rmCl l Z a0 hw [] (1 : Int32) (3 : Int32) h0 n0 Z0 (by first | assumption | rfl | decide | omega | simp_all)) hZ (own_i hw 119 rfl) (own_i hw 112 rfl) (by decide) (by decide)) (g := (mkF m 2 #[rv a1, iv 1, iv 3, .unset, .unset] [(.int 3), (.int 1)])) rfl (by rw [hml]; rfl) (argsL := [(.int 1), (.int 3)]) (rest := []) (lenOf pd_8 rfl) rfl (Nat.le_of_eq rfl) (hb hby d27_2) (fun _ _ => ⟨rfl, e0, (by decide : 0 + 0 ≤ _), (by decide : 0 + 0 ≤ _)⟩)
  dsimp only [Pt.U, Pt.locs, Pt.cells, Pt.slots] at X102 l102 y102 z102 st102 hQ102
  subst l102 y102 z102
  obtain ⟨rfl, N102q, e102⟩ := hQ102
  have N102 := Fr.app N0 N102q
  obtain ⟨T103, h103, k103, X103, e103, E103, A103, st103⟩ := newP X102 hx hZ (own_i hw 30 rfl) e102 (g := (mkF m 10 #[rv a1, iv 1, iv 3, iv 2, .unset] [(.int 2)])) rfl (hb hby d27_10) rfl (by decide) (cap := 2) (by decide) (by decide) (by decide) (by decide)
  obtain ⟨b103, g103⟩ : ∃ z, z = h0.size := ⟨_, rfl⟩
  rw [← g103] at A103 st103
  have ne104 : a1 ≠ b103 := Nat.ne_of_lt (Nat.lt_of_lt_of_le V1.lt (Nat.le_of_eq g103.symm))
  have ga105 : n0 ≤ b103 := Nat.le_trans Z0 (Nat.le_of_eq g103.symm)
  have sz106 : h0.size ≤ b103 := Nat.le_trans f101.1 (Nat.le_of_eq g103.symm)
  have V103 : Arv Z h103 b103 k103 .byte (2 : Int32) [(.int 0), (.int 0)] (.int 0) := (Arv.new A103 (by decide)).pad (pad_rep [] (.int 0) 2)
  have f107 := Nat.le_trans Z0 E103.1
  have f108 := V1.ext E103
  have f109 := f101.ext E103
  obtain ⟨cl110, Ar110, q110, S110, N110z, H110, G110⟩ := (id f108)
  obtain ⟨_, _, ⟨T111, L111, k111, n111⟩, -, X111, ⟨Lc111, hQ111, l111, y111, z111⟩, st111⟩ := Jvm.LawKit.callS X103 hx (y := own_y20) hown (own_m hZ hw 120) (own_m hZ hw 121) (own_m hZ hw 122) (own_m hZ hw 123) (by decide) (backOf (W := 4) (rmMin_2 l Z a0 hw []  h103 n0 f107 ) hZ (own_i hw 123 rfl) (own_i hw 122 rfl) (by decide) (by decide)) (g := (mkF m 24 #[rv a1, iv 1, iv 3, iv 2, rv b103] [(.int 2), (.int 2), (.int 0), (.ref b103), (.int 1), (.ref a1)])) rfl (by rw [hml]; rfl) (argsL := [(.int 2), (.int 2)]) (rest := [(.int 0), (.ref b103), (.int 1), (.ref a1)]) (lenOf pd_12 rfl) rfl (Nat.le_of_eq rfl) (hb hby d27_24) (fun _ _ => ⟨rfl, e103, (by decide : 1 + 0 ≤ _), (by decide : 2 + 0 ≤ _)⟩)
  dsimp only [Pt.U, Pt.locs, Pt.cells, Pt.slots] at X111 l111 y111 z111 st111 hQ111
  subst l111 y111 z111
  obtain ⟨rfl, N111q, e111⟩ := hQ111
  have N111 := Fr.app N102 N111q
  obtain ⟨T112, h112, L112, X112, e112, N112, K112, V112, st112⟩ := cpA X111 hx hZ hown (own_i hw 124 rfl) (own_i hw 127 rfl) (own_i hw 125 rfl) (own_i hw 126 rfl) e111 f108 V103 (us := [(.int y1), (.int y2)]) (Or.inl ⟨rfl, rfl⟩) (by decide) (by decide) (by decide) (by decide) (by decide) rfl (by decide) N111 ga105 (g := (mkF m 27 #[rv a1, iv 1, iv 3, iv 2, rv b103] [(.int 2), (.int 0), (.ref b103), (.int 1), (.ref a1)])) rfl (by rw [hml]; rfl) rfl (hb hby d27_27) (by decide) (W := 0) (Nat.le_of_eq rfl) (by decide)
  have Vc112 : Arv Z h112 b103 k103 .byte (2 : Int32) [(.int y1), (.int y2)] (.int 0) := V112
  have f113 := Nat.le_trans f107 K112.1
  have f114 := f108.keep K112 (ninS ne104 nin0)
  have f115 := f109.trans K112 (allS (Or.inr sz106) all0)
  have pre116 : own_P p e below s₁ (entryFrame m #[(.ref a1), (.int 1), (.int 3)] 5) T112 (mkF m 32 #[rv a1, iv 1, iv 3, iv 2, rv b103] [(.ref b103)]) := fun t k => pre0 t (by
    show Steps p.tables e below (s₁.setTop (mkF m 0 #[rv a1, iv 1, iv 3, .unset, .unset] [])) t
    refine XS.iloadN X0.here hx rfl (hb hby d27_0) rfl ?_
    refine XS.iloadN X0.here hx rfl (hb hby d27_1) rfl ?_
    refine st102 _ ?_
    refine XS.iloadN X102.here hx rfl (hb hby d27_5) rfl ?_
    refine XS.iloadN X102.here hx rfl (hb hby d27_6) rfl ?_
    refine XS.isub X102.here hx rfl (hb hby d27_7) rfl ?_
    refine XS.istoreN X102.here hx rfl (hb hby d27_8) rfl (l' := #[rv a1, iv 1, iv 3, iv 2, .unset]) rfl ?_
    refine XS.iloadN X102.here hx rfl (hb hby d27_9) rfl ?_
    refine st103 _ ?_
    refine XS.astore X103.here hx rfl (hb hby d27_12) rfl rfl (l' := #[rv a1, iv 1, iv 3, iv 2, rv b103]) rfl ?_
    refine XS.aloadN X103.here hx rfl (hb hby d27_14) rfl rfl ?_
    refine XS.iloadN X103.here hx rfl (hb hby d27_15) rfl ?_
    refine XS.aload X103.here hx rfl (hb hby d27_16) rfl rfl ?_
    refine XS.iconst X103.here hx rfl (hb hby d27_18) ?_
    refine XS.aloadN X103.here hx rfl (hb hby d27_19) rfl rfl ?_
    refine X103.arraylength hx (by rw [e103]; exact Ar110.1) (State.isArrayOf_alike hZ.alike Ar110.2.1) (g := (mkF m 20 #[rv a1, iv 1, iv 3, iv 2, rv b103] [(.ref a1), (.int 0), (.ref b103), (.int 1), (.ref a1)])) rfl rfl (hb hby d27_20) _ ?_
    rw [len_of S110 N110z]
    refine XS.iloadN X103.here hx rfl (hb hby d27_21) rfl ?_
    refine XS.isub X103.here hx rfl (hb hby d27_22) rfl ?_
    refine XS.iloadN X103.here hx rfl (hb hby d27_23) rfl ?_
    refine st111 _ ?_
    refine st112 _ ?_
    refine XS.aload X112.here hx rfl (hb hby d27_30) rfl rfl ?_
    exact k)
  obtain ⟨fs, hr, hrun, hended, hW, hsame⟩ := X112.leave (v := some (.ref b103)) (fun h => by rw [Bd.returns] at h; cases h)
  refine ⟨_, _, pre116 _ ?_, hrun, hended, _, _, rfl, ?_, ⟨_, rfl⟩, hW, hsame.mono (by decide) (by decide)⟩
  · exact retOut X112 hx Bd.returns rfl (Or.inr (Or.inr (Or.inr (Or.inr ⟨rfl, rfl, rfl⟩)))) (hb hby d27_32) hr
  · show QCb_3_1 Z a1 k1 y0 y1 y2 h0 n0 _ T112.heap _
    rw [e112]
    exact ⟨b103, k103, rfl, N112, f115, ga105, sz106, Vc112⟩
theorem ef_rmCr_3_1 (m : MethodId) (x0 : Addr) : entryFrame m #[(.ref x0), (.int 1), (.int 3)] 3 = mkF m 0 #[rv x0, iv 1, iv 3] [] := by first | (simp [entryFrame, mkF, argsToLocals, Value.category]; done) | rfl
def QCr_3_1 (Z : State) (a1 : Addr) (k1 : ClassId) (y0 : Int32) (y1 : Int32) (y2 : Int32) (h0 : Heap) (n0 : Nat) (v : Option Value) (h : Heap) (L : List Loc) : Prop := ∃ (b : Addr) (kb : ClassId), v = some (.ref b) ∧ Fr n0 L ∧ Keep h0 h [] ∧ (n0 ≤ b) ∧ (h0.size ≤ b) ∧ (Arv Z h b kb .byte (2 : Int32) [(.int y1), (.int y2)] (.int 0))
set_option maxRecDepth 65536 in
set_option maxHeartbeats 40000000 in
theorem rmCr_3_1 (l : Launch) (Z : State) (a0 : Array Value) (hw : ∀ d ∈ tables_1, d.before a0 Z = true) (ws : List Jvm.Cond) (a1 : Addr) (k1 : ClassId) (y0 : Int32) (y1 : Int32) (y2 : Int32) (h0 : Heap) (n0 : Nat) (Z0 : n0 ≤ h0.size) (V1 : Arv Z h0 a1 k1 .byte (3 : Int32) [(.int y0), (.int y1), (.int y2)] (.int 0)) :
    own_M l own_y22 jdk_65_method_132_code 3 (some (.array .byte)) ws (own_R 2 1 2 56) Z h0 #[(.ref a1), (.int 1), (.int 3)] (QCr_3_1 Z a1 k1 y0 y1 y2 h0 n0) := by
  refine MetFree.of_bodySF (plainFor_of_name pn_java_util_Arrays) hisR ?_
  intro p e s m args below meth c s₁ Bd hml0 hP hK
  obtain ⟨rfl, hZ, hh⟩ := hP
  have hx := Bd.exec
  have hby := Bd.bytes
  have hml : c.maxLocals = 3 := hml0
  have hown : s.vm.findClass "java/util/Arrays" = some m.cls := findClass_of_methodNamed Bd.named
  have hnm := (name_of_methodNamed Bd.named Bd.method).1
  have X0 : Stand p l e (own_R 2 1 2 56) s m #[(.ref a1), (.int 1), (.int 3)] below meth c s₁ [] 0 0 := Stand.of_body Bd
  have e0 : s₁.heap = h0 := by rw [← hh, Bd.state]; rfl
  have N0 := Fr.nil n0
  have pre0 : own_P p e below s₁ (entryFrame m #[(.ref a1), (.int 1), (.int 3)] 3) s₁ (mkF m 0 #[rv a1, iv 1, iv 3] []) := fun t k => castTop (ef_rmCr_3_1 m a1) k
  have f101 := Keep.refl h0 []
  obtain ⟨_, _, ⟨T102, L102, k102, n102⟩, -, X102, ⟨Lc102, hQ102, l102, y102, z102⟩, st102⟩ := Jvm.LawKit.callS X0 hx (y := own_y21) hown (own_m hZ hw 114) (own_m hZ hw 115) (own_m hZ hw 112) (own_m hZ hw 116) (by decide) (backOf (W := 0) (rmCb_3_1 l Z a0 hw [] a1 k1 y0 y1 y2 h0 n0 Z0 V1) hZ (own_i hw 116 rfl) (own_i hw 112 rfl) (by decide) (by decide)) (g := (mkF m 13 #[rv a1, iv 1, iv 3] [(.int 3), (.int 1), (.ref a1)])) rfl (by rw [hml]; rfl) (argsL := [(.ref a1), (.int 1), (.int 3)]) (rest := []) (lenOf pd_13 rfl) rfl (Nat.le_of_eq rfl) (hb hby d26_13) (fun _ _ => ⟨rfl, e0, (by decide : 0 + 1 ≤ _), (by decide : 0 + 2 ≤ _)⟩)
  dsimp only [Pt.U, Pt.locs, Pt.cells, Pt.slots] at X102 l102 y102 z102 st102 hQ102
  subst l102 y102 z102
  obtain ⟨b103, x104, rfl, N102q, K102, f105, f106, f107⟩ := hQ102
  have N102 := Fr.app N0 N102q
  have ne108 : a1 ≠ b103 := Nat.ne_of_lt (Nat.lt_of_lt_of_le V1.lt f106)
  have f109 := Nat.le_trans Z0 K102.1
  have f110 := V1.keep K102 nin0
  have f111 := f101.trans K102 all0
  have pre112 : own_P p e below s₁ (entryFrame m #[(.ref a1), (.int 1), (.int 3)] 3) T102 (mkF m 16 #[rv a1, iv 1, iv 3] [(.ref b103)]) := fun t k => pre0 t (by
    show Steps p.tables e below (s₁.setTop (mkF m 0 #[rv a1, iv 1, iv 3] [])) t
    refine XS.iloadN X0.here hx rfl (hb hby d26_0) rfl ?_
    refine XS.ifYes X0.here hx rfl (pc0 := 1) (pc' := 10) rfl (hb hby d26_1) rfl ((if0 _ _).trans (feq (by decide : ¬ ((1 : Int32) = (0 : Int32)))).2) (by decide) (by decide) ?_
    refine XS.aloadN X0.here hx rfl (hb hby d26_10) rfl rfl ?_
    refine XS.iloadN X0.here hx rfl (hb hby d26_11) rfl ?_
    refine XS.iloadN X0.here hx rfl (hb hby d26_12) rfl ?_
    refine st102 _ ?_
    exact k)
  obtain ⟨fs, hr, hrun, hended, hW, hsame⟩ := X102.leave (v := some (.ref b103)) (fun h => by rw [Bd.returns] at h; cases h)
  refine ⟨_, _, pre112 _ ?_, hrun, hended, _, _, rfl, ?_, ⟨_, rfl⟩, hW, hsame.mono (by decide) (by decide)⟩
  · exact retOut X102 hx Bd.returns rfl (Or.inr (Or.inr (Or.inr (Or.inr ⟨rfl, rfl, rfl⟩)))) (hb hby d26_16) hr
  · show QCr_3_1 Z a1 k1 y0 y1 y2 h0 n0 _ T102.heap _
    exact ⟨b103, x104, rfl, N102, f111, f105, f106, f107⟩
theorem ef_rmNs_3_1 (m : MethodId) (x0 : Addr) : entryFrame m #[(.ref x0), (.int 1), (.int 2)] 3 = mkF m 0 #[rv x0, iv 1, iv 2] [] := by first | (simp [entryFrame, mkF, argsToLocals, Value.category]; done) | rfl
def QNs_3_1 (Z : State) (a1 : Addr) (k1 : ClassId) (y0 : Int32) (y1 : Int32) (y2 : Int32) (h0 : Heap) (n0 : Nat) (v : Option Value) (h : Heap) (L : List Loc) : Prop := ∃ (b : Addr) (tb : Addr) (kb : ClassId), v = some (.ref b) ∧ Fr n0 L ∧ Keep h0 h [] ∧ (n0 ≤ b) ∧ (h0.size ≤ b) ∧ (Exa Z h b "java/lang/String") ∧ (Fld Z h b "java/lang/String" "coder" "B" (.int 0)) ∧ (Fld Z h b "java/lang/String" "value" "[B" (.ref tb)) ∧ (n0 ≤ tb) ∧ (h0.size ≤ tb) ∧ (Arv Z h tb kb .byte (2 : Int32) [(.int y1), (.int y2)] (.int 0))
set_option maxRecDepth 65536 in
set_option maxHeartbeats 40000000 in
theorem rmNs_3_1 (l : Launch) (Z : State) (a0 : Array Value) (hw : ∀ d ∈ tables_1, d.before a0 Z = true) (ws : List Jvm.Cond) (a1 : Addr) (k1 : ClassId) (y0 : Int32) (y1 : Int32) (y2 : Int32) (h0 : Heap) (n0 : Nat) (Z0 : n0 ≤ h0.size) (V1 : Arv Z h0 a1 k1 .byte (3 : Int32) [(.int y0), (.int y1), (.int y2)] (.int 0)) :
    own_M l own_y23 jdk_43_method_47_code 3 (some (.object "java/lang/String")) ws (own_R 3 2 6 72) Z h0 #[(.ref a1), (.int 1), (.int 2)] (QNs_3_1 Z a1 k1 y0 y1 y2 h0 n0) := by
  refine MetFree.of_bodySF (plainFor_of_name pn_java_lang_StringLatin1) hisR ?_
  intro p e s m args below meth c s₁ Bd hml0 hP hK
  obtain ⟨rfl, hZ, hh⟩ := hP
  have hx := Bd.exec
  have hby := Bd.bytes
  have hml : c.maxLocals = 3 := hml0
  have hown : s.vm.findClass "java/lang/StringLatin1" = some m.cls := findClass_of_methodNamed Bd.named
  have hnm := (name_of_methodNamed Bd.named Bd.method).1
  have X0 : Stand p l e (own_R 3 2 6 72) s m #[(.ref a1), (.int 1), (.int 2)] below meth c s₁ [] 0 0 := Stand.of_body Bd
  have e0 : s₁.heap = h0 := by rw [← hh, Bd.state]; rfl
  have N0 := Fr.nil n0
  have pre0 : own_P p e below s₁ (entryFrame m #[(.ref a1), (.int 1), (.int 2)] 3) s₁ (mkF m 0 #[rv a1, iv 1, iv 2] []) := fun t k => castTop (ef_rmNs_3_1 m a1) k
  have f101 := Keep.refl h0 []
  obtain ⟨T102, h102, X102, e102, E102, A102, D102, -, st102⟩ := newO X0 hx hZ hown (own_i hw 109 rfl) (own_i hw 9 rfl) (own_i hw 10 rfl) e0 (g := (mkF m 7 #[rv a1, iv 1, iv 2] [])) rfl (hb hby d25_7) (by decide) (by decide)
  obtain ⟨b102, g102⟩ : ∃ z, z = h0.size := ⟨_, rfl⟩
  rw [← g102] at A102 D102 st102
  have ne103 : a1 ≠ b102 := Nat.ne_of_lt (Nat.lt_of_lt_of_le V1.lt (Nat.le_of_eq g102.symm))
  have ga104 : n0 ≤ b102 := Nat.le_trans Z0 (Nat.le_of_eq g102.symm)
  have sz105 : h0.size ≤ b102 := Nat.le_trans f101.1 (Nat.le_of_eq g102.symm)
  have f106 : Fld Z h102 b102 "java/lang/String" "coder" "B" (.int 0) := D102 (Or.inr (own_i hw 38 rfl)) (ty := .byte) (by decide)
  have f107 : Fld Z h102 b102 "java/lang/String" "value" "[B" .null := D102 (Or.inr (own_i hw 40 rfl)) (ty := (.array .byte)) (by decide)
  have f108 := Nat.le_trans Z0 E102.1
  have f109 := V1.ext E102
  have f110 := f101.ext E102
  obtain ⟨_, _, ⟨T111, L111, k111, n111⟩, -, X111, ⟨Lc111, hQ111, l111, y111, z111⟩, st111⟩ := Jvm.LawKit.callS X102 hx (y := own_y22) hown (own_m hZ hw 110) (own_m hZ hw 111) (own_m hZ hw 112) (own_m hZ hw 113) (by decide) (backOf (W := 2) (rmCr_3_1 l Z a0 hw [] a1 k1 y0 y1 y2 h102 n0 f108 f109) hZ (own_i hw 113 rfl) (own_i hw 112 rfl) (by decide) (by decide)) (g := (mkF m 16 #[rv a1, iv 1, iv 2] [(.int 3), (.int 1), (.ref a1), (.ref b102), (.ref b102)])) rfl (by rw [hml]; rfl) (argsL := [(.ref a1), (.int 1), (.int 3)]) (rest := [(.ref b102), (.ref b102)]) (lenOf pd_13 rfl) rfl (Nat.le_of_eq rfl) (hb hby d25_16) (fun _ _ => ⟨rfl, e102, (by decide : 1 + 1 ≤ _), (by decide : 4 + 2 ≤ _)⟩)
  dsimp only [Pt.U, Pt.locs, Pt.cells, Pt.slots] at X111 l111 y111 z111 st111 hQ111
  subst l111 y111 z111
  obtain ⟨b112, x113, rfl, N111q, K111, f114, f115, f116⟩ := hQ111
  have N111 := Fr.app N0 N111q
  have ne117 : a1 ≠ b112 := Nat.ne_of_lt (Nat.lt_of_lt_of_le f109.lt f115)
  have ne118 : b102 ≠ b112 := Nat.ne_of_lt (Nat.lt_of_lt_of_le A102.lt f115)
  have sz119 : h0.size ≤ b112 := Nat.le_trans f110.1 f115
  have f120 := Nat.le_trans f108 K111.1
  have f121 := f109.keep K111 nin0
  have f122 := f110.trans K111 all0
  have f123 := A102.keep K111
  have f124 := f106.keep K111 nin0
  have f125 := f107.keep K111 nin0
  obtain ⟨_, _, ⟨T126, L126, k126, n126⟩, -, X126, ⟨Lc126, hQ126, l126, y126, z126⟩, st126⟩ := X111.specialBack hx (y := own_y19) rfl hown (own_m hZ hw 128) (own_m hZ hw 129) (own_m hZ hw 130) (by decide) (backOf (W := 1) (rmSi l Z a0 hw [] b102 b112 T111.heap n0 f120 f125 f124 f123 ga104) hZ (own_i hw 130 rfl) (own_i hw 10 rfl) (by decide) (by decide)) (g := (mkF m 20 #[rv a1, iv 1, iv 2] [(.int 0), (.ref b112), (.ref b102), (.ref b102)])) rfl (by rw [hml]; rfl) (Steps.refl _) (a := b102) (argsL := [(.ref b112), (.int 0)]) (rest := [(.ref b102)]) (lenOf pd_14 rfl) rfl (Nat.le_of_eq rfl) (hb hby d25_20) (fun _ _ => ⟨rfl, rfl, (by decide : 2 + 0 ≤ _), (by decide : 6 + 0 ≤ _)⟩)
  dsimp only [Pt.U, Pt.locs, Pt.cells, Pt.slots] at X126 l126 y126 z126 st126 hQ126
  subst l126 y126 z126
  obtain ⟨rfl, N126q, K126, f127, f128, f129⟩ := hQ126
  have N126 := Fr.app N111 N126q
  have f130 := Nat.le_trans f120 K126.1
  have f131 := f121.keep K126 (ninS ne103 nin0)
  have f132 := f122.trans K126 (allS (Or.inr sz105) all0)
  have f133 := f116.keep K126 (ninS (Ne.symm ne118) nin0)
  have pre134 : own_P p e below s₁ (entryFrame m #[(.ref a1), (.int 1), (.int 2)] 3) T126 (mkF m 23 #[rv a1, iv 1, iv 2] [(.ref b102)]) := fun t k => pre0 t (by
    show Steps p.tables e below (s₁.setTop (mkF m 0 #[rv a1, iv 1, iv 2] [])) t
    refine XS.iloadN X0.here hx rfl (hb hby d25_0) rfl ?_
    refine XS.ifYes X0.here hx rfl (pc0 := 1) (pc' := 7) rfl (hb hby d25_1) rfl ((if0 _ _).trans (feq (by decide : ¬ ((2 : Int32) = (0 : Int32)))).2) (by decide) (by decide) ?_
    refine st102 _ ?_
    refine XS.dup X102.here hx rfl (hb hby d25_10) rfl rfl ?_
    refine XS.aloadN X102.here hx rfl (hb hby d25_11) rfl rfl ?_
    refine XS.iloadN X102.here hx rfl (hb hby d25_12) rfl ?_
    refine XS.iloadN X102.here hx rfl (hb hby d25_13) rfl ?_
    refine XS.iloadN X102.here hx rfl (hb hby d25_14) rfl ?_
    refine XS.iadd X102.here hx rfl (hb hby d25_15) rfl ?_
    refine st111 _ ?_
    refine XS.iconst X111.here hx rfl (hb hby d25_19) ?_
    refine st126.trans ?_
    exact k)
  obtain ⟨fs, hr, hrun, hended, hW, hsame⟩ := X126.leave (v := some (.ref b102)) (fun h => by rw [Bd.returns] at h; cases h)
  refine ⟨_, _, pre134 _ ?_, hrun, hended, _, _, rfl, ?_, ⟨_, rfl⟩, hW, hsame.mono (by decide) (by decide)⟩
  · exact retOut X126 hx Bd.returns rfl (Or.inr (Or.inr (Or.inr (Or.inr ⟨rfl, rfl, rfl⟩)))) (hb hby d25_23) hr
  · show QNs_3_1 Z a1 k1 y0 y1 y2 h0 n0 _ T126.heap _
    exact ⟨b102, b112, x113, rfl, N126, f132, ga104, sz105, f127, f128, f129, f114, sz119, f133⟩
theorem ef_rmS2_3_1 (m : MethodId) (x0 : Addr) : entryFrame m #[(.ref x0), (.int 1), (.int 3)] 5 = mkF m 0 #[rv x0, iv 1, iv 3, .unset, .unset] [] := by first | (simp [entryFrame, mkF, argsToLocals, Value.category]; done) | rfl
def QS2_3_1 (Z : State) (a1 : Addr) (cs : Int32) (vF : Value) (t : Addr) (kt : ClassId) (y0 : Int32) (y1 : Int32) (y2 : Int32) (h0 : Heap) (n0 : Nat) (v : Option Value) (h : Heap) (L : List Loc) : Prop := ∃ (b : Addr) (tb : Addr) (kb : ClassId), v = some (.ref b) ∧ Fr n0 L ∧ Keep h0 h [] ∧ (n0 ≤ b) ∧ (h0.size ≤ b) ∧ (Exa Z h b "java/lang/String") ∧ (Fld Z h b "java/lang/String" "coder" "B" (.int 0)) ∧ (Fld Z h b "java/lang/String" "value" "[B" (.ref tb)) ∧ (n0 ≤ tb) ∧ (h0.size ≤ tb) ∧ (Arv Z h tb kb .byte (2 : Int32) [(.int y1), (.int y2)] (.int 0))
set_option maxRecDepth 65536 in
set_option maxHeartbeats 40000000 in
theorem rmS2_3_1 (l : Launch) (Z : State) (a0 : Array Value) (hw : ∀ d ∈ tables_1, d.before a0 Z = true) (ws : List Jvm.Cond) (a1 : Addr) (cs : Int32) (vF : Value) (t : Addr) (kt : ClassId) (y0 : Int32) (y1 : Int32) (y2 : Int32) (h0 : Heap) (n0 : Nat) (Z0 : n0 ≤ h0.size) (SC : Sta Z h0 "java/lang/String" "COMPACT_STRINGS" "Z" (.int cs)) (hcs : ¬ (cs = (0 : Int32))) (SF : Sta Z h0 "jdk/internal/util/Preconditions" "SIOOBE_FORMATTER" "Ljava/util/function/BiFunction;" vF) (hF : vF.isRef = true) (E1 : Exa Z h0 a1 "java/lang/String") (C1 : Fld Z h0 a1 "java/lang/String" "coder" "B" (.int 0)) (W1 : Fld Z h0 a1 "java/lang/String" "value" "[B" (.ref t)) (V1 : Arv Z h0 t kt .byte (3 : Int32) [(.int y0), (.int y1), (.int y2)] (.int 0)) :
    own_M l own_y24 jdk_42_method_92_code 5 (some (.object "java/lang/String")) ws (own_R 4 2 6 86) Z h0 #[(.ref a1), (.int 1), (.int 3)] (QS2_3_1 Z a1 cs vF t kt y0 y1 y2 h0 n0) := by
  refine MetFree.of_bodySF (plainFor_of_name pn_java_lang_String) hisR ?_
  intro p e s m args below meth c s₁ Bd hml0 hP hK
  obtain ⟨rfl, hZ, hh⟩ := hP
  have hx := Bd.exec
  have hby := Bd.bytes
  have hml : c.maxLocals = 5 := hml0
  have hown : s.vm.findClass "java/lang/String" = some m.cls := findClass_of_methodNamed Bd.named
  have hnm := (name_of_methodNamed Bd.named Bd.method).1
  have X0 : Stand p l e (own_R 4 2 6 86) s m #[(.ref a1), (.int 1), (.int 3)] below meth c s₁ [] 0 0 := Stand.of_body Bd
  have e0 : s₁.heap = h0 := by rw [← hh, Bd.state]; rfl
  have N0 := Fr.nil n0
  have pre0 : own_P p e below s₁ (entryFrame m #[(.ref a1), (.int 1), (.int 3)] 5) s₁ (mkF m 0 #[rv a1, iv 1, iv 3, .unset, .unset] []) := fun t k => castTop (ef_rmS2_3_1 m a1) k
  have f101 := Keep.refl h0 []
  obtain ⟨cq102, kq102, q102a, q102b, q102c⟩ := isOf hZ e0 E1
  obtain ⟨_, _, ⟨T102, L102, k102, n102⟩, -, X102, ⟨Lc102, hQ102, l102, y102, z102⟩, st102⟩ := X0.virtualBack hx (y := own_y11) (z := own_y11) hown (own_m hZ hw 63) (own_m hZ hw 49) (notFace_of_selects (args := #[]) (own_m hZ hw 51)) (own_m hZ hw 51) (own_m hZ hw 50) (by decide) (backOf (W := 0) (rmLen l Z a0 hw [] a1 cs t kt (3 : Int32) ([(.int y0), (.int y1), (.int y2)]) h0 n0 Z0 SC hcs E1 C1 W1 V1) hZ (own_i hw 52 rfl) (own_i hw 10 rfl) (by decide) (by decide)) q102a q102c (g := (mkF m 1 #[rv a1, iv 1, iv 3, .unset, .unset] [(.ref a1)])) rfl (by rw [hml]; rfl) (Steps.refl _) (argsL := []) (rest := []) (lenOf pd_15 rfl) rfl (Nat.le_of_eq rfl) (hb hby d15_1) (fun _ _ => ⟨rfl, e0, (by decide : 0 + 0 ≤ _), (by decide : 0 + 0 ≤ _)⟩)
  dsimp only [Pt.U, Pt.locs, Pt.cells, Pt.slots] at X102 l102 y102 z102 st102 hQ102
  subst l102 y102 z102
  obtain ⟨rfl, N102q, e102⟩ := hQ102
  have N102 := Fr.app N0 N102q
  obtain ⟨_, _, ⟨T103, L103, k103, n103⟩, -, X103, ⟨Lc103, hQ103, l103, y103, z103⟩, st103⟩ := Jvm.LawKit.callS X102 hx (y := own_y17) hown (own_m hZ hw 69) (own_m hZ hw 70) (own_m hZ hw 10) (own_m hZ hw 71) (by decide) (backOf (W := 0) (rmBe l Z a0 hw [] (1 : Int32) (3 : Int32) (3 : Int32) vF h0 n0 Z0 SF hF (by first | assumption | rfl | decide | omega | simp_all) (by first | assumption | rfl | decide | omega | simp_all) (by first | assumption | rfl | decide | omega | simp_all)) hZ (own_i hw 71 rfl) (own_i hw 10 rfl) (by decide) (by decide)) (g := (mkF m 8 #[rv a1, iv 1, iv 3, iv 3, .unset] [(.int 3), (.int 3), (.int 1)])) rfl (by rw [hml]; rfl) (argsL := [(.int 1), (.int 3), (.int 3)]) (rest := []) (lenOf pd_16 rfl) rfl (Nat.le_of_eq rfl) (hb hby d15_8) (fun _ _ => ⟨rfl, e102, (by decide : 0 + 0 ≤ _), (by decide : 0 + 0 ≤ _)⟩)
  dsimp only [Pt.U, Pt.locs, Pt.cells, Pt.slots] at X103 l103 y103 z103 st103 hQ103
  subst l103 y103 z103
  obtain ⟨rfl, N103q, e103⟩ := hQ103
  have N103 := Fr.app N102 N103q
  obtain ⟨cq104, kq104, q104a, q104b, q104c⟩ := isOf hZ e103 E1
  obtain ⟨_, _, ⟨T104, L104, k104, n104⟩, -, X104, ⟨Lc104, hQ104, l104, y104, z104⟩, st104⟩ := X103.virtualBack hx (y := own_y10) (z := own_y10) hown (own_m hZ hw 92) (own_m hZ hw 93) (notFace_of_selects (args := #[]) (own_m hZ hw 95)) (own_m hZ hw 95) (own_m hZ hw 94) (by decide) (backOf (W := 0) (rmIl l Z a0 hw [] a1 cs h0 n0 Z0 SC hcs C1) hZ (own_i hw 96 rfl) (own_i hw 10 rfl) (by decide) (by decide)) q104a q104c (g := (mkF m 28 #[rv a1, iv 1, iv 3, iv 3, iv 2] [(.ref a1)])) rfl (by rw [hml]; rfl) (Steps.refl _) (argsL := []) (rest := []) (lenOf pd_9 rfl) rfl (Nat.le_of_eq rfl) (hb hby d15_28) (fun _ _ => ⟨rfl, e103, (by decide : 0 + 0 ≤ _), (by decide : 0 + 0 ≤ _)⟩)
  dsimp only [Pt.U, Pt.locs, Pt.cells, Pt.slots] at X104 l104 y104 z104 st104 hQ104
  subst l104 y104 z104
  obtain ⟨rfl, N104q, e104⟩ := hQ104
  have N104 := Fr.app N103 N104q
  obtain ⟨T105, X105, e105, st105⟩ := getF X104 hx hZ hown (host := "") (Or.inl (own_i hw 39 rfl)) Via.refl e104 W1 (g := (mkF m 35 #[rv a1, iv 1, iv 3, iv 3, iv 2] [(.ref a1)])) rfl rfl (hb hby d15_35)
  obtain ⟨_, _, ⟨T106, L106, k106, n106⟩, -, X106, ⟨Lc106, hQ106, l106, y106, z106⟩, st106⟩ := Jvm.LawKit.callS X105 hx (y := own_y23) hown (own_m hZ hw 106) (own_m hZ hw 107) (own_m hZ hw 85) (own_m hZ hw 108) (by decide) (backOf (W := 0) (rmNs_3_1 l Z a0 hw [] t kt y0 y1 y2 h0 n0 Z0 V1) hZ (own_i hw 108 rfl) (own_i hw 85 rfl) (by decide) (by decide)) (g := (mkF m 41 #[rv a1, iv 1, iv 3, iv 3, iv 2] [(.int 2), (.int 1), (.ref t)])) rfl (by rw [hml]; rfl) (argsL := [(.ref t), (.int 1), (.int 2)]) (rest := []) (lenOf pd_17 rfl) rfl (Nat.le_of_eq rfl) (hb hby d15_41) (fun _ _ => ⟨rfl, e105, (by decide : 0 + 2 ≤ _), (by decide : 0 + 6 ≤ _)⟩)
  dsimp only [Pt.U, Pt.locs, Pt.cells, Pt.slots] at X106 l106 y106 z106 st106 hQ106
  subst l106 y106 z106
  obtain ⟨b107, b108, x109, rfl, N106q, K106, f110, f111, f112, f113, f114, f115, f116, f117⟩ := hQ106
  have N106 := Fr.app N104 N106q
  have ne118 : a1 ≠ b107 := Nat.ne_of_lt (Nat.lt_of_lt_of_le E1.lt f111)
  have ne119 : t ≠ b107 := Nat.ne_of_lt (Nat.lt_of_lt_of_le V1.lt f111)
  have ne120 : a1 ≠ b108 := Nat.ne_of_lt (Nat.lt_of_lt_of_le E1.lt f116)
  have ne121 : t ≠ b108 := Nat.ne_of_lt (Nat.lt_of_lt_of_le V1.lt f116)
  have f122 := Nat.le_trans Z0 K106.1
  have f123 := E1.keep K106
  have f124 := C1.keep K106 nin0
  have f125 := W1.keep K106 nin0
  have f126 := V1.keep K106 nin0
  have f127 := f101.trans K106 all0
  have pre128 : own_P p e below s₁ (entryFrame m #[(.ref a1), (.int 1), (.int 3)] 5) T106 (mkF m 57 #[rv a1, iv 1, iv 3, iv 3, iv 2] [(.ref b107)]) := fun t k => pre0 t (by
    show Steps p.tables e below (s₁.setTop (mkF m 0 #[rv a1, iv 1, iv 3, .unset, .unset] [])) t
    refine XS.aloadN X0.here hx rfl (hb hby d15_0) rfl rfl ?_
    refine st102.trans ?_
    refine XS.istoreN X102.here hx rfl (hb hby d15_4) rfl (l' := #[rv a1, iv 1, iv 3, iv 3, .unset]) rfl ?_
    refine XS.iloadN X102.here hx rfl (hb hby d15_5) rfl ?_
    refine XS.iloadN X102.here hx rfl (hb hby d15_6) rfl ?_
    refine XS.iloadN X102.here hx rfl (hb hby d15_7) rfl ?_
    refine st103 _ ?_
    refine XS.iloadN X103.here hx rfl (hb hby d15_11) rfl ?_
    refine XS.ifYes X103.here hx rfl (pc0 := 12) (pc' := 22) rfl (hb hby d15_12) rfl ((if0 _ _).trans (feq (by decide : ¬ ((1 : Int32) = (0 : Int32)))).2) (by decide) (by decide) ?_
    refine XS.iloadN X103.here hx rfl (hb hby d15_22) rfl ?_
    refine XS.iloadN X103.here hx rfl (hb hby d15_23) rfl ?_
    refine XS.isub X103.here hx rfl (hb hby d15_24) rfl ?_
    refine XS.istore X103.here hx rfl (hb hby d15_25) rfl (l' := #[rv a1, iv 1, iv 3, iv 3, iv 2]) rfl ?_
    refine XS.aloadN X103.here hx rfl (hb hby d15_27) rfl rfl ?_
    refine st104.trans ?_
    refine XS.ifNo X104.here hx rfl (hb hby d15_31) rfl ((if0 _ _).trans (feq (by decide : ¬ ((1 : Int32) = (0 : Int32)))).1) ?_
    refine XS.aloadN X104.here hx rfl (hb hby d15_34) rfl rfl ?_
    refine st105 _ ?_
    refine XS.iloadN X105.here hx rfl (hb hby d15_38) rfl ?_
    refine XS.iload X105.here hx rfl (hb hby d15_39) rfl ?_
    refine st106 _ ?_
    refine XS.goto X106.here hx rfl (pc0 := 44) (pc' := 57) rfl (hb hby d15_44) (by decide) (by decide) ?_
    exact k)
  obtain ⟨fs, hr, hrun, hended, hW, hsame⟩ := X106.leave (v := some (.ref b107)) (fun h => by rw [Bd.returns] at h; cases h)
  refine ⟨_, _, pre128 _ ?_, hrun, hended, _, _, rfl, ?_, ⟨_, rfl⟩, hW, hsame.mono (by decide) (by decide)⟩
  · exact retOut X106 hx Bd.returns rfl (Or.inr (Or.inr (Or.inr (Or.inr ⟨rfl, rfl, rfl⟩)))) (hb hby d15_57) hr
  · show QS2_3_1 Z a1 cs vF t kt y0 y1 y2 h0 n0 _ T106.heap _
    exact ⟨b107, b108, x109, rfl, N106, f127, f110, f111, f112, f113, f114, f115, f116, f117⟩
theorem ef_rmS1_3_1 (m : MethodId) (x0 : Addr) : entryFrame m #[(.ref x0), (.int 1)] 2 = mkF m 0 #[rv x0, iv 1] [] := by first | (simp [entryFrame, mkF, argsToLocals, Value.category]; done) | rfl
def QS1_3_1 (Z : State) (a1 : Addr) (cs : Int32) (vF : Value) (t : Addr) (kt : ClassId) (y0 : Int32) (y1 : Int32) (y2 : Int32) (h0 : Heap) (n0 : Nat) (v : Option Value) (h : Heap) (L : List Loc) : Prop := ∃ (b : Addr) (tb : Addr) (kb : ClassId), v = some (.ref b) ∧ Fr n0 L ∧ Keep h0 h [] ∧ (n0 ≤ b) ∧ (h0.size ≤ b) ∧ (Exa Z h b "java/lang/String") ∧ (Fld Z h b "java/lang/String" "coder" "B" (.int 0)) ∧ (Fld Z h b "java/lang/String" "value" "[B" (.ref tb)) ∧ (n0 ≤ tb) ∧ (h0.size ≤ tb) ∧ (Arv Z h tb kb .byte (2 : Int32) [(.int y1), (.int y2)] (.int 0))
set_option maxRecDepth 65536 in
set_option maxHeartbeats 40000000 in
theorem rmS1_3_1 (l : Launch) (Z : State) (a0 : Array Value) (hw : ∀ d ∈ tables_1, d.before a0 Z = true) (ws : List Jvm.Cond) (a1 : Addr) (cs : Int32) (vF : Value) (t : Addr) (kt : ClassId) (y0 : Int32) (y1 : Int32) (y2 : Int32) (h0 : Heap) (n0 : Nat) (Z0 : n0 ≤ h0.size) (SC : Sta Z h0 "java/lang/String" "COMPACT_STRINGS" "Z" (.int cs)) (hcs : ¬ (cs = (0 : Int32))) (SF : Sta Z h0 "jdk/internal/util/Preconditions" "SIOOBE_FORMATTER" "Ljava/util/function/BiFunction;" vF) (hF : vF.isRef = true) (E1 : Exa Z h0 a1 "java/lang/String") (C1 : Fld Z h0 a1 "java/lang/String" "coder" "B" (.int 0)) (W1 : Fld Z h0 a1 "java/lang/String" "value" "[B" (.ref t)) (V1 : Arv Z h0 t kt .byte (3 : Int32) [(.int y0), (.int y1), (.int y2)] (.int 0)) :
    own_M l own_y25 jdk_42_method_91_code 2 (some (.object "java/lang/String")) ws (own_R 5 2 6 102) Z h0 #[(.ref a1), (.int 1)] (QS1_3_1 Z a1 cs vF t kt y0 y1 y2 h0 n0) := by
  refine MetFree.of_bodySF (plainFor_of_name pn_java_lang_String) hisR ?_
  intro p e s m args below meth c s₁ Bd hml0 hP hK
  obtain ⟨rfl, hZ, hh⟩ := hP
  have hx := Bd.exec
  have hby := Bd.bytes
  have hml : c.maxLocals = 2 := hml0
  have hown : s.vm.findClass "java/lang/String" = some m.cls := findClass_of_methodNamed Bd.named
  have hnm := (name_of_methodNamed Bd.named Bd.method).1
  have X0 : Stand p l e (own_R 5 2 6 102) s m #[(.ref a1), (.int 1)] below meth c s₁ [] 0 0 := Stand.of_body Bd
  have e0 : s₁.heap = h0 := by rw [← hh, Bd.state]; rfl
  have N0 := Fr.nil n0
  have pre0 : own_P p e below s₁ (entryFrame m #[(.ref a1), (.int 1)] 2) s₁ (mkF m 0 #[rv a1, iv 1] []) := fun t k => castTop (ef_rmS1_3_1 m a1) k
  have f101 := Keep.refl h0 []
  obtain ⟨cq102, kq102, q102a, q102b, q102c⟩ := isOf hZ e0 E1
  obtain ⟨_, _, ⟨T102, L102, k102, n102⟩, -, X102, ⟨Lc102, hQ102, l102, y102, z102⟩, st102⟩ := X0.virtualBack hx (y := own_y11) (z := own_y11) hown (own_m hZ hw 63) (own_m hZ hw 49) (notFace_of_selects (args := #[]) (own_m hZ hw 51)) (own_m hZ hw 51) (own_m hZ hw 50) (by decide) (backOf (W := 2) (rmLen l Z a0 hw [] a1 cs t kt (3 : Int32) ([(.int y0), (.int y1), (.int y2)]) h0 n0 Z0 SC hcs E1 C1 W1 V1) hZ (own_i hw 52 rfl) (own_i hw 10 rfl) (by decide) (by decide)) q102a q102c (g := (mkF m 3 #[rv a1, iv 1] [(.ref a1), (.int 1), (.ref a1)])) rfl (by rw [hml]; rfl) (Steps.refl _) (argsL := []) (rest := [(.int 1), (.ref a1)]) (lenOf pd_15 rfl) rfl (Nat.le_of_eq rfl) (hb hby d14_3) (fun _ _ => ⟨rfl, e0, (by decide : 0 + 0 ≤ _), (by decide : 0 + 0 ≤ _)⟩)
  dsimp only [Pt.U, Pt.locs, Pt.cells, Pt.slots] at X102 l102 y102 z102 st102 hQ102
  subst l102 y102 z102
  obtain ⟨rfl, N102q, e102⟩ := hQ102
  have N102 := Fr.app N0 N102q
  obtain ⟨cq103, kq103, q103a, q103b, q103c⟩ := isOf hZ e102 E1
  obtain ⟨_, _, ⟨T103, L103, k103, n103⟩, -, X103, ⟨Lc103, hQ103, l103, y103, z103⟩, st103⟩ := X102.virtualBack hx (y := own_y24) (z := own_y24) hown (own_m hZ hw 64) (own_m hZ hw 65) (notFace_of_selects (args := #[]) (own_m hZ hw 67)) (own_m hZ hw 67) (own_m hZ hw 66) (by decide) (backOf (W := 0) (rmS2_3_1 l Z a0 hw [] a1 cs vF t kt y0 y1 y2 h0 n0 Z0 SC hcs SF hF E1 C1 W1 V1) hZ (own_i hw 68 rfl) (own_i hw 10 rfl) (by decide) (by decide)) q103a q103c (g := (mkF m 6 #[rv a1, iv 1] [(.int 3), (.int 1), (.ref a1)])) rfl (by rw [hml]; rfl) (Steps.refl _) (argsL := [(.int 1), (.int 3)]) (rest := []) (lenOf pd_18 rfl) rfl (Nat.le_of_eq rfl) (hb hby d14_6) (fun _ _ => ⟨rfl, e102, (by decide : 0 + 2 ≤ _), (by decide : 0 + 6 ≤ _)⟩)
  dsimp only [Pt.U, Pt.locs, Pt.cells, Pt.slots] at X103 l103 y103 z103 st103 hQ103
  subst l103 y103 z103
  obtain ⟨b104, b105, x106, rfl, N103q, K103, f107, f108, f109, f110, f111, f112, f113, f114⟩ := hQ103
  have N103 := Fr.app N102 N103q
  have ne115 : a1 ≠ b104 := Nat.ne_of_lt (Nat.lt_of_lt_of_le E1.lt f108)
  have ne116 : t ≠ b104 := Nat.ne_of_lt (Nat.lt_of_lt_of_le V1.lt f108)
  have ne117 : a1 ≠ b105 := Nat.ne_of_lt (Nat.lt_of_lt_of_le E1.lt f113)
  have ne118 : t ≠ b105 := Nat.ne_of_lt (Nat.lt_of_lt_of_le V1.lt f113)
  have f119 := Nat.le_trans Z0 K103.1
  have f120 := E1.keep K103
  have f121 := C1.keep K103 nin0
  have f122 := W1.keep K103 nin0
  have f123 := V1.keep K103 nin0
  have f124 := f101.trans K103 all0
  have pre125 : own_P p e below s₁ (entryFrame m #[(.ref a1), (.int 1)] 2) T103 (mkF m 9 #[rv a1, iv 1] [(.ref b104)]) := fun t k => pre0 t (by
    show Steps p.tables e below (s₁.setTop (mkF m 0 #[rv a1, iv 1] [])) t
    refine XS.aloadN X0.here hx rfl (hb hby d14_0) rfl rfl ?_
    refine XS.iloadN X0.here hx rfl (hb hby d14_1) rfl ?_
    refine XS.aloadN X0.here hx rfl (hb hby d14_2) rfl rfl ?_
    refine st102.trans ?_
    refine st103.trans ?_
    exact k)
  obtain ⟨fs, hr, hrun, hended, hW, hsame⟩ := X103.leave (v := some (.ref b104)) (fun h => by rw [Bd.returns] at h; cases h)
  refine ⟨_, _, pre125 _ ?_, hrun, hended, _, _, rfl, ?_, ⟨_, rfl⟩, hW, hsame.mono (by decide) (by decide)⟩
  · exact retOut X103 hx Bd.returns rfl (Or.inr (Or.inr (Or.inr (Or.inr ⟨rfl, rfl, rfl⟩)))) (hb hby d14_9) hr
  · show QS1_3_1 Z a1 cs vF t kt y0 y1 y2 h0 n0 _ T103.heap _
    exact ⟨b104, b105, x106, rfl, N103, f124, f107, f108, f109, f110, f111, f112, f113, f114⟩
theorem ef_rmCb_3_2 (m : MethodId) (x0 : Addr) : entryFrame m #[(.ref x0), (.int 2), (.int 3)] 5 = mkF m 0 #[rv x0, iv 2, iv 3, .unset, .unset] [] := by first | (simp [entryFrame, mkF, argsToLocals, Value.category]; done) | rfl
def QCb_3_2 (Z : State) (a1 : Addr) (k1 : ClassId) (y0 : Int32) (y1 : Int32) (y2 : Int32) (h0 : Heap) (n0 : Nat) (v : Option Value) (h : Heap) (L : List Loc) : Prop := ∃ (b : Addr) (kb : ClassId), v = some (.ref b) ∧ Fr n0 L ∧ Keep h0 h [] ∧ (n0 ≤ b) ∧ (h0.size ≤ b) ∧ (Arv Z h b kb .byte (1 : Int32) [(.int y2)] (.int 0))
set_option maxRecDepth 65536 in
set_option maxHeartbeats 40000000 in
theorem rmCb_3_2 (l : Launch) (Z : State) (a0 : Array Value) (hw : ∀ d ∈ tables_1, d.before a0 Z = true) (ws : List Jvm.Cond) (a1 : Addr) (k1 : ClassId) (y0 : Int32) (y1 : Int32) (y2 : Int32) (h0 : Heap) (n0 : Nat) (Z0 : n0 ≤ h0.size) (V1 : Arv Z h0 a1 k1 .byte (3 : Int32) [(.int y0), (.int y1), (.int y2)] (.int 0)) :
    own_M l own_y21 jdk_65_method_133_code 5 (some (.array .byte)) ws (own_R 1 1 1 40) Z h0 #[(.ref a1), (.int 2), (.int 3)] (QCb_3_2 Z a1 k1 y0 y1 y2 h0 n0) := by
  refine MetFree.of_bodySF (plainFor_of_name pn_java_util_Arrays) hisR ?_
  intro p e s m args below meth c s₁ Bd hml0 hP hK
  obtain ⟨rfl, hZ, hh⟩ := hP
  have hx := Bd.exec
  have hby := Bd.bytes
  have hml : c.maxLocals = 5 := hml0
  have hown : s.vm.findClass "java/util/Arrays" = some m.cls := findClass_of_methodNamed Bd.named
  have hnm := (name_of_methodNamed Bd.named Bd.method).1
  have X0 : Stand p l e (own_R 1 1 1 40) s m #[(.ref a1), (.int 2), (.int 3)] below meth c s₁ [] 0 0 := Stand.of_body Bd
  have e0 : s₁.heap = h0 := by rw [← hh, Bd.state]; rfl
  have N0 := Fr.nil n0
  have pre0 : own_P p e below s₁ (entryFrame m #[(.ref a1), (.int 2), (.int 3)] 5) s₁ (mkF m 0 #[rv a1, iv 2, iv 3, .unset, .unset] []) := fun t k => castTop (ef_rmCb_3_2 m a1) k
  have f101 := Keep.refl h0 []
  obtain ⟨_, _, ⟨T102, L102, k102, n102⟩, -, X102, ⟨Lc102, hQ102, l102, y102, z102⟩, st102⟩ := Jvm.LawKit.callS X0 hx (y := own_y18) hown (own_m hZ hw 117) (own_m hZ hw 118) (own_m hZ hw 112) (own_m hZ hw 119) (by decide) (backOf (W := 0) (rmCl l Z a0 hw [] (2 : Int32) (3 : Int32) h0 n0 Z0 (by first | assumption | rfl | decide | omega | simp_all)) hZ (own_i hw 119 rfl) (own_i hw 112 rfl) (by decide) (by decide)) (g := (mkF m 2 #[rv a1, iv 2, iv 3, .unset, .unset] [(.int 3), (.int 2)])) rfl (by rw [hml]; rfl) (argsL := [(.int 2), (.int 3)]) (rest := []) (lenOf pd_8 rfl) rfl (Nat.le_of_eq rfl) (hb hby d27_2) (fun _ _ => ⟨rfl, e0, (by decide : 0 + 0 ≤ _), (by decide : 0 + 0 ≤ _)⟩)
  dsimp only [Pt.U, Pt.locs, Pt.cells, Pt.slots] at X102 l102 y102 z102 st102 hQ102
  subst l102 y102 z102
  obtain ⟨rfl, N102q, e102⟩ := hQ102
  have N102 := Fr.app N0 N102q
  obtain ⟨T103, h103, k103, X103, e103, E103, A103, st103⟩ := newP X102 hx hZ (own_i hw 30 rfl) e102 (g := (mkF m 10 #[rv a1, iv 2, iv 3, iv 1, .unset] [(.int 1)])) rfl (hb hby d27_10) rfl (by decide) (cap := 1) (by decide) (by decide) (by decide) (by decide)
  obtain ⟨b103, g103⟩ : ∃ z, z = h0.size := ⟨_, rfl⟩
  rw [← g103] at A103 st103
  have ne104 : a1 ≠ b103 := Nat.ne_of_lt (Nat.lt_of_lt_of_le V1.lt (Nat.le_of_eq g103.symm))
  have ga105 : n0 ≤ b103 := Nat.le_trans Z0 (Nat.le_of_eq g103.symm)
  have sz106 : h0.size ≤ b103 := Nat.le_trans f101.1 (Nat.le_of_eq g103.symm)
  have V103 : Arv Z h103 b103 k103 .byte (1 : Int32) [(.int 0)] (.int 0) := (Arv.new A103 (by decide)).pad (pad_rep [] (.int 0) 1)
  have f107 := Nat.le_trans Z0 E103.1
  have f108 := V1.ext E103
  have f109 := f101.ext E103
  obtain ⟨cl110, Ar110, q110, S110, N110z, H110, G110⟩ := (id f108)
  obtain ⟨_, _, ⟨T111, L111, k111, n111⟩, -, X111, ⟨Lc111, hQ111, l111, y111, z111⟩, st111⟩ := Jvm.LawKit.callS X103 hx (y := own_y20) hown (own_m hZ hw 120) (own_m hZ hw 121) (own_m hZ hw 122) (own_m hZ hw 123) (by decide) (backOf (W := 4) (rmMin_1 l Z a0 hw []  h103 n0 f107 ) hZ (own_i hw 123 rfl) (own_i hw 122 rfl) (by decide) (by decide)) (g := (mkF m 24 #[rv a1, iv 2, iv 3, iv 1, rv b103] [(.int 1), (.int 1), (.int 0), (.ref b103), (.int 2), (.ref a1)])) rfl (by rw [hml]; rfl) (argsL := [(.int 1), (.int 1)]) (rest := [(.int 0), (.ref b103), (.int 2), (.ref a1)]) (lenOf pd_12 rfl) rfl (Nat.le_of_eq rfl) (hb hby d27_24) (fun _ _ => ⟨rfl, e103, (by decide : 1 + 0 ≤ _), (by decide : 1 + 0 ≤ _)⟩)
  dsimp only [Pt.U, Pt.locs, Pt.cells, Pt.slots] at X111 l111 y111 z111 st111 hQ111
  subst l111 y111 z111
  obtain ⟨rfl, N111q, e111⟩ := hQ111
  have N111 := Fr.app N102 N111q
  obtain ⟨T112, h112, L112, X112, e112, N112, K112, V112, st112⟩ := cpA X111 hx hZ hown (own_i hw 124 rfl) (own_i hw 127 rfl) (own_i hw 125 rfl) (own_i hw 126 rfl) e111 f108 V103 (us := [(.int y2)]) (Or.inl ⟨rfl, rfl⟩) (by decide) (by decide) (by decide) (by decide) (by decide) rfl (by decide) N111 ga105 (g := (mkF m 27 #[rv a1, iv 2, iv 3, iv 1, rv b103] [(.int 1), (.int 0), (.ref b103), (.int 2), (.ref a1)])) rfl (by rw [hml]; rfl) rfl (hb hby d27_27) (by decide) (W := 0) (Nat.le_of_eq rfl) (by decide)
  have Vc112 : Arv Z h112 b103 k103 .byte (1 : Int32) [(.int y2)] (.int 0) := V112
  have f113 := Nat.le_trans f107 K112.1
  have f114 := f108.keep K112 (ninS ne104 nin0)
  have f115 := f109.trans K112 (allS (Or.inr sz106) all0)
  have pre116 : own_P p e below s₁ (entryFrame m #[(.ref a1), (.int 2), (.int 3)] 5) T112 (mkF m 32 #[rv a1, iv 2, iv 3, iv 1, rv b103] [(.ref b103)]) := fun t k => pre0 t (by
    show Steps p.tables e below (s₁.setTop (mkF m 0 #[rv a1, iv 2, iv 3, .unset, .unset] [])) t
    refine XS.iloadN X0.here hx rfl (hb hby d27_0) rfl ?_
    refine XS.iloadN X0.here hx rfl (hb hby d27_1) rfl ?_
    refine st102 _ ?_
    refine XS.iloadN X102.here hx rfl (hb hby d27_5) rfl ?_
    refine XS.iloadN X102.here hx rfl (hb hby d27_6) rfl ?_
    refine XS.isub X102.here hx rfl (hb hby d27_7) rfl ?_
    refine XS.istoreN X102.here hx rfl (hb hby d27_8) rfl (l' := #[rv a1, iv 2, iv 3, iv 1, .unset]) rfl ?_
    refine XS.iloadN X102.here hx rfl (hb hby d27_9) rfl ?_
    refine st103 _ ?_
    refine XS.astore X103.here hx rfl (hb hby d27_12) rfl rfl (l' := #[rv a1, iv 2, iv 3, iv 1, rv b103]) rfl ?_
    refine XS.aloadN X103.here hx rfl (hb hby d27_14) rfl rfl ?_
    refine XS.iloadN X103.here hx rfl (hb hby d27_15) rfl ?_
    refine XS.aload X103.here hx rfl (hb hby d27_16) rfl rfl ?_
    refine XS.iconst X103.here hx rfl (hb hby d27_18) ?_
    refine XS.aloadN X103.here hx rfl (hb hby d27_19) rfl rfl ?_
    refine X103.arraylength hx (by rw [e103]; exact Ar110.1) (State.isArrayOf_alike hZ.alike Ar110.2.1) (g := (mkF m 20 #[rv a1, iv 2, iv 3, iv 1, rv b103] [(.ref a1), (.int 0), (.ref b103), (.int 2), (.ref a1)])) rfl rfl (hb hby d27_20) _ ?_
    rw [len_of S110 N110z]
    refine XS.iloadN X103.here hx rfl (hb hby d27_21) rfl ?_
    refine XS.isub X103.here hx rfl (hb hby d27_22) rfl ?_
    refine XS.iloadN X103.here hx rfl (hb hby d27_23) rfl ?_
    refine st111 _ ?_
    refine st112 _ ?_
    refine XS.aload X112.here hx rfl (hb hby d27_30) rfl rfl ?_
    exact k)
  obtain ⟨fs, hr, hrun, hended, hW, hsame⟩ := X112.leave (v := some (.ref b103)) (fun h => by rw [Bd.returns] at h; cases h)
  refine ⟨_, _, pre116 _ ?_, hrun, hended, _, _, rfl, ?_, ⟨_, rfl⟩, hW, hsame.mono (by decide) (by decide)⟩
  · exact retOut X112 hx Bd.returns rfl (Or.inr (Or.inr (Or.inr (Or.inr ⟨rfl, rfl, rfl⟩)))) (hb hby d27_32) hr
  · show QCb_3_2 Z a1 k1 y0 y1 y2 h0 n0 _ T112.heap _
    rw [e112]
    exact ⟨b103, k103, rfl, N112, f115, ga105, sz106, Vc112⟩
theorem ef_rmCr_3_2 (m : MethodId) (x0 : Addr) : entryFrame m #[(.ref x0), (.int 2), (.int 3)] 3 = mkF m 0 #[rv x0, iv 2, iv 3] [] := by first | (simp [entryFrame, mkF, argsToLocals, Value.category]; done) | rfl
def QCr_3_2 (Z : State) (a1 : Addr) (k1 : ClassId) (y0 : Int32) (y1 : Int32) (y2 : Int32) (h0 : Heap) (n0 : Nat) (v : Option Value) (h : Heap) (L : List Loc) : Prop := ∃ (b : Addr) (kb : ClassId), v = some (.ref b) ∧ Fr n0 L ∧ Keep h0 h [] ∧ (n0 ≤ b) ∧ (h0.size ≤ b) ∧ (Arv Z h b kb .byte (1 : Int32) [(.int y2)] (.int 0))
set_option maxRecDepth 65536 in
set_option maxHeartbeats 40000000 in
theorem rmCr_3_2 (l : Launch) (Z : State) (a0 : Array Value) (hw : ∀ d ∈ tables_1, d.before a0 Z = true) (ws : List Jvm.Cond) (a1 : Addr) (k1 : ClassId) (y0 : Int32) (y1 : Int32) (y2 : Int32) (h0 : Heap) (n0 : Nat) (Z0 : n0 ≤ h0.size) (V1 : Arv Z h0 a1 k1 .byte (3 : Int32) [(.int y0), (.int y1), (.int y2)] (.int 0)) :
    own_M l own_y22 jdk_65_method_132_code 3 (some (.array .byte)) ws (own_R 2 1 1 56) Z h0 #[(.ref a1), (.int 2), (.int 3)] (QCr_3_2 Z a1 k1 y0 y1 y2 h0 n0) := by
  refine MetFree.of_bodySF (plainFor_of_name pn_java_util_Arrays) hisR ?_
  intro p e s m args below meth c s₁ Bd hml0 hP hK
  obtain ⟨rfl, hZ, hh⟩ := hP
  have hx := Bd.exec
  have hby := Bd.bytes
  have hml : c.maxLocals = 3 := hml0
  have hown : s.vm.findClass "java/util/Arrays" = some m.cls := findClass_of_methodNamed Bd.named
  have hnm := (name_of_methodNamed Bd.named Bd.method).1
  have X0 : Stand p l e (own_R 2 1 1 56) s m #[(.ref a1), (.int 2), (.int 3)] below meth c s₁ [] 0 0 := Stand.of_body Bd
  have e0 : s₁.heap = h0 := by rw [← hh, Bd.state]; rfl
  have N0 := Fr.nil n0
  have pre0 : own_P p e below s₁ (entryFrame m #[(.ref a1), (.int 2), (.int 3)] 3) s₁ (mkF m 0 #[rv a1, iv 2, iv 3] []) := fun t k => castTop (ef_rmCr_3_2 m a1) k
  have f101 := Keep.refl h0 []
  obtain ⟨_, _, ⟨T102, L102, k102, n102⟩, -, X102, ⟨Lc102, hQ102, l102, y102, z102⟩, st102⟩ := Jvm.LawKit.callS X0 hx (y := own_y21) hown (own_m hZ hw 114) (own_m hZ hw 115) (own_m hZ hw 112) (own_m hZ hw 116) (by decide) (backOf (W := 0) (rmCb_3_2 l Z a0 hw [] a1 k1 y0 y1 y2 h0 n0 Z0 V1) hZ (own_i hw 116 rfl) (own_i hw 112 rfl) (by decide) (by decide)) (g := (mkF m 13 #[rv a1, iv 2, iv 3] [(.int 3), (.int 2), (.ref a1)])) rfl (by rw [hml]; rfl) (argsL := [(.ref a1), (.int 2), (.int 3)]) (rest := []) (lenOf pd_13 rfl) rfl (Nat.le_of_eq rfl) (hb hby d26_13) (fun _ _ => ⟨rfl, e0, (by decide : 0 + 1 ≤ _), (by decide : 0 + 1 ≤ _)⟩)
  dsimp only [Pt.U, Pt.locs, Pt.cells, Pt.slots] at X102 l102 y102 z102 st102 hQ102
  subst l102 y102 z102
  obtain ⟨b103, x104, rfl, N102q, K102, f105, f106, f107⟩ := hQ102
  have N102 := Fr.app N0 N102q
  have ne108 : a1 ≠ b103 := Nat.ne_of_lt (Nat.lt_of_lt_of_le V1.lt f106)
  have f109 := Nat.le_trans Z0 K102.1
  have f110 := V1.keep K102 nin0
  have f111 := f101.trans K102 all0
  have pre112 : own_P p e below s₁ (entryFrame m #[(.ref a1), (.int 2), (.int 3)] 3) T102 (mkF m 16 #[rv a1, iv 2, iv 3] [(.ref b103)]) := fun t k => pre0 t (by
    show Steps p.tables e below (s₁.setTop (mkF m 0 #[rv a1, iv 2, iv 3] [])) t
    refine XS.iloadN X0.here hx rfl (hb hby d26_0) rfl ?_
    refine XS.ifYes X0.here hx rfl (pc0 := 1) (pc' := 10) rfl (hb hby d26_1) rfl ((if0 _ _).trans (feq (by decide : ¬ ((2 : Int32) = (0 : Int32)))).2) (by decide) (by decide) ?_
    refine XS.aloadN X0.here hx rfl (hb hby d26_10) rfl rfl ?_
    refine XS.iloadN X0.here hx rfl (hb hby d26_11) rfl ?_
    refine XS.iloadN X0.here hx rfl (hb hby d26_12) rfl ?_
    refine st102 _ ?_
    exact k)
  obtain ⟨fs, hr, hrun, hended, hW, hsame⟩ := X102.leave (v := some (.ref b103)) (fun h => by rw [Bd.returns] at h; cases h)
  refine ⟨_, _, pre112 _ ?_, hrun, hended, _, _, rfl, ?_, ⟨_, rfl⟩, hW, hsame.mono (by decide) (by decide)⟩
  · exact retOut X102 hx Bd.returns rfl (Or.inr (Or.inr (Or.inr (Or.inr ⟨rfl, rfl, rfl⟩)))) (hb hby d26_16) hr
  · show QCr_3_2 Z a1 k1 y0 y1 y2 h0 n0 _ T102.heap _
    exact ⟨b103, x104, rfl, N102, f111, f105, f106, f107⟩
theorem ef_rmNs_3_2 (m : MethodId) (x0 : Addr) : entryFrame m #[(.ref x0), (.int 2), (.int 1)] 3 = mkF m 0 #[rv x0, iv 2, iv 1] [] := by first | (simp [entryFrame, mkF, argsToLocals, Value.category]; done) | rfl
def QNs_3_2 (Z : State) (a1 : Addr) (k1 : ClassId) (y0 : Int32) (y1 : Int32) (y2 : Int32) (h0 : Heap) (n0 : Nat) (v : Option Value) (h : Heap) (L : List Loc) : Prop := ∃ (b : Addr) (tb : Addr) (kb : ClassId), v = some (.ref b) ∧ Fr n0 L ∧ Keep h0 h [] ∧ (n0 ≤ b) ∧ (h0.size ≤ b) ∧ (Exa Z h b "java/lang/String") ∧ (Fld Z h b "java/lang/String" "coder" "B" (.int 0)) ∧ (Fld Z h b "java/lang/String" "value" "[B" (.ref tb)) ∧ (n0 ≤ tb) ∧ (h0.size ≤ tb) ∧ (Arv Z h tb kb .byte (1 : Int32) [(.int y2)] (.int 0))
set_option maxRecDepth 65536 in
set_option maxHeartbeats 40000000 in
theorem rmNs_3_2 (l : Launch) (Z : State) (a0 : Array Value) (hw : ∀ d ∈ tables_1, d.before a0 Z = true) (ws : List Jvm.Cond) (a1 : Addr) (k1 : ClassId) (y0 : Int32) (y1 : Int32) (y2 : Int32) (h0 : Heap) (n0 : Nat) (Z0 : n0 ≤ h0.size) (V1 : Arv Z h0 a1 k1 .byte (3 : Int32) [(.int y0), (.int y1), (.int y2)] (.int 0)) :
    own_M l own_y23 jdk_43_method_47_code 3 (some (.object "java/lang/String")) ws (own_R 3 2 5 72) Z h0 #[(.ref a1), (.int 2), (.int 1)] (QNs_3_2 Z a1 k1 y0 y1 y2 h0 n0) := by
  refine MetFree.of_bodySF (plainFor_of_name pn_java_lang_StringLatin1) hisR ?_
  intro p e s m args below meth c s₁ Bd hml0 hP hK
  obtain ⟨rfl, hZ, hh⟩ := hP
  have hx := Bd.exec
  have hby := Bd.bytes
  have hml : c.maxLocals = 3 := hml0
  have hown : s.vm.findClass "java/lang/StringLatin1" = some m.cls := findClass_of_methodNamed Bd.named
  have hnm := (name_of_methodNamed Bd.named Bd.method).1
  have X0 : Stand p l e (own_R 3 2 5 72) s m #[(.ref a1), (.int 2), (.int 1)] below meth c s₁ [] 0 0 := Stand.of_body Bd
  have e0 : s₁.heap = h0 := by rw [← hh, Bd.state]; rfl
  have N0 := Fr.nil n0
  have pre0 : own_P p e below s₁ (entryFrame m #[(.ref a1), (.int 2), (.int 1)] 3) s₁ (mkF m 0 #[rv a1, iv 2, iv 1] []) := fun t k => castTop (ef_rmNs_3_2 m a1) k
  have f101 := Keep.refl h0 []
  obtain ⟨T102, h102, X102, e102, E102, A102, D102, -, st102⟩ := newO X0 hx hZ hown (own_i hw 109 rfl) (own_i hw 9 rfl) (own_i hw 10 rfl) e0 (g := (mkF m 7 #[rv a1, iv 2, iv 1] [])) rfl (hb hby d25_7) (by decide) (by decide)
  obtain ⟨b102, g102⟩ : ∃ z, z = h0.size := ⟨_, rfl⟩
  rw [← g102] at A102 D102 st102
  have ne103 : a1 ≠ b102 := Nat.ne_of_lt (Nat.lt_of_lt_of_le V1.lt (Nat.le_of_eq g102.symm))
  have ga104 : n0 ≤ b102 := Nat.le_trans Z0 (Nat.le_of_eq g102.symm)
  have sz105 : h0.size ≤ b102 := Nat.le_trans f101.1 (Nat.le_of_eq g102.symm)
  have f106 : Fld Z h102 b102 "java/lang/String" "coder" "B" (.int 0) := D102 (Or.inr (own_i hw 38 rfl)) (ty := .byte) (by decide)
  have f107 : Fld Z h102 b102 "java/lang/String" "value" "[B" .null := D102 (Or.inr (own_i hw 40 rfl)) (ty := (.array .byte)) (by decide)
  have f108 := Nat.le_trans Z0 E102.1
  have f109 := V1.ext E102
  have f110 := f101.ext E102
  obtain ⟨_, _, ⟨T111, L111, k111, n111⟩, -, X111, ⟨Lc111, hQ111, l111, y111, z111⟩, st111⟩ := Jvm.LawKit.callS X102 hx (y := own_y22) hown (own_m hZ hw 110) (own_m hZ hw 111) (own_m hZ hw 112) (own_m hZ hw 113) (by decide) (backOf (W := 2) (rmCr_3_2 l Z a0 hw [] a1 k1 y0 y1 y2 h102 n0 f108 f109) hZ (own_i hw 113 rfl) (own_i hw 112 rfl) (by decide) (by decide)) (g := (mkF m 16 #[rv a1, iv 2, iv 1] [(.int 3), (.int 2), (.ref a1), (.ref b102), (.ref b102)])) rfl (by rw [hml]; rfl) (argsL := [(.ref a1), (.int 2), (.int 3)]) (rest := [(.ref b102), (.ref b102)]) (lenOf pd_13 rfl) rfl (Nat.le_of_eq rfl) (hb hby d25_16) (fun _ _ => ⟨rfl, e102, (by decide : 1 + 1 ≤ _), (by decide : 4 + 1 ≤ _)⟩)
  dsimp only [Pt.U, Pt.locs, Pt.cells, Pt.slots] at X111 l111 y111 z111 st111 hQ111
  subst l111 y111 z111
  obtain ⟨b112, x113, rfl, N111q, K111, f114, f115, f116⟩ := hQ111
  have N111 := Fr.app N0 N111q
  have ne117 : a1 ≠ b112 := Nat.ne_of_lt (Nat.lt_of_lt_of_le f109.lt f115)
  have ne118 : b102 ≠ b112 := Nat.ne_of_lt (Nat.lt_of_lt_of_le A102.lt f115)
  have sz119 : h0.size ≤ b112 := Nat.le_trans f110.1 f115
  have f120 := Nat.le_trans f108 K111.1
  have f121 := f109.keep K111 nin0
  have f122 := f110.trans K111 all0
  have f123 := A102.keep K111
  have f124 := f106.keep K111 nin0
  have f125 := f107.keep K111 nin0
  obtain ⟨_, _, ⟨T126, L126, k126, n126⟩, -, X126, ⟨Lc126, hQ126, l126, y126, z126⟩, st126⟩ := X111.specialBack hx (y := own_y19) rfl hown (own_m hZ hw 128) (own_m hZ hw 129) (own_m hZ hw 130) (by decide) (backOf (W := 1) (rmSi l Z a0 hw [] b102 b112 T111.heap n0 f120 f125 f124 f123 ga104) hZ (own_i hw 130 rfl) (own_i hw 10 rfl) (by decide) (by decide)) (g := (mkF m 20 #[rv a1, iv 2, iv 1] [(.int 0), (.ref b112), (.ref b102), (.ref b102)])) rfl (by rw [hml]; rfl) (Steps.refl _) (a := b102) (argsL := [(.ref b112), (.int 0)]) (rest := [(.ref b102)]) (lenOf pd_14 rfl) rfl (Nat.le_of_eq rfl) (hb hby d25_20) (fun _ _ => ⟨rfl, rfl, (by decide : 2 + 0 ≤ _), (by decide : 5 + 0 ≤ _)⟩)
  dsimp only [Pt.U, Pt.locs, Pt.cells, Pt.slots] at X126 l126 y126 z126 st126 hQ126
  subst l126 y126 z126
  obtain ⟨rfl, N126q, K126, f127, f128, f129⟩ := hQ126
  have N126 := Fr.app N111 N126q
  have f130 := Nat.le_trans f120 K126.1
  have f131 := f121.keep K126 (ninS ne103 nin0)
  have f132 := f122.trans K126 (allS (Or.inr sz105) all0)
  have f133 := f116.keep K126 (ninS (Ne.symm ne118) nin0)
  have pre134 : own_P p e below s₁ (entryFrame m #[(.ref a1), (.int 2), (.int 1)] 3) T126 (mkF m 23 #[rv a1, iv 2, iv 1] [(.ref b102)]) := fun t k => pre0 t (by
    show Steps p.tables e below (s₁.setTop (mkF m 0 #[rv a1, iv 2, iv 1] [])) t
    refine XS.iloadN X0.here hx rfl (hb hby d25_0) rfl ?_
    refine XS.ifYes X0.here hx rfl (pc0 := 1) (pc' := 7) rfl (hb hby d25_1) rfl ((if0 _ _).trans (feq (by decide : ¬ ((1 : Int32) = (0 : Int32)))).2) (by decide) (by decide) ?_
    refine st102 _ ?_
    refine XS.dup X102.here hx rfl (hb hby d25_10) rfl rfl ?_
    refine XS.aloadN X102.here hx rfl (hb hby d25_11) rfl rfl ?_
    refine XS.iloadN X102.here hx rfl (hb hby d25_12) rfl ?_
    refine XS.iloadN X102.here hx rfl (hb hby d25_13) rfl ?_
    refine XS.iloadN X102.here hx rfl (hb hby d25_14) rfl ?_
    refine XS.iadd X102.here hx rfl (hb hby d25_15) rfl ?_
    refine st111 _ ?_
    refine XS.iconst X111.here hx rfl (hb hby d25_19) ?_
    refine st126.trans ?_
    exact k)
  obtain ⟨fs, hr, hrun, hended, hW, hsame⟩ := X126.leave (v := some (.ref b102)) (fun h => by rw [Bd.returns] at h; cases h)
  refine ⟨_, _, pre134 _ ?_, hrun, hended, _, _, rfl, ?_, ⟨_, rfl⟩, hW, hsame.mono (by decide) (by decide)⟩
  · exact retOut X126 hx Bd.returns rfl (Or.inr (Or.inr (Or.inr (Or.inr ⟨rfl, rfl, rfl⟩)))) (hb hby d25_23) hr
  · show QNs_3_2 Z a1 k1 y0 y1 y2 h0 n0 _ T126.heap _
    exact ⟨b102, b112, x113, rfl, N126, f132, ga104, sz105, f127, f128, f129, f114, sz119, f133⟩
theorem ef_rmS2_3_2 (m : MethodId) (x0 : Addr) : entryFrame m #[(.ref x0), (.int 2), (.int 3)] 5 = mkF m 0 #[rv x0, iv 2, iv 3, .unset, .unset] [] := by first | (simp [entryFrame, mkF, argsToLocals, Value.category]; done) | rfl
def QS2_3_2 (Z : State) (a1 : Addr) (cs : Int32) (vF : Value) (t : Addr) (kt : ClassId) (y0 : Int32) (y1 : Int32) (y2 : Int32) (h0 : Heap) (n0 : Nat) (v : Option Value) (h : Heap) (L : List Loc) : Prop := ∃ (b : Addr) (tb : Addr) (kb : ClassId), v = some (.ref b) ∧ Fr n0 L ∧ Keep h0 h [] ∧ (n0 ≤ b) ∧ (h0.size ≤ b) ∧ (Exa Z h b "java/lang/String") ∧ (Fld Z h b "java/lang/String" "coder" "B" (.int 0)) ∧ (Fld Z h b "java/lang/String" "value" "[B" (.ref tb)) ∧ (n0 ≤ tb) ∧ (h0.size ≤ tb) ∧ (Arv Z h tb kb .byte (1 : Int32) [(.int y2)] (.int 0))
set_option maxRecDepth 65536 in
set_option maxHeartbeats 40000000 in
theorem rmS2_3_2 (l : Launch) (Z : State) (a0 : Array Value) (hw : ∀ d ∈ tables_1, d.before a0 Z = true) (ws : List Jvm.Cond) (a1 : Addr) (cs : Int32) (vF : Value) (t : Addr) (kt : ClassId) (y0 : Int32) (y1 : Int32) (y2 : Int32) (h0 : Heap) (n0 : Nat) (Z0 : n0 ≤ h0.size) (SC : Sta Z h0 "java/lang/String" "COMPACT_STRINGS" "Z" (.int cs)) (hcs : ¬ (cs = (0 : Int32))) (SF : Sta Z h0 "jdk/internal/util/Preconditions" "SIOOBE_FORMATTER" "Ljava/util/function/BiFunction;" vF) (hF : vF.isRef = true) (E1 : Exa Z h0 a1 "java/lang/String") (C1 : Fld Z h0 a1 "java/lang/String" "coder" "B" (.int 0)) (W1 : Fld Z h0 a1 "java/lang/String" "value" "[B" (.ref t)) (V1 : Arv Z h0 t kt .byte (3 : Int32) [(.int y0), (.int y1), (.int y2)] (.int 0)) :
    own_M l own_y24 jdk_42_method_92_code 5 (some (.object "java/lang/String")) ws (own_R 4 2 5 86) Z h0 #[(.ref a1), (.int 2), (.int 3)] (QS2_3_2 Z a1 cs vF t kt y0 y1 y2 h0 n0) := by
  refine MetFree.of_bodySF (plainFor_of_name pn_java_lang_String) hisR ?_
  intro p e s m args below meth c s₁ Bd hml0 hP hK
  obtain ⟨rfl, hZ, hh⟩ := hP
  have hx := Bd.exec
  have hby := Bd.bytes
  have hml : c.maxLocals = 5 := hml0
  have hown : s.vm.findClass "java/lang/String" = some m.cls := findClass_of_methodNamed Bd.named
  have hnm := (name_of_methodNamed Bd.named Bd.method).1
  have X0 : Stand p l e (own_R 4 2 5 86) s m #[(.ref a1), (.int 2), (.int 3)] below meth c s₁ [] 0 0 := Stand.of_body Bd
  have e0 : s₁.heap = h0 := by rw [← hh, Bd.state]; rfl
  have N0 := Fr.nil n0
  have pre0 : own_P p e below s₁ (entryFrame m #[(.ref a1), (.int 2), (.int 3)] 5) s₁ (mkF m 0 #[rv a1, iv 2, iv 3, .unset, .unset] []) := fun t k => castTop (ef_rmS2_3_2 m a1) k
  have f101 := Keep.refl h0 []
  obtain ⟨cq102, kq102, q102a, q102b, q102c⟩ := isOf hZ e0 E1
  obtain ⟨_, _, ⟨T102, L102, k102, n102⟩, -, X102, ⟨Lc102, hQ102, l102, y102, z102⟩, st102⟩ := X0.virtualBack hx (y := own_y11) (z := own_y11) hown (own_m hZ hw 63) (own_m hZ hw 49) (notFace_of_selects (args := #[]) (own_m hZ hw 51)) (own_m hZ hw 51) (own_m hZ hw 50) (by decide) (backOf (W := 0) (rmLen l Z a0 hw [] a1 cs t kt (3 : Int32) ([(.int y0), (.int y1), (.int y2)]) h0 n0 Z0 SC hcs E1 C1 W1 V1) hZ (own_i hw 52 rfl) (own_i hw 10 rfl) (by decide) (by decide)) q102a q102c (g := (mkF m 1 #[rv a1, iv 2, iv 3, .unset, .unset] [(.ref a1)])) rfl (by rw [hml]; rfl) (Steps.refl _) (argsL := []) (rest := []) (lenOf pd_15 rfl) rfl (Nat.le_of_eq rfl) (hb hby d15_1) (fun _ _ => ⟨rfl, e0, (by decide : 0 + 0 ≤ _), (by decide : 0 + 0 ≤ _)⟩)
  dsimp only [Pt.U, Pt.locs, Pt.cells, Pt.slots] at X102 l102 y102 z102 st102 hQ102
  subst l102 y102 z102
  obtain ⟨rfl, N102q, e102⟩ := hQ102
  have N102 := Fr.app N0 N102q
  obtain ⟨_, _, ⟨T103, L103, k103, n103⟩, -, X103, ⟨Lc103, hQ103, l103, y103, z103⟩, st103⟩ := Jvm.LawKit.callS X102 hx (y := own_y17) hown (own_m hZ hw 69) (own_m hZ hw 70) (own_m hZ hw 10) (own_m hZ hw 71) (by decide) (backOf (W := 0) (rmBe l Z a0 hw [] (2 : Int32) (3 : Int32) (3 : Int32) vF h0 n0 Z0 SF hF (by first | assumption | rfl | decide | omega | simp_all) (by first | assumption | rfl | decide | omega | simp_all) (by first | assumption | rfl | decide | omega | simp_all)) hZ (own_i hw 71 rfl) (own_i hw 10 rfl) (by decide) (by decide)) (g := (mkF m 8 #[rv a1, iv 2, iv 3, iv 3, .unset] [(.int 3), (.int 3), (.int 2)])) rfl (by rw [hml]; rfl) (argsL := [(.int 2), (.int 3), (.int 3)]) (rest := []) (lenOf pd_16 rfl) rfl (Nat.le_of_eq rfl) (hb hby d15_8) (fun _ _ => ⟨rfl, e102, (by decide : 0 + 0 ≤ _), (by decide : 0 + 0 ≤ _)⟩)
  dsimp only [Pt.U, Pt.locs, Pt.cells, Pt.slots] at X103 l103 y103 z103 st103 hQ103
  subst l103 y103 z103
  obtain ⟨rfl, N103q, e103⟩ := hQ103
  have N103 := Fr.app N102 N103q
  obtain ⟨cq104, kq104, q104a, q104b, q104c⟩ := isOf hZ e103 E1
  obtain ⟨_, _, ⟨T104, L104, k104, n104⟩, -, X104, ⟨Lc104, hQ104, l104, y104, z104⟩, st104⟩ := X103.virtualBack hx (y := own_y10) (z := own_y10) hown (own_m hZ hw 92) (own_m hZ hw 93) (notFace_of_selects (args := #[]) (own_m hZ hw 95)) (own_m hZ hw 95) (own_m hZ hw 94) (by decide) (backOf (W := 0) (rmIl l Z a0 hw [] a1 cs h0 n0 Z0 SC hcs C1) hZ (own_i hw 96 rfl) (own_i hw 10 rfl) (by decide) (by decide)) q104a q104c (g := (mkF m 28 #[rv a1, iv 2, iv 3, iv 3, iv 1] [(.ref a1)])) rfl (by rw [hml]; rfl) (Steps.refl _) (argsL := []) (rest := []) (lenOf pd_9 rfl) rfl (Nat.le_of_eq rfl) (hb hby d15_28) (fun _ _ => ⟨rfl, e103, (by decide : 0 + 0 ≤ _), (by decide : 0 + 0 ≤ _)⟩)
  dsimp only [Pt.U, Pt.locs, Pt.cells, Pt.slots] at X104 l104 y104 z104 st104 hQ104
  subst l104 y104 z104
  obtain ⟨rfl, N104q, e104⟩ := hQ104
  have N104 := Fr.app N103 N104q
  obtain ⟨T105, X105, e105, st105⟩ := getF X104 hx hZ hown (host := "") (Or.inl (own_i hw 39 rfl)) Via.refl e104 W1 (g := (mkF m 35 #[rv a1, iv 2, iv 3, iv 3, iv 1] [(.ref a1)])) rfl rfl (hb hby d15_35)
  obtain ⟨_, _, ⟨T106, L106, k106, n106⟩, -, X106, ⟨Lc106, hQ106, l106, y106, z106⟩, st106⟩ := Jvm.LawKit.callS X105 hx (y := own_y23) hown (own_m hZ hw 106) (own_m hZ hw 107) (own_m hZ hw 85) (own_m hZ hw 108) (by decide) (backOf (W := 0) (rmNs_3_2 l Z a0 hw [] t kt y0 y1 y2 h0 n0 Z0 V1) hZ (own_i hw 108 rfl) (own_i hw 85 rfl) (by decide) (by decide)) (g := (mkF m 41 #[rv a1, iv 2, iv 3, iv 3, iv 1] [(.int 1), (.int 2), (.ref t)])) rfl (by rw [hml]; rfl) (argsL := [(.ref t), (.int 2), (.int 1)]) (rest := []) (lenOf pd_17 rfl) rfl (Nat.le_of_eq rfl) (hb hby d15_41) (fun _ _ => ⟨rfl, e105, (by decide : 0 + 2 ≤ _), (by decide : 0 + 5 ≤ _)⟩)
  dsimp only [Pt.U, Pt.locs, Pt.cells, Pt.slots] at X106 l106 y106 z106 st106 hQ106
  subst l106 y106 z106
  obtain ⟨b107, b108, x109, rfl, N106q, K106, f110, f111, f112, f113, f114, f115, f116, f117⟩ := hQ106
  have N106 := Fr.app N104 N106q
  have ne118 : a1 ≠ b107 := Nat.ne_of_lt (Nat.lt_of_lt_of_le E1.lt f111)
  have ne119 : t ≠ b107 := Nat.ne_of_lt (Nat.lt_of_lt_of_le V1.lt f111)
  have ne120 : a1 ≠ b108 := Nat.ne_of_lt (Nat.lt_of_lt_of_le E1.lt f116)
  have ne121 : t ≠ b108 := Nat.ne_of_lt (Nat.lt_of_lt_of_le V1.lt f116)
  have f122 := Nat.le_trans Z0 K106.1
  have f123 := E1.keep K106
  have f124 := C1.keep K106 nin0
  have f125 := W1.keep K106 nin0
  have f126 := V1.keep K106 nin0
  have f127 := f101.trans K106 all0
  have pre128 : own_P p e below s₁ (entryFrame m #[(.ref a1), (.int 2), (.int 3)] 5) T106 (mkF m 57 #[rv a1, iv 2, iv 3, iv 3, iv 1] [(.ref b107)]) := fun t k => pre0 t (by
    show Steps p.tables e below (s₁.setTop (mkF m 0 #[rv a1, iv 2, iv 3, .unset, .unset] [])) t
    refine XS.aloadN X0.here hx rfl (hb hby d15_0) rfl rfl ?_
    refine st102.trans ?_
    refine XS.istoreN X102.here hx rfl (hb hby d15_4) rfl (l' := #[rv a1, iv 2, iv 3, iv 3, .unset]) rfl ?_
    refine XS.iloadN X102.here hx rfl (hb hby d15_5) rfl ?_
    refine XS.iloadN X102.here hx rfl (hb hby d15_6) rfl ?_
    refine XS.iloadN X102.here hx rfl (hb hby d15_7) rfl ?_
    refine st103 _ ?_
    refine XS.iloadN X103.here hx rfl (hb hby d15_11) rfl ?_
    refine XS.ifYes X103.here hx rfl (pc0 := 12) (pc' := 22) rfl (hb hby d15_12) rfl ((if0 _ _).trans (feq (by decide : ¬ ((2 : Int32) = (0 : Int32)))).2) (by decide) (by decide) ?_
    refine XS.iloadN X103.here hx rfl (hb hby d15_22) rfl ?_
    refine XS.iloadN X103.here hx rfl (hb hby d15_23) rfl ?_
    refine XS.isub X103.here hx rfl (hb hby d15_24) rfl ?_
    refine XS.istore X103.here hx rfl (hb hby d15_25) rfl (l' := #[rv a1, iv 2, iv 3, iv 3, iv 1]) rfl ?_
    refine XS.aloadN X103.here hx rfl (hb hby d15_27) rfl rfl ?_
    refine st104.trans ?_
    refine XS.ifNo X104.here hx rfl (hb hby d15_31) rfl ((if0 _ _).trans (feq (by decide : ¬ ((1 : Int32) = (0 : Int32)))).1) ?_
    refine XS.aloadN X104.here hx rfl (hb hby d15_34) rfl rfl ?_
    refine st105 _ ?_
    refine XS.iloadN X105.here hx rfl (hb hby d15_38) rfl ?_
    refine XS.iload X105.here hx rfl (hb hby d15_39) rfl ?_
    refine st106 _ ?_
    refine XS.goto X106.here hx rfl (pc0 := 44) (pc' := 57) rfl (hb hby d15_44) (by decide) (by decide) ?_
    exact k)
  obtain ⟨fs, hr, hrun, hended, hW, hsame⟩ := X106.leave (v := some (.ref b107)) (fun h => by rw [Bd.returns] at h; cases h)
  refine ⟨_, _, pre128 _ ?_, hrun, hended, _, _, rfl, ?_, ⟨_, rfl⟩, hW, hsame.mono (by decide) (by decide)⟩
  · exact retOut X106 hx Bd.returns rfl (Or.inr (Or.inr (Or.inr (Or.inr ⟨rfl, rfl, rfl⟩)))) (hb hby d15_57) hr
  · show QS2_3_2 Z a1 cs vF t kt y0 y1 y2 h0 n0 _ T106.heap _
    exact ⟨b107, b108, x109, rfl, N106, f127, f110, f111, f112, f113, f114, f115, f116, f117⟩
theorem ef_rmS1_3_2 (m : MethodId) (x0 : Addr) : entryFrame m #[(.ref x0), (.int 2)] 2 = mkF m 0 #[rv x0, iv 2] [] := by first | (simp [entryFrame, mkF, argsToLocals, Value.category]; done) | rfl
def QS1_3_2 (Z : State) (a1 : Addr) (cs : Int32) (vF : Value) (t : Addr) (kt : ClassId) (y0 : Int32) (y1 : Int32) (y2 : Int32) (h0 : Heap) (n0 : Nat) (v : Option Value) (h : Heap) (L : List Loc) : Prop := ∃ (b : Addr) (tb : Addr) (kb : ClassId), v = some (.ref b) ∧ Fr n0 L ∧ Keep h0 h [] ∧ (n0 ≤ b) ∧ (h0.size ≤ b) ∧ (Exa Z h b "java/lang/String") ∧ (Fld Z h b "java/lang/String" "coder" "B" (.int 0)) ∧ (Fld Z h b "java/lang/String" "value" "[B" (.ref tb)) ∧ (n0 ≤ tb) ∧ (h0.size ≤ tb) ∧ (Arv Z h tb kb .byte (1 : Int32) [(.int y2)] (.int 0))
set_option maxRecDepth 65536 in
set_option maxHeartbeats 40000000 in
theorem rmS1_3_2 (l : Launch) (Z : State) (a0 : Array Value) (hw : ∀ d ∈ tables_1, d.before a0 Z = true) (ws : List Jvm.Cond) (a1 : Addr) (cs : Int32) (vF : Value) (t : Addr) (kt : ClassId) (y0 : Int32) (y1 : Int32) (y2 : Int32) (h0 : Heap) (n0 : Nat) (Z0 : n0 ≤ h0.size) (SC : Sta Z h0 "java/lang/String" "COMPACT_STRINGS" "Z" (.int cs)) (hcs : ¬ (cs = (0 : Int32))) (SF : Sta Z h0 "jdk/internal/util/Preconditions" "SIOOBE_FORMATTER" "Ljava/util/function/BiFunction;" vF) (hF : vF.isRef = true) (E1 : Exa Z h0 a1 "java/lang/String") (C1 : Fld Z h0 a1 "java/lang/String" "coder" "B" (.int 0)) (W1 : Fld Z h0 a1 "java/lang/String" "value" "[B" (.ref t)) (V1 : Arv Z h0 t kt .byte (3 : Int32) [(.int y0), (.int y1), (.int y2)] (.int 0)) :
    own_M l own_y25 jdk_42_method_91_code 2 (some (.object "java/lang/String")) ws (own_R 5 2 5 102) Z h0 #[(.ref a1), (.int 2)] (QS1_3_2 Z a1 cs vF t kt y0 y1 y2 h0 n0) := by
  refine MetFree.of_bodySF (plainFor_of_name pn_java_lang_String) hisR ?_
  intro p e s m args below meth c s₁ Bd hml0 hP hK
  obtain ⟨rfl, hZ, hh⟩ := hP
  have hx := Bd.exec
  have hby := Bd.bytes
  have hml : c.maxLocals = 2 := hml0
  have hown : s.vm.findClass "java/lang/String" = some m.cls := findClass_of_methodNamed Bd.named
  have hnm := (name_of_methodNamed Bd.named Bd.method).1
  have X0 : Stand p l e (own_R 5 2 5 102) s m #[(.ref a1), (.int 2)] below meth c s₁ [] 0 0 := Stand.of_body Bd
  have e0 : s₁.heap = h0 := by rw [← hh, Bd.state]; rfl
  have N0 := Fr.nil n0
  have pre0 : own_P p e below s₁ (entryFrame m #[(.ref a1), (.int 2)] 2) s₁ (mkF m 0 #[rv a1, iv 2] []) := fun t k => castTop (ef_rmS1_3_2 m a1) k
  have f101 := Keep.refl h0 []
  obtain ⟨cq102, kq102, q102a, q102b, q102c⟩ := isOf hZ e0 E1
  obtain ⟨_, _, ⟨T102, L102, k102, n102⟩, -, X102, ⟨Lc102, hQ102, l102, y102, z102⟩, st102⟩ := X0.virtualBack hx (y := own_y11) (z := own_y11) hown (own_m hZ hw 63) (own_m hZ hw 49) (notFace_of_selects (args := #[]) (own_m hZ hw 51)) (own_m hZ hw 51) (own_m hZ hw 50) (by decide) (backOf (W := 2) (rmLen l Z a0 hw [] a1 cs t kt (3 : Int32) ([(.int y0), (.int y1), (.int y2)]) h0 n0 Z0 SC hcs E1 C1 W1 V1) hZ (own_i hw 52 rfl) (own_i hw 10 rfl) (by decide) (by decide)) q102a q102c (g := (mkF m 3 #[rv a1, iv 2] [(.ref a1), (.int 2), (.ref a1)])) rfl (by rw [hml]; rfl) (Steps.refl _) (argsL := []) (rest := [(.int 2), (.ref a1)]) (lenOf pd_15 rfl) rfl (Nat.le_of_eq rfl) (hb hby d14_3) (fun _ _ => ⟨rfl, e0, (by decide : 0 + 0 ≤ _), (by decide : 0 + 0 ≤ _)⟩)
  dsimp only [Pt.U, Pt.locs, Pt.cells, Pt.slots] at X102 l102 y102 z102 st102 hQ102
  subst l102 y102 z102
  obtain ⟨rfl, N102q, e102⟩ := hQ102
  have N102 := Fr.app N0 N102q
  obtain ⟨cq103, kq103, q103a, q103b, q103c⟩ := isOf hZ e102 E1
  obtain ⟨_, _, ⟨T103, L103, k103, n103⟩, -, X103, ⟨Lc103, hQ103, l103, y103, z103⟩, st103⟩ := X102.virtualBack hx (y := own_y24) (z := own_y24) hown (own_m hZ hw 64) (own_m hZ hw 65) (notFace_of_selects (args := #[]) (own_m hZ hw 67)) (own_m hZ hw 67) (own_m hZ hw 66) (by decide) (backOf (W := 0) (rmS2_3_2 l Z a0 hw [] a1 cs vF t kt y0 y1 y2 h0 n0 Z0 SC hcs SF hF E1 C1 W1 V1) hZ (own_i hw 68 rfl) (own_i hw 10 rfl) (by decide) (by decide)) q103a q103c (g := (mkF m 6 #[rv a1, iv 2] [(.int 3), (.int 2), (.ref a1)])) rfl (by rw [hml]; rfl) (Steps.refl _) (argsL := [(.int 2), (.int 3)]) (rest := []) (lenOf pd_18 rfl) rfl (Nat.le_of_eq rfl) (hb hby d14_6) (fun _ _ => ⟨rfl, e102, (by decide : 0 + 2 ≤ _), (by decide : 0 + 5 ≤ _)⟩)
  dsimp only [Pt.U, Pt.locs, Pt.cells, Pt.slots] at X103 l103 y103 z103 st103 hQ103
  subst l103 y103 z103
  obtain ⟨b104, b105, x106, rfl, N103q, K103, f107, f108, f109, f110, f111, f112, f113, f114⟩ := hQ103
  have N103 := Fr.app N102 N103q
  have ne115 : a1 ≠ b104 := Nat.ne_of_lt (Nat.lt_of_lt_of_le E1.lt f108)
  have ne116 : t ≠ b104 := Nat.ne_of_lt (Nat.lt_of_lt_of_le V1.lt f108)
  have ne117 : a1 ≠ b105 := Nat.ne_of_lt (Nat.lt_of_lt_of_le E1.lt f113)
  have ne118 : t ≠ b105 := Nat.ne_of_lt (Nat.lt_of_lt_of_le V1.lt f113)
  have f119 := Nat.le_trans Z0 K103.1
  have f120 := E1.keep K103
  have f121 := C1.keep K103 nin0
  have f122 := W1.keep K103 nin0
  have f123 := V1.keep K103 nin0
  have f124 := f101.trans K103 all0
  have pre125 : own_P p e below s₁ (entryFrame m #[(.ref a1), (.int 2)] 2) T103 (mkF m 9 #[rv a1, iv 2] [(.ref b104)]) := fun t k => pre0 t (by
    show Steps p.tables e below (s₁.setTop (mkF m 0 #[rv a1, iv 2] [])) t
    refine XS.aloadN X0.here hx rfl (hb hby d14_0) rfl rfl ?_
    refine XS.iloadN X0.here hx rfl (hb hby d14_1) rfl ?_
    refine XS.aloadN X0.here hx rfl (hb hby d14_2) rfl rfl ?_
    refine st102.trans ?_
    refine st103.trans ?_
    exact k)
  obtain ⟨fs, hr, hrun, hended, hW, hsame⟩ := X103.leave (v := some (.ref b104)) (fun h => by rw [Bd.returns] at h; cases h)
  refine ⟨_, _, pre125 _ ?_, hrun, hended, _, _, rfl, ?_, ⟨_, rfl⟩, hW, hsame.mono (by decide) (by decide)⟩
  · exact retOut X103 hx Bd.returns rfl (Or.inr (Or.inr (Or.inr (Or.inr ⟨rfl, rfl, rfl⟩)))) (hb hby d14_9) hr
  · show QS1_3_2 Z a1 cs vF t kt y0 y1 y2 h0 n0 _ T103.heap _
    exact ⟨b104, b105, x106, rfl, N103, f124, f107, f108, f109, f110, f111, f112, f113, f114⟩
theorem ef_rmMin_3 (m : MethodId)  : entryFrame m #[(.int 3), (.int 3)] 2 = mkF m 0 #[iv 3, iv 3] [] := by first | (simp [entryFrame, mkF, argsToLocals, Value.category]; done) | rfl
def QMin_3 (Z : State)  (h0 : Heap) (n0 : Nat) (v : Option Value) (h : Heap) (L : List Loc) : Prop := v = some (.int 3) ∧ Fr n0 L ∧ h = h0
set_option maxRecDepth 65536 in
set_option maxHeartbeats 40000000 in
theorem rmMin_3 (l : Launch) (Z : State) (a0 : Array Value) (hw : ∀ d ∈ tables_1, d.before a0 Z = true) (ws : List Jvm.Cond)  (h0 : Heap) (n0 : Nat) (Z0 : n0 ≤ h0.size) :
    own_M l own_y20 jdk_29_method_69_code 2 (some .int) ws (own_R 0 0 0 0) Z h0 #[(.int 3), (.int 3)] (QMin_3 Z h0 n0) := by
  refine MetFree.of_bodySF (Jvm.Free.JP.mathPlain rfl (by decide +kernel)) hisR ?_
  intro p e s m args below meth c s₁ Bd hml0 hP hK
  obtain ⟨rfl, hZ, hh⟩ := hP
  have hx := Bd.exec
  have hby := Bd.bytes
  have hml : c.maxLocals = 2 := hml0
  have hown : s.vm.findClass "java/lang/Math" = some m.cls := findClass_of_methodNamed Bd.named
  have hnm := (name_of_methodNamed Bd.named Bd.method).1
  have X0 : Stand p l e (own_R 0 0 0 0) s m #[(.int 3), (.int 3)] below meth c s₁ [] 0 0 := Stand.of_body Bd
  have e0 : s₁.heap = h0 := by rw [← hh, Bd.state]; rfl
  have N0 := Fr.nil n0
  have pre0 : own_P p e below s₁ (entryFrame m #[(.int 3), (.int 3)] 2) s₁ (mkF m 0 #[iv 3, iv 3] []) := fun t k => castTop (ef_rmMin_3 m ) k
  have pre101 : own_P p e below s₁ (entryFrame m #[(.int 3), (.int 3)] 2) s₁ (mkF m 10 #[iv 3, iv 3] [(.int 3)]) := fun t k => pre0 t (by
    show Steps p.tables e below (s₁.setTop (mkF m 0 #[iv 3, iv 3] [])) t
    refine XS.iloadN X0.here hx rfl (hb hby d29_0) rfl ?_
    refine XS.iloadN X0.here hx rfl (hb hby d29_1) rfl ?_
    refine XS.icmpNo X0.here hx rfl (hb hby d29_2) rfl (flt (by decide : ¬ ((3 : Int32) < (3 : Int32)))).2.2.1 ?_
    refine XS.iloadN X0.here hx rfl (hb hby d29_5) rfl ?_
    refine XS.goto X0.here hx rfl (pc0 := 6) (pc' := 10) rfl (hb hby d29_6) (by decide) (by decide) ?_
    exact k)
  obtain ⟨fs, hr, hrun, hended, hW, hsame⟩ := X0.leave (v := some (.int 3)) (fun h => by rw [Bd.returns] at h; cases h)
  refine ⟨_, _, pre101 _ ?_, hrun, hended, _, _, rfl, ?_, ⟨_, rfl⟩, hW, hsame.mono (by decide) (by decide)⟩
  · exact retI X0 hx Bd.returns (hb hby d29_10) hr
  · show QMin_3 Z h0 n0 _ s₁.heap _
    rw [e0]
    exact ⟨rfl, N0, rfl⟩
theorem ef_rmCb_4_1 (m : MethodId) (x0 : Addr) : entryFrame m #[(.ref x0), (.int 1), (.int 4)] 5 = mkF m 0 #[rv x0, iv 1, iv 4, .unset, .unset] [] := by first | (simp [entryFrame, mkF, argsToLocals, Value.category]; done) | rfl
def QCb_4_1 (Z : State) (a1 : Addr) (k1 : ClassId) (y0 : Int32) (y1 : Int32) (y2 : Int32) (y3 : Int32) (h0 : Heap) (n0 : Nat) (v : Option Value) (h : Heap) (L : List Loc) : Prop := ∃ (b : Addr) (kb : ClassId), v = some (.ref b) ∧ Fr n0 L ∧ Keep h0 h [] ∧ (n0 ≤ b) ∧ (h0.size ≤ b) ∧ (Arv Z h b kb .byte (3 : Int32) [(.int y1), (.int y2), (.int y3)] (.int 0))
set_option maxRecDepth 65536 in
set_option maxHeartbeats 40000000 in
theorem rmCb_4_1 (l : Launch) (Z : State) (a0 : Array Value) (hw : ∀ d ∈ tables_1, d.before a0 Z = true) (ws : List Jvm.Cond) (a1 : Addr) (k1 : ClassId) (y0 : Int32) (y1 : Int32) (y2 : Int32) (y3 : Int32) (h0 : Heap) (n0 : Nat) (Z0 : n0 ≤ h0.size) (V1 : Arv Z h0 a1 k1 .byte (4 : Int32) [(.int y0), (.int y1), (.int y2), (.int y3)] (.int 0)) :
    own_M l own_y21 jdk_65_method_133_code 5 (some (.array .byte)) ws (own_R 1 1 3 40) Z h0 #[(.ref a1), (.int 1), (.int 4)] (QCb_4_1 Z a1 k1 y0 y1 y2 y3 h0 n0) := by
  refine MetFree.of_bodySF (plainFor_of_name pn_java_util_Arrays) hisR ?_
  intro p e s m args below meth c s₁ Bd hml0 hP hK
  obtain ⟨rfl, hZ, hh⟩ := hP
  have hx := Bd.exec
  have hby := Bd.bytes
  have hml : c.maxLocals = 5 := hml0
  have hown : s.vm.findClass "java/util/Arrays" = some m.cls := findClass_of_methodNamed Bd.named
  have hnm := (name_of_methodNamed Bd.named Bd.method).1
  have X0 : Stand p l e (own_R 1 1 3 40) s m #[(.ref a1), (.int 1), (.int 4)] below meth c s₁ [] 0 0 := Stand.of_body Bd
  have e0 : s₁.heap = h0 := by rw [← hh, Bd.state]; rfl
  have N0 := Fr.nil n0
  have pre0 : own_P p e below s₁ (entryFrame m #[(.ref a1), (.int 1), (.int 4)] 5) s₁ (mkF m 0 #[rv a1, iv 1, iv 4, .unset, .unset] []) := fun t k => castTop (ef_rmCb_4_1 m a1) k
  have f101 := Keep.refl h0 []
  obtain ⟨_, _, ⟨T102, L102, k102, n102⟩, -, X102, ⟨Lc102, hQ102, l102, y102, z102⟩, st102⟩ := Jvm.LawKit.callS X0 hx (y := own_y18) hown (own_m hZ hw 117) (own_m hZ hw 118) (own_m hZ hw 112) (own_m hZ hw 119) (by decide) (backOf (W := 0) (rmCl l Z a0 hw [] (1 : Int32) (4 : Int32) h0 n0 Z0 (by first | assumption | rfl | decide | omega | simp_all)) hZ (own_i hw 119 rfl) (own_i hw 112 rfl) (by decide) (by decide)) (g := (mkF m 2 #[rv a1, iv 1, iv 4, .unset, .unset] [(.int 4), (.int 1)])) rfl (by rw [hml]; rfl) (argsL := [(.int 1), (.int 4)]) (rest := []) (lenOf pd_8 rfl) rfl (Nat.le_of_eq rfl) (hb hby d27_2) (fun _ _ => ⟨rfl, e0, (by decide : 0 + 0 ≤ _), (by decide : 0 + 0 ≤ _)⟩)
  dsimp only [Pt.U, Pt.locs, Pt.cells, Pt.slots] at X102 l102 y102 z102 st102 hQ102
  subst l102 y102 z102
  obtain ⟨rfl, N102q, e102⟩ := hQ102
  have N102 := Fr.app N0 N102q
  obtain ⟨T103, h103, k103, X103, e103, E103, A103, st103⟩ := newP X102 hx hZ (own_i hw 30 rfl) e102 (g := (mkF m 10 #[rv a1, iv 1, iv 4, iv 3, .unset] [(.int 3)])) rfl (hb hby d27_10) rfl (by decide) (cap := 3) (by decide) (by decide) (by decide) (by decide)
  obtain ⟨b103, g103⟩ : ∃ z, z = h0.size := ⟨_, rfl⟩
  rw [← g103] at A103 st103
  have ne104 : a1 ≠ b103 := Nat.ne_of_lt (Nat.lt_of_lt_of_le V1.lt (Nat.le_of_eq g103.symm))
  have ga105 : n0 ≤ b103 := Nat.le_trans Z0 (Nat.le_of_eq g103.symm)
  have sz106 : h0.size ≤ b103 := Nat.le_trans f101.1 (Nat.le_of_eq g103.symm)
  have V103 : Arv Z h103 b103 k103 .byte (3 : Int32) [(.int 0), (.int 0), (.int 0)] (.int 0) := (Arv.new A103 (by decide)).pad (pad_rep [] (.int 0) 3)
  have f107 := Nat.le_trans Z0 E103.1
  have f108 := V1.ext E103
  have f109 := f101.ext E103
  obtain ⟨cl110, Ar110, q110, S110, N110z, H110, G110⟩ := (id f108)
  obtain ⟨_, _, ⟨T111, L111, k111, n111⟩, -, X111, ⟨Lc111, hQ111, l111, y111, z111⟩, st111⟩ := Jvm.LawKit.callS X103 hx (y := own_y20) hown (own_m hZ hw 120) (own_m hZ hw 121) (own_m hZ hw 122) (own_m hZ hw 123) (by decide) (backOf (W := 4) (rmMin_3 l Z a0 hw []  h103 n0 f107 ) hZ (own_i hw 123 rfl) (own_i hw 122 rfl) (by decide) (by decide)) (g := (mkF m 24 #[rv a1, iv 1, iv 4, iv 3, rv b103] [(.int 3), (.int 3), (.int 0), (.ref b103), (.int 1), (.ref a1)])) rfl (by rw [hml]; rfl) (argsL := [(.int 3), (.int 3)]) (rest := [(.int 0), (.ref b103), (.int 1), (.ref a1)]) (lenOf pd_12 rfl) rfl (Nat.le_of_eq rfl) (hb hby d27_24) (fun _ _ => ⟨rfl, e103, (by decide : 1 + 0 ≤ _), (by decide : 3 + 0 ≤ _)⟩)
  dsimp only [Pt.U, Pt.locs, Pt.cells, Pt.slots] at X111 l111 y111 z111 st111 hQ111
  subst l111 y111 z111
  obtain ⟨rfl, N111q, e111⟩ := hQ111
  have N111 := Fr.app N102 N111q
  obtain ⟨T112, h112, L112, X112, e112, N112, K112, V112, st112⟩ := cpA X111 hx hZ hown (own_i hw 124 rfl) (own_i hw 127 rfl) (own_i hw 125 rfl) (own_i hw 126 rfl) e111 f108 V103 (us := [(.int y1), (.int y2), (.int y3)]) (Or.inl ⟨rfl, rfl⟩) (by decide) (by decide) (by decide) (by decide) (by decide) rfl (by decide) N111 ga105 (g := (mkF m 27 #[rv a1, iv 1, iv 4, iv 3, rv b103] [(.int 3), (.int 0), (.ref b103), (.int 1), (.ref a1)])) rfl (by rw [hml]; rfl) rfl (hb hby d27_27) (by decide) (W := 0) (Nat.le_of_eq rfl) (by decide)
  have Vc112 : Arv Z h112 b103 k103 .byte (3 : Int32) [(.int y1), (.int y2), (.int y3)] (.int 0) := V112
  have f113 := Nat.le_trans f107 K112.1
  have f114 := f108.keep K112 (ninS ne104 nin0)
  have f115 := f109.trans K112 (allS (Or.inr sz106) all0)
  have pre116 : own_P p e below s₁ (entryFrame m #[(.ref a1), (.int 1), (.int 4)] 5) T112 (mkF m 32 #[rv a1, iv 1, iv 4, iv 3, rv b103] [(.ref b103)]) := fun t k => pre0 t (by
    show Steps p.tables e below (s₁.setTop (mkF m 0 #[rv a1, iv 1, iv 4, .unset, .unset] [])) t
    refine XS.iloadN X0.here hx rfl (hb hby d27_0) rfl ?_
    refine XS.iloadN X0.here hx rfl (hb hby d27_1) rfl ?_
    refine st102 _ ?_
    refine XS.iloadN X102.here hx rfl (hb hby d27_5) rfl ?_
    refine XS.iloadN X102.here hx rfl (hb hby d27_6) rfl ?_
    refine XS.isub X102.here hx rfl (hb hby d27_7) rfl ?_
    refine XS.istoreN X102.here hx rfl (hb hby d27_8) rfl (l' := #[rv a1, iv 1, iv 4, iv 3, .unset]) rfl ?_
    refine XS.iloadN X102.here hx rfl (hb hby d27_9) rfl ?_
    refine st103 _ ?_
    refine XS.astore X103.here hx rfl (hb hby d27_12) rfl rfl (l' := #[rv a1, iv 1, iv 4, iv 3, rv b103]) rfl ?_
    refine XS.aloadN X103.here hx rfl (hb hby d27_14) rfl rfl ?_
    refine XS.iloadN X103.here hx rfl (hb hby d27_15) rfl ?_
    refine XS.aload X103.here hx rfl (hb hby d27_16) rfl rfl ?_
    refine XS.iconst X103.here hx rfl (hb hby d27_18) ?_
    refine XS.aloadN X103.here hx rfl (hb hby d27_19) rfl rfl ?_
    refine X103.arraylength hx (by rw [e103]; exact Ar110.1) (State.isArrayOf_alike hZ.alike Ar110.2.1) (g := (mkF m 20 #[rv a1, iv 1, iv 4, iv 3, rv b103] [(.ref a1), (.int 0), (.ref b103), (.int 1), (.ref a1)])) rfl rfl (hb hby d27_20) _ ?_
    rw [len_of S110 N110z]
    refine XS.iloadN X103.here hx rfl (hb hby d27_21) rfl ?_
    refine XS.isub X103.here hx rfl (hb hby d27_22) rfl ?_
    refine XS.iloadN X103.here hx rfl (hb hby d27_23) rfl ?_
    refine st111 _ ?_
    refine st112 _ ?_
    refine XS.aload X112.here hx rfl (hb hby d27_30) rfl rfl ?_
    exact k)
  obtain ⟨fs, hr, hrun, hended, hW, hsame⟩ := X112.leave (v := some (.ref b103)) (fun h => by rw [Bd.returns] at h; cases h)
  refine ⟨_, _, pre116 _ ?_, hrun, hended, _, _, rfl, ?_, ⟨_, rfl⟩, hW, hsame.mono (by decide) (by decide)⟩
  · exact retOut X112 hx Bd.returns rfl (Or.inr (Or.inr (Or.inr (Or.inr ⟨rfl, rfl, rfl⟩)))) (hb hby d27_32) hr
  · show QCb_4_1 Z a1 k1 y0 y1 y2 y3 h0 n0 _ T112.heap _
    rw [e112]
    exact ⟨b103, k103, rfl, N112, f115, ga105, sz106, Vc112⟩
theorem ef_rmCr_4_1 (m : MethodId) (x0 : Addr) : entryFrame m #[(.ref x0), (.int 1), (.int 4)] 3 = mkF m 0 #[rv x0, iv 1, iv 4] [] := by first | (simp [entryFrame, mkF, argsToLocals, Value.category]; done) | rfl
def QCr_4_1 (Z : State) (a1 : Addr) (k1 : ClassId) (y0 : Int32) (y1 : Int32) (y2 : Int32) (y3 : Int32) (h0 : Heap) (n0 : Nat) (v : Option Value) (h : Heap) (L : List Loc) : Prop := ∃ (b : Addr) (kb : ClassId), v = some (.ref b) ∧ Fr n0 L ∧ Keep h0 h [] ∧ (n0 ≤ b) ∧ (h0.size ≤ b) ∧ (Arv Z h b kb .byte (3 : Int32) [(.int y1), (.int y2), (.int y3)] (.int 0))
set_option maxRecDepth 65536 in
set_option maxHeartbeats 40000000 in
theorem rmCr_4_1 (l : Launch) (Z : State) (a0 : Array Value) (hw : ∀ d ∈ tables_1, d.before a0 Z = true) (ws : List Jvm.Cond) (a1 : Addr) (k1 : ClassId) (y0 : Int32) (y1 : Int32) (y2 : Int32) (y3 : Int32) (h0 : Heap) (n0 : Nat) (Z0 : n0 ≤ h0.size) (V1 : Arv Z h0 a1 k1 .byte (4 : Int32) [(.int y0), (.int y1), (.int y2), (.int y3)] (.int 0)) :
    own_M l own_y22 jdk_65_method_132_code 3 (some (.array .byte)) ws (own_R 2 1 3 56) Z h0 #[(.ref a1), (.int 1), (.int 4)] (QCr_4_1 Z a1 k1 y0 y1 y2 y3 h0 n0) := by
  refine MetFree.of_bodySF (plainFor_of_name pn_java_util_Arrays) hisR ?_
  intro p e s m args below meth c s₁ Bd hml0 hP hK
  obtain ⟨rfl, hZ, hh⟩ := hP
  have hx := Bd.exec
  have hby := Bd.bytes
  have hml : c.maxLocals = 3 := hml0
  have hown : s.vm.findClass "java/util/Arrays" = some m.cls := findClass_of_methodNamed Bd.named
  have hnm := (name_of_methodNamed Bd.named Bd.method).1
  have X0 : Stand p l e (own_R 2 1 3 56) s m #[(.ref a1), (.int 1), (.int 4)] below meth c s₁ [] 0 0 := Stand.of_body Bd
  have e0 : s₁.heap = h0 := by rw [← hh, Bd.state]; rfl
  have N0 := Fr.nil n0
  have pre0 : own_P p e below s₁ (entryFrame m #[(.ref a1), (.int 1), (.int 4)] 3) s₁ (mkF m 0 #[rv a1, iv 1, iv 4] []) := fun t k => castTop (ef_rmCr_4_1 m a1) k
  have f101 := Keep.refl h0 []
  obtain ⟨_, _, ⟨T102, L102, k102, n102⟩, -, X102, ⟨Lc102, hQ102, l102, y102, z102⟩, st102⟩ := Jvm.LawKit.callS X0 hx (y := own_y21) hown (own_m hZ hw 114) (own_m hZ hw 115) (own_m hZ hw 112) (own_m hZ hw 116) (by decide) (backOf (W := 0) (rmCb_4_1 l Z a0 hw [] a1 k1 y0 y1 y2 y3 h0 n0 Z0 V1) hZ (own_i hw 116 rfl) (own_i hw 112 rfl) (by decide) (by decide)) (g := (mkF m 13 #[rv a1, iv 1, iv 4] [(.int 4), (.int 1), (.ref a1)])) rfl (by rw [hml]; rfl) (argsL := [(.ref a1), (.int 1), (.int 4)]) (rest := []) (lenOf pd_13 rfl) rfl (Nat.le_of_eq rfl) (hb hby d26_13) (fun _ _ => ⟨rfl, e0, (by decide : 0 + 1 ≤ _), (by decide : 0 + 3 ≤ _)⟩)
  dsimp only [Pt.U, Pt.locs, Pt.cells, Pt.slots] at X102 l102 y102 z102 st102 hQ102
  subst l102 y102 z102
  obtain ⟨b103, x104, rfl, N102q, K102, f105, f106, f107⟩ := hQ102
  have N102 := Fr.app N0 N102q
  have ne108 : a1 ≠ b103 := Nat.ne_of_lt (Nat.lt_of_lt_of_le V1.lt f106)
  have f109 := Nat.le_trans Z0 K102.1
  have f110 := V1.keep K102 nin0
  have f111 := f101.trans K102 all0
  have pre112 : own_P p e below s₁ (entryFrame m #[(.ref a1), (.int 1), (.int 4)] 3) T102 (mkF m 16 #[rv a1, iv 1, iv 4] [(.ref b103)]) := fun t k => pre0 t (by
    show Steps p.tables e below (s₁.setTop (mkF m 0 #[rv a1, iv 1, iv 4] [])) t
    refine XS.iloadN X0.here hx rfl (hb hby d26_0) rfl ?_
    refine XS.ifYes X0.here hx rfl (pc0 := 1) (pc' := 10) rfl (hb hby d26_1) rfl ((if0 _ _).trans (feq (by decide : ¬ ((1 : Int32) = (0 : Int32)))).2) (by decide) (by decide) ?_
    refine XS.aloadN X0.here hx rfl (hb hby d26_10) rfl rfl ?_
    refine XS.iloadN X0.here hx rfl (hb hby d26_11) rfl ?_
    refine XS.iloadN X0.here hx rfl (hb hby d26_12) rfl ?_
    refine st102 _ ?_
    exact k)
  obtain ⟨fs, hr, hrun, hended, hW, hsame⟩ := X102.leave (v := some (.ref b103)) (fun h => by rw [Bd.returns] at h; cases h)
  refine ⟨_, _, pre112 _ ?_, hrun, hended, _, _, rfl, ?_, ⟨_, rfl⟩, hW, hsame.mono (by decide) (by decide)⟩
  · exact retOut X102 hx Bd.returns rfl (Or.inr (Or.inr (Or.inr (Or.inr ⟨rfl, rfl, rfl⟩)))) (hb hby d26_16) hr
  · show QCr_4_1 Z a1 k1 y0 y1 y2 y3 h0 n0 _ T102.heap _
    exact ⟨b103, x104, rfl, N102, f111, f105, f106, f107⟩
theorem ef_rmNs_4_1 (m : MethodId) (x0 : Addr) : entryFrame m #[(.ref x0), (.int 1), (.int 3)] 3 = mkF m 0 #[rv x0, iv 1, iv 3] [] := by first | (simp [entryFrame, mkF, argsToLocals, Value.category]; done) | rfl
def QNs_4_1 (Z : State) (a1 : Addr) (k1 : ClassId) (y0 : Int32) (y1 : Int32) (y2 : Int32) (y3 : Int32) (h0 : Heap) (n0 : Nat) (v : Option Value) (h : Heap) (L : List Loc) : Prop := ∃ (b : Addr) (tb : Addr) (kb : ClassId), v = some (.ref b) ∧ Fr n0 L ∧ Keep h0 h [] ∧ (n0 ≤ b) ∧ (h0.size ≤ b) ∧ (Exa Z h b "java/lang/String") ∧ (Fld Z h b "java/lang/String" "coder" "B" (.int 0)) ∧ (Fld Z h b "java/lang/String" "value" "[B" (.ref tb)) ∧ (n0 ≤ tb) ∧ (h0.size ≤ tb) ∧ (Arv Z h tb kb .byte (3 : Int32) [(.int y1), (.int y2), (.int y3)] (.int 0))
set_option maxRecDepth 65536 in
set_option maxHeartbeats 40000000 in
theorem rmNs_4_1 (l : Launch) (Z : State) (a0 : Array Value) (hw : ∀ d ∈ tables_1, d.before a0 Z = true) (ws : List Jvm.Cond) (a1 : Addr) (k1 : ClassId) (y0 : Int32) (y1 : Int32) (y2 : Int32) (y3 : Int32) (h0 : Heap) (n0 : Nat) (Z0 : n0 ≤ h0.size) (V1 : Arv Z h0 a1 k1 .byte (4 : Int32) [(.int y0), (.int y1), (.int y2), (.int y3)] (.int 0)) :
    own_M l own_y23 jdk_43_method_47_code 3 (some (.object "java/lang/String")) ws (own_R 3 2 7 72) Z h0 #[(.ref a1), (.int 1), (.int 3)] (QNs_4_1 Z a1 k1 y0 y1 y2 y3 h0 n0) := by
  refine MetFree.of_bodySF (plainFor_of_name pn_java_lang_StringLatin1) hisR ?_
  intro p e s m args below meth c s₁ Bd hml0 hP hK
  obtain ⟨rfl, hZ, hh⟩ := hP
  have hx := Bd.exec
  have hby := Bd.bytes
  have hml : c.maxLocals = 3 := hml0
  have hown : s.vm.findClass "java/lang/StringLatin1" = some m.cls := findClass_of_methodNamed Bd.named
  have hnm := (name_of_methodNamed Bd.named Bd.method).1
  have X0 : Stand p l e (own_R 3 2 7 72) s m #[(.ref a1), (.int 1), (.int 3)] below meth c s₁ [] 0 0 := Stand.of_body Bd
  have e0 : s₁.heap = h0 := by rw [← hh, Bd.state]; rfl
  have N0 := Fr.nil n0
  have pre0 : own_P p e below s₁ (entryFrame m #[(.ref a1), (.int 1), (.int 3)] 3) s₁ (mkF m 0 #[rv a1, iv 1, iv 3] []) := fun t k => castTop (ef_rmNs_4_1 m a1) k
  have f101 := Keep.refl h0 []
  obtain ⟨T102, h102, X102, e102, E102, A102, D102, -, st102⟩ := newO X0 hx hZ hown (own_i hw 109 rfl) (own_i hw 9 rfl) (own_i hw 10 rfl) e0 (g := (mkF m 7 #[rv a1, iv 1, iv 3] [])) rfl (hb hby d25_7) (by decide) (by decide)
  obtain ⟨b102, g102⟩ : ∃ z, z = h0.size := ⟨_, rfl⟩
  rw [← g102] at A102 D102 st102
  have ne103 : a1 ≠ b102 := Nat.ne_of_lt (Nat.lt_of_lt_of_le V1.lt (Nat.le_of_eq g102.symm))
  have ga104 : n0 ≤ b102 := Nat.le_trans Z0 (Nat.le_of_eq g102.symm)
  have sz105 : h0.size ≤ b102 := Nat.le_trans f101.1 (Nat.le_of_eq g102.symm)
  have f106 : Fld Z h102 b102 "java/lang/String" "coder" "B" (.int 0) := D102 (Or.inr (own_i hw 38 rfl)) (ty := .byte) (by decide)
  have f107 : Fld Z h102 b102 "java/lang/String" "value" "[B" .null := D102 (Or.inr (own_i hw 40 rfl)) (ty := (.array .byte)) (by decide)
  have f108 := Nat.le_trans Z0 E102.1
  have f109 := V1.ext E102
  have f110 := f101.ext E102
  obtain ⟨_, _, ⟨T111, L111, k111, n111⟩, -, X111, ⟨Lc111, hQ111, l111, y111, z111⟩, st111⟩ := Jvm.LawKit.callS X102 hx (y := own_y22) hown (own_m hZ hw 110) (own_m hZ hw 111) (own_m hZ hw 112) (own_m hZ hw 113) (by decide) (backOf (W := 2) (rmCr_4_1 l Z a0 hw [] a1 k1 y0 y1 y2 y3 h102 n0 f108 f109) hZ (own_i hw 113 rfl) (own_i hw 112 rfl) (by decide) (by decide)) (g := (mkF m 16 #[rv a1, iv 1, iv 3] [(.int 4), (.int 1), (.ref a1), (.ref b102), (.ref b102)])) rfl (by rw [hml]; rfl) (argsL := [(.ref a1), (.int 1), (.int 4)]) (rest := [(.ref b102), (.ref b102)]) (lenOf pd_13 rfl) rfl (Nat.le_of_eq rfl) (hb hby d25_16) (fun _ _ => ⟨rfl, e102, (by decide : 1 + 1 ≤ _), (by decide : 4 + 3 ≤ _)⟩)
  dsimp only [Pt.U, Pt.locs, Pt.cells, Pt.slots] at X111 l111 y111 z111 st111 hQ111
  subst l111 y111 z111
  obtain ⟨b112, x113, rfl, N111q, K111, f114, f115, f116⟩ := hQ111
  have N111 := Fr.app N0 N111q
  have ne117 : a1 ≠ b112 := Nat.ne_of_lt (Nat.lt_of_lt_of_le f109.lt f115)
  have ne118 : b102 ≠ b112 := Nat.ne_of_lt (Nat.lt_of_lt_of_le A102.lt f115)
  have sz119 : h0.size ≤ b112 := Nat.le_trans f110.1 f115
  have f120 := Nat.le_trans f108 K111.1
  have f121 := f109.keep K111 nin0
  have f122 := f110.trans K111 all0
  have f123 := A102.keep K111
  have f124 := f106.keep K111 nin0
  have f125 := f107.keep K111 nin0
  obtain ⟨_, _, ⟨T126, L126, k126, n126⟩, -, X126, ⟨Lc126, hQ126, l126, y126, z126⟩, st126⟩ := X111.specialBack hx (y := own_y19) rfl hown (own_m hZ hw 128) (own_m hZ hw 129) (own_m hZ hw 130) (by decide) (backOf (W := 1) (rmSi l Z a0 hw [] b102 b112 T111.heap n0 f120 f125 f124 f123 ga104) hZ (own_i hw 130 rfl) (own_i hw 10 rfl) (by decide) (by decide)) (g := (mkF m 20 #[rv a1, iv 1, iv 3] [(.int 0), (.ref b112), (.ref b102), (.ref b102)])) rfl (by rw [hml]; rfl) (Steps.refl _) (a := b102) (argsL := [(.ref b112), (.int 0)]) (rest := [(.ref b102)]) (lenOf pd_14 rfl) rfl (Nat.le_of_eq rfl) (hb hby d25_20) (fun _ _ => ⟨rfl, rfl, (by decide : 2 + 0 ≤ _), (by decide : 7 + 0 ≤ _)⟩)
  dsimp only [Pt.U, Pt.locs, Pt.cells, Pt.slots] at X126 l126 y126 z126 st126 hQ126
  subst l126 y126 z126
  obtain ⟨rfl, N126q, K126, f127, f128, f129⟩ := hQ126
  have N126 := Fr.app N111 N126q
  have f130 := Nat.le_trans f120 K126.1
  have f131 := f121.keep K126 (ninS ne103 nin0)
  have f132 := f122.trans K126 (allS (Or.inr sz105) all0)
  have f133 := f116.keep K126 (ninS (Ne.symm ne118) nin0)
  have pre134 : own_P p e below s₁ (entryFrame m #[(.ref a1), (.int 1), (.int 3)] 3) T126 (mkF m 23 #[rv a1, iv 1, iv 3] [(.ref b102)]) := fun t k => pre0 t (by
    show Steps p.tables e below (s₁.setTop (mkF m 0 #[rv a1, iv 1, iv 3] [])) t
    refine XS.iloadN X0.here hx rfl (hb hby d25_0) rfl ?_
    refine XS.ifYes X0.here hx rfl (pc0 := 1) (pc' := 7) rfl (hb hby d25_1) rfl ((if0 _ _).trans (feq (by decide : ¬ ((3 : Int32) = (0 : Int32)))).2) (by decide) (by decide) ?_
    refine st102 _ ?_
    refine XS.dup X102.here hx rfl (hb hby d25_10) rfl rfl ?_
    refine XS.aloadN X102.here hx rfl (hb hby d25_11) rfl rfl ?_
    refine XS.iloadN X102.here hx rfl (hb hby d25_12) rfl ?_
    refine XS.iloadN X102.here hx rfl (hb hby d25_13) rfl ?_
    refine XS.iloadN X102.here hx rfl (hb hby d25_14) rfl ?_
    refine XS.iadd X102.here hx rfl (hb hby d25_15) rfl ?_
    refine st111 _ ?_
    refine XS.iconst X111.here hx rfl (hb hby d25_19) ?_
    refine st126.trans ?_
    exact k)
  obtain ⟨fs, hr, hrun, hended, hW, hsame⟩ := X126.leave (v := some (.ref b102)) (fun h => by rw [Bd.returns] at h; cases h)
  refine ⟨_, _, pre134 _ ?_, hrun, hended, _, _, rfl, ?_, ⟨_, rfl⟩, hW, hsame.mono (by decide) (by decide)⟩
  · exact retOut X126 hx Bd.returns rfl (Or.inr (Or.inr (Or.inr (Or.inr ⟨rfl, rfl, rfl⟩)))) (hb hby d25_23) hr
  · show QNs_4_1 Z a1 k1 y0 y1 y2 y3 h0 n0 _ T126.heap _
    exact ⟨b102, b112, x113, rfl, N126, f132, ga104, sz105, f127, f128, f129, f114, sz119, f133⟩
theorem ef_rmS2_4_1 (m : MethodId) (x0 : Addr) : entryFrame m #[(.ref x0), (.int 1), (.int 4)] 5 = mkF m 0 #[rv x0, iv 1, iv 4, .unset, .unset] [] := by first | (simp [entryFrame, mkF, argsToLocals, Value.category]; done) | rfl
def QS2_4_1 (Z : State) (a1 : Addr) (cs : Int32) (vF : Value) (t : Addr) (kt : ClassId) (y0 : Int32) (y1 : Int32) (y2 : Int32) (y3 : Int32) (h0 : Heap) (n0 : Nat) (v : Option Value) (h : Heap) (L : List Loc) : Prop := ∃ (b : Addr) (tb : Addr) (kb : ClassId), v = some (.ref b) ∧ Fr n0 L ∧ Keep h0 h [] ∧ (n0 ≤ b) ∧ (h0.size ≤ b) ∧ (Exa Z h b "java/lang/String") ∧ (Fld Z h b "java/lang/String" "coder" "B" (.int 0)) ∧ (Fld Z h b "java/lang/String" "value" "[B" (.ref tb)) ∧ (n0 ≤ tb) ∧ (h0.size ≤ tb) ∧ (Arv Z h tb kb .byte (3 : Int32) [(.int y1), (.int y2), (.int y3)] (.int 0))
set_option maxRecDepth 65536 in
set_option maxHeartbeats 40000000 in
theorem rmS2_4_1 (l : Launch) (Z : State) (a0 : Array Value) (hw : ∀ d ∈ tables_1, d.before a0 Z = true) (ws : List Jvm.Cond) (a1 : Addr) (cs : Int32) (vF : Value) (t : Addr) (kt : ClassId) (y0 : Int32) (y1 : Int32) (y2 : Int32) (y3 : Int32) (h0 : Heap) (n0 : Nat) (Z0 : n0 ≤ h0.size) (SC : Sta Z h0 "java/lang/String" "COMPACT_STRINGS" "Z" (.int cs)) (hcs : ¬ (cs = (0 : Int32))) (SF : Sta Z h0 "jdk/internal/util/Preconditions" "SIOOBE_FORMATTER" "Ljava/util/function/BiFunction;" vF) (hF : vF.isRef = true) (E1 : Exa Z h0 a1 "java/lang/String") (C1 : Fld Z h0 a1 "java/lang/String" "coder" "B" (.int 0)) (W1 : Fld Z h0 a1 "java/lang/String" "value" "[B" (.ref t)) (V1 : Arv Z h0 t kt .byte (4 : Int32) [(.int y0), (.int y1), (.int y2), (.int y3)] (.int 0)) :
    own_M l own_y24 jdk_42_method_92_code 5 (some (.object "java/lang/String")) ws (own_R 4 2 7 86) Z h0 #[(.ref a1), (.int 1), (.int 4)] (QS2_4_1 Z a1 cs vF t kt y0 y1 y2 y3 h0 n0) := by
  refine MetFree.of_bodySF (plainFor_of_name pn_java_lang_String) hisR ?_
  intro p e s m args below meth c s₁ Bd hml0 hP hK
  obtain ⟨rfl, hZ, hh⟩ := hP
  have hx := Bd.exec
  have hby := Bd.bytes
  have hml : c.maxLocals = 5 := hml0
  have hown : s.vm.findClass "java/lang/String" = some m.cls := findClass_of_methodNamed Bd.named
  have hnm := (name_of_methodNamed Bd.named Bd.method).1
  have X0 : Stand p l e (own_R 4 2 7 86) s m #[(.ref a1), (.int 1), (.int 4)] below meth c s₁ [] 0 0 := Stand.of_body Bd
  have e0 : s₁.heap = h0 := by rw [← hh, Bd.state]; rfl
  have N0 := Fr.nil n0
  have pre0 : own_P p e below s₁ (entryFrame m #[(.ref a1), (.int 1), (.int 4)] 5) s₁ (mkF m 0 #[rv a1, iv 1, iv 4, .unset, .unset] []) := fun t k => castTop (ef_rmS2_4_1 m a1) k
  have f101 := Keep.refl h0 []
  obtain ⟨cq102, kq102, q102a, q102b, q102c⟩ := isOf hZ e0 E1
  obtain ⟨_, _, ⟨T102, L102, k102, n102⟩, -, X102, ⟨Lc102, hQ102, l102, y102, z102⟩, st102⟩ := X0.virtualBack hx (y := own_y11) (z := own_y11) hown (own_m hZ hw 63) (own_m hZ hw 49) (notFace_of_selects (args := #[]) (own_m hZ hw 51)) (own_m hZ hw 51) (own_m hZ hw 50) (by decide) (backOf (W := 0) (rmLen l Z a0 hw [] a1 cs t kt (4 : Int32) ([(.int y0), (.int y1), (.int y2), (.int y3)]) h0 n0 Z0 SC hcs E1 C1 W1 V1) hZ (own_i hw 52 rfl) (own_i hw 10 rfl) (by decide) (by decide)) q102a q102c (g := (mkF m 1 #[rv a1, iv 1, iv 4, .unset, .unset] [(.ref a1)])) rfl (by rw [hml]; rfl) (Steps.refl _) (argsL := []) (rest := []) (lenOf pd_15 rfl) rfl (Nat.le_of_eq rfl) (hb hby d15_1) (fun _ _ => ⟨rfl, e0, (by decide : 0 + 0 ≤ _), (by decide : 0 + 0 ≤ _)⟩)
  dsimp only [Pt.U, Pt.locs, Pt.cells, Pt.slots] at X102 l102 y102 z102 st102 hQ102
  subst l102 y102 z102
  obtain ⟨rfl, N102q, e102⟩ := hQ102
  have N102 := Fr.app N0 N102q
  obtain ⟨_, _, ⟨T103, L103, k103, n103⟩, -, X103, ⟨Lc103, hQ103, l103, y103, z103⟩, st103⟩ := Jvm.LawKit.callS X102 hx (y := own_y17) hown (own_m hZ hw 69) (own_m hZ hw 70) (own_m hZ hw 10) (own_m hZ hw 71) (by decide) (backOf (W := 0) (rmBe l Z a0 hw [] (1 : Int32) (4 : Int32) (4 : Int32) vF h0 n0 Z0 SF hF (by first | assumption | rfl | decide | omega | simp_all) (by first | assumption | rfl | decide | omega | simp_all) (by first | assumption | rfl | decide | omega | simp_all)) hZ (own_i hw 71 rfl) (own_i hw 10 rfl) (by decide) (by decide)) (g := (mkF m 8 #[rv a1, iv 1, iv 4, iv 4, .unset] [(.int 4), (.int 4), (.int 1)])) rfl (by rw [hml]; rfl) (argsL := [(.int 1), (.int 4), (.int 4)]) (rest := []) (lenOf pd_16 rfl) rfl (Nat.le_of_eq rfl) (hb hby d15_8) (fun _ _ => ⟨rfl, e102, (by decide : 0 + 0 ≤ _), (by decide : 0 + 0 ≤ _)⟩)
  dsimp only [Pt.U, Pt.locs, Pt.cells, Pt.slots] at X103 l103 y103 z103 st103 hQ103
  subst l103 y103 z103
  obtain ⟨rfl, N103q, e103⟩ := hQ103
  have N103 := Fr.app N102 N103q
  obtain ⟨cq104, kq104, q104a, q104b, q104c⟩ := isOf hZ e103 E1
  obtain ⟨_, _, ⟨T104, L104, k104, n104⟩, -, X104, ⟨Lc104, hQ104, l104, y104, z104⟩, st104⟩ := X103.virtualBack hx (y := own_y10) (z := own_y10) hown (own_m hZ hw 92) (own_m hZ hw 93) (notFace_of_selects (args := #[]) (own_m hZ hw 95)) (own_m hZ hw 95) (own_m hZ hw 94) (by decide) (backOf (W := 0) (rmIl l Z a0 hw [] a1 cs h0 n0 Z0 SC hcs C1) hZ (own_i hw 96 rfl) (own_i hw 10 rfl) (by decide) (by decide)) q104a q104c (g := (mkF m 28 #[rv a1, iv 1, iv 4, iv 4, iv 3] [(.ref a1)])) rfl (by rw [hml]; rfl) (Steps.refl _) (argsL := []) (rest := []) (lenOf pd_9 rfl) rfl (Nat.le_of_eq rfl) (hb hby d15_28) (fun _ _ => ⟨rfl, e103, (by decide : 0 + 0 ≤ _), (by decide : 0 + 0 ≤ _)⟩)
  dsimp only [Pt.U, Pt.locs, Pt.cells, Pt.slots] at X104 l104 y104 z104 st104 hQ104
  subst l104 y104 z104
  obtain ⟨rfl, N104q, e104⟩ := hQ104
  have N104 := Fr.app N103 N104q
  obtain ⟨T105, X105, e105, st105⟩ := getF X104 hx hZ hown (host := "") (Or.inl (own_i hw 39 rfl)) Via.refl e104 W1 (g := (mkF m 35 #[rv a1, iv 1, iv 4, iv 4, iv 3] [(.ref a1)])) rfl rfl (hb hby d15_35)
  obtain ⟨_, _, ⟨T106, L106, k106, n106⟩, -, X106, ⟨Lc106, hQ106, l106, y106, z106⟩, st106⟩ := Jvm.LawKit.callS X105 hx (y := own_y23) hown (own_m hZ hw 106) (own_m hZ hw 107) (own_m hZ hw 85) (own_m hZ hw 108) (by decide) (backOf (W := 0) (rmNs_4_1 l Z a0 hw [] t kt y0 y1 y2 y3 h0 n0 Z0 V1) hZ (own_i hw 108 rfl) (own_i hw 85 rfl) (by decide) (by decide)) (g := (mkF m 41 #[rv a1, iv 1, iv 4, iv 4, iv 3] [(.int 3), (.int 1), (.ref t)])) rfl (by rw [hml]; rfl) (argsL := [(.ref t), (.int 1), (.int 3)]) (rest := []) (lenOf pd_17 rfl) rfl (Nat.le_of_eq rfl) (hb hby d15_41) (fun _ _ => ⟨rfl, e105, (by decide : 0 + 2 ≤ _), (by decide : 0 + 7 ≤ _)⟩)
  dsimp only [Pt.U, Pt.locs, Pt.cells, Pt.slots] at X106 l106 y106 z106 st106 hQ106
  subst l106 y106 z106
  obtain ⟨b107, b108, x109, rfl, N106q, K106, f110, f111, f112, f113, f114, f115, f116, f117⟩ := hQ106
  have N106 := Fr.app N104 N106q
  have ne118 : a1 ≠ b107 := Nat.ne_of_lt (Nat.lt_of_lt_of_le E1.lt f111)
  have ne119 : t ≠ b107 := Nat.ne_of_lt (Nat.lt_of_lt_of_le V1.lt f111)
  have ne120 : a1 ≠ b108 := Nat.ne_of_lt (Nat.lt_of_lt_of_le E1.lt f116)
  have ne121 : t ≠ b108 := Nat.ne_of_lt (Nat.lt_of_lt_of_le V1.lt f116)
  have f122 := Nat.le_trans Z0 K106.1
  have f123 := E1.keep K106
  have f124 := C1.keep K106 nin0
  have f125 := W1.keep K106 nin0
  have f126 := V1.keep K106 nin0
  have f127 := f101.trans K106 all0
  have pre128 : own_P p e below s₁ (entryFrame m #[(.ref a1), (.int 1), (.int 4)] 5) T106 (mkF m 57 #[rv a1, iv 1, iv 4, iv 4, iv 3] [(.ref b107)]) := fun t k => pre0 t (by
    show Steps p.tables e below (s₁.setTop (mkF m 0 #[rv a1, iv 1, iv 4, .unset, .unset] [])) t
    refine XS.aloadN X0.here hx rfl (hb hby d15_0) rfl rfl ?_
    refine st102.trans ?_
    refine XS.istoreN X102.here hx rfl (hb hby d15_4) rfl (l' := #[rv a1, iv 1, iv 4, iv 4, .unset]) rfl ?_
    refine XS.iloadN X102.here hx rfl (hb hby d15_5) rfl ?_
    refine XS.iloadN X102.here hx rfl (hb hby d15_6) rfl ?_
    refine XS.iloadN X102.here hx rfl (hb hby d15_7) rfl ?_
    refine st103 _ ?_
    refine XS.iloadN X103.here hx rfl (hb hby d15_11) rfl ?_
    refine XS.ifYes X103.here hx rfl (pc0 := 12) (pc' := 22) rfl (hb hby d15_12) rfl ((if0 _ _).trans (feq (by decide : ¬ ((1 : Int32) = (0 : Int32)))).2) (by decide) (by decide) ?_
    refine XS.iloadN X103.here hx rfl (hb hby d15_22) rfl ?_
    refine XS.iloadN X103.here hx rfl (hb hby d15_23) rfl ?_
    refine XS.isub X103.here hx rfl (hb hby d15_24) rfl ?_
    refine XS.istore X103.here hx rfl (hb hby d15_25) rfl (l' := #[rv a1, iv 1, iv 4, iv 4, iv 3]) rfl ?_
    refine XS.aloadN X103.here hx rfl (hb hby d15_27) rfl rfl ?_
    refine st104.trans ?_
    refine XS.ifNo X104.here hx rfl (hb hby d15_31) rfl ((if0 _ _).trans (feq (by decide : ¬ ((1 : Int32) = (0 : Int32)))).1) ?_
    refine XS.aloadN X104.here hx rfl (hb hby d15_34) rfl rfl ?_
    refine st105 _ ?_
    refine XS.iloadN X105.here hx rfl (hb hby d15_38) rfl ?_
    refine XS.iload X105.here hx rfl (hb hby d15_39) rfl ?_
    refine st106 _ ?_
    refine XS.goto X106.here hx rfl (pc0 := 44) (pc' := 57) rfl (hb hby d15_44) (by decide) (by decide) ?_
    exact k)
  obtain ⟨fs, hr, hrun, hended, hW, hsame⟩ := X106.leave (v := some (.ref b107)) (fun h => by rw [Bd.returns] at h; cases h)
  refine ⟨_, _, pre128 _ ?_, hrun, hended, _, _, rfl, ?_, ⟨_, rfl⟩, hW, hsame.mono (by decide) (by decide)⟩
  · exact retOut X106 hx Bd.returns rfl (Or.inr (Or.inr (Or.inr (Or.inr ⟨rfl, rfl, rfl⟩)))) (hb hby d15_57) hr
  · show QS2_4_1 Z a1 cs vF t kt y0 y1 y2 y3 h0 n0 _ T106.heap _
    exact ⟨b107, b108, x109, rfl, N106, f127, f110, f111, f112, f113, f114, f115, f116, f117⟩
theorem ef_rmS1_4_1 (m : MethodId) (x0 : Addr) : entryFrame m #[(.ref x0), (.int 1)] 2 = mkF m 0 #[rv x0, iv 1] [] := by first | (simp [entryFrame, mkF, argsToLocals, Value.category]; done) | rfl
def QS1_4_1 (Z : State) (a1 : Addr) (cs : Int32) (vF : Value) (t : Addr) (kt : ClassId) (y0 : Int32) (y1 : Int32) (y2 : Int32) (y3 : Int32) (h0 : Heap) (n0 : Nat) (v : Option Value) (h : Heap) (L : List Loc) : Prop := ∃ (b : Addr) (tb : Addr) (kb : ClassId), v = some (.ref b) ∧ Fr n0 L ∧ Keep h0 h [] ∧ (n0 ≤ b) ∧ (h0.size ≤ b) ∧ (Exa Z h b "java/lang/String") ∧ (Fld Z h b "java/lang/String" "coder" "B" (.int 0)) ∧ (Fld Z h b "java/lang/String" "value" "[B" (.ref tb)) ∧ (n0 ≤ tb) ∧ (h0.size ≤ tb) ∧ (Arv Z h tb kb .byte (3 : Int32) [(.int y1), (.int y2), (.int y3)] (.int 0))
set_option maxRecDepth 65536 in
set_option maxHeartbeats 40000000 in
theorem rmS1_4_1 (l : Launch) (Z : State) (a0 : Array Value) (hw : ∀ d ∈ tables_1, d.before a0 Z = true) (ws : List Jvm.Cond) (a1 : Addr) (cs : Int32) (vF : Value) (t : Addr) (kt : ClassId) (y0 : Int32) (y1 : Int32) (y2 : Int32) (y3 : Int32) (h0 : Heap) (n0 : Nat) (Z0 : n0 ≤ h0.size) (SC : Sta Z h0 "java/lang/String" "COMPACT_STRINGS" "Z" (.int cs)) (hcs : ¬ (cs = (0 : Int32))) (SF : Sta Z h0 "jdk/internal/util/Preconditions" "SIOOBE_FORMATTER" "Ljava/util/function/BiFunction;" vF) (hF : vF.isRef = true) (E1 : Exa Z h0 a1 "java/lang/String") (C1 : Fld Z h0 a1 "java/lang/String" "coder" "B" (.int 0)) (W1 : Fld Z h0 a1 "java/lang/String" "value" "[B" (.ref t)) (V1 : Arv Z h0 t kt .byte (4 : Int32) [(.int y0), (.int y1), (.int y2), (.int y3)] (.int 0)) :
    own_M l own_y25 jdk_42_method_91_code 2 (some (.object "java/lang/String")) ws (own_R 5 2 7 102) Z h0 #[(.ref a1), (.int 1)] (QS1_4_1 Z a1 cs vF t kt y0 y1 y2 y3 h0 n0) := by
  refine MetFree.of_bodySF (plainFor_of_name pn_java_lang_String) hisR ?_
  intro p e s m args below meth c s₁ Bd hml0 hP hK
  obtain ⟨rfl, hZ, hh⟩ := hP
  have hx := Bd.exec
  have hby := Bd.bytes
  have hml : c.maxLocals = 2 := hml0
  have hown : s.vm.findClass "java/lang/String" = some m.cls := findClass_of_methodNamed Bd.named
  have hnm := (name_of_methodNamed Bd.named Bd.method).1
  have X0 : Stand p l e (own_R 5 2 7 102) s m #[(.ref a1), (.int 1)] below meth c s₁ [] 0 0 := Stand.of_body Bd
  have e0 : s₁.heap = h0 := by rw [← hh, Bd.state]; rfl
  have N0 := Fr.nil n0
  have pre0 : own_P p e below s₁ (entryFrame m #[(.ref a1), (.int 1)] 2) s₁ (mkF m 0 #[rv a1, iv 1] []) := fun t k => castTop (ef_rmS1_4_1 m a1) k
  have f101 := Keep.refl h0 []
  obtain ⟨cq102, kq102, q102a, q102b, q102c⟩ := isOf hZ e0 E1
  obtain ⟨_, _, ⟨T102, L102, k102, n102⟩, -, X102, ⟨Lc102, hQ102, l102, y102, z102⟩, st102⟩ := X0.virtualBack hx (y := own_y11) (z := own_y11) hown (own_m hZ hw 63) (own_m hZ hw 49) (notFace_of_selects (args := #[]) (own_m hZ hw 51)) (own_m hZ hw 51) (own_m hZ hw 50) (by decide) (backOf (W := 2) (rmLen l Z a0 hw [] a1 cs t kt (4 : Int32) ([(.int y0), (.int y1), (.int y2), (.int y3)]) h0 n0 Z0 SC hcs E1 C1 W1 V1) hZ (own_i hw 52 rfl) (own_i hw 10 rfl) (by decide) (by decide)) q102a q102c (g := (mkF m 3 #[rv a1, iv 1] [(.ref a1), (.int 1), (.ref a1)])) rfl (by rw [hml]; rfl) (Steps.refl _) (argsL := []) (rest := [(.int 1), (.ref a1)]) (lenOf pd_15 rfl) rfl (Nat.le_of_eq rfl) (hb hby d14_3) (fun _ _ => ⟨rfl, e0, (by decide : 0 + 0 ≤ _), (by decide : 0 + 0 ≤ _)⟩)
  dsimp only [Pt.U, Pt.locs, Pt.cells, Pt.slots] at X102 l102 y102 z102 st102 hQ102
  subst l102 y102 z102
  obtain ⟨rfl, N102q, e102⟩ := hQ102
  have N102 := Fr.app N0 N102q
  obtain ⟨cq103, kq103, q103a, q103b, q103c⟩ := isOf hZ e102 E1
  obtain ⟨_, _, ⟨T103, L103, k103, n103⟩, -, X103, ⟨Lc103, hQ103, l103, y103, z103⟩, st103⟩ := X102.virtualBack hx (y := own_y24) (z := own_y24) hown (own_m hZ hw 64) (own_m hZ hw 65) (notFace_of_selects (args := #[]) (own_m hZ hw 67)) (own_m hZ hw 67) (own_m hZ hw 66) (by decide) (backOf (W := 0) (rmS2_4_1 l Z a0 hw [] a1 cs vF t kt y0 y1 y2 y3 h0 n0 Z0 SC hcs SF hF E1 C1 W1 V1) hZ (own_i hw 68 rfl) (own_i hw 10 rfl) (by decide) (by decide)) q103a q103c (g := (mkF m 6 #[rv a1, iv 1] [(.int 4), (.int 1), (.ref a1)])) rfl (by rw [hml]; rfl) (Steps.refl _) (argsL := [(.int 1), (.int 4)]) (rest := []) (lenOf pd_18 rfl) rfl (Nat.le_of_eq rfl) (hb hby d14_6) (fun _ _ => ⟨rfl, e102, (by decide : 0 + 2 ≤ _), (by decide : 0 + 7 ≤ _)⟩)
  dsimp only [Pt.U, Pt.locs, Pt.cells, Pt.slots] at X103 l103 y103 z103 st103 hQ103
  subst l103 y103 z103
  obtain ⟨b104, b105, x106, rfl, N103q, K103, f107, f108, f109, f110, f111, f112, f113, f114⟩ := hQ103
  have N103 := Fr.app N102 N103q
  have ne115 : a1 ≠ b104 := Nat.ne_of_lt (Nat.lt_of_lt_of_le E1.lt f108)
  have ne116 : t ≠ b104 := Nat.ne_of_lt (Nat.lt_of_lt_of_le V1.lt f108)
  have ne117 : a1 ≠ b105 := Nat.ne_of_lt (Nat.lt_of_lt_of_le E1.lt f113)
  have ne118 : t ≠ b105 := Nat.ne_of_lt (Nat.lt_of_lt_of_le V1.lt f113)
  have f119 := Nat.le_trans Z0 K103.1
  have f120 := E1.keep K103
  have f121 := C1.keep K103 nin0
  have f122 := W1.keep K103 nin0
  have f123 := V1.keep K103 nin0
  have f124 := f101.trans K103 all0
  have pre125 : own_P p e below s₁ (entryFrame m #[(.ref a1), (.int 1)] 2) T103 (mkF m 9 #[rv a1, iv 1] [(.ref b104)]) := fun t k => pre0 t (by
    show Steps p.tables e below (s₁.setTop (mkF m 0 #[rv a1, iv 1] [])) t
    refine XS.aloadN X0.here hx rfl (hb hby d14_0) rfl rfl ?_
    refine XS.iloadN X0.here hx rfl (hb hby d14_1) rfl ?_
    refine XS.aloadN X0.here hx rfl (hb hby d14_2) rfl rfl ?_
    refine st102.trans ?_
    refine st103.trans ?_
    exact k)
  obtain ⟨fs, hr, hrun, hended, hW, hsame⟩ := X103.leave (v := some (.ref b104)) (fun h => by rw [Bd.returns] at h; cases h)
  refine ⟨_, _, pre125 _ ?_, hrun, hended, _, _, rfl, ?_, ⟨_, rfl⟩, hW, hsame.mono (by decide) (by decide)⟩
  · exact retOut X103 hx Bd.returns rfl (Or.inr (Or.inr (Or.inr (Or.inr ⟨rfl, rfl, rfl⟩)))) (hb hby d14_9) hr
  · show QS1_4_1 Z a1 cs vF t kt y0 y1 y2 y3 h0 n0 _ T103.heap _
    exact ⟨b104, b105, x106, rfl, N103, f124, f107, f108, f109, f110, f111, f112, f113, f114⟩
theorem ef_rmCb_4_2 (m : MethodId) (x0 : Addr) : entryFrame m #[(.ref x0), (.int 2), (.int 4)] 5 = mkF m 0 #[rv x0, iv 2, iv 4, .unset, .unset] [] := by first | (simp [entryFrame, mkF, argsToLocals, Value.category]; done) | rfl
def QCb_4_2 (Z : State) (a1 : Addr) (k1 : ClassId) (y0 : Int32) (y1 : Int32) (y2 : Int32) (y3 : Int32) (h0 : Heap) (n0 : Nat) (v : Option Value) (h : Heap) (L : List Loc) : Prop := ∃ (b : Addr) (kb : ClassId), v = some (.ref b) ∧ Fr n0 L ∧ Keep h0 h [] ∧ (n0 ≤ b) ∧ (h0.size ≤ b) ∧ (Arv Z h b kb .byte (2 : Int32) [(.int y2), (.int y3)] (.int 0))
set_option maxRecDepth 65536 in
set_option maxHeartbeats 40000000 in
theorem rmCb_4_2 (l : Launch) (Z : State) (a0 : Array Value) (hw : ∀ d ∈ tables_1, d.before a0 Z = true) (ws : List Jvm.Cond) (a1 : Addr) (k1 : ClassId) (y0 : Int32) (y1 : Int32) (y2 : Int32) (y3 : Int32) (h0 : Heap) (n0 : Nat) (Z0 : n0 ≤ h0.size) (V1 : Arv Z h0 a1 k1 .byte (4 : Int32) [(.int y0), (.int y1), (.int y2), (.int y3)] (.int 0)) :
    own_M l own_y21 jdk_65_method_133_code 5 (some (.array .byte)) ws (own_R 1 1 2 40) Z h0 #[(.ref a1), (.int 2), (.int 4)] (QCb_4_2 Z a1 k1 y0 y1 y2 y3 h0 n0) := by
  refine MetFree.of_bodySF (plainFor_of_name pn_java_util_Arrays) hisR ?_
  intro p e s m args below meth c s₁ Bd hml0 hP hK
  obtain ⟨rfl, hZ, hh⟩ := hP
  have hx := Bd.exec
  have hby := Bd.bytes
  have hml : c.maxLocals = 5 := hml0
  have hown : s.vm.findClass "java/util/Arrays" = some m.cls := findClass_of_methodNamed Bd.named
  have hnm := (name_of_methodNamed Bd.named Bd.method).1
  have X0 : Stand p l e (own_R 1 1 2 40) s m #[(.ref a1), (.int 2), (.int 4)] below meth c s₁ [] 0 0 := Stand.of_body Bd
  have e0 : s₁.heap = h0 := by rw [← hh, Bd.state]; rfl
  have N0 := Fr.nil n0
  have pre0 : own_P p e below s₁ (entryFrame m #[(.ref a1), (.int 2), (.int 4)] 5) s₁ (mkF m 0 #[rv a1, iv 2, iv 4, .unset, .unset] []) := fun t k => castTop (ef_rmCb_4_2 m a1) k
  have f101 := Keep.refl h0 []
  obtain ⟨_, _, ⟨T102, L102, k102, n102⟩, -, X102, ⟨Lc102, hQ102, l102, y102, z102⟩, st102⟩ := Jvm.LawKit.callS X0 hx (y := own_y18) hown (own_m hZ hw 117) (own_m hZ hw 118) (own_m hZ hw 112) (own_m hZ hw 119) (by decide) (backOf (W := 0) (rmCl l Z a0 hw [] (2 : Int32) (4 : Int32) h0 n0 Z0 (by first | assumption | rfl | decide | omega | simp_all)) hZ (own_i hw 119 rfl) (own_i hw 112 rfl) (by decide) (by decide)) (g := (mkF m 2 #[rv a1, iv 2, iv 4, .unset, .unset] [(.int 4), (.int 2)])) rfl (by rw [hml]; rfl) (argsL := [(.int 2), (.int 4)]) (rest := []) (lenOf pd_8 rfl) rfl (Nat.le_of_eq rfl) (hb hby d27_2) (fun _ _ => ⟨rfl, e0, (by decide : 0 + 0 ≤ _), (by decide : 0 + 0 ≤ _)⟩)
  dsimp only [Pt.U, Pt.locs, Pt.cells, Pt.slots] at X102 l102 y102 z102 st102 hQ102
  subst l102 y102 z102
  obtain ⟨rfl, N102q, e102⟩ := hQ102
  have N102 := Fr.app N0 N102q
  obtain ⟨T103, h103, k103, X103, e103, E103, A103, st103⟩ := newP X102 hx hZ (own_i hw 30 rfl) e102 (g := (mkF m 10 #[rv a1, iv 2, iv 4, iv 2, .unset] [(.int 2)])) rfl (hb hby d27_10) rfl (by decide) (cap := 2) (by decide) (by decide) (by decide) (by decide)
  obtain ⟨b103, g103⟩ : ∃ z, z = h0.size := ⟨_, rfl⟩
  rw [← g103] at A103 st103
  have ne104 : a1 ≠ b103 := Nat.ne_of_lt (Nat.lt_of_lt_of_le V1.lt (Nat.le_of_eq g103.symm))
  have ga105 : n0 ≤ b103 := Nat.le_trans Z0 (Nat.le_of_eq g103.symm)
  have sz106 : h0.size ≤ b103 := Nat.le_trans f101.1 (Nat.le_of_eq g103.symm)
  have V103 : Arv Z h103 b103 k103 .byte (2 : Int32) [(.int 0), (.int 0)] (.int 0) := (Arv.new A103 (by decide)).pad (pad_rep [] (.int 0) 2)
  have f107 := Nat.le_trans Z0 E103.1
  have f108 := V1.ext E103
  have f109 := f101.ext E103
  obtain ⟨cl110, Ar110, q110, S110, N110z, H110, G110⟩ := (id f108)
  obtain ⟨_, _, ⟨T111, L111, k111, n111⟩, -, X111, ⟨Lc111, hQ111, l111, y111, z111⟩, st111⟩ := Jvm.LawKit.callS X103 hx (y := own_y20) hown (own_m hZ hw 120) (own_m hZ hw 121) (own_m hZ hw 122) (own_m hZ hw 123) (by decide) (backOf (W := 4) (rmMin_2 l Z a0 hw []  h103 n0 f107 ) hZ (own_i hw 123 rfl) (own_i hw 122 rfl) (by decide) (by decide)) (g := (mkF m 24 #[rv a1, iv 2, iv 4, iv 2, rv b103] [(.int 2), (.int 2), (.int 0), (.ref b103), (.int 2), (.ref a1)])) rfl (by rw [hml]; rfl) (argsL := [(.int 2), (.int 2)]) (rest := [(.int 0), (.ref b103), (.int 2), (.ref a1)]) (lenOf pd_12 rfl) rfl (Nat.le_of_eq rfl) (hb hby d27_24) (fun _ _ => ⟨rfl, e103, (by decide : 1 + 0 ≤ _), (by decide : 2 + 0 ≤ _)⟩)
  dsimp only [Pt.U, Pt.locs, Pt.cells, Pt.slots] at X111 l111 y111 z111 st111 hQ111
  subst l111 y111 z111
  obtain ⟨rfl, N111q, e111⟩ := hQ111
  have N111 := Fr.app N102 N111q
  obtain ⟨T112, h112, L112, X112, e112, N112, K112, V112, st112⟩ := cpA X111 hx hZ hown (own_i hw 124 rfl) (own_i hw 127 rfl) (own_i hw 125 rfl) (own_i hw 126 rfl) e111 f108 V103 (us := [(.int y2), (.int y3)]) (Or.inl ⟨rfl, rfl⟩) (by decide) (by decide) (by decide) (by decide) (by decide) rfl (by decide) N111 ga105 (g := (mkF m 27 #[rv a1, iv 2, iv 4, iv 2, rv b103] [(.int 2), (.int 0), (.ref b103), (.int 2), (.ref a1)])) rfl (by rw [hml]; rfl) rfl (hb hby d27_27) (by decide) (W := 0) (Nat.le_of_eq rfl) (by decide)
  have Vc112 : Arv Z h112 b103 k103 .byte (2 : Int32) [(.int y2), (.int y3)] (.int 0) := V112
  have f113 := Nat.le_trans f107 K112.1
  have f114 := f108.keep K112 (ninS ne104 nin0)
  have f115 := f109.trans K112 (allS (Or.inr sz106) all0)
  have pre116 : own_P p e below s₁ (entryFrame m #[(.ref a1), (.int 2), (.int 4)] 5) T112 (mkF m 32 #[rv a1, iv 2, iv 4, iv 2, rv b103] [(.ref b103)]) := fun t k => pre0 t (by
    show Steps p.tables e below (s₁.setTop (mkF m 0 #[rv a1, iv 2, iv 4, .unset, .unset] [])) t
    refine XS.iloadN X0.here hx rfl (hb hby d27_0) rfl ?_
    refine XS.iloadN X0.here hx rfl (hb hby d27_1) rfl ?_
    refine st102 _ ?_
    refine XS.iloadN X102.here hx rfl (hb hby d27_5) rfl ?_
    refine XS.iloadN X102.here hx rfl (hb hby d27_6) rfl ?_
    refine XS.isub X102.here hx rfl (hb hby d27_7) rfl ?_
    refine XS.istoreN X102.here hx rfl (hb hby d27_8) rfl (l' := #[rv a1, iv 2, iv 4, iv 2, .unset]) rfl ?_
    refine XS.iloadN X102.here hx rfl (hb hby d27_9) rfl ?_
    refine st103 _ ?_
    refine XS.astore X103.here hx rfl (hb hby d27_12) rfl rfl (l' := #[rv a1, iv 2, iv 4, iv 2, rv b103]) rfl ?_
    refine XS.aloadN X103.here hx rfl (hb hby d27_14) rfl rfl ?_
    refine XS.iloadN X103.here hx rfl (hb hby d27_15) rfl ?_
    refine XS.aload X103.here hx rfl (hb hby d27_16) rfl rfl ?_
    refine XS.iconst X103.here hx rfl (hb hby d27_18) ?_
    refine XS.aloadN X103.here hx rfl (hb hby d27_19) rfl rfl ?_
    refine X103.arraylength hx (by rw [e103]; exact Ar110.1) (State.isArrayOf_alike hZ.alike Ar110.2.1) (g := (mkF m 20 #[rv a1, iv 2, iv 4, iv 2, rv b103] [(.ref a1), (.int 0), (.ref b103), (.int 2), (.ref a1)])) rfl rfl (hb hby d27_20) _ ?_
    rw [len_of S110 N110z]
    refine XS.iloadN X103.here hx rfl (hb hby d27_21) rfl ?_
    refine XS.isub X103.here hx rfl (hb hby d27_22) rfl ?_
    refine XS.iloadN X103.here hx rfl (hb hby d27_23) rfl ?_
    refine st111 _ ?_
    refine st112 _ ?_
    refine XS.aload X112.here hx rfl (hb hby d27_30) rfl rfl ?_
    exact k)
  obtain ⟨fs, hr, hrun, hended, hW, hsame⟩ := X112.leave (v := some (.ref b103)) (fun h => by rw [Bd.returns] at h; cases h)
  refine ⟨_, _, pre116 _ ?_, hrun, hended, _, _, rfl, ?_, ⟨_, rfl⟩, hW, hsame.mono (by decide) (by decide)⟩
  · exact retOut X112 hx Bd.returns rfl (Or.inr (Or.inr (Or.inr (Or.inr ⟨rfl, rfl, rfl⟩)))) (hb hby d27_32) hr
  · show QCb_4_2 Z a1 k1 y0 y1 y2 y3 h0 n0 _ T112.heap _
    rw [e112]
    exact ⟨b103, k103, rfl, N112, f115, ga105, sz106, Vc112⟩
theorem ef_rmCr_4_2 (m : MethodId) (x0 : Addr) : entryFrame m #[(.ref x0), (.int 2), (.int 4)] 3 = mkF m 0 #[rv x0, iv 2, iv 4] [] := by first | (simp [entryFrame, mkF, argsToLocals, Value.category]; done) | rfl
def QCr_4_2 (Z : State) (a1 : Addr) (k1 : ClassId) (y0 : Int32) (y1 : Int32) (y2 : Int32) (y3 : Int32) (h0 : Heap) (n0 : Nat) (v : Option Value) (h : Heap) (L : List Loc) : Prop := ∃ (b : Addr) (kb : ClassId), v = some (.ref b) ∧ Fr n0 L ∧ Keep h0 h [] ∧ (n0 ≤ b) ∧ (h0.size ≤ b) ∧ (Arv Z h b kb .byte (2 : Int32) [(.int y2), (.int y3)] (.int 0))
set_option maxRecDepth 65536 in
set_option maxHeartbeats 40000000 in
theorem rmCr_4_2 (l : Launch) (Z : State) (a0 : Array Value) (hw : ∀ d ∈ tables_1, d.before a0 Z = true) (ws : List Jvm.Cond) (a1 : Addr) (k1 : ClassId) (y0 : Int32) (y1 : Int32) (y2 : Int32) (y3 : Int32) (h0 : Heap) (n0 : Nat) (Z0 : n0 ≤ h0.size) (V1 : Arv Z h0 a1 k1 .byte (4 : Int32) [(.int y0), (.int y1), (.int y2), (.int y3)] (.int 0)) :
    own_M l own_y22 jdk_65_method_132_code 3 (some (.array .byte)) ws (own_R 2 1 2 56) Z h0 #[(.ref a1), (.int 2), (.int 4)] (QCr_4_2 Z a1 k1 y0 y1 y2 y3 h0 n0) := by
  refine MetFree.of_bodySF (plainFor_of_name pn_java_util_Arrays) hisR ?_
  intro p e s m args below meth c s₁ Bd hml0 hP hK
  obtain ⟨rfl, hZ, hh⟩ := hP
  have hx := Bd.exec
  have hby := Bd.bytes
  have hml : c.maxLocals = 3 := hml0
  have hown : s.vm.findClass "java/util/Arrays" = some m.cls := findClass_of_methodNamed Bd.named
  have hnm := (name_of_methodNamed Bd.named Bd.method).1
  have X0 : Stand p l e (own_R 2 1 2 56) s m #[(.ref a1), (.int 2), (.int 4)] below meth c s₁ [] 0 0 := Stand.of_body Bd
  have e0 : s₁.heap = h0 := by rw [← hh, Bd.state]; rfl
  have N0 := Fr.nil n0
  have pre0 : own_P p e below s₁ (entryFrame m #[(.ref a1), (.int 2), (.int 4)] 3) s₁ (mkF m 0 #[rv a1, iv 2, iv 4] []) := fun t k => castTop (ef_rmCr_4_2 m a1) k
  have f101 := Keep.refl h0 []
  obtain ⟨_, _, ⟨T102, L102, k102, n102⟩, -, X102, ⟨Lc102, hQ102, l102, y102, z102⟩, st102⟩ := Jvm.LawKit.callS X0 hx (y := own_y21) hown (own_m hZ hw 114) (own_m hZ hw 115) (own_m hZ hw 112) (own_m hZ hw 116) (by decide) (backOf (W := 0) (rmCb_4_2 l Z a0 hw [] a1 k1 y0 y1 y2 y3 h0 n0 Z0 V1) hZ (own_i hw 116 rfl) (own_i hw 112 rfl) (by decide) (by decide)) (g := (mkF m 13 #[rv a1, iv 2, iv 4] [(.int 4), (.int 2), (.ref a1)])) rfl (by rw [hml]; rfl) (argsL := [(.ref a1), (.int 2), (.int 4)]) (rest := []) (lenOf pd_13 rfl) rfl (Nat.le_of_eq rfl) (hb hby d26_13) (fun _ _ => ⟨rfl, e0, (by decide : 0 + 1 ≤ _), (by decide : 0 + 2 ≤ _)⟩)
  dsimp only [Pt.U, Pt.locs, Pt.cells, Pt.slots] at X102 l102 y102 z102 st102 hQ102
  subst l102 y102 z102
  obtain ⟨b103, x104, rfl, N102q, K102, f105, f106, f107⟩ := hQ102
  have N102 := Fr.app N0 N102q
  have ne108 : a1 ≠ b103 := Nat.ne_of_lt (Nat.lt_of_lt_of_le V1.lt f106)
  have f109 := Nat.le_trans Z0 K102.1
  have f110 := V1.keep K102 nin0
  have f111 := f101.trans K102 all0
  have pre112 : own_P p e below s₁ (entryFrame m #[(.ref a1), (.int 2), (.int 4)] 3) T102 (mkF m 16 #[rv a1, iv 2, iv 4] [(.ref b103)]) := fun t k => pre0 t (by
    show Steps p.tables e below (s₁.setTop (mkF m 0 #[rv a1, iv 2, iv 4] [])) t
    refine XS.iloadN X0.here hx rfl (hb hby d26_0) rfl ?_
    refine XS.ifYes X0.here hx rfl (pc0 := 1) (pc' := 10) rfl (hb hby d26_1) rfl ((if0 _ _).trans (feq (by decide : ¬ ((2 : Int32) = (0 : Int32)))).2) (by decide) (by decide) ?_
    refine XS.aloadN X0.here hx rfl (hb hby d26_10) rfl rfl ?_
    refine XS.iloadN X0.here hx rfl (hb hby d26_11) rfl ?_
    refine XS.iloadN X0.here hx rfl (hb hby d26_12) rfl ?_
    refine st102 _ ?_
    exact k)
  obtain ⟨fs, hr, hrun, hended, hW, hsame⟩ := X102.leave (v := some (.ref b103)) (fun h => by rw [Bd.returns] at h; cases h)
  refine ⟨_, _, pre112 _ ?_, hrun, hended, _, _, rfl, ?_, ⟨_, rfl⟩, hW, hsame.mono (by decide) (by decide)⟩
  · exact retOut X102 hx Bd.returns rfl (Or.inr (Or.inr (Or.inr (Or.inr ⟨rfl, rfl, rfl⟩)))) (hb hby d26_16) hr
  · show QCr_4_2 Z a1 k1 y0 y1 y2 y3 h0 n0 _ T102.heap _
    exact ⟨b103, x104, rfl, N102, f111, f105, f106, f107⟩
theorem ef_rmNs_4_2 (m : MethodId) (x0 : Addr) : entryFrame m #[(.ref x0), (.int 2), (.int 2)] 3 = mkF m 0 #[rv x0, iv 2, iv 2] [] := by first | (simp [entryFrame, mkF, argsToLocals, Value.category]; done) | rfl
def QNs_4_2 (Z : State) (a1 : Addr) (k1 : ClassId) (y0 : Int32) (y1 : Int32) (y2 : Int32) (y3 : Int32) (h0 : Heap) (n0 : Nat) (v : Option Value) (h : Heap) (L : List Loc) : Prop := ∃ (b : Addr) (tb : Addr) (kb : ClassId), v = some (.ref b) ∧ Fr n0 L ∧ Keep h0 h [] ∧ (n0 ≤ b) ∧ (h0.size ≤ b) ∧ (Exa Z h b "java/lang/String") ∧ (Fld Z h b "java/lang/String" "coder" "B" (.int 0)) ∧ (Fld Z h b "java/lang/String" "value" "[B" (.ref tb)) ∧ (n0 ≤ tb) ∧ (h0.size ≤ tb) ∧ (Arv Z h tb kb .byte (2 : Int32) [(.int y2), (.int y3)] (.int 0))
set_option maxRecDepth 65536 in
set_option maxHeartbeats 40000000 in
theorem rmNs_4_2 (l : Launch) (Z : State) (a0 : Array Value) (hw : ∀ d ∈ tables_1, d.before a0 Z = true) (ws : List Jvm.Cond) (a1 : Addr) (k1 : ClassId) (y0 : Int32) (y1 : Int32) (y2 : Int32) (y3 : Int32) (h0 : Heap) (n0 : Nat) (Z0 : n0 ≤ h0.size) (V1 : Arv Z h0 a1 k1 .byte (4 : Int32) [(.int y0), (.int y1), (.int y2), (.int y3)] (.int 0)) :
    own_M l own_y23 jdk_43_method_47_code 3 (some (.object "java/lang/String")) ws (own_R 3 2 6 72) Z h0 #[(.ref a1), (.int 2), (.int 2)] (QNs_4_2 Z a1 k1 y0 y1 y2 y3 h0 n0) := by
  refine MetFree.of_bodySF (plainFor_of_name pn_java_lang_StringLatin1) hisR ?_
  intro p e s m args below meth c s₁ Bd hml0 hP hK
  obtain ⟨rfl, hZ, hh⟩ := hP
  have hx := Bd.exec
  have hby := Bd.bytes
  have hml : c.maxLocals = 3 := hml0
  have hown : s.vm.findClass "java/lang/StringLatin1" = some m.cls := findClass_of_methodNamed Bd.named
  have hnm := (name_of_methodNamed Bd.named Bd.method).1
  have X0 : Stand p l e (own_R 3 2 6 72) s m #[(.ref a1), (.int 2), (.int 2)] below meth c s₁ [] 0 0 := Stand.of_body Bd
  have e0 : s₁.heap = h0 := by rw [← hh, Bd.state]; rfl
  have N0 := Fr.nil n0
  have pre0 : own_P p e below s₁ (entryFrame m #[(.ref a1), (.int 2), (.int 2)] 3) s₁ (mkF m 0 #[rv a1, iv 2, iv 2] []) := fun t k => castTop (ef_rmNs_4_2 m a1) k
  have f101 := Keep.refl h0 []
  obtain ⟨T102, h102, X102, e102, E102, A102, D102, -, st102⟩ := newO X0 hx hZ hown (own_i hw 109 rfl) (own_i hw 9 rfl) (own_i hw 10 rfl) e0 (g := (mkF m 7 #[rv a1, iv 2, iv 2] [])) rfl (hb hby d25_7) (by decide) (by decide)
  obtain ⟨b102, g102⟩ : ∃ z, z = h0.size := ⟨_, rfl⟩
  rw [← g102] at A102 D102 st102
  have ne103 : a1 ≠ b102 := Nat.ne_of_lt (Nat.lt_of_lt_of_le V1.lt (Nat.le_of_eq g102.symm))
  have ga104 : n0 ≤ b102 := Nat.le_trans Z0 (Nat.le_of_eq g102.symm)
  have sz105 : h0.size ≤ b102 := Nat.le_trans f101.1 (Nat.le_of_eq g102.symm)
  have f106 : Fld Z h102 b102 "java/lang/String" "coder" "B" (.int 0) := D102 (Or.inr (own_i hw 38 rfl)) (ty := .byte) (by decide)
  have f107 : Fld Z h102 b102 "java/lang/String" "value" "[B" .null := D102 (Or.inr (own_i hw 40 rfl)) (ty := (.array .byte)) (by decide)
  have f108 := Nat.le_trans Z0 E102.1
  have f109 := V1.ext E102
  have f110 := f101.ext E102
  obtain ⟨_, _, ⟨T111, L111, k111, n111⟩, -, X111, ⟨Lc111, hQ111, l111, y111, z111⟩, st111⟩ := Jvm.LawKit.callS X102 hx (y := own_y22) hown (own_m hZ hw 110) (own_m hZ hw 111) (own_m hZ hw 112) (own_m hZ hw 113) (by decide) (backOf (W := 2) (rmCr_4_2 l Z a0 hw [] a1 k1 y0 y1 y2 y3 h102 n0 f108 f109) hZ (own_i hw 113 rfl) (own_i hw 112 rfl) (by decide) (by decide)) (g := (mkF m 16 #[rv a1, iv 2, iv 2] [(.int 4), (.int 2), (.ref a1), (.ref b102), (.ref b102)])) rfl (by rw [hml]; rfl) (argsL := [(.ref a1), (.int 2), (.int 4)]) (rest := [(.ref b102), (.ref b102)]) (lenOf pd_13 rfl) rfl (Nat.le_of_eq rfl) (hb hby d25_16) (fun _ _ => ⟨rfl, e102, (by decide : 1 + 1 ≤ _), (by decide : 4 + 2 ≤ _)⟩)
  dsimp only [Pt.U, Pt.locs, Pt.cells, Pt.slots] at X111 l111 y111 z111 st111 hQ111
  subst l111 y111 z111
  obtain ⟨b112, x113, rfl, N111q, K111, f114, f115, f116⟩ := hQ111
  have N111 := Fr.app N0 N111q
  have ne117 : a1 ≠ b112 := Nat.ne_of_lt (Nat.lt_of_lt_of_le f109.lt f115)
  have ne118 : b102 ≠ b112 := Nat.ne_of_lt (Nat.lt_of_lt_of_le A102.lt f115)
  have sz119 : h0.size ≤ b112 := Nat.le_trans f110.1 f115
  have f120 := Nat.le_trans f108 K111.1
  have f121 := f109.keep K111 nin0
  have f122 := f110.trans K111 all0
  have f123 := A102.keep K111
  have f124 := f106.keep K111 nin0
  have f125 := f107.keep K111 nin0
  obtain ⟨_, _, ⟨T126, L126, k126, n126⟩, -, X126, ⟨Lc126, hQ126, l126, y126, z126⟩, st126⟩ := X111.specialBack hx (y := own_y19) rfl hown (own_m hZ hw 128) (own_m hZ hw 129) (own_m hZ hw 130) (by decide) (backOf (W := 1) (rmSi l Z a0 hw [] b102 b112 T111.heap n0 f120 f125 f124 f123 ga104) hZ (own_i hw 130 rfl) (own_i hw 10 rfl) (by decide) (by decide)) (g := (mkF m 20 #[rv a1, iv 2, iv 2] [(.int 0), (.ref b112), (.ref b102), (.ref b102)])) rfl (by rw [hml]; rfl) (Steps.refl _) (a := b102) (argsL := [(.ref b112), (.int 0)]) (rest := [(.ref b102)]) (lenOf pd_14 rfl) rfl (Nat.le_of_eq rfl) (hb hby d25_20) (fun _ _ => ⟨rfl, rfl, (by decide : 2 + 0 ≤ _), (by decide : 6 + 0 ≤ _)⟩)
  dsimp only [Pt.U, Pt.locs, Pt.cells, Pt.slots] at X126 l126 y126 z126 st126 hQ126
  subst l126 y126 z126
  obtain ⟨rfl, N126q, K126, f127, f128, f129⟩ := hQ126
  have N126 := Fr.app N111 N126q
  have f130 := Nat.le_trans f120 K126.1
  have f131 := f121.keep K126 (ninS ne103 nin0)
  have f132 := f122.trans K126 (allS (Or.inr sz105) all0)
  have f133 := f116.keep K126 (ninS (Ne.symm ne118) nin0)
  have pre134 : own_P p e below s₁ (entryFrame m #[(.ref a1), (.int 2), (.int 2)] 3) T126 (mkF m 23 #[rv a1, iv 2, iv 2] [(.ref b102)]) := fun t k => pre0 t (by
    show Steps p.tables e below (s₁.setTop (mkF m 0 #[rv a1, iv 2, iv 2] [])) t
    refine XS.iloadN X0.here hx rfl (hb hby d25_0) rfl ?_
    refine XS.ifYes X0.here hx rfl (pc0 := 1) (pc' := 7) rfl (hb hby d25_1) rfl ((if0 _ _).trans (feq (by decide : ¬ ((2 : Int32) = (0 : Int32)))).2) (by decide) (by decide) ?_
    refine st102 _ ?_
    refine XS.dup X102.here hx rfl (hb hby d25_10) rfl rfl ?_
    refine XS.aloadN X102.here hx rfl (hb hby d25_11) rfl rfl ?_
    refine XS.iloadN X102.here hx rfl (hb hby d25_12) rfl ?_
    refine XS.iloadN X102.here hx rfl (hb hby d25_13) rfl ?_
    refine XS.iloadN X102.here hx rfl (hb hby d25_14) rfl ?_
    refine XS.iadd X102.here hx rfl (hb hby d25_15) rfl ?_
    refine st111 _ ?_
    refine XS.iconst X111.here hx rfl (hb hby d25_19) ?_
    refine st126.trans ?_
    exact k)
  obtain ⟨fs, hr, hrun, hended, hW, hsame⟩ := X126.leave (v := some (.ref b102)) (fun h => by rw [Bd.returns] at h; cases h)
  refine ⟨_, _, pre134 _ ?_, hrun, hended, _, _, rfl, ?_, ⟨_, rfl⟩, hW, hsame.mono (by decide) (by decide)⟩
  · exact retOut X126 hx Bd.returns rfl (Or.inr (Or.inr (Or.inr (Or.inr ⟨rfl, rfl, rfl⟩)))) (hb hby d25_23) hr
  · show QNs_4_2 Z a1 k1 y0 y1 y2 y3 h0 n0 _ T126.heap _
    exact ⟨b102, b112, x113, rfl, N126, f132, ga104, sz105, f127, f128, f129, f114, sz119, f133⟩
theorem ef_rmS2_4_2 (m : MethodId) (x0 : Addr) : entryFrame m #[(.ref x0), (.int 2), (.int 4)] 5 = mkF m 0 #[rv x0, iv 2, iv 4, .unset, .unset] [] := by first | (simp [entryFrame, mkF, argsToLocals, Value.category]; done) | rfl
def QS2_4_2 (Z : State) (a1 : Addr) (cs : Int32) (vF : Value) (t : Addr) (kt : ClassId) (y0 : Int32) (y1 : Int32) (y2 : Int32) (y3 : Int32) (h0 : Heap) (n0 : Nat) (v : Option Value) (h : Heap) (L : List Loc) : Prop := ∃ (b : Addr) (tb : Addr) (kb : ClassId), v = some (.ref b) ∧ Fr n0 L ∧ Keep h0 h [] ∧ (n0 ≤ b) ∧ (h0.size ≤ b) ∧ (Exa Z h b "java/lang/String") ∧ (Fld Z h b "java/lang/String" "coder" "B" (.int 0)) ∧ (Fld Z h b "java/lang/String" "value" "[B" (.ref tb)) ∧ (n0 ≤ tb) ∧ (h0.size ≤ tb) ∧ (Arv Z h tb kb .byte (2 : Int32) [(.int y2), (.int y3)] (.int 0))
set_option maxRecDepth 65536 in
set_option maxHeartbeats 40000000 in
theorem rmS2_4_2 (l : Launch) (Z : State) (a0 : Array Value) (hw : ∀ d ∈ tables_1, d.before a0 Z = true) (ws : List Jvm.Cond) (a1 : Addr) (cs : Int32) (vF : Value) (t : Addr) (kt : ClassId) (y0 : Int32) (y1 : Int32) (y2 : Int32) (y3 : Int32) (h0 : Heap) (n0 : Nat) (Z0 : n0 ≤ h0.size) (SC : Sta Z h0 "java/lang/String" "COMPACT_STRINGS" "Z" (.int cs)) (hcs : ¬ (cs = (0 : Int32))) (SF : Sta Z h0 "jdk/internal/util/Preconditions" "SIOOBE_FORMATTER" "Ljava/util/function/BiFunction;" vF) (hF : vF.isRef = true) (E1 : Exa Z h0 a1 "java/lang/String") (C1 : Fld Z h0 a1 "java/lang/String" "coder" "B" (.int 0)) (W1 : Fld Z h0 a1 "java/lang/String" "value" "[B" (.ref t)) (V1 : Arv Z h0 t kt .byte (4 : Int32) [(.int y0), (.int y1), (.int y2), (.int y3)] (.int 0)) :
    own_M l own_y24 jdk_42_method_92_code 5 (some (.object "java/lang/String")) ws (own_R 4 2 6 86) Z h0 #[(.ref a1), (.int 2), (.int 4)] (QS2_4_2 Z a1 cs vF t kt y0 y1 y2 y3 h0 n0) := by
  refine MetFree.of_bodySF (plainFor_of_name pn_java_lang_String) hisR ?_
  intro p e s m args below meth c s₁ Bd hml0 hP hK
  obtain ⟨rfl, hZ, hh⟩ := hP
  have hx := Bd.exec
  have hby := Bd.bytes
  have hml : c.maxLocals = 5 := hml0
  have hown : s.vm.findClass "java/lang/String" = some m.cls := findClass_of_methodNamed Bd.named
  have hnm := (name_of_methodNamed Bd.named Bd.method).1
  have X0 : Stand p l e (own_R 4 2 6 86) s m #[(.ref a1), (.int 2), (.int 4)] below meth c s₁ [] 0 0 := Stand.of_body Bd
  have e0 : s₁.heap = h0 := by rw [← hh, Bd.state]; rfl
  have N0 := Fr.nil n0
  have pre0 : own_P p e below s₁ (entryFrame m #[(.ref a1), (.int 2), (.int 4)] 5) s₁ (mkF m 0 #[rv a1, iv 2, iv 4, .unset, .unset] []) := fun t k => castTop (ef_rmS2_4_2 m a1) k
  have f101 := Keep.refl h0 []
  obtain ⟨cq102, kq102, q102a, q102b, q102c⟩ := isOf hZ e0 E1
  obtain ⟨_, _, ⟨T102, L102, k102, n102⟩, -, X102, ⟨Lc102, hQ102, l102, y102, z102⟩, st102⟩ := X0.virtualBack hx (y := own_y11) (z := own_y11) hown (own_m hZ hw 63) (own_m hZ hw 49) (notFace_of_selects (args := #[]) (own_m hZ hw 51)) (own_m hZ hw 51) (own_m hZ hw 50) (by decide) (backOf (W := 0) (rmLen l Z a0 hw [] a1 cs t kt (4 : Int32) ([(.int y0), (.int y1), (.int y2), (.int y3)]) h0 n0 Z0 SC hcs E1 C1 W1 V1) hZ (own_i hw 52 rfl) (own_i hw 10 rfl) (by decide) (by decide)) q102a q102c (g := (mkF m 1 #[rv a1, iv 2, iv 4, .unset, .unset] [(.ref a1)])) rfl (by rw [hml]; rfl) (Steps.refl _) (argsL := []) (rest := []) (lenOf pd_15 rfl) rfl (Nat.le_of_eq rfl) (hb hby d15_1) (fun _ _ => ⟨rfl, e0, (by decide : 0 + 0 ≤ _), (by decide : 0 + 0 ≤ _)⟩)
  dsimp only [Pt.U, Pt.locs, Pt.cells, Pt.slots] at X102 l102 y102 z102 st102 hQ102
  subst l102 y102 z102
  obtain ⟨rfl, N102q, e102⟩ := hQ102
  have N102 := Fr.app N0 N102q
  obtain ⟨_, _, ⟨T103, L103, k103, n103⟩, -, X103, ⟨Lc103, hQ103, l103, y103, z103⟩, st103⟩ := Jvm.LawKit.callS X102 hx (y := own_y17) hown (own_m hZ hw 69) (own_m hZ hw 70) (own_m hZ hw 10) (own_m hZ hw 71) (by decide) (backOf (W := 0) (rmBe l Z a0 hw [] (2 : Int32) (4 : Int32) (4 : Int32) vF h0 n0 Z0 SF hF (by first | assumption | rfl | decide | omega | simp_all) (by first | assumption | rfl | decide | omega | simp_all) (by first | assumption | rfl | decide | omega | simp_all)) hZ (own_i hw 71 rfl) (own_i hw 10 rfl) (by decide) (by decide)) (g := (mkF m 8 #[rv a1, iv 2, iv 4, iv 4, .unset] [(.int 4), (.int 4), (.int 2)])) rfl (by rw [hml]; rfl) (argsL := [(.int 2), (.int 4), (.int 4)]) (rest := []) (lenOf pd_16 rfl) rfl (Nat.le_of_eq rfl) (hb hby d15_8) (fun _ _ => ⟨rfl, e102, (by decide : 0 + 0 ≤ _), (by decide : 0 + 0 ≤ _)⟩)
  dsimp only [Pt.U, Pt.locs, Pt.cells, Pt.slots] at X103 l103 y103 z103 st103 hQ103
  subst l103 y103 z103
  obtain ⟨rfl, N103q, e103⟩ := hQ103
  have N103 := Fr.app N102 N103q
  obtain ⟨cq104, kq104, q104a, q104b, q104c⟩ := isOf hZ e103 E1
  obtain ⟨_, _, ⟨T104, L104, k104, n104⟩, -, X104, ⟨Lc104, hQ104, l104, y104, z104⟩, st104⟩ := X103.virtualBack hx (y := own_y10) (z := own_y10) hown (own_m hZ hw 92) (own_m hZ hw 93) (notFace_of_selects (args := #[]) (own_m hZ hw 95)) (own_m hZ hw 95) (own_m hZ hw 94) (by decide) (backOf (W := 0) (rmIl l Z a0 hw [] a1 cs h0 n0 Z0 SC hcs C1) hZ (own_i hw 96 rfl) (own_i hw 10 rfl) (by decide) (by decide)) q104a q104c (g := (mkF m 28 #[rv a1, iv 2, iv 4, iv 4, iv 2] [(.ref a1)])) rfl (by rw [hml]; rfl) (Steps.refl _) (argsL := []) (rest := []) (lenOf pd_9 rfl) rfl (Nat.le_of_eq rfl) (hb hby d15_28) (fun _ _ => ⟨rfl, e103, (by decide : 0 + 0 ≤ _), (by decide : 0 + 0 ≤ _)⟩)
  dsimp only [Pt.U, Pt.locs, Pt.cells, Pt.slots] at X104 l104 y104 z104 st104 hQ104
  subst l104 y104 z104
  obtain ⟨rfl, N104q, e104⟩ := hQ104
  have N104 := Fr.app N103 N104q
  obtain ⟨T105, X105, e105, st105⟩ := getF X104 hx hZ hown (host := "") (Or.inl (own_i hw 39 rfl)) Via.refl e104 W1 (g := (mkF m 35 #[rv a1, iv 2, iv 4, iv 4, iv 2] [(.ref a1)])) rfl rfl (hb hby d15_35)
  obtain ⟨_, _, ⟨T106, L106, k106, n106⟩, -, X106, ⟨Lc106, hQ106, l106, y106, z106⟩, st106⟩ := Jvm.LawKit.callS X105 hx (y := own_y23) hown (own_m hZ hw 106) (own_m hZ hw 107) (own_m hZ hw 85) (own_m hZ hw 108) (by decide) (backOf (W := 0) (rmNs_4_2 l Z a0 hw [] t kt y0 y1 y2 y3 h0 n0 Z0 V1) hZ (own_i hw 108 rfl) (own_i hw 85 rfl) (by decide) (by decide)) (g := (mkF m 41 #[rv a1, iv 2, iv 4, iv 4, iv 2] [(.int 2), (.int 2), (.ref t)])) rfl (by rw [hml]; rfl) (argsL := [(.ref t), (.int 2), (.int 2)]) (rest := []) (lenOf pd_17 rfl) rfl (Nat.le_of_eq rfl) (hb hby d15_41) (fun _ _ => ⟨rfl, e105, (by decide : 0 + 2 ≤ _), (by decide : 0 + 6 ≤ _)⟩)
  dsimp only [Pt.U, Pt.locs, Pt.cells, Pt.slots] at X106 l106 y106 z106 st106 hQ106
  subst l106 y106 z106
  obtain ⟨b107, b108, x109, rfl, N106q, K106, f110, f111, f112, f113, f114, f115, f116, f117⟩ := hQ106
  have N106 := Fr.app N104 N106q
  have ne118 : a1 ≠ b107 := Nat.ne_of_lt (Nat.lt_of_lt_of_le E1.lt f111)
  have ne119 : t ≠ b107 := Nat.ne_of_lt (Nat.lt_of_lt_of_le V1.lt f111)
  have ne120 : a1 ≠ b108 := Nat.ne_of_lt (Nat.lt_of_lt_of_le E1.lt f116)
  have ne121 : t ≠ b108 := Nat.ne_of_lt (Nat.lt_of_lt_of_le V1.lt f116)
  have f122 := Nat.le_trans Z0 K106.1
  have f123 := E1.keep K106
  have f124 := C1.keep K106 nin0
  have f125 := W1.keep K106 nin0
  have f126 := V1.keep K106 nin0
  have f127 := f101.trans K106 all0
  have pre128 : own_P p e below s₁ (entryFrame m #[(.ref a1), (.int 2), (.int 4)] 5) T106 (mkF m 57 #[rv a1, iv 2, iv 4, iv 4, iv 2] [(.ref b107)]) := fun t k => pre0 t (by
    show Steps p.tables e below (s₁.setTop (mkF m 0 #[rv a1, iv 2, iv 4, .unset, .unset] [])) t
    refine XS.aloadN X0.here hx rfl (hb hby d15_0) rfl rfl ?_
    refine st102.trans ?_
    refine XS.istoreN X102.here hx rfl (hb hby d15_4) rfl (l' := #[rv a1, iv 2, iv 4, iv 4, .unset]) rfl ?_
    refine XS.iloadN X102.here hx rfl (hb hby d15_5) rfl ?_
    refine XS.iloadN X102.here hx rfl (hb hby d15_6) rfl ?_
    refine XS.iloadN X102.here hx rfl (hb hby d15_7) rfl ?_
    refine st103 _ ?_
    refine XS.iloadN X103.here hx rfl (hb hby d15_11) rfl ?_
    refine XS.ifYes X103.here hx rfl (pc0 := 12) (pc' := 22) rfl (hb hby d15_12) rfl ((if0 _ _).trans (feq (by decide : ¬ ((2 : Int32) = (0 : Int32)))).2) (by decide) (by decide) ?_
    refine XS.iloadN X103.here hx rfl (hb hby d15_22) rfl ?_
    refine XS.iloadN X103.here hx rfl (hb hby d15_23) rfl ?_
    refine XS.isub X103.here hx rfl (hb hby d15_24) rfl ?_
    refine XS.istore X103.here hx rfl (hb hby d15_25) rfl (l' := #[rv a1, iv 2, iv 4, iv 4, iv 2]) rfl ?_
    refine XS.aloadN X103.here hx rfl (hb hby d15_27) rfl rfl ?_
    refine st104.trans ?_
    refine XS.ifNo X104.here hx rfl (hb hby d15_31) rfl ((if0 _ _).trans (feq (by decide : ¬ ((1 : Int32) = (0 : Int32)))).1) ?_
    refine XS.aloadN X104.here hx rfl (hb hby d15_34) rfl rfl ?_
    refine st105 _ ?_
    refine XS.iloadN X105.here hx rfl (hb hby d15_38) rfl ?_
    refine XS.iload X105.here hx rfl (hb hby d15_39) rfl ?_
    refine st106 _ ?_
    refine XS.goto X106.here hx rfl (pc0 := 44) (pc' := 57) rfl (hb hby d15_44) (by decide) (by decide) ?_
    exact k)
  obtain ⟨fs, hr, hrun, hended, hW, hsame⟩ := X106.leave (v := some (.ref b107)) (fun h => by rw [Bd.returns] at h; cases h)
  refine ⟨_, _, pre128 _ ?_, hrun, hended, _, _, rfl, ?_, ⟨_, rfl⟩, hW, hsame.mono (by decide) (by decide)⟩
  · exact retOut X106 hx Bd.returns rfl (Or.inr (Or.inr (Or.inr (Or.inr ⟨rfl, rfl, rfl⟩)))) (hb hby d15_57) hr
  · show QS2_4_2 Z a1 cs vF t kt y0 y1 y2 y3 h0 n0 _ T106.heap _
    exact ⟨b107, b108, x109, rfl, N106, f127, f110, f111, f112, f113, f114, f115, f116, f117⟩
theorem ef_rmS1_4_2 (m : MethodId) (x0 : Addr) : entryFrame m #[(.ref x0), (.int 2)] 2 = mkF m 0 #[rv x0, iv 2] [] := by first | (simp [entryFrame, mkF, argsToLocals, Value.category]; done) | rfl
def QS1_4_2 (Z : State) (a1 : Addr) (cs : Int32) (vF : Value) (t : Addr) (kt : ClassId) (y0 : Int32) (y1 : Int32) (y2 : Int32) (y3 : Int32) (h0 : Heap) (n0 : Nat) (v : Option Value) (h : Heap) (L : List Loc) : Prop := ∃ (b : Addr) (tb : Addr) (kb : ClassId), v = some (.ref b) ∧ Fr n0 L ∧ Keep h0 h [] ∧ (n0 ≤ b) ∧ (h0.size ≤ b) ∧ (Exa Z h b "java/lang/String") ∧ (Fld Z h b "java/lang/String" "coder" "B" (.int 0)) ∧ (Fld Z h b "java/lang/String" "value" "[B" (.ref tb)) ∧ (n0 ≤ tb) ∧ (h0.size ≤ tb) ∧ (Arv Z h tb kb .byte (2 : Int32) [(.int y2), (.int y3)] (.int 0))
set_option maxRecDepth 65536 in
set_option maxHeartbeats 40000000 in
theorem rmS1_4_2 (l : Launch) (Z : State) (a0 : Array Value) (hw : ∀ d ∈ tables_1, d.before a0 Z = true) (ws : List Jvm.Cond) (a1 : Addr) (cs : Int32) (vF : Value) (t : Addr) (kt : ClassId) (y0 : Int32) (y1 : Int32) (y2 : Int32) (y3 : Int32) (h0 : Heap) (n0 : Nat) (Z0 : n0 ≤ h0.size) (SC : Sta Z h0 "java/lang/String" "COMPACT_STRINGS" "Z" (.int cs)) (hcs : ¬ (cs = (0 : Int32))) (SF : Sta Z h0 "jdk/internal/util/Preconditions" "SIOOBE_FORMATTER" "Ljava/util/function/BiFunction;" vF) (hF : vF.isRef = true) (E1 : Exa Z h0 a1 "java/lang/String") (C1 : Fld Z h0 a1 "java/lang/String" "coder" "B" (.int 0)) (W1 : Fld Z h0 a1 "java/lang/String" "value" "[B" (.ref t)) (V1 : Arv Z h0 t kt .byte (4 : Int32) [(.int y0), (.int y1), (.int y2), (.int y3)] (.int 0)) :
    own_M l own_y25 jdk_42_method_91_code 2 (some (.object "java/lang/String")) ws (own_R 5 2 6 102) Z h0 #[(.ref a1), (.int 2)] (QS1_4_2 Z a1 cs vF t kt y0 y1 y2 y3 h0 n0) := by
  refine MetFree.of_bodySF (plainFor_of_name pn_java_lang_String) hisR ?_
  intro p e s m args below meth c s₁ Bd hml0 hP hK
  obtain ⟨rfl, hZ, hh⟩ := hP
  have hx := Bd.exec
  have hby := Bd.bytes
  have hml : c.maxLocals = 2 := hml0
  have hown : s.vm.findClass "java/lang/String" = some m.cls := findClass_of_methodNamed Bd.named
  have hnm := (name_of_methodNamed Bd.named Bd.method).1
  have X0 : Stand p l e (own_R 5 2 6 102) s m #[(.ref a1), (.int 2)] below meth c s₁ [] 0 0 := Stand.of_body Bd
  have e0 : s₁.heap = h0 := by rw [← hh, Bd.state]; rfl
  have N0 := Fr.nil n0
  have pre0 : own_P p e below s₁ (entryFrame m #[(.ref a1), (.int 2)] 2) s₁ (mkF m 0 #[rv a1, iv 2] []) := fun t k => castTop (ef_rmS1_4_2 m a1) k
  have f101 := Keep.refl h0 []
  obtain ⟨cq102, kq102, q102a, q102b, q102c⟩ := isOf hZ e0 E1
  obtain ⟨_, _, ⟨T102, L102, k102, n102⟩, -, X102, ⟨Lc102, hQ102, l102, y102, z102⟩, st102⟩ := X0.virtualBack hx (y := own_y11) (z := own_y11) hown (own_m hZ hw 63) (own_m hZ hw 49) (notFace_of_selects (args := #[]) (own_m hZ hw 51)) (own_m hZ hw 51) (own_m hZ hw 50) (by decide) (backOf (W := 2) (rmLen l Z a0 hw [] a1 cs t kt (4 : Int32) ([(.int y0), (.int y1), (.int y2), (.int y3)]) h0 n0 Z0 SC hcs E1 C1 W1 V1) hZ (own_i hw 52 rfl) (own_i hw 10 rfl) (by decide) (by decide)) q102a q102c (g := (mkF m 3 #[rv a1, iv 2] [(.ref a1), (.int 2), (.ref a1)])) rfl (by rw [hml]; rfl) (Steps.refl _) (argsL := []) (rest := [(.int 2), (.ref a1)]) (lenOf pd_15 rfl) rfl (Nat.le_of_eq rfl) (hb hby d14_3) (fun _ _ => ⟨rfl, e0, (by decide : 0 + 0 ≤ _), (by decide : 0 + 0 ≤ _)⟩)
  dsimp only [Pt.U, Pt.locs, Pt.cells, Pt.slots] at X102 l102 y102 z102 st102 hQ102
  subst l102 y102 z102
  obtain ⟨rfl, N102q, e102⟩ := hQ102
  have N102 := Fr.app N0 N102q
  obtain ⟨cq103, kq103, q103a, q103b, q103c⟩ := isOf hZ e102 E1
  obtain ⟨_, _, ⟨T103, L103, k103, n103⟩, -, X103, ⟨Lc103, hQ103, l103, y103, z103⟩, st103⟩ := X102.virtualBack hx (y := own_y24) (z := own_y24) hown (own_m hZ hw 64) (own_m hZ hw 65) (notFace_of_selects (args := #[]) (own_m hZ hw 67)) (own_m hZ hw 67) (own_m hZ hw 66) (by decide) (backOf (W := 0) (rmS2_4_2 l Z a0 hw [] a1 cs vF t kt y0 y1 y2 y3 h0 n0 Z0 SC hcs SF hF E1 C1 W1 V1) hZ (own_i hw 68 rfl) (own_i hw 10 rfl) (by decide) (by decide)) q103a q103c (g := (mkF m 6 #[rv a1, iv 2] [(.int 4), (.int 2), (.ref a1)])) rfl (by rw [hml]; rfl) (Steps.refl _) (argsL := [(.int 2), (.int 4)]) (rest := []) (lenOf pd_18 rfl) rfl (Nat.le_of_eq rfl) (hb hby d14_6) (fun _ _ => ⟨rfl, e102, (by decide : 0 + 2 ≤ _), (by decide : 0 + 6 ≤ _)⟩)
  dsimp only [Pt.U, Pt.locs, Pt.cells, Pt.slots] at X103 l103 y103 z103 st103 hQ103
  subst l103 y103 z103
  obtain ⟨b104, b105, x106, rfl, N103q, K103, f107, f108, f109, f110, f111, f112, f113, f114⟩ := hQ103
  have N103 := Fr.app N102 N103q
  have ne115 : a1 ≠ b104 := Nat.ne_of_lt (Nat.lt_of_lt_of_le E1.lt f108)
  have ne116 : t ≠ b104 := Nat.ne_of_lt (Nat.lt_of_lt_of_le V1.lt f108)
  have ne117 : a1 ≠ b105 := Nat.ne_of_lt (Nat.lt_of_lt_of_le E1.lt f113)
  have ne118 : t ≠ b105 := Nat.ne_of_lt (Nat.lt_of_lt_of_le V1.lt f113)
  have f119 := Nat.le_trans Z0 K103.1
  have f120 := E1.keep K103
  have f121 := C1.keep K103 nin0
  have f122 := W1.keep K103 nin0
  have f123 := V1.keep K103 nin0
  have f124 := f101.trans K103 all0
  have pre125 : own_P p e below s₁ (entryFrame m #[(.ref a1), (.int 2)] 2) T103 (mkF m 9 #[rv a1, iv 2] [(.ref b104)]) := fun t k => pre0 t (by
    show Steps p.tables e below (s₁.setTop (mkF m 0 #[rv a1, iv 2] [])) t
    refine XS.aloadN X0.here hx rfl (hb hby d14_0) rfl rfl ?_
    refine XS.iloadN X0.here hx rfl (hb hby d14_1) rfl ?_
    refine XS.aloadN X0.here hx rfl (hb hby d14_2) rfl rfl ?_
    refine st102.trans ?_
    refine st103.trans ?_
    exact k)
  obtain ⟨fs, hr, hrun, hended, hW, hsame⟩ := X103.leave (v := some (.ref b104)) (fun h => by rw [Bd.returns] at h; cases h)
  refine ⟨_, _, pre125 _ ?_, hrun, hended, _, _, rfl, ?_, ⟨_, rfl⟩, hW, hsame.mono (by decide) (by decide)⟩
  · exact retOut X103 hx Bd.returns rfl (Or.inr (Or.inr (Or.inr (Or.inr ⟨rfl, rfl, rfl⟩)))) (hb hby d14_9) hr
  · show QS1_4_2 Z a1 cs vF t kt y0 y1 y2 y3 h0 n0 _ T103.heap _
    exact ⟨b104, b105, x106, rfl, N103, f124, f107, f108, f109, f110, f111, f112, f113, f114⟩
theorem ef_rmCb_4_3 (m : MethodId) (x0 : Addr) : entryFrame m #[(.ref x0), (.int 3), (.int 4)] 5 = mkF m 0 #[rv x0, iv 3, iv 4, .unset, .unset] [] := by first | (simp [entryFrame, mkF, argsToLocals, Value.category]; done) | rfl
def QCb_4_3 (Z : State) (a1 : Addr) (k1 : ClassId) (y0 : Int32) (y1 : Int32) (y2 : Int32) (y3 : Int32) (h0 : Heap) (n0 : Nat) (v : Option Value) (h : Heap) (L : List Loc) : Prop := ∃ (b : Addr) (kb : ClassId), v = some (.ref b) ∧ Fr n0 L ∧ Keep h0 h [] ∧ (n0 ≤ b) ∧ (h0.size ≤ b) ∧ (Arv Z h b kb .byte (1 : Int32) [(.int y3)] (.int 0))
set_option maxRecDepth 65536 in
set_option maxHeartbeats 40000000 in
theorem rmCb_4_3 (l : Launch) (Z : State) (a0 : Array Value) (hw : ∀ d ∈ tables_1, d.before a0 Z = true) (ws : List Jvm.Cond) (a1 : Addr) (k1 : ClassId) (y0 : Int32) (y1 : Int32) (y2 : Int32) (y3 : Int32) (h0 : Heap) (n0 : Nat) (Z0 : n0 ≤ h0.size) (V1 : Arv Z h0 a1 k1 .byte (4 : Int32) [(.int y0), (.int y1), (.int y2), (.int y3)] (.int 0)) :
    own_M l own_y21 jdk_65_method_133_code 5 (some (.array .byte)) ws (own_R 1 1 1 40) Z h0 #[(.ref a1), (.int 3), (.int 4)] (QCb_4_3 Z a1 k1 y0 y1 y2 y3 h0 n0) := by
  refine MetFree.of_bodySF (plainFor_of_name pn_java_util_Arrays) hisR ?_
  intro p e s m args below meth c s₁ Bd hml0 hP hK
  obtain ⟨rfl, hZ, hh⟩ := hP
  have hx := Bd.exec
  have hby := Bd.bytes
  have hml : c.maxLocals = 5 := hml0
  have hown : s.vm.findClass "java/util/Arrays" = some m.cls := findClass_of_methodNamed Bd.named
  have hnm := (name_of_methodNamed Bd.named Bd.method).1
  have X0 : Stand p l e (own_R 1 1 1 40) s m #[(.ref a1), (.int 3), (.int 4)] below meth c s₁ [] 0 0 := Stand.of_body Bd
  have e0 : s₁.heap = h0 := by rw [← hh, Bd.state]; rfl
  have N0 := Fr.nil n0
  have pre0 : own_P p e below s₁ (entryFrame m #[(.ref a1), (.int 3), (.int 4)] 5) s₁ (mkF m 0 #[rv a1, iv 3, iv 4, .unset, .unset] []) := fun t k => castTop (ef_rmCb_4_3 m a1) k
  have f101 := Keep.refl h0 []
  obtain ⟨_, _, ⟨T102, L102, k102, n102⟩, -, X102, ⟨Lc102, hQ102, l102, y102, z102⟩, st102⟩ := Jvm.LawKit.callS X0 hx (y := own_y18) hown (own_m hZ hw 117) (own_m hZ hw 118) (own_m hZ hw 112) (own_m hZ hw 119) (by decide) (backOf (W := 0) (rmCl l Z a0 hw [] (3 : Int32) (4 : Int32) h0 n0 Z0 (by first | assumption | rfl | decide | omega | simp_all)) hZ (own_i hw 119 rfl) (own_i hw 112 rfl) (by decide) (by decide)) (g := (mkF m 2 #[rv a1, iv 3, iv 4, .unset, .unset] [(.int 4), (.int 3)])) rfl (by rw [hml]; rfl) (argsL := [(.int 3), (.int 4)]) (rest := []) (lenOf pd_8 rfl) rfl (Nat.le_of_eq rfl) (hb hby d27_2) (fun _ _ => ⟨rfl, e0, (by decide : 0 + 0 ≤ _), (by decide : 0 + 0 ≤ _)⟩)
  dsimp only [Pt.U, Pt.locs, Pt.cells, Pt.slots] at X102 l102 y102 z102 st102 hQ102
  subst l102 y102 z102
  obtain ⟨rfl, N102q, e102⟩ := hQ102
  have N102 := Fr.app N0 N102q
  obtain ⟨T103, h103, k103, X103, e103, E103, A103, st103⟩ := newP X102 hx hZ (own_i hw 30 rfl) e102 (g := (mkF m 10 #[rv a1, iv 3, iv 4, iv 1, .unset] [(.int 1)])) rfl (hb hby d27_10) rfl (by decide) (cap := 1) (by decide) (by decide) (by decide) (by decide)
  obtain ⟨b103, g103⟩ : ∃ z, z = h0.size := ⟨_, rfl⟩
  rw [← g103] at A103 st103
  have ne104 : a1 ≠ b103 := Nat.ne_of_lt (Nat.lt_of_lt_of_le V1.lt (Nat.le_of_eq g103.symm))
  have ga105 : n0 ≤ b103 := Nat.le_trans Z0 (Nat.le_of_eq g103.symm)
  have sz106 : h0.size ≤ b103 := Nat.le_trans f101.1 (Nat.le_of_eq g103.symm)
  have V103 : Arv Z h103 b103 k103 .byte (1 : Int32) [(.int 0)] (.int 0) := (Arv.new A103 (by decide)).pad (pad_rep [] (.int 0) 1)
  have f107 := Nat.le_trans Z0 E103.1
  have f108 := V1.ext E103
  have f109 := f101.ext E103
  obtain ⟨cl110, Ar110, q110, S110, N110z, H110, G110⟩ := (id f108)
  obtain ⟨_, _, ⟨T111, L111, k111, n111⟩, -, X111, ⟨Lc111, hQ111, l111, y111, z111⟩, st111⟩ := Jvm.LawKit.callS X103 hx (y := own_y20) hown (own_m hZ hw 120) (own_m hZ hw 121) (own_m hZ hw 122) (own_m hZ hw 123) (by decide) (backOf (W := 4) (rmMin_1 l Z a0 hw []  h103 n0 f107 ) hZ (own_i hw 123 rfl) (own_i hw 122 rfl) (by decide) (by decide)) (g := (mkF m 24 #[rv a1, iv 3, iv 4, iv 1, rv b103] [(.int 1), (.int 1), (.int 0), (.ref b103), (.int 3), (.ref a1)])) rfl (by rw [hml]; rfl) (argsL := [(.int 1), (.int 1)]) (rest := [(.int 0), (.ref b103), (.int 3), (.ref a1)]) (lenOf pd_12 rfl) rfl (Nat.le_of_eq rfl) (hb hby d27_24) (fun _ _ => ⟨rfl, e103, (by decide : 1 + 0 ≤ _), (by decide : 1 + 0 ≤ _)⟩)
  dsimp only [Pt.U, Pt.locs, Pt.cells, Pt.slots] at X111 l111 y111 z111 st111 hQ111
  subst l111 y111 z111
  obtain ⟨rfl, N111q, e111⟩ := hQ111
  have N111 := Fr.app N102 N111q
  obtain ⟨T112, h112, L112, X112, e112, N112, K112, V112, st112⟩ := cpA X111 hx hZ hown (own_i hw 124 rfl) (own_i hw 127 rfl) (own_i hw 125 rfl) (own_i hw 126 rfl) e111 f108 V103 (us := [(.int y3)]) (Or.inl ⟨rfl, rfl⟩) (by decide) (by decide) (by decide) (by decide) (by decide) rfl (by decide) N111 ga105 (g := (mkF m 27 #[rv a1, iv 3, iv 4, iv 1, rv b103] [(.int 1), (.int 0), (.ref b103), (.int 3), (.ref a1)])) rfl (by rw [hml]; rfl) rfl (hb hby d27_27) (by decide) (W := 0) (Nat.le_of_eq rfl) (by decide)
  have Vc112 : Arv Z h112 b103 k103 .byte (1 : Int32) [(.int y3)] (.int 0) := V112
  have f113 := Nat.le_trans f107 K112.1
  have f114 := f108.keep K112 (ninS ne104 nin0)
  have f115 := f109.trans K112 (allS (Or.inr sz106) all0)
  have pre116 : own_P p e below s₁ (entryFrame m #[(.ref a1), (.int 3), (.int 4)] 5) T112 (mkF m 32 #[rv a1, iv 3, iv 4, iv 1, rv b103] [(.ref b103)]) := fun t k => pre0 t (by
    show Steps p.tables e below (s₁.setTop (mkF m 0 #[rv a1, iv 3, iv 4, .unset, .unset] [])) t
    refine XS.iloadN X0.here hx rfl (hb hby d27_0) rfl ?_
    refine XS.iloadN X0.here hx rfl (hb hby d27_1) rfl ?_
    refine st102 _ ?_
    refine XS.iloadN X102.here hx rfl (hb hby d27_5) rfl ?_
    refine XS.iloadN X102.here hx rfl (hb hby d27_6) rfl ?_
    refine XS.isub X102.here hx rfl (hb hby d27_7) rfl ?_
    refine XS.istoreN X102.here hx rfl (hb hby d27_8) rfl (l' := #[rv a1, iv 3, iv 4, iv 1, .unset]) rfl ?_
    refine XS.iloadN X102.here hx rfl (hb hby d27_9) rfl ?_
    refine st103 _ ?_
    refine XS.astore X103.here hx rfl (hb hby d27_12) rfl rfl (l' := #[rv a1, iv 3, iv 4, iv 1, rv b103]) rfl ?_
    refine XS.aloadN X103.here hx rfl (hb hby d27_14) rfl rfl ?_
    refine XS.iloadN X103.here hx rfl (hb hby d27_15) rfl ?_
    refine XS.aload X103.here hx rfl (hb hby d27_16) rfl rfl ?_
    refine XS.iconst X103.here hx rfl (hb hby d27_18) ?_
    refine XS.aloadN X103.here hx rfl (hb hby d27_19) rfl rfl ?_
    refine X103.arraylength hx (by rw [e103]; exact Ar110.1) (State.isArrayOf_alike hZ.alike Ar110.2.1) (g := (mkF m 20 #[rv a1, iv 3, iv 4, iv 1, rv b103] [(.ref a1), (.int 0), (.ref b103), (.int 3), (.ref a1)])) rfl rfl (hb hby d27_20) _ ?_
    rw [len_of S110 N110z]
    refine XS.iloadN X103.here hx rfl (hb hby d27_21) rfl ?_
    refine XS.isub X103.here hx rfl (hb hby d27_22) rfl ?_
    refine XS.iloadN X103.here hx rfl (hb hby d27_23) rfl ?_
    refine st111 _ ?_
    refine st112 _ ?_
    refine XS.aload X112.here hx rfl (hb hby d27_30) rfl rfl ?_
    exact k)
  obtain ⟨fs, hr, hrun, hended, hW, hsame⟩ := X112.leave (v := some (.ref b103)) (fun h => by rw [Bd.returns] at h; cases h)
  refine ⟨_, _, pre116 _ ?_, hrun, hended, _, _, rfl, ?_, ⟨_, rfl⟩, hW, hsame.mono (by decide) (by decide)⟩
  · exact retOut X112 hx Bd.returns rfl (Or.inr (Or.inr (Or.inr (Or.inr ⟨rfl, rfl, rfl⟩)))) (hb hby d27_32) hr
  · show QCb_4_3 Z a1 k1 y0 y1 y2 y3 h0 n0 _ T112.heap _
    rw [e112]
    exact ⟨b103, k103, rfl, N112, f115, ga105, sz106, Vc112⟩
theorem ef_rmCr_4_3 (m : MethodId) (x0 : Addr) : entryFrame m #[(.ref x0), (.int 3), (.int 4)] 3 = mkF m 0 #[rv x0, iv 3, iv 4] [] := by first | (simp [entryFrame, mkF, argsToLocals, Value.category]; done) | rfl
def QCr_4_3 (Z : State) (a1 : Addr) (k1 : ClassId) (y0 : Int32) (y1 : Int32) (y2 : Int32) (y3 : Int32) (h0 : Heap) (n0 : Nat) (v : Option Value) (h : Heap) (L : List Loc) : Prop := ∃ (b : Addr) (kb : ClassId), v = some (.ref b) ∧ Fr n0 L ∧ Keep h0 h [] ∧ (n0 ≤ b) ∧ (h0.size ≤ b) ∧ (Arv Z h b kb .byte (1 : Int32) [(.int y3)] (.int 0))
set_option maxRecDepth 65536 in
set_option maxHeartbeats 40000000 in
theorem rmCr_4_3 (l : Launch) (Z : State) (a0 : Array Value) (hw : ∀ d ∈ tables_1, d.before a0 Z = true) (ws : List Jvm.Cond) (a1 : Addr) (k1 : ClassId) (y0 : Int32) (y1 : Int32) (y2 : Int32) (y3 : Int32) (h0 : Heap) (n0 : Nat) (Z0 : n0 ≤ h0.size) (V1 : Arv Z h0 a1 k1 .byte (4 : Int32) [(.int y0), (.int y1), (.int y2), (.int y3)] (.int 0)) :
    own_M l own_y22 jdk_65_method_132_code 3 (some (.array .byte)) ws (own_R 2 1 1 56) Z h0 #[(.ref a1), (.int 3), (.int 4)] (QCr_4_3 Z a1 k1 y0 y1 y2 y3 h0 n0) := by
  refine MetFree.of_bodySF (plainFor_of_name pn_java_util_Arrays) hisR ?_
  intro p e s m args below meth c s₁ Bd hml0 hP hK
  obtain ⟨rfl, hZ, hh⟩ := hP
  have hx := Bd.exec
  have hby := Bd.bytes
  have hml : c.maxLocals = 3 := hml0
  have hown : s.vm.findClass "java/util/Arrays" = some m.cls := findClass_of_methodNamed Bd.named
  have hnm := (name_of_methodNamed Bd.named Bd.method).1
  have X0 : Stand p l e (own_R 2 1 1 56) s m #[(.ref a1), (.int 3), (.int 4)] below meth c s₁ [] 0 0 := Stand.of_body Bd
  have e0 : s₁.heap = h0 := by rw [← hh, Bd.state]; rfl
  have N0 := Fr.nil n0
  have pre0 : own_P p e below s₁ (entryFrame m #[(.ref a1), (.int 3), (.int 4)] 3) s₁ (mkF m 0 #[rv a1, iv 3, iv 4] []) := fun t k => castTop (ef_rmCr_4_3 m a1) k
  have f101 := Keep.refl h0 []
  obtain ⟨_, _, ⟨T102, L102, k102, n102⟩, -, X102, ⟨Lc102, hQ102, l102, y102, z102⟩, st102⟩ := Jvm.LawKit.callS X0 hx (y := own_y21) hown (own_m hZ hw 114) (own_m hZ hw 115) (own_m hZ hw 112) (own_m hZ hw 116) (by decide) (backOf (W := 0) (rmCb_4_3 l Z a0 hw [] a1 k1 y0 y1 y2 y3 h0 n0 Z0 V1) hZ (own_i hw 116 rfl) (own_i hw 112 rfl) (by decide) (by decide)) (g := (mkF m 13 #[rv a1, iv 3, iv 4] [(.int 4), (.int 3), (.ref a1)])) rfl (by rw [hml]; rfl) (argsL := [(.ref a1), (.int 3), (.int 4)]) (rest := []) (lenOf pd_13 rfl) rfl (Nat.le_of_eq rfl) (hb hby d26_13) (fun _ _ => ⟨rfl, e0, (by decide : 0 + 1 ≤ _), (by decide : 0 + 1 ≤ _)⟩)
  dsimp only [Pt.U, Pt.locs, Pt.cells, Pt.slots] at X102 l102 y102 z102 st102 hQ102
  subst l102 y102 z102
  obtain ⟨b103, x104, rfl, N102q, K102, f105, f106, f107⟩ := hQ102
  have N102 := Fr.app N0 N102q
  have ne108 : a1 ≠ b103 := Nat.ne_of_lt (Nat.lt_of_lt_of_le V1.lt f106)
  have f109 := Nat.le_trans Z0 K102.1
  have f110 := V1.keep K102 nin0
  have f111 := f101.trans K102 all0
  have pre112 : own_P p e below s₁ (entryFrame m #[(.ref a1), (.int 3), (.int 4)] 3) T102 (mkF m 16 #[rv a1, iv 3, iv 4] [(.ref b103)]) := fun t k => pre0 t (by
    show Steps p.tables e below (s₁.setTop (mkF m 0 #[rv a1, iv 3, iv 4] [])) t
    refine XS.iloadN X0.here hx rfl (hb hby d26_0) rfl ?_
    refine XS.ifYes X0.here hx rfl (pc0 := 1) (pc' := 10) rfl (hb hby d26_1) rfl ((if0 _ _).trans (feq (by decide : ¬ ((3 : Int32) = (0 : Int32)))).2) (by decide) (by decide) ?_
    refine XS.aloadN X0.here hx rfl (hb hby d26_10) rfl rfl ?_
    refine XS.iloadN X0.here hx rfl (hb hby d26_11) rfl ?_
    refine XS.iloadN X0.here hx rfl (hb hby d26_12) rfl ?_
    refine st102 _ ?_
    exact k)
  obtain ⟨fs, hr, hrun, hended, hW, hsame⟩ := X102.leave (v := some (.ref b103)) (fun h => by rw [Bd.returns] at h; cases h)
  refine ⟨_, _, pre112 _ ?_, hrun, hended, _, _, rfl, ?_, ⟨_, rfl⟩, hW, hsame.mono (by decide) (by decide)⟩
  · exact retOut X102 hx Bd.returns rfl (Or.inr (Or.inr (Or.inr (Or.inr ⟨rfl, rfl, rfl⟩)))) (hb hby d26_16) hr
  · show QCr_4_3 Z a1 k1 y0 y1 y2 y3 h0 n0 _ T102.heap _
    exact ⟨b103, x104, rfl, N102, f111, f105, f106, f107⟩
theorem ef_rmNs_4_3 (m : MethodId) (x0 : Addr) : entryFrame m #[(.ref x0), (.int 3), (.int 1)] 3 = mkF m 0 #[rv x0, iv 3, iv 1] [] := by first | (simp [entryFrame, mkF, argsToLocals, Value.category]; done) | rfl
def QNs_4_3 (Z : State) (a1 : Addr) (k1 : ClassId) (y0 : Int32) (y1 : Int32) (y2 : Int32) (y3 : Int32) (h0 : Heap) (n0 : Nat) (v : Option Value) (h : Heap) (L : List Loc) : Prop := ∃ (b : Addr) (tb : Addr) (kb : ClassId), v = some (.ref b) ∧ Fr n0 L ∧ Keep h0 h [] ∧ (n0 ≤ b) ∧ (h0.size ≤ b) ∧ (Exa Z h b "java/lang/String") ∧ (Fld Z h b "java/lang/String" "coder" "B" (.int 0)) ∧ (Fld Z h b "java/lang/String" "value" "[B" (.ref tb)) ∧ (n0 ≤ tb) ∧ (h0.size ≤ tb) ∧ (Arv Z h tb kb .byte (1 : Int32) [(.int y3)] (.int 0))
set_option maxRecDepth 65536 in
set_option maxHeartbeats 40000000 in
theorem rmNs_4_3 (l : Launch) (Z : State) (a0 : Array Value) (hw : ∀ d ∈ tables_1, d.before a0 Z = true) (ws : List Jvm.Cond) (a1 : Addr) (k1 : ClassId) (y0 : Int32) (y1 : Int32) (y2 : Int32) (y3 : Int32) (h0 : Heap) (n0 : Nat) (Z0 : n0 ≤ h0.size) (V1 : Arv Z h0 a1 k1 .byte (4 : Int32) [(.int y0), (.int y1), (.int y2), (.int y3)] (.int 0)) :
    own_M l own_y23 jdk_43_method_47_code 3 (some (.object "java/lang/String")) ws (own_R 3 2 5 72) Z h0 #[(.ref a1), (.int 3), (.int 1)] (QNs_4_3 Z a1 k1 y0 y1 y2 y3 h0 n0) := by
  refine MetFree.of_bodySF (plainFor_of_name pn_java_lang_StringLatin1) hisR ?_
  intro p e s m args below meth c s₁ Bd hml0 hP hK
  obtain ⟨rfl, hZ, hh⟩ := hP
  have hx := Bd.exec
  have hby := Bd.bytes
  have hml : c.maxLocals = 3 := hml0
  have hown : s.vm.findClass "java/lang/StringLatin1" = some m.cls := findClass_of_methodNamed Bd.named
  have hnm := (name_of_methodNamed Bd.named Bd.method).1
  have X0 : Stand p l e (own_R 3 2 5 72) s m #[(.ref a1), (.int 3), (.int 1)] below meth c s₁ [] 0 0 := Stand.of_body Bd
  have e0 : s₁.heap = h0 := by rw [← hh, Bd.state]; rfl
  have N0 := Fr.nil n0
  have pre0 : own_P p e below s₁ (entryFrame m #[(.ref a1), (.int 3), (.int 1)] 3) s₁ (mkF m 0 #[rv a1, iv 3, iv 1] []) := fun t k => castTop (ef_rmNs_4_3 m a1) k
  have f101 := Keep.refl h0 []
  obtain ⟨T102, h102, X102, e102, E102, A102, D102, -, st102⟩ := newO X0 hx hZ hown (own_i hw 109 rfl) (own_i hw 9 rfl) (own_i hw 10 rfl) e0 (g := (mkF m 7 #[rv a1, iv 3, iv 1] [])) rfl (hb hby d25_7) (by decide) (by decide)
  obtain ⟨b102, g102⟩ : ∃ z, z = h0.size := ⟨_, rfl⟩
  rw [← g102] at A102 D102 st102
  have ne103 : a1 ≠ b102 := Nat.ne_of_lt (Nat.lt_of_lt_of_le V1.lt (Nat.le_of_eq g102.symm))
  have ga104 : n0 ≤ b102 := Nat.le_trans Z0 (Nat.le_of_eq g102.symm)
  have sz105 : h0.size ≤ b102 := Nat.le_trans f101.1 (Nat.le_of_eq g102.symm)
  have f106 : Fld Z h102 b102 "java/lang/String" "coder" "B" (.int 0) := D102 (Or.inr (own_i hw 38 rfl)) (ty := .byte) (by decide)
  have f107 : Fld Z h102 b102 "java/lang/String" "value" "[B" .null := D102 (Or.inr (own_i hw 40 rfl)) (ty := (.array .byte)) (by decide)
  have f108 := Nat.le_trans Z0 E102.1
  have f109 := V1.ext E102
  have f110 := f101.ext E102
  obtain ⟨_, _, ⟨T111, L111, k111, n111⟩, -, X111, ⟨Lc111, hQ111, l111, y111, z111⟩, st111⟩ := Jvm.LawKit.callS X102 hx (y := own_y22) hown (own_m hZ hw 110) (own_m hZ hw 111) (own_m hZ hw 112) (own_m hZ hw 113) (by decide) (backOf (W := 2) (rmCr_4_3 l Z a0 hw [] a1 k1 y0 y1 y2 y3 h102 n0 f108 f109) hZ (own_i hw 113 rfl) (own_i hw 112 rfl) (by decide) (by decide)) (g := (mkF m 16 #[rv a1, iv 3, iv 1] [(.int 4), (.int 3), (.ref a1), (.ref b102), (.ref b102)])) rfl (by rw [hml]; rfl) (argsL := [(.ref a1), (.int 3), (.int 4)]) (rest := [(.ref b102), (.ref b102)]) (lenOf pd_13 rfl) rfl (Nat.le_of_eq rfl) (hb hby d25_16) (fun _ _ => ⟨rfl, e102, (by decide : 1 + 1 ≤ _), (by decide : 4 + 1 ≤ _)⟩)
  dsimp only [Pt.U, Pt.locs, Pt.cells, Pt.slots] at X111 l111 y111 z111 st111 hQ111
  subst l111 y111 z111
  obtain ⟨b112, x113, rfl, N111q, K111, f114, f115, f116⟩ := hQ111
  have N111 := Fr.app N0 N111q
  have ne117 : a1 ≠ b112 := Nat.ne_of_lt (Nat.lt_of_lt_of_le f109.lt f115)
  have ne118 : b102 ≠ b112 := Nat.ne_of_lt (Nat.lt_of_lt_of_le A102.lt f115)
  have sz119 : h0.size ≤ b112 := Nat.le_trans f110.1 f115
  have f120 := Nat.le_trans f108 K111.1
  have f121 := f109.keep K111 nin0
  have f122 := f110.trans K111 all0
  have f123 := A102.keep K111
  have f124 := f106.keep K111 nin0
  have f125 := f107.keep K111 nin0
  obtain ⟨_, _, ⟨T126, L126, k126, n126⟩, -, X126, ⟨Lc126, hQ126, l126, y126, z126⟩, st126⟩ := X111.specialBack hx (y := own_y19) rfl hown (own_m hZ hw 128) (own_m hZ hw 129) (own_m hZ hw 130) (by decide) (backOf (W := 1) (rmSi l Z a0 hw [] b102 b112 T111.heap n0 f120 f125 f124 f123 ga104) hZ (own_i hw 130 rfl) (own_i hw 10 rfl) (by decide) (by decide)) (g := (mkF m 20 #[rv a1, iv 3, iv 1] [(.int 0), (.ref b112), (.ref b102), (.ref b102)])) rfl (by rw [hml]; rfl) (Steps.refl _) (a := b102) (argsL := [(.ref b112), (.int 0)]) (rest := [(.ref b102)]) (lenOf pd_14 rfl) rfl (Nat.le_of_eq rfl) (hb hby d25_20) (fun _ _ => ⟨rfl, rfl, (by decide : 2 + 0 ≤ _), (by decide : 5 + 0 ≤ _)⟩)
  dsimp only [Pt.U, Pt.locs, Pt.cells, Pt.slots] at X126 l126 y126 z126 st126 hQ126
  subst l126 y126 z126
  obtain ⟨rfl, N126q, K126, f127, f128, f129⟩ := hQ126
  have N126 := Fr.app N111 N126q
  have f130 := Nat.le_trans f120 K126.1
  have f131 := f121.keep K126 (ninS ne103 nin0)
  have f132 := f122.trans K126 (allS (Or.inr sz105) all0)
  have f133 := f116.keep K126 (ninS (Ne.symm ne118) nin0)
  have pre134 : own_P p e below s₁ (entryFrame m #[(.ref a1), (.int 3), (.int 1)] 3) T126 (mkF m 23 #[rv a1, iv 3, iv 1] [(.ref b102)]) := fun t k => pre0 t (by
    show Steps p.tables e below (s₁.setTop (mkF m 0 #[rv a1, iv 3, iv 1] [])) t
    refine XS.iloadN X0.here hx rfl (hb hby d25_0) rfl ?_
    refine XS.ifYes X0.here hx rfl (pc0 := 1) (pc' := 7) rfl (hb hby d25_1) rfl ((if0 _ _).trans (feq (by decide : ¬ ((1 : Int32) = (0 : Int32)))).2) (by decide) (by decide) ?_
    refine st102 _ ?_
    refine XS.dup X102.here hx rfl (hb hby d25_10) rfl rfl ?_
    refine XS.aloadN X102.here hx rfl (hb hby d25_11) rfl rfl ?_
    refine XS.iloadN X102.here hx rfl (hb hby d25_12) rfl ?_
    refine XS.iloadN X102.here hx rfl (hb hby d25_13) rfl ?_
    refine XS.iloadN X102.here hx rfl (hb hby d25_14) rfl ?_
    refine XS.iadd X102.here hx rfl (hb hby d25_15) rfl ?_
    refine st111 _ ?_
    refine XS.iconst X111.here hx rfl (hb hby d25_19) ?_
    refine st126.trans ?_
    exact k)
  obtain ⟨fs, hr, hrun, hended, hW, hsame⟩ := X126.leave (v := some (.ref b102)) (fun h => by rw [Bd.returns] at h; cases h)
  refine ⟨_, _, pre134 _ ?_, hrun, hended, _, _, rfl, ?_, ⟨_, rfl⟩, hW, hsame.mono (by decide) (by decide)⟩
  · exact retOut X126 hx Bd.returns rfl (Or.inr (Or.inr (Or.inr (Or.inr ⟨rfl, rfl, rfl⟩)))) (hb hby d25_23) hr
  · show QNs_4_3 Z a1 k1 y0 y1 y2 y3 h0 n0 _ T126.heap _
    exact ⟨b102, b112, x113, rfl, N126, f132, ga104, sz105, f127, f128, f129, f114, sz119, f133⟩
theorem ef_rmS2_4_3 (m : MethodId) (x0 : Addr) : entryFrame m #[(.ref x0), (.int 3), (.int 4)] 5 = mkF m 0 #[rv x0, iv 3, iv 4, .unset, .unset] [] := by first | (simp [entryFrame, mkF, argsToLocals, Value.category]; done) | rfl
def QS2_4_3 (Z : State) (a1 : Addr) (cs : Int32) (vF : Value) (t : Addr) (kt : ClassId) (y0 : Int32) (y1 : Int32) (y2 : Int32) (y3 : Int32) (h0 : Heap) (n0 : Nat) (v : Option Value) (h : Heap) (L : List Loc) : Prop := ∃ (b : Addr) (tb : Addr) (kb : ClassId), v = some (.ref b) ∧ Fr n0 L ∧ Keep h0 h [] ∧ (n0 ≤ b) ∧ (h0.size ≤ b) ∧ (Exa Z h b "java/lang/String") ∧ (Fld Z h b "java/lang/String" "coder" "B" (.int 0)) ∧ (Fld Z h b "java/lang/String" "value" "[B" (.ref tb)) ∧ (n0 ≤ tb) ∧ (h0.size ≤ tb) ∧ (Arv Z h tb kb .byte (1 : Int32) [(.int y3)] (.int 0))
set_option maxRecDepth 65536 in
set_option maxHeartbeats 40000000 in
theorem rmS2_4_3 (l : Launch) (Z : State) (a0 : Array Value) (hw : ∀ d ∈ tables_1, d.before a0 Z = true) (ws : List Jvm.Cond) (a1 : Addr) (cs : Int32) (vF : Value) (t : Addr) (kt : ClassId) (y0 : Int32) (y1 : Int32) (y2 : Int32) (y3 : Int32) (h0 : Heap) (n0 : Nat) (Z0 : n0 ≤ h0.size) (SC : Sta Z h0 "java/lang/String" "COMPACT_STRINGS" "Z" (.int cs)) (hcs : ¬ (cs = (0 : Int32))) (SF : Sta Z h0 "jdk/internal/util/Preconditions" "SIOOBE_FORMATTER" "Ljava/util/function/BiFunction;" vF) (hF : vF.isRef = true) (E1 : Exa Z h0 a1 "java/lang/String") (C1 : Fld Z h0 a1 "java/lang/String" "coder" "B" (.int 0)) (W1 : Fld Z h0 a1 "java/lang/String" "value" "[B" (.ref t)) (V1 : Arv Z h0 t kt .byte (4 : Int32) [(.int y0), (.int y1), (.int y2), (.int y3)] (.int 0)) :
    own_M l own_y24 jdk_42_method_92_code 5 (some (.object "java/lang/String")) ws (own_R 4 2 5 86) Z h0 #[(.ref a1), (.int 3), (.int 4)] (QS2_4_3 Z a1 cs vF t kt y0 y1 y2 y3 h0 n0) := by
  refine MetFree.of_bodySF (plainFor_of_name pn_java_lang_String) hisR ?_
  intro p e s m args below meth c s₁ Bd hml0 hP hK
  obtain ⟨rfl, hZ, hh⟩ := hP
  have hx := Bd.exec
  have hby := Bd.bytes
  have hml : c.maxLocals = 5 := hml0
  have hown : s.vm.findClass "java/lang/String" = some m.cls := findClass_of_methodNamed Bd.named
  have hnm := (name_of_methodNamed Bd.named Bd.method).1
  have X0 : Stand p l e (own_R 4 2 5 86) s m #[(.ref a1), (.int 3), (.int 4)] below meth c s₁ [] 0 0 := Stand.of_body Bd
  have e0 : s₁.heap = h0 := by rw [← hh, Bd.state]; rfl
  have N0 := Fr.nil n0
  have pre0 : own_P p e below s₁ (entryFrame m #[(.ref a1), (.int 3), (.int 4)] 5) s₁ (mkF m 0 #[rv a1, iv 3, iv 4, .unset, .unset] []) := fun t k => castTop (ef_rmS2_4_3 m a1) k
  have f101 := Keep.refl h0 []
  obtain ⟨cq102, kq102, q102a, q102b, q102c⟩ := isOf hZ e0 E1
  obtain ⟨_, _, ⟨T102, L102, k102, n102⟩, -, X102, ⟨Lc102, hQ102, l102, y102, z102⟩, st102⟩ := X0.virtualBack hx (y := own_y11) (z := own_y11) hown (own_m hZ hw 63) (own_m hZ hw 49) (notFace_of_selects (args := #[]) (own_m hZ hw 51)) (own_m hZ hw 51) (own_m hZ hw 50) (by decide) (backOf (W := 0) (rmLen l Z a0 hw [] a1 cs t kt (4 : Int32) ([(.int y0), (.int y1), (.int y2), (.int y3)]) h0 n0 Z0 SC hcs E1 C1 W1 V1) hZ (own_i hw 52 rfl) (own_i hw 10 rfl) (by decide) (by decide)) q102a q102c (g := (mkF m 1 #[rv a1, iv 3, iv 4, .unset, .unset] [(.ref a1)])) rfl (by rw [hml]; rfl) (Steps.refl _) (argsL := []) (rest := []) (lenOf pd_15 rfl) rfl (Nat.le_of_eq rfl) (hb hby d15_1) (fun _ _ => ⟨rfl, e0, (by decide : 0 + 0 ≤ _), (by decide : 0 + 0 ≤ _)⟩)
  dsimp only [Pt.U, Pt.locs, Pt.cells, Pt.slots] at X102 l102 y102 z102 st102 hQ102
  subst l102 y102 z102
  obtain ⟨rfl, N102q, e102⟩ := hQ102
  have N102 := Fr.app N0 N102q
  obtain ⟨_, _, ⟨T103, L103, k103, n103⟩, -, X103, ⟨Lc103, hQ103, l103, y103, z103⟩, st103⟩ := Jvm.LawKit.callS X102 hx (y := own_y17) hown (own_m hZ hw 69) (own_m hZ hw 70) (own_m hZ hw 10) (own_m hZ hw 71) (by decide) (backOf (W := 0) (rmBe l Z a0 hw [] (3 : Int32) (4 : Int32) (4 : Int32) vF h0 n0 Z0 SF hF (by first | assumption | rfl | decide | omega | simp_all) (by first | assumption | rfl | decide | omega | simp_all) (by first | assumption | rfl | decide | omega | simp_all)) hZ (own_i hw 71 rfl) (own_i hw 10 rfl) (by decide) (by decide)) (g := (mkF m 8 #[rv a1, iv 3, iv 4, iv 4, .unset] [(.int 4), (.int 4), (.int 3)])) rfl (by rw [hml]; rfl) (argsL := [(.int 3), (.int 4), (.int 4)]) (rest := []) (lenOf pd_16 rfl) rfl (Nat.le_of_eq rfl) (hb hby d15_8) (fun _ _ => ⟨rfl, e102, (by decide : 0 + 0 ≤ _), (by decide : 0 + 0 ≤ _)⟩)
  dsimp only [Pt.U, Pt.locs, Pt.cells, Pt.slots] at X103 l103 y103 z103 st103 hQ103
  subst l103 y103 z103
  obtain ⟨rfl, N103q, e103⟩ := hQ103
  have N103 := Fr.app N102 N103q
  obtain ⟨cq104, kq104, q104a, q104b, q104c⟩ := isOf hZ e103 E1
  obtain ⟨_, _, ⟨T104, L104, k104, n104⟩, -, X104, ⟨Lc104, hQ104, l104, y104, z104⟩, st104⟩ := X103.virtualBack hx (y := own_y10) (z := own_y10) hown (own_m hZ hw 92) (own_m hZ hw 93) (notFace_of_selects (args := #[]) (own_m hZ hw 95)) (own_m hZ hw 95) (own_m hZ hw 94) (by decide) (backOf (W := 0) (rmIl l Z a0 hw [] a1 cs h0 n0 Z0 SC hcs C1) hZ (own_i hw 96 rfl) (own_i hw 10 rfl) (by decide) (by decide)) q104a q104c (g := (mkF m 28 #[rv a1, iv 3, iv 4, iv 4, iv 1] [(.ref a1)])) rfl (by rw [hml]; rfl) (Steps.refl _) (argsL := []) (rest := []) (lenOf pd_9 rfl) rfl (Nat.le_of_eq rfl) (hb hby d15_28) (fun _ _ => ⟨rfl, e103, (by decide : 0 + 0 ≤ _), (by decide : 0 + 0 ≤ _)⟩)
  dsimp only [Pt.U, Pt.locs, Pt.cells, Pt.slots] at X104 l104 y104 z104 st104 hQ104
  subst l104 y104 z104
  obtain ⟨rfl, N104q, e104⟩ := hQ104
  have N104 := Fr.app N103 N104q
  obtain ⟨T105, X105, e105, st105⟩ := getF X104 hx hZ hown (host := "") (Or.inl (own_i hw 39 rfl)) Via.refl e104 W1 (g := (mkF m 35 #[rv a1, iv 3, iv 4, iv 4, iv 1] [(.ref a1)])) rfl rfl (hb hby d15_35)
  obtain ⟨_, _, ⟨T106, L106, k106, n106⟩, -, X106, ⟨Lc106, hQ106, l106, y106, z106⟩, st106⟩ := Jvm.LawKit.callS X105 hx (y := own_y23) hown (own_m hZ hw 106) (own_m hZ hw 107) (own_m hZ hw 85) (own_m hZ hw 108) (by decide) (backOf (W := 0) (rmNs_4_3 l Z a0 hw [] t kt y0 y1 y2 y3 h0 n0 Z0 V1) hZ (own_i hw 108 rfl) (own_i hw 85 rfl) (by decide) (by decide)) (g := (mkF m 41 #[rv a1, iv 3, iv 4, iv 4, iv 1] [(.int 1), (.int 3), (.ref t)])) rfl (by rw [hml]; rfl) (argsL := [(.ref t), (.int 3), (.int 1)]) (rest := []) (lenOf pd_17 rfl) rfl (Nat.le_of_eq rfl) (hb hby d15_41) (fun _ _ => ⟨rfl, e105, (by decide : 0 + 2 ≤ _), (by decide : 0 + 5 ≤ _)⟩)
  dsimp only [Pt.U, Pt.locs, Pt.cells, Pt.slots] at X106 l106 y106 z106 st106 hQ106
  subst l106 y106 z106
  obtain ⟨b107, b108, x109, rfl, N106q, K106, f110, f111, f112, f113, f114, f115, f116, f117⟩ := hQ106
  have N106 := Fr.app N104 N106q
  have ne118 : a1 ≠ b107 := Nat.ne_of_lt (Nat.lt_of_lt_of_le E1.lt f111)
  have ne119 : t ≠ b107 := Nat.ne_of_lt (Nat.lt_of_lt_of_le V1.lt f111)
  have ne120 : a1 ≠ b108 := Nat.ne_of_lt (Nat.lt_of_lt_of_le E1.lt f116)
  have ne121 : t ≠ b108 := Nat.ne_of_lt (Nat.lt_of_lt_of_le V1.lt f116)
  have f122 := Nat.le_trans Z0 K106.1
  have f123 := E1.keep K106
  have f124 := C1.keep K106 nin0
  have f125 := W1.keep K106 nin0
  have f126 := V1.keep K106 nin0
  have f127 := f101.trans K106 all0
  have pre128 : own_P p e below s₁ (entryFrame m #[(.ref a1), (.int 3), (.int 4)] 5) T106 (mkF m 57 #[rv a1, iv 3, iv 4, iv 4, iv 1] [(.ref b107)]) := fun t k => pre0 t (by
    show Steps p.tables e below (s₁.setTop (mkF m 0 #[rv a1, iv 3, iv 4, .unset, .unset] [])) t
    refine XS.aloadN X0.here hx rfl (hb hby d15_0) rfl rfl ?_
    refine st102.trans ?_
    refine XS.istoreN X102.here hx rfl (hb hby d15_4) rfl (l' := #[rv a1, iv 3, iv 4, iv 4, .unset]) rfl ?_
    refine XS.iloadN X102.here hx rfl (hb hby d15_5) rfl ?_
    refine XS.iloadN X102.here hx rfl (hb hby d15_6) rfl ?_
    refine XS.iloadN X102.here hx rfl (hb hby d15_7) rfl ?_
    refine st103 _ ?_
    refine XS.iloadN X103.here hx rfl (hb hby d15_11) rfl ?_
    refine XS.ifYes X103.here hx rfl (pc0 := 12) (pc' := 22) rfl (hb hby d15_12) rfl ((if0 _ _).trans (feq (by decide : ¬ ((3 : Int32) = (0 : Int32)))).2) (by decide) (by decide) ?_
    refine XS.iloadN X103.here hx rfl (hb hby d15_22) rfl ?_
    refine XS.iloadN X103.here hx rfl (hb hby d15_23) rfl ?_
    refine XS.isub X103.here hx rfl (hb hby d15_24) rfl ?_
    refine XS.istore X103.here hx rfl (hb hby d15_25) rfl (l' := #[rv a1, iv 3, iv 4, iv 4, iv 1]) rfl ?_
    refine XS.aloadN X103.here hx rfl (hb hby d15_27) rfl rfl ?_
    refine st104.trans ?_
    refine XS.ifNo X104.here hx rfl (hb hby d15_31) rfl ((if0 _ _).trans (feq (by decide : ¬ ((1 : Int32) = (0 : Int32)))).1) ?_
    refine XS.aloadN X104.here hx rfl (hb hby d15_34) rfl rfl ?_
    refine st105 _ ?_
    refine XS.iloadN X105.here hx rfl (hb hby d15_38) rfl ?_
    refine XS.iload X105.here hx rfl (hb hby d15_39) rfl ?_
    refine st106 _ ?_
    refine XS.goto X106.here hx rfl (pc0 := 44) (pc' := 57) rfl (hb hby d15_44) (by decide) (by decide) ?_
    exact k)
  obtain ⟨fs, hr, hrun, hended, hW, hsame⟩ := X106.leave (v := some (.ref b107)) (fun h => by rw [Bd.returns] at h; cases h)
  refine ⟨_, _, pre128 _ ?_, hrun, hended, _, _, rfl, ?_, ⟨_, rfl⟩, hW, hsame.mono (by decide) (by decide)⟩
  · exact retOut X106 hx Bd.returns rfl (Or.inr (Or.inr (Or.inr (Or.inr ⟨rfl, rfl, rfl⟩)))) (hb hby d15_57) hr
  · show QS2_4_3 Z a1 cs vF t kt y0 y1 y2 y3 h0 n0 _ T106.heap _
    exact ⟨b107, b108, x109, rfl, N106, f127, f110, f111, f112, f113, f114, f115, f116, f117⟩
theorem ef_rmS1_4_3 (m : MethodId) (x0 : Addr) : entryFrame m #[(.ref x0), (.int 3)] 2 = mkF m 0 #[rv x0, iv 3] [] := by first | (simp [entryFrame, mkF, argsToLocals, Value.category]; done) | rfl
def QS1_4_3 (Z : State) (a1 : Addr) (cs : Int32) (vF : Value) (t : Addr) (kt : ClassId) (y0 : Int32) (y1 : Int32) (y2 : Int32) (y3 : Int32) (h0 : Heap) (n0 : Nat) (v : Option Value) (h : Heap) (L : List Loc) : Prop := ∃ (b : Addr) (tb : Addr) (kb : ClassId), v = some (.ref b) ∧ Fr n0 L ∧ Keep h0 h [] ∧ (n0 ≤ b) ∧ (h0.size ≤ b) ∧ (Exa Z h b "java/lang/String") ∧ (Fld Z h b "java/lang/String" "coder" "B" (.int 0)) ∧ (Fld Z h b "java/lang/String" "value" "[B" (.ref tb)) ∧ (n0 ≤ tb) ∧ (h0.size ≤ tb) ∧ (Arv Z h tb kb .byte (1 : Int32) [(.int y3)] (.int 0))
set_option maxRecDepth 65536 in
set_option maxHeartbeats 40000000 in
theorem rmS1_4_3 (l : Launch) (Z : State) (a0 : Array Value) (hw : ∀ d ∈ tables_1, d.before a0 Z = true) (ws : List Jvm.Cond) (a1 : Addr) (cs : Int32) (vF : Value) (t : Addr) (kt : ClassId) (y0 : Int32) (y1 : Int32) (y2 : Int32) (y3 : Int32) (h0 : Heap) (n0 : Nat) (Z0 : n0 ≤ h0.size) (SC : Sta Z h0 "java/lang/String" "COMPACT_STRINGS" "Z" (.int cs)) (hcs : ¬ (cs = (0 : Int32))) (SF : Sta Z h0 "jdk/internal/util/Preconditions" "SIOOBE_FORMATTER" "Ljava/util/function/BiFunction;" vF) (hF : vF.isRef = true) (E1 : Exa Z h0 a1 "java/lang/String") (C1 : Fld Z h0 a1 "java/lang/String" "coder" "B" (.int 0)) (W1 : Fld Z h0 a1 "java/lang/String" "value" "[B" (.ref t)) (V1 : Arv Z h0 t kt .byte (4 : Int32) [(.int y0), (.int y1), (.int y2), (.int y3)] (.int 0)) :
    own_M l own_y25 jdk_42_method_91_code 2 (some (.object "java/lang/String")) ws (own_R 5 2 5 102) Z h0 #[(.ref a1), (.int 3)] (QS1_4_3 Z a1 cs vF t kt y0 y1 y2 y3 h0 n0) := by
  refine MetFree.of_bodySF (plainFor_of_name pn_java_lang_String) hisR ?_
  intro p e s m args below meth c s₁ Bd hml0 hP hK
  obtain ⟨rfl, hZ, hh⟩ := hP
  have hx := Bd.exec
  have hby := Bd.bytes
  have hml : c.maxLocals = 2 := hml0
  have hown : s.vm.findClass "java/lang/String" = some m.cls := findClass_of_methodNamed Bd.named
  have hnm := (name_of_methodNamed Bd.named Bd.method).1
  have X0 : Stand p l e (own_R 5 2 5 102) s m #[(.ref a1), (.int 3)] below meth c s₁ [] 0 0 := Stand.of_body Bd
  have e0 : s₁.heap = h0 := by rw [← hh, Bd.state]; rfl
  have N0 := Fr.nil n0
  have pre0 : own_P p e below s₁ (entryFrame m #[(.ref a1), (.int 3)] 2) s₁ (mkF m 0 #[rv a1, iv 3] []) := fun t k => castTop (ef_rmS1_4_3 m a1) k
  have f101 := Keep.refl h0 []
  obtain ⟨cq102, kq102, q102a, q102b, q102c⟩ := isOf hZ e0 E1
  obtain ⟨_, _, ⟨T102, L102, k102, n102⟩, -, X102, ⟨Lc102, hQ102, l102, y102, z102⟩, st102⟩ := X0.virtualBack hx (y := own_y11) (z := own_y11) hown (own_m hZ hw 63) (own_m hZ hw 49) (notFace_of_selects (args := #[]) (own_m hZ hw 51)) (own_m hZ hw 51) (own_m hZ hw 50) (by decide) (backOf (W := 2) (rmLen l Z a0 hw [] a1 cs t kt (4 : Int32) ([(.int y0), (.int y1), (.int y2), (.int y3)]) h0 n0 Z0 SC hcs E1 C1 W1 V1) hZ (own_i hw 52 rfl) (own_i hw 10 rfl) (by decide) (by decide)) q102a q102c (g := (mkF m 3 #[rv a1, iv 3] [(.ref a1), (.int 3), (.ref a1)])) rfl (by rw [hml]; rfl) (Steps.refl _) (argsL := []) (rest := [(.int 3), (.ref a1)]) (lenOf pd_15 rfl) rfl (Nat.le_of_eq rfl) (hb hby d14_3) (fun _ _ => ⟨rfl, e0, (by decide : 0 + 0 ≤ _), (by decide : 0 + 0 ≤ _)⟩)
  dsimp only [Pt.U, Pt.locs, Pt.cells, Pt.slots] at X102 l102 y102 z102 st102 hQ102
  subst l102 y102 z102
  obtain ⟨rfl, N102q, e102⟩ := hQ102
  have N102 := Fr.app N0 N102q
  obtain ⟨cq103, kq103, q103a, q103b, q103c⟩ := isOf hZ e102 E1
  obtain ⟨_, _, ⟨T103, L103, k103, n103⟩, -, X103, ⟨Lc103, hQ103, l103, y103, z103⟩, st103⟩ := X102.virtualBack hx (y := own_y24) (z := own_y24) hown (own_m hZ hw 64) (own_m hZ hw 65) (notFace_of_selects (args := #[]) (own_m hZ hw 67)) (own_m hZ hw 67) (own_m hZ hw 66) (by decide) (backOf (W := 0) (rmS2_4_3 l Z a0 hw [] a1 cs vF t kt y0 y1 y2 y3 h0 n0 Z0 SC hcs SF hF E1 C1 W1 V1) hZ (own_i hw 68 rfl) (own_i hw 10 rfl) (by decide) (by decide)) q103a q103c (g := (mkF m 6 #[rv a1, iv 3] [(.int 4), (.int 3), (.ref a1)])) rfl (by rw [hml]; rfl) (Steps.refl _) (argsL := [(.int 3), (.int 4)]) (rest := []) (lenOf pd_18 rfl) rfl (Nat.le_of_eq rfl) (hb hby d14_6) (fun _ _ => ⟨rfl, e102, (by decide : 0 + 2 ≤ _), (by decide : 0 + 5 ≤ _)⟩)
  dsimp only [Pt.U, Pt.locs, Pt.cells, Pt.slots] at X103 l103 y103 z103 st103 hQ103
  subst l103 y103 z103
  obtain ⟨b104, b105, x106, rfl, N103q, K103, f107, f108, f109, f110, f111, f112, f113, f114⟩ := hQ103
  have N103 := Fr.app N102 N103q
  have ne115 : a1 ≠ b104 := Nat.ne_of_lt (Nat.lt_of_lt_of_le E1.lt f108)
  have ne116 : t ≠ b104 := Nat.ne_of_lt (Nat.lt_of_lt_of_le V1.lt f108)
  have ne117 : a1 ≠ b105 := Nat.ne_of_lt (Nat.lt_of_lt_of_le E1.lt f113)
  have ne118 : t ≠ b105 := Nat.ne_of_lt (Nat.lt_of_lt_of_le V1.lt f113)
  have f119 := Nat.le_trans Z0 K103.1
  have f120 := E1.keep K103
  have f121 := C1.keep K103 nin0
  have f122 := W1.keep K103 nin0
  have f123 := V1.keep K103 nin0
  have f124 := f101.trans K103 all0
  have pre125 : own_P p e below s₁ (entryFrame m #[(.ref a1), (.int 3)] 2) T103 (mkF m 9 #[rv a1, iv 3] [(.ref b104)]) := fun t k => pre0 t (by
    show Steps p.tables e below (s₁.setTop (mkF m 0 #[rv a1, iv 3] [])) t
    refine XS.aloadN X0.here hx rfl (hb hby d14_0) rfl rfl ?_
    refine XS.iloadN X0.here hx rfl (hb hby d14_1) rfl ?_
    refine XS.aloadN X0.here hx rfl (hb hby d14_2) rfl rfl ?_
    refine st102.trans ?_
    refine st103.trans ?_
    exact k)
  obtain ⟨fs, hr, hrun, hended, hW, hsame⟩ := X103.leave (v := some (.ref b104)) (fun h => by rw [Bd.returns] at h; cases h)
  refine ⟨_, _, pre125 _ ?_, hrun, hended, _, _, rfl, ?_, ⟨_, rfl⟩, hW, hsame.mono (by decide) (by decide)⟩
  · exact retOut X103 hx Bd.returns rfl (Or.inr (Or.inr (Or.inr (Or.inr ⟨rfl, rfl, rfl⟩)))) (hb hby d14_9) hr
  · show QS1_4_3 Z a1 cs vF t kt y0 y1 y2 y3 h0 n0 _ T103.heap _
    exact ⟨b104, b105, x106, rfl, N103, f124, f107, f108, f109, f110, f111, f112, f113, f114⟩
theorem ef_rmS2_0 (m : MethodId) (x0 : Addr) (x2 : Int32) : entryFrame m #[(.ref x0), (.int 0), (.int x2)] 5 = mkF m 0 #[rv x0, iv 0, iv x2, .unset, .unset] [] := by first | (simp [entryFrame, mkF, argsToLocals, Value.category]; done) | rfl
def QS2_0 (Z : State) (a1 : Addr) (cs : Int32) (vF : Value) (t : Addr) (kt : ClassId) (z : Int32) (vs : List Value) (h0 : Heap) (n0 : Nat) (v : Option Value) (h : Heap) (L : List Loc) : Prop := v = some (.ref a1) ∧ Fr n0 L ∧ h = h0
set_option maxRecDepth 65536 in
set_option maxHeartbeats 40000000 in
theorem rmS2_0 (l : Launch) (Z : State) (a0 : Array Value) (hw : ∀ d ∈ tables_1, d.before a0 Z = true) (ws : List Jvm.Cond) (a1 : Addr) (cs : Int32) (vF : Value) (t : Addr) (kt : ClassId) (z : Int32) (vs : List Value) (h0 : Heap) (n0 : Nat) (Z0 : n0 ≤ h0.size) (SC : Sta Z h0 "java/lang/String" "COMPACT_STRINGS" "Z" (.int cs)) (hcs : ¬ (cs = (0 : Int32))) (SF : Sta Z h0 "jdk/internal/util/Preconditions" "SIOOBE_FORMATTER" "Ljava/util/function/BiFunction;" vF) (hF : vF.isRef = true) (E1 : Exa Z h0 a1 "java/lang/String") (C1 : Fld Z h0 a1 "java/lang/String" "coder" "B" (.int 0)) (W1 : Fld Z h0 a1 "java/lang/String" "value" "[B" (.ref t)) (V1 : Arv Z h0 t kt .byte z vs (.int 0)) (hz : ¬ (z < (0 : Int32))) (hzz : ¬ (z < z)) :
    own_M l own_y24 jdk_42_method_92_code 5 (some (.object "java/lang/String")) ws (own_R 2 0 0 29) Z h0 #[(.ref a1), (.int 0), (.int z)] (QS2_0 Z a1 cs vF t kt z vs h0 n0) := by
  refine MetFree.of_bodySF (plainFor_of_name pn_java_lang_String) hisR ?_
  intro p e s m args below meth c s₁ Bd hml0 hP hK
  obtain ⟨rfl, hZ, hh⟩ := hP
  have hx := Bd.exec
  have hby := Bd.bytes
  have hml : c.maxLocals = 5 := hml0
  have hown : s.vm.findClass "java/lang/String" = some m.cls := findClass_of_methodNamed Bd.named
  have hnm := (name_of_methodNamed Bd.named Bd.method).1
  have X0 : Stand p l e (own_R 2 0 0 29) s m #[(.ref a1), (.int 0), (.int z)] below meth c s₁ [] 0 0 := Stand.of_body Bd
  have e0 : s₁.heap = h0 := by rw [← hh, Bd.state]; rfl
  have N0 := Fr.nil n0
  have pre0 : own_P p e below s₁ (entryFrame m #[(.ref a1), (.int 0), (.int z)] 5) s₁ (mkF m 0 #[rv a1, iv 0, iv z, .unset, .unset] []) := fun t k => castTop (ef_rmS2_0 m a1 z) k
  obtain ⟨cq101, kq101, q101a, q101b, q101c⟩ := isOf hZ e0 E1
  obtain ⟨_, _, ⟨T101, L101, k101, n101⟩, -, X101, ⟨Lc101, hQ101, l101, y101, z101⟩, st101⟩ := X0.virtualBack hx (y := own_y11) (z := own_y11) hown (own_m hZ hw 63) (own_m hZ hw 49) (notFace_of_selects (args := #[]) (own_m hZ hw 51)) (own_m hZ hw 51) (own_m hZ hw 50) (by decide) (backOf (W := 0) (rmLen l Z a0 hw [] a1 cs t kt z vs h0 n0 Z0 SC hcs E1 C1 W1 V1) hZ (own_i hw 52 rfl) (own_i hw 10 rfl) (by decide) (by decide)) q101a q101c (g := (mkF m 1 #[rv a1, iv 0, iv z, .unset, .unset] [(.ref a1)])) rfl (by rw [hml]; rfl) (Steps.refl _) (argsL := []) (rest := []) (lenOf pd_15 rfl) rfl (Nat.le_of_eq rfl) (hb hby d15_1) (fun _ _ => ⟨rfl, e0, (by decide : 0 + 0 ≤ _), (by decide : 0 + 0 ≤ _)⟩)
  dsimp only [Pt.U, Pt.locs, Pt.cells, Pt.slots] at X101 l101 y101 z101 st101 hQ101
  subst l101 y101 z101
  obtain ⟨rfl, N101q, e101⟩ := hQ101
  have N101 := Fr.app N0 N101q
  obtain ⟨_, _, ⟨T102, L102, k102, n102⟩, -, X102, ⟨Lc102, hQ102, l102, y102, z102⟩, st102⟩ := Jvm.LawKit.callS X101 hx (y := own_y17) hown (own_m hZ hw 69) (own_m hZ hw 70) (own_m hZ hw 10) (own_m hZ hw 71) (by decide) (backOf (W := 0) (rmBe l Z a0 hw [] (0 : Int32) z z vF h0 n0 Z0 SF hF (by first | assumption | rfl | decide | omega | simp_all) hz hzz) hZ (own_i hw 71 rfl) (own_i hw 10 rfl) (by decide) (by decide)) (g := (mkF m 8 #[rv a1, iv 0, iv z, iv z, .unset] [(.int z), (.int z), (.int 0)])) rfl (by rw [hml]; rfl) (argsL := [(.int 0), (.int z), (.int z)]) (rest := []) (lenOf pd_16 rfl) rfl (Nat.le_of_eq rfl) (hb hby d15_8) (fun _ _ => ⟨rfl, e101, (by decide : 0 + 0 ≤ _), (by decide : 0 + 0 ≤ _)⟩)
  dsimp only [Pt.U, Pt.locs, Pt.cells, Pt.slots] at X102 l102 y102 z102 st102 hQ102
  subst l102 y102 z102
  obtain ⟨rfl, N102q, e102⟩ := hQ102
  have N102 := Fr.app N101 N102q
  have pre103 : own_P p e below s₁ (entryFrame m #[(.ref a1), (.int 0), (.int z)] 5) T102 (mkF m 21 #[rv a1, iv 0, iv z, iv z, .unset] [(.ref a1)]) := fun t k => pre0 t (by
    show Steps p.tables e below (s₁.setTop (mkF m 0 #[rv a1, iv 0, iv z, .unset, .unset] [])) t
    refine XS.aloadN X0.here hx rfl (hb hby d15_0) rfl rfl ?_
    refine st101.trans ?_
    refine XS.istoreN X101.here hx rfl (hb hby d15_4) rfl (l' := #[rv a1, iv 0, iv z, iv z, .unset]) rfl ?_
    refine XS.iloadN X101.here hx rfl (hb hby d15_5) rfl ?_
    refine XS.iloadN X101.here hx rfl (hb hby d15_6) rfl ?_
    refine XS.iloadN X101.here hx rfl (hb hby d15_7) rfl ?_
    refine st102 _ ?_
    refine XS.iloadN X102.here hx rfl (hb hby d15_11) rfl ?_
    refine XS.ifNo X102.here hx rfl (hb hby d15_12) rfl ((if0 _ _).trans (teq (by decide : (0 : Int32) = (0 : Int32))).2) ?_
    refine XS.iloadN X102.here hx rfl (hb hby d15_15) rfl ?_
    refine XS.iloadN X102.here hx rfl (hb hby d15_16) rfl ?_
    refine XS.icmpNo X102.here hx rfl (hb hby d15_17) rfl (teq (rfl : z = z)).2 ?_
    refine XS.aloadN X102.here hx rfl (hb hby d15_20) rfl rfl ?_
    exact k)
  obtain ⟨fs, hr, hrun, hended, hW, hsame⟩ := X102.leave (v := some (.ref a1)) (fun h => by rw [Bd.returns] at h; cases h)
  refine ⟨_, _, pre103 _ ?_, hrun, hended, _, _, rfl, ?_, ⟨_, rfl⟩, hW, hsame.mono (by decide) (by decide)⟩
  · exact retOut X102 hx Bd.returns rfl (Or.inr (Or.inr (Or.inr (Or.inr ⟨rfl, rfl, rfl⟩)))) (hb hby d15_21) hr
  · show QS2_0 Z a1 cs vF t kt z vs h0 n0 _ T102.heap _
    rw [e102]
    exact ⟨rfl, N102, rfl⟩
theorem ef_rmS1_0 (m : MethodId) (x0 : Addr) : entryFrame m #[(.ref x0), (.int 0)] 2 = mkF m 0 #[rv x0, iv 0] [] := by first | (simp [entryFrame, mkF, argsToLocals, Value.category]; done) | rfl
def QS1_0 (Z : State) (a1 : Addr) (cs : Int32) (vF : Value) (t : Addr) (kt : ClassId) (z : Int32) (vs : List Value) (h0 : Heap) (n0 : Nat) (v : Option Value) (h : Heap) (L : List Loc) : Prop := v = some (.ref a1) ∧ Fr n0 L ∧ h = h0
set_option maxRecDepth 65536 in
set_option maxHeartbeats 40000000 in
theorem rmS1_0 (l : Launch) (Z : State) (a0 : Array Value) (hw : ∀ d ∈ tables_1, d.before a0 Z = true) (ws : List Jvm.Cond) (a1 : Addr) (cs : Int32) (vF : Value) (t : Addr) (kt : ClassId) (z : Int32) (vs : List Value) (h0 : Heap) (n0 : Nat) (Z0 : n0 ≤ h0.size) (SC : Sta Z h0 "java/lang/String" "COMPACT_STRINGS" "Z" (.int cs)) (hcs : ¬ (cs = (0 : Int32))) (SF : Sta Z h0 "jdk/internal/util/Preconditions" "SIOOBE_FORMATTER" "Ljava/util/function/BiFunction;" vF) (hF : vF.isRef = true) (E1 : Exa Z h0 a1 "java/lang/String") (C1 : Fld Z h0 a1 "java/lang/String" "coder" "B" (.int 0)) (W1 : Fld Z h0 a1 "java/lang/String" "value" "[B" (.ref t)) (V1 : Arv Z h0 t kt .byte z vs (.int 0)) (hz : ¬ (z < (0 : Int32))) (hzz : ¬ (z < z)) :
    own_M l own_y25 jdk_42_method_91_code 2 (some (.object "java/lang/String")) ws (own_R 3 0 0 45) Z h0 #[(.ref a1), (.int 0)] (QS1_0 Z a1 cs vF t kt z vs h0 n0) := by
  refine MetFree.of_bodySF (plainFor_of_name pn_java_lang_String) hisR ?_
  intro p e s m args below meth c s₁ Bd hml0 hP hK
  obtain ⟨rfl, hZ, hh⟩ := hP
  have hx := Bd.exec
  have hby := Bd.bytes
  have hml : c.maxLocals = 2 := hml0
  have hown : s.vm.findClass "java/lang/String" = some m.cls := findClass_of_methodNamed Bd.named
  have hnm := (name_of_methodNamed Bd.named Bd.method).1
  have X0 : Stand p l e (own_R 3 0 0 45) s m #[(.ref a1), (.int 0)] below meth c s₁ [] 0 0 := Stand.of_body Bd
  have e0 : s₁.heap = h0 := by rw [← hh, Bd.state]; rfl
  have N0 := Fr.nil n0
  have pre0 : own_P p e below s₁ (entryFrame m #[(.ref a1), (.int 0)] 2) s₁ (mkF m 0 #[rv a1, iv 0] []) := fun t k => castTop (ef_rmS1_0 m a1) k
  obtain ⟨cq101, kq101, q101a, q101b, q101c⟩ := isOf hZ e0 E1
  obtain ⟨_, _, ⟨T101, L101, k101, n101⟩, -, X101, ⟨Lc101, hQ101, l101, y101, z101⟩, st101⟩ := X0.virtualBack hx (y := own_y11) (z := own_y11) hown (own_m hZ hw 63) (own_m hZ hw 49) (notFace_of_selects (args := #[]) (own_m hZ hw 51)) (own_m hZ hw 51) (own_m hZ hw 50) (by decide) (backOf (W := 2) (rmLen l Z a0 hw [] a1 cs t kt z vs h0 n0 Z0 SC hcs E1 C1 W1 V1) hZ (own_i hw 52 rfl) (own_i hw 10 rfl) (by decide) (by decide)) q101a q101c (g := (mkF m 3 #[rv a1, iv 0] [(.ref a1), (.int 0), (.ref a1)])) rfl (by rw [hml]; rfl) (Steps.refl _) (argsL := []) (rest := [(.int 0), (.ref a1)]) (lenOf pd_15 rfl) rfl (Nat.le_of_eq rfl) (hb hby d14_3) (fun _ _ => ⟨rfl, e0, (by decide : 0 + 0 ≤ _), (by decide : 0 + 0 ≤ _)⟩)
  dsimp only [Pt.U, Pt.locs, Pt.cells, Pt.slots] at X101 l101 y101 z101 st101 hQ101
  subst l101 y101 z101
  obtain ⟨rfl, N101q, e101⟩ := hQ101
  have N101 := Fr.app N0 N101q
  obtain ⟨cq102, kq102, q102a, q102b, q102c⟩ := isOf hZ e101 E1
  obtain ⟨_, _, ⟨T102, L102, k102, n102⟩, -, X102, ⟨Lc102, hQ102, l102, y102, z102⟩, st102⟩ := X101.virtualBack hx (y := own_y24) (z := own_y24) hown (own_m hZ hw 64) (own_m hZ hw 65) (notFace_of_selects (args := #[]) (own_m hZ hw 67)) (own_m hZ hw 67) (own_m hZ hw 66) (by decide) (backOf (W := 0) (rmS2_0 l Z a0 hw [] a1 cs vF t kt z vs h0 n0 Z0 SC hcs SF hF E1 C1 W1 V1 hz hzz) hZ (own_i hw 68 rfl) (own_i hw 10 rfl) (by decide) (by decide)) q102a q102c (g := (mkF m 6 #[rv a1, iv 0] [(.int z), (.int 0), (.ref a1)])) rfl (by rw [hml]; rfl) (Steps.refl _) (argsL := [(.int 0), (.int z)]) (rest := []) (lenOf pd_18 rfl) rfl (Nat.le_of_eq rfl) (hb hby d14_6) (fun _ _ => ⟨rfl, e101, (by decide : 0 + 0 ≤ _), (by decide : 0 + 0 ≤ _)⟩)
  dsimp only [Pt.U, Pt.locs, Pt.cells, Pt.slots] at X102 l102 y102 z102 st102 hQ102
  subst l102 y102 z102
  obtain ⟨rfl, N102q, e102⟩ := hQ102
  have N102 := Fr.app N101 N102q
  have pre103 : own_P p e below s₁ (entryFrame m #[(.ref a1), (.int 0)] 2) T102 (mkF m 9 #[rv a1, iv 0] [(.ref a1)]) := fun t k => pre0 t (by
    show Steps p.tables e below (s₁.setTop (mkF m 0 #[rv a1, iv 0] [])) t
    refine XS.aloadN X0.here hx rfl (hb hby d14_0) rfl rfl ?_
    refine XS.iloadN X0.here hx rfl (hb hby d14_1) rfl ?_
    refine XS.aloadN X0.here hx rfl (hb hby d14_2) rfl rfl ?_
    refine st101.trans ?_
    refine st102.trans ?_
    exact k)
  obtain ⟨fs, hr, hrun, hended, hW, hsame⟩ := X102.leave (v := some (.ref a1)) (fun h => by rw [Bd.returns] at h; cases h)
  refine ⟨_, _, pre103 _ ?_, hrun, hended, _, _, rfl, ?_, ⟨_, rfl⟩, hW, hsame.mono (by decide) (by decide)⟩
  · exact retOut X102 hx Bd.returns rfl (Or.inr (Or.inr (Or.inr (Or.inr ⟨rfl, rfl, rfl⟩)))) (hb hby d14_9) hr
  · show QS1_0 Z a1 cs vF t kt z vs h0 n0 _ T102.heap _
    rw [e102]
    exact ⟨rfl, N102, rfl⟩
theorem pn_com_example_millipede_millipede_DecimalNumbers : plainName "com/example/millipede/millipede/DecimalNumbers" = true := by first | (simp [plainName, overriddenIn]; done) | decide +kernel
theorem pd_19 : parseMethodDescriptor "(I)Ljava/lang/String;" = some ⟨[.int], some (.object "java/lang/String")⟩ := by decide +kernel
theorem ef_rmK_1_0 (m : MethodId) (x0 : Addr) : entryFrame m #[(.ref x0)] 2 = mkF m 0 #[rv x0, .unset] [] := by first | (simp [entryFrame, mkF, argsToLocals, Value.category]; done) | rfl
def QK_1_0 (Z : State) (a1 : Addr) (cs : Int32) (vF : Value) (t : Addr) (kt : ClassId) (y0 : Int32) (h0 : Heap) (n0 : Nat) (v : Option Value) (h : Heap) (L : List Loc) : Prop := v = some (.ref a1) ∧ Fr n0 L ∧ h = h0
set_option maxRecDepth 65536 in
set_option maxHeartbeats 40000000 in
theorem rmK_1_0 (l : Launch) (Z : State) (a0 : Array Value) (hw : ∀ d ∈ tables_1, d.before a0 Z = true) (ws : List Jvm.Cond) (a1 : Addr) (cs : Int32) (vF : Value) (t : Addr) (kt : ClassId) (y0 : Int32) (h0 : Heap) (n0 : Nat) (Z0 : n0 ≤ h0.size) (SC : Sta Z h0 "java/lang/String" "COMPACT_STRINGS" "Z" (.int cs)) (hcs : ¬ (cs = (0 : Int32))) (SF : Sta Z h0 "jdk/internal/util/Preconditions" "SIOOBE_FORMATTER" "Ljava/util/function/BiFunction;" vF) (hF : vF.isRef = true) (E1 : Exa Z h0 a1 "java/lang/String") (C1 : Fld Z h0 a1 "java/lang/String" "coder" "B" (.int 0)) (W1 : Fld Z h0 a1 "java/lang/String" "value" "[B" (.ref t)) (V1 : Arv Z h0 t kt .byte (1 : Int32) [(.int y0)] (.int 0)) :
    own_M l own_y26 prog_20_method_3_code 2 (some (.object "java/lang/String")) ws (own_R 4 0 0 58) Z h0 #[(.ref a1)] (QK_1_0 Z a1 cs vF t kt y0 h0 n0) := by
  refine MetFree.of_bodySF (plainFor_of_name pn_com_example_millipede_millipede_DecimalNumbers) hisR ?_
  intro p e s m args below meth c s₁ Bd hml0 hP hK
  obtain ⟨rfl, hZ, hh⟩ := hP
  have hx := Bd.exec
  have hby := Bd.bytes
  have hml : c.maxLocals = 2 := hml0
  have hown : s.vm.findClass "com/example/millipede/millipede/DecimalNumbers" = some m.cls := findClass_of_methodNamed Bd.named
  have hnm := (name_of_methodNamed Bd.named Bd.method).1
  have X0 : Stand p l e (own_R 4 0 0 58) s m #[(.ref a1)] below meth c s₁ [] 0 0 := Stand.of_body Bd
  have e0 : s₁.heap = h0 := by rw [← hh, Bd.state]; rfl
  have N0 := Fr.nil n0
  have pre0 : own_P p e below s₁ (entryFrame m #[(.ref a1)] 2) s₁ (mkF m 0 #[rv a1, .unset] []) := fun t k => castTop (ef_rmK_1_0 m a1) k
  obtain ⟨cq101, kq101, q101a, q101b, q101c⟩ := isOf hZ e0 E1
  obtain ⟨_, _, ⟨T101, L101, k101, n101⟩, -, X101, ⟨Lc101, hQ101, l101, y101, z101⟩, st101⟩ := X0.virtualBack hx (y := own_y11) (z := own_y11) hown (own_m hZ hw 48) (own_m hZ hw 49) (notFace_of_selects (args := #[]) (own_m hZ hw 51)) (own_m hZ hw 51) (own_m hZ hw 50) (by decide) (backOf (W := 1) (rmLen l Z a0 hw [] a1 cs t kt (1 : Int32) ([(.int y0)]) h0 n0 Z0 SC hcs E1 C1 W1 V1) hZ (own_i hw 52 rfl) (own_i hw 10 rfl) (by decide) (by decide)) q101a q101c (g := (mkF m 4 #[rv a1, iv 0] [(.ref a1), (.int 0)])) rfl (by rw [hml]; rfl) (Steps.refl _) (argsL := []) (rest := [(.int 0)]) (lenOf pd_15 rfl) rfl (Nat.le_of_eq rfl) (hb hby d11_4) (fun _ _ => ⟨rfl, e0, (by decide : 0 + 0 ≤ _), (by decide : 0 + 0 ≤ _)⟩)
  dsimp only [Pt.U, Pt.locs, Pt.cells, Pt.slots] at X101 l101 y101 z101 st101 hQ101
  subst l101 y101 z101
  obtain ⟨rfl, N101q, e101⟩ := hQ101
  have N101 := Fr.app N0 N101q
  obtain ⟨cq102, kq102, q102a, q102b, q102c⟩ := isOf hZ e101 E1
  obtain ⟨_, _, ⟨T102, L102, k102, n102⟩, -, X102, ⟨Lc102, hQ102, l102, y102, z102⟩, st102⟩ := X101.virtualBack hx (y := own_y25) (z := own_y25) hown (own_m hZ hw 58) (own_m hZ hw 59) (notFace_of_selects (args := #[]) (own_m hZ hw 61)) (own_m hZ hw 61) (own_m hZ hw 60) (by decide) (backOf (W := 0) (rmS1_0 l Z a0 hw [] a1 cs vF t kt (1 : Int32) ([(.int y0)]) h0 n0 Z0 SC hcs SF hF E1 C1 W1 V1 (by first | assumption | rfl | decide | omega | simp_all) (by first | assumption | rfl | decide | omega | simp_all)) hZ (own_i hw 62 rfl) (own_i hw 10 rfl) (by decide) (by decide)) q102a q102c (g := (mkF m 30 #[rv a1, iv 0] [(.int 0), (.ref a1)])) rfl (by rw [hml]; rfl) (Steps.refl _) (argsL := [(.int 0)]) (rest := []) (lenOf pd_19 rfl) rfl (Nat.le_of_eq rfl) (hb hby d11_30) (fun _ _ => ⟨rfl, e101, (by decide : 0 + 0 ≤ _), (by decide : 0 + 0 ≤ _)⟩)
  dsimp only [Pt.U, Pt.locs, Pt.cells, Pt.slots] at X102 l102 y102 z102 st102 hQ102
  subst l102 y102 z102
  obtain ⟨rfl, N102q, e102⟩ := hQ102
  have N102 := Fr.app N101 N102q
  have pre103 : own_P p e below s₁ (entryFrame m #[(.ref a1)] 2) T102 (mkF m 33 #[rv a1, iv 0] [(.ref a1)]) := fun t k => pre0 t (by
    show Steps p.tables e below (s₁.setTop (mkF m 0 #[rv a1, .unset] [])) t
    refine XS.iconst X0.here hx rfl (hb hby d11_0) ?_
    refine XS.istoreN X0.here hx rfl (hb hby d11_1) rfl (l' := #[rv a1, iv 0]) rfl ?_
    refine XS.iloadN X0.here hx rfl (hb hby d11_2) rfl ?_
    refine XS.aloadN X0.here hx rfl (hb hby d11_3) rfl rfl ?_
    refine st101.trans ?_
    refine XS.iconst X101.here hx rfl (hb hby d11_7) ?_
    refine XS.isub X101.here hx rfl (hb hby d11_8) rfl ?_
    refine XS.icmpYes X101.here hx rfl (pc0 := 9) (pc' := 28) rfl (hb hby d11_9) rfl (flt (by decide : ¬ ((0 : Int32) < (0 : Int32)))).2.1 (by decide) (by decide) ?_
    refine XS.aloadN X101.here hx rfl (hb hby d11_28) rfl rfl ?_
    refine XS.iloadN X101.here hx rfl (hb hby d11_29) rfl ?_
    refine st102.trans ?_
    exact k)
  obtain ⟨fs, hr, hrun, hended, hW, hsame⟩ := X102.leave (v := some (.ref a1)) (fun h => by rw [Bd.returns] at h; cases h)
  refine ⟨_, _, pre103 _ ?_, hrun, hended, _, _, rfl, ?_, ⟨_, rfl⟩, hW, hsame.mono (by decide) (by decide)⟩
  · exact retOut X102 hx Bd.returns rfl (Or.inr (Or.inr (Or.inr (Or.inr ⟨rfl, rfl, rfl⟩)))) (hb hby d11_33) hr
  · show QK_1_0 Z a1 cs vF t kt y0 h0 n0 _ T102.heap _
    rw [e102]
    exact ⟨rfl, N102, rfl⟩
theorem ef_rmK_2_0 (m : MethodId) (x0 : Addr) : entryFrame m #[(.ref x0)] 2 = mkF m 0 #[rv x0, .unset] [] := by first | (simp [entryFrame, mkF, argsToLocals, Value.category]; done) | rfl
def QK_2_0 (Z : State) (a1 : Addr) (cs : Int32) (vF : Value) (t : Addr) (kt : ClassId) (y0 : Int32) (y1 : Int32) (h0 : Heap) (n0 : Nat) (v : Option Value) (h : Heap) (L : List Loc) : Prop := v = some (.ref a1) ∧ Fr n0 L ∧ h = h0
set_option maxRecDepth 65536 in
set_option maxHeartbeats 40000000 in
theorem rmK_2_0 (l : Launch) (Z : State) (a0 : Array Value) (hw : ∀ d ∈ tables_1, d.before a0 Z = true) (ws : List Jvm.Cond) (a1 : Addr) (cs : Int32) (vF : Value) (t : Addr) (kt : ClassId) (y0 : Int32) (y1 : Int32) (h0 : Heap) (n0 : Nat) (Z0 : n0 ≤ h0.size) (SC : Sta Z h0 "java/lang/String" "COMPACT_STRINGS" "Z" (.int cs)) (hcs : ¬ (cs = (0 : Int32))) (SF : Sta Z h0 "jdk/internal/util/Preconditions" "SIOOBE_FORMATTER" "Ljava/util/function/BiFunction;" vF) (hF : vF.isRef = true) (E1 : Exa Z h0 a1 "java/lang/String") (C1 : Fld Z h0 a1 "java/lang/String" "coder" "B" (.int 0)) (W1 : Fld Z h0 a1 "java/lang/String" "value" "[B" (.ref t)) (V1 : Arv Z h0 t kt .byte (2 : Int32) [(.int y0), (.int y1)] (.int 0)) (hz0 : ¬ ((own_cat y0) = (48 : Int32))) :
    own_M l own_y26 prog_20_method_3_code 2 (some (.object "java/lang/String")) ws (own_R 4 0 0 58) Z h0 #[(.ref a1)] (QK_2_0 Z a1 cs vF t kt y0 y1 h0 n0) := by
  refine MetFree.of_bodySF (plainFor_of_name pn_com_example_millipede_millipede_DecimalNumbers) hisR ?_
  intro p e s m args below meth c s₁ Bd hml0 hP hK
  obtain ⟨rfl, hZ, hh⟩ := hP
  have hx := Bd.exec
  have hby := Bd.bytes
  have hml : c.maxLocals = 2 := hml0
  have hown : s.vm.findClass "com/example/millipede/millipede/DecimalNumbers" = some m.cls := findClass_of_methodNamed Bd.named
  have hnm := (name_of_methodNamed Bd.named Bd.method).1
  have X0 : Stand p l e (own_R 4 0 0 58) s m #[(.ref a1)] below meth c s₁ [] 0 0 := Stand.of_body Bd
  have e0 : s₁.heap = h0 := by rw [← hh, Bd.state]; rfl
  have N0 := Fr.nil n0
  have pre0 : own_P p e below s₁ (entryFrame m #[(.ref a1)] 2) s₁ (mkF m 0 #[rv a1, .unset] []) := fun t k => castTop (ef_rmK_2_0 m a1) k
  obtain ⟨cq101, kq101, q101a, q101b, q101c⟩ := isOf hZ e0 E1
  obtain ⟨_, _, ⟨T101, L101, k101, n101⟩, -, X101, ⟨Lc101, hQ101, l101, y101, z101⟩, st101⟩ := X0.virtualBack hx (y := own_y11) (z := own_y11) hown (own_m hZ hw 48) (own_m hZ hw 49) (notFace_of_selects (args := #[]) (own_m hZ hw 51)) (own_m hZ hw 51) (own_m hZ hw 50) (by decide) (backOf (W := 1) (rmLen l Z a0 hw [] a1 cs t kt (2 : Int32) ([(.int y0), (.int y1)]) h0 n0 Z0 SC hcs E1 C1 W1 V1) hZ (own_i hw 52 rfl) (own_i hw 10 rfl) (by decide) (by decide)) q101a q101c (g := (mkF m 4 #[rv a1, iv 0] [(.ref a1), (.int 0)])) rfl (by rw [hml]; rfl) (Steps.refl _) (argsL := []) (rest := [(.int 0)]) (lenOf pd_15 rfl) rfl (Nat.le_of_eq rfl) (hb hby d11_4) (fun _ _ => ⟨rfl, e0, (by decide : 0 + 0 ≤ _), (by decide : 0 + 0 ≤ _)⟩)
  dsimp only [Pt.U, Pt.locs, Pt.cells, Pt.slots] at X101 l101 y101 z101 st101 hQ101
  subst l101 y101 z101
  obtain ⟨rfl, N101q, e101⟩ := hQ101
  have N101 := Fr.app N0 N101q
  obtain ⟨cq102, kq102, q102a, q102b, q102c⟩ := isOf hZ e101 E1
  obtain ⟨_, _, ⟨T102, L102, k102, n102⟩, -, X102, ⟨Lc102, hQ102, l102, y102, z102⟩, st102⟩ := X101.virtualBack hx (y := own_y15) (z := own_y15) hown (own_m hZ hw 87) (own_m hZ hw 88) (notFace_of_selects (args := #[]) (own_m hZ hw 90)) (own_m hZ hw 90) (own_m hZ hw 89) (by decide) (backOf (W := 0) (rmCh l Z a0 hw [] a1 (0 : Int32) cs vF t kt y0 (2 : Int32) ([(.int y0), (.int y1)]) h0 n0 Z0 SC hcs SF hF E1 C1 W1 V1 (by first | assumption | rfl | decide | omega | simp_all) (by first | assumption | rfl | decide | omega | simp_all) rfl) hZ (own_i hw 91 rfl) (own_i hw 10 rfl) (by decide) (by decide)) q102a q102c (g := (mkF m 14 #[rv a1, iv 0] [(.int 0), (.ref a1)])) rfl (by rw [hml]; rfl) (Steps.refl _) (argsL := [(.int 0)]) (rest := []) (lenOf pd_4 rfl) rfl (Nat.le_of_eq rfl) (hb hby d11_14) (fun _ _ => ⟨rfl, e101, (by decide : 0 + 0 ≤ _), (by decide : 0 + 0 ≤ _)⟩)
  dsimp only [Pt.U, Pt.locs, Pt.cells, Pt.slots] at X102 l102 y102 z102 st102 hQ102
  subst l102 y102 z102
  obtain ⟨rfl, N102q, e102⟩ := hQ102
  have N102 := Fr.app N101 N102q
  obtain ⟨cq103, kq103, q103a, q103b, q103c⟩ := isOf hZ e102 E1
  obtain ⟨_, _, ⟨T103, L103, k103, n103⟩, -, X103, ⟨Lc103, hQ103, l103, y103, z103⟩, st103⟩ := X102.virtualBack hx (y := own_y25) (z := own_y25) hown (own_m hZ hw 58) (own_m hZ hw 59) (notFace_of_selects (args := #[]) (own_m hZ hw 61)) (own_m hZ hw 61) (own_m hZ hw 60) (by decide) (backOf (W := 0) (rmS1_0 l Z a0 hw [] a1 cs vF t kt (2 : Int32) ([(.int y0), (.int y1)]) h0 n0 Z0 SC hcs SF hF E1 C1 W1 V1 (by first | assumption | rfl | decide | omega | simp_all) (by first | assumption | rfl | decide | omega | simp_all)) hZ (own_i hw 62 rfl) (own_i hw 10 rfl) (by decide) (by decide)) q103a q103c (g := (mkF m 30 #[rv a1, iv 0] [(.int 0), (.ref a1)])) rfl (by rw [hml]; rfl) (Steps.refl _) (argsL := [(.int 0)]) (rest := []) (lenOf pd_19 rfl) rfl (Nat.le_of_eq rfl) (hb hby d11_30) (fun _ _ => ⟨rfl, e102, (by decide : 0 + 0 ≤ _), (by decide : 0 + 0 ≤ _)⟩)
  dsimp only [Pt.U, Pt.locs, Pt.cells, Pt.slots] at X103 l103 y103 z103 st103 hQ103
  subst l103 y103 z103
  obtain ⟨rfl, N103q, e103⟩ := hQ103
  have N103 := Fr.app N102 N103q
  have pre104 : own_P p e below s₁ (entryFrame m #[(.ref a1)] 2) T103 (mkF m 33 #[rv a1, iv 0] [(.ref a1)]) := fun t k => pre0 t (by
    show Steps p.tables e below (s₁.setTop (mkF m 0 #[rv a1, .unset] [])) t
    refine XS.iconst X0.here hx rfl (hb hby d11_0) ?_
    refine XS.istoreN X0.here hx rfl (hb hby d11_1) rfl (l' := #[rv a1, iv 0]) rfl ?_
    refine XS.iloadN X0.here hx rfl (hb hby d11_2) rfl ?_
    refine XS.aloadN X0.here hx rfl (hb hby d11_3) rfl rfl ?_
    refine st101.trans ?_
    refine XS.iconst X101.here hx rfl (hb hby d11_7) ?_
    refine XS.isub X101.here hx rfl (hb hby d11_8) rfl ?_
    refine XS.icmpNo X101.here hx rfl (hb hby d11_9) rfl (tlt (by decide : (0 : Int32) < (1 : Int32))).2.1 ?_
    refine XS.aloadN X101.here hx rfl (hb hby d11_12) rfl rfl ?_
    refine XS.iloadN X101.here hx rfl (hb hby d11_13) rfl ?_
    refine st102.trans ?_
    refine XS.bipush X102.here hx rfl (hb hby d11_17) ?_
    refine XS.icmpYes X102.here hx rfl (pc0 := 19) (pc' := 28) rfl (hb hby d11_19) rfl (feq hz0).2 (by decide) (by decide) ?_
    refine XS.aloadN X102.here hx rfl (hb hby d11_28) rfl rfl ?_
    refine XS.iloadN X102.here hx rfl (hb hby d11_29) rfl ?_
    refine st103.trans ?_
    exact k)
  obtain ⟨fs, hr, hrun, hended, hW, hsame⟩ := X103.leave (v := some (.ref a1)) (fun h => by rw [Bd.returns] at h; cases h)
  refine ⟨_, _, pre104 _ ?_, hrun, hended, _, _, rfl, ?_, ⟨_, rfl⟩, hW, hsame.mono (by decide) (by decide)⟩
  · exact retOut X103 hx Bd.returns rfl (Or.inr (Or.inr (Or.inr (Or.inr ⟨rfl, rfl, rfl⟩)))) (hb hby d11_33) hr
  · show QK_2_0 Z a1 cs vF t kt y0 y1 h0 n0 _ T103.heap _
    rw [e103]
    exact ⟨rfl, N103, rfl⟩
theorem ef_rmK_2_1 (m : MethodId) (x0 : Addr) : entryFrame m #[(.ref x0)] 2 = mkF m 0 #[rv x0, .unset] [] := by first | (simp [entryFrame, mkF, argsToLocals, Value.category]; done) | rfl
def QK_2_1 (Z : State) (a1 : Addr) (cs : Int32) (vF : Value) (t : Addr) (kt : ClassId) (y0 : Int32) (y1 : Int32) (h0 : Heap) (n0 : Nat) (v : Option Value) (h : Heap) (L : List Loc) : Prop := ∃ (b : Addr) (tb : Addr) (kb : ClassId), v = some (.ref b) ∧ Fr n0 L ∧ Keep h0 h [] ∧ (n0 ≤ b) ∧ (h0.size ≤ b) ∧ (Exa Z h b "java/lang/String") ∧ (Fld Z h b "java/lang/String" "coder" "B" (.int 0)) ∧ (Fld Z h b "java/lang/String" "value" "[B" (.ref tb)) ∧ (n0 ≤ tb) ∧ (h0.size ≤ tb) ∧ (Arv Z h tb kb .byte (1 : Int32) [(.int y1)] (.int 0))
set_option maxRecDepth 65536 in
set_option maxHeartbeats 40000000 in
theorem rmK_2_1 (l : Launch) (Z : State) (a0 : Array Value) (hw : ∀ d ∈ tables_1, d.before a0 Z = true) (ws : List Jvm.Cond) (a1 : Addr) (cs : Int32) (vF : Value) (t : Addr) (kt : ClassId) (y0 : Int32) (y1 : Int32) (h0 : Heap) (n0 : Nat) (Z0 : n0 ≤ h0.size) (SC : Sta Z h0 "java/lang/String" "COMPACT_STRINGS" "Z" (.int cs)) (hcs : ¬ (cs = (0 : Int32))) (SF : Sta Z h0 "jdk/internal/util/Preconditions" "SIOOBE_FORMATTER" "Ljava/util/function/BiFunction;" vF) (hF : vF.isRef = true) (E1 : Exa Z h0 a1 "java/lang/String") (C1 : Fld Z h0 a1 "java/lang/String" "coder" "B" (.int 0)) (W1 : Fld Z h0 a1 "java/lang/String" "value" "[B" (.ref t)) (V1 : Arv Z h0 t kt .byte (2 : Int32) [(.int y0), (.int y1)] (.int 0)) (hz0 : (own_cat y0) = (48 : Int32)) :
    own_M l own_y26 prog_20_method_3_code 2 (some (.object "java/lang/String")) ws (own_R 6 2 5 115) Z h0 #[(.ref a1)] (QK_2_1 Z a1 cs vF t kt y0 y1 h0 n0) := by
  refine MetFree.of_bodySF (plainFor_of_name pn_com_example_millipede_millipede_DecimalNumbers) hisR ?_
  intro p e s m args below meth c s₁ Bd hml0 hP hK
  obtain ⟨rfl, hZ, hh⟩ := hP
  have hx := Bd.exec
  have hby := Bd.bytes
  have hml : c.maxLocals = 2 := hml0
  have hown : s.vm.findClass "com/example/millipede/millipede/DecimalNumbers" = some m.cls := findClass_of_methodNamed Bd.named
  have hnm := (name_of_methodNamed Bd.named Bd.method).1
  have X0 : Stand p l e (own_R 6 2 5 115) s m #[(.ref a1)] below meth c s₁ [] 0 0 := Stand.of_body Bd
  have e0 : s₁.heap = h0 := by rw [← hh, Bd.state]; rfl
  have N0 := Fr.nil n0
  have pre0 : own_P p e below s₁ (entryFrame m #[(.ref a1)] 2) s₁ (mkF m 0 #[rv a1, .unset] []) := fun t k => castTop (ef_rmK_2_1 m a1) k
  have f101 := Keep.refl h0 []
  obtain ⟨cq102, kq102, q102a, q102b, q102c⟩ := isOf hZ e0 E1
  obtain ⟨_, _, ⟨T102, L102, k102, n102⟩, -, X102, ⟨Lc102, hQ102, l102, y102, z102⟩, st102⟩ := X0.virtualBack hx (y := own_y11) (z := own_y11) hown (own_m hZ hw 48) (own_m hZ hw 49) (notFace_of_selects (args := #[]) (own_m hZ hw 51)) (own_m hZ hw 51) (own_m hZ hw 50) (by decide) (backOf (W := 1) (rmLen l Z a0 hw [] a1 cs t kt (2 : Int32) ([(.int y0), (.int y1)]) h0 n0 Z0 SC hcs E1 C1 W1 V1) hZ (own_i hw 52 rfl) (own_i hw 10 rfl) (by decide) (by decide)) q102a q102c (g := (mkF m 4 #[rv a1, iv 0] [(.ref a1), (.int 0)])) rfl (by rw [hml]; rfl) (Steps.refl _) (argsL := []) (rest := [(.int 0)]) (lenOf pd_15 rfl) rfl (Nat.le_of_eq rfl) (hb hby d11_4) (fun _ _ => ⟨rfl, e0, (by decide : 0 + 0 ≤ _), (by decide : 0 + 0 ≤ _)⟩)
  dsimp only [Pt.U, Pt.locs, Pt.cells, Pt.slots] at X102 l102 y102 z102 st102 hQ102
  subst l102 y102 z102
  obtain ⟨rfl, N102q, e102⟩ := hQ102
  have N102 := Fr.app N0 N102q
  obtain ⟨cq103, kq103, q103a, q103b, q103c⟩ := isOf hZ e102 E1
  obtain ⟨_, _, ⟨T103, L103, k103, n103⟩, -, X103, ⟨Lc103, hQ103, l103, y103, z103⟩, st103⟩ := X102.virtualBack hx (y := own_y15) (z := own_y15) hown (own_m hZ hw 87) (own_m hZ hw 88) (notFace_of_selects (args := #[]) (own_m hZ hw 90)) (own_m hZ hw 90) (own_m hZ hw 89) (by decide) (backOf (W := 0) (rmCh l Z a0 hw [] a1 (0 : Int32) cs vF t kt y0 (2 : Int32) ([(.int y0), (.int y1)]) h0 n0 Z0 SC hcs SF hF E1 C1 W1 V1 (by first | assumption | rfl | decide | omega | simp_all) (by first | assumption | rfl | decide | omega | simp_all) rfl) hZ (own_i hw 91 rfl) (own_i hw 10 rfl) (by decide) (by decide)) q103a q103c (g := (mkF m 14 #[rv a1, iv 0] [(.int 0), (.ref a1)])) rfl (by rw [hml]; rfl) (Steps.refl _) (argsL := [(.int 0)]) (rest := []) (lenOf pd_4 rfl) rfl (Nat.le_of_eq rfl) (hb hby d11_14) (fun _ _ => ⟨rfl, e102, (by decide : 0 + 0 ≤ _), (by decide : 0 + 0 ≤ _)⟩)
  dsimp only [Pt.U, Pt.locs, Pt.cells, Pt.slots] at X103 l103 y103 z103 st103 hQ103
  subst l103 y103 z103
  obtain ⟨rfl, N103q, e103⟩ := hQ103
  have N103 := Fr.app N102 N103q
  obtain ⟨cq104, kq104, q104a, q104b, q104c⟩ := isOf hZ e103 E1
  obtain ⟨_, _, ⟨T104, L104, k104, n104⟩, -, X104, ⟨Lc104, hQ104, l104, y104, z104⟩, st104⟩ := X103.virtualBack hx (y := own_y11) (z := own_y11) hown (own_m hZ hw 48) (own_m hZ hw 49) (notFace_of_selects (args := #[]) (own_m hZ hw 51)) (own_m hZ hw 51) (own_m hZ hw 50) (by decide) (backOf (W := 1) (rmLen l Z a0 hw [] a1 cs t kt (2 : Int32) ([(.int y0), (.int y1)]) h0 n0 Z0 SC hcs E1 C1 W1 V1) hZ (own_i hw 52 rfl) (own_i hw 10 rfl) (by decide) (by decide)) q104a q104c (g := (mkF m 4 #[rv a1, iv 1] [(.ref a1), (.int 1)])) rfl (by rw [hml]; rfl) (Steps.refl _) (argsL := []) (rest := [(.int 1)]) (lenOf pd_15 rfl) rfl (Nat.le_of_eq rfl) (hb hby d11_4) (fun _ _ => ⟨rfl, e103, (by decide : 0 + 0 ≤ _), (by decide : 0 + 0 ≤ _)⟩)
  dsimp only [Pt.U, Pt.locs, Pt.cells, Pt.slots] at X104 l104 y104 z104 st104 hQ104
  subst l104 y104 z104
  obtain ⟨rfl, N104q, e104⟩ := hQ104
  have N104 := Fr.app N103 N104q
  obtain ⟨cq105, kq105, q105a, q105b, q105c⟩ := isOf hZ e104 E1
  obtain ⟨_, _, ⟨T105, L105, k105, n105⟩, -, X105, ⟨Lc105, hQ105, l105, y105, z105⟩, st105⟩ := X104.virtualBack hx (y := own_y25) (z := own_y25) hown (own_m hZ hw 58) (own_m hZ hw 59) (notFace_of_selects (args := #[]) (own_m hZ hw 61)) (own_m hZ hw 61) (own_m hZ hw 60) (by decide) (backOf (W := 0) (rmS1_2_1 l Z a0 hw [] a1 cs vF t kt y0 y1 h0 n0 Z0 SC hcs SF hF E1 C1 W1 V1) hZ (own_i hw 62 rfl) (own_i hw 10 rfl) (by decide) (by decide)) q105a q105c (g := (mkF m 30 #[rv a1, iv 1] [(.int 1), (.ref a1)])) rfl (by rw [hml]; rfl) (Steps.refl _) (argsL := [(.int 1)]) (rest := []) (lenOf pd_19 rfl) rfl (Nat.le_of_eq rfl) (hb hby d11_30) (fun _ _ => ⟨rfl, e104, (by decide : 0 + 2 ≤ _), (by decide : 0 + 5 ≤ _)⟩)
  dsimp only [Pt.U, Pt.locs, Pt.cells, Pt.slots] at X105 l105 y105 z105 st105 hQ105
  subst l105 y105 z105
  obtain ⟨b106, b107, x108, rfl, N105q, K105, f109, f110, f111, f112, f113, f114, f115, f116⟩ := hQ105
  have N105 := Fr.app N104 N105q
  have ne117 : a1 ≠ b106 := Nat.ne_of_lt (Nat.lt_of_lt_of_le E1.lt f110)
  have ne118 : t ≠ b106 := Nat.ne_of_lt (Nat.lt_of_lt_of_le V1.lt f110)
  have ne119 : a1 ≠ b107 := Nat.ne_of_lt (Nat.lt_of_lt_of_le E1.lt f115)
  have ne120 : t ≠ b107 := Nat.ne_of_lt (Nat.lt_of_lt_of_le V1.lt f115)
  have f121 := Nat.le_trans Z0 K105.1
  have f122 := E1.keep K105
  have f123 := C1.keep K105 nin0
  have f124 := W1.keep K105 nin0
  have f125 := V1.keep K105 nin0
  have f126 := f101.trans K105 all0
  have pre127 : own_P p e below s₁ (entryFrame m #[(.ref a1)] 2) T105 (mkF m 33 #[rv a1, iv 1] [(.ref b106)]) := fun t k => pre0 t (by
    show Steps p.tables e below (s₁.setTop (mkF m 0 #[rv a1, .unset] [])) t
    refine XS.iconst X0.here hx rfl (hb hby d11_0) ?_
    refine XS.istoreN X0.here hx rfl (hb hby d11_1) rfl (l' := #[rv a1, iv 0]) rfl ?_
    refine XS.iloadN X0.here hx rfl (hb hby d11_2) rfl ?_
    refine XS.aloadN X0.here hx rfl (hb hby d11_3) rfl rfl ?_
    refine st102.trans ?_
    refine XS.iconst X102.here hx rfl (hb hby d11_7) ?_
    refine XS.isub X102.here hx rfl (hb hby d11_8) rfl ?_
    refine XS.icmpNo X102.here hx rfl (hb hby d11_9) rfl (tlt (by decide : (0 : Int32) < (1 : Int32))).2.1 ?_
    refine XS.aloadN X102.here hx rfl (hb hby d11_12) rfl rfl ?_
    refine XS.iloadN X102.here hx rfl (hb hby d11_13) rfl ?_
    refine st103.trans ?_
    refine XS.bipush X103.here hx rfl (hb hby d11_17) ?_
    refine XS.icmpNo X103.here hx rfl (hb hby d11_19) rfl (teq hz0).2 ?_
    refine XS.iinc X103.here hx rfl (hb hby d11_22) rfl (l' := #[rv a1, iv 1]) rfl ?_
    refine XS.goto X103.here hx rfl (pc0 := 25) (pc' := 2) rfl (hb hby d11_25) (by decide) (by decide) ?_
    refine XS.iloadN X103.here hx rfl (hb hby d11_2) rfl ?_
    refine XS.aloadN X103.here hx rfl (hb hby d11_3) rfl rfl ?_
    refine st104.trans ?_
    refine XS.iconst X104.here hx rfl (hb hby d11_7) ?_
    refine XS.isub X104.here hx rfl (hb hby d11_8) rfl ?_
    refine XS.icmpYes X104.here hx rfl (pc0 := 9) (pc' := 28) rfl (hb hby d11_9) rfl (flt (by decide : ¬ ((1 : Int32) < (1 : Int32)))).2.1 (by decide) (by decide) ?_
    refine XS.aloadN X104.here hx rfl (hb hby d11_28) rfl rfl ?_
    refine XS.iloadN X104.here hx rfl (hb hby d11_29) rfl ?_
    refine st105.trans ?_
    exact k)
  obtain ⟨fs, hr, hrun, hended, hW, hsame⟩ := X105.leave (v := some (.ref b106)) (fun h => by rw [Bd.returns] at h; cases h)
  refine ⟨_, _, pre127 _ ?_, hrun, hended, _, _, rfl, ?_, ⟨_, rfl⟩, hW, hsame.mono (by decide) (by decide)⟩
  · exact retOut X105 hx Bd.returns rfl (Or.inr (Or.inr (Or.inr (Or.inr ⟨rfl, rfl, rfl⟩)))) (hb hby d11_33) hr
  · show QK_2_1 Z a1 cs vF t kt y0 y1 h0 n0 _ T105.heap _
    exact ⟨b106, b107, x108, rfl, N105, f126, f109, f110, f111, f112, f113, f114, f115, f116⟩
theorem ef_rmK_3_0 (m : MethodId) (x0 : Addr) : entryFrame m #[(.ref x0)] 2 = mkF m 0 #[rv x0, .unset] [] := by first | (simp [entryFrame, mkF, argsToLocals, Value.category]; done) | rfl
def QK_3_0 (Z : State) (a1 : Addr) (cs : Int32) (vF : Value) (t : Addr) (kt : ClassId) (y0 : Int32) (y1 : Int32) (y2 : Int32) (h0 : Heap) (n0 : Nat) (v : Option Value) (h : Heap) (L : List Loc) : Prop := v = some (.ref a1) ∧ Fr n0 L ∧ h = h0
set_option maxRecDepth 65536 in
set_option maxHeartbeats 40000000 in
theorem rmK_3_0 (l : Launch) (Z : State) (a0 : Array Value) (hw : ∀ d ∈ tables_1, d.before a0 Z = true) (ws : List Jvm.Cond) (a1 : Addr) (cs : Int32) (vF : Value) (t : Addr) (kt : ClassId) (y0 : Int32) (y1 : Int32) (y2 : Int32) (h0 : Heap) (n0 : Nat) (Z0 : n0 ≤ h0.size) (SC : Sta Z h0 "java/lang/String" "COMPACT_STRINGS" "Z" (.int cs)) (hcs : ¬ (cs = (0 : Int32))) (SF : Sta Z h0 "jdk/internal/util/Preconditions" "SIOOBE_FORMATTER" "Ljava/util/function/BiFunction;" vF) (hF : vF.isRef = true) (E1 : Exa Z h0 a1 "java/lang/String") (C1 : Fld Z h0 a1 "java/lang/String" "coder" "B" (.int 0)) (W1 : Fld Z h0 a1 "java/lang/String" "value" "[B" (.ref t)) (V1 : Arv Z h0 t kt .byte (3 : Int32) [(.int y0), (.int y1), (.int y2)] (.int 0)) (hz0 : ¬ ((own_cat y0) = (48 : Int32))) :
    own_M l own_y26 prog_20_method_3_code 2 (some (.object "java/lang/String")) ws (own_R 4 0 0 58) Z h0 #[(.ref a1)] (QK_3_0 Z a1 cs vF t kt y0 y1 y2 h0 n0) := by
  refine MetFree.of_bodySF (plainFor_of_name pn_com_example_millipede_millipede_DecimalNumbers) hisR ?_
  intro p e s m args below meth c s₁ Bd hml0 hP hK
  obtain ⟨rfl, hZ, hh⟩ := hP
  have hx := Bd.exec
  have hby := Bd.bytes
  have hml : c.maxLocals = 2 := hml0
  have hown : s.vm.findClass "com/example/millipede/millipede/DecimalNumbers" = some m.cls := findClass_of_methodNamed Bd.named
  have hnm := (name_of_methodNamed Bd.named Bd.method).1
  have X0 : Stand p l e (own_R 4 0 0 58) s m #[(.ref a1)] below meth c s₁ [] 0 0 := Stand.of_body Bd
  have e0 : s₁.heap = h0 := by rw [← hh, Bd.state]; rfl
  have N0 := Fr.nil n0
  have pre0 : own_P p e below s₁ (entryFrame m #[(.ref a1)] 2) s₁ (mkF m 0 #[rv a1, .unset] []) := fun t k => castTop (ef_rmK_3_0 m a1) k
  obtain ⟨cq101, kq101, q101a, q101b, q101c⟩ := isOf hZ e0 E1
  obtain ⟨_, _, ⟨T101, L101, k101, n101⟩, -, X101, ⟨Lc101, hQ101, l101, y101, z101⟩, st101⟩ := X0.virtualBack hx (y := own_y11) (z := own_y11) hown (own_m hZ hw 48) (own_m hZ hw 49) (notFace_of_selects (args := #[]) (own_m hZ hw 51)) (own_m hZ hw 51) (own_m hZ hw 50) (by decide) (backOf (W := 1) (rmLen l Z a0 hw [] a1 cs t kt (3 : Int32) ([(.int y0), (.int y1), (.int y2)]) h0 n0 Z0 SC hcs E1 C1 W1 V1) hZ (own_i hw 52 rfl) (own_i hw 10 rfl) (by decide) (by decide)) q101a q101c (g := (mkF m 4 #[rv a1, iv 0] [(.ref a1), (.int 0)])) rfl (by rw [hml]; rfl) (Steps.refl _) (argsL := []) (rest := [(.int 0)]) (lenOf pd_15 rfl) rfl (Nat.le_of_eq rfl) (hb hby d11_4) (fun _ _ => ⟨rfl, e0, (by decide : 0 + 0 ≤ _), (by decide : 0 + 0 ≤ _)⟩)
  dsimp only [Pt.U, Pt.locs, Pt.cells, Pt.slots] at X101 l101 y101 z101 st101 hQ101
  subst l101 y101 z101
  obtain ⟨rfl, N101q, e101⟩ := hQ101
  have N101 := Fr.app N0 N101q
  obtain ⟨cq102, kq102, q102a, q102b, q102c⟩ := isOf hZ e101 E1
  obtain ⟨_, _, ⟨T102, L102, k102, n102⟩, -, X102, ⟨Lc102, hQ102, l102, y102, z102⟩, st102⟩ := X101.virtualBack hx (y := own_y15) (z := own_y15) hown (own_m hZ hw 87) (own_m hZ hw 88) (notFace_of_selects (args := #[]) (own_m hZ hw 90)) (own_m hZ hw 90) (own_m hZ hw 89) (by decide) (backOf (W := 0) (rmCh l Z a0 hw [] a1 (0 : Int32) cs vF t kt y0 (3 : Int32) ([(.int y0), (.int y1), (.int y2)]) h0 n0 Z0 SC hcs SF hF E1 C1 W1 V1 (by first | assumption | rfl | decide | omega | simp_all) (by first | assumption | rfl | decide | omega | simp_all) rfl) hZ (own_i hw 91 rfl) (own_i hw 10 rfl) (by decide) (by decide)) q102a q102c (g := (mkF m 14 #[rv a1, iv 0] [(.int 0), (.ref a1)])) rfl (by rw [hml]; rfl) (Steps.refl _) (argsL := [(.int 0)]) (rest := []) (lenOf pd_4 rfl) rfl (Nat.le_of_eq rfl) (hb hby d11_14) (fun _ _ => ⟨rfl, e101, (by decide : 0 + 0 ≤ _), (by decide : 0 + 0 ≤ _)⟩)
  dsimp only [Pt.U, Pt.locs, Pt.cells, Pt.slots] at X102 l102 y102 z102 st102 hQ102
  subst l102 y102 z102
  obtain ⟨rfl, N102q, e102⟩ := hQ102
  have N102 := Fr.app N101 N102q
  obtain ⟨cq103, kq103, q103a, q103b, q103c⟩ := isOf hZ e102 E1
  obtain ⟨_, _, ⟨T103, L103, k103, n103⟩, -, X103, ⟨Lc103, hQ103, l103, y103, z103⟩, st103⟩ := X102.virtualBack hx (y := own_y25) (z := own_y25) hown (own_m hZ hw 58) (own_m hZ hw 59) (notFace_of_selects (args := #[]) (own_m hZ hw 61)) (own_m hZ hw 61) (own_m hZ hw 60) (by decide) (backOf (W := 0) (rmS1_0 l Z a0 hw [] a1 cs vF t kt (3 : Int32) ([(.int y0), (.int y1), (.int y2)]) h0 n0 Z0 SC hcs SF hF E1 C1 W1 V1 (by first | assumption | rfl | decide | omega | simp_all) (by first | assumption | rfl | decide | omega | simp_all)) hZ (own_i hw 62 rfl) (own_i hw 10 rfl) (by decide) (by decide)) q103a q103c (g := (mkF m 30 #[rv a1, iv 0] [(.int 0), (.ref a1)])) rfl (by rw [hml]; rfl) (Steps.refl _) (argsL := [(.int 0)]) (rest := []) (lenOf pd_19 rfl) rfl (Nat.le_of_eq rfl) (hb hby d11_30) (fun _ _ => ⟨rfl, e102, (by decide : 0 + 0 ≤ _), (by decide : 0 + 0 ≤ _)⟩)
  dsimp only [Pt.U, Pt.locs, Pt.cells, Pt.slots] at X103 l103 y103 z103 st103 hQ103
  subst l103 y103 z103
  obtain ⟨rfl, N103q, e103⟩ := hQ103
  have N103 := Fr.app N102 N103q
  have pre104 : own_P p e below s₁ (entryFrame m #[(.ref a1)] 2) T103 (mkF m 33 #[rv a1, iv 0] [(.ref a1)]) := fun t k => pre0 t (by
    show Steps p.tables e below (s₁.setTop (mkF m 0 #[rv a1, .unset] [])) t
    refine XS.iconst X0.here hx rfl (hb hby d11_0) ?_
    refine XS.istoreN X0.here hx rfl (hb hby d11_1) rfl (l' := #[rv a1, iv 0]) rfl ?_
    refine XS.iloadN X0.here hx rfl (hb hby d11_2) rfl ?_
    refine XS.aloadN X0.here hx rfl (hb hby d11_3) rfl rfl ?_
    refine st101.trans ?_
    refine XS.iconst X101.here hx rfl (hb hby d11_7) ?_
    refine XS.isub X101.here hx rfl (hb hby d11_8) rfl ?_
    refine XS.icmpNo X101.here hx rfl (hb hby d11_9) rfl (tlt (by decide : (0 : Int32) < (2 : Int32))).2.1 ?_
    refine XS.aloadN X101.here hx rfl (hb hby d11_12) rfl rfl ?_
    refine XS.iloadN X101.here hx rfl (hb hby d11_13) rfl ?_
    refine st102.trans ?_
    refine XS.bipush X102.here hx rfl (hb hby d11_17) ?_
    refine XS.icmpYes X102.here hx rfl (pc0 := 19) (pc' := 28) rfl (hb hby d11_19) rfl (feq hz0).2 (by decide) (by decide) ?_
    refine XS.aloadN X102.here hx rfl (hb hby d11_28) rfl rfl ?_
    refine XS.iloadN X102.here hx rfl (hb hby d11_29) rfl ?_
    refine st103.trans ?_
    exact k)
  obtain ⟨fs, hr, hrun, hended, hW, hsame⟩ := X103.leave (v := some (.ref a1)) (fun h => by rw [Bd.returns] at h; cases h)
  refine ⟨_, _, pre104 _ ?_, hrun, hended, _, _, rfl, ?_, ⟨_, rfl⟩, hW, hsame.mono (by decide) (by decide)⟩
  · exact retOut X103 hx Bd.returns rfl (Or.inr (Or.inr (Or.inr (Or.inr ⟨rfl, rfl, rfl⟩)))) (hb hby d11_33) hr
  · show QK_3_0 Z a1 cs vF t kt y0 y1 y2 h0 n0 _ T103.heap _
    rw [e103]
    exact ⟨rfl, N103, rfl⟩
theorem ef_rmK_3_1 (m : MethodId) (x0 : Addr) : entryFrame m #[(.ref x0)] 2 = mkF m 0 #[rv x0, .unset] [] := by first | (simp [entryFrame, mkF, argsToLocals, Value.category]; done) | rfl
def QK_3_1 (Z : State) (a1 : Addr) (cs : Int32) (vF : Value) (t : Addr) (kt : ClassId) (y0 : Int32) (y1 : Int32) (y2 : Int32) (h0 : Heap) (n0 : Nat) (v : Option Value) (h : Heap) (L : List Loc) : Prop := ∃ (b : Addr) (tb : Addr) (kb : ClassId), v = some (.ref b) ∧ Fr n0 L ∧ Keep h0 h [] ∧ (n0 ≤ b) ∧ (h0.size ≤ b) ∧ (Exa Z h b "java/lang/String") ∧ (Fld Z h b "java/lang/String" "coder" "B" (.int 0)) ∧ (Fld Z h b "java/lang/String" "value" "[B" (.ref tb)) ∧ (n0 ≤ tb) ∧ (h0.size ≤ tb) ∧ (Arv Z h tb kb .byte (2 : Int32) [(.int y1), (.int y2)] (.int 0))
set_option maxRecDepth 65536 in
set_option maxHeartbeats 40000000 in
theorem rmK_3_1 (l : Launch) (Z : State) (a0 : Array Value) (hw : ∀ d ∈ tables_1, d.before a0 Z = true) (ws : List Jvm.Cond) (a1 : Addr) (cs : Int32) (vF : Value) (t : Addr) (kt : ClassId) (y0 : Int32) (y1 : Int32) (y2 : Int32) (h0 : Heap) (n0 : Nat) (Z0 : n0 ≤ h0.size) (SC : Sta Z h0 "java/lang/String" "COMPACT_STRINGS" "Z" (.int cs)) (hcs : ¬ (cs = (0 : Int32))) (SF : Sta Z h0 "jdk/internal/util/Preconditions" "SIOOBE_FORMATTER" "Ljava/util/function/BiFunction;" vF) (hF : vF.isRef = true) (E1 : Exa Z h0 a1 "java/lang/String") (C1 : Fld Z h0 a1 "java/lang/String" "coder" "B" (.int 0)) (W1 : Fld Z h0 a1 "java/lang/String" "value" "[B" (.ref t)) (V1 : Arv Z h0 t kt .byte (3 : Int32) [(.int y0), (.int y1), (.int y2)] (.int 0)) (hz0 : (own_cat y0) = (48 : Int32)) (hz1 : ¬ ((own_cat y1) = (48 : Int32))) :
    own_M l own_y26 prog_20_method_3_code 2 (some (.object "java/lang/String")) ws (own_R 6 2 6 115) Z h0 #[(.ref a1)] (QK_3_1 Z a1 cs vF t kt y0 y1 y2 h0 n0) := by
  refine MetFree.of_bodySF (plainFor_of_name pn_com_example_millipede_millipede_DecimalNumbers) hisR ?_
  intro p e s m args below meth c s₁ Bd hml0 hP hK
  obtain ⟨rfl, hZ, hh⟩ := hP
  have hx := Bd.exec
  have hby := Bd.bytes
  have hml : c.maxLocals = 2 := hml0
  have hown : s.vm.findClass "com/example/millipede/millipede/DecimalNumbers" = some m.cls := findClass_of_methodNamed Bd.named
  have hnm := (name_of_methodNamed Bd.named Bd.method).1
  have X0 : Stand p l e (own_R 6 2 6 115) s m #[(.ref a1)] below meth c s₁ [] 0 0 := Stand.of_body Bd
  have e0 : s₁.heap = h0 := by rw [← hh, Bd.state]; rfl
  have N0 := Fr.nil n0
  have pre0 : own_P p e below s₁ (entryFrame m #[(.ref a1)] 2) s₁ (mkF m 0 #[rv a1, .unset] []) := fun t k => castTop (ef_rmK_3_1 m a1) k
  have f101 := Keep.refl h0 []
  obtain ⟨cq102, kq102, q102a, q102b, q102c⟩ := isOf hZ e0 E1
  obtain ⟨_, _, ⟨T102, L102, k102, n102⟩, -, X102, ⟨Lc102, hQ102, l102, y102, z102⟩, st102⟩ := X0.virtualBack hx (y := own_y11) (z := own_y11) hown (own_m hZ hw 48) (own_m hZ hw 49) (notFace_of_selects (args := #[]) (own_m hZ hw 51)) (own_m hZ hw 51) (own_m hZ hw 50) (by decide) (backOf (W := 1) (rmLen l Z a0 hw [] a1 cs t kt (3 : Int32) ([(.int y0), (.int y1), (.int y2)]) h0 n0 Z0 SC hcs E1 C1 W1 V1) hZ (own_i hw 52 rfl) (own_i hw 10 rfl) (by decide) (by decide)) q102a q102c (g := (mkF m 4 #[rv a1, iv 0] [(.ref a1), (.int 0)])) rfl (by rw [hml]; rfl) (Steps.refl _) (argsL := []) (rest := [(.int 0)]) (lenOf pd_15 rfl) rfl (Nat.le_of_eq rfl) (hb hby d11_4) (fun _ _ => ⟨rfl, e0, (by decide : 0 + 0 ≤ _), (by decide : 0 + 0 ≤ _)⟩)
  dsimp only [Pt.U, Pt.locs, Pt.cells, Pt.slots] at X102 l102 y102 z102 st102 hQ102
  subst l102 y102 z102
  obtain ⟨rfl, N102q, e102⟩ := hQ102
  have N102 := Fr.app N0 N102q
  obtain ⟨cq103, kq103, q103a, q103b, q103c⟩ := isOf hZ e102 E1
  obtain ⟨_, _, ⟨T103, L103, k103, n103⟩, -, X103, ⟨Lc103, hQ103, l103, y103, z103⟩, st103⟩ := X102.virtualBack hx (y := own_y15) (z := own_y15) hown (own_m hZ hw 87) (own_m hZ hw 88) (notFace_of_selects (args := #[]) (own_m hZ hw 90)) (own_m hZ hw 90) (own_m hZ hw 89) (by decide) (backOf (W := 0) (rmCh l Z a0 hw [] a1 (0 : Int32) cs vF t kt y0 (3 : Int32) ([(.int y0), (.int y1), (.int y2)]) h0 n0 Z0 SC hcs SF hF E1 C1 W1 V1 (by first | assumption | rfl | decide | omega | simp_all) (by first | assumption | rfl | decide | omega | simp_all) rfl) hZ (own_i hw 91 rfl) (own_i hw 10 rfl) (by decide) (by decide)) q103a q103c (g := (mkF m 14 #[rv a1, iv 0] [(.int 0), (.ref a1)])) rfl (by rw [hml]; rfl) (Steps.refl _) (argsL := [(.int 0)]) (rest := []) (lenOf pd_4 rfl) rfl (Nat.le_of_eq rfl) (hb hby d11_14) (fun _ _ => ⟨rfl, e102, (by decide : 0 + 0 ≤ _), (by decide : 0 + 0 ≤ _)⟩)
  dsimp only [Pt.U, Pt.locs, Pt.cells, Pt.slots] at X103 l103 y103 z103 st103 hQ103
  subst l103 y103 z103
  obtain ⟨rfl, N103q, e103⟩ := hQ103
  have N103 := Fr.app N102 N103q
  obtain ⟨cq104, kq104, q104a, q104b, q104c⟩ := isOf hZ e103 E1
  obtain ⟨_, _, ⟨T104, L104, k104, n104⟩, -, X104, ⟨Lc104, hQ104, l104, y104, z104⟩, st104⟩ := X103.virtualBack hx (y := own_y11) (z := own_y11) hown (own_m hZ hw 48) (own_m hZ hw 49) (notFace_of_selects (args := #[]) (own_m hZ hw 51)) (own_m hZ hw 51) (own_m hZ hw 50) (by decide) (backOf (W := 1) (rmLen l Z a0 hw [] a1 cs t kt (3 : Int32) ([(.int y0), (.int y1), (.int y2)]) h0 n0 Z0 SC hcs E1 C1 W1 V1) hZ (own_i hw 52 rfl) (own_i hw 10 rfl) (by decide) (by decide)) q104a q104c (g := (mkF m 4 #[rv a1, iv 1] [(.ref a1), (.int 1)])) rfl (by rw [hml]; rfl) (Steps.refl _) (argsL := []) (rest := [(.int 1)]) (lenOf pd_15 rfl) rfl (Nat.le_of_eq rfl) (hb hby d11_4) (fun _ _ => ⟨rfl, e103, (by decide : 0 + 0 ≤ _), (by decide : 0 + 0 ≤ _)⟩)
  dsimp only [Pt.U, Pt.locs, Pt.cells, Pt.slots] at X104 l104 y104 z104 st104 hQ104
  subst l104 y104 z104
  obtain ⟨rfl, N104q, e104⟩ := hQ104
  have N104 := Fr.app N103 N104q
  obtain ⟨cq105, kq105, q105a, q105b, q105c⟩ := isOf hZ e104 E1
  obtain ⟨_, _, ⟨T105, L105, k105, n105⟩, -, X105, ⟨Lc105, hQ105, l105, y105, z105⟩, st105⟩ := X104.virtualBack hx (y := own_y15) (z := own_y15) hown (own_m hZ hw 87) (own_m hZ hw 88) (notFace_of_selects (args := #[]) (own_m hZ hw 90)) (own_m hZ hw 90) (own_m hZ hw 89) (by decide) (backOf (W := 0) (rmCh l Z a0 hw [] a1 (1 : Int32) cs vF t kt y1 (3 : Int32) ([(.int y0), (.int y1), (.int y2)]) h0 n0 Z0 SC hcs SF hF E1 C1 W1 V1 (by first | assumption | rfl | decide | omega | simp_all) (by first | assumption | rfl | decide | omega | simp_all) rfl) hZ (own_i hw 91 rfl) (own_i hw 10 rfl) (by decide) (by decide)) q105a q105c (g := (mkF m 14 #[rv a1, iv 1] [(.int 1), (.ref a1)])) rfl (by rw [hml]; rfl) (Steps.refl _) (argsL := [(.int 1)]) (rest := []) (lenOf pd_4 rfl) rfl (Nat.le_of_eq rfl) (hb hby d11_14) (fun _ _ => ⟨rfl, e104, (by decide : 0 + 0 ≤ _), (by decide : 0 + 0 ≤ _)⟩)
  dsimp only [Pt.U, Pt.locs, Pt.cells, Pt.slots] at X105 l105 y105 z105 st105 hQ105
  subst l105 y105 z105
  obtain ⟨rfl, N105q, e105⟩ := hQ105
  have N105 := Fr.app N104 N105q
  obtain ⟨cq106, kq106, q106a, q106b, q106c⟩ := isOf hZ e105 E1
  obtain ⟨_, _, ⟨T106, L106, k106, n106⟩, -, X106, ⟨Lc106, hQ106, l106, y106, z106⟩, st106⟩ := X105.virtualBack hx (y := own_y25) (z := own_y25) hown (own_m hZ hw 58) (own_m hZ hw 59) (notFace_of_selects (args := #[]) (own_m hZ hw 61)) (own_m hZ hw 61) (own_m hZ hw 60) (by decide) (backOf (W := 0) (rmS1_3_1 l Z a0 hw [] a1 cs vF t kt y0 y1 y2 h0 n0 Z0 SC hcs SF hF E1 C1 W1 V1) hZ (own_i hw 62 rfl) (own_i hw 10 rfl) (by decide) (by decide)) q106a q106c (g := (mkF m 30 #[rv a1, iv 1] [(.int 1), (.ref a1)])) rfl (by rw [hml]; rfl) (Steps.refl _) (argsL := [(.int 1)]) (rest := []) (lenOf pd_19 rfl) rfl (Nat.le_of_eq rfl) (hb hby d11_30) (fun _ _ => ⟨rfl, e105, (by decide : 0 + 2 ≤ _), (by decide : 0 + 6 ≤ _)⟩)
  dsimp only [Pt.U, Pt.locs, Pt.cells, Pt.slots] at X106 l106 y106 z106 st106 hQ106
  subst l106 y106 z106
  obtain ⟨b107, b108, x109, rfl, N106q, K106, f110, f111, f112, f113, f114, f115, f116, f117⟩ := hQ106
  have N106 := Fr.app N105 N106q
  have ne118 : a1 ≠ b107 := Nat.ne_of_lt (Nat.lt_of_lt_of_le E1.lt f111)
  have ne119 : t ≠ b107 := Nat.ne_of_lt (Nat.lt_of_lt_of_le V1.lt f111)
  have ne120 : a1 ≠ b108 := Nat.ne_of_lt (Nat.lt_of_lt_of_le E1.lt f116)
  have ne121 : t ≠ b108 := Nat.ne_of_lt (Nat.lt_of_lt_of_le V1.lt f116)
  have f122 := Nat.le_trans Z0 K106.1
  have f123 := E1.keep K106
  have f124 := C1.keep K106 nin0
  have f125 := W1.keep K106 nin0
  have f126 := V1.keep K106 nin0
  have f127 := f101.trans K106 all0
  have pre128 : own_P p e below s₁ (entryFrame m #[(.ref a1)] 2) T106 (mkF m 33 #[rv a1, iv 1] [(.ref b107)]) := fun t k => pre0 t (by
    show Steps p.tables e below (s₁.setTop (mkF m 0 #[rv a1, .unset] [])) t
    refine XS.iconst X0.here hx rfl (hb hby d11_0) ?_
    refine XS.istoreN X0.here hx rfl (hb hby d11_1) rfl (l' := #[rv a1, iv 0]) rfl ?_
    refine XS.iloadN X0.here hx rfl (hb hby d11_2) rfl ?_
    refine XS.aloadN X0.here hx rfl (hb hby d11_3) rfl rfl ?_
    refine st102.trans ?_
    refine XS.iconst X102.here hx rfl (hb hby d11_7) ?_
    refine XS.isub X102.here hx rfl (hb hby d11_8) rfl ?_
    refine XS.icmpNo X102.here hx rfl (hb hby d11_9) rfl (tlt (by decide : (0 : Int32) < (2 : Int32))).2.1 ?_
    refine XS.aloadN X102.here hx rfl (hb hby d11_12) rfl rfl ?_
    refine XS.iloadN X102.here hx rfl (hb hby d11_13) rfl ?_
    refine st103.trans ?_
    refine XS.bipush X103.here hx rfl (hb hby d11_17) ?_
    refine XS.icmpNo X103.here hx rfl (hb hby d11_19) rfl (teq hz0).2 ?_
    refine XS.iinc X103.here hx rfl (hb hby d11_22) rfl (l' := #[rv a1, iv 1]) rfl ?_
    refine XS.goto X103.here hx rfl (pc0 := 25) (pc' := 2) rfl (hb hby d11_25) (by decide) (by decide) ?_
    refine XS.iloadN X103.here hx rfl (hb hby d11_2) rfl ?_
    refine XS.aloadN X103.here hx rfl (hb hby d11_3) rfl rfl ?_
    refine st104.trans ?_
    refine XS.iconst X104.here hx rfl (hb hby d11_7) ?_
    refine XS.isub X104.here hx rfl (hb hby d11_8) rfl ?_
    refine XS.icmpNo X104.here hx rfl (hb hby d11_9) rfl (tlt (by decide : (1 : Int32) < (2 : Int32))).2.1 ?_
    refine XS.aloadN X104.here hx rfl (hb hby d11_12) rfl rfl ?_
    refine XS.iloadN X104.here hx rfl (hb hby d11_13) rfl ?_
    refine st105.trans ?_
    refine XS.bipush X105.here hx rfl (hb hby d11_17) ?_
    show Steps p.tables e below (T105.setTop (mkF m 19 #[rv a1, iv 1] [(.int 48), (.int (own_cat y1))])) t
    refine XS.icmpYes X105.here hx rfl (pc0 := 19) (pc' := 28) rfl (hb hby d11_19) rfl (feq hz1).2 (by decide) (by decide) ?_
    refine XS.aloadN X105.here hx rfl (hb hby d11_28) rfl rfl ?_
    refine XS.iloadN X105.here hx rfl (hb hby d11_29) rfl ?_
    refine st106.trans ?_
    exact k)
  obtain ⟨fs, hr, hrun, hended, hW, hsame⟩ := X106.leave (v := some (.ref b107)) (fun h => by rw [Bd.returns] at h; cases h)
  refine ⟨_, _, pre128 _ ?_, hrun, hended, _, _, rfl, ?_, ⟨_, rfl⟩, hW, hsame.mono (by decide) (by decide)⟩
  · exact retOut X106 hx Bd.returns rfl (Or.inr (Or.inr (Or.inr (Or.inr ⟨rfl, rfl, rfl⟩)))) (hb hby d11_33) hr
  · show QK_3_1 Z a1 cs vF t kt y0 y1 y2 h0 n0 _ T106.heap _
    exact ⟨b107, b108, x109, rfl, N106, f127, f110, f111, f112, f113, f114, f115, f116, f117⟩
theorem ef_rmK_3_2 (m : MethodId) (x0 : Addr) : entryFrame m #[(.ref x0)] 2 = mkF m 0 #[rv x0, .unset] [] := by first | (simp [entryFrame, mkF, argsToLocals, Value.category]; done) | rfl
def QK_3_2 (Z : State) (a1 : Addr) (cs : Int32) (vF : Value) (t : Addr) (kt : ClassId) (y0 : Int32) (y1 : Int32) (y2 : Int32) (h0 : Heap) (n0 : Nat) (v : Option Value) (h : Heap) (L : List Loc) : Prop := ∃ (b : Addr) (tb : Addr) (kb : ClassId), v = some (.ref b) ∧ Fr n0 L ∧ Keep h0 h [] ∧ (n0 ≤ b) ∧ (h0.size ≤ b) ∧ (Exa Z h b "java/lang/String") ∧ (Fld Z h b "java/lang/String" "coder" "B" (.int 0)) ∧ (Fld Z h b "java/lang/String" "value" "[B" (.ref tb)) ∧ (n0 ≤ tb) ∧ (h0.size ≤ tb) ∧ (Arv Z h tb kb .byte (1 : Int32) [(.int y2)] (.int 0))
set_option maxRecDepth 65536 in
set_option maxHeartbeats 40000000 in
theorem rmK_3_2 (l : Launch) (Z : State) (a0 : Array Value) (hw : ∀ d ∈ tables_1, d.before a0 Z = true) (ws : List Jvm.Cond) (a1 : Addr) (cs : Int32) (vF : Value) (t : Addr) (kt : ClassId) (y0 : Int32) (y1 : Int32) (y2 : Int32) (h0 : Heap) (n0 : Nat) (Z0 : n0 ≤ h0.size) (SC : Sta Z h0 "java/lang/String" "COMPACT_STRINGS" "Z" (.int cs)) (hcs : ¬ (cs = (0 : Int32))) (SF : Sta Z h0 "jdk/internal/util/Preconditions" "SIOOBE_FORMATTER" "Ljava/util/function/BiFunction;" vF) (hF : vF.isRef = true) (E1 : Exa Z h0 a1 "java/lang/String") (C1 : Fld Z h0 a1 "java/lang/String" "coder" "B" (.int 0)) (W1 : Fld Z h0 a1 "java/lang/String" "value" "[B" (.ref t)) (V1 : Arv Z h0 t kt .byte (3 : Int32) [(.int y0), (.int y1), (.int y2)] (.int 0)) (hz0 : (own_cat y0) = (48 : Int32)) (hz1 : (own_cat y1) = (48 : Int32)) :
    own_M l own_y26 prog_20_method_3_code 2 (some (.object "java/lang/String")) ws (own_R 6 2 5 115) Z h0 #[(.ref a1)] (QK_3_2 Z a1 cs vF t kt y0 y1 y2 h0 n0) := by
  refine MetFree.of_bodySF (plainFor_of_name pn_com_example_millipede_millipede_DecimalNumbers) hisR ?_
  intro p e s m args below meth c s₁ Bd hml0 hP hK
  obtain ⟨rfl, hZ, hh⟩ := hP
  have hx := Bd.exec
  have hby := Bd.bytes
  have hml : c.maxLocals = 2 := hml0
  have hown : s.vm.findClass "com/example/millipede/millipede/DecimalNumbers" = some m.cls := findClass_of_methodNamed Bd.named
  have hnm := (name_of_methodNamed Bd.named Bd.method).1
  have X0 : Stand p l e (own_R 6 2 5 115) s m #[(.ref a1)] below meth c s₁ [] 0 0 := Stand.of_body Bd
  have e0 : s₁.heap = h0 := by rw [← hh, Bd.state]; rfl
  have N0 := Fr.nil n0
  have pre0 : own_P p e below s₁ (entryFrame m #[(.ref a1)] 2) s₁ (mkF m 0 #[rv a1, .unset] []) := fun t k => castTop (ef_rmK_3_2 m a1) k
  have f101 := Keep.refl h0 []
  obtain ⟨cq102, kq102, q102a, q102b, q102c⟩ := isOf hZ e0 E1
  obtain ⟨_, _, ⟨T102, L102, k102, n102⟩, -, X102, ⟨Lc102, hQ102, l102, y102, z102⟩, st102⟩ := X0.virtualBack hx (y := own_y11) (z := own_y11) hown (own_m hZ hw 48) (own_m hZ hw 49) (notFace_of_selects (args := #[]) (own_m hZ hw 51)) (own_m hZ hw 51) (own_m hZ hw 50) (by decide) (backOf (W := 1) (rmLen l Z a0 hw [] a1 cs t kt (3 : Int32) ([(.int y0), (.int y1), (.int y2)]) h0 n0 Z0 SC hcs E1 C1 W1 V1) hZ (own_i hw 52 rfl) (own_i hw 10 rfl) (by decide) (by decide)) q102a q102c (g := (mkF m 4 #[rv a1, iv 0] [(.ref a1), (.int 0)])) rfl (by rw [hml]; rfl) (Steps.refl _) (argsL := []) (rest := [(.int 0)]) (lenOf pd_15 rfl) rfl (Nat.le_of_eq rfl) (hb hby d11_4) (fun _ _ => ⟨rfl, e0, (by decide : 0 + 0 ≤ _), (by decide : 0 + 0 ≤ _)⟩)
  dsimp only [Pt.U, Pt.locs, Pt.cells, Pt.slots] at X102 l102 y102 z102 st102 hQ102
  subst l102 y102 z102
  obtain ⟨rfl, N102q, e102⟩ := hQ102
  have N102 := Fr.app N0 N102q
  obtain ⟨cq103, kq103, q103a, q103b, q103c⟩ := isOf hZ e102 E1
  obtain ⟨_, _, ⟨T103, L103, k103, n103⟩, -, X103, ⟨Lc103, hQ103, l103, y103, z103⟩, st103⟩ := X102.virtualBack hx (y := own_y15) (z := own_y15) hown (own_m hZ hw 87) (own_m hZ hw 88) (notFace_of_selects (args := #[]) (own_m hZ hw 90)) (own_m hZ hw 90) (own_m hZ hw 89) (by decide) (backOf (W := 0) (rmCh l Z a0 hw [] a1 (0 : Int32) cs vF t kt y0 (3 : Int32) ([(.int y0), (.int y1), (.int y2)]) h0 n0 Z0 SC hcs SF hF E1 C1 W1 V1 (by first | assumption | rfl | decide | omega | simp_all) (by first | assumption | rfl | decide | omega | simp_all) rfl) hZ (own_i hw 91 rfl) (own_i hw 10 rfl) (by decide) (by decide)) q103a q103c (g := (mkF m 14 #[rv a1, iv 0] [(.int 0), (.ref a1)])) rfl (by rw [hml]; rfl) (Steps.refl _) (argsL := [(.int 0)]) (rest := []) (lenOf pd_4 rfl) rfl (Nat.le_of_eq rfl) (hb hby d11_14) (fun _ _ => ⟨rfl, e102, (by decide : 0 + 0 ≤ _), (by decide : 0 + 0 ≤ _)⟩)
  dsimp only [Pt.U, Pt.locs, Pt.cells, Pt.slots] at X103 l103 y103 z103 st103 hQ103
  subst l103 y103 z103
  obtain ⟨rfl, N103q, e103⟩ := hQ103
  have N103 := Fr.app N102 N103q
  obtain ⟨cq104, kq104, q104a, q104b, q104c⟩ := isOf hZ e103 E1
  obtain ⟨_, _, ⟨T104, L104, k104, n104⟩, -, X104, ⟨Lc104, hQ104, l104, y104, z104⟩, st104⟩ := X103.virtualBack hx (y := own_y11) (z := own_y11) hown (own_m hZ hw 48) (own_m hZ hw 49) (notFace_of_selects (args := #[]) (own_m hZ hw 51)) (own_m hZ hw 51) (own_m hZ hw 50) (by decide) (backOf (W := 1) (rmLen l Z a0 hw [] a1 cs t kt (3 : Int32) ([(.int y0), (.int y1), (.int y2)]) h0 n0 Z0 SC hcs E1 C1 W1 V1) hZ (own_i hw 52 rfl) (own_i hw 10 rfl) (by decide) (by decide)) q104a q104c (g := (mkF m 4 #[rv a1, iv 1] [(.ref a1), (.int 1)])) rfl (by rw [hml]; rfl) (Steps.refl _) (argsL := []) (rest := [(.int 1)]) (lenOf pd_15 rfl) rfl (Nat.le_of_eq rfl) (hb hby d11_4) (fun _ _ => ⟨rfl, e103, (by decide : 0 + 0 ≤ _), (by decide : 0 + 0 ≤ _)⟩)
  dsimp only [Pt.U, Pt.locs, Pt.cells, Pt.slots] at X104 l104 y104 z104 st104 hQ104
  subst l104 y104 z104
  obtain ⟨rfl, N104q, e104⟩ := hQ104
  have N104 := Fr.app N103 N104q
  obtain ⟨cq105, kq105, q105a, q105b, q105c⟩ := isOf hZ e104 E1
  obtain ⟨_, _, ⟨T105, L105, k105, n105⟩, -, X105, ⟨Lc105, hQ105, l105, y105, z105⟩, st105⟩ := X104.virtualBack hx (y := own_y15) (z := own_y15) hown (own_m hZ hw 87) (own_m hZ hw 88) (notFace_of_selects (args := #[]) (own_m hZ hw 90)) (own_m hZ hw 90) (own_m hZ hw 89) (by decide) (backOf (W := 0) (rmCh l Z a0 hw [] a1 (1 : Int32) cs vF t kt y1 (3 : Int32) ([(.int y0), (.int y1), (.int y2)]) h0 n0 Z0 SC hcs SF hF E1 C1 W1 V1 (by first | assumption | rfl | decide | omega | simp_all) (by first | assumption | rfl | decide | omega | simp_all) rfl) hZ (own_i hw 91 rfl) (own_i hw 10 rfl) (by decide) (by decide)) q105a q105c (g := (mkF m 14 #[rv a1, iv 1] [(.int 1), (.ref a1)])) rfl (by rw [hml]; rfl) (Steps.refl _) (argsL := [(.int 1)]) (rest := []) (lenOf pd_4 rfl) rfl (Nat.le_of_eq rfl) (hb hby d11_14) (fun _ _ => ⟨rfl, e104, (by decide : 0 + 0 ≤ _), (by decide : 0 + 0 ≤ _)⟩)
  dsimp only [Pt.U, Pt.locs, Pt.cells, Pt.slots] at X105 l105 y105 z105 st105 hQ105
  subst l105 y105 z105
  obtain ⟨rfl, N105q, e105⟩ := hQ105
  have N105 := Fr.app N104 N105q
  obtain ⟨cq106, kq106, q106a, q106b, q106c⟩ := isOf hZ e105 E1
  obtain ⟨_, _, ⟨T106, L106, k106, n106⟩, -, X106, ⟨Lc106, hQ106, l106, y106, z106⟩, st106⟩ := X105.virtualBack hx (y := own_y11) (z := own_y11) hown (own_m hZ hw 48) (own_m hZ hw 49) (notFace_of_selects (args := #[]) (own_m hZ hw 51)) (own_m hZ hw 51) (own_m hZ hw 50) (by decide) (backOf (W := 1) (rmLen l Z a0 hw [] a1 cs t kt (3 : Int32) ([(.int y0), (.int y1), (.int y2)]) h0 n0 Z0 SC hcs E1 C1 W1 V1) hZ (own_i hw 52 rfl) (own_i hw 10 rfl) (by decide) (by decide)) q106a q106c (g := (mkF m 4 #[rv a1, iv 2] [(.ref a1), (.int 2)])) rfl (by rw [hml]; rfl) (Steps.refl _) (argsL := []) (rest := [(.int 2)]) (lenOf pd_15 rfl) rfl (Nat.le_of_eq rfl) (hb hby d11_4) (fun _ _ => ⟨rfl, e105, (by decide : 0 + 0 ≤ _), (by decide : 0 + 0 ≤ _)⟩)
  dsimp only [Pt.U, Pt.locs, Pt.cells, Pt.slots] at X106 l106 y106 z106 st106 hQ106
  subst l106 y106 z106
  obtain ⟨rfl, N106q, e106⟩ := hQ106
  have N106 := Fr.app N105 N106q
  obtain ⟨cq107, kq107, q107a, q107b, q107c⟩ := isOf hZ e106 E1
  obtain ⟨_, _, ⟨T107, L107, k107, n107⟩, -, X107, ⟨Lc107, hQ107, l107, y107, z107⟩, st107⟩ := X106.virtualBack hx (y := own_y25) (z := own_y25) hown (own_m hZ hw 58) (own_m hZ hw 59) (notFace_of_selects (args := #[]) (own_m hZ hw 61)) (own_m hZ hw 61) (own_m hZ hw 60) (by decide) (backOf (W := 0) (rmS1_3_2 l Z a0 hw [] a1 cs vF t kt y0 y1 y2 h0 n0 Z0 SC hcs SF hF E1 C1 W1 V1) hZ (own_i hw 62 rfl) (own_i hw 10 rfl) (by decide) (by decide)) q107a q107c (g := (mkF m 30 #[rv a1, iv 2] [(.int 2), (.ref a1)])) rfl (by rw [hml]; rfl) (Steps.refl _) (argsL := [(.int 2)]) (rest := []) (lenOf pd_19 rfl) rfl (Nat.le_of_eq rfl) (hb hby d11_30) (fun _ _ => ⟨rfl, e106, (by decide : 0 + 2 ≤ _), (by decide : 0 + 5 ≤ _)⟩)
  dsimp only [Pt.U, Pt.locs, Pt.cells, Pt.slots] at X107 l107 y107 z107 st107 hQ107
  subst l107 y107 z107
  obtain ⟨b108, b109, x110, rfl, N107q, K107, f111, f112, f113, f114, f115, f116, f117, f118⟩ := hQ107
  have N107 := Fr.app N106 N107q
  have ne119 : a1 ≠ b108 := Nat.ne_of_lt (Nat.lt_of_lt_of_le E1.lt f112)
  have ne120 : t ≠ b108 := Nat.ne_of_lt (Nat.lt_of_lt_of_le V1.lt f112)
  have ne121 : a1 ≠ b109 := Nat.ne_of_lt (Nat.lt_of_lt_of_le E1.lt f117)
  have ne122 : t ≠ b109 := Nat.ne_of_lt (Nat.lt_of_lt_of_le V1.lt f117)
  have f123 := Nat.le_trans Z0 K107.1
  have f124 := E1.keep K107
  have f125 := C1.keep K107 nin0
  have f126 := W1.keep K107 nin0
  have f127 := V1.keep K107 nin0
  have f128 := f101.trans K107 all0
  have pre129 : own_P p e below s₁ (entryFrame m #[(.ref a1)] 2) T107 (mkF m 33 #[rv a1, iv 2] [(.ref b108)]) := fun t k => pre0 t (by
    show Steps p.tables e below (s₁.setTop (mkF m 0 #[rv a1, .unset] [])) t
    refine XS.iconst X0.here hx rfl (hb hby d11_0) ?_
    refine XS.istoreN X0.here hx rfl (hb hby d11_1) rfl (l' := #[rv a1, iv 0]) rfl ?_
    refine XS.iloadN X0.here hx rfl (hb hby d11_2) rfl ?_
    refine XS.aloadN X0.here hx rfl (hb hby d11_3) rfl rfl ?_
    refine st102.trans ?_
    refine XS.iconst X102.here hx rfl (hb hby d11_7) ?_
    refine XS.isub X102.here hx rfl (hb hby d11_8) rfl ?_
    refine XS.icmpNo X102.here hx rfl (hb hby d11_9) rfl (tlt (by decide : (0 : Int32) < (2 : Int32))).2.1 ?_
    refine XS.aloadN X102.here hx rfl (hb hby d11_12) rfl rfl ?_
    refine XS.iloadN X102.here hx rfl (hb hby d11_13) rfl ?_
    refine st103.trans ?_
    refine XS.bipush X103.here hx rfl (hb hby d11_17) ?_
    refine XS.icmpNo X103.here hx rfl (hb hby d11_19) rfl (teq hz0).2 ?_
    refine XS.iinc X103.here hx rfl (hb hby d11_22) rfl (l' := #[rv a1, iv 1]) rfl ?_
    refine XS.goto X103.here hx rfl (pc0 := 25) (pc' := 2) rfl (hb hby d11_25) (by decide) (by decide) ?_
    refine XS.iloadN X103.here hx rfl (hb hby d11_2) rfl ?_
    refine XS.aloadN X103.here hx rfl (hb hby d11_3) rfl rfl ?_
    refine st104.trans ?_
    refine XS.iconst X104.here hx rfl (hb hby d11_7) ?_
    refine XS.isub X104.here hx rfl (hb hby d11_8) rfl ?_
    refine XS.icmpNo X104.here hx rfl (hb hby d11_9) rfl (tlt (by decide : (1 : Int32) < (2 : Int32))).2.1 ?_
    refine XS.aloadN X104.here hx rfl (hb hby d11_12) rfl rfl ?_
    refine XS.iloadN X104.here hx rfl (hb hby d11_13) rfl ?_
    refine st105.trans ?_
    refine XS.bipush X105.here hx rfl (hb hby d11_17) ?_
    show Steps p.tables e below (T105.setTop (mkF m 19 #[rv a1, iv 1] [(.int 48), (.int (own_cat y1))])) t
    refine XS.icmpNo X105.here hx rfl (hb hby d11_19) rfl (teq hz1).2 ?_
    refine XS.iinc X105.here hx rfl (hb hby d11_22) rfl (l' := #[rv a1, iv 2]) rfl ?_
    refine XS.goto X105.here hx rfl (pc0 := 25) (pc' := 2) rfl (hb hby d11_25) (by decide) (by decide) ?_
    refine XS.iloadN X105.here hx rfl (hb hby d11_2) rfl ?_
    refine XS.aloadN X105.here hx rfl (hb hby d11_3) rfl rfl ?_
    refine st106.trans ?_
    refine XS.iconst X106.here hx rfl (hb hby d11_7) ?_
    refine XS.isub X106.here hx rfl (hb hby d11_8) rfl ?_
    refine XS.icmpYes X106.here hx rfl (pc0 := 9) (pc' := 28) rfl (hb hby d11_9) rfl (flt (by decide : ¬ ((2 : Int32) < (2 : Int32)))).2.1 (by decide) (by decide) ?_
    refine XS.aloadN X106.here hx rfl (hb hby d11_28) rfl rfl ?_
    refine XS.iloadN X106.here hx rfl (hb hby d11_29) rfl ?_
    refine st107.trans ?_
    exact k)
  obtain ⟨fs, hr, hrun, hended, hW, hsame⟩ := X107.leave (v := some (.ref b108)) (fun h => by rw [Bd.returns] at h; cases h)
  refine ⟨_, _, pre129 _ ?_, hrun, hended, _, _, rfl, ?_, ⟨_, rfl⟩, hW, hsame.mono (by decide) (by decide)⟩
  · exact retOut X107 hx Bd.returns rfl (Or.inr (Or.inr (Or.inr (Or.inr ⟨rfl, rfl, rfl⟩)))) (hb hby d11_33) hr
  · show QK_3_2 Z a1 cs vF t kt y0 y1 y2 h0 n0 _ T107.heap _
    exact ⟨b108, b109, x110, rfl, N107, f128, f111, f112, f113, f114, f115, f116, f117, f118⟩
theorem ef_rmK_4_0 (m : MethodId) (x0 : Addr) : entryFrame m #[(.ref x0)] 2 = mkF m 0 #[rv x0, .unset] [] := by first | (simp [entryFrame, mkF, argsToLocals, Value.category]; done) | rfl
def QK_4_0 (Z : State) (a1 : Addr) (cs : Int32) (vF : Value) (t : Addr) (kt : ClassId) (y0 : Int32) (y1 : Int32) (y2 : Int32) (y3 : Int32) (h0 : Heap) (n0 : Nat) (v : Option Value) (h : Heap) (L : List Loc) : Prop := v = some (.ref a1) ∧ Fr n0 L ∧ h = h0
set_option maxRecDepth 65536 in
set_option maxHeartbeats 40000000 in
theorem rmK_4_0 (l : Launch) (Z : State) (a0 : Array Value) (hw : ∀ d ∈ tables_1, d.before a0 Z = true) (ws : List Jvm.Cond) (a1 : Addr) (cs : Int32) (vF : Value) (t : Addr) (kt : ClassId) (y0 : Int32) (y1 : Int32) (y2 : Int32) (y3 : Int32) (h0 : Heap) (n0 : Nat) (Z0 : n0 ≤ h0.size) (SC : Sta Z h0 "java/lang/String" "COMPACT_STRINGS" "Z" (.int cs)) (hcs : ¬ (cs = (0 : Int32))) (SF : Sta Z h0 "jdk/internal/util/Preconditions" "SIOOBE_FORMATTER" "Ljava/util/function/BiFunction;" vF) (hF : vF.isRef = true) (E1 : Exa Z h0 a1 "java/lang/String") (C1 : Fld Z h0 a1 "java/lang/String" "coder" "B" (.int 0)) (W1 : Fld Z h0 a1 "java/lang/String" "value" "[B" (.ref t)) (V1 : Arv Z h0 t kt .byte (4 : Int32) [(.int y0), (.int y1), (.int y2), (.int y3)] (.int 0)) (hz0 : ¬ ((own_cat y0) = (48 : Int32))) :
    own_M l own_y26 prog_20_method_3_code 2 (some (.object "java/lang/String")) ws (own_R 4 0 0 58) Z h0 #[(.ref a1)] (QK_4_0 Z a1 cs vF t kt y0 y1 y2 y3 h0 n0) := by
  refine MetFree.of_bodySF (plainFor_of_name pn_com_example_millipede_millipede_DecimalNumbers) hisR ?_
  intro p e s m args below meth c s₁ Bd hml0 hP hK
  obtain ⟨rfl, hZ, hh⟩ := hP
  have hx := Bd.exec
  have hby := Bd.bytes
  have hml : c.maxLocals = 2 := hml0
  have hown : s.vm.findClass "com/example/millipede/millipede/DecimalNumbers" = some m.cls := findClass_of_methodNamed Bd.named
  have hnm := (name_of_methodNamed Bd.named Bd.method).1
  have X0 : Stand p l e (own_R 4 0 0 58) s m #[(.ref a1)] below meth c s₁ [] 0 0 := Stand.of_body Bd
  have e0 : s₁.heap = h0 := by rw [← hh, Bd.state]; rfl
  have N0 := Fr.nil n0
  have pre0 : own_P p e below s₁ (entryFrame m #[(.ref a1)] 2) s₁ (mkF m 0 #[rv a1, .unset] []) := fun t k => castTop (ef_rmK_4_0 m a1) k
  obtain ⟨cq101, kq101, q101a, q101b, q101c⟩ := isOf hZ e0 E1
  obtain ⟨_, _, ⟨T101, L101, k101, n101⟩, -, X101, ⟨Lc101, hQ101, l101, y101, z101⟩, st101⟩ := X0.virtualBack hx (y := own_y11) (z := own_y11) hown (own_m hZ hw 48) (own_m hZ hw 49) (notFace_of_selects (args := #[]) (own_m hZ hw 51)) (own_m hZ hw 51) (own_m hZ hw 50) (by decide) (backOf (W := 1) (rmLen l Z a0 hw [] a1 cs t kt (4 : Int32) ([(.int y0), (.int y1), (.int y2), (.int y3)]) h0 n0 Z0 SC hcs E1 C1 W1 V1) hZ (own_i hw 52 rfl) (own_i hw 10 rfl) (by decide) (by decide)) q101a q101c (g := (mkF m 4 #[rv a1, iv 0] [(.ref a1), (.int 0)])) rfl (by rw [hml]; rfl) (Steps.refl _) (argsL := []) (rest := [(.int 0)]) (lenOf pd_15 rfl) rfl (Nat.le_of_eq rfl) (hb hby d11_4) (fun _ _ => ⟨rfl, e0, (by decide : 0 + 0 ≤ _), (by decide : 0 + 0 ≤ _)⟩)
  dsimp only [Pt.U, Pt.locs, Pt.cells, Pt.slots] at X101 l101 y101 z101 st101 hQ101
  subst l101 y101 z101
  obtain ⟨rfl, N101q, e101⟩ := hQ101
  have N101 := Fr.app N0 N101q
  obtain ⟨cq102, kq102, q102a, q102b, q102c⟩ := isOf hZ e101 E1
  obtain ⟨_, _, ⟨T102, L102, k102, n102⟩, -, X102, ⟨Lc102, hQ102, l102, y102, z102⟩, st102⟩ := X101.virtualBack hx (y := own_y15) (z := own_y15) hown (own_m hZ hw 87) (own_m hZ hw 88) (notFace_of_selects (args := #[]) (own_m hZ hw 90)) (own_m hZ hw 90) (own_m hZ hw 89) (by decide) (backOf (W := 0) (rmCh l Z a0 hw [] a1 (0 : Int32) cs vF t kt y0 (4 : Int32) ([(.int y0), (.int y1), (.int y2), (.int y3)]) h0 n0 Z0 SC hcs SF hF E1 C1 W1 V1 (by first | assumption | rfl | decide | omega | simp_all) (by first | assumption | rfl | decide | omega | simp_all) rfl) hZ (own_i hw 91 rfl) (own_i hw 10 rfl) (by decide) (by decide)) q102a q102c (g := (mkF m 14 #[rv a1, iv 0] [(.int 0), (.ref a1)])) rfl (by rw [hml]; rfl) (Steps.refl _) (argsL := [(.int 0)]) (rest := []) (lenOf pd_4 rfl) rfl (Nat.le_of_eq rfl) (hb hby d11_14) (fun _ _ => ⟨rfl, e101, (by decide : 0 + 0 ≤ _), (by decide : 0 + 0 ≤ _)⟩)
  dsimp only [Pt.U, Pt.locs, Pt.cells, Pt.slots] at X102 l102 y102 z102 st102 hQ102
  subst l102 y102 z102
  obtain ⟨rfl, N102q, e102⟩ := hQ102
  have N102 := Fr.app N101 N102q
  obtain ⟨cq103, kq103, q103a, q103b, q103c⟩ := isOf hZ e102 E1
  obtain ⟨_, _, ⟨T103, L103, k103, n103⟩, -, X103, ⟨Lc103, hQ103, l103, y103, z103⟩, st103⟩ := X102.virtualBack hx (y := own_y25) (z := own_y25) hown (own_m hZ hw 58) (own_m hZ hw 59) (notFace_of_selects (args := #[]) (own_m hZ hw 61)) (own_m hZ hw 61) (own_m hZ hw 60) (by decide) (backOf (W := 0) (rmS1_0 l Z a0 hw [] a1 cs vF t kt (4 : Int32) ([(.int y0), (.int y1), (.int y2), (.int y3)]) h0 n0 Z0 SC hcs SF hF E1 C1 W1 V1 (by first | assumption | rfl | decide | omega | simp_all) (by first | assumption | rfl | decide | omega | simp_all)) hZ (own_i hw 62 rfl) (own_i hw 10 rfl) (by decide) (by decide)) q103a q103c (g := (mkF m 30 #[rv a1, iv 0] [(.int 0), (.ref a1)])) rfl (by rw [hml]; rfl) (Steps.refl _) (argsL := [(.int 0)]) (rest := []) (lenOf pd_19 rfl) rfl (Nat.le_of_eq rfl) (hb hby d11_30) (fun _ _ => ⟨rfl, e102, (by decide : 0 + 0 ≤ _), (by decide : 0 + 0 ≤ _)⟩)
  dsimp only [Pt.U, Pt.locs, Pt.cells, Pt.slots] at X103 l103 y103 z103 st103 hQ103
  subst l103 y103 z103
  obtain ⟨rfl, N103q, e103⟩ := hQ103
  have N103 := Fr.app N102 N103q
  have pre104 : own_P p e below s₁ (entryFrame m #[(.ref a1)] 2) T103 (mkF m 33 #[rv a1, iv 0] [(.ref a1)]) := fun t k => pre0 t (by
    show Steps p.tables e below (s₁.setTop (mkF m 0 #[rv a1, .unset] [])) t
    refine XS.iconst X0.here hx rfl (hb hby d11_0) ?_
    refine XS.istoreN X0.here hx rfl (hb hby d11_1) rfl (l' := #[rv a1, iv 0]) rfl ?_
    refine XS.iloadN X0.here hx rfl (hb hby d11_2) rfl ?_
    refine XS.aloadN X0.here hx rfl (hb hby d11_3) rfl rfl ?_
    refine st101.trans ?_
    refine XS.iconst X101.here hx rfl (hb hby d11_7) ?_
    refine XS.isub X101.here hx rfl (hb hby d11_8) rfl ?_
    refine XS.icmpNo X101.here hx rfl (hb hby d11_9) rfl (tlt (by decide : (0 : Int32) < (3 : Int32))).2.1 ?_
    refine XS.aloadN X101.here hx rfl (hb hby d11_12) rfl rfl ?_
    refine XS.iloadN X101.here hx rfl (hb hby d11_13) rfl ?_
    refine st102.trans ?_
    refine XS.bipush X102.here hx rfl (hb hby d11_17) ?_
    refine XS.icmpYes X102.here hx rfl (pc0 := 19) (pc' := 28) rfl (hb hby d11_19) rfl (feq hz0).2 (by decide) (by decide) ?_
    refine XS.aloadN X102.here hx rfl (hb hby d11_28) rfl rfl ?_
    refine XS.iloadN X102.here hx rfl (hb hby d11_29) rfl ?_
    refine st103.trans ?_
    exact k)
  obtain ⟨fs, hr, hrun, hended, hW, hsame⟩ := X103.leave (v := some (.ref a1)) (fun h => by rw [Bd.returns] at h; cases h)
  refine ⟨_, _, pre104 _ ?_, hrun, hended, _, _, rfl, ?_, ⟨_, rfl⟩, hW, hsame.mono (by decide) (by decide)⟩
  · exact retOut X103 hx Bd.returns rfl (Or.inr (Or.inr (Or.inr (Or.inr ⟨rfl, rfl, rfl⟩)))) (hb hby d11_33) hr
  · show QK_4_0 Z a1 cs vF t kt y0 y1 y2 y3 h0 n0 _ T103.heap _
    rw [e103]
    exact ⟨rfl, N103, rfl⟩
theorem ef_rmK_4_1 (m : MethodId) (x0 : Addr) : entryFrame m #[(.ref x0)] 2 = mkF m 0 #[rv x0, .unset] [] := by first | (simp [entryFrame, mkF, argsToLocals, Value.category]; done) | rfl
def QK_4_1 (Z : State) (a1 : Addr) (cs : Int32) (vF : Value) (t : Addr) (kt : ClassId) (y0 : Int32) (y1 : Int32) (y2 : Int32) (y3 : Int32) (h0 : Heap) (n0 : Nat) (v : Option Value) (h : Heap) (L : List Loc) : Prop := ∃ (b : Addr) (tb : Addr) (kb : ClassId), v = some (.ref b) ∧ Fr n0 L ∧ Keep h0 h [] ∧ (n0 ≤ b) ∧ (h0.size ≤ b) ∧ (Exa Z h b "java/lang/String") ∧ (Fld Z h b "java/lang/String" "coder" "B" (.int 0)) ∧ (Fld Z h b "java/lang/String" "value" "[B" (.ref tb)) ∧ (n0 ≤ tb) ∧ (h0.size ≤ tb) ∧ (Arv Z h tb kb .byte (3 : Int32) [(.int y1), (.int y2), (.int y3)] (.int 0))
set_option maxRecDepth 65536 in
set_option maxHeartbeats 40000000 in
theorem rmK_4_1 (l : Launch) (Z : State) (a0 : Array Value) (hw : ∀ d ∈ tables_1, d.before a0 Z = true) (ws : List Jvm.Cond) (a1 : Addr) (cs : Int32) (vF : Value) (t : Addr) (kt : ClassId) (y0 : Int32) (y1 : Int32) (y2 : Int32) (y3 : Int32) (h0 : Heap) (n0 : Nat) (Z0 : n0 ≤ h0.size) (SC : Sta Z h0 "java/lang/String" "COMPACT_STRINGS" "Z" (.int cs)) (hcs : ¬ (cs = (0 : Int32))) (SF : Sta Z h0 "jdk/internal/util/Preconditions" "SIOOBE_FORMATTER" "Ljava/util/function/BiFunction;" vF) (hF : vF.isRef = true) (E1 : Exa Z h0 a1 "java/lang/String") (C1 : Fld Z h0 a1 "java/lang/String" "coder" "B" (.int 0)) (W1 : Fld Z h0 a1 "java/lang/String" "value" "[B" (.ref t)) (V1 : Arv Z h0 t kt .byte (4 : Int32) [(.int y0), (.int y1), (.int y2), (.int y3)] (.int 0)) (hz0 : (own_cat y0) = (48 : Int32)) (hz1 : ¬ ((own_cat y1) = (48 : Int32))) :
    own_M l own_y26 prog_20_method_3_code 2 (some (.object "java/lang/String")) ws (own_R 6 2 7 115) Z h0 #[(.ref a1)] (QK_4_1 Z a1 cs vF t kt y0 y1 y2 y3 h0 n0) := by
  refine MetFree.of_bodySF (plainFor_of_name pn_com_example_millipede_millipede_DecimalNumbers) hisR ?_
  intro p e s m args below meth c s₁ Bd hml0 hP hK
  obtain ⟨rfl, hZ, hh⟩ := hP
  have hx := Bd.exec
  have hby := Bd.bytes
  have hml : c.maxLocals = 2 := hml0
  have hown : s.vm.findClass "com/example/millipede/millipede/DecimalNumbers" = some m.cls := findClass_of_methodNamed Bd.named
  have hnm := (name_of_methodNamed Bd.named Bd.method).1
  have X0 : Stand p l e (own_R 6 2 7 115) s m #[(.ref a1)] below meth c s₁ [] 0 0 := Stand.of_body Bd
  have e0 : s₁.heap = h0 := by rw [← hh, Bd.state]; rfl
  have N0 := Fr.nil n0
  have pre0 : own_P p e below s₁ (entryFrame m #[(.ref a1)] 2) s₁ (mkF m 0 #[rv a1, .unset] []) := fun t k => castTop (ef_rmK_4_1 m a1) k
  have f101 := Keep.refl h0 []
  obtain ⟨cq102, kq102, q102a, q102b, q102c⟩ := isOf hZ e0 E1
  obtain ⟨_, _, ⟨T102, L102, k102, n102⟩, -, X102, ⟨Lc102, hQ102, l102, y102, z102⟩, st102⟩ := X0.virtualBack hx (y := own_y11) (z := own_y11) hown (own_m hZ hw 48) (own_m hZ hw 49) (notFace_of_selects (args := #[]) (own_m hZ hw 51)) (own_m hZ hw 51) (own_m hZ hw 50) (by decide) (backOf (W := 1) (rmLen l Z a0 hw [] a1 cs t kt (4 : Int32) ([(.int y0), (.int y1), (.int y2), (.int y3)]) h0 n0 Z0 SC hcs E1 C1 W1 V1) hZ (own_i hw 52 rfl) (own_i hw 10 rfl) (by decide) (by decide)) q102a q102c (g := (mkF m 4 #[rv a1, iv 0] [(.ref a1), (.int 0)])) rfl (by rw [hml]; rfl) (Steps.refl _) (argsL := []) (rest := [(.int 0)]) (lenOf pd_15 rfl) rfl (Nat.le_of_eq rfl) (hb hby d11_4) (fun _ _ => ⟨rfl, e0, (by decide : 0 + 0 ≤ _), (by decide : 0 + 0 ≤ _)⟩)
  dsimp only [Pt.U, Pt.locs, Pt.cells, Pt.slots] at X102 l102 y102 z102 st102 hQ102
  subst l102 y102 z102
  obtain ⟨rfl, N102q, e102⟩ := hQ102
  have N102 := Fr.app N0 N102q
  obtain ⟨cq103, kq103, q103a, q103b, q103c⟩ := isOf hZ e102 E1
  obtain ⟨_, _, ⟨T103, L103, k103, n103⟩, -, X103, ⟨Lc103, hQ103, l103, y103, z103⟩, st103⟩ := X102.virtualBack hx (y := own_y15) (z := own_y15) hown (own_m hZ hw 87) (own_m hZ hw 88) (notFace_of_selects (args := #[]) (own_m hZ hw 90)) (own_m hZ hw 90) (own_m hZ hw 89) (by decide) (backOf (W := 0) (rmCh l Z a0 hw [] a1 (0 : Int32) cs vF t kt y0 (4 : Int32) ([(.int y0), (.int y1), (.int y2), (.int y3)]) h0 n0 Z0 SC hcs SF hF E1 C1 W1 V1 (by first | assumption | rfl | decide | omega | simp_all) (by first | assumption | rfl | decide | omega | simp_all) rfl) hZ (own_i hw 91 rfl) (own_i hw 10 rfl) (by decide) (by decide)) q103a q103c (g := (mkF m 14 #[rv a1, iv 0] [(.int 0), (.ref a1)])) rfl (by rw [hml]; rfl) (Steps.refl _) (argsL := [(.int 0)]) (rest := []) (lenOf pd_4 rfl) rfl (Nat.le_of_eq rfl) (hb hby d11_14) (fun _ _ => ⟨rfl, e102, (by decide : 0 + 0 ≤ _), (by decide : 0 + 0 ≤ _)⟩)
  dsimp only [Pt.U, Pt.locs, Pt.cells, Pt.slots] at X103 l103 y103 z103 st103 hQ103
  subst l103 y103 z103
  obtain ⟨rfl, N103q, e103⟩ := hQ103
  have N103 := Fr.app N102 N103q
  obtain ⟨cq104, kq104, q104a, q104b, q104c⟩ := isOf hZ e103 E1
  obtain ⟨_, _, ⟨T104, L104, k104, n104⟩, -, X104, ⟨Lc104, hQ104, l104, y104, z104⟩, st104⟩ := X103.virtualBack hx (y := own_y11) (z := own_y11) hown (own_m hZ hw 48) (own_m hZ hw 49) (notFace_of_selects (args := #[]) (own_m hZ hw 51)) (own_m hZ hw 51) (own_m hZ hw 50) (by decide) (backOf (W := 1) (rmLen l Z a0 hw [] a1 cs t kt (4 : Int32) ([(.int y0), (.int y1), (.int y2), (.int y3)]) h0 n0 Z0 SC hcs E1 C1 W1 V1) hZ (own_i hw 52 rfl) (own_i hw 10 rfl) (by decide) (by decide)) q104a q104c (g := (mkF m 4 #[rv a1, iv 1] [(.ref a1), (.int 1)])) rfl (by rw [hml]; rfl) (Steps.refl _) (argsL := []) (rest := [(.int 1)]) (lenOf pd_15 rfl) rfl (Nat.le_of_eq rfl) (hb hby d11_4) (fun _ _ => ⟨rfl, e103, (by decide : 0 + 0 ≤ _), (by decide : 0 + 0 ≤ _)⟩)
  dsimp only [Pt.U, Pt.locs, Pt.cells, Pt.slots] at X104 l104 y104 z104 st104 hQ104
  subst l104 y104 z104
  obtain ⟨rfl, N104q, e104⟩ := hQ104
  have N104 := Fr.app N103 N104q
  obtain ⟨cq105, kq105, q105a, q105b, q105c⟩ := isOf hZ e104 E1
  obtain ⟨_, _, ⟨T105, L105, k105, n105⟩, -, X105, ⟨Lc105, hQ105, l105, y105, z105⟩, st105⟩ := X104.virtualBack hx (y := own_y15) (z := own_y15) hown (own_m hZ hw 87) (own_m hZ hw 88) (notFace_of_selects (args := #[]) (own_m hZ hw 90)) (own_m hZ hw 90) (own_m hZ hw 89) (by decide) (backOf (W := 0) (rmCh l Z a0 hw [] a1 (1 : Int32) cs vF t kt y1 (4 : Int32) ([(.int y0), (.int y1), (.int y2), (.int y3)]) h0 n0 Z0 SC hcs SF hF E1 C1 W1 V1 (by first | assumption | rfl | decide | omega | simp_all) (by first | assumption | rfl | decide | omega | simp_all) rfl) hZ (own_i hw 91 rfl) (own_i hw 10 rfl) (by decide) (by decide)) q105a q105c (g := (mkF m 14 #[rv a1, iv 1] [(.int 1), (.ref a1)])) rfl (by rw [hml]; rfl) (Steps.refl _) (argsL := [(.int 1)]) (rest := []) (lenOf pd_4 rfl) rfl (Nat.le_of_eq rfl) (hb hby d11_14) (fun _ _ => ⟨rfl, e104, (by decide : 0 + 0 ≤ _), (by decide : 0 + 0 ≤ _)⟩)
  dsimp only [Pt.U, Pt.locs, Pt.cells, Pt.slots] at X105 l105 y105 z105 st105 hQ105
  subst l105 y105 z105
  obtain ⟨rfl, N105q, e105⟩ := hQ105
  have N105 := Fr.app N104 N105q
  obtain ⟨cq106, kq106, q106a, q106b, q106c⟩ := isOf hZ e105 E1
  obtain ⟨_, _, ⟨T106, L106, k106, n106⟩, -, X106, ⟨Lc106, hQ106, l106, y106, z106⟩, st106⟩ := X105.virtualBack hx (y := own_y25) (z := own_y25) hown (own_m hZ hw 58) (own_m hZ hw 59) (notFace_of_selects (args := #[]) (own_m hZ hw 61)) (own_m hZ hw 61) (own_m hZ hw 60) (by decide) (backOf (W := 0) (rmS1_4_1 l Z a0 hw [] a1 cs vF t kt y0 y1 y2 y3 h0 n0 Z0 SC hcs SF hF E1 C1 W1 V1) hZ (own_i hw 62 rfl) (own_i hw 10 rfl) (by decide) (by decide)) q106a q106c (g := (mkF m 30 #[rv a1, iv 1] [(.int 1), (.ref a1)])) rfl (by rw [hml]; rfl) (Steps.refl _) (argsL := [(.int 1)]) (rest := []) (lenOf pd_19 rfl) rfl (Nat.le_of_eq rfl) (hb hby d11_30) (fun _ _ => ⟨rfl, e105, (by decide : 0 + 2 ≤ _), (by decide : 0 + 7 ≤ _)⟩)
  dsimp only [Pt.U, Pt.locs, Pt.cells, Pt.slots] at X106 l106 y106 z106 st106 hQ106
  subst l106 y106 z106
  obtain ⟨b107, b108, x109, rfl, N106q, K106, f110, f111, f112, f113, f114, f115, f116, f117⟩ := hQ106
  have N106 := Fr.app N105 N106q
  have ne118 : a1 ≠ b107 := Nat.ne_of_lt (Nat.lt_of_lt_of_le E1.lt f111)
  have ne119 : t ≠ b107 := Nat.ne_of_lt (Nat.lt_of_lt_of_le V1.lt f111)
  have ne120 : a1 ≠ b108 := Nat.ne_of_lt (Nat.lt_of_lt_of_le E1.lt f116)
  have ne121 : t ≠ b108 := Nat.ne_of_lt (Nat.lt_of_lt_of_le V1.lt f116)
  have f122 := Nat.le_trans Z0 K106.1
  have f123 := E1.keep K106
  have f124 := C1.keep K106 nin0
  have f125 := W1.keep K106 nin0
  have f126 := V1.keep K106 nin0
  have f127 := f101.trans K106 all0
  have pre128 : own_P p e below s₁ (entryFrame m #[(.ref a1)] 2) T106 (mkF m 33 #[rv a1, iv 1] [(.ref b107)]) := fun t k => pre0 t (by
    show Steps p.tables e below (s₁.setTop (mkF m 0 #[rv a1, .unset] [])) t
    refine XS.iconst X0.here hx rfl (hb hby d11_0) ?_
    refine XS.istoreN X0.here hx rfl (hb hby d11_1) rfl (l' := #[rv a1, iv 0]) rfl ?_
    refine XS.iloadN X0.here hx rfl (hb hby d11_2) rfl ?_
    refine XS.aloadN X0.here hx rfl (hb hby d11_3) rfl rfl ?_
    refine st102.trans ?_
    refine XS.iconst X102.here hx rfl (hb hby d11_7) ?_
    refine XS.isub X102.here hx rfl (hb hby d11_8) rfl ?_
    refine XS.icmpNo X102.here hx rfl (hb hby d11_9) rfl (tlt (by decide : (0 : Int32) < (3 : Int32))).2.1 ?_
    refine XS.aloadN X102.here hx rfl (hb hby d11_12) rfl rfl ?_
    refine XS.iloadN X102.here hx rfl (hb hby d11_13) rfl ?_
    refine st103.trans ?_
    refine XS.bipush X103.here hx rfl (hb hby d11_17) ?_
    refine XS.icmpNo X103.here hx rfl (hb hby d11_19) rfl (teq hz0).2 ?_
    refine XS.iinc X103.here hx rfl (hb hby d11_22) rfl (l' := #[rv a1, iv 1]) rfl ?_
    refine XS.goto X103.here hx rfl (pc0 := 25) (pc' := 2) rfl (hb hby d11_25) (by decide) (by decide) ?_
    refine XS.iloadN X103.here hx rfl (hb hby d11_2) rfl ?_
    refine XS.aloadN X103.here hx rfl (hb hby d11_3) rfl rfl ?_
    refine st104.trans ?_
    refine XS.iconst X104.here hx rfl (hb hby d11_7) ?_
    refine XS.isub X104.here hx rfl (hb hby d11_8) rfl ?_
    refine XS.icmpNo X104.here hx rfl (hb hby d11_9) rfl (tlt (by decide : (1 : Int32) < (3 : Int32))).2.1 ?_
    refine XS.aloadN X104.here hx rfl (hb hby d11_12) rfl rfl ?_
    refine XS.iloadN X104.here hx rfl (hb hby d11_13) rfl ?_
    refine st105.trans ?_
    refine XS.bipush X105.here hx rfl (hb hby d11_17) ?_
    show Steps p.tables e below (T105.setTop (mkF m 19 #[rv a1, iv 1] [(.int 48), (.int (own_cat y1))])) t
    refine XS.icmpYes X105.here hx rfl (pc0 := 19) (pc' := 28) rfl (hb hby d11_19) rfl (feq hz1).2 (by decide) (by decide) ?_
    refine XS.aloadN X105.here hx rfl (hb hby d11_28) rfl rfl ?_
    refine XS.iloadN X105.here hx rfl (hb hby d11_29) rfl ?_
    refine st106.trans ?_
    exact k)
  obtain ⟨fs, hr, hrun, hended, hW, hsame⟩ := X106.leave (v := some (.ref b107)) (fun h => by rw [Bd.returns] at h; cases h)
  refine ⟨_, _, pre128 _ ?_, hrun, hended, _, _, rfl, ?_, ⟨_, rfl⟩, hW, hsame.mono (by decide) (by decide)⟩
  · exact retOut X106 hx Bd.returns rfl (Or.inr (Or.inr (Or.inr (Or.inr ⟨rfl, rfl, rfl⟩)))) (hb hby d11_33) hr
  · show QK_4_1 Z a1 cs vF t kt y0 y1 y2 y3 h0 n0 _ T106.heap _
    exact ⟨b107, b108, x109, rfl, N106, f127, f110, f111, f112, f113, f114, f115, f116, f117⟩
theorem ef_rmK_4_2 (m : MethodId) (x0 : Addr) : entryFrame m #[(.ref x0)] 2 = mkF m 0 #[rv x0, .unset] [] := by first | (simp [entryFrame, mkF, argsToLocals, Value.category]; done) | rfl
def QK_4_2 (Z : State) (a1 : Addr) (cs : Int32) (vF : Value) (t : Addr) (kt : ClassId) (y0 : Int32) (y1 : Int32) (y2 : Int32) (y3 : Int32) (h0 : Heap) (n0 : Nat) (v : Option Value) (h : Heap) (L : List Loc) : Prop := ∃ (b : Addr) (tb : Addr) (kb : ClassId), v = some (.ref b) ∧ Fr n0 L ∧ Keep h0 h [] ∧ (n0 ≤ b) ∧ (h0.size ≤ b) ∧ (Exa Z h b "java/lang/String") ∧ (Fld Z h b "java/lang/String" "coder" "B" (.int 0)) ∧ (Fld Z h b "java/lang/String" "value" "[B" (.ref tb)) ∧ (n0 ≤ tb) ∧ (h0.size ≤ tb) ∧ (Arv Z h tb kb .byte (2 : Int32) [(.int y2), (.int y3)] (.int 0))
set_option maxRecDepth 65536 in
set_option maxHeartbeats 40000000 in
theorem rmK_4_2 (l : Launch) (Z : State) (a0 : Array Value) (hw : ∀ d ∈ tables_1, d.before a0 Z = true) (ws : List Jvm.Cond) (a1 : Addr) (cs : Int32) (vF : Value) (t : Addr) (kt : ClassId) (y0 : Int32) (y1 : Int32) (y2 : Int32) (y3 : Int32) (h0 : Heap) (n0 : Nat) (Z0 : n0 ≤ h0.size) (SC : Sta Z h0 "java/lang/String" "COMPACT_STRINGS" "Z" (.int cs)) (hcs : ¬ (cs = (0 : Int32))) (SF : Sta Z h0 "jdk/internal/util/Preconditions" "SIOOBE_FORMATTER" "Ljava/util/function/BiFunction;" vF) (hF : vF.isRef = true) (E1 : Exa Z h0 a1 "java/lang/String") (C1 : Fld Z h0 a1 "java/lang/String" "coder" "B" (.int 0)) (W1 : Fld Z h0 a1 "java/lang/String" "value" "[B" (.ref t)) (V1 : Arv Z h0 t kt .byte (4 : Int32) [(.int y0), (.int y1), (.int y2), (.int y3)] (.int 0)) (hz0 : (own_cat y0) = (48 : Int32)) (hz1 : (own_cat y1) = (48 : Int32)) (hz2 : ¬ ((own_cat y2) = (48 : Int32))) :
    own_M l own_y26 prog_20_method_3_code 2 (some (.object "java/lang/String")) ws (own_R 6 2 6 115) Z h0 #[(.ref a1)] (QK_4_2 Z a1 cs vF t kt y0 y1 y2 y3 h0 n0) := by
  refine MetFree.of_bodySF (plainFor_of_name pn_com_example_millipede_millipede_DecimalNumbers) hisR ?_
  intro p e s m args below meth c s₁ Bd hml0 hP hK
  obtain ⟨rfl, hZ, hh⟩ := hP
  have hx := Bd.exec
  have hby := Bd.bytes
  have hml : c.maxLocals = 2 := hml0
  have hown : s.vm.findClass "com/example/millipede/millipede/DecimalNumbers" = some m.cls := findClass_of_methodNamed Bd.named
  have hnm := (name_of_methodNamed Bd.named Bd.method).1
  have X0 : Stand p l e (own_R 6 2 6 115) s m #[(.ref a1)] below meth c s₁ [] 0 0 := Stand.of_body Bd
  have e0 : s₁.heap = h0 := by rw [← hh, Bd.state]; rfl
  have N0 := Fr.nil n0
  have pre0 : own_P p e below s₁ (entryFrame m #[(.ref a1)] 2) s₁ (mkF m 0 #[rv a1, .unset] []) := fun t k => castTop (ef_rmK_4_2 m a1) k
  have f101 := Keep.refl h0 []
  obtain ⟨cq102, kq102, q102a, q102b, q102c⟩ := isOf hZ e0 E1
  obtain ⟨_, _, ⟨T102, L102, k102, n102⟩, -, X102, ⟨Lc102, hQ102, l102, y102, z102⟩, st102⟩ := X0.virtualBack hx (y := own_y11) (z := own_y11) hown (own_m hZ hw 48) (own_m hZ hw 49) (notFace_of_selects (args := #[]) (own_m hZ hw 51)) (own_m hZ hw 51) (own_m hZ hw 50) (by decide) (backOf (W := 1) (rmLen l Z a0 hw [] a1 cs t kt (4 : Int32) ([(.int y0), (.int y1), (.int y2), (.int y3)]) h0 n0 Z0 SC hcs E1 C1 W1 V1) hZ (own_i hw 52 rfl) (own_i hw 10 rfl) (by decide) (by decide)) q102a q102c (g := (mkF m 4 #[rv a1, iv 0] [(.ref a1), (.int 0)])) rfl (by rw [hml]; rfl) (Steps.refl _) (argsL := []) (rest := [(.int 0)]) (lenOf pd_15 rfl) rfl (Nat.le_of_eq rfl) (hb hby d11_4) (fun _ _ => ⟨rfl, e0, (by decide : 0 + 0 ≤ _), (by decide : 0 + 0 ≤ _)⟩)
  dsimp only [Pt.U, Pt.locs, Pt.cells, Pt.slots] at X102 l102 y102 z102 st102 hQ102
  subst l102 y102 z102
  obtain ⟨rfl, N102q, e102⟩ := hQ102
  have N102 := Fr.app N0 N102q
  obtain ⟨cq103, kq103, q103a, q103b, q103c⟩ := isOf hZ e102 E1
  obtain ⟨_, _, ⟨T103, L103, k103, n103⟩, -, X103, ⟨Lc103, hQ103, l103, y103, z103⟩, st103⟩ := X102.virtualBack hx (y := own_y15) (z := own_y15) hown (own_m hZ hw 87) (own_m hZ hw 88) (notFace_of_selects (args := #[]) (own_m hZ hw 90)) (own_m hZ hw 90) (own_m hZ hw 89) (by decide) (backOf (W := 0) (rmCh l Z a0 hw [] a1 (0 : Int32) cs vF t kt y0 (4 : Int32) ([(.int y0), (.int y1), (.int y2), (.int y3)]) h0 n0 Z0 SC hcs SF hF E1 C1 W1 V1 (by first | assumption | rfl | decide | omega | simp_all) (by first | assumption | rfl | decide | omega | simp_all) rfl) hZ (own_i hw 91 rfl) (own_i hw 10 rfl) (by decide) (by decide)) q103a q103c (g := (mkF m 14 #[rv a1, iv 0] [(.int 0), (.ref a1)])) rfl (by rw [hml]; rfl) (Steps.refl _) (argsL := [(.int 0)]) (rest := []) (lenOf pd_4 rfl) rfl (Nat.le_of_eq rfl) (hb hby d11_14) (fun _ _ => ⟨rfl, e102, (by decide : 0 + 0 ≤ _), (by decide : 0 + 0 ≤ _)⟩)
  dsimp only [Pt.U, Pt.locs, Pt.cells, Pt.slots] at X103 l103 y103 z103 st103 hQ103
  subst l103 y103 z103
  obtain ⟨rfl, N103q, e103⟩ := hQ103
  have N103 := Fr.app N102 N103q
  obtain ⟨cq104, kq104, q104a, q104b, q104c⟩ := isOf hZ e103 E1
  obtain ⟨_, _, ⟨T104, L104, k104, n104⟩, -, X104, ⟨Lc104, hQ104, l104, y104, z104⟩, st104⟩ := X103.virtualBack hx (y := own_y11) (z := own_y11) hown (own_m hZ hw 48) (own_m hZ hw 49) (notFace_of_selects (args := #[]) (own_m hZ hw 51)) (own_m hZ hw 51) (own_m hZ hw 50) (by decide) (backOf (W := 1) (rmLen l Z a0 hw [] a1 cs t kt (4 : Int32) ([(.int y0), (.int y1), (.int y2), (.int y3)]) h0 n0 Z0 SC hcs E1 C1 W1 V1) hZ (own_i hw 52 rfl) (own_i hw 10 rfl) (by decide) (by decide)) q104a q104c (g := (mkF m 4 #[rv a1, iv 1] [(.ref a1), (.int 1)])) rfl (by rw [hml]; rfl) (Steps.refl _) (argsL := []) (rest := [(.int 1)]) (lenOf pd_15 rfl) rfl (Nat.le_of_eq rfl) (hb hby d11_4) (fun _ _ => ⟨rfl, e103, (by decide : 0 + 0 ≤ _), (by decide : 0 + 0 ≤ _)⟩)
  dsimp only [Pt.U, Pt.locs, Pt.cells, Pt.slots] at X104 l104 y104 z104 st104 hQ104
  subst l104 y104 z104
  obtain ⟨rfl, N104q, e104⟩ := hQ104
  have N104 := Fr.app N103 N104q
  obtain ⟨cq105, kq105, q105a, q105b, q105c⟩ := isOf hZ e104 E1
  obtain ⟨_, _, ⟨T105, L105, k105, n105⟩, -, X105, ⟨Lc105, hQ105, l105, y105, z105⟩, st105⟩ := X104.virtualBack hx (y := own_y15) (z := own_y15) hown (own_m hZ hw 87) (own_m hZ hw 88) (notFace_of_selects (args := #[]) (own_m hZ hw 90)) (own_m hZ hw 90) (own_m hZ hw 89) (by decide) (backOf (W := 0) (rmCh l Z a0 hw [] a1 (1 : Int32) cs vF t kt y1 (4 : Int32) ([(.int y0), (.int y1), (.int y2), (.int y3)]) h0 n0 Z0 SC hcs SF hF E1 C1 W1 V1 (by first | assumption | rfl | decide | omega | simp_all) (by first | assumption | rfl | decide | omega | simp_all) rfl) hZ (own_i hw 91 rfl) (own_i hw 10 rfl) (by decide) (by decide)) q105a q105c (g := (mkF m 14 #[rv a1, iv 1] [(.int 1), (.ref a1)])) rfl (by rw [hml]; rfl) (Steps.refl _) (argsL := [(.int 1)]) (rest := []) (lenOf pd_4 rfl) rfl (Nat.le_of_eq rfl) (hb hby d11_14) (fun _ _ => ⟨rfl, e104, (by decide : 0 + 0 ≤ _), (by decide : 0 + 0 ≤ _)⟩)
  dsimp only [Pt.U, Pt.locs, Pt.cells, Pt.slots] at X105 l105 y105 z105 st105 hQ105
  subst l105 y105 z105
  obtain ⟨rfl, N105q, e105⟩ := hQ105
  have N105 := Fr.app N104 N105q
  obtain ⟨cq106, kq106, q106a, q106b, q106c⟩ := isOf hZ e105 E1
  obtain ⟨_, _, ⟨T106, L106, k106, n106⟩, -, X106, ⟨Lc106, hQ106, l106, y106, z106⟩, st106⟩ := X105.virtualBack hx (y := own_y11) (z := own_y11) hown (own_m hZ hw 48) (own_m hZ hw 49) (notFace_of_selects (args := #[]) (own_m hZ hw 51)) (own_m hZ hw 51) (own_m hZ hw 50) (by decide) (backOf (W := 1) (rmLen l Z a0 hw [] a1 cs t kt (4 : Int32) ([(.int y0), (.int y1), (.int y2), (.int y3)]) h0 n0 Z0 SC hcs E1 C1 W1 V1) hZ (own_i hw 52 rfl) (own_i hw 10 rfl) (by decide) (by decide)) q106a q106c (g := (mkF m 4 #[rv a1, iv 2] [(.ref a1), (.int 2)])) rfl (by rw [hml]; rfl) (Steps.refl _) (argsL := []) (rest := [(.int 2)]) (lenOf pd_15 rfl) rfl (Nat.le_of_eq rfl) (hb hby d11_4) (fun _ _ => ⟨rfl, e105, (by decide : 0 + 0 ≤ _), (by decide : 0 + 0 ≤ _)⟩)
  dsimp only [Pt.U, Pt.locs, Pt.cells, Pt.slots] at X106 l106 y106 z106 st106 hQ106
  subst l106 y106 z106
  obtain ⟨rfl, N106q, e106⟩ := hQ106
  have N106 := Fr.app N105 N106q
  obtain ⟨cq107, kq107, q107a, q107b, q107c⟩ := isOf hZ e106 E1
  obtain ⟨_, _, ⟨T107, L107, k107, n107⟩, -, X107, ⟨Lc107, hQ107, l107, y107, z107⟩, st107⟩ := X106.virtualBack hx (y := own_y15) (z := own_y15) hown (own_m hZ hw 87) (own_m hZ hw 88) (notFace_of_selects (args := #[]) (own_m hZ hw 90)) (own_m hZ hw 90) (own_m hZ hw 89) (by decide) (backOf (W := 0) (rmCh l Z a0 hw [] a1 (2 : Int32) cs vF t kt y2 (4 : Int32) ([(.int y0), (.int y1), (.int y2), (.int y3)]) h0 n0 Z0 SC hcs SF hF E1 C1 W1 V1 (by first | assumption | rfl | decide | omega | simp_all) (by first | assumption | rfl | decide | omega | simp_all) rfl) hZ (own_i hw 91 rfl) (own_i hw 10 rfl) (by decide) (by decide)) q107a q107c (g := (mkF m 14 #[rv a1, iv 2] [(.int 2), (.ref a1)])) rfl (by rw [hml]; rfl) (Steps.refl _) (argsL := [(.int 2)]) (rest := []) (lenOf pd_4 rfl) rfl (Nat.le_of_eq rfl) (hb hby d11_14) (fun _ _ => ⟨rfl, e106, (by decide : 0 + 0 ≤ _), (by decide : 0 + 0 ≤ _)⟩)
  dsimp only [Pt.U, Pt.locs, Pt.cells, Pt.slots] at X107 l107 y107 z107 st107 hQ107
  subst l107 y107 z107
  obtain ⟨rfl, N107q, e107⟩ := hQ107
  have N107 := Fr.app N106 N107q
  obtain ⟨cq108, kq108, q108a, q108b, q108c⟩ := isOf hZ e107 E1
  obtain ⟨_, _, ⟨T108, L108, k108, n108⟩, -, X108, ⟨Lc108, hQ108, l108, y108, z108⟩, st108⟩ := X107.virtualBack hx (y := own_y25) (z := own_y25) hown (own_m hZ hw 58) (own_m hZ hw 59) (notFace_of_selects (args := #[]) (own_m hZ hw 61)) (own_m hZ hw 61) (own_m hZ hw 60) (by decide) (backOf (W := 0) (rmS1_4_2 l Z a0 hw [] a1 cs vF t kt y0 y1 y2 y3 h0 n0 Z0 SC hcs SF hF E1 C1 W1 V1) hZ (own_i hw 62 rfl) (own_i hw 10 rfl) (by decide) (by decide)) q108a q108c (g := (mkF m 30 #[rv a1, iv 2] [(.int 2), (.ref a1)])) rfl (by rw [hml]; rfl) (Steps.refl _) (argsL := [(.int 2)]) (rest := []) (lenOf pd_19 rfl) rfl (Nat.le_of_eq rfl) (hb hby d11_30) (fun _ _ => ⟨rfl, e107, (by decide : 0 + 2 ≤ _), (by decide : 0 + 6 ≤ _)⟩)
  dsimp only [Pt.U, Pt.locs, Pt.cells, Pt.slots] at X108 l108 y108 z108 st108 hQ108
  subst l108 y108 z108
  obtain ⟨b109, b110, x111, rfl, N108q, K108, f112, f113, f114, f115, f116, f117, f118, f119⟩ := hQ108
  have N108 := Fr.app N107 N108q
  have ne120 : a1 ≠ b109 := Nat.ne_of_lt (Nat.lt_of_lt_of_le E1.lt f113)
  have ne121 : t ≠ b109 := Nat.ne_of_lt (Nat.lt_of_lt_of_le V1.lt f113)
  have ne122 : a1 ≠ b110 := Nat.ne_of_lt (Nat.lt_of_lt_of_le E1.lt f118)
  have ne123 : t ≠ b110 := Nat.ne_of_lt (Nat.lt_of_lt_of_le V1.lt f118)
  have f124 := Nat.le_trans Z0 K108.1
  have f125 := E1.keep K108
  have f126 := C1.keep K108 nin0
  have f127 := W1.keep K108 nin0
  have f128 := V1.keep K108 nin0
  have f129 := f101.trans K108 all0
  have pre130 : own_P p e below s₁ (entryFrame m #[(.ref a1)] 2) T108 (mkF m 33 #[rv a1, iv 2] [(.ref b109)]) := fun t k => pre0 t (by
    show Steps p.tables e below (s₁.setTop (mkF m 0 #[rv a1, .unset] [])) t
    refine XS.iconst X0.here hx rfl (hb hby d11_0) ?_
    refine XS.istoreN X0.here hx rfl (hb hby d11_1) rfl (l' := #[rv a1, iv 0]) rfl ?_
    refine XS.iloadN X0.here hx rfl (hb hby d11_2) rfl ?_
    refine XS.aloadN X0.here hx rfl (hb hby d11_3) rfl rfl ?_
    refine st102.trans ?_
    refine XS.iconst X102.here hx rfl (hb hby d11_7) ?_
    refine XS.isub X102.here hx rfl (hb hby d11_8) rfl ?_
    refine XS.icmpNo X102.here hx rfl (hb hby d11_9) rfl (tlt (by decide : (0 : Int32) < (3 : Int32))).2.1 ?_
    refine XS.aloadN X102.here hx rfl (hb hby d11_12) rfl rfl ?_
    refine XS.iloadN X102.here hx rfl (hb hby d11_13) rfl ?_
    refine st103.trans ?_
    refine XS.bipush X103.here hx rfl (hb hby d11_17) ?_
    refine XS.icmpNo X103.here hx rfl (hb hby d11_19) rfl (teq hz0).2 ?_
    refine XS.iinc X103.here hx rfl (hb hby d11_22) rfl (l' := #[rv a1, iv 1]) rfl ?_
    refine XS.goto X103.here hx rfl (pc0 := 25) (pc' := 2) rfl (hb hby d11_25) (by decide) (by decide) ?_
    refine XS.iloadN X103.here hx rfl (hb hby d11_2) rfl ?_
    refine XS.aloadN X103.here hx rfl (hb hby d11_3) rfl rfl ?_
    refine st104.trans ?_
    refine XS.iconst X104.here hx rfl (hb hby d11_7) ?_
    refine XS.isub X104.here hx rfl (hb hby d11_8) rfl ?_
    refine XS.icmpNo X104.here hx rfl (hb hby d11_9) rfl (tlt (by decide : (1 : Int32) < (3 : Int32))).2.1 ?_
    refine XS.aloadN X104.here hx rfl (hb hby d11_12) rfl rfl ?_
    refine XS.iloadN X104.here hx rfl (hb hby d11_13) rfl ?_
    refine st105.trans ?_
    refine XS.bipush X105.here hx rfl (hb hby d11_17) ?_
    show Steps p.tables e below (T105.setTop (mkF m 19 #[rv a1, iv 1] [(.int 48), (.int (own_cat y1))])) t
    refine XS.icmpNo X105.here hx rfl (hb hby d11_19) rfl (teq hz1).2 ?_
    refine XS.iinc X105.here hx rfl (hb hby d11_22) rfl (l' := #[rv a1, iv 2]) rfl ?_
    refine XS.goto X105.here hx rfl (pc0 := 25) (pc' := 2) rfl (hb hby d11_25) (by decide) (by decide) ?_
    refine XS.iloadN X105.here hx rfl (hb hby d11_2) rfl ?_
    refine XS.aloadN X105.here hx rfl (hb hby d11_3) rfl rfl ?_
    refine st106.trans ?_
    refine XS.iconst X106.here hx rfl (hb hby d11_7) ?_
    refine XS.isub X106.here hx rfl (hb hby d11_8) rfl ?_
    refine XS.icmpNo X106.here hx rfl (hb hby d11_9) rfl (tlt (by decide : (2 : Int32) < (3 : Int32))).2.1 ?_
    refine XS.aloadN X106.here hx rfl (hb hby d11_12) rfl rfl ?_
    refine XS.iloadN X106.here hx rfl (hb hby d11_13) rfl ?_
    refine st107.trans ?_
    refine XS.bipush X107.here hx rfl (hb hby d11_17) ?_
    refine XS.icmpYes X107.here hx rfl (pc0 := 19) (pc' := 28) rfl (hb hby d11_19) rfl (feq hz2).2 (by decide) (by decide) ?_
    refine XS.aloadN X107.here hx rfl (hb hby d11_28) rfl rfl ?_
    refine XS.iloadN X107.here hx rfl (hb hby d11_29) rfl ?_
    refine st108.trans ?_
    exact k)
  obtain ⟨fs, hr, hrun, hended, hW, hsame⟩ := X108.leave (v := some (.ref b109)) (fun h => by rw [Bd.returns] at h; cases h)
  refine ⟨_, _, pre130 _ ?_, hrun, hended, _, _, rfl, ?_, ⟨_, rfl⟩, hW, hsame.mono (by decide) (by decide)⟩
  · exact retOut X108 hx Bd.returns rfl (Or.inr (Or.inr (Or.inr (Or.inr ⟨rfl, rfl, rfl⟩)))) (hb hby d11_33) hr
  · show QK_4_2 Z a1 cs vF t kt y0 y1 y2 y3 h0 n0 _ T108.heap _
    exact ⟨b109, b110, x111, rfl, N108, f129, f112, f113, f114, f115, f116, f117, f118, f119⟩
theorem ef_rmK_4_3 (m : MethodId) (x0 : Addr) : entryFrame m #[(.ref x0)] 2 = mkF m 0 #[rv x0, .unset] [] := by first | (simp [entryFrame, mkF, argsToLocals, Value.category]; done) | rfl
def QK_4_3 (Z : State) (a1 : Addr) (cs : Int32) (vF : Value) (t : Addr) (kt : ClassId) (y0 : Int32) (y1 : Int32) (y2 : Int32) (y3 : Int32) (h0 : Heap) (n0 : Nat) (v : Option Value) (h : Heap) (L : List Loc) : Prop := ∃ (b : Addr) (tb : Addr) (kb : ClassId), v = some (.ref b) ∧ Fr n0 L ∧ Keep h0 h [] ∧ (n0 ≤ b) ∧ (h0.size ≤ b) ∧ (Exa Z h b "java/lang/String") ∧ (Fld Z h b "java/lang/String" "coder" "B" (.int 0)) ∧ (Fld Z h b "java/lang/String" "value" "[B" (.ref tb)) ∧ (n0 ≤ tb) ∧ (h0.size ≤ tb) ∧ (Arv Z h tb kb .byte (1 : Int32) [(.int y3)] (.int 0))
set_option maxRecDepth 65536 in
set_option maxHeartbeats 40000000 in
theorem rmK_4_3 (l : Launch) (Z : State) (a0 : Array Value) (hw : ∀ d ∈ tables_1, d.before a0 Z = true) (ws : List Jvm.Cond) (a1 : Addr) (cs : Int32) (vF : Value) (t : Addr) (kt : ClassId) (y0 : Int32) (y1 : Int32) (y2 : Int32) (y3 : Int32) (h0 : Heap) (n0 : Nat) (Z0 : n0 ≤ h0.size) (SC : Sta Z h0 "java/lang/String" "COMPACT_STRINGS" "Z" (.int cs)) (hcs : ¬ (cs = (0 : Int32))) (SF : Sta Z h0 "jdk/internal/util/Preconditions" "SIOOBE_FORMATTER" "Ljava/util/function/BiFunction;" vF) (hF : vF.isRef = true) (E1 : Exa Z h0 a1 "java/lang/String") (C1 : Fld Z h0 a1 "java/lang/String" "coder" "B" (.int 0)) (W1 : Fld Z h0 a1 "java/lang/String" "value" "[B" (.ref t)) (V1 : Arv Z h0 t kt .byte (4 : Int32) [(.int y0), (.int y1), (.int y2), (.int y3)] (.int 0)) (hz0 : (own_cat y0) = (48 : Int32)) (hz1 : (own_cat y1) = (48 : Int32)) (hz2 : (own_cat y2) = (48 : Int32)) :
    own_M l own_y26 prog_20_method_3_code 2 (some (.object "java/lang/String")) ws (own_R 6 2 5 115) Z h0 #[(.ref a1)] (QK_4_3 Z a1 cs vF t kt y0 y1 y2 y3 h0 n0) := by
  refine MetFree.of_bodySF (plainFor_of_name pn_com_example_millipede_millipede_DecimalNumbers) hisR ?_
  intro p e s m args below meth c s₁ Bd hml0 hP hK
  obtain ⟨rfl, hZ, hh⟩ := hP
  have hx := Bd.exec
  have hby := Bd.bytes
  have hml : c.maxLocals = 2 := hml0
  have hown : s.vm.findClass "com/example/millipede/millipede/DecimalNumbers" = some m.cls := findClass_of_methodNamed Bd.named
  have hnm := (name_of_methodNamed Bd.named Bd.method).1
  have X0 : Stand p l e (own_R 6 2 5 115) s m #[(.ref a1)] below meth c s₁ [] 0 0 := Stand.of_body Bd
  have e0 : s₁.heap = h0 := by rw [← hh, Bd.state]; rfl
  have N0 := Fr.nil n0
  have pre0 : own_P p e below s₁ (entryFrame m #[(.ref a1)] 2) s₁ (mkF m 0 #[rv a1, .unset] []) := fun t k => castTop (ef_rmK_4_3 m a1) k
  have f101 := Keep.refl h0 []
  obtain ⟨cq102, kq102, q102a, q102b, q102c⟩ := isOf hZ e0 E1
  obtain ⟨_, _, ⟨T102, L102, k102, n102⟩, -, X102, ⟨Lc102, hQ102, l102, y102, z102⟩, st102⟩ := X0.virtualBack hx (y := own_y11) (z := own_y11) hown (own_m hZ hw 48) (own_m hZ hw 49) (notFace_of_selects (args := #[]) (own_m hZ hw 51)) (own_m hZ hw 51) (own_m hZ hw 50) (by decide) (backOf (W := 1) (rmLen l Z a0 hw [] a1 cs t kt (4 : Int32) ([(.int y0), (.int y1), (.int y2), (.int y3)]) h0 n0 Z0 SC hcs E1 C1 W1 V1) hZ (own_i hw 52 rfl) (own_i hw 10 rfl) (by decide) (by decide)) q102a q102c (g := (mkF m 4 #[rv a1, iv 0] [(.ref a1), (.int 0)])) rfl (by rw [hml]; rfl) (Steps.refl _) (argsL := []) (rest := [(.int 0)]) (lenOf pd_15 rfl) rfl (Nat.le_of_eq rfl) (hb hby d11_4) (fun _ _ => ⟨rfl, e0, (by decide : 0 + 0 ≤ _), (by decide : 0 + 0 ≤ _)⟩)
  dsimp only [Pt.U, Pt.locs, Pt.cells, Pt.slots] at X102 l102 y102 z102 st102 hQ102
  subst l102 y102 z102
  obtain ⟨rfl, N102q, e102⟩ := hQ102
  have N102 := Fr.app N0 N102q
  obtain ⟨cq103, kq103, q103a, q103b, q103c⟩ := isOf hZ e102 E1
  obtain ⟨_, _, ⟨T103, L103, k103, n103⟩, -, X103, ⟨Lc103, hQ103, l103, y103, z103⟩, st103⟩ := X102.virtualBack hx (y := own_y15) (z := own_y15) hown (own_m hZ hw 87) (own_m hZ hw 88) (notFace_of_selects (args := #[]) (own_m hZ hw 90)) (own_m hZ hw 90) (own_m hZ hw 89) (by decide) (backOf (W := 0) (rmCh l Z a0 hw [] a1 (0 : Int32) cs vF t kt y0 (4 : Int32) ([(.int y0), (.int y1), (.int y2), (.int y3)]) h0 n0 Z0 SC hcs SF hF E1 C1 W1 V1 (by first | assumption | rfl | decide | omega | simp_all) (by first | assumption | rfl | decide | omega | simp_all) rfl) hZ (own_i hw 91 rfl) (own_i hw 10 rfl) (by decide) (by decide)) q103a q103c (g := (mkF m 14 #[rv a1, iv 0] [(.int 0), (.ref a1)])) rfl (by rw [hml]; rfl) (Steps.refl _) (argsL := [(.int 0)]) (rest := []) (lenOf pd_4 rfl) rfl (Nat.le_of_eq rfl) (hb hby d11_14) (fun _ _ => ⟨rfl, e102, (by decide : 0 + 0 ≤ _), (by decide : 0 + 0 ≤ _)⟩)
  dsimp only [Pt.U, Pt.locs, Pt.cells, Pt.slots] at X103 l103 y103 z103 st103 hQ103
  subst l103 y103 z103
  obtain ⟨rfl, N103q, e103⟩ := hQ103
  have N103 := Fr.app N102 N103q
  obtain ⟨cq104, kq104, q104a, q104b, q104c⟩ := isOf hZ e103 E1
  obtain ⟨_, _, ⟨T104, L104, k104, n104⟩, -, X104, ⟨Lc104, hQ104, l104, y104, z104⟩, st104⟩ := X103.virtualBack hx (y := own_y11) (z := own_y11) hown (own_m hZ hw 48) (own_m hZ hw 49) (notFace_of_selects (args := #[]) (own_m hZ hw 51)) (own_m hZ hw 51) (own_m hZ hw 50) (by decide) (backOf (W := 1) (rmLen l Z a0 hw [] a1 cs t kt (4 : Int32) ([(.int y0), (.int y1), (.int y2), (.int y3)]) h0 n0 Z0 SC hcs E1 C1 W1 V1) hZ (own_i hw 52 rfl) (own_i hw 10 rfl) (by decide) (by decide)) q104a q104c (g := (mkF m 4 #[rv a1, iv 1] [(.ref a1), (.int 1)])) rfl (by rw [hml]; rfl) (Steps.refl _) (argsL := []) (rest := [(.int 1)]) (lenOf pd_15 rfl) rfl (Nat.le_of_eq rfl) (hb hby d11_4) (fun _ _ => ⟨rfl, e103, (by decide : 0 + 0 ≤ _), (by decide : 0 + 0 ≤ _)⟩)
  dsimp only [Pt.U, Pt.locs, Pt.cells, Pt.slots] at X104 l104 y104 z104 st104 hQ104
  subst l104 y104 z104
  obtain ⟨rfl, N104q, e104⟩ := hQ104
  have N104 := Fr.app N103 N104q
  obtain ⟨cq105, kq105, q105a, q105b, q105c⟩ := isOf hZ e104 E1
  obtain ⟨_, _, ⟨T105, L105, k105, n105⟩, -, X105, ⟨Lc105, hQ105, l105, y105, z105⟩, st105⟩ := X104.virtualBack hx (y := own_y15) (z := own_y15) hown (own_m hZ hw 87) (own_m hZ hw 88) (notFace_of_selects (args := #[]) (own_m hZ hw 90)) (own_m hZ hw 90) (own_m hZ hw 89) (by decide) (backOf (W := 0) (rmCh l Z a0 hw [] a1 (1 : Int32) cs vF t kt y1 (4 : Int32) ([(.int y0), (.int y1), (.int y2), (.int y3)]) h0 n0 Z0 SC hcs SF hF E1 C1 W1 V1 (by first | assumption | rfl | decide | omega | simp_all) (by first | assumption | rfl | decide | omega | simp_all) rfl) hZ (own_i hw 91 rfl) (own_i hw 10 rfl) (by decide) (by decide)) q105a q105c (g := (mkF m 14 #[rv a1, iv 1] [(.int 1), (.ref a1)])) rfl (by rw [hml]; rfl) (Steps.refl _) (argsL := [(.int 1)]) (rest := []) (lenOf pd_4 rfl) rfl (Nat.le_of_eq rfl) (hb hby d11_14) (fun _ _ => ⟨rfl, e104, (by decide : 0 + 0 ≤ _), (by decide : 0 + 0 ≤ _)⟩)
  dsimp only [Pt.U, Pt.locs, Pt.cells, Pt.slots] at X105 l105 y105 z105 st105 hQ105
  subst l105 y105 z105
  obtain ⟨rfl, N105q, e105⟩ := hQ105
  have N105 := Fr.app N104 N105q
  obtain ⟨cq106, kq106, q106a, q106b, q106c⟩ := isOf hZ e105 E1
  obtain ⟨_, _, ⟨T106, L106, k106, n106⟩, -, X106, ⟨Lc106, hQ106, l106, y106, z106⟩, st106⟩ := X105.virtualBack hx (y := own_y11) (z := own_y11) hown (own_m hZ hw 48) (own_m hZ hw 49) (notFace_of_selects (args := #[]) (own_m hZ hw 51)) (own_m hZ hw 51) (own_m hZ hw 50) (by decide) (backOf (W := 1) (rmLen l Z a0 hw [] a1 cs t kt (4 : Int32) ([(.int y0), (.int y1), (.int y2), (.int y3)]) h0 n0 Z0 SC hcs E1 C1 W1 V1) hZ (own_i hw 52 rfl) (own_i hw 10 rfl) (by decide) (by decide)) q106a q106c (g := (mkF m 4 #[rv a1, iv 2] [(.ref a1), (.int 2)])) rfl (by rw [hml]; rfl) (Steps.refl _) (argsL := []) (rest := [(.int 2)]) (lenOf pd_15 rfl) rfl (Nat.le_of_eq rfl) (hb hby d11_4) (fun _ _ => ⟨rfl, e105, (by decide : 0 + 0 ≤ _), (by decide : 0 + 0 ≤ _)⟩)
  dsimp only [Pt.U, Pt.locs, Pt.cells, Pt.slots] at X106 l106 y106 z106 st106 hQ106
  subst l106 y106 z106
  obtain ⟨rfl, N106q, e106⟩ := hQ106
  have N106 := Fr.app N105 N106q
  obtain ⟨cq107, kq107, q107a, q107b, q107c⟩ := isOf hZ e106 E1
  obtain ⟨_, _, ⟨T107, L107, k107, n107⟩, -, X107, ⟨Lc107, hQ107, l107, y107, z107⟩, st107⟩ := X106.virtualBack hx (y := own_y15) (z := own_y15) hown (own_m hZ hw 87) (own_m hZ hw 88) (notFace_of_selects (args := #[]) (own_m hZ hw 90)) (own_m hZ hw 90) (own_m hZ hw 89) (by decide) (backOf (W := 0) (rmCh l Z a0 hw [] a1 (2 : Int32) cs vF t kt y2 (4 : Int32) ([(.int y0), (.int y1), (.int y2), (.int y3)]) h0 n0 Z0 SC hcs SF hF E1 C1 W1 V1 (by first | assumption | rfl | decide | omega | simp_all) (by first | assumption | rfl | decide | omega | simp_all) rfl) hZ (own_i hw 91 rfl) (own_i hw 10 rfl) (by decide) (by decide)) q107a q107c (g := (mkF m 14 #[rv a1, iv 2] [(.int 2), (.ref a1)])) rfl (by rw [hml]; rfl) (Steps.refl _) (argsL := [(.int 2)]) (rest := []) (lenOf pd_4 rfl) rfl (Nat.le_of_eq rfl) (hb hby d11_14) (fun _ _ => ⟨rfl, e106, (by decide : 0 + 0 ≤ _), (by decide : 0 + 0 ≤ _)⟩)
  dsimp only [Pt.U, Pt.locs, Pt.cells, Pt.slots] at X107 l107 y107 z107 st107 hQ107
  subst l107 y107 z107
  obtain ⟨rfl, N107q, e107⟩ := hQ107
  have N107 := Fr.app N106 N107q
  obtain ⟨cq108, kq108, q108a, q108b, q108c⟩ := isOf hZ e107 E1
  obtain ⟨_, _, ⟨T108, L108, k108, n108⟩, -, X108, ⟨Lc108, hQ108, l108, y108, z108⟩, st108⟩ := X107.virtualBack hx (y := own_y11) (z := own_y11) hown (own_m hZ hw 48) (own_m hZ hw 49) (notFace_of_selects (args := #[]) (own_m hZ hw 51)) (own_m hZ hw 51) (own_m hZ hw 50) (by decide) (backOf (W := 1) (rmLen l Z a0 hw [] a1 cs t kt (4 : Int32) ([(.int y0), (.int y1), (.int y2), (.int y3)]) h0 n0 Z0 SC hcs E1 C1 W1 V1) hZ (own_i hw 52 rfl) (own_i hw 10 rfl) (by decide) (by decide)) q108a q108c (g := (mkF m 4 #[rv a1, iv 3] [(.ref a1), (.int 3)])) rfl (by rw [hml]; rfl) (Steps.refl _) (argsL := []) (rest := [(.int 3)]) (lenOf pd_15 rfl) rfl (Nat.le_of_eq rfl) (hb hby d11_4) (fun _ _ => ⟨rfl, e107, (by decide : 0 + 0 ≤ _), (by decide : 0 + 0 ≤ _)⟩)
  dsimp only [Pt.U, Pt.locs, Pt.cells, Pt.slots] at X108 l108 y108 z108 st108 hQ108
  subst l108 y108 z108
  obtain ⟨rfl, N108q, e108⟩ := hQ108
  have N108 := Fr.app N107 N108q
  obtain ⟨cq109, kq109, q109a, q109b, q109c⟩ := isOf hZ e108 E1
  obtain ⟨_, _, ⟨T109, L109, k109, n109⟩, -, X109, ⟨Lc109, hQ109, l109, y109, z109⟩, st109⟩ := X108.virtualBack hx (y := own_y25) (z := own_y25) hown (own_m hZ hw 58) (own_m hZ hw 59) (notFace_of_selects (args := #[]) (own_m hZ hw 61)) (own_m hZ hw 61) (own_m hZ hw 60) (by decide) (backOf (W := 0) (rmS1_4_3 l Z a0 hw [] a1 cs vF t kt y0 y1 y2 y3 h0 n0 Z0 SC hcs SF hF E1 C1 W1 V1) hZ (own_i hw 62 rfl) (own_i hw 10 rfl) (by decide) (by decide)) q109a q109c (g := (mkF m 30 #[rv a1, iv 3] [(.int 3), (.ref a1)])) rfl (by rw [hml]; rfl) (Steps.refl _) (argsL := [(.int 3)]) (rest := []) (lenOf pd_19 rfl) rfl (Nat.le_of_eq rfl) (hb hby d11_30) (fun _ _ => ⟨rfl, e108, (by decide : 0 + 2 ≤ _), (by decide : 0 + 5 ≤ _)⟩)
  dsimp only [Pt.U, Pt.locs, Pt.cells, Pt.slots] at X109 l109 y109 z109 st109 hQ109
  subst l109 y109 z109
  obtain ⟨b110, b111, x112, rfl, N109q, K109, f113, f114, f115, f116, f117, f118, f119, f120⟩ := hQ109
  have N109 := Fr.app N108 N109q
  have ne121 : a1 ≠ b110 := Nat.ne_of_lt (Nat.lt_of_lt_of_le E1.lt f114)
  have ne122 : t ≠ b110 := Nat.ne_of_lt (Nat.lt_of_lt_of_le V1.lt f114)
  have ne123 : a1 ≠ b111 := Nat.ne_of_lt (Nat.lt_of_lt_of_le E1.lt f119)
  have ne124 : t ≠ b111 := Nat.ne_of_lt (Nat.lt_of_lt_of_le V1.lt f119)
  have f125 := Nat.le_trans Z0 K109.1
  have f126 := E1.keep K109
  have f127 := C1.keep K109 nin0
  have f128 := W1.keep K109 nin0
  have f129 := V1.keep K109 nin0
  have f130 := f101.trans K109 all0
  have pre131 : own_P p e below s₁ (entryFrame m #[(.ref a1)] 2) T109 (mkF m 33 #[rv a1, iv 3] [(.ref b110)]) := fun t k => pre0 t (by
    show Steps p.tables e below (s₁.setTop (mkF m 0 #[rv a1, .unset] [])) t
    refine XS.iconst X0.here hx rfl (hb hby d11_0) ?_
    refine XS.istoreN X0.here hx rfl (hb hby d11_1) rfl (l' := #[rv a1, iv 0]) rfl ?_
    refine XS.iloadN X0.here hx rfl (hb hby d11_2) rfl ?_
    refine XS.aloadN X0.here hx rfl (hb hby d11_3) rfl rfl ?_
    refine st102.trans ?_
    refine XS.iconst X102.here hx rfl (hb hby d11_7) ?_
    refine XS.isub X102.here hx rfl (hb hby d11_8) rfl ?_
    refine XS.icmpNo X102.here hx rfl (hb hby d11_9) rfl (tlt (by decide : (0 : Int32) < (3 : Int32))).2.1 ?_
    refine XS.aloadN X102.here hx rfl (hb hby d11_12) rfl rfl ?_
    refine XS.iloadN X102.here hx rfl (hb hby d11_13) rfl ?_
    refine st103.trans ?_
    refine XS.bipush X103.here hx rfl (hb hby d11_17) ?_
    refine XS.icmpNo X103.here hx rfl (hb hby d11_19) rfl (teq hz0).2 ?_
    refine XS.iinc X103.here hx rfl (hb hby d11_22) rfl (l' := #[rv a1, iv 1]) rfl ?_
    refine XS.goto X103.here hx rfl (pc0 := 25) (pc' := 2) rfl (hb hby d11_25) (by decide) (by decide) ?_
    refine XS.iloadN X103.here hx rfl (hb hby d11_2) rfl ?_
    refine XS.aloadN X103.here hx rfl (hb hby d11_3) rfl rfl ?_
    refine st104.trans ?_
    refine XS.iconst X104.here hx rfl (hb hby d11_7) ?_
    refine XS.isub X104.here hx rfl (hb hby d11_8) rfl ?_
    refine XS.icmpNo X104.here hx rfl (hb hby d11_9) rfl (tlt (by decide : (1 : Int32) < (3 : Int32))).2.1 ?_
    refine XS.aloadN X104.here hx rfl (hb hby d11_12) rfl rfl ?_
    refine XS.iloadN X104.here hx rfl (hb hby d11_13) rfl ?_
    refine st105.trans ?_
    refine XS.bipush X105.here hx rfl (hb hby d11_17) ?_
    show Steps p.tables e below (T105.setTop (mkF m 19 #[rv a1, iv 1] [(.int 48), (.int (own_cat y1))])) t
    refine XS.icmpNo X105.here hx rfl (hb hby d11_19) rfl (teq hz1).2 ?_
    refine XS.iinc X105.here hx rfl (hb hby d11_22) rfl (l' := #[rv a1, iv 2]) rfl ?_
    refine XS.goto X105.here hx rfl (pc0 := 25) (pc' := 2) rfl (hb hby d11_25) (by decide) (by decide) ?_
    refine XS.iloadN X105.here hx rfl (hb hby d11_2) rfl ?_
    refine XS.aloadN X105.here hx rfl (hb hby d11_3) rfl rfl ?_
    refine st106.trans ?_
    refine XS.iconst X106.here hx rfl (hb hby d11_7) ?_
    refine XS.isub X106.here hx rfl (hb hby d11_8) rfl ?_
    refine XS.icmpNo X106.here hx rfl (hb hby d11_9) rfl (tlt (by decide : (2 : Int32) < (3 : Int32))).2.1 ?_
    refine XS.aloadN X106.here hx rfl (hb hby d11_12) rfl rfl ?_
    refine XS.iloadN X106.here hx rfl (hb hby d11_13) rfl ?_
    refine st107.trans ?_
    refine XS.bipush X107.here hx rfl (hb hby d11_17) ?_
    refine XS.icmpNo X107.here hx rfl (hb hby d11_19) rfl (teq hz2).2 ?_
    refine XS.iinc X107.here hx rfl (hb hby d11_22) rfl (l' := #[rv a1, iv 3]) rfl ?_
    refine XS.goto X107.here hx rfl (pc0 := 25) (pc' := 2) rfl (hb hby d11_25) (by decide) (by decide) ?_
    refine XS.iloadN X107.here hx rfl (hb hby d11_2) rfl ?_
    refine XS.aloadN X107.here hx rfl (hb hby d11_3) rfl rfl ?_
    refine st108.trans ?_
    refine XS.iconst X108.here hx rfl (hb hby d11_7) ?_
    refine XS.isub X108.here hx rfl (hb hby d11_8) rfl ?_
    refine XS.icmpYes X108.here hx rfl (pc0 := 9) (pc' := 28) rfl (hb hby d11_9) rfl (flt (by decide : ¬ ((3 : Int32) < (3 : Int32)))).2.1 (by decide) (by decide) ?_
    refine XS.aloadN X108.here hx rfl (hb hby d11_28) rfl rfl ?_
    refine XS.iloadN X108.here hx rfl (hb hby d11_29) rfl ?_
    refine st109.trans ?_
    exact k)
  obtain ⟨fs, hr, hrun, hended, hW, hsame⟩ := X109.leave (v := some (.ref b110)) (fun h => by rw [Bd.returns] at h; cases h)
  refine ⟨_, _, pre131 _ ?_, hrun, hended, _, _, rfl, ?_, ⟨_, rfl⟩, hW, hsame.mono (by decide) (by decide)⟩
  · exact retOut X109 hx Bd.returns rfl (Or.inr (Or.inr (Or.inr (Or.inr ⟨rfl, rfl, rfl⟩)))) (hb hby d11_33) hr
  · show QK_4_3 Z a1 cs vF t kt y0 y1 y2 y3 h0 n0 _ T109.heap _
    exact ⟨b110, b111, x112, rfl, N109, f130, f113, f114, f115, f116, f117, f118, f119, f120⟩
theorem ef_rmLe_1 (m : MethodId) (x0 : Addr) (x1 : Addr) : entryFrame m #[(.ref x0), (.ref x1)] 3 = mkF m 0 #[rv x0, rv x1, .unset] [] := by first | (simp [entryFrame, mkF, argsToLocals, Value.category]; done) | rfl
def QLe_1 (Z : State) (a1 : Addr) (a2 : Addr) (k1 : ClassId) (k2 : ClassId) (y0 : Int32) (h0 : Heap) (n0 : Nat) (v : Option Value) (h : Heap) (L : List Loc) : Prop := v = some (.int 1) ∧ Fr n0 L ∧ h = h0
set_option maxRecDepth 65536 in
set_option maxHeartbeats 40000000 in
theorem rmLe_1 (l : Launch) (Z : State) (a0 : Array Value) (hw : ∀ d ∈ tables_1, d.before a0 Z = true) (ws : List Jvm.Cond) (a1 : Addr) (a2 : Addr) (k1 : ClassId) (k2 : ClassId) (y0 : Int32) (h0 : Heap) (n0 : Nat) (Z0 : n0 ≤ h0.size) (V1 : Arv Z h0 a1 k1 .byte (1 : Int32) [(.int y0)] (.int 0)) (V2 : Arv Z h0 a2 k2 .byte (1 : Int32) [(.int y0)] (.int 0)) :
    own_M l own_y27 jdk_43_method_13_code 3 (some .boolean) ws (own_R 0 0 0 0) Z h0 #[(.ref a1), (.ref a2)] (QLe_1 Z a1 a2 k1 k2 y0 h0 n0) := by
  refine MetFree.of_bodySF (plainFor_of_name pn_java_lang_StringLatin1) hisR ?_
  intro p e s m args below meth c s₁ Bd hml0 hP hK
  obtain ⟨rfl, hZ, hh⟩ := hP
  have hx := Bd.exec
  have hby := Bd.bytes
  have hml : c.maxLocals = 3 := hml0
  have hown : s.vm.findClass "java/lang/StringLatin1" = some m.cls := findClass_of_methodNamed Bd.named
  have hnm := (name_of_methodNamed Bd.named Bd.method).1
  have X0 : Stand p l e (own_R 0 0 0 0) s m #[(.ref a1), (.ref a2)] below meth c s₁ [] 0 0 := Stand.of_body Bd
  have e0 : s₁.heap = h0 := by rw [← hh, Bd.state]; rfl
  have N0 := Fr.nil n0
  have pre0 : own_P p e below s₁ (entryFrame m #[(.ref a1), (.ref a2)] 3) s₁ (mkF m 0 #[rv a1, rv a2, .unset] []) := fun t k => castTop (ef_rmLe_1 m a1 a2) k
  obtain ⟨cl101, Ar101, q101, S101, N101z, H101, G101⟩ := (id V1)
  obtain ⟨cl102, Ar102, q102, S102, N102z, H102, G102⟩ := (id V2)
  obtain ⟨cl103, Ar103, q103, S103, N103z, H103, G103⟩ := (id V1)
  obtain ⟨cl104, Ar104, q104, S104, N104z, H104, G104⟩ := (id V1)
  have hin104 : ¬ ((0 : Int32) < 0 ∨ cl104.slots.size ≤ ((0 : Int32)).toNatClampNeg) := inb_of S104 ⟨by decide, by decide⟩
  have hat104 : cl104.slots[((0 : Int32)).toNatClampNeg]? = some (.int y0) := Has.at H104 hin104 rfl
  obtain ⟨cl105, Ar105, q105, S105, N105z, H105, G105⟩ := (id V2)
  have hin105 : ¬ ((0 : Int32) < 0 ∨ cl105.slots.size ≤ ((0 : Int32)).toNatClampNeg) := inb_of S105 ⟨by decide, by decide⟩
  have hat105 : cl105.slots[((0 : Int32)).toNatClampNeg]? = some (.int y0) := Has.at H105 hin105 rfl
  obtain ⟨cl106, Ar106, q106, S106, N106z, H106, G106⟩ := (id V1)
  have pre107 : own_P p e below s₁ (entryFrame m #[(.ref a1), (.ref a2)] 3) s₁ (mkF m 33 #[rv a1, rv a2, iv 1] [(.int 1)]) := fun t k => pre0 t (by
    show Steps p.tables e below (s₁.setTop (mkF m 0 #[rv a1, rv a2, .unset] [])) t
    refine XS.aloadN X0.here hx rfl (hb hby d19_0) rfl rfl ?_
    refine X0.arraylength hx (by rw [e0]; exact Ar101.1) (State.isArrayOf_alike hZ.alike Ar101.2.1) (g := (mkF m 1 #[rv a1, rv a2, .unset] [(.ref a1)])) rfl rfl (hb hby d19_1) _ ?_
    rw [len_of S101 N101z]
    refine XS.aloadN X0.here hx rfl (hb hby d19_2) rfl rfl ?_
    refine X0.arraylength hx (by rw [e0]; exact Ar102.1) (State.isArrayOf_alike hZ.alike Ar102.2.1) (g := (mkF m 3 #[rv a1, rv a2, .unset] [(.ref a2), (.int 1)])) rfl rfl (hb hby d19_3) _ ?_
    rw [len_of S102 N102z]
    refine XS.icmpNo X0.here hx rfl (hb hby d19_4) rfl (teq (by decide : (1 : Int32) = (1 : Int32))).2 ?_
    refine XS.iconst X0.here hx rfl (hb hby d19_7) ?_
    refine XS.istoreN X0.here hx rfl (hb hby d19_8) rfl (l' := #[rv a1, rv a2, iv 0]) rfl ?_
    refine XS.iloadN X0.here hx rfl (hb hby d19_9) rfl ?_
    refine XS.aloadN X0.here hx rfl (hb hby d19_10) rfl rfl ?_
    refine X0.arraylength hx (by rw [e0]; exact Ar103.1) (State.isArrayOf_alike hZ.alike Ar103.2.1) (g := (mkF m 11 #[rv a1, rv a2, iv 0] [(.ref a1), (.int 0)])) rfl rfl (hb hby d19_11) _ ?_
    rw [len_of S103 N103z]
    refine XS.icmpNo X0.here hx rfl (hb hby d19_12) rfl (tlt (by decide : (0 : Int32) < (1 : Int32))).2.1 ?_
    refine XS.aloadN X0.here hx rfl (hb hby d19_15) rfl rfl ?_
    refine XS.iloadN X0.here hx rfl (hb hby d19_16) rfl ?_
    refine X0.baloadBytes hx (j := (0 : Int32)) (v := (.int y0)) (by rw [e0]; exact Ar104.1) (State.isArrayOf_alike hZ.alike Ar104.2.1) Ar104.2.2 hin104 hat104 (g := (mkF m 17 #[rv a1, rv a2, iv 0] [(.int 0), (.ref a1)])) rfl rfl (hb hby d19_17) _ ?_
    refine XS.aloadN X0.here hx rfl (hb hby d19_18) rfl rfl ?_
    refine XS.iloadN X0.here hx rfl (hb hby d19_19) rfl ?_
    refine X0.baloadBytes hx (j := (0 : Int32)) (v := (.int y0)) (by rw [e0]; exact Ar105.1) (State.isArrayOf_alike hZ.alike Ar105.2.1) Ar105.2.2 hin105 hat105 (g := (mkF m 20 #[rv a1, rv a2, iv 0] [(.int 0), (.ref a2), (.int y0)])) rfl rfl (hb hby d19_20) _ ?_
    refine XS.icmpYes X0.here hx rfl (pc0 := 21) (pc' := 26) rfl (hb hby d19_21) rfl (teq (rfl : y0 = y0)).1 (by decide) (by decide) ?_
    refine XS.iinc X0.here hx rfl (hb hby d19_26) rfl (l' := #[rv a1, rv a2, iv 1]) rfl ?_
    refine XS.goto X0.here hx rfl (pc0 := 29) (pc' := 9) rfl (hb hby d19_29) (by decide) (by decide) ?_
    refine XS.iloadN X0.here hx rfl (hb hby d19_9) rfl ?_
    refine XS.aloadN X0.here hx rfl (hb hby d19_10) rfl rfl ?_
    refine X0.arraylength hx (by rw [e0]; exact Ar106.1) (State.isArrayOf_alike hZ.alike Ar106.2.1) (g := (mkF m 11 #[rv a1, rv a2, iv 1] [(.ref a1), (.int 1)])) rfl rfl (hb hby d19_11) _ ?_
    rw [len_of S106 N106z]
    refine XS.icmpYes X0.here hx rfl (pc0 := 12) (pc' := 32) rfl (hb hby d19_12) rfl (flt (by decide : ¬ ((1 : Int32) < (1 : Int32)))).2.1 (by decide) (by decide) ?_
    refine XS.iconst X0.here hx rfl (hb hby d19_32) ?_
    exact k)
  obtain ⟨fs, hr, hrun, hended, hW, hsame⟩ := X0.leave (v := some (.int 1)) (fun h => by rw [Bd.returns] at h; cases h)
  refine ⟨_, _, pre107 _ ?_, hrun, hended, _, _, rfl, ?_, ⟨_, rfl⟩, hW, hsame.mono (by decide) (by decide)⟩
  · exact retN X0 hx (t := .boolean) Bd.returns (by simp) (hb hby d19_33) hr
  · show QLe_1 Z a1 a2 k1 k2 y0 h0 n0 _ s₁.heap _
    rw [e0]
    exact ⟨rfl, N0, rfl⟩
theorem pd_20 : parseMethodDescriptor "([B[B)Z" = some ⟨[(.array .byte), (.array .byte)], some .boolean⟩ := by decide +kernel
theorem ef_rmEq_1 (m : MethodId) (x0 : Addr) (x1 : Addr) : entryFrame m #[(.ref x0), (.ref x1)] 3 = mkF m 0 #[rv x0, rv x1, .unset] [] := by first | (simp [entryFrame, mkF, argsToLocals, Value.category]; done) | rfl
def QEq_1 (Z : State) (a1 : Addr) (a2 : Addr) (cs : Int32) (t1 : Addr) (t2 : Addr) (k1 : ClassId) (k2 : ClassId) (y0 : Int32) (h0 : Heap) (n0 : Nat) (v : Option Value) (h : Heap) (L : List Loc) : Prop := v = some (.int 1) ∧ Fr n0 L ∧ h = h0
set_option maxRecDepth 65536 in
set_option maxHeartbeats 40000000 in
theorem rmEq_1 (l : Launch) (Z : State) (a0 : Array Value) (hw : ∀ d ∈ tables_1, d.before a0 Z = true) (ws : List Jvm.Cond) (a1 : Addr) (a2 : Addr) (cs : Int32) (t1 : Addr) (t2 : Addr) (k1 : ClassId) (k2 : ClassId) (y0 : Int32) (h0 : Heap) (n0 : Nat) (Z0 : n0 ≤ h0.size) (E2 : Exa Z h0 a2 "java/lang/String") (SC : Sta Z h0 "java/lang/String" "COMPACT_STRINGS" "Z" (.int cs)) (hcs : ¬ (cs = (0 : Int32))) (C1 : Fld Z h0 a1 "java/lang/String" "coder" "B" (.int 0)) (C2 : Fld Z h0 a2 "java/lang/String" "coder" "B" (.int 0)) (W1 : Fld Z h0 a1 "java/lang/String" "value" "[B" (.ref t1)) (W2 : Fld Z h0 a2 "java/lang/String" "value" "[B" (.ref t2)) (V1 : Arv Z h0 t1 k1 .byte (1 : Int32) [(.int y0)] (.int 0)) (V2 : Arv Z h0 t2 k2 .byte (1 : Int32) [(.int y0)] (.int 0)) :
    own_M l own_y28 jdk_42_method_66_code 3 (some .boolean) ws (own_R 1 0 0 14) Z h0 #[(.ref a1), (.ref a2)] (QEq_1 Z a1 a2 cs t1 t2 k1 k2 y0 h0 n0) := by
  refine MetFree.of_bodySF (plainFor_of_name pn_java_lang_String) hisR ?_
  intro p e s m args below meth c s₁ Bd hml0 hP hK
  obtain ⟨rfl, hZ, hh⟩ := hP
  have hx := Bd.exec
  have hby := Bd.bytes
  have hml : c.maxLocals = 3 := hml0
  have hown : s.vm.findClass "java/lang/String" = some m.cls := findClass_of_methodNamed Bd.named
  have hnm := (name_of_methodNamed Bd.named Bd.method).1
  have X0 : Stand p l e (own_R 1 0 0 14) s m #[(.ref a1), (.ref a2)] below meth c s₁ [] 0 0 := Stand.of_body Bd
  have e0 : s₁.heap = h0 := by rw [← hh, Bd.state]; rfl
  have N0 := Fr.nil n0
  have pre0 : own_P p e below s₁ (entryFrame m #[(.ref a1), (.ref a2)] 3) s₁ (mkF m 0 #[rv a1, rv a2, .unset] []) := fun t k => castTop (ef_rmEq_1 m a1 a2) k
  have pre102 : own_P p e below s₁ (entryFrame m #[(.ref a1), (.ref a2)] 3) s₁ (mkF m 2 #[rv a1, rv a2, .unset] [(.ref a2), (.ref a1)]) := fun t k => pre0 t (by
    show Steps p.tables e below (s₁.setTop (mkF m 0 #[rv a1, rv a2, .unset] [])) t
    refine XS.aloadN X0.here hx rfl (hb hby d18_0) rfl rfl ?_
    refine XS.aloadN X0.here hx rfl (hb hby d18_1) rfl rfl ?_
    exact k)
  by_cases hc101 : a1 = a2
  · have pre103 : own_P p e below s₁ (entryFrame m #[(.ref a1), (.ref a2)] 3) s₁ (mkF m 6 #[rv a1, rv a2, .unset] [(.int 1)]) := fun t k => pre102 t (by
      refine Jvm.RoadKit.acmp (g := (mkF m 2 #[rv a1, rv a2, .unset] [(.ref a2), (.ref a1)])) X0 hx rfl rfl rfl (pc0 := 2) (pc' := 5) (same := true) rfl (hb hby d18_2) rfl (decide_eq_true (congrArg Value.ref hc101)) (by decide) (by decide) ?_
      refine XS.iconst X0.here hx rfl (hb hby d18_5) ?_
      exact k)
    obtain ⟨fs, hr, hrun, hended, hW, hsame⟩ := X0.leave (v := some (.int 1)) (fun h => by rw [Bd.returns] at h; cases h)
    refine ⟨_, _, pre103 _ ?_, hrun, hended, _, _, rfl, ?_, ⟨_, rfl⟩, hW, hsame.mono (by decide) (by decide)⟩
    · exact retN X0 hx (t := .boolean) Bd.returns (by simp) (hb hby d18_6) hr
    · show QEq_1 Z a1 a2 cs t1 t2 k1 k2 y0 h0 n0 _ s₁.heap _
      rw [e0]
      exact ⟨rfl, N0, rfl⟩
  · obtain ⟨T104, X104, e104, st104⟩ := instY X0 hx hZ hown (own_i hw 82 rfl) e0 (Ins.self E2) (g := (mkF m 8 #[rv a1, rv a2, .unset] [(.ref a2)])) rfl rfl (hb hby d18_8)
    obtain ⟨T105, X105, e105, st105⟩ := castY X104 hx hZ hown (own_i hw 82 rfl) e104 (Ins.self E2) (g := (mkF m 15 #[rv a1, rv a2, .unset] [(.ref a2)])) rfl rfl (hb hby d18_15)
    obtain ⟨T106, X106, e106, st106⟩ := getS2 X105 hx hZ hown (host := "") (Or.inl (own_i hw 25 rfl)) Via.refl e105 SC (g := (mkF m 19 #[rv a1, rv a2, rv a2] [])) rfl (hb hby d18_19)
    obtain ⟨T107, X107, e107, st107⟩ := getF X106 hx hZ hown (host := "") (Or.inl (own_i hw 37 rfl)) Via.refl e106 C1 (g := (mkF m 26 #[rv a1, rv a2, rv a2] [(.ref a1)])) rfl rfl (hb hby d18_26)
    obtain ⟨T108, X108, e108, st108⟩ := getF X107 hx hZ hown (host := "") (Or.inl (own_i hw 37 rfl)) Via.refl e107 C2 (g := (mkF m 30 #[rv a1, rv a2, rv a2] [(.ref a2), (.int 0)])) rfl rfl (hb hby d18_30)
    obtain ⟨T109, X109, e109, st109⟩ := getF X108 hx hZ hown (host := "") (Or.inl (own_i hw 39 rfl)) Via.refl e108 W1 (g := (mkF m 37 #[rv a1, rv a2, rv a2] [(.ref a1)])) rfl rfl (hb hby d18_37)
    obtain ⟨T110, X110, e110, st110⟩ := getF X109 hx hZ hown (host := "") (Or.inl (own_i hw 39 rfl)) Via.refl e109 W2 (g := (mkF m 41 #[rv a1, rv a2, rv a2] [(.ref a2), (.ref t1)])) rfl rfl (hb hby d18_41)
    obtain ⟨_, _, ⟨T111, L111, k111, n111⟩, -, X111, ⟨Lc111, hQ111, l111, y111, z111⟩, st111⟩ := Jvm.LawKit.callS X110 hx (y := own_y27) hown (own_m hZ hw 83) (own_m hZ hw 84) (own_m hZ hw 85) (own_m hZ hw 86) (by decide) (backOf (W := 0) (rmLe_1 l Z a0 hw [] t1 t2 k1 k2 y0 h0 n0 Z0 V1 V2) hZ (own_i hw 86 rfl) (own_i hw 85 rfl) (by decide) (by decide)) (g := (mkF m 44 #[rv a1, rv a2, rv a2] [(.ref t2), (.ref t1)])) rfl (by rw [hml]; rfl) (argsL := [(.ref t1), (.ref t2)]) (rest := []) (lenOf pd_20 rfl) rfl (Nat.le_of_eq rfl) (hb hby d18_44) (fun _ _ => ⟨rfl, e110, (by decide : 0 + 0 ≤ _), (by decide : 0 + 0 ≤ _)⟩)
    dsimp only [Pt.U, Pt.locs, Pt.cells, Pt.slots] at X111 l111 y111 z111 st111 hQ111
    subst l111 y111 z111
    obtain ⟨rfl, N111q, e111⟩ := hQ111
    have N111 := Fr.app N0 N111q
    have pre112 : own_P p e below s₁ (entryFrame m #[(.ref a1), (.ref a2)] 3) T111 (mkF m 55 #[rv a1, rv a2, rv a2] [(.int 1)]) := fun t k => pre102 t (by
      refine Jvm.RoadKit.acmp (g := (mkF m 2 #[rv a1, rv a2, .unset] [(.ref a2), (.ref a1)])) X0 hx rfl rfl rfl (pc0 := 2) (pc' := 7) (same := false) rfl (hb hby d18_2) rfl (decide_eq_false fun q => hc101 (Value.ref.inj q)) (by decide) (by decide) ?_
      refine XS.aloadN X0.here hx rfl (hb hby d18_7) rfl rfl ?_
      refine st104 _ ?_
      refine XS.ifNo X104.here hx rfl (hb hby d18_11) rfl ((if0 _ _).trans (feq (by decide : ¬ ((1 : Int32) = (0 : Int32)))).1) ?_
      refine XS.aloadN X104.here hx rfl (hb hby d18_14) rfl rfl ?_
      refine st105 _ ?_
      refine XS.astoreN X105.here hx rfl (hb hby d18_18) rfl rfl (l' := #[rv a1, rv a2, rv a2]) rfl ?_
      refine st106 _ ?_
      refine XS.ifNo X106.here hx rfl (hb hby d18_22) rfl ((if0 _ _).trans (feq hcs).1) ?_
      refine XS.aloadN X106.here hx rfl (hb hby d18_25) rfl rfl ?_
      refine st107 _ ?_
      refine XS.aloadN X107.here hx rfl (hb hby d18_29) rfl rfl ?_
      refine st108 _ ?_
      refine XS.icmpNo X108.here hx rfl (hb hby d18_33) rfl (teq (by decide : (0 : Int32) = (0 : Int32))).2 ?_
      refine XS.aloadN X108.here hx rfl (hb hby d18_36) rfl rfl ?_
      refine st109 _ ?_
      refine XS.aloadN X109.here hx rfl (hb hby d18_40) rfl rfl ?_
      refine st110 _ ?_
      refine st111 _ ?_
      refine XS.ifNo X111.here hx rfl (hb hby d18_47) rfl ((if0 _ _).trans (feq (by decide : ¬ ((1 : Int32) = (0 : Int32)))).1) ?_
      refine XS.iconst X111.here hx rfl (hb hby d18_50) ?_
      refine XS.goto X111.here hx rfl (pc0 := 51) (pc' := 55) rfl (hb hby d18_51) (by decide) (by decide) ?_
      exact k)
    obtain ⟨fs, hr, hrun, hended, hW, hsame⟩ := X111.leave (v := some (.int 1)) (fun h => by rw [Bd.returns] at h; cases h)
    refine ⟨_, _, pre112 _ ?_, hrun, hended, _, _, rfl, ?_, ⟨_, rfl⟩, hW, hsame.mono (by decide) (by decide)⟩
    · exact retN X111 hx (t := .boolean) Bd.returns (by simp) (hb hby d18_55) hr
    · show QEq_1 Z a1 a2 cs t1 t2 k1 k2 y0 h0 n0 _ T111.heap _
      rw [e111]
      exact ⟨rfl, N111, rfl⟩
theorem ef_rmLe_2 (m : MethodId) (x0 : Addr) (x1 : Addr) : entryFrame m #[(.ref x0), (.ref x1)] 3 = mkF m 0 #[rv x0, rv x1, .unset] [] := by first | (simp [entryFrame, mkF, argsToLocals, Value.category]; done) | rfl
def QLe_2 (Z : State) (a1 : Addr) (a2 : Addr) (k1 : ClassId) (k2 : ClassId) (y0 : Int32) (y1 : Int32) (h0 : Heap) (n0 : Nat) (v : Option Value) (h : Heap) (L : List Loc) : Prop := v = some (.int 1) ∧ Fr n0 L ∧ h = h0
set_option maxRecDepth 65536 in
set_option maxHeartbeats 40000000 in
theorem rmLe_2 (l : Launch) (Z : State) (a0 : Array Value) (hw : ∀ d ∈ tables_1, d.before a0 Z = true) (ws : List Jvm.Cond) (a1 : Addr) (a2 : Addr) (k1 : ClassId) (k2 : ClassId) (y0 : Int32) (y1 : Int32) (h0 : Heap) (n0 : Nat) (Z0 : n0 ≤ h0.size) (V1 : Arv Z h0 a1 k1 .byte (2 : Int32) [(.int y0), (.int y1)] (.int 0)) (V2 : Arv Z h0 a2 k2 .byte (2 : Int32) [(.int y0), (.int y1)] (.int 0)) :
    own_M l own_y27 jdk_43_method_13_code 3 (some .boolean) ws (own_R 0 0 0 0) Z h0 #[(.ref a1), (.ref a2)] (QLe_2 Z a1 a2 k1 k2 y0 y1 h0 n0) := by
  refine MetFree.of_bodySF (plainFor_of_name pn_java_lang_StringLatin1) hisR ?_
  intro p e s m args below meth c s₁ Bd hml0 hP hK
  obtain ⟨rfl, hZ, hh⟩ := hP
  have hx := Bd.exec
  have hby := Bd.bytes
  have hml : c.maxLocals = 3 := hml0
  have hown : s.vm.findClass "java/lang/StringLatin1" = some m.cls := findClass_of_methodNamed Bd.named
  have hnm := (name_of_methodNamed Bd.named Bd.method).1
  have X0 : Stand p l e (own_R 0 0 0 0) s m #[(.ref a1), (.ref a2)] below meth c s₁ [] 0 0 := Stand.of_body Bd
  have e0 : s₁.heap = h0 := by rw [← hh, Bd.state]; rfl
  have N0 := Fr.nil n0
  have pre0 : own_P p e below s₁ (entryFrame m #[(.ref a1), (.ref a2)] 3) s₁ (mkF m 0 #[rv a1, rv a2, .unset] []) := fun t k => castTop (ef_rmLe_2 m a1 a2) k
  obtain ⟨cl101, Ar101, q101, S101, N101z, H101, G101⟩ := (id V1)
  obtain ⟨cl102, Ar102, q102, S102, N102z, H102, G102⟩ := (id V2)
  obtain ⟨cl103, Ar103, q103, S103, N103z, H103, G103⟩ := (id V1)
  obtain ⟨cl104, Ar104, q104, S104, N104z, H104, G104⟩ := (id V1)
  have hin104 : ¬ ((0 : Int32) < 0 ∨ cl104.slots.size ≤ ((0 : Int32)).toNatClampNeg) := inb_of S104 ⟨by decide, by decide⟩
  have hat104 : cl104.slots[((0 : Int32)).toNatClampNeg]? = some (.int y0) := Has.at H104 hin104 rfl
  obtain ⟨cl105, Ar105, q105, S105, N105z, H105, G105⟩ := (id V2)
  have hin105 : ¬ ((0 : Int32) < 0 ∨ cl105.slots.size ≤ ((0 : Int32)).toNatClampNeg) := inb_of S105 ⟨by decide, by decide⟩
  have hat105 : cl105.slots[((0 : Int32)).toNatClampNeg]? = some (.int y0) := Has.at H105 hin105 rfl
  obtain ⟨cl106, Ar106, q106, S106, N106z, H106, G106⟩ := (id V1)
  obtain ⟨cl107, Ar107, q107, S107, N107z, H107, G107⟩ := (id V1)
  have hin107 : ¬ ((1 : Int32) < 0 ∨ cl107.slots.size ≤ ((1 : Int32)).toNatClampNeg) := inb_of S107 ⟨by decide, by decide⟩
  have hat107 : cl107.slots[((1 : Int32)).toNatClampNeg]? = some (.int y1) := Has.at H107 hin107 rfl
  obtain ⟨cl108, Ar108, q108, S108, N108z, H108, G108⟩ := (id V2)
  have hin108 : ¬ ((1 : Int32) < 0 ∨ cl108.slots.size ≤ ((1 : Int32)).toNatClampNeg) := inb_of S108 ⟨by decide, by decide⟩
  have hat108 : cl108.slots[((1 : Int32)).toNatClampNeg]? = some (.int y1) := Has.at H108 hin108 rfl
  obtain ⟨cl109, Ar109, q109, S109, N109z, H109, G109⟩ := (id V1)
  have pre110 : own_P p e below s₁ (entryFrame m #[(.ref a1), (.ref a2)] 3) s₁ (mkF m 33 #[rv a1, rv a2, iv 2] [(.int 1)]) := fun t k => pre0 t (by
    show Steps p.tables e below (s₁.setTop (mkF m 0 #[rv a1, rv a2, .unset] [])) t
    refine XS.aloadN X0.here hx rfl (hb hby d19_0) rfl rfl ?_
    refine X0.arraylength hx (by rw [e0]; exact Ar101.1) (State.isArrayOf_alike hZ.alike Ar101.2.1) (g := (mkF m 1 #[rv a1, rv a2, .unset] [(.ref a1)])) rfl rfl (hb hby d19_1) _ ?_
    rw [len_of S101 N101z]
    refine XS.aloadN X0.here hx rfl (hb hby d19_2) rfl rfl ?_
    refine X0.arraylength hx (by rw [e0]; exact Ar102.1) (State.isArrayOf_alike hZ.alike Ar102.2.1) (g := (mkF m 3 #[rv a1, rv a2, .unset] [(.ref a2), (.int 2)])) rfl rfl (hb hby d19_3) _ ?_
    rw [len_of S102 N102z]
    refine XS.icmpNo X0.here hx rfl (hb hby d19_4) rfl (teq (by decide : (2 : Int32) = (2 : Int32))).2 ?_
    refine XS.iconst X0.here hx rfl (hb hby d19_7) ?_
    refine XS.istoreN X0.here hx rfl (hb hby d19_8) rfl (l' := #[rv a1, rv a2, iv 0]) rfl ?_
    refine XS.iloadN X0.here hx rfl (hb hby d19_9) rfl ?_
    refine XS.aloadN X0.here hx rfl (hb hby d19_10) rfl rfl ?_
    refine X0.arraylength hx (by rw [e0]; exact Ar103.1) (State.isArrayOf_alike hZ.alike Ar103.2.1) (g := (mkF m 11 #[rv a1, rv a2, iv 0] [(.ref a1), (.int 0)])) rfl rfl (hb hby d19_11) _ ?_
    rw [len_of S103 N103z]
    refine XS.icmpNo X0.here hx rfl (hb hby d19_12) rfl (tlt (by decide : (0 : Int32) < (2 : Int32))).2.1 ?_
    refine XS.aloadN X0.here hx rfl (hb hby d19_15) rfl rfl ?_
    refine XS.iloadN X0.here hx rfl (hb hby d19_16) rfl ?_
    refine X0.baloadBytes hx (j := (0 : Int32)) (v := (.int y0)) (by rw [e0]; exact Ar104.1) (State.isArrayOf_alike hZ.alike Ar104.2.1) Ar104.2.2 hin104 hat104 (g := (mkF m 17 #[rv a1, rv a2, iv 0] [(.int 0), (.ref a1)])) rfl rfl (hb hby d19_17) _ ?_
    refine XS.aloadN X0.here hx rfl (hb hby d19_18) rfl rfl ?_
    refine XS.iloadN X0.here hx rfl (hb hby d19_19) rfl ?_
    refine X0.baloadBytes hx (j := (0 : Int32)) (v := (.int y0)) (by rw [e0]; exact Ar105.1) (State.isArrayOf_alike hZ.alike Ar105.2.1) Ar105.2.2 hin105 hat105 (g := (mkF m 20 #[rv a1, rv a2, iv 0] [(.int 0), (.ref a2), (.int y0)])) rfl rfl (hb hby d19_20) _ ?_
    refine XS.icmpYes X0.here hx rfl (pc0 := 21) (pc' := 26) rfl (hb hby d19_21) rfl (teq (rfl : y0 = y0)).1 (by decide) (by decide) ?_
    refine XS.iinc X0.here hx rfl (hb hby d19_26) rfl (l' := #[rv a1, rv a2, iv 1]) rfl ?_
    refine XS.goto X0.here hx rfl (pc0 := 29) (pc' := 9) rfl (hb hby d19_29) (by decide) (by decide) ?_
    refine XS.iloadN X0.here hx rfl (hb hby d19_9) rfl ?_
    refine XS.aloadN X0.here hx rfl (hb hby d19_10) rfl rfl ?_
    refine X0.arraylength hx (by rw [e0]; exact Ar106.1) (State.isArrayOf_alike hZ.alike Ar106.2.1) (g := (mkF m 11 #[rv a1, rv a2, iv 1] [(.ref a1), (.int 1)])) rfl rfl (hb hby d19_11) _ ?_
    rw [len_of S106 N106z]
    refine XS.icmpNo X0.here hx rfl (hb hby d19_12) rfl (tlt (by decide : (1 : Int32) < (2 : Int32))).2.1 ?_
    refine XS.aloadN X0.here hx rfl (hb hby d19_15) rfl rfl ?_
    show Steps p.tables e below (s₁.setTop (mkF m 16 #[rv a1, rv a2, iv 1] [(.ref a1)])) t
    refine XS.iloadN X0.here hx rfl (hb hby d19_16) rfl ?_
    refine X0.baloadBytes hx (j := (1 : Int32)) (v := (.int y1)) (by rw [e0]; exact Ar107.1) (State.isArrayOf_alike hZ.alike Ar107.2.1) Ar107.2.2 hin107 hat107 (g := (mkF m 17 #[rv a1, rv a2, iv 1] [(.int 1), (.ref a1)])) rfl rfl (hb hby d19_17) _ ?_
    refine XS.aloadN X0.here hx rfl (hb hby d19_18) rfl rfl ?_
    refine XS.iloadN X0.here hx rfl (hb hby d19_19) rfl ?_
    refine X0.baloadBytes hx (j := (1 : Int32)) (v := (.int y1)) (by rw [e0]; exact Ar108.1) (State.isArrayOf_alike hZ.alike Ar108.2.1) Ar108.2.2 hin108 hat108 (g := (mkF m 20 #[rv a1, rv a2, iv 1] [(.int 1), (.ref a2), (.int y1)])) rfl rfl (hb hby d19_20) _ ?_
    refine XS.icmpYes X0.here hx rfl (pc0 := 21) (pc' := 26) rfl (hb hby d19_21) rfl (teq (rfl : y1 = y1)).1 (by decide) (by decide) ?_
    refine XS.iinc X0.here hx rfl (hb hby d19_26) rfl (l' := #[rv a1, rv a2, iv 2]) rfl ?_
    refine XS.goto X0.here hx rfl (pc0 := 29) (pc' := 9) rfl (hb hby d19_29) (by decide) (by decide) ?_
    refine XS.iloadN X0.here hx rfl (hb hby d19_9) rfl ?_
    refine XS.aloadN X0.here hx rfl (hb hby d19_10) rfl rfl ?_
    refine X0.arraylength hx (by rw [e0]; exact Ar109.1) (State.isArrayOf_alike hZ.alike Ar109.2.1) (g := (mkF m 11 #[rv a1, rv a2, iv 2] [(.ref a1), (.int 2)])) rfl rfl (hb hby d19_11) _ ?_
    rw [len_of S109 N109z]
    refine XS.icmpYes X0.here hx rfl (pc0 := 12) (pc' := 32) rfl (hb hby d19_12) rfl (flt (by decide : ¬ ((2 : Int32) < (2 : Int32)))).2.1 (by decide) (by decide) ?_
    refine XS.iconst X0.here hx rfl (hb hby d19_32) ?_
    exact k)
  obtain ⟨fs, hr, hrun, hended, hW, hsame⟩ := X0.leave (v := some (.int 1)) (fun h => by rw [Bd.returns] at h; cases h)
  refine ⟨_, _, pre110 _ ?_, hrun, hended, _, _, rfl, ?_, ⟨_, rfl⟩, hW, hsame.mono (by decide) (by decide)⟩
  · exact retN X0 hx (t := .boolean) Bd.returns (by simp) (hb hby d19_33) hr
  · show QLe_2 Z a1 a2 k1 k2 y0 y1 h0 n0 _ s₁.heap _
    rw [e0]
    exact ⟨rfl, N0, rfl⟩
theorem ef_rmEq_2 (m : MethodId) (x0 : Addr) (x1 : Addr) : entryFrame m #[(.ref x0), (.ref x1)] 3 = mkF m 0 #[rv x0, rv x1, .unset] [] := by first | (simp [entryFrame, mkF, argsToLocals, Value.category]; done) | rfl
def QEq_2 (Z : State) (a1 : Addr) (a2 : Addr) (cs : Int32) (t1 : Addr) (t2 : Addr) (k1 : ClassId) (k2 : ClassId) (y0 : Int32) (y1 : Int32) (h0 : Heap) (n0 : Nat) (v : Option Value) (h : Heap) (L : List Loc) : Prop := v = some (.int 1) ∧ Fr n0 L ∧ h = h0
set_option maxRecDepth 65536 in
set_option maxHeartbeats 40000000 in
theorem rmEq_2 (l : Launch) (Z : State) (a0 : Array Value) (hw : ∀ d ∈ tables_1, d.before a0 Z = true) (ws : List Jvm.Cond) (a1 : Addr) (a2 : Addr) (cs : Int32) (t1 : Addr) (t2 : Addr) (k1 : ClassId) (k2 : ClassId) (y0 : Int32) (y1 : Int32) (h0 : Heap) (n0 : Nat) (Z0 : n0 ≤ h0.size) (E2 : Exa Z h0 a2 "java/lang/String") (SC : Sta Z h0 "java/lang/String" "COMPACT_STRINGS" "Z" (.int cs)) (hcs : ¬ (cs = (0 : Int32))) (C1 : Fld Z h0 a1 "java/lang/String" "coder" "B" (.int 0)) (C2 : Fld Z h0 a2 "java/lang/String" "coder" "B" (.int 0)) (W1 : Fld Z h0 a1 "java/lang/String" "value" "[B" (.ref t1)) (W2 : Fld Z h0 a2 "java/lang/String" "value" "[B" (.ref t2)) (V1 : Arv Z h0 t1 k1 .byte (2 : Int32) [(.int y0), (.int y1)] (.int 0)) (V2 : Arv Z h0 t2 k2 .byte (2 : Int32) [(.int y0), (.int y1)] (.int 0)) :
    own_M l own_y28 jdk_42_method_66_code 3 (some .boolean) ws (own_R 1 0 0 14) Z h0 #[(.ref a1), (.ref a2)] (QEq_2 Z a1 a2 cs t1 t2 k1 k2 y0 y1 h0 n0) := by
  refine MetFree.of_bodySF (plainFor_of_name pn_java_lang_String) hisR ?_
  intro p e s m args below meth c s₁ Bd hml0 hP hK
  obtain ⟨rfl, hZ, hh⟩ := hP
  have hx := Bd.exec
  have hby := Bd.bytes
  have hml : c.maxLocals = 3 := hml0
  have hown : s.vm.findClass "java/lang/String" = some m.cls := findClass_of_methodNamed Bd.named
  have hnm := (name_of_methodNamed Bd.named Bd.method).1
  have X0 : Stand p l e (own_R 1 0 0 14) s m #[(.ref a1), (.ref a2)] below meth c s₁ [] 0 0 := Stand.of_body Bd
  have e0 : s₁.heap = h0 := by rw [← hh, Bd.state]; rfl
  have N0 := Fr.nil n0
  have pre0 : own_P p e below s₁ (entryFrame m #[(.ref a1), (.ref a2)] 3) s₁ (mkF m 0 #[rv a1, rv a2, .unset] []) := fun t k => castTop (ef_rmEq_2 m a1 a2) k
  have pre102 : own_P p e below s₁ (entryFrame m #[(.ref a1), (.ref a2)] 3) s₁ (mkF m 2 #[rv a1, rv a2, .unset] [(.ref a2), (.ref a1)]) := fun t k => pre0 t (by
    show Steps p.tables e below (s₁.setTop (mkF m 0 #[rv a1, rv a2, .unset] [])) t
    refine XS.aloadN X0.here hx rfl (hb hby d18_0) rfl rfl ?_
    refine XS.aloadN X0.here hx rfl (hb hby d18_1) rfl rfl ?_
    exact k)
  by_cases hc101 : a1 = a2
  · have pre103 : own_P p e below s₁ (entryFrame m #[(.ref a1), (.ref a2)] 3) s₁ (mkF m 6 #[rv a1, rv a2, .unset] [(.int 1)]) := fun t k => pre102 t (by
      refine Jvm.RoadKit.acmp (g := (mkF m 2 #[rv a1, rv a2, .unset] [(.ref a2), (.ref a1)])) X0 hx rfl rfl rfl (pc0 := 2) (pc' := 5) (same := true) rfl (hb hby d18_2) rfl (decide_eq_true (congrArg Value.ref hc101)) (by decide) (by decide) ?_
      refine XS.iconst X0.here hx rfl (hb hby d18_5) ?_
      exact k)
    obtain ⟨fs, hr, hrun, hended, hW, hsame⟩ := X0.leave (v := some (.int 1)) (fun h => by rw [Bd.returns] at h; cases h)
    refine ⟨_, _, pre103 _ ?_, hrun, hended, _, _, rfl, ?_, ⟨_, rfl⟩, hW, hsame.mono (by decide) (by decide)⟩
    · exact retN X0 hx (t := .boolean) Bd.returns (by simp) (hb hby d18_6) hr
    · show QEq_2 Z a1 a2 cs t1 t2 k1 k2 y0 y1 h0 n0 _ s₁.heap _
      rw [e0]
      exact ⟨rfl, N0, rfl⟩
  · obtain ⟨T104, X104, e104, st104⟩ := instY X0 hx hZ hown (own_i hw 82 rfl) e0 (Ins.self E2) (g := (mkF m 8 #[rv a1, rv a2, .unset] [(.ref a2)])) rfl rfl (hb hby d18_8)
    obtain ⟨T105, X105, e105, st105⟩ := castY X104 hx hZ hown (own_i hw 82 rfl) e104 (Ins.self E2) (g := (mkF m 15 #[rv a1, rv a2, .unset] [(.ref a2)])) rfl rfl (hb hby d18_15)
    obtain ⟨T106, X106, e106, st106⟩ := getS2 X105 hx hZ hown (host := "") (Or.inl (own_i hw 25 rfl)) Via.refl e105 SC (g := (mkF m 19 #[rv a1, rv a2, rv a2] [])) rfl (hb hby d18_19)
    obtain ⟨T107, X107, e107, st107⟩ := getF X106 hx hZ hown (host := "") (Or.inl (own_i hw 37 rfl)) Via.refl e106 C1 (g := (mkF m 26 #[rv a1, rv a2, rv a2] [(.ref a1)])) rfl rfl (hb hby d18_26)
    obtain ⟨T108, X108, e108, st108⟩ := getF X107 hx hZ hown (host := "") (Or.inl (own_i hw 37 rfl)) Via.refl e107 C2 (g := (mkF m 30 #[rv a1, rv a2, rv a2] [(.ref a2), (.int 0)])) rfl rfl (hb hby d18_30)
    obtain ⟨T109, X109, e109, st109⟩ := getF X108 hx hZ hown (host := "") (Or.inl (own_i hw 39 rfl)) Via.refl e108 W1 (g := (mkF m 37 #[rv a1, rv a2, rv a2] [(.ref a1)])) rfl rfl (hb hby d18_37)
    obtain ⟨T110, X110, e110, st110⟩ := getF X109 hx hZ hown (host := "") (Or.inl (own_i hw 39 rfl)) Via.refl e109 W2 (g := (mkF m 41 #[rv a1, rv a2, rv a2] [(.ref a2), (.ref t1)])) rfl rfl (hb hby d18_41)
    obtain ⟨_, _, ⟨T111, L111, k111, n111⟩, -, X111, ⟨Lc111, hQ111, l111, y111, z111⟩, st111⟩ := Jvm.LawKit.callS X110 hx (y := own_y27) hown (own_m hZ hw 83) (own_m hZ hw 84) (own_m hZ hw 85) (own_m hZ hw 86) (by decide) (backOf (W := 0) (rmLe_2 l Z a0 hw [] t1 t2 k1 k2 y0 y1 h0 n0 Z0 V1 V2) hZ (own_i hw 86 rfl) (own_i hw 85 rfl) (by decide) (by decide)) (g := (mkF m 44 #[rv a1, rv a2, rv a2] [(.ref t2), (.ref t1)])) rfl (by rw [hml]; rfl) (argsL := [(.ref t1), (.ref t2)]) (rest := []) (lenOf pd_20 rfl) rfl (Nat.le_of_eq rfl) (hb hby d18_44) (fun _ _ => ⟨rfl, e110, (by decide : 0 + 0 ≤ _), (by decide : 0 + 0 ≤ _)⟩)
    dsimp only [Pt.U, Pt.locs, Pt.cells, Pt.slots] at X111 l111 y111 z111 st111 hQ111
    subst l111 y111 z111
    obtain ⟨rfl, N111q, e111⟩ := hQ111
    have N111 := Fr.app N0 N111q
    have pre112 : own_P p e below s₁ (entryFrame m #[(.ref a1), (.ref a2)] 3) T111 (mkF m 55 #[rv a1, rv a2, rv a2] [(.int 1)]) := fun t k => pre102 t (by
      refine Jvm.RoadKit.acmp (g := (mkF m 2 #[rv a1, rv a2, .unset] [(.ref a2), (.ref a1)])) X0 hx rfl rfl rfl (pc0 := 2) (pc' := 7) (same := false) rfl (hb hby d18_2) rfl (decide_eq_false fun q => hc101 (Value.ref.inj q)) (by decide) (by decide) ?_
      refine XS.aloadN X0.here hx rfl (hb hby d18_7) rfl rfl ?_
      refine st104 _ ?_
      refine XS.ifNo X104.here hx rfl (hb hby d18_11) rfl ((if0 _ _).trans (feq (by decide : ¬ ((1 : Int32) = (0 : Int32)))).1) ?_
      refine XS.aloadN X104.here hx rfl (hb hby d18_14) rfl rfl ?_
      refine st105 _ ?_
      refine XS.astoreN X105.here hx rfl (hb hby d18_18) rfl rfl (l' := #[rv a1, rv a2, rv a2]) rfl ?_
      refine st106 _ ?_
      refine XS.ifNo X106.here hx rfl (hb hby d18_22) rfl ((if0 _ _).trans (feq hcs).1) ?_
      refine XS.aloadN X106.here hx rfl (hb hby d18_25) rfl rfl ?_
      refine st107 _ ?_
      refine XS.aloadN X107.here hx rfl (hb hby d18_29) rfl rfl ?_
      refine st108 _ ?_
      refine XS.icmpNo X108.here hx rfl (hb hby d18_33) rfl (teq (by decide : (0 : Int32) = (0 : Int32))).2 ?_
      refine XS.aloadN X108.here hx rfl (hb hby d18_36) rfl rfl ?_
      refine st109 _ ?_
      refine XS.aloadN X109.here hx rfl (hb hby d18_40) rfl rfl ?_
      refine st110 _ ?_
      refine st111 _ ?_
      refine XS.ifNo X111.here hx rfl (hb hby d18_47) rfl ((if0 _ _).trans (feq (by decide : ¬ ((1 : Int32) = (0 : Int32)))).1) ?_
      refine XS.iconst X111.here hx rfl (hb hby d18_50) ?_
      refine XS.goto X111.here hx rfl (pc0 := 51) (pc' := 55) rfl (hb hby d18_51) (by decide) (by decide) ?_
      exact k)
    obtain ⟨fs, hr, hrun, hended, hW, hsame⟩ := X111.leave (v := some (.int 1)) (fun h => by rw [Bd.returns] at h; cases h)
    refine ⟨_, _, pre112 _ ?_, hrun, hended, _, _, rfl, ?_, ⟨_, rfl⟩, hW, hsame.mono (by decide) (by decide)⟩
    · exact retN X111 hx (t := .boolean) Bd.returns (by simp) (hb hby d18_55) hr
    · show QEq_2 Z a1 a2 cs t1 t2 k1 k2 y0 y1 h0 n0 _ T111.heap _
      rw [e111]
      exact ⟨rfl, N111, rfl⟩
theorem ef_rmLe_3 (m : MethodId) (x0 : Addr) (x1 : Addr) : entryFrame m #[(.ref x0), (.ref x1)] 3 = mkF m 0 #[rv x0, rv x1, .unset] [] := by first | (simp [entryFrame, mkF, argsToLocals, Value.category]; done) | rfl
def QLe_3 (Z : State) (a1 : Addr) (a2 : Addr) (k1 : ClassId) (k2 : ClassId) (y0 : Int32) (y1 : Int32) (y2 : Int32) (h0 : Heap) (n0 : Nat) (v : Option Value) (h : Heap) (L : List Loc) : Prop := v = some (.int 1) ∧ Fr n0 L ∧ h = h0
set_option maxRecDepth 65536 in
set_option maxHeartbeats 40000000 in
theorem rmLe_3 (l : Launch) (Z : State) (a0 : Array Value) (hw : ∀ d ∈ tables_1, d.before a0 Z = true) (ws : List Jvm.Cond) (a1 : Addr) (a2 : Addr) (k1 : ClassId) (k2 : ClassId) (y0 : Int32) (y1 : Int32) (y2 : Int32) (h0 : Heap) (n0 : Nat) (Z0 : n0 ≤ h0.size) (V1 : Arv Z h0 a1 k1 .byte (3 : Int32) [(.int y0), (.int y1), (.int y2)] (.int 0)) (V2 : Arv Z h0 a2 k2 .byte (3 : Int32) [(.int y0), (.int y1), (.int y2)] (.int 0)) :
    own_M l own_y27 jdk_43_method_13_code 3 (some .boolean) ws (own_R 0 0 0 0) Z h0 #[(.ref a1), (.ref a2)] (QLe_3 Z a1 a2 k1 k2 y0 y1 y2 h0 n0) := by
  refine MetFree.of_bodySF (plainFor_of_name pn_java_lang_StringLatin1) hisR ?_
  intro p e s m args below meth c s₁ Bd hml0 hP hK
  obtain ⟨rfl, hZ, hh⟩ := hP
  have hx := Bd.exec
  have hby := Bd.bytes
  have hml : c.maxLocals = 3 := hml0
  have hown : s.vm.findClass "java/lang/StringLatin1" = some m.cls := findClass_of_methodNamed Bd.named
  have hnm := (name_of_methodNamed Bd.named Bd.method).1
  have X0 : Stand p l e (own_R 0 0 0 0) s m #[(.ref a1), (.ref a2)] below meth c s₁ [] 0 0 := Stand.of_body Bd
  have e0 : s₁.heap = h0 := by rw [← hh, Bd.state]; rfl
  have N0 := Fr.nil n0
  have pre0 : own_P p e below s₁ (entryFrame m #[(.ref a1), (.ref a2)] 3) s₁ (mkF m 0 #[rv a1, rv a2, .unset] []) := fun t k => castTop (ef_rmLe_3 m a1 a2) k
  obtain ⟨cl101, Ar101, q101, S101, N101z, H101, G101⟩ := (id V1)
  obtain ⟨cl102, Ar102, q102, S102, N102z, H102, G102⟩ := (id V2)
  obtain ⟨cl103, Ar103, q103, S103, N103z, H103, G103⟩ := (id V1)
  obtain ⟨cl104, Ar104, q104, S104, N104z, H104, G104⟩ := (id V1)
  have hin104 : ¬ ((0 : Int32) < 0 ∨ cl104.slots.size ≤ ((0 : Int32)).toNatClampNeg) := inb_of S104 ⟨by decide, by decide⟩
  have hat104 : cl104.slots[((0 : Int32)).toNatClampNeg]? = some (.int y0) := Has.at H104 hin104 rfl
  obtain ⟨cl105, Ar105, q105, S105, N105z, H105, G105⟩ := (id V2)
  have hin105 : ¬ ((0 : Int32) < 0 ∨ cl105.slots.size ≤ ((0 : Int32)).toNatClampNeg) := inb_of S105 ⟨by decide, by decide⟩
  have hat105 : cl105.slots[((0 : Int32)).toNatClampNeg]? = some (.int y0) := Has.at H105 hin105 rfl
  obtain ⟨cl106, Ar106, q106, S106, N106z, H106, G106⟩ := (id V1)
  obtain ⟨cl107, Ar107, q107, S107, N107z, H107, G107⟩ := (id V1)
  have hin107 : ¬ ((1 : Int32) < 0 ∨ cl107.slots.size ≤ ((1 : Int32)).toNatClampNeg) := inb_of S107 ⟨by decide, by decide⟩
  have hat107 : cl107.slots[((1 : Int32)).toNatClampNeg]? = some (.int y1) := Has.at H107 hin107 rfl
  obtain ⟨cl108, Ar108, q108, S108, N108z, H108, G108⟩ := (id V2)
  have hin108 : ¬ ((1 : Int32) < 0 ∨ cl108.slots.size ≤ ((1 : Int32)).toNatClampNeg) := inb_of S108 ⟨by decide, by decide⟩
  have hat108 : cl108.slots[((1 : Int32)).toNatClampNeg]? = some (.int y1) := Has.at H108 hin108 rfl
  obtain ⟨cl109, Ar109, q109, S109, N109z, H109, G109⟩ := (id V1)
  obtain ⟨cl110, Ar110, q110, S110, N110z, H110, G110⟩ := (id V1)
  have hin110 : ¬ ((2 : Int32) < 0 ∨ cl110.slots.size ≤ ((2 : Int32)).toNatClampNeg) := inb_of S110 ⟨by decide, by decide⟩
  have hat110 : cl110.slots[((2 : Int32)).toNatClampNeg]? = some (.int y2) := Has.at H110 hin110 rfl
  obtain ⟨cl111, Ar111, q111, S111, N111z, H111, G111⟩ := (id V2)
  have hin111 : ¬ ((2 : Int32) < 0 ∨ cl111.slots.size ≤ ((2 : Int32)).toNatClampNeg) := inb_of S111 ⟨by decide, by decide⟩
  have hat111 : cl111.slots[((2 : Int32)).toNatClampNeg]? = some (.int y2) := Has.at H111 hin111 rfl
  obtain ⟨cl112, Ar112, q112, S112, N112z, H112, G112⟩ := (id V1)
  have pre113 : own_P p e below s₁ (entryFrame m #[(.ref a1), (.ref a2)] 3) s₁ (mkF m 33 #[rv a1, rv a2, iv 3] [(.int 1)]) := fun t k => pre0 t (by
    show Steps p.tables e below (s₁.setTop (mkF m 0 #[rv a1, rv a2, .unset] [])) t
    refine XS.aloadN X0.here hx rfl (hb hby d19_0) rfl rfl ?_
    refine X0.arraylength hx (by rw [e0]; exact Ar101.1) (State.isArrayOf_alike hZ.alike Ar101.2.1) (g := (mkF m 1 #[rv a1, rv a2, .unset] [(.ref a1)])) rfl rfl (hb hby d19_1) _ ?_
    rw [len_of S101 N101z]
    refine XS.aloadN X0.here hx rfl (hb hby d19_2) rfl rfl ?_
    refine X0.arraylength hx (by rw [e0]; exact Ar102.1) (State.isArrayOf_alike hZ.alike Ar102.2.1) (g := (mkF m 3 #[rv a1, rv a2, .unset] [(.ref a2), (.int 3)])) rfl rfl (hb hby d19_3) _ ?_
    rw [len_of S102 N102z]
    refine XS.icmpNo X0.here hx rfl (hb hby d19_4) rfl (teq (by decide : (3 : Int32) = (3 : Int32))).2 ?_
    refine XS.iconst X0.here hx rfl (hb hby d19_7) ?_
    refine XS.istoreN X0.here hx rfl (hb hby d19_8) rfl (l' := #[rv a1, rv a2, iv 0]) rfl ?_
    refine XS.iloadN X0.here hx rfl (hb hby d19_9) rfl ?_
    refine XS.aloadN X0.here hx rfl (hb hby d19_10) rfl rfl ?_
    refine X0.arraylength hx (by rw [e0]; exact Ar103.1) (State.isArrayOf_alike hZ.alike Ar103.2.1) (g := (mkF m 11 #[rv a1, rv a2, iv 0] [(.ref a1), (.int 0)])) rfl rfl (hb hby d19_11) _ ?_
    rw [len_of S103 N103z]
    refine XS.icmpNo X0.here hx rfl (hb hby d19_12) rfl (tlt (by decide : (0 : Int32) < (3 : Int32))).2.1 ?_
    refine XS.aloadN X0.here hx rfl (hb hby d19_15) rfl rfl ?_
    refine XS.iloadN X0.here hx rfl (hb hby d19_16) rfl ?_
    refine X0.baloadBytes hx (j := (0 : Int32)) (v := (.int y0)) (by rw [e0]; exact Ar104.1) (State.isArrayOf_alike hZ.alike Ar104.2.1) Ar104.2.2 hin104 hat104 (g := (mkF m 17 #[rv a1, rv a2, iv 0] [(.int 0), (.ref a1)])) rfl rfl (hb hby d19_17) _ ?_
    refine XS.aloadN X0.here hx rfl (hb hby d19_18) rfl rfl ?_
    refine XS.iloadN X0.here hx rfl (hb hby d19_19) rfl ?_
    refine X0.baloadBytes hx (j := (0 : Int32)) (v := (.int y0)) (by rw [e0]; exact Ar105.1) (State.isArrayOf_alike hZ.alike Ar105.2.1) Ar105.2.2 hin105 hat105 (g := (mkF m 20 #[rv a1, rv a2, iv 0] [(.int 0), (.ref a2), (.int y0)])) rfl rfl (hb hby d19_20) _ ?_
    refine XS.icmpYes X0.here hx rfl (pc0 := 21) (pc' := 26) rfl (hb hby d19_21) rfl (teq (rfl : y0 = y0)).1 (by decide) (by decide) ?_
    refine XS.iinc X0.here hx rfl (hb hby d19_26) rfl (l' := #[rv a1, rv a2, iv 1]) rfl ?_
    refine XS.goto X0.here hx rfl (pc0 := 29) (pc' := 9) rfl (hb hby d19_29) (by decide) (by decide) ?_
    refine XS.iloadN X0.here hx rfl (hb hby d19_9) rfl ?_
    refine XS.aloadN X0.here hx rfl (hb hby d19_10) rfl rfl ?_
    refine X0.arraylength hx (by rw [e0]; exact Ar106.1) (State.isArrayOf_alike hZ.alike Ar106.2.1) (g := (mkF m 11 #[rv a1, rv a2, iv 1] [(.ref a1), (.int 1)])) rfl rfl (hb hby d19_11) _ ?_
    rw [len_of S106 N106z]
    refine XS.icmpNo X0.here hx rfl (hb hby d19_12) rfl (tlt (by decide : (1 : Int32) < (3 : Int32))).2.1 ?_
    refine XS.aloadN X0.here hx rfl (hb hby d19_15) rfl rfl ?_
    show Steps p.tables e below (s₁.setTop (mkF m 16 #[rv a1, rv a2, iv 1] [(.ref a1)])) t
    refine XS.iloadN X0.here hx rfl (hb hby d19_16) rfl ?_
    refine X0.baloadBytes hx (j := (1 : Int32)) (v := (.int y1)) (by rw [e0]; exact Ar107.1) (State.isArrayOf_alike hZ.alike Ar107.2.1) Ar107.2.2 hin107 hat107 (g := (mkF m 17 #[rv a1, rv a2, iv 1] [(.int 1), (.ref a1)])) rfl rfl (hb hby d19_17) _ ?_
    refine XS.aloadN X0.here hx rfl (hb hby d19_18) rfl rfl ?_
    refine XS.iloadN X0.here hx rfl (hb hby d19_19) rfl ?_
    refine X0.baloadBytes hx (j := (1 : Int32)) (v := (.int y1)) (by rw [e0]; exact Ar108.1) (State.isArrayOf_alike hZ.alike Ar108.2.1) Ar108.2.2 hin108 hat108 (g := (mkF m 20 #[rv a1, rv a2, iv 1] [(.int 1), (.ref a2), (.int y1)])) rfl rfl (hb hby d19_20) _ ?_
    refine XS.icmpYes X0.here hx rfl (pc0 := 21) (pc' := 26) rfl (hb hby d19_21) rfl (teq (rfl : y1 = y1)).1 (by decide) (by decide) ?_
    refine XS.iinc X0.here hx rfl (hb hby d19_26) rfl (l' := #[rv a1, rv a2, iv 2]) rfl ?_
    refine XS.goto X0.here hx rfl (pc0 := 29) (pc' := 9) rfl (hb hby d19_29) (by decide) (by decide) ?_
    refine XS.iloadN X0.here hx rfl (hb hby d19_9) rfl ?_
    refine XS.aloadN X0.here hx rfl (hb hby d19_10) rfl rfl ?_
    refine X0.arraylength hx (by rw [e0]; exact Ar109.1) (State.isArrayOf_alike hZ.alike Ar109.2.1) (g := (mkF m 11 #[rv a1, rv a2, iv 2] [(.ref a1), (.int 2)])) rfl rfl (hb hby d19_11) _ ?_
    rw [len_of S109 N109z]
    refine XS.icmpNo X0.here hx rfl (hb hby d19_12) rfl (tlt (by decide : (2 : Int32) < (3 : Int32))).2.1 ?_
    refine XS.aloadN X0.here hx rfl (hb hby d19_15) rfl rfl ?_
    refine XS.iloadN X0.here hx rfl (hb hby d19_16) rfl ?_
    refine X0.baloadBytes hx (j := (2 : Int32)) (v := (.int y2)) (by rw [e0]; exact Ar110.1) (State.isArrayOf_alike hZ.alike Ar110.2.1) Ar110.2.2 hin110 hat110 (g := (mkF m 17 #[rv a1, rv a2, iv 2] [(.int 2), (.ref a1)])) rfl rfl (hb hby d19_17) _ ?_
    refine XS.aloadN X0.here hx rfl (hb hby d19_18) rfl rfl ?_
    refine XS.iloadN X0.here hx rfl (hb hby d19_19) rfl ?_
    refine X0.baloadBytes hx (j := (2 : Int32)) (v := (.int y2)) (by rw [e0]; exact Ar111.1) (State.isArrayOf_alike hZ.alike Ar111.2.1) Ar111.2.2 hin111 hat111 (g := (mkF m 20 #[rv a1, rv a2, iv 2] [(.int 2), (.ref a2), (.int y2)])) rfl rfl (hb hby d19_20) _ ?_
    refine XS.icmpYes X0.here hx rfl (pc0 := 21) (pc' := 26) rfl (hb hby d19_21) rfl (teq (rfl : y2 = y2)).1 (by decide) (by decide) ?_
    refine XS.iinc X0.here hx rfl (hb hby d19_26) rfl (l' := #[rv a1, rv a2, iv 3]) rfl ?_
    refine XS.goto X0.here hx rfl (pc0 := 29) (pc' := 9) rfl (hb hby d19_29) (by decide) (by decide) ?_
    refine XS.iloadN X0.here hx rfl (hb hby d19_9) rfl ?_
    refine XS.aloadN X0.here hx rfl (hb hby d19_10) rfl rfl ?_
    refine X0.arraylength hx (by rw [e0]; exact Ar112.1) (State.isArrayOf_alike hZ.alike Ar112.2.1) (g := (mkF m 11 #[rv a1, rv a2, iv 3] [(.ref a1), (.int 3)])) rfl rfl (hb hby d19_11) _ ?_
    rw [len_of S112 N112z]
    refine XS.icmpYes X0.here hx rfl (pc0 := 12) (pc' := 32) rfl (hb hby d19_12) rfl (flt (by decide : ¬ ((3 : Int32) < (3 : Int32)))).2.1 (by decide) (by decide) ?_
    show Steps p.tables e below (s₁.setTop (mkF m 32 #[rv a1, rv a2, iv 3] [])) t
    refine XS.iconst X0.here hx rfl (hb hby d19_32) ?_
    exact k)
  obtain ⟨fs, hr, hrun, hended, hW, hsame⟩ := X0.leave (v := some (.int 1)) (fun h => by rw [Bd.returns] at h; cases h)
  refine ⟨_, _, pre113 _ ?_, hrun, hended, _, _, rfl, ?_, ⟨_, rfl⟩, hW, hsame.mono (by decide) (by decide)⟩
  · exact retN X0 hx (t := .boolean) Bd.returns (by simp) (hb hby d19_33) hr
  · show QLe_3 Z a1 a2 k1 k2 y0 y1 y2 h0 n0 _ s₁.heap _
    rw [e0]
    exact ⟨rfl, N0, rfl⟩
theorem ef_rmEq_3 (m : MethodId) (x0 : Addr) (x1 : Addr) : entryFrame m #[(.ref x0), (.ref x1)] 3 = mkF m 0 #[rv x0, rv x1, .unset] [] := by first | (simp [entryFrame, mkF, argsToLocals, Value.category]; done) | rfl
def QEq_3 (Z : State) (a1 : Addr) (a2 : Addr) (cs : Int32) (t1 : Addr) (t2 : Addr) (k1 : ClassId) (k2 : ClassId) (y0 : Int32) (y1 : Int32) (y2 : Int32) (h0 : Heap) (n0 : Nat) (v : Option Value) (h : Heap) (L : List Loc) : Prop := v = some (.int 1) ∧ Fr n0 L ∧ h = h0
set_option maxRecDepth 65536 in
set_option maxHeartbeats 40000000 in
theorem rmEq_3 (l : Launch) (Z : State) (a0 : Array Value) (hw : ∀ d ∈ tables_1, d.before a0 Z = true) (ws : List Jvm.Cond) (a1 : Addr) (a2 : Addr) (cs : Int32) (t1 : Addr) (t2 : Addr) (k1 : ClassId) (k2 : ClassId) (y0 : Int32) (y1 : Int32) (y2 : Int32) (h0 : Heap) (n0 : Nat) (Z0 : n0 ≤ h0.size) (E2 : Exa Z h0 a2 "java/lang/String") (SC : Sta Z h0 "java/lang/String" "COMPACT_STRINGS" "Z" (.int cs)) (hcs : ¬ (cs = (0 : Int32))) (C1 : Fld Z h0 a1 "java/lang/String" "coder" "B" (.int 0)) (C2 : Fld Z h0 a2 "java/lang/String" "coder" "B" (.int 0)) (W1 : Fld Z h0 a1 "java/lang/String" "value" "[B" (.ref t1)) (W2 : Fld Z h0 a2 "java/lang/String" "value" "[B" (.ref t2)) (V1 : Arv Z h0 t1 k1 .byte (3 : Int32) [(.int y0), (.int y1), (.int y2)] (.int 0)) (V2 : Arv Z h0 t2 k2 .byte (3 : Int32) [(.int y0), (.int y1), (.int y2)] (.int 0)) :
    own_M l own_y28 jdk_42_method_66_code 3 (some .boolean) ws (own_R 1 0 0 14) Z h0 #[(.ref a1), (.ref a2)] (QEq_3 Z a1 a2 cs t1 t2 k1 k2 y0 y1 y2 h0 n0) := by
  refine MetFree.of_bodySF (plainFor_of_name pn_java_lang_String) hisR ?_
  intro p e s m args below meth c s₁ Bd hml0 hP hK
  obtain ⟨rfl, hZ, hh⟩ := hP
  have hx := Bd.exec
  have hby := Bd.bytes
  have hml : c.maxLocals = 3 := hml0
  have hown : s.vm.findClass "java/lang/String" = some m.cls := findClass_of_methodNamed Bd.named
  have hnm := (name_of_methodNamed Bd.named Bd.method).1
  have X0 : Stand p l e (own_R 1 0 0 14) s m #[(.ref a1), (.ref a2)] below meth c s₁ [] 0 0 := Stand.of_body Bd
  have e0 : s₁.heap = h0 := by rw [← hh, Bd.state]; rfl
  have N0 := Fr.nil n0
  have pre0 : own_P p e below s₁ (entryFrame m #[(.ref a1), (.ref a2)] 3) s₁ (mkF m 0 #[rv a1, rv a2, .unset] []) := fun t k => castTop (ef_rmEq_3 m a1 a2) k
  have pre102 : own_P p e below s₁ (entryFrame m #[(.ref a1), (.ref a2)] 3) s₁ (mkF m 2 #[rv a1, rv a2, .unset] [(.ref a2), (.ref a1)]) := fun t k => pre0 t (by
    show Steps p.tables e below (s₁.setTop (mkF m 0 #[rv a1, rv a2, .unset] [])) t
    refine XS.aloadN X0.here hx rfl (hb hby d18_0) rfl rfl ?_
    refine XS.aloadN X0.here hx rfl (hb hby d18_1) rfl rfl ?_
    exact k)
  by_cases hc101 : a1 = a2
  · have pre103 : own_P p e below s₁ (entryFrame m #[(.ref a1), (.ref a2)] 3) s₁ (mkF m 6 #[rv a1, rv a2, .unset] [(.int 1)]) := fun t k => pre102 t (by
      refine Jvm.RoadKit.acmp (g := (mkF m 2 #[rv a1, rv a2, .unset] [(.ref a2), (.ref a1)])) X0 hx rfl rfl rfl (pc0 := 2) (pc' := 5) (same := true) rfl (hb hby d18_2) rfl (decide_eq_true (congrArg Value.ref hc101)) (by decide) (by decide) ?_
      refine XS.iconst X0.here hx rfl (hb hby d18_5) ?_
      exact k)
    obtain ⟨fs, hr, hrun, hended, hW, hsame⟩ := X0.leave (v := some (.int 1)) (fun h => by rw [Bd.returns] at h; cases h)
    refine ⟨_, _, pre103 _ ?_, hrun, hended, _, _, rfl, ?_, ⟨_, rfl⟩, hW, hsame.mono (by decide) (by decide)⟩
    · exact retN X0 hx (t := .boolean) Bd.returns (by simp) (hb hby d18_6) hr
    · show QEq_3 Z a1 a2 cs t1 t2 k1 k2 y0 y1 y2 h0 n0 _ s₁.heap _
      rw [e0]
      exact ⟨rfl, N0, rfl⟩
  · obtain ⟨T104, X104, e104, st104⟩ := instY X0 hx hZ hown (own_i hw 82 rfl) e0 (Ins.self E2) (g := (mkF m 8 #[rv a1, rv a2, .unset] [(.ref a2)])) rfl rfl (hb hby d18_8)
    obtain ⟨T105, X105, e105, st105⟩ := castY X104 hx hZ hown (own_i hw 82 rfl) e104 (Ins.self E2) (g := (mkF m 15 #[rv a1, rv a2, .unset] [(.ref a2)])) rfl rfl (hb hby d18_15)
    obtain ⟨T106, X106, e106, st106⟩ := getS2 X105 hx hZ hown (host := "") (Or.inl (own_i hw 25 rfl)) Via.refl e105 SC (g := (mkF m 19 #[rv a1, rv a2, rv a2] [])) rfl (hb hby d18_19)
    obtain ⟨T107, X107, e107, st107⟩ := getF X106 hx hZ hown (host := "") (Or.inl (own_i hw 37 rfl)) Via.refl e106 C1 (g := (mkF m 26 #[rv a1, rv a2, rv a2] [(.ref a1)])) rfl rfl (hb hby d18_26)
    obtain ⟨T108, X108, e108, st108⟩ := getF X107 hx hZ hown (host := "") (Or.inl (own_i hw 37 rfl)) Via.refl e107 C2 (g := (mkF m 30 #[rv a1, rv a2, rv a2] [(.ref a2), (.int 0)])) rfl rfl (hb hby d18_30)
    obtain ⟨T109, X109, e109, st109⟩ := getF X108 hx hZ hown (host := "") (Or.inl (own_i hw 39 rfl)) Via.refl e108 W1 (g := (mkF m 37 #[rv a1, rv a2, rv a2] [(.ref a1)])) rfl rfl (hb hby d18_37)
    obtain ⟨T110, X110, e110, st110⟩ := getF X109 hx hZ hown (host := "") (Or.inl (own_i hw 39 rfl)) Via.refl e109 W2 (g := (mkF m 41 #[rv a1, rv a2, rv a2] [(.ref a2), (.ref t1)])) rfl rfl (hb hby d18_41)
    obtain ⟨_, _, ⟨T111, L111, k111, n111⟩, -, X111, ⟨Lc111, hQ111, l111, y111, z111⟩, st111⟩ := Jvm.LawKit.callS X110 hx (y := own_y27) hown (own_m hZ hw 83) (own_m hZ hw 84) (own_m hZ hw 85) (own_m hZ hw 86) (by decide) (backOf (W := 0) (rmLe_3 l Z a0 hw [] t1 t2 k1 k2 y0 y1 y2 h0 n0 Z0 V1 V2) hZ (own_i hw 86 rfl) (own_i hw 85 rfl) (by decide) (by decide)) (g := (mkF m 44 #[rv a1, rv a2, rv a2] [(.ref t2), (.ref t1)])) rfl (by rw [hml]; rfl) (argsL := [(.ref t1), (.ref t2)]) (rest := []) (lenOf pd_20 rfl) rfl (Nat.le_of_eq rfl) (hb hby d18_44) (fun _ _ => ⟨rfl, e110, (by decide : 0 + 0 ≤ _), (by decide : 0 + 0 ≤ _)⟩)
    dsimp only [Pt.U, Pt.locs, Pt.cells, Pt.slots] at X111 l111 y111 z111 st111 hQ111
    subst l111 y111 z111
    obtain ⟨rfl, N111q, e111⟩ := hQ111
    have N111 := Fr.app N0 N111q
    have pre112 : own_P p e below s₁ (entryFrame m #[(.ref a1), (.ref a2)] 3) T111 (mkF m 55 #[rv a1, rv a2, rv a2] [(.int 1)]) := fun t k => pre102 t (by
      refine Jvm.RoadKit.acmp (g := (mkF m 2 #[rv a1, rv a2, .unset] [(.ref a2), (.ref a1)])) X0 hx rfl rfl rfl (pc0 := 2) (pc' := 7) (same := false) rfl (hb hby d18_2) rfl (decide_eq_false fun q => hc101 (Value.ref.inj q)) (by decide) (by decide) ?_
      refine XS.aloadN X0.here hx rfl (hb hby d18_7) rfl rfl ?_
      refine st104 _ ?_
      refine XS.ifNo X104.here hx rfl (hb hby d18_11) rfl ((if0 _ _).trans (feq (by decide : ¬ ((1 : Int32) = (0 : Int32)))).1) ?_
      refine XS.aloadN X104.here hx rfl (hb hby d18_14) rfl rfl ?_
      refine st105 _ ?_
      refine XS.astoreN X105.here hx rfl (hb hby d18_18) rfl rfl (l' := #[rv a1, rv a2, rv a2]) rfl ?_
      refine st106 _ ?_
      refine XS.ifNo X106.here hx rfl (hb hby d18_22) rfl ((if0 _ _).trans (feq hcs).1) ?_
      refine XS.aloadN X106.here hx rfl (hb hby d18_25) rfl rfl ?_
      refine st107 _ ?_
      refine XS.aloadN X107.here hx rfl (hb hby d18_29) rfl rfl ?_
      refine st108 _ ?_
      refine XS.icmpNo X108.here hx rfl (hb hby d18_33) rfl (teq (by decide : (0 : Int32) = (0 : Int32))).2 ?_
      refine XS.aloadN X108.here hx rfl (hb hby d18_36) rfl rfl ?_
      refine st109 _ ?_
      refine XS.aloadN X109.here hx rfl (hb hby d18_40) rfl rfl ?_
      refine st110 _ ?_
      refine st111 _ ?_
      refine XS.ifNo X111.here hx rfl (hb hby d18_47) rfl ((if0 _ _).trans (feq (by decide : ¬ ((1 : Int32) = (0 : Int32)))).1) ?_
      refine XS.iconst X111.here hx rfl (hb hby d18_50) ?_
      refine XS.goto X111.here hx rfl (pc0 := 51) (pc' := 55) rfl (hb hby d18_51) (by decide) (by decide) ?_
      exact k)
    obtain ⟨fs, hr, hrun, hended, hW, hsame⟩ := X111.leave (v := some (.int 1)) (fun h => by rw [Bd.returns] at h; cases h)
    refine ⟨_, _, pre112 _ ?_, hrun, hended, _, _, rfl, ?_, ⟨_, rfl⟩, hW, hsame.mono (by decide) (by decide)⟩
    · exact retN X111 hx (t := .boolean) Bd.returns (by simp) (hb hby d18_55) hr
    · show QEq_3 Z a1 a2 cs t1 t2 k1 k2 y0 y1 y2 h0 n0 _ T111.heap _
      rw [e111]
      exact ⟨rfl, N111, rfl⟩
theorem ef_rmLe_4 (m : MethodId) (x0 : Addr) (x1 : Addr) : entryFrame m #[(.ref x0), (.ref x1)] 3 = mkF m 0 #[rv x0, rv x1, .unset] [] := by first | (simp [entryFrame, mkF, argsToLocals, Value.category]; done) | rfl
def QLe_4 (Z : State) (a1 : Addr) (a2 : Addr) (k1 : ClassId) (k2 : ClassId) (y0 : Int32) (y1 : Int32) (y2 : Int32) (y3 : Int32) (h0 : Heap) (n0 : Nat) (v : Option Value) (h : Heap) (L : List Loc) : Prop := v = some (.int 1) ∧ Fr n0 L ∧ h = h0
set_option maxRecDepth 65536 in
set_option maxHeartbeats 40000000 in
theorem rmLe_4 (l : Launch) (Z : State) (a0 : Array Value) (hw : ∀ d ∈ tables_1, d.before a0 Z = true) (ws : List Jvm.Cond) (a1 : Addr) (a2 : Addr) (k1 : ClassId) (k2 : ClassId) (y0 : Int32) (y1 : Int32) (y2 : Int32) (y3 : Int32) (h0 : Heap) (n0 : Nat) (Z0 : n0 ≤ h0.size) (V1 : Arv Z h0 a1 k1 .byte (4 : Int32) [(.int y0), (.int y1), (.int y2), (.int y3)] (.int 0)) (V2 : Arv Z h0 a2 k2 .byte (4 : Int32) [(.int y0), (.int y1), (.int y2), (.int y3)] (.int 0)) :
    own_M l own_y27 jdk_43_method_13_code 3 (some .boolean) ws (own_R 0 0 0 0) Z h0 #[(.ref a1), (.ref a2)] (QLe_4 Z a1 a2 k1 k2 y0 y1 y2 y3 h0 n0) := by
  refine MetFree.of_bodySF (plainFor_of_name pn_java_lang_StringLatin1) hisR ?_
  intro p e s m args below meth c s₁ Bd hml0 hP hK
  obtain ⟨rfl, hZ, hh⟩ := hP
  have hx := Bd.exec
  have hby := Bd.bytes
  have hml : c.maxLocals = 3 := hml0
  have hown : s.vm.findClass "java/lang/StringLatin1" = some m.cls := findClass_of_methodNamed Bd.named
  have hnm := (name_of_methodNamed Bd.named Bd.method).1
  have X0 : Stand p l e (own_R 0 0 0 0) s m #[(.ref a1), (.ref a2)] below meth c s₁ [] 0 0 := Stand.of_body Bd
  have e0 : s₁.heap = h0 := by rw [← hh, Bd.state]; rfl
  have N0 := Fr.nil n0
  have pre0 : own_P p e below s₁ (entryFrame m #[(.ref a1), (.ref a2)] 3) s₁ (mkF m 0 #[rv a1, rv a2, .unset] []) := fun t k => castTop (ef_rmLe_4 m a1 a2) k
  obtain ⟨cl101, Ar101, q101, S101, N101z, H101, G101⟩ := (id V1)
  obtain ⟨cl102, Ar102, q102, S102, N102z, H102, G102⟩ := (id V2)
  obtain ⟨cl103, Ar103, q103, S103, N103z, H103, G103⟩ := (id V1)
  obtain ⟨cl104, Ar104, q104, S104, N104z, H104, G104⟩ := (id V1)
  have hin104 : ¬ ((0 : Int32) < 0 ∨ cl104.slots.size ≤ ((0 : Int32)).toNatClampNeg) := inb_of S104 ⟨by decide, by decide⟩
  have hat104 : cl104.slots[((0 : Int32)).toNatClampNeg]? = some (.int y0) := Has.at H104 hin104 rfl
  obtain ⟨cl105, Ar105, q105, S105, N105z, H105, G105⟩ := (id V2)
  have hin105 : ¬ ((0 : Int32) < 0 ∨ cl105.slots.size ≤ ((0 : Int32)).toNatClampNeg) := inb_of S105 ⟨by decide, by decide⟩
  have hat105 : cl105.slots[((0 : Int32)).toNatClampNeg]? = some (.int y0) := Has.at H105 hin105 rfl
  obtain ⟨cl106, Ar106, q106, S106, N106z, H106, G106⟩ := (id V1)
  obtain ⟨cl107, Ar107, q107, S107, N107z, H107, G107⟩ := (id V1)
  have hin107 : ¬ ((1 : Int32) < 0 ∨ cl107.slots.size ≤ ((1 : Int32)).toNatClampNeg) := inb_of S107 ⟨by decide, by decide⟩
  have hat107 : cl107.slots[((1 : Int32)).toNatClampNeg]? = some (.int y1) := Has.at H107 hin107 rfl
  obtain ⟨cl108, Ar108, q108, S108, N108z, H108, G108⟩ := (id V2)
  have hin108 : ¬ ((1 : Int32) < 0 ∨ cl108.slots.size ≤ ((1 : Int32)).toNatClampNeg) := inb_of S108 ⟨by decide, by decide⟩
  have hat108 : cl108.slots[((1 : Int32)).toNatClampNeg]? = some (.int y1) := Has.at H108 hin108 rfl
  obtain ⟨cl109, Ar109, q109, S109, N109z, H109, G109⟩ := (id V1)
  obtain ⟨cl110, Ar110, q110, S110, N110z, H110, G110⟩ := (id V1)
  have hin110 : ¬ ((2 : Int32) < 0 ∨ cl110.slots.size ≤ ((2 : Int32)).toNatClampNeg) := inb_of S110 ⟨by decide, by decide⟩
  have hat110 : cl110.slots[((2 : Int32)).toNatClampNeg]? = some (.int y2) := Has.at H110 hin110 rfl
  obtain ⟨cl111, Ar111, q111, S111, N111z, H111, G111⟩ := (id V2)
  have hin111 : ¬ ((2 : Int32) < 0 ∨ cl111.slots.size ≤ ((2 : Int32)).toNatClampNeg) := inb_of S111 ⟨by decide, by decide⟩
  have hat111 : cl111.slots[((2 : Int32)).toNatClampNeg]? = some (.int y2) := Has.at H111 hin111 rfl
  obtain ⟨cl112, Ar112, q112, S112, N112z, H112, G112⟩ := (id V1)
  obtain ⟨cl113, Ar113, q113, S113, N113z, H113, G113⟩ := (id V1)
  have hin113 : ¬ ((3 : Int32) < 0 ∨ cl113.slots.size ≤ ((3 : Int32)).toNatClampNeg) := inb_of S113 ⟨by decide, by decide⟩
  have hat113 : cl113.slots[((3 : Int32)).toNatClampNeg]? = some (.int y3) := Has.at H113 hin113 rfl
  obtain ⟨cl114, Ar114, q114, S114, N114z, H114, G114⟩ := (id V2)
  have hin114 : ¬ ((3 : Int32) < 0 ∨ cl114.slots.size ≤ ((3 : Int32)).toNatClampNeg) := inb_of S114 ⟨by decide, by decide⟩
  have hat114 : cl114.slots[((3 : Int32)).toNatClampNeg]? = some (.int y3) := Has.at H114 hin114 rfl
  obtain ⟨cl115, Ar115, q115, S115, N115z, H115, G115⟩ := (id V1)
  have pre116 : own_P p e below s₁ (entryFrame m #[(.ref a1), (.ref a2)] 3) s₁ (mkF m 33 #[rv a1, rv a2, iv 4] [(.int 1)]) := fun t k => pre0 t (by
    show Steps p.tables e below (s₁.setTop (mkF m 0 #[rv a1, rv a2, .unset] [])) t
    refine XS.aloadN X0.here hx rfl (hb hby d19_0) rfl rfl ?_
    refine X0.arraylength hx (by rw [e0]; exact Ar101.1) (State.isArrayOf_alike hZ.alike Ar101.2.1) (g := (mkF m 1 #[rv a1, rv a2, .unset] [(.ref a1)])) rfl rfl (hb hby d19_1) _ ?_
    rw [len_of S101 N101z]
    refine XS.aloadN X0.here hx rfl (hb hby d19_2) rfl rfl ?_
    refine X0.arraylength hx (by rw [e0]; exact Ar102.1) (State.isArrayOf_alike hZ.alike Ar102.2.1) (g := (mkF m 3 #[rv a1, rv a2, .unset] [(.ref a2), (.int 4)])) rfl rfl (hb hby d19_3) _ ?_
    rw [len_of S102 N102z]
    refine XS.icmpNo X0.here hx rfl (hb hby d19_4) rfl (teq (by decide : (4 : Int32) = (4 : Int32))).2 ?_
    refine XS.iconst X0.here hx rfl (hb hby d19_7) ?_
    refine XS.istoreN X0.here hx rfl (hb hby d19_8) rfl (l' := #[rv a1, rv a2, iv 0]) rfl ?_
    refine XS.iloadN X0.here hx rfl (hb hby d19_9) rfl ?_
    refine XS.aloadN X0.here hx rfl (hb hby d19_10) rfl rfl ?_
    refine X0.arraylength hx (by rw [e0]; exact Ar103.1) (State.isArrayOf_alike hZ.alike Ar103.2.1) (g := (mkF m 11 #[rv a1, rv a2, iv 0] [(.ref a1), (.int 0)])) rfl rfl (hb hby d19_11) _ ?_
    rw [len_of S103 N103z]
    refine XS.icmpNo X0.here hx rfl (hb hby d19_12) rfl (tlt (by decide : (0 : Int32) < (4 : Int32))).2.1 ?_
    refine XS.aloadN X0.here hx rfl (hb hby d19_15) rfl rfl ?_
    refine XS.iloadN X0.here hx rfl (hb hby d19_16) rfl ?_
    refine X0.baloadBytes hx (j := (0 : Int32)) (v := (.int y0)) (by rw [e0]; exact Ar104.1) (State.isArrayOf_alike hZ.alike Ar104.2.1) Ar104.2.2 hin104 hat104 (g := (mkF m 17 #[rv a1, rv a2, iv 0] [(.int 0), (.ref a1)])) rfl rfl (hb hby d19_17) _ ?_
    refine XS.aloadN X0.here hx rfl (hb hby d19_18) rfl rfl ?_
    refine XS.iloadN X0.here hx rfl (hb hby d19_19) rfl ?_
    refine X0.baloadBytes hx (j := (0 : Int32)) (v := (.int y0)) (by rw [e0]; exact Ar105.1) (State.isArrayOf_alike hZ.alike Ar105.2.1) Ar105.2.2 hin105 hat105 (g := (mkF m 20 #[rv a1, rv a2, iv 0] [(.int 0), (.ref a2), (.int y0)])) rfl rfl (hb hby d19_20) _ ?_
    refine XS.icmpYes X0.here hx rfl (pc0 := 21) (pc' := 26) rfl (hb hby d19_21) rfl (teq (rfl : y0 = y0)).1 (by decide) (by decide) ?_
    refine XS.iinc X0.here hx rfl (hb hby d19_26) rfl (l' := #[rv a1, rv a2, iv 1]) rfl ?_
    refine XS.goto X0.here hx rfl (pc0 := 29) (pc' := 9) rfl (hb hby d19_29) (by decide) (by decide) ?_
    refine XS.iloadN X0.here hx rfl (hb hby d19_9) rfl ?_
    refine XS.aloadN X0.here hx rfl (hb hby d19_10) rfl rfl ?_
    refine X0.arraylength hx (by rw [e0]; exact Ar106.1) (State.isArrayOf_alike hZ.alike Ar106.2.1) (g := (mkF m 11 #[rv a1, rv a2, iv 1] [(.ref a1), (.int 1)])) rfl rfl (hb hby d19_11) _ ?_
    rw [len_of S106 N106z]
    refine XS.icmpNo X0.here hx rfl (hb hby d19_12) rfl (tlt (by decide : (1 : Int32) < (4 : Int32))).2.1 ?_
    refine XS.aloadN X0.here hx rfl (hb hby d19_15) rfl rfl ?_
    show Steps p.tables e below (s₁.setTop (mkF m 16 #[rv a1, rv a2, iv 1] [(.ref a1)])) t
    refine XS.iloadN X0.here hx rfl (hb hby d19_16) rfl ?_
    refine X0.baloadBytes hx (j := (1 : Int32)) (v := (.int y1)) (by rw [e0]; exact Ar107.1) (State.isArrayOf_alike hZ.alike Ar107.2.1) Ar107.2.2 hin107 hat107 (g := (mkF m 17 #[rv a1, rv a2, iv 1] [(.int 1), (.ref a1)])) rfl rfl (hb hby d19_17) _ ?_
    refine XS.aloadN X0.here hx rfl (hb hby d19_18) rfl rfl ?_
    refine XS.iloadN X0.here hx rfl (hb hby d19_19) rfl ?_
    refine X0.baloadBytes hx (j := (1 : Int32)) (v := (.int y1)) (by rw [e0]; exact Ar108.1) (State.isArrayOf_alike hZ.alike Ar108.2.1) Ar108.2.2 hin108 hat108 (g := (mkF m 20 #[rv a1, rv a2, iv 1] [(.int 1), (.ref a2), (.int y1)])) rfl rfl (hb hby d19_20) _ ?_
    refine XS.icmpYes X0.here hx rfl (pc0 := 21) (pc' := 26) rfl (hb hby d19_21) rfl (teq (rfl : y1 = y1)).1 (by decide) (by decide) ?_
    refine XS.iinc X0.here hx rfl (hb hby d19_26) rfl (l' := #[rv a1, rv a2, iv 2]) rfl ?_
    refine XS.goto X0.here hx rfl (pc0 := 29) (pc' := 9) rfl (hb hby d19_29) (by decide) (by decide) ?_
    refine XS.iloadN X0.here hx rfl (hb hby d19_9) rfl ?_
    refine XS.aloadN X0.here hx rfl (hb hby d19_10) rfl rfl ?_
    refine X0.arraylength hx (by rw [e0]; exact Ar109.1) (State.isArrayOf_alike hZ.alike Ar109.2.1) (g := (mkF m 11 #[rv a1, rv a2, iv 2] [(.ref a1), (.int 2)])) rfl rfl (hb hby d19_11) _ ?_
    rw [len_of S109 N109z]
    refine XS.icmpNo X0.here hx rfl (hb hby d19_12) rfl (tlt (by decide : (2 : Int32) < (4 : Int32))).2.1 ?_
    refine XS.aloadN X0.here hx rfl (hb hby d19_15) rfl rfl ?_
    refine XS.iloadN X0.here hx rfl (hb hby d19_16) rfl ?_
    refine X0.baloadBytes hx (j := (2 : Int32)) (v := (.int y2)) (by rw [e0]; exact Ar110.1) (State.isArrayOf_alike hZ.alike Ar110.2.1) Ar110.2.2 hin110 hat110 (g := (mkF m 17 #[rv a1, rv a2, iv 2] [(.int 2), (.ref a1)])) rfl rfl (hb hby d19_17) _ ?_
    refine XS.aloadN X0.here hx rfl (hb hby d19_18) rfl rfl ?_
    refine XS.iloadN X0.here hx rfl (hb hby d19_19) rfl ?_
    refine X0.baloadBytes hx (j := (2 : Int32)) (v := (.int y2)) (by rw [e0]; exact Ar111.1) (State.isArrayOf_alike hZ.alike Ar111.2.1) Ar111.2.2 hin111 hat111 (g := (mkF m 20 #[rv a1, rv a2, iv 2] [(.int 2), (.ref a2), (.int y2)])) rfl rfl (hb hby d19_20) _ ?_
    refine XS.icmpYes X0.here hx rfl (pc0 := 21) (pc' := 26) rfl (hb hby d19_21) rfl (teq (rfl : y2 = y2)).1 (by decide) (by decide) ?_
    refine XS.iinc X0.here hx rfl (hb hby d19_26) rfl (l' := #[rv a1, rv a2, iv 3]) rfl ?_
    refine XS.goto X0.here hx rfl (pc0 := 29) (pc' := 9) rfl (hb hby d19_29) (by decide) (by decide) ?_
    refine XS.iloadN X0.here hx rfl (hb hby d19_9) rfl ?_
    refine XS.aloadN X0.here hx rfl (hb hby d19_10) rfl rfl ?_
    refine X0.arraylength hx (by rw [e0]; exact Ar112.1) (State.isArrayOf_alike hZ.alike Ar112.2.1) (g := (mkF m 11 #[rv a1, rv a2, iv 3] [(.ref a1), (.int 3)])) rfl rfl (hb hby d19_11) _ ?_
    rw [len_of S112 N112z]
    refine XS.icmpNo X0.here hx rfl (hb hby d19_12) rfl (tlt (by decide : (3 : Int32) < (4 : Int32))).2.1 ?_
    show Steps p.tables e below (s₁.setTop (mkF m 15 #[rv a1, rv a2, iv 3] [])) t
    refine XS.aloadN X0.here hx rfl (hb hby d19_15) rfl rfl ?_
    refine XS.iloadN X0.here hx rfl (hb hby d19_16) rfl ?_
    refine X0.baloadBytes hx (j := (3 : Int32)) (v := (.int y3)) (by rw [e0]; exact Ar113.1) (State.isArrayOf_alike hZ.alike Ar113.2.1) Ar113.2.2 hin113 hat113 (g := (mkF m 17 #[rv a1, rv a2, iv 3] [(.int 3), (.ref a1)])) rfl rfl (hb hby d19_17) _ ?_
    refine XS.aloadN X0.here hx rfl (hb hby d19_18) rfl rfl ?_
    refine XS.iloadN X0.here hx rfl (hb hby d19_19) rfl ?_
    refine X0.baloadBytes hx (j := (3 : Int32)) (v := (.int y3)) (by rw [e0]; exact Ar114.1) (State.isArrayOf_alike hZ.alike Ar114.2.1) Ar114.2.2 hin114 hat114 (g := (mkF m 20 #[rv a1, rv a2, iv 3] [(.int 3), (.ref a2), (.int y3)])) rfl rfl (hb hby d19_20) _ ?_
    refine XS.icmpYes X0.here hx rfl (pc0 := 21) (pc' := 26) rfl (hb hby d19_21) rfl (teq (rfl : y3 = y3)).1 (by decide) (by decide) ?_
    refine XS.iinc X0.here hx rfl (hb hby d19_26) rfl (l' := #[rv a1, rv a2, iv 4]) rfl ?_
    refine XS.goto X0.here hx rfl (pc0 := 29) (pc' := 9) rfl (hb hby d19_29) (by decide) (by decide) ?_
    refine XS.iloadN X0.here hx rfl (hb hby d19_9) rfl ?_
    refine XS.aloadN X0.here hx rfl (hb hby d19_10) rfl rfl ?_
    refine X0.arraylength hx (by rw [e0]; exact Ar115.1) (State.isArrayOf_alike hZ.alike Ar115.2.1) (g := (mkF m 11 #[rv a1, rv a2, iv 4] [(.ref a1), (.int 4)])) rfl rfl (hb hby d19_11) _ ?_
    rw [len_of S115 N115z]
    refine XS.icmpYes X0.here hx rfl (pc0 := 12) (pc' := 32) rfl (hb hby d19_12) rfl (flt (by decide : ¬ ((4 : Int32) < (4 : Int32)))).2.1 (by decide) (by decide) ?_
    refine XS.iconst X0.here hx rfl (hb hby d19_32) ?_
    exact k)
  obtain ⟨fs, hr, hrun, hended, hW, hsame⟩ := X0.leave (v := some (.int 1)) (fun h => by rw [Bd.returns] at h; cases h)
  refine ⟨_, _, pre116 _ ?_, hrun, hended, _, _, rfl, ?_, ⟨_, rfl⟩, hW, hsame.mono (by decide) (by decide)⟩
  · exact retN X0 hx (t := .boolean) Bd.returns (by simp) (hb hby d19_33) hr
  · show QLe_4 Z a1 a2 k1 k2 y0 y1 y2 y3 h0 n0 _ s₁.heap _
    rw [e0]
    exact ⟨rfl, N0, rfl⟩
theorem ef_rmEq_4 (m : MethodId) (x0 : Addr) (x1 : Addr) : entryFrame m #[(.ref x0), (.ref x1)] 3 = mkF m 0 #[rv x0, rv x1, .unset] [] := by first | (simp [entryFrame, mkF, argsToLocals, Value.category]; done) | rfl
def QEq_4 (Z : State) (a1 : Addr) (a2 : Addr) (cs : Int32) (t1 : Addr) (t2 : Addr) (k1 : ClassId) (k2 : ClassId) (y0 : Int32) (y1 : Int32) (y2 : Int32) (y3 : Int32) (h0 : Heap) (n0 : Nat) (v : Option Value) (h : Heap) (L : List Loc) : Prop := v = some (.int 1) ∧ Fr n0 L ∧ h = h0
set_option maxRecDepth 65536 in
set_option maxHeartbeats 40000000 in
theorem rmEq_4 (l : Launch) (Z : State) (a0 : Array Value) (hw : ∀ d ∈ tables_1, d.before a0 Z = true) (ws : List Jvm.Cond) (a1 : Addr) (a2 : Addr) (cs : Int32) (t1 : Addr) (t2 : Addr) (k1 : ClassId) (k2 : ClassId) (y0 : Int32) (y1 : Int32) (y2 : Int32) (y3 : Int32) (h0 : Heap) (n0 : Nat) (Z0 : n0 ≤ h0.size) (E2 : Exa Z h0 a2 "java/lang/String") (SC : Sta Z h0 "java/lang/String" "COMPACT_STRINGS" "Z" (.int cs)) (hcs : ¬ (cs = (0 : Int32))) (C1 : Fld Z h0 a1 "java/lang/String" "coder" "B" (.int 0)) (C2 : Fld Z h0 a2 "java/lang/String" "coder" "B" (.int 0)) (W1 : Fld Z h0 a1 "java/lang/String" "value" "[B" (.ref t1)) (W2 : Fld Z h0 a2 "java/lang/String" "value" "[B" (.ref t2)) (V1 : Arv Z h0 t1 k1 .byte (4 : Int32) [(.int y0), (.int y1), (.int y2), (.int y3)] (.int 0)) (V2 : Arv Z h0 t2 k2 .byte (4 : Int32) [(.int y0), (.int y1), (.int y2), (.int y3)] (.int 0)) :
    own_M l own_y28 jdk_42_method_66_code 3 (some .boolean) ws (own_R 1 0 0 14) Z h0 #[(.ref a1), (.ref a2)] (QEq_4 Z a1 a2 cs t1 t2 k1 k2 y0 y1 y2 y3 h0 n0) := by
  refine MetFree.of_bodySF (plainFor_of_name pn_java_lang_String) hisR ?_
  intro p e s m args below meth c s₁ Bd hml0 hP hK
  obtain ⟨rfl, hZ, hh⟩ := hP
  have hx := Bd.exec
  have hby := Bd.bytes
  have hml : c.maxLocals = 3 := hml0
  have hown : s.vm.findClass "java/lang/String" = some m.cls := findClass_of_methodNamed Bd.named
  have hnm := (name_of_methodNamed Bd.named Bd.method).1
  have X0 : Stand p l e (own_R 1 0 0 14) s m #[(.ref a1), (.ref a2)] below meth c s₁ [] 0 0 := Stand.of_body Bd
  have e0 : s₁.heap = h0 := by rw [← hh, Bd.state]; rfl
  have N0 := Fr.nil n0
  have pre0 : own_P p e below s₁ (entryFrame m #[(.ref a1), (.ref a2)] 3) s₁ (mkF m 0 #[rv a1, rv a2, .unset] []) := fun t k => castTop (ef_rmEq_4 m a1 a2) k
  have pre102 : own_P p e below s₁ (entryFrame m #[(.ref a1), (.ref a2)] 3) s₁ (mkF m 2 #[rv a1, rv a2, .unset] [(.ref a2), (.ref a1)]) := fun t k => pre0 t (by
    show Steps p.tables e below (s₁.setTop (mkF m 0 #[rv a1, rv a2, .unset] [])) t
    refine XS.aloadN X0.here hx rfl (hb hby d18_0) rfl rfl ?_
    refine XS.aloadN X0.here hx rfl (hb hby d18_1) rfl rfl ?_
    exact k)
  by_cases hc101 : a1 = a2
  · have pre103 : own_P p e below s₁ (entryFrame m #[(.ref a1), (.ref a2)] 3) s₁ (mkF m 6 #[rv a1, rv a2, .unset] [(.int 1)]) := fun t k => pre102 t (by
      refine Jvm.RoadKit.acmp (g := (mkF m 2 #[rv a1, rv a2, .unset] [(.ref a2), (.ref a1)])) X0 hx rfl rfl rfl (pc0 := 2) (pc' := 5) (same := true) rfl (hb hby d18_2) rfl (decide_eq_true (congrArg Value.ref hc101)) (by decide) (by decide) ?_
      refine XS.iconst X0.here hx rfl (hb hby d18_5) ?_
      exact k)
    obtain ⟨fs, hr, hrun, hended, hW, hsame⟩ := X0.leave (v := some (.int 1)) (fun h => by rw [Bd.returns] at h; cases h)
    refine ⟨_, _, pre103 _ ?_, hrun, hended, _, _, rfl, ?_, ⟨_, rfl⟩, hW, hsame.mono (by decide) (by decide)⟩
    · exact retN X0 hx (t := .boolean) Bd.returns (by simp) (hb hby d18_6) hr
    · show QEq_4 Z a1 a2 cs t1 t2 k1 k2 y0 y1 y2 y3 h0 n0 _ s₁.heap _
      rw [e0]
      exact ⟨rfl, N0, rfl⟩
  · obtain ⟨T104, X104, e104, st104⟩ := instY X0 hx hZ hown (own_i hw 82 rfl) e0 (Ins.self E2) (g := (mkF m 8 #[rv a1, rv a2, .unset] [(.ref a2)])) rfl rfl (hb hby d18_8)
    obtain ⟨T105, X105, e105, st105⟩ := castY X104 hx hZ hown (own_i hw 82 rfl) e104 (Ins.self E2) (g := (mkF m 15 #[rv a1, rv a2, .unset] [(.ref a2)])) rfl rfl (hb hby d18_15)
    obtain ⟨T106, X106, e106, st106⟩ := getS2 X105 hx hZ hown (host := "") (Or.inl (own_i hw 25 rfl)) Via.refl e105 SC (g := (mkF m 19 #[rv a1, rv a2, rv a2] [])) rfl (hb hby d18_19)
    obtain ⟨T107, X107, e107, st107⟩ := getF X106 hx hZ hown (host := "") (Or.inl (own_i hw 37 rfl)) Via.refl e106 C1 (g := (mkF m 26 #[rv a1, rv a2, rv a2] [(.ref a1)])) rfl rfl (hb hby d18_26)
    obtain ⟨T108, X108, e108, st108⟩ := getF X107 hx hZ hown (host := "") (Or.inl (own_i hw 37 rfl)) Via.refl e107 C2 (g := (mkF m 30 #[rv a1, rv a2, rv a2] [(.ref a2), (.int 0)])) rfl rfl (hb hby d18_30)
    obtain ⟨T109, X109, e109, st109⟩ := getF X108 hx hZ hown (host := "") (Or.inl (own_i hw 39 rfl)) Via.refl e108 W1 (g := (mkF m 37 #[rv a1, rv a2, rv a2] [(.ref a1)])) rfl rfl (hb hby d18_37)
    obtain ⟨T110, X110, e110, st110⟩ := getF X109 hx hZ hown (host := "") (Or.inl (own_i hw 39 rfl)) Via.refl e109 W2 (g := (mkF m 41 #[rv a1, rv a2, rv a2] [(.ref a2), (.ref t1)])) rfl rfl (hb hby d18_41)
    obtain ⟨_, _, ⟨T111, L111, k111, n111⟩, -, X111, ⟨Lc111, hQ111, l111, y111, z111⟩, st111⟩ := Jvm.LawKit.callS X110 hx (y := own_y27) hown (own_m hZ hw 83) (own_m hZ hw 84) (own_m hZ hw 85) (own_m hZ hw 86) (by decide) (backOf (W := 0) (rmLe_4 l Z a0 hw [] t1 t2 k1 k2 y0 y1 y2 y3 h0 n0 Z0 V1 V2) hZ (own_i hw 86 rfl) (own_i hw 85 rfl) (by decide) (by decide)) (g := (mkF m 44 #[rv a1, rv a2, rv a2] [(.ref t2), (.ref t1)])) rfl (by rw [hml]; rfl) (argsL := [(.ref t1), (.ref t2)]) (rest := []) (lenOf pd_20 rfl) rfl (Nat.le_of_eq rfl) (hb hby d18_44) (fun _ _ => ⟨rfl, e110, (by decide : 0 + 0 ≤ _), (by decide : 0 + 0 ≤ _)⟩)
    dsimp only [Pt.U, Pt.locs, Pt.cells, Pt.slots] at X111 l111 y111 z111 st111 hQ111
    subst l111 y111 z111
    obtain ⟨rfl, N111q, e111⟩ := hQ111
    have N111 := Fr.app N0 N111q
    have pre112 : own_P p e below s₁ (entryFrame m #[(.ref a1), (.ref a2)] 3) T111 (mkF m 55 #[rv a1, rv a2, rv a2] [(.int 1)]) := fun t k => pre102 t (by
      refine Jvm.RoadKit.acmp (g := (mkF m 2 #[rv a1, rv a2, .unset] [(.ref a2), (.ref a1)])) X0 hx rfl rfl rfl (pc0 := 2) (pc' := 7) (same := false) rfl (hb hby d18_2) rfl (decide_eq_false fun q => hc101 (Value.ref.inj q)) (by decide) (by decide) ?_
      refine XS.aloadN X0.here hx rfl (hb hby d18_7) rfl rfl ?_
      refine st104 _ ?_
      refine XS.ifNo X104.here hx rfl (hb hby d18_11) rfl ((if0 _ _).trans (feq (by decide : ¬ ((1 : Int32) = (0 : Int32)))).1) ?_
      refine XS.aloadN X104.here hx rfl (hb hby d18_14) rfl rfl ?_
      refine st105 _ ?_
      refine XS.astoreN X105.here hx rfl (hb hby d18_18) rfl rfl (l' := #[rv a1, rv a2, rv a2]) rfl ?_
      refine st106 _ ?_
      refine XS.ifNo X106.here hx rfl (hb hby d18_22) rfl ((if0 _ _).trans (feq hcs).1) ?_
      refine XS.aloadN X106.here hx rfl (hb hby d18_25) rfl rfl ?_
      refine st107 _ ?_
      refine XS.aloadN X107.here hx rfl (hb hby d18_29) rfl rfl ?_
      refine st108 _ ?_
      refine XS.icmpNo X108.here hx rfl (hb hby d18_33) rfl (teq (by decide : (0 : Int32) = (0 : Int32))).2 ?_
      refine XS.aloadN X108.here hx rfl (hb hby d18_36) rfl rfl ?_
      refine st109 _ ?_
      refine XS.aloadN X109.here hx rfl (hb hby d18_40) rfl rfl ?_
      refine st110 _ ?_
      refine st111 _ ?_
      refine XS.ifNo X111.here hx rfl (hb hby d18_47) rfl ((if0 _ _).trans (feq (by decide : ¬ ((1 : Int32) = (0 : Int32)))).1) ?_
      refine XS.iconst X111.here hx rfl (hb hby d18_50) ?_
      refine XS.goto X111.here hx rfl (pc0 := 51) (pc' := 55) rfl (hb hby d18_51) (by decide) (by decide) ?_
      exact k)
    obtain ⟨fs, hr, hrun, hended, hW, hsame⟩ := X111.leave (v := some (.int 1)) (fun h => by rw [Bd.returns] at h; cases h)
    refine ⟨_, _, pre112 _ ?_, hrun, hended, _, _, rfl, ?_, ⟨_, rfl⟩, hW, hsame.mono (by decide) (by decide)⟩
    · exact retN X111 hx (t := .boolean) Bd.returns (by simp) (hb hby d18_55) hr
    · show QEq_4 Z a1 a2 cs t1 t2 k1 k2 y0 y1 y2 y3 h0 n0 _ T111.heap _
      rw [e111]
      exact ⟨rfl, N111, rfl⟩
theorem own_and3 (x : Int32) : x &&& (3 : Int32) = (0 : Int32) ∨ x &&& (3 : Int32) = (1 : Int32) ∨ x &&& (3 : Int32) = (2 : Int32) ∨ x &&& (3 : Int32) = (3 : Int32) := by
  have h : (x &&& 3).toInt = 0 ∨ (x &&& 3).toInt = 1 ∨ (x &&& 3).toInt = 2 ∨ (x &&& 3).toInt = 3 := by
    have e : (x &&& 3).toInt = x.toInt % 2 ^ 2 := Jvm.Kit.i32_mask x 3 (k := 2) (by decide) (by decide)
    omega
  have q : ∀ k : Int32, (x &&& 3).toInt = k.toInt → x &&& 3 = k := fun k hk => Int32.toInt_inj.mp hk
  rcases h with h | h | h | h
  · exact Or.inl (q 0 h)
  · exact Or.inr (Or.inl (q 1 h))
  · exact Or.inr (Or.inr (Or.inl (q 2 h)))
  · exact Or.inr (Or.inr (Or.inr (q 3 h)))
set_option maxRecDepth 100000 in
theorem own_w_1_0 : ∀ k0 : Fin 10, (((Int32.ofNat k0.val) < (1000 : Int32)) ∧ ((Int32.ofNat k0.val) < (100 : Int32)) ∧ ((Int32.ofNat k0.val) < (10 : Int32)) ∧ (own_D (Int32.ofNat k0.val)) ∧ ((Int32.ofNat k0.val) = (Int32.ofNat k0.val))) := by decide +kernel
theorem own_v_1_0 {d0 : Int32} (h0 : own_D d0)  : (d0 < (1000 : Int32)) ∧ (d0 < (100 : Int32)) ∧ (d0 < (10 : Int32)) ∧ (own_D d0) ∧ (d0 = d0) := by
  obtain ⟨k0, rfl⟩ := own_cases h0
  exact own_w_1_0 k0 
set_option maxRecDepth 100000 in
theorem own_w_2_0 : ∀ k0 k1 : Fin 10, (¬ ((Int32.ofNat k0.val) = (0 : Int32))) → (((((Int32.ofNat k0.val) * (10 : Int32)) + (Int32.ofNat k1.val)) < (1000 : Int32)) ∧ ((((Int32.ofNat k0.val) * (10 : Int32)) + (Int32.ofNat k1.val)) < (100 : Int32)) ∧ (¬ ((((Int32.ofNat k0.val) * (10 : Int32)) + (Int32.ofNat k1.val)) < (10 : Int32))) ∧ (own_D ((((Int32.ofNat k0.val) * (10 : Int32)) + (Int32.ofNat k1.val)) / (10 : Int32))) ∧ (own_D ((((Int32.ofNat k0.val) * (10 : Int32)) + (Int32.ofNat k1.val)) % (10 : Int32))) ∧ (((((Int32.ofNat k0.val) * (10 : Int32)) + (Int32.ofNat k1.val)) / (10 : Int32)) = (Int32.ofNat k0.val)) ∧ (((((Int32.ofNat k0.val) * (10 : Int32)) + (Int32.ofNat k1.val)) % (10 : Int32)) = (Int32.ofNat k1.val))) := by decide +kernel
theorem own_v_2_0 {d0 d1 : Int32} (h0 : own_D d0) (h1 : own_D d1) (z0 : ¬ (d0 = (0 : Int32))) : (((d0 * (10 : Int32)) + d1) < (1000 : Int32)) ∧ (((d0 * (10 : Int32)) + d1) < (100 : Int32)) ∧ (¬ (((d0 * (10 : Int32)) + d1) < (10 : Int32))) ∧ (own_D (((d0 * (10 : Int32)) + d1) / (10 : Int32))) ∧ (own_D (((d0 * (10 : Int32)) + d1) % (10 : Int32))) ∧ ((((d0 * (10 : Int32)) + d1) / (10 : Int32)) = d0) ∧ ((((d0 * (10 : Int32)) + d1) % (10 : Int32)) = d1) := by
  obtain ⟨k0, rfl⟩ := own_cases h0
  obtain ⟨k1, rfl⟩ := own_cases h1
  exact own_w_2_0 k0 k1 z0
set_option maxRecDepth 100000 in
theorem own_w_2_1 : ∀ k0 k1 : Fin 10, ((Int32.ofNat k0.val) = (0 : Int32)) → (((((Int32.ofNat k0.val) * (10 : Int32)) + (Int32.ofNat k1.val)) < (1000 : Int32)) ∧ ((((Int32.ofNat k0.val) * (10 : Int32)) + (Int32.ofNat k1.val)) < (100 : Int32)) ∧ ((((Int32.ofNat k0.val) * (10 : Int32)) + (Int32.ofNat k1.val)) < (10 : Int32)) ∧ (own_D (((Int32.ofNat k0.val) * (10 : Int32)) + (Int32.ofNat k1.val))) ∧ ((((Int32.ofNat k0.val) * (10 : Int32)) + (Int32.ofNat k1.val)) = (Int32.ofNat k1.val))) := by decide +kernel
theorem own_v_2_1 {d0 d1 : Int32} (h0 : own_D d0) (h1 : own_D d1) (z0 : d0 = (0 : Int32)) : (((d0 * (10 : Int32)) + d1) < (1000 : Int32)) ∧ (((d0 * (10 : Int32)) + d1) < (100 : Int32)) ∧ (((d0 * (10 : Int32)) + d1) < (10 : Int32)) ∧ (own_D ((d0 * (10 : Int32)) + d1)) ∧ (((d0 * (10 : Int32)) + d1) = d1) := by
  obtain ⟨k0, rfl⟩ := own_cases h0
  obtain ⟨k1, rfl⟩ := own_cases h1
  exact own_w_2_1 k0 k1 z0
theorem own_lead_2 (d0 d1 : Int32) : (¬ (d0 = (0 : Int32))) ∨ (d0 = (0 : Int32)) := by
  by_cases e0 : d0 = (0 : Int32) <;> simp_all
set_option maxRecDepth 100000 in
theorem own_w_3_0 : ∀ k0 k1 k2 : Fin 10, (¬ ((Int32.ofNat k0.val) = (0 : Int32))) → (((((((Int32.ofNat k0.val) * (10 : Int32)) + (Int32.ofNat k1.val)) * (10 : Int32)) + (Int32.ofNat k2.val)) < (1000 : Int32)) ∧ (¬ ((((((Int32.ofNat k0.val) * (10 : Int32)) + (Int32.ofNat k1.val)) * (10 : Int32)) + (Int32.ofNat k2.val)) < (100 : Int32))) ∧ (own_D ((((((Int32.ofNat k0.val) * (10 : Int32)) + (Int32.ofNat k1.val)) * (10 : Int32)) + (Int32.ofNat k2.val)) / (100 : Int32))) ∧ (own_D (((((((Int32.ofNat k0.val) * (10 : Int32)) + (Int32.ofNat k1.val)) * (10 : Int32)) + (Int32.ofNat k2.val)) / (10 : Int32)) % (10 : Int32))) ∧ (own_D ((((((Int32.ofNat k0.val) * (10 : Int32)) + (Int32.ofNat k1.val)) * (10 : Int32)) + (Int32.ofNat k2.val)) % (10 : Int32))) ∧ (((((((Int32.ofNat k0.val) * (10 : Int32)) + (Int32.ofNat k1.val)) * (10 : Int32)) + (Int32.ofNat k2.val)) / (100 : Int32)) = (Int32.ofNat k0.val)) ∧ ((((((((Int32.ofNat k0.val) * (10 : Int32)) + (Int32.ofNat k1.val)) * (10 : Int32)) + (Int32.ofNat k2.val)) / (10 : Int32)) % (10 : Int32)) = (Int32.ofNat k1.val)) ∧ (((((((Int32.ofNat k0.val) * (10 : Int32)) + (Int32.ofNat k1.val)) * (10 : Int32)) + (Int32.ofNat k2.val)) % (10 : Int32)) = (Int32.ofNat k2.val))) := by decide +kernel
theorem own_v_3_0 {d0 d1 d2 : Int32} (h0 : own_D d0) (h1 : own_D d1) (h2 : own_D d2) (z0 : ¬ (d0 = (0 : Int32))) : (((((d0 * (10 : Int32)) + d1) * (10 : Int32)) + d2) < (1000 : Int32)) ∧ (¬ (((((d0 * (10 : Int32)) + d1) * (10 : Int32)) + d2) < (100 : Int32))) ∧ (own_D (((((d0 * (10 : Int32)) + d1) * (10 : Int32)) + d2) / (100 : Int32))) ∧ (own_D ((((((d0 * (10 : Int32)) + d1) * (10 : Int32)) + d2) / (10 : Int32)) % (10 : Int32))) ∧ (own_D (((((d0 * (10 : Int32)) + d1) * (10 : Int32)) + d2) % (10 : Int32))) ∧ ((((((d0 * (10 : Int32)) + d1) * (10 : Int32)) + d2) / (100 : Int32)) = d0) ∧ (((((((d0 * (10 : Int32)) + d1) * (10 : Int32)) + d2) / (10 : Int32)) % (10 : Int32)) = d1) ∧ ((((((d0 * (10 : Int32)) + d1) * (10 : Int32)) + d2) % (10 : Int32)) = d2) := by
  obtain ⟨k0, rfl⟩ := own_cases h0
  obtain ⟨k1, rfl⟩ := own_cases h1
  obtain ⟨k2, rfl⟩ := own_cases h2
  exact own_w_3_0 k0 k1 k2 z0
set_option maxRecDepth 100000 in
theorem own_w_3_1 : ∀ k0 k1 k2 : Fin 10, ((Int32.ofNat k0.val) = (0 : Int32)) → (¬ ((Int32.ofNat k1.val) = (0 : Int32))) → (((((((Int32.ofNat k0.val) * (10 : Int32)) + (Int32.ofNat k1.val)) * (10 : Int32)) + (Int32.ofNat k2.val)) < (1000 : Int32)) ∧ ((((((Int32.ofNat k0.val) * (10 : Int32)) + (Int32.ofNat k1.val)) * (10 : Int32)) + (Int32.ofNat k2.val)) < (100 : Int32)) ∧ (¬ ((((((Int32.ofNat k0.val) * (10 : Int32)) + (Int32.ofNat k1.val)) * (10 : Int32)) + (Int32.ofNat k2.val)) < (10 : Int32))) ∧ (own_D ((((((Int32.ofNat k0.val) * (10 : Int32)) + (Int32.ofNat k1.val)) * (10 : Int32)) + (Int32.ofNat k2.val)) / (10 : Int32))) ∧ (own_D ((((((Int32.ofNat k0.val) * (10 : Int32)) + (Int32.ofNat k1.val)) * (10 : Int32)) + (Int32.ofNat k2.val)) % (10 : Int32))) ∧ (((((((Int32.ofNat k0.val) * (10 : Int32)) + (Int32.ofNat k1.val)) * (10 : Int32)) + (Int32.ofNat k2.val)) / (10 : Int32)) = (Int32.ofNat k1.val)) ∧ (((((((Int32.ofNat k0.val) * (10 : Int32)) + (Int32.ofNat k1.val)) * (10 : Int32)) + (Int32.ofNat k2.val)) % (10 : Int32)) = (Int32.ofNat k2.val))) := by decide +kernel
theorem own_v_3_1 {d0 d1 d2 : Int32} (h0 : own_D d0) (h1 : own_D d1) (h2 : own_D d2) (z0 : d0 = (0 : Int32)) (z1 : ¬ (d1 = (0 : Int32))) : (((((d0 * (10 : Int32)) + d1) * (10 : Int32)) + d2) < (1000 : Int32)) ∧ (((((d0 * (10 : Int32)) + d1) * (10 : Int32)) + d2) < (100 : Int32)) ∧ (¬ (((((d0 * (10 : Int32)) + d1) * (10 : Int32)) + d2) < (10 : Int32))) ∧ (own_D (((((d0 * (10 : Int32)) + d1) * (10 : Int32)) + d2) / (10 : Int32))) ∧ (own_D (((((d0 * (10 : Int32)) + d1) * (10 : Int32)) + d2) % (10 : Int32))) ∧ ((((((d0 * (10 : Int32)) + d1) * (10 : Int32)) + d2) / (10 : Int32)) = d1) ∧ ((((((d0 * (10 : Int32)) + d1) * (10 : Int32)) + d2) % (10 : Int32)) = d2) := by
  obtain ⟨k0, rfl⟩ := own_cases h0
  obtain ⟨k1, rfl⟩ := own_cases h1
  obtain ⟨k2, rfl⟩ := own_cases h2
  exact own_w_3_1 k0 k1 k2 z0 z1
set_option maxRecDepth 100000 in
theorem own_w_3_2 : ∀ k0 k1 k2 : Fin 10, ((Int32.ofNat k0.val) = (0 : Int32)) → ((Int32.ofNat k1.val) = (0 : Int32)) → (((((((Int32.ofNat k0.val) * (10 : Int32)) + (Int32.ofNat k1.val)) * (10 : Int32)) + (Int32.ofNat k2.val)) < (1000 : Int32)) ∧ ((((((Int32.ofNat k0.val) * (10 : Int32)) + (Int32.ofNat k1.val)) * (10 : Int32)) + (Int32.ofNat k2.val)) < (100 : Int32)) ∧ ((((((Int32.ofNat k0.val) * (10 : Int32)) + (Int32.ofNat k1.val)) * (10 : Int32)) + (Int32.ofNat k2.val)) < (10 : Int32)) ∧ (own_D (((((Int32.ofNat k0.val) * (10 : Int32)) + (Int32.ofNat k1.val)) * (10 : Int32)) + (Int32.ofNat k2.val))) ∧ ((((((Int32.ofNat k0.val) * (10 : Int32)) + (Int32.ofNat k1.val)) * (10 : Int32)) + (Int32.ofNat k2.val)) = (Int32.ofNat k2.val))) := by decide +kernel
theorem own_v_3_2 {d0 d1 d2 : Int32} (h0 : own_D d0) (h1 : own_D d1) (h2 : own_D d2) (z0 : d0 = (0 : Int32)) (z1 : d1 = (0 : Int32)) : (((((d0 * (10 : Int32)) + d1) * (10 : Int32)) + d2) < (1000 : Int32)) ∧ (((((d0 * (10 : Int32)) + d1) * (10 : Int32)) + d2) < (100 : Int32)) ∧ (((((d0 * (10 : Int32)) + d1) * (10 : Int32)) + d2) < (10 : Int32)) ∧ (own_D ((((d0 * (10 : Int32)) + d1) * (10 : Int32)) + d2)) ∧ (((((d0 * (10 : Int32)) + d1) * (10 : Int32)) + d2) = d2) := by
  obtain ⟨k0, rfl⟩ := own_cases h0
  obtain ⟨k1, rfl⟩ := own_cases h1
  obtain ⟨k2, rfl⟩ := own_cases h2
  exact own_w_3_2 k0 k1 k2 z0 z1
theorem own_lead_3 (d0 d1 d2 : Int32) : (¬ (d0 = (0 : Int32))) ∨ (d0 = (0 : Int32) ∧ ¬ (d1 = (0 : Int32))) ∨ (d0 = (0 : Int32) ∧ d1 = (0 : Int32)) := by
  by_cases e0 : d0 = (0 : Int32) <;> by_cases e1 : d1 = (0 : Int32) <;> simp_all
set_option maxRecDepth 100000 in
theorem own_w_4_0 : ∀ k0 k1 k2 k3 : Fin 10, (¬ ((Int32.ofNat k0.val) = (0 : Int32))) → ((¬ ((((((((Int32.ofNat k0.val) * (10 : Int32)) + (Int32.ofNat k1.val)) * (10 : Int32)) + (Int32.ofNat k2.val)) * (10 : Int32)) + (Int32.ofNat k3.val)) < (1000 : Int32))) ∧ (own_D ((((((((Int32.ofNat k0.val) * (10 : Int32)) + (Int32.ofNat k1.val)) * (10 : Int32)) + (Int32.ofNat k2.val)) * (10 : Int32)) + (Int32.ofNat k3.val)) / (1000 : Int32))) ∧ (own_D (((((((((Int32.ofNat k0.val) * (10 : Int32)) + (Int32.ofNat k1.val)) * (10 : Int32)) + (Int32.ofNat k2.val)) * (10 : Int32)) + (Int32.ofNat k3.val)) / (100 : Int32)) % (10 : Int32))) ∧ (own_D (((((((((Int32.ofNat k0.val) * (10 : Int32)) + (Int32.ofNat k1.val)) * (10 : Int32)) + (Int32.ofNat k2.val)) * (10 : Int32)) + (Int32.ofNat k3.val)) / (10 : Int32)) % (10 : Int32))) ∧ (own_D ((((((((Int32.ofNat k0.val) * (10 : Int32)) + (Int32.ofNat k1.val)) * (10 : Int32)) + (Int32.ofNat k2.val)) * (10 : Int32)) + (Int32.ofNat k3.val)) % (10 : Int32))) ∧ (((((((((Int32.ofNat k0.val) * (10 : Int32)) + (Int32.ofNat k1.val)) * (10 : Int32)) + (Int32.ofNat k2.val)) * (10 : Int32)) + (Int32.ofNat k3.val)) / (1000 : Int32)) = (Int32.ofNat k0.val)) ∧ ((((((((((Int32.ofNat k0.val) * (10 : Int32)) + (Int32.ofNat k1.val)) * (10 : Int32)) + (Int32.ofNat k2.val)) * (10 : Int32)) + (Int32.ofNat k3.val)) / (100 : Int32)) % (10 : Int32)) = (Int32.ofNat k1.val)) ∧ ((((((((((Int32.ofNat k0.val) * (10 : Int32)) + (Int32.ofNat k1.val)) * (10 : Int32)) + (Int32.ofNat k2.val)) * (10 : Int32)) + (Int32.ofNat k3.val)) / (10 : Int32)) % (10 : Int32)) = (Int32.ofNat k2.val)) ∧ (((((((((Int32.ofNat k0.val) * (10 : Int32)) + (Int32.ofNat k1.val)) * (10 : Int32)) + (Int32.ofNat k2.val)) * (10 : Int32)) + (Int32.ofNat k3.val)) % (10 : Int32)) = (Int32.ofNat k3.val))) := by decide +kernel
theorem own_v_4_0 {d0 d1 d2 d3 : Int32} (h0 : own_D d0) (h1 : own_D d1) (h2 : own_D d2) (h3 : own_D d3) (z0 : ¬ (d0 = (0 : Int32))) : (¬ (((((((d0 * (10 : Int32)) + d1) * (10 : Int32)) + d2) * (10 : Int32)) + d3) < (1000 : Int32))) ∧ (own_D (((((((d0 * (10 : Int32)) + d1) * (10 : Int32)) + d2) * (10 : Int32)) + d3) / (1000 : Int32))) ∧ (own_D ((((((((d0 * (10 : Int32)) + d1) * (10 : Int32)) + d2) * (10 : Int32)) + d3) / (100 : Int32)) % (10 : Int32))) ∧ (own_D ((((((((d0 * (10 : Int32)) + d1) * (10 : Int32)) + d2) * (10 : Int32)) + d3) / (10 : Int32)) % (10 : Int32))) ∧ (own_D (((((((d0 * (10 : Int32)) + d1) * (10 : Int32)) + d2) * (10 : Int32)) + d3) % (10 : Int32))) ∧ ((((((((d0 * (10 : Int32)) + d1) * (10 : Int32)) + d2) * (10 : Int32)) + d3) / (1000 : Int32)) = d0) ∧ (((((((((d0 * (10 : Int32)) + d1) * (10 : Int32)) + d2) * (10 : Int32)) + d3) / (100 : Int32)) % (10 : Int32)) = d1) ∧ (((((((((d0 * (10 : Int32)) + d1) * (10 : Int32)) + d2) * (10 : Int32)) + d3) / (10 : Int32)) % (10 : Int32)) = d2) ∧ ((((((((d0 * (10 : Int32)) + d1) * (10 : Int32)) + d2) * (10 : Int32)) + d3) % (10 : Int32)) = d3) := by
  obtain ⟨k0, rfl⟩ := own_cases h0
  obtain ⟨k1, rfl⟩ := own_cases h1
  obtain ⟨k2, rfl⟩ := own_cases h2
  obtain ⟨k3, rfl⟩ := own_cases h3
  exact own_w_4_0 k0 k1 k2 k3 z0
set_option maxRecDepth 100000 in
theorem own_w_4_1 : ∀ k0 k1 k2 k3 : Fin 10, ((Int32.ofNat k0.val) = (0 : Int32)) → (¬ ((Int32.ofNat k1.val) = (0 : Int32))) → (((((((((Int32.ofNat k0.val) * (10 : Int32)) + (Int32.ofNat k1.val)) * (10 : Int32)) + (Int32.ofNat k2.val)) * (10 : Int32)) + (Int32.ofNat k3.val)) < (1000 : Int32)) ∧ (¬ ((((((((Int32.ofNat k0.val) * (10 : Int32)) + (Int32.ofNat k1.val)) * (10 : Int32)) + (Int32.ofNat k2.val)) * (10 : Int32)) + (Int32.ofNat k3.val)) < (100 : Int32))) ∧ (own_D ((((((((Int32.ofNat k0.val) * (10 : Int32)) + (Int32.ofNat k1.val)) * (10 : Int32)) + (Int32.ofNat k2.val)) * (10 : Int32)) + (Int32.ofNat k3.val)) / (100 : Int32))) ∧ (own_D (((((((((Int32.ofNat k0.val) * (10 : Int32)) + (Int32.ofNat k1.val)) * (10 : Int32)) + (Int32.ofNat k2.val)) * (10 : Int32)) + (Int32.ofNat k3.val)) / (10 : Int32)) % (10 : Int32))) ∧ (own_D ((((((((Int32.ofNat k0.val) * (10 : Int32)) + (Int32.ofNat k1.val)) * (10 : Int32)) + (Int32.ofNat k2.val)) * (10 : Int32)) + (Int32.ofNat k3.val)) % (10 : Int32))) ∧ (((((((((Int32.ofNat k0.val) * (10 : Int32)) + (Int32.ofNat k1.val)) * (10 : Int32)) + (Int32.ofNat k2.val)) * (10 : Int32)) + (Int32.ofNat k3.val)) / (100 : Int32)) = (Int32.ofNat k1.val)) ∧ ((((((((((Int32.ofNat k0.val) * (10 : Int32)) + (Int32.ofNat k1.val)) * (10 : Int32)) + (Int32.ofNat k2.val)) * (10 : Int32)) + (Int32.ofNat k3.val)) / (10 : Int32)) % (10 : Int32)) = (Int32.ofNat k2.val)) ∧ (((((((((Int32.ofNat k0.val) * (10 : Int32)) + (Int32.ofNat k1.val)) * (10 : Int32)) + (Int32.ofNat k2.val)) * (10 : Int32)) + (Int32.ofNat k3.val)) % (10 : Int32)) = (Int32.ofNat k3.val))) := by decide +kernel
theorem own_v_4_1 {d0 d1 d2 d3 : Int32} (h0 : own_D d0) (h1 : own_D d1) (h2 : own_D d2) (h3 : own_D d3) (z0 : d0 = (0 : Int32)) (z1 : ¬ (d1 = (0 : Int32))) : (((((((d0 * (10 : Int32)) + d1) * (10 : Int32)) + d2) * (10 : Int32)) + d3) < (1000 : Int32)) ∧ (¬ (((((((d0 * (10 : Int32)) + d1) * (10 : Int32)) + d2) * (10 : Int32)) + d3) < (100 : Int32))) ∧ (own_D (((((((d0 * (10 : Int32)) + d1) * (10 : Int32)) + d2) * (10 : Int32)) + d3) / (100 : Int32))) ∧ (own_D ((((((((d0 * (10 : Int32)) + d1) * (10 : Int32)) + d2) * (10 : Int32)) + d3) / (10 : Int32)) % (10 : Int32))) ∧ (own_D (((((((d0 * (10 : Int32)) + d1) * (10 : Int32)) + d2) * (10 : Int32)) + d3) % (10 : Int32))) ∧ ((((((((d0 * (10 : Int32)) + d1) * (10 : Int32)) + d2) * (10 : Int32)) + d3) / (100 : Int32)) = d1) ∧ (((((((((d0 * (10 : Int32)) + d1) * (10 : Int32)) + d2) * (10 : Int32)) + d3) / (10 : Int32)) % (10 : Int32)) = d2) ∧ ((((((((d0 * (10 : Int32)) + d1) * (10 : Int32)) + d2) * (10 : Int32)) + d3) % (10 : Int32)) = d3) := by
  obtain ⟨k0, rfl⟩ := own_cases h0
  obtain ⟨k1, rfl⟩ := own_cases h1
  obtain ⟨k2, rfl⟩ := own_cases h2
  obtain ⟨k3, rfl⟩ := own_cases h3
  exact own_w_4_1 k0 k1 k2 k3 z0 z1
set_option maxRecDepth 100000 in
theorem own_w_4_2 : ∀ k0 k1 k2 k3 : Fin 10, ((Int32.ofNat k0.val) = (0 : Int32)) → ((Int32.ofNat k1.val) = (0 : Int32)) → (¬ ((Int32.ofNat k2.val) = (0 : Int32))) → (((((((((Int32.ofNat k0.val) * (10 : Int32)) + (Int32.ofNat k1.val)) * (10 : Int32)) + (Int32.ofNat k2.val)) * (10 : Int32)) + (Int32.ofNat k3.val)) < (1000 : Int32)) ∧ ((((((((Int32.ofNat k0.val) * (10 : Int32)) + (Int32.ofNat k1.val)) * (10 : Int32)) + (Int32.ofNat k2.val)) * (10 : Int32)) + (Int32.ofNat k3.val)) < (100 : Int32)) ∧ (¬ ((((((((Int32.ofNat k0.val) * (10 : Int32)) + (Int32.ofNat k1.val)) * (10 : Int32)) + (Int32.ofNat k2.val)) * (10 : Int32)) + (Int32.ofNat k3.val)) < (10 : Int32))) ∧ (own_D ((((((((Int32.ofNat k0.val) * (10 : Int32)) + (Int32.ofNat k1.val)) * (10 : Int32)) + (Int32.ofNat k2.val)) * (10 : Int32)) + (Int32.ofNat k3.val)) / (10 : Int32))) ∧ (own_D ((((((((Int32.ofNat k0.val) * (10 : Int32)) + (Int32.ofNat k1.val)) * (10 : Int32)) + (Int32.ofNat k2.val)) * (10 : Int32)) + (Int32.ofNat k3.val)) % (10 : Int32))) ∧ (((((((((Int32.ofNat k0.val) * (10 : Int32)) + (Int32.ofNat k1.val)) * (10 : Int32)) + (Int32.ofNat k2.val)) * (10 : Int32)) + (Int32.ofNat k3.val)) / (10 : Int32)) = (Int32.ofNat k2.val)) ∧ (((((((((Int32.ofNat k0.val) * (10 : Int32)) + (Int32.ofNat k1.val)) * (10 : Int32)) + (Int32.ofNat k2.val)) * (10 : Int32)) + (Int32.ofNat k3.val)) % (10 : Int32)) = (Int32.ofNat k3.val))) := by decide +kernel
theorem own_v_4_2 {d0 d1 d2 d3 : Int32} (h0 : own_D d0) (h1 : own_D d1) (h2 : own_D d2) (h3 : own_D d3) (z0 : d0 = (0 : Int32)) (z1 : d1 = (0 : Int32)) (z2 : ¬ (d2 = (0 : Int32))) : (((((((d0 * (10 : Int32)) + d1) * (10 : Int32)) + d2) * (10 : Int32)) + d3) < (1000 : Int32)) ∧ (((((((d0 * (10 : Int32)) + d1) * (10 : Int32)) + d2) * (10 : Int32)) + d3) < (100 : Int32)) ∧ (¬ (((((((d0 * (10 : Int32)) + d1) * (10 : Int32)) + d2) * (10 : Int32)) + d3) < (10 : Int32))) ∧ (own_D (((((((d0 * (10 : Int32)) + d1) * (10 : Int32)) + d2) * (10 : Int32)) + d3) / (10 : Int32))) ∧ (own_D (((((((d0 * (10 : Int32)) + d1) * (10 : Int32)) + d2) * (10 : Int32)) + d3) % (10 : Int32))) ∧ ((((((((d0 * (10 : Int32)) + d1) * (10 : Int32)) + d2) * (10 : Int32)) + d3) / (10 : Int32)) = d2) ∧ ((((((((d0 * (10 : Int32)) + d1) * (10 : Int32)) + d2) * (10 : Int32)) + d3) % (10 : Int32)) = d3) := by
  obtain ⟨k0, rfl⟩ := own_cases h0
  obtain ⟨k1, rfl⟩ := own_cases h1
  obtain ⟨k2, rfl⟩ := own_cases h2
  obtain ⟨k3, rfl⟩ := own_cases h3
  exact own_w_4_2 k0 k1 k2 k3 z0 z1 z2
set_option maxRecDepth 100000 in
theorem own_w_4_3 : ∀ k0 k1 k2 k3 : Fin 10, ((Int32.ofNat k0.val) = (0 : Int32)) → ((Int32.ofNat k1.val) = (0 : Int32)) → ((Int32.ofNat k2.val) = (0 : Int32)) → (((((((((Int32.ofNat k0.val) * (10 : Int32)) + (Int32.ofNat k1.val)) * (10 : Int32)) + (Int32.ofNat k2.val)) * (10 : Int32)) + (Int32.ofNat k3.val)) < (1000 : Int32)) ∧ ((((((((Int32.ofNat k0.val) * (10 : Int32)) + (Int32.ofNat k1.val)) * (10 : Int32)) + (Int32.ofNat k2.val)) * (10 : Int32)) + (Int32.ofNat k3.val)) < (100 : Int32)) ∧ ((((((((Int32.ofNat k0.val) * (10 : Int32)) + (Int32.ofNat k1.val)) * (10 : Int32)) + (Int32.ofNat k2.val)) * (10 : Int32)) + (Int32.ofNat k3.val)) < (10 : Int32)) ∧ (own_D (((((((Int32.ofNat k0.val) * (10 : Int32)) + (Int32.ofNat k1.val)) * (10 : Int32)) + (Int32.ofNat k2.val)) * (10 : Int32)) + (Int32.ofNat k3.val))) ∧ ((((((((Int32.ofNat k0.val) * (10 : Int32)) + (Int32.ofNat k1.val)) * (10 : Int32)) + (Int32.ofNat k2.val)) * (10 : Int32)) + (Int32.ofNat k3.val)) = (Int32.ofNat k3.val))) := by decide +kernel
theorem own_v_4_3 {d0 d1 d2 d3 : Int32} (h0 : own_D d0) (h1 : own_D d1) (h2 : own_D d2) (h3 : own_D d3) (z0 : d0 = (0 : Int32)) (z1 : d1 = (0 : Int32)) (z2 : d2 = (0 : Int32)) : (((((((d0 * (10 : Int32)) + d1) * (10 : Int32)) + d2) * (10 : Int32)) + d3) < (1000 : Int32)) ∧ (((((((d0 * (10 : Int32)) + d1) * (10 : Int32)) + d2) * (10 : Int32)) + d3) < (100 : Int32)) ∧ (((((((d0 * (10 : Int32)) + d1) * (10 : Int32)) + d2) * (10 : Int32)) + d3) < (10 : Int32)) ∧ (own_D ((((((d0 * (10 : Int32)) + d1) * (10 : Int32)) + d2) * (10 : Int32)) + d3)) ∧ (((((((d0 * (10 : Int32)) + d1) * (10 : Int32)) + d2) * (10 : Int32)) + d3) = d3) := by
  obtain ⟨k0, rfl⟩ := own_cases h0
  obtain ⟨k1, rfl⟩ := own_cases h1
  obtain ⟨k2, rfl⟩ := own_cases h2
  obtain ⟨k3, rfl⟩ := own_cases h3
  exact own_w_4_3 k0 k1 k2 k3 z0 z1 z2
theorem own_lead_4 (d0 d1 d2 d3 : Int32) : (¬ (d0 = (0 : Int32))) ∨ (d0 = (0 : Int32) ∧ ¬ (d1 = (0 : Int32))) ∨ (d0 = (0 : Int32) ∧ d1 = (0 : Int32) ∧ ¬ (d2 = (0 : Int32))) ∨ (d0 = (0 : Int32) ∧ d1 = (0 : Int32) ∧ d2 = (0 : Int32)) := by
  by_cases e0 : d0 = (0 : Int32) <;> by_cases e1 : d1 = (0 : Int32) <;> by_cases e2 : d2 = (0 : Int32) <;> simp_all
theorem pd_21 : parseMethodDescriptor "(III)I" = some ⟨[.int, .int, .int], some .int⟩ := by decide +kernel
theorem pd_22 : parseMethodDescriptor "(IIIII)Ljava/lang/String;" = some ⟨[.int, .int, .int, .int, .int], some (.object "java/lang/String")⟩ := by decide +kernel
theorem pd_23 : parseMethodDescriptor "(Ljava/lang/String;)Ljava/lang/String;" = some ⟨[(.object "java/lang/String")], some (.object "java/lang/String")⟩ := by decide +kernel
theorem pd_24 : parseMethodDescriptor "(Ljava/lang/Object;)Z" = some ⟨[(.object "java/lang/Object")], some .boolean⟩ := by decide +kernel
theorem ef_rm0 (m : MethodId) (x0 : Int32) (x1 : Int32) (x2 : Int32) (x3 : Int32) (x4 : Int32) : entryFrame m #[(.int x0), (.int x1), (.int x2), (.int x3), (.int x4)] maxLocals = mkF m 0 #[iv x0, iv x1, iv x2, iv x3, iv x4, .unset, .unset, .unset, .unset, .unset, .unset, .unset, .unset, .unset] [] := by first | (simp [entryFrame, mkF, argsToLocals, Value.category, maxLocals]; done) | rfl
def Q0 (Z : State) (p1 : Int32) (p2 : Int32) (p3 : Int32) (p4 : Int32) (p5 : Int32) (cs : Int32) (vF : Value) (h0 : Heap) (n0 : Nat) (v : Option Value) (h : Heap) (L : List Loc) : Prop := v = some (.int 1) ∧ Fr n0 L
set_option maxRecDepth 65536 in
set_option maxHeartbeats 40000000 in
theorem rm0 (l : Launch) (Z : State) (a0 : Array Value) (hw : ∀ d ∈ tables_1, d.before a0 Z = true) (ws : List Jvm.Cond) (p1 : Int32) (p2 : Int32) (p3 : Int32) (p4 : Int32) (p5 : Int32) (cs : Int32) (vF : Value) (h0 : Heap) (n0 : Nat) (Z0 : n0 ≤ h0.size) (SC : Sta Z Z.heap "java/lang/String" "COMPACT_STRINGS" "Z" (.int cs)) (hcs : ¬ (cs = (0 : Int32))) (O0 : Old Z n0 h0) (SF : Sta Z Z.heap "jdk/internal/util/Preconditions" "SIOOBE_FORMATTER" "Ljava/util/function/BiFunction;" vF) (hF : vF.isRef = true) :
    MetFree l x (head1 (Jvm.Cond.code x code maxLocals ret :: ws) room_1) (fun a U => a = #[(.int p1), (.int p2), (.int p3), (.int p4), (.int p5)] ∧ Z.Warmed39 U.vm ∧ U.heap = h0) (fun _ _ _ _ _ => True) (fun _ U o U' => ∃ v L, o = .returned v ∧ Q0 Z p1 p2 p3 p4 p5 cs vF h0 n0 v U'.heap L ∧ FrameEnd U o U' L 8 29) := by
  refine MetFree.of_bodySF (plainFor_of_name pn_com_example_millipede_millipede_DecimalNumbersCanonicalPinLaw) hisR ?_
  intro p e s m args below meth c s₁ Bd hml0 hP hK
  obtain ⟨rfl, hZ, hh⟩ := hP
  have hx := Bd.exec
  have hby := Bd.bytes
  have hml : c.maxLocals = 14 := hml0
  have hown : s.vm.findClass "com/example/millipede/millipede/DecimalNumbersCanonicalPinLaw" = some m.cls := findClass_of_methodNamed Bd.named
  have hnm := (name_of_methodNamed Bd.named Bd.method).1
  have X0 : Stand p l e room_1 s m #[(.int p1), (.int p2), (.int p3), (.int p4), (.int p5)] below meth c s₁ [] 0 0 := Stand.of_body Bd
  have e0 : s₁.heap = h0 := by rw [← hh, Bd.state]; rfl
  have N0 := Fr.nil n0
  have pre0 : own_P p e below s₁ (entryFrame m #[(.int p1), (.int p2), (.int p3), (.int p4), (.int p5)] maxLocals) s₁ (mkF m 0 #[iv p1, iv p2, iv p3, iv p4, iv p5, .unset, .unset, .unset, .unset, .unset, .unset, .unset, .unset, .unset] []) := fun t k => castTop (ef_rm0 m p1 p2 p3 p4 p5) k
  have f101 := Keep.refl h0 []
  have pre102 : own_P p e below s₁ (entryFrame m #[(.int p1), (.int p2), (.int p3), (.int p4), (.int p5)] maxLocals) s₁ (mkF m 7 #[iv p1, iv p2, iv p3, iv p4, iv p5, iv ((1 : Int32) + (p1 &&& (3 : Int32))), .unset, .unset, .unset, .unset, .unset, .unset, .unset, .unset] []) := fun t k => pre0 t (by
    show Steps p.tables e below (s₁.setTop (mkF m 0 #[iv p1, iv p2, iv p3, iv p4, iv p5, .unset, .unset, .unset, .unset, .unset, .unset, .unset, .unset, .unset] [])) t
    refine XS.iconst X0.here hx rfl (hb hby at_0) ?_
    refine XS.iloadN X0.here hx rfl (hb hby at_1) rfl ?_
    refine XS.iconst X0.here hx rfl (hb hby at_2) ?_
    refine XS.iand X0.here hx rfl (hb hby at_3) rfl ?_
    refine XS.iadd X0.here hx rfl (hb hby at_4) rfl ?_
    refine XS.istore X0.here hx rfl (hb hby at_5) rfl (l' := #[iv p1, iv p2, iv p3, iv p4, iv p5, iv ((1 : Int32) + (p1 &&& (3 : Int32))), .unset, .unset, .unset, .unset, .unset, .unset, .unset, .unset]) rfl ?_
    exact k)
  rcases own_and3 p1 with hs103 | hs103 | hs103 | hs103
  · have pre104 : own_P p e below s₁ (entryFrame m #[(.int p1), (.int p2), (.int p3), (.int p4), (.int p5)] maxLocals) s₁ (mkF m 7 #[iv p1, iv p2, iv p3, iv p4, iv p5, iv 1, .unset, .unset, .unset, .unset, .unset, .unset, .unset, .unset] []) := fun t k => pre102 t (by rw [show ((1 : Int32) + (p1 &&& (3 : Int32))) = (1 : Int32) from (congrArg (fun z => (1 : Int32) + z) hs103)]; exact k)
    obtain ⟨_, _, ⟨T105, L105, k105, n105⟩, -, X105, ⟨Lc105, hQ105, l105, y105, z105⟩, st105⟩ := Jvm.LawKit.callS X0 hx (y := own_y5) hown (own_m hZ hw 0) (own_m hZ hw 1) (own_m hZ hw 2) (own_m hZ hw 3) (by decide) (backOf (W := 0) (rmDg l Z a0 hw [] p2 p1 (2 : Int32) h0 n0 Z0 ) hZ (own_i hw 3 rfl) (own_i hw 2 rfl) (by decide) (by decide)) (g := (mkF m 10 #[iv p1, iv p2, iv p3, iv p4, iv p5, iv 1, .unset, .unset, .unset, .unset, .unset, .unset, .unset, .unset] [(.int 2), (.int p1), (.int p2)])) rfl (by rw [hml]; rfl) (argsL := [(.int p2), (.int p1), (.int 2)]) (rest := []) (lenOf pd_21 rfl) rfl (Nat.le_of_eq rfl) (hb hby at_10) (fun _ _ => ⟨rfl, e0, (by decide : 0 + 0 ≤ _), (by decide : 0 + 0 ≤ _)⟩)
    dsimp only [Pt.U, Pt.locs, Pt.cells, Pt.slots] at X105 l105 y105 z105 st105 hQ105
    subst l105 y105 z105
    obtain ⟨rfl, N105q, e105⟩ := hQ105
    have N105 := Fr.app N0 N105q
    obtain ⟨d0, hE0⟩ : ∃ d, d = (own_dig p2 p1 (2 : Int32)) := ⟨_, rfl⟩
    have hD0 : own_D d0 := hE0 ▸ own_digD _ _ _
    have pre106 : own_P p e below s₁ (entryFrame m #[(.int p1), (.int p2), (.int p3), (.int p4), (.int p5)] maxLocals) T105 (mkF m 13 #[iv p1, iv p2, iv p3, iv p4, iv p5, iv 1, .unset, .unset, .unset, .unset, .unset, .unset, .unset, .unset] [(.int (own_dig p2 p1 (2 : Int32)))]) := fun t k => pre104 t (by
      show Steps p.tables e below (s₁.setTop (mkF m 7 #[iv p1, iv p2, iv p3, iv p4, iv p5, iv 1, .unset, .unset, .unset, .unset, .unset, .unset, .unset, .unset] [])) t
      refine XS.iloadN X0.here hx rfl (hb hby at_7) rfl ?_
      refine XS.iloadN X0.here hx rfl (hb hby at_8) rfl ?_
      refine XS.iconst X0.here hx rfl (hb hby at_9) ?_
      refine st105 _ ?_
      exact k)
    have pre107 : own_P p e below s₁ (entryFrame m #[(.int p1), (.int p2), (.int p3), (.int p4), (.int p5)] maxLocals) T105 (mkF m 13 #[iv p1, iv p2, iv p3, iv p4, iv p5, iv 1, .unset, .unset, .unset, .unset, .unset, .unset, .unset, .unset] [(.int d0)]) := fun t k => pre106 t (by rw [show (own_dig p2 p1 (2 : Int32)) = d0 from hE0.symm]; exact k)
    obtain ⟨_, _, ⟨T108, L108, k108, n108⟩, -, X108, ⟨Lc108, hQ108, l108, y108, z108⟩, st108⟩ := Jvm.LawKit.callS X105 hx (y := own_y5) hown (own_m hZ hw 0) (own_m hZ hw 1) (own_m hZ hw 2) (own_m hZ hw 3) (by decide) (backOf (W := 0) (rmDg l Z a0 hw [] p3 p1 (3 : Int32) h0 n0 Z0 ) hZ (own_i hw 3 rfl) (own_i hw 2 rfl) (by decide) (by decide)) (g := (mkF m 18 #[iv p1, iv p2, iv p3, iv p4, iv p5, iv 1, iv d0, .unset, .unset, .unset, .unset, .unset, .unset, .unset] [(.int 3), (.int p1), (.int p3)])) rfl (by rw [hml]; rfl) (argsL := [(.int p3), (.int p1), (.int 3)]) (rest := []) (lenOf pd_21 rfl) rfl (Nat.le_of_eq rfl) (hb hby at_18) (fun _ _ => ⟨rfl, e105, (by decide : 0 + 0 ≤ _), (by decide : 0 + 0 ≤ _)⟩)
    dsimp only [Pt.U, Pt.locs, Pt.cells, Pt.slots] at X108 l108 y108 z108 st108 hQ108
    subst l108 y108 z108
    obtain ⟨rfl, N108q, e108⟩ := hQ108
    have N108 := Fr.app N105 N108q
    obtain ⟨d1, hE1⟩ : ∃ d, d = (own_dig p3 p1 (3 : Int32)) := ⟨_, rfl⟩
    have hD1 : own_D d1 := hE1 ▸ own_digD _ _ _
    have pre109 : own_P p e below s₁ (entryFrame m #[(.int p1), (.int p2), (.int p3), (.int p4), (.int p5)] maxLocals) T108 (mkF m 21 #[iv p1, iv p2, iv p3, iv p4, iv p5, iv 1, iv d0, .unset, .unset, .unset, .unset, .unset, .unset, .unset] [(.int (own_dig p3 p1 (3 : Int32)))]) := fun t k => pre107 t (by
      show Steps p.tables e below (T105.setTop (mkF m 13 #[iv p1, iv p2, iv p3, iv p4, iv p5, iv 1, .unset, .unset, .unset, .unset, .unset, .unset, .unset, .unset] [(.int d0)])) t
      refine XS.istore X105.here hx rfl (hb hby at_13) rfl (l' := #[iv p1, iv p2, iv p3, iv p4, iv p5, iv 1, iv d0, .unset, .unset, .unset, .unset, .unset, .unset, .unset]) rfl ?_
      refine XS.iloadN X105.here hx rfl (hb hby at_15) rfl ?_
      refine XS.iloadN X105.here hx rfl (hb hby at_16) rfl ?_
      refine XS.iconst X105.here hx rfl (hb hby at_17) ?_
      refine st108 _ ?_
      exact k)
    have pre110 : own_P p e below s₁ (entryFrame m #[(.int p1), (.int p2), (.int p3), (.int p4), (.int p5)] maxLocals) T108 (mkF m 21 #[iv p1, iv p2, iv p3, iv p4, iv p5, iv 1, iv d0, .unset, .unset, .unset, .unset, .unset, .unset, .unset] [(.int d1)]) := fun t k => pre109 t (by rw [show (own_dig p3 p1 (3 : Int32)) = d1 from hE1.symm]; exact k)
    obtain ⟨_, _, ⟨T111, L111, k111, n111⟩, -, X111, ⟨Lc111, hQ111, l111, y111, z111⟩, st111⟩ := Jvm.LawKit.callS X108 hx (y := own_y5) hown (own_m hZ hw 0) (own_m hZ hw 1) (own_m hZ hw 2) (own_m hZ hw 3) (by decide) (backOf (W := 0) (rmDg l Z a0 hw [] p4 p1 (4 : Int32) h0 n0 Z0 ) hZ (own_i hw 3 rfl) (own_i hw 2 rfl) (by decide) (by decide)) (g := (mkF m 26 #[iv p1, iv p2, iv p3, iv p4, iv p5, iv 1, iv d0, iv d1, .unset, .unset, .unset, .unset, .unset, .unset] [(.int 4), (.int p1), (.int p4)])) rfl (by rw [hml]; rfl) (argsL := [(.int p4), (.int p1), (.int 4)]) (rest := []) (lenOf pd_21 rfl) rfl (Nat.le_of_eq rfl) (hb hby at_26) (fun _ _ => ⟨rfl, e108, (by decide : 0 + 0 ≤ _), (by decide : 0 + 0 ≤ _)⟩)
    dsimp only [Pt.U, Pt.locs, Pt.cells, Pt.slots] at X111 l111 y111 z111 st111 hQ111
    subst l111 y111 z111
    obtain ⟨rfl, N111q, e111⟩ := hQ111
    have N111 := Fr.app N108 N111q
    obtain ⟨d2, hE2⟩ : ∃ d, d = (own_dig p4 p1 (4 : Int32)) := ⟨_, rfl⟩
    have hD2 : own_D d2 := hE2 ▸ own_digD _ _ _
    have pre112 : own_P p e below s₁ (entryFrame m #[(.int p1), (.int p2), (.int p3), (.int p4), (.int p5)] maxLocals) T111 (mkF m 29 #[iv p1, iv p2, iv p3, iv p4, iv p5, iv 1, iv d0, iv d1, .unset, .unset, .unset, .unset, .unset, .unset] [(.int (own_dig p4 p1 (4 : Int32)))]) := fun t k => pre110 t (by
      show Steps p.tables e below (T108.setTop (mkF m 21 #[iv p1, iv p2, iv p3, iv p4, iv p5, iv 1, iv d0, .unset, .unset, .unset, .unset, .unset, .unset, .unset] [(.int d1)])) t
      refine XS.istore X108.here hx rfl (hb hby at_21) rfl (l' := #[iv p1, iv p2, iv p3, iv p4, iv p5, iv 1, iv d0, iv d1, .unset, .unset, .unset, .unset, .unset, .unset]) rfl ?_
      refine XS.iloadN X108.here hx rfl (hb hby at_23) rfl ?_
      refine XS.iloadN X108.here hx rfl (hb hby at_24) rfl ?_
      refine XS.iconst X108.here hx rfl (hb hby at_25) ?_
      refine st111 _ ?_
      exact k)
    have pre113 : own_P p e below s₁ (entryFrame m #[(.int p1), (.int p2), (.int p3), (.int p4), (.int p5)] maxLocals) T111 (mkF m 29 #[iv p1, iv p2, iv p3, iv p4, iv p5, iv 1, iv d0, iv d1, .unset, .unset, .unset, .unset, .unset, .unset] [(.int d2)]) := fun t k => pre112 t (by rw [show (own_dig p4 p1 (4 : Int32)) = d2 from hE2.symm]; exact k)
    obtain ⟨_, _, ⟨T114, L114, k114, n114⟩, -, X114, ⟨Lc114, hQ114, l114, y114, z114⟩, st114⟩ := Jvm.LawKit.callS X111 hx (y := own_y5) hown (own_m hZ hw 0) (own_m hZ hw 1) (own_m hZ hw 2) (own_m hZ hw 3) (by decide) (backOf (W := 0) (rmDg l Z a0 hw [] p5 p1 (5 : Int32) h0 n0 Z0 ) hZ (own_i hw 3 rfl) (own_i hw 2 rfl) (by decide) (by decide)) (g := (mkF m 35 #[iv p1, iv p2, iv p3, iv p4, iv p5, iv 1, iv d0, iv d1, iv d2, .unset, .unset, .unset, .unset, .unset] [(.int 5), (.int p1), (.int p5)])) rfl (by rw [hml]; rfl) (argsL := [(.int p5), (.int p1), (.int 5)]) (rest := []) (lenOf pd_21 rfl) rfl (Nat.le_of_eq rfl) (hb hby at_35) (fun _ _ => ⟨rfl, e111, (by decide : 0 + 0 ≤ _), (by decide : 0 + 0 ≤ _)⟩)
    dsimp only [Pt.U, Pt.locs, Pt.cells, Pt.slots] at X114 l114 y114 z114 st114 hQ114
    subst l114 y114 z114
    obtain ⟨rfl, N114q, e114⟩ := hQ114
    have N114 := Fr.app N111 N114q
    obtain ⟨d3, hE3⟩ : ∃ d, d = (own_dig p5 p1 (5 : Int32)) := ⟨_, rfl⟩
    have hD3 : own_D d3 := hE3 ▸ own_digD _ _ _
    have pre115 : own_P p e below s₁ (entryFrame m #[(.int p1), (.int p2), (.int p3), (.int p4), (.int p5)] maxLocals) T114 (mkF m 38 #[iv p1, iv p2, iv p3, iv p4, iv p5, iv 1, iv d0, iv d1, iv d2, .unset, .unset, .unset, .unset, .unset] [(.int (own_dig p5 p1 (5 : Int32)))]) := fun t k => pre113 t (by
      show Steps p.tables e below (T111.setTop (mkF m 29 #[iv p1, iv p2, iv p3, iv p4, iv p5, iv 1, iv d0, iv d1, .unset, .unset, .unset, .unset, .unset, .unset] [(.int d2)])) t
      refine XS.istore X111.here hx rfl (hb hby at_29) rfl (l' := #[iv p1, iv p2, iv p3, iv p4, iv p5, iv 1, iv d0, iv d1, iv d2, .unset, .unset, .unset, .unset, .unset]) rfl ?_
      refine XS.iload X111.here hx rfl (hb hby at_31) rfl ?_
      refine XS.iloadN X111.here hx rfl (hb hby at_33) rfl ?_
      refine XS.iconst X111.here hx rfl (hb hby at_34) ?_
      refine st114 _ ?_
      exact k)
    have pre116 : own_P p e below s₁ (entryFrame m #[(.int p1), (.int p2), (.int p3), (.int p4), (.int p5)] maxLocals) T114 (mkF m 38 #[iv p1, iv p2, iv p3, iv p4, iv p5, iv 1, iv d0, iv d1, iv d2, .unset, .unset, .unset, .unset, .unset] [(.int d3)]) := fun t k => pre115 t (by rw [show (own_dig p5 p1 (5 : Int32)) = d3 from hE3.symm]; exact k)
    obtain ⟨_, _, ⟨T117, L117, k117, n117⟩, -, X117, ⟨Lc117, hQ117, l117, y117, z117⟩, st117⟩ := Jvm.LawKit.callS X114 hx (y := own_y7) hown (own_m hZ hw 5) (own_m hZ hw 6) (own_m hZ hw 2) (own_m hZ hw 7) (by decide) (backOf (W := 0) (rmT_1 l Z a0 hw [] d0 d1 d2 d3 cs h0 n0 Z0 hD0 SC hcs O0) hZ (own_i hw 7 rfl) (own_i hw 2 rfl) (by decide) (by decide)) (g := (mkF m 50 #[iv p1, iv p2, iv p3, iv p4, iv p5, iv 1, iv d0, iv d1, iv d2, iv d3, .unset, .unset, .unset, .unset] [(.int d3), (.int d2), (.int d1), (.int d0), (.int 1)])) rfl (by rw [hml]; rfl) (argsL := [(.int 1), (.int d0), (.int d1), (.int d2), (.int d3)]) (rest := []) (lenOf pd_22 rfl) rfl (Nat.le_of_eq rfl) (hb hby at_50) (fun _ _ => ⟨rfl, e114, (by decide : 0 + 3 ≤ _), (by decide : 0 + 6 ≤ _)⟩)
    dsimp only [Pt.U, Pt.locs, Pt.cells, Pt.slots] at X117 l117 y117 z117 st117 hQ117
    subst l117 y117 z117
    obtain ⟨b118, b119, x120, rfl, N117q, K117, f121, f122, f123, f124, f125, f126, f127, f128⟩ := hQ117
    have N117 := Fr.app N114 N117q
    have f129 := Nat.le_trans Z0 K117.1
    have f130 := O0.keep K117 all0
    have f131 := f101.trans K117 all0
    have hv132 := own_v_1_0 hD0 
    obtain ⟨_, _, ⟨T133, L133, k133, n133⟩, -, X133, ⟨Lc133, hQ133, l133, y133, z133⟩, st133⟩ := Jvm.LawKit.callS X117 hx (y := own_y8) hown (own_m hZ hw 41) (own_m hZ hw 42) (own_m hZ hw 2) (own_m hZ hw 43) (by decide) (backOf (W := 0) (rmV_1 l Z a0 hw [] d0 cs T117.heap n0 f129 hv132.1 hv132.2.1 hv132.2.2.1 hv132.2.2.2.1 SC hcs f130) hZ (own_i hw 43 rfl) (own_i hw 2 rfl) (by decide) (by decide)) (g := (mkF m 109 #[iv p1, iv p2, iv p3, iv p4, iv p5, iv 1, iv d0, iv d1, iv d2, iv d3, rv b118, iv d0, .unset, .unset] [(.int d0)])) rfl (by rw [hml]; rfl) (argsL := [(.int d0)]) (rest := []) (lenOf pd_19 rfl) rfl (Nat.le_of_eq rfl) (hb hby at_109) (fun _ _ => ⟨rfl, rfl, (by decide : 3 + 3 ≤ _), (by decide : 6 + 6 ≤ _)⟩)
    dsimp only [Pt.U, Pt.locs, Pt.cells, Pt.slots] at X133 l133 y133 z133 st133 hQ133
    subst l133 y133 z133
    obtain ⟨b134, b135, x136, rfl, N133q, K133, f137, f138, f139, f140, f141, f142, f143, f144⟩ := hQ133
    have N133 := Fr.app N117 N133q
    have ne145 : b118 ≠ b134 := Nat.ne_of_lt (Nat.lt_of_lt_of_le f123.lt f138)
    have ne146 : b119 ≠ b134 := Nat.ne_of_lt (Nat.lt_of_lt_of_le f128.lt f138)
    have sz147 : h0.size ≤ b134 := Nat.le_trans f131.1 f138
    have ne148 : b118 ≠ b135 := Nat.ne_of_lt (Nat.lt_of_lt_of_le f123.lt f143)
    have ne149 : b119 ≠ b135 := Nat.ne_of_lt (Nat.lt_of_lt_of_le f128.lt f143)
    have sz150 : h0.size ≤ b135 := Nat.le_trans f131.1 f143
    have f151 := Nat.le_trans f129 K133.1
    have f152 := f130.keep K133 all0
    have f153 := f131.trans K133 all0
    have f154 := f123.keep K133
    have f155 := f124.keep K133 nin0
    have f156 := f125.keep K133 nin0
    have f157 := f128.keep K133 nin0
    have V158 : Arv Z T133.heap b135 x136 .byte (1 : Int32) [(.int (nar .byte ((nar .char (own_ch d0)).toInt8.toInt32)))] (.int 0) := f144
    obtain ⟨_, _, ⟨T159, L159, k159, n159⟩, -, X159, ⟨Lc159, hQ159, l159, y159, z159⟩, st159⟩ := Jvm.LawKit.callS X133 hx (y := own_y26) hown (own_m hZ hw 44) (own_m hZ hw 45) (own_m hZ hw 46) (own_m hZ hw 47) (by decide) (backOf (W := 0) (rmK_1_0 l Z a0 hw [] b118 cs vF b119 x120 (nar .byte ((nar .char (own_ch d0)).toInt8.toInt32)) T133.heap n0 f151 (SC.ext f152.2) hcs (SF.ext f152.2) hF f154 f155 f156 f157) hZ (own_i hw 47 rfl) (own_i hw 46 rfl) (by decide) (by decide)) (g := (mkF m 116 #[iv p1, iv p2, iv p3, iv p4, iv p5, iv 1, iv d0, iv d1, iv d2, iv d3, rv b118, iv d0, rv b134, .unset] [(.ref b118)])) rfl (by rw [hml]; rfl) (argsL := [(.ref b118)]) (rest := []) (lenOf pd_23 rfl) rfl (Nat.le_of_eq rfl) (hb hby at_116) (fun _ _ => ⟨rfl, rfl, (by decide : 6 + 0 ≤ _), (by decide : 12 + 0 ≤ _)⟩)
    dsimp only [Pt.U, Pt.locs, Pt.cells, Pt.slots] at X159 l159 y159 z159 st159 hQ159
    subst l159 y159 z159
    obtain ⟨rfl, N159q, e159⟩ := hQ159
    have N159 := Fr.app N133 N159q
    obtain ⟨cq160, kq160, q160a, q160b, q160c⟩ := isOf hZ e159 f154
    obtain ⟨_, _, ⟨T160, L160, k160, n160⟩, -, X160, ⟨Lc160, hQ160, l160, y160, z160⟩, st160⟩ := X159.virtualBack hx (y := own_y28) (z := own_y28) hown (own_m hZ hw 77) (own_m hZ hw 78) (notFace_of_selects (args := #[]) (own_m hZ hw 80)) (own_m hZ hw 80) (own_m hZ hw 79) (by decide) (backOf (W := 0) (rmEq_1 l Z a0 hw [] b118 b134 cs b119 b135 x120 x136 (nar .byte ((nar .char (own_ch d0)).toInt8.toInt32)) T133.heap n0 f151 f139 (SC.ext f152.2) hcs f155 f140 f156 f141 f157 V158) hZ (own_i hw 81 rfl) (own_i hw 10 rfl) (by decide) (by decide)) q160a q160c (g := (mkF m 125 #[iv p1, iv p2, iv p3, iv p4, iv p5, iv 1, iv d0, iv d1, iv d2, iv d3, rv b118, iv d0, rv b134, rv b118] [(.ref b134), (.ref b118)])) rfl (by rw [hml]; rfl) (Steps.refl _) (argsL := [(.ref b134)]) (rest := []) (lenOf pd_24 rfl) rfl (Nat.le_of_eq rfl) (hb hby at_125) (fun _ _ => ⟨rfl, e159, (by decide : 6 + 0 ≤ _), (by decide : 12 + 0 ≤ _)⟩)
    dsimp only [Pt.U, Pt.locs, Pt.cells, Pt.slots] at X160 l160 y160 z160 st160 hQ160
    subst l160 y160 z160
    obtain ⟨rfl, N160q, e160⟩ := hQ160
    have N160 := Fr.app N159 N160q
    have pre161 : own_P p e below s₁ (entryFrame m #[(.int p1), (.int p2), (.int p3), (.int p4), (.int p5)] maxLocals) T160 (mkF m 128 #[iv p1, iv p2, iv p3, iv p4, iv p5, iv 1, iv d0, iv d1, iv d2, iv d3, rv b118, iv d0, rv b134, rv b118] [(.int 1)]) := fun t k => pre116 t (by
      show Steps p.tables e below (T114.setTop (mkF m 38 #[iv p1, iv p2, iv p3, iv p4, iv p5, iv 1, iv d0, iv d1, iv d2, .unset, .unset, .unset, .unset, .unset] [(.int d3)])) t
      refine XS.istore X114.here hx rfl (hb hby at_38) rfl (l' := #[iv p1, iv p2, iv p3, iv p4, iv p5, iv 1, iv d0, iv d1, iv d2, iv d3, .unset, .unset, .unset, .unset]) rfl ?_
      refine XS.iload X114.here hx rfl (hb hby at_40) rfl ?_
      refine XS.iload X114.here hx rfl (hb hby at_42) rfl ?_
      refine XS.iload X114.here hx rfl (hb hby at_44) rfl ?_
      refine XS.iload X114.here hx rfl (hb hby at_46) rfl ?_
      refine XS.iload X114.here hx rfl (hb hby at_48) rfl ?_
      refine st117 _ ?_
      refine XS.astore X117.here hx rfl (hb hby at_53) rfl rfl (l' := #[iv p1, iv p2, iv p3, iv p4, iv p5, iv 1, iv d0, iv d1, iv d2, iv d3, rv b118, .unset, .unset, .unset]) rfl ?_
      refine XS.iload X117.here hx rfl (hb hby at_55) rfl ?_
      refine XS.istore X117.here hx rfl (hb hby at_57) rfl (l' := #[iv p1, iv p2, iv p3, iv p4, iv p5, iv 1, iv d0, iv d1, iv d2, iv d3, rv b118, iv d0, .unset, .unset]) rfl ?_
      refine XS.iload X117.here hx rfl (hb hby at_59) rfl ?_
      refine XS.iconst X117.here hx rfl (hb hby at_61) ?_
      refine XS.icmpYes X117.here hx rfl (pc0 := 62) (pc' := 75) rfl (hb hby at_62) rfl (flt (by decide : ¬ ((1 : Int32) < (1 : Int32)))).2.2.2 (by decide) (by decide) ?_
      refine XS.iload X117.here hx rfl (hb hby at_75) rfl ?_
      refine XS.iconst X117.here hx rfl (hb hby at_77) ?_
      refine XS.icmpYes X117.here hx rfl (pc0 := 78) (pc' := 91) rfl (hb hby at_78) rfl (flt (by decide : ¬ ((2 : Int32) < (1 : Int32)))).2.2.2 (by decide) (by decide) ?_
      refine XS.iload X117.here hx rfl (hb hby at_91) rfl ?_
      refine XS.iconst X117.here hx rfl (hb hby at_93) ?_
      refine XS.icmpYes X117.here hx rfl (pc0 := 94) (pc' := 107) rfl (hb hby at_94) rfl (flt (by decide : ¬ ((3 : Int32) < (1 : Int32)))).2.2.2 (by decide) (by decide) ?_
      refine XS.iload X117.here hx rfl (hb hby at_107) rfl ?_
      refine st133 _ ?_
      refine XS.astore X133.here hx rfl (hb hby at_112) rfl rfl (l' := #[iv p1, iv p2, iv p3, iv p4, iv p5, iv 1, iv d0, iv d1, iv d2, iv d3, rv b118, iv d0, rv b134, .unset]) rfl ?_
      refine XS.aload X133.here hx rfl (hb hby at_114) rfl rfl ?_
      refine st159 _ ?_
      refine XS.astore X159.here hx rfl (hb hby at_119) rfl rfl (l' := #[iv p1, iv p2, iv p3, iv p4, iv p5, iv 1, iv d0, iv d1, iv d2, iv d3, rv b118, iv d0, rv b134, rv b118]) rfl ?_
      show Steps p.tables e below (T159.setTop (mkF m 121 #[iv p1, iv p2, iv p3, iv p4, iv p5, iv 1, iv d0, iv d1, iv d2, iv d3, rv b118, iv d0, rv b134, rv b118] [])) t
      refine XS.aload X159.here hx rfl (hb hby at_121) rfl rfl ?_
      refine XS.aload X159.here hx rfl (hb hby at_123) rfl rfl ?_
      refine st160.trans ?_
      exact k)
    obtain ⟨fs, hr, hrun, hended, hW, hsame⟩ := X160.leave (v := some (.int 1)) (fun h => by rw [Bd.returns] at h; cases h)
    refine ⟨_, _, pre161 _ ?_, hrun, hended, _, _, rfl, ?_, ⟨_, rfl⟩, hW, hsame.mono (by decide) (by decide)⟩
    · exact retN X160 hx (t := .boolean) Bd.returns (by simp) (hb hby at_128) hr
    · show Q0 Z p1 p2 p3 p4 p5 cs vF h0 n0 _ T160.heap _
      rw [e160]
      exact ⟨rfl, N160⟩
  · have pre162 : own_P p e below s₁ (entryFrame m #[(.int p1), (.int p2), (.int p3), (.int p4), (.int p5)] maxLocals) s₁ (mkF m 7 #[iv p1, iv p2, iv p3, iv p4, iv p5, iv 2, .unset, .unset, .unset, .unset, .unset, .unset, .unset, .unset] []) := fun t k => pre102 t (by rw [show ((1 : Int32) + (p1 &&& (3 : Int32))) = (2 : Int32) from (congrArg (fun z => (1 : Int32) + z) hs103)]; exact k)
    obtain ⟨_, _, ⟨T163, L163, k163, n163⟩, -, X163, ⟨Lc163, hQ163, l163, y163, z163⟩, st163⟩ := Jvm.LawKit.callS X0 hx (y := own_y5) hown (own_m hZ hw 0) (own_m hZ hw 1) (own_m hZ hw 2) (own_m hZ hw 3) (by decide) (backOf (W := 0) (rmDg l Z a0 hw [] p2 p1 (2 : Int32) h0 n0 Z0 ) hZ (own_i hw 3 rfl) (own_i hw 2 rfl) (by decide) (by decide)) (g := (mkF m 10 #[iv p1, iv p2, iv p3, iv p4, iv p5, iv 2, .unset, .unset, .unset, .unset, .unset, .unset, .unset, .unset] [(.int 2), (.int p1), (.int p2)])) rfl (by rw [hml]; rfl) (argsL := [(.int p2), (.int p1), (.int 2)]) (rest := []) (lenOf pd_21 rfl) rfl (Nat.le_of_eq rfl) (hb hby at_10) (fun _ _ => ⟨rfl, e0, (by decide : 0 + 0 ≤ _), (by decide : 0 + 0 ≤ _)⟩)
    dsimp only [Pt.U, Pt.locs, Pt.cells, Pt.slots] at X163 l163 y163 z163 st163 hQ163
    subst l163 y163 z163
    obtain ⟨rfl, N163q, e163⟩ := hQ163
    have N163 := Fr.app N0 N163q
    obtain ⟨d0, hE0⟩ : ∃ d, d = (own_dig p2 p1 (2 : Int32)) := ⟨_, rfl⟩
    have hD0 : own_D d0 := hE0 ▸ own_digD _ _ _
    have pre164 : own_P p e below s₁ (entryFrame m #[(.int p1), (.int p2), (.int p3), (.int p4), (.int p5)] maxLocals) T163 (mkF m 13 #[iv p1, iv p2, iv p3, iv p4, iv p5, iv 2, .unset, .unset, .unset, .unset, .unset, .unset, .unset, .unset] [(.int (own_dig p2 p1 (2 : Int32)))]) := fun t k => pre162 t (by
      show Steps p.tables e below (s₁.setTop (mkF m 7 #[iv p1, iv p2, iv p3, iv p4, iv p5, iv 2, .unset, .unset, .unset, .unset, .unset, .unset, .unset, .unset] [])) t
      refine XS.iloadN X0.here hx rfl (hb hby at_7) rfl ?_
      refine XS.iloadN X0.here hx rfl (hb hby at_8) rfl ?_
      refine XS.iconst X0.here hx rfl (hb hby at_9) ?_
      refine st163 _ ?_
      exact k)
    have pre165 : own_P p e below s₁ (entryFrame m #[(.int p1), (.int p2), (.int p3), (.int p4), (.int p5)] maxLocals) T163 (mkF m 13 #[iv p1, iv p2, iv p3, iv p4, iv p5, iv 2, .unset, .unset, .unset, .unset, .unset, .unset, .unset, .unset] [(.int d0)]) := fun t k => pre164 t (by rw [show (own_dig p2 p1 (2 : Int32)) = d0 from hE0.symm]; exact k)
    obtain ⟨_, _, ⟨T166, L166, k166, n166⟩, -, X166, ⟨Lc166, hQ166, l166, y166, z166⟩, st166⟩ := Jvm.LawKit.callS X163 hx (y := own_y5) hown (own_m hZ hw 0) (own_m hZ hw 1) (own_m hZ hw 2) (own_m hZ hw 3) (by decide) (backOf (W := 0) (rmDg l Z a0 hw [] p3 p1 (3 : Int32) h0 n0 Z0 ) hZ (own_i hw 3 rfl) (own_i hw 2 rfl) (by decide) (by decide)) (g := (mkF m 18 #[iv p1, iv p2, iv p3, iv p4, iv p5, iv 2, iv d0, .unset, .unset, .unset, .unset, .unset, .unset, .unset] [(.int 3), (.int p1), (.int p3)])) rfl (by rw [hml]; rfl) (argsL := [(.int p3), (.int p1), (.int 3)]) (rest := []) (lenOf pd_21 rfl) rfl (Nat.le_of_eq rfl) (hb hby at_18) (fun _ _ => ⟨rfl, e163, (by decide : 0 + 0 ≤ _), (by decide : 0 + 0 ≤ _)⟩)
    dsimp only [Pt.U, Pt.locs, Pt.cells, Pt.slots] at X166 l166 y166 z166 st166 hQ166
    subst l166 y166 z166
    obtain ⟨rfl, N166q, e166⟩ := hQ166
    have N166 := Fr.app N163 N166q
    obtain ⟨d1, hE1⟩ : ∃ d, d = (own_dig p3 p1 (3 : Int32)) := ⟨_, rfl⟩
    have hD1 : own_D d1 := hE1 ▸ own_digD _ _ _
    have pre167 : own_P p e below s₁ (entryFrame m #[(.int p1), (.int p2), (.int p3), (.int p4), (.int p5)] maxLocals) T166 (mkF m 21 #[iv p1, iv p2, iv p3, iv p4, iv p5, iv 2, iv d0, .unset, .unset, .unset, .unset, .unset, .unset, .unset] [(.int (own_dig p3 p1 (3 : Int32)))]) := fun t k => pre165 t (by
      show Steps p.tables e below (T163.setTop (mkF m 13 #[iv p1, iv p2, iv p3, iv p4, iv p5, iv 2, .unset, .unset, .unset, .unset, .unset, .unset, .unset, .unset] [(.int d0)])) t
      refine XS.istore X163.here hx rfl (hb hby at_13) rfl (l' := #[iv p1, iv p2, iv p3, iv p4, iv p5, iv 2, iv d0, .unset, .unset, .unset, .unset, .unset, .unset, .unset]) rfl ?_
      refine XS.iloadN X163.here hx rfl (hb hby at_15) rfl ?_
      refine XS.iloadN X163.here hx rfl (hb hby at_16) rfl ?_
      refine XS.iconst X163.here hx rfl (hb hby at_17) ?_
      refine st166 _ ?_
      exact k)
    have pre168 : own_P p e below s₁ (entryFrame m #[(.int p1), (.int p2), (.int p3), (.int p4), (.int p5)] maxLocals) T166 (mkF m 21 #[iv p1, iv p2, iv p3, iv p4, iv p5, iv 2, iv d0, .unset, .unset, .unset, .unset, .unset, .unset, .unset] [(.int d1)]) := fun t k => pre167 t (by rw [show (own_dig p3 p1 (3 : Int32)) = d1 from hE1.symm]; exact k)
    obtain ⟨_, _, ⟨T169, L169, k169, n169⟩, -, X169, ⟨Lc169, hQ169, l169, y169, z169⟩, st169⟩ := Jvm.LawKit.callS X166 hx (y := own_y5) hown (own_m hZ hw 0) (own_m hZ hw 1) (own_m hZ hw 2) (own_m hZ hw 3) (by decide) (backOf (W := 0) (rmDg l Z a0 hw [] p4 p1 (4 : Int32) h0 n0 Z0 ) hZ (own_i hw 3 rfl) (own_i hw 2 rfl) (by decide) (by decide)) (g := (mkF m 26 #[iv p1, iv p2, iv p3, iv p4, iv p5, iv 2, iv d0, iv d1, .unset, .unset, .unset, .unset, .unset, .unset] [(.int 4), (.int p1), (.int p4)])) rfl (by rw [hml]; rfl) (argsL := [(.int p4), (.int p1), (.int 4)]) (rest := []) (lenOf pd_21 rfl) rfl (Nat.le_of_eq rfl) (hb hby at_26) (fun _ _ => ⟨rfl, e166, (by decide : 0 + 0 ≤ _), (by decide : 0 + 0 ≤ _)⟩)
    dsimp only [Pt.U, Pt.locs, Pt.cells, Pt.slots] at X169 l169 y169 z169 st169 hQ169
    subst l169 y169 z169
    obtain ⟨rfl, N169q, e169⟩ := hQ169
    have N169 := Fr.app N166 N169q
    obtain ⟨d2, hE2⟩ : ∃ d, d = (own_dig p4 p1 (4 : Int32)) := ⟨_, rfl⟩
    have hD2 : own_D d2 := hE2 ▸ own_digD _ _ _
    have pre170 : own_P p e below s₁ (entryFrame m #[(.int p1), (.int p2), (.int p3), (.int p4), (.int p5)] maxLocals) T169 (mkF m 29 #[iv p1, iv p2, iv p3, iv p4, iv p5, iv 2, iv d0, iv d1, .unset, .unset, .unset, .unset, .unset, .unset] [(.int (own_dig p4 p1 (4 : Int32)))]) := fun t k => pre168 t (by
      show Steps p.tables e below (T166.setTop (mkF m 21 #[iv p1, iv p2, iv p3, iv p4, iv p5, iv 2, iv d0, .unset, .unset, .unset, .unset, .unset, .unset, .unset] [(.int d1)])) t
      refine XS.istore X166.here hx rfl (hb hby at_21) rfl (l' := #[iv p1, iv p2, iv p3, iv p4, iv p5, iv 2, iv d0, iv d1, .unset, .unset, .unset, .unset, .unset, .unset]) rfl ?_
      refine XS.iloadN X166.here hx rfl (hb hby at_23) rfl ?_
      refine XS.iloadN X166.here hx rfl (hb hby at_24) rfl ?_
      refine XS.iconst X166.here hx rfl (hb hby at_25) ?_
      refine st169 _ ?_
      exact k)
    have pre171 : own_P p e below s₁ (entryFrame m #[(.int p1), (.int p2), (.int p3), (.int p4), (.int p5)] maxLocals) T169 (mkF m 29 #[iv p1, iv p2, iv p3, iv p4, iv p5, iv 2, iv d0, iv d1, .unset, .unset, .unset, .unset, .unset, .unset] [(.int d2)]) := fun t k => pre170 t (by rw [show (own_dig p4 p1 (4 : Int32)) = d2 from hE2.symm]; exact k)
    obtain ⟨_, _, ⟨T172, L172, k172, n172⟩, -, X172, ⟨Lc172, hQ172, l172, y172, z172⟩, st172⟩ := Jvm.LawKit.callS X169 hx (y := own_y5) hown (own_m hZ hw 0) (own_m hZ hw 1) (own_m hZ hw 2) (own_m hZ hw 3) (by decide) (backOf (W := 0) (rmDg l Z a0 hw [] p5 p1 (5 : Int32) h0 n0 Z0 ) hZ (own_i hw 3 rfl) (own_i hw 2 rfl) (by decide) (by decide)) (g := (mkF m 35 #[iv p1, iv p2, iv p3, iv p4, iv p5, iv 2, iv d0, iv d1, iv d2, .unset, .unset, .unset, .unset, .unset] [(.int 5), (.int p1), (.int p5)])) rfl (by rw [hml]; rfl) (argsL := [(.int p5), (.int p1), (.int 5)]) (rest := []) (lenOf pd_21 rfl) rfl (Nat.le_of_eq rfl) (hb hby at_35) (fun _ _ => ⟨rfl, e169, (by decide : 0 + 0 ≤ _), (by decide : 0 + 0 ≤ _)⟩)
    dsimp only [Pt.U, Pt.locs, Pt.cells, Pt.slots] at X172 l172 y172 z172 st172 hQ172
    subst l172 y172 z172
    obtain ⟨rfl, N172q, e172⟩ := hQ172
    have N172 := Fr.app N169 N172q
    obtain ⟨d3, hE3⟩ : ∃ d, d = (own_dig p5 p1 (5 : Int32)) := ⟨_, rfl⟩
    have hD3 : own_D d3 := hE3 ▸ own_digD _ _ _
    have pre173 : own_P p e below s₁ (entryFrame m #[(.int p1), (.int p2), (.int p3), (.int p4), (.int p5)] maxLocals) T172 (mkF m 38 #[iv p1, iv p2, iv p3, iv p4, iv p5, iv 2, iv d0, iv d1, iv d2, .unset, .unset, .unset, .unset, .unset] [(.int (own_dig p5 p1 (5 : Int32)))]) := fun t k => pre171 t (by
      show Steps p.tables e below (T169.setTop (mkF m 29 #[iv p1, iv p2, iv p3, iv p4, iv p5, iv 2, iv d0, iv d1, .unset, .unset, .unset, .unset, .unset, .unset] [(.int d2)])) t
      refine XS.istore X169.here hx rfl (hb hby at_29) rfl (l' := #[iv p1, iv p2, iv p3, iv p4, iv p5, iv 2, iv d0, iv d1, iv d2, .unset, .unset, .unset, .unset, .unset]) rfl ?_
      refine XS.iload X169.here hx rfl (hb hby at_31) rfl ?_
      refine XS.iloadN X169.here hx rfl (hb hby at_33) rfl ?_
      refine XS.iconst X169.here hx rfl (hb hby at_34) ?_
      refine st172 _ ?_
      exact k)
    have pre174 : own_P p e below s₁ (entryFrame m #[(.int p1), (.int p2), (.int p3), (.int p4), (.int p5)] maxLocals) T172 (mkF m 38 #[iv p1, iv p2, iv p3, iv p4, iv p5, iv 2, iv d0, iv d1, iv d2, .unset, .unset, .unset, .unset, .unset] [(.int d3)]) := fun t k => pre173 t (by rw [show (own_dig p5 p1 (5 : Int32)) = d3 from hE3.symm]; exact k)
    obtain ⟨_, _, ⟨T175, L175, k175, n175⟩, -, X175, ⟨Lc175, hQ175, l175, y175, z175⟩, st175⟩ := Jvm.LawKit.callS X172 hx (y := own_y7) hown (own_m hZ hw 5) (own_m hZ hw 6) (own_m hZ hw 2) (own_m hZ hw 7) (by decide) (backOf (W := 0) (rmT_2 l Z a0 hw [] d0 d1 d2 d3 cs h0 n0 Z0 hD0 hD1 SC hcs O0) hZ (own_i hw 7 rfl) (own_i hw 2 rfl) (by decide) (by decide)) (g := (mkF m 50 #[iv p1, iv p2, iv p3, iv p4, iv p5, iv 2, iv d0, iv d1, iv d2, iv d3, .unset, .unset, .unset, .unset] [(.int d3), (.int d2), (.int d1), (.int d0), (.int 2)])) rfl (by rw [hml]; rfl) (argsL := [(.int 2), (.int d0), (.int d1), (.int d2), (.int d3)]) (rest := []) (lenOf pd_22 rfl) rfl (Nat.le_of_eq rfl) (hb hby at_50) (fun _ _ => ⟨rfl, e172, (by decide : 0 + 3 ≤ _), (by decide : 0 + 8 ≤ _)⟩)
    dsimp only [Pt.U, Pt.locs, Pt.cells, Pt.slots] at X175 l175 y175 z175 st175 hQ175
    subst l175 y175 z175
    obtain ⟨b176, b177, x178, rfl, N175q, K175, f179, f180, f181, f182, f183, f184, f185, f186⟩ := hQ175
    have N175 := Fr.app N172 N175q
    have f187 := Nat.le_trans Z0 K175.1
    have f188 := O0.keep K175 all0
    have f189 := f101.trans K175 all0
    have pre190 : own_P p e below s₁ (entryFrame m #[(.int p1), (.int p2), (.int p3), (.int p4), (.int p5)] maxLocals) T175 (mkF m 55 #[iv p1, iv p2, iv p3, iv p4, iv p5, iv 2, iv d0, iv d1, iv d2, iv d3, rv b176, .unset, .unset, .unset] []) := fun t k => pre174 t (by
      show Steps p.tables e below (T172.setTop (mkF m 38 #[iv p1, iv p2, iv p3, iv p4, iv p5, iv 2, iv d0, iv d1, iv d2, .unset, .unset, .unset, .unset, .unset] [(.int d3)])) t
      refine XS.istore X172.here hx rfl (hb hby at_38) rfl (l' := #[iv p1, iv p2, iv p3, iv p4, iv p5, iv 2, iv d0, iv d1, iv d2, iv d3, .unset, .unset, .unset, .unset]) rfl ?_
      refine XS.iload X172.here hx rfl (hb hby at_40) rfl ?_
      refine XS.iload X172.here hx rfl (hb hby at_42) rfl ?_
      refine XS.iload X172.here hx rfl (hb hby at_44) rfl ?_
      refine XS.iload X172.here hx rfl (hb hby at_46) rfl ?_
      refine XS.iload X172.here hx rfl (hb hby at_48) rfl ?_
      refine st175 _ ?_
      refine XS.astore X175.here hx rfl (hb hby at_53) rfl rfl (l' := #[iv p1, iv p2, iv p3, iv p4, iv p5, iv 2, iv d0, iv d1, iv d2, iv d3, rv b176, .unset, .unset, .unset]) rfl ?_
      exact k)
    rcases own_lead_2 d0 d1 with hs191 | hs191
    · have z192 := hs191
      have hv193 := own_v_2_0 hD0 hD1 z192
      obtain ⟨_, _, ⟨T194, L194, k194, n194⟩, -, X194, ⟨Lc194, hQ194, l194, y194, z194⟩, st194⟩ := Jvm.LawKit.callS X175 hx (y := own_y8) hown (own_m hZ hw 41) (own_m hZ hw 42) (own_m hZ hw 2) (own_m hZ hw 43) (by decide) (backOf (W := 0) (rmV_2 l Z a0 hw [] ((d0 * (10 : Int32)) + d1) cs T175.heap n0 f187 hv193.1 hv193.2.1 hv193.2.2.1 hv193.2.2.2.1 hv193.2.2.2.2.1 SC hcs f188) hZ (own_i hw 43 rfl) (own_i hw 2 rfl) (by decide) (by decide)) (g := (mkF m 109 #[iv p1, iv p2, iv p3, iv p4, iv p5, iv 2, iv d0, iv d1, iv d2, iv d3, rv b176, iv ((d0 * (10 : Int32)) + d1), .unset, .unset] [(.int ((d0 * (10 : Int32)) + d1))])) rfl (by rw [hml]; rfl) (argsL := [(.int ((d0 * (10 : Int32)) + d1))]) (rest := []) (lenOf pd_19 rfl) rfl (Nat.le_of_eq rfl) (hb hby at_109) (fun _ _ => ⟨rfl, rfl, (by decide : 3 + 3 ≤ _), (by decide : 8 + 8 ≤ _)⟩)
      dsimp only [Pt.U, Pt.locs, Pt.cells, Pt.slots] at X194 l194 y194 z194 st194 hQ194
      subst l194 y194 z194
      obtain ⟨b195, b196, x197, rfl, N194q, K194, f198, f199, f200, f201, f202, f203, f204, f205⟩ := hQ194
      have N194 := Fr.app N175 N194q
      have ne206 : b176 ≠ b195 := Nat.ne_of_lt (Nat.lt_of_lt_of_le f181.lt f199)
      have ne207 : b177 ≠ b195 := Nat.ne_of_lt (Nat.lt_of_lt_of_le f186.lt f199)
      have sz208 : h0.size ≤ b195 := Nat.le_trans f189.1 f199
      have ne209 : b176 ≠ b196 := Nat.ne_of_lt (Nat.lt_of_lt_of_le f181.lt f204)
      have ne210 : b177 ≠ b196 := Nat.ne_of_lt (Nat.lt_of_lt_of_le f186.lt f204)
      have sz211 : h0.size ≤ b196 := Nat.le_trans f189.1 f204
      have f212 := Nat.le_trans f187 K194.1
      have f213 := f188.keep K194 all0
      have f214 := f189.trans K194 all0
      have f215 := f181.keep K194
      have f216 := f182.keep K194 nin0
      have f217 := f183.keep K194 nin0
      have f218 := f186.keep K194 nin0
      have V219 : Arv Z T194.heap b196 x197 .byte (2 : Int32) [(.int (nar .byte ((nar .char (own_ch d0)).toInt8.toInt32))), (.int (nar .byte ((nar .char (own_ch d1)).toInt8.toInt32)))] (.int 0) := by have q := f205; rw [hv193.2.2.2.2.2.1, hv193.2.2.2.2.2.2] at q; exact q
      obtain ⟨_, _, ⟨T220, L220, k220, n220⟩, -, X220, ⟨Lc220, hQ220, l220, y220, z220⟩, st220⟩ := Jvm.LawKit.callS X194 hx (y := own_y26) hown (own_m hZ hw 44) (own_m hZ hw 45) (own_m hZ hw 46) (own_m hZ hw 47) (by decide) (backOf (W := 0) (rmK_2_0 l Z a0 hw [] b176 cs vF b177 x178 (nar .byte ((nar .char (own_ch d0)).toInt8.toInt32)) (nar .byte ((nar .char (own_ch d1)).toInt8.toInt32)) T194.heap n0 f212 (SC.ext f213.2) hcs (SF.ext f213.2) hF f215 f216 f217 f218 (fun q => z192 ((own_cz hD0).mp q))) hZ (own_i hw 47 rfl) (own_i hw 46 rfl) (by decide) (by decide)) (g := (mkF m 116 #[iv p1, iv p2, iv p3, iv p4, iv p5, iv 2, iv d0, iv d1, iv d2, iv d3, rv b176, iv ((d0 * (10 : Int32)) + d1), rv b195, .unset] [(.ref b176)])) rfl (by rw [hml]; rfl) (argsL := [(.ref b176)]) (rest := []) (lenOf pd_23 rfl) rfl (Nat.le_of_eq rfl) (hb hby at_116) (fun _ _ => ⟨rfl, rfl, (by decide : 6 + 0 ≤ _), (by decide : 16 + 0 ≤ _)⟩)
      dsimp only [Pt.U, Pt.locs, Pt.cells, Pt.slots] at X220 l220 y220 z220 st220 hQ220
      subst l220 y220 z220
      obtain ⟨rfl, N220q, e220⟩ := hQ220
      have N220 := Fr.app N194 N220q
      obtain ⟨cq221, kq221, q221a, q221b, q221c⟩ := isOf hZ e220 f215
      obtain ⟨_, _, ⟨T221, L221, k221, n221⟩, -, X221, ⟨Lc221, hQ221, l221, y221, z221⟩, st221⟩ := X220.virtualBack hx (y := own_y28) (z := own_y28) hown (own_m hZ hw 77) (own_m hZ hw 78) (notFace_of_selects (args := #[]) (own_m hZ hw 80)) (own_m hZ hw 80) (own_m hZ hw 79) (by decide) (backOf (W := 0) (rmEq_2 l Z a0 hw [] b176 b195 cs b177 b196 x178 x197 (nar .byte ((nar .char (own_ch d0)).toInt8.toInt32)) (nar .byte ((nar .char (own_ch d1)).toInt8.toInt32)) T194.heap n0 f212 f200 (SC.ext f213.2) hcs f216 f201 f217 f202 f218 V219) hZ (own_i hw 81 rfl) (own_i hw 10 rfl) (by decide) (by decide)) q221a q221c (g := (mkF m 125 #[iv p1, iv p2, iv p3, iv p4, iv p5, iv 2, iv d0, iv d1, iv d2, iv d3, rv b176, iv ((d0 * (10 : Int32)) + d1), rv b195, rv b176] [(.ref b195), (.ref b176)])) rfl (by rw [hml]; rfl) (Steps.refl _) (argsL := [(.ref b195)]) (rest := []) (lenOf pd_24 rfl) rfl (Nat.le_of_eq rfl) (hb hby at_125) (fun _ _ => ⟨rfl, e220, (by decide : 6 + 0 ≤ _), (by decide : 16 + 0 ≤ _)⟩)
      dsimp only [Pt.U, Pt.locs, Pt.cells, Pt.slots] at X221 l221 y221 z221 st221 hQ221
      subst l221 y221 z221
      obtain ⟨rfl, N221q, e221⟩ := hQ221
      have N221 := Fr.app N220 N221q
      have pre222 : own_P p e below s₁ (entryFrame m #[(.int p1), (.int p2), (.int p3), (.int p4), (.int p5)] maxLocals) T221 (mkF m 128 #[iv p1, iv p2, iv p3, iv p4, iv p5, iv 2, iv d0, iv d1, iv d2, iv d3, rv b176, iv ((d0 * (10 : Int32)) + d1), rv b195, rv b176] [(.int 1)]) := fun t k => pre190 t (by
        show Steps p.tables e below (T175.setTop (mkF m 55 #[iv p1, iv p2, iv p3, iv p4, iv p5, iv 2, iv d0, iv d1, iv d2, iv d3, rv b176, .unset, .unset, .unset] [])) t
        refine XS.iload X175.here hx rfl (hb hby at_55) rfl ?_
        refine XS.istore X175.here hx rfl (hb hby at_57) rfl (l' := #[iv p1, iv p2, iv p3, iv p4, iv p5, iv 2, iv d0, iv d1, iv d2, iv d3, rv b176, iv d0, .unset, .unset]) rfl ?_
        refine XS.iload X175.here hx rfl (hb hby at_59) rfl ?_
        refine XS.iconst X175.here hx rfl (hb hby at_61) ?_
        refine XS.icmpNo X175.here hx rfl (hb hby at_62) rfl (tlt (by decide : (1 : Int32) < (2 : Int32))).2.2.2 ?_
        refine XS.iload X175.here hx rfl (hb hby at_65) rfl ?_
        refine XS.bipush X175.here hx rfl (hb hby at_67) ?_
        refine XS.imul X175.here hx rfl (hb hby at_69) rfl ?_
        refine XS.iload X175.here hx rfl (hb hby at_70) rfl ?_
        refine XS.iadd X175.here hx rfl (hb hby at_72) rfl ?_
        refine XS.istore X175.here hx rfl (hb hby at_73) rfl (l' := #[iv p1, iv p2, iv p3, iv p4, iv p5, iv 2, iv d0, iv d1, iv d2, iv d3, rv b176, iv ((d0 * (10 : Int32)) + d1), .unset, .unset]) rfl ?_
        refine XS.iload X175.here hx rfl (hb hby at_75) rfl ?_
        refine XS.iconst X175.here hx rfl (hb hby at_77) ?_
        refine XS.icmpYes X175.here hx rfl (pc0 := 78) (pc' := 91) rfl (hb hby at_78) rfl (flt (by decide : ¬ ((2 : Int32) < (2 : Int32)))).2.2.2 (by decide) (by decide) ?_
        refine XS.iload X175.here hx rfl (hb hby at_91) rfl ?_
        refine XS.iconst X175.here hx rfl (hb hby at_93) ?_
        refine XS.icmpYes X175.here hx rfl (pc0 := 94) (pc' := 107) rfl (hb hby at_94) rfl (flt (by decide : ¬ ((3 : Int32) < (2 : Int32)))).2.2.2 (by decide) (by decide) ?_
        refine XS.iload X175.here hx rfl (hb hby at_107) rfl ?_
        refine st194 _ ?_
        refine XS.astore X194.here hx rfl (hb hby at_112) rfl rfl (l' := #[iv p1, iv p2, iv p3, iv p4, iv p5, iv 2, iv d0, iv d1, iv d2, iv d3, rv b176, iv ((d0 * (10 : Int32)) + d1), rv b195, .unset]) rfl ?_
        refine XS.aload X194.here hx rfl (hb hby at_114) rfl rfl ?_
        refine st220 _ ?_
        refine XS.astore X220.here hx rfl (hb hby at_119) rfl rfl (l' := #[iv p1, iv p2, iv p3, iv p4, iv p5, iv 2, iv d0, iv d1, iv d2, iv d3, rv b176, iv ((d0 * (10 : Int32)) + d1), rv b195, rv b176]) rfl ?_
        refine XS.aload X220.here hx rfl (hb hby at_121) rfl rfl ?_
        refine XS.aload X220.here hx rfl (hb hby at_123) rfl rfl ?_
        show Steps p.tables e below (T220.setTop (mkF m 125 #[iv p1, iv p2, iv p3, iv p4, iv p5, iv 2, iv d0, iv d1, iv d2, iv d3, rv b176, iv ((d0 * (10 : Int32)) + d1), rv b195, rv b176] [(.ref b195), (.ref b176)])) t
        refine st221.trans ?_
        exact k)
      obtain ⟨fs, hr, hrun, hended, hW, hsame⟩ := X221.leave (v := some (.int 1)) (fun h => by rw [Bd.returns] at h; cases h)
      refine ⟨_, _, pre222 _ ?_, hrun, hended, _, _, rfl, ?_, ⟨_, rfl⟩, hW, hsame.mono (by decide) (by decide)⟩
      · exact retN X221 hx (t := .boolean) Bd.returns (by simp) (hb hby at_128) hr
      · show Q0 Z p1 p2 p3 p4 p5 cs vF h0 n0 _ T221.heap _
        rw [e221]
        exact ⟨rfl, N221⟩
    · have z223 := hs191
      have hv224 := own_v_2_1 hD0 hD1 z223
      obtain ⟨_, _, ⟨T225, L225, k225, n225⟩, -, X225, ⟨Lc225, hQ225, l225, y225, z225⟩, st225⟩ := Jvm.LawKit.callS X175 hx (y := own_y8) hown (own_m hZ hw 41) (own_m hZ hw 42) (own_m hZ hw 2) (own_m hZ hw 43) (by decide) (backOf (W := 0) (rmV_1 l Z a0 hw [] ((d0 * (10 : Int32)) + d1) cs T175.heap n0 f187 hv224.1 hv224.2.1 hv224.2.2.1 hv224.2.2.2.1 SC hcs f188) hZ (own_i hw 43 rfl) (own_i hw 2 rfl) (by decide) (by decide)) (g := (mkF m 109 #[iv p1, iv p2, iv p3, iv p4, iv p5, iv 2, iv d0, iv d1, iv d2, iv d3, rv b176, iv ((d0 * (10 : Int32)) + d1), .unset, .unset] [(.int ((d0 * (10 : Int32)) + d1))])) rfl (by rw [hml]; rfl) (argsL := [(.int ((d0 * (10 : Int32)) + d1))]) (rest := []) (lenOf pd_19 rfl) rfl (Nat.le_of_eq rfl) (hb hby at_109) (fun _ _ => ⟨rfl, rfl, (by decide : 3 + 3 ≤ _), (by decide : 8 + 6 ≤ _)⟩)
      dsimp only [Pt.U, Pt.locs, Pt.cells, Pt.slots] at X225 l225 y225 z225 st225 hQ225
      subst l225 y225 z225
      obtain ⟨b226, b227, x228, rfl, N225q, K225, f229, f230, f231, f232, f233, f234, f235, f236⟩ := hQ225
      have N225 := Fr.app N175 N225q
      have ne237 : b176 ≠ b226 := Nat.ne_of_lt (Nat.lt_of_lt_of_le f181.lt f230)
      have ne238 : b177 ≠ b226 := Nat.ne_of_lt (Nat.lt_of_lt_of_le f186.lt f230)
      have sz239 : h0.size ≤ b226 := Nat.le_trans f189.1 f230
      have ne240 : b176 ≠ b227 := Nat.ne_of_lt (Nat.lt_of_lt_of_le f181.lt f235)
      have ne241 : b177 ≠ b227 := Nat.ne_of_lt (Nat.lt_of_lt_of_le f186.lt f235)
      have sz242 : h0.size ≤ b227 := Nat.le_trans f189.1 f235
      have f243 := Nat.le_trans f187 K225.1
      have f244 := f188.keep K225 all0
      have f245 := f189.trans K225 all0
      have f246 := f181.keep K225
      have f247 := f182.keep K225 nin0
      have f248 := f183.keep K225 nin0
      have f249 := f186.keep K225 nin0
      have V250 : Arv Z T225.heap b227 x228 .byte (1 : Int32) [(.int (nar .byte ((nar .char (own_ch d1)).toInt8.toInt32)))] (.int 0) := by have q := f236; rw [hv224.2.2.2.2] at q; exact q
      obtain ⟨_, _, ⟨T251, L251, k251, n251⟩, -, X251, ⟨Lc251, hQ251, l251, y251, z251⟩, st251⟩ := Jvm.LawKit.callS X225 hx (y := own_y26) hown (own_m hZ hw 44) (own_m hZ hw 45) (own_m hZ hw 46) (own_m hZ hw 47) (by decide) (backOf (W := 0) (rmK_2_1 l Z a0 hw [] b176 cs vF b177 x178 (nar .byte ((nar .char (own_ch d0)).toInt8.toInt32)) (nar .byte ((nar .char (own_ch d1)).toInt8.toInt32)) T225.heap n0 f243 (SC.ext f244.2) hcs (SF.ext f244.2) hF f246 f247 f248 f249 ((own_cz hD0).mpr z223)) hZ (own_i hw 47 rfl) (own_i hw 46 rfl) (by decide) (by decide)) (g := (mkF m 116 #[iv p1, iv p2, iv p3, iv p4, iv p5, iv 2, iv d0, iv d1, iv d2, iv d3, rv b176, iv ((d0 * (10 : Int32)) + d1), rv b226, .unset] [(.ref b176)])) rfl (by rw [hml]; rfl) (argsL := [(.ref b176)]) (rest := []) (lenOf pd_23 rfl) rfl (Nat.le_of_eq rfl) (hb hby at_116) (fun _ _ => ⟨rfl, rfl, (by decide : 6 + 2 ≤ _), (by decide : 14 + 5 ≤ _)⟩)
      dsimp only [Pt.U, Pt.locs, Pt.cells, Pt.slots] at X251 l251 y251 z251 st251 hQ251
      subst l251 y251 z251
      obtain ⟨b252, b253, x254, rfl, N251q, K251, f255, f256, f257, f258, f259, f260, f261, f262⟩ := hQ251
      have N251 := Fr.app N225 N251q
      have ne263 : b176 ≠ b252 := Nat.ne_of_lt (Nat.lt_of_lt_of_le f246.lt f256)
      have ne264 : b177 ≠ b252 := Nat.ne_of_lt (Nat.lt_of_lt_of_le f249.lt f256)
      have ne265 : b226 ≠ b252 := Nat.ne_of_lt (Nat.lt_of_lt_of_le f231.lt f256)
      have ne266 : b227 ≠ b252 := Nat.ne_of_lt (Nat.lt_of_lt_of_le V250.lt f256)
      have sz267 : h0.size ≤ b252 := Nat.le_trans f245.1 f256
      have ne268 : b176 ≠ b253 := Nat.ne_of_lt (Nat.lt_of_lt_of_le f246.lt f261)
      have ne269 : b177 ≠ b253 := Nat.ne_of_lt (Nat.lt_of_lt_of_le f249.lt f261)
      have ne270 : b226 ≠ b253 := Nat.ne_of_lt (Nat.lt_of_lt_of_le f231.lt f261)
      have ne271 : b227 ≠ b253 := Nat.ne_of_lt (Nat.lt_of_lt_of_le V250.lt f261)
      have sz272 : h0.size ≤ b253 := Nat.le_trans f245.1 f261
      have f273 := Nat.le_trans f243 K251.1
      have f274 := f244.keep K251 all0
      have f275 := f245.trans K251 all0
      have f276 := f246.keep K251
      have f277 := f247.keep K251 nin0
      have f278 := f248.keep K251 nin0
      have f279 := f249.keep K251 nin0
      have f280 := f231.keep K251
      have f281 := f232.keep K251 nin0
      have f282 := f233.keep K251 nin0
      have f283 := V250.keep K251 nin0
      obtain ⟨cq284, kq284, q284a, q284b, q284c⟩ := isOf hZ rfl f257
      obtain ⟨_, _, ⟨T284, L284, k284, n284⟩, -, X284, ⟨Lc284, hQ284, l284, y284, z284⟩, st284⟩ := X251.virtualBack hx (y := own_y28) (z := own_y28) hown (own_m hZ hw 77) (own_m hZ hw 78) (notFace_of_selects (args := #[]) (own_m hZ hw 80)) (own_m hZ hw 80) (own_m hZ hw 79) (by decide) (backOf (W := 0) (rmEq_1 l Z a0 hw [] b252 b226 cs b253 b227 x254 x228 (nar .byte ((nar .char (own_ch d1)).toInt8.toInt32)) T251.heap n0 f273 f280 (SC.ext f274.2) hcs f258 f281 f259 f282 f262 f283) hZ (own_i hw 81 rfl) (own_i hw 10 rfl) (by decide) (by decide)) q284a q284c (g := (mkF m 125 #[iv p1, iv p2, iv p3, iv p4, iv p5, iv 2, iv d0, iv d1, iv d2, iv d3, rv b176, iv ((d0 * (10 : Int32)) + d1), rv b226, rv b252] [(.ref b226), (.ref b252)])) rfl (by rw [hml]; rfl) (Steps.refl _) (argsL := [(.ref b226)]) (rest := []) (lenOf pd_24 rfl) rfl (Nat.le_of_eq rfl) (hb hby at_125) (fun _ _ => ⟨rfl, rfl, (by decide : 8 + 0 ≤ _), (by decide : 19 + 0 ≤ _)⟩)
      dsimp only [Pt.U, Pt.locs, Pt.cells, Pt.slots] at X284 l284 y284 z284 st284 hQ284
      subst l284 y284 z284
      obtain ⟨rfl, N284q, e284⟩ := hQ284
      have N284 := Fr.app N251 N284q
      have pre285 : own_P p e below s₁ (entryFrame m #[(.int p1), (.int p2), (.int p3), (.int p4), (.int p5)] maxLocals) T284 (mkF m 128 #[iv p1, iv p2, iv p3, iv p4, iv p5, iv 2, iv d0, iv d1, iv d2, iv d3, rv b176, iv ((d0 * (10 : Int32)) + d1), rv b226, rv b252] [(.int 1)]) := fun t k => pre190 t (by
        show Steps p.tables e below (T175.setTop (mkF m 55 #[iv p1, iv p2, iv p3, iv p4, iv p5, iv 2, iv d0, iv d1, iv d2, iv d3, rv b176, .unset, .unset, .unset] [])) t
        refine XS.iload X175.here hx rfl (hb hby at_55) rfl ?_
        refine XS.istore X175.here hx rfl (hb hby at_57) rfl (l' := #[iv p1, iv p2, iv p3, iv p4, iv p5, iv 2, iv d0, iv d1, iv d2, iv d3, rv b176, iv d0, .unset, .unset]) rfl ?_
        refine XS.iload X175.here hx rfl (hb hby at_59) rfl ?_
        refine XS.iconst X175.here hx rfl (hb hby at_61) ?_
        refine XS.icmpNo X175.here hx rfl (hb hby at_62) rfl (tlt (by decide : (1 : Int32) < (2 : Int32))).2.2.2 ?_
        refine XS.iload X175.here hx rfl (hb hby at_65) rfl ?_
        refine XS.bipush X175.here hx rfl (hb hby at_67) ?_
        refine XS.imul X175.here hx rfl (hb hby at_69) rfl ?_
        refine XS.iload X175.here hx rfl (hb hby at_70) rfl ?_
        refine XS.iadd X175.here hx rfl (hb hby at_72) rfl ?_
        refine XS.istore X175.here hx rfl (hb hby at_73) rfl (l' := #[iv p1, iv p2, iv p3, iv p4, iv p5, iv 2, iv d0, iv d1, iv d2, iv d3, rv b176, iv ((d0 * (10 : Int32)) + d1), .unset, .unset]) rfl ?_
        refine XS.iload X175.here hx rfl (hb hby at_75) rfl ?_
        refine XS.iconst X175.here hx rfl (hb hby at_77) ?_
        refine XS.icmpYes X175.here hx rfl (pc0 := 78) (pc' := 91) rfl (hb hby at_78) rfl (flt (by decide : ¬ ((2 : Int32) < (2 : Int32)))).2.2.2 (by decide) (by decide) ?_
        refine XS.iload X175.here hx rfl (hb hby at_91) rfl ?_
        refine XS.iconst X175.here hx rfl (hb hby at_93) ?_
        refine XS.icmpYes X175.here hx rfl (pc0 := 94) (pc' := 107) rfl (hb hby at_94) rfl (flt (by decide : ¬ ((3 : Int32) < (2 : Int32)))).2.2.2 (by decide) (by decide) ?_
        refine XS.iload X175.here hx rfl (hb hby at_107) rfl ?_
        refine st225 _ ?_
        refine XS.astore X225.here hx rfl (hb hby at_112) rfl rfl (l' := #[iv p1, iv p2, iv p3, iv p4, iv p5, iv 2, iv d0, iv d1, iv d2, iv d3, rv b176, iv ((d0 * (10 : Int32)) + d1), rv b226, .unset]) rfl ?_
        refine XS.aload X225.here hx rfl (hb hby at_114) rfl rfl ?_
        refine st251 _ ?_
        refine XS.astore X251.here hx rfl (hb hby at_119) rfl rfl (l' := #[iv p1, iv p2, iv p3, iv p4, iv p5, iv 2, iv d0, iv d1, iv d2, iv d3, rv b176, iv ((d0 * (10 : Int32)) + d1), rv b226, rv b252]) rfl ?_
        refine XS.aload X251.here hx rfl (hb hby at_121) rfl rfl ?_
        refine XS.aload X251.here hx rfl (hb hby at_123) rfl rfl ?_
        show Steps p.tables e below (T251.setTop (mkF m 125 #[iv p1, iv p2, iv p3, iv p4, iv p5, iv 2, iv d0, iv d1, iv d2, iv d3, rv b176, iv ((d0 * (10 : Int32)) + d1), rv b226, rv b252] [(.ref b226), (.ref b252)])) t
        refine st284.trans ?_
        exact k)
      obtain ⟨fs, hr, hrun, hended, hW, hsame⟩ := X284.leave (v := some (.int 1)) (fun h => by rw [Bd.returns] at h; cases h)
      refine ⟨_, _, pre285 _ ?_, hrun, hended, _, _, rfl, ?_, ⟨_, rfl⟩, hW, hsame.mono (by decide) (by decide)⟩
      · exact retN X284 hx (t := .boolean) Bd.returns (by simp) (hb hby at_128) hr
      · show Q0 Z p1 p2 p3 p4 p5 cs vF h0 n0 _ T284.heap _
        rw [e284]
        exact ⟨rfl, N284⟩
  · have pre286 : own_P p e below s₁ (entryFrame m #[(.int p1), (.int p2), (.int p3), (.int p4), (.int p5)] maxLocals) s₁ (mkF m 7 #[iv p1, iv p2, iv p3, iv p4, iv p5, iv 3, .unset, .unset, .unset, .unset, .unset, .unset, .unset, .unset] []) := fun t k => pre102 t (by rw [show ((1 : Int32) + (p1 &&& (3 : Int32))) = (3 : Int32) from (congrArg (fun z => (1 : Int32) + z) hs103)]; exact k)
    obtain ⟨_, _, ⟨T287, L287, k287, n287⟩, -, X287, ⟨Lc287, hQ287, l287, y287, z287⟩, st287⟩ := Jvm.LawKit.callS X0 hx (y := own_y5) hown (own_m hZ hw 0) (own_m hZ hw 1) (own_m hZ hw 2) (own_m hZ hw 3) (by decide) (backOf (W := 0) (rmDg l Z a0 hw [] p2 p1 (2 : Int32) h0 n0 Z0 ) hZ (own_i hw 3 rfl) (own_i hw 2 rfl) (by decide) (by decide)) (g := (mkF m 10 #[iv p1, iv p2, iv p3, iv p4, iv p5, iv 3, .unset, .unset, .unset, .unset, .unset, .unset, .unset, .unset] [(.int 2), (.int p1), (.int p2)])) rfl (by rw [hml]; rfl) (argsL := [(.int p2), (.int p1), (.int 2)]) (rest := []) (lenOf pd_21 rfl) rfl (Nat.le_of_eq rfl) (hb hby at_10) (fun _ _ => ⟨rfl, e0, (by decide : 0 + 0 ≤ _), (by decide : 0 + 0 ≤ _)⟩)
    dsimp only [Pt.U, Pt.locs, Pt.cells, Pt.slots] at X287 l287 y287 z287 st287 hQ287
    subst l287 y287 z287
    obtain ⟨rfl, N287q, e287⟩ := hQ287
    have N287 := Fr.app N0 N287q
    obtain ⟨d0, hE0⟩ : ∃ d, d = (own_dig p2 p1 (2 : Int32)) := ⟨_, rfl⟩
    have hD0 : own_D d0 := hE0 ▸ own_digD _ _ _
    have pre288 : own_P p e below s₁ (entryFrame m #[(.int p1), (.int p2), (.int p3), (.int p4), (.int p5)] maxLocals) T287 (mkF m 13 #[iv p1, iv p2, iv p3, iv p4, iv p5, iv 3, .unset, .unset, .unset, .unset, .unset, .unset, .unset, .unset] [(.int (own_dig p2 p1 (2 : Int32)))]) := fun t k => pre286 t (by
      show Steps p.tables e below (s₁.setTop (mkF m 7 #[iv p1, iv p2, iv p3, iv p4, iv p5, iv 3, .unset, .unset, .unset, .unset, .unset, .unset, .unset, .unset] [])) t
      refine XS.iloadN X0.here hx rfl (hb hby at_7) rfl ?_
      refine XS.iloadN X0.here hx rfl (hb hby at_8) rfl ?_
      refine XS.iconst X0.here hx rfl (hb hby at_9) ?_
      refine st287 _ ?_
      exact k)
    have pre289 : own_P p e below s₁ (entryFrame m #[(.int p1), (.int p2), (.int p3), (.int p4), (.int p5)] maxLocals) T287 (mkF m 13 #[iv p1, iv p2, iv p3, iv p4, iv p5, iv 3, .unset, .unset, .unset, .unset, .unset, .unset, .unset, .unset] [(.int d0)]) := fun t k => pre288 t (by rw [show (own_dig p2 p1 (2 : Int32)) = d0 from hE0.symm]; exact k)
    obtain ⟨_, _, ⟨T290, L290, k290, n290⟩, -, X290, ⟨Lc290, hQ290, l290, y290, z290⟩, st290⟩ := Jvm.LawKit.callS X287 hx (y := own_y5) hown (own_m hZ hw 0) (own_m hZ hw 1) (own_m hZ hw 2) (own_m hZ hw 3) (by decide) (backOf (W := 0) (rmDg l Z a0 hw [] p3 p1 (3 : Int32) h0 n0 Z0 ) hZ (own_i hw 3 rfl) (own_i hw 2 rfl) (by decide) (by decide)) (g := (mkF m 18 #[iv p1, iv p2, iv p3, iv p4, iv p5, iv 3, iv d0, .unset, .unset, .unset, .unset, .unset, .unset, .unset] [(.int 3), (.int p1), (.int p3)])) rfl (by rw [hml]; rfl) (argsL := [(.int p3), (.int p1), (.int 3)]) (rest := []) (lenOf pd_21 rfl) rfl (Nat.le_of_eq rfl) (hb hby at_18) (fun _ _ => ⟨rfl, e287, (by decide : 0 + 0 ≤ _), (by decide : 0 + 0 ≤ _)⟩)
    dsimp only [Pt.U, Pt.locs, Pt.cells, Pt.slots] at X290 l290 y290 z290 st290 hQ290
    subst l290 y290 z290
    obtain ⟨rfl, N290q, e290⟩ := hQ290
    have N290 := Fr.app N287 N290q
    obtain ⟨d1, hE1⟩ : ∃ d, d = (own_dig p3 p1 (3 : Int32)) := ⟨_, rfl⟩
    have hD1 : own_D d1 := hE1 ▸ own_digD _ _ _
    have pre291 : own_P p e below s₁ (entryFrame m #[(.int p1), (.int p2), (.int p3), (.int p4), (.int p5)] maxLocals) T290 (mkF m 21 #[iv p1, iv p2, iv p3, iv p4, iv p5, iv 3, iv d0, .unset, .unset, .unset, .unset, .unset, .unset, .unset] [(.int (own_dig p3 p1 (3 : Int32)))]) := fun t k => pre289 t (by
      show Steps p.tables e below (T287.setTop (mkF m 13 #[iv p1, iv p2, iv p3, iv p4, iv p5, iv 3, .unset, .unset, .unset, .unset, .unset, .unset, .unset, .unset] [(.int d0)])) t
      refine XS.istore X287.here hx rfl (hb hby at_13) rfl (l' := #[iv p1, iv p2, iv p3, iv p4, iv p5, iv 3, iv d0, .unset, .unset, .unset, .unset, .unset, .unset, .unset]) rfl ?_
      refine XS.iloadN X287.here hx rfl (hb hby at_15) rfl ?_
      refine XS.iloadN X287.here hx rfl (hb hby at_16) rfl ?_
      refine XS.iconst X287.here hx rfl (hb hby at_17) ?_
      refine st290 _ ?_
      exact k)
    have pre292 : own_P p e below s₁ (entryFrame m #[(.int p1), (.int p2), (.int p3), (.int p4), (.int p5)] maxLocals) T290 (mkF m 21 #[iv p1, iv p2, iv p3, iv p4, iv p5, iv 3, iv d0, .unset, .unset, .unset, .unset, .unset, .unset, .unset] [(.int d1)]) := fun t k => pre291 t (by rw [show (own_dig p3 p1 (3 : Int32)) = d1 from hE1.symm]; exact k)
    obtain ⟨_, _, ⟨T293, L293, k293, n293⟩, -, X293, ⟨Lc293, hQ293, l293, y293, z293⟩, st293⟩ := Jvm.LawKit.callS X290 hx (y := own_y5) hown (own_m hZ hw 0) (own_m hZ hw 1) (own_m hZ hw 2) (own_m hZ hw 3) (by decide) (backOf (W := 0) (rmDg l Z a0 hw [] p4 p1 (4 : Int32) h0 n0 Z0 ) hZ (own_i hw 3 rfl) (own_i hw 2 rfl) (by decide) (by decide)) (g := (mkF m 26 #[iv p1, iv p2, iv p3, iv p4, iv p5, iv 3, iv d0, iv d1, .unset, .unset, .unset, .unset, .unset, .unset] [(.int 4), (.int p1), (.int p4)])) rfl (by rw [hml]; rfl) (argsL := [(.int p4), (.int p1), (.int 4)]) (rest := []) (lenOf pd_21 rfl) rfl (Nat.le_of_eq rfl) (hb hby at_26) (fun _ _ => ⟨rfl, e290, (by decide : 0 + 0 ≤ _), (by decide : 0 + 0 ≤ _)⟩)
    dsimp only [Pt.U, Pt.locs, Pt.cells, Pt.slots] at X293 l293 y293 z293 st293 hQ293
    subst l293 y293 z293
    obtain ⟨rfl, N293q, e293⟩ := hQ293
    have N293 := Fr.app N290 N293q
    obtain ⟨d2, hE2⟩ : ∃ d, d = (own_dig p4 p1 (4 : Int32)) := ⟨_, rfl⟩
    have hD2 : own_D d2 := hE2 ▸ own_digD _ _ _
    have pre294 : own_P p e below s₁ (entryFrame m #[(.int p1), (.int p2), (.int p3), (.int p4), (.int p5)] maxLocals) T293 (mkF m 29 #[iv p1, iv p2, iv p3, iv p4, iv p5, iv 3, iv d0, iv d1, .unset, .unset, .unset, .unset, .unset, .unset] [(.int (own_dig p4 p1 (4 : Int32)))]) := fun t k => pre292 t (by
      show Steps p.tables e below (T290.setTop (mkF m 21 #[iv p1, iv p2, iv p3, iv p4, iv p5, iv 3, iv d0, .unset, .unset, .unset, .unset, .unset, .unset, .unset] [(.int d1)])) t
      refine XS.istore X290.here hx rfl (hb hby at_21) rfl (l' := #[iv p1, iv p2, iv p3, iv p4, iv p5, iv 3, iv d0, iv d1, .unset, .unset, .unset, .unset, .unset, .unset]) rfl ?_
      refine XS.iloadN X290.here hx rfl (hb hby at_23) rfl ?_
      refine XS.iloadN X290.here hx rfl (hb hby at_24) rfl ?_
      refine XS.iconst X290.here hx rfl (hb hby at_25) ?_
      refine st293 _ ?_
      exact k)
    have pre295 : own_P p e below s₁ (entryFrame m #[(.int p1), (.int p2), (.int p3), (.int p4), (.int p5)] maxLocals) T293 (mkF m 29 #[iv p1, iv p2, iv p3, iv p4, iv p5, iv 3, iv d0, iv d1, .unset, .unset, .unset, .unset, .unset, .unset] [(.int d2)]) := fun t k => pre294 t (by rw [show (own_dig p4 p1 (4 : Int32)) = d2 from hE2.symm]; exact k)
    obtain ⟨_, _, ⟨T296, L296, k296, n296⟩, -, X296, ⟨Lc296, hQ296, l296, y296, z296⟩, st296⟩ := Jvm.LawKit.callS X293 hx (y := own_y5) hown (own_m hZ hw 0) (own_m hZ hw 1) (own_m hZ hw 2) (own_m hZ hw 3) (by decide) (backOf (W := 0) (rmDg l Z a0 hw [] p5 p1 (5 : Int32) h0 n0 Z0 ) hZ (own_i hw 3 rfl) (own_i hw 2 rfl) (by decide) (by decide)) (g := (mkF m 35 #[iv p1, iv p2, iv p3, iv p4, iv p5, iv 3, iv d0, iv d1, iv d2, .unset, .unset, .unset, .unset, .unset] [(.int 5), (.int p1), (.int p5)])) rfl (by rw [hml]; rfl) (argsL := [(.int p5), (.int p1), (.int 5)]) (rest := []) (lenOf pd_21 rfl) rfl (Nat.le_of_eq rfl) (hb hby at_35) (fun _ _ => ⟨rfl, e293, (by decide : 0 + 0 ≤ _), (by decide : 0 + 0 ≤ _)⟩)
    dsimp only [Pt.U, Pt.locs, Pt.cells, Pt.slots] at X296 l296 y296 z296 st296 hQ296
    subst l296 y296 z296
    obtain ⟨rfl, N296q, e296⟩ := hQ296
    have N296 := Fr.app N293 N296q
    obtain ⟨d3, hE3⟩ : ∃ d, d = (own_dig p5 p1 (5 : Int32)) := ⟨_, rfl⟩
    have hD3 : own_D d3 := hE3 ▸ own_digD _ _ _
    have pre297 : own_P p e below s₁ (entryFrame m #[(.int p1), (.int p2), (.int p3), (.int p4), (.int p5)] maxLocals) T296 (mkF m 38 #[iv p1, iv p2, iv p3, iv p4, iv p5, iv 3, iv d0, iv d1, iv d2, .unset, .unset, .unset, .unset, .unset] [(.int (own_dig p5 p1 (5 : Int32)))]) := fun t k => pre295 t (by
      show Steps p.tables e below (T293.setTop (mkF m 29 #[iv p1, iv p2, iv p3, iv p4, iv p5, iv 3, iv d0, iv d1, .unset, .unset, .unset, .unset, .unset, .unset] [(.int d2)])) t
      refine XS.istore X293.here hx rfl (hb hby at_29) rfl (l' := #[iv p1, iv p2, iv p3, iv p4, iv p5, iv 3, iv d0, iv d1, iv d2, .unset, .unset, .unset, .unset, .unset]) rfl ?_
      refine XS.iload X293.here hx rfl (hb hby at_31) rfl ?_
      refine XS.iloadN X293.here hx rfl (hb hby at_33) rfl ?_
      refine XS.iconst X293.here hx rfl (hb hby at_34) ?_
      refine st296 _ ?_
      exact k)
    have pre298 : own_P p e below s₁ (entryFrame m #[(.int p1), (.int p2), (.int p3), (.int p4), (.int p5)] maxLocals) T296 (mkF m 38 #[iv p1, iv p2, iv p3, iv p4, iv p5, iv 3, iv d0, iv d1, iv d2, .unset, .unset, .unset, .unset, .unset] [(.int d3)]) := fun t k => pre297 t (by rw [show (own_dig p5 p1 (5 : Int32)) = d3 from hE3.symm]; exact k)
    obtain ⟨_, _, ⟨T299, L299, k299, n299⟩, -, X299, ⟨Lc299, hQ299, l299, y299, z299⟩, st299⟩ := Jvm.LawKit.callS X296 hx (y := own_y7) hown (own_m hZ hw 5) (own_m hZ hw 6) (own_m hZ hw 2) (own_m hZ hw 7) (by decide) (backOf (W := 0) (rmT_3 l Z a0 hw [] d0 d1 d2 d3 cs h0 n0 Z0 hD0 hD1 hD2 SC hcs O0) hZ (own_i hw 7 rfl) (own_i hw 2 rfl) (by decide) (by decide)) (g := (mkF m 50 #[iv p1, iv p2, iv p3, iv p4, iv p5, iv 3, iv d0, iv d1, iv d2, iv d3, .unset, .unset, .unset, .unset] [(.int d3), (.int d2), (.int d1), (.int d0), (.int 3)])) rfl (by rw [hml]; rfl) (argsL := [(.int 3), (.int d0), (.int d1), (.int d2), (.int d3)]) (rest := []) (lenOf pd_22 rfl) rfl (Nat.le_of_eq rfl) (hb hby at_50) (fun _ _ => ⟨rfl, e296, (by decide : 0 + 3 ≤ _), (by decide : 0 + 10 ≤ _)⟩)
    dsimp only [Pt.U, Pt.locs, Pt.cells, Pt.slots] at X299 l299 y299 z299 st299 hQ299
    subst l299 y299 z299
    obtain ⟨b300, b301, x302, rfl, N299q, K299, f303, f304, f305, f306, f307, f308, f309, f310⟩ := hQ299
    have N299 := Fr.app N296 N299q
    have f311 := Nat.le_trans Z0 K299.1
    have f312 := O0.keep K299 all0
    have f313 := f101.trans K299 all0
    have pre314 : own_P p e below s₁ (entryFrame m #[(.int p1), (.int p2), (.int p3), (.int p4), (.int p5)] maxLocals) T299 (mkF m 55 #[iv p1, iv p2, iv p3, iv p4, iv p5, iv 3, iv d0, iv d1, iv d2, iv d3, rv b300, .unset, .unset, .unset] []) := fun t k => pre298 t (by
      show Steps p.tables e below (T296.setTop (mkF m 38 #[iv p1, iv p2, iv p3, iv p4, iv p5, iv 3, iv d0, iv d1, iv d2, .unset, .unset, .unset, .unset, .unset] [(.int d3)])) t
      refine XS.istore X296.here hx rfl (hb hby at_38) rfl (l' := #[iv p1, iv p2, iv p3, iv p4, iv p5, iv 3, iv d0, iv d1, iv d2, iv d3, .unset, .unset, .unset, .unset]) rfl ?_
      refine XS.iload X296.here hx rfl (hb hby at_40) rfl ?_
      refine XS.iload X296.here hx rfl (hb hby at_42) rfl ?_
      refine XS.iload X296.here hx rfl (hb hby at_44) rfl ?_
      refine XS.iload X296.here hx rfl (hb hby at_46) rfl ?_
      refine XS.iload X296.here hx rfl (hb hby at_48) rfl ?_
      refine st299 _ ?_
      refine XS.astore X299.here hx rfl (hb hby at_53) rfl rfl (l' := #[iv p1, iv p2, iv p3, iv p4, iv p5, iv 3, iv d0, iv d1, iv d2, iv d3, rv b300, .unset, .unset, .unset]) rfl ?_
      exact k)
    rcases own_lead_3 d0 d1 d2 with hs315 | hs315 | hs315
    · have z316 := hs315
      have hv317 := own_v_3_0 hD0 hD1 hD2 z316
      obtain ⟨_, _, ⟨T318, L318, k318, n318⟩, -, X318, ⟨Lc318, hQ318, l318, y318, z318⟩, st318⟩ := Jvm.LawKit.callS X299 hx (y := own_y8) hown (own_m hZ hw 41) (own_m hZ hw 42) (own_m hZ hw 2) (own_m hZ hw 43) (by decide) (backOf (W := 0) (rmV_3 l Z a0 hw [] ((((d0 * (10 : Int32)) + d1) * (10 : Int32)) + d2) cs T299.heap n0 f311 hv317.1 hv317.2.1 hv317.2.2.1 hv317.2.2.2.1 hv317.2.2.2.2.1 SC hcs f312) hZ (own_i hw 43 rfl) (own_i hw 2 rfl) (by decide) (by decide)) (g := (mkF m 109 #[iv p1, iv p2, iv p3, iv p4, iv p5, iv 3, iv d0, iv d1, iv d2, iv d3, rv b300, iv ((((d0 * (10 : Int32)) + d1) * (10 : Int32)) + d2), .unset, .unset] [(.int ((((d0 * (10 : Int32)) + d1) * (10 : Int32)) + d2))])) rfl (by rw [hml]; rfl) (argsL := [(.int ((((d0 * (10 : Int32)) + d1) * (10 : Int32)) + d2))]) (rest := []) (lenOf pd_19 rfl) rfl (Nat.le_of_eq rfl) (hb hby at_109) (fun _ _ => ⟨rfl, rfl, (by decide : 3 + 3 ≤ _), (by decide : 10 + 10 ≤ _)⟩)
      dsimp only [Pt.U, Pt.locs, Pt.cells, Pt.slots] at X318 l318 y318 z318 st318 hQ318
      subst l318 y318 z318
      obtain ⟨b319, b320, x321, rfl, N318q, K318, f322, f323, f324, f325, f326, f327, f328, f329⟩ := hQ318
      have N318 := Fr.app N299 N318q
      have ne330 : b300 ≠ b319 := Nat.ne_of_lt (Nat.lt_of_lt_of_le f305.lt f323)
      have ne331 : b301 ≠ b319 := Nat.ne_of_lt (Nat.lt_of_lt_of_le f310.lt f323)
      have sz332 : h0.size ≤ b319 := Nat.le_trans f313.1 f323
      have ne333 : b300 ≠ b320 := Nat.ne_of_lt (Nat.lt_of_lt_of_le f305.lt f328)
      have ne334 : b301 ≠ b320 := Nat.ne_of_lt (Nat.lt_of_lt_of_le f310.lt f328)
      have sz335 : h0.size ≤ b320 := Nat.le_trans f313.1 f328
      have f336 := Nat.le_trans f311 K318.1
      have f337 := f312.keep K318 all0
      have f338 := f313.trans K318 all0
      have f339 := f305.keep K318
      have f340 := f306.keep K318 nin0
      have f341 := f307.keep K318 nin0
      have f342 := f310.keep K318 nin0
      have V343 : Arv Z T318.heap b320 x321 .byte (3 : Int32) [(.int (nar .byte ((nar .char (own_ch d0)).toInt8.toInt32))), (.int (nar .byte ((nar .char (own_ch d1)).toInt8.toInt32))), (.int (nar .byte ((nar .char (own_ch d2)).toInt8.toInt32)))] (.int 0) := by have q := f329; rw [hv317.2.2.2.2.2.1, hv317.2.2.2.2.2.2.1, hv317.2.2.2.2.2.2.2] at q; exact q
      obtain ⟨_, _, ⟨T344, L344, k344, n344⟩, -, X344, ⟨Lc344, hQ344, l344, y344, z344⟩, st344⟩ := Jvm.LawKit.callS X318 hx (y := own_y26) hown (own_m hZ hw 44) (own_m hZ hw 45) (own_m hZ hw 46) (own_m hZ hw 47) (by decide) (backOf (W := 0) (rmK_3_0 l Z a0 hw [] b300 cs vF b301 x302 (nar .byte ((nar .char (own_ch d0)).toInt8.toInt32)) (nar .byte ((nar .char (own_ch d1)).toInt8.toInt32)) (nar .byte ((nar .char (own_ch d2)).toInt8.toInt32)) T318.heap n0 f336 (SC.ext f337.2) hcs (SF.ext f337.2) hF f339 f340 f341 f342 (fun q => z316 ((own_cz hD0).mp q))) hZ (own_i hw 47 rfl) (own_i hw 46 rfl) (by decide) (by decide)) (g := (mkF m 116 #[iv p1, iv p2, iv p3, iv p4, iv p5, iv 3, iv d0, iv d1, iv d2, iv d3, rv b300, iv ((((d0 * (10 : Int32)) + d1) * (10 : Int32)) + d2), rv b319, .unset] [(.ref b300)])) rfl (by rw [hml]; rfl) (argsL := [(.ref b300)]) (rest := []) (lenOf pd_23 rfl) rfl (Nat.le_of_eq rfl) (hb hby at_116) (fun _ _ => ⟨rfl, rfl, (by decide : 6 + 0 ≤ _), (by decide : 20 + 0 ≤ _)⟩)
      dsimp only [Pt.U, Pt.locs, Pt.cells, Pt.slots] at X344 l344 y344 z344 st344 hQ344
      subst l344 y344 z344
      obtain ⟨rfl, N344q, e344⟩ := hQ344
      have N344 := Fr.app N318 N344q
      obtain ⟨cq345, kq345, q345a, q345b, q345c⟩ := isOf hZ e344 f339
      obtain ⟨_, _, ⟨T345, L345, k345, n345⟩, -, X345, ⟨Lc345, hQ345, l345, y345, z345⟩, st345⟩ := X344.virtualBack hx (y := own_y28) (z := own_y28) hown (own_m hZ hw 77) (own_m hZ hw 78) (notFace_of_selects (args := #[]) (own_m hZ hw 80)) (own_m hZ hw 80) (own_m hZ hw 79) (by decide) (backOf (W := 0) (rmEq_3 l Z a0 hw [] b300 b319 cs b301 b320 x302 x321 (nar .byte ((nar .char (own_ch d0)).toInt8.toInt32)) (nar .byte ((nar .char (own_ch d1)).toInt8.toInt32)) (nar .byte ((nar .char (own_ch d2)).toInt8.toInt32)) T318.heap n0 f336 f324 (SC.ext f337.2) hcs f340 f325 f341 f326 f342 V343) hZ (own_i hw 81 rfl) (own_i hw 10 rfl) (by decide) (by decide)) q345a q345c (g := (mkF m 125 #[iv p1, iv p2, iv p3, iv p4, iv p5, iv 3, iv d0, iv d1, iv d2, iv d3, rv b300, iv ((((d0 * (10 : Int32)) + d1) * (10 : Int32)) + d2), rv b319, rv b300] [(.ref b319), (.ref b300)])) rfl (by rw [hml]; rfl) (Steps.refl _) (argsL := [(.ref b319)]) (rest := []) (lenOf pd_24 rfl) rfl (Nat.le_of_eq rfl) (hb hby at_125) (fun _ _ => ⟨rfl, e344, (by decide : 6 + 0 ≤ _), (by decide : 20 + 0 ≤ _)⟩)
      dsimp only [Pt.U, Pt.locs, Pt.cells, Pt.slots] at X345 l345 y345 z345 st345 hQ345
      subst l345 y345 z345
      obtain ⟨rfl, N345q, e345⟩ := hQ345
      have N345 := Fr.app N344 N345q
      have pre346 : own_P p e below s₁ (entryFrame m #[(.int p1), (.int p2), (.int p3), (.int p4), (.int p5)] maxLocals) T345 (mkF m 128 #[iv p1, iv p2, iv p3, iv p4, iv p5, iv 3, iv d0, iv d1, iv d2, iv d3, rv b300, iv ((((d0 * (10 : Int32)) + d1) * (10 : Int32)) + d2), rv b319, rv b300] [(.int 1)]) := fun t k => pre314 t (by
        show Steps p.tables e below (T299.setTop (mkF m 55 #[iv p1, iv p2, iv p3, iv p4, iv p5, iv 3, iv d0, iv d1, iv d2, iv d3, rv b300, .unset, .unset, .unset] [])) t
        refine XS.iload X299.here hx rfl (hb hby at_55) rfl ?_
        refine XS.istore X299.here hx rfl (hb hby at_57) rfl (l' := #[iv p1, iv p2, iv p3, iv p4, iv p5, iv 3, iv d0, iv d1, iv d2, iv d3, rv b300, iv d0, .unset, .unset]) rfl ?_
        refine XS.iload X299.here hx rfl (hb hby at_59) rfl ?_
        refine XS.iconst X299.here hx rfl (hb hby at_61) ?_
        refine XS.icmpNo X299.here hx rfl (hb hby at_62) rfl (tlt (by decide : (1 : Int32) < (3 : Int32))).2.2.2 ?_
        refine XS.iload X299.here hx rfl (hb hby at_65) rfl ?_
        refine XS.bipush X299.here hx rfl (hb hby at_67) ?_
        refine XS.imul X299.here hx rfl (hb hby at_69) rfl ?_
        refine XS.iload X299.here hx rfl (hb hby at_70) rfl ?_
        refine XS.iadd X299.here hx rfl (hb hby at_72) rfl ?_
        refine XS.istore X299.here hx rfl (hb hby at_73) rfl (l' := #[iv p1, iv p2, iv p3, iv p4, iv p5, iv 3, iv d0, iv d1, iv d2, iv d3, rv b300, iv ((d0 * (10 : Int32)) + d1), .unset, .unset]) rfl ?_
        refine XS.iload X299.here hx rfl (hb hby at_75) rfl ?_
        refine XS.iconst X299.here hx rfl (hb hby at_77) ?_
        refine XS.icmpNo X299.here hx rfl (hb hby at_78) rfl (tlt (by decide : (2 : Int32) < (3 : Int32))).2.2.2 ?_
        refine XS.iload X299.here hx rfl (hb hby at_81) rfl ?_
        refine XS.bipush X299.here hx rfl (hb hby at_83) ?_
        refine XS.imul X299.here hx rfl (hb hby at_85) rfl ?_
        refine XS.iload X299.here hx rfl (hb hby at_86) rfl ?_
        refine XS.iadd X299.here hx rfl (hb hby at_88) rfl ?_
        refine XS.istore X299.here hx rfl (hb hby at_89) rfl (l' := #[iv p1, iv p2, iv p3, iv p4, iv p5, iv 3, iv d0, iv d1, iv d2, iv d3, rv b300, iv ((((d0 * (10 : Int32)) + d1) * (10 : Int32)) + d2), .unset, .unset]) rfl ?_
        refine XS.iload X299.here hx rfl (hb hby at_91) rfl ?_
        refine XS.iconst X299.here hx rfl (hb hby at_93) ?_
        refine XS.icmpYes X299.here hx rfl (pc0 := 94) (pc' := 107) rfl (hb hby at_94) rfl (flt (by decide : ¬ ((3 : Int32) < (3 : Int32)))).2.2.2 (by decide) (by decide) ?_
        refine XS.iload X299.here hx rfl (hb hby at_107) rfl ?_
        refine st318 _ ?_
        show Steps p.tables e below (T318.setTop (mkF m 112 #[iv p1, iv p2, iv p3, iv p4, iv p5, iv 3, iv d0, iv d1, iv d2, iv d3, rv b300, iv ((((d0 * (10 : Int32)) + d1) * (10 : Int32)) + d2), .unset, .unset] [(.ref b319)])) t
        refine XS.astore X318.here hx rfl (hb hby at_112) rfl rfl (l' := #[iv p1, iv p2, iv p3, iv p4, iv p5, iv 3, iv d0, iv d1, iv d2, iv d3, rv b300, iv ((((d0 * (10 : Int32)) + d1) * (10 : Int32)) + d2), rv b319, .unset]) rfl ?_
        refine XS.aload X318.here hx rfl (hb hby at_114) rfl rfl ?_
        refine st344 _ ?_
        refine XS.astore X344.here hx rfl (hb hby at_119) rfl rfl (l' := #[iv p1, iv p2, iv p3, iv p4, iv p5, iv 3, iv d0, iv d1, iv d2, iv d3, rv b300, iv ((((d0 * (10 : Int32)) + d1) * (10 : Int32)) + d2), rv b319, rv b300]) rfl ?_
        refine XS.aload X344.here hx rfl (hb hby at_121) rfl rfl ?_
        refine XS.aload X344.here hx rfl (hb hby at_123) rfl rfl ?_
        refine st345.trans ?_
        exact k)
      obtain ⟨fs, hr, hrun, hended, hW, hsame⟩ := X345.leave (v := some (.int 1)) (fun h => by rw [Bd.returns] at h; cases h)
      refine ⟨_, _, pre346 _ ?_, hrun, hended, _, _, rfl, ?_, ⟨_, rfl⟩, hW, hsame.mono (by decide) (by decide)⟩
      · exact retN X345 hx (t := .boolean) Bd.returns (by simp) (hb hby at_128) hr
      · show Q0 Z p1 p2 p3 p4 p5 cs vF h0 n0 _ T345.heap _
        rw [e345]
        exact ⟨rfl, N345⟩
    · obtain ⟨z347, z348⟩ := hs315
      have hv349 := own_v_3_1 hD0 hD1 hD2 z347 z348
      obtain ⟨_, _, ⟨T350, L350, k350, n350⟩, -, X350, ⟨Lc350, hQ350, l350, y350, z350⟩, st350⟩ := Jvm.LawKit.callS X299 hx (y := own_y8) hown (own_m hZ hw 41) (own_m hZ hw 42) (own_m hZ hw 2) (own_m hZ hw 43) (by decide) (backOf (W := 0) (rmV_2 l Z a0 hw [] ((((d0 * (10 : Int32)) + d1) * (10 : Int32)) + d2) cs T299.heap n0 f311 hv349.1 hv349.2.1 hv349.2.2.1 hv349.2.2.2.1 hv349.2.2.2.2.1 SC hcs f312) hZ (own_i hw 43 rfl) (own_i hw 2 rfl) (by decide) (by decide)) (g := (mkF m 109 #[iv p1, iv p2, iv p3, iv p4, iv p5, iv 3, iv d0, iv d1, iv d2, iv d3, rv b300, iv ((((d0 * (10 : Int32)) + d1) * (10 : Int32)) + d2), .unset, .unset] [(.int ((((d0 * (10 : Int32)) + d1) * (10 : Int32)) + d2))])) rfl (by rw [hml]; rfl) (argsL := [(.int ((((d0 * (10 : Int32)) + d1) * (10 : Int32)) + d2))]) (rest := []) (lenOf pd_19 rfl) rfl (Nat.le_of_eq rfl) (hb hby at_109) (fun _ _ => ⟨rfl, rfl, (by decide : 3 + 3 ≤ _), (by decide : 10 + 8 ≤ _)⟩)
      dsimp only [Pt.U, Pt.locs, Pt.cells, Pt.slots] at X350 l350 y350 z350 st350 hQ350
      subst l350 y350 z350
      obtain ⟨b351, b352, x353, rfl, N350q, K350, f354, f355, f356, f357, f358, f359, f360, f361⟩ := hQ350
      have N350 := Fr.app N299 N350q
      have ne362 : b300 ≠ b351 := Nat.ne_of_lt (Nat.lt_of_lt_of_le f305.lt f355)
      have ne363 : b301 ≠ b351 := Nat.ne_of_lt (Nat.lt_of_lt_of_le f310.lt f355)
      have sz364 : h0.size ≤ b351 := Nat.le_trans f313.1 f355
      have ne365 : b300 ≠ b352 := Nat.ne_of_lt (Nat.lt_of_lt_of_le f305.lt f360)
      have ne366 : b301 ≠ b352 := Nat.ne_of_lt (Nat.lt_of_lt_of_le f310.lt f360)
      have sz367 : h0.size ≤ b352 := Nat.le_trans f313.1 f360
      have f368 := Nat.le_trans f311 K350.1
      have f369 := f312.keep K350 all0
      have f370 := f313.trans K350 all0
      have f371 := f305.keep K350
      have f372 := f306.keep K350 nin0
      have f373 := f307.keep K350 nin0
      have f374 := f310.keep K350 nin0
      have V375 : Arv Z T350.heap b352 x353 .byte (2 : Int32) [(.int (nar .byte ((nar .char (own_ch d1)).toInt8.toInt32))), (.int (nar .byte ((nar .char (own_ch d2)).toInt8.toInt32)))] (.int 0) := by have q := f361; rw [hv349.2.2.2.2.2.1, hv349.2.2.2.2.2.2] at q; exact q
      obtain ⟨_, _, ⟨T376, L376, k376, n376⟩, -, X376, ⟨Lc376, hQ376, l376, y376, z376⟩, st376⟩ := Jvm.LawKit.callS X350 hx (y := own_y26) hown (own_m hZ hw 44) (own_m hZ hw 45) (own_m hZ hw 46) (own_m hZ hw 47) (by decide) (backOf (W := 0) (rmK_3_1 l Z a0 hw [] b300 cs vF b301 x302 (nar .byte ((nar .char (own_ch d0)).toInt8.toInt32)) (nar .byte ((nar .char (own_ch d1)).toInt8.toInt32)) (nar .byte ((nar .char (own_ch d2)).toInt8.toInt32)) T350.heap n0 f368 (SC.ext f369.2) hcs (SF.ext f369.2) hF f371 f372 f373 f374 ((own_cz hD0).mpr z347) (fun q => z348 ((own_cz hD1).mp q))) hZ (own_i hw 47 rfl) (own_i hw 46 rfl) (by decide) (by decide)) (g := (mkF m 116 #[iv p1, iv p2, iv p3, iv p4, iv p5, iv 3, iv d0, iv d1, iv d2, iv d3, rv b300, iv ((((d0 * (10 : Int32)) + d1) * (10 : Int32)) + d2), rv b351, .unset] [(.ref b300)])) rfl (by rw [hml]; rfl) (argsL := [(.ref b300)]) (rest := []) (lenOf pd_23 rfl) rfl (Nat.le_of_eq rfl) (hb hby at_116) (fun _ _ => ⟨rfl, rfl, (by decide : 6 + 2 ≤ _), (by decide : 18 + 6 ≤ _)⟩)
      dsimp only [Pt.U, Pt.locs, Pt.cells, Pt.slots] at X376 l376 y376 z376 st376 hQ376
      subst l376 y376 z376
      obtain ⟨b377, b378, x379, rfl, N376q, K376, f380, f381, f382, f383, f384, f385, f386, f387⟩ := hQ376
      have N376 := Fr.app N350 N376q
      have ne388 : b300 ≠ b377 := Nat.ne_of_lt (Nat.lt_of_lt_of_le f371.lt f381)
      have ne389 : b301 ≠ b377 := Nat.ne_of_lt (Nat.lt_of_lt_of_le f374.lt f381)
      have ne390 : b351 ≠ b377 := Nat.ne_of_lt (Nat.lt_of_lt_of_le f356.lt f381)
      have ne391 : b352 ≠ b377 := Nat.ne_of_lt (Nat.lt_of_lt_of_le V375.lt f381)
      have sz392 : h0.size ≤ b377 := Nat.le_trans f370.1 f381
      have ne393 : b300 ≠ b378 := Nat.ne_of_lt (Nat.lt_of_lt_of_le f371.lt f386)
      have ne394 : b301 ≠ b378 := Nat.ne_of_lt (Nat.lt_of_lt_of_le f374.lt f386)
      have ne395 : b351 ≠ b378 := Nat.ne_of_lt (Nat.lt_of_lt_of_le f356.lt f386)
      have ne396 : b352 ≠ b378 := Nat.ne_of_lt (Nat.lt_of_lt_of_le V375.lt f386)
      have sz397 : h0.size ≤ b378 := Nat.le_trans f370.1 f386
      have f398 := Nat.le_trans f368 K376.1
      have f399 := f369.keep K376 all0
      have f400 := f370.trans K376 all0
      have f401 := f371.keep K376
      have f402 := f372.keep K376 nin0
      have f403 := f373.keep K376 nin0
      have f404 := f374.keep K376 nin0
      have f405 := f356.keep K376
      have f406 := f357.keep K376 nin0
      have f407 := f358.keep K376 nin0
      have f408 := V375.keep K376 nin0
      obtain ⟨cq409, kq409, q409a, q409b, q409c⟩ := isOf hZ rfl f382
      obtain ⟨_, _, ⟨T409, L409, k409, n409⟩, -, X409, ⟨Lc409, hQ409, l409, y409, z409⟩, st409⟩ := X376.virtualBack hx (y := own_y28) (z := own_y28) hown (own_m hZ hw 77) (own_m hZ hw 78) (notFace_of_selects (args := #[]) (own_m hZ hw 80)) (own_m hZ hw 80) (own_m hZ hw 79) (by decide) (backOf (W := 0) (rmEq_2 l Z a0 hw [] b377 b351 cs b378 b352 x379 x353 (nar .byte ((nar .char (own_ch d1)).toInt8.toInt32)) (nar .byte ((nar .char (own_ch d2)).toInt8.toInt32)) T376.heap n0 f398 f405 (SC.ext f399.2) hcs f383 f406 f384 f407 f387 f408) hZ (own_i hw 81 rfl) (own_i hw 10 rfl) (by decide) (by decide)) q409a q409c (g := (mkF m 125 #[iv p1, iv p2, iv p3, iv p4, iv p5, iv 3, iv d0, iv d1, iv d2, iv d3, rv b300, iv ((((d0 * (10 : Int32)) + d1) * (10 : Int32)) + d2), rv b351, rv b377] [(.ref b351), (.ref b377)])) rfl (by rw [hml]; rfl) (Steps.refl _) (argsL := [(.ref b351)]) (rest := []) (lenOf pd_24 rfl) rfl (Nat.le_of_eq rfl) (hb hby at_125) (fun _ _ => ⟨rfl, rfl, (by decide : 8 + 0 ≤ _), (by decide : 24 + 0 ≤ _)⟩)
      dsimp only [Pt.U, Pt.locs, Pt.cells, Pt.slots] at X409 l409 y409 z409 st409 hQ409
      subst l409 y409 z409
      obtain ⟨rfl, N409q, e409⟩ := hQ409
      have N409 := Fr.app N376 N409q
      have pre410 : own_P p e below s₁ (entryFrame m #[(.int p1), (.int p2), (.int p3), (.int p4), (.int p5)] maxLocals) T409 (mkF m 128 #[iv p1, iv p2, iv p3, iv p4, iv p5, iv 3, iv d0, iv d1, iv d2, iv d3, rv b300, iv ((((d0 * (10 : Int32)) + d1) * (10 : Int32)) + d2), rv b351, rv b377] [(.int 1)]) := fun t k => pre314 t (by
        show Steps p.tables e below (T299.setTop (mkF m 55 #[iv p1, iv p2, iv p3, iv p4, iv p5, iv 3, iv d0, iv d1, iv d2, iv d3, rv b300, .unset, .unset, .unset] [])) t
        refine XS.iload X299.here hx rfl (hb hby at_55) rfl ?_
        refine XS.istore X299.here hx rfl (hb hby at_57) rfl (l' := #[iv p1, iv p2, iv p3, iv p4, iv p5, iv 3, iv d0, iv d1, iv d2, iv d3, rv b300, iv d0, .unset, .unset]) rfl ?_
        refine XS.iload X299.here hx rfl (hb hby at_59) rfl ?_
        refine XS.iconst X299.here hx rfl (hb hby at_61) ?_
        refine XS.icmpNo X299.here hx rfl (hb hby at_62) rfl (tlt (by decide : (1 : Int32) < (3 : Int32))).2.2.2 ?_
        refine XS.iload X299.here hx rfl (hb hby at_65) rfl ?_
        refine XS.bipush X299.here hx rfl (hb hby at_67) ?_
        refine XS.imul X299.here hx rfl (hb hby at_69) rfl ?_
        refine XS.iload X299.here hx rfl (hb hby at_70) rfl ?_
        refine XS.iadd X299.here hx rfl (hb hby at_72) rfl ?_
        refine XS.istore X299.here hx rfl (hb hby at_73) rfl (l' := #[iv p1, iv p2, iv p3, iv p4, iv p5, iv 3, iv d0, iv d1, iv d2, iv d3, rv b300, iv ((d0 * (10 : Int32)) + d1), .unset, .unset]) rfl ?_
        refine XS.iload X299.here hx rfl (hb hby at_75) rfl ?_
        refine XS.iconst X299.here hx rfl (hb hby at_77) ?_
        refine XS.icmpNo X299.here hx rfl (hb hby at_78) rfl (tlt (by decide : (2 : Int32) < (3 : Int32))).2.2.2 ?_
        refine XS.iload X299.here hx rfl (hb hby at_81) rfl ?_
        refine XS.bipush X299.here hx rfl (hb hby at_83) ?_
        refine XS.imul X299.here hx rfl (hb hby at_85) rfl ?_
        refine XS.iload X299.here hx rfl (hb hby at_86) rfl ?_
        refine XS.iadd X299.here hx rfl (hb hby at_88) rfl ?_
        refine XS.istore X299.here hx rfl (hb hby at_89) rfl (l' := #[iv p1, iv p2, iv p3, iv p4, iv p5, iv 3, iv d0, iv d1, iv d2, iv d3, rv b300, iv ((((d0 * (10 : Int32)) + d1) * (10 : Int32)) + d2), .unset, .unset]) rfl ?_
        refine XS.iload X299.here hx rfl (hb hby at_91) rfl ?_
        refine XS.iconst X299.here hx rfl (hb hby at_93) ?_
        refine XS.icmpYes X299.here hx rfl (pc0 := 94) (pc' := 107) rfl (hb hby at_94) rfl (flt (by decide : ¬ ((3 : Int32) < (3 : Int32)))).2.2.2 (by decide) (by decide) ?_
        refine XS.iload X299.here hx rfl (hb hby at_107) rfl ?_
        refine st350 _ ?_
        show Steps p.tables e below (T350.setTop (mkF m 112 #[iv p1, iv p2, iv p3, iv p4, iv p5, iv 3, iv d0, iv d1, iv d2, iv d3, rv b300, iv ((((d0 * (10 : Int32)) + d1) * (10 : Int32)) + d2), .unset, .unset] [(.ref b351)])) t
        refine XS.astore X350.here hx rfl (hb hby at_112) rfl rfl (l' := #[iv p1, iv p2, iv p3, iv p4, iv p5, iv 3, iv d0, iv d1, iv d2, iv d3, rv b300, iv ((((d0 * (10 : Int32)) + d1) * (10 : Int32)) + d2), rv b351, .unset]) rfl ?_
        refine XS.aload X350.here hx rfl (hb hby at_114) rfl rfl ?_
        refine st376 _ ?_
        refine XS.astore X376.here hx rfl (hb hby at_119) rfl rfl (l' := #[iv p1, iv p2, iv p3, iv p4, iv p5, iv 3, iv d0, iv d1, iv d2, iv d3, rv b300, iv ((((d0 * (10 : Int32)) + d1) * (10 : Int32)) + d2), rv b351, rv b377]) rfl ?_
        refine XS.aload X376.here hx rfl (hb hby at_121) rfl rfl ?_
        refine XS.aload X376.here hx rfl (hb hby at_123) rfl rfl ?_
        refine st409.trans ?_
        exact k)
      obtain ⟨fs, hr, hrun, hended, hW, hsame⟩ := X409.leave (v := some (.int 1)) (fun h => by rw [Bd.returns] at h; cases h)
      refine ⟨_, _, pre410 _ ?_, hrun, hended, _, _, rfl, ?_, ⟨_, rfl⟩, hW, hsame.mono (by decide) (by decide)⟩
      · exact retN X409 hx (t := .boolean) Bd.returns (by simp) (hb hby at_128) hr
      · show Q0 Z p1 p2 p3 p4 p5 cs vF h0 n0 _ T409.heap _
        rw [e409]
        exact ⟨rfl, N409⟩
    · obtain ⟨z411, z412⟩ := hs315
      have hv413 := own_v_3_2 hD0 hD1 hD2 z411 z412
      obtain ⟨_, _, ⟨T414, L414, k414, n414⟩, -, X414, ⟨Lc414, hQ414, l414, y414, z414⟩, st414⟩ := Jvm.LawKit.callS X299 hx (y := own_y8) hown (own_m hZ hw 41) (own_m hZ hw 42) (own_m hZ hw 2) (own_m hZ hw 43) (by decide) (backOf (W := 0) (rmV_1 l Z a0 hw [] ((((d0 * (10 : Int32)) + d1) * (10 : Int32)) + d2) cs T299.heap n0 f311 hv413.1 hv413.2.1 hv413.2.2.1 hv413.2.2.2.1 SC hcs f312) hZ (own_i hw 43 rfl) (own_i hw 2 rfl) (by decide) (by decide)) (g := (mkF m 109 #[iv p1, iv p2, iv p3, iv p4, iv p5, iv 3, iv d0, iv d1, iv d2, iv d3, rv b300, iv ((((d0 * (10 : Int32)) + d1) * (10 : Int32)) + d2), .unset, .unset] [(.int ((((d0 * (10 : Int32)) + d1) * (10 : Int32)) + d2))])) rfl (by rw [hml]; rfl) (argsL := [(.int ((((d0 * (10 : Int32)) + d1) * (10 : Int32)) + d2))]) (rest := []) (lenOf pd_19 rfl) rfl (Nat.le_of_eq rfl) (hb hby at_109) (fun _ _ => ⟨rfl, rfl, (by decide : 3 + 3 ≤ _), (by decide : 10 + 6 ≤ _)⟩)
      dsimp only [Pt.U, Pt.locs, Pt.cells, Pt.slots] at X414 l414 y414 z414 st414 hQ414
      subst l414 y414 z414
      obtain ⟨b415, b416, x417, rfl, N414q, K414, f418, f419, f420, f421, f422, f423, f424, f425⟩ := hQ414
      have N414 := Fr.app N299 N414q
      have ne426 : b300 ≠ b415 := Nat.ne_of_lt (Nat.lt_of_lt_of_le f305.lt f419)
      have ne427 : b301 ≠ b415 := Nat.ne_of_lt (Nat.lt_of_lt_of_le f310.lt f419)
      have sz428 : h0.size ≤ b415 := Nat.le_trans f313.1 f419
      have ne429 : b300 ≠ b416 := Nat.ne_of_lt (Nat.lt_of_lt_of_le f305.lt f424)
      have ne430 : b301 ≠ b416 := Nat.ne_of_lt (Nat.lt_of_lt_of_le f310.lt f424)
      have sz431 : h0.size ≤ b416 := Nat.le_trans f313.1 f424
      have f432 := Nat.le_trans f311 K414.1
      have f433 := f312.keep K414 all0
      have f434 := f313.trans K414 all0
      have f435 := f305.keep K414
      have f436 := f306.keep K414 nin0
      have f437 := f307.keep K414 nin0
      have f438 := f310.keep K414 nin0
      have V439 : Arv Z T414.heap b416 x417 .byte (1 : Int32) [(.int (nar .byte ((nar .char (own_ch d2)).toInt8.toInt32)))] (.int 0) := by have q := f425; rw [hv413.2.2.2.2] at q; exact q
      obtain ⟨_, _, ⟨T440, L440, k440, n440⟩, -, X440, ⟨Lc440, hQ440, l440, y440, z440⟩, st440⟩ := Jvm.LawKit.callS X414 hx (y := own_y26) hown (own_m hZ hw 44) (own_m hZ hw 45) (own_m hZ hw 46) (own_m hZ hw 47) (by decide) (backOf (W := 0) (rmK_3_2 l Z a0 hw [] b300 cs vF b301 x302 (nar .byte ((nar .char (own_ch d0)).toInt8.toInt32)) (nar .byte ((nar .char (own_ch d1)).toInt8.toInt32)) (nar .byte ((nar .char (own_ch d2)).toInt8.toInt32)) T414.heap n0 f432 (SC.ext f433.2) hcs (SF.ext f433.2) hF f435 f436 f437 f438 ((own_cz hD0).mpr z411) ((own_cz hD1).mpr z412)) hZ (own_i hw 47 rfl) (own_i hw 46 rfl) (by decide) (by decide)) (g := (mkF m 116 #[iv p1, iv p2, iv p3, iv p4, iv p5, iv 3, iv d0, iv d1, iv d2, iv d3, rv b300, iv ((((d0 * (10 : Int32)) + d1) * (10 : Int32)) + d2), rv b415, .unset] [(.ref b300)])) rfl (by rw [hml]; rfl) (argsL := [(.ref b300)]) (rest := []) (lenOf pd_23 rfl) rfl (Nat.le_of_eq rfl) (hb hby at_116) (fun _ _ => ⟨rfl, rfl, (by decide : 6 + 2 ≤ _), (by decide : 16 + 5 ≤ _)⟩)
      dsimp only [Pt.U, Pt.locs, Pt.cells, Pt.slots] at X440 l440 y440 z440 st440 hQ440
      subst l440 y440 z440
      obtain ⟨b441, b442, x443, rfl, N440q, K440, f444, f445, f446, f447, f448, f449, f450, f451⟩ := hQ440
      have N440 := Fr.app N414 N440q
      have ne452 : b300 ≠ b441 := Nat.ne_of_lt (Nat.lt_of_lt_of_le f435.lt f445)
      have ne453 : b301 ≠ b441 := Nat.ne_of_lt (Nat.lt_of_lt_of_le f438.lt f445)
      have ne454 : b415 ≠ b441 := Nat.ne_of_lt (Nat.lt_of_lt_of_le f420.lt f445)
      have ne455 : b416 ≠ b441 := Nat.ne_of_lt (Nat.lt_of_lt_of_le V439.lt f445)
      have sz456 : h0.size ≤ b441 := Nat.le_trans f434.1 f445
      have ne457 : b300 ≠ b442 := Nat.ne_of_lt (Nat.lt_of_lt_of_le f435.lt f450)
      have ne458 : b301 ≠ b442 := Nat.ne_of_lt (Nat.lt_of_lt_of_le f438.lt f450)
      have ne459 : b415 ≠ b442 := Nat.ne_of_lt (Nat.lt_of_lt_of_le f420.lt f450)
      have ne460 : b416 ≠ b442 := Nat.ne_of_lt (Nat.lt_of_lt_of_le V439.lt f450)
      have sz461 : h0.size ≤ b442 := Nat.le_trans f434.1 f450
      have f462 := Nat.le_trans f432 K440.1
      have f463 := f433.keep K440 all0
      have f464 := f434.trans K440 all0
      have f465 := f435.keep K440
      have f466 := f436.keep K440 nin0
      have f467 := f437.keep K440 nin0
      have f468 := f438.keep K440 nin0
      have f469 := f420.keep K440
      have f470 := f421.keep K440 nin0
      have f471 := f422.keep K440 nin0
      have f472 := V439.keep K440 nin0
      obtain ⟨cq473, kq473, q473a, q473b, q473c⟩ := isOf hZ rfl f446
      obtain ⟨_, _, ⟨T473, L473, k473, n473⟩, -, X473, ⟨Lc473, hQ473, l473, y473, z473⟩, st473⟩ := X440.virtualBack hx (y := own_y28) (z := own_y28) hown (own_m hZ hw 77) (own_m hZ hw 78) (notFace_of_selects (args := #[]) (own_m hZ hw 80)) (own_m hZ hw 80) (own_m hZ hw 79) (by decide) (backOf (W := 0) (rmEq_1 l Z a0 hw [] b441 b415 cs b442 b416 x443 x417 (nar .byte ((nar .char (own_ch d2)).toInt8.toInt32)) T440.heap n0 f462 f469 (SC.ext f463.2) hcs f447 f470 f448 f471 f451 f472) hZ (own_i hw 81 rfl) (own_i hw 10 rfl) (by decide) (by decide)) q473a q473c (g := (mkF m 125 #[iv p1, iv p2, iv p3, iv p4, iv p5, iv 3, iv d0, iv d1, iv d2, iv d3, rv b300, iv ((((d0 * (10 : Int32)) + d1) * (10 : Int32)) + d2), rv b415, rv b441] [(.ref b415), (.ref b441)])) rfl (by rw [hml]; rfl) (Steps.refl _) (argsL := [(.ref b415)]) (rest := []) (lenOf pd_24 rfl) rfl (Nat.le_of_eq rfl) (hb hby at_125) (fun _ _ => ⟨rfl, rfl, (by decide : 8 + 0 ≤ _), (by decide : 21 + 0 ≤ _)⟩)
      dsimp only [Pt.U, Pt.locs, Pt.cells, Pt.slots] at X473 l473 y473 z473 st473 hQ473
      subst l473 y473 z473
      obtain ⟨rfl, N473q, e473⟩ := hQ473
      have N473 := Fr.app N440 N473q
      have pre474 : own_P p e below s₁ (entryFrame m #[(.int p1), (.int p2), (.int p3), (.int p4), (.int p5)] maxLocals) T473 (mkF m 128 #[iv p1, iv p2, iv p3, iv p4, iv p5, iv 3, iv d0, iv d1, iv d2, iv d3, rv b300, iv ((((d0 * (10 : Int32)) + d1) * (10 : Int32)) + d2), rv b415, rv b441] [(.int 1)]) := fun t k => pre314 t (by
        show Steps p.tables e below (T299.setTop (mkF m 55 #[iv p1, iv p2, iv p3, iv p4, iv p5, iv 3, iv d0, iv d1, iv d2, iv d3, rv b300, .unset, .unset, .unset] [])) t
        refine XS.iload X299.here hx rfl (hb hby at_55) rfl ?_
        refine XS.istore X299.here hx rfl (hb hby at_57) rfl (l' := #[iv p1, iv p2, iv p3, iv p4, iv p5, iv 3, iv d0, iv d1, iv d2, iv d3, rv b300, iv d0, .unset, .unset]) rfl ?_
        refine XS.iload X299.here hx rfl (hb hby at_59) rfl ?_
        refine XS.iconst X299.here hx rfl (hb hby at_61) ?_
        refine XS.icmpNo X299.here hx rfl (hb hby at_62) rfl (tlt (by decide : (1 : Int32) < (3 : Int32))).2.2.2 ?_
        refine XS.iload X299.here hx rfl (hb hby at_65) rfl ?_
        refine XS.bipush X299.here hx rfl (hb hby at_67) ?_
        refine XS.imul X299.here hx rfl (hb hby at_69) rfl ?_
        refine XS.iload X299.here hx rfl (hb hby at_70) rfl ?_
        refine XS.iadd X299.here hx rfl (hb hby at_72) rfl ?_
        refine XS.istore X299.here hx rfl (hb hby at_73) rfl (l' := #[iv p1, iv p2, iv p3, iv p4, iv p5, iv 3, iv d0, iv d1, iv d2, iv d3, rv b300, iv ((d0 * (10 : Int32)) + d1), .unset, .unset]) rfl ?_
        refine XS.iload X299.here hx rfl (hb hby at_75) rfl ?_
        refine XS.iconst X299.here hx rfl (hb hby at_77) ?_
        refine XS.icmpNo X299.here hx rfl (hb hby at_78) rfl (tlt (by decide : (2 : Int32) < (3 : Int32))).2.2.2 ?_
        refine XS.iload X299.here hx rfl (hb hby at_81) rfl ?_
        refine XS.bipush X299.here hx rfl (hb hby at_83) ?_
        refine XS.imul X299.here hx rfl (hb hby at_85) rfl ?_
        refine XS.iload X299.here hx rfl (hb hby at_86) rfl ?_
        refine XS.iadd X299.here hx rfl (hb hby at_88) rfl ?_
        refine XS.istore X299.here hx rfl (hb hby at_89) rfl (l' := #[iv p1, iv p2, iv p3, iv p4, iv p5, iv 3, iv d0, iv d1, iv d2, iv d3, rv b300, iv ((((d0 * (10 : Int32)) + d1) * (10 : Int32)) + d2), .unset, .unset]) rfl ?_
        refine XS.iload X299.here hx rfl (hb hby at_91) rfl ?_
        refine XS.iconst X299.here hx rfl (hb hby at_93) ?_
        refine XS.icmpYes X299.here hx rfl (pc0 := 94) (pc' := 107) rfl (hb hby at_94) rfl (flt (by decide : ¬ ((3 : Int32) < (3 : Int32)))).2.2.2 (by decide) (by decide) ?_
        refine XS.iload X299.here hx rfl (hb hby at_107) rfl ?_
        refine st414 _ ?_
        show Steps p.tables e below (T414.setTop (mkF m 112 #[iv p1, iv p2, iv p3, iv p4, iv p5, iv 3, iv d0, iv d1, iv d2, iv d3, rv b300, iv ((((d0 * (10 : Int32)) + d1) * (10 : Int32)) + d2), .unset, .unset] [(.ref b415)])) t
        refine XS.astore X414.here hx rfl (hb hby at_112) rfl rfl (l' := #[iv p1, iv p2, iv p3, iv p4, iv p5, iv 3, iv d0, iv d1, iv d2, iv d3, rv b300, iv ((((d0 * (10 : Int32)) + d1) * (10 : Int32)) + d2), rv b415, .unset]) rfl ?_
        refine XS.aload X414.here hx rfl (hb hby at_114) rfl rfl ?_
        refine st440 _ ?_
        refine XS.astore X440.here hx rfl (hb hby at_119) rfl rfl (l' := #[iv p1, iv p2, iv p3, iv p4, iv p5, iv 3, iv d0, iv d1, iv d2, iv d3, rv b300, iv ((((d0 * (10 : Int32)) + d1) * (10 : Int32)) + d2), rv b415, rv b441]) rfl ?_
        refine XS.aload X440.here hx rfl (hb hby at_121) rfl rfl ?_
        refine XS.aload X440.here hx rfl (hb hby at_123) rfl rfl ?_
        refine st473.trans ?_
        exact k)
      obtain ⟨fs, hr, hrun, hended, hW, hsame⟩ := X473.leave (v := some (.int 1)) (fun h => by rw [Bd.returns] at h; cases h)
      refine ⟨_, _, pre474 _ ?_, hrun, hended, _, _, rfl, ?_, ⟨_, rfl⟩, hW, hsame.mono (by decide) (by decide)⟩
      · exact retN X473 hx (t := .boolean) Bd.returns (by simp) (hb hby at_128) hr
      · show Q0 Z p1 p2 p3 p4 p5 cs vF h0 n0 _ T473.heap _
        rw [e473]
        exact ⟨rfl, N473⟩
  · have pre475 : own_P p e below s₁ (entryFrame m #[(.int p1), (.int p2), (.int p3), (.int p4), (.int p5)] maxLocals) s₁ (mkF m 7 #[iv p1, iv p2, iv p3, iv p4, iv p5, iv 4, .unset, .unset, .unset, .unset, .unset, .unset, .unset, .unset] []) := fun t k => pre102 t (by rw [show ((1 : Int32) + (p1 &&& (3 : Int32))) = (4 : Int32) from (congrArg (fun z => (1 : Int32) + z) hs103)]; exact k)
    obtain ⟨_, _, ⟨T476, L476, k476, n476⟩, -, X476, ⟨Lc476, hQ476, l476, y476, z476⟩, st476⟩ := Jvm.LawKit.callS X0 hx (y := own_y5) hown (own_m hZ hw 0) (own_m hZ hw 1) (own_m hZ hw 2) (own_m hZ hw 3) (by decide) (backOf (W := 0) (rmDg l Z a0 hw [] p2 p1 (2 : Int32) h0 n0 Z0 ) hZ (own_i hw 3 rfl) (own_i hw 2 rfl) (by decide) (by decide)) (g := (mkF m 10 #[iv p1, iv p2, iv p3, iv p4, iv p5, iv 4, .unset, .unset, .unset, .unset, .unset, .unset, .unset, .unset] [(.int 2), (.int p1), (.int p2)])) rfl (by rw [hml]; rfl) (argsL := [(.int p2), (.int p1), (.int 2)]) (rest := []) (lenOf pd_21 rfl) rfl (Nat.le_of_eq rfl) (hb hby at_10) (fun _ _ => ⟨rfl, e0, (by decide : 0 + 0 ≤ _), (by decide : 0 + 0 ≤ _)⟩)
    dsimp only [Pt.U, Pt.locs, Pt.cells, Pt.slots] at X476 l476 y476 z476 st476 hQ476
    subst l476 y476 z476
    obtain ⟨rfl, N476q, e476⟩ := hQ476
    have N476 := Fr.app N0 N476q
    obtain ⟨d0, hE0⟩ : ∃ d, d = (own_dig p2 p1 (2 : Int32)) := ⟨_, rfl⟩
    have hD0 : own_D d0 := hE0 ▸ own_digD _ _ _
    have pre477 : own_P p e below s₁ (entryFrame m #[(.int p1), (.int p2), (.int p3), (.int p4), (.int p5)] maxLocals) T476 (mkF m 13 #[iv p1, iv p2, iv p3, iv p4, iv p5, iv 4, .unset, .unset, .unset, .unset, .unset, .unset, .unset, .unset] [(.int (own_dig p2 p1 (2 : Int32)))]) := fun t k => pre475 t (by
      show Steps p.tables e below (s₁.setTop (mkF m 7 #[iv p1, iv p2, iv p3, iv p4, iv p5, iv 4, .unset, .unset, .unset, .unset, .unset, .unset, .unset, .unset] [])) t
      refine XS.iloadN X0.here hx rfl (hb hby at_7) rfl ?_
      refine XS.iloadN X0.here hx rfl (hb hby at_8) rfl ?_
      refine XS.iconst X0.here hx rfl (hb hby at_9) ?_
      refine st476 _ ?_
      exact k)
    have pre478 : own_P p e below s₁ (entryFrame m #[(.int p1), (.int p2), (.int p3), (.int p4), (.int p5)] maxLocals) T476 (mkF m 13 #[iv p1, iv p2, iv p3, iv p4, iv p5, iv 4, .unset, .unset, .unset, .unset, .unset, .unset, .unset, .unset] [(.int d0)]) := fun t k => pre477 t (by rw [show (own_dig p2 p1 (2 : Int32)) = d0 from hE0.symm]; exact k)
    obtain ⟨_, _, ⟨T479, L479, k479, n479⟩, -, X479, ⟨Lc479, hQ479, l479, y479, z479⟩, st479⟩ := Jvm.LawKit.callS X476 hx (y := own_y5) hown (own_m hZ hw 0) (own_m hZ hw 1) (own_m hZ hw 2) (own_m hZ hw 3) (by decide) (backOf (W := 0) (rmDg l Z a0 hw [] p3 p1 (3 : Int32) h0 n0 Z0 ) hZ (own_i hw 3 rfl) (own_i hw 2 rfl) (by decide) (by decide)) (g := (mkF m 18 #[iv p1, iv p2, iv p3, iv p4, iv p5, iv 4, iv d0, .unset, .unset, .unset, .unset, .unset, .unset, .unset] [(.int 3), (.int p1), (.int p3)])) rfl (by rw [hml]; rfl) (argsL := [(.int p3), (.int p1), (.int 3)]) (rest := []) (lenOf pd_21 rfl) rfl (Nat.le_of_eq rfl) (hb hby at_18) (fun _ _ => ⟨rfl, e476, (by decide : 0 + 0 ≤ _), (by decide : 0 + 0 ≤ _)⟩)
    dsimp only [Pt.U, Pt.locs, Pt.cells, Pt.slots] at X479 l479 y479 z479 st479 hQ479
    subst l479 y479 z479
    obtain ⟨rfl, N479q, e479⟩ := hQ479
    have N479 := Fr.app N476 N479q
    obtain ⟨d1, hE1⟩ : ∃ d, d = (own_dig p3 p1 (3 : Int32)) := ⟨_, rfl⟩
    have hD1 : own_D d1 := hE1 ▸ own_digD _ _ _
    have pre480 : own_P p e below s₁ (entryFrame m #[(.int p1), (.int p2), (.int p3), (.int p4), (.int p5)] maxLocals) T479 (mkF m 21 #[iv p1, iv p2, iv p3, iv p4, iv p5, iv 4, iv d0, .unset, .unset, .unset, .unset, .unset, .unset, .unset] [(.int (own_dig p3 p1 (3 : Int32)))]) := fun t k => pre478 t (by
      show Steps p.tables e below (T476.setTop (mkF m 13 #[iv p1, iv p2, iv p3, iv p4, iv p5, iv 4, .unset, .unset, .unset, .unset, .unset, .unset, .unset, .unset] [(.int d0)])) t
      refine XS.istore X476.here hx rfl (hb hby at_13) rfl (l' := #[iv p1, iv p2, iv p3, iv p4, iv p5, iv 4, iv d0, .unset, .unset, .unset, .unset, .unset, .unset, .unset]) rfl ?_
      refine XS.iloadN X476.here hx rfl (hb hby at_15) rfl ?_
      refine XS.iloadN X476.here hx rfl (hb hby at_16) rfl ?_
      refine XS.iconst X476.here hx rfl (hb hby at_17) ?_
      refine st479 _ ?_
      exact k)
    have pre481 : own_P p e below s₁ (entryFrame m #[(.int p1), (.int p2), (.int p3), (.int p4), (.int p5)] maxLocals) T479 (mkF m 21 #[iv p1, iv p2, iv p3, iv p4, iv p5, iv 4, iv d0, .unset, .unset, .unset, .unset, .unset, .unset, .unset] [(.int d1)]) := fun t k => pre480 t (by rw [show (own_dig p3 p1 (3 : Int32)) = d1 from hE1.symm]; exact k)
    obtain ⟨_, _, ⟨T482, L482, k482, n482⟩, -, X482, ⟨Lc482, hQ482, l482, y482, z482⟩, st482⟩ := Jvm.LawKit.callS X479 hx (y := own_y5) hown (own_m hZ hw 0) (own_m hZ hw 1) (own_m hZ hw 2) (own_m hZ hw 3) (by decide) (backOf (W := 0) (rmDg l Z a0 hw [] p4 p1 (4 : Int32) h0 n0 Z0 ) hZ (own_i hw 3 rfl) (own_i hw 2 rfl) (by decide) (by decide)) (g := (mkF m 26 #[iv p1, iv p2, iv p3, iv p4, iv p5, iv 4, iv d0, iv d1, .unset, .unset, .unset, .unset, .unset, .unset] [(.int 4), (.int p1), (.int p4)])) rfl (by rw [hml]; rfl) (argsL := [(.int p4), (.int p1), (.int 4)]) (rest := []) (lenOf pd_21 rfl) rfl (Nat.le_of_eq rfl) (hb hby at_26) (fun _ _ => ⟨rfl, e479, (by decide : 0 + 0 ≤ _), (by decide : 0 + 0 ≤ _)⟩)
    dsimp only [Pt.U, Pt.locs, Pt.cells, Pt.slots] at X482 l482 y482 z482 st482 hQ482
    subst l482 y482 z482
    obtain ⟨rfl, N482q, e482⟩ := hQ482
    have N482 := Fr.app N479 N482q
    obtain ⟨d2, hE2⟩ : ∃ d, d = (own_dig p4 p1 (4 : Int32)) := ⟨_, rfl⟩
    have hD2 : own_D d2 := hE2 ▸ own_digD _ _ _
    have pre483 : own_P p e below s₁ (entryFrame m #[(.int p1), (.int p2), (.int p3), (.int p4), (.int p5)] maxLocals) T482 (mkF m 29 #[iv p1, iv p2, iv p3, iv p4, iv p5, iv 4, iv d0, iv d1, .unset, .unset, .unset, .unset, .unset, .unset] [(.int (own_dig p4 p1 (4 : Int32)))]) := fun t k => pre481 t (by
      show Steps p.tables e below (T479.setTop (mkF m 21 #[iv p1, iv p2, iv p3, iv p4, iv p5, iv 4, iv d0, .unset, .unset, .unset, .unset, .unset, .unset, .unset] [(.int d1)])) t
      refine XS.istore X479.here hx rfl (hb hby at_21) rfl (l' := #[iv p1, iv p2, iv p3, iv p4, iv p5, iv 4, iv d0, iv d1, .unset, .unset, .unset, .unset, .unset, .unset]) rfl ?_
      refine XS.iloadN X479.here hx rfl (hb hby at_23) rfl ?_
      refine XS.iloadN X479.here hx rfl (hb hby at_24) rfl ?_
      refine XS.iconst X479.here hx rfl (hb hby at_25) ?_
      refine st482 _ ?_
      exact k)
    have pre484 : own_P p e below s₁ (entryFrame m #[(.int p1), (.int p2), (.int p3), (.int p4), (.int p5)] maxLocals) T482 (mkF m 29 #[iv p1, iv p2, iv p3, iv p4, iv p5, iv 4, iv d0, iv d1, .unset, .unset, .unset, .unset, .unset, .unset] [(.int d2)]) := fun t k => pre483 t (by rw [show (own_dig p4 p1 (4 : Int32)) = d2 from hE2.symm]; exact k)
    obtain ⟨_, _, ⟨T485, L485, k485, n485⟩, -, X485, ⟨Lc485, hQ485, l485, y485, z485⟩, st485⟩ := Jvm.LawKit.callS X482 hx (y := own_y5) hown (own_m hZ hw 0) (own_m hZ hw 1) (own_m hZ hw 2) (own_m hZ hw 3) (by decide) (backOf (W := 0) (rmDg l Z a0 hw [] p5 p1 (5 : Int32) h0 n0 Z0 ) hZ (own_i hw 3 rfl) (own_i hw 2 rfl) (by decide) (by decide)) (g := (mkF m 35 #[iv p1, iv p2, iv p3, iv p4, iv p5, iv 4, iv d0, iv d1, iv d2, .unset, .unset, .unset, .unset, .unset] [(.int 5), (.int p1), (.int p5)])) rfl (by rw [hml]; rfl) (argsL := [(.int p5), (.int p1), (.int 5)]) (rest := []) (lenOf pd_21 rfl) rfl (Nat.le_of_eq rfl) (hb hby at_35) (fun _ _ => ⟨rfl, e482, (by decide : 0 + 0 ≤ _), (by decide : 0 + 0 ≤ _)⟩)
    dsimp only [Pt.U, Pt.locs, Pt.cells, Pt.slots] at X485 l485 y485 z485 st485 hQ485
    subst l485 y485 z485
    obtain ⟨rfl, N485q, e485⟩ := hQ485
    have N485 := Fr.app N482 N485q
    obtain ⟨d3, hE3⟩ : ∃ d, d = (own_dig p5 p1 (5 : Int32)) := ⟨_, rfl⟩
    have hD3 : own_D d3 := hE3 ▸ own_digD _ _ _
    have pre486 : own_P p e below s₁ (entryFrame m #[(.int p1), (.int p2), (.int p3), (.int p4), (.int p5)] maxLocals) T485 (mkF m 38 #[iv p1, iv p2, iv p3, iv p4, iv p5, iv 4, iv d0, iv d1, iv d2, .unset, .unset, .unset, .unset, .unset] [(.int (own_dig p5 p1 (5 : Int32)))]) := fun t k => pre484 t (by
      show Steps p.tables e below (T482.setTop (mkF m 29 #[iv p1, iv p2, iv p3, iv p4, iv p5, iv 4, iv d0, iv d1, .unset, .unset, .unset, .unset, .unset, .unset] [(.int d2)])) t
      refine XS.istore X482.here hx rfl (hb hby at_29) rfl (l' := #[iv p1, iv p2, iv p3, iv p4, iv p5, iv 4, iv d0, iv d1, iv d2, .unset, .unset, .unset, .unset, .unset]) rfl ?_
      refine XS.iload X482.here hx rfl (hb hby at_31) rfl ?_
      refine XS.iloadN X482.here hx rfl (hb hby at_33) rfl ?_
      refine XS.iconst X482.here hx rfl (hb hby at_34) ?_
      refine st485 _ ?_
      exact k)
    have pre487 : own_P p e below s₁ (entryFrame m #[(.int p1), (.int p2), (.int p3), (.int p4), (.int p5)] maxLocals) T485 (mkF m 38 #[iv p1, iv p2, iv p3, iv p4, iv p5, iv 4, iv d0, iv d1, iv d2, .unset, .unset, .unset, .unset, .unset] [(.int d3)]) := fun t k => pre486 t (by rw [show (own_dig p5 p1 (5 : Int32)) = d3 from hE3.symm]; exact k)
    obtain ⟨_, _, ⟨T488, L488, k488, n488⟩, -, X488, ⟨Lc488, hQ488, l488, y488, z488⟩, st488⟩ := Jvm.LawKit.callS X485 hx (y := own_y7) hown (own_m hZ hw 5) (own_m hZ hw 6) (own_m hZ hw 2) (own_m hZ hw 7) (by decide) (backOf (W := 0) (rmT_4 l Z a0 hw [] d0 d1 d2 d3 cs h0 n0 Z0 hD0 hD1 hD2 hD3 SC hcs O0) hZ (own_i hw 7 rfl) (own_i hw 2 rfl) (by decide) (by decide)) (g := (mkF m 50 #[iv p1, iv p2, iv p3, iv p4, iv p5, iv 4, iv d0, iv d1, iv d2, iv d3, .unset, .unset, .unset, .unset] [(.int d3), (.int d2), (.int d1), (.int d0), (.int 4)])) rfl (by rw [hml]; rfl) (argsL := [(.int 4), (.int d0), (.int d1), (.int d2), (.int d3)]) (rest := []) (lenOf pd_22 rfl) rfl (Nat.le_of_eq rfl) (hb hby at_50) (fun _ _ => ⟨rfl, e485, (by decide : 0 + 3 ≤ _), (by decide : 0 + 12 ≤ _)⟩)
    dsimp only [Pt.U, Pt.locs, Pt.cells, Pt.slots] at X488 l488 y488 z488 st488 hQ488
    subst l488 y488 z488
    obtain ⟨b489, b490, x491, rfl, N488q, K488, f492, f493, f494, f495, f496, f497, f498, f499⟩ := hQ488
    have N488 := Fr.app N485 N488q
    have f500 := Nat.le_trans Z0 K488.1
    have f501 := O0.keep K488 all0
    have f502 := f101.trans K488 all0
    have pre503 : own_P p e below s₁ (entryFrame m #[(.int p1), (.int p2), (.int p3), (.int p4), (.int p5)] maxLocals) T488 (mkF m 55 #[iv p1, iv p2, iv p3, iv p4, iv p5, iv 4, iv d0, iv d1, iv d2, iv d3, rv b489, .unset, .unset, .unset] []) := fun t k => pre487 t (by
      show Steps p.tables e below (T485.setTop (mkF m 38 #[iv p1, iv p2, iv p3, iv p4, iv p5, iv 4, iv d0, iv d1, iv d2, .unset, .unset, .unset, .unset, .unset] [(.int d3)])) t
      refine XS.istore X485.here hx rfl (hb hby at_38) rfl (l' := #[iv p1, iv p2, iv p3, iv p4, iv p5, iv 4, iv d0, iv d1, iv d2, iv d3, .unset, .unset, .unset, .unset]) rfl ?_
      refine XS.iload X485.here hx rfl (hb hby at_40) rfl ?_
      refine XS.iload X485.here hx rfl (hb hby at_42) rfl ?_
      refine XS.iload X485.here hx rfl (hb hby at_44) rfl ?_
      refine XS.iload X485.here hx rfl (hb hby at_46) rfl ?_
      refine XS.iload X485.here hx rfl (hb hby at_48) rfl ?_
      refine st488 _ ?_
      refine XS.astore X488.here hx rfl (hb hby at_53) rfl rfl (l' := #[iv p1, iv p2, iv p3, iv p4, iv p5, iv 4, iv d0, iv d1, iv d2, iv d3, rv b489, .unset, .unset, .unset]) rfl ?_
      exact k)
    rcases own_lead_4 d0 d1 d2 d3 with hs504 | hs504 | hs504 | hs504
    · have z505 := hs504
      have hv506 := own_v_4_0 hD0 hD1 hD2 hD3 z505
      obtain ⟨_, _, ⟨T507, L507, k507, n507⟩, -, X507, ⟨Lc507, hQ507, l507, y507, z507⟩, st507⟩ := Jvm.LawKit.callS X488 hx (y := own_y8) hown (own_m hZ hw 41) (own_m hZ hw 42) (own_m hZ hw 2) (own_m hZ hw 43) (by decide) (backOf (W := 0) (rmV_4 l Z a0 hw [] ((((((d0 * (10 : Int32)) + d1) * (10 : Int32)) + d2) * (10 : Int32)) + d3) cs T488.heap n0 f500 hv506.1 hv506.2.1 hv506.2.2.1 hv506.2.2.2.1 hv506.2.2.2.2.1 SC hcs f501) hZ (own_i hw 43 rfl) (own_i hw 2 rfl) (by decide) (by decide)) (g := (mkF m 109 #[iv p1, iv p2, iv p3, iv p4, iv p5, iv 4, iv d0, iv d1, iv d2, iv d3, rv b489, iv ((((((d0 * (10 : Int32)) + d1) * (10 : Int32)) + d2) * (10 : Int32)) + d3), .unset, .unset] [(.int ((((((d0 * (10 : Int32)) + d1) * (10 : Int32)) + d2) * (10 : Int32)) + d3))])) rfl (by rw [hml]; rfl) (argsL := [(.int ((((((d0 * (10 : Int32)) + d1) * (10 : Int32)) + d2) * (10 : Int32)) + d3))]) (rest := []) (lenOf pd_19 rfl) rfl (Nat.le_of_eq rfl) (hb hby at_109) (fun _ _ => ⟨rfl, rfl, (by decide : 3 + 3 ≤ _), (by decide : 12 + 12 ≤ _)⟩)
      dsimp only [Pt.U, Pt.locs, Pt.cells, Pt.slots] at X507 l507 y507 z507 st507 hQ507
      subst l507 y507 z507
      obtain ⟨b508, b509, x510, rfl, N507q, K507, f511, f512, f513, f514, f515, f516, f517, f518⟩ := hQ507
      have N507 := Fr.app N488 N507q
      have ne519 : b489 ≠ b508 := Nat.ne_of_lt (Nat.lt_of_lt_of_le f494.lt f512)
      have ne520 : b490 ≠ b508 := Nat.ne_of_lt (Nat.lt_of_lt_of_le f499.lt f512)
      have sz521 : h0.size ≤ b508 := Nat.le_trans f502.1 f512
      have ne522 : b489 ≠ b509 := Nat.ne_of_lt (Nat.lt_of_lt_of_le f494.lt f517)
      have ne523 : b490 ≠ b509 := Nat.ne_of_lt (Nat.lt_of_lt_of_le f499.lt f517)
      have sz524 : h0.size ≤ b509 := Nat.le_trans f502.1 f517
      have f525 := Nat.le_trans f500 K507.1
      have f526 := f501.keep K507 all0
      have f527 := f502.trans K507 all0
      have f528 := f494.keep K507
      have f529 := f495.keep K507 nin0
      have f530 := f496.keep K507 nin0
      have f531 := f499.keep K507 nin0
      have V532 : Arv Z T507.heap b509 x510 .byte (4 : Int32) [(.int (nar .byte ((nar .char (own_ch d0)).toInt8.toInt32))), (.int (nar .byte ((nar .char (own_ch d1)).toInt8.toInt32))), (.int (nar .byte ((nar .char (own_ch d2)).toInt8.toInt32))), (.int (nar .byte ((nar .char (own_ch d3)).toInt8.toInt32)))] (.int 0) := by have q := f518; rw [hv506.2.2.2.2.2.1, hv506.2.2.2.2.2.2.1, hv506.2.2.2.2.2.2.2.1, hv506.2.2.2.2.2.2.2.2] at q; exact q
      obtain ⟨_, _, ⟨T533, L533, k533, n533⟩, -, X533, ⟨Lc533, hQ533, l533, y533, z533⟩, st533⟩ := Jvm.LawKit.callS X507 hx (y := own_y26) hown (own_m hZ hw 44) (own_m hZ hw 45) (own_m hZ hw 46) (own_m hZ hw 47) (by decide) (backOf (W := 0) (rmK_4_0 l Z a0 hw [] b489 cs vF b490 x491 (nar .byte ((nar .char (own_ch d0)).toInt8.toInt32)) (nar .byte ((nar .char (own_ch d1)).toInt8.toInt32)) (nar .byte ((nar .char (own_ch d2)).toInt8.toInt32)) (nar .byte ((nar .char (own_ch d3)).toInt8.toInt32)) T507.heap n0 f525 (SC.ext f526.2) hcs (SF.ext f526.2) hF f528 f529 f530 f531 (fun q => z505 ((own_cz hD0).mp q))) hZ (own_i hw 47 rfl) (own_i hw 46 rfl) (by decide) (by decide)) (g := (mkF m 116 #[iv p1, iv p2, iv p3, iv p4, iv p5, iv 4, iv d0, iv d1, iv d2, iv d3, rv b489, iv ((((((d0 * (10 : Int32)) + d1) * (10 : Int32)) + d2) * (10 : Int32)) + d3), rv b508, .unset] [(.ref b489)])) rfl (by rw [hml]; rfl) (argsL := [(.ref b489)]) (rest := []) (lenOf pd_23 rfl) rfl (Nat.le_of_eq rfl) (hb hby at_116) (fun _ _ => ⟨rfl, rfl, (by decide : 6 + 0 ≤ _), (by decide : 24 + 0 ≤ _)⟩)
      dsimp only [Pt.U, Pt.locs, Pt.cells, Pt.slots] at X533 l533 y533 z533 st533 hQ533
      subst l533 y533 z533
      obtain ⟨rfl, N533q, e533⟩ := hQ533
      have N533 := Fr.app N507 N533q
      obtain ⟨cq534, kq534, q534a, q534b, q534c⟩ := isOf hZ e533 f528
      obtain ⟨_, _, ⟨T534, L534, k534, n534⟩, -, X534, ⟨Lc534, hQ534, l534, y534, z534⟩, st534⟩ := X533.virtualBack hx (y := own_y28) (z := own_y28) hown (own_m hZ hw 77) (own_m hZ hw 78) (notFace_of_selects (args := #[]) (own_m hZ hw 80)) (own_m hZ hw 80) (own_m hZ hw 79) (by decide) (backOf (W := 0) (rmEq_4 l Z a0 hw [] b489 b508 cs b490 b509 x491 x510 (nar .byte ((nar .char (own_ch d0)).toInt8.toInt32)) (nar .byte ((nar .char (own_ch d1)).toInt8.toInt32)) (nar .byte ((nar .char (own_ch d2)).toInt8.toInt32)) (nar .byte ((nar .char (own_ch d3)).toInt8.toInt32)) T507.heap n0 f525 f513 (SC.ext f526.2) hcs f529 f514 f530 f515 f531 V532) hZ (own_i hw 81 rfl) (own_i hw 10 rfl) (by decide) (by decide)) q534a q534c (g := (mkF m 125 #[iv p1, iv p2, iv p3, iv p4, iv p5, iv 4, iv d0, iv d1, iv d2, iv d3, rv b489, iv ((((((d0 * (10 : Int32)) + d1) * (10 : Int32)) + d2) * (10 : Int32)) + d3), rv b508, rv b489] [(.ref b508), (.ref b489)])) rfl (by rw [hml]; rfl) (Steps.refl _) (argsL := [(.ref b508)]) (rest := []) (lenOf pd_24 rfl) rfl (Nat.le_of_eq rfl) (hb hby at_125) (fun _ _ => ⟨rfl, e533, (by decide : 6 + 0 ≤ _), (by decide : 24 + 0 ≤ _)⟩)
      dsimp only [Pt.U, Pt.locs, Pt.cells, Pt.slots] at X534 l534 y534 z534 st534 hQ534
      subst l534 y534 z534
      obtain ⟨rfl, N534q, e534⟩ := hQ534
      have N534 := Fr.app N533 N534q
      have pre535 : own_P p e below s₁ (entryFrame m #[(.int p1), (.int p2), (.int p3), (.int p4), (.int p5)] maxLocals) T534 (mkF m 128 #[iv p1, iv p2, iv p3, iv p4, iv p5, iv 4, iv d0, iv d1, iv d2, iv d3, rv b489, iv ((((((d0 * (10 : Int32)) + d1) * (10 : Int32)) + d2) * (10 : Int32)) + d3), rv b508, rv b489] [(.int 1)]) := fun t k => pre503 t (by
        show Steps p.tables e below (T488.setTop (mkF m 55 #[iv p1, iv p2, iv p3, iv p4, iv p5, iv 4, iv d0, iv d1, iv d2, iv d3, rv b489, .unset, .unset, .unset] [])) t
        refine XS.iload X488.here hx rfl (hb hby at_55) rfl ?_
        refine XS.istore X488.here hx rfl (hb hby at_57) rfl (l' := #[iv p1, iv p2, iv p3, iv p4, iv p5, iv 4, iv d0, iv d1, iv d2, iv d3, rv b489, iv d0, .unset, .unset]) rfl ?_
        refine XS.iload X488.here hx rfl (hb hby at_59) rfl ?_
        refine XS.iconst X488.here hx rfl (hb hby at_61) ?_
        refine XS.icmpNo X488.here hx rfl (hb hby at_62) rfl (tlt (by decide : (1 : Int32) < (4 : Int32))).2.2.2 ?_
        refine XS.iload X488.here hx rfl (hb hby at_65) rfl ?_
        refine XS.bipush X488.here hx rfl (hb hby at_67) ?_
        refine XS.imul X488.here hx rfl (hb hby at_69) rfl ?_
        refine XS.iload X488.here hx rfl (hb hby at_70) rfl ?_
        refine XS.iadd X488.here hx rfl (hb hby at_72) rfl ?_
        refine XS.istore X488.here hx rfl (hb hby at_73) rfl (l' := #[iv p1, iv p2, iv p3, iv p4, iv p5, iv 4, iv d0, iv d1, iv d2, iv d3, rv b489, iv ((d0 * (10 : Int32)) + d1), .unset, .unset]) rfl ?_
        refine XS.iload X488.here hx rfl (hb hby at_75) rfl ?_
        refine XS.iconst X488.here hx rfl (hb hby at_77) ?_
        refine XS.icmpNo X488.here hx rfl (hb hby at_78) rfl (tlt (by decide : (2 : Int32) < (4 : Int32))).2.2.2 ?_
        refine XS.iload X488.here hx rfl (hb hby at_81) rfl ?_
        refine XS.bipush X488.here hx rfl (hb hby at_83) ?_
        refine XS.imul X488.here hx rfl (hb hby at_85) rfl ?_
        refine XS.iload X488.here hx rfl (hb hby at_86) rfl ?_
        refine XS.iadd X488.here hx rfl (hb hby at_88) rfl ?_
        refine XS.istore X488.here hx rfl (hb hby at_89) rfl (l' := #[iv p1, iv p2, iv p3, iv p4, iv p5, iv 4, iv d0, iv d1, iv d2, iv d3, rv b489, iv ((((d0 * (10 : Int32)) + d1) * (10 : Int32)) + d2), .unset, .unset]) rfl ?_
        refine XS.iload X488.here hx rfl (hb hby at_91) rfl ?_
        refine XS.iconst X488.here hx rfl (hb hby at_93) ?_
        refine XS.icmpNo X488.here hx rfl (hb hby at_94) rfl (tlt (by decide : (3 : Int32) < (4 : Int32))).2.2.2 ?_
        refine XS.iload X488.here hx rfl (hb hby at_97) rfl ?_
        refine XS.bipush X488.here hx rfl (hb hby at_99) ?_
        show Steps p.tables e below (T488.setTop (mkF m 101 #[iv p1, iv p2, iv p3, iv p4, iv p5, iv 4, iv d0, iv d1, iv d2, iv d3, rv b489, iv ((((d0 * (10 : Int32)) + d1) * (10 : Int32)) + d2), .unset, .unset] [(.int 10), (.int ((((d0 * (10 : Int32)) + d1) * (10 : Int32)) + d2))])) t
        refine XS.imul X488.here hx rfl (hb hby at_101) rfl ?_
        refine XS.iload X488.here hx rfl (hb hby at_102) rfl ?_
        refine XS.iadd X488.here hx rfl (hb hby at_104) rfl ?_
        refine XS.istore X488.here hx rfl (hb hby at_105) rfl (l' := #[iv p1, iv p2, iv p3, iv p4, iv p5, iv 4, iv d0, iv d1, iv d2, iv d3, rv b489, iv ((((((d0 * (10 : Int32)) + d1) * (10 : Int32)) + d2) * (10 : Int32)) + d3), .unset, .unset]) rfl ?_
        refine XS.iload X488.here hx rfl (hb hby at_107) rfl ?_
        refine st507 _ ?_
        refine XS.astore X507.here hx rfl (hb hby at_112) rfl rfl (l' := #[iv p1, iv p2, iv p3, iv p4, iv p5, iv 4, iv d0, iv d1, iv d2, iv d3, rv b489, iv ((((((d0 * (10 : Int32)) + d1) * (10 : Int32)) + d2) * (10 : Int32)) + d3), rv b508, .unset]) rfl ?_
        refine XS.aload X507.here hx rfl (hb hby at_114) rfl rfl ?_
        refine st533 _ ?_
        refine XS.astore X533.here hx rfl (hb hby at_119) rfl rfl (l' := #[iv p1, iv p2, iv p3, iv p4, iv p5, iv 4, iv d0, iv d1, iv d2, iv d3, rv b489, iv ((((((d0 * (10 : Int32)) + d1) * (10 : Int32)) + d2) * (10 : Int32)) + d3), rv b508, rv b489]) rfl ?_
        refine XS.aload X533.here hx rfl (hb hby at_121) rfl rfl ?_
        refine XS.aload X533.here hx rfl (hb hby at_123) rfl rfl ?_
        refine st534.trans ?_
        exact k)
      obtain ⟨fs, hr, hrun, hended, hW, hsame⟩ := X534.leave (v := some (.int 1)) (fun h => by rw [Bd.returns] at h; cases h)
      refine ⟨_, _, pre535 _ ?_, hrun, hended, _, _, rfl, ?_, ⟨_, rfl⟩, hW, hsame.mono (by decide) (by decide)⟩
      · exact retN X534 hx (t := .boolean) Bd.returns (by simp) (hb hby at_128) hr
      · show Q0 Z p1 p2 p3 p4 p5 cs vF h0 n0 _ T534.heap _
        rw [e534]
        exact ⟨rfl, N534⟩
    · obtain ⟨z536, z537⟩ := hs504
      have hv538 := own_v_4_1 hD0 hD1 hD2 hD3 z536 z537
      obtain ⟨_, _, ⟨T539, L539, k539, n539⟩, -, X539, ⟨Lc539, hQ539, l539, y539, z539⟩, st539⟩ := Jvm.LawKit.callS X488 hx (y := own_y8) hown (own_m hZ hw 41) (own_m hZ hw 42) (own_m hZ hw 2) (own_m hZ hw 43) (by decide) (backOf (W := 0) (rmV_3 l Z a0 hw [] ((((((d0 * (10 : Int32)) + d1) * (10 : Int32)) + d2) * (10 : Int32)) + d3) cs T488.heap n0 f500 hv538.1 hv538.2.1 hv538.2.2.1 hv538.2.2.2.1 hv538.2.2.2.2.1 SC hcs f501) hZ (own_i hw 43 rfl) (own_i hw 2 rfl) (by decide) (by decide)) (g := (mkF m 109 #[iv p1, iv p2, iv p3, iv p4, iv p5, iv 4, iv d0, iv d1, iv d2, iv d3, rv b489, iv ((((((d0 * (10 : Int32)) + d1) * (10 : Int32)) + d2) * (10 : Int32)) + d3), .unset, .unset] [(.int ((((((d0 * (10 : Int32)) + d1) * (10 : Int32)) + d2) * (10 : Int32)) + d3))])) rfl (by rw [hml]; rfl) (argsL := [(.int ((((((d0 * (10 : Int32)) + d1) * (10 : Int32)) + d2) * (10 : Int32)) + d3))]) (rest := []) (lenOf pd_19 rfl) rfl (Nat.le_of_eq rfl) (hb hby at_109) (fun _ _ => ⟨rfl, rfl, (by decide : 3 + 3 ≤ _), (by decide : 12 + 10 ≤ _)⟩)
      dsimp only [Pt.U, Pt.locs, Pt.cells, Pt.slots] at X539 l539 y539 z539 st539 hQ539
      subst l539 y539 z539
      obtain ⟨b540, b541, x542, rfl, N539q, K539, f543, f544, f545, f546, f547, f548, f549, f550⟩ := hQ539
      have N539 := Fr.app N488 N539q
      have ne551 : b489 ≠ b540 := Nat.ne_of_lt (Nat.lt_of_lt_of_le f494.lt f544)
      have ne552 : b490 ≠ b540 := Nat.ne_of_lt (Nat.lt_of_lt_of_le f499.lt f544)
      have sz553 : h0.size ≤ b540 := Nat.le_trans f502.1 f544
      have ne554 : b489 ≠ b541 := Nat.ne_of_lt (Nat.lt_of_lt_of_le f494.lt f549)
      have ne555 : b490 ≠ b541 := Nat.ne_of_lt (Nat.lt_of_lt_of_le f499.lt f549)
      have sz556 : h0.size ≤ b541 := Nat.le_trans f502.1 f549
      have f557 := Nat.le_trans f500 K539.1
      have f558 := f501.keep K539 all0
      have f559 := f502.trans K539 all0
      have f560 := f494.keep K539
      have f561 := f495.keep K539 nin0
      have f562 := f496.keep K539 nin0
      have f563 := f499.keep K539 nin0
      have V564 : Arv Z T539.heap b541 x542 .byte (3 : Int32) [(.int (nar .byte ((nar .char (own_ch d1)).toInt8.toInt32))), (.int (nar .byte ((nar .char (own_ch d2)).toInt8.toInt32))), (.int (nar .byte ((nar .char (own_ch d3)).toInt8.toInt32)))] (.int 0) := by have q := f550; rw [hv538.2.2.2.2.2.1, hv538.2.2.2.2.2.2.1, hv538.2.2.2.2.2.2.2] at q; exact q
      obtain ⟨_, _, ⟨T565, L565, k565, n565⟩, -, X565, ⟨Lc565, hQ565, l565, y565, z565⟩, st565⟩ := Jvm.LawKit.callS X539 hx (y := own_y26) hown (own_m hZ hw 44) (own_m hZ hw 45) (own_m hZ hw 46) (own_m hZ hw 47) (by decide) (backOf (W := 0) (rmK_4_1 l Z a0 hw [] b489 cs vF b490 x491 (nar .byte ((nar .char (own_ch d0)).toInt8.toInt32)) (nar .byte ((nar .char (own_ch d1)).toInt8.toInt32)) (nar .byte ((nar .char (own_ch d2)).toInt8.toInt32)) (nar .byte ((nar .char (own_ch d3)).toInt8.toInt32)) T539.heap n0 f557 (SC.ext f558.2) hcs (SF.ext f558.2) hF f560 f561 f562 f563 ((own_cz hD0).mpr z536) (fun q => z537 ((own_cz hD1).mp q))) hZ (own_i hw 47 rfl) (own_i hw 46 rfl) (by decide) (by decide)) (g := (mkF m 116 #[iv p1, iv p2, iv p3, iv p4, iv p5, iv 4, iv d0, iv d1, iv d2, iv d3, rv b489, iv ((((((d0 * (10 : Int32)) + d1) * (10 : Int32)) + d2) * (10 : Int32)) + d3), rv b540, .unset] [(.ref b489)])) rfl (by rw [hml]; rfl) (argsL := [(.ref b489)]) (rest := []) (lenOf pd_23 rfl) rfl (Nat.le_of_eq rfl) (hb hby at_116) (fun _ _ => ⟨rfl, rfl, (by decide : 6 + 2 ≤ _), (by decide : 22 + 7 ≤ _)⟩)
      dsimp only [Pt.U, Pt.locs, Pt.cells, Pt.slots] at X565 l565 y565 z565 st565 hQ565
      subst l565 y565 z565
      obtain ⟨b566, b567, x568, rfl, N565q, K565, f569, f570, f571, f572, f573, f574, f575, f576⟩ := hQ565
      have N565 := Fr.app N539 N565q
      have ne577 : b489 ≠ b566 := Nat.ne_of_lt (Nat.lt_of_lt_of_le f560.lt f570)
      have ne578 : b490 ≠ b566 := Nat.ne_of_lt (Nat.lt_of_lt_of_le f563.lt f570)
      have ne579 : b540 ≠ b566 := Nat.ne_of_lt (Nat.lt_of_lt_of_le f545.lt f570)
      have ne580 : b541 ≠ b566 := Nat.ne_of_lt (Nat.lt_of_lt_of_le V564.lt f570)
      have sz581 : h0.size ≤ b566 := Nat.le_trans f559.1 f570
      have ne582 : b489 ≠ b567 := Nat.ne_of_lt (Nat.lt_of_lt_of_le f560.lt f575)
      have ne583 : b490 ≠ b567 := Nat.ne_of_lt (Nat.lt_of_lt_of_le f563.lt f575)
      have ne584 : b540 ≠ b567 := Nat.ne_of_lt (Nat.lt_of_lt_of_le f545.lt f575)
      have ne585 : b541 ≠ b567 := Nat.ne_of_lt (Nat.lt_of_lt_of_le V564.lt f575)
      have sz586 : h0.size ≤ b567 := Nat.le_trans f559.1 f575
      have f587 := Nat.le_trans f557 K565.1
      have f588 := f558.keep K565 all0
      have f589 := f559.trans K565 all0
      have f590 := f560.keep K565
      have f591 := f561.keep K565 nin0
      have f592 := f562.keep K565 nin0
      have f593 := f563.keep K565 nin0
      have f594 := f545.keep K565
      have f595 := f546.keep K565 nin0
      have f596 := f547.keep K565 nin0
      have f597 := V564.keep K565 nin0
      obtain ⟨cq598, kq598, q598a, q598b, q598c⟩ := isOf hZ rfl f571
      obtain ⟨_, _, ⟨T598, L598, k598, n598⟩, -, X598, ⟨Lc598, hQ598, l598, y598, z598⟩, st598⟩ := X565.virtualBack hx (y := own_y28) (z := own_y28) hown (own_m hZ hw 77) (own_m hZ hw 78) (notFace_of_selects (args := #[]) (own_m hZ hw 80)) (own_m hZ hw 80) (own_m hZ hw 79) (by decide) (backOf (W := 0) (rmEq_3 l Z a0 hw [] b566 b540 cs b567 b541 x568 x542 (nar .byte ((nar .char (own_ch d1)).toInt8.toInt32)) (nar .byte ((nar .char (own_ch d2)).toInt8.toInt32)) (nar .byte ((nar .char (own_ch d3)).toInt8.toInt32)) T565.heap n0 f587 f594 (SC.ext f588.2) hcs f572 f595 f573 f596 f576 f597) hZ (own_i hw 81 rfl) (own_i hw 10 rfl) (by decide) (by decide)) q598a q598c (g := (mkF m 125 #[iv p1, iv p2, iv p3, iv p4, iv p5, iv 4, iv d0, iv d1, iv d2, iv d3, rv b489, iv ((((((d0 * (10 : Int32)) + d1) * (10 : Int32)) + d2) * (10 : Int32)) + d3), rv b540, rv b566] [(.ref b540), (.ref b566)])) rfl (by rw [hml]; rfl) (Steps.refl _) (argsL := [(.ref b540)]) (rest := []) (lenOf pd_24 rfl) rfl (Nat.le_of_eq rfl) (hb hby at_125) (fun _ _ => ⟨rfl, rfl, (by decide : 8 + 0 ≤ _), (by decide : 29 + 0 ≤ _)⟩)
      dsimp only [Pt.U, Pt.locs, Pt.cells, Pt.slots] at X598 l598 y598 z598 st598 hQ598
      subst l598 y598 z598
      obtain ⟨rfl, N598q, e598⟩ := hQ598
      have N598 := Fr.app N565 N598q
      have pre599 : own_P p e below s₁ (entryFrame m #[(.int p1), (.int p2), (.int p3), (.int p4), (.int p5)] maxLocals) T598 (mkF m 128 #[iv p1, iv p2, iv p3, iv p4, iv p5, iv 4, iv d0, iv d1, iv d2, iv d3, rv b489, iv ((((((d0 * (10 : Int32)) + d1) * (10 : Int32)) + d2) * (10 : Int32)) + d3), rv b540, rv b566] [(.int 1)]) := fun t k => pre503 t (by
        show Steps p.tables e below (T488.setTop (mkF m 55 #[iv p1, iv p2, iv p3, iv p4, iv p5, iv 4, iv d0, iv d1, iv d2, iv d3, rv b489, .unset, .unset, .unset] [])) t
        refine XS.iload X488.here hx rfl (hb hby at_55) rfl ?_
        refine XS.istore X488.here hx rfl (hb hby at_57) rfl (l' := #[iv p1, iv p2, iv p3, iv p4, iv p5, iv 4, iv d0, iv d1, iv d2, iv d3, rv b489, iv d0, .unset, .unset]) rfl ?_
        refine XS.iload X488.here hx rfl (hb hby at_59) rfl ?_
        refine XS.iconst X488.here hx rfl (hb hby at_61) ?_
        refine XS.icmpNo X488.here hx rfl (hb hby at_62) rfl (tlt (by decide : (1 : Int32) < (4 : Int32))).2.2.2 ?_
        refine XS.iload X488.here hx rfl (hb hby at_65) rfl ?_
        refine XS.bipush X488.here hx rfl (hb hby at_67) ?_
        refine XS.imul X488.here hx rfl (hb hby at_69) rfl ?_
        refine XS.iload X488.here hx rfl (hb hby at_70) rfl ?_
        refine XS.iadd X488.here hx rfl (hb hby at_72) rfl ?_
        refine XS.istore X488.here hx rfl (hb hby at_73) rfl (l' := #[iv p1, iv p2, iv p3, iv p4, iv p5, iv 4, iv d0, iv d1, iv d2, iv d3, rv b489, iv ((d0 * (10 : Int32)) + d1), .unset, .unset]) rfl ?_
        refine XS.iload X488.here hx rfl (hb hby at_75) rfl ?_
        refine XS.iconst X488.here hx rfl (hb hby at_77) ?_
        refine XS.icmpNo X488.here hx rfl (hb hby at_78) rfl (tlt (by decide : (2 : Int32) < (4 : Int32))).2.2.2 ?_
        refine XS.iload X488.here hx rfl (hb hby at_81) rfl ?_
        refine XS.bipush X488.here hx rfl (hb hby at_83) ?_
        refine XS.imul X488.here hx rfl (hb hby at_85) rfl ?_
        refine XS.iload X488.here hx rfl (hb hby at_86) rfl ?_
        refine XS.iadd X488.here hx rfl (hb hby at_88) rfl ?_
        refine XS.istore X488.here hx rfl (hb hby at_89) rfl (l' := #[iv p1, iv p2, iv p3, iv p4, iv p5, iv 4, iv d0, iv d1, iv d2, iv d3, rv b489, iv ((((d0 * (10 : Int32)) + d1) * (10 : Int32)) + d2), .unset, .unset]) rfl ?_
        refine XS.iload X488.here hx rfl (hb hby at_91) rfl ?_
        refine XS.iconst X488.here hx rfl (hb hby at_93) ?_
        refine XS.icmpNo X488.here hx rfl (hb hby at_94) rfl (tlt (by decide : (3 : Int32) < (4 : Int32))).2.2.2 ?_
        refine XS.iload X488.here hx rfl (hb hby at_97) rfl ?_
        refine XS.bipush X488.here hx rfl (hb hby at_99) ?_
        show Steps p.tables e below (T488.setTop (mkF m 101 #[iv p1, iv p2, iv p3, iv p4, iv p5, iv 4, iv d0, iv d1, iv d2, iv d3, rv b489, iv ((((d0 * (10 : Int32)) + d1) * (10 : Int32)) + d2), .unset, .unset] [(.int 10), (.int ((((d0 * (10 : Int32)) + d1) * (10 : Int32)) + d2))])) t
        refine XS.imul X488.here hx rfl (hb hby at_101) rfl ?_
        refine XS.iload X488.here hx rfl (hb hby at_102) rfl ?_
        refine XS.iadd X488.here hx rfl (hb hby at_104) rfl ?_
        refine XS.istore X488.here hx rfl (hb hby at_105) rfl (l' := #[iv p1, iv p2, iv p3, iv p4, iv p5, iv 4, iv d0, iv d1, iv d2, iv d3, rv b489, iv ((((((d0 * (10 : Int32)) + d1) * (10 : Int32)) + d2) * (10 : Int32)) + d3), .unset, .unset]) rfl ?_
        refine XS.iload X488.here hx rfl (hb hby at_107) rfl ?_
        refine st539 _ ?_
        refine XS.astore X539.here hx rfl (hb hby at_112) rfl rfl (l' := #[iv p1, iv p2, iv p3, iv p4, iv p5, iv 4, iv d0, iv d1, iv d2, iv d3, rv b489, iv ((((((d0 * (10 : Int32)) + d1) * (10 : Int32)) + d2) * (10 : Int32)) + d3), rv b540, .unset]) rfl ?_
        refine XS.aload X539.here hx rfl (hb hby at_114) rfl rfl ?_
        refine st565 _ ?_
        refine XS.astore X565.here hx rfl (hb hby at_119) rfl rfl (l' := #[iv p1, iv p2, iv p3, iv p4, iv p5, iv 4, iv d0, iv d1, iv d2, iv d3, rv b489, iv ((((((d0 * (10 : Int32)) + d1) * (10 : Int32)) + d2) * (10 : Int32)) + d3), rv b540, rv b566]) rfl ?_
        refine XS.aload X565.here hx rfl (hb hby at_121) rfl rfl ?_
        refine XS.aload X565.here hx rfl (hb hby at_123) rfl rfl ?_
        refine st598.trans ?_
        exact k)
      obtain ⟨fs, hr, hrun, hended, hW, hsame⟩ := X598.leave (v := some (.int 1)) (fun h => by rw [Bd.returns] at h; cases h)
      refine ⟨_, _, pre599 _ ?_, hrun, hended, _, _, rfl, ?_, ⟨_, rfl⟩, hW, hsame.mono (by decide) (by decide)⟩
      · exact retN X598 hx (t := .boolean) Bd.returns (by simp) (hb hby at_128) hr
      · show Q0 Z p1 p2 p3 p4 p5 cs vF h0 n0 _ T598.heap _
        rw [e598]
        exact ⟨rfl, N598⟩
    · obtain ⟨z600, z601, z602⟩ := hs504
      have hv603 := own_v_4_2 hD0 hD1 hD2 hD3 z600 z601 z602
      obtain ⟨_, _, ⟨T604, L604, k604, n604⟩, -, X604, ⟨Lc604, hQ604, l604, y604, z604⟩, st604⟩ := Jvm.LawKit.callS X488 hx (y := own_y8) hown (own_m hZ hw 41) (own_m hZ hw 42) (own_m hZ hw 2) (own_m hZ hw 43) (by decide) (backOf (W := 0) (rmV_2 l Z a0 hw [] ((((((d0 * (10 : Int32)) + d1) * (10 : Int32)) + d2) * (10 : Int32)) + d3) cs T488.heap n0 f500 hv603.1 hv603.2.1 hv603.2.2.1 hv603.2.2.2.1 hv603.2.2.2.2.1 SC hcs f501) hZ (own_i hw 43 rfl) (own_i hw 2 rfl) (by decide) (by decide)) (g := (mkF m 109 #[iv p1, iv p2, iv p3, iv p4, iv p5, iv 4, iv d0, iv d1, iv d2, iv d3, rv b489, iv ((((((d0 * (10 : Int32)) + d1) * (10 : Int32)) + d2) * (10 : Int32)) + d3), .unset, .unset] [(.int ((((((d0 * (10 : Int32)) + d1) * (10 : Int32)) + d2) * (10 : Int32)) + d3))])) rfl (by rw [hml]; rfl) (argsL := [(.int ((((((d0 * (10 : Int32)) + d1) * (10 : Int32)) + d2) * (10 : Int32)) + d3))]) (rest := []) (lenOf pd_19 rfl) rfl (Nat.le_of_eq rfl) (hb hby at_109) (fun _ _ => ⟨rfl, rfl, (by decide : 3 + 3 ≤ _), (by decide : 12 + 8 ≤ _)⟩)
      dsimp only [Pt.U, Pt.locs, Pt.cells, Pt.slots] at X604 l604 y604 z604 st604 hQ604
      subst l604 y604 z604
      obtain ⟨b605, b606, x607, rfl, N604q, K604, f608, f609, f610, f611, f612, f613, f614, f615⟩ := hQ604
      have N604 := Fr.app N488 N604q
      have ne616 : b489 ≠ b605 := Nat.ne_of_lt (Nat.lt_of_lt_of_le f494.lt f609)
      have ne617 : b490 ≠ b605 := Nat.ne_of_lt (Nat.lt_of_lt_of_le f499.lt f609)
      have sz618 : h0.size ≤ b605 := Nat.le_trans f502.1 f609
      have ne619 : b489 ≠ b606 := Nat.ne_of_lt (Nat.lt_of_lt_of_le f494.lt f614)
      have ne620 : b490 ≠ b606 := Nat.ne_of_lt (Nat.lt_of_lt_of_le f499.lt f614)
      have sz621 : h0.size ≤ b606 := Nat.le_trans f502.1 f614
      have f622 := Nat.le_trans f500 K604.1
      have f623 := f501.keep K604 all0
      have f624 := f502.trans K604 all0
      have f625 := f494.keep K604
      have f626 := f495.keep K604 nin0
      have f627 := f496.keep K604 nin0
      have f628 := f499.keep K604 nin0
      have V629 : Arv Z T604.heap b606 x607 .byte (2 : Int32) [(.int (nar .byte ((nar .char (own_ch d2)).toInt8.toInt32))), (.int (nar .byte ((nar .char (own_ch d3)).toInt8.toInt32)))] (.int 0) := by have q := f615; rw [hv603.2.2.2.2.2.1, hv603.2.2.2.2.2.2] at q; exact q
      obtain ⟨_, _, ⟨T630, L630, k630, n630⟩, -, X630, ⟨Lc630, hQ630, l630, y630, z630⟩, st630⟩ := Jvm.LawKit.callS X604 hx (y := own_y26) hown (own_m hZ hw 44) (own_m hZ hw 45) (own_m hZ hw 46) (own_m hZ hw 47) (by decide) (backOf (W := 0) (rmK_4_2 l Z a0 hw [] b489 cs vF b490 x491 (nar .byte ((nar .char (own_ch d0)).toInt8.toInt32)) (nar .byte ((nar .char (own_ch d1)).toInt8.toInt32)) (nar .byte ((nar .char (own_ch d2)).toInt8.toInt32)) (nar .byte ((nar .char (own_ch d3)).toInt8.toInt32)) T604.heap n0 f622 (SC.ext f623.2) hcs (SF.ext f623.2) hF f625 f626 f627 f628 ((own_cz hD0).mpr z600) ((own_cz hD1).mpr z601) (fun q => z602 ((own_cz hD2).mp q))) hZ (own_i hw 47 rfl) (own_i hw 46 rfl) (by decide) (by decide)) (g := (mkF m 116 #[iv p1, iv p2, iv p3, iv p4, iv p5, iv 4, iv d0, iv d1, iv d2, iv d3, rv b489, iv ((((((d0 * (10 : Int32)) + d1) * (10 : Int32)) + d2) * (10 : Int32)) + d3), rv b605, .unset] [(.ref b489)])) rfl (by rw [hml]; rfl) (argsL := [(.ref b489)]) (rest := []) (lenOf pd_23 rfl) rfl (Nat.le_of_eq rfl) (hb hby at_116) (fun _ _ => ⟨rfl, rfl, (by decide : 6 + 2 ≤ _), (by decide : 20 + 6 ≤ _)⟩)
      dsimp only [Pt.U, Pt.locs, Pt.cells, Pt.slots] at X630 l630 y630 z630 st630 hQ630
      subst l630 y630 z630
      obtain ⟨b631, b632, x633, rfl, N630q, K630, f634, f635, f636, f637, f638, f639, f640, f641⟩ := hQ630
      have N630 := Fr.app N604 N630q
      have ne642 : b489 ≠ b631 := Nat.ne_of_lt (Nat.lt_of_lt_of_le f625.lt f635)
      have ne643 : b490 ≠ b631 := Nat.ne_of_lt (Nat.lt_of_lt_of_le f628.lt f635)
      have ne644 : b605 ≠ b631 := Nat.ne_of_lt (Nat.lt_of_lt_of_le f610.lt f635)
      have ne645 : b606 ≠ b631 := Nat.ne_of_lt (Nat.lt_of_lt_of_le V629.lt f635)
      have sz646 : h0.size ≤ b631 := Nat.le_trans f624.1 f635
      have ne647 : b489 ≠ b632 := Nat.ne_of_lt (Nat.lt_of_lt_of_le f625.lt f640)
      have ne648 : b490 ≠ b632 := Nat.ne_of_lt (Nat.lt_of_lt_of_le f628.lt f640)
      have ne649 : b605 ≠ b632 := Nat.ne_of_lt (Nat.lt_of_lt_of_le f610.lt f640)
      have ne650 : b606 ≠ b632 := Nat.ne_of_lt (Nat.lt_of_lt_of_le V629.lt f640)
      have sz651 : h0.size ≤ b632 := Nat.le_trans f624.1 f640
      have f652 := Nat.le_trans f622 K630.1
      have f653 := f623.keep K630 all0
      have f654 := f624.trans K630 all0
      have f655 := f625.keep K630
      have f656 := f626.keep K630 nin0
      have f657 := f627.keep K630 nin0
      have f658 := f628.keep K630 nin0
      have f659 := f610.keep K630
      have f660 := f611.keep K630 nin0
      have f661 := f612.keep K630 nin0
      have f662 := V629.keep K630 nin0
      obtain ⟨cq663, kq663, q663a, q663b, q663c⟩ := isOf hZ rfl f636
      obtain ⟨_, _, ⟨T663, L663, k663, n663⟩, -, X663, ⟨Lc663, hQ663, l663, y663, z663⟩, st663⟩ := X630.virtualBack hx (y := own_y28) (z := own_y28) hown (own_m hZ hw 77) (own_m hZ hw 78) (notFace_of_selects (args := #[]) (own_m hZ hw 80)) (own_m hZ hw 80) (own_m hZ hw 79) (by decide) (backOf (W := 0) (rmEq_2 l Z a0 hw [] b631 b605 cs b632 b606 x633 x607 (nar .byte ((nar .char (own_ch d2)).toInt8.toInt32)) (nar .byte ((nar .char (own_ch d3)).toInt8.toInt32)) T630.heap n0 f652 f659 (SC.ext f653.2) hcs f637 f660 f638 f661 f641 f662) hZ (own_i hw 81 rfl) (own_i hw 10 rfl) (by decide) (by decide)) q663a q663c (g := (mkF m 125 #[iv p1, iv p2, iv p3, iv p4, iv p5, iv 4, iv d0, iv d1, iv d2, iv d3, rv b489, iv ((((((d0 * (10 : Int32)) + d1) * (10 : Int32)) + d2) * (10 : Int32)) + d3), rv b605, rv b631] [(.ref b605), (.ref b631)])) rfl (by rw [hml]; rfl) (Steps.refl _) (argsL := [(.ref b605)]) (rest := []) (lenOf pd_24 rfl) rfl (Nat.le_of_eq rfl) (hb hby at_125) (fun _ _ => ⟨rfl, rfl, (by decide : 8 + 0 ≤ _), (by decide : 26 + 0 ≤ _)⟩)
      dsimp only [Pt.U, Pt.locs, Pt.cells, Pt.slots] at X663 l663 y663 z663 st663 hQ663
      subst l663 y663 z663
      obtain ⟨rfl, N663q, e663⟩ := hQ663
      have N663 := Fr.app N630 N663q
      have pre664 : own_P p e below s₁ (entryFrame m #[(.int p1), (.int p2), (.int p3), (.int p4), (.int p5)] maxLocals) T663 (mkF m 128 #[iv p1, iv p2, iv p3, iv p4, iv p5, iv 4, iv d0, iv d1, iv d2, iv d3, rv b489, iv ((((((d0 * (10 : Int32)) + d1) * (10 : Int32)) + d2) * (10 : Int32)) + d3), rv b605, rv b631] [(.int 1)]) := fun t k => pre503 t (by
        show Steps p.tables e below (T488.setTop (mkF m 55 #[iv p1, iv p2, iv p3, iv p4, iv p5, iv 4, iv d0, iv d1, iv d2, iv d3, rv b489, .unset, .unset, .unset] [])) t
        refine XS.iload X488.here hx rfl (hb hby at_55) rfl ?_
        refine XS.istore X488.here hx rfl (hb hby at_57) rfl (l' := #[iv p1, iv p2, iv p3, iv p4, iv p5, iv 4, iv d0, iv d1, iv d2, iv d3, rv b489, iv d0, .unset, .unset]) rfl ?_
        refine XS.iload X488.here hx rfl (hb hby at_59) rfl ?_
        refine XS.iconst X488.here hx rfl (hb hby at_61) ?_
        refine XS.icmpNo X488.here hx rfl (hb hby at_62) rfl (tlt (by decide : (1 : Int32) < (4 : Int32))).2.2.2 ?_
        refine XS.iload X488.here hx rfl (hb hby at_65) rfl ?_
        refine XS.bipush X488.here hx rfl (hb hby at_67) ?_
        refine XS.imul X488.here hx rfl (hb hby at_69) rfl ?_
        refine XS.iload X488.here hx rfl (hb hby at_70) rfl ?_
        refine XS.iadd X488.here hx rfl (hb hby at_72) rfl ?_
        refine XS.istore X488.here hx rfl (hb hby at_73) rfl (l' := #[iv p1, iv p2, iv p3, iv p4, iv p5, iv 4, iv d0, iv d1, iv d2, iv d3, rv b489, iv ((d0 * (10 : Int32)) + d1), .unset, .unset]) rfl ?_
        refine XS.iload X488.here hx rfl (hb hby at_75) rfl ?_
        refine XS.iconst X488.here hx rfl (hb hby at_77) ?_
        refine XS.icmpNo X488.here hx rfl (hb hby at_78) rfl (tlt (by decide : (2 : Int32) < (4 : Int32))).2.2.2 ?_
        refine XS.iload X488.here hx rfl (hb hby at_81) rfl ?_
        refine XS.bipush X488.here hx rfl (hb hby at_83) ?_
        refine XS.imul X488.here hx rfl (hb hby at_85) rfl ?_
        refine XS.iload X488.here hx rfl (hb hby at_86) rfl ?_
        refine XS.iadd X488.here hx rfl (hb hby at_88) rfl ?_
        refine XS.istore X488.here hx rfl (hb hby at_89) rfl (l' := #[iv p1, iv p2, iv p3, iv p4, iv p5, iv 4, iv d0, iv d1, iv d2, iv d3, rv b489, iv ((((d0 * (10 : Int32)) + d1) * (10 : Int32)) + d2), .unset, .unset]) rfl ?_
        refine XS.iload X488.here hx rfl (hb hby at_91) rfl ?_
        refine XS.iconst X488.here hx rfl (hb hby at_93) ?_
        refine XS.icmpNo X488.here hx rfl (hb hby at_94) rfl (tlt (by decide : (3 : Int32) < (4 : Int32))).2.2.2 ?_
        refine XS.iload X488.here hx rfl (hb hby at_97) rfl ?_
        refine XS.bipush X488.here hx rfl (hb hby at_99) ?_
        show Steps p.tables e below (T488.setTop (mkF m 101 #[iv p1, iv p2, iv p3, iv p4, iv p5, iv 4, iv d0, iv d1, iv d2, iv d3, rv b489, iv ((((d0 * (10 : Int32)) + d1) * (10 : Int32)) + d2), .unset, .unset] [(.int 10), (.int ((((d0 * (10 : Int32)) + d1) * (10 : Int32)) + d2))])) t
        refine XS.imul X488.here hx rfl (hb hby at_101) rfl ?_
        refine XS.iload X488.here hx rfl (hb hby at_102) rfl ?_
        refine XS.iadd X488.here hx rfl (hb hby at_104) rfl ?_
        refine XS.istore X488.here hx rfl (hb hby at_105) rfl (l' := #[iv p1, iv p2, iv p3, iv p4, iv p5, iv 4, iv d0, iv d1, iv d2, iv d3, rv b489, iv ((((((d0 * (10 : Int32)) + d1) * (10 : Int32)) + d2) * (10 : Int32)) + d3), .unset, .unset]) rfl ?_
        refine XS.iload X488.here hx rfl (hb hby at_107) rfl ?_
        refine st604 _ ?_
        refine XS.astore X604.here hx rfl (hb hby at_112) rfl rfl (l' := #[iv p1, iv p2, iv p3, iv p4, iv p5, iv 4, iv d0, iv d1, iv d2, iv d3, rv b489, iv ((((((d0 * (10 : Int32)) + d1) * (10 : Int32)) + d2) * (10 : Int32)) + d3), rv b605, .unset]) rfl ?_
        refine XS.aload X604.here hx rfl (hb hby at_114) rfl rfl ?_
        refine st630 _ ?_
        refine XS.astore X630.here hx rfl (hb hby at_119) rfl rfl (l' := #[iv p1, iv p2, iv p3, iv p4, iv p5, iv 4, iv d0, iv d1, iv d2, iv d3, rv b489, iv ((((((d0 * (10 : Int32)) + d1) * (10 : Int32)) + d2) * (10 : Int32)) + d3), rv b605, rv b631]) rfl ?_
        refine XS.aload X630.here hx rfl (hb hby at_121) rfl rfl ?_
        refine XS.aload X630.here hx rfl (hb hby at_123) rfl rfl ?_
        refine st663.trans ?_
        exact k)
      obtain ⟨fs, hr, hrun, hended, hW, hsame⟩ := X663.leave (v := some (.int 1)) (fun h => by rw [Bd.returns] at h; cases h)
      refine ⟨_, _, pre664 _ ?_, hrun, hended, _, _, rfl, ?_, ⟨_, rfl⟩, hW, hsame.mono (by decide) (by decide)⟩
      · exact retN X663 hx (t := .boolean) Bd.returns (by simp) (hb hby at_128) hr
      · show Q0 Z p1 p2 p3 p4 p5 cs vF h0 n0 _ T663.heap _
        rw [e663]
        exact ⟨rfl, N663⟩
    · obtain ⟨z665, z666, z667⟩ := hs504
      have hv668 := own_v_4_3 hD0 hD1 hD2 hD3 z665 z666 z667
      obtain ⟨_, _, ⟨T669, L669, k669, n669⟩, -, X669, ⟨Lc669, hQ669, l669, y669, z669⟩, st669⟩ := Jvm.LawKit.callS X488 hx (y := own_y8) hown (own_m hZ hw 41) (own_m hZ hw 42) (own_m hZ hw 2) (own_m hZ hw 43) (by decide) (backOf (W := 0) (rmV_1 l Z a0 hw [] ((((((d0 * (10 : Int32)) + d1) * (10 : Int32)) + d2) * (10 : Int32)) + d3) cs T488.heap n0 f500 hv668.1 hv668.2.1 hv668.2.2.1 hv668.2.2.2.1 SC hcs f501) hZ (own_i hw 43 rfl) (own_i hw 2 rfl) (by decide) (by decide)) (g := (mkF m 109 #[iv p1, iv p2, iv p3, iv p4, iv p5, iv 4, iv d0, iv d1, iv d2, iv d3, rv b489, iv ((((((d0 * (10 : Int32)) + d1) * (10 : Int32)) + d2) * (10 : Int32)) + d3), .unset, .unset] [(.int ((((((d0 * (10 : Int32)) + d1) * (10 : Int32)) + d2) * (10 : Int32)) + d3))])) rfl (by rw [hml]; rfl) (argsL := [(.int ((((((d0 * (10 : Int32)) + d1) * (10 : Int32)) + d2) * (10 : Int32)) + d3))]) (rest := []) (lenOf pd_19 rfl) rfl (Nat.le_of_eq rfl) (hb hby at_109) (fun _ _ => ⟨rfl, rfl, (by decide : 3 + 3 ≤ _), (by decide : 12 + 6 ≤ _)⟩)
      dsimp only [Pt.U, Pt.locs, Pt.cells, Pt.slots] at X669 l669 y669 z669 st669 hQ669
      subst l669 y669 z669
      obtain ⟨b670, b671, x672, rfl, N669q, K669, f673, f674, f675, f676, f677, f678, f679, f680⟩ := hQ669
      have N669 := Fr.app N488 N669q
      have ne681 : b489 ≠ b670 := Nat.ne_of_lt (Nat.lt_of_lt_of_le f494.lt f674)
      have ne682 : b490 ≠ b670 := Nat.ne_of_lt (Nat.lt_of_lt_of_le f499.lt f674)
      have sz683 : h0.size ≤ b670 := Nat.le_trans f502.1 f674
      have ne684 : b489 ≠ b671 := Nat.ne_of_lt (Nat.lt_of_lt_of_le f494.lt f679)
      have ne685 : b490 ≠ b671 := Nat.ne_of_lt (Nat.lt_of_lt_of_le f499.lt f679)
      have sz686 : h0.size ≤ b671 := Nat.le_trans f502.1 f679
      have f687 := Nat.le_trans f500 K669.1
      have f688 := f501.keep K669 all0
      have f689 := f502.trans K669 all0
      have f690 := f494.keep K669
      have f691 := f495.keep K669 nin0
      have f692 := f496.keep K669 nin0
      have f693 := f499.keep K669 nin0
      have V694 : Arv Z T669.heap b671 x672 .byte (1 : Int32) [(.int (nar .byte ((nar .char (own_ch d3)).toInt8.toInt32)))] (.int 0) := by have q := f680; rw [hv668.2.2.2.2] at q; exact q
      obtain ⟨_, _, ⟨T695, L695, k695, n695⟩, -, X695, ⟨Lc695, hQ695, l695, y695, z695⟩, st695⟩ := Jvm.LawKit.callS X669 hx (y := own_y26) hown (own_m hZ hw 44) (own_m hZ hw 45) (own_m hZ hw 46) (own_m hZ hw 47) (by decide) (backOf (W := 0) (rmK_4_3 l Z a0 hw [] b489 cs vF b490 x491 (nar .byte ((nar .char (own_ch d0)).toInt8.toInt32)) (nar .byte ((nar .char (own_ch d1)).toInt8.toInt32)) (nar .byte ((nar .char (own_ch d2)).toInt8.toInt32)) (nar .byte ((nar .char (own_ch d3)).toInt8.toInt32)) T669.heap n0 f687 (SC.ext f688.2) hcs (SF.ext f688.2) hF f690 f691 f692 f693 ((own_cz hD0).mpr z665) ((own_cz hD1).mpr z666) ((own_cz hD2).mpr z667)) hZ (own_i hw 47 rfl) (own_i hw 46 rfl) (by decide) (by decide)) (g := (mkF m 116 #[iv p1, iv p2, iv p3, iv p4, iv p5, iv 4, iv d0, iv d1, iv d2, iv d3, rv b489, iv ((((((d0 * (10 : Int32)) + d1) * (10 : Int32)) + d2) * (10 : Int32)) + d3), rv b670, .unset] [(.ref b489)])) rfl (by rw [hml]; rfl) (argsL := [(.ref b489)]) (rest := []) (lenOf pd_23 rfl) rfl (Nat.le_of_eq rfl) (hb hby at_116) (fun _ _ => ⟨rfl, rfl, (by decide : 6 + 2 ≤ _), (by decide : 18 + 5 ≤ _)⟩)
      dsimp only [Pt.U, Pt.locs, Pt.cells, Pt.slots] at X695 l695 y695 z695 st695 hQ695
      subst l695 y695 z695
      obtain ⟨b696, b697, x698, rfl, N695q, K695, f699, f700, f701, f702, f703, f704, f705, f706⟩ := hQ695
      have N695 := Fr.app N669 N695q
      have ne707 : b489 ≠ b696 := Nat.ne_of_lt (Nat.lt_of_lt_of_le f690.lt f700)
      have ne708 : b490 ≠ b696 := Nat.ne_of_lt (Nat.lt_of_lt_of_le f693.lt f700)
      have ne709 : b670 ≠ b696 := Nat.ne_of_lt (Nat.lt_of_lt_of_le f675.lt f700)
      have ne710 : b671 ≠ b696 := Nat.ne_of_lt (Nat.lt_of_lt_of_le V694.lt f700)
      have sz711 : h0.size ≤ b696 := Nat.le_trans f689.1 f700
      have ne712 : b489 ≠ b697 := Nat.ne_of_lt (Nat.lt_of_lt_of_le f690.lt f705)
      have ne713 : b490 ≠ b697 := Nat.ne_of_lt (Nat.lt_of_lt_of_le f693.lt f705)
      have ne714 : b670 ≠ b697 := Nat.ne_of_lt (Nat.lt_of_lt_of_le f675.lt f705)
      have ne715 : b671 ≠ b697 := Nat.ne_of_lt (Nat.lt_of_lt_of_le V694.lt f705)
      have sz716 : h0.size ≤ b697 := Nat.le_trans f689.1 f705
      have f717 := Nat.le_trans f687 K695.1
      have f718 := f688.keep K695 all0
      have f719 := f689.trans K695 all0
      have f720 := f690.keep K695
      have f721 := f691.keep K695 nin0
      have f722 := f692.keep K695 nin0
      have f723 := f693.keep K695 nin0
      have f724 := f675.keep K695
      have f725 := f676.keep K695 nin0
      have f726 := f677.keep K695 nin0
      have f727 := V694.keep K695 nin0
      obtain ⟨cq728, kq728, q728a, q728b, q728c⟩ := isOf hZ rfl f701
      obtain ⟨_, _, ⟨T728, L728, k728, n728⟩, -, X728, ⟨Lc728, hQ728, l728, y728, z728⟩, st728⟩ := X695.virtualBack hx (y := own_y28) (z := own_y28) hown (own_m hZ hw 77) (own_m hZ hw 78) (notFace_of_selects (args := #[]) (own_m hZ hw 80)) (own_m hZ hw 80) (own_m hZ hw 79) (by decide) (backOf (W := 0) (rmEq_1 l Z a0 hw [] b696 b670 cs b697 b671 x698 x672 (nar .byte ((nar .char (own_ch d3)).toInt8.toInt32)) T695.heap n0 f717 f724 (SC.ext f718.2) hcs f702 f725 f703 f726 f706 f727) hZ (own_i hw 81 rfl) (own_i hw 10 rfl) (by decide) (by decide)) q728a q728c (g := (mkF m 125 #[iv p1, iv p2, iv p3, iv p4, iv p5, iv 4, iv d0, iv d1, iv d2, iv d3, rv b489, iv ((((((d0 * (10 : Int32)) + d1) * (10 : Int32)) + d2) * (10 : Int32)) + d3), rv b670, rv b696] [(.ref b670), (.ref b696)])) rfl (by rw [hml]; rfl) (Steps.refl _) (argsL := [(.ref b670)]) (rest := []) (lenOf pd_24 rfl) rfl (Nat.le_of_eq rfl) (hb hby at_125) (fun _ _ => ⟨rfl, rfl, (by decide : 8 + 0 ≤ _), (by decide : 23 + 0 ≤ _)⟩)
      dsimp only [Pt.U, Pt.locs, Pt.cells, Pt.slots] at X728 l728 y728 z728 st728 hQ728
      subst l728 y728 z728
      obtain ⟨rfl, N728q, e728⟩ := hQ728
      have N728 := Fr.app N695 N728q
      have pre729 : own_P p e below s₁ (entryFrame m #[(.int p1), (.int p2), (.int p3), (.int p4), (.int p5)] maxLocals) T728 (mkF m 128 #[iv p1, iv p2, iv p3, iv p4, iv p5, iv 4, iv d0, iv d1, iv d2, iv d3, rv b489, iv ((((((d0 * (10 : Int32)) + d1) * (10 : Int32)) + d2) * (10 : Int32)) + d3), rv b670, rv b696] [(.int 1)]) := fun t k => pre503 t (by
        show Steps p.tables e below (T488.setTop (mkF m 55 #[iv p1, iv p2, iv p3, iv p4, iv p5, iv 4, iv d0, iv d1, iv d2, iv d3, rv b489, .unset, .unset, .unset] [])) t
        refine XS.iload X488.here hx rfl (hb hby at_55) rfl ?_
        refine XS.istore X488.here hx rfl (hb hby at_57) rfl (l' := #[iv p1, iv p2, iv p3, iv p4, iv p5, iv 4, iv d0, iv d1, iv d2, iv d3, rv b489, iv d0, .unset, .unset]) rfl ?_
        refine XS.iload X488.here hx rfl (hb hby at_59) rfl ?_
        refine XS.iconst X488.here hx rfl (hb hby at_61) ?_
        refine XS.icmpNo X488.here hx rfl (hb hby at_62) rfl (tlt (by decide : (1 : Int32) < (4 : Int32))).2.2.2 ?_
        refine XS.iload X488.here hx rfl (hb hby at_65) rfl ?_
        refine XS.bipush X488.here hx rfl (hb hby at_67) ?_
        refine XS.imul X488.here hx rfl (hb hby at_69) rfl ?_
        refine XS.iload X488.here hx rfl (hb hby at_70) rfl ?_
        refine XS.iadd X488.here hx rfl (hb hby at_72) rfl ?_
        refine XS.istore X488.here hx rfl (hb hby at_73) rfl (l' := #[iv p1, iv p2, iv p3, iv p4, iv p5, iv 4, iv d0, iv d1, iv d2, iv d3, rv b489, iv ((d0 * (10 : Int32)) + d1), .unset, .unset]) rfl ?_
        refine XS.iload X488.here hx rfl (hb hby at_75) rfl ?_
        refine XS.iconst X488.here hx rfl (hb hby at_77) ?_
        refine XS.icmpNo X488.here hx rfl (hb hby at_78) rfl (tlt (by decide : (2 : Int32) < (4 : Int32))).2.2.2 ?_
        refine XS.iload X488.here hx rfl (hb hby at_81) rfl ?_
        refine XS.bipush X488.here hx rfl (hb hby at_83) ?_
        refine XS.imul X488.here hx rfl (hb hby at_85) rfl ?_
        refine XS.iload X488.here hx rfl (hb hby at_86) rfl ?_
        refine XS.iadd X488.here hx rfl (hb hby at_88) rfl ?_
        refine XS.istore X488.here hx rfl (hb hby at_89) rfl (l' := #[iv p1, iv p2, iv p3, iv p4, iv p5, iv 4, iv d0, iv d1, iv d2, iv d3, rv b489, iv ((((d0 * (10 : Int32)) + d1) * (10 : Int32)) + d2), .unset, .unset]) rfl ?_
        refine XS.iload X488.here hx rfl (hb hby at_91) rfl ?_
        refine XS.iconst X488.here hx rfl (hb hby at_93) ?_
        refine XS.icmpNo X488.here hx rfl (hb hby at_94) rfl (tlt (by decide : (3 : Int32) < (4 : Int32))).2.2.2 ?_
        refine XS.iload X488.here hx rfl (hb hby at_97) rfl ?_
        refine XS.bipush X488.here hx rfl (hb hby at_99) ?_
        show Steps p.tables e below (T488.setTop (mkF m 101 #[iv p1, iv p2, iv p3, iv p4, iv p5, iv 4, iv d0, iv d1, iv d2, iv d3, rv b489, iv ((((d0 * (10 : Int32)) + d1) * (10 : Int32)) + d2), .unset, .unset] [(.int 10), (.int ((((d0 * (10 : Int32)) + d1) * (10 : Int32)) + d2))])) t
        refine XS.imul X488.here hx rfl (hb hby at_101) rfl ?_
        refine XS.iload X488.here hx rfl (hb hby at_102) rfl ?_
        refine XS.iadd X488.here hx rfl (hb hby at_104) rfl ?_
        refine XS.istore X488.here hx rfl (hb hby at_105) rfl (l' := #[iv p1, iv p2, iv p3, iv p4, iv p5, iv 4, iv d0, iv d1, iv d2, iv d3, rv b489, iv ((((((d0 * (10 : Int32)) + d1) * (10 : Int32)) + d2) * (10 : Int32)) + d3), .unset, .unset]) rfl ?_
        refine XS.iload X488.here hx rfl (hb hby at_107) rfl ?_
        refine st669 _ ?_
        refine XS.astore X669.here hx rfl (hb hby at_112) rfl rfl (l' := #[iv p1, iv p2, iv p3, iv p4, iv p5, iv 4, iv d0, iv d1, iv d2, iv d3, rv b489, iv ((((((d0 * (10 : Int32)) + d1) * (10 : Int32)) + d2) * (10 : Int32)) + d3), rv b670, .unset]) rfl ?_
        refine XS.aload X669.here hx rfl (hb hby at_114) rfl rfl ?_
        refine st695 _ ?_
        refine XS.astore X695.here hx rfl (hb hby at_119) rfl rfl (l' := #[iv p1, iv p2, iv p3, iv p4, iv p5, iv 4, iv d0, iv d1, iv d2, iv d3, rv b489, iv ((((((d0 * (10 : Int32)) + d1) * (10 : Int32)) + d2) * (10 : Int32)) + d3), rv b670, rv b696]) rfl ?_
        refine XS.aload X695.here hx rfl (hb hby at_121) rfl rfl ?_
        refine XS.aload X695.here hx rfl (hb hby at_123) rfl rfl ?_
        refine st728.trans ?_
        exact k)
      obtain ⟨fs, hr, hrun, hended, hW, hsame⟩ := X728.leave (v := some (.int 1)) (fun h => by rw [Bd.returns] at h; cases h)
      refine ⟨_, _, pre729 _ ?_, hrun, hended, _, _, rfl, ?_, ⟨_, rfl⟩, hW, hsame.mono (by decide) (by decide)⟩
      · exact retN X728 hx (t := .boolean) Bd.returns (by simp) (hb hby at_128) hr
      · show Q0 Z p1 p2 p3 p4 p5 cs vF h0 n0 _ T728.heap _
        rw [e728]
        exact ⟨rfl, N728⟩
set_option maxRecDepth 65536 in
set_option maxHeartbeats 40000000 in
theorem comes_1 {Post : Tables → Env → Array Value → State → Outcome → State → Prop} (hpost : ∀ tb e args s v u, (limb_1_1.after args s (.returned v) u = true ∧ limb_1_2.after args s (.returned v) u = true ∧ True) → FrameEnd s (.returned v) u (Jvm.fieldLocs frame_1_writes args s ++ Jvm.arrayLocs frame_1_arrays args s ++ Jvm.staticLocs frame_1_statics s) 24 128 → Post tb e args s (.returned v) u) :
    ArmFor flags0 classFile x code maxLocals ret World_1 tables_1 room_1 Calls_1 rest_1 Pre_1 Post := by
  intro l hfl _ _ p e ha hc hk s m args below hf hA hF happ hP
  obtain ⟨hcalls, hrest, hpre⟩ := hP
  obtain ⟨-, -, -, hnamed, -, -, -, hat⟩ := (Spec.applies_iff hf).mp happ
  obtain ⟨hg, hn⟩ := and_e (Cond.before_iff.mp (show (Jvm.Cond.and given_1 narrow_1).before args s = true from hpre))
  obtain ⟨hga, hgb⟩ := and_e hg
  obtain ⟨hgba, hgbb⟩ := and_e hgb
  obtain ⟨hgbba, hgbbb⟩ := and_e hgbb
  obtain ⟨hgbbba, hgbbbb⟩ := and_e hgbbb
  obtain ⟨hgbbbba, hgbbbbb⟩ := and_e hgbbbb
  obtain ⟨w0, w1, w2, w3, w4, rfl⟩ : ∃ w0 w1 w2 w3 w4 : Value, args = #[w0, w1, w2, w3, w4] := by
    have hs : args.size = 5 := by simpa [Cond.value, given_1] using hga
    obtain ⟨L⟩ := args
    match L, hs with
    | [w0, w1, w2, w3, w4], _ => exact ⟨w0, w1, w2, w3, w4, rfl⟩
  have hw := fun d (hd : d ∈ tables_1) => atoms_spec (ws := Jvm.Cond.code x code maxLocals ret :: tables_1) hat d (List.mem_cons_of_mem _ hd)
  obtain ⟨hsets, hown0⟩ := atoms_of _ (rest_1_c_eq ▸ (show rest_1_c.before _ s = true from hrest))
  have hr0 := Cond.before_iff.mp hown0
  have hfit : Fit s := fun {y c} hc i hi => by
    obtain ⟨ha, rfl⟩ := Array.getElem?_eq_some_iff.mp hc
    have q := List.all_eq_true.mp ((Array.all_eq_true_iff_forall_mem.mp hF) _ (Array.getElem_mem ha)) i (List.mem_range.mpr hi)
    simpa [Array.getElem?_eq_getElem hi] using q
  obtain ⟨i0, ev0⟩ := is_v hgba
  obtain rfl : w0 = (.int i0) := Option.some.inj ev0
  obtain ⟨i1, ev1⟩ := is_v hgbba
  obtain rfl : w1 = (.int i1) := Option.some.inj ev1
  obtain ⟨i2, ev2⟩ := is_v hgbbba
  obtain rfl : w2 = (.int i2) := Option.some.inj ev2
  obtain ⟨i3, ev3⟩ := is_v hgbbbba
  obtain rfl : w3 = (.int i3) := Option.some.inj ev3
  obtain ⟨i4, ev4⟩ := is_v hgbbbbb
  obtain rfl : w4 = (.int i4) := Option.some.inj ev4
  obtain ⟨cs, e10⟩ := is_v (Cond.before_iff.mp (hsets _ (List.mem_of_getElem? (i := 1) rfl)))
  have SC : Sta s s.heap "java/lang/String" "COMPACT_STRINGS" "Z" (.int cs) := Sta.start e10 (Or.inl (hsets _ (List.mem_of_getElem? (i := 0) rfl)))
  have n5 := not_v (Cond.before_iff.mp (hsets _ (List.mem_of_getElem? (i := 2) rfl)))
  have hcs : ¬ (cs = (0 : Int32)) := gotF (Cond.eq_ints e10 (Term.int_eval (0))) n5
  obtain ⟨vF, e14, hF⟩ := isR_v (Cond.before_iff.mp (hsets _ (List.mem_of_getElem? (i := 8) rfl)))
  have SF : Sta s s.heap "jdk/internal/util/Preconditions" "SIOOBE_FORMATTER" "Ljava/util/function/BiFunction;" vF := Sta.start e14 (Or.inl (hsets _ (List.mem_of_getElem? (i := 7) rfl)))
  obtain ⟨n, o, h1, h2, h3, _, L, rfl, ⟨rfl, N⟩, hq⟩ := rm0 l s _ hw tables_1 i0 i1 i2 i3 i4 cs vF s.heap s.heap.size (Nat.le_refl _) SC hcs (Old.start s) SF hF p e ha hc hk s m _ below hf ((Spec.applies_iff_loose hf).mp happ).1 ⟨rfl, State.Warmed39.refl s, rfl⟩ trivial
  refine ⟨n, _, h1, h2, h3, hpost _ _ _ _ _ _ ⟨Cond.after_iff.mpr rfl, Cond.after_iff.mpr (eq_i res_at (Term.int_eval (1)) rfl), trivial⟩ ⟨hq.1, hq.2.1, (hq.2.2.sift fun y hy => Or.inr (N y hy)).mono (by decide) (by decide)⟩⟩
theorem main_1_1 : Claimed_1_1 := comes_1 fun _ _ _ _ _ _ h hF => ⟨h.1, hF⟩
theorem main_1_2 : Claimed_1_2 := comes_1 fun _ _ _ _ _ _ h hF => ⟨h.2.1, hF⟩
end Jvm.Pilot.@@N@@
namespace Jvm.Pilot.@@N@@
open Jvm Jvm.ClassFile Sem Op Lib Jvm.Free Jvm.Stand Jvm.Pilot.@@N@@.Jvm.D
/-! MADE BY PROGRAM (witnessworld.py) out of the Statement's table words and the real class files: 23 classes; the members and pool entries that the words name. The judged class is class 1, her method 1. -/
namespace start1
open Jvm.ClassFile
def u (s : String) : CpInfo := .utf8 (stringToUtf16 s)
/-- a pool by its gaps: so many unusable entries, then the entry; so many at the end -/
def gap : Nat → List CpInfo → List CpInfo
  | 0, r => r
  | n + 1, r => .unusable :: gap n r
def poolList (es : List (Nat × CpInfo)) (last : Nat) : List CpInfo := es.foldr (fun e r => gap e.1 (e.2 :: r)) (gap last [])
def pool (es : List (Nat × CpInfo)) (last : Nat) : Array CpInfo := ⟨poolList es last⟩
def fileOf (pool : Array CpInfo) (this : Nat) (attrs : Array Attribute := #[]) (ms : Array MethodInfo := #[]) (fl : Nat := 33) (sup : Nat := 0) (ifs : Array Nat := #[]) (fds : Array FieldInfo := #[]) : ClassFile where
  minorVersion := 0
  majorVersion := 65
  constantPool := pool
  accessFlags := fl
  thisClass := this
  superClass := sup
  interfaces := ifs
  fields := fds
  methods := ms
  attributes := attrs
def plain (name : String) (sup : Option ClassId) : Class where
  name := name
  kind := .ordinary
  loader := none
  accessFlags := 33
  super := sup
  interfaces := #[]
  cf := none
  fields := #[]
  methods := #[]
  instanceTypes := #[]
  staticTypes := #[]
  resolved := #[]
  callSites := []
  init := .initialized
  statics := none
  mirror := none

def pool0 : Array CpInfo := pool [(5, u "<init>"), (0, u "()V"), (1, .class_ 10), (1, u "java/lang/Object")] 113

def k0c0 : Code := { maxStack := 0, maxLocals := 1, code := object_method_1_code, exceptionTable := #[], attributes := #[] }
def k0m0 : Method := { name := "<init>", desc := "()V", sig := { parameters := [], returnType := none }, accessFlags := 1, code := some k0c0 }
/-- java/lang/Object -/
def k0 : Class := { plain "java/lang/Object" none with
  accessFlags := 33
  interfaces := #[]
  cf := some (fileOf pool0 8 #[] #[{ accessFlags := 1, nameIndex := 5, descriptorIndex := 6, attributes := #[] }] 33 0 #[] #[])
  fields := #[]
  methods := #[k0m0]
  instanceTypes := #[]
  staticTypes := #[]
  resolved := Array.replicate 124 none
  statics := none }

def pool1 : Array CpInfo := pool [(2, .class_ 4), (1, u "java/lang/Object"), (0, u "<init>"), (0, u "()V"), (0, .methodref 8 9), (0, .class_ 10), (0, .nameAndType 11 12), (0, u "com/example/millipede/millipede/DecimalNumbersCanonicalPinLaw"), (0, u "digit"), (0, u "(III)I"), (0, .methodref 8 14), (0, .nameAndType 15 16), (0, u "text"), (0, u "(IIIII)Ljava/lang/String;"), (0, .methodref 8 18), (0, .nameAndType 19 20), (0, u "decimal"), (0, u "(I)Ljava/lang/String;"), (0, .methodref 22 23), (0, .class_ 24), (0, .nameAndType 25 26), (0, u "com/example/millipede/millipede/DecimalNumbers"), (0, u "canonical"), (0, u "(Ljava/lang/String;)Ljava/lang/String;"), (0, .methodref 28 29), (0, .class_ 30), (0, .nameAndType 31 32), (0, u "java/lang/String"), (0, u "equals"), (0, u "(Ljava/lang/Object;)Z"), (0, .integer 2147483647), (0, .methodref 8 35), (0, .nameAndType 36 37), (0, u "ch"), (0, u "(I)C"), (0, .methodref 28 39), (0, .nameAndType 5 40), (0, u "([C)V"), (2, u "law"), (0, u "(IIIII)Z")] 3

def k1m0 : Method := { name := "<init>", desc := "()V", sig := { parameters := [], returnType := none }, accessFlags := 1, code := none }
def k1c1 : Code := { maxStack := 5, maxLocals := 14, code := code, exceptionTable := #[], attributes := #[] }
def k1m1 : Method := { name := "law", desc := "(IIIII)Z", sig := { parameters := [.int, .int, .int, .int, .int], returnType := some .boolean }, accessFlags := 9, code := some k1c1 }
def k1c2 : Code := { maxStack := 2, maxLocals := 3, code := method_3_code, exceptionTable := #[], attributes := #[] }
def k1m2 : Method := { name := "digit", desc := "(III)I", sig := { parameters := [.int, .int, .int], returnType := some .int }, accessFlags := 10, code := some k1c2 }
def k1c3 : Code := { maxStack := 2, maxLocals := 1, code := method_4_code, exceptionTable := #[], attributes := #[] }
def k1m3 : Method := { name := "ch", desc := "(I)C", sig := { parameters := [.int], returnType := some .char }, accessFlags := 10, code := some k1c3 }
def k1c4 : Code := { maxStack := 6, maxLocals := 5, code := method_5_code, exceptionTable := #[], attributes := #[] }
def k1m4 : Method := { name := "text", desc := "(IIIII)Ljava/lang/String;", sig := { parameters := [.int, .int, .int, .int, .int], returnType := some (.object "java/lang/String") }, accessFlags := 10, code := some k1c4 }
def k1c5 : Code := { maxStack := 7, maxLocals := 1, code := method_6_code, exceptionTable := #[], attributes := #[] }
def k1m5 : Method := { name := "decimal", desc := "(I)Ljava/lang/String;", sig := { parameters := [.int], returnType := some (.object "java/lang/String") }, accessFlags := 10, code := some k1c5 }
/-- com/example/millipede/millipede/DecimalNumbersCanonicalPinLaw -/
def k1 : Class := { plain "com/example/millipede/millipede/DecimalNumbersCanonicalPinLaw" (some 0) with
  accessFlags := 49
  interfaces := #[]
  cf := some (fileOf pool1 8 #[] #[{ accessFlags := 1, nameIndex := 5, descriptorIndex := 6, attributes := #[] }, { accessFlags := 9, nameIndex := 43, descriptorIndex := 44, attributes := #[] }, { accessFlags := 10, nameIndex := 11, descriptorIndex := 12, attributes := #[] }, { accessFlags := 10, nameIndex := 36, descriptorIndex := 37, attributes := #[] }, { accessFlags := 10, nameIndex := 15, descriptorIndex := 16, attributes := #[] }, { accessFlags := 10, nameIndex := 19, descriptorIndex := 20, attributes := #[] }] 49 2 #[] #[])
  fields := #[]
  methods := #[k1m0, k1m1, k1m2, k1m3, k1m4, k1m5]
  instanceTypes := #[]
  staticTypes := #[]
  resolved := Array.replicate 48 none
  statics := none }

def pool2 : Array CpInfo := pool [(1, .class_ 2), (0, u "java/io/Serializable"), (0, .class_ 4), (0, u "java/lang/Object")] 2

/-- java/io/Serializable -/
def k2 : Class := { plain "java/io/Serializable" (some 0) with
  accessFlags := 1537
  interfaces := #[]
  cf := some (fileOf pool2 1 #[] #[] 1537 3 #[] #[])
  fields := #[]
  methods := #[]
  instanceTypes := #[]
  staticTypes := #[]
  resolved := Array.replicate 7 none
  statics := none }

def pool3 : Array CpInfo := pool [(1, .class_ 2), (0, u "java/lang/Comparable"), (0, .class_ 4), (0, u "java/lang/Object")] 7

/-- java/lang/Comparable -/
def k3 : Class := { plain "java/lang/Comparable" (some 0) with
  accessFlags := 1537
  interfaces := #[]
  cf := some (fileOf pool3 1 #[] #[] 1537 3 #[] #[])
  fields := #[]
  methods := #[]
  instanceTypes := #[]
  staticTypes := #[]
  resolved := Array.replicate 12 none
  statics := none }

def pool4 : Array CpInfo := pool [(2, .class_ 4), (1, u "java/lang/CharSequence"), (42, .class_ 48), (0, u "java/lang/CharSequence$1CodePointIterator"), (10, .class_ 60), (0, u "java/lang/CharSequence$1CharIterator"), (5, .class_ 67), (0, u "java/lang/Object")] 63

/-- java/lang/CharSequence -/
def k4 : Class := { plain "java/lang/CharSequence" (some 0) with
  accessFlags := 1537
  interfaces := #[]
  cf := some (fileOf pool4 2 #[.nestMembers #[47, 59]] #[] 1537 66 #[] #[])
  fields := #[]
  methods := #[]
  instanceTypes := #[]
  staticTypes := #[]
  resolved := Array.replicate 131 none
  statics := none }

def pool5 : Array CpInfo := pool [(1, .class_ 2), (0, u "java/lang/constant/Constable"), (0, .class_ 4), (0, u "java/lang/Object")] 6

/-- java/lang/constant/Constable -/
def k5 : Class := { plain "java/lang/constant/Constable" (some 0) with
  accessFlags := 1537
  interfaces := #[]
  cf := some (fileOf pool5 1 #[] #[] 1537 3 #[] #[])
  fields := #[]
  methods := #[]
  instanceTypes := #[]
  staticTypes := #[]
  resolved := Array.replicate 11 none
  statics := none }

def pool6 : Array CpInfo := pool [(1, .class_ 2), (0, u "java/lang/constant/ConstantDesc"), (0, .class_ 4), (0, u "java/lang/Object")] 32

/-- java/lang/constant/ConstantDesc -/
def k6 : Class := { plain "java/lang/constant/ConstantDesc" (some 0) with
  accessFlags := 1537
  interfaces := #[]
  cf := some (fileOf pool6 1 #[] #[] 1537 3 #[] #[])
  fields := #[]
  methods := #[]
  instanceTypes := #[]
  staticTypes := #[]
  resolved := Array.replicate 37 none
  statics := none }

def pool7 : Array CpInfo := pool [(1, .methodref 2 3), (0, .class_ 4), (0, .nameAndType 5 6), (0, u "java/lang/Object"), (0, u "<init>"), (0, u "()V"), (2, .fieldref 10 11), (0, .class_ 12), (0, .nameAndType 13 14), (0, u "java/lang/String"), (0, u "value"), (0, u "[B"), (0, .fieldref 10 16), (0, .nameAndType 17 18), (0, u "coder"), (0, u "B"), (2, u "hash"), (0, u "I"), (2, u "hashIsZero"), (0, u "Z"), (0, .methodref 10 28), (0, .nameAndType 5 29), (0, u "([CIILjava/lang/Void;)V"), (8, .fieldref 10 39), (0, .nameAndType 40 26), (0, u "COMPACT_STRINGS"), (1, .class_ 44), (1, u "java/lang/StringUTF16"), (0, u "compress"), (1, .methodref 42 48), (0, .nameAndType 49 50), (0, u "coderFromArrayLen"), (0, u "([BI)B"), (56, .class_ 109), (1, u "java/lang/StringLatin1"), (32, u "()Z"), (34, .methodref 42 178), (0, .nameAndType 45 179), (0, u "([CII)[B"), (31, u "([BB)V"), (122, u "()I"), (0, .methodref 10 336), (0, .nameAndType 17 337), (0, u "()B"), (25, u "([BI)C"), (27, u "(II)V"), (35, u "(I)C"), (64, .methodref 10 493), (0, .nameAndType 494 142), (0, u "isLatin1"), (0, .methodref 107 496), (0, .nameAndType 497 363), (0, u "charAt"), (3, u "checkIndex"), (3, .methodref 10 506), (0, .nameAndType 507 334), (0, u "length"), (5, u "checkFromToIndex"), (7, .methodref 10 522), (0, .nameAndType 523 524), (0, u "checkBoundsBeginEnd"), (0, u "(III)V"), (16, .methodref 107 542), (0, .nameAndType 543 544), (0, u "equals"), (0, u "([B[B)Z"), (28, u "(Ljava/lang/Object;)Z"), (1, .class_ 576), (0, u "java/lang/CharSequence"), (22, u "CASE_INSENSITIVE_ORDER"), (0, u "Ljava/util/Comparator;"), (80, .methodref 10 682), (0, .nameAndType 683 684), (0, u "substring"), (0, u "(II)Ljava/lang/String;"), (0, .methodref 107 686), (0, .nameAndType 687 688), (0, u "newString"), (0, u "([BII)Ljava/lang/String;"), (203, u "(I)Ljava/lang/String;"), (117, u "([C)V"), (42, .fieldref 1054 1055), (0, .class_ 1056), (0, .nameAndType 1057 1058), (0, u "jdk/internal/util/Preconditions"), (0, u "SIOOBE_FORMATTER"), (0, u "Ljava/util/function/BiFunction;"), (0, .methodref 1054 1060), (0, .nameAndType 501 1061), (0, u "(IILjava/util/function/BiFunction;)I"), (0, .methodref 1054 1063), (0, .nameAndType 513 1064), (0, u "(IIILjava/util/function/BiFunction;)I"), (36, u "serialPersistentFields"), (0, u "[Ljava/io/ObjectStreamField;"), (0, .class_ 1104), (0, u "java/lang/String$CaseInsensitiveComparator"), (1, .class_ 1107), (0, u "java/io/Serializable"), (0, .class_ 1109), (0, u "java/lang/Comparable"), (0, .class_ 1111), (0, u "java/lang/constant/Constable"), (0, .class_ 1113), (0, u "java/lang/constant/ConstantDesc"), (2, u "serialVersionUID"), (0, u "J"), (3, u "REPL"), (0, u "C"), (2, u "LATIN1"), (1, u "UTF16")] 323

def k7m0 : Method := { name := "<init>", desc := "()V", sig := { parameters := [], returnType := none }, accessFlags := 1, code := none }
def k7c1 : Code := { maxStack := 5, maxLocals := 2, code := jdk_42_method_3_code, exceptionTable := #[], attributes := #[] }
def k7m1 : Method := { name := "<init>", desc := "([C)V", sig := { parameters := [(.array .char)], returnType := none }, accessFlags := 1, code := some k7c1 }
def k7c2 : Code := { maxStack := 2, maxLocals := 1, code := jdk_42_method_54_code, exceptionTable := #[], attributes := #[] }
def k7m2 : Method := { name := "length", desc := "()I", sig := { parameters := [], returnType := some .int }, accessFlags := 1, code := some k7c2 }
def k7c3 : Code := { maxStack := 2, maxLocals := 2, code := jdk_42_method_56_code, exceptionTable := #[], attributes := #[] }
def k7m3 : Method := { name := "charAt", desc := "(I)C", sig := { parameters := [.int], returnType := some .char }, accessFlags := 1, code := some k7c3 }
def k7c4 : Code := { maxStack := 2, maxLocals := 3, code := jdk_42_method_66_code, exceptionTable := #[], attributes := #[] }
def k7m4 : Method := { name := "equals", desc := "(Ljava/lang/Object;)Z", sig := { parameters := [(.object "java/lang/Object")], returnType := some .boolean }, accessFlags := 1, code := some k7c4 }
def k7c5 : Code := { maxStack := 3, maxLocals := 2, code := jdk_42_method_91_code, exceptionTable := #[], attributes := #[] }
def k7m5 : Method := { name := "substring", desc := "(I)Ljava/lang/String;", sig := { parameters := [.int], returnType := some (.object "java/lang/String") }, accessFlags := 1, code := some k7c5 }
def k7c6 : Code := { maxStack := 3, maxLocals := 5, code := jdk_42_method_92_code, exceptionTable := #[], attributes := #[] }
def k7m6 : Method := { name := "substring", desc := "(II)Ljava/lang/String;", sig := { parameters := [.int, .int], returnType := some (.object "java/lang/String") }, accessFlags := 1, code := some k7c6 }
def k7c7 : Code := { maxStack := 4, maxLocals := 6, code := jdk_42_method_149_code, exceptionTable := #[], attributes := #[] }
def k7m7 : Method := { name := "<init>", desc := "([CIILjava/lang/Void;)V", sig := { parameters := [(.array .char), .int, .int, (.object "java/lang/Void")], returnType := none }, accessFlags := 2, code := some k7c7 }
def k7c8 : Code := { maxStack := 2, maxLocals := 3, code := jdk_42_method_151_code, exceptionTable := #[], attributes := #[] }
def k7m8 : Method := { name := "<init>", desc := "([BB)V", sig := { parameters := [(.array .byte), .byte], returnType := none }, accessFlags := 0, code := some k7c8 }
def k7c9 : Code := { maxStack := 1, maxLocals := 1, code := jdk_42_method_152_code, exceptionTable := #[], attributes := #[] }
def k7m9 : Method := { name := "coder", desc := "()B", sig := { parameters := [], returnType := some .byte }, accessFlags := 0, code := some k7c9 }
def k7c10 : Code := { maxStack := 1, maxLocals := 1, code := jdk_42_method_154_code, exceptionTable := #[], attributes := #[] }
def k7m10 : Method := { name := "isLatin1", desc := "()Z", sig := { parameters := [], returnType := some .boolean }, accessFlags := 0, code := some k7c10 }
def k7c11 : Code := { maxStack := 3, maxLocals := 2, code := jdk_42_method_155_code, exceptionTable := #[], attributes := #[] }
def k7m11 : Method := { name := "checkIndex", desc := "(II)V", sig := { parameters := [.int, .int], returnType := none }, accessFlags := 8, code := some k7c11 }
def k7c12 : Code := { maxStack := 4, maxLocals := 3, code := jdk_42_method_158_code, exceptionTable := #[], attributes := #[] }
def k7m12 : Method := { name := "checkBoundsBeginEnd", desc := "(III)V", sig := { parameters := [.int, .int, .int], returnType := none }, accessFlags := 8, code := some k7c12 }
/-- java/lang/String -/
def k7 : Class := { plain "java/lang/String" (some 0) with
  accessFlags := 49
  interfaces := #[2, 3, 4, 5, 6]
  cf := some (fileOf pool7 10 #[.nestMembers #[1103]] #[{ accessFlags := 1, nameIndex := 5, descriptorIndex := 6, attributes := #[] }, { accessFlags := 1, nameIndex := 5, descriptorIndex := 1010, attributes := #[] }, { accessFlags := 1, nameIndex := 507, descriptorIndex := 334, attributes := #[] }, { accessFlags := 1, nameIndex := 497, descriptorIndex := 427, attributes := #[] }, { accessFlags := 1, nameIndex := 543, descriptorIndex := 573, attributes := #[] }, { accessFlags := 1, nameIndex := 683, descriptorIndex := 892, attributes := #[] }, { accessFlags := 1, nameIndex := 683, descriptorIndex := 684, attributes := #[] }, { accessFlags := 2, nameIndex := 5, descriptorIndex := 29, attributes := #[] }, { accessFlags := 0, nameIndex := 5, descriptorIndex := 211, attributes := #[] }, { accessFlags := 0, nameIndex := 17, descriptorIndex := 337, attributes := #[] }, { accessFlags := 0, nameIndex := 494, descriptorIndex := 142, attributes := #[] }, { accessFlags := 8, nameIndex := 501, descriptorIndex := 391, attributes := #[] }, { accessFlags := 8, nameIndex := 523, descriptorIndex := 524, attributes := #[] }] 49 2 #[1106, 1108, 575, 1110, 1112] #[{ accessFlags := 18, nameIndex := 13, descriptorIndex := 14, attributes := #[] }, { accessFlags := 18, nameIndex := 17, descriptorIndex := 18, attributes := #[] }, { accessFlags := 2, nameIndex := 21, descriptorIndex := 22, attributes := #[] }, { accessFlags := 2, nameIndex := 25, descriptorIndex := 26, attributes := #[] }, { accessFlags := 26, nameIndex := 1116, descriptorIndex := 1117, attributes := #[] }, { accessFlags := 24, nameIndex := 40, descriptorIndex := 26, attributes := #[] }, { accessFlags := 26, nameIndex := 1101, descriptorIndex := 1102, attributes := #[] }, { accessFlags := 26, nameIndex := 1121, descriptorIndex := 1122, attributes := #[] }, { accessFlags := 25, nameIndex := 599, descriptorIndex := 600, attributes := #[] }, { accessFlags := 24, nameIndex := 1125, descriptorIndex := 18, attributes := #[] }, { accessFlags := 24, nameIndex := 1127, descriptorIndex := 18, attributes := #[] }])
  fields := #[{ name := "value", type := (.array .byte), accessFlags := 18, slot := 0, constantValue := 0 }, { name := "coder", type := .byte, accessFlags := 18, slot := 1, constantValue := 0 }, { name := "hash", type := .int, accessFlags := 2, slot := 2, constantValue := 0 }, { name := "hashIsZero", type := .boolean, accessFlags := 2, slot := 3, constantValue := 0 }, { name := "serialVersionUID", type := .long, accessFlags := 26, slot := 0, constantValue := 0 }, { name := "COMPACT_STRINGS", type := .boolean, accessFlags := 24, slot := 1, constantValue := 0 }, { name := "serialPersistentFields", type := (.array (.object "java/io/ObjectStreamField")), accessFlags := 26, slot := 2, constantValue := 0 }, { name := "REPL", type := .char, accessFlags := 26, slot := 3, constantValue := 0 }, { name := "CASE_INSENSITIVE_ORDER", type := (.object "java/util/Comparator"), accessFlags := 25, slot := 4, constantValue := 0 }, { name := "LATIN1", type := .byte, accessFlags := 24, slot := 5, constantValue := 0 }, { name := "UTF16", type := .byte, accessFlags := 24, slot := 6, constantValue := 0 }]
  methods := #[k7m0, k7m1, k7m2, k7m3, k7m4, k7m5, k7m6, k7m7, k7m8, k7m9, k7m10, k7m11, k7m12]
  instanceTypes := #[(.array .byte), .byte, .int, .boolean]
  staticTypes := #[.long, .boolean, (.array (.object "java/io/ObjectStreamField")), .char, (.object "java/util/Comparator"), .byte, .byte]
  resolved := Array.replicate 1451 none
  statics := some 0 }

def pool8 : Array CpInfo := pool [(6, .class_ 8), (1, u "java/lang/Object"), (0, u "<init>"), (0, u "()V"), (1, .class_ 14), (1, u "java/lang/StringUTF16"), (31, u "$assertionsDisabled"), (0, u "Z"), (13, u "HI_BYTE_SHIFT"), (0, u "I"), (2, u "LO_BYTE_SHIFT"), (49, .methodref 12 116), (0, .nameAndType 117 118), (0, u "compress"), (0, u "([CI[BII)I"), (3, u "([CII)[B"), (138, u "coderFromArrayLen"), (0, u "([BI)B"), (106, .class_ 371), (1, u "java/lang/StringUTF16$LinesSpliterator"), (58, u "MAX_LENGTH"), (196, .class_ 628), (0, u "java/lang/StringUTF16$CodePointsSpliterator"), (0, .class_ 630), (0, u "java/lang/StringUTF16$CharsSpliterator")] 4

def k8m0 : Method := { name := "<init>", desc := "()V", sig := { parameters := [], returnType := none }, accessFlags := 0, code := none }
def k8c1 : Code := { maxStack := 2, maxLocals := 2, code := jdk_52_method_15_code, exceptionTable := #[], attributes := #[] }
def k8m1 : Method := { name := "coderFromArrayLen", desc := "([BI)B", sig := { parameters := [(.array .byte), .int], returnType := some .byte }, accessFlags := 8, code := some k8c1 }
def k8c2 : Code := { maxStack := 5, maxLocals := 6, code := jdk_52_method_16_code, exceptionTable := #[], attributes := #[] }
def k8m2 : Method := { name := "compress", desc := "([CII)[B", sig := { parameters := [(.array .char), .int, .int], returnType := some (.array .byte) }, accessFlags := 9, code := some k8c2 }
def k8c3 : Code := { maxStack := 3, maxLocals := 7, code := jdk_52_method_21_code, exceptionTable := #[], attributes := #[] }
def k8m3 : Method := { name := "compress", desc := "([CI[BII)I", sig := { parameters := [(.array .char), .int, (.array .byte), .int, .int], returnType := some .int }, accessFlags := 9, code := some k8c3 }
/-- java/lang/StringUTF16 -/
def k8 : Class := { plain "java/lang/StringUTF16" (some 0) with
  accessFlags := 48
  interfaces := #[]
  cf := some (fileOf pool8 12 #[.nestMembers #[627, 629, 369]] #[{ accessFlags := 0, nameIndex := 9, descriptorIndex := 10, attributes := #[] }, { accessFlags := 8, nameIndex := 261, descriptorIndex := 262, attributes := #[] }, { accessFlags := 9, nameIndex := 117, descriptorIndex := 122, attributes := #[] }, { accessFlags := 9, nameIndex := 117, descriptorIndex := 118, attributes := #[] }] 48 6 #[] #[{ accessFlags := 26, nameIndex := 61, descriptorIndex := 62, attributes := #[] }, { accessFlags := 26, nameIndex := 65, descriptorIndex := 62, attributes := #[] }, { accessFlags := 24, nameIndex := 430, descriptorIndex := 62, attributes := #[] }, { accessFlags := 4120, nameIndex := 46, descriptorIndex := 47, attributes := #[] }])
  fields := #[{ name := "HI_BYTE_SHIFT", type := .int, accessFlags := 26, slot := 0, constantValue := 0 }, { name := "LO_BYTE_SHIFT", type := .int, accessFlags := 26, slot := 1, constantValue := 0 }, { name := "MAX_LENGTH", type := .int, accessFlags := 24, slot := 2, constantValue := 0 }, { name := "$assertionsDisabled", type := .boolean, accessFlags := 4120, slot := 3, constantValue := 0 }]
  methods := #[k8m0, k8m1, k8m2, k8m3]
  instanceTypes := #[]
  staticTypes := #[.int, .int, .int, .boolean]
  resolved := Array.replicate 635 none
  statics := none }

def pool9 : Array CpInfo := pool [(2, .class_ 4), (1, u "java/lang/Object"), (0, u "<init>"), (0, u "()V"), (1, .class_ 10), (1, u "java/lang/String"), (2, .methodref 8 14), (0, .nameAndType 15 16), (0, u "length"), (0, u "()I"), (0, .methodref 8 18), (0, .nameAndType 19 20), (0, u "charAt"), (0, u "(I)C"), (0, .methodref 8 22), (0, .nameAndType 23 24), (0, u "substring"), (0, u "(I)Ljava/lang/String;"), (1, .class_ 28), (1, u "com/example/millipede/millipede/DecimalNumbers"), (0, u "canonical"), (0, u "(Ljava/lang/String;)Ljava/lang/String;"), (16, u "LONG_MAX_DIGITS"), (0, u "Ljava/lang/String;")] 24

def k9m0 : Method := { name := "<init>", desc := "()V", sig := { parameters := [], returnType := none }, accessFlags := 2, code := none }
def k9c1 : Code := { maxStack := 3, maxLocals := 2, code := prog_20_method_3_code, exceptionTable := #[], attributes := #[] }
def k9m1 : Method := { name := "canonical", desc := "(Ljava/lang/String;)Ljava/lang/String;", sig := { parameters := [(.object "java/lang/String")], returnType := some (.object "java/lang/String") }, accessFlags := 8, code := some k9c1 }
/-- com/example/millipede/millipede/DecimalNumbers -/
def k9 : Class := { plain "com/example/millipede/millipede/DecimalNumbers" (some 0) with
  accessFlags := 48
  interfaces := #[]
  cf := some (fileOf pool9 26 #[] #[{ accessFlags := 2, nameIndex := 5, descriptorIndex := 6, attributes := #[] }, { accessFlags := 8, nameIndex := 29, descriptorIndex := 30, attributes := #[] }] 48 2 #[] #[{ accessFlags := 26, nameIndex := 47, descriptorIndex := 48, attributes := #[] }])
  fields := #[{ name := "LONG_MAX_DIGITS", type := (.object "java/lang/String"), accessFlags := 26, slot := 0, constantValue := 0 }]
  methods := #[k9m0, k9m1]
  instanceTypes := #[]
  staticTypes := #[(.object "java/lang/String")]
  resolved := Array.replicate 73 none
  statics := none }

def pool10 : Array CpInfo := pool [(2, .class_ 4), (1, u "java/lang/Object"), (0, u "<init>"), (0, u "()V"), (17, .class_ 26), (1, u "jdk/internal/util/Preconditions"), (6, u "checkIndex"), (13, u "checkFromToIndex"), (7, .class_ 56), (0, u "jdk/internal/util/Preconditions$4"), (57, .class_ 115), (0, u "jdk/internal/util/Preconditions$1"), (7, u "SIOOBE_FORMATTER"), (0, u "Ljava/util/function/BiFunction;"), (0, .class_ 126), (0, u "jdk/internal/util/Preconditions$2"), (3, u "AIOOBE_FORMATTER"), (0, .class_ 132), (0, u "jdk/internal/util/Preconditions$3"), (3, u "IOOBE_FORMATTER"), (41, u "(IILjava/util/function/BiFunction;)I"), (4, u "(IIILjava/util/function/BiFunction;)I")] 10

def k10m0 : Method := { name := "<init>", desc := "()V", sig := { parameters := [], returnType := none }, accessFlags := 1, code := none }
def k10c1 : Code := { maxStack := 3, maxLocals := 3, code := jdk_41_method_11_code, exceptionTable := #[], attributes := #[] }
def k10m1 : Method := { name := "checkIndex", desc := "(IILjava/util/function/BiFunction;)I", sig := { parameters := [.int, .int, (.object "java/util/function/BiFunction")], returnType := some .int }, accessFlags := 9, code := some k10c1 }
def k10c2 : Code := { maxStack := 4, maxLocals := 4, code := jdk_41_method_12_code, exceptionTable := #[], attributes := #[] }
def k10m2 : Method := { name := "checkFromToIndex", desc := "(IIILjava/util/function/BiFunction;)I", sig := { parameters := [.int, .int, .int, (.object "java/util/function/BiFunction")], returnType := some .int }, accessFlags := 9, code := some k10c2 }
/-- jdk/internal/util/Preconditions -/
def k10 : Class := { plain "jdk/internal/util/Preconditions" (some 0) with
  accessFlags := 33
  interfaces := #[]
  cf := some (fileOf pool10 24 #[.nestMembers #[55, 131, 125, 114]] #[{ accessFlags := 1, nameIndex := 5, descriptorIndex := 6, attributes := #[] }, { accessFlags := 9, nameIndex := 33, descriptorIndex := 178, attributes := #[] }, { accessFlags := 9, nameIndex := 47, descriptorIndex := 183, attributes := #[] }] 33 2 #[] #[{ accessFlags := 25, nameIndex := 123, descriptorIndex := 124, attributes := #[] }, { accessFlags := 25, nameIndex := 130, descriptorIndex := 124, attributes := #[] }, { accessFlags := 25, nameIndex := 136, descriptorIndex := 124, attributes := #[] }])
  fields := #[{ name := "SIOOBE_FORMATTER", type := (.object "java/util/function/BiFunction"), accessFlags := 25, slot := 0, constantValue := 0 }, { name := "AIOOBE_FORMATTER", type := (.object "java/util/function/BiFunction"), accessFlags := 25, slot := 1, constantValue := 0 }, { name := "IOOBE_FORMATTER", type := (.object "java/util/function/BiFunction"), accessFlags := 25, slot := 2, constantValue := 0 }]
  methods := #[k10m0, k10m1, k10m2]
  instanceTypes := #[]
  staticTypes := #[(.object "java/util/function/BiFunction"), (.object "java/util/function/BiFunction"), (.object "java/util/function/BiFunction")]
  resolved := Array.replicate 194 none
  statics := some 1 }

def pool11 : Array CpInfo := pool [(1, .class_ 2), (0, u "java/lang/String"), (1, .class_ 6), (1, u "java/lang/Object"), (0, u "<init>"), (0, u "()V"), (0, .methodref 1 10), (0, .nameAndType 11 12), (0, u "checkIndex"), (0, u "(II)V"), (1, .class_ 16), (1, u "java/lang/StringLatin1"), (36, u "([BI)C"), (58, .methodref 1 113), (0, .nameAndType 7 114), (0, u "([BB)V"), (6, u "$assertionsDisabled"), (0, u "Z"), (8, .class_ 133), (1, u "java/util/Arrays"), (62, u "newString"), (0, u "([BII)Ljava/lang/String;"), (23, .class_ 223), (1, u "java/lang/StringLatin1$LinesSpliterator"), (8, .methodref 131 233), (0, .nameAndType 234 235), (0, u "copyOfRange"), (0, u "([BII)[B"), (16, u "charAt"), (28, u "equals"), (0, u "([B[B)Z"), (107, .class_ 391), (0, u "java/lang/StringLatin1$CharsSpliterator")] 3

def k11m0 : Method := { name := "<init>", desc := "()V", sig := { parameters := [], returnType := none }, accessFlags := 0, code := none }
def k11c1 : Code := { maxStack := 2, maxLocals := 2, code := jdk_43_method_2_code, exceptionTable := #[], attributes := #[] }
def k11m1 : Method := { name := "charAt", desc := "([BI)C", sig := { parameters := [(.array .byte), .int], returnType := some .char }, accessFlags := 9, code := some k11c1 }
def k11c2 : Code := { maxStack := 3, maxLocals := 3, code := jdk_43_method_13_code, exceptionTable := #[], attributes := #[] }
def k11m2 : Method := { name := "equals", desc := "([B[B)Z", sig := { parameters := [(.array .byte), (.array .byte)], returnType := some .boolean }, accessFlags := 9, code := some k11c2 }
def k11c3 : Code := { maxStack := 6, maxLocals := 3, code := jdk_43_method_47_code, exceptionTable := #[], attributes := #[] }
def k11m3 : Method := { name := "newString", desc := "([BII)Ljava/lang/String;", sig := { parameters := [(.array .byte), .int, .int], returnType := some (.object "java/lang/String") }, accessFlags := 9, code := some k11c3 }
/-- java/lang/StringLatin1 -/
def k11 : Class := { plain "java/lang/StringLatin1" (some 0) with
  accessFlags := 48
  interfaces := #[]
  cf := some (fileOf pool11 14 #[.nestMembers #[390, 221]] #[{ accessFlags := 0, nameIndex := 7, descriptorIndex := 8, attributes := #[] }, { accessFlags := 9, nameIndex := 252, descriptorIndex := 53, attributes := #[] }, { accessFlags := 9, nameIndex := 281, descriptorIndex := 282, attributes := #[] }, { accessFlags := 9, nameIndex := 196, descriptorIndex := 197, attributes := #[] }] 48 4 #[] #[{ accessFlags := 4120, nameIndex := 121, descriptorIndex := 122, attributes := #[] }])
  fields := #[{ name := "$assertionsDisabled", type := .boolean, accessFlags := 4120, slot := 0, constantValue := 0 }]
  methods := #[k11m0, k11m1, k11m2, k11m3]
  instanceTypes := #[]
  staticTypes := #[.boolean]
  resolved := Array.replicate 395 none
  statics := none }

def pool12 : Array CpInfo := pool [(2, .class_ 4), (1, u "java/lang/Object"), (0, u "<init>"), (0, u "()V"), (7, .class_ 16), (1, u "java/util/Arrays"), (57, .class_ 76), (1, u "java/util/Arrays$NaturalOrder"), (36, .class_ 115), (1, u "java/util/Arrays$LegacyMergeSort"), (1, u "Z"), (21, u "copyOfRange"), (10, .methodref 151 152), (0, .class_ 153), (0, .nameAndType 154 155), (0, u "java/lang/System"), (0, u "arraycopy"), (0, u "(Ljava/lang/Object;ILjava/lang/Object;II)V"), (148, .methodref 305 306), (0, .class_ 307), (0, .nameAndType 308 309), (0, u "java/lang/Math"), (0, u "min"), (0, u "(II)I"), (29, .methodref 14 340), (0, .nameAndType 341 342), (0, u "copyOfRangeByte"), (0, u "([BII)[B"), (0, .methodref 14 344), (0, .nameAndType 345 346), (0, u "checkLength"), (0, u "(II)V"), (28, .class_ 376), (0, u "java/util/Arrays$ArrayList"), (68, u "$assertionsDisabled"), (269, u "MIN_ARRAY_SORT_GRAN"), (0, u "I"), (2, u "INSERTIONSORT_THRESHOLD"), (255, .class_ 976), (0, u "java/util/Arrays$ArrayItr")] 52

def k12m0 : Method := { name := "<init>", desc := "()V", sig := { parameters := [], returnType := none }, accessFlags := 2, code := none }
def k12c1 : Code := { maxStack := 4, maxLocals := 2, code := jdk_65_method_131_code, exceptionTable := #[], attributes := #[] }
def k12m1 : Method := { name := "checkLength", desc := "(II)V", sig := { parameters := [.int, .int], returnType := none }, accessFlags := 10, code := some k12c1 }
def k12c2 : Code := { maxStack := 3, maxLocals := 3, code := jdk_65_method_132_code, exceptionTable := #[], attributes := #[] }
def k12m2 : Method := { name := "copyOfRange", desc := "([BII)[B", sig := { parameters := [(.array .byte), .int, .int], returnType := some (.array .byte) }, accessFlags := 9, code := some k12c2 }
def k12c3 : Code := { maxStack := 6, maxLocals := 5, code := jdk_65_method_133_code, exceptionTable := #[], attributes := #[] }
def k12m3 : Method := { name := "copyOfRangeByte", desc := "([BII)[B", sig := { parameters := [(.array .byte), .int, .int], returnType := some (.array .byte) }, accessFlags := 10, code := some k12c3 }
/-- java/util/Arrays -/
def k12 : Class := { plain "java/util/Arrays" (some 0) with
  accessFlags := 49
  interfaces := #[]
  cf := some (fileOf pool12 14 #[.nestMembers #[975, 375, 113, 74]] #[{ accessFlags := 2, nameIndex := 5, descriptorIndex := 6, attributes := #[] }, { accessFlags := 10, nameIndex := 345, descriptorIndex := 346, attributes := #[] }, { accessFlags := 9, nameIndex := 139, descriptorIndex := 342, attributes := #[] }, { accessFlags := 10, nameIndex := 341, descriptorIndex := 342, attributes := #[] }] 49 2 #[] #[{ accessFlags := 26, nameIndex := 715, descriptorIndex := 716, attributes := #[] }, { accessFlags := 26, nameIndex := 719, descriptorIndex := 716, attributes := #[] }, { accessFlags := 4120, nameIndex := 445, descriptorIndex := 117, attributes := #[] }])
  fields := #[{ name := "MIN_ARRAY_SORT_GRAN", type := .int, accessFlags := 26, slot := 0, constantValue := 0 }, { name := "INSERTIONSORT_THRESHOLD", type := .int, accessFlags := 26, slot := 1, constantValue := 0 }, { name := "$assertionsDisabled", type := .boolean, accessFlags := 4120, slot := 2, constantValue := 0 }]
  methods := #[k12m0, k12m1, k12m2, k12m3]
  instanceTypes := #[]
  staticTypes := #[.int, .int, .boolean]
  resolved := Array.replicate 1029 none
  statics := none }

def pool13 : Array CpInfo := pool [(1, .class_ 2), (0, u "java/lang/Math"), (1, .class_ 6), (1, u "java/lang/Object"), (0, u "<init>"), (0, u "()V"), (89, .class_ 100), (1, u "java/lang/Math$RandomNumberGeneratorHolder"), (71, u "negativeZeroFloatBits"), (0, u "J"), (2, u "negativeZeroDoubleBits"), (24, u "min"), (43, u "$assertionsDisabled"), (0, u "Z"), (88, u "(II)I"), (2, u "twoToTheDoubleScaleDown"), (0, u "D"), (4, u "twoToTheDoubleScaleUp"), (9, u "E"), (3, u "PI"), (2, u "TAU"), (2, u "DEGREES_TO_RADIANS"), (0, u "RADIANS_TO_DEGREES")] 94

def k13m0 : Method := { name := "<init>", desc := "()V", sig := { parameters := [], returnType := none }, accessFlags := 2, code := none }
def k13c1 : Code := { maxStack := 2, maxLocals := 2, code := jdk_29_method_69_code, exceptionTable := #[], attributes := #[] }
def k13m1 : Method := { name := "min", desc := "(II)I", sig := { parameters := [.int, .int], returnType := some .int }, accessFlags := 9, code := some k13c1 }
/-- java/lang/Math -/
def k13 : Class := { plain "java/lang/Math" (some 0) with
  accessFlags := 49
  interfaces := #[]
  cf := some (fileOf pool13 1 #[.nestMembers #[98]] #[{ accessFlags := 2, nameIndex := 7, descriptorIndex := 8, attributes := #[] }, { accessFlags := 9, nameIndex := 201, descriptorIndex := 335, attributes := #[] }] 49 4 #[] #[{ accessFlags := 25, nameIndex := 354, descriptorIndex := 339, attributes := #[] }, { accessFlags := 25, nameIndex := 358, descriptorIndex := 339, attributes := #[] }, { accessFlags := 25, nameIndex := 361, descriptorIndex := 339, attributes := #[] }, { accessFlags := 26, nameIndex := 364, descriptorIndex := 339, attributes := #[] }, { accessFlags := 26, nameIndex := 365, descriptorIndex := 339, attributes := #[] }, { accessFlags := 26, nameIndex := 172, descriptorIndex := 173, attributes := #[] }, { accessFlags := 26, nameIndex := 176, descriptorIndex := 173, attributes := #[] }, { accessFlags := 8, nameIndex := 344, descriptorIndex := 339, attributes := #[] }, { accessFlags := 8, nameIndex := 338, descriptorIndex := 339, attributes := #[] }, { accessFlags := 4120, nameIndex := 245, descriptorIndex := 246, attributes := #[] }])
  fields := #[{ name := "E", type := .double, accessFlags := 25, slot := 0, constantValue := 0 }, { name := "PI", type := .double, accessFlags := 25, slot := 1, constantValue := 0 }, { name := "TAU", type := .double, accessFlags := 25, slot := 2, constantValue := 0 }, { name := "DEGREES_TO_RADIANS", type := .double, accessFlags := 26, slot := 3, constantValue := 0 }, { name := "RADIANS_TO_DEGREES", type := .double, accessFlags := 26, slot := 4, constantValue := 0 }, { name := "negativeZeroFloatBits", type := .long, accessFlags := 26, slot := 5, constantValue := 0 }, { name := "negativeZeroDoubleBits", type := .long, accessFlags := 26, slot := 6, constantValue := 0 }, { name := "twoToTheDoubleScaleUp", type := .double, accessFlags := 8, slot := 7, constantValue := 0 }, { name := "twoToTheDoubleScaleDown", type := .double, accessFlags := 8, slot := 8, constantValue := 0 }, { name := "$assertionsDisabled", type := .boolean, accessFlags := 4120, slot := 9, constantValue := 0 }]
  methods := #[k13m0, k13m1]
  instanceTypes := #[]
  staticTypes := #[.double, .double, .double, .double, .double, .long, .long, .double, .double, .boolean]
  resolved := Array.replicate 460 none
  statics := none }

def pool14 : Array CpInfo := pool [(2, .class_ 4), (1, u "java/lang/Object"), (0, u "<init>"), (0, u "()V"), (1, .class_ 10), (1, u "java/lang/System"), (0, u "allowSecurityManager"), (0, u "I"), (16, u "cons"), (0, u "Ljava/io/Console;"), (77, .class_ 110), (1, u "java/lang/System$CallersHolder"), (43, u "initialErrStream"), (0, u "Ljava/io/PrintStream;"), (19, u "security"), (0, u "Ljava/lang/SecurityManager;"), (31, .class_ 209), (0, u "java/lang/System$1"), (7, u "props"), (0, u "Ljava/util/Properties;"), (2, u "lineSeparator"), (0, u "Ljava/lang/String;"), (96, .class_ 321), (1, u "java/lang/System$LoggerFinder"), (5, .class_ 328), (0, u "java/lang/System$Logger"), (67, u "err"), (2, u "out"), (91, u "notSupportedJnuEncoding"), (15, u "in"), (17, u "initialIn"), (0, u "Ljava/io/InputStream;"), (35, u "bootLayer"), (0, u "Ljava/lang/ModuleLayer;"), (99, .class_ 664), (0, u "java/lang/System$2"), (9, u "NEVER"), (2, u "MAYBE"), (49, u "arraycopy"), (0, u "(Ljava/lang/Object;ILjava/lang/Object;II)V"), (72, .class_ 802), (0, u "java/lang/System$Logger$Level")] 31

def k14m0 : Method := { name := "<init>", desc := "()V", sig := { parameters := [], returnType := none }, accessFlags := 2, code := none }
def k14m1 : Method := { name := "arraycopy", desc := "(Ljava/lang/Object;ILjava/lang/Object;II)V", sig := { parameters := [(.object "java/lang/Object"), .int, (.object "java/lang/Object"), .int, .int], returnType := none }, accessFlags := 265, code := none }
/-- java/lang/System -/
def k14 : Class := { plain "java/lang/System" (some 0) with
  accessFlags := 49
  interfaces := #[]
  cf := some (fileOf pool14 8 #[.nestMembers #[319, 327, 801, 108, 663, 208]] #[{ accessFlags := 2, nameIndex := 5, descriptorIndex := 6, attributes := #[] }, { accessFlags := 265, nameIndex := 727, descriptorIndex := 728, attributes := #[] }] 49 2 #[] #[{ accessFlags := 25, nameIndex := 507, descriptorIndex := 526, attributes := #[] }, { accessFlags := 25, nameIndex := 399, descriptorIndex := 155, attributes := #[] }, { accessFlags := 25, nameIndex := 396, descriptorIndex := 155, attributes := #[] }, { accessFlags := 10, nameIndex := 525, descriptorIndex := 526, attributes := #[] }, { accessFlags := 26, nameIndex := 674, descriptorIndex := 12, attributes := #[] }, { accessFlags := 26, nameIndex := 677, descriptorIndex := 12, attributes := #[] }, { accessFlags := 10, nameIndex := 11, descriptorIndex := 12, attributes := #[] }, { accessFlags := 74, nameIndex := 175, descriptorIndex := 176, attributes := #[] }, { accessFlags := 10, nameIndex := 491, descriptorIndex := 222, attributes := #[] }, { accessFlags := 74, nameIndex := 29, descriptorIndex := 30, attributes := #[] }, { accessFlags := 74, nameIndex := 154, descriptorIndex := 155, attributes := #[] }, { accessFlags := 10, nameIndex := 217, descriptorIndex := 218, attributes := #[] }, { accessFlags := 10, nameIndex := 221, descriptorIndex := 222, attributes := #[] }, { accessFlags := 8, nameIndex := 562, descriptorIndex := 563, attributes := #[] }])
  fields := #[{ name := "in", type := (.object "java/io/InputStream"), accessFlags := 25, slot := 0, constantValue := 0 }, { name := "out", type := (.object "java/io/PrintStream"), accessFlags := 25, slot := 1, constantValue := 0 }, { name := "err", type := (.object "java/io/PrintStream"), accessFlags := 25, slot := 2, constantValue := 0 }, { name := "initialIn", type := (.object "java/io/InputStream"), accessFlags := 10, slot := 3, constantValue := 0 }, { name := "NEVER", type := .int, accessFlags := 26, slot := 4, constantValue := 0 }, { name := "MAYBE", type := .int, accessFlags := 26, slot := 5, constantValue := 0 }, { name := "allowSecurityManager", type := .int, accessFlags := 10, slot := 6, constantValue := 0 }, { name := "security", type := (.object "java/lang/SecurityManager"), accessFlags := 74, slot := 7, constantValue := 0 }, { name := "notSupportedJnuEncoding", type := (.object "java/lang/String"), accessFlags := 10, slot := 8, constantValue := 0 }, { name := "cons", type := (.object "java/io/Console"), accessFlags := 74, slot := 9, constantValue := 0 }, { name := "initialErrStream", type := (.object "java/io/PrintStream"), accessFlags := 74, slot := 10, constantValue := 0 }, { name := "props", type := (.object "java/util/Properties"), accessFlags := 10, slot := 11, constantValue := 0 }, { name := "lineSeparator", type := (.object "java/lang/String"), accessFlags := 10, slot := 12, constantValue := 0 }, { name := "bootLayer", type := (.object "java/lang/ModuleLayer"), accessFlags := 8, slot := 13, constantValue := 0 }]
  methods := #[k14m0, k14m1]
  instanceTypes := #[]
  staticTypes := #[(.object "java/io/InputStream"), (.object "java/io/PrintStream"), (.object "java/io/PrintStream"), (.object "java/io/InputStream"), .int, .int, .int, (.object "java/lang/SecurityManager"), (.object "java/lang/String"), (.object "java/io/Console"), (.object "java/io/PrintStream"), (.object "java/util/Properties"), (.object "java/lang/String"), (.object "java/lang/ModuleLayer")]
  resolved := Array.replicate 834 none
  statics := none }

def pool15 : Array CpInfo := pool [(9, u "<init>"), (6, .class_ 18), (1, u "java/lang/Object"), (0, u "()V"), (1, .class_ 23), (1, u "jdk/internal/util/ArraysSupport"), (0, u "LOG2_ARRAY_LONG_INDEX_SCALE"), (0, u "I"), (2, u "U"), (0, u "Ljdk/internal/misc/Unsafe;"), (8, u "BIG_ENDIAN"), (0, u "Z"), (8, u "LOG2_BYTE_BIT_SIZE"), (4, u "LOG2_ARRAY_INT_INDEX_SCALE"), (54, u "JLA"), (0, u "Ljdk/internal/access/JavaLangAccess;"), (11, u "LOG2_ARRAY_BOOLEAN_INDEX_SCALE"), (9, u "LOG2_ARRAY_BYTE_INDEX_SCALE"), (5, u "LOG2_ARRAY_CHAR_INDEX_SCALE"), (5, u "LOG2_ARRAY_SHORT_INDEX_SCALE"), (18, u "LOG2_ARRAY_FLOAT_INDEX_SCALE"), (24, u "LOG2_ARRAY_DOUBLE_INDEX_SCALE"), (89, u "T_BOOLEAN"), (2, u "T_CHAR"), (1, u "T_FLOAT"), (1, u "T_DOUBLE"), (1, u "T_BYTE"), (1, u "T_SHORT"), (1, u "T_INT"), (1, u "T_LONG"), (1, u "SOFT_MAX_ARRAY_LENGTH")] 83

def k15m0 : Method := { name := "<init>", desc := "()V", sig := { parameters := [], returnType := none }, accessFlags := 2, code := none }
/-- jdk/internal/util/ArraysSupport -/
def k15 : Class := { plain "jdk/internal/util/ArraysSupport" (some 0) with
  accessFlags := 33
  interfaces := #[]
  cf := some (fileOf pool15 21 #[] #[{ accessFlags := 2, nameIndex := 9, descriptorIndex := 19, attributes := #[] }] 33 16 #[] #[{ accessFlags := 24, nameIndex := 28, descriptorIndex := 29, attributes := #[] }, { accessFlags := 26, nameIndex := 38, descriptorIndex := 39, attributes := #[] }, { accessFlags := 25, nameIndex := 121, descriptorIndex := 25, attributes := #[] }, { accessFlags := 25, nameIndex := 131, descriptorIndex := 25, attributes := #[] }, { accessFlags := 25, nameIndex := 137, descriptorIndex := 25, attributes := #[] }, { accessFlags := 25, nameIndex := 143, descriptorIndex := 25, attributes := #[] }, { accessFlags := 25, nameIndex := 53, descriptorIndex := 25, attributes := #[] }, { accessFlags := 25, nameIndex := 24, descriptorIndex := 25, attributes := #[] }, { accessFlags := 25, nameIndex := 162, descriptorIndex := 25, attributes := #[] }, { accessFlags := 25, nameIndex := 187, descriptorIndex := 25, attributes := #[] }, { accessFlags := 26, nameIndex := 48, descriptorIndex := 25, attributes := #[] }, { accessFlags := 25, nameIndex := 277, descriptorIndex := 25, attributes := #[] }, { accessFlags := 25, nameIndex := 280, descriptorIndex := 25, attributes := #[] }, { accessFlags := 25, nameIndex := 282, descriptorIndex := 25, attributes := #[] }, { accessFlags := 25, nameIndex := 284, descriptorIndex := 25, attributes := #[] }, { accessFlags := 25, nameIndex := 286, descriptorIndex := 25, attributes := #[] }, { accessFlags := 25, nameIndex := 288, descriptorIndex := 25, attributes := #[] }, { accessFlags := 25, nameIndex := 290, descriptorIndex := 25, attributes := #[] }, { accessFlags := 25, nameIndex := 292, descriptorIndex := 25, attributes := #[] }, { accessFlags := 26, nameIndex := 108, descriptorIndex := 109, attributes := #[] }, { accessFlags := 25, nameIndex := 294, descriptorIndex := 25, attributes := #[] }])
  fields := #[{ name := "U", type := (.object "jdk/internal/misc/Unsafe"), accessFlags := 24, slot := 0, constantValue := 0 }, { name := "BIG_ENDIAN", type := .boolean, accessFlags := 26, slot := 1, constantValue := 0 }, { name := "LOG2_ARRAY_BOOLEAN_INDEX_SCALE", type := .int, accessFlags := 25, slot := 2, constantValue := 0 }, { name := "LOG2_ARRAY_BYTE_INDEX_SCALE", type := .int, accessFlags := 25, slot := 3, constantValue := 0 }, { name := "LOG2_ARRAY_CHAR_INDEX_SCALE", type := .int, accessFlags := 25, slot := 4, constantValue := 0 }, { name := "LOG2_ARRAY_SHORT_INDEX_SCALE", type := .int, accessFlags := 25, slot := 5, constantValue := 0 }, { name := "LOG2_ARRAY_INT_INDEX_SCALE", type := .int, accessFlags := 25, slot := 6, constantValue := 0 }, { name := "LOG2_ARRAY_LONG_INDEX_SCALE", type := .int, accessFlags := 25, slot := 7, constantValue := 0 }, { name := "LOG2_ARRAY_FLOAT_INDEX_SCALE", type := .int, accessFlags := 25, slot := 8, constantValue := 0 }, { name := "LOG2_ARRAY_DOUBLE_INDEX_SCALE", type := .int, accessFlags := 25, slot := 9, constantValue := 0 }, { name := "LOG2_BYTE_BIT_SIZE", type := .int, accessFlags := 26, slot := 10, constantValue := 0 }, { name := "T_BOOLEAN", type := .int, accessFlags := 25, slot := 11, constantValue := 0 }, { name := "T_CHAR", type := .int, accessFlags := 25, slot := 12, constantValue := 0 }, { name := "T_FLOAT", type := .int, accessFlags := 25, slot := 13, constantValue := 0 }, { name := "T_DOUBLE", type := .int, accessFlags := 25, slot := 14, constantValue := 0 }, { name := "T_BYTE", type := .int, accessFlags := 25, slot := 15, constantValue := 0 }, { name := "T_SHORT", type := .int, accessFlags := 25, slot := 16, constantValue := 0 }, { name := "T_INT", type := .int, accessFlags := 25, slot := 17, constantValue := 0 }, { name := "T_LONG", type := .int, accessFlags := 25, slot := 18, constantValue := 0 }, { name := "JLA", type := (.object "jdk/internal/access/JavaLangAccess"), accessFlags := 26, slot := 19, constantValue := 0 }, { name := "SOFT_MAX_ARRAY_LENGTH", type := .int, accessFlags := 25, slot := 20, constantValue := 0 }]
  methods := #[k15m0]
  instanceTypes := #[]
  staticTypes := #[(.object "jdk/internal/misc/Unsafe"), .boolean, .int, .int, .int, .int, .int, .int, .int, .int, .int, .int, .int, .int, .int, .int, .int, .int, .int, (.object "jdk/internal/access/JavaLangAccess"), .int]
  resolved := Array.replicate 378 none
  statics := none }

def pool16 : Array CpInfo := pool [(1, u "java/lang/Cloneable"), (0, .class_ 1), (0, u "java/lang/Object"), (0, .class_ 3)] 3

/-- java/lang/Cloneable -/
def k16 : Class := { plain "java/lang/Cloneable" (some 0) with
  accessFlags := 1537
  interfaces := #[]
  cf := some (fileOf pool16 2 #[] #[] 1537 4 #[] #[])
  fields := #[]
  methods := #[]
  instanceTypes := #[]
  staticTypes := #[]
  resolved := Array.replicate 8 none
  statics := none }

/-- the primitive byte -/
def k17 : Class := { plain "byte" none with kind := .primitive 'B', accessFlags := 0x411 }
/-- [B -/
def k18 : Class := { plain "[B" (some 0) with kind := .array 17 .byte, interfaces := #[16, 2], accessFlags := 1041 }

/-- the primitive char -/
def k19 : Class := { plain "char" none with kind := .primitive 'C', accessFlags := 0x411 }
/-- [C -/
def k20 : Class := { plain "[C" (some 0) with kind := .array 19 .char, interfaces := #[16, 2], accessFlags := 1041 }

/-- the primitive int -/
def k21 : Class := { plain "int" none with kind := .primitive 'I', accessFlags := 0x411 }
/-- [I -/
def k22 : Class := { plain "[I" (some 0) with kind := .array 21 .int, interfaces := #[16, 2], accessFlags := 1041 }

def heap : Heap := #[{ cls := 7, slots := #[.long 0, .int 1, .null, .int 0, .null, .int 0, .int 0], vm := .statics 7 },
  { cls := 10, slots := #[.null, .null, .null], vm := .statics 10 }]
def classes : Array Class := #[k0, k1, k2, k3, k4, k5, k6, k7, k8, k9, k10, k11, k12, k13, k14, k15, k16, k17, k18, k19, k20, k21, k22]
def interned : List (Array UInt16 × Addr) := []
def slotsUsed : Nat := 10
def theMethod : MethodId := ⟨1, 1⟩
def args0 : Array Value := #[.int 5, .int 5, .int 5, .int 5, .int 5]
def aboutOver (below : List Frame) : State where
  vm := { classes := classes, interned := interned.toArray }
  heap := heap
  slotsUsed := slotsUsed
  threads := #[{ frames := .invoking theMethod args0 :: below }]
def below0 : List Frame := [.native { method := ⟨0, 0⟩, args := #[] }]
def about1 : State := aboutOver below0
def p0 : Program := .bare "" "" ""
def e0 : Env := launch0.env 0 0 0
theorem w_frames : about1.frames = Frame.invoking theMethod args0 :: below0 := rfl
set_option maxRecDepth 65536 in
theorem w_args : argsFit about1.vm theMethod args0 = true := by decide +kernel
set_option maxRecDepth 65536 in
theorem w_heap : heapFits about1 = true := by decide +kernel
set_option maxRecDepth 65536 in
theorem w_runnable : about1.curStatus? = some .runnable := by decide +kernel
set_option maxRecDepth 65536 in
theorem w_alone : about1.alone = true := by decide +kernel
set_option maxRecDepth 65536 in
theorem w_named : about1.methodNamed? x = some theMethod := by decide +kernel
set_option maxRecDepth 65536 in
theorem w_hears : about1.hears theMethod below0 = true := by decide +kernel
set_option maxRecDepth 65536 in
theorem w_ripe : about1.ripe theMethod args0 below0 = true := by decide +kernel
theorem w_running : about1.status = .running := rfl
set_option maxRecDepth 65536 in
theorem w_room : about1.hasRoom e0.platform room_1 = true :=
  launch0.hasRoom_least _ room_1 (by decide +kernel) (by decide +kernel) (by decide +kernel) (by decide +kernel) (by decide +kernel) (by decide +kernel)
theorem allAtoms_all (ts : List Jvm.Cond) (a : Array Jvm.Value) (st : Jvm.State) : (allAtoms ts).before a st = ts.all (fun c => c.before a st) := by
  induction ts with
  | nil => rfl
  | cons c t ih =>
    show (Jvm.Cond.and c (allAtoms t)).before a st = _
    rw [Jvm.Cond.before_and, ih, List.all_cons]
def words1 : List Jvm.Cond := Jvm.Cond.code x code maxLocals ret :: tables_1
/-- a 'code' word, met by the world's own term for the bytes: nothing is compared byte by byte -/
theorem code_word {y : MethodName} {bytes : ByteArray} {mx : Nat} {rt : Option FieldType} {a : Array Value} {s : State} {m : MethodId} {meth : Method} {c : Code} (h1 : s.methodNamed? y = some m) (h2 : s.vm.method? m = some meth) (h3 : meth.code = some c) (h4 : c.code = bytes)
    (h5 : (c.maxLocals == mx && c.exceptionTable.isEmpty && decide (c.maxStack ≤ mostOperands) && decide (meth.sig.returnType = rt) && !meth.locks && decide (parseMethodDescriptor y.desc = some meth.sig)) = true) : (Jvm.Cond.code y bytes mx rt).before a s = true := by
  simp only [Bool.and_eq_true, beq_iff_eq, Bool.not_eq_true', decide_eq_true_eq] at h5
  obtain ⟨⟨⟨⟨⟨g1, g2⟩, g3⟩, g4⟩, g5⟩, g6⟩ := h5
  simp [Cond.before, Cond.holds, Cond.value, h1, h2, h3, h4, g1, g2, g3, g4, g5, g6]
def isCode : Jvm.Cond → Bool
  | .code _ _ _ _ => true
  | _ => false
theorem all_split {L : List Jvm.Cond} {P : Jvm.Cond → Bool} (h1 : L.all (fun c => isCode c || P c) = true) (h2 : ∀ c ∈ L.filter isCode, P c = true) : L.all P = true := by
  refine List.all_eq_true.mpr fun c hc => ?_
  have h := List.all_eq_true.mp h1 c hc
  rcases Bool.eq_false_or_eq_true (isCode c) with hi | hi
  · exact h2 c (List.mem_filter.mpr ⟨hc, hi⟩)
  · simpa [hi] using h
set_option maxRecDepth 65536 in
theorem w_c0 : (Jvm.Cond.code x code maxLocals ret).before args0 about1 = true := code_word (m := ⟨1, 1⟩) (meth := k1m1) (c := k1c1) (by decide +kernel) rfl rfl rfl (by decide +kernel)
set_option maxRecDepth 65536 in
theorem w_c1 : (Jvm.Cond.code ({ cls := "com/example/millipede/millipede/DecimalNumbersCanonicalPinLaw", name := "digit", desc := "(III)I" } : Jvm.MethodName) method_3_code (3 : Nat) (Option.some Jvm.ClassFile.FieldType.int)).before args0 about1 = true := code_word (m := ⟨1, 2⟩) (meth := k1m2) (c := k1c2) (by decide +kernel) rfl rfl rfl (by decide +kernel)
set_option maxRecDepth 65536 in
theorem w_c2 : (Jvm.Cond.code ({ cls := "com/example/millipede/millipede/DecimalNumbersCanonicalPinLaw", name := "text", desc := "(IIIII)Ljava/lang/String;" } : Jvm.MethodName) method_5_code (5 : Nat) (Option.some (Jvm.ClassFile.FieldType.object "java/lang/String"))).before args0 about1 = true := code_word (m := ⟨1, 4⟩) (meth := k1m4) (c := k1c4) (by decide +kernel) rfl rfl rfl (by decide +kernel)
set_option maxRecDepth 65536 in
theorem w_c3 : (Jvm.Cond.code ({ cls := "com/example/millipede/millipede/DecimalNumbersCanonicalPinLaw", name := "ch", desc := "(I)C" } : Jvm.MethodName) method_4_code (1 : Nat) (Option.some Jvm.ClassFile.FieldType.char)).before args0 about1 = true := code_word (m := ⟨1, 3⟩) (meth := k1m3) (c := k1c3) (by decide +kernel) rfl rfl rfl (by decide +kernel)
set_option maxRecDepth 65536 in
theorem w_c4 : (Jvm.Cond.code ({ cls := "java/lang/String", name := "<init>", desc := "([C)V" } : Jvm.MethodName) jdk_42_method_3_code (2 : Nat) (Option.none : Option Jvm.ClassFile.FieldType)).before args0 about1 = true := code_word (m := ⟨7, 1⟩) (meth := k7m1) (c := k7c1) (by decide +kernel) rfl rfl rfl (by decide +kernel)
set_option maxRecDepth 65536 in
theorem w_c5 : (Jvm.Cond.code ({ cls := "java/lang/String", name := "<init>", desc := "([CIILjava/lang/Void;)V" } : Jvm.MethodName) jdk_42_method_149_code (6 : Nat) (Option.none : Option Jvm.ClassFile.FieldType)).before args0 about1 = true := code_word (m := ⟨7, 7⟩) (meth := k7m7) (c := k7c7) (by decide +kernel) rfl rfl rfl (by decide +kernel)
set_option maxRecDepth 65536 in
theorem w_c6 : (Jvm.Cond.code ({ cls := "java/lang/Object", name := "<init>", desc := "()V" } : Jvm.MethodName) object_method_1_code (1 : Nat) (Option.none : Option Jvm.ClassFile.FieldType)).before args0 about1 = true := code_word (m := ⟨0, 0⟩) (meth := k0m0) (c := k0c0) (by decide +kernel) rfl rfl rfl (by decide +kernel)
set_option maxRecDepth 65536 in
theorem w_c7 : (Jvm.Cond.code ({ cls := "java/lang/StringUTF16", name := "compress", desc := "([CII)[B" } : Jvm.MethodName) jdk_52_method_16_code (6 : Nat) (Option.some (Jvm.ClassFile.FieldType.array Jvm.ClassFile.FieldType.byte))).before args0 about1 = true := code_word (m := ⟨8, 2⟩) (meth := k8m2) (c := k8c2) (by decide +kernel) rfl rfl rfl (by decide +kernel)
set_option maxRecDepth 65536 in
theorem w_c8 : (Jvm.Cond.code ({ cls := "java/lang/StringUTF16", name := "compress", desc := "([CI[BII)I" } : Jvm.MethodName) jdk_52_method_21_code (7 : Nat) (Option.some Jvm.ClassFile.FieldType.int)).before args0 about1 = true := code_word (m := ⟨8, 3⟩) (meth := k8m3) (c := k8c3) (by decide +kernel) rfl rfl rfl (by decide +kernel)
set_option maxRecDepth 65536 in
theorem w_c9 : (Jvm.Cond.code ({ cls := "java/lang/StringUTF16", name := "coderFromArrayLen", desc := "([BI)B" } : Jvm.MethodName) jdk_52_method_15_code (2 : Nat) (Option.some Jvm.ClassFile.FieldType.byte)).before args0 about1 = true := code_word (m := ⟨8, 1⟩) (meth := k8m1) (c := k8c1) (by decide +kernel) rfl rfl rfl (by decide +kernel)
set_option maxRecDepth 65536 in
theorem w_c10 : (Jvm.Cond.code ({ cls := "com/example/millipede/millipede/DecimalNumbersCanonicalPinLaw", name := "decimal", desc := "(I)Ljava/lang/String;" } : Jvm.MethodName) method_6_code (1 : Nat) (Option.some (Jvm.ClassFile.FieldType.object "java/lang/String"))).before args0 about1 = true := code_word (m := ⟨1, 5⟩) (meth := k1m5) (c := k1c5) (by decide +kernel) rfl rfl rfl (by decide +kernel)
set_option maxRecDepth 65536 in
theorem w_c11 : (Jvm.Cond.code ({ cls := "com/example/millipede/millipede/DecimalNumbers", name := "canonical", desc := "(Ljava/lang/String;)Ljava/lang/String;" } : Jvm.MethodName) prog_20_method_3_code (2 : Nat) (Option.some (Jvm.ClassFile.FieldType.object "java/lang/String"))).before args0 about1 = true := code_word (m := ⟨9, 1⟩) (meth := k9m1) (c := k9c1) (by decide +kernel) rfl rfl rfl (by decide +kernel)
set_option maxRecDepth 65536 in
theorem w_c12 : (Jvm.Cond.code ({ cls := "java/lang/String", name := "length", desc := "()I" } : Jvm.MethodName) jdk_42_method_54_code (1 : Nat) (Option.some Jvm.ClassFile.FieldType.int)).before args0 about1 = true := code_word (m := ⟨7, 2⟩) (meth := k7m2) (c := k7c2) (by decide +kernel) rfl rfl rfl (by decide +kernel)
set_option maxRecDepth 65536 in
theorem w_c13 : (Jvm.Cond.code ({ cls := "java/lang/String", name := "coder", desc := "()B" } : Jvm.MethodName) jdk_42_method_152_code (1 : Nat) (Option.some Jvm.ClassFile.FieldType.byte)).before args0 about1 = true := code_word (m := ⟨7, 9⟩) (meth := k7m9) (c := k7c9) (by decide +kernel) rfl rfl rfl (by decide +kernel)
set_option maxRecDepth 65536 in
theorem w_c14 : (Jvm.Cond.code ({ cls := "java/lang/String", name := "substring", desc := "(I)Ljava/lang/String;" } : Jvm.MethodName) jdk_42_method_91_code (2 : Nat) (Option.some (Jvm.ClassFile.FieldType.object "java/lang/String"))).before args0 about1 = true := code_word (m := ⟨7, 5⟩) (meth := k7m5) (c := k7c5) (by decide +kernel) rfl rfl rfl (by decide +kernel)
set_option maxRecDepth 65536 in
theorem w_c15 : (Jvm.Cond.code ({ cls := "java/lang/String", name := "substring", desc := "(II)Ljava/lang/String;" } : Jvm.MethodName) jdk_42_method_92_code (5 : Nat) (Option.some (Jvm.ClassFile.FieldType.object "java/lang/String"))).before args0 about1 = true := code_word (m := ⟨7, 6⟩) (meth := k7m6) (c := k7c6) (by decide +kernel) rfl rfl rfl (by decide +kernel)
set_option maxRecDepth 65536 in
theorem w_c16 : (Jvm.Cond.code ({ cls := "java/lang/String", name := "checkBoundsBeginEnd", desc := "(III)V" } : Jvm.MethodName) jdk_42_method_158_code (3 : Nat) (Option.none : Option Jvm.ClassFile.FieldType)).before args0 about1 = true := code_word (m := ⟨7, 12⟩) (meth := k7m12) (c := k7c12) (by decide +kernel) rfl rfl rfl (by decide +kernel)
set_option maxRecDepth 65536 in
theorem w_c17 : (Jvm.Cond.code ({ cls := "jdk/internal/util/Preconditions", name := "checkFromToIndex", desc := "(IIILjava/util/function/BiFunction;)I" } : Jvm.MethodName) jdk_41_method_12_code (4 : Nat) (Option.some Jvm.ClassFile.FieldType.int)).before args0 about1 = true := code_word (m := ⟨10, 2⟩) (meth := k10m2) (c := k10c2) (by decide +kernel) rfl rfl rfl (by decide +kernel)
set_option maxRecDepth 65536 in
theorem w_c18 : (Jvm.Cond.code ({ cls := "java/lang/String", name := "equals", desc := "(Ljava/lang/Object;)Z" } : Jvm.MethodName) jdk_42_method_66_code (3 : Nat) (Option.some Jvm.ClassFile.FieldType.boolean)).before args0 about1 = true := code_word (m := ⟨7, 4⟩) (meth := k7m4) (c := k7c4) (by decide +kernel) rfl rfl rfl (by decide +kernel)
set_option maxRecDepth 65536 in
theorem w_c19 : (Jvm.Cond.code ({ cls := "java/lang/StringLatin1", name := "equals", desc := "([B[B)Z" } : Jvm.MethodName) jdk_43_method_13_code (3 : Nat) (Option.some Jvm.ClassFile.FieldType.boolean)).before args0 about1 = true := code_word (m := ⟨11, 2⟩) (meth := k11m2) (c := k11c2) (by decide +kernel) rfl rfl rfl (by decide +kernel)
set_option maxRecDepth 65536 in
theorem w_c20 : (Jvm.Cond.code ({ cls := "java/lang/String", name := "charAt", desc := "(I)C" } : Jvm.MethodName) jdk_42_method_56_code (2 : Nat) (Option.some Jvm.ClassFile.FieldType.char)).before args0 about1 = true := code_word (m := ⟨7, 3⟩) (meth := k7m3) (c := k7c3) (by decide +kernel) rfl rfl rfl (by decide +kernel)
set_option maxRecDepth 65536 in
theorem w_c21 : (Jvm.Cond.code ({ cls := "java/lang/String", name := "isLatin1", desc := "()Z" } : Jvm.MethodName) jdk_42_method_154_code (1 : Nat) (Option.some Jvm.ClassFile.FieldType.boolean)).before args0 about1 = true := code_word (m := ⟨7, 10⟩) (meth := k7m10) (c := k7c10) (by decide +kernel) rfl rfl rfl (by decide +kernel)
set_option maxRecDepth 65536 in
theorem w_c22 : (Jvm.Cond.code ({ cls := "java/lang/StringLatin1", name := "charAt", desc := "([BI)C" } : Jvm.MethodName) jdk_43_method_2_code (2 : Nat) (Option.some Jvm.ClassFile.FieldType.char)).before args0 about1 = true := code_word (m := ⟨11, 1⟩) (meth := k11m1) (c := k11c1) (by decide +kernel) rfl rfl rfl (by decide +kernel)
set_option maxRecDepth 65536 in
theorem w_c23 : (Jvm.Cond.code ({ cls := "java/lang/String", name := "checkIndex", desc := "(II)V" } : Jvm.MethodName) jdk_42_method_155_code (2 : Nat) (Option.none : Option Jvm.ClassFile.FieldType)).before args0 about1 = true := code_word (m := ⟨7, 11⟩) (meth := k7m11) (c := k7c11) (by decide +kernel) rfl rfl rfl (by decide +kernel)
set_option maxRecDepth 65536 in
theorem w_c24 : (Jvm.Cond.code ({ cls := "jdk/internal/util/Preconditions", name := "checkIndex", desc := "(IILjava/util/function/BiFunction;)I" } : Jvm.MethodName) jdk_41_method_11_code (3 : Nat) (Option.some Jvm.ClassFile.FieldType.int)).before args0 about1 = true := code_word (m := ⟨10, 1⟩) (meth := k10m1) (c := k10c1) (by decide +kernel) rfl rfl rfl (by decide +kernel)
set_option maxRecDepth 65536 in
theorem w_c25 : (Jvm.Cond.code ({ cls := "java/lang/StringLatin1", name := "newString", desc := "([BII)Ljava/lang/String;" } : Jvm.MethodName) jdk_43_method_47_code (3 : Nat) (Option.some (Jvm.ClassFile.FieldType.object "java/lang/String"))).before args0 about1 = true := code_word (m := ⟨11, 3⟩) (meth := k11m3) (c := k11c3) (by decide +kernel) rfl rfl rfl (by decide +kernel)
set_option maxRecDepth 65536 in
theorem w_c26 : (Jvm.Cond.code ({ cls := "java/util/Arrays", name := "copyOfRange", desc := "([BII)[B" } : Jvm.MethodName) jdk_65_method_132_code (3 : Nat) (Option.some (Jvm.ClassFile.FieldType.array Jvm.ClassFile.FieldType.byte))).before args0 about1 = true := code_word (m := ⟨12, 2⟩) (meth := k12m2) (c := k12c2) (by decide +kernel) rfl rfl rfl (by decide +kernel)
set_option maxRecDepth 65536 in
theorem w_c27 : (Jvm.Cond.code ({ cls := "java/util/Arrays", name := "copyOfRangeByte", desc := "([BII)[B" } : Jvm.MethodName) jdk_65_method_133_code (5 : Nat) (Option.some (Jvm.ClassFile.FieldType.array Jvm.ClassFile.FieldType.byte))).before args0 about1 = true := code_word (m := ⟨12, 3⟩) (meth := k12m3) (c := k12c3) (by decide +kernel) rfl rfl rfl (by decide +kernel)
set_option maxRecDepth 65536 in
theorem w_c28 : (Jvm.Cond.code ({ cls := "java/util/Arrays", name := "checkLength", desc := "(II)V" } : Jvm.MethodName) jdk_65_method_131_code (2 : Nat) (Option.none : Option Jvm.ClassFile.FieldType)).before args0 about1 = true := code_word (m := ⟨12, 1⟩) (meth := k12m1) (c := k12c1) (by decide +kernel) rfl rfl rfl (by decide +kernel)
set_option maxRecDepth 65536 in
theorem w_c29 : (Jvm.Cond.code ({ cls := "java/lang/Math", name := "min", desc := "(II)I" } : Jvm.MethodName) jdk_29_method_69_code (2 : Nat) (Option.some Jvm.ClassFile.FieldType.int)).before args0 about1 = true := code_word (m := ⟨13, 1⟩) (meth := k13m1) (c := k13c1) (by decide +kernel) rfl rfl rfl (by decide +kernel)
set_option maxRecDepth 65536 in
theorem w_c30 : (Jvm.Cond.code ({ cls := "java/lang/String", name := "<init>", desc := "([BB)V" } : Jvm.MethodName) jdk_42_method_151_code (3 : Nat) (Option.none : Option Jvm.ClassFile.FieldType)).before args0 about1 = true := code_word (m := ⟨7, 8⟩) (meth := k7m8) (c := k7c8) (by decide +kernel) rfl rfl rfl (by decide +kernel)
def codes1 : List Jvm.Cond := [Jvm.Cond.code x code maxLocals ret, Jvm.Cond.code ({ cls := "com/example/millipede/millipede/DecimalNumbersCanonicalPinLaw", name := "digit", desc := "(III)I" } : Jvm.MethodName) method_3_code (3 : Nat) (Option.some Jvm.ClassFile.FieldType.int), Jvm.Cond.code ({ cls := "com/example/millipede/millipede/DecimalNumbersCanonicalPinLaw", name := "text", desc := "(IIIII)Ljava/lang/String;" } : Jvm.MethodName) method_5_code (5 : Nat) (Option.some (Jvm.ClassFile.FieldType.object "java/lang/String")), Jvm.Cond.code ({ cls := "com/example/millipede/millipede/DecimalNumbersCanonicalPinLaw", name := "ch", desc := "(I)C" } : Jvm.MethodName) method_4_code (1 : Nat) (Option.some Jvm.ClassFile.FieldType.char), Jvm.Cond.code ({ cls := "java/lang/String", name := "<init>", desc := "([C)V" } : Jvm.MethodName) jdk_42_method_3_code (2 : Nat) (Option.none : Option Jvm.ClassFile.FieldType), Jvm.Cond.code ({ cls := "java/lang/String", name := "<init>", desc := "([CIILjava/lang/Void;)V" } : Jvm.MethodName) jdk_42_method_149_code (6 : Nat) (Option.none : Option Jvm.ClassFile.FieldType), Jvm.Cond.code ({ cls := "java/lang/Object", name := "<init>", desc := "()V" } : Jvm.MethodName) object_method_1_code (1 : Nat) (Option.none : Option Jvm.ClassFile.FieldType), Jvm.Cond.code ({ cls := "java/lang/StringUTF16", name := "compress", desc := "([CII)[B" } : Jvm.MethodName) jdk_52_method_16_code (6 : Nat) (Option.some (Jvm.ClassFile.FieldType.array Jvm.ClassFile.FieldType.byte)), Jvm.Cond.code ({ cls := "java/lang/StringUTF16", name := "compress", desc := "([CI[BII)I" } : Jvm.MethodName) jdk_52_method_21_code (7 : Nat) (Option.some Jvm.ClassFile.FieldType.int), Jvm.Cond.code ({ cls := "java/lang/StringUTF16", name := "coderFromArrayLen", desc := "([BI)B" } : Jvm.MethodName) jdk_52_method_15_code (2 : Nat) (Option.some Jvm.ClassFile.FieldType.byte), Jvm.Cond.code ({ cls := "com/example/millipede/millipede/DecimalNumbersCanonicalPinLaw", name := "decimal", desc := "(I)Ljava/lang/String;" } : Jvm.MethodName) method_6_code (1 : Nat) (Option.some (Jvm.ClassFile.FieldType.object "java/lang/String")), Jvm.Cond.code ({ cls := "com/example/millipede/millipede/DecimalNumbers", name := "canonical", desc := "(Ljava/lang/String;)Ljava/lang/String;" } : Jvm.MethodName) prog_20_method_3_code (2 : Nat) (Option.some (Jvm.ClassFile.FieldType.object "java/lang/String")), Jvm.Cond.code ({ cls := "java/lang/String", name := "length", desc := "()I" } : Jvm.MethodName) jdk_42_method_54_code (1 : Nat) (Option.some Jvm.ClassFile.FieldType.int), Jvm.Cond.code ({ cls := "java/lang/String", name := "coder", desc := "()B" } : Jvm.MethodName) jdk_42_method_152_code (1 : Nat) (Option.some Jvm.ClassFile.FieldType.byte), Jvm.Cond.code ({ cls := "java/lang/String", name := "substring", desc := "(I)Ljava/lang/String;" } : Jvm.MethodName) jdk_42_method_91_code (2 : Nat) (Option.some (Jvm.ClassFile.FieldType.object "java/lang/String")), Jvm.Cond.code ({ cls := "java/lang/String", name := "substring", desc := "(II)Ljava/lang/String;" } : Jvm.MethodName) jdk_42_method_92_code (5 : Nat) (Option.some (Jvm.ClassFile.FieldType.object "java/lang/String")), Jvm.Cond.code ({ cls := "java/lang/String", name := "checkBoundsBeginEnd", desc := "(III)V" } : Jvm.MethodName) jdk_42_method_158_code (3 : Nat) (Option.none : Option Jvm.ClassFile.FieldType), Jvm.Cond.code ({ cls := "jdk/internal/util/Preconditions", name := "checkFromToIndex", desc := "(IIILjava/util/function/BiFunction;)I" } : Jvm.MethodName) jdk_41_method_12_code (4 : Nat) (Option.some Jvm.ClassFile.FieldType.int), Jvm.Cond.code ({ cls := "java/lang/String", name := "equals", desc := "(Ljava/lang/Object;)Z" } : Jvm.MethodName) jdk_42_method_66_code (3 : Nat) (Option.some Jvm.ClassFile.FieldType.boolean), Jvm.Cond.code ({ cls := "java/lang/StringLatin1", name := "equals", desc := "([B[B)Z" } : Jvm.MethodName) jdk_43_method_13_code (3 : Nat) (Option.some Jvm.ClassFile.FieldType.boolean), Jvm.Cond.code ({ cls := "java/lang/String", name := "charAt", desc := "(I)C" } : Jvm.MethodName) jdk_42_method_56_code (2 : Nat) (Option.some Jvm.ClassFile.FieldType.char), Jvm.Cond.code ({ cls := "java/lang/String", name := "isLatin1", desc := "()Z" } : Jvm.MethodName) jdk_42_method_154_code (1 : Nat) (Option.some Jvm.ClassFile.FieldType.boolean), Jvm.Cond.code ({ cls := "java/lang/StringLatin1", name := "charAt", desc := "([BI)C" } : Jvm.MethodName) jdk_43_method_2_code (2 : Nat) (Option.some Jvm.ClassFile.FieldType.char), Jvm.Cond.code ({ cls := "java/lang/String", name := "checkIndex", desc := "(II)V" } : Jvm.MethodName) jdk_42_method_155_code (2 : Nat) (Option.none : Option Jvm.ClassFile.FieldType), Jvm.Cond.code ({ cls := "jdk/internal/util/Preconditions", name := "checkIndex", desc := "(IILjava/util/function/BiFunction;)I" } : Jvm.MethodName) jdk_41_method_11_code (3 : Nat) (Option.some Jvm.ClassFile.FieldType.int), Jvm.Cond.code ({ cls := "java/lang/StringLatin1", name := "newString", desc := "([BII)Ljava/lang/String;" } : Jvm.MethodName) jdk_43_method_47_code (3 : Nat) (Option.some (Jvm.ClassFile.FieldType.object "java/lang/String")), Jvm.Cond.code ({ cls := "java/util/Arrays", name := "copyOfRange", desc := "([BII)[B" } : Jvm.MethodName) jdk_65_method_132_code (3 : Nat) (Option.some (Jvm.ClassFile.FieldType.array Jvm.ClassFile.FieldType.byte)), Jvm.Cond.code ({ cls := "java/util/Arrays", name := "copyOfRangeByte", desc := "([BII)[B" } : Jvm.MethodName) jdk_65_method_133_code (5 : Nat) (Option.some (Jvm.ClassFile.FieldType.array Jvm.ClassFile.FieldType.byte)), Jvm.Cond.code ({ cls := "java/util/Arrays", name := "checkLength", desc := "(II)V" } : Jvm.MethodName) jdk_65_method_131_code (2 : Nat) (Option.none : Option Jvm.ClassFile.FieldType), Jvm.Cond.code ({ cls := "java/lang/Math", name := "min", desc := "(II)I" } : Jvm.MethodName) jdk_29_method_69_code (2 : Nat) (Option.some Jvm.ClassFile.FieldType.int), Jvm.Cond.code ({ cls := "java/lang/String", name := "<init>", desc := "([BB)V" } : Jvm.MethodName) jdk_42_method_151_code (3 : Nat) (Option.none : Option Jvm.ClassFile.FieldType)]
set_option maxRecDepth 65536 in
theorem codes_eq : words1.filter isCode = codes1 := rfl
theorem w_codes : ∀ c ∈ words1.filter isCode, c.before args0 about1 = true := by
  rw [codes_eq]
  intro c hc
  simp only [codes1, List.mem_cons, List.not_mem_nil, or_false] at hc
  rcases hc with rfl | rfl | rfl | rfl | rfl | rfl | rfl | rfl | rfl | rfl | rfl | rfl | rfl | rfl | rfl | rfl | rfl | rfl | rfl | rfl | rfl | rfl | rfl | rfl | rfl | rfl | rfl | rfl | rfl | rfl | rfl
  · exact w_c0
  · exact w_c1
  · exact w_c2
  · exact w_c3
  · exact w_c4
  · exact w_c5
  · exact w_c6
  · exact w_c7
  · exact w_c8
  · exact w_c9
  · exact w_c10
  · exact w_c11
  · exact w_c12
  · exact w_c13
  · exact w_c14
  · exact w_c15
  · exact w_c16
  · exact w_c17
  · exact w_c18
  · exact w_c19
  · exact w_c20
  · exact w_c21
  · exact w_c22
  · exact w_c23
  · exact w_c24
  · exact w_c25
  · exact w_c26
  · exact w_c27
  · exact w_c28
  · exact w_c29
  · exact w_c30
set_option maxRecDepth 65536 in
theorem w_t1 : (words1.take 24).all (fun c => isCode c || c.before args0 about1) = true := by decide +kernel
set_option maxRecDepth 65536 in
theorem w_t2 : ((words1.drop 24).take 24).all (fun c => isCode c || c.before args0 about1) = true := by decide +kernel
set_option maxRecDepth 65536 in
theorem w_t3 : (((words1.drop 24).drop 24).take 24).all (fun c => isCode c || c.before args0 about1) = true := by decide +kernel
set_option maxRecDepth 65536 in
theorem w_t4 : ((((words1.drop 24).drop 24).drop 24).take 24).all (fun c => isCode c || c.before args0 about1) = true := by decide +kernel
set_option maxRecDepth 65536 in
theorem w_t5 : (((((words1.drop 24).drop 24).drop 24).drop 24).take 24).all (fun c => isCode c || c.before args0 about1) = true := by decide +kernel
set_option maxRecDepth 65536 in
theorem w_t6 : (((((words1.drop 24).drop 24).drop 24).drop 24).drop 24).all (fun c => isCode c || c.before args0 about1) = true := by decide +kernel
theorem w_tables : (allAtoms (Jvm.Cond.code x code maxLocals ret :: tables_1)).before args0 about1 = true := by
  rw [allAtoms_all]
  show words1.all (fun c => c.before args0 about1) = true
  refine all_split ?_ w_codes
  rw [← List.take_append_drop 24 words1, List.all_append, w_t1, ← List.take_append_drop 24 (words1.drop 24), List.all_append, w_t2, ← List.take_append_drop 24 ((words1.drop 24).drop 24), List.all_append, w_t3, ← List.take_append_drop 24 (((words1.drop 24).drop 24).drop 24), List.all_append, w_t4, ← List.take_append_drop 24 ((((words1.drop 24).drop 24).drop 24).drop 24), List.all_append, w_t5, w_t6]
  rfl
set_option maxRecDepth 65536 in
theorem w_rest : rest_1_c.before args0 about1 = true := by decide +kernel
set_option maxRecDepth 65536 in
theorem w_case : (Jvm.Cond.and given_1 narrow_1).before args0 about1 = true := by decide +kernel
theorem w_applies : (headSpec (Jvm.Cond.code x code maxLocals ret :: tables_1) room_1).applies x e0.platform about1 = true :=
  (Spec.applies_iff w_frames).mpr ⟨w_running, w_runnable, w_alone, w_named, w_hears, w_ripe, w_room, w_tables⟩
theorem atStart : AtStart classFile x code maxLocals ret World_1 tables_1 room_1 Calls_1 rest_1 Pre_1 launch0 p0 e0 about1 theMethod args0 below0 :=
  ⟨lists_1, trivial, launch0.admits_env _ _ _, launch0.least_env, fairChoices_fair.cas, fairChoices_fair.clock, w_frames, w_args, w_heap, w_applies, trivial, w_rest, w_case⟩
end start1
theorem witness_1 : WitnessClaimed_1 := ⟨start1.p0, start1.e0, start1.about1, start1.theMethod, start1.args0, start1.below0, start1.atStart⟩
end Jvm.Pilot.@@N@@
