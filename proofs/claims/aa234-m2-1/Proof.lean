import JvmDerived
import JvmDerived.Pilot.@@N@@Statement
import JvmDerived.Pilot.@@N@@Code
set_option linter.unusedVariables false
set_option maxRecDepth 65536
set_option maxHeartbeats 40000000
set_option linter.unusedSimpArgs false
@@BLOCK:NumsL.lean.txt@@
namespace Jvm.RoadKit
open Sem ClassFile Op Lib Jvm.Stand Jvm.Free Jvm.LawKit
section New
variable {p : Program} {l : Launch} {e : Env} {R : Room} {s : State} {m : MethodId} {args : Array Value} {below : List Frame} {meth : Method} {c : Code} {T : State} {locs : List Loc} {cells slots : Nat}
theorem retI (X : Stand p l e R s m args below meth c T locs cells slots) (hx : p.tables.exec = Jvm.exec) {pc : Nat} {Ls : Array Slot} {z : Int32} {rest : List Value} (hret : meth.sig.returnType = some .int) (hd : decode c.code pc = .ok (.ireturn, 1)) {fs : List Frame}
    (hl : ∀ (f : JFrame) (acts : List Action), f.method = m → f.locked = none → f.entered = [] → (doReturn e (T.setTop f) acts (some (.int z))).1 = T.setFrames fs) : Steps p.tables e below (T.setTop (mkF m pc Ls (.int z :: rest))) (T.setFrames fs) := by
  have hm' : T.vm.method? m = some meth := X.method'
  have hn : narrow .int (.int z) = .int z := rfl
  show Steps p.tables e below (T.setTop { method := m, pc := pc, locals := Ls, stack := _ :: rest, locked := none }) _
  jvm_step X.here [X.here.top, hx, hd, hm', hret, hn]
  first | (intro acts; rw [hl _ acts rfl rfl rfl]) | rw [hl _ _ rfl rfl rfl]
  exact Steps.refl _
end New
end Jvm.RoadKit
namespace Jvm.Pilot.@@N@@
open Jvm Jvm.ClassFile Sem Op Lib Jvm.Free Jvm.Stand Jvm.LawKit Jvm.RoadKit Bundle Jvm.Pilot.@@N@@.Jvm.D
abbrev own_P (p : Program) (e : Env) (below : List Frame) (S : State) (E : JFrame) (T : State) (F : JFrame) : Prop := ∀ t, Steps p.tables e below (T.setTop F) t → Steps p.tables e below (S.setTop E) t
abbrev own_M (l : Launch) (y : MethodName) (b : ByteArray) (ml : Nat) (rt : Option FieldType) (ws : List Jvm.Cond) (rm : Room) (Z : State) (h0 : Heap) (as : Array Value) (Q : Option Value → Heap → List Loc → Prop) : Prop := MetFree l y (head1 (Jvm.Cond.code y b ml rt :: ws) rm) (fun a U => a = as ∧ Z.Warmed39 U.vm ∧ U.heap = h0) (fun _ _ _ _ _ => True) (fun _ U o U' => ∃ v L, o = .returned v ∧ Q v U'.heap L ∧ FrameEnd U o U' L rm.cells rm.slots)
theorem own_m {L : List Jvm.Cond} {a0 args : Array Value} {Z s : State} (hZ : Z.Warmed39 s.vm) (hw : ∀ d ∈ L, d.before a0 Z = true) (i : Nat) {d : Jvm.Cond} (h : L[i]? = some d := by rfl) (hd : (d.onTables && d.keepsFace) = true := by first | rfl | simp [Cond.onTables, Cond.keepsFace, Cond.keeps, Cond.steady]) : d.before args s = true := mvT hZ (hw _ (List.mem_of_getElem? h)) hd
theorem own_body {l : Launch} {y : MethodName} {b : ByteArray} {ml : Nat} {rt : Option FieldType} {ws : List Jvm.Cond} {rm : Room} {Z : State} {h0 : Heap} {as : Array Value} {Q : Option Value → Heap → List Loc → Prop} (hp : plainFor y = true)
    (H : ∀ (p : Program) (e : Env) (s : State) (m : MethodId) (below : List Frame) (meth : Method) (c : Code) (s₁ : State) (Bd : BodyLoose p l y (head1 (Jvm.Cond.code y b ml rt :: ws) rm) b ml rt e s m as below meth c s₁) (hx : p.tables.exec = Jvm.exec) (hby : c.code = b) (hml : c.maxLocals = ml) (hown : s.vm.findClass y.cls = some m.cls) (hnm : meth.name = y.name) (X0 : Stand p l e rm s m as below meth c s₁ [] 0 0) (e0 : s₁.heap = h0) (hZ : Z.Warmed39 s.vm),
      ∃ s₂ o, Steps p.tables e below (s₁.setTop (entryFrame m as ml)) s₂ ∧ s₂.status = .running ∧ Ended s₂ below o ∧ ∃ v L, o = .returned v ∧ Q v s₂.heap L ∧ FrameEnd s o s₂ L rm.cells rm.slots) : own_M l y b ml rt ws rm Z h0 as Q := by
  refine MetFree.of_bodySF hp hisR ?_
  intro p e s m args below meth c s₁ Bd hml0 hP hK
  obtain ⟨rfl, hZ, hh⟩ := hP
  exact H p e s m below meth c s₁ Bd Bd.exec Bd.bytes hml0 (findClass_of_methodNamed Bd.named) (name_of_methodNamed Bd.named Bd.method).1 (Stand.of_body Bd) (by rw [← hh, Bd.state]; rfl) hZ
abbrev own_R (a b c d : Nat) : Room := { frames := a, cells := b, slots := c, locals := d }
abbrev own_y0 : MethodName := ⟨"java/lang/StringUTF16", "compress", "([CI[BII)I"⟩
abbrev own_y1 : MethodName := ⟨"java/lang/StringUTF16", "compress", "([CII)[B"⟩
abbrev own_y2 : MethodName := ⟨"java/lang/StringUTF16", "coderFromArrayLen", "([BI)B"⟩
abbrev own_y3 : MethodName := ⟨"java/lang/String", "<init>", "([CIILjava/lang/Void;)V"⟩
abbrev own_y4 : MethodName := ⟨"java/lang/String", "<init>", "([C)V"⟩
abbrev own_y5 : MethodName := ⟨"com/example/millipede/millipede/DecimalNumbersIsNumberPinLaw", "draw", "(I)C"⟩
abbrev own_y6 : MethodName := ⟨"com/example/millipede/millipede/DecimalNumbersIsNumberPinLaw", "digit", "(C)Z"⟩
abbrev own_y7 : MethodName := ⟨"java/lang/String", "coder", "()B"⟩
abbrev own_y8 : MethodName := ⟨"java/lang/String", "isLatin1", "()Z"⟩
abbrev own_y9 : MethodName := ⟨"java/lang/String", "length", "()I"⟩
abbrev own_y10 : MethodName := ⟨"jdk/internal/util/Preconditions", "checkIndex", "(IILjava/util/function/BiFunction;)I"⟩
abbrev own_y11 : MethodName := ⟨"java/lang/String", "checkIndex", "(II)V"⟩
abbrev own_y12 : MethodName := ⟨"java/lang/StringLatin1", "charAt", "([BI)C"⟩
abbrev own_y13 : MethodName := ⟨"java/lang/String", "charAt", "(I)C"⟩
abbrev own_y14 : MethodName := ⟨"java/lang/StringUTF16", "length", "([B)I"⟩
abbrev own_y15 : MethodName := ⟨"java/lang/StringUTF16", "getChar", "([BI)C"⟩
abbrev own_y16 : MethodName := ⟨"java/lang/StringUTF16", "checkIndex", "(I[B)V"⟩
abbrev own_y17 : MethodName := ⟨"java/lang/StringUTF16", "charAt", "([BI)C"⟩
abbrev own_y18 : MethodName := ⟨"java/lang/String", "isEmpty", "()Z"⟩
abbrev own_y19 : MethodName := ⟨"java/lang/StringUTF16", "putChar", "([BII)V"⟩
abbrev own_y20 : MethodName := ⟨"java/lang/StringUTF16", "newBytesLength", "(I)I"⟩
abbrev own_y21 : MethodName := ⟨"java/lang/StringUTF16", "newBytesFor", "(I)[B"⟩
abbrev own_y22 : MethodName := ⟨"java/lang/StringUTF16", "toBytes", "([CII)[B"⟩
abbrev own_y23 : MethodName := ⟨"com/example/millipede/millipede/DecimalNumbersIsNumberPinLaw", "make", "(ICCCC)Ljava/lang/String;"⟩
abbrev own_y24 : MethodName := ⟨"com/example/millipede/millipede/DecimalNumbers", "isNumber", "(Ljava/lang/String;)Z"⟩
abbrev own_H (Z : State) (a0 : Array Value) : Prop := ∀ d ∈ tables_1, d.before a0 Z = true
theorem own_le {a b : Nat} (h : Nat.ble a b = true) : a ≤ b := Nat.le_of_ble_eq_true h
abbrev own_d (b : ByteArray) (p : Nat) (i : Instr) (n : Nat) : Prop := decode b p = .ok (i, n)
theorem own_nr {n : String} {w : Value} (h : w.isRef = true) : narrow (.object n) w = w := by rcases ref_cases h with rfl | ⟨_, rfl⟩ <;> rfl
theorem own_i {L : List Jvm.Cond} {a0 : Array Value} {Z : State} (hw : ∀ d ∈ L, d.before a0 Z = true) (i : Nat) {d : Jvm.Cond} (h : L[i]? = some d) : d.before a0 Z = true := hw _ (List.mem_of_getElem? h)
theorem d1_0 : own_d method_2_code 0 (.iload_n 0) 1 := by decide +kernel
theorem d1_1 : own_d method_2_code 1 (.bipush 16) 2 := by decide +kernel
theorem d1_3 : own_d method_2_code 3 .iushr 1 := by decide +kernel
theorem d1_4 : own_d method_2_code 4 (.iconst 1) 1 := by decide +kernel
theorem d1_5 : own_d method_2_code 5 .iand 1 := by decide +kernel
theorem d1_6 : own_d method_2_code 6 (.ifCond .eq 15) 3 := by decide +kernel
theorem d1_9 : own_d method_2_code 9 (.bipush 48) 2 := by decide +kernel
theorem d1_11 : own_d method_2_code 11 (.iload_n 0) 1 := by decide +kernel
theorem d1_12 : own_d method_2_code 12 (.ldc 7) 2 := by decide +kernel
theorem d1_14 : own_d method_2_code 14 .iand 1 := by decide +kernel
theorem d1_15 : own_d method_2_code 15 (.bipush 10) 2 := by decide +kernel
theorem d1_17 : own_d method_2_code 17 .irem 1 := by decide +kernel
theorem d1_18 : own_d method_2_code 18 .iadd 1 := by decide +kernel
theorem d1_19 : own_d method_2_code 19 .i2c 1 := by decide +kernel
theorem d1_20 : own_d method_2_code 20 .ireturn 1 := by decide +kernel
theorem d1_21 : own_d method_2_code 21 (.iload_n 0) 1 := by decide +kernel
theorem d1_22 : own_d method_2_code 22 .i2c 1 := by decide +kernel
theorem d1_23 : own_d method_2_code 23 .ireturn 1 := by decide +kernel
theorem d2_0 : own_d method_4_code 0 (.iload_n 0) 1 := by decide +kernel
theorem d2_1 : own_d method_4_code 1 (.ifCond .ne 14) 3 := by decide +kernel
theorem d2_4 : own_d method_4_code 4 (.new 8) 3 := by decide +kernel
theorem d2_7 : own_d method_4_code 7 .dup 1 := by decide +kernel
theorem d2_8 : own_d method_4_code 8 (.iconst 0) 1 := by decide +kernel
theorem d2_9 : own_d method_4_code 9 (.newarray .char) 2 := by decide +kernel
theorem d2_11 : own_d method_4_code 11 (.invokespecial 10) 3 := by decide +kernel
theorem d2_14 : own_d method_4_code 14 .areturn 1 := by decide +kernel
theorem d2_15 : own_d method_4_code 15 (.iload_n 0) 1 := by decide +kernel
theorem d2_16 : own_d method_4_code 16 (.iconst 1) 1 := by decide +kernel
theorem d2_17 : own_d method_4_code 17 (.if_icmp .ne 18) 3 := by decide +kernel
theorem d2_20 : own_d method_4_code 20 (.new 8) 3 := by decide +kernel
theorem d2_23 : own_d method_4_code 23 .dup 1 := by decide +kernel
theorem d2_24 : own_d method_4_code 24 (.iconst 1) 1 := by decide +kernel
theorem d2_25 : own_d method_4_code 25 (.newarray .char) 2 := by decide +kernel
theorem d2_27 : own_d method_4_code 27 .dup 1 := by decide +kernel
theorem d2_28 : own_d method_4_code 28 (.iconst 0) 1 := by decide +kernel
theorem d2_29 : own_d method_4_code 29 (.iload_n 1) 1 := by decide +kernel
theorem d2_30 : own_d method_4_code 30 .castore 1 := by decide +kernel
theorem d2_31 : own_d method_4_code 31 (.invokespecial 10) 3 := by decide +kernel
theorem d2_34 : own_d method_4_code 34 .areturn 1 := by decide +kernel
theorem d2_35 : own_d method_4_code 35 (.iload_n 0) 1 := by decide +kernel
theorem d2_36 : own_d method_4_code 36 (.iconst 2) 1 := by decide +kernel
theorem d2_37 : own_d method_4_code 37 (.if_icmp .ne 22) 3 := by decide +kernel
theorem d2_40 : own_d method_4_code 40 (.new 8) 3 := by decide +kernel
theorem d2_43 : own_d method_4_code 43 .dup 1 := by decide +kernel
theorem d2_44 : own_d method_4_code 44 (.iconst 2) 1 := by decide +kernel
theorem d2_45 : own_d method_4_code 45 (.newarray .char) 2 := by decide +kernel
theorem d2_47 : own_d method_4_code 47 .dup 1 := by decide +kernel
theorem d2_48 : own_d method_4_code 48 (.iconst 0) 1 := by decide +kernel
theorem d2_49 : own_d method_4_code 49 (.iload_n 1) 1 := by decide +kernel
theorem d2_50 : own_d method_4_code 50 .castore 1 := by decide +kernel
theorem d2_51 : own_d method_4_code 51 .dup 1 := by decide +kernel
theorem d2_52 : own_d method_4_code 52 (.iconst 1) 1 := by decide +kernel
theorem d2_53 : own_d method_4_code 53 (.iload_n 2) 1 := by decide +kernel
theorem d2_54 : own_d method_4_code 54 .castore 1 := by decide +kernel
theorem d2_55 : own_d method_4_code 55 (.invokespecial 10) 3 := by decide +kernel
theorem d2_58 : own_d method_4_code 58 .areturn 1 := by decide +kernel
theorem d2_59 : own_d method_4_code 59 (.iload_n 0) 1 := by decide +kernel
theorem d2_60 : own_d method_4_code 60 (.iconst 3) 1 := by decide +kernel
theorem d2_61 : own_d method_4_code 61 (.if_icmp .ne 26) 3 := by decide +kernel
theorem d2_64 : own_d method_4_code 64 (.new 8) 3 := by decide +kernel
theorem d2_67 : own_d method_4_code 67 .dup 1 := by decide +kernel
theorem d2_68 : own_d method_4_code 68 (.iconst 3) 1 := by decide +kernel
theorem d2_69 : own_d method_4_code 69 (.newarray .char) 2 := by decide +kernel
theorem d2_71 : own_d method_4_code 71 .dup 1 := by decide +kernel
theorem d2_72 : own_d method_4_code 72 (.iconst 0) 1 := by decide +kernel
theorem d2_73 : own_d method_4_code 73 (.iload_n 1) 1 := by decide +kernel
theorem d2_74 : own_d method_4_code 74 .castore 1 := by decide +kernel
theorem d2_75 : own_d method_4_code 75 .dup 1 := by decide +kernel
theorem d2_76 : own_d method_4_code 76 (.iconst 1) 1 := by decide +kernel
theorem d2_77 : own_d method_4_code 77 (.iload_n 2) 1 := by decide +kernel
theorem d2_78 : own_d method_4_code 78 .castore 1 := by decide +kernel
theorem d2_79 : own_d method_4_code 79 .dup 1 := by decide +kernel
theorem d2_80 : own_d method_4_code 80 (.iconst 2) 1 := by decide +kernel
theorem d2_81 : own_d method_4_code 81 (.iload_n 3) 1 := by decide +kernel
theorem d2_82 : own_d method_4_code 82 .castore 1 := by decide +kernel
theorem d2_83 : own_d method_4_code 83 (.invokespecial 10) 3 := by decide +kernel
theorem d2_86 : own_d method_4_code 86 .areturn 1 := by decide +kernel
theorem d2_87 : own_d method_4_code 87 (.new 8) 3 := by decide +kernel
theorem d2_90 : own_d method_4_code 90 .dup 1 := by decide +kernel
theorem d2_91 : own_d method_4_code 91 (.iconst 4) 1 := by decide +kernel
theorem d2_92 : own_d method_4_code 92 (.newarray .char) 2 := by decide +kernel
theorem d2_94 : own_d method_4_code 94 .dup 1 := by decide +kernel
theorem d2_95 : own_d method_4_code 95 (.iconst 0) 1 := by decide +kernel
theorem d2_96 : own_d method_4_code 96 (.iload_n 1) 1 := by decide +kernel
theorem d2_97 : own_d method_4_code 97 .castore 1 := by decide +kernel
theorem d2_98 : own_d method_4_code 98 .dup 1 := by decide +kernel
theorem d2_99 : own_d method_4_code 99 (.iconst 1) 1 := by decide +kernel
theorem d2_100 : own_d method_4_code 100 (.iload_n 2) 1 := by decide +kernel
theorem d2_101 : own_d method_4_code 101 .castore 1 := by decide +kernel
theorem d2_102 : own_d method_4_code 102 .dup 1 := by decide +kernel
theorem d2_103 : own_d method_4_code 103 (.iconst 2) 1 := by decide +kernel
theorem d2_104 : own_d method_4_code 104 (.iload_n 3) 1 := by decide +kernel
theorem d2_105 : own_d method_4_code 105 .castore 1 := by decide +kernel
theorem d2_106 : own_d method_4_code 106 .dup 1 := by decide +kernel
theorem d2_107 : own_d method_4_code 107 (.iconst 3) 1 := by decide +kernel
theorem d2_108 : own_d method_4_code 108 (.iload 4) 2 := by decide +kernel
theorem d2_110 : own_d method_4_code 110 .castore 1 := by decide +kernel
theorem d2_111 : own_d method_4_code 111 (.invokespecial 10) 3 := by decide +kernel
theorem d2_114 : own_d method_4_code 114 .areturn 1 := by decide +kernel
theorem d3_0 : own_d jdk_42_method_3_code 0 (.aload_n 0) 1 := by decide +kernel
theorem d3_1 : own_d jdk_42_method_3_code 1 (.aload_n 1) 1 := by decide +kernel
theorem d3_2 : own_d jdk_42_method_3_code 2 (.iconst 0) 1 := by decide +kernel
theorem d3_3 : own_d jdk_42_method_3_code 3 (.aload_n 1) 1 := by decide +kernel
theorem d3_4 : own_d jdk_42_method_3_code 4 .arraylength 1 := by decide +kernel
theorem d3_5 : own_d jdk_42_method_3_code 5 .aconst_null 1 := by decide +kernel
theorem d3_6 : own_d jdk_42_method_3_code 6 (.invokespecial 27) 3 := by decide +kernel
theorem d3_9 : own_d jdk_42_method_3_code 9 .return_ 1 := by decide +kernel
theorem d4_0 : own_d jdk_42_method_149_code 0 (.aload_n 0) 1 := by decide +kernel
theorem d4_1 : own_d jdk_42_method_149_code 1 (.invokespecial 1) 3 := by decide +kernel
theorem d4_4 : own_d jdk_42_method_149_code 4 (.iload_n 3) 1 := by decide +kernel
theorem d4_5 : own_d jdk_42_method_149_code 5 (.ifCond .ne 22) 3 := by decide +kernel
theorem d4_8 : own_d jdk_42_method_149_code 8 (.aload_n 0) 1 := by decide +kernel
theorem d4_9 : own_d jdk_42_method_149_code 9 (.ldc 7) 2 := by decide +kernel
theorem d4_11 : own_d jdk_42_method_149_code 11 (.getfield 9) 3 := by decide +kernel
theorem d4_14 : own_d jdk_42_method_149_code 14 (.putfield 9) 3 := by decide +kernel
theorem d4_17 : own_d jdk_42_method_149_code 17 (.aload_n 0) 1 := by decide +kernel
theorem d4_18 : own_d jdk_42_method_149_code 18 (.ldc 7) 2 := by decide +kernel
theorem d4_20 : own_d jdk_42_method_149_code 20 (.getfield 15) 3 := by decide +kernel
theorem d4_23 : own_d jdk_42_method_149_code 23 (.putfield 15) 3 := by decide +kernel
theorem d4_26 : own_d jdk_42_method_149_code 26 .return_ 1 := by decide +kernel
theorem d4_27 : own_d jdk_42_method_149_code 27 (.getstatic 38) 3 := by decide +kernel
theorem d4_30 : own_d jdk_42_method_149_code 30 (.ifCond .eq 28) 3 := by decide +kernel
theorem d4_33 : own_d jdk_42_method_149_code 33 (.aload_n 1) 1 := by decide +kernel
theorem d4_34 : own_d jdk_42_method_149_code 34 (.iload_n 2) 1 := by decide +kernel
theorem d4_35 : own_d jdk_42_method_149_code 35 (.iload_n 3) 1 := by decide +kernel
theorem d4_36 : own_d jdk_42_method_149_code 36 (.invokestatic 177) 3 := by decide +kernel
theorem d4_39 : own_d jdk_42_method_149_code 39 (.astore 5) 2 := by decide +kernel
theorem d4_41 : own_d jdk_42_method_149_code 41 (.aload_n 0) 1 := by decide +kernel
theorem d4_42 : own_d jdk_42_method_149_code 42 (.aload 5) 2 := by decide +kernel
theorem d4_44 : own_d jdk_42_method_149_code 44 (.iload_n 3) 1 := by decide +kernel
theorem d4_45 : own_d jdk_42_method_149_code 45 (.invokestatic 47) 3 := by decide +kernel
theorem d4_48 : own_d jdk_42_method_149_code 48 (.putfield 15) 3 := by decide +kernel
theorem d4_51 : own_d jdk_42_method_149_code 51 (.aload_n 0) 1 := by decide +kernel
theorem d4_52 : own_d jdk_42_method_149_code 52 (.aload 5) 2 := by decide +kernel
theorem d4_54 : own_d jdk_42_method_149_code 54 (.putfield 9) 3 := by decide +kernel
theorem d4_57 : own_d jdk_42_method_149_code 57 .return_ 1 := by decide +kernel
theorem d6_0 : own_d prog_20_method_2_code 0 (.aload_n 0) 1 := by decide +kernel
theorem d6_1 : own_d prog_20_method_2_code 1 (.invokevirtual 7) 3 := by decide +kernel
theorem d6_4 : own_d prog_20_method_2_code 4 (.ifCond .eq 5) 3 := by decide +kernel
theorem d6_7 : own_d prog_20_method_2_code 7 (.iconst 0) 1 := by decide +kernel
theorem d6_8 : own_d prog_20_method_2_code 8 .ireturn 1 := by decide +kernel
theorem d6_9 : own_d prog_20_method_2_code 9 (.iconst 0) 1 := by decide +kernel
theorem d6_10 : own_d prog_20_method_2_code 10 (.istore_n 1) 1 := by decide +kernel
theorem d6_11 : own_d prog_20_method_2_code 11 (.iload_n 1) 1 := by decide +kernel
theorem d6_12 : own_d prog_20_method_2_code 12 (.aload_n 0) 1 := by decide +kernel
theorem d6_13 : own_d prog_20_method_2_code 13 (.invokevirtual 13) 3 := by decide +kernel
theorem d6_16 : own_d prog_20_method_2_code 16 (.if_icmp .ge 29) 3 := by decide +kernel
theorem d6_19 : own_d prog_20_method_2_code 19 (.aload_n 0) 1 := by decide +kernel
theorem d6_20 : own_d prog_20_method_2_code 20 (.iload_n 1) 1 := by decide +kernel
theorem d6_21 : own_d prog_20_method_2_code 21 (.invokevirtual 17) 3 := by decide +kernel
theorem d6_24 : own_d prog_20_method_2_code 24 (.istore_n 2) 1 := by decide +kernel
theorem d6_25 : own_d prog_20_method_2_code 25 (.iload_n 2) 1 := by decide +kernel
theorem d6_26 : own_d prog_20_method_2_code 26 (.bipush 48) 2 := by decide +kernel
theorem d6_28 : own_d prog_20_method_2_code 28 (.if_icmp .lt 9) 3 := by decide +kernel
theorem d6_31 : own_d prog_20_method_2_code 31 (.iload_n 2) 1 := by decide +kernel
theorem d6_32 : own_d prog_20_method_2_code 32 (.bipush 57) 2 := by decide +kernel
theorem d6_34 : own_d prog_20_method_2_code 34 (.if_icmp .le 5) 3 := by decide +kernel
theorem d6_37 : own_d prog_20_method_2_code 37 (.iconst 0) 1 := by decide +kernel
theorem d6_38 : own_d prog_20_method_2_code 38 .ireturn 1 := by decide +kernel
theorem d6_39 : own_d prog_20_method_2_code 39 (.iinc 1 1) 3 := by decide +kernel
theorem d6_42 : own_d prog_20_method_2_code 42 (.goto (-31)) 3 := by decide +kernel
theorem d6_45 : own_d prog_20_method_2_code 45 (.iconst 1) 1 := by decide +kernel
theorem d6_46 : own_d prog_20_method_2_code 46 .ireturn 1 := by decide +kernel
theorem d7_0 : own_d jdk_42_method_55_code 0 (.aload_n 0) 1 := by decide +kernel
theorem d7_1 : own_d jdk_42_method_55_code 1 (.getfield 9) 3 := by decide +kernel
theorem d7_4 : own_d jdk_42_method_55_code 4 .arraylength 1 := by decide +kernel
theorem d7_5 : own_d jdk_42_method_55_code 5 (.ifCond .ne 7) 3 := by decide +kernel
theorem d7_8 : own_d jdk_42_method_55_code 8 (.iconst 1) 1 := by decide +kernel
theorem d7_9 : own_d jdk_42_method_55_code 9 (.goto 4) 3 := by decide +kernel
theorem d7_12 : own_d jdk_42_method_55_code 12 (.iconst 0) 1 := by decide +kernel
theorem d7_13 : own_d jdk_42_method_55_code 13 .ireturn 1 := by decide +kernel
theorem d8_0 : own_d jdk_52_method_16_code 0 (.iload_n 2) 1 := by decide +kernel
theorem d8_1 : own_d jdk_52_method_16_code 1 (.newarray .byte) 2 := by decide +kernel
theorem d8_3 : own_d jdk_52_method_16_code 3 (.astore_n 3) 1 := by decide +kernel
theorem d8_4 : own_d jdk_52_method_16_code 4 (.aload_n 0) 1 := by decide +kernel
theorem d8_5 : own_d jdk_52_method_16_code 5 (.iload_n 1) 1 := by decide +kernel
theorem d8_6 : own_d jdk_52_method_16_code 6 (.aload_n 3) 1 := by decide +kernel
theorem d8_7 : own_d jdk_52_method_16_code 7 (.iconst 0) 1 := by decide +kernel
theorem d8_8 : own_d jdk_52_method_16_code 8 (.iload_n 2) 1 := by decide +kernel
theorem d8_9 : own_d jdk_52_method_16_code 9 (.invokestatic 115) 3 := by decide +kernel
theorem d8_12 : own_d jdk_52_method_16_code 12 (.istore 4) 2 := by decide +kernel
theorem d8_14 : own_d jdk_52_method_16_code 14 (.iload 4) 2 := by decide +kernel
theorem d8_16 : own_d jdk_52_method_16_code 16 (.iload_n 2) 1 := by decide +kernel
theorem d8_17 : own_d jdk_52_method_16_code 17 (.if_icmp .eq 40) 3 := by decide +kernel
theorem d8_20 : own_d jdk_52_method_16_code 20 (.aload_n 0) 1 := by decide +kernel
theorem d8_21 : own_d jdk_52_method_16_code 21 (.iload_n 1) 1 := by decide +kernel
theorem d8_22 : own_d jdk_52_method_16_code 22 (.iload_n 2) 1 := by decide +kernel
theorem d8_23 : own_d jdk_52_method_16_code 23 (.invokestatic 119) 3 := by decide +kernel
theorem d8_26 : own_d jdk_52_method_16_code 26 (.astore 5) 2 := by decide +kernel
theorem d8_28 : own_d jdk_52_method_16_code 28 (.aload 5) 2 := by decide +kernel
theorem d8_30 : own_d jdk_52_method_16_code 30 (.iload 4) 2 := by decide +kernel
theorem d8_32 : own_d jdk_52_method_16_code 32 (.invokestatic 71) 3 := by decide +kernel
theorem d8_35 : own_d jdk_52_method_16_code 35 (.sipush 255) 3 := by decide +kernel
theorem d8_38 : own_d jdk_52_method_16_code 38 (.if_icmp .gt 16) 3 := by decide +kernel
theorem d8_54 : own_d jdk_52_method_16_code 54 (.aload 5) 2 := by decide +kernel
theorem d8_56 : own_d jdk_52_method_16_code 56 .areturn 1 := by decide +kernel
theorem d8_57 : own_d jdk_52_method_16_code 57 (.aload_n 3) 1 := by decide +kernel
theorem d8_58 : own_d jdk_52_method_16_code 58 .areturn 1 := by decide +kernel
theorem d9_0 : own_d jdk_52_method_21_code 0 (.iconst 0) 1 := by decide +kernel
theorem d9_1 : own_d jdk_52_method_21_code 1 (.istore 5) 2 := by decide +kernel
theorem d9_3 : own_d jdk_52_method_21_code 3 (.iload 5) 2 := by decide +kernel
theorem d9_5 : own_d jdk_52_method_21_code 5 (.iload 4) 2 := by decide +kernel
theorem d9_7 : own_d jdk_52_method_21_code 7 (.if_icmp .ge 37) 3 := by decide +kernel
theorem d9_10 : own_d jdk_52_method_21_code 10 (.aload_n 0) 1 := by decide +kernel
theorem d9_11 : own_d jdk_52_method_21_code 11 (.iload_n 1) 1 := by decide +kernel
theorem d9_12 : own_d jdk_52_method_21_code 12 .caload 1 := by decide +kernel
theorem d9_13 : own_d jdk_52_method_21_code 13 (.istore 6) 2 := by decide +kernel
theorem d9_15 : own_d jdk_52_method_21_code 15 (.iload 6) 2 := by decide +kernel
theorem d9_17 : own_d jdk_52_method_21_code 17 (.sipush 255) 3 := by decide +kernel
theorem d9_20 : own_d jdk_52_method_21_code 20 (.if_icmp .le 6) 3 := by decide +kernel
theorem d9_23 : own_d jdk_52_method_21_code 23 (.iload 5) 2 := by decide +kernel
theorem d9_25 : own_d jdk_52_method_21_code 25 .ireturn 1 := by decide +kernel
theorem d9_26 : own_d jdk_52_method_21_code 26 (.aload_n 2) 1 := by decide +kernel
theorem d9_27 : own_d jdk_52_method_21_code 27 (.iload_n 3) 1 := by decide +kernel
theorem d9_28 : own_d jdk_52_method_21_code 28 (.iload 6) 2 := by decide +kernel
theorem d9_30 : own_d jdk_52_method_21_code 30 .i2b 1 := by decide +kernel
theorem d9_31 : own_d jdk_52_method_21_code 31 .bastore 1 := by decide +kernel
theorem d9_32 : own_d jdk_52_method_21_code 32 (.iinc 1 1) 3 := by decide +kernel
theorem d9_35 : own_d jdk_52_method_21_code 35 (.iinc 3 1) 3 := by decide +kernel
theorem d9_38 : own_d jdk_52_method_21_code 38 (.iinc 5 1) 3 := by decide +kernel
theorem d9_41 : own_d jdk_52_method_21_code 41 (.goto (-38)) 3 := by decide +kernel
theorem d9_44 : own_d jdk_52_method_21_code 44 (.iload 4) 2 := by decide +kernel
theorem d9_46 : own_d jdk_52_method_21_code 46 .ireturn 1 := by decide +kernel
theorem d10_0 : own_d jdk_52_method_15_code 0 (.iload_n 1) 1 := by decide +kernel
theorem d10_1 : own_d jdk_52_method_15_code 1 (.aload_n 0) 1 := by decide +kernel
theorem d10_2 : own_d jdk_52_method_15_code 2 .arraylength 1 := by decide +kernel
theorem d10_3 : own_d jdk_52_method_15_code 3 .isub 1 := by decide +kernel
theorem d10_4 : own_d jdk_52_method_15_code 4 (.bipush 31) 2 := by decide +kernel
theorem d10_6 : own_d jdk_52_method_15_code 6 .iushr 1 := by decide +kernel
theorem d10_7 : own_d jdk_52_method_15_code 7 .i2b 1 := by decide +kernel
theorem d10_8 : own_d jdk_52_method_15_code 8 .ireturn 1 := by decide +kernel
theorem d11_0 : own_d method_3_code 0 (.iload_n 0) 1 := by decide +kernel
theorem d11_1 : own_d method_3_code 1 (.bipush 48) 2 := by decide +kernel
theorem d11_3 : own_d method_3_code 3 .isub 1 := by decide +kernel
theorem d11_4 : own_d method_3_code 4 (.istore_n 1) 1 := by decide +kernel
theorem d11_5 : own_d method_3_code 5 (.iload_n 1) 1 := by decide +kernel
theorem d11_6 : own_d method_3_code 6 (.ifCond .lt 13) 3 := by decide +kernel
theorem d11_9 : own_d method_3_code 9 (.iload_n 1) 1 := by decide +kernel
theorem d11_10 : own_d method_3_code 10 (.bipush 10) 2 := by decide +kernel
theorem d11_12 : own_d method_3_code 12 (.if_icmp .ge 7) 3 := by decide +kernel
theorem d11_15 : own_d method_3_code 15 (.iconst 1) 1 := by decide +kernel
theorem d11_16 : own_d method_3_code 16 (.goto 4) 3 := by decide +kernel
theorem d11_19 : own_d method_3_code 19 (.iconst 0) 1 := by decide +kernel
theorem d11_20 : own_d method_3_code 20 .ireturn 1 := by decide +kernel
theorem d12_0 : own_d jdk_42_method_54_code 0 (.aload_n 0) 1 := by decide +kernel
theorem d12_1 : own_d jdk_42_method_54_code 1 (.getfield 9) 3 := by decide +kernel
theorem d12_4 : own_d jdk_42_method_54_code 4 .arraylength 1 := by decide +kernel
theorem d12_5 : own_d jdk_42_method_54_code 5 (.aload_n 0) 1 := by decide +kernel
theorem d12_6 : own_d jdk_42_method_54_code 6 (.invokevirtual 335) 3 := by decide +kernel
theorem d12_9 : own_d jdk_42_method_54_code 9 .ishr 1 := by decide +kernel
theorem d12_10 : own_d jdk_42_method_54_code 10 .ireturn 1 := by decide +kernel
theorem d13_0 : own_d jdk_42_method_152_code 0 (.getstatic 38) 3 := by decide +kernel
theorem d13_3 : own_d jdk_42_method_152_code 3 (.ifCond .eq 10) 3 := by decide +kernel
theorem d13_6 : own_d jdk_42_method_152_code 6 (.aload_n 0) 1 := by decide +kernel
theorem d13_7 : own_d jdk_42_method_152_code 7 (.getfield 15) 3 := by decide +kernel
theorem d13_10 : own_d jdk_42_method_152_code 10 (.goto 4) 3 := by decide +kernel
theorem d13_14 : own_d jdk_42_method_152_code 14 .ireturn 1 := by decide +kernel
theorem d14_0 : own_d jdk_42_method_56_code 0 (.aload_n 0) 1 := by decide +kernel
theorem d14_1 : own_d jdk_42_method_56_code 1 (.invokevirtual 492) 3 := by decide +kernel
theorem d14_4 : own_d jdk_42_method_56_code 4 (.ifCond .eq 12) 3 := by decide +kernel
theorem d14_7 : own_d jdk_42_method_56_code 7 (.aload_n 0) 1 := by decide +kernel
theorem d14_8 : own_d jdk_42_method_56_code 8 (.getfield 9) 3 := by decide +kernel
theorem d14_11 : own_d jdk_42_method_56_code 11 (.iload_n 1) 1 := by decide +kernel
theorem d14_12 : own_d jdk_42_method_56_code 12 (.invokestatic 495) 3 := by decide +kernel
theorem d14_15 : own_d jdk_42_method_56_code 15 .ireturn 1 := by decide +kernel
theorem d14_16 : own_d jdk_42_method_56_code 16 (.aload_n 0) 1 := by decide +kernel
theorem d14_17 : own_d jdk_42_method_56_code 17 (.getfield 9) 3 := by decide +kernel
theorem d14_20 : own_d jdk_42_method_56_code 20 (.iload_n 1) 1 := by decide +kernel
theorem d14_21 : own_d jdk_42_method_56_code 21 (.invokestatic 498) 3 := by decide +kernel
theorem d14_24 : own_d jdk_42_method_56_code 24 .ireturn 1 := by decide +kernel
theorem d15_0 : own_d jdk_42_method_154_code 0 (.getstatic 38) 3 := by decide +kernel
theorem d15_3 : own_d jdk_42_method_154_code 3 (.ifCond .eq 14) 3 := by decide +kernel
theorem d15_6 : own_d jdk_42_method_154_code 6 (.aload_n 0) 1 := by decide +kernel
theorem d15_7 : own_d jdk_42_method_154_code 7 (.getfield 15) 3 := by decide +kernel
theorem d15_10 : own_d jdk_42_method_154_code 10 (.ifCond .ne 7) 3 := by decide +kernel
theorem d15_13 : own_d jdk_42_method_154_code 13 (.iconst 1) 1 := by decide +kernel
theorem d15_14 : own_d jdk_42_method_154_code 14 (.goto 4) 3 := by decide +kernel
theorem d15_17 : own_d jdk_42_method_154_code 17 (.iconst 0) 1 := by decide +kernel
theorem d15_18 : own_d jdk_42_method_154_code 18 .ireturn 1 := by decide +kernel
theorem d16_0 : own_d jdk_43_method_2_code 0 (.iload_n 1) 1 := by decide +kernel
theorem d16_1 : own_d jdk_43_method_2_code 1 (.aload_n 0) 1 := by decide +kernel
theorem d16_2 : own_d jdk_43_method_2_code 2 .arraylength 1 := by decide +kernel
theorem d16_3 : own_d jdk_43_method_2_code 3 (.invokestatic 9) 3 := by decide +kernel
theorem d16_6 : own_d jdk_43_method_2_code 6 (.aload_n 0) 1 := by decide +kernel
theorem d16_7 : own_d jdk_43_method_2_code 7 (.iload_n 1) 1 := by decide +kernel
theorem d16_8 : own_d jdk_43_method_2_code 8 .baload 1 := by decide +kernel
theorem d16_9 : own_d jdk_43_method_2_code 9 (.sipush 255) 3 := by decide +kernel
theorem d16_12 : own_d jdk_43_method_2_code 12 .iand 1 := by decide +kernel
theorem d16_13 : own_d jdk_43_method_2_code 13 .i2c 1 := by decide +kernel
theorem d16_14 : own_d jdk_43_method_2_code 14 .ireturn 1 := by decide +kernel
theorem d17_0 : own_d jdk_42_method_155_code 0 (.iload_n 0) 1 := by decide +kernel
theorem d17_1 : own_d jdk_42_method_155_code 1 (.iload_n 1) 1 := by decide +kernel
theorem d17_2 : own_d jdk_42_method_155_code 2 (.getstatic 1053) 3 := by decide +kernel
theorem d17_5 : own_d jdk_42_method_155_code 5 (.invokestatic 1059) 3 := by decide +kernel
theorem d17_8 : own_d jdk_42_method_155_code 8 .pop 1 := by decide +kernel
theorem d17_9 : own_d jdk_42_method_155_code 9 .return_ 1 := by decide +kernel
theorem d18_0 : own_d jdk_41_method_11_code 0 (.iload_n 0) 1 := by decide +kernel
theorem d18_1 : own_d jdk_41_method_11_code 1 (.ifCond .lt 8) 3 := by decide +kernel
theorem d18_4 : own_d jdk_41_method_11_code 4 (.iload_n 0) 1 := by decide +kernel
theorem d18_5 : own_d jdk_41_method_11_code 5 (.iload_n 1) 1 := by decide +kernel
theorem d18_6 : own_d jdk_41_method_11_code 6 (.if_icmp .lt 10) 3 := by decide +kernel
theorem d18_16 : own_d jdk_41_method_11_code 16 (.iload_n 0) 1 := by decide +kernel
theorem d18_17 : own_d jdk_41_method_11_code 17 .ireturn 1 := by decide +kernel
theorem d19_0 : own_d jdk_52_method_14_code 0 (.iload_n 2) 1 := by decide +kernel
theorem d19_1 : own_d jdk_52_method_14_code 1 (.invokestatic 107) 3 := by decide +kernel
theorem d19_4 : own_d jdk_52_method_14_code 4 (.astore_n 3) 1 := by decide +kernel
theorem d19_5 : own_d jdk_52_method_14_code 5 (.iconst 0) 1 := by decide +kernel
theorem d19_6 : own_d jdk_52_method_14_code 6 (.istore 4) 2 := by decide +kernel
theorem d19_8 : own_d jdk_52_method_14_code 8 (.iload 4) 2 := by decide +kernel
theorem d19_10 : own_d jdk_52_method_14_code 10 (.iload_n 2) 1 := by decide +kernel
theorem d19_11 : own_d jdk_52_method_14_code 11 (.if_icmp .ge 21) 3 := by decide +kernel
theorem d19_14 : own_d jdk_52_method_14_code 14 (.aload_n 3) 1 := by decide +kernel
theorem d19_15 : own_d jdk_52_method_14_code 15 (.iload 4) 2 := by decide +kernel
theorem d19_17 : own_d jdk_52_method_14_code 17 (.aload_n 0) 1 := by decide +kernel
theorem d19_18 : own_d jdk_52_method_14_code 18 (.iload_n 1) 1 := by decide +kernel
theorem d19_19 : own_d jdk_52_method_14_code 19 .caload 1 := by decide +kernel
theorem d19_20 : own_d jdk_52_method_14_code 20 (.invokestatic 111) 3 := by decide +kernel
theorem d19_23 : own_d jdk_52_method_14_code 23 (.iinc 1 1) 3 := by decide +kernel
theorem d19_26 : own_d jdk_52_method_14_code 26 (.iinc 4 1) 3 := by decide +kernel
theorem d19_29 : own_d jdk_52_method_14_code 29 (.goto (-21)) 3 := by decide +kernel
theorem d19_32 : own_d jdk_52_method_14_code 32 (.aload_n 3) 1 := by decide +kernel
theorem d19_33 : own_d jdk_52_method_14_code 33 .areturn 1 := by decide +kernel
theorem d20_0 : own_d jdk_52_method_2_code 0 (.iload_n 0) 1 := by decide +kernel
theorem d20_1 : own_d jdk_52_method_2_code 1 (.invokestatic 11) 3 := by decide +kernel
theorem d20_4 : own_d jdk_52_method_2_code 4 (.newarray .byte) 2 := by decide +kernel
theorem d20_6 : own_d jdk_52_method_2_code 6 .areturn 1 := by decide +kernel
theorem d21_0 : own_d jdk_52_method_3_code 0 (.iload_n 0) 1 := by decide +kernel
theorem d21_1 : own_d jdk_52_method_3_code 1 (.ifCond .ge 11) 3 := by decide +kernel
theorem d21_12 : own_d jdk_52_method_3_code 12 (.iload_n 0) 1 := by decide +kernel
theorem d21_13 : own_d jdk_52_method_3_code 13 (.ldc 20) 2 := by decide +kernel
theorem d21_15 : own_d jdk_52_method_3_code 15 (.if_icmp .lt 40) 3 := by decide +kernel
theorem d21_55 : own_d jdk_52_method_3_code 55 (.iload_n 0) 1 := by decide +kernel
theorem d21_56 : own_d jdk_52_method_3_code 56 (.iconst 1) 1 := by decide +kernel
theorem d21_57 : own_d jdk_52_method_3_code 57 .ishl 1 := by decide +kernel
theorem d21_58 : own_d jdk_52_method_3_code 58 .ireturn 1 := by decide +kernel
theorem d22_0 : own_d jdk_52_method_4_code 0 (.getstatic 44) 3 := by decide +kernel
theorem d22_3 : own_d jdk_52_method_4_code 3 (.ifCond .ne 25) 3 := by decide +kernel
theorem d22_28 : own_d jdk_52_method_4_code 28 (.iload_n 1) 1 := by decide +kernel
theorem d22_29 : own_d jdk_52_method_4_code 29 (.iconst 1) 1 := by decide +kernel
theorem d22_30 : own_d jdk_52_method_4_code 30 .ishl 1 := by decide +kernel
theorem d22_31 : own_d jdk_52_method_4_code 31 (.istore_n 1) 1 := by decide +kernel
theorem d22_32 : own_d jdk_52_method_4_code 32 (.aload_n 0) 1 := by decide +kernel
theorem d22_33 : own_d jdk_52_method_4_code 33 (.iload_n 1) 1 := by decide +kernel
theorem d22_34 : own_d jdk_52_method_4_code 34 (.iinc 1 1) 3 := by decide +kernel
theorem d22_37 : own_d jdk_52_method_4_code 37 (.iload_n 2) 1 := by decide +kernel
theorem d22_38 : own_d jdk_52_method_4_code 38 (.getstatic 59) 3 := by decide +kernel
theorem d22_41 : own_d jdk_52_method_4_code 41 .ishr 1 := by decide +kernel
theorem d22_42 : own_d jdk_52_method_4_code 42 .i2b 1 := by decide +kernel
theorem d22_43 : own_d jdk_52_method_4_code 43 .bastore 1 := by decide +kernel
theorem d22_44 : own_d jdk_52_method_4_code 44 (.aload_n 0) 1 := by decide +kernel
theorem d22_45 : own_d jdk_52_method_4_code 45 (.iload_n 1) 1 := by decide +kernel
theorem d22_46 : own_d jdk_52_method_4_code 46 (.iload_n 2) 1 := by decide +kernel
theorem d22_47 : own_d jdk_52_method_4_code 47 (.getstatic 63) 3 := by decide +kernel
theorem d22_50 : own_d jdk_52_method_4_code 50 .ishr 1 := by decide +kernel
theorem d22_51 : own_d jdk_52_method_4_code 51 .i2b 1 := by decide +kernel
theorem d22_52 : own_d jdk_52_method_4_code 52 .bastore 1 := by decide +kernel
theorem d22_53 : own_d jdk_52_method_4_code 53 .return_ 1 := by decide +kernel
theorem d23_0 : own_d jdk_52_method_5_code 0 (.getstatic 44) 3 := by decide +kernel
theorem d23_3 : own_d jdk_52_method_5_code 3 (.ifCond .ne 25) 3 := by decide +kernel
theorem d23_28 : own_d jdk_52_method_5_code 28 (.iload_n 1) 1 := by decide +kernel
theorem d23_29 : own_d jdk_52_method_5_code 29 (.iconst 1) 1 := by decide +kernel
theorem d23_30 : own_d jdk_52_method_5_code 30 .ishl 1 := by decide +kernel
theorem d23_31 : own_d jdk_52_method_5_code 31 (.istore_n 1) 1 := by decide +kernel
theorem d23_32 : own_d jdk_52_method_5_code 32 (.aload_n 0) 1 := by decide +kernel
theorem d23_33 : own_d jdk_52_method_5_code 33 (.iload_n 1) 1 := by decide +kernel
theorem d23_34 : own_d jdk_52_method_5_code 34 (.iinc 1 1) 3 := by decide +kernel
theorem d23_37 : own_d jdk_52_method_5_code 37 .baload 1 := by decide +kernel
theorem d23_38 : own_d jdk_52_method_5_code 38 (.sipush 255) 3 := by decide +kernel
theorem d23_41 : own_d jdk_52_method_5_code 41 .iand 1 := by decide +kernel
theorem d23_42 : own_d jdk_52_method_5_code 42 (.getstatic 59) 3 := by decide +kernel
theorem d23_45 : own_d jdk_52_method_5_code 45 .ishl 1 := by decide +kernel
theorem d23_46 : own_d jdk_52_method_5_code 46 (.aload_n 0) 1 := by decide +kernel
theorem d23_47 : own_d jdk_52_method_5_code 47 (.iload_n 1) 1 := by decide +kernel
theorem d23_48 : own_d jdk_52_method_5_code 48 .baload 1 := by decide +kernel
theorem d23_49 : own_d jdk_52_method_5_code 49 (.sipush 255) 3 := by decide +kernel
theorem d23_52 : own_d jdk_52_method_5_code 52 .iand 1 := by decide +kernel
theorem d23_53 : own_d jdk_52_method_5_code 53 (.getstatic 63) 3 := by decide +kernel
theorem d23_56 : own_d jdk_52_method_5_code 56 .ishl 1 := by decide +kernel
theorem d23_57 : own_d jdk_52_method_5_code 57 .ior 1 := by decide +kernel
theorem d23_58 : own_d jdk_52_method_5_code 58 .i2c 1 := by decide +kernel
theorem d23_59 : own_d jdk_52_method_5_code 59 .ireturn 1 := by decide +kernel
theorem d24_0 : own_d jdk_52_method_83_code 0 (.iload_n 1) 1 := by decide +kernel
theorem d24_1 : own_d jdk_52_method_83_code 1 (.aload_n 0) 1 := by decide +kernel
theorem d24_2 : own_d jdk_52_method_83_code 2 (.invokestatic 67) 3 := by decide +kernel
theorem d24_5 : own_d jdk_52_method_83_code 5 (.aload_n 0) 1 := by decide +kernel
theorem d24_6 : own_d jdk_52_method_83_code 6 (.iload_n 1) 1 := by decide +kernel
theorem d24_7 : own_d jdk_52_method_83_code 7 (.invokestatic 71) 3 := by decide +kernel
theorem d24_10 : own_d jdk_52_method_83_code 10 .ireturn 1 := by decide +kernel
theorem d25_0 : own_d jdk_52_method_91_code 0 (.iload_n 0) 1 := by decide +kernel
theorem d25_1 : own_d jdk_52_method_91_code 1 (.aload_n 1) 1 := by decide +kernel
theorem d25_2 : own_d jdk_52_method_91_code 2 (.invokestatic 48) 3 := by decide +kernel
theorem d25_5 : own_d jdk_52_method_91_code 5 (.invokestatic 414) 3 := by decide +kernel
theorem d25_8 : own_d jdk_52_method_91_code 8 .return_ 1 := by decide +kernel
theorem d26_0 : own_d jdk_52_method_6_code 0 (.aload_n 0) 1 := by decide +kernel
theorem d26_1 : own_d jdk_52_method_6_code 1 .arraylength 1 := by decide +kernel
theorem d26_2 : own_d jdk_52_method_6_code 2 (.iconst 1) 1 := by decide +kernel
theorem d26_3 : own_d jdk_52_method_6_code 3 .ishr 1 := by decide +kernel
theorem d26_4 : own_d jdk_52_method_6_code 4 .ireturn 1 := by decide +kernel
theorem own_atoms {Z : State} {a0 : Array Value} (hw : ∀ d ∈ tables_1, d.before a0 Z = true) : ∀ a ∈ Bundle.stringAtoms, a.before a0 Z = true := by
  intro d hd
  simp only [Bundle.stringAtoms, List.mem_cons, List.not_mem_nil, or_false] at hd
  rcases hd with rfl | rfl | rfl | rfl | rfl | rfl | rfl
  · exact (own_i hw 10 rfl)
  · exact (own_i hw 9 rfl)
  · exact (own_i hw 23 rfl)
  · exact (own_i hw 24 rfl)
  · exact (own_i hw 25 rfl)
  · exact (own_i hw 26 rfl)
  · exact (own_i hw 27 rfl)
theorem pn_java_lang_StringUTF16 : plainName "java/lang/StringUTF16" = true := by first | (simp [plainName, overriddenIn]; done) | decide +kernel
def QC_1 (Z : State) (a1 a3 : Addr) (k1 k3 : ClassId) (x0 : Int32) (h0 : Heap) (n0 : Nat) (v : Option Value) (h : Heap) (L : List Loc) : Prop := v = some (.int 1) ∧ Fr n0 L ∧ Keep h0 h [a3] ∧ (Arv Z h a3 k3 .byte (1 : Int32) [(.int (nar .byte (x0.toInt8.toInt32)))] (.int 0))
theorem rmC_1 (l : Launch) (Z : State) (a0 : Array Value) (hw : own_H Z a0) (ws : List Jvm.Cond) (a1 a3 : Addr) (k1 k3 : ClassId) (x0 : Int32) (h0 : Heap) (n0 : Nat) (Z0 : n0 ≤ h0.size) (V1 : Arv Z h0 a1 k1 .char (1 : Int32) [(.int x0)] (.int 0)) (V3 : Arv Z h0 a3 k3 .byte (1 : Int32) [(.int 0)] (.int 0)) (g3 : n0 ≤ a3) (ne : a1 ≠ a3) (hx0 : ¬ ((255 : Int32) < x0)) :
    own_M l own_y0 jdk_52_method_21_code 7 (some .int) ws (own_R 0 0 0 0) Z h0 #[(.ref a1), (.int 0), (.ref a3), (.int 0), (.int 1)] (QC_1 Z a1 a3 k1 k3 x0 h0 n0) := by
  refine own_body (plainFor_of_name pn_java_lang_StringUTF16) fun p e s m below meth c s₁ Bd hx hby hml (hown : s.vm.findClass "java/lang/StringUTF16" = some m.cls) hnm X0 e0 hZ => ?_
  have N0 := Fr.nil n0
  have pre0 : own_P p e below s₁ (entryFrame m #[(.ref a1), (.int 0), (.ref a3), (.int 0), (.int 1)] 7) s₁ (mkF m 0 #[rv a1, iv 0, rv a3, iv 0, iv 1, .unset, .unset] []) := fun t k => castTop (by first | rfl | (simp [entryFrame, mkF, argsToLocals, Value.category]; done)) k
  have f101 := Keep.refl h0 [a3]
  obtain ⟨cl102, Ar102, q102, S102, N102z, H102, G102⟩ := (id V1)
  have hin102 : ¬ ((0 : Int32) < 0 ∨ cl102.slots.size ≤ ((0 : Int32)).toNatClampNeg) := inb_of S102 ⟨by decide, by decide⟩
  have hat102 : cl102.slots[((0 : Int32)).toNatClampNeg]? = some (.int x0) := Has.at H102 hin102 rfl
  obtain ⟨cl103, Ar103, q103, S103, N103z, H103, G103⟩ := (id V3)
  have hin103 : ¬ ((0 : Int32) < 0 ∨ cl103.slots.size ≤ ((0 : Int32)).toNatClampNeg) := inb_of S103 ⟨by decide, by decide⟩
  obtain ⟨T103, h103, X103, e103, W103, st103⟩ := stB X0 hx hZ e0 Ar103 (j := (0 : Int32)) hin103 (g := (mkF m 31 #[rv a1, iv 0, rv a3, iv 0, iv 1, iv 0, iv x0] [(.int (x0.toInt8.toInt32)), (.int 0), (.ref a3)])) rfl rfl (hb hby d9_31)
  have V103 : Arv Z h103 a3 k3 .byte (1 : Int32) [(.int (nar .byte (x0.toInt8.toInt32)))] (.int 0) := Arv.set Ar103 q103 S103 N103z H103 G103 (fits_nar_byte _) W103 0 rfl (Nat.le_of_ble_eq_true rfl)
  have N103 := Fr.snoc X103 N0 g3
  have f104 := Nat.le_trans Z0 (Keep.of_wr W103).1
  have f105 := V1.other W103 ne
  have f106 := f101.wr W103 (Or.inl (List.mem_of_getElem? (i := 0) rfl))
  have pre107 : own_P p e below s₁ (entryFrame m #[(.ref a1), (.int 0), (.ref a3), (.int 0), (.int 1)] 7) T103 (mkF m 46 #[rv a1, iv 1, rv a3, iv 1, iv 1, iv 1, iv x0] [(.int 1)]) := fun t k => pre0 t (by
    show Steps p.tables e below (s₁.setTop (mkF m 0 #[rv a1, iv 0, rv a3, iv 0, iv 1, .unset, .unset] [])) t
    refine XS.iconst X0.here hx rfl (hb hby d9_0) ?_
    refine XS.istore X0.here hx rfl (hb hby d9_1) rfl (l' := #[rv a1, iv 0, rv a3, iv 0, iv 1, iv 0, .unset]) rfl ?_
    refine XS.iload X0.here hx rfl (hb hby d9_3) rfl ?_
    refine XS.iload X0.here hx rfl (hb hby d9_5) rfl ?_
    refine XS.icmpNo X0.here hx rfl (hb hby d9_7) rfl (tlt (by decide : (0 : Int32) < (1 : Int32))).2.1 ?_
    refine XS.aloadN X0.here hx rfl (hb hby d9_10) rfl rfl ?_
    refine XS.iloadN X0.here hx rfl (hb hby d9_11) rfl ?_
    refine X0.caload hx (j := (0 : Int32)) (v := (.int x0)) (by rw [e0]; exact Ar102.1) (State.isArrayOf_alike hZ.alike Ar102.2.1) Ar102.2.2 hin102 hat102 (g := (mkF m 12 #[rv a1, iv 0, rv a3, iv 0, iv 1, iv 0, .unset] [(.int 0), (.ref a1)])) rfl rfl (hb hby d9_12) _ ?_
    refine XS.istore X0.here hx rfl (hb hby d9_13) rfl (l' := #[rv a1, iv 0, rv a3, iv 0, iv 1, iv 0, iv x0]) rfl ?_
    refine XS.iload X0.here hx rfl (hb hby d9_15) rfl ?_
    refine XS.sipush X0.here hx rfl (hb hby d9_17) ?_
    refine XS.icmpYes X0.here hx rfl (pc0 := 20) (pc' := 26) rfl (hb hby d9_20) rfl (flt hx0).2.2.2 (by decide) (by decide) ?_
    refine XS.aloadN X0.here hx rfl (hb hby d9_26) rfl rfl ?_
    refine XS.iloadN X0.here hx rfl (hb hby d9_27) rfl ?_
    refine XS.iload X0.here hx rfl (hb hby d9_28) rfl ?_
    refine XS.i2b X0.here hx rfl (hb hby d9_30) rfl ?_
    refine st103 _ ?_
    refine XS.iinc X103.here hx rfl (hb hby d9_32) rfl (l' := #[rv a1, iv 1, rv a3, iv 0, iv 1, iv 0, iv x0]) rfl ?_
    refine XS.iinc X103.here hx rfl (hb hby d9_35) rfl (l' := #[rv a1, iv 1, rv a3, iv 1, iv 1, iv 0, iv x0]) rfl ?_
    refine XS.iinc X103.here hx rfl (hb hby d9_38) rfl (l' := #[rv a1, iv 1, rv a3, iv 1, iv 1, iv 1, iv x0]) rfl ?_
    refine XS.goto X103.here hx rfl (pc0 := 41) (pc' := 3) rfl (hb hby d9_41) (by decide) (by decide) ?_
    refine XS.iload X103.here hx rfl (hb hby d9_3) rfl ?_
    refine XS.iload X103.here hx rfl (hb hby d9_5) rfl ?_
    refine XS.icmpYes X103.here hx rfl (pc0 := 7) (pc' := 44) rfl (hb hby d9_7) rfl (flt (by decide : ¬ ((1 : Int32) < (1 : Int32)))).2.1 (by decide) (by decide) ?_
    refine XS.iload X103.here hx rfl (hb hby d9_44) rfl ?_
    exact k)
  obtain ⟨fs, hr, hrun, hended, hW, hsame⟩ := X103.leave (v := some (.int 1)) (fun h => by rw [Bd.returns] at h; cases h)
  refine ⟨_, _, pre107 _ ?_, hrun, hended, _, _, rfl, ?_, ⟨_, rfl⟩, hW, hsame.mono (by decide) (by decide)⟩
  · exact retI X103 hx Bd.returns (hb hby d9_46) hr
  · show QC_1 Z a1 a3 k1 k3 x0 h0 n0 _ T103.heap _
    rw [e103]
    exact ⟨rfl, N103, f106, V103⟩
theorem pd_0 : parseMethodDescriptor "([CI[BII)I" = some ⟨[(.array .char), .int, (.array .byte), .int, .int], some .int⟩ := by decide +kernel
def QD_1 (Z : State) (a1 : Addr) (k1 : ClassId) (x0 : Int32) (h0 : Heap) (n0 : Nat) (v : Option Value) (h : Heap) (L : List Loc) : Prop := ∃ (b : Addr) (kb : ClassId), v = some (.ref b) ∧ Fr n0 L ∧ Keep h0 h [] ∧ (n0 ≤ b) ∧ (h0.size ≤ b) ∧ (Arv Z h b kb .byte (1 : Int32) [(.int (nar .byte (x0.toInt8.toInt32)))] (.int 0))
theorem rmD_1 (l : Launch) (Z : State) (a0 : Array Value) (hw : own_H Z a0) (ws : List Jvm.Cond) (a1 : Addr) (k1 : ClassId) (x0 : Int32) (h0 : Heap) (n0 : Nat) (Z0 : n0 ≤ h0.size) (V1 : Arv Z h0 a1 k1 .char (1 : Int32) [(.int x0)] (.int 0)) (hx0 : ¬ ((255 : Int32) < x0)) :
    own_M l own_y1 jdk_52_method_16_code 6 (some (.array .byte)) ws (own_R 1 1 1 18) Z h0 #[(.ref a1), (.int 0), (.int 1)] (QD_1 Z a1 k1 x0 h0 n0) := by
  refine own_body (plainFor_of_name pn_java_lang_StringUTF16) fun p e s m below meth c s₁ Bd hx hby hml (hown : s.vm.findClass "java/lang/StringUTF16" = some m.cls) hnm X0 e0 hZ => ?_
  have N0 := Fr.nil n0
  have pre0 : own_P p e below s₁ (entryFrame m #[(.ref a1), (.int 0), (.int 1)] 6) s₁ (mkF m 0 #[rv a1, iv 0, iv 1, .unset, .unset, .unset] []) := fun t k => castTop (by first | rfl | (simp [entryFrame, mkF, argsToLocals, Value.category]; done)) k
  have f101 := Keep.refl h0 []
  obtain ⟨T102, h102, k102, X102, e102, E102, A102, st102⟩ := newP X0 hx hZ (own_i hw 23 rfl) e0 (g := (mkF m 1 #[rv a1, iv 0, iv 1, .unset, .unset, .unset] [(.int 1)])) rfl (hb hby d8_1) rfl (by decide) (cap := 1) (by decide) (by decide) (by decide) (by decide)
  obtain ⟨b102, g102⟩ : ∃ z, z = h0.size := ⟨_, rfl⟩
  rw [← g102] at A102 st102
  have ne103 : a1 ≠ b102 := Nat.ne_of_lt (Nat.lt_of_lt_of_le V1.lt (Nat.le_of_eq g102.symm))
  have ga104 : n0 ≤ b102 := Nat.le_trans Z0 (Nat.le_of_eq g102.symm)
  have sz105 : h0.size ≤ b102 := Nat.le_trans f101.1 (Nat.le_of_eq g102.symm)
  have V102 : Arv Z h102 b102 k102 .byte (1 : Int32) [(.int 0)] (.int 0) := (Arv.new A102 (by decide)).pad (pad_rep [] (.int 0) 1)
  have f106 := Nat.le_trans Z0 E102.1
  have f107 := V1.ext E102
  have f108 := f101.ext E102
  obtain ⟨_, _, ⟨T109, L109, k109, n109⟩, -, X109, ⟨Lc109, hQ109, l109, y109, z109⟩, st109⟩ := Jvm.LawKit.callS X102 hx (y := own_y0) hown (own_m hZ hw 44) (own_m hZ hw 45) (own_m hZ hw 42) (own_m hZ hw 46) (by decide) (backOf (W := 0) (rmC_1 l Z a0 hw [] a1 b102 k1 k102 x0 h102 n0 f106 f107 V102 ga104 ne103 hx0) hZ (own_i hw 46 rfl) (own_i hw 42 rfl) (by decide) (by decide)) (g := (mkF m 9 #[rv a1, iv 0, iv 1, rv b102, .unset, .unset] [(.int 1), (.int 0), (.ref b102), (.int 0), (.ref a1)])) rfl (by rw [hml]; rfl) (argsL := [(.ref a1), (.int 0), (.ref b102), (.int 0), (.int 1)]) (rest := []) (lenOf pd_0 rfl) rfl (Nat.le_of_eq rfl) (hb hby d8_9) (fun _ _ => ⟨rfl, e102, own_le rfl, own_le rfl⟩)
  dsimp only [Pt.U, Pt.locs, Pt.cells, Pt.slots] at X109 l109 y109 z109 st109 hQ109
  subst l109 y109 z109
  obtain ⟨rfl, N109q, K109, f110⟩ := hQ109
  have N109 := Fr.app N0 N109q
  have f111 := Nat.le_trans f106 K109.1
  have f112 := f107.keep K109 (ninS ne103 nin0)
  have f113 := f108.trans K109 (allS (Or.inr sz105) all0)
  have pre114 : own_P p e below s₁ (entryFrame m #[(.ref a1), (.int 0), (.int 1)] 6) T109 (mkF m 58 #[rv a1, iv 0, iv 1, rv b102, iv 1, .unset] [(.ref b102)]) := fun t k => pre0 t (by
    show Steps p.tables e below (s₁.setTop (mkF m 0 #[rv a1, iv 0, iv 1, .unset, .unset, .unset] [])) t
    refine XS.iloadN X0.here hx rfl (hb hby d8_0) rfl ?_
    refine st102 _ ?_
    refine XS.astoreN X102.here hx rfl (hb hby d8_3) rfl rfl (l' := #[rv a1, iv 0, iv 1, rv b102, .unset, .unset]) rfl ?_
    refine XS.aloadN X102.here hx rfl (hb hby d8_4) rfl rfl ?_
    refine XS.iloadN X102.here hx rfl (hb hby d8_5) rfl ?_
    refine XS.aloadN X102.here hx rfl (hb hby d8_6) rfl rfl ?_
    refine XS.iconst X102.here hx rfl (hb hby d8_7) ?_
    refine XS.iloadN X102.here hx rfl (hb hby d8_8) rfl ?_
    refine st109 _ ?_
    refine XS.istore X109.here hx rfl (hb hby d8_12) rfl (l' := #[rv a1, iv 0, iv 1, rv b102, iv 1, .unset]) rfl ?_
    refine XS.iload X109.here hx rfl (hb hby d8_14) rfl ?_
    refine XS.iloadN X109.here hx rfl (hb hby d8_16) rfl ?_
    refine XS.icmpYes X109.here hx rfl (pc0 := 17) (pc' := 57) rfl (hb hby d8_17) rfl (teq (by decide : (1 : Int32) = (1 : Int32))).1 (by decide) (by decide) ?_
    refine XS.aloadN X109.here hx rfl (hb hby d8_57) rfl rfl ?_
    exact k)
  obtain ⟨fs, hr, hrun, hended, hW, hsame⟩ := X109.leave (v := some (.ref b102)) (fun h => by rw [Bd.returns] at h; cases h)
  refine ⟨_, _, pre114 _ ?_, hrun, hended, _, _, rfl, ?_, ⟨_, rfl⟩, hW, hsame.mono (by decide) (by decide)⟩
  · exact retOut X109 hx Bd.returns rfl (Or.inr (Or.inr (Or.inr (Or.inr ⟨rfl, rfl, rfl⟩)))) (hb hby d8_58) hr
  · show QD_1 Z a1 k1 x0 h0 n0 _ T109.heap _
    exact ⟨b102, k102, rfl, N109, f113, ga104, sz105, f110⟩
def QE_1 (Z : State) (a1 : Addr) (k1 : ClassId) (x0 : Int32) (h0 : Heap) (n0 : Nat) (v : Option Value) (h : Heap) (L : List Loc) : Prop := v = some (.int 0) ∧ Fr n0 L ∧ h = h0
theorem rmE_1 (l : Launch) (Z : State) (a0 : Array Value) (hw : own_H Z a0) (ws : List Jvm.Cond) (a1 : Addr) (k1 : ClassId) (x0 : Int32) (h0 : Heap) (n0 : Nat) (Z0 : n0 ≤ h0.size) (V1 : Arv Z h0 a1 k1 .byte (1 : Int32) [(.int (nar .byte (x0.toInt8.toInt32)))] (.int 0)) :
    own_M l own_y2 jdk_52_method_15_code 2 (some .byte) ws (own_R 0 0 0 0) Z h0 #[(.ref a1), (.int 1)] (QE_1 Z a1 k1 x0 h0 n0) := by
  refine own_body (plainFor_of_name pn_java_lang_StringUTF16) fun p e s m below meth c s₁ Bd hx hby hml (hown : s.vm.findClass "java/lang/StringUTF16" = some m.cls) hnm X0 e0 hZ => ?_
  have N0 := Fr.nil n0
  have pre0 : own_P p e below s₁ (entryFrame m #[(.ref a1), (.int 1)] 2) s₁ (mkF m 0 #[rv a1, iv 1] []) := fun t k => castTop (by first | rfl | (simp [entryFrame, mkF, argsToLocals, Value.category]; done)) k
  obtain ⟨cl101, Ar101, q101, S101, N101z, H101, G101⟩ := (id V1)
  have pre102 : own_P p e below s₁ (entryFrame m #[(.ref a1), (.int 1)] 2) s₁ (mkF m 8 #[rv a1, iv 1] [(.int ((((0 : Int32).toUInt32 >>> ((31 : Int32) &&& 31).toUInt32).toInt32).toInt8.toInt32))]) := fun t k => pre0 t (by
    show Steps p.tables e below (s₁.setTop (mkF m 0 #[rv a1, iv 1] [])) t
    refine XS.iloadN X0.here hx rfl (hb hby d10_0) rfl ?_
    refine XS.aloadN X0.here hx rfl (hb hby d10_1) rfl rfl ?_
    refine X0.arraylength hx (by rw [e0]; exact Ar101.1) (State.isArrayOf_alike hZ.alike Ar101.2.1) (g := (mkF m 2 #[rv a1, iv 1] [(.ref a1), (.int 1)])) rfl rfl (hb hby d10_2) _ ?_
    rw [len_of S101 N101z]
    refine XS.isub X0.here hx rfl (hb hby d10_3) rfl ?_
    refine XS.bipush X0.here hx rfl (hb hby d10_4) ?_
    refine XS.iushr X0.here hx rfl (hb hby d10_6) rfl ?_
    refine XS.i2b X0.here hx rfl (hb hby d10_7) rfl ?_
    exact k)
  obtain ⟨fs, hr, hrun, hended, hW, hsame⟩ := X0.leave (v := some (.int (nar .byte ((((0 : Int32).toUInt32 >>> ((31 : Int32) &&& 31).toUInt32).toInt32).toInt8.toInt32)))) (fun h => by rw [Bd.returns] at h; cases h)
  refine ⟨_, _, pre102 _ ?_, hrun, hended, _, _, rfl, ?_, ⟨_, rfl⟩, hW, hsame.mono (by decide) (by decide)⟩
  · exact retN X0 hx (t := .byte) Bd.returns (by simp) (hb hby d10_8) hr
  · show QE_1 Z a1 k1 x0 h0 n0 _ s₁.heap _
    rw [e0]
    exact ⟨rfl, N0, rfl⟩
theorem pn_java_lang_String : plainName "java/lang/String" = true := by first | (simp [plainName, overriddenIn]; done) | decide +kernel
theorem pd_1 : parseMethodDescriptor "([CII)[B" = some ⟨[(.array .char), .int, .int], some (.array .byte)⟩ := by decide +kernel
theorem pd_2 : parseMethodDescriptor "([BI)B" = some ⟨[(.array .byte), .int], some .byte⟩ := by decide +kernel
def QF_1 (Z : State) (a1 a2 : Addr) (k2 : ClassId) (cs x0 : Int32) (h0 : Heap) (n0 : Nat) (v : Option Value) (h : Heap) (L : List Loc) : Prop := ∃ (t : Addr) (kt : ClassId), v = none ∧ Fr n0 L ∧ Keep h0 h [a1] ∧ (Exa Z h a1 "java/lang/String") ∧ (Fld Z h a1 "java/lang/String" "coder" "B" (.int 0)) ∧ (Fld Z h a1 "java/lang/String" "value" "[B" (.ref t)) ∧ (n0 ≤ t) ∧ (h0.size ≤ t) ∧ (Arv Z h t kt .byte (1 : Int32) [(.int (nar .byte (x0.toInt8.toInt32)))] (.int 0))
theorem rmF_1 (l : Launch) (Z : State) (a0 : Array Value) (hw : own_H Z a0) (ws : List Jvm.Cond) (a1 a2 : Addr) (k2 : ClassId) (cs x0 : Int32) (h0 : Heap) (n0 : Nat) (Z0 : n0 ≤ h0.size) (F1 : Fld Z h0 a1 "java/lang/String" "value" "[B" .null) (F2 : Fld Z h0 a1 "java/lang/String" "coder" "B" (.int 0)) (E1 : Exa Z h0 a1 "java/lang/String") (g1 : n0 ≤ a1) (V2 : Arv Z h0 a2 k2 .char (1 : Int32) [(.int x0)] (.int 0)) (SC : Sta Z h0 "java/lang/String" "COMPACT_STRINGS" "Z" (.int cs)) (hcs : ¬ (cs = (0 : Int32))) (ne : a1 ≠ a2) (hx0 : ¬ ((255 : Int32) < x0)) :
    own_M l own_y3 jdk_42_method_149_code 6 none ws (own_R 2 1 1 35) Z h0 #[(.ref a1), (.ref a2), (.int 0), (.int 1), .null] (QF_1 Z a1 a2 k2 cs x0 h0 n0) := by
  refine own_body (plainFor_of_name pn_java_lang_String) fun p e s m below meth c s₁ Bd hx hby hml (hown : s.vm.findClass "java/lang/String" = some m.cls) hnm X0 e0 hZ => ?_
  have N0 := Fr.nil n0
  have pre0 : own_P p e below s₁ (entryFrame m #[(.ref a1), (.ref a2), (.int 0), (.int 1), .null] 6) s₁ (mkF m 0 #[rv a1, rv a2, iv 0, iv 1, .val .null, .unset] []) := fun t k => castTop (by first | rfl | (simp [entryFrame, mkF, argsToLocals, Value.category]; done)) k
  have f101 := Keep.refl h0 [a1]
  obtain ⟨T102, X102, e102, st102⟩ := initO X0 hx hZ hown (own_i hw 19 rfl) (own_i hw 20 rfl) (own_i hw 21 rfl) e0 (g := (mkF m 1 #[rv a1, rv a2, iv 0, iv 1, .val .null, .unset] [(.ref a1)])) rfl (by rw [hml]; rfl) rfl (hb hby d4_1) (by decide) (W := 0) (Nat.le_of_eq rfl) (by decide)
  obtain ⟨T103, X103, e103, st103⟩ := getS2 X102 hx hZ hown (host := "") (Or.inl (own_i hw 39 rfl)) Via.refl e102 SC (g := (mkF m 27 #[rv a1, rv a2, iv 0, iv 1, .val .null, .unset] [])) rfl (hb hby d4_27)
  obtain ⟨_, _, ⟨T104, L104, k104, n104⟩, -, X104, ⟨Lc104, hQ104, l104, y104, z104⟩, st104⟩ := Jvm.LawKit.callS X103 hx (y := own_y1) hown (own_m hZ hw 40) (own_m hZ hw 41) (own_m hZ hw 42) (own_m hZ hw 43) (by decide) (backOf (W := 0) (rmD_1 l Z a0 hw [] a2 k2 x0 h0 n0 Z0 V2 hx0) hZ (own_i hw 43 rfl) (own_i hw 42 rfl) (by decide) (by decide)) (g := (mkF m 36 #[rv a1, rv a2, iv 0, iv 1, .val .null, .unset] [(.int 1), (.int 0), (.ref a2)])) rfl (by rw [hml]; rfl) (argsL := [(.ref a2), (.int 0), (.int 1)]) (rest := []) (lenOf pd_1 rfl) rfl (Nat.le_of_eq rfl) (hb hby d4_36) (fun _ _ => ⟨rfl, e103, own_le rfl, own_le rfl⟩)
  dsimp only [Pt.U, Pt.locs, Pt.cells, Pt.slots] at X104 l104 y104 z104 st104 hQ104
  subst l104 y104 z104
  obtain ⟨b105, x106, rfl, N104q, K104, f107, f108, f109⟩ := hQ104
  have N104 := Fr.app N0 N104q
  have ne110 : a1 ≠ b105 := Nat.ne_of_lt (Nat.lt_of_lt_of_le F1.lt f108)
  have ne111 : a2 ≠ b105 := Nat.ne_of_lt (Nat.lt_of_lt_of_le V2.lt f108)
  have f112 := Nat.le_trans Z0 K104.1
  have f113 := F1.keep K104 nin0
  have f114 := F2.keep K104 nin0
  have f115 := E1.keep K104
  have f116 := V2.keep K104 nin0
  have f117 := f101.trans K104 all0
  obtain ⟨_, _, ⟨T118, L118, k118, n118⟩, -, X118, ⟨Lc118, hQ118, l118, y118, z118⟩, st118⟩ := Jvm.LawKit.callS X104 hx (y := own_y2) hown (own_m hZ hw 47) (own_m hZ hw 48) (own_m hZ hw 42) (own_m hZ hw 49) (by decide) (backOf (W := 1) (rmE_1 l Z a0 hw [] b105 x106 x0 T104.heap n0 f112 f109) hZ (own_i hw 49 rfl) (own_i hw 42 rfl) (by decide) (by decide)) (g := (mkF m 45 #[rv a1, rv a2, iv 0, iv 1, .val .null, rv b105] [(.int 1), (.ref b105), (.ref a1)])) rfl (by rw [hml]; rfl) (argsL := [(.ref b105), (.int 1)]) (rest := [(.ref a1)]) (lenOf pd_2 rfl) rfl (Nat.le_of_eq rfl) (hb hby d4_45) (fun _ _ => ⟨rfl, rfl, own_le rfl, own_le rfl⟩)
  dsimp only [Pt.U, Pt.locs, Pt.cells, Pt.slots] at X118 l118 y118 z118 st118 hQ118
  subst l118 y118 z118
  obtain ⟨rfl, N118q, e118⟩ := hQ118
  have N118 := Fr.app N104 N118q
  obtain ⟨T119, h119, X119, e119, W119, st119⟩ := putFN X118 hx hZ hown (own_i hw 29 rfl) Via.refl e118 f114 f115 (Or.inr ⟨(own_i hw 25 rfl), rfl, hnm⟩) (own_i hw 9 rfl) (ty := .byte) (v' := (.int 0)) (by decide) rfl (by decide) (g := (mkF m 48 #[rv a1, rv a2, iv 0, iv 1, .val .null, rv b105] [(.int 0), (.ref a1)])) rfl rfl (hb hby d4_48)
  have Fw119 := f114.same W119
  have N119 := Fr.snoc X119 N118 g1
  have f120 := Nat.le_trans f112 (Keep.of_wr W119).1
  have f121 := f113.other W119 (Or.inr (slot_ne (Or.inr (own_i hw 24 rfl)) (Or.inr (own_i hw 25 rfl)) (by decide) (t := (.array .byte)) (t' := .byte) (by decide) (by decide)))
  have f122 := f115.wr W119
  have f123 := f116.other W119 (Ne.symm ne)
  have f124 := f117.wr W119 (Or.inl (List.mem_of_getElem? (i := 0) rfl))
  have f125 := f109.other W119 (Ne.symm ne110)
  obtain ⟨T126, h126, X126, e126, W126, st126⟩ := putF X119 hx hZ hown (host := "") (Or.inl (own_i hw 28 rfl)) Via.refl e119 f121 f122 (Or.inr ⟨(own_i hw 24 rfl), rfl, hnm⟩) (own_i hw 9 rfl) (ty := (.array .byte)) (by decide) rfl rfl (g := (mkF m 54 #[rv a1, rv a2, iv 0, iv 1, .val .null, rv b105] [(.ref b105), (.ref a1)])) rfl rfl (hb hby d4_54)
  have Fw126 := f121.same W126
  have N126 := Fr.snoc X126 N119 g1
  have f127 := Nat.le_trans f120 (Keep.of_wr W126).1
  have f128 := f122.wr W126
  have f129 := f123.other W126 (Ne.symm ne)
  have f130 := f124.wr W126 (Or.inl (List.mem_of_getElem? (i := 0) rfl))
  have f131 := f125.other W126 (Ne.symm ne110)
  have f132 := Fw119.other W126 (Or.inr (slot_ne (Or.inr (own_i hw 25 rfl)) (Or.inr (own_i hw 24 rfl)) (by decide) (t := .byte) (t' := (.array .byte)) (by decide) (by decide)))
  have pre133 : own_P p e below s₁ (entryFrame m #[(.ref a1), (.ref a2), (.int 0), (.int 1), .null] 6) T126 (mkF m 57 #[rv a1, rv a2, iv 0, iv 1, .val .null, rv b105] []) := fun t k => pre0 t (by
    show Steps p.tables e below (s₁.setTop (mkF m 0 #[rv a1, rv a2, iv 0, iv 1, .val .null, .unset] [])) t
    refine XS.aloadN X0.here hx rfl (hb hby d4_0) rfl rfl ?_
    refine st102 _ ?_
    refine XS.iloadN X102.here hx rfl (hb hby d4_4) rfl ?_
    refine XS.ifYes X102.here hx rfl (pc0 := 5) (pc' := 27) rfl (hb hby d4_5) rfl ((if0 _ _).trans (feq (by decide : ¬ ((1 : Int32) = (0 : Int32)))).2) (by decide) (by decide) ?_
    refine st103 _ ?_
    refine XS.ifNo X103.here hx rfl (hb hby d4_30) rfl ((if0 _ _).trans (feq hcs).1) ?_
    refine XS.aloadN X103.here hx rfl (hb hby d4_33) rfl rfl ?_
    refine XS.iloadN X103.here hx rfl (hb hby d4_34) rfl ?_
    refine XS.iloadN X103.here hx rfl (hb hby d4_35) rfl ?_
    refine st104 _ ?_
    refine XS.astore X104.here hx rfl (hb hby d4_39) rfl rfl (l' := #[rv a1, rv a2, iv 0, iv 1, .val .null, rv b105]) rfl ?_
    refine XS.aloadN X104.here hx rfl (hb hby d4_41) rfl rfl ?_
    refine XS.aload X104.here hx rfl (hb hby d4_42) rfl rfl ?_
    refine XS.iloadN X104.here hx rfl (hb hby d4_44) rfl ?_
    refine st118 _ ?_
    refine st119 _ ?_
    refine XS.aloadN X119.here hx rfl (hb hby d4_51) rfl rfl ?_
    refine XS.aload X119.here hx rfl (hb hby d4_52) rfl rfl ?_
    refine st126 _ ?_
    exact k)
  obtain ⟨fs, hr, hrun, hended, hW, hsame⟩ := X126.leave (v := none) (fun _ => rfl)
  refine ⟨_, _, pre133 _ ?_, hrun, hended, _, _, rfl, ?_, ⟨_, rfl⟩, hW, hsame.mono (by decide) (by decide)⟩
  · exact X126.returnOut hx Bd.returns (hb hby d4_57) hr
  · show QF_1 Z a1 a2 k2 cs x0 h0 n0 _ T126.heap _
    rw [e126]
    exact ⟨b105, x106, rfl, N126, f130, f128, f132, Fw126, f107, f108, f131⟩
theorem pd_3 : parseMethodDescriptor "([CIILjava/lang/Void;)V" = some ⟨[(.array .char), .int, .int, (.object "java/lang/Void")], none⟩ := by decide +kernel
def QG_1 (Z : State) (a1 a2 : Addr) (k2 : ClassId) (cs x0 : Int32) (h0 : Heap) (n0 : Nat) (v : Option Value) (h : Heap) (L : List Loc) : Prop := ∃ (t : Addr) (kt : ClassId), v = none ∧ Fr n0 L ∧ Keep h0 h [a1] ∧ (Exa Z h a1 "java/lang/String") ∧ (Fld Z h a1 "java/lang/String" "coder" "B" (.int 0)) ∧ (Fld Z h a1 "java/lang/String" "value" "[B" (.ref t)) ∧ (n0 ≤ t) ∧ (h0.size ≤ t) ∧ (Arv Z h t kt .byte (1 : Int32) [(.int (nar .byte (x0.toInt8.toInt32)))] (.int 0))
theorem rmG_1 (l : Launch) (Z : State) (a0 : Array Value) (hw : own_H Z a0) (ws : List Jvm.Cond) (a1 a2 : Addr) (k2 : ClassId) (cs x0 : Int32) (h0 : Heap) (n0 : Nat) (Z0 : n0 ≤ h0.size) (F1 : Fld Z h0 a1 "java/lang/String" "value" "[B" .null) (F2 : Fld Z h0 a1 "java/lang/String" "coder" "B" (.int 0)) (E1 : Exa Z h0 a1 "java/lang/String") (g1 : n0 ≤ a1) (V2 : Arv Z h0 a2 k2 .char (1 : Int32) [(.int x0)] (.int 0)) (SC : Sta Z h0 "java/lang/String" "COMPACT_STRINGS" "Z" (.int cs)) (hcs : ¬ (cs = (0 : Int32))) (ne : a1 ≠ a2) (hx0 : ¬ ((255 : Int32) < x0)) :
    own_M l own_y4 jdk_42_method_3_code 2 none ws (own_R 3 1 1 52) Z h0 #[(.ref a1), (.ref a2)] (QG_1 Z a1 a2 k2 cs x0 h0 n0) := by
  refine own_body (plainFor_of_name pn_java_lang_String) fun p e s m below meth c s₁ Bd hx hby hml (hown : s.vm.findClass "java/lang/String" = some m.cls) hnm X0 e0 hZ => ?_
  have N0 := Fr.nil n0
  have pre0 : own_P p e below s₁ (entryFrame m #[(.ref a1), (.ref a2)] 2) s₁ (mkF m 0 #[rv a1, rv a2] []) := fun t k => castTop (by first | rfl | (simp [entryFrame, mkF, argsToLocals, Value.category]; done)) k
  have f101 := Keep.refl h0 [a1]
  obtain ⟨cl102, Ar102, q102, S102, N102z, H102, G102⟩ := (id V2)
  obtain ⟨_, _, ⟨T103, L103, k103, n103⟩, -, X103, ⟨Lc103, hQ103, l103, y103, z103⟩, st103⟩ := X0.specialBack hx (y := own_y3) rfl hown (own_m hZ hw 15) (own_m hZ hw 16) (own_m hZ hw 18) (by decide) (backOf (W := 0) (rmF_1 l Z a0 hw [] a1 a2 k2 cs x0 h0 n0 Z0 F1 F2 E1 g1 V2 SC hcs ne hx0) hZ (own_i hw 18 rfl) (own_i hw 10 rfl) (by decide) (by decide)) (g := (mkF m 6 #[rv a1, rv a2] [.null, (.int 1), (.int 0), (.ref a2), (.ref a1)])) rfl (by rw [hml]; rfl) (Steps.refl _) (a := a1) (argsL := [(.ref a2), (.int 0), (.int 1), .null]) (rest := []) (lenOf pd_3 rfl) rfl (Nat.le_of_eq rfl) (hb hby d3_6) (fun _ _ => ⟨rfl, e0, own_le rfl, own_le rfl⟩)
  dsimp only [Pt.U, Pt.locs, Pt.cells, Pt.slots] at X103 l103 y103 z103 st103 hQ103
  subst l103 y103 z103
  obtain ⟨b104, x105, rfl, N103q, K103, f106, f107, f108, f109, f110, f111⟩ := hQ103
  have N103 := Fr.app N0 N103q
  have ne112 : a1 ≠ b104 := Nat.ne_of_lt (Nat.lt_of_lt_of_le F1.lt f110)
  have ne113 : a2 ≠ b104 := Nat.ne_of_lt (Nat.lt_of_lt_of_le V2.lt f110)
  have f114 := Nat.le_trans Z0 K103.1
  have f115 := V2.keep K103 (ninS (Ne.symm ne) nin0)
  have f116 := f101.trans K103 (allS (Or.inl (List.mem_of_getElem? (i := 0) rfl)) all0)
  have pre117 : own_P p e below s₁ (entryFrame m #[(.ref a1), (.ref a2)] 2) T103 (mkF m 9 #[rv a1, rv a2] []) := fun t k => pre0 t (by
    show Steps p.tables e below (s₁.setTop (mkF m 0 #[rv a1, rv a2] [])) t
    refine XS.aloadN X0.here hx rfl (hb hby d3_0) rfl rfl ?_
    refine XS.aloadN X0.here hx rfl (hb hby d3_1) rfl rfl ?_
    refine XS.iconst X0.here hx rfl (hb hby d3_2) ?_
    refine XS.aloadN X0.here hx rfl (hb hby d3_3) rfl rfl ?_
    refine X0.arraylength hx (by rw [e0]; exact Ar102.1) (State.isArrayOf_alike hZ.alike Ar102.2.1) (g := (mkF m 4 #[rv a1, rv a2] [(.ref a2), (.int 0), (.ref a2), (.ref a1)])) rfl rfl (hb hby d3_4) _ ?_
    rw [len_of S102 N102z]
    refine XS.aconstNull X0.here hx rfl (hb hby d3_5) ?_
    refine st103.trans ?_
    exact k)
  obtain ⟨fs, hr, hrun, hended, hW, hsame⟩ := X103.leave (v := none) (fun _ => rfl)
  refine ⟨_, _, pre117 _ ?_, hrun, hended, _, _, rfl, ?_, ⟨_, rfl⟩, hW, hsame.mono (by decide) (by decide)⟩
  · exact X103.returnOut hx Bd.returns (hb hby d3_9) hr
  · show QG_1 Z a1 a2 k2 cs x0 h0 n0 _ T103.heap _
    exact ⟨b104, x105, rfl, N103, f116, f106, f107, f108, f109, f110, f111⟩
def QC_2 (Z : State) (a1 a3 : Addr) (k1 k3 : ClassId) (x0 x1 : Int32) (h0 : Heap) (n0 : Nat) (v : Option Value) (h : Heap) (L : List Loc) : Prop := v = some (.int 2) ∧ Fr n0 L ∧ Keep h0 h [a3] ∧ (Arv Z h a3 k3 .byte (2 : Int32) [(.int (nar .byte (x0.toInt8.toInt32))), (.int (nar .byte (x1.toInt8.toInt32)))] (.int 0))
theorem rmC_2 (l : Launch) (Z : State) (a0 : Array Value) (hw : own_H Z a0) (ws : List Jvm.Cond) (a1 a3 : Addr) (k1 k3 : ClassId) (x0 x1 : Int32) (h0 : Heap) (n0 : Nat) (Z0 : n0 ≤ h0.size) (V1 : Arv Z h0 a1 k1 .char (2 : Int32) [(.int x0), (.int x1)] (.int 0)) (V3 : Arv Z h0 a3 k3 .byte (2 : Int32) [(.int 0), (.int 0)] (.int 0)) (g3 : n0 ≤ a3) (ne : a1 ≠ a3) (hx0 : ¬ ((255 : Int32) < x0)) (hx1 : ¬ ((255 : Int32) < x1)) :
    own_M l own_y0 jdk_52_method_21_code 7 (some .int) ws (own_R 0 0 0 0) Z h0 #[(.ref a1), (.int 0), (.ref a3), (.int 0), (.int 2)] (QC_2 Z a1 a3 k1 k3 x0 x1 h0 n0) := by
  refine own_body (plainFor_of_name pn_java_lang_StringUTF16) fun p e s m below meth c s₁ Bd hx hby hml (hown : s.vm.findClass "java/lang/StringUTF16" = some m.cls) hnm X0 e0 hZ => ?_
  have N0 := Fr.nil n0
  have pre0 : own_P p e below s₁ (entryFrame m #[(.ref a1), (.int 0), (.ref a3), (.int 0), (.int 2)] 7) s₁ (mkF m 0 #[rv a1, iv 0, rv a3, iv 0, iv 2, .unset, .unset] []) := fun t k => castTop (by first | rfl | (simp [entryFrame, mkF, argsToLocals, Value.category]; done)) k
  have f101 := Keep.refl h0 [a3]
  obtain ⟨cl102, Ar102, q102, S102, N102z, H102, G102⟩ := (id V1)
  have hin102 : ¬ ((0 : Int32) < 0 ∨ cl102.slots.size ≤ ((0 : Int32)).toNatClampNeg) := inb_of S102 ⟨by decide, by decide⟩
  have hat102 : cl102.slots[((0 : Int32)).toNatClampNeg]? = some (.int x0) := Has.at H102 hin102 rfl
  obtain ⟨cl103, Ar103, q103, S103, N103z, H103, G103⟩ := (id V3)
  have hin103 : ¬ ((0 : Int32) < 0 ∨ cl103.slots.size ≤ ((0 : Int32)).toNatClampNeg) := inb_of S103 ⟨by decide, by decide⟩
  obtain ⟨T103, h103, X103, e103, W103, st103⟩ := stB X0 hx hZ e0 Ar103 (j := (0 : Int32)) hin103 (g := (mkF m 31 #[rv a1, iv 0, rv a3, iv 0, iv 2, iv 0, iv x0] [(.int (x0.toInt8.toInt32)), (.int 0), (.ref a3)])) rfl rfl (hb hby d9_31)
  have V103 : Arv Z h103 a3 k3 .byte (2 : Int32) [(.int (nar .byte (x0.toInt8.toInt32))), (.int 0)] (.int 0) := Arv.set Ar103 q103 S103 N103z H103 G103 (fits_nar_byte _) W103 0 rfl (Nat.le_of_ble_eq_true rfl)
  have N103 := Fr.snoc X103 N0 g3
  have f104 := Nat.le_trans Z0 (Keep.of_wr W103).1
  have f105 := V1.other W103 ne
  have f106 := f101.wr W103 (Or.inl (List.mem_of_getElem? (i := 0) rfl))
  obtain ⟨cl107, Ar107, q107, S107, N107z, H107, G107⟩ := (id f105)
  have hin107 : ¬ ((1 : Int32) < 0 ∨ cl107.slots.size ≤ ((1 : Int32)).toNatClampNeg) := inb_of S107 ⟨by decide, by decide⟩
  have hat107 : cl107.slots[((1 : Int32)).toNatClampNeg]? = some (.int x1) := Has.at H107 hin107 rfl
  obtain ⟨cl108, Ar108, q108, S108, N108z, H108, G108⟩ := (id V103)
  have hin108 : ¬ ((1 : Int32) < 0 ∨ cl108.slots.size ≤ ((1 : Int32)).toNatClampNeg) := inb_of S108 ⟨by decide, by decide⟩
  obtain ⟨T108, h108, X108, e108, W108, st108⟩ := stB X103 hx hZ e103 Ar108 (j := (1 : Int32)) hin108 (g := (mkF m 31 #[rv a1, iv 1, rv a3, iv 1, iv 2, iv 1, iv x1] [(.int (x1.toInt8.toInt32)), (.int 1), (.ref a3)])) rfl rfl (hb hby d9_31)
  have V108 : Arv Z h108 a3 k3 .byte (2 : Int32) [(.int (nar .byte (x0.toInt8.toInt32))), (.int (nar .byte (x1.toInt8.toInt32)))] (.int 0) := Arv.set Ar108 q108 S108 N108z H108 G108 (fits_nar_byte _) W108 1 rfl (Nat.le_of_ble_eq_true rfl)
  have N108 := Fr.snoc X108 N103 g3
  have f109 := Nat.le_trans f104 (Keep.of_wr W108).1
  have f110 := f105.other W108 ne
  have f111 := f106.wr W108 (Or.inl (List.mem_of_getElem? (i := 0) rfl))
  have pre112 : own_P p e below s₁ (entryFrame m #[(.ref a1), (.int 0), (.ref a3), (.int 0), (.int 2)] 7) T108 (mkF m 46 #[rv a1, iv 2, rv a3, iv 2, iv 2, iv 2, iv x1] [(.int 2)]) := fun t k => pre0 t (by
    show Steps p.tables e below (s₁.setTop (mkF m 0 #[rv a1, iv 0, rv a3, iv 0, iv 2, .unset, .unset] [])) t
    refine XS.iconst X0.here hx rfl (hb hby d9_0) ?_
    refine XS.istore X0.here hx rfl (hb hby d9_1) rfl (l' := #[rv a1, iv 0, rv a3, iv 0, iv 2, iv 0, .unset]) rfl ?_
    refine XS.iload X0.here hx rfl (hb hby d9_3) rfl ?_
    refine XS.iload X0.here hx rfl (hb hby d9_5) rfl ?_
    refine XS.icmpNo X0.here hx rfl (hb hby d9_7) rfl (tlt (by decide : (0 : Int32) < (2 : Int32))).2.1 ?_
    refine XS.aloadN X0.here hx rfl (hb hby d9_10) rfl rfl ?_
    refine XS.iloadN X0.here hx rfl (hb hby d9_11) rfl ?_
    refine X0.caload hx (j := (0 : Int32)) (v := (.int x0)) (by rw [e0]; exact Ar102.1) (State.isArrayOf_alike hZ.alike Ar102.2.1) Ar102.2.2 hin102 hat102 (g := (mkF m 12 #[rv a1, iv 0, rv a3, iv 0, iv 2, iv 0, .unset] [(.int 0), (.ref a1)])) rfl rfl (hb hby d9_12) _ ?_
    refine XS.istore X0.here hx rfl (hb hby d9_13) rfl (l' := #[rv a1, iv 0, rv a3, iv 0, iv 2, iv 0, iv x0]) rfl ?_
    refine XS.iload X0.here hx rfl (hb hby d9_15) rfl ?_
    refine XS.sipush X0.here hx rfl (hb hby d9_17) ?_
    refine XS.icmpYes X0.here hx rfl (pc0 := 20) (pc' := 26) rfl (hb hby d9_20) rfl (flt hx0).2.2.2 (by decide) (by decide) ?_
    refine XS.aloadN X0.here hx rfl (hb hby d9_26) rfl rfl ?_
    refine XS.iloadN X0.here hx rfl (hb hby d9_27) rfl ?_
    refine XS.iload X0.here hx rfl (hb hby d9_28) rfl ?_
    refine XS.i2b X0.here hx rfl (hb hby d9_30) rfl ?_
    refine st103 _ ?_
    refine XS.iinc X103.here hx rfl (hb hby d9_32) rfl (l' := #[rv a1, iv 1, rv a3, iv 0, iv 2, iv 0, iv x0]) rfl ?_
    refine XS.iinc X103.here hx rfl (hb hby d9_35) rfl (l' := #[rv a1, iv 1, rv a3, iv 1, iv 2, iv 0, iv x0]) rfl ?_
    refine XS.iinc X103.here hx rfl (hb hby d9_38) rfl (l' := #[rv a1, iv 1, rv a3, iv 1, iv 2, iv 1, iv x0]) rfl ?_
    refine XS.goto X103.here hx rfl (pc0 := 41) (pc' := 3) rfl (hb hby d9_41) (by decide) (by decide) ?_
    refine XS.iload X103.here hx rfl (hb hby d9_3) rfl ?_
    refine XS.iload X103.here hx rfl (hb hby d9_5) rfl ?_
    refine XS.icmpNo X103.here hx rfl (hb hby d9_7) rfl (tlt (by decide : (1 : Int32) < (2 : Int32))).2.1 ?_
    refine XS.aloadN X103.here hx rfl (hb hby d9_10) rfl rfl ?_
    refine XS.iloadN X103.here hx rfl (hb hby d9_11) rfl ?_
    refine X103.caload hx (j := (1 : Int32)) (v := (.int x1)) (by rw [e103]; exact Ar107.1) (State.isArrayOf_alike hZ.alike Ar107.2.1) Ar107.2.2 hin107 hat107 (g := (mkF m 12 #[rv a1, iv 1, rv a3, iv 1, iv 2, iv 1, iv x0] [(.int 1), (.ref a1)])) rfl rfl (hb hby d9_12) _ ?_
    refine XS.istore X103.here hx rfl (hb hby d9_13) rfl (l' := #[rv a1, iv 1, rv a3, iv 1, iv 2, iv 1, iv x1]) rfl ?_
    refine XS.iload X103.here hx rfl (hb hby d9_15) rfl ?_
    refine XS.sipush X103.here hx rfl (hb hby d9_17) ?_
    refine XS.icmpYes X103.here hx rfl (pc0 := 20) (pc' := 26) rfl (hb hby d9_20) rfl (flt hx1).2.2.2 (by decide) (by decide) ?_
    refine XS.aloadN X103.here hx rfl (hb hby d9_26) rfl rfl ?_
    refine XS.iloadN X103.here hx rfl (hb hby d9_27) rfl ?_
    refine XS.iload X103.here hx rfl (hb hby d9_28) rfl ?_
    refine XS.i2b X103.here hx rfl (hb hby d9_30) rfl ?_
    refine st108 _ ?_
    refine XS.iinc X108.here hx rfl (hb hby d9_32) rfl (l' := #[rv a1, iv 2, rv a3, iv 1, iv 2, iv 1, iv x1]) rfl ?_
    refine XS.iinc X108.here hx rfl (hb hby d9_35) rfl (l' := #[rv a1, iv 2, rv a3, iv 2, iv 2, iv 1, iv x1]) rfl ?_
    refine XS.iinc X108.here hx rfl (hb hby d9_38) rfl (l' := #[rv a1, iv 2, rv a3, iv 2, iv 2, iv 2, iv x1]) rfl ?_
    refine XS.goto X108.here hx rfl (pc0 := 41) (pc' := 3) rfl (hb hby d9_41) (by decide) (by decide) ?_
    refine XS.iload X108.here hx rfl (hb hby d9_3) rfl ?_
    refine XS.iload X108.here hx rfl (hb hby d9_5) rfl ?_
    refine XS.icmpYes X108.here hx rfl (pc0 := 7) (pc' := 44) rfl (hb hby d9_7) rfl (flt (by decide : ¬ ((2 : Int32) < (2 : Int32)))).2.1 (by decide) (by decide) ?_
    refine XS.iload X108.here hx rfl (hb hby d9_44) rfl ?_
    exact k)
  obtain ⟨fs, hr, hrun, hended, hW, hsame⟩ := X108.leave (v := some (.int 2)) (fun h => by rw [Bd.returns] at h; cases h)
  refine ⟨_, _, pre112 _ ?_, hrun, hended, _, _, rfl, ?_, ⟨_, rfl⟩, hW, hsame.mono (by decide) (by decide)⟩
  · exact retI X108 hx Bd.returns (hb hby d9_46) hr
  · show QC_2 Z a1 a3 k1 k3 x0 x1 h0 n0 _ T108.heap _
    rw [e108]
    exact ⟨rfl, N108, f111, V108⟩
def QD_2 (Z : State) (a1 : Addr) (k1 : ClassId) (x0 x1 : Int32) (h0 : Heap) (n0 : Nat) (v : Option Value) (h : Heap) (L : List Loc) : Prop := ∃ (b : Addr) (kb : ClassId), v = some (.ref b) ∧ Fr n0 L ∧ Keep h0 h [] ∧ (n0 ≤ b) ∧ (h0.size ≤ b) ∧ (Arv Z h b kb .byte (2 : Int32) [(.int (nar .byte (x0.toInt8.toInt32))), (.int (nar .byte (x1.toInt8.toInt32)))] (.int 0))
theorem rmD_2 (l : Launch) (Z : State) (a0 : Array Value) (hw : own_H Z a0) (ws : List Jvm.Cond) (a1 : Addr) (k1 : ClassId) (x0 x1 : Int32) (h0 : Heap) (n0 : Nat) (Z0 : n0 ≤ h0.size) (V1 : Arv Z h0 a1 k1 .char (2 : Int32) [(.int x0), (.int x1)] (.int 0)) (hx0 : ¬ ((255 : Int32) < x0)) (hx1 : ¬ ((255 : Int32) < x1)) :
    own_M l own_y1 jdk_52_method_16_code 6 (some (.array .byte)) ws (own_R 1 1 2 18) Z h0 #[(.ref a1), (.int 0), (.int 2)] (QD_2 Z a1 k1 x0 x1 h0 n0) := by
  refine own_body (plainFor_of_name pn_java_lang_StringUTF16) fun p e s m below meth c s₁ Bd hx hby hml (hown : s.vm.findClass "java/lang/StringUTF16" = some m.cls) hnm X0 e0 hZ => ?_
  have N0 := Fr.nil n0
  have pre0 : own_P p e below s₁ (entryFrame m #[(.ref a1), (.int 0), (.int 2)] 6) s₁ (mkF m 0 #[rv a1, iv 0, iv 2, .unset, .unset, .unset] []) := fun t k => castTop (by first | rfl | (simp [entryFrame, mkF, argsToLocals, Value.category]; done)) k
  have f101 := Keep.refl h0 []
  obtain ⟨T102, h102, k102, X102, e102, E102, A102, st102⟩ := newP X0 hx hZ (own_i hw 23 rfl) e0 (g := (mkF m 1 #[rv a1, iv 0, iv 2, .unset, .unset, .unset] [(.int 2)])) rfl (hb hby d8_1) rfl (by decide) (cap := 2) (by decide) (by decide) (by decide) (by decide)
  obtain ⟨b102, g102⟩ : ∃ z, z = h0.size := ⟨_, rfl⟩
  rw [← g102] at A102 st102
  have ne103 : a1 ≠ b102 := Nat.ne_of_lt (Nat.lt_of_lt_of_le V1.lt (Nat.le_of_eq g102.symm))
  have ga104 : n0 ≤ b102 := Nat.le_trans Z0 (Nat.le_of_eq g102.symm)
  have sz105 : h0.size ≤ b102 := Nat.le_trans f101.1 (Nat.le_of_eq g102.symm)
  have V102 : Arv Z h102 b102 k102 .byte (2 : Int32) [(.int 0), (.int 0)] (.int 0) := (Arv.new A102 (by decide)).pad (pad_rep [] (.int 0) 2)
  have f106 := Nat.le_trans Z0 E102.1
  have f107 := V1.ext E102
  have f108 := f101.ext E102
  obtain ⟨_, _, ⟨T109, L109, k109, n109⟩, -, X109, ⟨Lc109, hQ109, l109, y109, z109⟩, st109⟩ := Jvm.LawKit.callS X102 hx (y := own_y0) hown (own_m hZ hw 44) (own_m hZ hw 45) (own_m hZ hw 42) (own_m hZ hw 46) (by decide) (backOf (W := 0) (rmC_2 l Z a0 hw [] a1 b102 k1 k102 x0 x1 h102 n0 f106 f107 V102 ga104 ne103 hx0 hx1) hZ (own_i hw 46 rfl) (own_i hw 42 rfl) (by decide) (by decide)) (g := (mkF m 9 #[rv a1, iv 0, iv 2, rv b102, .unset, .unset] [(.int 2), (.int 0), (.ref b102), (.int 0), (.ref a1)])) rfl (by rw [hml]; rfl) (argsL := [(.ref a1), (.int 0), (.ref b102), (.int 0), (.int 2)]) (rest := []) (lenOf pd_0 rfl) rfl (Nat.le_of_eq rfl) (hb hby d8_9) (fun _ _ => ⟨rfl, e102, own_le rfl, own_le rfl⟩)
  dsimp only [Pt.U, Pt.locs, Pt.cells, Pt.slots] at X109 l109 y109 z109 st109 hQ109
  subst l109 y109 z109
  obtain ⟨rfl, N109q, K109, f110⟩ := hQ109
  have N109 := Fr.app N0 N109q
  have f111 := Nat.le_trans f106 K109.1
  have f112 := f107.keep K109 (ninS ne103 nin0)
  have f113 := f108.trans K109 (allS (Or.inr sz105) all0)
  have pre114 : own_P p e below s₁ (entryFrame m #[(.ref a1), (.int 0), (.int 2)] 6) T109 (mkF m 58 #[rv a1, iv 0, iv 2, rv b102, iv 2, .unset] [(.ref b102)]) := fun t k => pre0 t (by
    show Steps p.tables e below (s₁.setTop (mkF m 0 #[rv a1, iv 0, iv 2, .unset, .unset, .unset] [])) t
    refine XS.iloadN X0.here hx rfl (hb hby d8_0) rfl ?_
    refine st102 _ ?_
    refine XS.astoreN X102.here hx rfl (hb hby d8_3) rfl rfl (l' := #[rv a1, iv 0, iv 2, rv b102, .unset, .unset]) rfl ?_
    refine XS.aloadN X102.here hx rfl (hb hby d8_4) rfl rfl ?_
    refine XS.iloadN X102.here hx rfl (hb hby d8_5) rfl ?_
    refine XS.aloadN X102.here hx rfl (hb hby d8_6) rfl rfl ?_
    refine XS.iconst X102.here hx rfl (hb hby d8_7) ?_
    refine XS.iloadN X102.here hx rfl (hb hby d8_8) rfl ?_
    refine st109 _ ?_
    refine XS.istore X109.here hx rfl (hb hby d8_12) rfl (l' := #[rv a1, iv 0, iv 2, rv b102, iv 2, .unset]) rfl ?_
    refine XS.iload X109.here hx rfl (hb hby d8_14) rfl ?_
    refine XS.iloadN X109.here hx rfl (hb hby d8_16) rfl ?_
    refine XS.icmpYes X109.here hx rfl (pc0 := 17) (pc' := 57) rfl (hb hby d8_17) rfl (teq (by decide : (2 : Int32) = (2 : Int32))).1 (by decide) (by decide) ?_
    refine XS.aloadN X109.here hx rfl (hb hby d8_57) rfl rfl ?_
    exact k)
  obtain ⟨fs, hr, hrun, hended, hW, hsame⟩ := X109.leave (v := some (.ref b102)) (fun h => by rw [Bd.returns] at h; cases h)
  refine ⟨_, _, pre114 _ ?_, hrun, hended, _, _, rfl, ?_, ⟨_, rfl⟩, hW, hsame.mono (by decide) (by decide)⟩
  · exact retOut X109 hx Bd.returns rfl (Or.inr (Or.inr (Or.inr (Or.inr ⟨rfl, rfl, rfl⟩)))) (hb hby d8_58) hr
  · show QD_2 Z a1 k1 x0 x1 h0 n0 _ T109.heap _
    exact ⟨b102, k102, rfl, N109, f113, ga104, sz105, f110⟩
def QE_2 (Z : State) (a1 : Addr) (k1 : ClassId) (x0 x1 : Int32) (h0 : Heap) (n0 : Nat) (v : Option Value) (h : Heap) (L : List Loc) : Prop := v = some (.int 0) ∧ Fr n0 L ∧ h = h0
theorem rmE_2 (l : Launch) (Z : State) (a0 : Array Value) (hw : own_H Z a0) (ws : List Jvm.Cond) (a1 : Addr) (k1 : ClassId) (x0 x1 : Int32) (h0 : Heap) (n0 : Nat) (Z0 : n0 ≤ h0.size) (V1 : Arv Z h0 a1 k1 .byte (2 : Int32) [(.int (nar .byte (x0.toInt8.toInt32))), (.int (nar .byte (x1.toInt8.toInt32)))] (.int 0)) :
    own_M l own_y2 jdk_52_method_15_code 2 (some .byte) ws (own_R 0 0 0 0) Z h0 #[(.ref a1), (.int 2)] (QE_2 Z a1 k1 x0 x1 h0 n0) := by
  refine own_body (plainFor_of_name pn_java_lang_StringUTF16) fun p e s m below meth c s₁ Bd hx hby hml (hown : s.vm.findClass "java/lang/StringUTF16" = some m.cls) hnm X0 e0 hZ => ?_
  have N0 := Fr.nil n0
  have pre0 : own_P p e below s₁ (entryFrame m #[(.ref a1), (.int 2)] 2) s₁ (mkF m 0 #[rv a1, iv 2] []) := fun t k => castTop (by first | rfl | (simp [entryFrame, mkF, argsToLocals, Value.category]; done)) k
  obtain ⟨cl101, Ar101, q101, S101, N101z, H101, G101⟩ := (id V1)
  have pre102 : own_P p e below s₁ (entryFrame m #[(.ref a1), (.int 2)] 2) s₁ (mkF m 8 #[rv a1, iv 2] [(.int ((((0 : Int32).toUInt32 >>> ((31 : Int32) &&& 31).toUInt32).toInt32).toInt8.toInt32))]) := fun t k => pre0 t (by
    show Steps p.tables e below (s₁.setTop (mkF m 0 #[rv a1, iv 2] [])) t
    refine XS.iloadN X0.here hx rfl (hb hby d10_0) rfl ?_
    refine XS.aloadN X0.here hx rfl (hb hby d10_1) rfl rfl ?_
    refine X0.arraylength hx (by rw [e0]; exact Ar101.1) (State.isArrayOf_alike hZ.alike Ar101.2.1) (g := (mkF m 2 #[rv a1, iv 2] [(.ref a1), (.int 2)])) rfl rfl (hb hby d10_2) _ ?_
    rw [len_of S101 N101z]
    refine XS.isub X0.here hx rfl (hb hby d10_3) rfl ?_
    refine XS.bipush X0.here hx rfl (hb hby d10_4) ?_
    refine XS.iushr X0.here hx rfl (hb hby d10_6) rfl ?_
    refine XS.i2b X0.here hx rfl (hb hby d10_7) rfl ?_
    exact k)
  obtain ⟨fs, hr, hrun, hended, hW, hsame⟩ := X0.leave (v := some (.int (nar .byte ((((0 : Int32).toUInt32 >>> ((31 : Int32) &&& 31).toUInt32).toInt32).toInt8.toInt32)))) (fun h => by rw [Bd.returns] at h; cases h)
  refine ⟨_, _, pre102 _ ?_, hrun, hended, _, _, rfl, ?_, ⟨_, rfl⟩, hW, hsame.mono (by decide) (by decide)⟩
  · exact retN X0 hx (t := .byte) Bd.returns (by simp) (hb hby d10_8) hr
  · show QE_2 Z a1 k1 x0 x1 h0 n0 _ s₁.heap _
    rw [e0]
    exact ⟨rfl, N0, rfl⟩
def QF_2 (Z : State) (a1 a2 : Addr) (k2 : ClassId) (cs x0 x1 : Int32) (h0 : Heap) (n0 : Nat) (v : Option Value) (h : Heap) (L : List Loc) : Prop := ∃ (t : Addr) (kt : ClassId), v = none ∧ Fr n0 L ∧ Keep h0 h [a1] ∧ (Exa Z h a1 "java/lang/String") ∧ (Fld Z h a1 "java/lang/String" "coder" "B" (.int 0)) ∧ (Fld Z h a1 "java/lang/String" "value" "[B" (.ref t)) ∧ (n0 ≤ t) ∧ (h0.size ≤ t) ∧ (Arv Z h t kt .byte (2 : Int32) [(.int (nar .byte (x0.toInt8.toInt32))), (.int (nar .byte (x1.toInt8.toInt32)))] (.int 0))
theorem rmF_2 (l : Launch) (Z : State) (a0 : Array Value) (hw : own_H Z a0) (ws : List Jvm.Cond) (a1 a2 : Addr) (k2 : ClassId) (cs x0 x1 : Int32) (h0 : Heap) (n0 : Nat) (Z0 : n0 ≤ h0.size) (F1 : Fld Z h0 a1 "java/lang/String" "value" "[B" .null) (F2 : Fld Z h0 a1 "java/lang/String" "coder" "B" (.int 0)) (E1 : Exa Z h0 a1 "java/lang/String") (g1 : n0 ≤ a1) (V2 : Arv Z h0 a2 k2 .char (2 : Int32) [(.int x0), (.int x1)] (.int 0)) (SC : Sta Z h0 "java/lang/String" "COMPACT_STRINGS" "Z" (.int cs)) (hcs : ¬ (cs = (0 : Int32))) (ne : a1 ≠ a2) (hx0 : ¬ ((255 : Int32) < x0)) (hx1 : ¬ ((255 : Int32) < x1)) :
    own_M l own_y3 jdk_42_method_149_code 6 none ws (own_R 2 1 2 35) Z h0 #[(.ref a1), (.ref a2), (.int 0), (.int 2), .null] (QF_2 Z a1 a2 k2 cs x0 x1 h0 n0) := by
  refine own_body (plainFor_of_name pn_java_lang_String) fun p e s m below meth c s₁ Bd hx hby hml (hown : s.vm.findClass "java/lang/String" = some m.cls) hnm X0 e0 hZ => ?_
  have N0 := Fr.nil n0
  have pre0 : own_P p e below s₁ (entryFrame m #[(.ref a1), (.ref a2), (.int 0), (.int 2), .null] 6) s₁ (mkF m 0 #[rv a1, rv a2, iv 0, iv 2, .val .null, .unset] []) := fun t k => castTop (by first | rfl | (simp [entryFrame, mkF, argsToLocals, Value.category]; done)) k
  have f101 := Keep.refl h0 [a1]
  obtain ⟨T102, X102, e102, st102⟩ := initO X0 hx hZ hown (own_i hw 19 rfl) (own_i hw 20 rfl) (own_i hw 21 rfl) e0 (g := (mkF m 1 #[rv a1, rv a2, iv 0, iv 2, .val .null, .unset] [(.ref a1)])) rfl (by rw [hml]; rfl) rfl (hb hby d4_1) (by decide) (W := 0) (Nat.le_of_eq rfl) (by decide)
  obtain ⟨T103, X103, e103, st103⟩ := getS2 X102 hx hZ hown (host := "") (Or.inl (own_i hw 39 rfl)) Via.refl e102 SC (g := (mkF m 27 #[rv a1, rv a2, iv 0, iv 2, .val .null, .unset] [])) rfl (hb hby d4_27)
  obtain ⟨_, _, ⟨T104, L104, k104, n104⟩, -, X104, ⟨Lc104, hQ104, l104, y104, z104⟩, st104⟩ := Jvm.LawKit.callS X103 hx (y := own_y1) hown (own_m hZ hw 40) (own_m hZ hw 41) (own_m hZ hw 42) (own_m hZ hw 43) (by decide) (backOf (W := 0) (rmD_2 l Z a0 hw [] a2 k2 x0 x1 h0 n0 Z0 V2 hx0 hx1) hZ (own_i hw 43 rfl) (own_i hw 42 rfl) (by decide) (by decide)) (g := (mkF m 36 #[rv a1, rv a2, iv 0, iv 2, .val .null, .unset] [(.int 2), (.int 0), (.ref a2)])) rfl (by rw [hml]; rfl) (argsL := [(.ref a2), (.int 0), (.int 2)]) (rest := []) (lenOf pd_1 rfl) rfl (Nat.le_of_eq rfl) (hb hby d4_36) (fun _ _ => ⟨rfl, e103, own_le rfl, own_le rfl⟩)
  dsimp only [Pt.U, Pt.locs, Pt.cells, Pt.slots] at X104 l104 y104 z104 st104 hQ104
  subst l104 y104 z104
  obtain ⟨b105, x106, rfl, N104q, K104, f107, f108, f109⟩ := hQ104
  have N104 := Fr.app N0 N104q
  have ne110 : a1 ≠ b105 := Nat.ne_of_lt (Nat.lt_of_lt_of_le F1.lt f108)
  have ne111 : a2 ≠ b105 := Nat.ne_of_lt (Nat.lt_of_lt_of_le V2.lt f108)
  have f112 := Nat.le_trans Z0 K104.1
  have f113 := F1.keep K104 nin0
  have f114 := F2.keep K104 nin0
  have f115 := E1.keep K104
  have f116 := V2.keep K104 nin0
  have f117 := f101.trans K104 all0
  obtain ⟨_, _, ⟨T118, L118, k118, n118⟩, -, X118, ⟨Lc118, hQ118, l118, y118, z118⟩, st118⟩ := Jvm.LawKit.callS X104 hx (y := own_y2) hown (own_m hZ hw 47) (own_m hZ hw 48) (own_m hZ hw 42) (own_m hZ hw 49) (by decide) (backOf (W := 1) (rmE_2 l Z a0 hw [] b105 x106 x0 x1 T104.heap n0 f112 f109) hZ (own_i hw 49 rfl) (own_i hw 42 rfl) (by decide) (by decide)) (g := (mkF m 45 #[rv a1, rv a2, iv 0, iv 2, .val .null, rv b105] [(.int 2), (.ref b105), (.ref a1)])) rfl (by rw [hml]; rfl) (argsL := [(.ref b105), (.int 2)]) (rest := [(.ref a1)]) (lenOf pd_2 rfl) rfl (Nat.le_of_eq rfl) (hb hby d4_45) (fun _ _ => ⟨rfl, rfl, own_le rfl, own_le rfl⟩)
  dsimp only [Pt.U, Pt.locs, Pt.cells, Pt.slots] at X118 l118 y118 z118 st118 hQ118
  subst l118 y118 z118
  obtain ⟨rfl, N118q, e118⟩ := hQ118
  have N118 := Fr.app N104 N118q
  obtain ⟨T119, h119, X119, e119, W119, st119⟩ := putFN X118 hx hZ hown (own_i hw 29 rfl) Via.refl e118 f114 f115 (Or.inr ⟨(own_i hw 25 rfl), rfl, hnm⟩) (own_i hw 9 rfl) (ty := .byte) (v' := (.int 0)) (by decide) rfl (by decide) (g := (mkF m 48 #[rv a1, rv a2, iv 0, iv 2, .val .null, rv b105] [(.int 0), (.ref a1)])) rfl rfl (hb hby d4_48)
  have Fw119 := f114.same W119
  have N119 := Fr.snoc X119 N118 g1
  have f120 := Nat.le_trans f112 (Keep.of_wr W119).1
  have f121 := f113.other W119 (Or.inr (slot_ne (Or.inr (own_i hw 24 rfl)) (Or.inr (own_i hw 25 rfl)) (by decide) (t := (.array .byte)) (t' := .byte) (by decide) (by decide)))
  have f122 := f115.wr W119
  have f123 := f116.other W119 (Ne.symm ne)
  have f124 := f117.wr W119 (Or.inl (List.mem_of_getElem? (i := 0) rfl))
  have f125 := f109.other W119 (Ne.symm ne110)
  obtain ⟨T126, h126, X126, e126, W126, st126⟩ := putF X119 hx hZ hown (host := "") (Or.inl (own_i hw 28 rfl)) Via.refl e119 f121 f122 (Or.inr ⟨(own_i hw 24 rfl), rfl, hnm⟩) (own_i hw 9 rfl) (ty := (.array .byte)) (by decide) rfl rfl (g := (mkF m 54 #[rv a1, rv a2, iv 0, iv 2, .val .null, rv b105] [(.ref b105), (.ref a1)])) rfl rfl (hb hby d4_54)
  have Fw126 := f121.same W126
  have N126 := Fr.snoc X126 N119 g1
  have f127 := Nat.le_trans f120 (Keep.of_wr W126).1
  have f128 := f122.wr W126
  have f129 := f123.other W126 (Ne.symm ne)
  have f130 := f124.wr W126 (Or.inl (List.mem_of_getElem? (i := 0) rfl))
  have f131 := f125.other W126 (Ne.symm ne110)
  have f132 := Fw119.other W126 (Or.inr (slot_ne (Or.inr (own_i hw 25 rfl)) (Or.inr (own_i hw 24 rfl)) (by decide) (t := .byte) (t' := (.array .byte)) (by decide) (by decide)))
  have pre133 : own_P p e below s₁ (entryFrame m #[(.ref a1), (.ref a2), (.int 0), (.int 2), .null] 6) T126 (mkF m 57 #[rv a1, rv a2, iv 0, iv 2, .val .null, rv b105] []) := fun t k => pre0 t (by
    show Steps p.tables e below (s₁.setTop (mkF m 0 #[rv a1, rv a2, iv 0, iv 2, .val .null, .unset] [])) t
    refine XS.aloadN X0.here hx rfl (hb hby d4_0) rfl rfl ?_
    refine st102 _ ?_
    refine XS.iloadN X102.here hx rfl (hb hby d4_4) rfl ?_
    refine XS.ifYes X102.here hx rfl (pc0 := 5) (pc' := 27) rfl (hb hby d4_5) rfl ((if0 _ _).trans (feq (by decide : ¬ ((2 : Int32) = (0 : Int32)))).2) (by decide) (by decide) ?_
    refine st103 _ ?_
    refine XS.ifNo X103.here hx rfl (hb hby d4_30) rfl ((if0 _ _).trans (feq hcs).1) ?_
    refine XS.aloadN X103.here hx rfl (hb hby d4_33) rfl rfl ?_
    refine XS.iloadN X103.here hx rfl (hb hby d4_34) rfl ?_
    refine XS.iloadN X103.here hx rfl (hb hby d4_35) rfl ?_
    refine st104 _ ?_
    refine XS.astore X104.here hx rfl (hb hby d4_39) rfl rfl (l' := #[rv a1, rv a2, iv 0, iv 2, .val .null, rv b105]) rfl ?_
    refine XS.aloadN X104.here hx rfl (hb hby d4_41) rfl rfl ?_
    refine XS.aload X104.here hx rfl (hb hby d4_42) rfl rfl ?_
    refine XS.iloadN X104.here hx rfl (hb hby d4_44) rfl ?_
    refine st118 _ ?_
    refine st119 _ ?_
    refine XS.aloadN X119.here hx rfl (hb hby d4_51) rfl rfl ?_
    refine XS.aload X119.here hx rfl (hb hby d4_52) rfl rfl ?_
    refine st126 _ ?_
    exact k)
  obtain ⟨fs, hr, hrun, hended, hW, hsame⟩ := X126.leave (v := none) (fun _ => rfl)
  refine ⟨_, _, pre133 _ ?_, hrun, hended, _, _, rfl, ?_, ⟨_, rfl⟩, hW, hsame.mono (by decide) (by decide)⟩
  · exact X126.returnOut hx Bd.returns (hb hby d4_57) hr
  · show QF_2 Z a1 a2 k2 cs x0 x1 h0 n0 _ T126.heap _
    rw [e126]
    exact ⟨b105, x106, rfl, N126, f130, f128, f132, Fw126, f107, f108, f131⟩
def QG_2 (Z : State) (a1 a2 : Addr) (k2 : ClassId) (cs x0 x1 : Int32) (h0 : Heap) (n0 : Nat) (v : Option Value) (h : Heap) (L : List Loc) : Prop := ∃ (t : Addr) (kt : ClassId), v = none ∧ Fr n0 L ∧ Keep h0 h [a1] ∧ (Exa Z h a1 "java/lang/String") ∧ (Fld Z h a1 "java/lang/String" "coder" "B" (.int 0)) ∧ (Fld Z h a1 "java/lang/String" "value" "[B" (.ref t)) ∧ (n0 ≤ t) ∧ (h0.size ≤ t) ∧ (Arv Z h t kt .byte (2 : Int32) [(.int (nar .byte (x0.toInt8.toInt32))), (.int (nar .byte (x1.toInt8.toInt32)))] (.int 0))
theorem rmG_2 (l : Launch) (Z : State) (a0 : Array Value) (hw : own_H Z a0) (ws : List Jvm.Cond) (a1 a2 : Addr) (k2 : ClassId) (cs x0 x1 : Int32) (h0 : Heap) (n0 : Nat) (Z0 : n0 ≤ h0.size) (F1 : Fld Z h0 a1 "java/lang/String" "value" "[B" .null) (F2 : Fld Z h0 a1 "java/lang/String" "coder" "B" (.int 0)) (E1 : Exa Z h0 a1 "java/lang/String") (g1 : n0 ≤ a1) (V2 : Arv Z h0 a2 k2 .char (2 : Int32) [(.int x0), (.int x1)] (.int 0)) (SC : Sta Z h0 "java/lang/String" "COMPACT_STRINGS" "Z" (.int cs)) (hcs : ¬ (cs = (0 : Int32))) (ne : a1 ≠ a2) (hx0 : ¬ ((255 : Int32) < x0)) (hx1 : ¬ ((255 : Int32) < x1)) :
    own_M l own_y4 jdk_42_method_3_code 2 none ws (own_R 3 1 2 52) Z h0 #[(.ref a1), (.ref a2)] (QG_2 Z a1 a2 k2 cs x0 x1 h0 n0) := by
  refine own_body (plainFor_of_name pn_java_lang_String) fun p e s m below meth c s₁ Bd hx hby hml (hown : s.vm.findClass "java/lang/String" = some m.cls) hnm X0 e0 hZ => ?_
  have N0 := Fr.nil n0
  have pre0 : own_P p e below s₁ (entryFrame m #[(.ref a1), (.ref a2)] 2) s₁ (mkF m 0 #[rv a1, rv a2] []) := fun t k => castTop (by first | rfl | (simp [entryFrame, mkF, argsToLocals, Value.category]; done)) k
  have f101 := Keep.refl h0 [a1]
  obtain ⟨cl102, Ar102, q102, S102, N102z, H102, G102⟩ := (id V2)
  obtain ⟨_, _, ⟨T103, L103, k103, n103⟩, -, X103, ⟨Lc103, hQ103, l103, y103, z103⟩, st103⟩ := X0.specialBack hx (y := own_y3) rfl hown (own_m hZ hw 15) (own_m hZ hw 16) (own_m hZ hw 18) (by decide) (backOf (W := 0) (rmF_2 l Z a0 hw [] a1 a2 k2 cs x0 x1 h0 n0 Z0 F1 F2 E1 g1 V2 SC hcs ne hx0 hx1) hZ (own_i hw 18 rfl) (own_i hw 10 rfl) (by decide) (by decide)) (g := (mkF m 6 #[rv a1, rv a2] [.null, (.int 2), (.int 0), (.ref a2), (.ref a1)])) rfl (by rw [hml]; rfl) (Steps.refl _) (a := a1) (argsL := [(.ref a2), (.int 0), (.int 2), .null]) (rest := []) (lenOf pd_3 rfl) rfl (Nat.le_of_eq rfl) (hb hby d3_6) (fun _ _ => ⟨rfl, e0, own_le rfl, own_le rfl⟩)
  dsimp only [Pt.U, Pt.locs, Pt.cells, Pt.slots] at X103 l103 y103 z103 st103 hQ103
  subst l103 y103 z103
  obtain ⟨b104, x105, rfl, N103q, K103, f106, f107, f108, f109, f110, f111⟩ := hQ103
  have N103 := Fr.app N0 N103q
  have ne112 : a1 ≠ b104 := Nat.ne_of_lt (Nat.lt_of_lt_of_le F1.lt f110)
  have ne113 : a2 ≠ b104 := Nat.ne_of_lt (Nat.lt_of_lt_of_le V2.lt f110)
  have f114 := Nat.le_trans Z0 K103.1
  have f115 := V2.keep K103 (ninS (Ne.symm ne) nin0)
  have f116 := f101.trans K103 (allS (Or.inl (List.mem_of_getElem? (i := 0) rfl)) all0)
  have pre117 : own_P p e below s₁ (entryFrame m #[(.ref a1), (.ref a2)] 2) T103 (mkF m 9 #[rv a1, rv a2] []) := fun t k => pre0 t (by
    show Steps p.tables e below (s₁.setTop (mkF m 0 #[rv a1, rv a2] [])) t
    refine XS.aloadN X0.here hx rfl (hb hby d3_0) rfl rfl ?_
    refine XS.aloadN X0.here hx rfl (hb hby d3_1) rfl rfl ?_
    refine XS.iconst X0.here hx rfl (hb hby d3_2) ?_
    refine XS.aloadN X0.here hx rfl (hb hby d3_3) rfl rfl ?_
    refine X0.arraylength hx (by rw [e0]; exact Ar102.1) (State.isArrayOf_alike hZ.alike Ar102.2.1) (g := (mkF m 4 #[rv a1, rv a2] [(.ref a2), (.int 0), (.ref a2), (.ref a1)])) rfl rfl (hb hby d3_4) _ ?_
    rw [len_of S102 N102z]
    refine XS.aconstNull X0.here hx rfl (hb hby d3_5) ?_
    refine st103.trans ?_
    exact k)
  obtain ⟨fs, hr, hrun, hended, hW, hsame⟩ := X103.leave (v := none) (fun _ => rfl)
  refine ⟨_, _, pre117 _ ?_, hrun, hended, _, _, rfl, ?_, ⟨_, rfl⟩, hW, hsame.mono (by decide) (by decide)⟩
  · exact X103.returnOut hx Bd.returns (hb hby d3_9) hr
  · show QG_2 Z a1 a2 k2 cs x0 x1 h0 n0 _ T103.heap _
    exact ⟨b104, x105, rfl, N103, f116, f106, f107, f108, f109, f110, f111⟩
def QC_3 (Z : State) (a1 a3 : Addr) (k1 k3 : ClassId) (x0 x1 x2 : Int32) (h0 : Heap) (n0 : Nat) (v : Option Value) (h : Heap) (L : List Loc) : Prop := v = some (.int 3) ∧ Fr n0 L ∧ Keep h0 h [a3] ∧ (Arv Z h a3 k3 .byte (3 : Int32) [(.int (nar .byte (x0.toInt8.toInt32))), (.int (nar .byte (x1.toInt8.toInt32))), (.int (nar .byte (x2.toInt8.toInt32)))] (.int 0))
theorem rmC_3 (l : Launch) (Z : State) (a0 : Array Value) (hw : own_H Z a0) (ws : List Jvm.Cond) (a1 a3 : Addr) (k1 k3 : ClassId) (x0 x1 x2 : Int32) (h0 : Heap) (n0 : Nat) (Z0 : n0 ≤ h0.size) (V1 : Arv Z h0 a1 k1 .char (3 : Int32) [(.int x0), (.int x1), (.int x2)] (.int 0)) (V3 : Arv Z h0 a3 k3 .byte (3 : Int32) [(.int 0), (.int 0), (.int 0)] (.int 0)) (g3 : n0 ≤ a3) (ne : a1 ≠ a3) (hx0 : ¬ ((255 : Int32) < x0)) (hx1 : ¬ ((255 : Int32) < x1)) (hx2 : ¬ ((255 : Int32) < x2)) :
    own_M l own_y0 jdk_52_method_21_code 7 (some .int) ws (own_R 0 0 0 0) Z h0 #[(.ref a1), (.int 0), (.ref a3), (.int 0), (.int 3)] (QC_3 Z a1 a3 k1 k3 x0 x1 x2 h0 n0) := by
  refine own_body (plainFor_of_name pn_java_lang_StringUTF16) fun p e s m below meth c s₁ Bd hx hby hml (hown : s.vm.findClass "java/lang/StringUTF16" = some m.cls) hnm X0 e0 hZ => ?_
  have N0 := Fr.nil n0
  have pre0 : own_P p e below s₁ (entryFrame m #[(.ref a1), (.int 0), (.ref a3), (.int 0), (.int 3)] 7) s₁ (mkF m 0 #[rv a1, iv 0, rv a3, iv 0, iv 3, .unset, .unset] []) := fun t k => castTop (by first | rfl | (simp [entryFrame, mkF, argsToLocals, Value.category]; done)) k
  have f101 := Keep.refl h0 [a3]
  obtain ⟨cl102, Ar102, q102, S102, N102z, H102, G102⟩ := (id V1)
  have hin102 : ¬ ((0 : Int32) < 0 ∨ cl102.slots.size ≤ ((0 : Int32)).toNatClampNeg) := inb_of S102 ⟨by decide, by decide⟩
  have hat102 : cl102.slots[((0 : Int32)).toNatClampNeg]? = some (.int x0) := Has.at H102 hin102 rfl
  obtain ⟨cl103, Ar103, q103, S103, N103z, H103, G103⟩ := (id V3)
  have hin103 : ¬ ((0 : Int32) < 0 ∨ cl103.slots.size ≤ ((0 : Int32)).toNatClampNeg) := inb_of S103 ⟨by decide, by decide⟩
  obtain ⟨T103, h103, X103, e103, W103, st103⟩ := stB X0 hx hZ e0 Ar103 (j := (0 : Int32)) hin103 (g := (mkF m 31 #[rv a1, iv 0, rv a3, iv 0, iv 3, iv 0, iv x0] [(.int (x0.toInt8.toInt32)), (.int 0), (.ref a3)])) rfl rfl (hb hby d9_31)
  have V103 : Arv Z h103 a3 k3 .byte (3 : Int32) [(.int (nar .byte (x0.toInt8.toInt32))), (.int 0), (.int 0)] (.int 0) := Arv.set Ar103 q103 S103 N103z H103 G103 (fits_nar_byte _) W103 0 rfl (Nat.le_of_ble_eq_true rfl)
  have N103 := Fr.snoc X103 N0 g3
  have f104 := Nat.le_trans Z0 (Keep.of_wr W103).1
  have f105 := V1.other W103 ne
  have f106 := f101.wr W103 (Or.inl (List.mem_of_getElem? (i := 0) rfl))
  obtain ⟨cl107, Ar107, q107, S107, N107z, H107, G107⟩ := (id f105)
  have hin107 : ¬ ((1 : Int32) < 0 ∨ cl107.slots.size ≤ ((1 : Int32)).toNatClampNeg) := inb_of S107 ⟨by decide, by decide⟩
  have hat107 : cl107.slots[((1 : Int32)).toNatClampNeg]? = some (.int x1) := Has.at H107 hin107 rfl
  obtain ⟨cl108, Ar108, q108, S108, N108z, H108, G108⟩ := (id V103)
  have hin108 : ¬ ((1 : Int32) < 0 ∨ cl108.slots.size ≤ ((1 : Int32)).toNatClampNeg) := inb_of S108 ⟨by decide, by decide⟩
  obtain ⟨T108, h108, X108, e108, W108, st108⟩ := stB X103 hx hZ e103 Ar108 (j := (1 : Int32)) hin108 (g := (mkF m 31 #[rv a1, iv 1, rv a3, iv 1, iv 3, iv 1, iv x1] [(.int (x1.toInt8.toInt32)), (.int 1), (.ref a3)])) rfl rfl (hb hby d9_31)
  have V108 : Arv Z h108 a3 k3 .byte (3 : Int32) [(.int (nar .byte (x0.toInt8.toInt32))), (.int (nar .byte (x1.toInt8.toInt32))), (.int 0)] (.int 0) := Arv.set Ar108 q108 S108 N108z H108 G108 (fits_nar_byte _) W108 1 rfl (Nat.le_of_ble_eq_true rfl)
  have N108 := Fr.snoc X108 N103 g3
  have f109 := Nat.le_trans f104 (Keep.of_wr W108).1
  have f110 := f105.other W108 ne
  have f111 := f106.wr W108 (Or.inl (List.mem_of_getElem? (i := 0) rfl))
  obtain ⟨cl112, Ar112, q112, S112, N112z, H112, G112⟩ := (id f110)
  have hin112 : ¬ ((2 : Int32) < 0 ∨ cl112.slots.size ≤ ((2 : Int32)).toNatClampNeg) := inb_of S112 ⟨by decide, by decide⟩
  have hat112 : cl112.slots[((2 : Int32)).toNatClampNeg]? = some (.int x2) := Has.at H112 hin112 rfl
  obtain ⟨cl113, Ar113, q113, S113, N113z, H113, G113⟩ := (id V108)
  have hin113 : ¬ ((2 : Int32) < 0 ∨ cl113.slots.size ≤ ((2 : Int32)).toNatClampNeg) := inb_of S113 ⟨by decide, by decide⟩
  obtain ⟨T113, h113, X113, e113, W113, st113⟩ := stB X108 hx hZ e108 Ar113 (j := (2 : Int32)) hin113 (g := (mkF m 31 #[rv a1, iv 2, rv a3, iv 2, iv 3, iv 2, iv x2] [(.int (x2.toInt8.toInt32)), (.int 2), (.ref a3)])) rfl rfl (hb hby d9_31)
  have V113 : Arv Z h113 a3 k3 .byte (3 : Int32) [(.int (nar .byte (x0.toInt8.toInt32))), (.int (nar .byte (x1.toInt8.toInt32))), (.int (nar .byte (x2.toInt8.toInt32)))] (.int 0) := Arv.set Ar113 q113 S113 N113z H113 G113 (fits_nar_byte _) W113 2 rfl (Nat.le_of_ble_eq_true rfl)
  have N113 := Fr.snoc X113 N108 g3
  have f114 := Nat.le_trans f109 (Keep.of_wr W113).1
  have f115 := f110.other W113 ne
  have f116 := f111.wr W113 (Or.inl (List.mem_of_getElem? (i := 0) rfl))
  have pre117 : own_P p e below s₁ (entryFrame m #[(.ref a1), (.int 0), (.ref a3), (.int 0), (.int 3)] 7) T113 (mkF m 46 #[rv a1, iv 3, rv a3, iv 3, iv 3, iv 3, iv x2] [(.int 3)]) := fun t k => pre0 t (by
    show Steps p.tables e below (s₁.setTop (mkF m 0 #[rv a1, iv 0, rv a3, iv 0, iv 3, .unset, .unset] [])) t
    refine XS.iconst X0.here hx rfl (hb hby d9_0) ?_
    refine XS.istore X0.here hx rfl (hb hby d9_1) rfl (l' := #[rv a1, iv 0, rv a3, iv 0, iv 3, iv 0, .unset]) rfl ?_
    refine XS.iload X0.here hx rfl (hb hby d9_3) rfl ?_
    refine XS.iload X0.here hx rfl (hb hby d9_5) rfl ?_
    refine XS.icmpNo X0.here hx rfl (hb hby d9_7) rfl (tlt (by decide : (0 : Int32) < (3 : Int32))).2.1 ?_
    refine XS.aloadN X0.here hx rfl (hb hby d9_10) rfl rfl ?_
    refine XS.iloadN X0.here hx rfl (hb hby d9_11) rfl ?_
    refine X0.caload hx (j := (0 : Int32)) (v := (.int x0)) (by rw [e0]; exact Ar102.1) (State.isArrayOf_alike hZ.alike Ar102.2.1) Ar102.2.2 hin102 hat102 (g := (mkF m 12 #[rv a1, iv 0, rv a3, iv 0, iv 3, iv 0, .unset] [(.int 0), (.ref a1)])) rfl rfl (hb hby d9_12) _ ?_
    refine XS.istore X0.here hx rfl (hb hby d9_13) rfl (l' := #[rv a1, iv 0, rv a3, iv 0, iv 3, iv 0, iv x0]) rfl ?_
    refine XS.iload X0.here hx rfl (hb hby d9_15) rfl ?_
    refine XS.sipush X0.here hx rfl (hb hby d9_17) ?_
    refine XS.icmpYes X0.here hx rfl (pc0 := 20) (pc' := 26) rfl (hb hby d9_20) rfl (flt hx0).2.2.2 (by decide) (by decide) ?_
    refine XS.aloadN X0.here hx rfl (hb hby d9_26) rfl rfl ?_
    refine XS.iloadN X0.here hx rfl (hb hby d9_27) rfl ?_
    refine XS.iload X0.here hx rfl (hb hby d9_28) rfl ?_
    refine XS.i2b X0.here hx rfl (hb hby d9_30) rfl ?_
    refine st103 _ ?_
    refine XS.iinc X103.here hx rfl (hb hby d9_32) rfl (l' := #[rv a1, iv 1, rv a3, iv 0, iv 3, iv 0, iv x0]) rfl ?_
    refine XS.iinc X103.here hx rfl (hb hby d9_35) rfl (l' := #[rv a1, iv 1, rv a3, iv 1, iv 3, iv 0, iv x0]) rfl ?_
    refine XS.iinc X103.here hx rfl (hb hby d9_38) rfl (l' := #[rv a1, iv 1, rv a3, iv 1, iv 3, iv 1, iv x0]) rfl ?_
    refine XS.goto X103.here hx rfl (pc0 := 41) (pc' := 3) rfl (hb hby d9_41) (by decide) (by decide) ?_
    refine XS.iload X103.here hx rfl (hb hby d9_3) rfl ?_
    refine XS.iload X103.here hx rfl (hb hby d9_5) rfl ?_
    refine XS.icmpNo X103.here hx rfl (hb hby d9_7) rfl (tlt (by decide : (1 : Int32) < (3 : Int32))).2.1 ?_
    refine XS.aloadN X103.here hx rfl (hb hby d9_10) rfl rfl ?_
    refine XS.iloadN X103.here hx rfl (hb hby d9_11) rfl ?_
    refine X103.caload hx (j := (1 : Int32)) (v := (.int x1)) (by rw [e103]; exact Ar107.1) (State.isArrayOf_alike hZ.alike Ar107.2.1) Ar107.2.2 hin107 hat107 (g := (mkF m 12 #[rv a1, iv 1, rv a3, iv 1, iv 3, iv 1, iv x0] [(.int 1), (.ref a1)])) rfl rfl (hb hby d9_12) _ ?_
    refine XS.istore X103.here hx rfl (hb hby d9_13) rfl (l' := #[rv a1, iv 1, rv a3, iv 1, iv 3, iv 1, iv x1]) rfl ?_
    refine XS.iload X103.here hx rfl (hb hby d9_15) rfl ?_
    refine XS.sipush X103.here hx rfl (hb hby d9_17) ?_
    refine XS.icmpYes X103.here hx rfl (pc0 := 20) (pc' := 26) rfl (hb hby d9_20) rfl (flt hx1).2.2.2 (by decide) (by decide) ?_
    refine XS.aloadN X103.here hx rfl (hb hby d9_26) rfl rfl ?_
    refine XS.iloadN X103.here hx rfl (hb hby d9_27) rfl ?_
    refine XS.iload X103.here hx rfl (hb hby d9_28) rfl ?_
    refine XS.i2b X103.here hx rfl (hb hby d9_30) rfl ?_
    refine st108 _ ?_
    refine XS.iinc X108.here hx rfl (hb hby d9_32) rfl (l' := #[rv a1, iv 2, rv a3, iv 1, iv 3, iv 1, iv x1]) rfl ?_
    refine XS.iinc X108.here hx rfl (hb hby d9_35) rfl (l' := #[rv a1, iv 2, rv a3, iv 2, iv 3, iv 1, iv x1]) rfl ?_
    refine XS.iinc X108.here hx rfl (hb hby d9_38) rfl (l' := #[rv a1, iv 2, rv a3, iv 2, iv 3, iv 2, iv x1]) rfl ?_
    refine XS.goto X108.here hx rfl (pc0 := 41) (pc' := 3) rfl (hb hby d9_41) (by decide) (by decide) ?_
    refine XS.iload X108.here hx rfl (hb hby d9_3) rfl ?_
    refine XS.iload X108.here hx rfl (hb hby d9_5) rfl ?_
    refine XS.icmpNo X108.here hx rfl (hb hby d9_7) rfl (tlt (by decide : (2 : Int32) < (3 : Int32))).2.1 ?_
    refine XS.aloadN X108.here hx rfl (hb hby d9_10) rfl rfl ?_
    refine XS.iloadN X108.here hx rfl (hb hby d9_11) rfl ?_
    refine X108.caload hx (j := (2 : Int32)) (v := (.int x2)) (by rw [e108]; exact Ar112.1) (State.isArrayOf_alike hZ.alike Ar112.2.1) Ar112.2.2 hin112 hat112 (g := (mkF m 12 #[rv a1, iv 2, rv a3, iv 2, iv 3, iv 2, iv x1] [(.int 2), (.ref a1)])) rfl rfl (hb hby d9_12) _ ?_
    refine XS.istore X108.here hx rfl (hb hby d9_13) rfl (l' := #[rv a1, iv 2, rv a3, iv 2, iv 3, iv 2, iv x2]) rfl ?_
    refine XS.iload X108.here hx rfl (hb hby d9_15) rfl ?_
    refine XS.sipush X108.here hx rfl (hb hby d9_17) ?_
    refine XS.icmpYes X108.here hx rfl (pc0 := 20) (pc' := 26) rfl (hb hby d9_20) rfl (flt hx2).2.2.2 (by decide) (by decide) ?_
    refine XS.aloadN X108.here hx rfl (hb hby d9_26) rfl rfl ?_
    refine XS.iloadN X108.here hx rfl (hb hby d9_27) rfl ?_
    refine XS.iload X108.here hx rfl (hb hby d9_28) rfl ?_
    refine XS.i2b X108.here hx rfl (hb hby d9_30) rfl ?_
    refine st113 _ ?_
    refine XS.iinc X113.here hx rfl (hb hby d9_32) rfl (l' := #[rv a1, iv 3, rv a3, iv 2, iv 3, iv 2, iv x2]) rfl ?_
    refine XS.iinc X113.here hx rfl (hb hby d9_35) rfl (l' := #[rv a1, iv 3, rv a3, iv 3, iv 3, iv 2, iv x2]) rfl ?_
    refine XS.iinc X113.here hx rfl (hb hby d9_38) rfl (l' := #[rv a1, iv 3, rv a3, iv 3, iv 3, iv 3, iv x2]) rfl ?_
    refine XS.goto X113.here hx rfl (pc0 := 41) (pc' := 3) rfl (hb hby d9_41) (by decide) (by decide) ?_
    refine XS.iload X113.here hx rfl (hb hby d9_3) rfl ?_
    refine XS.iload X113.here hx rfl (hb hby d9_5) rfl ?_
    refine XS.icmpYes X113.here hx rfl (pc0 := 7) (pc' := 44) rfl (hb hby d9_7) rfl (flt (by decide : ¬ ((3 : Int32) < (3 : Int32)))).2.1 (by decide) (by decide) ?_
    refine XS.iload X113.here hx rfl (hb hby d9_44) rfl ?_
    exact k)
  obtain ⟨fs, hr, hrun, hended, hW, hsame⟩ := X113.leave (v := some (.int 3)) (fun h => by rw [Bd.returns] at h; cases h)
  refine ⟨_, _, pre117 _ ?_, hrun, hended, _, _, rfl, ?_, ⟨_, rfl⟩, hW, hsame.mono (by decide) (by decide)⟩
  · exact retI X113 hx Bd.returns (hb hby d9_46) hr
  · show QC_3 Z a1 a3 k1 k3 x0 x1 x2 h0 n0 _ T113.heap _
    rw [e113]
    exact ⟨rfl, N113, f116, V113⟩
def QD_3 (Z : State) (a1 : Addr) (k1 : ClassId) (x0 x1 x2 : Int32) (h0 : Heap) (n0 : Nat) (v : Option Value) (h : Heap) (L : List Loc) : Prop := ∃ (b : Addr) (kb : ClassId), v = some (.ref b) ∧ Fr n0 L ∧ Keep h0 h [] ∧ (n0 ≤ b) ∧ (h0.size ≤ b) ∧ (Arv Z h b kb .byte (3 : Int32) [(.int (nar .byte (x0.toInt8.toInt32))), (.int (nar .byte (x1.toInt8.toInt32))), (.int (nar .byte (x2.toInt8.toInt32)))] (.int 0))
theorem rmD_3 (l : Launch) (Z : State) (a0 : Array Value) (hw : own_H Z a0) (ws : List Jvm.Cond) (a1 : Addr) (k1 : ClassId) (x0 x1 x2 : Int32) (h0 : Heap) (n0 : Nat) (Z0 : n0 ≤ h0.size) (V1 : Arv Z h0 a1 k1 .char (3 : Int32) [(.int x0), (.int x1), (.int x2)] (.int 0)) (hx0 : ¬ ((255 : Int32) < x0)) (hx1 : ¬ ((255 : Int32) < x1)) (hx2 : ¬ ((255 : Int32) < x2)) :
    own_M l own_y1 jdk_52_method_16_code 6 (some (.array .byte)) ws (own_R 1 1 3 18) Z h0 #[(.ref a1), (.int 0), (.int 3)] (QD_3 Z a1 k1 x0 x1 x2 h0 n0) := by
  refine own_body (plainFor_of_name pn_java_lang_StringUTF16) fun p e s m below meth c s₁ Bd hx hby hml (hown : s.vm.findClass "java/lang/StringUTF16" = some m.cls) hnm X0 e0 hZ => ?_
  have N0 := Fr.nil n0
  have pre0 : own_P p e below s₁ (entryFrame m #[(.ref a1), (.int 0), (.int 3)] 6) s₁ (mkF m 0 #[rv a1, iv 0, iv 3, .unset, .unset, .unset] []) := fun t k => castTop (by first | rfl | (simp [entryFrame, mkF, argsToLocals, Value.category]; done)) k
  have f101 := Keep.refl h0 []
  obtain ⟨T102, h102, k102, X102, e102, E102, A102, st102⟩ := newP X0 hx hZ (own_i hw 23 rfl) e0 (g := (mkF m 1 #[rv a1, iv 0, iv 3, .unset, .unset, .unset] [(.int 3)])) rfl (hb hby d8_1) rfl (by decide) (cap := 3) (by decide) (by decide) (by decide) (by decide)
  obtain ⟨b102, g102⟩ : ∃ z, z = h0.size := ⟨_, rfl⟩
  rw [← g102] at A102 st102
  have ne103 : a1 ≠ b102 := Nat.ne_of_lt (Nat.lt_of_lt_of_le V1.lt (Nat.le_of_eq g102.symm))
  have ga104 : n0 ≤ b102 := Nat.le_trans Z0 (Nat.le_of_eq g102.symm)
  have sz105 : h0.size ≤ b102 := Nat.le_trans f101.1 (Nat.le_of_eq g102.symm)
  have V102 : Arv Z h102 b102 k102 .byte (3 : Int32) [(.int 0), (.int 0), (.int 0)] (.int 0) := (Arv.new A102 (by decide)).pad (pad_rep [] (.int 0) 3)
  have f106 := Nat.le_trans Z0 E102.1
  have f107 := V1.ext E102
  have f108 := f101.ext E102
  obtain ⟨_, _, ⟨T109, L109, k109, n109⟩, -, X109, ⟨Lc109, hQ109, l109, y109, z109⟩, st109⟩ := Jvm.LawKit.callS X102 hx (y := own_y0) hown (own_m hZ hw 44) (own_m hZ hw 45) (own_m hZ hw 42) (own_m hZ hw 46) (by decide) (backOf (W := 0) (rmC_3 l Z a0 hw [] a1 b102 k1 k102 x0 x1 x2 h102 n0 f106 f107 V102 ga104 ne103 hx0 hx1 hx2) hZ (own_i hw 46 rfl) (own_i hw 42 rfl) (by decide) (by decide)) (g := (mkF m 9 #[rv a1, iv 0, iv 3, rv b102, .unset, .unset] [(.int 3), (.int 0), (.ref b102), (.int 0), (.ref a1)])) rfl (by rw [hml]; rfl) (argsL := [(.ref a1), (.int 0), (.ref b102), (.int 0), (.int 3)]) (rest := []) (lenOf pd_0 rfl) rfl (Nat.le_of_eq rfl) (hb hby d8_9) (fun _ _ => ⟨rfl, e102, own_le rfl, own_le rfl⟩)
  dsimp only [Pt.U, Pt.locs, Pt.cells, Pt.slots] at X109 l109 y109 z109 st109 hQ109
  subst l109 y109 z109
  obtain ⟨rfl, N109q, K109, f110⟩ := hQ109
  have N109 := Fr.app N0 N109q
  have f111 := Nat.le_trans f106 K109.1
  have f112 := f107.keep K109 (ninS ne103 nin0)
  have f113 := f108.trans K109 (allS (Or.inr sz105) all0)
  have pre114 : own_P p e below s₁ (entryFrame m #[(.ref a1), (.int 0), (.int 3)] 6) T109 (mkF m 58 #[rv a1, iv 0, iv 3, rv b102, iv 3, .unset] [(.ref b102)]) := fun t k => pre0 t (by
    show Steps p.tables e below (s₁.setTop (mkF m 0 #[rv a1, iv 0, iv 3, .unset, .unset, .unset] [])) t
    refine XS.iloadN X0.here hx rfl (hb hby d8_0) rfl ?_
    refine st102 _ ?_
    refine XS.astoreN X102.here hx rfl (hb hby d8_3) rfl rfl (l' := #[rv a1, iv 0, iv 3, rv b102, .unset, .unset]) rfl ?_
    refine XS.aloadN X102.here hx rfl (hb hby d8_4) rfl rfl ?_
    refine XS.iloadN X102.here hx rfl (hb hby d8_5) rfl ?_
    refine XS.aloadN X102.here hx rfl (hb hby d8_6) rfl rfl ?_
    refine XS.iconst X102.here hx rfl (hb hby d8_7) ?_
    refine XS.iloadN X102.here hx rfl (hb hby d8_8) rfl ?_
    refine st109 _ ?_
    refine XS.istore X109.here hx rfl (hb hby d8_12) rfl (l' := #[rv a1, iv 0, iv 3, rv b102, iv 3, .unset]) rfl ?_
    refine XS.iload X109.here hx rfl (hb hby d8_14) rfl ?_
    refine XS.iloadN X109.here hx rfl (hb hby d8_16) rfl ?_
    refine XS.icmpYes X109.here hx rfl (pc0 := 17) (pc' := 57) rfl (hb hby d8_17) rfl (teq (by decide : (3 : Int32) = (3 : Int32))).1 (by decide) (by decide) ?_
    refine XS.aloadN X109.here hx rfl (hb hby d8_57) rfl rfl ?_
    exact k)
  obtain ⟨fs, hr, hrun, hended, hW, hsame⟩ := X109.leave (v := some (.ref b102)) (fun h => by rw [Bd.returns] at h; cases h)
  refine ⟨_, _, pre114 _ ?_, hrun, hended, _, _, rfl, ?_, ⟨_, rfl⟩, hW, hsame.mono (by decide) (by decide)⟩
  · exact retOut X109 hx Bd.returns rfl (Or.inr (Or.inr (Or.inr (Or.inr ⟨rfl, rfl, rfl⟩)))) (hb hby d8_58) hr
  · show QD_3 Z a1 k1 x0 x1 x2 h0 n0 _ T109.heap _
    exact ⟨b102, k102, rfl, N109, f113, ga104, sz105, f110⟩
def QE_3 (Z : State) (a1 : Addr) (k1 : ClassId) (x0 x1 x2 : Int32) (h0 : Heap) (n0 : Nat) (v : Option Value) (h : Heap) (L : List Loc) : Prop := v = some (.int 0) ∧ Fr n0 L ∧ h = h0
theorem rmE_3 (l : Launch) (Z : State) (a0 : Array Value) (hw : own_H Z a0) (ws : List Jvm.Cond) (a1 : Addr) (k1 : ClassId) (x0 x1 x2 : Int32) (h0 : Heap) (n0 : Nat) (Z0 : n0 ≤ h0.size) (V1 : Arv Z h0 a1 k1 .byte (3 : Int32) [(.int (nar .byte (x0.toInt8.toInt32))), (.int (nar .byte (x1.toInt8.toInt32))), (.int (nar .byte (x2.toInt8.toInt32)))] (.int 0)) :
    own_M l own_y2 jdk_52_method_15_code 2 (some .byte) ws (own_R 0 0 0 0) Z h0 #[(.ref a1), (.int 3)] (QE_3 Z a1 k1 x0 x1 x2 h0 n0) := by
  refine own_body (plainFor_of_name pn_java_lang_StringUTF16) fun p e s m below meth c s₁ Bd hx hby hml (hown : s.vm.findClass "java/lang/StringUTF16" = some m.cls) hnm X0 e0 hZ => ?_
  have N0 := Fr.nil n0
  have pre0 : own_P p e below s₁ (entryFrame m #[(.ref a1), (.int 3)] 2) s₁ (mkF m 0 #[rv a1, iv 3] []) := fun t k => castTop (by first | rfl | (simp [entryFrame, mkF, argsToLocals, Value.category]; done)) k
  obtain ⟨cl101, Ar101, q101, S101, N101z, H101, G101⟩ := (id V1)
  have pre102 : own_P p e below s₁ (entryFrame m #[(.ref a1), (.int 3)] 2) s₁ (mkF m 8 #[rv a1, iv 3] [(.int ((((0 : Int32).toUInt32 >>> ((31 : Int32) &&& 31).toUInt32).toInt32).toInt8.toInt32))]) := fun t k => pre0 t (by
    show Steps p.tables e below (s₁.setTop (mkF m 0 #[rv a1, iv 3] [])) t
    refine XS.iloadN X0.here hx rfl (hb hby d10_0) rfl ?_
    refine XS.aloadN X0.here hx rfl (hb hby d10_1) rfl rfl ?_
    refine X0.arraylength hx (by rw [e0]; exact Ar101.1) (State.isArrayOf_alike hZ.alike Ar101.2.1) (g := (mkF m 2 #[rv a1, iv 3] [(.ref a1), (.int 3)])) rfl rfl (hb hby d10_2) _ ?_
    rw [len_of S101 N101z]
    refine XS.isub X0.here hx rfl (hb hby d10_3) rfl ?_
    refine XS.bipush X0.here hx rfl (hb hby d10_4) ?_
    refine XS.iushr X0.here hx rfl (hb hby d10_6) rfl ?_
    refine XS.i2b X0.here hx rfl (hb hby d10_7) rfl ?_
    exact k)
  obtain ⟨fs, hr, hrun, hended, hW, hsame⟩ := X0.leave (v := some (.int (nar .byte ((((0 : Int32).toUInt32 >>> ((31 : Int32) &&& 31).toUInt32).toInt32).toInt8.toInt32)))) (fun h => by rw [Bd.returns] at h; cases h)
  refine ⟨_, _, pre102 _ ?_, hrun, hended, _, _, rfl, ?_, ⟨_, rfl⟩, hW, hsame.mono (by decide) (by decide)⟩
  · exact retN X0 hx (t := .byte) Bd.returns (by simp) (hb hby d10_8) hr
  · show QE_3 Z a1 k1 x0 x1 x2 h0 n0 _ s₁.heap _
    rw [e0]
    exact ⟨rfl, N0, rfl⟩
def QF_3 (Z : State) (a1 a2 : Addr) (k2 : ClassId) (cs x0 x1 x2 : Int32) (h0 : Heap) (n0 : Nat) (v : Option Value) (h : Heap) (L : List Loc) : Prop := ∃ (t : Addr) (kt : ClassId), v = none ∧ Fr n0 L ∧ Keep h0 h [a1] ∧ (Exa Z h a1 "java/lang/String") ∧ (Fld Z h a1 "java/lang/String" "coder" "B" (.int 0)) ∧ (Fld Z h a1 "java/lang/String" "value" "[B" (.ref t)) ∧ (n0 ≤ t) ∧ (h0.size ≤ t) ∧ (Arv Z h t kt .byte (3 : Int32) [(.int (nar .byte (x0.toInt8.toInt32))), (.int (nar .byte (x1.toInt8.toInt32))), (.int (nar .byte (x2.toInt8.toInt32)))] (.int 0))
theorem rmF_3 (l : Launch) (Z : State) (a0 : Array Value) (hw : own_H Z a0) (ws : List Jvm.Cond) (a1 a2 : Addr) (k2 : ClassId) (cs x0 x1 x2 : Int32) (h0 : Heap) (n0 : Nat) (Z0 : n0 ≤ h0.size) (F1 : Fld Z h0 a1 "java/lang/String" "value" "[B" .null) (F2 : Fld Z h0 a1 "java/lang/String" "coder" "B" (.int 0)) (E1 : Exa Z h0 a1 "java/lang/String") (g1 : n0 ≤ a1) (V2 : Arv Z h0 a2 k2 .char (3 : Int32) [(.int x0), (.int x1), (.int x2)] (.int 0)) (SC : Sta Z h0 "java/lang/String" "COMPACT_STRINGS" "Z" (.int cs)) (hcs : ¬ (cs = (0 : Int32))) (ne : a1 ≠ a2) (hx0 : ¬ ((255 : Int32) < x0)) (hx1 : ¬ ((255 : Int32) < x1)) (hx2 : ¬ ((255 : Int32) < x2)) :
    own_M l own_y3 jdk_42_method_149_code 6 none ws (own_R 2 1 3 35) Z h0 #[(.ref a1), (.ref a2), (.int 0), (.int 3), .null] (QF_3 Z a1 a2 k2 cs x0 x1 x2 h0 n0) := by
  refine own_body (plainFor_of_name pn_java_lang_String) fun p e s m below meth c s₁ Bd hx hby hml (hown : s.vm.findClass "java/lang/String" = some m.cls) hnm X0 e0 hZ => ?_
  have N0 := Fr.nil n0
  have pre0 : own_P p e below s₁ (entryFrame m #[(.ref a1), (.ref a2), (.int 0), (.int 3), .null] 6) s₁ (mkF m 0 #[rv a1, rv a2, iv 0, iv 3, .val .null, .unset] []) := fun t k => castTop (by first | rfl | (simp [entryFrame, mkF, argsToLocals, Value.category]; done)) k
  have f101 := Keep.refl h0 [a1]
  obtain ⟨T102, X102, e102, st102⟩ := initO X0 hx hZ hown (own_i hw 19 rfl) (own_i hw 20 rfl) (own_i hw 21 rfl) e0 (g := (mkF m 1 #[rv a1, rv a2, iv 0, iv 3, .val .null, .unset] [(.ref a1)])) rfl (by rw [hml]; rfl) rfl (hb hby d4_1) (by decide) (W := 0) (Nat.le_of_eq rfl) (by decide)
  obtain ⟨T103, X103, e103, st103⟩ := getS2 X102 hx hZ hown (host := "") (Or.inl (own_i hw 39 rfl)) Via.refl e102 SC (g := (mkF m 27 #[rv a1, rv a2, iv 0, iv 3, .val .null, .unset] [])) rfl (hb hby d4_27)
  obtain ⟨_, _, ⟨T104, L104, k104, n104⟩, -, X104, ⟨Lc104, hQ104, l104, y104, z104⟩, st104⟩ := Jvm.LawKit.callS X103 hx (y := own_y1) hown (own_m hZ hw 40) (own_m hZ hw 41) (own_m hZ hw 42) (own_m hZ hw 43) (by decide) (backOf (W := 0) (rmD_3 l Z a0 hw [] a2 k2 x0 x1 x2 h0 n0 Z0 V2 hx0 hx1 hx2) hZ (own_i hw 43 rfl) (own_i hw 42 rfl) (by decide) (by decide)) (g := (mkF m 36 #[rv a1, rv a2, iv 0, iv 3, .val .null, .unset] [(.int 3), (.int 0), (.ref a2)])) rfl (by rw [hml]; rfl) (argsL := [(.ref a2), (.int 0), (.int 3)]) (rest := []) (lenOf pd_1 rfl) rfl (Nat.le_of_eq rfl) (hb hby d4_36) (fun _ _ => ⟨rfl, e103, own_le rfl, own_le rfl⟩)
  dsimp only [Pt.U, Pt.locs, Pt.cells, Pt.slots] at X104 l104 y104 z104 st104 hQ104
  subst l104 y104 z104
  obtain ⟨b105, x106, rfl, N104q, K104, f107, f108, f109⟩ := hQ104
  have N104 := Fr.app N0 N104q
  have ne110 : a1 ≠ b105 := Nat.ne_of_lt (Nat.lt_of_lt_of_le F1.lt f108)
  have ne111 : a2 ≠ b105 := Nat.ne_of_lt (Nat.lt_of_lt_of_le V2.lt f108)
  have f112 := Nat.le_trans Z0 K104.1
  have f113 := F1.keep K104 nin0
  have f114 := F2.keep K104 nin0
  have f115 := E1.keep K104
  have f116 := V2.keep K104 nin0
  have f117 := f101.trans K104 all0
  obtain ⟨_, _, ⟨T118, L118, k118, n118⟩, -, X118, ⟨Lc118, hQ118, l118, y118, z118⟩, st118⟩ := Jvm.LawKit.callS X104 hx (y := own_y2) hown (own_m hZ hw 47) (own_m hZ hw 48) (own_m hZ hw 42) (own_m hZ hw 49) (by decide) (backOf (W := 1) (rmE_3 l Z a0 hw [] b105 x106 x0 x1 x2 T104.heap n0 f112 f109) hZ (own_i hw 49 rfl) (own_i hw 42 rfl) (by decide) (by decide)) (g := (mkF m 45 #[rv a1, rv a2, iv 0, iv 3, .val .null, rv b105] [(.int 3), (.ref b105), (.ref a1)])) rfl (by rw [hml]; rfl) (argsL := [(.ref b105), (.int 3)]) (rest := [(.ref a1)]) (lenOf pd_2 rfl) rfl (Nat.le_of_eq rfl) (hb hby d4_45) (fun _ _ => ⟨rfl, rfl, own_le rfl, own_le rfl⟩)
  dsimp only [Pt.U, Pt.locs, Pt.cells, Pt.slots] at X118 l118 y118 z118 st118 hQ118
  subst l118 y118 z118
  obtain ⟨rfl, N118q, e118⟩ := hQ118
  have N118 := Fr.app N104 N118q
  obtain ⟨T119, h119, X119, e119, W119, st119⟩ := putFN X118 hx hZ hown (own_i hw 29 rfl) Via.refl e118 f114 f115 (Or.inr ⟨(own_i hw 25 rfl), rfl, hnm⟩) (own_i hw 9 rfl) (ty := .byte) (v' := (.int 0)) (by decide) rfl (by decide) (g := (mkF m 48 #[rv a1, rv a2, iv 0, iv 3, .val .null, rv b105] [(.int 0), (.ref a1)])) rfl rfl (hb hby d4_48)
  have Fw119 := f114.same W119
  have N119 := Fr.snoc X119 N118 g1
  have f120 := Nat.le_trans f112 (Keep.of_wr W119).1
  have f121 := f113.other W119 (Or.inr (slot_ne (Or.inr (own_i hw 24 rfl)) (Or.inr (own_i hw 25 rfl)) (by decide) (t := (.array .byte)) (t' := .byte) (by decide) (by decide)))
  have f122 := f115.wr W119
  have f123 := f116.other W119 (Ne.symm ne)
  have f124 := f117.wr W119 (Or.inl (List.mem_of_getElem? (i := 0) rfl))
  have f125 := f109.other W119 (Ne.symm ne110)
  obtain ⟨T126, h126, X126, e126, W126, st126⟩ := putF X119 hx hZ hown (host := "") (Or.inl (own_i hw 28 rfl)) Via.refl e119 f121 f122 (Or.inr ⟨(own_i hw 24 rfl), rfl, hnm⟩) (own_i hw 9 rfl) (ty := (.array .byte)) (by decide) rfl rfl (g := (mkF m 54 #[rv a1, rv a2, iv 0, iv 3, .val .null, rv b105] [(.ref b105), (.ref a1)])) rfl rfl (hb hby d4_54)
  have Fw126 := f121.same W126
  have N126 := Fr.snoc X126 N119 g1
  have f127 := Nat.le_trans f120 (Keep.of_wr W126).1
  have f128 := f122.wr W126
  have f129 := f123.other W126 (Ne.symm ne)
  have f130 := f124.wr W126 (Or.inl (List.mem_of_getElem? (i := 0) rfl))
  have f131 := f125.other W126 (Ne.symm ne110)
  have f132 := Fw119.other W126 (Or.inr (slot_ne (Or.inr (own_i hw 25 rfl)) (Or.inr (own_i hw 24 rfl)) (by decide) (t := .byte) (t' := (.array .byte)) (by decide) (by decide)))
  have pre133 : own_P p e below s₁ (entryFrame m #[(.ref a1), (.ref a2), (.int 0), (.int 3), .null] 6) T126 (mkF m 57 #[rv a1, rv a2, iv 0, iv 3, .val .null, rv b105] []) := fun t k => pre0 t (by
    show Steps p.tables e below (s₁.setTop (mkF m 0 #[rv a1, rv a2, iv 0, iv 3, .val .null, .unset] [])) t
    refine XS.aloadN X0.here hx rfl (hb hby d4_0) rfl rfl ?_
    refine st102 _ ?_
    refine XS.iloadN X102.here hx rfl (hb hby d4_4) rfl ?_
    refine XS.ifYes X102.here hx rfl (pc0 := 5) (pc' := 27) rfl (hb hby d4_5) rfl ((if0 _ _).trans (feq (by decide : ¬ ((3 : Int32) = (0 : Int32)))).2) (by decide) (by decide) ?_
    refine st103 _ ?_
    refine XS.ifNo X103.here hx rfl (hb hby d4_30) rfl ((if0 _ _).trans (feq hcs).1) ?_
    refine XS.aloadN X103.here hx rfl (hb hby d4_33) rfl rfl ?_
    refine XS.iloadN X103.here hx rfl (hb hby d4_34) rfl ?_
    refine XS.iloadN X103.here hx rfl (hb hby d4_35) rfl ?_
    refine st104 _ ?_
    refine XS.astore X104.here hx rfl (hb hby d4_39) rfl rfl (l' := #[rv a1, rv a2, iv 0, iv 3, .val .null, rv b105]) rfl ?_
    refine XS.aloadN X104.here hx rfl (hb hby d4_41) rfl rfl ?_
    refine XS.aload X104.here hx rfl (hb hby d4_42) rfl rfl ?_
    refine XS.iloadN X104.here hx rfl (hb hby d4_44) rfl ?_
    refine st118 _ ?_
    refine st119 _ ?_
    refine XS.aloadN X119.here hx rfl (hb hby d4_51) rfl rfl ?_
    refine XS.aload X119.here hx rfl (hb hby d4_52) rfl rfl ?_
    refine st126 _ ?_
    exact k)
  obtain ⟨fs, hr, hrun, hended, hW, hsame⟩ := X126.leave (v := none) (fun _ => rfl)
  refine ⟨_, _, pre133 _ ?_, hrun, hended, _, _, rfl, ?_, ⟨_, rfl⟩, hW, hsame.mono (by decide) (by decide)⟩
  · exact X126.returnOut hx Bd.returns (hb hby d4_57) hr
  · show QF_3 Z a1 a2 k2 cs x0 x1 x2 h0 n0 _ T126.heap _
    rw [e126]
    exact ⟨b105, x106, rfl, N126, f130, f128, f132, Fw126, f107, f108, f131⟩
def QG_3 (Z : State) (a1 a2 : Addr) (k2 : ClassId) (cs x0 x1 x2 : Int32) (h0 : Heap) (n0 : Nat) (v : Option Value) (h : Heap) (L : List Loc) : Prop := ∃ (t : Addr) (kt : ClassId), v = none ∧ Fr n0 L ∧ Keep h0 h [a1] ∧ (Exa Z h a1 "java/lang/String") ∧ (Fld Z h a1 "java/lang/String" "coder" "B" (.int 0)) ∧ (Fld Z h a1 "java/lang/String" "value" "[B" (.ref t)) ∧ (n0 ≤ t) ∧ (h0.size ≤ t) ∧ (Arv Z h t kt .byte (3 : Int32) [(.int (nar .byte (x0.toInt8.toInt32))), (.int (nar .byte (x1.toInt8.toInt32))), (.int (nar .byte (x2.toInt8.toInt32)))] (.int 0))
theorem rmG_3 (l : Launch) (Z : State) (a0 : Array Value) (hw : own_H Z a0) (ws : List Jvm.Cond) (a1 a2 : Addr) (k2 : ClassId) (cs x0 x1 x2 : Int32) (h0 : Heap) (n0 : Nat) (Z0 : n0 ≤ h0.size) (F1 : Fld Z h0 a1 "java/lang/String" "value" "[B" .null) (F2 : Fld Z h0 a1 "java/lang/String" "coder" "B" (.int 0)) (E1 : Exa Z h0 a1 "java/lang/String") (g1 : n0 ≤ a1) (V2 : Arv Z h0 a2 k2 .char (3 : Int32) [(.int x0), (.int x1), (.int x2)] (.int 0)) (SC : Sta Z h0 "java/lang/String" "COMPACT_STRINGS" "Z" (.int cs)) (hcs : ¬ (cs = (0 : Int32))) (ne : a1 ≠ a2) (hx0 : ¬ ((255 : Int32) < x0)) (hx1 : ¬ ((255 : Int32) < x1)) (hx2 : ¬ ((255 : Int32) < x2)) :
    own_M l own_y4 jdk_42_method_3_code 2 none ws (own_R 3 1 3 52) Z h0 #[(.ref a1), (.ref a2)] (QG_3 Z a1 a2 k2 cs x0 x1 x2 h0 n0) := by
  refine own_body (plainFor_of_name pn_java_lang_String) fun p e s m below meth c s₁ Bd hx hby hml (hown : s.vm.findClass "java/lang/String" = some m.cls) hnm X0 e0 hZ => ?_
  have N0 := Fr.nil n0
  have pre0 : own_P p e below s₁ (entryFrame m #[(.ref a1), (.ref a2)] 2) s₁ (mkF m 0 #[rv a1, rv a2] []) := fun t k => castTop (by first | rfl | (simp [entryFrame, mkF, argsToLocals, Value.category]; done)) k
  have f101 := Keep.refl h0 [a1]
  obtain ⟨cl102, Ar102, q102, S102, N102z, H102, G102⟩ := (id V2)
  obtain ⟨_, _, ⟨T103, L103, k103, n103⟩, -, X103, ⟨Lc103, hQ103, l103, y103, z103⟩, st103⟩ := X0.specialBack hx (y := own_y3) rfl hown (own_m hZ hw 15) (own_m hZ hw 16) (own_m hZ hw 18) (by decide) (backOf (W := 0) (rmF_3 l Z a0 hw [] a1 a2 k2 cs x0 x1 x2 h0 n0 Z0 F1 F2 E1 g1 V2 SC hcs ne hx0 hx1 hx2) hZ (own_i hw 18 rfl) (own_i hw 10 rfl) (by decide) (by decide)) (g := (mkF m 6 #[rv a1, rv a2] [.null, (.int 3), (.int 0), (.ref a2), (.ref a1)])) rfl (by rw [hml]; rfl) (Steps.refl _) (a := a1) (argsL := [(.ref a2), (.int 0), (.int 3), .null]) (rest := []) (lenOf pd_3 rfl) rfl (Nat.le_of_eq rfl) (hb hby d3_6) (fun _ _ => ⟨rfl, e0, own_le rfl, own_le rfl⟩)
  dsimp only [Pt.U, Pt.locs, Pt.cells, Pt.slots] at X103 l103 y103 z103 st103 hQ103
  subst l103 y103 z103
  obtain ⟨b104, x105, rfl, N103q, K103, f106, f107, f108, f109, f110, f111⟩ := hQ103
  have N103 := Fr.app N0 N103q
  have ne112 : a1 ≠ b104 := Nat.ne_of_lt (Nat.lt_of_lt_of_le F1.lt f110)
  have ne113 : a2 ≠ b104 := Nat.ne_of_lt (Nat.lt_of_lt_of_le V2.lt f110)
  have f114 := Nat.le_trans Z0 K103.1
  have f115 := V2.keep K103 (ninS (Ne.symm ne) nin0)
  have f116 := f101.trans K103 (allS (Or.inl (List.mem_of_getElem? (i := 0) rfl)) all0)
  have pre117 : own_P p e below s₁ (entryFrame m #[(.ref a1), (.ref a2)] 2) T103 (mkF m 9 #[rv a1, rv a2] []) := fun t k => pre0 t (by
    show Steps p.tables e below (s₁.setTop (mkF m 0 #[rv a1, rv a2] [])) t
    refine XS.aloadN X0.here hx rfl (hb hby d3_0) rfl rfl ?_
    refine XS.aloadN X0.here hx rfl (hb hby d3_1) rfl rfl ?_
    refine XS.iconst X0.here hx rfl (hb hby d3_2) ?_
    refine XS.aloadN X0.here hx rfl (hb hby d3_3) rfl rfl ?_
    refine X0.arraylength hx (by rw [e0]; exact Ar102.1) (State.isArrayOf_alike hZ.alike Ar102.2.1) (g := (mkF m 4 #[rv a1, rv a2] [(.ref a2), (.int 0), (.ref a2), (.ref a1)])) rfl rfl (hb hby d3_4) _ ?_
    rw [len_of S102 N102z]
    refine XS.aconstNull X0.here hx rfl (hb hby d3_5) ?_
    refine st103.trans ?_
    exact k)
  obtain ⟨fs, hr, hrun, hended, hW, hsame⟩ := X103.leave (v := none) (fun _ => rfl)
  refine ⟨_, _, pre117 _ ?_, hrun, hended, _, _, rfl, ?_, ⟨_, rfl⟩, hW, hsame.mono (by decide) (by decide)⟩
  · exact X103.returnOut hx Bd.returns (hb hby d3_9) hr
  · show QG_3 Z a1 a2 k2 cs x0 x1 x2 h0 n0 _ T103.heap _
    exact ⟨b104, x105, rfl, N103, f116, f106, f107, f108, f109, f110, f111⟩
def QC_4 (Z : State) (a1 a3 : Addr) (k1 k3 : ClassId) (x0 x1 x2 x3 : Int32) (h0 : Heap) (n0 : Nat) (v : Option Value) (h : Heap) (L : List Loc) : Prop := v = some (.int 4) ∧ Fr n0 L ∧ Keep h0 h [a3] ∧ (Arv Z h a3 k3 .byte (4 : Int32) [(.int (nar .byte (x0.toInt8.toInt32))), (.int (nar .byte (x1.toInt8.toInt32))), (.int (nar .byte (x2.toInt8.toInt32))), (.int (nar .byte (x3.toInt8.toInt32)))] (.int 0))
theorem rmC_4 (l : Launch) (Z : State) (a0 : Array Value) (hw : own_H Z a0) (ws : List Jvm.Cond) (a1 a3 : Addr) (k1 k3 : ClassId) (x0 x1 x2 x3 : Int32) (h0 : Heap) (n0 : Nat) (Z0 : n0 ≤ h0.size) (V1 : Arv Z h0 a1 k1 .char (4 : Int32) [(.int x0), (.int x1), (.int x2), (.int x3)] (.int 0)) (V3 : Arv Z h0 a3 k3 .byte (4 : Int32) [(.int 0), (.int 0), (.int 0), (.int 0)] (.int 0)) (g3 : n0 ≤ a3) (ne : a1 ≠ a3) (hx0 : ¬ ((255 : Int32) < x0)) (hx1 : ¬ ((255 : Int32) < x1)) (hx2 : ¬ ((255 : Int32) < x2)) (hx3 : ¬ ((255 : Int32) < x3)) :
    own_M l own_y0 jdk_52_method_21_code 7 (some .int) ws (own_R 0 0 0 0) Z h0 #[(.ref a1), (.int 0), (.ref a3), (.int 0), (.int 4)] (QC_4 Z a1 a3 k1 k3 x0 x1 x2 x3 h0 n0) := by
  refine own_body (plainFor_of_name pn_java_lang_StringUTF16) fun p e s m below meth c s₁ Bd hx hby hml (hown : s.vm.findClass "java/lang/StringUTF16" = some m.cls) hnm X0 e0 hZ => ?_
  have N0 := Fr.nil n0
  have pre0 : own_P p e below s₁ (entryFrame m #[(.ref a1), (.int 0), (.ref a3), (.int 0), (.int 4)] 7) s₁ (mkF m 0 #[rv a1, iv 0, rv a3, iv 0, iv 4, .unset, .unset] []) := fun t k => castTop (by first | rfl | (simp [entryFrame, mkF, argsToLocals, Value.category]; done)) k
  have f101 := Keep.refl h0 [a3]
  obtain ⟨cl102, Ar102, q102, S102, N102z, H102, G102⟩ := (id V1)
  have hin102 : ¬ ((0 : Int32) < 0 ∨ cl102.slots.size ≤ ((0 : Int32)).toNatClampNeg) := inb_of S102 ⟨by decide, by decide⟩
  have hat102 : cl102.slots[((0 : Int32)).toNatClampNeg]? = some (.int x0) := Has.at H102 hin102 rfl
  obtain ⟨cl103, Ar103, q103, S103, N103z, H103, G103⟩ := (id V3)
  have hin103 : ¬ ((0 : Int32) < 0 ∨ cl103.slots.size ≤ ((0 : Int32)).toNatClampNeg) := inb_of S103 ⟨by decide, by decide⟩
  obtain ⟨T103, h103, X103, e103, W103, st103⟩ := stB X0 hx hZ e0 Ar103 (j := (0 : Int32)) hin103 (g := (mkF m 31 #[rv a1, iv 0, rv a3, iv 0, iv 4, iv 0, iv x0] [(.int (x0.toInt8.toInt32)), (.int 0), (.ref a3)])) rfl rfl (hb hby d9_31)
  have V103 : Arv Z h103 a3 k3 .byte (4 : Int32) [(.int (nar .byte (x0.toInt8.toInt32))), (.int 0), (.int 0), (.int 0)] (.int 0) := Arv.set Ar103 q103 S103 N103z H103 G103 (fits_nar_byte _) W103 0 rfl (Nat.le_of_ble_eq_true rfl)
  have N103 := Fr.snoc X103 N0 g3
  have f104 := Nat.le_trans Z0 (Keep.of_wr W103).1
  have f105 := V1.other W103 ne
  have f106 := f101.wr W103 (Or.inl (List.mem_of_getElem? (i := 0) rfl))
  obtain ⟨cl107, Ar107, q107, S107, N107z, H107, G107⟩ := (id f105)
  have hin107 : ¬ ((1 : Int32) < 0 ∨ cl107.slots.size ≤ ((1 : Int32)).toNatClampNeg) := inb_of S107 ⟨by decide, by decide⟩
  have hat107 : cl107.slots[((1 : Int32)).toNatClampNeg]? = some (.int x1) := Has.at H107 hin107 rfl
  obtain ⟨cl108, Ar108, q108, S108, N108z, H108, G108⟩ := (id V103)
  have hin108 : ¬ ((1 : Int32) < 0 ∨ cl108.slots.size ≤ ((1 : Int32)).toNatClampNeg) := inb_of S108 ⟨by decide, by decide⟩
  obtain ⟨T108, h108, X108, e108, W108, st108⟩ := stB X103 hx hZ e103 Ar108 (j := (1 : Int32)) hin108 (g := (mkF m 31 #[rv a1, iv 1, rv a3, iv 1, iv 4, iv 1, iv x1] [(.int (x1.toInt8.toInt32)), (.int 1), (.ref a3)])) rfl rfl (hb hby d9_31)
  have V108 : Arv Z h108 a3 k3 .byte (4 : Int32) [(.int (nar .byte (x0.toInt8.toInt32))), (.int (nar .byte (x1.toInt8.toInt32))), (.int 0), (.int 0)] (.int 0) := Arv.set Ar108 q108 S108 N108z H108 G108 (fits_nar_byte _) W108 1 rfl (Nat.le_of_ble_eq_true rfl)
  have N108 := Fr.snoc X108 N103 g3
  have f109 := Nat.le_trans f104 (Keep.of_wr W108).1
  have f110 := f105.other W108 ne
  have f111 := f106.wr W108 (Or.inl (List.mem_of_getElem? (i := 0) rfl))
  obtain ⟨cl112, Ar112, q112, S112, N112z, H112, G112⟩ := (id f110)
  have hin112 : ¬ ((2 : Int32) < 0 ∨ cl112.slots.size ≤ ((2 : Int32)).toNatClampNeg) := inb_of S112 ⟨by decide, by decide⟩
  have hat112 : cl112.slots[((2 : Int32)).toNatClampNeg]? = some (.int x2) := Has.at H112 hin112 rfl
  obtain ⟨cl113, Ar113, q113, S113, N113z, H113, G113⟩ := (id V108)
  have hin113 : ¬ ((2 : Int32) < 0 ∨ cl113.slots.size ≤ ((2 : Int32)).toNatClampNeg) := inb_of S113 ⟨by decide, by decide⟩
  obtain ⟨T113, h113, X113, e113, W113, st113⟩ := stB X108 hx hZ e108 Ar113 (j := (2 : Int32)) hin113 (g := (mkF m 31 #[rv a1, iv 2, rv a3, iv 2, iv 4, iv 2, iv x2] [(.int (x2.toInt8.toInt32)), (.int 2), (.ref a3)])) rfl rfl (hb hby d9_31)
  have V113 : Arv Z h113 a3 k3 .byte (4 : Int32) [(.int (nar .byte (x0.toInt8.toInt32))), (.int (nar .byte (x1.toInt8.toInt32))), (.int (nar .byte (x2.toInt8.toInt32))), (.int 0)] (.int 0) := Arv.set Ar113 q113 S113 N113z H113 G113 (fits_nar_byte _) W113 2 rfl (Nat.le_of_ble_eq_true rfl)
  have N113 := Fr.snoc X113 N108 g3
  have f114 := Nat.le_trans f109 (Keep.of_wr W113).1
  have f115 := f110.other W113 ne
  have f116 := f111.wr W113 (Or.inl (List.mem_of_getElem? (i := 0) rfl))
  obtain ⟨cl117, Ar117, q117, S117, N117z, H117, G117⟩ := (id f115)
  have hin117 : ¬ ((3 : Int32) < 0 ∨ cl117.slots.size ≤ ((3 : Int32)).toNatClampNeg) := inb_of S117 ⟨by decide, by decide⟩
  have hat117 : cl117.slots[((3 : Int32)).toNatClampNeg]? = some (.int x3) := Has.at H117 hin117 rfl
  obtain ⟨cl118, Ar118, q118, S118, N118z, H118, G118⟩ := (id V113)
  have hin118 : ¬ ((3 : Int32) < 0 ∨ cl118.slots.size ≤ ((3 : Int32)).toNatClampNeg) := inb_of S118 ⟨by decide, by decide⟩
  obtain ⟨T118, h118, X118, e118, W118, st118⟩ := stB X113 hx hZ e113 Ar118 (j := (3 : Int32)) hin118 (g := (mkF m 31 #[rv a1, iv 3, rv a3, iv 3, iv 4, iv 3, iv x3] [(.int (x3.toInt8.toInt32)), (.int 3), (.ref a3)])) rfl rfl (hb hby d9_31)
  have V118 : Arv Z h118 a3 k3 .byte (4 : Int32) [(.int (nar .byte (x0.toInt8.toInt32))), (.int (nar .byte (x1.toInt8.toInt32))), (.int (nar .byte (x2.toInt8.toInt32))), (.int (nar .byte (x3.toInt8.toInt32)))] (.int 0) := Arv.set Ar118 q118 S118 N118z H118 G118 (fits_nar_byte _) W118 3 rfl (Nat.le_of_ble_eq_true rfl)
  have N118 := Fr.snoc X118 N113 g3
  have f119 := Nat.le_trans f114 (Keep.of_wr W118).1
  have f120 := f115.other W118 ne
  have f121 := f116.wr W118 (Or.inl (List.mem_of_getElem? (i := 0) rfl))
  have pre122 : own_P p e below s₁ (entryFrame m #[(.ref a1), (.int 0), (.ref a3), (.int 0), (.int 4)] 7) T118 (mkF m 46 #[rv a1, iv 4, rv a3, iv 4, iv 4, iv 4, iv x3] [(.int 4)]) := fun t k => pre0 t (by
    show Steps p.tables e below (s₁.setTop (mkF m 0 #[rv a1, iv 0, rv a3, iv 0, iv 4, .unset, .unset] [])) t
    refine XS.iconst X0.here hx rfl (hb hby d9_0) ?_
    refine XS.istore X0.here hx rfl (hb hby d9_1) rfl (l' := #[rv a1, iv 0, rv a3, iv 0, iv 4, iv 0, .unset]) rfl ?_
    refine XS.iload X0.here hx rfl (hb hby d9_3) rfl ?_
    refine XS.iload X0.here hx rfl (hb hby d9_5) rfl ?_
    refine XS.icmpNo X0.here hx rfl (hb hby d9_7) rfl (tlt (by decide : (0 : Int32) < (4 : Int32))).2.1 ?_
    refine XS.aloadN X0.here hx rfl (hb hby d9_10) rfl rfl ?_
    refine XS.iloadN X0.here hx rfl (hb hby d9_11) rfl ?_
    refine X0.caload hx (j := (0 : Int32)) (v := (.int x0)) (by rw [e0]; exact Ar102.1) (State.isArrayOf_alike hZ.alike Ar102.2.1) Ar102.2.2 hin102 hat102 (g := (mkF m 12 #[rv a1, iv 0, rv a3, iv 0, iv 4, iv 0, .unset] [(.int 0), (.ref a1)])) rfl rfl (hb hby d9_12) _ ?_
    refine XS.istore X0.here hx rfl (hb hby d9_13) rfl (l' := #[rv a1, iv 0, rv a3, iv 0, iv 4, iv 0, iv x0]) rfl ?_
    refine XS.iload X0.here hx rfl (hb hby d9_15) rfl ?_
    refine XS.sipush X0.here hx rfl (hb hby d9_17) ?_
    refine XS.icmpYes X0.here hx rfl (pc0 := 20) (pc' := 26) rfl (hb hby d9_20) rfl (flt hx0).2.2.2 (by decide) (by decide) ?_
    refine XS.aloadN X0.here hx rfl (hb hby d9_26) rfl rfl ?_
    refine XS.iloadN X0.here hx rfl (hb hby d9_27) rfl ?_
    refine XS.iload X0.here hx rfl (hb hby d9_28) rfl ?_
    refine XS.i2b X0.here hx rfl (hb hby d9_30) rfl ?_
    refine st103 _ ?_
    refine XS.iinc X103.here hx rfl (hb hby d9_32) rfl (l' := #[rv a1, iv 1, rv a3, iv 0, iv 4, iv 0, iv x0]) rfl ?_
    refine XS.iinc X103.here hx rfl (hb hby d9_35) rfl (l' := #[rv a1, iv 1, rv a3, iv 1, iv 4, iv 0, iv x0]) rfl ?_
    refine XS.iinc X103.here hx rfl (hb hby d9_38) rfl (l' := #[rv a1, iv 1, rv a3, iv 1, iv 4, iv 1, iv x0]) rfl ?_
    refine XS.goto X103.here hx rfl (pc0 := 41) (pc' := 3) rfl (hb hby d9_41) (by decide) (by decide) ?_
    refine XS.iload X103.here hx rfl (hb hby d9_3) rfl ?_
    refine XS.iload X103.here hx rfl (hb hby d9_5) rfl ?_
    refine XS.icmpNo X103.here hx rfl (hb hby d9_7) rfl (tlt (by decide : (1 : Int32) < (4 : Int32))).2.1 ?_
    refine XS.aloadN X103.here hx rfl (hb hby d9_10) rfl rfl ?_
    refine XS.iloadN X103.here hx rfl (hb hby d9_11) rfl ?_
    refine X103.caload hx (j := (1 : Int32)) (v := (.int x1)) (by rw [e103]; exact Ar107.1) (State.isArrayOf_alike hZ.alike Ar107.2.1) Ar107.2.2 hin107 hat107 (g := (mkF m 12 #[rv a1, iv 1, rv a3, iv 1, iv 4, iv 1, iv x0] [(.int 1), (.ref a1)])) rfl rfl (hb hby d9_12) _ ?_
    refine XS.istore X103.here hx rfl (hb hby d9_13) rfl (l' := #[rv a1, iv 1, rv a3, iv 1, iv 4, iv 1, iv x1]) rfl ?_
    refine XS.iload X103.here hx rfl (hb hby d9_15) rfl ?_
    refine XS.sipush X103.here hx rfl (hb hby d9_17) ?_
    refine XS.icmpYes X103.here hx rfl (pc0 := 20) (pc' := 26) rfl (hb hby d9_20) rfl (flt hx1).2.2.2 (by decide) (by decide) ?_
    refine XS.aloadN X103.here hx rfl (hb hby d9_26) rfl rfl ?_
    refine XS.iloadN X103.here hx rfl (hb hby d9_27) rfl ?_
    refine XS.iload X103.here hx rfl (hb hby d9_28) rfl ?_
    refine XS.i2b X103.here hx rfl (hb hby d9_30) rfl ?_
    refine st108 _ ?_
    refine XS.iinc X108.here hx rfl (hb hby d9_32) rfl (l' := #[rv a1, iv 2, rv a3, iv 1, iv 4, iv 1, iv x1]) rfl ?_
    refine XS.iinc X108.here hx rfl (hb hby d9_35) rfl (l' := #[rv a1, iv 2, rv a3, iv 2, iv 4, iv 1, iv x1]) rfl ?_
    refine XS.iinc X108.here hx rfl (hb hby d9_38) rfl (l' := #[rv a1, iv 2, rv a3, iv 2, iv 4, iv 2, iv x1]) rfl ?_
    refine XS.goto X108.here hx rfl (pc0 := 41) (pc' := 3) rfl (hb hby d9_41) (by decide) (by decide) ?_
    refine XS.iload X108.here hx rfl (hb hby d9_3) rfl ?_
    refine XS.iload X108.here hx rfl (hb hby d9_5) rfl ?_
    refine XS.icmpNo X108.here hx rfl (hb hby d9_7) rfl (tlt (by decide : (2 : Int32) < (4 : Int32))).2.1 ?_
    refine XS.aloadN X108.here hx rfl (hb hby d9_10) rfl rfl ?_
    refine XS.iloadN X108.here hx rfl (hb hby d9_11) rfl ?_
    refine X108.caload hx (j := (2 : Int32)) (v := (.int x2)) (by rw [e108]; exact Ar112.1) (State.isArrayOf_alike hZ.alike Ar112.2.1) Ar112.2.2 hin112 hat112 (g := (mkF m 12 #[rv a1, iv 2, rv a3, iv 2, iv 4, iv 2, iv x1] [(.int 2), (.ref a1)])) rfl rfl (hb hby d9_12) _ ?_
    refine XS.istore X108.here hx rfl (hb hby d9_13) rfl (l' := #[rv a1, iv 2, rv a3, iv 2, iv 4, iv 2, iv x2]) rfl ?_
    refine XS.iload X108.here hx rfl (hb hby d9_15) rfl ?_
    refine XS.sipush X108.here hx rfl (hb hby d9_17) ?_
    refine XS.icmpYes X108.here hx rfl (pc0 := 20) (pc' := 26) rfl (hb hby d9_20) rfl (flt hx2).2.2.2 (by decide) (by decide) ?_
    refine XS.aloadN X108.here hx rfl (hb hby d9_26) rfl rfl ?_
    refine XS.iloadN X108.here hx rfl (hb hby d9_27) rfl ?_
    refine XS.iload X108.here hx rfl (hb hby d9_28) rfl ?_
    refine XS.i2b X108.here hx rfl (hb hby d9_30) rfl ?_
    refine st113 _ ?_
    refine XS.iinc X113.here hx rfl (hb hby d9_32) rfl (l' := #[rv a1, iv 3, rv a3, iv 2, iv 4, iv 2, iv x2]) rfl ?_
    refine XS.iinc X113.here hx rfl (hb hby d9_35) rfl (l' := #[rv a1, iv 3, rv a3, iv 3, iv 4, iv 2, iv x2]) rfl ?_
    refine XS.iinc X113.here hx rfl (hb hby d9_38) rfl (l' := #[rv a1, iv 3, rv a3, iv 3, iv 4, iv 3, iv x2]) rfl ?_
    refine XS.goto X113.here hx rfl (pc0 := 41) (pc' := 3) rfl (hb hby d9_41) (by decide) (by decide) ?_
    refine XS.iload X113.here hx rfl (hb hby d9_3) rfl ?_
    refine XS.iload X113.here hx rfl (hb hby d9_5) rfl ?_
    refine XS.icmpNo X113.here hx rfl (hb hby d9_7) rfl (tlt (by decide : (3 : Int32) < (4 : Int32))).2.1 ?_
    refine XS.aloadN X113.here hx rfl (hb hby d9_10) rfl rfl ?_
    refine XS.iloadN X113.here hx rfl (hb hby d9_11) rfl ?_
    refine X113.caload hx (j := (3 : Int32)) (v := (.int x3)) (by rw [e113]; exact Ar117.1) (State.isArrayOf_alike hZ.alike Ar117.2.1) Ar117.2.2 hin117 hat117 (g := (mkF m 12 #[rv a1, iv 3, rv a3, iv 3, iv 4, iv 3, iv x2] [(.int 3), (.ref a1)])) rfl rfl (hb hby d9_12) _ ?_
    refine XS.istore X113.here hx rfl (hb hby d9_13) rfl (l' := #[rv a1, iv 3, rv a3, iv 3, iv 4, iv 3, iv x3]) rfl ?_
    refine XS.iload X113.here hx rfl (hb hby d9_15) rfl ?_
    refine XS.sipush X113.here hx rfl (hb hby d9_17) ?_
    refine XS.icmpYes X113.here hx rfl (pc0 := 20) (pc' := 26) rfl (hb hby d9_20) rfl (flt hx3).2.2.2 (by decide) (by decide) ?_
    refine XS.aloadN X113.here hx rfl (hb hby d9_26) rfl rfl ?_
    refine XS.iloadN X113.here hx rfl (hb hby d9_27) rfl ?_
    refine XS.iload X113.here hx rfl (hb hby d9_28) rfl ?_
    refine XS.i2b X113.here hx rfl (hb hby d9_30) rfl ?_
    refine st118 _ ?_
    refine XS.iinc X118.here hx rfl (hb hby d9_32) rfl (l' := #[rv a1, iv 4, rv a3, iv 3, iv 4, iv 3, iv x3]) rfl ?_
    refine XS.iinc X118.here hx rfl (hb hby d9_35) rfl (l' := #[rv a1, iv 4, rv a3, iv 4, iv 4, iv 3, iv x3]) rfl ?_
    refine XS.iinc X118.here hx rfl (hb hby d9_38) rfl (l' := #[rv a1, iv 4, rv a3, iv 4, iv 4, iv 4, iv x3]) rfl ?_
    refine XS.goto X118.here hx rfl (pc0 := 41) (pc' := 3) rfl (hb hby d9_41) (by decide) (by decide) ?_
    refine XS.iload X118.here hx rfl (hb hby d9_3) rfl ?_
    refine XS.iload X118.here hx rfl (hb hby d9_5) rfl ?_
    refine XS.icmpYes X118.here hx rfl (pc0 := 7) (pc' := 44) rfl (hb hby d9_7) rfl (flt (by decide : ¬ ((4 : Int32) < (4 : Int32)))).2.1 (by decide) (by decide) ?_
    refine XS.iload X118.here hx rfl (hb hby d9_44) rfl ?_
    exact k)
  obtain ⟨fs, hr, hrun, hended, hW, hsame⟩ := X118.leave (v := some (.int 4)) (fun h => by rw [Bd.returns] at h; cases h)
  refine ⟨_, _, pre122 _ ?_, hrun, hended, _, _, rfl, ?_, ⟨_, rfl⟩, hW, hsame.mono (by decide) (by decide)⟩
  · exact retI X118 hx Bd.returns (hb hby d9_46) hr
  · show QC_4 Z a1 a3 k1 k3 x0 x1 x2 x3 h0 n0 _ T118.heap _
    rw [e118]
    exact ⟨rfl, N118, f121, V118⟩
def QD_4 (Z : State) (a1 : Addr) (k1 : ClassId) (x0 x1 x2 x3 : Int32) (h0 : Heap) (n0 : Nat) (v : Option Value) (h : Heap) (L : List Loc) : Prop := ∃ (b : Addr) (kb : ClassId), v = some (.ref b) ∧ Fr n0 L ∧ Keep h0 h [] ∧ (n0 ≤ b) ∧ (h0.size ≤ b) ∧ (Arv Z h b kb .byte (4 : Int32) [(.int (nar .byte (x0.toInt8.toInt32))), (.int (nar .byte (x1.toInt8.toInt32))), (.int (nar .byte (x2.toInt8.toInt32))), (.int (nar .byte (x3.toInt8.toInt32)))] (.int 0))
theorem rmD_4 (l : Launch) (Z : State) (a0 : Array Value) (hw : own_H Z a0) (ws : List Jvm.Cond) (a1 : Addr) (k1 : ClassId) (x0 x1 x2 x3 : Int32) (h0 : Heap) (n0 : Nat) (Z0 : n0 ≤ h0.size) (V1 : Arv Z h0 a1 k1 .char (4 : Int32) [(.int x0), (.int x1), (.int x2), (.int x3)] (.int 0)) (hx0 : ¬ ((255 : Int32) < x0)) (hx1 : ¬ ((255 : Int32) < x1)) (hx2 : ¬ ((255 : Int32) < x2)) (hx3 : ¬ ((255 : Int32) < x3)) :
    own_M l own_y1 jdk_52_method_16_code 6 (some (.array .byte)) ws (own_R 1 1 4 18) Z h0 #[(.ref a1), (.int 0), (.int 4)] (QD_4 Z a1 k1 x0 x1 x2 x3 h0 n0) := by
  refine own_body (plainFor_of_name pn_java_lang_StringUTF16) fun p e s m below meth c s₁ Bd hx hby hml (hown : s.vm.findClass "java/lang/StringUTF16" = some m.cls) hnm X0 e0 hZ => ?_
  have N0 := Fr.nil n0
  have pre0 : own_P p e below s₁ (entryFrame m #[(.ref a1), (.int 0), (.int 4)] 6) s₁ (mkF m 0 #[rv a1, iv 0, iv 4, .unset, .unset, .unset] []) := fun t k => castTop (by first | rfl | (simp [entryFrame, mkF, argsToLocals, Value.category]; done)) k
  have f101 := Keep.refl h0 []
  obtain ⟨T102, h102, k102, X102, e102, E102, A102, st102⟩ := newP X0 hx hZ (own_i hw 23 rfl) e0 (g := (mkF m 1 #[rv a1, iv 0, iv 4, .unset, .unset, .unset] [(.int 4)])) rfl (hb hby d8_1) rfl (by decide) (cap := 4) (by decide) (by decide) (by decide) (by decide)
  obtain ⟨b102, g102⟩ : ∃ z, z = h0.size := ⟨_, rfl⟩
  rw [← g102] at A102 st102
  have ne103 : a1 ≠ b102 := Nat.ne_of_lt (Nat.lt_of_lt_of_le V1.lt (Nat.le_of_eq g102.symm))
  have ga104 : n0 ≤ b102 := Nat.le_trans Z0 (Nat.le_of_eq g102.symm)
  have sz105 : h0.size ≤ b102 := Nat.le_trans f101.1 (Nat.le_of_eq g102.symm)
  have V102 : Arv Z h102 b102 k102 .byte (4 : Int32) [(.int 0), (.int 0), (.int 0), (.int 0)] (.int 0) := (Arv.new A102 (by decide)).pad (pad_rep [] (.int 0) 4)
  have f106 := Nat.le_trans Z0 E102.1
  have f107 := V1.ext E102
  have f108 := f101.ext E102
  obtain ⟨_, _, ⟨T109, L109, k109, n109⟩, -, X109, ⟨Lc109, hQ109, l109, y109, z109⟩, st109⟩ := Jvm.LawKit.callS X102 hx (y := own_y0) hown (own_m hZ hw 44) (own_m hZ hw 45) (own_m hZ hw 42) (own_m hZ hw 46) (by decide) (backOf (W := 0) (rmC_4 l Z a0 hw [] a1 b102 k1 k102 x0 x1 x2 x3 h102 n0 f106 f107 V102 ga104 ne103 hx0 hx1 hx2 hx3) hZ (own_i hw 46 rfl) (own_i hw 42 rfl) (by decide) (by decide)) (g := (mkF m 9 #[rv a1, iv 0, iv 4, rv b102, .unset, .unset] [(.int 4), (.int 0), (.ref b102), (.int 0), (.ref a1)])) rfl (by rw [hml]; rfl) (argsL := [(.ref a1), (.int 0), (.ref b102), (.int 0), (.int 4)]) (rest := []) (lenOf pd_0 rfl) rfl (Nat.le_of_eq rfl) (hb hby d8_9) (fun _ _ => ⟨rfl, e102, own_le rfl, own_le rfl⟩)
  dsimp only [Pt.U, Pt.locs, Pt.cells, Pt.slots] at X109 l109 y109 z109 st109 hQ109
  subst l109 y109 z109
  obtain ⟨rfl, N109q, K109, f110⟩ := hQ109
  have N109 := Fr.app N0 N109q
  have f111 := Nat.le_trans f106 K109.1
  have f112 := f107.keep K109 (ninS ne103 nin0)
  have f113 := f108.trans K109 (allS (Or.inr sz105) all0)
  have pre114 : own_P p e below s₁ (entryFrame m #[(.ref a1), (.int 0), (.int 4)] 6) T109 (mkF m 58 #[rv a1, iv 0, iv 4, rv b102, iv 4, .unset] [(.ref b102)]) := fun t k => pre0 t (by
    show Steps p.tables e below (s₁.setTop (mkF m 0 #[rv a1, iv 0, iv 4, .unset, .unset, .unset] [])) t
    refine XS.iloadN X0.here hx rfl (hb hby d8_0) rfl ?_
    refine st102 _ ?_
    refine XS.astoreN X102.here hx rfl (hb hby d8_3) rfl rfl (l' := #[rv a1, iv 0, iv 4, rv b102, .unset, .unset]) rfl ?_
    refine XS.aloadN X102.here hx rfl (hb hby d8_4) rfl rfl ?_
    refine XS.iloadN X102.here hx rfl (hb hby d8_5) rfl ?_
    refine XS.aloadN X102.here hx rfl (hb hby d8_6) rfl rfl ?_
    refine XS.iconst X102.here hx rfl (hb hby d8_7) ?_
    refine XS.iloadN X102.here hx rfl (hb hby d8_8) rfl ?_
    refine st109 _ ?_
    refine XS.istore X109.here hx rfl (hb hby d8_12) rfl (l' := #[rv a1, iv 0, iv 4, rv b102, iv 4, .unset]) rfl ?_
    refine XS.iload X109.here hx rfl (hb hby d8_14) rfl ?_
    refine XS.iloadN X109.here hx rfl (hb hby d8_16) rfl ?_
    refine XS.icmpYes X109.here hx rfl (pc0 := 17) (pc' := 57) rfl (hb hby d8_17) rfl (teq (by decide : (4 : Int32) = (4 : Int32))).1 (by decide) (by decide) ?_
    refine XS.aloadN X109.here hx rfl (hb hby d8_57) rfl rfl ?_
    exact k)
  obtain ⟨fs, hr, hrun, hended, hW, hsame⟩ := X109.leave (v := some (.ref b102)) (fun h => by rw [Bd.returns] at h; cases h)
  refine ⟨_, _, pre114 _ ?_, hrun, hended, _, _, rfl, ?_, ⟨_, rfl⟩, hW, hsame.mono (by decide) (by decide)⟩
  · exact retOut X109 hx Bd.returns rfl (Or.inr (Or.inr (Or.inr (Or.inr ⟨rfl, rfl, rfl⟩)))) (hb hby d8_58) hr
  · show QD_4 Z a1 k1 x0 x1 x2 x3 h0 n0 _ T109.heap _
    exact ⟨b102, k102, rfl, N109, f113, ga104, sz105, f110⟩
def QE_4 (Z : State) (a1 : Addr) (k1 : ClassId) (x0 x1 x2 x3 : Int32) (h0 : Heap) (n0 : Nat) (v : Option Value) (h : Heap) (L : List Loc) : Prop := v = some (.int 0) ∧ Fr n0 L ∧ h = h0
theorem rmE_4 (l : Launch) (Z : State) (a0 : Array Value) (hw : own_H Z a0) (ws : List Jvm.Cond) (a1 : Addr) (k1 : ClassId) (x0 x1 x2 x3 : Int32) (h0 : Heap) (n0 : Nat) (Z0 : n0 ≤ h0.size) (V1 : Arv Z h0 a1 k1 .byte (4 : Int32) [(.int (nar .byte (x0.toInt8.toInt32))), (.int (nar .byte (x1.toInt8.toInt32))), (.int (nar .byte (x2.toInt8.toInt32))), (.int (nar .byte (x3.toInt8.toInt32)))] (.int 0)) :
    own_M l own_y2 jdk_52_method_15_code 2 (some .byte) ws (own_R 0 0 0 0) Z h0 #[(.ref a1), (.int 4)] (QE_4 Z a1 k1 x0 x1 x2 x3 h0 n0) := by
  refine own_body (plainFor_of_name pn_java_lang_StringUTF16) fun p e s m below meth c s₁ Bd hx hby hml (hown : s.vm.findClass "java/lang/StringUTF16" = some m.cls) hnm X0 e0 hZ => ?_
  have N0 := Fr.nil n0
  have pre0 : own_P p e below s₁ (entryFrame m #[(.ref a1), (.int 4)] 2) s₁ (mkF m 0 #[rv a1, iv 4] []) := fun t k => castTop (by first | rfl | (simp [entryFrame, mkF, argsToLocals, Value.category]; done)) k
  obtain ⟨cl101, Ar101, q101, S101, N101z, H101, G101⟩ := (id V1)
  have pre102 : own_P p e below s₁ (entryFrame m #[(.ref a1), (.int 4)] 2) s₁ (mkF m 8 #[rv a1, iv 4] [(.int ((((0 : Int32).toUInt32 >>> ((31 : Int32) &&& 31).toUInt32).toInt32).toInt8.toInt32))]) := fun t k => pre0 t (by
    show Steps p.tables e below (s₁.setTop (mkF m 0 #[rv a1, iv 4] [])) t
    refine XS.iloadN X0.here hx rfl (hb hby d10_0) rfl ?_
    refine XS.aloadN X0.here hx rfl (hb hby d10_1) rfl rfl ?_
    refine X0.arraylength hx (by rw [e0]; exact Ar101.1) (State.isArrayOf_alike hZ.alike Ar101.2.1) (g := (mkF m 2 #[rv a1, iv 4] [(.ref a1), (.int 4)])) rfl rfl (hb hby d10_2) _ ?_
    rw [len_of S101 N101z]
    refine XS.isub X0.here hx rfl (hb hby d10_3) rfl ?_
    refine XS.bipush X0.here hx rfl (hb hby d10_4) ?_
    refine XS.iushr X0.here hx rfl (hb hby d10_6) rfl ?_
    refine XS.i2b X0.here hx rfl (hb hby d10_7) rfl ?_
    exact k)
  obtain ⟨fs, hr, hrun, hended, hW, hsame⟩ := X0.leave (v := some (.int (nar .byte ((((0 : Int32).toUInt32 >>> ((31 : Int32) &&& 31).toUInt32).toInt32).toInt8.toInt32)))) (fun h => by rw [Bd.returns] at h; cases h)
  refine ⟨_, _, pre102 _ ?_, hrun, hended, _, _, rfl, ?_, ⟨_, rfl⟩, hW, hsame.mono (by decide) (by decide)⟩
  · exact retN X0 hx (t := .byte) Bd.returns (by simp) (hb hby d10_8) hr
  · show QE_4 Z a1 k1 x0 x1 x2 x3 h0 n0 _ s₁.heap _
    rw [e0]
    exact ⟨rfl, N0, rfl⟩
def QF_4 (Z : State) (a1 a2 : Addr) (k2 : ClassId) (cs x0 x1 x2 x3 : Int32) (h0 : Heap) (n0 : Nat) (v : Option Value) (h : Heap) (L : List Loc) : Prop := ∃ (t : Addr) (kt : ClassId), v = none ∧ Fr n0 L ∧ Keep h0 h [a1] ∧ (Exa Z h a1 "java/lang/String") ∧ (Fld Z h a1 "java/lang/String" "coder" "B" (.int 0)) ∧ (Fld Z h a1 "java/lang/String" "value" "[B" (.ref t)) ∧ (n0 ≤ t) ∧ (h0.size ≤ t) ∧ (Arv Z h t kt .byte (4 : Int32) [(.int (nar .byte (x0.toInt8.toInt32))), (.int (nar .byte (x1.toInt8.toInt32))), (.int (nar .byte (x2.toInt8.toInt32))), (.int (nar .byte (x3.toInt8.toInt32)))] (.int 0))
theorem rmF_4 (l : Launch) (Z : State) (a0 : Array Value) (hw : own_H Z a0) (ws : List Jvm.Cond) (a1 a2 : Addr) (k2 : ClassId) (cs x0 x1 x2 x3 : Int32) (h0 : Heap) (n0 : Nat) (Z0 : n0 ≤ h0.size) (F1 : Fld Z h0 a1 "java/lang/String" "value" "[B" .null) (F2 : Fld Z h0 a1 "java/lang/String" "coder" "B" (.int 0)) (E1 : Exa Z h0 a1 "java/lang/String") (g1 : n0 ≤ a1) (V2 : Arv Z h0 a2 k2 .char (4 : Int32) [(.int x0), (.int x1), (.int x2), (.int x3)] (.int 0)) (SC : Sta Z h0 "java/lang/String" "COMPACT_STRINGS" "Z" (.int cs)) (hcs : ¬ (cs = (0 : Int32))) (ne : a1 ≠ a2) (hx0 : ¬ ((255 : Int32) < x0)) (hx1 : ¬ ((255 : Int32) < x1)) (hx2 : ¬ ((255 : Int32) < x2)) (hx3 : ¬ ((255 : Int32) < x3)) :
    own_M l own_y3 jdk_42_method_149_code 6 none ws (own_R 2 1 4 35) Z h0 #[(.ref a1), (.ref a2), (.int 0), (.int 4), .null] (QF_4 Z a1 a2 k2 cs x0 x1 x2 x3 h0 n0) := by
  refine own_body (plainFor_of_name pn_java_lang_String) fun p e s m below meth c s₁ Bd hx hby hml (hown : s.vm.findClass "java/lang/String" = some m.cls) hnm X0 e0 hZ => ?_
  have N0 := Fr.nil n0
  have pre0 : own_P p e below s₁ (entryFrame m #[(.ref a1), (.ref a2), (.int 0), (.int 4), .null] 6) s₁ (mkF m 0 #[rv a1, rv a2, iv 0, iv 4, .val .null, .unset] []) := fun t k => castTop (by first | rfl | (simp [entryFrame, mkF, argsToLocals, Value.category]; done)) k
  have f101 := Keep.refl h0 [a1]
  obtain ⟨T102, X102, e102, st102⟩ := initO X0 hx hZ hown (own_i hw 19 rfl) (own_i hw 20 rfl) (own_i hw 21 rfl) e0 (g := (mkF m 1 #[rv a1, rv a2, iv 0, iv 4, .val .null, .unset] [(.ref a1)])) rfl (by rw [hml]; rfl) rfl (hb hby d4_1) (by decide) (W := 0) (Nat.le_of_eq rfl) (by decide)
  obtain ⟨T103, X103, e103, st103⟩ := getS2 X102 hx hZ hown (host := "") (Or.inl (own_i hw 39 rfl)) Via.refl e102 SC (g := (mkF m 27 #[rv a1, rv a2, iv 0, iv 4, .val .null, .unset] [])) rfl (hb hby d4_27)
  obtain ⟨_, _, ⟨T104, L104, k104, n104⟩, -, X104, ⟨Lc104, hQ104, l104, y104, z104⟩, st104⟩ := Jvm.LawKit.callS X103 hx (y := own_y1) hown (own_m hZ hw 40) (own_m hZ hw 41) (own_m hZ hw 42) (own_m hZ hw 43) (by decide) (backOf (W := 0) (rmD_4 l Z a0 hw [] a2 k2 x0 x1 x2 x3 h0 n0 Z0 V2 hx0 hx1 hx2 hx3) hZ (own_i hw 43 rfl) (own_i hw 42 rfl) (by decide) (by decide)) (g := (mkF m 36 #[rv a1, rv a2, iv 0, iv 4, .val .null, .unset] [(.int 4), (.int 0), (.ref a2)])) rfl (by rw [hml]; rfl) (argsL := [(.ref a2), (.int 0), (.int 4)]) (rest := []) (lenOf pd_1 rfl) rfl (Nat.le_of_eq rfl) (hb hby d4_36) (fun _ _ => ⟨rfl, e103, own_le rfl, own_le rfl⟩)
  dsimp only [Pt.U, Pt.locs, Pt.cells, Pt.slots] at X104 l104 y104 z104 st104 hQ104
  subst l104 y104 z104
  obtain ⟨b105, x106, rfl, N104q, K104, f107, f108, f109⟩ := hQ104
  have N104 := Fr.app N0 N104q
  have ne110 : a1 ≠ b105 := Nat.ne_of_lt (Nat.lt_of_lt_of_le F1.lt f108)
  have ne111 : a2 ≠ b105 := Nat.ne_of_lt (Nat.lt_of_lt_of_le V2.lt f108)
  have f112 := Nat.le_trans Z0 K104.1
  have f113 := F1.keep K104 nin0
  have f114 := F2.keep K104 nin0
  have f115 := E1.keep K104
  have f116 := V2.keep K104 nin0
  have f117 := f101.trans K104 all0
  obtain ⟨_, _, ⟨T118, L118, k118, n118⟩, -, X118, ⟨Lc118, hQ118, l118, y118, z118⟩, st118⟩ := Jvm.LawKit.callS X104 hx (y := own_y2) hown (own_m hZ hw 47) (own_m hZ hw 48) (own_m hZ hw 42) (own_m hZ hw 49) (by decide) (backOf (W := 1) (rmE_4 l Z a0 hw [] b105 x106 x0 x1 x2 x3 T104.heap n0 f112 f109) hZ (own_i hw 49 rfl) (own_i hw 42 rfl) (by decide) (by decide)) (g := (mkF m 45 #[rv a1, rv a2, iv 0, iv 4, .val .null, rv b105] [(.int 4), (.ref b105), (.ref a1)])) rfl (by rw [hml]; rfl) (argsL := [(.ref b105), (.int 4)]) (rest := [(.ref a1)]) (lenOf pd_2 rfl) rfl (Nat.le_of_eq rfl) (hb hby d4_45) (fun _ _ => ⟨rfl, rfl, own_le rfl, own_le rfl⟩)
  dsimp only [Pt.U, Pt.locs, Pt.cells, Pt.slots] at X118 l118 y118 z118 st118 hQ118
  subst l118 y118 z118
  obtain ⟨rfl, N118q, e118⟩ := hQ118
  have N118 := Fr.app N104 N118q
  obtain ⟨T119, h119, X119, e119, W119, st119⟩ := putFN X118 hx hZ hown (own_i hw 29 rfl) Via.refl e118 f114 f115 (Or.inr ⟨(own_i hw 25 rfl), rfl, hnm⟩) (own_i hw 9 rfl) (ty := .byte) (v' := (.int 0)) (by decide) rfl (by decide) (g := (mkF m 48 #[rv a1, rv a2, iv 0, iv 4, .val .null, rv b105] [(.int 0), (.ref a1)])) rfl rfl (hb hby d4_48)
  have Fw119 := f114.same W119
  have N119 := Fr.snoc X119 N118 g1
  have f120 := Nat.le_trans f112 (Keep.of_wr W119).1
  have f121 := f113.other W119 (Or.inr (slot_ne (Or.inr (own_i hw 24 rfl)) (Or.inr (own_i hw 25 rfl)) (by decide) (t := (.array .byte)) (t' := .byte) (by decide) (by decide)))
  have f122 := f115.wr W119
  have f123 := f116.other W119 (Ne.symm ne)
  have f124 := f117.wr W119 (Or.inl (List.mem_of_getElem? (i := 0) rfl))
  have f125 := f109.other W119 (Ne.symm ne110)
  obtain ⟨T126, h126, X126, e126, W126, st126⟩ := putF X119 hx hZ hown (host := "") (Or.inl (own_i hw 28 rfl)) Via.refl e119 f121 f122 (Or.inr ⟨(own_i hw 24 rfl), rfl, hnm⟩) (own_i hw 9 rfl) (ty := (.array .byte)) (by decide) rfl rfl (g := (mkF m 54 #[rv a1, rv a2, iv 0, iv 4, .val .null, rv b105] [(.ref b105), (.ref a1)])) rfl rfl (hb hby d4_54)
  have Fw126 := f121.same W126
  have N126 := Fr.snoc X126 N119 g1
  have f127 := Nat.le_trans f120 (Keep.of_wr W126).1
  have f128 := f122.wr W126
  have f129 := f123.other W126 (Ne.symm ne)
  have f130 := f124.wr W126 (Or.inl (List.mem_of_getElem? (i := 0) rfl))
  have f131 := f125.other W126 (Ne.symm ne110)
  have f132 := Fw119.other W126 (Or.inr (slot_ne (Or.inr (own_i hw 25 rfl)) (Or.inr (own_i hw 24 rfl)) (by decide) (t := .byte) (t' := (.array .byte)) (by decide) (by decide)))
  have pre133 : own_P p e below s₁ (entryFrame m #[(.ref a1), (.ref a2), (.int 0), (.int 4), .null] 6) T126 (mkF m 57 #[rv a1, rv a2, iv 0, iv 4, .val .null, rv b105] []) := fun t k => pre0 t (by
    show Steps p.tables e below (s₁.setTop (mkF m 0 #[rv a1, rv a2, iv 0, iv 4, .val .null, .unset] [])) t
    refine XS.aloadN X0.here hx rfl (hb hby d4_0) rfl rfl ?_
    refine st102 _ ?_
    refine XS.iloadN X102.here hx rfl (hb hby d4_4) rfl ?_
    refine XS.ifYes X102.here hx rfl (pc0 := 5) (pc' := 27) rfl (hb hby d4_5) rfl ((if0 _ _).trans (feq (by decide : ¬ ((4 : Int32) = (0 : Int32)))).2) (by decide) (by decide) ?_
    refine st103 _ ?_
    refine XS.ifNo X103.here hx rfl (hb hby d4_30) rfl ((if0 _ _).trans (feq hcs).1) ?_
    refine XS.aloadN X103.here hx rfl (hb hby d4_33) rfl rfl ?_
    refine XS.iloadN X103.here hx rfl (hb hby d4_34) rfl ?_
    refine XS.iloadN X103.here hx rfl (hb hby d4_35) rfl ?_
    refine st104 _ ?_
    refine XS.astore X104.here hx rfl (hb hby d4_39) rfl rfl (l' := #[rv a1, rv a2, iv 0, iv 4, .val .null, rv b105]) rfl ?_
    refine XS.aloadN X104.here hx rfl (hb hby d4_41) rfl rfl ?_
    refine XS.aload X104.here hx rfl (hb hby d4_42) rfl rfl ?_
    refine XS.iloadN X104.here hx rfl (hb hby d4_44) rfl ?_
    refine st118 _ ?_
    refine st119 _ ?_
    refine XS.aloadN X119.here hx rfl (hb hby d4_51) rfl rfl ?_
    refine XS.aload X119.here hx rfl (hb hby d4_52) rfl rfl ?_
    refine st126 _ ?_
    exact k)
  obtain ⟨fs, hr, hrun, hended, hW, hsame⟩ := X126.leave (v := none) (fun _ => rfl)
  refine ⟨_, _, pre133 _ ?_, hrun, hended, _, _, rfl, ?_, ⟨_, rfl⟩, hW, hsame.mono (by decide) (by decide)⟩
  · exact X126.returnOut hx Bd.returns (hb hby d4_57) hr
  · show QF_4 Z a1 a2 k2 cs x0 x1 x2 x3 h0 n0 _ T126.heap _
    rw [e126]
    exact ⟨b105, x106, rfl, N126, f130, f128, f132, Fw126, f107, f108, f131⟩
def QG_4 (Z : State) (a1 a2 : Addr) (k2 : ClassId) (cs x0 x1 x2 x3 : Int32) (h0 : Heap) (n0 : Nat) (v : Option Value) (h : Heap) (L : List Loc) : Prop := ∃ (t : Addr) (kt : ClassId), v = none ∧ Fr n0 L ∧ Keep h0 h [a1] ∧ (Exa Z h a1 "java/lang/String") ∧ (Fld Z h a1 "java/lang/String" "coder" "B" (.int 0)) ∧ (Fld Z h a1 "java/lang/String" "value" "[B" (.ref t)) ∧ (n0 ≤ t) ∧ (h0.size ≤ t) ∧ (Arv Z h t kt .byte (4 : Int32) [(.int (nar .byte (x0.toInt8.toInt32))), (.int (nar .byte (x1.toInt8.toInt32))), (.int (nar .byte (x2.toInt8.toInt32))), (.int (nar .byte (x3.toInt8.toInt32)))] (.int 0))
theorem rmG_4 (l : Launch) (Z : State) (a0 : Array Value) (hw : own_H Z a0) (ws : List Jvm.Cond) (a1 a2 : Addr) (k2 : ClassId) (cs x0 x1 x2 x3 : Int32) (h0 : Heap) (n0 : Nat) (Z0 : n0 ≤ h0.size) (F1 : Fld Z h0 a1 "java/lang/String" "value" "[B" .null) (F2 : Fld Z h0 a1 "java/lang/String" "coder" "B" (.int 0)) (E1 : Exa Z h0 a1 "java/lang/String") (g1 : n0 ≤ a1) (V2 : Arv Z h0 a2 k2 .char (4 : Int32) [(.int x0), (.int x1), (.int x2), (.int x3)] (.int 0)) (SC : Sta Z h0 "java/lang/String" "COMPACT_STRINGS" "Z" (.int cs)) (hcs : ¬ (cs = (0 : Int32))) (ne : a1 ≠ a2) (hx0 : ¬ ((255 : Int32) < x0)) (hx1 : ¬ ((255 : Int32) < x1)) (hx2 : ¬ ((255 : Int32) < x2)) (hx3 : ¬ ((255 : Int32) < x3)) :
    own_M l own_y4 jdk_42_method_3_code 2 none ws (own_R 3 1 4 52) Z h0 #[(.ref a1), (.ref a2)] (QG_4 Z a1 a2 k2 cs x0 x1 x2 x3 h0 n0) := by
  refine own_body (plainFor_of_name pn_java_lang_String) fun p e s m below meth c s₁ Bd hx hby hml (hown : s.vm.findClass "java/lang/String" = some m.cls) hnm X0 e0 hZ => ?_
  have N0 := Fr.nil n0
  have pre0 : own_P p e below s₁ (entryFrame m #[(.ref a1), (.ref a2)] 2) s₁ (mkF m 0 #[rv a1, rv a2] []) := fun t k => castTop (by first | rfl | (simp [entryFrame, mkF, argsToLocals, Value.category]; done)) k
  have f101 := Keep.refl h0 [a1]
  obtain ⟨cl102, Ar102, q102, S102, N102z, H102, G102⟩ := (id V2)
  obtain ⟨_, _, ⟨T103, L103, k103, n103⟩, -, X103, ⟨Lc103, hQ103, l103, y103, z103⟩, st103⟩ := X0.specialBack hx (y := own_y3) rfl hown (own_m hZ hw 15) (own_m hZ hw 16) (own_m hZ hw 18) (by decide) (backOf (W := 0) (rmF_4 l Z a0 hw [] a1 a2 k2 cs x0 x1 x2 x3 h0 n0 Z0 F1 F2 E1 g1 V2 SC hcs ne hx0 hx1 hx2 hx3) hZ (own_i hw 18 rfl) (own_i hw 10 rfl) (by decide) (by decide)) (g := (mkF m 6 #[rv a1, rv a2] [.null, (.int 4), (.int 0), (.ref a2), (.ref a1)])) rfl (by rw [hml]; rfl) (Steps.refl _) (a := a1) (argsL := [(.ref a2), (.int 0), (.int 4), .null]) (rest := []) (lenOf pd_3 rfl) rfl (Nat.le_of_eq rfl) (hb hby d3_6) (fun _ _ => ⟨rfl, e0, own_le rfl, own_le rfl⟩)
  dsimp only [Pt.U, Pt.locs, Pt.cells, Pt.slots] at X103 l103 y103 z103 st103 hQ103
  subst l103 y103 z103
  obtain ⟨b104, x105, rfl, N103q, K103, f106, f107, f108, f109, f110, f111⟩ := hQ103
  have N103 := Fr.app N0 N103q
  have ne112 : a1 ≠ b104 := Nat.ne_of_lt (Nat.lt_of_lt_of_le F1.lt f110)
  have ne113 : a2 ≠ b104 := Nat.ne_of_lt (Nat.lt_of_lt_of_le V2.lt f110)
  have f114 := Nat.le_trans Z0 K103.1
  have f115 := V2.keep K103 (ninS (Ne.symm ne) nin0)
  have f116 := f101.trans K103 (allS (Or.inl (List.mem_of_getElem? (i := 0) rfl)) all0)
  have pre117 : own_P p e below s₁ (entryFrame m #[(.ref a1), (.ref a2)] 2) T103 (mkF m 9 #[rv a1, rv a2] []) := fun t k => pre0 t (by
    show Steps p.tables e below (s₁.setTop (mkF m 0 #[rv a1, rv a2] [])) t
    refine XS.aloadN X0.here hx rfl (hb hby d3_0) rfl rfl ?_
    refine XS.aloadN X0.here hx rfl (hb hby d3_1) rfl rfl ?_
    refine XS.iconst X0.here hx rfl (hb hby d3_2) ?_
    refine XS.aloadN X0.here hx rfl (hb hby d3_3) rfl rfl ?_
    refine X0.arraylength hx (by rw [e0]; exact Ar102.1) (State.isArrayOf_alike hZ.alike Ar102.2.1) (g := (mkF m 4 #[rv a1, rv a2] [(.ref a2), (.int 0), (.ref a2), (.ref a1)])) rfl rfl (hb hby d3_4) _ ?_
    rw [len_of S102 N102z]
    refine XS.aconstNull X0.here hx rfl (hb hby d3_5) ?_
    refine st103.trans ?_
    exact k)
  obtain ⟨fs, hr, hrun, hended, hW, hsame⟩ := X103.leave (v := none) (fun _ => rfl)
  refine ⟨_, _, pre117 _ ?_, hrun, hended, _, _, rfl, ?_, ⟨_, rfl⟩, hW, hsame.mono (by decide) (by decide)⟩
  · exact X103.returnOut hx Bd.returns (hb hby d3_9) hr
  · show QG_4 Z a1 a2 k2 cs x0 x1 x2 x3 h0 n0 _ T103.heap _
    exact ⟨b104, x105, rfl, N103, f116, f106, f107, f108, f109, f110, f111⟩
def own_lc (y : Int32) : Int32 := nar .char ((y &&& (255 : Int32)).toUInt32.toUInt16.toUInt32.toInt32)
def own_cat (y : Int32) : Int32 := nar .char (own_lc y)
def own_b0 (c : Int32) : Int32 := nar .byte ((c >>> ((0 : Int32) &&& 31)).toInt8.toInt32)
def own_b1 (c : Int32) : Int32 := nar .byte ((c >>> ((8 : Int32) &&& 31)).toInt8.toInt32)
def own_ut (y z : Int32) : Int32 := nar .char ((((y &&& (255 : Int32)) <<< ((0 : Int32) &&& 31)) ||| ((z &&& (255 : Int32)) <<< ((8 : Int32) &&& 31))).toUInt32.toUInt16.toUInt32.toInt32)
def own_dr (x : Int32) : Int32 := if (((x.toUInt32 >>> ((16 : Int32) &&& 31).toUInt32).toInt32) &&& (1 : Int32)) = (0 : Int32) then nar .char (x.toUInt32.toUInt16.toUInt32.toInt32) else nar .char (((48 : Int32) + ((x &&& (65535 : Int32)) % (10 : Int32))).toUInt32.toUInt16.toUInt32.toInt32)
def own_dgt (c : Int32) : Int32 := if (c - (48 : Int32)) < (0 : Int32) then 0 else if (c - (48 : Int32)) < (10 : Int32) then 1 else 0
def own_dg (c : Int32) : Prop := ¬ (c < (48 : Int32)) ∧ ¬ ((57 : Int32) < c)
abbrev own_C (c : Int32) : Prop := 0 ≤ c.toInt ∧ c.toInt < 65536
instance (c : Int32) : Decidable (own_dg c) := inferInstanceAs (Decidable (_ ∧ _))
def own_all1 (c0 : Int32) : Int32 := if own_dg c0 then 1 else 0
def own_all2 (c0 c1 : Int32) : Int32 := if own_dg c0 ∧ own_dg c1 then 1 else 0
def own_all3 (c0 c1 c2 : Int32) : Int32 := if own_dg c0 ∧ own_dg c1 ∧ own_dg c2 then 1 else 0
def own_all4 (c0 c1 c2 c3 : Int32) : Int32 := if own_dg c0 ∧ own_dg c1 ∧ own_dg c2 ∧ own_dg c3 then 1 else 0
theorem own_narc (c : Int32) : (nar .char c).toBitVec = (c.toBitVec.setWidth 16).setWidth 32 := rfl
theorem own_narb (c : Int32) : (nar .byte c).toBitVec = (c.toBitVec.setWidth 8).signExtend 32 := by
  show (c.toInt8.toInt32).toBitVec = _
  simp [BitVec.signExtend_eq_setWidth_of_le]
theorem own_i2c (c : Int32) : (c.toUInt32.toUInt16.toUInt32.toInt32).toBitVec = (c.toBitVec.setWidth 16).setWidth 32 := rfl
theorem own_i2b (c : Int32) : (c.toInt8.toInt32).toBitVec = (c.toBitVec.setWidth 8).signExtend 32 := by simp [BitVec.signExtend_eq_setWidth_of_le]
theorem own_Cn (c : Int32) : own_C (nar .char c) := by
  have h : ((nar .char c).toBitVec).toNat < 65536 := by
    rw [own_narc, BitVec.toNat_setWidth, BitVec.toNat_setWidth]
    omega
  have e : (nar .char c).toInt = ((nar .char c).toBitVec.toNat : Int) := by
    show (nar .char c).toBitVec.toInt = _
    rw [BitVec.toInt_eq_toNat_of_lt (by omega)]
  unfold own_C
  omega
theorem own_Cbit {c : Int32} (h : own_C c) : c.toBitVec = (c.toBitVec.setWidth 16).setWidth 32 := by
  obtain ⟨h1, h2⟩ := h
  have e : c.toInt = c.toBitVec.toInt := rfl
  apply BitVec.eq_of_toNat_eq
  rw [BitVec.toNat_setWidth, BitVec.toNat_setWidth]
  rw [e, BitVec.toInt_eq_toNat_cond] at h1 h2
  have := c.toBitVec.isLt
  split at h1 <;> split at h2 <;> omega
theorem own_utc {c : Int32} (h : own_C c) : own_ut (own_b0 c) (own_b1 c) = c := by
  apply Int32.toBitVec_inj.mp
  have s0 : (c >>> ((0 : Int32) &&& 31)).toBitVec = c.toBitVec := by
    rw [show ((0 : Int32) &&& 31) = 0 from rfl]; simp
  have s8 : (c >>> ((8 : Int32) &&& 31)).toBitVec = c.toBitVec.sshiftRight 8 := by
    rw [Int32.toBitVec_shiftRight, show (((8 : Int32) &&& 31).toBitVec.smod 32) = 8#32 from by decide]; rfl
  have l0 : ∀ x : Int32, (x <<< ((0 : Int32) &&& 31)).toBitVec = x.toBitVec := fun x => by
    rw [show ((0 : Int32) &&& 31) = 0 from rfl]; simp
  have l8 : ∀ x : Int32, (x <<< ((8 : Int32) &&& 31)).toBitVec = x.toBitVec <<< 8 := fun x => by
    rw [Int32.toBitVec_shiftLeft, show (((8 : Int32) &&& 31).toBitVec.smod 32) = 8#32 from by decide]; rfl
  unfold own_ut own_b0 own_b1
  rw [own_narc, own_i2c, Int32.toBitVec_or, l0, l8, Int32.toBitVec_and, Int32.toBitVec_and, own_narb, own_narb, own_i2b, own_i2b, s0, s8]
  conv => rhs; rw [own_Cbit h]
  apply BitVec.eq_of_getLsbD_eq
  intro i hi
  have m : ∀ i < 32, (255 : Int32).toBitVec.getLsbD i = decide (i < 8) := by decide
  generalize (255 : Int32).toBitVec = M at m
  simp only [BitVec.getLsbD_setWidth, BitVec.getLsbD_or, BitVec.getLsbD_and, BitVec.getLsbD_shiftLeft, BitVec.getLsbD_signExtend, BitVec.getLsbD_sshiftRight]
  generalize hw : c.toBitVec = w
  by_cases h1 : i < 8
  · rw [m i hi]
    simp [h1, hi, show i < 16 by omega]
  · by_cases h2 : i < 16
    · have h3 : i - 8 < 8 := by omega
      rw [m i hi, m (i - 8) (by omega)]
      simp [h1, h2, hi, h3, show 8 + (i - 8) = i by omega, show i - 8 < 32 by omega, show ¬ (32 ≤ i - 8) by omega]
    · simp [h2]
theorem own_latc {c : Int32} (h : own_C c) (h2 : ¬ ((255 : Int32) < c)) : own_cat (nar .byte (c.toInt8.toInt32)) = c := by
  have t : ∀ k : Fin 256, own_cat (nar .byte ((Int32.ofNat k.val).toInt8.toInt32)) = Int32.ofNat k.val := by decide +kernel
  have h3 : c.toInt ≤ 255 := by
    rw [Int32.lt_iff_toInt_lt] at h2
    have : (255 : Int32).toInt = 255 := rfl
    omega
  have e : c = Int32.ofNat c.toInt.toNat := by
    apply Int32.toInt_inj.mp
    have t2 : ∀ k : Fin 256, (Int32.ofNat k.val).toInt = (k.val : Int) := by decide +kernel
    have := t2 ⟨c.toInt.toNat, by have := h.1; omega⟩
    simp only at this
    rw [this]
    have := h.1
    omega
  have := t ⟨c.toInt.toNat, by have := h.1; omega⟩
  simp only at this
  rw [← e] at this
  exact this
theorem pn_com_example_millipede_millipede_DecimalNumbersIsNumberPinLaw : plainName "com/example/millipede/millipede/DecimalNumbersIsNumberPinLaw" = true := by first | (simp [plainName, overriddenIn]; done) | decide +kernel
def QDr (Z : State) (p1 : Int32) (h0 : Heap) (n0 : Nat) (v : Option Value) (h : Heap) (L : List Loc) : Prop := v = some (.int (own_dr p1)) ∧ Fr n0 L ∧ h = h0
theorem rmDr (l : Launch) (Z : State) (a0 : Array Value) (hw : own_H Z a0) (ws : List Jvm.Cond) (p1 : Int32) (h0 : Heap) (n0 : Nat) (Z0 : n0 ≤ h0.size) :
    own_M l own_y5 method_2_code 1 (some .char) ws (own_R 0 0 0 0) Z h0 #[(.int p1)] (QDr Z p1 h0 n0) := by
  refine own_body (plainFor_of_name pn_com_example_millipede_millipede_DecimalNumbersIsNumberPinLaw) fun p e s m below meth c s₁ Bd hx hby hml (hown : s.vm.findClass "com/example/millipede/millipede/DecimalNumbersIsNumberPinLaw" = some m.cls) hnm X0 e0 hZ => ?_
  have N0 := Fr.nil n0
  have pre0 : own_P p e below s₁ (entryFrame m #[(.int p1)] 1) s₁ (mkF m 0 #[iv p1] []) := fun t k => castTop (by first | rfl | (simp [entryFrame, mkF, argsToLocals, Value.category]; done)) k
  have pre102 : own_P p e below s₁ (entryFrame m #[(.int p1)] 1) s₁ (mkF m 6 #[iv p1] [(.int (((p1.toUInt32 >>> ((16 : Int32) &&& 31).toUInt32).toInt32) &&& (1 : Int32)))]) := fun t k => pre0 t (by
    show Steps p.tables e below (s₁.setTop (mkF m 0 #[iv p1] [])) t
    refine XS.iloadN X0.here hx rfl (hb hby d1_0) rfl ?_
    refine XS.bipush X0.here hx rfl (hb hby d1_1) ?_
    refine XS.iushr X0.here hx rfl (hb hby d1_3) rfl ?_
    refine XS.iconst X0.here hx rfl (hb hby d1_4) ?_
    refine XS.iand X0.here hx rfl (hb hby d1_5) rfl ?_
    exact k)
  by_cases hc101 : (((p1.toUInt32 >>> ((16 : Int32) &&& 31).toUInt32).toInt32) &&& (1 : Int32)) = (0 : Int32)
  · have pre103 : own_P p e below s₁ (entryFrame m #[(.int p1)] 1) s₁ (mkF m 23 #[iv p1] [(.int (p1.toUInt32.toUInt16.toUInt32.toInt32))]) := fun t k => pre102 t (by
      refine XS.ifYes X0.here hx rfl (pc0 := 6) (pc' := 21) rfl (hb hby d1_6) rfl ((if0 _ _).trans (teq hc101).1) (by decide) (by decide) ?_
      refine XS.iloadN X0.here hx rfl (hb hby d1_21) rfl ?_
      refine XS.i2c X0.here hx rfl (hb hby d1_22) rfl ?_
      exact k)
    obtain ⟨fs, hr, hrun, hended, hW, hsame⟩ := X0.leave (v := some (.int (nar .char (p1.toUInt32.toUInt16.toUInt32.toInt32)))) (fun h => by rw [Bd.returns] at h; cases h)
    refine ⟨_, _, pre103 _ ?_, hrun, hended, _, _, rfl, ?_, ⟨_, rfl⟩, hW, hsame.mono (by decide) (by decide)⟩
    · exact retN X0 hx (t := .char) Bd.returns (by simp) (hb hby d1_23) hr
    · show QDr Z p1 h0 n0 _ s₁.heap _
      rw [e0]
      exact ⟨(by rw [own_dr, if_pos hc101]), N0, rfl⟩
  · have pre104 : own_P p e below s₁ (entryFrame m #[(.int p1)] 1) s₁ (mkF m 20 #[iv p1] [(.int (((48 : Int32) + ((p1 &&& (65535 : Int32)) % (10 : Int32))).toUInt32.toUInt16.toUInt32.toInt32))]) := fun t k => pre102 t (by
      refine XS.ifNo X0.here hx rfl (hb hby d1_6) rfl ((if0 _ _).trans (feq hc101).1) ?_
      refine XS.bipush X0.here hx rfl (hb hby d1_9) ?_
      refine XS.iloadN X0.here hx rfl (hb hby d1_11) rfl ?_
      refine X0.ldcInt hx hown (own_m hZ hw 85) (g := (mkF m 12 #[iv p1] [(.int p1), (.int 48)])) rfl (hb hby d1_12) _ ?_
      refine XS.iand X0.here hx rfl (hb hby d1_14) rfl ?_
      refine XS.bipush X0.here hx rfl (hb hby d1_15) ?_
      refine iremM (g := (mkF m 17 #[iv p1] [(.int 10), (.int (p1 &&& (65535 : Int32))), (.int 48)])) X0 hx rfl (hb hby d1_17) rfl (by decide) ?_
      refine XS.iadd X0.here hx rfl (hb hby d1_18) rfl ?_
      refine XS.i2c X0.here hx rfl (hb hby d1_19) rfl ?_
      exact k)
    obtain ⟨fs, hr, hrun, hended, hW, hsame⟩ := X0.leave (v := some (.int (nar .char (((48 : Int32) + ((p1 &&& (65535 : Int32)) % (10 : Int32))).toUInt32.toUInt16.toUInt32.toInt32)))) (fun h => by rw [Bd.returns] at h; cases h)
    refine ⟨_, _, pre104 _ ?_, hrun, hended, _, _, rfl, ?_, ⟨_, rfl⟩, hW, hsame.mono (by decide) (by decide)⟩
    · exact retN X0 hx (t := .char) Bd.returns (by simp) (hb hby d1_20) hr
    · show QDr Z p1 h0 n0 _ s₁.heap _
      rw [e0]
      exact ⟨(by rw [own_dr, if_neg hc101]), N0, rfl⟩
def QDt (Z : State) (p1 : Int32) (h0 : Heap) (n0 : Nat) (v : Option Value) (h : Heap) (L : List Loc) : Prop := v = some (.int (own_dgt p1)) ∧ Fr n0 L ∧ h = h0
theorem rmDt (l : Launch) (Z : State) (a0 : Array Value) (hw : own_H Z a0) (ws : List Jvm.Cond) (p1 : Int32) (h0 : Heap) (n0 : Nat) (Z0 : n0 ≤ h0.size) :
    own_M l own_y6 method_3_code 2 (some .boolean) ws (own_R 0 0 0 0) Z h0 #[(.int p1)] (QDt Z p1 h0 n0) := by
  refine own_body (plainFor_of_name pn_com_example_millipede_millipede_DecimalNumbersIsNumberPinLaw) fun p e s m below meth c s₁ Bd hx hby hml (hown : s.vm.findClass "com/example/millipede/millipede/DecimalNumbersIsNumberPinLaw" = some m.cls) hnm X0 e0 hZ => ?_
  have N0 := Fr.nil n0
  have pre0 : own_P p e below s₁ (entryFrame m #[(.int p1)] 2) s₁ (mkF m 0 #[iv p1, .unset] []) := fun t k => castTop (by first | rfl | (simp [entryFrame, mkF, argsToLocals, Value.category]; done)) k
  have pre102 : own_P p e below s₁ (entryFrame m #[(.int p1)] 2) s₁ (mkF m 6 #[iv p1, iv (p1 - (48 : Int32))] [(.int (p1 - (48 : Int32)))]) := fun t k => pre0 t (by
    show Steps p.tables e below (s₁.setTop (mkF m 0 #[iv p1, .unset] [])) t
    refine XS.iloadN X0.here hx rfl (hb hby d11_0) rfl ?_
    refine XS.bipush X0.here hx rfl (hb hby d11_1) ?_
    refine XS.isub X0.here hx rfl (hb hby d11_3) rfl ?_
    refine XS.istoreN X0.here hx rfl (hb hby d11_4) rfl (l' := #[iv p1, iv (p1 - (48 : Int32))]) rfl ?_
    refine XS.iloadN X0.here hx rfl (hb hby d11_5) rfl ?_
    exact k)
  by_cases hc101 : (p1 - (48 : Int32)) < (0 : Int32)
  · have pre103 : own_P p e below s₁ (entryFrame m #[(.int p1)] 2) s₁ (mkF m 20 #[iv p1, iv (p1 - (48 : Int32))] [(.int 0)]) := fun t k => pre102 t (by
      refine XS.ifYes X0.here hx rfl (pc0 := 6) (pc' := 19) rfl (hb hby d11_6) rfl ((if0 _ _).trans (tlt hc101).1) (by decide) (by decide) ?_
      refine XS.iconst X0.here hx rfl (hb hby d11_19) ?_
      exact k)
    obtain ⟨fs, hr, hrun, hended, hW, hsame⟩ := X0.leave (v := some (.int 0)) (fun h => by rw [Bd.returns] at h; cases h)
    refine ⟨_, _, pre103 _ ?_, hrun, hended, _, _, rfl, ?_, ⟨_, rfl⟩, hW, hsame.mono (by decide) (by decide)⟩
    · exact retN X0 hx (t := .boolean) Bd.returns (by simp) (hb hby d11_20) hr
    · show QDt Z p1 h0 n0 _ s₁.heap _
      rw [e0]
      exact ⟨(by simp [own_dgt, hc101]), N0, rfl⟩
  · have pre105 : own_P p e below s₁ (entryFrame m #[(.int p1)] 2) s₁ (mkF m 12 #[iv p1, iv (p1 - (48 : Int32))] [(.int 10), (.int (p1 - (48 : Int32)))]) := fun t k => pre102 t (by
      refine XS.ifNo X0.here hx rfl (hb hby d11_6) rfl ((if0 _ _).trans (flt hc101).1) ?_
      refine XS.iloadN X0.here hx rfl (hb hby d11_9) rfl ?_
      refine XS.bipush X0.here hx rfl (hb hby d11_10) ?_
      exact k)
    by_cases hc104 : (p1 - (48 : Int32)) < (10 : Int32)
    · have pre106 : own_P p e below s₁ (entryFrame m #[(.int p1)] 2) s₁ (mkF m 20 #[iv p1, iv (p1 - (48 : Int32))] [(.int 1)]) := fun t k => pre105 t (by
        refine XS.icmpNo X0.here hx rfl (hb hby d11_12) rfl (tlt hc104).2.1 ?_
        refine XS.iconst X0.here hx rfl (hb hby d11_15) ?_
        refine XS.goto X0.here hx rfl (pc0 := 16) (pc' := 20) rfl (hb hby d11_16) (by decide) (by decide) ?_
        exact k)
      obtain ⟨fs, hr, hrun, hended, hW, hsame⟩ := X0.leave (v := some (.int 1)) (fun h => by rw [Bd.returns] at h; cases h)
      refine ⟨_, _, pre106 _ ?_, hrun, hended, _, _, rfl, ?_, ⟨_, rfl⟩, hW, hsame.mono (by decide) (by decide)⟩
      · exact retN X0 hx (t := .boolean) Bd.returns (by simp) (hb hby d11_20) hr
      · show QDt Z p1 h0 n0 _ s₁.heap _
        rw [e0]
        exact ⟨(by simp [own_dgt, hc101, hc104]), N0, rfl⟩
    · have pre107 : own_P p e below s₁ (entryFrame m #[(.int p1)] 2) s₁ (mkF m 20 #[iv p1, iv (p1 - (48 : Int32))] [(.int 0)]) := fun t k => pre105 t (by
        refine XS.icmpYes X0.here hx rfl (pc0 := 12) (pc' := 19) rfl (hb hby d11_12) rfl (flt hc104).2.1 (by decide) (by decide) ?_
        refine XS.iconst X0.here hx rfl (hb hby d11_19) ?_
        exact k)
      obtain ⟨fs, hr, hrun, hended, hW, hsame⟩ := X0.leave (v := some (.int 0)) (fun h => by rw [Bd.returns] at h; cases h)
      refine ⟨_, _, pre107 _ ?_, hrun, hended, _, _, rfl, ?_, ⟨_, rfl⟩, hW, hsame.mono (by decide) (by decide)⟩
      · exact retN X0 hx (t := .boolean) Bd.returns (by simp) (hb hby d11_20) hr
      · show QDt Z p1 h0 n0 _ s₁.heap _
        rw [e0]
        exact ⟨(by simp [own_dgt, hc101, hc104]), N0, rfl⟩
theorem own_shr0 (z : Int32) : z >>> ((0 : Int32) &&& 31) = z := by
  have e : ((0 : Int32) &&& 31) = 0 := rfl
  rw [e]
  simp
def QCo (Z : State) (a1 : Addr) (cs : Int32) (h0 : Heap) (n0 : Nat) (v : Option Value) (h : Heap) (L : List Loc) : Prop := v = some (.int 0) ∧ Fr n0 L ∧ h = h0
theorem rmCo (l : Launch) (Z : State) (a0 : Array Value) (hw : own_H Z a0) (ws : List Jvm.Cond) (a1 : Addr) (cs : Int32) (h0 : Heap) (n0 : Nat) (Z0 : n0 ≤ h0.size) (SC : Sta Z h0 "java/lang/String" "COMPACT_STRINGS" "Z" (.int cs)) (hcs : ¬ (cs = (0 : Int32))) (C1 : Fld Z h0 a1 "java/lang/String" "coder" "B" (.int 0)) :
    own_M l own_y7 jdk_42_method_152_code 1 (some .byte) ws (own_R 0 0 0 0) Z h0 #[(.ref a1)] (QCo Z a1 cs h0 n0) := by
  refine own_body (plainFor_of_name pn_java_lang_String) fun p e s m below meth c s₁ Bd hx hby hml (hown : s.vm.findClass "java/lang/String" = some m.cls) hnm X0 e0 hZ => ?_
  have N0 := Fr.nil n0
  have pre0 : own_P p e below s₁ (entryFrame m #[(.ref a1)] 1) s₁ (mkF m 0 #[rv a1] []) := fun t k => castTop (by first | rfl | (simp [entryFrame, mkF, argsToLocals, Value.category]; done)) k
  obtain ⟨T101, X101, e101, st101⟩ := getS2 X0 hx hZ hown (host := "") (Or.inl (own_i hw 39 rfl)) Via.refl e0 SC (g := (mkF m 0 #[rv a1] [])) rfl (hb hby d13_0)
  obtain ⟨T102, X102, e102, st102⟩ := getF X101 hx hZ hown (host := "") (Or.inl (own_i hw 29 rfl)) Via.refl e101 C1 (g := (mkF m 7 #[rv a1] [(.ref a1)])) rfl rfl (hb hby d13_7)
  have pre103 : own_P p e below s₁ (entryFrame m #[(.ref a1)] 1) T102 (mkF m 14 #[rv a1] [(.int 0)]) := fun t k => pre0 t (by
    show Steps p.tables e below (s₁.setTop (mkF m 0 #[rv a1] [])) t
    refine st101 _ ?_
    refine XS.ifNo X101.here hx rfl (hb hby d13_3) rfl ((if0 _ _).trans (feq hcs).1) ?_
    refine XS.aloadN X101.here hx rfl (hb hby d13_6) rfl rfl ?_
    refine st102 _ ?_
    refine XS.goto X102.here hx rfl (pc0 := 10) (pc' := 14) rfl (hb hby d13_10) (by decide) (by decide) ?_
    exact k)
  obtain ⟨fs, hr, hrun, hended, hW, hsame⟩ := X102.leave (v := some (.int (nar .byte (0 : Int32)))) (fun h => by rw [Bd.returns] at h; cases h)
  refine ⟨_, _, pre103 _ ?_, hrun, hended, _, _, rfl, ?_, ⟨_, rfl⟩, hW, hsame.mono (by decide) (by decide)⟩
  · exact retN X102 hx (t := .byte) Bd.returns (by simp) (hb hby d13_14) hr
  · show QCo Z a1 cs h0 n0 _ T102.heap _
    rw [e102]
    exact ⟨rfl, N0, rfl⟩
def QIl (Z : State) (a1 : Addr) (cs : Int32) (h0 : Heap) (n0 : Nat) (v : Option Value) (h : Heap) (L : List Loc) : Prop := v = some (.int 1) ∧ Fr n0 L ∧ h = h0
theorem rmIl (l : Launch) (Z : State) (a0 : Array Value) (hw : own_H Z a0) (ws : List Jvm.Cond) (a1 : Addr) (cs : Int32) (h0 : Heap) (n0 : Nat) (Z0 : n0 ≤ h0.size) (SC : Sta Z h0 "java/lang/String" "COMPACT_STRINGS" "Z" (.int cs)) (hcs : ¬ (cs = (0 : Int32))) (C1 : Fld Z h0 a1 "java/lang/String" "coder" "B" (.int 0)) :
    own_M l own_y8 jdk_42_method_154_code 1 (some .boolean) ws (own_R 0 0 0 0) Z h0 #[(.ref a1)] (QIl Z a1 cs h0 n0) := by
  refine own_body (plainFor_of_name pn_java_lang_String) fun p e s m below meth c s₁ Bd hx hby hml (hown : s.vm.findClass "java/lang/String" = some m.cls) hnm X0 e0 hZ => ?_
  have N0 := Fr.nil n0
  have pre0 : own_P p e below s₁ (entryFrame m #[(.ref a1)] 1) s₁ (mkF m 0 #[rv a1] []) := fun t k => castTop (by first | rfl | (simp [entryFrame, mkF, argsToLocals, Value.category]; done)) k
  obtain ⟨T101, X101, e101, st101⟩ := getS2 X0 hx hZ hown (host := "") (Or.inl (own_i hw 39 rfl)) Via.refl e0 SC (g := (mkF m 0 #[rv a1] [])) rfl (hb hby d15_0)
  obtain ⟨T102, X102, e102, st102⟩ := getF X101 hx hZ hown (host := "") (Or.inl (own_i hw 29 rfl)) Via.refl e101 C1 (g := (mkF m 7 #[rv a1] [(.ref a1)])) rfl rfl (hb hby d15_7)
  have pre103 : own_P p e below s₁ (entryFrame m #[(.ref a1)] 1) T102 (mkF m 18 #[rv a1] [(.int 1)]) := fun t k => pre0 t (by
    show Steps p.tables e below (s₁.setTop (mkF m 0 #[rv a1] [])) t
    refine st101 _ ?_
    refine XS.ifNo X101.here hx rfl (hb hby d15_3) rfl ((if0 _ _).trans (feq hcs).1) ?_
    refine XS.aloadN X101.here hx rfl (hb hby d15_6) rfl rfl ?_
    refine st102 _ ?_
    refine XS.ifNo X102.here hx rfl (hb hby d15_10) rfl ((if0 _ _).trans (teq (by decide : (0 : Int32) = (0 : Int32))).2) ?_
    refine XS.iconst X102.here hx rfl (hb hby d15_13) ?_
    refine XS.goto X102.here hx rfl (pc0 := 14) (pc' := 18) rfl (hb hby d15_14) (by decide) (by decide) ?_
    exact k)
  obtain ⟨fs, hr, hrun, hended, hW, hsame⟩ := X102.leave (v := some (.int 1)) (fun h => by rw [Bd.returns] at h; cases h)
  refine ⟨_, _, pre103 _ ?_, hrun, hended, _, _, rfl, ?_, ⟨_, rfl⟩, hW, hsame.mono (by decide) (by decide)⟩
  · exact retN X102 hx (t := .boolean) Bd.returns (by simp) (hb hby d15_18) hr
  · show QIl Z a1 cs h0 n0 _ T102.heap _
    rw [e102]
    exact ⟨rfl, N0, rfl⟩
theorem pd_4 : parseMethodDescriptor "()B" = some ⟨[], some .byte⟩ := by decide +kernel
def QLen (Z : State) (a1 : Addr) (cs : Int32) (tv : Addr) (kt : ClassId) (z : Int32) (vs : List Value) (h0 : Heap) (n0 : Nat) (v : Option Value) (h : Heap) (L : List Loc) : Prop := v = some (.int z) ∧ Fr n0 L ∧ h = h0
theorem rmLen (l : Launch) (Z : State) (a0 : Array Value) (hw : own_H Z a0) (ws : List Jvm.Cond) (a1 : Addr) (cs : Int32) (tv : Addr) (kt : ClassId) (z : Int32) (vs : List Value) (h0 : Heap) (n0 : Nat) (Z0 : n0 ≤ h0.size) (SC : Sta Z h0 "java/lang/String" "COMPACT_STRINGS" "Z" (.int cs)) (hcs : ¬ (cs = (0 : Int32))) (E1 : Exa Z h0 a1 "java/lang/String") (C1 : Fld Z h0 a1 "java/lang/String" "coder" "B" (.int 0)) (W1 : Fld Z h0 a1 "java/lang/String" "value" "[B" (.ref tv)) (V1 : Arv Z h0 tv kt .byte z vs (.int 0)) :
    own_M l own_y9 jdk_42_method_54_code 1 (some .int) ws (own_R 1 0 0 13) Z h0 #[(.ref a1)] (QLen Z a1 cs tv kt z vs h0 n0) := by
  refine own_body (plainFor_of_name pn_java_lang_String) fun p e s m below meth c s₁ Bd hx hby hml (hown : s.vm.findClass "java/lang/String" = some m.cls) hnm X0 e0 hZ => ?_
  have N0 := Fr.nil n0
  have pre0 : own_P p e below s₁ (entryFrame m #[(.ref a1)] 1) s₁ (mkF m 0 #[rv a1] []) := fun t k => castTop (by first | rfl | (simp [entryFrame, mkF, argsToLocals, Value.category]; done)) k
  obtain ⟨T101, X101, e101, st101⟩ := getF X0 hx hZ hown (host := "") (Or.inl (own_i hw 28 rfl)) Via.refl e0 W1 (g := (mkF m 1 #[rv a1] [(.ref a1)])) rfl rfl (hb hby d12_1)
  obtain ⟨cl102, Ar102, q102, S102, N102z, H102, G102⟩ := (id V1)
  obtain ⟨cq103, kq103, q103a, q103b, q103c⟩ := isOf hZ e101 E1
  obtain ⟨_, _, ⟨T103, L103, k103, n103⟩, -, X103, ⟨Lc103, hQ103, l103, y103, z103⟩, st103⟩ := X101.virtualBack hx (y := own_y7) (z := own_y7) hown (own_m hZ hw 58) (own_m hZ hw 59) (notFace_of_selects (args := #[]) (own_m hZ hw 61)) (own_m hZ hw 61) (own_m hZ hw 60) (by decide) (backOf (W := 1) (rmCo l Z a0 hw [] a1 cs h0 n0 Z0 SC hcs C1) hZ (own_i hw 62 rfl) (own_i hw 10 rfl) (by decide) (by decide)) q103a q103c (g := (mkF m 6 #[rv a1] [(.ref a1), (.int z)])) rfl (by rw [hml]; rfl) (Steps.refl _) (argsL := []) (rest := [(.int z)]) (lenOf pd_4 rfl) rfl (Nat.le_of_eq rfl) (hb hby d12_6) (fun _ _ => ⟨rfl, e101, own_le rfl, own_le rfl⟩)
  dsimp only [Pt.U, Pt.locs, Pt.cells, Pt.slots] at X103 l103 y103 z103 st103 hQ103
  subst l103 y103 z103
  obtain ⟨rfl, N103q, e103⟩ := hQ103
  have N103 := Fr.app N0 N103q
  have pre104 : own_P p e below s₁ (entryFrame m #[(.ref a1)] 1) T103 (mkF m 10 #[rv a1] [(.int (z >>> ((0 : Int32) &&& 31)))]) := fun t k => pre0 t (by
    show Steps p.tables e below (s₁.setTop (mkF m 0 #[rv a1] [])) t
    refine XS.aloadN X0.here hx rfl (hb hby d12_0) rfl rfl ?_
    refine st101 _ ?_
    refine X101.arraylength hx (by rw [e101]; exact Ar102.1) (State.isArrayOf_alike hZ.alike Ar102.2.1) (g := (mkF m 4 #[rv a1] [(.ref tv)])) rfl rfl (hb hby d12_4) _ ?_
    rw [len_of S102 N102z]
    refine XS.aloadN X101.here hx rfl (hb hby d12_5) rfl rfl ?_
    refine st103.trans ?_
    refine XS.ishr X103.here hx rfl (hb hby d12_9) rfl ?_
    exact k)
  obtain ⟨fs, hr, hrun, hended, hW, hsame⟩ := X103.leave (v := some (.int (z >>> ((0 : Int32) &&& 31)))) (fun h => by rw [Bd.returns] at h; cases h)
  refine ⟨_, _, pre104 _ ?_, hrun, hended, _, _, rfl, ?_, ⟨_, rfl⟩, hW, hsame.mono (by decide) (by decide)⟩
  · exact retI X103 hx Bd.returns (hb hby d12_10) hr
  · show QLen Z a1 cs tv kt z vs h0 n0 _ T103.heap _
    rw [e103]
    exact ⟨(by rw [own_shr0]), N103, rfl⟩
theorem pn_jdk_internal_util_Preconditions : plainName "jdk/internal/util/Preconditions" = true := by first | (simp [plainName, overriddenIn]; done) | decide +kernel
theorem ef_rmPi (m : MethodId) (x0 : Int32) (x1 : Int32) (x2 : Value) (hv2 : x2.isRef = true) : entryFrame m #[(.int x0), (.int x1), x2] 3 = mkF m 0 #[iv x0, iv x1, .val x2] [] := by
  rcases ref_cases hv2 with rfl | ⟨_, rfl⟩ <;> first | (simp [entryFrame, mkF, argsToLocals, Value.category]; done) | rfl
def QPi (Z : State) (p1 p2 : Int32) (vF : Value) (h0 : Heap) (n0 : Nat) (v : Option Value) (h : Heap) (L : List Loc) : Prop := v = some (.int p1) ∧ Fr n0 L ∧ h = h0
theorem rmPi (l : Launch) (Z : State) (a0 : Array Value) (hw : own_H Z a0) (ws : List Jvm.Cond) (p1 p2 : Int32) (vF : Value) (h0 : Heap) (n0 : Nat) (Z0 : n0 ≤ h0.size) (hF : vF.isRef = true) (h1 : ¬ (p1 < (0 : Int32))) (h2 : p1 < p2) :
    own_M l own_y10 jdk_41_method_11_code 3 (some .int) ws (own_R 0 0 0 0) Z h0 #[(.int p1), (.int p2), vF] (QPi Z p1 p2 vF h0 n0) := by
  refine own_body (plainFor_of_name pn_jdk_internal_util_Preconditions) fun p e s m below meth c s₁ Bd hx hby hml (hown : s.vm.findClass "jdk/internal/util/Preconditions" = some m.cls) hnm X0 e0 hZ => ?_
  have N0 := Fr.nil n0
  have pre0 : own_P p e below s₁ (entryFrame m #[(.int p1), (.int p2), vF] 3) s₁ (mkF m 0 #[iv p1, iv p2, .val vF] []) := fun t k => castTop (ef_rmPi m p1 p2 vF hF) k
  have pre101 : own_P p e below s₁ (entryFrame m #[(.int p1), (.int p2), vF] 3) s₁ (mkF m 17 #[iv p1, iv p2, .val vF] [(.int p1)]) := fun t k => pre0 t (by
    show Steps p.tables e below (s₁.setTop (mkF m 0 #[iv p1, iv p2, .val vF] [])) t
    refine XS.iloadN X0.here hx rfl (hb hby d18_0) rfl ?_
    refine XS.ifNo X0.here hx rfl (hb hby d18_1) rfl ((if0 _ _).trans (flt h1).1) ?_
    refine XS.iloadN X0.here hx rfl (hb hby d18_4) rfl ?_
    refine XS.iloadN X0.here hx rfl (hb hby d18_5) rfl ?_
    refine XS.icmpYes X0.here hx rfl (pc0 := 6) (pc' := 16) rfl (hb hby d18_6) rfl (tlt h2).1 (by decide) (by decide) ?_
    refine XS.iloadN X0.here hx rfl (hb hby d18_16) rfl ?_
    exact k)
  obtain ⟨fs, hr, hrun, hended, hW, hsame⟩ := X0.leave (v := some (.int p1)) (fun h => by rw [Bd.returns] at h; cases h)
  refine ⟨_, _, pre101 _ ?_, hrun, hended, _, _, rfl, ?_, ⟨_, rfl⟩, hW, hsame.mono (by decide) (by decide)⟩
  · exact retI X0 hx Bd.returns (hb hby d18_17) hr
  · show QPi Z p1 p2 vF h0 n0 _ s₁.heap _
    rw [e0]
    exact ⟨rfl, N0, rfl⟩
theorem pd_5 : parseMethodDescriptor "(IILjava/util/function/BiFunction;)I" = some ⟨[.int, .int, (.object "java/util/function/BiFunction")], some .int⟩ := by decide +kernel
def QKi (Z : State) (p1 p2 : Int32) (vF : Value) (h0 : Heap) (n0 : Nat) (v : Option Value) (h : Heap) (L : List Loc) : Prop := v = none ∧ Fr n0 L ∧ h = h0
theorem rmKi (l : Launch) (Z : State) (a0 : Array Value) (hw : own_H Z a0) (ws : List Jvm.Cond) (p1 p2 : Int32) (vF : Value) (h0 : Heap) (n0 : Nat) (Z0 : n0 ≤ h0.size) (SF : Sta Z h0 "jdk/internal/util/Preconditions" "SIOOBE_FORMATTER" "Ljava/util/function/BiFunction;" vF) (hF : vF.isRef = true) (h1 : ¬ (p1 < (0 : Int32))) (h2 : p1 < p2) :
    own_M l own_y11 jdk_42_method_155_code 2 none ws (own_R 1 0 0 14) Z h0 #[(.int p1), (.int p2)] (QKi Z p1 p2 vF h0 n0) := by
  refine own_body (plainFor_of_name pn_java_lang_String) fun p e s m below meth c s₁ Bd hx hby hml (hown : s.vm.findClass "java/lang/String" = some m.cls) hnm X0 e0 hZ => ?_
  have N0 := Fr.nil n0
  have pre0 : own_P p e below s₁ (entryFrame m #[(.int p1), (.int p2)] 2) s₁ (mkF m 0 #[iv p1, iv p2] []) := fun t k => castTop (by first | rfl | (simp [entryFrame, mkF, argsToLocals, Value.category]; done)) k
  obtain ⟨T101, X101, e101, st101⟩ := getS2 X0 hx hZ hown (host := "") (Or.inl (own_i hw 80 rfl)) Via.refl e0 SF (g := (mkF m 2 #[iv p1, iv p2] [(.int p2), (.int p1)])) rfl (hb hby d17_2)
  obtain ⟨_, _, ⟨T102, L102, k102, n102⟩, -, X102, ⟨Lc102, hQ102, l102, y102, z102⟩, st102⟩ := Jvm.LawKit.callS X101 hx (y := own_y10) hown (own_m hZ hw 82) (own_m hZ hw 83) (own_m hZ hw 81) (own_m hZ hw 84) (by decide) (backOf (W := 0) (rmPi l Z a0 hw [] p1 p2 vF h0 n0 Z0 hF h1 h2) hZ (own_i hw 84 rfl) (own_i hw 81 rfl) (by decide) (by decide)) (g := (mkF m 5 #[iv p1, iv p2] [vF, (.int p2), (.int p1)])) rfl (by rw [hml]; rfl) (argsL := [(.int p1), (.int p2), vF]) (rest := []) (lenOf pd_5 rfl) rfl (Nat.le_of_eq rfl) (hb hby d17_5) (fun _ _ => ⟨rfl, e101, own_le rfl, own_le rfl⟩)
  dsimp only [Pt.U, Pt.locs, Pt.cells, Pt.slots] at X102 l102 y102 z102 st102 hQ102
  subst l102 y102 z102
  obtain ⟨rfl, N102q, e102⟩ := hQ102
  have N102 := Fr.app N0 N102q
  have pre103 : own_P p e below s₁ (entryFrame m #[(.int p1), (.int p2)] 2) T102 (mkF m 9 #[iv p1, iv p2] []) := fun t k => pre0 t (by
    show Steps p.tables e below (s₁.setTop (mkF m 0 #[iv p1, iv p2] [])) t
    refine XS.iloadN X0.here hx rfl (hb hby d17_0) rfl ?_
    refine XS.iloadN X0.here hx rfl (hb hby d17_1) rfl ?_
    refine st101 _ ?_
    refine st102 _ ?_
    refine XS.pop X102.here hx rfl (hb hby d17_8) rfl rfl ?_
    exact k)
  obtain ⟨fs, hr, hrun, hended, hW, hsame⟩ := X102.leave (v := none) (fun _ => rfl)
  refine ⟨_, _, pre103 _ ?_, hrun, hended, _, _, rfl, ?_, ⟨_, rfl⟩, hW, hsame.mono (by decide) (by decide)⟩
  · exact X102.returnOut hx Bd.returns (hb hby d17_9) hr
  · show QKi Z p1 p2 vF h0 n0 _ T102.heap _
    rw [e102]
    exact ⟨rfl, N102, rfl⟩
theorem pn_java_lang_StringLatin1 : plainName "java/lang/StringLatin1" = true := by first | (simp [plainName, overriddenIn]; done) | decide +kernel
theorem pd_6 : parseMethodDescriptor "(II)V" = some ⟨[.int, .int], none⟩ := by decide +kernel
def QLc (Z : State) (a1 : Addr) (p2 : Int32) (vF : Value) (kt : ClassId) (y z : Int32) (vs : List Value) (h0 : Heap) (n0 : Nat) (v : Option Value) (h : Heap) (L : List Loc) : Prop := v = some (.int (own_lc y)) ∧ Fr n0 L ∧ h = h0
theorem rmLc (l : Launch) (Z : State) (a0 : Array Value) (hw : own_H Z a0) (ws : List Jvm.Cond) (a1 : Addr) (p2 : Int32) (vF : Value) (kt : ClassId) (y z : Int32) (vs : List Value) (h0 : Heap) (n0 : Nat) (Z0 : n0 ≤ h0.size) (SF : Sta Z h0 "jdk/internal/util/Preconditions" "SIOOBE_FORMATTER" "Ljava/util/function/BiFunction;" vF) (hF : vF.isRef = true) (V1 : Arv Z h0 a1 kt .byte z vs (.int 0)) (h1 : ¬ (p2 < (0 : Int32))) (h2 : p2 < z) (hy : vs.getD p2.toNatClampNeg (.int 0) = (.int y)) :
    own_M l own_y12 jdk_43_method_2_code 2 (some .char) ws (own_R 2 0 0 27) Z h0 #[(.ref a1), (.int p2)] (QLc Z a1 p2 vF kt y z vs h0 n0) := by
  refine own_body (plainFor_of_name pn_java_lang_StringLatin1) fun p e s m below meth c s₁ Bd hx hby hml (hown : s.vm.findClass "java/lang/StringLatin1" = some m.cls) hnm X0 e0 hZ => ?_
  have N0 := Fr.nil n0
  have pre0 : own_P p e below s₁ (entryFrame m #[(.ref a1), (.int p2)] 2) s₁ (mkF m 0 #[rv a1, iv p2] []) := fun t k => castTop (by first | rfl | (simp [entryFrame, mkF, argsToLocals, Value.category]; done)) k
  obtain ⟨cl101, Ar101, q101, S101, N101z, H101, G101⟩ := (id V1)
  obtain ⟨_, _, ⟨T102, L102, k102, n102⟩, -, X102, ⟨Lc102, hQ102, l102, y102, z102⟩, st102⟩ := Jvm.LawKit.callS X0 hx (y := own_y11) hown (own_m hZ hw 77) (own_m hZ hw 78) (own_m hZ hw 10) (own_m hZ hw 79) (by decide) (backOf (W := 0) (rmKi l Z a0 hw [] p2 z vF h0 n0 Z0 SF hF h1 h2) hZ (own_i hw 79 rfl) (own_i hw 10 rfl) (by decide) (by decide)) (g := (mkF m 3 #[rv a1, iv p2] [(.int z), (.int p2)])) rfl (by rw [hml]; rfl) (argsL := [(.int p2), (.int z)]) (rest := []) (lenOf pd_6 rfl) rfl (Nat.le_of_eq rfl) (hb hby d16_3) (fun _ _ => ⟨rfl, e0, own_le rfl, own_le rfl⟩)
  dsimp only [Pt.U, Pt.locs, Pt.cells, Pt.slots] at X102 l102 y102 z102 st102 hQ102
  subst l102 y102 z102
  obtain ⟨rfl, N102q, e102⟩ := hQ102
  have N102 := Fr.app N0 N102q
  obtain ⟨cl103, Ar103, q103, S103, N103z, H103, G103⟩ := (id V1)
  have hin103 : ¬ (p2 < 0 ∨ cl103.slots.size ≤ p2.toNatClampNeg) := inb_of S103 ⟨h1, h2⟩
  have hat103 : cl103.slots[p2.toNatClampNeg]? = some (.int y) := Has.at H103 hin103 hy
  have pre104 : own_P p e below s₁ (entryFrame m #[(.ref a1), (.int p2)] 2) T102 (mkF m 14 #[rv a1, iv p2] [(.int ((y &&& (255 : Int32)).toUInt32.toUInt16.toUInt32.toInt32))]) := fun t k => pre0 t (by
    show Steps p.tables e below (s₁.setTop (mkF m 0 #[rv a1, iv p2] [])) t
    refine XS.iloadN X0.here hx rfl (hb hby d16_0) rfl ?_
    refine XS.aloadN X0.here hx rfl (hb hby d16_1) rfl rfl ?_
    refine X0.arraylength hx (by rw [e0]; exact Ar101.1) (State.isArrayOf_alike hZ.alike Ar101.2.1) (g := (mkF m 2 #[rv a1, iv p2] [(.ref a1), (.int p2)])) rfl rfl (hb hby d16_2) _ ?_
    rw [len_of S101 N101z]
    refine st102 _ ?_
    refine XS.aloadN X102.here hx rfl (hb hby d16_6) rfl rfl ?_
    refine XS.iloadN X102.here hx rfl (hb hby d16_7) rfl ?_
    refine X102.baloadBytes hx (j := p2) (v := (.int y)) (by rw [e102]; exact Ar103.1) (State.isArrayOf_alike hZ.alike Ar103.2.1) Ar103.2.2 hin103 hat103 (g := (mkF m 8 #[rv a1, iv p2] [(.int p2), (.ref a1)])) rfl rfl (hb hby d16_8) _ ?_
    refine XS.sipush X102.here hx rfl (hb hby d16_9) ?_
    refine XS.iand X102.here hx rfl (hb hby d16_12) rfl ?_
    refine XS.i2c X102.here hx rfl (hb hby d16_13) rfl ?_
    exact k)
  obtain ⟨fs, hr, hrun, hended, hW, hsame⟩ := X102.leave (v := some (.int (nar .char ((y &&& (255 : Int32)).toUInt32.toUInt16.toUInt32.toInt32)))) (fun h => by rw [Bd.returns] at h; cases h)
  refine ⟨_, _, pre104 _ ?_, hrun, hended, _, _, rfl, ?_, ⟨_, rfl⟩, hW, hsame.mono (by decide) (by decide)⟩
  · exact retN X102 hx (t := .char) Bd.returns (by simp) (hb hby d16_14) hr
  · show QLc Z a1 p2 vF kt y z vs h0 n0 _ T102.heap _
    rw [e102]
    exact ⟨rfl, N102, rfl⟩
theorem pd_7 : parseMethodDescriptor "()Z" = some ⟨[], some .boolean⟩ := by decide +kernel
theorem pd_8 : parseMethodDescriptor "([BI)C" = some ⟨[(.array .byte), .int], some .char⟩ := by decide +kernel
def QCh (Z : State) (a1 : Addr) (p2 cs : Int32) (vF : Value) (tv : Addr) (kt : ClassId) (y z : Int32) (vs : List Value) (h0 : Heap) (n0 : Nat) (v : Option Value) (h : Heap) (L : List Loc) : Prop := v = some (.int (own_cat y)) ∧ Fr n0 L ∧ h = h0
theorem rmCh (l : Launch) (Z : State) (a0 : Array Value) (hw : own_H Z a0) (ws : List Jvm.Cond) (a1 : Addr) (p2 cs : Int32) (vF : Value) (tv : Addr) (kt : ClassId) (y z : Int32) (vs : List Value) (h0 : Heap) (n0 : Nat) (Z0 : n0 ≤ h0.size) (SC : Sta Z h0 "java/lang/String" "COMPACT_STRINGS" "Z" (.int cs)) (hcs : ¬ (cs = (0 : Int32))) (SF : Sta Z h0 "jdk/internal/util/Preconditions" "SIOOBE_FORMATTER" "Ljava/util/function/BiFunction;" vF) (hF : vF.isRef = true) (E1 : Exa Z h0 a1 "java/lang/String") (C1 : Fld Z h0 a1 "java/lang/String" "coder" "B" (.int 0)) (W1 : Fld Z h0 a1 "java/lang/String" "value" "[B" (.ref tv)) (V1 : Arv Z h0 tv kt .byte z vs (.int 0)) (h1 : ¬ (p2 < (0 : Int32))) (h2 : p2 < z) (hy : vs.getD p2.toNatClampNeg (.int 0) = (.int y)) :
    own_M l own_y13 jdk_42_method_56_code 2 (some .char) ws (own_R 3 0 0 40) Z h0 #[(.ref a1), (.int p2)] (QCh Z a1 p2 cs vF tv kt y z vs h0 n0) := by
  refine own_body (plainFor_of_name pn_java_lang_String) fun p e s m below meth c s₁ Bd hx hby hml (hown : s.vm.findClass "java/lang/String" = some m.cls) hnm X0 e0 hZ => ?_
  have N0 := Fr.nil n0
  have pre0 : own_P p e below s₁ (entryFrame m #[(.ref a1), (.int p2)] 2) s₁ (mkF m 0 #[rv a1, iv p2] []) := fun t k => castTop (by first | rfl | (simp [entryFrame, mkF, argsToLocals, Value.category]; done)) k
  obtain ⟨cq101, kq101, q101a, q101b, q101c⟩ := isOf hZ e0 E1
  obtain ⟨_, _, ⟨T101, L101, k101, n101⟩, -, X101, ⟨Lc101, hQ101, l101, y101, z101⟩, st101⟩ := X0.virtualBack hx (y := own_y8) (z := own_y8) hown (own_m hZ hw 68) (own_m hZ hw 69) (notFace_of_selects (args := #[]) (own_m hZ hw 71)) (own_m hZ hw 71) (own_m hZ hw 70) (by decide) (backOf (W := 0) (rmIl l Z a0 hw [] a1 cs h0 n0 Z0 SC hcs C1) hZ (own_i hw 72 rfl) (own_i hw 10 rfl) (by decide) (by decide)) q101a q101c (g := (mkF m 1 #[rv a1, iv p2] [(.ref a1)])) rfl (by rw [hml]; rfl) (Steps.refl _) (argsL := []) (rest := []) (lenOf pd_7 rfl) rfl (Nat.le_of_eq rfl) (hb hby d14_1) (fun _ _ => ⟨rfl, e0, own_le rfl, own_le rfl⟩)
  dsimp only [Pt.U, Pt.locs, Pt.cells, Pt.slots] at X101 l101 y101 z101 st101 hQ101
  subst l101 y101 z101
  obtain ⟨rfl, N101q, e101⟩ := hQ101
  have N101 := Fr.app N0 N101q
  obtain ⟨T102, X102, e102, st102⟩ := getF X101 hx hZ hown (host := "") (Or.inl (own_i hw 28 rfl)) Via.refl e101 W1 (g := (mkF m 8 #[rv a1, iv p2] [(.ref a1)])) rfl rfl (hb hby d14_8)
  obtain ⟨_, _, ⟨T103, L103, k103, n103⟩, -, X103, ⟨Lc103, hQ103, l103, y103, z103⟩, st103⟩ := Jvm.LawKit.callS X102 hx (y := own_y12) hown (own_m hZ hw 73) (own_m hZ hw 74) (own_m hZ hw 75) (own_m hZ hw 76) (by decide) (backOf (W := 0) (rmLc l Z a0 hw [] tv p2 vF kt y z vs h0 n0 Z0 SF hF V1 h1 h2 hy) hZ (own_i hw 76 rfl) (own_i hw 75 rfl) (by decide) (by decide)) (g := (mkF m 12 #[rv a1, iv p2] [(.int p2), (.ref tv)])) rfl (by rw [hml]; rfl) (argsL := [(.ref tv), (.int p2)]) (rest := []) (lenOf pd_8 rfl) rfl (Nat.le_of_eq rfl) (hb hby d14_12) (fun _ _ => ⟨rfl, e102, own_le rfl, own_le rfl⟩)
  dsimp only [Pt.U, Pt.locs, Pt.cells, Pt.slots] at X103 l103 y103 z103 st103 hQ103
  subst l103 y103 z103
  obtain ⟨rfl, N103q, e103⟩ := hQ103
  have N103 := Fr.app N101 N103q
  have pre104 : own_P p e below s₁ (entryFrame m #[(.ref a1), (.int p2)] 2) T103 (mkF m 15 #[rv a1, iv p2] [(.int (own_lc y))]) := fun t k => pre0 t (by
    show Steps p.tables e below (s₁.setTop (mkF m 0 #[rv a1, iv p2] [])) t
    refine XS.aloadN X0.here hx rfl (hb hby d14_0) rfl rfl ?_
    refine st101.trans ?_
    refine XS.ifNo X101.here hx rfl (hb hby d14_4) rfl ((if0 _ _).trans (feq (by decide : ¬ ((1 : Int32) = (0 : Int32)))).1) ?_
    refine XS.aloadN X101.here hx rfl (hb hby d14_7) rfl rfl ?_
    refine st102 _ ?_
    refine XS.iloadN X102.here hx rfl (hb hby d14_11) rfl ?_
    refine st103 _ ?_
    exact k)
  obtain ⟨fs, hr, hrun, hended, hW, hsame⟩ := X103.leave (v := some (.int (nar .char (own_lc y)))) (fun h => by rw [Bd.returns] at h; cases h)
  refine ⟨_, _, pre104 _ ?_, hrun, hended, _, _, rfl, ?_, ⟨_, rfl⟩, hW, hsame.mono (by decide) (by decide)⟩
  · exact retN X103 hx (t := .char) Bd.returns (by simp) (hb hby d14_15) hr
  · show QCh Z a1 p2 cs vF tv kt y z vs h0 n0 _ T103.heap _
    rw [e103]
    exact ⟨rfl, N103, rfl⟩
def QCo2 (Z : State) (a1 : Addr) (cs : Int32) (h0 : Heap) (n0 : Nat) (v : Option Value) (h : Heap) (L : List Loc) : Prop := v = some (.int 1) ∧ Fr n0 L ∧ h = h0
theorem rmCo2 (l : Launch) (Z : State) (a0 : Array Value) (hw : own_H Z a0) (ws : List Jvm.Cond) (a1 : Addr) (cs : Int32) (h0 : Heap) (n0 : Nat) (Z0 : n0 ≤ h0.size) (SC : Sta Z h0 "java/lang/String" "COMPACT_STRINGS" "Z" (.int cs)) (hcs : ¬ (cs = (0 : Int32))) (C1 : Fld Z h0 a1 "java/lang/String" "coder" "B" (.int 1)) :
    own_M l own_y7 jdk_42_method_152_code 1 (some .byte) ws (own_R 0 0 0 0) Z h0 #[(.ref a1)] (QCo2 Z a1 cs h0 n0) := by
  refine own_body (plainFor_of_name pn_java_lang_String) fun p e s m below meth c s₁ Bd hx hby hml (hown : s.vm.findClass "java/lang/String" = some m.cls) hnm X0 e0 hZ => ?_
  have N0 := Fr.nil n0
  have pre0 : own_P p e below s₁ (entryFrame m #[(.ref a1)] 1) s₁ (mkF m 0 #[rv a1] []) := fun t k => castTop (by first | rfl | (simp [entryFrame, mkF, argsToLocals, Value.category]; done)) k
  obtain ⟨T101, X101, e101, st101⟩ := getS2 X0 hx hZ hown (host := "") (Or.inl (own_i hw 39 rfl)) Via.refl e0 SC (g := (mkF m 0 #[rv a1] [])) rfl (hb hby d13_0)
  obtain ⟨T102, X102, e102, st102⟩ := getF X101 hx hZ hown (host := "") (Or.inl (own_i hw 29 rfl)) Via.refl e101 C1 (g := (mkF m 7 #[rv a1] [(.ref a1)])) rfl rfl (hb hby d13_7)
  have pre103 : own_P p e below s₁ (entryFrame m #[(.ref a1)] 1) T102 (mkF m 14 #[rv a1] [(.int 1)]) := fun t k => pre0 t (by
    show Steps p.tables e below (s₁.setTop (mkF m 0 #[rv a1] [])) t
    refine st101 _ ?_
    refine XS.ifNo X101.here hx rfl (hb hby d13_3) rfl ((if0 _ _).trans (feq hcs).1) ?_
    refine XS.aloadN X101.here hx rfl (hb hby d13_6) rfl rfl ?_
    refine st102 _ ?_
    refine XS.goto X102.here hx rfl (pc0 := 10) (pc' := 14) rfl (hb hby d13_10) (by decide) (by decide) ?_
    exact k)
  obtain ⟨fs, hr, hrun, hended, hW, hsame⟩ := X102.leave (v := some (.int (nar .byte (1 : Int32)))) (fun h => by rw [Bd.returns] at h; cases h)
  refine ⟨_, _, pre103 _ ?_, hrun, hended, _, _, rfl, ?_, ⟨_, rfl⟩, hW, hsame.mono (by decide) (by decide)⟩
  · exact retN X102 hx (t := .byte) Bd.returns (by simp) (hb hby d13_14) hr
  · show QCo2 Z a1 cs h0 n0 _ T102.heap _
    rw [e102]
    exact ⟨rfl, N0, rfl⟩
def QIl2 (Z : State) (a1 : Addr) (cs : Int32) (h0 : Heap) (n0 : Nat) (v : Option Value) (h : Heap) (L : List Loc) : Prop := v = some (.int 0) ∧ Fr n0 L ∧ h = h0
theorem rmIl2 (l : Launch) (Z : State) (a0 : Array Value) (hw : own_H Z a0) (ws : List Jvm.Cond) (a1 : Addr) (cs : Int32) (h0 : Heap) (n0 : Nat) (Z0 : n0 ≤ h0.size) (SC : Sta Z h0 "java/lang/String" "COMPACT_STRINGS" "Z" (.int cs)) (hcs : ¬ (cs = (0 : Int32))) (C1 : Fld Z h0 a1 "java/lang/String" "coder" "B" (.int 1)) :
    own_M l own_y8 jdk_42_method_154_code 1 (some .boolean) ws (own_R 0 0 0 0) Z h0 #[(.ref a1)] (QIl2 Z a1 cs h0 n0) := by
  refine own_body (plainFor_of_name pn_java_lang_String) fun p e s m below meth c s₁ Bd hx hby hml (hown : s.vm.findClass "java/lang/String" = some m.cls) hnm X0 e0 hZ => ?_
  have N0 := Fr.nil n0
  have pre0 : own_P p e below s₁ (entryFrame m #[(.ref a1)] 1) s₁ (mkF m 0 #[rv a1] []) := fun t k => castTop (by first | rfl | (simp [entryFrame, mkF, argsToLocals, Value.category]; done)) k
  obtain ⟨T101, X101, e101, st101⟩ := getS2 X0 hx hZ hown (host := "") (Or.inl (own_i hw 39 rfl)) Via.refl e0 SC (g := (mkF m 0 #[rv a1] [])) rfl (hb hby d15_0)
  obtain ⟨T102, X102, e102, st102⟩ := getF X101 hx hZ hown (host := "") (Or.inl (own_i hw 29 rfl)) Via.refl e101 C1 (g := (mkF m 7 #[rv a1] [(.ref a1)])) rfl rfl (hb hby d15_7)
  have pre103 : own_P p e below s₁ (entryFrame m #[(.ref a1)] 1) T102 (mkF m 18 #[rv a1] [(.int 0)]) := fun t k => pre0 t (by
    show Steps p.tables e below (s₁.setTop (mkF m 0 #[rv a1] [])) t
    refine st101 _ ?_
    refine XS.ifNo X101.here hx rfl (hb hby d15_3) rfl ((if0 _ _).trans (feq hcs).1) ?_
    refine XS.aloadN X101.here hx rfl (hb hby d15_6) rfl rfl ?_
    refine st102 _ ?_
    refine XS.ifYes X102.here hx rfl (pc0 := 10) (pc' := 17) rfl (hb hby d15_10) rfl ((if0 _ _).trans (feq (by decide : ¬ ((1 : Int32) = (0 : Int32)))).2) (by decide) (by decide) ?_
    refine XS.iconst X102.here hx rfl (hb hby d15_17) ?_
    exact k)
  obtain ⟨fs, hr, hrun, hended, hW, hsame⟩ := X102.leave (v := some (.int 0)) (fun h => by rw [Bd.returns] at h; cases h)
  refine ⟨_, _, pre103 _ ?_, hrun, hended, _, _, rfl, ?_, ⟨_, rfl⟩, hW, hsame.mono (by decide) (by decide)⟩
  · exact retN X102 hx (t := .boolean) Bd.returns (by simp) (hb hby d15_18) hr
  · show QIl2 Z a1 cs h0 n0 _ T102.heap _
    rw [e102]
    exact ⟨rfl, N0, rfl⟩
def QUl (Z : State) (a1 : Addr) (kt : ClassId) (z : Int32) (vs : List Value) (h0 : Heap) (n0 : Nat) (v : Option Value) (h : Heap) (L : List Loc) : Prop := v = some (.int (z >>> ((1 : Int32) &&& 31))) ∧ Fr n0 L ∧ h = h0
theorem rmUl (l : Launch) (Z : State) (a0 : Array Value) (hw : own_H Z a0) (ws : List Jvm.Cond) (a1 : Addr) (kt : ClassId) (z : Int32) (vs : List Value) (h0 : Heap) (n0 : Nat) (Z0 : n0 ≤ h0.size) (V1 : Arv Z h0 a1 kt .byte z vs (.int 0)) :
    own_M l own_y14 jdk_52_method_6_code 1 (some .int) ws (own_R 0 0 0 0) Z h0 #[(.ref a1)] (QUl Z a1 kt z vs h0 n0) := by
  refine own_body (plainFor_of_name pn_java_lang_StringUTF16) fun p e s m below meth c s₁ Bd hx hby hml (hown : s.vm.findClass "java/lang/StringUTF16" = some m.cls) hnm X0 e0 hZ => ?_
  have N0 := Fr.nil n0
  have pre0 : own_P p e below s₁ (entryFrame m #[(.ref a1)] 1) s₁ (mkF m 0 #[rv a1] []) := fun t k => castTop (by first | rfl | (simp [entryFrame, mkF, argsToLocals, Value.category]; done)) k
  obtain ⟨cl101, Ar101, q101, S101, N101z, H101, G101⟩ := (id V1)
  have pre102 : own_P p e below s₁ (entryFrame m #[(.ref a1)] 1) s₁ (mkF m 4 #[rv a1] [(.int (z >>> ((1 : Int32) &&& 31)))]) := fun t k => pre0 t (by
    show Steps p.tables e below (s₁.setTop (mkF m 0 #[rv a1] [])) t
    refine XS.aloadN X0.here hx rfl (hb hby d26_0) rfl rfl ?_
    refine X0.arraylength hx (by rw [e0]; exact Ar101.1) (State.isArrayOf_alike hZ.alike Ar101.2.1) (g := (mkF m 1 #[rv a1] [(.ref a1)])) rfl rfl (hb hby d26_1) _ ?_
    rw [len_of S101 N101z]
    refine XS.iconst X0.here hx rfl (hb hby d26_2) ?_
    refine XS.ishr X0.here hx rfl (hb hby d26_3) rfl ?_
    exact k)
  obtain ⟨fs, hr, hrun, hended, hW, hsame⟩ := X0.leave (v := some (.int (z >>> ((1 : Int32) &&& 31)))) (fun h => by rw [Bd.returns] at h; cases h)
  refine ⟨_, _, pre102 _ ?_, hrun, hended, _, _, rfl, ?_, ⟨_, rfl⟩, hW, hsame.mono (by decide) (by decide)⟩
  · exact retI X0 hx Bd.returns (hb hby d26_4) hr
  · show QUl Z a1 kt z vs h0 n0 _ s₁.heap _
    rw [e0]
    exact ⟨rfl, N0, rfl⟩
def QGc (Z : State) (a1 : Addr) (p2 : Int32) (kt : ClassId) (y yb z : Int32) (vs : List Value) (h0 : Heap) (n0 : Nat) (v : Option Value) (h : Heap) (L : List Loc) : Prop := v = some (.int (own_ut y yb)) ∧ Fr n0 L ∧ h = h0
theorem rmGc (l : Launch) (Z : State) (a0 : Array Value) (hw : own_H Z a0) (ws : List Jvm.Cond) (a1 : Addr) (p2 : Int32) (kt : ClassId) (y yb z : Int32) (vs : List Value) (h0 : Heap) (n0 : Nat) (Z0 : n0 ≤ h0.size) (V1 : Arv Z h0 a1 kt .byte z vs (.int 0)) (SA : Sta Z h0 "java/lang/StringUTF16" "$assertionsDisabled" "Z" (.int 1)) (SH : Sta Z h0 "java/lang/StringUTF16" "HI_BYTE_SHIFT" "I" (.int 0)) (SL : Sta Z h0 "java/lang/StringUTF16" "LO_BYTE_SHIFT" "I" (.int 8)) (h3 : ¬ ((p2 <<< ((1 : Int32) &&& 31)) < (0 : Int32))) (h4 : (p2 <<< ((1 : Int32) &&& 31)) < z) (h5 : ¬ (((p2 <<< ((1 : Int32) &&& 31)) + (1 : Int32)) < (0 : Int32))) (h6 : ((p2 <<< ((1 : Int32) &&& 31)) + (1 : Int32)) < z) (hy : vs.getD (p2 <<< ((1 : Int32) &&& 31)).toNatClampNeg (.int 0) = (.int y)) (hyb : vs.getD ((p2 <<< ((1 : Int32) &&& 31)) + (1 : Int32)).toNatClampNeg (.int 0) = (.int yb)) :
    own_M l own_y15 jdk_52_method_5_code 2 (some .char) ws (own_R 0 0 0 0) Z h0 #[(.ref a1), (.int p2)] (QGc Z a1 p2 kt y yb z vs h0 n0) := by
  refine own_body (plainFor_of_name pn_java_lang_StringUTF16) fun p e s m below meth c s₁ Bd hx hby hml (hown : s.vm.findClass "java/lang/StringUTF16" = some m.cls) hnm X0 e0 hZ => ?_
  have N0 := Fr.nil n0
  have pre0 : own_P p e below s₁ (entryFrame m #[(.ref a1), (.int p2)] 2) s₁ (mkF m 0 #[rv a1, iv p2] []) := fun t k => castTop (by first | rfl | (simp [entryFrame, mkF, argsToLocals, Value.category]; done)) k
  obtain ⟨T101, X101, e101, st101⟩ := getS2 X0 hx hZ hown (host := "") (Or.inl (own_i hw 99 rfl)) Via.refl e0 SA (g := (mkF m 0 #[rv a1, iv p2] [])) rfl (hb hby d23_0)
  obtain ⟨cl102, Ar102, q102, S102, N102z, H102, G102⟩ := (id V1)
  have hin102 : ¬ ((p2 <<< ((1 : Int32) &&& 31)) < 0 ∨ cl102.slots.size ≤ (p2 <<< ((1 : Int32) &&& 31)).toNatClampNeg) := inb_of S102 ⟨h3, h4⟩
  have hat102 : cl102.slots[(p2 <<< ((1 : Int32) &&& 31)).toNatClampNeg]? = some (.int y) := Has.at H102 hin102 hy
  obtain ⟨T103, X103, e103, st103⟩ := getS2 X101 hx hZ hown (host := "") (Or.inl (own_i hw 100 rfl)) Via.refl e101 SH (g := (mkF m 42 #[rv a1, iv ((p2 <<< ((1 : Int32) &&& 31)) + (1 : Int32))] [(.int (y &&& (255 : Int32)))])) rfl (hb hby d23_42)
  obtain ⟨cl104, Ar104, q104, S104, N104z, H104, G104⟩ := (id V1)
  have hin104 : ¬ (((p2 <<< ((1 : Int32) &&& 31)) + (1 : Int32)) < 0 ∨ cl104.slots.size ≤ ((p2 <<< ((1 : Int32) &&& 31)) + (1 : Int32)).toNatClampNeg) := inb_of S104 ⟨h5, h6⟩
  have hat104 : cl104.slots[((p2 <<< ((1 : Int32) &&& 31)) + (1 : Int32)).toNatClampNeg]? = some (.int yb) := Has.at H104 hin104 hyb
  obtain ⟨T105, X105, e105, st105⟩ := getS2 X103 hx hZ hown (host := "") (Or.inl (own_i hw 101 rfl)) Via.refl e103 SL (g := (mkF m 53 #[rv a1, iv ((p2 <<< ((1 : Int32) &&& 31)) + (1 : Int32))] [(.int (yb &&& (255 : Int32))), (.int ((y &&& (255 : Int32)) <<< ((0 : Int32) &&& 31)))])) rfl (hb hby d23_53)
  have pre106 : own_P p e below s₁ (entryFrame m #[(.ref a1), (.int p2)] 2) T105 (mkF m 59 #[rv a1, iv ((p2 <<< ((1 : Int32) &&& 31)) + (1 : Int32))] [(.int ((((y &&& (255 : Int32)) <<< ((0 : Int32) &&& 31)) ||| ((yb &&& (255 : Int32)) <<< ((8 : Int32) &&& 31))).toUInt32.toUInt16.toUInt32.toInt32))]) := fun t k => pre0 t (by
    show Steps p.tables e below (s₁.setTop (mkF m 0 #[rv a1, iv p2] [])) t
    refine st101 _ ?_
    refine XS.ifYes X101.here hx rfl (pc0 := 3) (pc' := 28) rfl (hb hby d23_3) rfl ((if0 _ _).trans (feq (by decide : ¬ ((1 : Int32) = (0 : Int32)))).2) (by decide) (by decide) ?_
    refine XS.iloadN X101.here hx rfl (hb hby d23_28) rfl ?_
    refine XS.iconst X101.here hx rfl (hb hby d23_29) ?_
    refine XS.ishl X101.here hx rfl (hb hby d23_30) rfl ?_
    refine XS.istoreN X101.here hx rfl (hb hby d23_31) rfl (l' := #[rv a1, iv (p2 <<< ((1 : Int32) &&& 31))]) rfl ?_
    refine XS.aloadN X101.here hx rfl (hb hby d23_32) rfl rfl ?_
    refine XS.iloadN X101.here hx rfl (hb hby d23_33) rfl ?_
    refine XS.iinc X101.here hx rfl (hb hby d23_34) rfl (l' := #[rv a1, iv ((p2 <<< ((1 : Int32) &&& 31)) + (1 : Int32))]) rfl ?_
    refine X101.baloadBytes hx (j := (p2 <<< ((1 : Int32) &&& 31))) (v := (.int y)) (by rw [e101]; exact Ar102.1) (State.isArrayOf_alike hZ.alike Ar102.2.1) Ar102.2.2 hin102 hat102 (g := (mkF m 37 #[rv a1, iv ((p2 <<< ((1 : Int32) &&& 31)) + (1 : Int32))] [(.int (p2 <<< ((1 : Int32) &&& 31))), (.ref a1)])) rfl rfl (hb hby d23_37) _ ?_
    refine XS.sipush X101.here hx rfl (hb hby d23_38) ?_
    refine XS.iand X101.here hx rfl (hb hby d23_41) rfl ?_
    refine st103 _ ?_
    refine XS.ishl X103.here hx rfl (hb hby d23_45) rfl ?_
    refine XS.aloadN X103.here hx rfl (hb hby d23_46) rfl rfl ?_
    refine XS.iloadN X103.here hx rfl (hb hby d23_47) rfl ?_
    refine X103.baloadBytes hx (j := ((p2 <<< ((1 : Int32) &&& 31)) + (1 : Int32))) (v := (.int yb)) (by rw [e103]; exact Ar104.1) (State.isArrayOf_alike hZ.alike Ar104.2.1) Ar104.2.2 hin104 hat104 (g := (mkF m 48 #[rv a1, iv ((p2 <<< ((1 : Int32) &&& 31)) + (1 : Int32))] [(.int ((p2 <<< ((1 : Int32) &&& 31)) + (1 : Int32))), (.ref a1), (.int ((y &&& (255 : Int32)) <<< ((0 : Int32) &&& 31)))])) rfl rfl (hb hby d23_48) _ ?_
    refine XS.sipush X103.here hx rfl (hb hby d23_49) ?_
    refine XS.iand X103.here hx rfl (hb hby d23_52) rfl ?_
    refine st105 _ ?_
    refine XS.ishl X105.here hx rfl (hb hby d23_56) rfl ?_
    refine XS.ior X105.here hx rfl (hb hby d23_57) rfl ?_
    refine XS.i2c X105.here hx rfl (hb hby d23_58) rfl ?_
    exact k)
  obtain ⟨fs, hr, hrun, hended, hW, hsame⟩ := X105.leave (v := some (.int (nar .char ((((y &&& (255 : Int32)) <<< ((0 : Int32) &&& 31)) ||| ((yb &&& (255 : Int32)) <<< ((8 : Int32) &&& 31))).toUInt32.toUInt16.toUInt32.toInt32)))) (fun h => by rw [Bd.returns] at h; cases h)
  refine ⟨_, _, pre106 _ ?_, hrun, hended, _, _, rfl, ?_, ⟨_, rfl⟩, hW, hsame.mono (by decide) (by decide)⟩
  · exact retN X105 hx (t := .char) Bd.returns (by simp) (hb hby d23_59) hr
  · show QGc Z a1 p2 kt y yb z vs h0 n0 _ T105.heap _
    rw [e105]
    exact ⟨rfl, N0, rfl⟩
theorem pd_9 : parseMethodDescriptor "([B)I" = some ⟨[(.array .byte)], some .int⟩ := by decide +kernel
def QUk (Z : State) (p1 : Int32) (a2 : Addr) (vF : Value) (kt : ClassId) (z : Int32) (vs : List Value) (h0 : Heap) (n0 : Nat) (v : Option Value) (h : Heap) (L : List Loc) : Prop := v = none ∧ Fr n0 L ∧ h = h0
theorem rmUk (l : Launch) (Z : State) (a0 : Array Value) (hw : own_H Z a0) (ws : List Jvm.Cond) (p1 : Int32) (a2 : Addr) (vF : Value) (kt : ClassId) (z : Int32) (vs : List Value) (h0 : Heap) (n0 : Nat) (Z0 : n0 ≤ h0.size) (SF : Sta Z h0 "jdk/internal/util/Preconditions" "SIOOBE_FORMATTER" "Ljava/util/function/BiFunction;" vF) (hF : vF.isRef = true) (V2 : Arv Z h0 a2 kt .byte z vs (.int 0)) (h1 : ¬ (p1 < (0 : Int32))) (h2 : p1 < (z >>> ((1 : Int32) &&& 31))) :
    own_M l own_y16 jdk_52_method_91_code 2 none ws (own_R 2 0 0 27) Z h0 #[(.int p1), (.ref a2)] (QUk Z p1 a2 vF kt z vs h0 n0) := by
  refine own_body (plainFor_of_name pn_java_lang_StringUTF16) fun p e s m below meth c s₁ Bd hx hby hml (hown : s.vm.findClass "java/lang/StringUTF16" = some m.cls) hnm X0 e0 hZ => ?_
  have N0 := Fr.nil n0
  have pre0 : own_P p e below s₁ (entryFrame m #[(.int p1), (.ref a2)] 2) s₁ (mkF m 0 #[iv p1, rv a2] []) := fun t k => castTop (by first | rfl | (simp [entryFrame, mkF, argsToLocals, Value.category]; done)) k
  obtain ⟨_, _, ⟨T101, L101, k101, n101⟩, -, X101, ⟨Lc101, hQ101, l101, y101, z101⟩, st101⟩ := Jvm.LawKit.callS X0 hx (y := own_y14) hown (own_m hZ hw 111) (own_m hZ hw 112) (own_m hZ hw 42) (own_m hZ hw 113) (by decide) (backOf (W := 1) (rmUl l Z a0 hw [] a2 kt z vs h0 n0 Z0 V2) hZ (own_i hw 113 rfl) (own_i hw 42 rfl) (by decide) (by decide)) (g := (mkF m 2 #[iv p1, rv a2] [(.ref a2), (.int p1)])) rfl (by rw [hml]; rfl) (argsL := [(.ref a2)]) (rest := [(.int p1)]) (lenOf pd_9 rfl) rfl (Nat.le_of_eq rfl) (hb hby d25_2) (fun _ _ => ⟨rfl, e0, own_le rfl, own_le rfl⟩)
  dsimp only [Pt.U, Pt.locs, Pt.cells, Pt.slots] at X101 l101 y101 z101 st101 hQ101
  subst l101 y101 z101
  obtain ⟨rfl, N101q, e101⟩ := hQ101
  have N101 := Fr.app N0 N101q
  obtain ⟨_, _, ⟨T102, L102, k102, n102⟩, -, X102, ⟨Lc102, hQ102, l102, y102, z102⟩, st102⟩ := Jvm.LawKit.callS X101 hx (y := own_y11) hown (own_m hZ hw 114) (own_m hZ hw 78) (own_m hZ hw 10) (own_m hZ hw 79) (by decide) (backOf (W := 0) (rmKi l Z a0 hw [] p1 (z >>> ((1 : Int32) &&& 31)) vF h0 n0 Z0 SF hF h1 h2) hZ (own_i hw 79 rfl) (own_i hw 10 rfl) (by decide) (by decide)) (g := (mkF m 5 #[iv p1, rv a2] [(.int (z >>> ((1 : Int32) &&& 31))), (.int p1)])) rfl (by rw [hml]; rfl) (argsL := [(.int p1), (.int (z >>> ((1 : Int32) &&& 31)))]) (rest := []) (lenOf pd_6 rfl) rfl (Nat.le_of_eq rfl) (hb hby d25_5) (fun _ _ => ⟨rfl, e101, own_le rfl, own_le rfl⟩)
  dsimp only [Pt.U, Pt.locs, Pt.cells, Pt.slots] at X102 l102 y102 z102 st102 hQ102
  subst l102 y102 z102
  obtain ⟨rfl, N102q, e102⟩ := hQ102
  have N102 := Fr.app N101 N102q
  have pre103 : own_P p e below s₁ (entryFrame m #[(.int p1), (.ref a2)] 2) T102 (mkF m 8 #[iv p1, rv a2] []) := fun t k => pre0 t (by
    show Steps p.tables e below (s₁.setTop (mkF m 0 #[iv p1, rv a2] [])) t
    refine XS.iloadN X0.here hx rfl (hb hby d25_0) rfl ?_
    refine XS.aloadN X0.here hx rfl (hb hby d25_1) rfl rfl ?_
    refine st101 _ ?_
    refine st102 _ ?_
    exact k)
  obtain ⟨fs, hr, hrun, hended, hW, hsame⟩ := X102.leave (v := none) (fun _ => rfl)
  refine ⟨_, _, pre103 _ ?_, hrun, hended, _, _, rfl, ?_, ⟨_, rfl⟩, hW, hsame.mono (by decide) (by decide)⟩
  · exact X102.returnOut hx Bd.returns (hb hby d25_8) hr
  · show QUk Z p1 a2 vF kt z vs h0 n0 _ T102.heap _
    rw [e102]
    exact ⟨rfl, N102, rfl⟩
theorem pd_10 : parseMethodDescriptor "(I[B)V" = some ⟨[.int, (.array .byte)], none⟩ := by decide +kernel
def QUc (Z : State) (a1 : Addr) (p2 : Int32) (vF : Value) (kt : ClassId) (y yb z : Int32) (vs : List Value) (h0 : Heap) (n0 : Nat) (v : Option Value) (h : Heap) (L : List Loc) : Prop := v = some (.int (nar .char (own_ut y yb))) ∧ Fr n0 L ∧ h = h0
theorem rmUc (l : Launch) (Z : State) (a0 : Array Value) (hw : own_H Z a0) (ws : List Jvm.Cond) (a1 : Addr) (p2 : Int32) (vF : Value) (kt : ClassId) (y yb z : Int32) (vs : List Value) (h0 : Heap) (n0 : Nat) (Z0 : n0 ≤ h0.size) (SF : Sta Z h0 "jdk/internal/util/Preconditions" "SIOOBE_FORMATTER" "Ljava/util/function/BiFunction;" vF) (hF : vF.isRef = true) (V1 : Arv Z h0 a1 kt .byte z vs (.int 0)) (SA : Sta Z h0 "java/lang/StringUTF16" "$assertionsDisabled" "Z" (.int 1)) (SH : Sta Z h0 "java/lang/StringUTF16" "HI_BYTE_SHIFT" "I" (.int 0)) (SL : Sta Z h0 "java/lang/StringUTF16" "LO_BYTE_SHIFT" "I" (.int 8)) (h1 : ¬ (p2 < (0 : Int32))) (h2 : p2 < (z >>> ((1 : Int32) &&& 31))) (h3 : ¬ ((p2 <<< ((1 : Int32) &&& 31)) < (0 : Int32))) (h4 : (p2 <<< ((1 : Int32) &&& 31)) < z) (h5 : ¬ (((p2 <<< ((1 : Int32) &&& 31)) + (1 : Int32)) < (0 : Int32))) (h6 : ((p2 <<< ((1 : Int32) &&& 31)) + (1 : Int32)) < z) (hy : vs.getD (p2 <<< ((1 : Int32) &&& 31)).toNatClampNeg (.int 0) = (.int y)) (hyb : vs.getD ((p2 <<< ((1 : Int32) &&& 31)) + (1 : Int32)).toNatClampNeg (.int 0) = (.int yb)) :
    own_M l own_y17 jdk_52_method_83_code 2 (some .char) ws (own_R 3 0 0 40) Z h0 #[(.ref a1), (.int p2)] (QUc Z a1 p2 vF kt y yb z vs h0 n0) := by
  refine own_body (plainFor_of_name pn_java_lang_StringUTF16) fun p e s m below meth c s₁ Bd hx hby hml (hown : s.vm.findClass "java/lang/StringUTF16" = some m.cls) hnm X0 e0 hZ => ?_
  have N0 := Fr.nil n0
  have pre0 : own_P p e below s₁ (entryFrame m #[(.ref a1), (.int p2)] 2) s₁ (mkF m 0 #[rv a1, iv p2] []) := fun t k => castTop (by first | rfl | (simp [entryFrame, mkF, argsToLocals, Value.category]; done)) k
  obtain ⟨_, _, ⟨T101, L101, k101, n101⟩, -, X101, ⟨Lc101, hQ101, l101, y101, z101⟩, st101⟩ := Jvm.LawKit.callS X0 hx (y := own_y16) hown (own_m hZ hw 108) (own_m hZ hw 109) (own_m hZ hw 42) (own_m hZ hw 110) (by decide) (backOf (W := 0) (rmUk l Z a0 hw [] p2 a1 vF kt z vs h0 n0 Z0 SF hF V1 h1 h2) hZ (own_i hw 110 rfl) (own_i hw 42 rfl) (by decide) (by decide)) (g := (mkF m 2 #[rv a1, iv p2] [(.ref a1), (.int p2)])) rfl (by rw [hml]; rfl) (argsL := [(.int p2), (.ref a1)]) (rest := []) (lenOf pd_10 rfl) rfl (Nat.le_of_eq rfl) (hb hby d24_2) (fun _ _ => ⟨rfl, e0, own_le rfl, own_le rfl⟩)
  dsimp only [Pt.U, Pt.locs, Pt.cells, Pt.slots] at X101 l101 y101 z101 st101 hQ101
  subst l101 y101 z101
  obtain ⟨rfl, N101q, e101⟩ := hQ101
  have N101 := Fr.app N0 N101q
  obtain ⟨_, _, ⟨T102, L102, k102, n102⟩, -, X102, ⟨Lc102, hQ102, l102, y102, z102⟩, st102⟩ := Jvm.LawKit.callS X101 hx (y := own_y15) hown (own_m hZ hw 102) (own_m hZ hw 103) (own_m hZ hw 42) (own_m hZ hw 104) (by decide) (backOf (W := 0) (rmGc l Z a0 hw [] a1 p2 kt y yb z vs h0 n0 Z0 V1 SA SH SL h3 h4 h5 h6 hy hyb) hZ (own_i hw 104 rfl) (own_i hw 42 rfl) (by decide) (by decide)) (g := (mkF m 7 #[rv a1, iv p2] [(.int p2), (.ref a1)])) rfl (by rw [hml]; rfl) (argsL := [(.ref a1), (.int p2)]) (rest := []) (lenOf pd_8 rfl) rfl (Nat.le_of_eq rfl) (hb hby d24_7) (fun _ _ => ⟨rfl, e101, own_le rfl, own_le rfl⟩)
  dsimp only [Pt.U, Pt.locs, Pt.cells, Pt.slots] at X102 l102 y102 z102 st102 hQ102
  subst l102 y102 z102
  obtain ⟨rfl, N102q, e102⟩ := hQ102
  have N102 := Fr.app N101 N102q
  have pre103 : own_P p e below s₁ (entryFrame m #[(.ref a1), (.int p2)] 2) T102 (mkF m 10 #[rv a1, iv p2] [(.int (own_ut y yb))]) := fun t k => pre0 t (by
    show Steps p.tables e below (s₁.setTop (mkF m 0 #[rv a1, iv p2] [])) t
    refine XS.iloadN X0.here hx rfl (hb hby d24_0) rfl ?_
    refine XS.aloadN X0.here hx rfl (hb hby d24_1) rfl rfl ?_
    refine st101 _ ?_
    refine XS.aloadN X101.here hx rfl (hb hby d24_5) rfl rfl ?_
    refine XS.iloadN X101.here hx rfl (hb hby d24_6) rfl ?_
    refine st102 _ ?_
    exact k)
  obtain ⟨fs, hr, hrun, hended, hW, hsame⟩ := X102.leave (v := some (.int (nar .char (own_ut y yb)))) (fun h => by rw [Bd.returns] at h; cases h)
  refine ⟨_, _, pre103 _ ?_, hrun, hended, _, _, rfl, ?_, ⟨_, rfl⟩, hW, hsame.mono (by decide) (by decide)⟩
  · exact retN X102 hx (t := .char) Bd.returns (by simp) (hb hby d24_10) hr
  · show QUc Z a1 p2 vF kt y yb z vs h0 n0 _ T102.heap _
    rw [e102]
    exact ⟨rfl, N102, rfl⟩
def QCh2 (Z : State) (a1 : Addr) (p2 cs : Int32) (vF : Value) (tv : Addr) (kt : ClassId) (y yb z : Int32) (vs : List Value) (h0 : Heap) (n0 : Nat) (v : Option Value) (h : Heap) (L : List Loc) : Prop := v = some (.int (nar .char (nar .char (own_ut y yb)))) ∧ Fr n0 L ∧ h = h0
theorem rmCh2 (l : Launch) (Z : State) (a0 : Array Value) (hw : own_H Z a0) (ws : List Jvm.Cond) (a1 : Addr) (p2 cs : Int32) (vF : Value) (tv : Addr) (kt : ClassId) (y yb z : Int32) (vs : List Value) (h0 : Heap) (n0 : Nat) (Z0 : n0 ≤ h0.size) (SC : Sta Z h0 "java/lang/String" "COMPACT_STRINGS" "Z" (.int cs)) (hcs : ¬ (cs = (0 : Int32))) (SF : Sta Z h0 "jdk/internal/util/Preconditions" "SIOOBE_FORMATTER" "Ljava/util/function/BiFunction;" vF) (hF : vF.isRef = true) (SA : Sta Z h0 "java/lang/StringUTF16" "$assertionsDisabled" "Z" (.int 1)) (SH : Sta Z h0 "java/lang/StringUTF16" "HI_BYTE_SHIFT" "I" (.int 0)) (SL : Sta Z h0 "java/lang/StringUTF16" "LO_BYTE_SHIFT" "I" (.int 8)) (E1 : Exa Z h0 a1 "java/lang/String") (C1 : Fld Z h0 a1 "java/lang/String" "coder" "B" (.int 1)) (W1 : Fld Z h0 a1 "java/lang/String" "value" "[B" (.ref tv)) (V1 : Arv Z h0 tv kt .byte z vs (.int 0)) (h1 : ¬ (p2 < (0 : Int32))) (h2 : p2 < (z >>> ((1 : Int32) &&& 31))) (h3 : ¬ ((p2 <<< ((1 : Int32) &&& 31)) < (0 : Int32))) (h4 : (p2 <<< ((1 : Int32) &&& 31)) < z) (h5 : ¬ (((p2 <<< ((1 : Int32) &&& 31)) + (1 : Int32)) < (0 : Int32))) (h6 : ((p2 <<< ((1 : Int32) &&& 31)) + (1 : Int32)) < z) (hy : vs.getD (p2 <<< ((1 : Int32) &&& 31)).toNatClampNeg (.int 0) = (.int y)) (hyb : vs.getD ((p2 <<< ((1 : Int32) &&& 31)) + (1 : Int32)).toNatClampNeg (.int 0) = (.int yb)) :
    own_M l own_y13 jdk_42_method_56_code 2 (some .char) ws (own_R 4 0 0 53) Z h0 #[(.ref a1), (.int p2)] (QCh2 Z a1 p2 cs vF tv kt y yb z vs h0 n0) := by
  refine own_body (plainFor_of_name pn_java_lang_String) fun p e s m below meth c s₁ Bd hx hby hml (hown : s.vm.findClass "java/lang/String" = some m.cls) hnm X0 e0 hZ => ?_
  have N0 := Fr.nil n0
  have pre0 : own_P p e below s₁ (entryFrame m #[(.ref a1), (.int p2)] 2) s₁ (mkF m 0 #[rv a1, iv p2] []) := fun t k => castTop (by first | rfl | (simp [entryFrame, mkF, argsToLocals, Value.category]; done)) k
  obtain ⟨cq101, kq101, q101a, q101b, q101c⟩ := isOf hZ e0 E1
  obtain ⟨_, _, ⟨T101, L101, k101, n101⟩, -, X101, ⟨Lc101, hQ101, l101, y101, z101⟩, st101⟩ := X0.virtualBack hx (y := own_y8) (z := own_y8) hown (own_m hZ hw 68) (own_m hZ hw 69) (notFace_of_selects (args := #[]) (own_m hZ hw 71)) (own_m hZ hw 71) (own_m hZ hw 70) (by decide) (backOf (W := 0) (rmIl2 l Z a0 hw [] a1 cs h0 n0 Z0 SC hcs C1) hZ (own_i hw 72 rfl) (own_i hw 10 rfl) (by decide) (by decide)) q101a q101c (g := (mkF m 1 #[rv a1, iv p2] [(.ref a1)])) rfl (by rw [hml]; rfl) (Steps.refl _) (argsL := []) (rest := []) (lenOf pd_7 rfl) rfl (Nat.le_of_eq rfl) (hb hby d14_1) (fun _ _ => ⟨rfl, e0, own_le rfl, own_le rfl⟩)
  dsimp only [Pt.U, Pt.locs, Pt.cells, Pt.slots] at X101 l101 y101 z101 st101 hQ101
  subst l101 y101 z101
  obtain ⟨rfl, N101q, e101⟩ := hQ101
  have N101 := Fr.app N0 N101q
  obtain ⟨T102, X102, e102, st102⟩ := getF X101 hx hZ hown (host := "") (Or.inl (own_i hw 28 rfl)) Via.refl e101 W1 (g := (mkF m 17 #[rv a1, iv p2] [(.ref a1)])) rfl rfl (hb hby d14_17)
  obtain ⟨_, _, ⟨T103, L103, k103, n103⟩, -, X103, ⟨Lc103, hQ103, l103, y103, z103⟩, st103⟩ := Jvm.LawKit.callS X102 hx (y := own_y17) hown (own_m hZ hw 105) (own_m hZ hw 106) (own_m hZ hw 42) (own_m hZ hw 107) (by decide) (backOf (W := 0) (rmUc l Z a0 hw [] tv p2 vF kt y yb z vs h0 n0 Z0 SF hF V1 SA SH SL h1 h2 h3 h4 h5 h6 hy hyb) hZ (own_i hw 107 rfl) (own_i hw 42 rfl) (by decide) (by decide)) (g := (mkF m 21 #[rv a1, iv p2] [(.int p2), (.ref tv)])) rfl (by rw [hml]; rfl) (argsL := [(.ref tv), (.int p2)]) (rest := []) (lenOf pd_8 rfl) rfl (Nat.le_of_eq rfl) (hb hby d14_21) (fun _ _ => ⟨rfl, e102, own_le rfl, own_le rfl⟩)
  dsimp only [Pt.U, Pt.locs, Pt.cells, Pt.slots] at X103 l103 y103 z103 st103 hQ103
  subst l103 y103 z103
  obtain ⟨rfl, N103q, e103⟩ := hQ103
  have N103 := Fr.app N101 N103q
  have pre104 : own_P p e below s₁ (entryFrame m #[(.ref a1), (.int p2)] 2) T103 (mkF m 24 #[rv a1, iv p2] [(.int (nar .char (own_ut y yb)))]) := fun t k => pre0 t (by
    show Steps p.tables e below (s₁.setTop (mkF m 0 #[rv a1, iv p2] [])) t
    refine XS.aloadN X0.here hx rfl (hb hby d14_0) rfl rfl ?_
    refine st101.trans ?_
    refine XS.ifYes X101.here hx rfl (pc0 := 4) (pc' := 16) rfl (hb hby d14_4) rfl ((if0 _ _).trans (teq (by decide : (0 : Int32) = (0 : Int32))).1) (by decide) (by decide) ?_
    refine XS.aloadN X101.here hx rfl (hb hby d14_16) rfl rfl ?_
    refine st102 _ ?_
    refine XS.iloadN X102.here hx rfl (hb hby d14_20) rfl ?_
    refine st103 _ ?_
    exact k)
  obtain ⟨fs, hr, hrun, hended, hW, hsame⟩ := X103.leave (v := some (.int (nar .char (nar .char (own_ut y yb))))) (fun h => by rw [Bd.returns] at h; cases h)
  refine ⟨_, _, pre104 _ ?_, hrun, hended, _, _, rfl, ?_, ⟨_, rfl⟩, hW, hsame.mono (by decide) (by decide)⟩
  · exact retN X103 hx (t := .char) Bd.returns (by simp) (hb hby d14_24) hr
  · show QCh2 Z a1 p2 cs vF tv kt y yb z vs h0 n0 _ T103.heap _
    rw [e103]
    exact ⟨rfl, N103, rfl⟩
def QLen2 (Z : State) (a1 : Addr) (cs : Int32) (tv : Addr) (kt : ClassId) (z : Int32) (vs : List Value) (h0 : Heap) (n0 : Nat) (v : Option Value) (h : Heap) (L : List Loc) : Prop := v = some (.int (z >>> ((1 : Int32) &&& 31))) ∧ Fr n0 L ∧ h = h0
theorem rmLen2 (l : Launch) (Z : State) (a0 : Array Value) (hw : own_H Z a0) (ws : List Jvm.Cond) (a1 : Addr) (cs : Int32) (tv : Addr) (kt : ClassId) (z : Int32) (vs : List Value) (h0 : Heap) (n0 : Nat) (Z0 : n0 ≤ h0.size) (SC : Sta Z h0 "java/lang/String" "COMPACT_STRINGS" "Z" (.int cs)) (hcs : ¬ (cs = (0 : Int32))) (E1 : Exa Z h0 a1 "java/lang/String") (C1 : Fld Z h0 a1 "java/lang/String" "coder" "B" (.int 1)) (W1 : Fld Z h0 a1 "java/lang/String" "value" "[B" (.ref tv)) (V1 : Arv Z h0 tv kt .byte z vs (.int 0)) :
    own_M l own_y9 jdk_42_method_54_code 1 (some .int) ws (own_R 1 0 0 13) Z h0 #[(.ref a1)] (QLen2 Z a1 cs tv kt z vs h0 n0) := by
  refine own_body (plainFor_of_name pn_java_lang_String) fun p e s m below meth c s₁ Bd hx hby hml (hown : s.vm.findClass "java/lang/String" = some m.cls) hnm X0 e0 hZ => ?_
  have N0 := Fr.nil n0
  have pre0 : own_P p e below s₁ (entryFrame m #[(.ref a1)] 1) s₁ (mkF m 0 #[rv a1] []) := fun t k => castTop (by first | rfl | (simp [entryFrame, mkF, argsToLocals, Value.category]; done)) k
  obtain ⟨T101, X101, e101, st101⟩ := getF X0 hx hZ hown (host := "") (Or.inl (own_i hw 28 rfl)) Via.refl e0 W1 (g := (mkF m 1 #[rv a1] [(.ref a1)])) rfl rfl (hb hby d12_1)
  obtain ⟨cl102, Ar102, q102, S102, N102z, H102, G102⟩ := (id V1)
  obtain ⟨cq103, kq103, q103a, q103b, q103c⟩ := isOf hZ e101 E1
  obtain ⟨_, _, ⟨T103, L103, k103, n103⟩, -, X103, ⟨Lc103, hQ103, l103, y103, z103⟩, st103⟩ := X101.virtualBack hx (y := own_y7) (z := own_y7) hown (own_m hZ hw 58) (own_m hZ hw 59) (notFace_of_selects (args := #[]) (own_m hZ hw 61)) (own_m hZ hw 61) (own_m hZ hw 60) (by decide) (backOf (W := 1) (rmCo2 l Z a0 hw [] a1 cs h0 n0 Z0 SC hcs C1) hZ (own_i hw 62 rfl) (own_i hw 10 rfl) (by decide) (by decide)) q103a q103c (g := (mkF m 6 #[rv a1] [(.ref a1), (.int z)])) rfl (by rw [hml]; rfl) (Steps.refl _) (argsL := []) (rest := [(.int z)]) (lenOf pd_4 rfl) rfl (Nat.le_of_eq rfl) (hb hby d12_6) (fun _ _ => ⟨rfl, e101, own_le rfl, own_le rfl⟩)
  dsimp only [Pt.U, Pt.locs, Pt.cells, Pt.slots] at X103 l103 y103 z103 st103 hQ103
  subst l103 y103 z103
  obtain ⟨rfl, N103q, e103⟩ := hQ103
  have N103 := Fr.app N0 N103q
  have pre104 : own_P p e below s₁ (entryFrame m #[(.ref a1)] 1) T103 (mkF m 10 #[rv a1] [(.int (z >>> ((1 : Int32) &&& 31)))]) := fun t k => pre0 t (by
    show Steps p.tables e below (s₁.setTop (mkF m 0 #[rv a1] [])) t
    refine XS.aloadN X0.here hx rfl (hb hby d12_0) rfl rfl ?_
    refine st101 _ ?_
    refine X101.arraylength hx (by rw [e101]; exact Ar102.1) (State.isArrayOf_alike hZ.alike Ar102.2.1) (g := (mkF m 4 #[rv a1] [(.ref tv)])) rfl rfl (hb hby d12_4) _ ?_
    rw [len_of S102 N102z]
    refine XS.aloadN X101.here hx rfl (hb hby d12_5) rfl rfl ?_
    refine st103.trans ?_
    refine XS.ishr X103.here hx rfl (hb hby d12_9) rfl ?_
    exact k)
  obtain ⟨fs, hr, hrun, hended, hW, hsame⟩ := X103.leave (v := some (.int (z >>> ((1 : Int32) &&& 31)))) (fun h => by rw [Bd.returns] at h; cases h)
  refine ⟨_, _, pre104 _ ?_, hrun, hended, _, _, rfl, ?_, ⟨_, rfl⟩, hW, hsame.mono (by decide) (by decide)⟩
  · exact retI X103 hx Bd.returns (hb hby d12_10) hr
  · show QLen2 Z a1 cs tv kt z vs h0 n0 _ T103.heap _
    rw [e103]
    exact ⟨rfl, N103, rfl⟩
def QEm (Z : State) (a1 tv : Addr) (kt : ClassId) (z : Int32) (vs : List Value) (h0 : Heap) (n0 : Nat) (v : Option Value) (h : Heap) (L : List Loc) : Prop := v = some (.int 0) ∧ Fr n0 L ∧ h = h0
theorem rmEm (l : Launch) (Z : State) (a0 : Array Value) (hw : own_H Z a0) (ws : List Jvm.Cond) (a1 tv : Addr) (kt : ClassId) (z : Int32) (vs : List Value) (h0 : Heap) (n0 : Nat) (Z0 : n0 ≤ h0.size) (W1 : Fld Z h0 a1 "java/lang/String" "value" "[B" (.ref tv)) (V1 : Arv Z h0 tv kt .byte z vs (.int 0)) (hne : ¬ (z = (0 : Int32))) :
    own_M l own_y18 jdk_42_method_55_code 1 (some .boolean) ws (own_R 0 0 0 0) Z h0 #[(.ref a1)] (QEm Z a1 tv kt z vs h0 n0) := by
  refine own_body (plainFor_of_name pn_java_lang_String) fun p e s m below meth c s₁ Bd hx hby hml (hown : s.vm.findClass "java/lang/String" = some m.cls) hnm X0 e0 hZ => ?_
  have N0 := Fr.nil n0
  have pre0 : own_P p e below s₁ (entryFrame m #[(.ref a1)] 1) s₁ (mkF m 0 #[rv a1] []) := fun t k => castTop (by first | rfl | (simp [entryFrame, mkF, argsToLocals, Value.category]; done)) k
  obtain ⟨T101, X101, e101, st101⟩ := getF X0 hx hZ hown (host := "") (Or.inl (own_i hw 28 rfl)) Via.refl e0 W1 (g := (mkF m 1 #[rv a1] [(.ref a1)])) rfl rfl (hb hby d7_1)
  obtain ⟨cl102, Ar102, q102, S102, N102z, H102, G102⟩ := (id V1)
  have pre103 : own_P p e below s₁ (entryFrame m #[(.ref a1)] 1) T101 (mkF m 13 #[rv a1] [(.int 0)]) := fun t k => pre0 t (by
    show Steps p.tables e below (s₁.setTop (mkF m 0 #[rv a1] [])) t
    refine XS.aloadN X0.here hx rfl (hb hby d7_0) rfl rfl ?_
    refine st101 _ ?_
    refine X101.arraylength hx (by rw [e101]; exact Ar102.1) (State.isArrayOf_alike hZ.alike Ar102.2.1) (g := (mkF m 4 #[rv a1] [(.ref tv)])) rfl rfl (hb hby d7_4) _ ?_
    rw [len_of S102 N102z]
    refine XS.ifYes X101.here hx rfl (pc0 := 5) (pc' := 12) rfl (hb hby d7_5) rfl ((if0 _ _).trans (feq hne).2) (by decide) (by decide) ?_
    refine XS.iconst X101.here hx rfl (hb hby d7_12) ?_
    exact k)
  obtain ⟨fs, hr, hrun, hended, hW, hsame⟩ := X101.leave (v := some (.int 0)) (fun h => by rw [Bd.returns] at h; cases h)
  refine ⟨_, _, pre103 _ ?_, hrun, hended, _, _, rfl, ?_, ⟨_, rfl⟩, hW, hsame.mono (by decide) (by decide)⟩
  · exact retN X101 hx (t := .boolean) Bd.returns (by simp) (hb hby d7_13) hr
  · show QEm Z a1 tv kt z vs h0 n0 _ T101.heap _
    rw [e101]
    exact ⟨rfl, N0, rfl⟩
def QPc_1_0 (Z : State) (a1 : Addr) (p3 : Int32) (k1 : ClassId) (y0 y1 : Int32) (h0 : Heap) (n0 : Nat) (v : Option Value) (h : Heap) (L : List Loc) : Prop := v = none ∧ Fr n0 L ∧ Keep h0 h [a1] ∧ (Arv Z h a1 k1 .byte (2 : Int32) [(.int (own_b0 p3)), (.int (own_b1 p3))] (.int 0))
theorem rmPc_1_0 (l : Launch) (Z : State) (a0 : Array Value) (hw : own_H Z a0) (ws : List Jvm.Cond) (a1 : Addr) (p3 : Int32) (k1 : ClassId) (y0 y1 : Int32) (h0 : Heap) (n0 : Nat) (Z0 : n0 ≤ h0.size) (V1 : Arv Z h0 a1 k1 .byte (2 : Int32) [(.int y0), (.int y1)] (.int 0)) (SA : Sta Z h0 "java/lang/StringUTF16" "$assertionsDisabled" "Z" (.int 1)) (SH : Sta Z h0 "java/lang/StringUTF16" "HI_BYTE_SHIFT" "I" (.int 0)) (SL : Sta Z h0 "java/lang/StringUTF16" "LO_BYTE_SHIFT" "I" (.int 8)) (g1 : n0 ≤ a1) :
    own_M l own_y19 jdk_52_method_4_code 3 none ws (own_R 0 0 0 0) Z h0 #[(.ref a1), (.int 0), (.int p3)] (QPc_1_0 Z a1 p3 k1 y0 y1 h0 n0) := by
  refine own_body (plainFor_of_name pn_java_lang_StringUTF16) fun p e s m below meth c s₁ Bd hx hby hml (hown : s.vm.findClass "java/lang/StringUTF16" = some m.cls) hnm X0 e0 hZ => ?_
  have N0 := Fr.nil n0
  have pre0 : own_P p e below s₁ (entryFrame m #[(.ref a1), (.int 0), (.int p3)] 3) s₁ (mkF m 0 #[rv a1, iv 0, iv p3] []) := fun t k => castTop (by first | rfl | (simp [entryFrame, mkF, argsToLocals, Value.category]; done)) k
  have f101 := Keep.refl h0 [a1]
  obtain ⟨T102, X102, e102, st102⟩ := getS2 X0 hx hZ hown (host := "") (Or.inl (own_i hw 99 rfl)) Via.refl e0 SA (g := (mkF m 0 #[rv a1, iv 0, iv p3] [])) rfl (hb hby d22_0)
  have pre103 : own_P p e below s₁ (entryFrame m #[(.ref a1), (.int 0), (.int p3)] 3) T102 (mkF m 31 #[rv a1, iv 0, iv p3] [(.int ((0 : Int32) <<< ((1 : Int32) &&& 31)))]) := fun t k => pre0 t (by
    show Steps p.tables e below (s₁.setTop (mkF m 0 #[rv a1, iv 0, iv p3] [])) t
    refine st102 _ ?_
    refine XS.ifYes X102.here hx rfl (pc0 := 3) (pc' := 28) rfl (hb hby d22_3) rfl ((if0 _ _).trans (feq (by decide : ¬ ((1 : Int32) = (0 : Int32)))).2) (by decide) (by decide) ?_
    refine XS.iloadN X102.here hx rfl (hb hby d22_28) rfl ?_
    refine XS.iconst X102.here hx rfl (hb hby d22_29) ?_
    refine XS.ishl X102.here hx rfl (hb hby d22_30) rfl ?_
    exact k)
  have pre104 : own_P p e below s₁ (entryFrame m #[(.ref a1), (.int 0), (.int p3)] 3) T102 (mkF m 31 #[rv a1, iv 0, iv p3] [(.int 0)]) := fun t k => pre103 t (by rw [show ((0 : Int32) <<< ((1 : Int32) &&& 31)) = (0 : Int32) from (by decide)]; exact k)
  obtain ⟨T105, X105, e105, st105⟩ := getS2 X102 hx hZ hown (host := "") (Or.inl (own_i hw 100 rfl)) Via.refl e102 SH (g := (mkF m 38 #[rv a1, iv 1, iv p3] [(.int p3), (.int 0), (.ref a1)])) rfl (hb hby d22_38)
  obtain ⟨cl106, Ar106, q106, S106, N106z, H106, G106⟩ := (id V1)
  have hin106 : ¬ ((0 : Int32) < 0 ∨ cl106.slots.size ≤ ((0 : Int32)).toNatClampNeg) := inb_of S106 ⟨by decide, by decide⟩
  obtain ⟨T106, h106, X106, e106, W106, st106⟩ := stB X105 hx hZ e105 Ar106 (j := (0 : Int32)) hin106 (g := (mkF m 43 #[rv a1, iv 1, iv p3] [(.int ((p3 >>> ((0 : Int32) &&& 31)).toInt8.toInt32)), (.int 0), (.ref a1)])) rfl rfl (hb hby d22_43)
  have V106 : Arv Z h106 a1 k1 .byte (2 : Int32) [(.int (nar .byte ((p3 >>> ((0 : Int32) &&& 31)).toInt8.toInt32))), (.int y1)] (.int 0) := Arv.set Ar106 q106 S106 N106z H106 G106 (fits_nar_byte _) W106 0 rfl (Nat.le_of_ble_eq_true rfl)
  have N106 := Fr.snoc X106 N0 g1
  have f107 := Nat.le_trans Z0 (Keep.of_wr W106).1
  have f108 := SA.wr W106
  have f109 := SH.wr W106
  have f110 := SL.wr W106
  have f111 := f101.wr W106 (Or.inl (List.mem_of_getElem? (i := 0) rfl))
  obtain ⟨T112, X112, e112, st112⟩ := getS2 X106 hx hZ hown (host := "") (Or.inl (own_i hw 101 rfl)) Via.refl e106 f110 (g := (mkF m 47 #[rv a1, iv 1, iv p3] [(.int p3), (.int 1), (.ref a1)])) rfl (hb hby d22_47)
  obtain ⟨cl113, Ar113, q113, S113, N113z, H113, G113⟩ := (id V106)
  have hin113 : ¬ ((1 : Int32) < 0 ∨ cl113.slots.size ≤ ((1 : Int32)).toNatClampNeg) := inb_of S113 ⟨by decide, by decide⟩
  obtain ⟨T113, h113, X113, e113, W113, st113⟩ := stB X112 hx hZ e112 Ar113 (j := (1 : Int32)) hin113 (g := (mkF m 52 #[rv a1, iv 1, iv p3] [(.int ((p3 >>> ((8 : Int32) &&& 31)).toInt8.toInt32)), (.int 1), (.ref a1)])) rfl rfl (hb hby d22_52)
  have V113 : Arv Z h113 a1 k1 .byte (2 : Int32) [(.int (nar .byte ((p3 >>> ((0 : Int32) &&& 31)).toInt8.toInt32))), (.int (nar .byte ((p3 >>> ((8 : Int32) &&& 31)).toInt8.toInt32)))] (.int 0) := Arv.set Ar113 q113 S113 N113z H113 G113 (fits_nar_byte _) W113 1 rfl (Nat.le_of_ble_eq_true rfl)
  have N113 := Fr.snoc X113 N106 g1
  have f114 := Nat.le_trans f107 (Keep.of_wr W113).1
  have f115 := f108.wr W113
  have f116 := f109.wr W113
  have f117 := f110.wr W113
  have f118 := f111.wr W113 (Or.inl (List.mem_of_getElem? (i := 0) rfl))
  have pre119 : own_P p e below s₁ (entryFrame m #[(.ref a1), (.int 0), (.int p3)] 3) T113 (mkF m 53 #[rv a1, iv 1, iv p3] []) := fun t k => pre104 t (by
    show Steps p.tables e below (T102.setTop (mkF m 31 #[rv a1, iv 0, iv p3] [(.int 0)])) t
    refine XS.istoreN X102.here hx rfl (hb hby d22_31) rfl (l' := #[rv a1, iv 0, iv p3]) rfl ?_
    refine XS.aloadN X102.here hx rfl (hb hby d22_32) rfl rfl ?_
    refine XS.iloadN X102.here hx rfl (hb hby d22_33) rfl ?_
    refine XS.iinc X102.here hx rfl (hb hby d22_34) rfl (l' := #[rv a1, iv 1, iv p3]) rfl ?_
    refine XS.iloadN X102.here hx rfl (hb hby d22_37) rfl ?_
    refine st105 _ ?_
    refine XS.ishr X105.here hx rfl (hb hby d22_41) rfl ?_
    refine XS.i2b X105.here hx rfl (hb hby d22_42) rfl ?_
    refine st106 _ ?_
    refine XS.aloadN X106.here hx rfl (hb hby d22_44) rfl rfl ?_
    refine XS.iloadN X106.here hx rfl (hb hby d22_45) rfl ?_
    refine XS.iloadN X106.here hx rfl (hb hby d22_46) rfl ?_
    refine st112 _ ?_
    refine XS.ishr X112.here hx rfl (hb hby d22_50) rfl ?_
    refine XS.i2b X112.here hx rfl (hb hby d22_51) rfl ?_
    refine st113 _ ?_
    exact k)
  obtain ⟨fs, hr, hrun, hended, hW, hsame⟩ := X113.leave (v := none) (fun _ => rfl)
  refine ⟨_, _, pre119 _ ?_, hrun, hended, _, _, rfl, ?_, ⟨_, rfl⟩, hW, hsame.mono (by decide) (by decide)⟩
  · exact X113.returnOut hx Bd.returns (hb hby d22_53) hr
  · show QPc_1_0 Z a1 p3 k1 y0 y1 h0 n0 _ T113.heap _
    rw [e113]
    exact ⟨rfl, N113, f118, V113⟩
def QNl_1 (Z : State)  (h0 : Heap) (n0 : Nat) (v : Option Value) (h : Heap) (L : List Loc) : Prop := v = some (.int 2) ∧ Fr n0 L ∧ h = h0
theorem rmNl_1 (l : Launch) (Z : State) (a0 : Array Value) (hw : own_H Z a0) (ws : List Jvm.Cond)  (h0 : Heap) (n0 : Nat) (Z0 : n0 ≤ h0.size) :
    own_M l own_y20 jdk_52_method_3_code 1 (some .int) ws (own_R 0 0 0 0) Z h0 #[(.int 1)] (QNl_1 Z h0 n0) := by
  refine own_body (plainFor_of_name pn_java_lang_StringUTF16) fun p e s m below meth c s₁ Bd hx hby hml (hown : s.vm.findClass "java/lang/StringUTF16" = some m.cls) hnm X0 e0 hZ => ?_
  have N0 := Fr.nil n0
  have pre0 : own_P p e below s₁ (entryFrame m #[(.int 1)] 1) s₁ (mkF m 0 #[iv 1] []) := fun t k => castTop (by first | rfl | (simp [entryFrame, mkF, argsToLocals, Value.category]; done)) k
  have pre101 : own_P p e below s₁ (entryFrame m #[(.int 1)] 1) s₁ (mkF m 58 #[iv 1] [(.int ((1 : Int32) <<< ((1 : Int32) &&& 31)))]) := fun t k => pre0 t (by
    show Steps p.tables e below (s₁.setTop (mkF m 0 #[iv 1] [])) t
    refine XS.iloadN X0.here hx rfl (hb hby d21_0) rfl ?_
    refine XS.ifYes X0.here hx rfl (pc0 := 1) (pc' := 12) rfl (hb hby d21_1) rfl ((if0 _ _).trans (flt (by decide : ¬ ((1 : Int32) < (0 : Int32)))).2.1) (by decide) (by decide) ?_
    refine XS.iloadN X0.here hx rfl (hb hby d21_12) rfl ?_
    refine X0.ldcInt hx hown (own_m hZ hw 95) (g := (mkF m 13 #[iv 1] [(.int 1)])) rfl (hb hby d21_13) _ ?_
    refine XS.icmpYes X0.here hx rfl (pc0 := 15) (pc' := 55) rfl (hb hby d21_15) rfl (tlt (by decide : (1 : Int32) < (1073741823 : Int32))).1 (by decide) (by decide) ?_
    refine XS.iloadN X0.here hx rfl (hb hby d21_55) rfl ?_
    refine XS.iconst X0.here hx rfl (hb hby d21_56) ?_
    refine XS.ishl X0.here hx rfl (hb hby d21_57) rfl ?_
    exact k)
  have pre102 : own_P p e below s₁ (entryFrame m #[(.int 1)] 1) s₁ (mkF m 58 #[iv 1] [(.int 2)]) := fun t k => pre101 t (by rw [show ((1 : Int32) <<< ((1 : Int32) &&& 31)) = (2 : Int32) from (by decide)]; exact k)
  obtain ⟨fs, hr, hrun, hended, hW, hsame⟩ := X0.leave (v := some (.int 2)) (fun h => by rw [Bd.returns] at h; cases h)
  refine ⟨_, _, pre102 _ ?_, hrun, hended, _, _, rfl, ?_, ⟨_, rfl⟩, hW, hsame.mono (by decide) (by decide)⟩
  · exact retI X0 hx Bd.returns (hb hby d21_58) hr
  · show QNl_1 Z h0 n0 _ s₁.heap _
    rw [e0]
    exact ⟨rfl, N0, rfl⟩
theorem pd_11 : parseMethodDescriptor "(I)I" = some ⟨[.int], some .int⟩ := by decide +kernel
def QNf_1 (Z : State)  (h0 : Heap) (n0 : Nat) (v : Option Value) (h : Heap) (L : List Loc) : Prop := ∃ (b : Addr) (kb : ClassId), v = some (.ref b) ∧ Fr n0 L ∧ Keep h0 h [] ∧ (n0 ≤ b) ∧ (h0.size ≤ b) ∧ (Arv Z h b kb .byte (2 : Int32) [(.int 0), (.int 0)] (.int 0))
theorem rmNf_1 (l : Launch) (Z : State) (a0 : Array Value) (hw : own_H Z a0) (ws : List Jvm.Cond)  (h0 : Heap) (n0 : Nat) (Z0 : n0 ≤ h0.size) :
    own_M l own_y21 jdk_52_method_2_code 1 (some (.array .byte)) ws (own_R 1 1 2 12) Z h0 #[(.int 1)] (QNf_1 Z h0 n0) := by
  refine own_body (plainFor_of_name pn_java_lang_StringUTF16) fun p e s m below meth c s₁ Bd hx hby hml (hown : s.vm.findClass "java/lang/StringUTF16" = some m.cls) hnm X0 e0 hZ => ?_
  have N0 := Fr.nil n0
  have pre0 : own_P p e below s₁ (entryFrame m #[(.int 1)] 1) s₁ (mkF m 0 #[iv 1] []) := fun t k => castTop (by first | rfl | (simp [entryFrame, mkF, argsToLocals, Value.category]; done)) k
  have f101 := Keep.refl h0 []
  obtain ⟨_, _, ⟨T102, L102, k102, n102⟩, -, X102, ⟨Lc102, hQ102, l102, y102, z102⟩, st102⟩ := Jvm.LawKit.callS X0 hx (y := own_y20) hown (own_m hZ hw 92) (own_m hZ hw 93) (own_m hZ hw 42) (own_m hZ hw 94) (by decide) (backOf (W := 0) (rmNl_1 l Z a0 hw []  h0 n0 Z0 ) hZ (own_i hw 94 rfl) (own_i hw 42 rfl) (by decide) (by decide)) (g := (mkF m 1 #[iv 1] [(.int 1)])) rfl (by rw [hml]; rfl) (argsL := [(.int 1)]) (rest := []) (lenOf pd_11 rfl) rfl (Nat.le_of_eq rfl) (hb hby d20_1) (fun _ _ => ⟨rfl, e0, own_le rfl, own_le rfl⟩)
  dsimp only [Pt.U, Pt.locs, Pt.cells, Pt.slots] at X102 l102 y102 z102 st102 hQ102
  subst l102 y102 z102
  obtain ⟨rfl, N102q, e102⟩ := hQ102
  have N102 := Fr.app N0 N102q
  obtain ⟨T103, h103, k103, X103, e103, E103, A103, st103⟩ := newP X102 hx hZ (own_i hw 23 rfl) e102 (g := (mkF m 4 #[iv 1] [(.int 2)])) rfl (hb hby d20_4) rfl (by decide) (cap := 2) (by decide) (by decide) (by decide) (by decide)
  obtain ⟨b103, g103⟩ : ∃ z, z = h0.size := ⟨_, rfl⟩
  rw [← g103] at A103 st103
  have ga104 : n0 ≤ b103 := Nat.le_trans Z0 (Nat.le_of_eq g103.symm)
  have sz105 : h0.size ≤ b103 := Nat.le_trans f101.1 (Nat.le_of_eq g103.symm)
  have V103 : Arv Z h103 b103 k103 .byte (2 : Int32) [(.int 0), (.int 0)] (.int 0) := (Arv.new A103 (by decide)).pad (pad_rep [] (.int 0) 2)
  have f106 := Nat.le_trans Z0 E103.1
  have f107 := f101.ext E103
  have pre108 : own_P p e below s₁ (entryFrame m #[(.int 1)] 1) T103 (mkF m 6 #[iv 1] [(.ref b103)]) := fun t k => pre0 t (by
    show Steps p.tables e below (s₁.setTop (mkF m 0 #[iv 1] [])) t
    refine XS.iloadN X0.here hx rfl (hb hby d20_0) rfl ?_
    refine st102 _ ?_
    refine st103 _ ?_
    exact k)
  obtain ⟨fs, hr, hrun, hended, hW, hsame⟩ := X103.leave (v := some (.ref b103)) (fun h => by rw [Bd.returns] at h; cases h)
  refine ⟨_, _, pre108 _ ?_, hrun, hended, _, _, rfl, ?_, ⟨_, rfl⟩, hW, hsame.mono (by decide) (by decide)⟩
  · exact retOut X103 hx Bd.returns rfl (Or.inr (Or.inr (Or.inr (Or.inr ⟨rfl, rfl, rfl⟩)))) (hb hby d20_6) hr
  · show QNf_1 Z h0 n0 _ T103.heap _
    rw [e103]
    exact ⟨b103, k103, rfl, N102, f107, ga104, sz105, V103⟩
theorem pd_12 : parseMethodDescriptor "(I)[B" = some ⟨[.int], some (.array .byte)⟩ := by decide +kernel
theorem pd_13 : parseMethodDescriptor "([BII)V" = some ⟨[(.array .byte), .int, .int], none⟩ := by decide +kernel
def QTb_1 (Z : State) (a1 : Addr) (k1 : ClassId) (x0 : Int32) (h0 : Heap) (n0 : Nat) (v : Option Value) (h : Heap) (L : List Loc) : Prop := ∃ (b : Addr) (kb : ClassId), v = some (.ref b) ∧ Fr n0 L ∧ Keep h0 h [] ∧ (n0 ≤ b) ∧ (h0.size ≤ b) ∧ (Arv Z h b kb .byte (2 : Int32) [(.int (own_b0 x0)), (.int (own_b1 x0))] (.int 0))
theorem rmTb_1 (l : Launch) (Z : State) (a0 : Array Value) (hw : own_H Z a0) (ws : List Jvm.Cond) (a1 : Addr) (k1 : ClassId) (x0 : Int32) (h0 : Heap) (n0 : Nat) (Z0 : n0 ≤ h0.size) (V1 : Arv Z h0 a1 k1 .char (1 : Int32) [(.int x0)] (.int 0)) (SA : Sta Z Z.heap "java/lang/StringUTF16" "$assertionsDisabled" "Z" (.int 1)) (SH : Sta Z Z.heap "java/lang/StringUTF16" "HI_BYTE_SHIFT" "I" (.int 0)) (SL : Sta Z Z.heap "java/lang/StringUTF16" "LO_BYTE_SHIFT" "I" (.int 8)) (O0 : Old Z n0 h0) :
    own_M l own_y22 jdk_52_method_14_code 5 (some (.array .byte)) ws (own_R 2 1 2 24) Z h0 #[(.ref a1), (.int 0), (.int 1)] (QTb_1 Z a1 k1 x0 h0 n0) := by
  refine own_body (plainFor_of_name pn_java_lang_StringUTF16) fun p e s m below meth c s₁ Bd hx hby hml (hown : s.vm.findClass "java/lang/StringUTF16" = some m.cls) hnm X0 e0 hZ => ?_
  have N0 := Fr.nil n0
  have pre0 : own_P p e below s₁ (entryFrame m #[(.ref a1), (.int 0), (.int 1)] 5) s₁ (mkF m 0 #[rv a1, iv 0, iv 1, .unset, .unset] []) := fun t k => castTop (by first | rfl | (simp [entryFrame, mkF, argsToLocals, Value.category]; done)) k
  have f101 := Keep.refl h0 []
  obtain ⟨_, _, ⟨T102, L102, k102, n102⟩, -, X102, ⟨Lc102, hQ102, l102, y102, z102⟩, st102⟩ := Jvm.LawKit.callS X0 hx (y := own_y21) hown (own_m hZ hw 89) (own_m hZ hw 90) (own_m hZ hw 42) (own_m hZ hw 91) (by decide) (backOf (W := 0) (rmNf_1 l Z a0 hw []  h0 n0 Z0 ) hZ (own_i hw 91 rfl) (own_i hw 42 rfl) (by decide) (by decide)) (g := (mkF m 1 #[rv a1, iv 0, iv 1, .unset, .unset] [(.int 1)])) rfl (by rw [hml]; rfl) (argsL := [(.int 1)]) (rest := []) (lenOf pd_12 rfl) rfl (Nat.le_of_eq rfl) (hb hby d19_1) (fun _ _ => ⟨rfl, e0, own_le rfl, own_le rfl⟩)
  dsimp only [Pt.U, Pt.locs, Pt.cells, Pt.slots] at X102 l102 y102 z102 st102 hQ102
  subst l102 y102 z102
  obtain ⟨b103, x104, rfl, N102q, K102, f105, f106, f107⟩ := hQ102
  have N102 := Fr.app N0 N102q
  have ne108 : a1 ≠ b103 := Nat.ne_of_lt (Nat.lt_of_lt_of_le V1.lt f106)
  have f109 := Nat.le_trans Z0 K102.1
  have f110 := V1.keep K102 nin0
  have f111 := O0.keep K102 all0
  have f112 := f101.trans K102 all0
  obtain ⟨cl113, Ar113, q113, S113, N113z, H113, G113⟩ := (id f110)
  have hin113 : ¬ ((0 : Int32) < 0 ∨ cl113.slots.size ≤ ((0 : Int32)).toNatClampNeg) := inb_of S113 ⟨by decide, by decide⟩
  have hat113 : cl113.slots[((0 : Int32)).toNatClampNeg]? = some (.int x0) := Has.at H113 hin113 rfl
  obtain ⟨_, _, ⟨T114, L114, k114, n114⟩, -, X114, ⟨Lc114, hQ114, l114, y114, z114⟩, st114⟩ := Jvm.LawKit.callS X102 hx (y := own_y19) hown (own_m hZ hw 96) (own_m hZ hw 97) (own_m hZ hw 42) (own_m hZ hw 98) (by decide) (backOf (W := 0) (rmPc_1_0 l Z a0 hw [] b103 x0 x104 (0 : Int32) (0 : Int32) T102.heap n0 f109 f107 (SA.ext f111.2) (SH.ext f111.2) (SL.ext f111.2) f105) hZ (own_i hw 98 rfl) (own_i hw 42 rfl) (by decide) (by decide)) (g := (mkF m 20 #[rv a1, iv 0, iv 1, rv b103, iv 0] [(.int x0), (.int 0), (.ref b103)])) rfl (by rw [hml]; rfl) (argsL := [(.ref b103), (.int 0), (.int x0)]) (rest := []) (lenOf pd_13 rfl) rfl (Nat.le_of_eq rfl) (hb hby d19_20) (fun _ _ => ⟨rfl, rfl, own_le rfl, own_le rfl⟩)
  dsimp only [Pt.U, Pt.locs, Pt.cells, Pt.slots] at X114 l114 y114 z114 st114 hQ114
  subst l114 y114 z114
  obtain ⟨rfl, N114q, K114, f115⟩ := hQ114
  have N114 := Fr.app N102 N114q
  have f116 := Nat.le_trans f109 K114.1
  have f117 := f110.keep K114 (ninS ne108 nin0)
  have f118 := f111.keep K114 (allS f105 all0)
  have f119 := f112.trans K114 (allS (Or.inr f106) all0)
  have pre120 : own_P p e below s₁ (entryFrame m #[(.ref a1), (.int 0), (.int 1)] 5) T114 (mkF m 33 #[rv a1, iv 1, iv 1, rv b103, iv 1] [(.ref b103)]) := fun t k => pre0 t (by
    show Steps p.tables e below (s₁.setTop (mkF m 0 #[rv a1, iv 0, iv 1, .unset, .unset] [])) t
    refine XS.iloadN X0.here hx rfl (hb hby d19_0) rfl ?_
    refine st102 _ ?_
    refine XS.astoreN X102.here hx rfl (hb hby d19_4) rfl rfl (l' := #[rv a1, iv 0, iv 1, rv b103, .unset]) rfl ?_
    refine XS.iconst X102.here hx rfl (hb hby d19_5) ?_
    refine XS.istore X102.here hx rfl (hb hby d19_6) rfl (l' := #[rv a1, iv 0, iv 1, rv b103, iv 0]) rfl ?_
    refine XS.iload X102.here hx rfl (hb hby d19_8) rfl ?_
    refine XS.iloadN X102.here hx rfl (hb hby d19_10) rfl ?_
    refine XS.icmpNo X102.here hx rfl (hb hby d19_11) rfl (tlt (by decide : (0 : Int32) < (1 : Int32))).2.1 ?_
    refine XS.aloadN X102.here hx rfl (hb hby d19_14) rfl rfl ?_
    refine XS.iload X102.here hx rfl (hb hby d19_15) rfl ?_
    refine XS.aloadN X102.here hx rfl (hb hby d19_17) rfl rfl ?_
    refine XS.iloadN X102.here hx rfl (hb hby d19_18) rfl ?_
    refine X102.caload hx (j := (0 : Int32)) (v := (.int x0)) Ar113.1 (State.isArrayOf_alike hZ.alike Ar113.2.1) Ar113.2.2 hin113 hat113 (g := (mkF m 19 #[rv a1, iv 0, iv 1, rv b103, iv 0] [(.int 0), (.ref a1), (.int 0), (.ref b103)])) rfl rfl (hb hby d19_19) _ ?_
    refine st114 _ ?_
    refine XS.iinc X114.here hx rfl (hb hby d19_23) rfl (l' := #[rv a1, iv 1, iv 1, rv b103, iv 0]) rfl ?_
    refine XS.iinc X114.here hx rfl (hb hby d19_26) rfl (l' := #[rv a1, iv 1, iv 1, rv b103, iv 1]) rfl ?_
    refine XS.goto X114.here hx rfl (pc0 := 29) (pc' := 8) rfl (hb hby d19_29) (by decide) (by decide) ?_
    refine XS.iload X114.here hx rfl (hb hby d19_8) rfl ?_
    refine XS.iloadN X114.here hx rfl (hb hby d19_10) rfl ?_
    refine XS.icmpYes X114.here hx rfl (pc0 := 11) (pc' := 32) rfl (hb hby d19_11) rfl (flt (by decide : ¬ ((1 : Int32) < (1 : Int32)))).2.1 (by decide) (by decide) ?_
    refine XS.aloadN X114.here hx rfl (hb hby d19_32) rfl rfl ?_
    exact k)
  obtain ⟨fs, hr, hrun, hended, hW, hsame⟩ := X114.leave (v := some (.ref b103)) (fun h => by rw [Bd.returns] at h; cases h)
  refine ⟨_, _, pre120 _ ?_, hrun, hended, _, _, rfl, ?_, ⟨_, rfl⟩, hW, hsame.mono (by decide) (by decide)⟩
  · exact retOut X114 hx Bd.returns rfl (Or.inr (Or.inr (Or.inr (Or.inr ⟨rfl, rfl, rfl⟩)))) (hb hby d19_33) hr
  · show QTb_1 Z a1 k1 x0 h0 n0 _ T114.heap _
    exact ⟨b103, x104, rfl, N114, f119, f105, f106, f115⟩
def QCU_1 (Z : State) (a1 a3 : Addr) (k1 k3 : ClassId) (x0 : Int32) (h0 : Heap) (n0 : Nat) (v : Option Value) (h : Heap) (L : List Loc) : Prop := ∃ (r : Int32), v = some (.int r) ∧ Fr n0 L ∧ Keep h0 h [a3] ∧ ((r = (0 : Int32) ∧ (255 : Int32) < x0))
theorem rmCU_1 (l : Launch) (Z : State) (a0 : Array Value) (hw : own_H Z a0) (ws : List Jvm.Cond) (a1 a3 : Addr) (k1 k3 : ClassId) (x0 : Int32) (h0 : Heap) (n0 : Nat) (Z0 : n0 ≤ h0.size) (V1 : Arv Z h0 a1 k1 .char (1 : Int32) [(.int x0)] (.int 0)) (V3 : Arv Z h0 a3 k3 .byte (1 : Int32) [(.int 0)] (.int 0)) (g3 : n0 ≤ a3) (ne : a1 ≠ a3) (hU : ¬ ((¬ ((255 : Int32) < x0)))) :
    own_M l own_y0 jdk_52_method_21_code 7 (some .int) ws (own_R 0 0 0 0) Z h0 #[(.ref a1), (.int 0), (.ref a3), (.int 0), (.int 1)] (QCU_1 Z a1 a3 k1 k3 x0 h0 n0) := by
  refine own_body (plainFor_of_name pn_java_lang_StringUTF16) fun p e s m below meth c s₁ Bd hx hby hml (hown : s.vm.findClass "java/lang/StringUTF16" = some m.cls) hnm X0 e0 hZ => ?_
  have N0 := Fr.nil n0
  have pre0 : own_P p e below s₁ (entryFrame m #[(.ref a1), (.int 0), (.ref a3), (.int 0), (.int 1)] 7) s₁ (mkF m 0 #[rv a1, iv 0, rv a3, iv 0, iv 1, .unset, .unset] []) := fun t k => castTop (by first | rfl | (simp [entryFrame, mkF, argsToLocals, Value.category]; done)) k
  have f101 := Keep.refl h0 [a3]
  obtain ⟨cl102, Ar102, q102, S102, N102z, H102, G102⟩ := (id V1)
  have hin102 : ¬ ((0 : Int32) < 0 ∨ cl102.slots.size ≤ ((0 : Int32)).toNatClampNeg) := inb_of S102 ⟨by decide, by decide⟩
  have hat102 : cl102.slots[((0 : Int32)).toNatClampNeg]? = some (.int x0) := Has.at H102 hin102 rfl
  have hd103 : (255 : Int32) < x0 := Classical.byContradiction fun q => hU q
  have pre104 : own_P p e below s₁ (entryFrame m #[(.ref a1), (.int 0), (.ref a3), (.int 0), (.int 1)] 7) s₁ (mkF m 25 #[rv a1, iv 0, rv a3, iv 0, iv 1, iv 0, iv x0] [(.int 0)]) := fun t k => pre0 t (by
    show Steps p.tables e below (s₁.setTop (mkF m 0 #[rv a1, iv 0, rv a3, iv 0, iv 1, .unset, .unset] [])) t
    refine XS.iconst X0.here hx rfl (hb hby d9_0) ?_
    refine XS.istore X0.here hx rfl (hb hby d9_1) rfl (l' := #[rv a1, iv 0, rv a3, iv 0, iv 1, iv 0, .unset]) rfl ?_
    refine XS.iload X0.here hx rfl (hb hby d9_3) rfl ?_
    refine XS.iload X0.here hx rfl (hb hby d9_5) rfl ?_
    refine XS.icmpNo X0.here hx rfl (hb hby d9_7) rfl (tlt (by decide : (0 : Int32) < (1 : Int32))).2.1 ?_
    refine XS.aloadN X0.here hx rfl (hb hby d9_10) rfl rfl ?_
    refine XS.iloadN X0.here hx rfl (hb hby d9_11) rfl ?_
    refine X0.caload hx (j := (0 : Int32)) (v := (.int x0)) (by rw [e0]; exact Ar102.1) (State.isArrayOf_alike hZ.alike Ar102.2.1) Ar102.2.2 hin102 hat102 (g := (mkF m 12 #[rv a1, iv 0, rv a3, iv 0, iv 1, iv 0, .unset] [(.int 0), (.ref a1)])) rfl rfl (hb hby d9_12) _ ?_
    refine XS.istore X0.here hx rfl (hb hby d9_13) rfl (l' := #[rv a1, iv 0, rv a3, iv 0, iv 1, iv 0, iv x0]) rfl ?_
    refine XS.iload X0.here hx rfl (hb hby d9_15) rfl ?_
    refine XS.sipush X0.here hx rfl (hb hby d9_17) ?_
    refine XS.icmpNo X0.here hx rfl (hb hby d9_20) rfl (tlt hd103).2.2.2 ?_
    refine XS.iload X0.here hx rfl (hb hby d9_23) rfl ?_
    exact k)
  obtain ⟨fs, hr, hrun, hended, hW, hsame⟩ := X0.leave (v := some (.int 0)) (fun h => by rw [Bd.returns] at h; cases h)
  refine ⟨_, _, pre104 _ ?_, hrun, hended, _, _, rfl, ?_, ⟨_, rfl⟩, hW, hsame.mono (by decide) (by decide)⟩
  · exact retI X0 hx Bd.returns (hb hby d9_25) hr
  · show QCU_1 Z a1 a3 k1 k3 x0 h0 n0 _ s₁.heap _
    rw [e0]
    exact ⟨(0 : Int32), rfl, N0, f101, (⟨rfl, hd103⟩)⟩
def QDU_1 (Z : State) (a1 : Addr) (k1 : ClassId) (x0 : Int32) (h0 : Heap) (n0 : Nat) (v : Option Value) (h : Heap) (L : List Loc) : Prop := ∃ (b : Addr) (kb : ClassId), v = some (.ref b) ∧ Fr n0 L ∧ Keep h0 h [] ∧ (n0 ≤ b) ∧ (h0.size ≤ b) ∧ (Arv Z h b kb .byte (2 : Int32) [(.int (own_b0 x0)), (.int (own_b1 x0))] (.int 0))
theorem rmDU_1 (l : Launch) (Z : State) (a0 : Array Value) (hw : own_H Z a0) (ws : List Jvm.Cond) (a1 : Addr) (k1 : ClassId) (x0 : Int32) (h0 : Heap) (n0 : Nat) (Z0 : n0 ≤ h0.size) (V1 : Arv Z h0 a1 k1 .char (1 : Int32) [(.int x0)] (.int 0)) (SA : Sta Z Z.heap "java/lang/StringUTF16" "$assertionsDisabled" "Z" (.int 1)) (SH : Sta Z Z.heap "java/lang/StringUTF16" "HI_BYTE_SHIFT" "I" (.int 0)) (SL : Sta Z Z.heap "java/lang/StringUTF16" "LO_BYTE_SHIFT" "I" (.int 8)) (O0 : Old Z n0 h0) (hC0 : own_C x0) (hU : ¬ ((¬ ((255 : Int32) < x0)))) :
    own_M l own_y1 jdk_52_method_16_code 6 (some (.array .byte)) ws (own_R 3 2 3 40) Z h0 #[(.ref a1), (.int 0), (.int 1)] (QDU_1 Z a1 k1 x0 h0 n0) := by
  refine own_body (plainFor_of_name pn_java_lang_StringUTF16) fun p e s m below meth c s₁ Bd hx hby hml (hown : s.vm.findClass "java/lang/StringUTF16" = some m.cls) hnm X0 e0 hZ => ?_
  have N0 := Fr.nil n0
  have pre0 : own_P p e below s₁ (entryFrame m #[(.ref a1), (.int 0), (.int 1)] 6) s₁ (mkF m 0 #[rv a1, iv 0, iv 1, .unset, .unset, .unset] []) := fun t k => castTop (by first | rfl | (simp [entryFrame, mkF, argsToLocals, Value.category]; done)) k
  have f101 := Keep.refl h0 []
  obtain ⟨T102, h102, k102, X102, e102, E102, A102, st102⟩ := newP X0 hx hZ (own_i hw 23 rfl) e0 (g := (mkF m 1 #[rv a1, iv 0, iv 1, .unset, .unset, .unset] [(.int 1)])) rfl (hb hby d8_1) rfl (by decide) (cap := 1) (by decide) (by decide) (by decide) (by decide)
  obtain ⟨b102, g102⟩ : ∃ z, z = h0.size := ⟨_, rfl⟩
  rw [← g102] at A102 st102
  have ne103 : a1 ≠ b102 := Nat.ne_of_lt (Nat.lt_of_lt_of_le V1.lt (Nat.le_of_eq g102.symm))
  have ga104 : n0 ≤ b102 := Nat.le_trans Z0 (Nat.le_of_eq g102.symm)
  have sz105 : h0.size ≤ b102 := Nat.le_trans f101.1 (Nat.le_of_eq g102.symm)
  have V102 : Arv Z h102 b102 k102 .byte (1 : Int32) [(.int 0)] (.int 0) := (Arv.new A102 (by decide)).pad (pad_rep [] (.int 0) 1)
  have f106 := Nat.le_trans Z0 E102.1
  have f107 := V1.ext E102
  have f108 := O0.ext E102
  have f109 := f101.ext E102
  obtain ⟨_, _, ⟨T110, L110, k110, n110⟩, -, X110, ⟨Lc110, hQ110, l110, y110, z110⟩, st110⟩ := Jvm.LawKit.callS X102 hx (y := own_y0) hown (own_m hZ hw 44) (own_m hZ hw 45) (own_m hZ hw 42) (own_m hZ hw 46) (by decide) (backOf (W := 0) (rmCU_1 l Z a0 hw [] a1 b102 k1 k102 x0 h102 n0 f106 f107 V102 ga104 ne103 hU) hZ (own_i hw 46 rfl) (own_i hw 42 rfl) (by decide) (by decide)) (g := (mkF m 9 #[rv a1, iv 0, iv 1, rv b102, .unset, .unset] [(.int 1), (.int 0), (.ref b102), (.int 0), (.ref a1)])) rfl (by rw [hml]; rfl) (argsL := [(.ref a1), (.int 0), (.ref b102), (.int 0), (.int 1)]) (rest := []) (lenOf pd_0 rfl) rfl (Nat.le_of_eq rfl) (hb hby d8_9) (fun _ _ => ⟨rfl, e102, own_le rfl, own_le rfl⟩)
  dsimp only [Pt.U, Pt.locs, Pt.cells, Pt.slots] at X110 l110 y110 z110 st110 hQ110
  subst l110 y110 z110
  obtain ⟨x111, rfl, N110q, K110, f112⟩ := hQ110
  have N110 := Fr.app N0 N110q
  have f113 := Nat.le_trans f106 K110.1
  have f114 := f107.keep K110 (ninS ne103 nin0)
  have f115 := f108.keep K110 (allS ga104 all0)
  have f116 := f109.trans K110 (allS (Or.inr sz105) all0)
  have hd117 : ¬ (x111 = (1 : Int32)) := fun q => absurd (f112.1.symm.trans q) (by decide)
  obtain ⟨_, _, ⟨T118, L118, k118, n118⟩, -, X118, ⟨Lc118, hQ118, l118, y118, z118⟩, st118⟩ := Jvm.LawKit.callS X110 hx (y := own_y22) hown (own_m hZ hw 86) (own_m hZ hw 87) (own_m hZ hw 42) (own_m hZ hw 88) (by decide) (backOf (W := 0) (rmTb_1 l Z a0 hw [] a1 k1 x0 T110.heap n0 f113 f114 SA SH SL f115) hZ (own_i hw 88 rfl) (own_i hw 42 rfl) (by decide) (by decide)) (g := (mkF m 23 #[rv a1, iv 0, iv 1, rv b102, iv x111, .unset] [(.int 1), (.int 0), (.ref a1)])) rfl (by rw [hml]; rfl) (argsL := [(.ref a1), (.int 0), (.int 1)]) (rest := []) (lenOf pd_1 rfl) rfl (Nat.le_of_eq rfl) (hb hby d8_23) (fun _ _ => ⟨rfl, rfl, own_le rfl, own_le rfl⟩)
  dsimp only [Pt.U, Pt.locs, Pt.cells, Pt.slots] at X118 l118 y118 z118 st118 hQ118
  subst l118 y118 z118
  obtain ⟨b119, x120, rfl, N118q, K118, f121, f122, f123⟩ := hQ118
  have N118 := Fr.app N110 N118q
  have ne124 : a1 ≠ b119 := Nat.ne_of_lt (Nat.lt_of_lt_of_le f114.lt f122)
  have sz125 : h0.size ≤ b119 := Nat.le_trans f116.1 f122
  have f126 := Nat.le_trans f113 K118.1
  have f127 := f114.keep K118 nin0
  have f128 := f115.keep K118 all0
  have f129 := f116.trans K118 all0
  have pre130 : own_P p e below s₁ (entryFrame m #[(.ref a1), (.int 0), (.int 1)] 6) T118 (mkF m 28 #[rv a1, iv 0, iv 1, rv b102, iv x111, rv b119] []) := fun t k => pre0 t (by
    show Steps p.tables e below (s₁.setTop (mkF m 0 #[rv a1, iv 0, iv 1, .unset, .unset, .unset] [])) t
    refine XS.iloadN X0.here hx rfl (hb hby d8_0) rfl ?_
    refine st102 _ ?_
    refine XS.astoreN X102.here hx rfl (hb hby d8_3) rfl rfl (l' := #[rv a1, iv 0, iv 1, rv b102, .unset, .unset]) rfl ?_
    refine XS.aloadN X102.here hx rfl (hb hby d8_4) rfl rfl ?_
    refine XS.iloadN X102.here hx rfl (hb hby d8_5) rfl ?_
    refine XS.aloadN X102.here hx rfl (hb hby d8_6) rfl rfl ?_
    refine XS.iconst X102.here hx rfl (hb hby d8_7) ?_
    refine XS.iloadN X102.here hx rfl (hb hby d8_8) rfl ?_
    refine st110 _ ?_
    refine XS.istore X110.here hx rfl (hb hby d8_12) rfl (l' := #[rv a1, iv 0, iv 1, rv b102, iv x111, .unset]) rfl ?_
    refine XS.iload X110.here hx rfl (hb hby d8_14) rfl ?_
    refine XS.iloadN X110.here hx rfl (hb hby d8_16) rfl ?_
    refine XS.icmpNo X110.here hx rfl (hb hby d8_17) rfl (feq hd117).1 ?_
    refine XS.aloadN X110.here hx rfl (hb hby d8_20) rfl rfl ?_
    refine XS.iloadN X110.here hx rfl (hb hby d8_21) rfl ?_
    refine XS.iloadN X110.here hx rfl (hb hby d8_22) rfl ?_
    refine st118 _ ?_
    refine XS.astore X118.here hx rfl (hb hby d8_26) rfl rfl (l' := #[rv a1, iv 0, iv 1, rv b102, iv x111, rv b119]) rfl ?_
    exact k)
  have hs131 := f112
  · have pre132 : own_P p e below s₁ (entryFrame m #[(.ref a1), (.int 0), (.int 1)] 6) T118 (mkF m 28 #[rv a1, iv 0, iv 1, rv b102, iv 0, rv b119] []) := fun t k => pre130 t (by rw [show x111 = (0 : Int32) from hs131.1]; exact k)
    obtain ⟨_, _, ⟨T133, L133, k133, n133⟩, -, X133, ⟨Lc133, hQ133, l133, y133, z133⟩, st133⟩ := Jvm.LawKit.callS X118 hx (y := own_y15) hown (own_m hZ hw 102) (own_m hZ hw 103) (own_m hZ hw 42) (own_m hZ hw 104) (by decide) (backOf (W := 0) (rmGc l Z a0 hw [] b119 (0 : Int32) x120 (own_b0 x0) (own_b1 x0) (2 : Int32) ([(.int (own_b0 x0)), (.int (own_b1 x0))]) T118.heap n0 f126 f123 (SA.ext f128.2) (SH.ext f128.2) (SL.ext f128.2) (by decide) (by decide) (by decide) (by decide) rfl rfl) hZ (own_i hw 104 rfl) (own_i hw 42 rfl) (by decide) (by decide)) (g := (mkF m 32 #[rv a1, iv 0, iv 1, rv b102, iv 0, rv b119] [(.int 0), (.ref b119)])) rfl (by rw [hml]; rfl) (argsL := [(.ref b119), (.int 0)]) (rest := []) (lenOf pd_8 rfl) rfl (Nat.le_of_eq rfl) (hb hby d8_32) (fun _ _ => ⟨rfl, rfl, own_le rfl, own_le rfl⟩)
    dsimp only [Pt.U, Pt.locs, Pt.cells, Pt.slots] at X133 l133 y133 z133 st133 hQ133
    subst l133 y133 z133
    obtain ⟨rfl, N133q, e133⟩ := hQ133
    have N133 := Fr.app N118 N133q
    have hd134 : (255 : Int32) < (own_ut (own_b0 x0) (own_b1 x0)) := by rw [own_utc hC0]; exact hs131.2
    have pre135 : own_P p e below s₁ (entryFrame m #[(.ref a1), (.int 0), (.int 1)] 6) T133 (mkF m 56 #[rv a1, iv 0, iv 1, rv b102, iv 0, rv b119] [(.ref b119)]) := fun t k => pre132 t (by
      show Steps p.tables e below (T118.setTop (mkF m 28 #[rv a1, iv 0, iv 1, rv b102, iv 0, rv b119] [])) t
      refine XS.aload X118.here hx rfl (hb hby d8_28) rfl rfl ?_
      refine XS.iload X118.here hx rfl (hb hby d8_30) rfl ?_
      refine st133 _ ?_
      refine XS.sipush X133.here hx rfl (hb hby d8_35) ?_
      refine XS.icmpYes X133.here hx rfl (pc0 := 38) (pc' := 54) rfl (hb hby d8_38) rfl (tlt hd134).2.2.1 (by decide) (by decide) ?_
      refine XS.aload X133.here hx rfl (hb hby d8_54) rfl rfl ?_
      exact k)
    obtain ⟨fs, hr, hrun, hended, hW, hsame⟩ := X133.leave (v := some (.ref b119)) (fun h => by rw [Bd.returns] at h; cases h)
    refine ⟨_, _, pre135 _ ?_, hrun, hended, _, _, rfl, ?_, ⟨_, rfl⟩, hW, hsame.mono (by decide) (by decide)⟩
    · exact retOut X133 hx Bd.returns rfl (Or.inr (Or.inr (Or.inr (Or.inr ⟨rfl, rfl, rfl⟩)))) (hb hby d8_56) hr
    · show QDU_1 Z a1 k1 x0 h0 n0 _ T133.heap _
      rw [e133]
      exact ⟨b119, x120, rfl, N133, f129, f121, sz125, f123⟩
def QEU_1 (Z : State) (a1 : Addr) (k1 : ClassId) (y0 y1 : Int32) (h0 : Heap) (n0 : Nat) (v : Option Value) (h : Heap) (L : List Loc) : Prop := v = some (.int 1) ∧ Fr n0 L ∧ h = h0
theorem rmEU_1 (l : Launch) (Z : State) (a0 : Array Value) (hw : own_H Z a0) (ws : List Jvm.Cond) (a1 : Addr) (k1 : ClassId) (y0 y1 : Int32) (h0 : Heap) (n0 : Nat) (Z0 : n0 ≤ h0.size) (V1 : Arv Z h0 a1 k1 .byte (2 : Int32) [(.int y0), (.int y1)] (.int 0)) :
    own_M l own_y2 jdk_52_method_15_code 2 (some .byte) ws (own_R 0 0 0 0) Z h0 #[(.ref a1), (.int 1)] (QEU_1 Z a1 k1 y0 y1 h0 n0) := by
  refine own_body (plainFor_of_name pn_java_lang_StringUTF16) fun p e s m below meth c s₁ Bd hx hby hml (hown : s.vm.findClass "java/lang/StringUTF16" = some m.cls) hnm X0 e0 hZ => ?_
  have N0 := Fr.nil n0
  have pre0 : own_P p e below s₁ (entryFrame m #[(.ref a1), (.int 1)] 2) s₁ (mkF m 0 #[rv a1, iv 1] []) := fun t k => castTop (by first | rfl | (simp [entryFrame, mkF, argsToLocals, Value.category]; done)) k
  obtain ⟨cl101, Ar101, q101, S101, N101z, H101, G101⟩ := (id V1)
  have pre102 : own_P p e below s₁ (entryFrame m #[(.ref a1), (.int 1)] 2) s₁ (mkF m 8 #[rv a1, iv 1] [(.int ((((-1 : Int32).toUInt32 >>> ((31 : Int32) &&& 31).toUInt32).toInt32).toInt8.toInt32))]) := fun t k => pre0 t (by
    show Steps p.tables e below (s₁.setTop (mkF m 0 #[rv a1, iv 1] [])) t
    refine XS.iloadN X0.here hx rfl (hb hby d10_0) rfl ?_
    refine XS.aloadN X0.here hx rfl (hb hby d10_1) rfl rfl ?_
    refine X0.arraylength hx (by rw [e0]; exact Ar101.1) (State.isArrayOf_alike hZ.alike Ar101.2.1) (g := (mkF m 2 #[rv a1, iv 1] [(.ref a1), (.int 1)])) rfl rfl (hb hby d10_2) _ ?_
    rw [len_of S101 N101z]
    refine XS.isub X0.here hx rfl (hb hby d10_3) rfl ?_
    refine XS.bipush X0.here hx rfl (hb hby d10_4) ?_
    refine XS.iushr X0.here hx rfl (hb hby d10_6) rfl ?_
    refine XS.i2b X0.here hx rfl (hb hby d10_7) rfl ?_
    exact k)
  obtain ⟨fs, hr, hrun, hended, hW, hsame⟩ := X0.leave (v := some (.int (nar .byte ((((-1 : Int32).toUInt32 >>> ((31 : Int32) &&& 31).toUInt32).toInt32).toInt8.toInt32)))) (fun h => by rw [Bd.returns] at h; cases h)
  refine ⟨_, _, pre102 _ ?_, hrun, hended, _, _, rfl, ?_, ⟨_, rfl⟩, hW, hsame.mono (by decide) (by decide)⟩
  · exact retN X0 hx (t := .byte) Bd.returns (by simp) (hb hby d10_8) hr
  · show QEU_1 Z a1 k1 y0 y1 h0 n0 _ s₁.heap _
    rw [e0]
    exact ⟨(by rw [show (nar .byte ((((-1 : Int32).toUInt32 >>> ((31 : Int32) &&& 31).toUInt32).toInt32).toInt8.toInt32)) = (1 : Int32) from by decide]), N0, rfl⟩
def QFU_1 (Z : State) (a1 a2 : Addr) (k2 : ClassId) (cs x0 : Int32) (h0 : Heap) (n0 : Nat) (v : Option Value) (h : Heap) (L : List Loc) : Prop := ∃ (t : Addr) (kt : ClassId), v = none ∧ Fr n0 L ∧ Keep h0 h [a1] ∧ (Exa Z h a1 "java/lang/String") ∧ (Fld Z h a1 "java/lang/String" "coder" "B" (.int 1)) ∧ (Fld Z h a1 "java/lang/String" "value" "[B" (.ref t)) ∧ (n0 ≤ t) ∧ (h0.size ≤ t) ∧ (Arv Z h t kt .byte (2 : Int32) [(.int (own_b0 x0)), (.int (own_b1 x0))] (.int 0))
theorem rmFU_1 (l : Launch) (Z : State) (a0 : Array Value) (hw : own_H Z a0) (ws : List Jvm.Cond) (a1 a2 : Addr) (k2 : ClassId) (cs x0 : Int32) (h0 : Heap) (n0 : Nat) (Z0 : n0 ≤ h0.size) (F1 : Fld Z h0 a1 "java/lang/String" "value" "[B" .null) (F2 : Fld Z h0 a1 "java/lang/String" "coder" "B" (.int 0)) (E1 : Exa Z h0 a1 "java/lang/String") (g1 : n0 ≤ a1) (V2 : Arv Z h0 a2 k2 .char (1 : Int32) [(.int x0)] (.int 0)) (ne : a1 ≠ a2) (SC : Sta Z Z.heap "java/lang/String" "COMPACT_STRINGS" "Z" (.int cs)) (hcs : ¬ (cs = (0 : Int32))) (SA : Sta Z Z.heap "java/lang/StringUTF16" "$assertionsDisabled" "Z" (.int 1)) (SH : Sta Z Z.heap "java/lang/StringUTF16" "HI_BYTE_SHIFT" "I" (.int 0)) (SL : Sta Z Z.heap "java/lang/StringUTF16" "LO_BYTE_SHIFT" "I" (.int 8)) (O0 : Old Z n0 h0) (hC0 : own_C x0) (hU : ¬ ((¬ ((255 : Int32) < x0)))) :
    own_M l own_y3 jdk_42_method_149_code 6 none ws (own_R 4 2 3 57) Z h0 #[(.ref a1), (.ref a2), (.int 0), (.int 1), .null] (QFU_1 Z a1 a2 k2 cs x0 h0 n0) := by
  refine own_body (plainFor_of_name pn_java_lang_String) fun p e s m below meth c s₁ Bd hx hby hml (hown : s.vm.findClass "java/lang/String" = some m.cls) hnm X0 e0 hZ => ?_
  have N0 := Fr.nil n0
  have pre0 : own_P p e below s₁ (entryFrame m #[(.ref a1), (.ref a2), (.int 0), (.int 1), .null] 6) s₁ (mkF m 0 #[rv a1, rv a2, iv 0, iv 1, .val .null, .unset] []) := fun t k => castTop (by first | rfl | (simp [entryFrame, mkF, argsToLocals, Value.category]; done)) k
  have f101 := Keep.refl h0 [a1]
  obtain ⟨T102, X102, e102, st102⟩ := initO X0 hx hZ hown (own_i hw 19 rfl) (own_i hw 20 rfl) (own_i hw 21 rfl) e0 (g := (mkF m 1 #[rv a1, rv a2, iv 0, iv 1, .val .null, .unset] [(.ref a1)])) rfl (by rw [hml]; rfl) rfl (hb hby d4_1) (by decide) (W := 0) (Nat.le_of_eq rfl) (by decide)
  obtain ⟨T103, X103, e103, st103⟩ := getS2 X102 hx hZ hown (host := "") (Or.inl (own_i hw 39 rfl)) Via.refl e102 (SC.ext O0.2) (g := (mkF m 27 #[rv a1, rv a2, iv 0, iv 1, .val .null, .unset] [])) rfl (hb hby d4_27)
  obtain ⟨_, _, ⟨T104, L104, k104, n104⟩, -, X104, ⟨Lc104, hQ104, l104, y104, z104⟩, st104⟩ := Jvm.LawKit.callS X103 hx (y := own_y1) hown (own_m hZ hw 40) (own_m hZ hw 41) (own_m hZ hw 42) (own_m hZ hw 43) (by decide) (backOf (W := 0) (rmDU_1 l Z a0 hw [] a2 k2 x0 h0 n0 Z0 V2 SA SH SL O0 hC0 hU) hZ (own_i hw 43 rfl) (own_i hw 42 rfl) (by decide) (by decide)) (g := (mkF m 36 #[rv a1, rv a2, iv 0, iv 1, .val .null, .unset] [(.int 1), (.int 0), (.ref a2)])) rfl (by rw [hml]; rfl) (argsL := [(.ref a2), (.int 0), (.int 1)]) (rest := []) (lenOf pd_1 rfl) rfl (Nat.le_of_eq rfl) (hb hby d4_36) (fun _ _ => ⟨rfl, e103, own_le rfl, own_le rfl⟩)
  dsimp only [Pt.U, Pt.locs, Pt.cells, Pt.slots] at X104 l104 y104 z104 st104 hQ104
  subst l104 y104 z104
  obtain ⟨b105, x106, rfl, N104q, K104, f107, f108, f109⟩ := hQ104
  have N104 := Fr.app N0 N104q
  have ne110 : a1 ≠ b105 := Nat.ne_of_lt (Nat.lt_of_lt_of_le F1.lt f108)
  have ne111 : a2 ≠ b105 := Nat.ne_of_lt (Nat.lt_of_lt_of_le V2.lt f108)
  have f112 := Nat.le_trans Z0 K104.1
  have f113 := F1.keep K104 nin0
  have f114 := F2.keep K104 nin0
  have f115 := E1.keep K104
  have f116 := V2.keep K104 nin0
  have f117 := O0.keep K104 all0
  have f118 := f101.trans K104 all0
  obtain ⟨_, _, ⟨T119, L119, k119, n119⟩, -, X119, ⟨Lc119, hQ119, l119, y119, z119⟩, st119⟩ := Jvm.LawKit.callS X104 hx (y := own_y2) hown (own_m hZ hw 47) (own_m hZ hw 48) (own_m hZ hw 42) (own_m hZ hw 49) (by decide) (backOf (W := 1) (rmEU_1 l Z a0 hw [] b105 x106 (own_b0 x0) (own_b1 x0) T104.heap n0 f112 f109) hZ (own_i hw 49 rfl) (own_i hw 42 rfl) (by decide) (by decide)) (g := (mkF m 45 #[rv a1, rv a2, iv 0, iv 1, .val .null, rv b105] [(.int 1), (.ref b105), (.ref a1)])) rfl (by rw [hml]; rfl) (argsL := [(.ref b105), (.int 1)]) (rest := [(.ref a1)]) (lenOf pd_2 rfl) rfl (Nat.le_of_eq rfl) (hb hby d4_45) (fun _ _ => ⟨rfl, rfl, own_le rfl, own_le rfl⟩)
  dsimp only [Pt.U, Pt.locs, Pt.cells, Pt.slots] at X119 l119 y119 z119 st119 hQ119
  subst l119 y119 z119
  obtain ⟨rfl, N119q, e119⟩ := hQ119
  have N119 := Fr.app N104 N119q
  obtain ⟨T120, h120, X120, e120, W120, st120⟩ := putFN X119 hx hZ hown (own_i hw 29 rfl) Via.refl e119 f114 f115 (Or.inr ⟨(own_i hw 25 rfl), rfl, hnm⟩) (own_i hw 9 rfl) (ty := .byte) (v' := (.int 1)) (by decide) rfl (by decide) (g := (mkF m 48 #[rv a1, rv a2, iv 0, iv 1, .val .null, rv b105] [(.int 1), (.ref a1)])) rfl rfl (hb hby d4_48)
  have Fw120 := f114.same W120
  have N120 := Fr.snoc X120 N119 g1
  have f121 := Nat.le_trans f112 (Keep.of_wr W120).1
  have f122 := f113.other W120 (Or.inr (slot_ne (Or.inr (own_i hw 24 rfl)) (Or.inr (own_i hw 25 rfl)) (by decide) (t := (.array .byte)) (t' := .byte) (by decide) (by decide)))
  have f123 := f115.wr W120
  have f124 := f116.other W120 (Ne.symm ne)
  have f125 := f117.wr W120 g1
  have f126 := f118.wr W120 (Or.inl (List.mem_of_getElem? (i := 0) rfl))
  have f127 := f109.other W120 (Ne.symm ne110)
  obtain ⟨T128, h128, X128, e128, W128, st128⟩ := putF X120 hx hZ hown (host := "") (Or.inl (own_i hw 28 rfl)) Via.refl e120 f122 f123 (Or.inr ⟨(own_i hw 24 rfl), rfl, hnm⟩) (own_i hw 9 rfl) (ty := (.array .byte)) (by decide) rfl rfl (g := (mkF m 54 #[rv a1, rv a2, iv 0, iv 1, .val .null, rv b105] [(.ref b105), (.ref a1)])) rfl rfl (hb hby d4_54)
  have Fw128 := f122.same W128
  have N128 := Fr.snoc X128 N120 g1
  have f129 := Nat.le_trans f121 (Keep.of_wr W128).1
  have f130 := f123.wr W128
  have f131 := f124.other W128 (Ne.symm ne)
  have f132 := f125.wr W128 g1
  have f133 := f126.wr W128 (Or.inl (List.mem_of_getElem? (i := 0) rfl))
  have f134 := f127.other W128 (Ne.symm ne110)
  have f135 := Fw120.other W128 (Or.inr (slot_ne (Or.inr (own_i hw 25 rfl)) (Or.inr (own_i hw 24 rfl)) (by decide) (t := .byte) (t' := (.array .byte)) (by decide) (by decide)))
  have pre136 : own_P p e below s₁ (entryFrame m #[(.ref a1), (.ref a2), (.int 0), (.int 1), .null] 6) T128 (mkF m 57 #[rv a1, rv a2, iv 0, iv 1, .val .null, rv b105] []) := fun t k => pre0 t (by
    show Steps p.tables e below (s₁.setTop (mkF m 0 #[rv a1, rv a2, iv 0, iv 1, .val .null, .unset] [])) t
    refine XS.aloadN X0.here hx rfl (hb hby d4_0) rfl rfl ?_
    refine st102 _ ?_
    refine XS.iloadN X102.here hx rfl (hb hby d4_4) rfl ?_
    refine XS.ifYes X102.here hx rfl (pc0 := 5) (pc' := 27) rfl (hb hby d4_5) rfl ((if0 _ _).trans (feq (by decide : ¬ ((1 : Int32) = (0 : Int32)))).2) (by decide) (by decide) ?_
    refine st103 _ ?_
    refine XS.ifNo X103.here hx rfl (hb hby d4_30) rfl ((if0 _ _).trans (feq hcs).1) ?_
    refine XS.aloadN X103.here hx rfl (hb hby d4_33) rfl rfl ?_
    refine XS.iloadN X103.here hx rfl (hb hby d4_34) rfl ?_
    refine XS.iloadN X103.here hx rfl (hb hby d4_35) rfl ?_
    refine st104 _ ?_
    refine XS.astore X104.here hx rfl (hb hby d4_39) rfl rfl (l' := #[rv a1, rv a2, iv 0, iv 1, .val .null, rv b105]) rfl ?_
    refine XS.aloadN X104.here hx rfl (hb hby d4_41) rfl rfl ?_
    refine XS.aload X104.here hx rfl (hb hby d4_42) rfl rfl ?_
    refine XS.iloadN X104.here hx rfl (hb hby d4_44) rfl ?_
    refine st119 _ ?_
    refine st120 _ ?_
    refine XS.aloadN X120.here hx rfl (hb hby d4_51) rfl rfl ?_
    refine XS.aload X120.here hx rfl (hb hby d4_52) rfl rfl ?_
    refine st128 _ ?_
    exact k)
  obtain ⟨fs, hr, hrun, hended, hW, hsame⟩ := X128.leave (v := none) (fun _ => rfl)
  refine ⟨_, _, pre136 _ ?_, hrun, hended, _, _, rfl, ?_, ⟨_, rfl⟩, hW, hsame.mono (by decide) (by decide)⟩
  · exact X128.returnOut hx Bd.returns (hb hby d4_57) hr
  · show QFU_1 Z a1 a2 k2 cs x0 h0 n0 _ T128.heap _
    rw [e128]
    exact ⟨b105, x106, rfl, N128, f133, f130, f135, Fw128, f107, f108, f134⟩
def QGU_1 (Z : State) (a1 a2 : Addr) (k2 : ClassId) (cs x0 : Int32) (h0 : Heap) (n0 : Nat) (v : Option Value) (h : Heap) (L : List Loc) : Prop := ∃ (t : Addr) (kt : ClassId), v = none ∧ Fr n0 L ∧ Keep h0 h [a1] ∧ (Exa Z h a1 "java/lang/String") ∧ (Fld Z h a1 "java/lang/String" "coder" "B" (.int 1)) ∧ (Fld Z h a1 "java/lang/String" "value" "[B" (.ref t)) ∧ (n0 ≤ t) ∧ (h0.size ≤ t) ∧ (Arv Z h t kt .byte (2 : Int32) [(.int (own_b0 x0)), (.int (own_b1 x0))] (.int 0))
theorem rmGU_1 (l : Launch) (Z : State) (a0 : Array Value) (hw : own_H Z a0) (ws : List Jvm.Cond) (a1 a2 : Addr) (k2 : ClassId) (cs x0 : Int32) (h0 : Heap) (n0 : Nat) (Z0 : n0 ≤ h0.size) (F1 : Fld Z h0 a1 "java/lang/String" "value" "[B" .null) (F2 : Fld Z h0 a1 "java/lang/String" "coder" "B" (.int 0)) (E1 : Exa Z h0 a1 "java/lang/String") (g1 : n0 ≤ a1) (V2 : Arv Z h0 a2 k2 .char (1 : Int32) [(.int x0)] (.int 0)) (ne : a1 ≠ a2) (SC : Sta Z Z.heap "java/lang/String" "COMPACT_STRINGS" "Z" (.int cs)) (hcs : ¬ (cs = (0 : Int32))) (SA : Sta Z Z.heap "java/lang/StringUTF16" "$assertionsDisabled" "Z" (.int 1)) (SH : Sta Z Z.heap "java/lang/StringUTF16" "HI_BYTE_SHIFT" "I" (.int 0)) (SL : Sta Z Z.heap "java/lang/StringUTF16" "LO_BYTE_SHIFT" "I" (.int 8)) (O0 : Old Z n0 h0) (hC0 : own_C x0) (hU : ¬ ((¬ ((255 : Int32) < x0)))) :
    own_M l own_y4 jdk_42_method_3_code 2 none ws (own_R 5 2 3 74) Z h0 #[(.ref a1), (.ref a2)] (QGU_1 Z a1 a2 k2 cs x0 h0 n0) := by
  refine own_body (plainFor_of_name pn_java_lang_String) fun p e s m below meth c s₁ Bd hx hby hml (hown : s.vm.findClass "java/lang/String" = some m.cls) hnm X0 e0 hZ => ?_
  have N0 := Fr.nil n0
  have pre0 : own_P p e below s₁ (entryFrame m #[(.ref a1), (.ref a2)] 2) s₁ (mkF m 0 #[rv a1, rv a2] []) := fun t k => castTop (by first | rfl | (simp [entryFrame, mkF, argsToLocals, Value.category]; done)) k
  have f101 := Keep.refl h0 [a1]
  obtain ⟨cl102, Ar102, q102, S102, N102z, H102, G102⟩ := (id V2)
  obtain ⟨_, _, ⟨T103, L103, k103, n103⟩, -, X103, ⟨Lc103, hQ103, l103, y103, z103⟩, st103⟩ := X0.specialBack hx (y := own_y3) rfl hown (own_m hZ hw 15) (own_m hZ hw 16) (own_m hZ hw 18) (by decide) (backOf (W := 0) (rmFU_1 l Z a0 hw [] a1 a2 k2 cs x0 h0 n0 Z0 F1 F2 E1 g1 V2 ne SC hcs SA SH SL O0 hC0 hU) hZ (own_i hw 18 rfl) (own_i hw 10 rfl) (by decide) (by decide)) (g := (mkF m 6 #[rv a1, rv a2] [.null, (.int 1), (.int 0), (.ref a2), (.ref a1)])) rfl (by rw [hml]; rfl) (Steps.refl _) (a := a1) (argsL := [(.ref a2), (.int 0), (.int 1), .null]) (rest := []) (lenOf pd_3 rfl) rfl (Nat.le_of_eq rfl) (hb hby d3_6) (fun _ _ => ⟨rfl, e0, own_le rfl, own_le rfl⟩)
  dsimp only [Pt.U, Pt.locs, Pt.cells, Pt.slots] at X103 l103 y103 z103 st103 hQ103
  subst l103 y103 z103
  obtain ⟨b104, x105, rfl, N103q, K103, f106, f107, f108, f109, f110, f111⟩ := hQ103
  have N103 := Fr.app N0 N103q
  have ne112 : a1 ≠ b104 := Nat.ne_of_lt (Nat.lt_of_lt_of_le F1.lt f110)
  have ne113 : a2 ≠ b104 := Nat.ne_of_lt (Nat.lt_of_lt_of_le V2.lt f110)
  have f114 := Nat.le_trans Z0 K103.1
  have f115 := V2.keep K103 (ninS (Ne.symm ne) nin0)
  have f116 := O0.keep K103 (allS g1 all0)
  have f117 := f101.trans K103 (allS (Or.inl (List.mem_of_getElem? (i := 0) rfl)) all0)
  have pre118 : own_P p e below s₁ (entryFrame m #[(.ref a1), (.ref a2)] 2) T103 (mkF m 9 #[rv a1, rv a2] []) := fun t k => pre0 t (by
    show Steps p.tables e below (s₁.setTop (mkF m 0 #[rv a1, rv a2] [])) t
    refine XS.aloadN X0.here hx rfl (hb hby d3_0) rfl rfl ?_
    refine XS.aloadN X0.here hx rfl (hb hby d3_1) rfl rfl ?_
    refine XS.iconst X0.here hx rfl (hb hby d3_2) ?_
    refine XS.aloadN X0.here hx rfl (hb hby d3_3) rfl rfl ?_
    refine X0.arraylength hx (by rw [e0]; exact Ar102.1) (State.isArrayOf_alike hZ.alike Ar102.2.1) (g := (mkF m 4 #[rv a1, rv a2] [(.ref a2), (.int 0), (.ref a2), (.ref a1)])) rfl rfl (hb hby d3_4) _ ?_
    rw [len_of S102 N102z]
    refine XS.aconstNull X0.here hx rfl (hb hby d3_5) ?_
    refine st103.trans ?_
    exact k)
  obtain ⟨fs, hr, hrun, hended, hW, hsame⟩ := X103.leave (v := none) (fun _ => rfl)
  refine ⟨_, _, pre118 _ ?_, hrun, hended, _, _, rfl, ?_, ⟨_, rfl⟩, hW, hsame.mono (by decide) (by decide)⟩
  · exact X103.returnOut hx Bd.returns (hb hby d3_9) hr
  · show QGU_1 Z a1 a2 k2 cs x0 h0 n0 _ T103.heap _
    exact ⟨b104, x105, rfl, N103, f117, f106, f107, f108, f109, f110, f111⟩
def QPc_2_0 (Z : State) (a1 : Addr) (p3 : Int32) (k1 : ClassId) (y0 y1 y2 y3 : Int32) (h0 : Heap) (n0 : Nat) (v : Option Value) (h : Heap) (L : List Loc) : Prop := v = none ∧ Fr n0 L ∧ Keep h0 h [a1] ∧ (Arv Z h a1 k1 .byte (4 : Int32) [(.int (own_b0 p3)), (.int (own_b1 p3)), (.int y2), (.int y3)] (.int 0))
theorem rmPc_2_0 (l : Launch) (Z : State) (a0 : Array Value) (hw : own_H Z a0) (ws : List Jvm.Cond) (a1 : Addr) (p3 : Int32) (k1 : ClassId) (y0 y1 y2 y3 : Int32) (h0 : Heap) (n0 : Nat) (Z0 : n0 ≤ h0.size) (V1 : Arv Z h0 a1 k1 .byte (4 : Int32) [(.int y0), (.int y1), (.int y2), (.int y3)] (.int 0)) (SA : Sta Z h0 "java/lang/StringUTF16" "$assertionsDisabled" "Z" (.int 1)) (SH : Sta Z h0 "java/lang/StringUTF16" "HI_BYTE_SHIFT" "I" (.int 0)) (SL : Sta Z h0 "java/lang/StringUTF16" "LO_BYTE_SHIFT" "I" (.int 8)) (g1 : n0 ≤ a1) :
    own_M l own_y19 jdk_52_method_4_code 3 none ws (own_R 0 0 0 0) Z h0 #[(.ref a1), (.int 0), (.int p3)] (QPc_2_0 Z a1 p3 k1 y0 y1 y2 y3 h0 n0) := by
  refine own_body (plainFor_of_name pn_java_lang_StringUTF16) fun p e s m below meth c s₁ Bd hx hby hml (hown : s.vm.findClass "java/lang/StringUTF16" = some m.cls) hnm X0 e0 hZ => ?_
  have N0 := Fr.nil n0
  have pre0 : own_P p e below s₁ (entryFrame m #[(.ref a1), (.int 0), (.int p3)] 3) s₁ (mkF m 0 #[rv a1, iv 0, iv p3] []) := fun t k => castTop (by first | rfl | (simp [entryFrame, mkF, argsToLocals, Value.category]; done)) k
  have f101 := Keep.refl h0 [a1]
  obtain ⟨T102, X102, e102, st102⟩ := getS2 X0 hx hZ hown (host := "") (Or.inl (own_i hw 99 rfl)) Via.refl e0 SA (g := (mkF m 0 #[rv a1, iv 0, iv p3] [])) rfl (hb hby d22_0)
  have pre103 : own_P p e below s₁ (entryFrame m #[(.ref a1), (.int 0), (.int p3)] 3) T102 (mkF m 31 #[rv a1, iv 0, iv p3] [(.int ((0 : Int32) <<< ((1 : Int32) &&& 31)))]) := fun t k => pre0 t (by
    show Steps p.tables e below (s₁.setTop (mkF m 0 #[rv a1, iv 0, iv p3] [])) t
    refine st102 _ ?_
    refine XS.ifYes X102.here hx rfl (pc0 := 3) (pc' := 28) rfl (hb hby d22_3) rfl ((if0 _ _).trans (feq (by decide : ¬ ((1 : Int32) = (0 : Int32)))).2) (by decide) (by decide) ?_
    refine XS.iloadN X102.here hx rfl (hb hby d22_28) rfl ?_
    refine XS.iconst X102.here hx rfl (hb hby d22_29) ?_
    refine XS.ishl X102.here hx rfl (hb hby d22_30) rfl ?_
    exact k)
  have pre104 : own_P p e below s₁ (entryFrame m #[(.ref a1), (.int 0), (.int p3)] 3) T102 (mkF m 31 #[rv a1, iv 0, iv p3] [(.int 0)]) := fun t k => pre103 t (by rw [show ((0 : Int32) <<< ((1 : Int32) &&& 31)) = (0 : Int32) from (by decide)]; exact k)
  obtain ⟨T105, X105, e105, st105⟩ := getS2 X102 hx hZ hown (host := "") (Or.inl (own_i hw 100 rfl)) Via.refl e102 SH (g := (mkF m 38 #[rv a1, iv 1, iv p3] [(.int p3), (.int 0), (.ref a1)])) rfl (hb hby d22_38)
  obtain ⟨cl106, Ar106, q106, S106, N106z, H106, G106⟩ := (id V1)
  have hin106 : ¬ ((0 : Int32) < 0 ∨ cl106.slots.size ≤ ((0 : Int32)).toNatClampNeg) := inb_of S106 ⟨by decide, by decide⟩
  obtain ⟨T106, h106, X106, e106, W106, st106⟩ := stB X105 hx hZ e105 Ar106 (j := (0 : Int32)) hin106 (g := (mkF m 43 #[rv a1, iv 1, iv p3] [(.int ((p3 >>> ((0 : Int32) &&& 31)).toInt8.toInt32)), (.int 0), (.ref a1)])) rfl rfl (hb hby d22_43)
  have V106 : Arv Z h106 a1 k1 .byte (4 : Int32) [(.int (nar .byte ((p3 >>> ((0 : Int32) &&& 31)).toInt8.toInt32))), (.int y1), (.int y2), (.int y3)] (.int 0) := Arv.set Ar106 q106 S106 N106z H106 G106 (fits_nar_byte _) W106 0 rfl (Nat.le_of_ble_eq_true rfl)
  have N106 := Fr.snoc X106 N0 g1
  have f107 := Nat.le_trans Z0 (Keep.of_wr W106).1
  have f108 := SA.wr W106
  have f109 := SH.wr W106
  have f110 := SL.wr W106
  have f111 := f101.wr W106 (Or.inl (List.mem_of_getElem? (i := 0) rfl))
  obtain ⟨T112, X112, e112, st112⟩ := getS2 X106 hx hZ hown (host := "") (Or.inl (own_i hw 101 rfl)) Via.refl e106 f110 (g := (mkF m 47 #[rv a1, iv 1, iv p3] [(.int p3), (.int 1), (.ref a1)])) rfl (hb hby d22_47)
  obtain ⟨cl113, Ar113, q113, S113, N113z, H113, G113⟩ := (id V106)
  have hin113 : ¬ ((1 : Int32) < 0 ∨ cl113.slots.size ≤ ((1 : Int32)).toNatClampNeg) := inb_of S113 ⟨by decide, by decide⟩
  obtain ⟨T113, h113, X113, e113, W113, st113⟩ := stB X112 hx hZ e112 Ar113 (j := (1 : Int32)) hin113 (g := (mkF m 52 #[rv a1, iv 1, iv p3] [(.int ((p3 >>> ((8 : Int32) &&& 31)).toInt8.toInt32)), (.int 1), (.ref a1)])) rfl rfl (hb hby d22_52)
  have V113 : Arv Z h113 a1 k1 .byte (4 : Int32) [(.int (nar .byte ((p3 >>> ((0 : Int32) &&& 31)).toInt8.toInt32))), (.int (nar .byte ((p3 >>> ((8 : Int32) &&& 31)).toInt8.toInt32))), (.int y2), (.int y3)] (.int 0) := Arv.set Ar113 q113 S113 N113z H113 G113 (fits_nar_byte _) W113 1 rfl (Nat.le_of_ble_eq_true rfl)
  have N113 := Fr.snoc X113 N106 g1
  have f114 := Nat.le_trans f107 (Keep.of_wr W113).1
  have f115 := f108.wr W113
  have f116 := f109.wr W113
  have f117 := f110.wr W113
  have f118 := f111.wr W113 (Or.inl (List.mem_of_getElem? (i := 0) rfl))
  have pre119 : own_P p e below s₁ (entryFrame m #[(.ref a1), (.int 0), (.int p3)] 3) T113 (mkF m 53 #[rv a1, iv 1, iv p3] []) := fun t k => pre104 t (by
    show Steps p.tables e below (T102.setTop (mkF m 31 #[rv a1, iv 0, iv p3] [(.int 0)])) t
    refine XS.istoreN X102.here hx rfl (hb hby d22_31) rfl (l' := #[rv a1, iv 0, iv p3]) rfl ?_
    refine XS.aloadN X102.here hx rfl (hb hby d22_32) rfl rfl ?_
    refine XS.iloadN X102.here hx rfl (hb hby d22_33) rfl ?_
    refine XS.iinc X102.here hx rfl (hb hby d22_34) rfl (l' := #[rv a1, iv 1, iv p3]) rfl ?_
    refine XS.iloadN X102.here hx rfl (hb hby d22_37) rfl ?_
    refine st105 _ ?_
    refine XS.ishr X105.here hx rfl (hb hby d22_41) rfl ?_
    refine XS.i2b X105.here hx rfl (hb hby d22_42) rfl ?_
    refine st106 _ ?_
    refine XS.aloadN X106.here hx rfl (hb hby d22_44) rfl rfl ?_
    refine XS.iloadN X106.here hx rfl (hb hby d22_45) rfl ?_
    refine XS.iloadN X106.here hx rfl (hb hby d22_46) rfl ?_
    refine st112 _ ?_
    refine XS.ishr X112.here hx rfl (hb hby d22_50) rfl ?_
    refine XS.i2b X112.here hx rfl (hb hby d22_51) rfl ?_
    refine st113 _ ?_
    exact k)
  obtain ⟨fs, hr, hrun, hended, hW, hsame⟩ := X113.leave (v := none) (fun _ => rfl)
  refine ⟨_, _, pre119 _ ?_, hrun, hended, _, _, rfl, ?_, ⟨_, rfl⟩, hW, hsame.mono (by decide) (by decide)⟩
  · exact X113.returnOut hx Bd.returns (hb hby d22_53) hr
  · show QPc_2_0 Z a1 p3 k1 y0 y1 y2 y3 h0 n0 _ T113.heap _
    rw [e113]
    exact ⟨rfl, N113, f118, V113⟩
def QPc_2_1 (Z : State) (a1 : Addr) (p3 : Int32) (k1 : ClassId) (y0 y1 y2 y3 : Int32) (h0 : Heap) (n0 : Nat) (v : Option Value) (h : Heap) (L : List Loc) : Prop := v = none ∧ Fr n0 L ∧ Keep h0 h [a1] ∧ (Arv Z h a1 k1 .byte (4 : Int32) [(.int y0), (.int y1), (.int (own_b0 p3)), (.int (own_b1 p3))] (.int 0))
theorem rmPc_2_1 (l : Launch) (Z : State) (a0 : Array Value) (hw : own_H Z a0) (ws : List Jvm.Cond) (a1 : Addr) (p3 : Int32) (k1 : ClassId) (y0 y1 y2 y3 : Int32) (h0 : Heap) (n0 : Nat) (Z0 : n0 ≤ h0.size) (V1 : Arv Z h0 a1 k1 .byte (4 : Int32) [(.int y0), (.int y1), (.int y2), (.int y3)] (.int 0)) (SA : Sta Z h0 "java/lang/StringUTF16" "$assertionsDisabled" "Z" (.int 1)) (SH : Sta Z h0 "java/lang/StringUTF16" "HI_BYTE_SHIFT" "I" (.int 0)) (SL : Sta Z h0 "java/lang/StringUTF16" "LO_BYTE_SHIFT" "I" (.int 8)) (g1 : n0 ≤ a1) :
    own_M l own_y19 jdk_52_method_4_code 3 none ws (own_R 0 0 0 0) Z h0 #[(.ref a1), (.int 1), (.int p3)] (QPc_2_1 Z a1 p3 k1 y0 y1 y2 y3 h0 n0) := by
  refine own_body (plainFor_of_name pn_java_lang_StringUTF16) fun p e s m below meth c s₁ Bd hx hby hml (hown : s.vm.findClass "java/lang/StringUTF16" = some m.cls) hnm X0 e0 hZ => ?_
  have N0 := Fr.nil n0
  have pre0 : own_P p e below s₁ (entryFrame m #[(.ref a1), (.int 1), (.int p3)] 3) s₁ (mkF m 0 #[rv a1, iv 1, iv p3] []) := fun t k => castTop (by first | rfl | (simp [entryFrame, mkF, argsToLocals, Value.category]; done)) k
  have f101 := Keep.refl h0 [a1]
  obtain ⟨T102, X102, e102, st102⟩ := getS2 X0 hx hZ hown (host := "") (Or.inl (own_i hw 99 rfl)) Via.refl e0 SA (g := (mkF m 0 #[rv a1, iv 1, iv p3] [])) rfl (hb hby d22_0)
  have pre103 : own_P p e below s₁ (entryFrame m #[(.ref a1), (.int 1), (.int p3)] 3) T102 (mkF m 31 #[rv a1, iv 1, iv p3] [(.int ((1 : Int32) <<< ((1 : Int32) &&& 31)))]) := fun t k => pre0 t (by
    show Steps p.tables e below (s₁.setTop (mkF m 0 #[rv a1, iv 1, iv p3] [])) t
    refine st102 _ ?_
    refine XS.ifYes X102.here hx rfl (pc0 := 3) (pc' := 28) rfl (hb hby d22_3) rfl ((if0 _ _).trans (feq (by decide : ¬ ((1 : Int32) = (0 : Int32)))).2) (by decide) (by decide) ?_
    refine XS.iloadN X102.here hx rfl (hb hby d22_28) rfl ?_
    refine XS.iconst X102.here hx rfl (hb hby d22_29) ?_
    refine XS.ishl X102.here hx rfl (hb hby d22_30) rfl ?_
    exact k)
  have pre104 : own_P p e below s₁ (entryFrame m #[(.ref a1), (.int 1), (.int p3)] 3) T102 (mkF m 31 #[rv a1, iv 1, iv p3] [(.int 2)]) := fun t k => pre103 t (by rw [show ((1 : Int32) <<< ((1 : Int32) &&& 31)) = (2 : Int32) from (by decide)]; exact k)
  obtain ⟨T105, X105, e105, st105⟩ := getS2 X102 hx hZ hown (host := "") (Or.inl (own_i hw 100 rfl)) Via.refl e102 SH (g := (mkF m 38 #[rv a1, iv 3, iv p3] [(.int p3), (.int 2), (.ref a1)])) rfl (hb hby d22_38)
  obtain ⟨cl106, Ar106, q106, S106, N106z, H106, G106⟩ := (id V1)
  have hin106 : ¬ ((2 : Int32) < 0 ∨ cl106.slots.size ≤ ((2 : Int32)).toNatClampNeg) := inb_of S106 ⟨by decide, by decide⟩
  obtain ⟨T106, h106, X106, e106, W106, st106⟩ := stB X105 hx hZ e105 Ar106 (j := (2 : Int32)) hin106 (g := (mkF m 43 #[rv a1, iv 3, iv p3] [(.int ((p3 >>> ((0 : Int32) &&& 31)).toInt8.toInt32)), (.int 2), (.ref a1)])) rfl rfl (hb hby d22_43)
  have V106 : Arv Z h106 a1 k1 .byte (4 : Int32) [(.int y0), (.int y1), (.int (nar .byte ((p3 >>> ((0 : Int32) &&& 31)).toInt8.toInt32))), (.int y3)] (.int 0) := Arv.set Ar106 q106 S106 N106z H106 G106 (fits_nar_byte _) W106 2 rfl (Nat.le_of_ble_eq_true rfl)
  have N106 := Fr.snoc X106 N0 g1
  have f107 := Nat.le_trans Z0 (Keep.of_wr W106).1
  have f108 := SA.wr W106
  have f109 := SH.wr W106
  have f110 := SL.wr W106
  have f111 := f101.wr W106 (Or.inl (List.mem_of_getElem? (i := 0) rfl))
  obtain ⟨T112, X112, e112, st112⟩ := getS2 X106 hx hZ hown (host := "") (Or.inl (own_i hw 101 rfl)) Via.refl e106 f110 (g := (mkF m 47 #[rv a1, iv 3, iv p3] [(.int p3), (.int 3), (.ref a1)])) rfl (hb hby d22_47)
  obtain ⟨cl113, Ar113, q113, S113, N113z, H113, G113⟩ := (id V106)
  have hin113 : ¬ ((3 : Int32) < 0 ∨ cl113.slots.size ≤ ((3 : Int32)).toNatClampNeg) := inb_of S113 ⟨by decide, by decide⟩
  obtain ⟨T113, h113, X113, e113, W113, st113⟩ := stB X112 hx hZ e112 Ar113 (j := (3 : Int32)) hin113 (g := (mkF m 52 #[rv a1, iv 3, iv p3] [(.int ((p3 >>> ((8 : Int32) &&& 31)).toInt8.toInt32)), (.int 3), (.ref a1)])) rfl rfl (hb hby d22_52)
  have V113 : Arv Z h113 a1 k1 .byte (4 : Int32) [(.int y0), (.int y1), (.int (nar .byte ((p3 >>> ((0 : Int32) &&& 31)).toInt8.toInt32))), (.int (nar .byte ((p3 >>> ((8 : Int32) &&& 31)).toInt8.toInt32)))] (.int 0) := Arv.set Ar113 q113 S113 N113z H113 G113 (fits_nar_byte _) W113 3 rfl (Nat.le_of_ble_eq_true rfl)
  have N113 := Fr.snoc X113 N106 g1
  have f114 := Nat.le_trans f107 (Keep.of_wr W113).1
  have f115 := f108.wr W113
  have f116 := f109.wr W113
  have f117 := f110.wr W113
  have f118 := f111.wr W113 (Or.inl (List.mem_of_getElem? (i := 0) rfl))
  have pre119 : own_P p e below s₁ (entryFrame m #[(.ref a1), (.int 1), (.int p3)] 3) T113 (mkF m 53 #[rv a1, iv 3, iv p3] []) := fun t k => pre104 t (by
    show Steps p.tables e below (T102.setTop (mkF m 31 #[rv a1, iv 1, iv p3] [(.int 2)])) t
    refine XS.istoreN X102.here hx rfl (hb hby d22_31) rfl (l' := #[rv a1, iv 2, iv p3]) rfl ?_
    refine XS.aloadN X102.here hx rfl (hb hby d22_32) rfl rfl ?_
    refine XS.iloadN X102.here hx rfl (hb hby d22_33) rfl ?_
    refine XS.iinc X102.here hx rfl (hb hby d22_34) rfl (l' := #[rv a1, iv 3, iv p3]) rfl ?_
    refine XS.iloadN X102.here hx rfl (hb hby d22_37) rfl ?_
    refine st105 _ ?_
    refine XS.ishr X105.here hx rfl (hb hby d22_41) rfl ?_
    refine XS.i2b X105.here hx rfl (hb hby d22_42) rfl ?_
    refine st106 _ ?_
    refine XS.aloadN X106.here hx rfl (hb hby d22_44) rfl rfl ?_
    refine XS.iloadN X106.here hx rfl (hb hby d22_45) rfl ?_
    refine XS.iloadN X106.here hx rfl (hb hby d22_46) rfl ?_
    refine st112 _ ?_
    refine XS.ishr X112.here hx rfl (hb hby d22_50) rfl ?_
    refine XS.i2b X112.here hx rfl (hb hby d22_51) rfl ?_
    refine st113 _ ?_
    exact k)
  obtain ⟨fs, hr, hrun, hended, hW, hsame⟩ := X113.leave (v := none) (fun _ => rfl)
  refine ⟨_, _, pre119 _ ?_, hrun, hended, _, _, rfl, ?_, ⟨_, rfl⟩, hW, hsame.mono (by decide) (by decide)⟩
  · exact X113.returnOut hx Bd.returns (hb hby d22_53) hr
  · show QPc_2_1 Z a1 p3 k1 y0 y1 y2 y3 h0 n0 _ T113.heap _
    rw [e113]
    exact ⟨rfl, N113, f118, V113⟩
def QNl_2 (Z : State)  (h0 : Heap) (n0 : Nat) (v : Option Value) (h : Heap) (L : List Loc) : Prop := v = some (.int 4) ∧ Fr n0 L ∧ h = h0
theorem rmNl_2 (l : Launch) (Z : State) (a0 : Array Value) (hw : own_H Z a0) (ws : List Jvm.Cond)  (h0 : Heap) (n0 : Nat) (Z0 : n0 ≤ h0.size) :
    own_M l own_y20 jdk_52_method_3_code 1 (some .int) ws (own_R 0 0 0 0) Z h0 #[(.int 2)] (QNl_2 Z h0 n0) := by
  refine own_body (plainFor_of_name pn_java_lang_StringUTF16) fun p e s m below meth c s₁ Bd hx hby hml (hown : s.vm.findClass "java/lang/StringUTF16" = some m.cls) hnm X0 e0 hZ => ?_
  have N0 := Fr.nil n0
  have pre0 : own_P p e below s₁ (entryFrame m #[(.int 2)] 1) s₁ (mkF m 0 #[iv 2] []) := fun t k => castTop (by first | rfl | (simp [entryFrame, mkF, argsToLocals, Value.category]; done)) k
  have pre101 : own_P p e below s₁ (entryFrame m #[(.int 2)] 1) s₁ (mkF m 58 #[iv 2] [(.int ((2 : Int32) <<< ((1 : Int32) &&& 31)))]) := fun t k => pre0 t (by
    show Steps p.tables e below (s₁.setTop (mkF m 0 #[iv 2] [])) t
    refine XS.iloadN X0.here hx rfl (hb hby d21_0) rfl ?_
    refine XS.ifYes X0.here hx rfl (pc0 := 1) (pc' := 12) rfl (hb hby d21_1) rfl ((if0 _ _).trans (flt (by decide : ¬ ((2 : Int32) < (0 : Int32)))).2.1) (by decide) (by decide) ?_
    refine XS.iloadN X0.here hx rfl (hb hby d21_12) rfl ?_
    refine X0.ldcInt hx hown (own_m hZ hw 95) (g := (mkF m 13 #[iv 2] [(.int 2)])) rfl (hb hby d21_13) _ ?_
    refine XS.icmpYes X0.here hx rfl (pc0 := 15) (pc' := 55) rfl (hb hby d21_15) rfl (tlt (by decide : (2 : Int32) < (1073741823 : Int32))).1 (by decide) (by decide) ?_
    refine XS.iloadN X0.here hx rfl (hb hby d21_55) rfl ?_
    refine XS.iconst X0.here hx rfl (hb hby d21_56) ?_
    refine XS.ishl X0.here hx rfl (hb hby d21_57) rfl ?_
    exact k)
  have pre102 : own_P p e below s₁ (entryFrame m #[(.int 2)] 1) s₁ (mkF m 58 #[iv 2] [(.int 4)]) := fun t k => pre101 t (by rw [show ((2 : Int32) <<< ((1 : Int32) &&& 31)) = (4 : Int32) from (by decide)]; exact k)
  obtain ⟨fs, hr, hrun, hended, hW, hsame⟩ := X0.leave (v := some (.int 4)) (fun h => by rw [Bd.returns] at h; cases h)
  refine ⟨_, _, pre102 _ ?_, hrun, hended, _, _, rfl, ?_, ⟨_, rfl⟩, hW, hsame.mono (by decide) (by decide)⟩
  · exact retI X0 hx Bd.returns (hb hby d21_58) hr
  · show QNl_2 Z h0 n0 _ s₁.heap _
    rw [e0]
    exact ⟨rfl, N0, rfl⟩
def QNf_2 (Z : State)  (h0 : Heap) (n0 : Nat) (v : Option Value) (h : Heap) (L : List Loc) : Prop := ∃ (b : Addr) (kb : ClassId), v = some (.ref b) ∧ Fr n0 L ∧ Keep h0 h [] ∧ (n0 ≤ b) ∧ (h0.size ≤ b) ∧ (Arv Z h b kb .byte (4 : Int32) [(.int 0), (.int 0), (.int 0), (.int 0)] (.int 0))
theorem rmNf_2 (l : Launch) (Z : State) (a0 : Array Value) (hw : own_H Z a0) (ws : List Jvm.Cond)  (h0 : Heap) (n0 : Nat) (Z0 : n0 ≤ h0.size) :
    own_M l own_y21 jdk_52_method_2_code 1 (some (.array .byte)) ws (own_R 1 1 4 12) Z h0 #[(.int 2)] (QNf_2 Z h0 n0) := by
  refine own_body (plainFor_of_name pn_java_lang_StringUTF16) fun p e s m below meth c s₁ Bd hx hby hml (hown : s.vm.findClass "java/lang/StringUTF16" = some m.cls) hnm X0 e0 hZ => ?_
  have N0 := Fr.nil n0
  have pre0 : own_P p e below s₁ (entryFrame m #[(.int 2)] 1) s₁ (mkF m 0 #[iv 2] []) := fun t k => castTop (by first | rfl | (simp [entryFrame, mkF, argsToLocals, Value.category]; done)) k
  have f101 := Keep.refl h0 []
  obtain ⟨_, _, ⟨T102, L102, k102, n102⟩, -, X102, ⟨Lc102, hQ102, l102, y102, z102⟩, st102⟩ := Jvm.LawKit.callS X0 hx (y := own_y20) hown (own_m hZ hw 92) (own_m hZ hw 93) (own_m hZ hw 42) (own_m hZ hw 94) (by decide) (backOf (W := 0) (rmNl_2 l Z a0 hw []  h0 n0 Z0 ) hZ (own_i hw 94 rfl) (own_i hw 42 rfl) (by decide) (by decide)) (g := (mkF m 1 #[iv 2] [(.int 2)])) rfl (by rw [hml]; rfl) (argsL := [(.int 2)]) (rest := []) (lenOf pd_11 rfl) rfl (Nat.le_of_eq rfl) (hb hby d20_1) (fun _ _ => ⟨rfl, e0, own_le rfl, own_le rfl⟩)
  dsimp only [Pt.U, Pt.locs, Pt.cells, Pt.slots] at X102 l102 y102 z102 st102 hQ102
  subst l102 y102 z102
  obtain ⟨rfl, N102q, e102⟩ := hQ102
  have N102 := Fr.app N0 N102q
  obtain ⟨T103, h103, k103, X103, e103, E103, A103, st103⟩ := newP X102 hx hZ (own_i hw 23 rfl) e102 (g := (mkF m 4 #[iv 2] [(.int 4)])) rfl (hb hby d20_4) rfl (by decide) (cap := 4) (by decide) (by decide) (by decide) (by decide)
  obtain ⟨b103, g103⟩ : ∃ z, z = h0.size := ⟨_, rfl⟩
  rw [← g103] at A103 st103
  have ga104 : n0 ≤ b103 := Nat.le_trans Z0 (Nat.le_of_eq g103.symm)
  have sz105 : h0.size ≤ b103 := Nat.le_trans f101.1 (Nat.le_of_eq g103.symm)
  have V103 : Arv Z h103 b103 k103 .byte (4 : Int32) [(.int 0), (.int 0), (.int 0), (.int 0)] (.int 0) := (Arv.new A103 (by decide)).pad (pad_rep [] (.int 0) 4)
  have f106 := Nat.le_trans Z0 E103.1
  have f107 := f101.ext E103
  have pre108 : own_P p e below s₁ (entryFrame m #[(.int 2)] 1) T103 (mkF m 6 #[iv 2] [(.ref b103)]) := fun t k => pre0 t (by
    show Steps p.tables e below (s₁.setTop (mkF m 0 #[iv 2] [])) t
    refine XS.iloadN X0.here hx rfl (hb hby d20_0) rfl ?_
    refine st102 _ ?_
    refine st103 _ ?_
    exact k)
  obtain ⟨fs, hr, hrun, hended, hW, hsame⟩ := X103.leave (v := some (.ref b103)) (fun h => by rw [Bd.returns] at h; cases h)
  refine ⟨_, _, pre108 _ ?_, hrun, hended, _, _, rfl, ?_, ⟨_, rfl⟩, hW, hsame.mono (by decide) (by decide)⟩
  · exact retOut X103 hx Bd.returns rfl (Or.inr (Or.inr (Or.inr (Or.inr ⟨rfl, rfl, rfl⟩)))) (hb hby d20_6) hr
  · show QNf_2 Z h0 n0 _ T103.heap _
    rw [e103]
    exact ⟨b103, k103, rfl, N102, f107, ga104, sz105, V103⟩
def QTb_2 (Z : State) (a1 : Addr) (k1 : ClassId) (x0 x1 : Int32) (h0 : Heap) (n0 : Nat) (v : Option Value) (h : Heap) (L : List Loc) : Prop := ∃ (b : Addr) (kb : ClassId), v = some (.ref b) ∧ Fr n0 L ∧ Keep h0 h [] ∧ (n0 ≤ b) ∧ (h0.size ≤ b) ∧ (Arv Z h b kb .byte (4 : Int32) [(.int (own_b0 x0)), (.int (own_b1 x0)), (.int (own_b0 x1)), (.int (own_b1 x1))] (.int 0))
theorem rmTb_2 (l : Launch) (Z : State) (a0 : Array Value) (hw : own_H Z a0) (ws : List Jvm.Cond) (a1 : Addr) (k1 : ClassId) (x0 x1 : Int32) (h0 : Heap) (n0 : Nat) (Z0 : n0 ≤ h0.size) (V1 : Arv Z h0 a1 k1 .char (2 : Int32) [(.int x0), (.int x1)] (.int 0)) (SA : Sta Z Z.heap "java/lang/StringUTF16" "$assertionsDisabled" "Z" (.int 1)) (SH : Sta Z Z.heap "java/lang/StringUTF16" "HI_BYTE_SHIFT" "I" (.int 0)) (SL : Sta Z Z.heap "java/lang/StringUTF16" "LO_BYTE_SHIFT" "I" (.int 8)) (O0 : Old Z n0 h0) :
    own_M l own_y22 jdk_52_method_14_code 5 (some (.array .byte)) ws (own_R 2 1 4 24) Z h0 #[(.ref a1), (.int 0), (.int 2)] (QTb_2 Z a1 k1 x0 x1 h0 n0) := by
  refine own_body (plainFor_of_name pn_java_lang_StringUTF16) fun p e s m below meth c s₁ Bd hx hby hml (hown : s.vm.findClass "java/lang/StringUTF16" = some m.cls) hnm X0 e0 hZ => ?_
  have N0 := Fr.nil n0
  have pre0 : own_P p e below s₁ (entryFrame m #[(.ref a1), (.int 0), (.int 2)] 5) s₁ (mkF m 0 #[rv a1, iv 0, iv 2, .unset, .unset] []) := fun t k => castTop (by first | rfl | (simp [entryFrame, mkF, argsToLocals, Value.category]; done)) k
  have f101 := Keep.refl h0 []
  obtain ⟨_, _, ⟨T102, L102, k102, n102⟩, -, X102, ⟨Lc102, hQ102, l102, y102, z102⟩, st102⟩ := Jvm.LawKit.callS X0 hx (y := own_y21) hown (own_m hZ hw 89) (own_m hZ hw 90) (own_m hZ hw 42) (own_m hZ hw 91) (by decide) (backOf (W := 0) (rmNf_2 l Z a0 hw []  h0 n0 Z0 ) hZ (own_i hw 91 rfl) (own_i hw 42 rfl) (by decide) (by decide)) (g := (mkF m 1 #[rv a1, iv 0, iv 2, .unset, .unset] [(.int 2)])) rfl (by rw [hml]; rfl) (argsL := [(.int 2)]) (rest := []) (lenOf pd_12 rfl) rfl (Nat.le_of_eq rfl) (hb hby d19_1) (fun _ _ => ⟨rfl, e0, own_le rfl, own_le rfl⟩)
  dsimp only [Pt.U, Pt.locs, Pt.cells, Pt.slots] at X102 l102 y102 z102 st102 hQ102
  subst l102 y102 z102
  obtain ⟨b103, x104, rfl, N102q, K102, f105, f106, f107⟩ := hQ102
  have N102 := Fr.app N0 N102q
  have ne108 : a1 ≠ b103 := Nat.ne_of_lt (Nat.lt_of_lt_of_le V1.lt f106)
  have f109 := Nat.le_trans Z0 K102.1
  have f110 := V1.keep K102 nin0
  have f111 := O0.keep K102 all0
  have f112 := f101.trans K102 all0
  obtain ⟨cl113, Ar113, q113, S113, N113z, H113, G113⟩ := (id f110)
  have hin113 : ¬ ((0 : Int32) < 0 ∨ cl113.slots.size ≤ ((0 : Int32)).toNatClampNeg) := inb_of S113 ⟨by decide, by decide⟩
  have hat113 : cl113.slots[((0 : Int32)).toNatClampNeg]? = some (.int x0) := Has.at H113 hin113 rfl
  obtain ⟨_, _, ⟨T114, L114, k114, n114⟩, -, X114, ⟨Lc114, hQ114, l114, y114, z114⟩, st114⟩ := Jvm.LawKit.callS X102 hx (y := own_y19) hown (own_m hZ hw 96) (own_m hZ hw 97) (own_m hZ hw 42) (own_m hZ hw 98) (by decide) (backOf (W := 0) (rmPc_2_0 l Z a0 hw [] b103 x0 x104 (0 : Int32) (0 : Int32) (0 : Int32) (0 : Int32) T102.heap n0 f109 f107 (SA.ext f111.2) (SH.ext f111.2) (SL.ext f111.2) f105) hZ (own_i hw 98 rfl) (own_i hw 42 rfl) (by decide) (by decide)) (g := (mkF m 20 #[rv a1, iv 0, iv 2, rv b103, iv 0] [(.int x0), (.int 0), (.ref b103)])) rfl (by rw [hml]; rfl) (argsL := [(.ref b103), (.int 0), (.int x0)]) (rest := []) (lenOf pd_13 rfl) rfl (Nat.le_of_eq rfl) (hb hby d19_20) (fun _ _ => ⟨rfl, rfl, own_le rfl, own_le rfl⟩)
  dsimp only [Pt.U, Pt.locs, Pt.cells, Pt.slots] at X114 l114 y114 z114 st114 hQ114
  subst l114 y114 z114
  obtain ⟨rfl, N114q, K114, f115⟩ := hQ114
  have N114 := Fr.app N102 N114q
  have f116 := Nat.le_trans f109 K114.1
  have f117 := f110.keep K114 (ninS ne108 nin0)
  have f118 := f111.keep K114 (allS f105 all0)
  have f119 := f112.trans K114 (allS (Or.inr f106) all0)
  obtain ⟨cl120, Ar120, q120, S120, N120z, H120, G120⟩ := (id f117)
  have hin120 : ¬ ((1 : Int32) < 0 ∨ cl120.slots.size ≤ ((1 : Int32)).toNatClampNeg) := inb_of S120 ⟨by decide, by decide⟩
  have hat120 : cl120.slots[((1 : Int32)).toNatClampNeg]? = some (.int x1) := Has.at H120 hin120 rfl
  obtain ⟨_, _, ⟨T121, L121, k121, n121⟩, -, X121, ⟨Lc121, hQ121, l121, y121, z121⟩, st121⟩ := Jvm.LawKit.callS X114 hx (y := own_y19) hown (own_m hZ hw 96) (own_m hZ hw 97) (own_m hZ hw 42) (own_m hZ hw 98) (by decide) (backOf (W := 0) (rmPc_2_1 l Z a0 hw [] b103 x1 x104 (own_b0 x0) (own_b1 x0) (0 : Int32) (0 : Int32) T114.heap n0 f116 f115 (SA.ext f118.2) (SH.ext f118.2) (SL.ext f118.2) f105) hZ (own_i hw 98 rfl) (own_i hw 42 rfl) (by decide) (by decide)) (g := (mkF m 20 #[rv a1, iv 1, iv 2, rv b103, iv 1] [(.int x1), (.int 1), (.ref b103)])) rfl (by rw [hml]; rfl) (argsL := [(.ref b103), (.int 1), (.int x1)]) (rest := []) (lenOf pd_13 rfl) rfl (Nat.le_of_eq rfl) (hb hby d19_20) (fun _ _ => ⟨rfl, rfl, own_le rfl, own_le rfl⟩)
  dsimp only [Pt.U, Pt.locs, Pt.cells, Pt.slots] at X121 l121 y121 z121 st121 hQ121
  subst l121 y121 z121
  obtain ⟨rfl, N121q, K121, f122⟩ := hQ121
  have N121 := Fr.app N114 N121q
  have f123 := Nat.le_trans f116 K121.1
  have f124 := f117.keep K121 (ninS ne108 nin0)
  have f125 := f118.keep K121 (allS f105 all0)
  have f126 := f119.trans K121 (allS (Or.inr f106) all0)
  have pre127 : own_P p e below s₁ (entryFrame m #[(.ref a1), (.int 0), (.int 2)] 5) T121 (mkF m 33 #[rv a1, iv 2, iv 2, rv b103, iv 2] [(.ref b103)]) := fun t k => pre0 t (by
    show Steps p.tables e below (s₁.setTop (mkF m 0 #[rv a1, iv 0, iv 2, .unset, .unset] [])) t
    refine XS.iloadN X0.here hx rfl (hb hby d19_0) rfl ?_
    refine st102 _ ?_
    refine XS.astoreN X102.here hx rfl (hb hby d19_4) rfl rfl (l' := #[rv a1, iv 0, iv 2, rv b103, .unset]) rfl ?_
    refine XS.iconst X102.here hx rfl (hb hby d19_5) ?_
    refine XS.istore X102.here hx rfl (hb hby d19_6) rfl (l' := #[rv a1, iv 0, iv 2, rv b103, iv 0]) rfl ?_
    refine XS.iload X102.here hx rfl (hb hby d19_8) rfl ?_
    refine XS.iloadN X102.here hx rfl (hb hby d19_10) rfl ?_
    refine XS.icmpNo X102.here hx rfl (hb hby d19_11) rfl (tlt (by decide : (0 : Int32) < (2 : Int32))).2.1 ?_
    refine XS.aloadN X102.here hx rfl (hb hby d19_14) rfl rfl ?_
    refine XS.iload X102.here hx rfl (hb hby d19_15) rfl ?_
    refine XS.aloadN X102.here hx rfl (hb hby d19_17) rfl rfl ?_
    refine XS.iloadN X102.here hx rfl (hb hby d19_18) rfl ?_
    refine X102.caload hx (j := (0 : Int32)) (v := (.int x0)) Ar113.1 (State.isArrayOf_alike hZ.alike Ar113.2.1) Ar113.2.2 hin113 hat113 (g := (mkF m 19 #[rv a1, iv 0, iv 2, rv b103, iv 0] [(.int 0), (.ref a1), (.int 0), (.ref b103)])) rfl rfl (hb hby d19_19) _ ?_
    refine st114 _ ?_
    refine XS.iinc X114.here hx rfl (hb hby d19_23) rfl (l' := #[rv a1, iv 1, iv 2, rv b103, iv 0]) rfl ?_
    refine XS.iinc X114.here hx rfl (hb hby d19_26) rfl (l' := #[rv a1, iv 1, iv 2, rv b103, iv 1]) rfl ?_
    refine XS.goto X114.here hx rfl (pc0 := 29) (pc' := 8) rfl (hb hby d19_29) (by decide) (by decide) ?_
    refine XS.iload X114.here hx rfl (hb hby d19_8) rfl ?_
    refine XS.iloadN X114.here hx rfl (hb hby d19_10) rfl ?_
    refine XS.icmpNo X114.here hx rfl (hb hby d19_11) rfl (tlt (by decide : (1 : Int32) < (2 : Int32))).2.1 ?_
    refine XS.aloadN X114.here hx rfl (hb hby d19_14) rfl rfl ?_
    refine XS.iload X114.here hx rfl (hb hby d19_15) rfl ?_
    refine XS.aloadN X114.here hx rfl (hb hby d19_17) rfl rfl ?_
    refine XS.iloadN X114.here hx rfl (hb hby d19_18) rfl ?_
    refine X114.caload hx (j := (1 : Int32)) (v := (.int x1)) Ar120.1 (State.isArrayOf_alike hZ.alike Ar120.2.1) Ar120.2.2 hin120 hat120 (g := (mkF m 19 #[rv a1, iv 1, iv 2, rv b103, iv 1] [(.int 1), (.ref a1), (.int 1), (.ref b103)])) rfl rfl (hb hby d19_19) _ ?_
    refine st121 _ ?_
    refine XS.iinc X121.here hx rfl (hb hby d19_23) rfl (l' := #[rv a1, iv 2, iv 2, rv b103, iv 1]) rfl ?_
    refine XS.iinc X121.here hx rfl (hb hby d19_26) rfl (l' := #[rv a1, iv 2, iv 2, rv b103, iv 2]) rfl ?_
    refine XS.goto X121.here hx rfl (pc0 := 29) (pc' := 8) rfl (hb hby d19_29) (by decide) (by decide) ?_
    refine XS.iload X121.here hx rfl (hb hby d19_8) rfl ?_
    refine XS.iloadN X121.here hx rfl (hb hby d19_10) rfl ?_
    refine XS.icmpYes X121.here hx rfl (pc0 := 11) (pc' := 32) rfl (hb hby d19_11) rfl (flt (by decide : ¬ ((2 : Int32) < (2 : Int32)))).2.1 (by decide) (by decide) ?_
    refine XS.aloadN X121.here hx rfl (hb hby d19_32) rfl rfl ?_
    exact k)
  obtain ⟨fs, hr, hrun, hended, hW, hsame⟩ := X121.leave (v := some (.ref b103)) (fun h => by rw [Bd.returns] at h; cases h)
  refine ⟨_, _, pre127 _ ?_, hrun, hended, _, _, rfl, ?_, ⟨_, rfl⟩, hW, hsame.mono (by decide) (by decide)⟩
  · exact retOut X121 hx Bd.returns rfl (Or.inr (Or.inr (Or.inr (Or.inr ⟨rfl, rfl, rfl⟩)))) (hb hby d19_33) hr
  · show QTb_2 Z a1 k1 x0 x1 h0 n0 _ T121.heap _
    exact ⟨b103, x104, rfl, N121, f126, f105, f106, f122⟩
def QCU_2 (Z : State) (a1 a3 : Addr) (k1 k3 : ClassId) (x0 x1 : Int32) (h0 : Heap) (n0 : Nat) (v : Option Value) (h : Heap) (L : List Loc) : Prop := ∃ (r : Int32), v = some (.int r) ∧ Fr n0 L ∧ Keep h0 h [a3] ∧ ((r = (0 : Int32) ∧ (255 : Int32) < x0) ∨ (r = (1 : Int32) ∧ (255 : Int32) < x1))
theorem rmCU_2 (l : Launch) (Z : State) (a0 : Array Value) (hw : own_H Z a0) (ws : List Jvm.Cond) (a1 a3 : Addr) (k1 k3 : ClassId) (x0 x1 : Int32) (h0 : Heap) (n0 : Nat) (Z0 : n0 ≤ h0.size) (V1 : Arv Z h0 a1 k1 .char (2 : Int32) [(.int x0), (.int x1)] (.int 0)) (V3 : Arv Z h0 a3 k3 .byte (2 : Int32) [(.int 0), (.int 0)] (.int 0)) (g3 : n0 ≤ a3) (ne : a1 ≠ a3) (hU : ¬ ((¬ ((255 : Int32) < x0)) ∧ (¬ ((255 : Int32) < x1)))) :
    own_M l own_y0 jdk_52_method_21_code 7 (some .int) ws (own_R 0 0 0 0) Z h0 #[(.ref a1), (.int 0), (.ref a3), (.int 0), (.int 2)] (QCU_2 Z a1 a3 k1 k3 x0 x1 h0 n0) := by
  refine own_body (plainFor_of_name pn_java_lang_StringUTF16) fun p e s m below meth c s₁ Bd hx hby hml (hown : s.vm.findClass "java/lang/StringUTF16" = some m.cls) hnm X0 e0 hZ => ?_
  have N0 := Fr.nil n0
  have pre0 : own_P p e below s₁ (entryFrame m #[(.ref a1), (.int 0), (.ref a3), (.int 0), (.int 2)] 7) s₁ (mkF m 0 #[rv a1, iv 0, rv a3, iv 0, iv 2, .unset, .unset] []) := fun t k => castTop (by first | rfl | (simp [entryFrame, mkF, argsToLocals, Value.category]; done)) k
  have f101 := Keep.refl h0 [a3]
  obtain ⟨cl102, Ar102, q102, S102, N102z, H102, G102⟩ := (id V1)
  have hin102 : ¬ ((0 : Int32) < 0 ∨ cl102.slots.size ≤ ((0 : Int32)).toNatClampNeg) := inb_of S102 ⟨by decide, by decide⟩
  have hat102 : cl102.slots[((0 : Int32)).toNatClampNeg]? = some (.int x0) := Has.at H102 hin102 rfl
  have pre104 : own_P p e below s₁ (entryFrame m #[(.ref a1), (.int 0), (.ref a3), (.int 0), (.int 2)] 7) s₁ (mkF m 20 #[rv a1, iv 0, rv a3, iv 0, iv 2, iv 0, iv x0] [(.int 255), (.int x0)]) := fun t k => pre0 t (by
    show Steps p.tables e below (s₁.setTop (mkF m 0 #[rv a1, iv 0, rv a3, iv 0, iv 2, .unset, .unset] [])) t
    refine XS.iconst X0.here hx rfl (hb hby d9_0) ?_
    refine XS.istore X0.here hx rfl (hb hby d9_1) rfl (l' := #[rv a1, iv 0, rv a3, iv 0, iv 2, iv 0, .unset]) rfl ?_
    refine XS.iload X0.here hx rfl (hb hby d9_3) rfl ?_
    refine XS.iload X0.here hx rfl (hb hby d9_5) rfl ?_
    refine XS.icmpNo X0.here hx rfl (hb hby d9_7) rfl (tlt (by decide : (0 : Int32) < (2 : Int32))).2.1 ?_
    refine XS.aloadN X0.here hx rfl (hb hby d9_10) rfl rfl ?_
    refine XS.iloadN X0.here hx rfl (hb hby d9_11) rfl ?_
    refine X0.caload hx (j := (0 : Int32)) (v := (.int x0)) (by rw [e0]; exact Ar102.1) (State.isArrayOf_alike hZ.alike Ar102.2.1) Ar102.2.2 hin102 hat102 (g := (mkF m 12 #[rv a1, iv 0, rv a3, iv 0, iv 2, iv 0, .unset] [(.int 0), (.ref a1)])) rfl rfl (hb hby d9_12) _ ?_
    refine XS.istore X0.here hx rfl (hb hby d9_13) rfl (l' := #[rv a1, iv 0, rv a3, iv 0, iv 2, iv 0, iv x0]) rfl ?_
    refine XS.iload X0.here hx rfl (hb hby d9_15) rfl ?_
    refine XS.sipush X0.here hx rfl (hb hby d9_17) ?_
    exact k)
  by_cases hc103 : (255 : Int32) < x0
  · have pre105 : own_P p e below s₁ (entryFrame m #[(.ref a1), (.int 0), (.ref a3), (.int 0), (.int 2)] 7) s₁ (mkF m 25 #[rv a1, iv 0, rv a3, iv 0, iv 2, iv 0, iv x0] [(.int 0)]) := fun t k => pre104 t (by
      refine XS.icmpNo X0.here hx rfl (hb hby d9_20) rfl (tlt hc103).2.2.2 ?_
      refine XS.iload X0.here hx rfl (hb hby d9_23) rfl ?_
      exact k)
    obtain ⟨fs, hr, hrun, hended, hW, hsame⟩ := X0.leave (v := some (.int 0)) (fun h => by rw [Bd.returns] at h; cases h)
    refine ⟨_, _, pre105 _ ?_, hrun, hended, _, _, rfl, ?_, ⟨_, rfl⟩, hW, hsame.mono (by decide) (by decide)⟩
    · exact retI X0 hx Bd.returns (hb hby d9_25) hr
    · show QCU_2 Z a1 a3 k1 k3 x0 x1 h0 n0 _ s₁.heap _
      rw [e0]
      exact ⟨(0 : Int32), rfl, N0, f101, (Or.inl ⟨rfl, hc103⟩)⟩
  · obtain ⟨cl106, Ar106, q106, S106, N106z, H106, G106⟩ := (id V3)
    have hin106 : ¬ ((0 : Int32) < 0 ∨ cl106.slots.size ≤ ((0 : Int32)).toNatClampNeg) := inb_of S106 ⟨by decide, by decide⟩
    obtain ⟨T106, h106, X106, e106, W106, st106⟩ := stB X0 hx hZ e0 Ar106 (j := (0 : Int32)) hin106 (g := (mkF m 31 #[rv a1, iv 0, rv a3, iv 0, iv 2, iv 0, iv x0] [(.int (x0.toInt8.toInt32)), (.int 0), (.ref a3)])) rfl rfl (hb hby d9_31)
    have V106 : Arv Z h106 a3 k3 .byte (2 : Int32) [(.int (nar .byte (x0.toInt8.toInt32))), (.int 0)] (.int 0) := Arv.set Ar106 q106 S106 N106z H106 G106 (fits_nar_byte _) W106 0 rfl (Nat.le_of_ble_eq_true rfl)
    have N106 := Fr.snoc X106 N0 g3
    have f107 := Nat.le_trans Z0 (Keep.of_wr W106).1
    have f108 := V1.other W106 ne
    have f109 := f101.wr W106 (Or.inl (List.mem_of_getElem? (i := 0) rfl))
    obtain ⟨cl110, Ar110, q110, S110, N110z, H110, G110⟩ := (id f108)
    have hin110 : ¬ ((1 : Int32) < 0 ∨ cl110.slots.size ≤ ((1 : Int32)).toNatClampNeg) := inb_of S110 ⟨by decide, by decide⟩
    have hat110 : cl110.slots[((1 : Int32)).toNatClampNeg]? = some (.int x1) := Has.at H110 hin110 rfl
    have hd111 : (255 : Int32) < x1 := Classical.byContradiction fun q => hU ⟨hc103, q⟩
    have pre112 : own_P p e below s₁ (entryFrame m #[(.ref a1), (.int 0), (.ref a3), (.int 0), (.int 2)] 7) T106 (mkF m 25 #[rv a1, iv 1, rv a3, iv 1, iv 2, iv 1, iv x1] [(.int 1)]) := fun t k => pre104 t (by
      refine XS.icmpYes X0.here hx rfl (pc0 := 20) (pc' := 26) rfl (hb hby d9_20) rfl (flt hc103).2.2.2 (by decide) (by decide) ?_
      refine XS.aloadN X0.here hx rfl (hb hby d9_26) rfl rfl ?_
      refine XS.iloadN X0.here hx rfl (hb hby d9_27) rfl ?_
      refine XS.iload X0.here hx rfl (hb hby d9_28) rfl ?_
      refine XS.i2b X0.here hx rfl (hb hby d9_30) rfl ?_
      refine st106 _ ?_
      refine XS.iinc X106.here hx rfl (hb hby d9_32) rfl (l' := #[rv a1, iv 1, rv a3, iv 0, iv 2, iv 0, iv x0]) rfl ?_
      refine XS.iinc X106.here hx rfl (hb hby d9_35) rfl (l' := #[rv a1, iv 1, rv a3, iv 1, iv 2, iv 0, iv x0]) rfl ?_
      refine XS.iinc X106.here hx rfl (hb hby d9_38) rfl (l' := #[rv a1, iv 1, rv a3, iv 1, iv 2, iv 1, iv x0]) rfl ?_
      refine XS.goto X106.here hx rfl (pc0 := 41) (pc' := 3) rfl (hb hby d9_41) (by decide) (by decide) ?_
      refine XS.iload X106.here hx rfl (hb hby d9_3) rfl ?_
      refine XS.iload X106.here hx rfl (hb hby d9_5) rfl ?_
      refine XS.icmpNo X106.here hx rfl (hb hby d9_7) rfl (tlt (by decide : (1 : Int32) < (2 : Int32))).2.1 ?_
      refine XS.aloadN X106.here hx rfl (hb hby d9_10) rfl rfl ?_
      refine XS.iloadN X106.here hx rfl (hb hby d9_11) rfl ?_
      refine X106.caload hx (j := (1 : Int32)) (v := (.int x1)) (by rw [e106]; exact Ar110.1) (State.isArrayOf_alike hZ.alike Ar110.2.1) Ar110.2.2 hin110 hat110 (g := (mkF m 12 #[rv a1, iv 1, rv a3, iv 1, iv 2, iv 1, iv x0] [(.int 1), (.ref a1)])) rfl rfl (hb hby d9_12) _ ?_
      refine XS.istore X106.here hx rfl (hb hby d9_13) rfl (l' := #[rv a1, iv 1, rv a3, iv 1, iv 2, iv 1, iv x1]) rfl ?_
      refine XS.iload X106.here hx rfl (hb hby d9_15) rfl ?_
      refine XS.sipush X106.here hx rfl (hb hby d9_17) ?_
      refine XS.icmpNo X106.here hx rfl (hb hby d9_20) rfl (tlt hd111).2.2.2 ?_
      refine XS.iload X106.here hx rfl (hb hby d9_23) rfl ?_
      exact k)
    obtain ⟨fs, hr, hrun, hended, hW, hsame⟩ := X106.leave (v := some (.int 1)) (fun h => by rw [Bd.returns] at h; cases h)
    refine ⟨_, _, pre112 _ ?_, hrun, hended, _, _, rfl, ?_, ⟨_, rfl⟩, hW, hsame.mono (by decide) (by decide)⟩
    · exact retI X106 hx Bd.returns (hb hby d9_25) hr
    · show QCU_2 Z a1 a3 k1 k3 x0 x1 h0 n0 _ T106.heap _
      rw [e106]
      exact ⟨(1 : Int32), rfl, N106, f109, (Or.inr (⟨rfl, hd111⟩))⟩
def QDU_2 (Z : State) (a1 : Addr) (k1 : ClassId) (x0 x1 : Int32) (h0 : Heap) (n0 : Nat) (v : Option Value) (h : Heap) (L : List Loc) : Prop := ∃ (b : Addr) (kb : ClassId), v = some (.ref b) ∧ Fr n0 L ∧ Keep h0 h [] ∧ (n0 ≤ b) ∧ (h0.size ≤ b) ∧ (Arv Z h b kb .byte (4 : Int32) [(.int (own_b0 x0)), (.int (own_b1 x0)), (.int (own_b0 x1)), (.int (own_b1 x1))] (.int 0))
theorem rmDU_2 (l : Launch) (Z : State) (a0 : Array Value) (hw : own_H Z a0) (ws : List Jvm.Cond) (a1 : Addr) (k1 : ClassId) (x0 x1 : Int32) (h0 : Heap) (n0 : Nat) (Z0 : n0 ≤ h0.size) (V1 : Arv Z h0 a1 k1 .char (2 : Int32) [(.int x0), (.int x1)] (.int 0)) (SA : Sta Z Z.heap "java/lang/StringUTF16" "$assertionsDisabled" "Z" (.int 1)) (SH : Sta Z Z.heap "java/lang/StringUTF16" "HI_BYTE_SHIFT" "I" (.int 0)) (SL : Sta Z Z.heap "java/lang/StringUTF16" "LO_BYTE_SHIFT" "I" (.int 8)) (O0 : Old Z n0 h0) (hC0 : own_C x0) (hC1 : own_C x1) (hU : ¬ ((¬ ((255 : Int32) < x0)) ∧ (¬ ((255 : Int32) < x1)))) :
    own_M l own_y1 jdk_52_method_16_code 6 (some (.array .byte)) ws (own_R 3 2 6 40) Z h0 #[(.ref a1), (.int 0), (.int 2)] (QDU_2 Z a1 k1 x0 x1 h0 n0) := by
  refine own_body (plainFor_of_name pn_java_lang_StringUTF16) fun p e s m below meth c s₁ Bd hx hby hml (hown : s.vm.findClass "java/lang/StringUTF16" = some m.cls) hnm X0 e0 hZ => ?_
  have N0 := Fr.nil n0
  have pre0 : own_P p e below s₁ (entryFrame m #[(.ref a1), (.int 0), (.int 2)] 6) s₁ (mkF m 0 #[rv a1, iv 0, iv 2, .unset, .unset, .unset] []) := fun t k => castTop (by first | rfl | (simp [entryFrame, mkF, argsToLocals, Value.category]; done)) k
  have f101 := Keep.refl h0 []
  obtain ⟨T102, h102, k102, X102, e102, E102, A102, st102⟩ := newP X0 hx hZ (own_i hw 23 rfl) e0 (g := (mkF m 1 #[rv a1, iv 0, iv 2, .unset, .unset, .unset] [(.int 2)])) rfl (hb hby d8_1) rfl (by decide) (cap := 2) (by decide) (by decide) (by decide) (by decide)
  obtain ⟨b102, g102⟩ : ∃ z, z = h0.size := ⟨_, rfl⟩
  rw [← g102] at A102 st102
  have ne103 : a1 ≠ b102 := Nat.ne_of_lt (Nat.lt_of_lt_of_le V1.lt (Nat.le_of_eq g102.symm))
  have ga104 : n0 ≤ b102 := Nat.le_trans Z0 (Nat.le_of_eq g102.symm)
  have sz105 : h0.size ≤ b102 := Nat.le_trans f101.1 (Nat.le_of_eq g102.symm)
  have V102 : Arv Z h102 b102 k102 .byte (2 : Int32) [(.int 0), (.int 0)] (.int 0) := (Arv.new A102 (by decide)).pad (pad_rep [] (.int 0) 2)
  have f106 := Nat.le_trans Z0 E102.1
  have f107 := V1.ext E102
  have f108 := O0.ext E102
  have f109 := f101.ext E102
  obtain ⟨_, _, ⟨T110, L110, k110, n110⟩, -, X110, ⟨Lc110, hQ110, l110, y110, z110⟩, st110⟩ := Jvm.LawKit.callS X102 hx (y := own_y0) hown (own_m hZ hw 44) (own_m hZ hw 45) (own_m hZ hw 42) (own_m hZ hw 46) (by decide) (backOf (W := 0) (rmCU_2 l Z a0 hw [] a1 b102 k1 k102 x0 x1 h102 n0 f106 f107 V102 ga104 ne103 hU) hZ (own_i hw 46 rfl) (own_i hw 42 rfl) (by decide) (by decide)) (g := (mkF m 9 #[rv a1, iv 0, iv 2, rv b102, .unset, .unset] [(.int 2), (.int 0), (.ref b102), (.int 0), (.ref a1)])) rfl (by rw [hml]; rfl) (argsL := [(.ref a1), (.int 0), (.ref b102), (.int 0), (.int 2)]) (rest := []) (lenOf pd_0 rfl) rfl (Nat.le_of_eq rfl) (hb hby d8_9) (fun _ _ => ⟨rfl, e102, own_le rfl, own_le rfl⟩)
  dsimp only [Pt.U, Pt.locs, Pt.cells, Pt.slots] at X110 l110 y110 z110 st110 hQ110
  subst l110 y110 z110
  obtain ⟨x111, rfl, N110q, K110, f112⟩ := hQ110
  have N110 := Fr.app N0 N110q
  have f113 := Nat.le_trans f106 K110.1
  have f114 := f107.keep K110 (ninS ne103 nin0)
  have f115 := f108.keep K110 (allS ga104 all0)
  have f116 := f109.trans K110 (allS (Or.inr sz105) all0)
  have hd117 : ¬ (x111 = (2 : Int32)) := fun q => by rcases f112 with h | h <;> exact absurd (h.1.symm.trans q) (by decide)
  obtain ⟨_, _, ⟨T118, L118, k118, n118⟩, -, X118, ⟨Lc118, hQ118, l118, y118, z118⟩, st118⟩ := Jvm.LawKit.callS X110 hx (y := own_y22) hown (own_m hZ hw 86) (own_m hZ hw 87) (own_m hZ hw 42) (own_m hZ hw 88) (by decide) (backOf (W := 0) (rmTb_2 l Z a0 hw [] a1 k1 x0 x1 T110.heap n0 f113 f114 SA SH SL f115) hZ (own_i hw 88 rfl) (own_i hw 42 rfl) (by decide) (by decide)) (g := (mkF m 23 #[rv a1, iv 0, iv 2, rv b102, iv x111, .unset] [(.int 2), (.int 0), (.ref a1)])) rfl (by rw [hml]; rfl) (argsL := [(.ref a1), (.int 0), (.int 2)]) (rest := []) (lenOf pd_1 rfl) rfl (Nat.le_of_eq rfl) (hb hby d8_23) (fun _ _ => ⟨rfl, rfl, own_le rfl, own_le rfl⟩)
  dsimp only [Pt.U, Pt.locs, Pt.cells, Pt.slots] at X118 l118 y118 z118 st118 hQ118
  subst l118 y118 z118
  obtain ⟨b119, x120, rfl, N118q, K118, f121, f122, f123⟩ := hQ118
  have N118 := Fr.app N110 N118q
  have ne124 : a1 ≠ b119 := Nat.ne_of_lt (Nat.lt_of_lt_of_le f114.lt f122)
  have sz125 : h0.size ≤ b119 := Nat.le_trans f116.1 f122
  have f126 := Nat.le_trans f113 K118.1
  have f127 := f114.keep K118 nin0
  have f128 := f115.keep K118 all0
  have f129 := f116.trans K118 all0
  have pre130 : own_P p e below s₁ (entryFrame m #[(.ref a1), (.int 0), (.int 2)] 6) T118 (mkF m 28 #[rv a1, iv 0, iv 2, rv b102, iv x111, rv b119] []) := fun t k => pre0 t (by
    show Steps p.tables e below (s₁.setTop (mkF m 0 #[rv a1, iv 0, iv 2, .unset, .unset, .unset] [])) t
    refine XS.iloadN X0.here hx rfl (hb hby d8_0) rfl ?_
    refine st102 _ ?_
    refine XS.astoreN X102.here hx rfl (hb hby d8_3) rfl rfl (l' := #[rv a1, iv 0, iv 2, rv b102, .unset, .unset]) rfl ?_
    refine XS.aloadN X102.here hx rfl (hb hby d8_4) rfl rfl ?_
    refine XS.iloadN X102.here hx rfl (hb hby d8_5) rfl ?_
    refine XS.aloadN X102.here hx rfl (hb hby d8_6) rfl rfl ?_
    refine XS.iconst X102.here hx rfl (hb hby d8_7) ?_
    refine XS.iloadN X102.here hx rfl (hb hby d8_8) rfl ?_
    refine st110 _ ?_
    refine XS.istore X110.here hx rfl (hb hby d8_12) rfl (l' := #[rv a1, iv 0, iv 2, rv b102, iv x111, .unset]) rfl ?_
    refine XS.iload X110.here hx rfl (hb hby d8_14) rfl ?_
    refine XS.iloadN X110.here hx rfl (hb hby d8_16) rfl ?_
    refine XS.icmpNo X110.here hx rfl (hb hby d8_17) rfl (feq hd117).1 ?_
    refine XS.aloadN X110.here hx rfl (hb hby d8_20) rfl rfl ?_
    refine XS.iloadN X110.here hx rfl (hb hby d8_21) rfl ?_
    refine XS.iloadN X110.here hx rfl (hb hby d8_22) rfl ?_
    refine st118 _ ?_
    refine XS.astore X118.here hx rfl (hb hby d8_26) rfl rfl (l' := #[rv a1, iv 0, iv 2, rv b102, iv x111, rv b119]) rfl ?_
    exact k)
  rcases f112 with hs131 | hs131
  · have pre132 : own_P p e below s₁ (entryFrame m #[(.ref a1), (.int 0), (.int 2)] 6) T118 (mkF m 28 #[rv a1, iv 0, iv 2, rv b102, iv 0, rv b119] []) := fun t k => pre130 t (by rw [show x111 = (0 : Int32) from hs131.1]; exact k)
    obtain ⟨_, _, ⟨T133, L133, k133, n133⟩, -, X133, ⟨Lc133, hQ133, l133, y133, z133⟩, st133⟩ := Jvm.LawKit.callS X118 hx (y := own_y15) hown (own_m hZ hw 102) (own_m hZ hw 103) (own_m hZ hw 42) (own_m hZ hw 104) (by decide) (backOf (W := 0) (rmGc l Z a0 hw [] b119 (0 : Int32) x120 (own_b0 x0) (own_b1 x0) (4 : Int32) ([(.int (own_b0 x0)), (.int (own_b1 x0)), (.int (own_b0 x1)), (.int (own_b1 x1))]) T118.heap n0 f126 f123 (SA.ext f128.2) (SH.ext f128.2) (SL.ext f128.2) (by decide) (by decide) (by decide) (by decide) rfl rfl) hZ (own_i hw 104 rfl) (own_i hw 42 rfl) (by decide) (by decide)) (g := (mkF m 32 #[rv a1, iv 0, iv 2, rv b102, iv 0, rv b119] [(.int 0), (.ref b119)])) rfl (by rw [hml]; rfl) (argsL := [(.ref b119), (.int 0)]) (rest := []) (lenOf pd_8 rfl) rfl (Nat.le_of_eq rfl) (hb hby d8_32) (fun _ _ => ⟨rfl, rfl, own_le rfl, own_le rfl⟩)
    dsimp only [Pt.U, Pt.locs, Pt.cells, Pt.slots] at X133 l133 y133 z133 st133 hQ133
    subst l133 y133 z133
    obtain ⟨rfl, N133q, e133⟩ := hQ133
    have N133 := Fr.app N118 N133q
    have hd134 : (255 : Int32) < (own_ut (own_b0 x0) (own_b1 x0)) := by rw [own_utc hC0]; exact hs131.2
    have pre135 : own_P p e below s₁ (entryFrame m #[(.ref a1), (.int 0), (.int 2)] 6) T133 (mkF m 56 #[rv a1, iv 0, iv 2, rv b102, iv 0, rv b119] [(.ref b119)]) := fun t k => pre132 t (by
      show Steps p.tables e below (T118.setTop (mkF m 28 #[rv a1, iv 0, iv 2, rv b102, iv 0, rv b119] [])) t
      refine XS.aload X118.here hx rfl (hb hby d8_28) rfl rfl ?_
      refine XS.iload X118.here hx rfl (hb hby d8_30) rfl ?_
      refine st133 _ ?_
      refine XS.sipush X133.here hx rfl (hb hby d8_35) ?_
      refine XS.icmpYes X133.here hx rfl (pc0 := 38) (pc' := 54) rfl (hb hby d8_38) rfl (tlt hd134).2.2.1 (by decide) (by decide) ?_
      refine XS.aload X133.here hx rfl (hb hby d8_54) rfl rfl ?_
      exact k)
    obtain ⟨fs, hr, hrun, hended, hW, hsame⟩ := X133.leave (v := some (.ref b119)) (fun h => by rw [Bd.returns] at h; cases h)
    refine ⟨_, _, pre135 _ ?_, hrun, hended, _, _, rfl, ?_, ⟨_, rfl⟩, hW, hsame.mono (by decide) (by decide)⟩
    · exact retOut X133 hx Bd.returns rfl (Or.inr (Or.inr (Or.inr (Or.inr ⟨rfl, rfl, rfl⟩)))) (hb hby d8_56) hr
    · show QDU_2 Z a1 k1 x0 x1 h0 n0 _ T133.heap _
      rw [e133]
      exact ⟨b119, x120, rfl, N133, f129, f121, sz125, f123⟩
  · have pre136 : own_P p e below s₁ (entryFrame m #[(.ref a1), (.int 0), (.int 2)] 6) T118 (mkF m 28 #[rv a1, iv 0, iv 2, rv b102, iv 1, rv b119] []) := fun t k => pre130 t (by rw [show x111 = (1 : Int32) from hs131.1]; exact k)
    obtain ⟨_, _, ⟨T137, L137, k137, n137⟩, -, X137, ⟨Lc137, hQ137, l137, y137, z137⟩, st137⟩ := Jvm.LawKit.callS X118 hx (y := own_y15) hown (own_m hZ hw 102) (own_m hZ hw 103) (own_m hZ hw 42) (own_m hZ hw 104) (by decide) (backOf (W := 0) (rmGc l Z a0 hw [] b119 (1 : Int32) x120 (own_b0 x1) (own_b1 x1) (4 : Int32) ([(.int (own_b0 x0)), (.int (own_b1 x0)), (.int (own_b0 x1)), (.int (own_b1 x1))]) T118.heap n0 f126 f123 (SA.ext f128.2) (SH.ext f128.2) (SL.ext f128.2) (by decide) (by decide) (by decide) (by decide) rfl rfl) hZ (own_i hw 104 rfl) (own_i hw 42 rfl) (by decide) (by decide)) (g := (mkF m 32 #[rv a1, iv 0, iv 2, rv b102, iv 1, rv b119] [(.int 1), (.ref b119)])) rfl (by rw [hml]; rfl) (argsL := [(.ref b119), (.int 1)]) (rest := []) (lenOf pd_8 rfl) rfl (Nat.le_of_eq rfl) (hb hby d8_32) (fun _ _ => ⟨rfl, rfl, own_le rfl, own_le rfl⟩)
    dsimp only [Pt.U, Pt.locs, Pt.cells, Pt.slots] at X137 l137 y137 z137 st137 hQ137
    subst l137 y137 z137
    obtain ⟨rfl, N137q, e137⟩ := hQ137
    have N137 := Fr.app N118 N137q
    have hd138 : (255 : Int32) < (own_ut (own_b0 x1) (own_b1 x1)) := by rw [own_utc hC1]; exact hs131.2
    have pre139 : own_P p e below s₁ (entryFrame m #[(.ref a1), (.int 0), (.int 2)] 6) T137 (mkF m 56 #[rv a1, iv 0, iv 2, rv b102, iv 1, rv b119] [(.ref b119)]) := fun t k => pre136 t (by
      show Steps p.tables e below (T118.setTop (mkF m 28 #[rv a1, iv 0, iv 2, rv b102, iv 1, rv b119] [])) t
      refine XS.aload X118.here hx rfl (hb hby d8_28) rfl rfl ?_
      refine XS.iload X118.here hx rfl (hb hby d8_30) rfl ?_
      refine st137 _ ?_
      refine XS.sipush X137.here hx rfl (hb hby d8_35) ?_
      refine XS.icmpYes X137.here hx rfl (pc0 := 38) (pc' := 54) rfl (hb hby d8_38) rfl (tlt hd138).2.2.1 (by decide) (by decide) ?_
      refine XS.aload X137.here hx rfl (hb hby d8_54) rfl rfl ?_
      exact k)
    obtain ⟨fs, hr, hrun, hended, hW, hsame⟩ := X137.leave (v := some (.ref b119)) (fun h => by rw [Bd.returns] at h; cases h)
    refine ⟨_, _, pre139 _ ?_, hrun, hended, _, _, rfl, ?_, ⟨_, rfl⟩, hW, hsame.mono (by decide) (by decide)⟩
    · exact retOut X137 hx Bd.returns rfl (Or.inr (Or.inr (Or.inr (Or.inr ⟨rfl, rfl, rfl⟩)))) (hb hby d8_56) hr
    · show QDU_2 Z a1 k1 x0 x1 h0 n0 _ T137.heap _
      rw [e137]
      exact ⟨b119, x120, rfl, N137, f129, f121, sz125, f123⟩
def QEU_2 (Z : State) (a1 : Addr) (k1 : ClassId) (y0 y1 y2 y3 : Int32) (h0 : Heap) (n0 : Nat) (v : Option Value) (h : Heap) (L : List Loc) : Prop := v = some (.int 1) ∧ Fr n0 L ∧ h = h0
theorem rmEU_2 (l : Launch) (Z : State) (a0 : Array Value) (hw : own_H Z a0) (ws : List Jvm.Cond) (a1 : Addr) (k1 : ClassId) (y0 y1 y2 y3 : Int32) (h0 : Heap) (n0 : Nat) (Z0 : n0 ≤ h0.size) (V1 : Arv Z h0 a1 k1 .byte (4 : Int32) [(.int y0), (.int y1), (.int y2), (.int y3)] (.int 0)) :
    own_M l own_y2 jdk_52_method_15_code 2 (some .byte) ws (own_R 0 0 0 0) Z h0 #[(.ref a1), (.int 2)] (QEU_2 Z a1 k1 y0 y1 y2 y3 h0 n0) := by
  refine own_body (plainFor_of_name pn_java_lang_StringUTF16) fun p e s m below meth c s₁ Bd hx hby hml (hown : s.vm.findClass "java/lang/StringUTF16" = some m.cls) hnm X0 e0 hZ => ?_
  have N0 := Fr.nil n0
  have pre0 : own_P p e below s₁ (entryFrame m #[(.ref a1), (.int 2)] 2) s₁ (mkF m 0 #[rv a1, iv 2] []) := fun t k => castTop (by first | rfl | (simp [entryFrame, mkF, argsToLocals, Value.category]; done)) k
  obtain ⟨cl101, Ar101, q101, S101, N101z, H101, G101⟩ := (id V1)
  have pre102 : own_P p e below s₁ (entryFrame m #[(.ref a1), (.int 2)] 2) s₁ (mkF m 8 #[rv a1, iv 2] [(.int ((((-2 : Int32).toUInt32 >>> ((31 : Int32) &&& 31).toUInt32).toInt32).toInt8.toInt32))]) := fun t k => pre0 t (by
    show Steps p.tables e below (s₁.setTop (mkF m 0 #[rv a1, iv 2] [])) t
    refine XS.iloadN X0.here hx rfl (hb hby d10_0) rfl ?_
    refine XS.aloadN X0.here hx rfl (hb hby d10_1) rfl rfl ?_
    refine X0.arraylength hx (by rw [e0]; exact Ar101.1) (State.isArrayOf_alike hZ.alike Ar101.2.1) (g := (mkF m 2 #[rv a1, iv 2] [(.ref a1), (.int 2)])) rfl rfl (hb hby d10_2) _ ?_
    rw [len_of S101 N101z]
    refine XS.isub X0.here hx rfl (hb hby d10_3) rfl ?_
    refine XS.bipush X0.here hx rfl (hb hby d10_4) ?_
    refine XS.iushr X0.here hx rfl (hb hby d10_6) rfl ?_
    refine XS.i2b X0.here hx rfl (hb hby d10_7) rfl ?_
    exact k)
  obtain ⟨fs, hr, hrun, hended, hW, hsame⟩ := X0.leave (v := some (.int (nar .byte ((((-2 : Int32).toUInt32 >>> ((31 : Int32) &&& 31).toUInt32).toInt32).toInt8.toInt32)))) (fun h => by rw [Bd.returns] at h; cases h)
  refine ⟨_, _, pre102 _ ?_, hrun, hended, _, _, rfl, ?_, ⟨_, rfl⟩, hW, hsame.mono (by decide) (by decide)⟩
  · exact retN X0 hx (t := .byte) Bd.returns (by simp) (hb hby d10_8) hr
  · show QEU_2 Z a1 k1 y0 y1 y2 y3 h0 n0 _ s₁.heap _
    rw [e0]
    exact ⟨(by rw [show (nar .byte ((((-2 : Int32).toUInt32 >>> ((31 : Int32) &&& 31).toUInt32).toInt32).toInt8.toInt32)) = (1 : Int32) from by decide]), N0, rfl⟩
def QFU_2 (Z : State) (a1 a2 : Addr) (k2 : ClassId) (cs x0 x1 : Int32) (h0 : Heap) (n0 : Nat) (v : Option Value) (h : Heap) (L : List Loc) : Prop := ∃ (t : Addr) (kt : ClassId), v = none ∧ Fr n0 L ∧ Keep h0 h [a1] ∧ (Exa Z h a1 "java/lang/String") ∧ (Fld Z h a1 "java/lang/String" "coder" "B" (.int 1)) ∧ (Fld Z h a1 "java/lang/String" "value" "[B" (.ref t)) ∧ (n0 ≤ t) ∧ (h0.size ≤ t) ∧ (Arv Z h t kt .byte (4 : Int32) [(.int (own_b0 x0)), (.int (own_b1 x0)), (.int (own_b0 x1)), (.int (own_b1 x1))] (.int 0))
theorem rmFU_2 (l : Launch) (Z : State) (a0 : Array Value) (hw : own_H Z a0) (ws : List Jvm.Cond) (a1 a2 : Addr) (k2 : ClassId) (cs x0 x1 : Int32) (h0 : Heap) (n0 : Nat) (Z0 : n0 ≤ h0.size) (F1 : Fld Z h0 a1 "java/lang/String" "value" "[B" .null) (F2 : Fld Z h0 a1 "java/lang/String" "coder" "B" (.int 0)) (E1 : Exa Z h0 a1 "java/lang/String") (g1 : n0 ≤ a1) (V2 : Arv Z h0 a2 k2 .char (2 : Int32) [(.int x0), (.int x1)] (.int 0)) (ne : a1 ≠ a2) (SC : Sta Z Z.heap "java/lang/String" "COMPACT_STRINGS" "Z" (.int cs)) (hcs : ¬ (cs = (0 : Int32))) (SA : Sta Z Z.heap "java/lang/StringUTF16" "$assertionsDisabled" "Z" (.int 1)) (SH : Sta Z Z.heap "java/lang/StringUTF16" "HI_BYTE_SHIFT" "I" (.int 0)) (SL : Sta Z Z.heap "java/lang/StringUTF16" "LO_BYTE_SHIFT" "I" (.int 8)) (O0 : Old Z n0 h0) (hC0 : own_C x0) (hC1 : own_C x1) (hU : ¬ ((¬ ((255 : Int32) < x0)) ∧ (¬ ((255 : Int32) < x1)))) :
    own_M l own_y3 jdk_42_method_149_code 6 none ws (own_R 4 2 6 57) Z h0 #[(.ref a1), (.ref a2), (.int 0), (.int 2), .null] (QFU_2 Z a1 a2 k2 cs x0 x1 h0 n0) := by
  refine own_body (plainFor_of_name pn_java_lang_String) fun p e s m below meth c s₁ Bd hx hby hml (hown : s.vm.findClass "java/lang/String" = some m.cls) hnm X0 e0 hZ => ?_
  have N0 := Fr.nil n0
  have pre0 : own_P p e below s₁ (entryFrame m #[(.ref a1), (.ref a2), (.int 0), (.int 2), .null] 6) s₁ (mkF m 0 #[rv a1, rv a2, iv 0, iv 2, .val .null, .unset] []) := fun t k => castTop (by first | rfl | (simp [entryFrame, mkF, argsToLocals, Value.category]; done)) k
  have f101 := Keep.refl h0 [a1]
  obtain ⟨T102, X102, e102, st102⟩ := initO X0 hx hZ hown (own_i hw 19 rfl) (own_i hw 20 rfl) (own_i hw 21 rfl) e0 (g := (mkF m 1 #[rv a1, rv a2, iv 0, iv 2, .val .null, .unset] [(.ref a1)])) rfl (by rw [hml]; rfl) rfl (hb hby d4_1) (by decide) (W := 0) (Nat.le_of_eq rfl) (by decide)
  obtain ⟨T103, X103, e103, st103⟩ := getS2 X102 hx hZ hown (host := "") (Or.inl (own_i hw 39 rfl)) Via.refl e102 (SC.ext O0.2) (g := (mkF m 27 #[rv a1, rv a2, iv 0, iv 2, .val .null, .unset] [])) rfl (hb hby d4_27)
  obtain ⟨_, _, ⟨T104, L104, k104, n104⟩, -, X104, ⟨Lc104, hQ104, l104, y104, z104⟩, st104⟩ := Jvm.LawKit.callS X103 hx (y := own_y1) hown (own_m hZ hw 40) (own_m hZ hw 41) (own_m hZ hw 42) (own_m hZ hw 43) (by decide) (backOf (W := 0) (rmDU_2 l Z a0 hw [] a2 k2 x0 x1 h0 n0 Z0 V2 SA SH SL O0 hC0 hC1 hU) hZ (own_i hw 43 rfl) (own_i hw 42 rfl) (by decide) (by decide)) (g := (mkF m 36 #[rv a1, rv a2, iv 0, iv 2, .val .null, .unset] [(.int 2), (.int 0), (.ref a2)])) rfl (by rw [hml]; rfl) (argsL := [(.ref a2), (.int 0), (.int 2)]) (rest := []) (lenOf pd_1 rfl) rfl (Nat.le_of_eq rfl) (hb hby d4_36) (fun _ _ => ⟨rfl, e103, own_le rfl, own_le rfl⟩)
  dsimp only [Pt.U, Pt.locs, Pt.cells, Pt.slots] at X104 l104 y104 z104 st104 hQ104
  subst l104 y104 z104
  obtain ⟨b105, x106, rfl, N104q, K104, f107, f108, f109⟩ := hQ104
  have N104 := Fr.app N0 N104q
  have ne110 : a1 ≠ b105 := Nat.ne_of_lt (Nat.lt_of_lt_of_le F1.lt f108)
  have ne111 : a2 ≠ b105 := Nat.ne_of_lt (Nat.lt_of_lt_of_le V2.lt f108)
  have f112 := Nat.le_trans Z0 K104.1
  have f113 := F1.keep K104 nin0
  have f114 := F2.keep K104 nin0
  have f115 := E1.keep K104
  have f116 := V2.keep K104 nin0
  have f117 := O0.keep K104 all0
  have f118 := f101.trans K104 all0
  obtain ⟨_, _, ⟨T119, L119, k119, n119⟩, -, X119, ⟨Lc119, hQ119, l119, y119, z119⟩, st119⟩ := Jvm.LawKit.callS X104 hx (y := own_y2) hown (own_m hZ hw 47) (own_m hZ hw 48) (own_m hZ hw 42) (own_m hZ hw 49) (by decide) (backOf (W := 1) (rmEU_2 l Z a0 hw [] b105 x106 (own_b0 x0) (own_b1 x0) (own_b0 x1) (own_b1 x1) T104.heap n0 f112 f109) hZ (own_i hw 49 rfl) (own_i hw 42 rfl) (by decide) (by decide)) (g := (mkF m 45 #[rv a1, rv a2, iv 0, iv 2, .val .null, rv b105] [(.int 2), (.ref b105), (.ref a1)])) rfl (by rw [hml]; rfl) (argsL := [(.ref b105), (.int 2)]) (rest := [(.ref a1)]) (lenOf pd_2 rfl) rfl (Nat.le_of_eq rfl) (hb hby d4_45) (fun _ _ => ⟨rfl, rfl, own_le rfl, own_le rfl⟩)
  dsimp only [Pt.U, Pt.locs, Pt.cells, Pt.slots] at X119 l119 y119 z119 st119 hQ119
  subst l119 y119 z119
  obtain ⟨rfl, N119q, e119⟩ := hQ119
  have N119 := Fr.app N104 N119q
  obtain ⟨T120, h120, X120, e120, W120, st120⟩ := putFN X119 hx hZ hown (own_i hw 29 rfl) Via.refl e119 f114 f115 (Or.inr ⟨(own_i hw 25 rfl), rfl, hnm⟩) (own_i hw 9 rfl) (ty := .byte) (v' := (.int 1)) (by decide) rfl (by decide) (g := (mkF m 48 #[rv a1, rv a2, iv 0, iv 2, .val .null, rv b105] [(.int 1), (.ref a1)])) rfl rfl (hb hby d4_48)
  have Fw120 := f114.same W120
  have N120 := Fr.snoc X120 N119 g1
  have f121 := Nat.le_trans f112 (Keep.of_wr W120).1
  have f122 := f113.other W120 (Or.inr (slot_ne (Or.inr (own_i hw 24 rfl)) (Or.inr (own_i hw 25 rfl)) (by decide) (t := (.array .byte)) (t' := .byte) (by decide) (by decide)))
  have f123 := f115.wr W120
  have f124 := f116.other W120 (Ne.symm ne)
  have f125 := f117.wr W120 g1
  have f126 := f118.wr W120 (Or.inl (List.mem_of_getElem? (i := 0) rfl))
  have f127 := f109.other W120 (Ne.symm ne110)
  obtain ⟨T128, h128, X128, e128, W128, st128⟩ := putF X120 hx hZ hown (host := "") (Or.inl (own_i hw 28 rfl)) Via.refl e120 f122 f123 (Or.inr ⟨(own_i hw 24 rfl), rfl, hnm⟩) (own_i hw 9 rfl) (ty := (.array .byte)) (by decide) rfl rfl (g := (mkF m 54 #[rv a1, rv a2, iv 0, iv 2, .val .null, rv b105] [(.ref b105), (.ref a1)])) rfl rfl (hb hby d4_54)
  have Fw128 := f122.same W128
  have N128 := Fr.snoc X128 N120 g1
  have f129 := Nat.le_trans f121 (Keep.of_wr W128).1
  have f130 := f123.wr W128
  have f131 := f124.other W128 (Ne.symm ne)
  have f132 := f125.wr W128 g1
  have f133 := f126.wr W128 (Or.inl (List.mem_of_getElem? (i := 0) rfl))
  have f134 := f127.other W128 (Ne.symm ne110)
  have f135 := Fw120.other W128 (Or.inr (slot_ne (Or.inr (own_i hw 25 rfl)) (Or.inr (own_i hw 24 rfl)) (by decide) (t := .byte) (t' := (.array .byte)) (by decide) (by decide)))
  have pre136 : own_P p e below s₁ (entryFrame m #[(.ref a1), (.ref a2), (.int 0), (.int 2), .null] 6) T128 (mkF m 57 #[rv a1, rv a2, iv 0, iv 2, .val .null, rv b105] []) := fun t k => pre0 t (by
    show Steps p.tables e below (s₁.setTop (mkF m 0 #[rv a1, rv a2, iv 0, iv 2, .val .null, .unset] [])) t
    refine XS.aloadN X0.here hx rfl (hb hby d4_0) rfl rfl ?_
    refine st102 _ ?_
    refine XS.iloadN X102.here hx rfl (hb hby d4_4) rfl ?_
    refine XS.ifYes X102.here hx rfl (pc0 := 5) (pc' := 27) rfl (hb hby d4_5) rfl ((if0 _ _).trans (feq (by decide : ¬ ((2 : Int32) = (0 : Int32)))).2) (by decide) (by decide) ?_
    refine st103 _ ?_
    refine XS.ifNo X103.here hx rfl (hb hby d4_30) rfl ((if0 _ _).trans (feq hcs).1) ?_
    refine XS.aloadN X103.here hx rfl (hb hby d4_33) rfl rfl ?_
    refine XS.iloadN X103.here hx rfl (hb hby d4_34) rfl ?_
    refine XS.iloadN X103.here hx rfl (hb hby d4_35) rfl ?_
    refine st104 _ ?_
    refine XS.astore X104.here hx rfl (hb hby d4_39) rfl rfl (l' := #[rv a1, rv a2, iv 0, iv 2, .val .null, rv b105]) rfl ?_
    refine XS.aloadN X104.here hx rfl (hb hby d4_41) rfl rfl ?_
    refine XS.aload X104.here hx rfl (hb hby d4_42) rfl rfl ?_
    refine XS.iloadN X104.here hx rfl (hb hby d4_44) rfl ?_
    refine st119 _ ?_
    refine st120 _ ?_
    refine XS.aloadN X120.here hx rfl (hb hby d4_51) rfl rfl ?_
    refine XS.aload X120.here hx rfl (hb hby d4_52) rfl rfl ?_
    refine st128 _ ?_
    exact k)
  obtain ⟨fs, hr, hrun, hended, hW, hsame⟩ := X128.leave (v := none) (fun _ => rfl)
  refine ⟨_, _, pre136 _ ?_, hrun, hended, _, _, rfl, ?_, ⟨_, rfl⟩, hW, hsame.mono (by decide) (by decide)⟩
  · exact X128.returnOut hx Bd.returns (hb hby d4_57) hr
  · show QFU_2 Z a1 a2 k2 cs x0 x1 h0 n0 _ T128.heap _
    rw [e128]
    exact ⟨b105, x106, rfl, N128, f133, f130, f135, Fw128, f107, f108, f134⟩
def QGU_2 (Z : State) (a1 a2 : Addr) (k2 : ClassId) (cs x0 x1 : Int32) (h0 : Heap) (n0 : Nat) (v : Option Value) (h : Heap) (L : List Loc) : Prop := ∃ (t : Addr) (kt : ClassId), v = none ∧ Fr n0 L ∧ Keep h0 h [a1] ∧ (Exa Z h a1 "java/lang/String") ∧ (Fld Z h a1 "java/lang/String" "coder" "B" (.int 1)) ∧ (Fld Z h a1 "java/lang/String" "value" "[B" (.ref t)) ∧ (n0 ≤ t) ∧ (h0.size ≤ t) ∧ (Arv Z h t kt .byte (4 : Int32) [(.int (own_b0 x0)), (.int (own_b1 x0)), (.int (own_b0 x1)), (.int (own_b1 x1))] (.int 0))
theorem rmGU_2 (l : Launch) (Z : State) (a0 : Array Value) (hw : own_H Z a0) (ws : List Jvm.Cond) (a1 a2 : Addr) (k2 : ClassId) (cs x0 x1 : Int32) (h0 : Heap) (n0 : Nat) (Z0 : n0 ≤ h0.size) (F1 : Fld Z h0 a1 "java/lang/String" "value" "[B" .null) (F2 : Fld Z h0 a1 "java/lang/String" "coder" "B" (.int 0)) (E1 : Exa Z h0 a1 "java/lang/String") (g1 : n0 ≤ a1) (V2 : Arv Z h0 a2 k2 .char (2 : Int32) [(.int x0), (.int x1)] (.int 0)) (ne : a1 ≠ a2) (SC : Sta Z Z.heap "java/lang/String" "COMPACT_STRINGS" "Z" (.int cs)) (hcs : ¬ (cs = (0 : Int32))) (SA : Sta Z Z.heap "java/lang/StringUTF16" "$assertionsDisabled" "Z" (.int 1)) (SH : Sta Z Z.heap "java/lang/StringUTF16" "HI_BYTE_SHIFT" "I" (.int 0)) (SL : Sta Z Z.heap "java/lang/StringUTF16" "LO_BYTE_SHIFT" "I" (.int 8)) (O0 : Old Z n0 h0) (hC0 : own_C x0) (hC1 : own_C x1) (hU : ¬ ((¬ ((255 : Int32) < x0)) ∧ (¬ ((255 : Int32) < x1)))) :
    own_M l own_y4 jdk_42_method_3_code 2 none ws (own_R 5 2 6 74) Z h0 #[(.ref a1), (.ref a2)] (QGU_2 Z a1 a2 k2 cs x0 x1 h0 n0) := by
  refine own_body (plainFor_of_name pn_java_lang_String) fun p e s m below meth c s₁ Bd hx hby hml (hown : s.vm.findClass "java/lang/String" = some m.cls) hnm X0 e0 hZ => ?_
  have N0 := Fr.nil n0
  have pre0 : own_P p e below s₁ (entryFrame m #[(.ref a1), (.ref a2)] 2) s₁ (mkF m 0 #[rv a1, rv a2] []) := fun t k => castTop (by first | rfl | (simp [entryFrame, mkF, argsToLocals, Value.category]; done)) k
  have f101 := Keep.refl h0 [a1]
  obtain ⟨cl102, Ar102, q102, S102, N102z, H102, G102⟩ := (id V2)
  obtain ⟨_, _, ⟨T103, L103, k103, n103⟩, -, X103, ⟨Lc103, hQ103, l103, y103, z103⟩, st103⟩ := X0.specialBack hx (y := own_y3) rfl hown (own_m hZ hw 15) (own_m hZ hw 16) (own_m hZ hw 18) (by decide) (backOf (W := 0) (rmFU_2 l Z a0 hw [] a1 a2 k2 cs x0 x1 h0 n0 Z0 F1 F2 E1 g1 V2 ne SC hcs SA SH SL O0 hC0 hC1 hU) hZ (own_i hw 18 rfl) (own_i hw 10 rfl) (by decide) (by decide)) (g := (mkF m 6 #[rv a1, rv a2] [.null, (.int 2), (.int 0), (.ref a2), (.ref a1)])) rfl (by rw [hml]; rfl) (Steps.refl _) (a := a1) (argsL := [(.ref a2), (.int 0), (.int 2), .null]) (rest := []) (lenOf pd_3 rfl) rfl (Nat.le_of_eq rfl) (hb hby d3_6) (fun _ _ => ⟨rfl, e0, own_le rfl, own_le rfl⟩)
  dsimp only [Pt.U, Pt.locs, Pt.cells, Pt.slots] at X103 l103 y103 z103 st103 hQ103
  subst l103 y103 z103
  obtain ⟨b104, x105, rfl, N103q, K103, f106, f107, f108, f109, f110, f111⟩ := hQ103
  have N103 := Fr.app N0 N103q
  have ne112 : a1 ≠ b104 := Nat.ne_of_lt (Nat.lt_of_lt_of_le F1.lt f110)
  have ne113 : a2 ≠ b104 := Nat.ne_of_lt (Nat.lt_of_lt_of_le V2.lt f110)
  have f114 := Nat.le_trans Z0 K103.1
  have f115 := V2.keep K103 (ninS (Ne.symm ne) nin0)
  have f116 := O0.keep K103 (allS g1 all0)
  have f117 := f101.trans K103 (allS (Or.inl (List.mem_of_getElem? (i := 0) rfl)) all0)
  have pre118 : own_P p e below s₁ (entryFrame m #[(.ref a1), (.ref a2)] 2) T103 (mkF m 9 #[rv a1, rv a2] []) := fun t k => pre0 t (by
    show Steps p.tables e below (s₁.setTop (mkF m 0 #[rv a1, rv a2] [])) t
    refine XS.aloadN X0.here hx rfl (hb hby d3_0) rfl rfl ?_
    refine XS.aloadN X0.here hx rfl (hb hby d3_1) rfl rfl ?_
    refine XS.iconst X0.here hx rfl (hb hby d3_2) ?_
    refine XS.aloadN X0.here hx rfl (hb hby d3_3) rfl rfl ?_
    refine X0.arraylength hx (by rw [e0]; exact Ar102.1) (State.isArrayOf_alike hZ.alike Ar102.2.1) (g := (mkF m 4 #[rv a1, rv a2] [(.ref a2), (.int 0), (.ref a2), (.ref a1)])) rfl rfl (hb hby d3_4) _ ?_
    rw [len_of S102 N102z]
    refine XS.aconstNull X0.here hx rfl (hb hby d3_5) ?_
    refine st103.trans ?_
    exact k)
  obtain ⟨fs, hr, hrun, hended, hW, hsame⟩ := X103.leave (v := none) (fun _ => rfl)
  refine ⟨_, _, pre118 _ ?_, hrun, hended, _, _, rfl, ?_, ⟨_, rfl⟩, hW, hsame.mono (by decide) (by decide)⟩
  · exact X103.returnOut hx Bd.returns (hb hby d3_9) hr
  · show QGU_2 Z a1 a2 k2 cs x0 x1 h0 n0 _ T103.heap _
    exact ⟨b104, x105, rfl, N103, f117, f106, f107, f108, f109, f110, f111⟩
def QPc_3_0 (Z : State) (a1 : Addr) (p3 : Int32) (k1 : ClassId) (y0 y1 y2 y3 y4 y5 : Int32) (h0 : Heap) (n0 : Nat) (v : Option Value) (h : Heap) (L : List Loc) : Prop := v = none ∧ Fr n0 L ∧ Keep h0 h [a1] ∧ (Arv Z h a1 k1 .byte (6 : Int32) [(.int (own_b0 p3)), (.int (own_b1 p3)), (.int y2), (.int y3), (.int y4), (.int y5)] (.int 0))
theorem rmPc_3_0 (l : Launch) (Z : State) (a0 : Array Value) (hw : own_H Z a0) (ws : List Jvm.Cond) (a1 : Addr) (p3 : Int32) (k1 : ClassId) (y0 y1 y2 y3 y4 y5 : Int32) (h0 : Heap) (n0 : Nat) (Z0 : n0 ≤ h0.size) (V1 : Arv Z h0 a1 k1 .byte (6 : Int32) [(.int y0), (.int y1), (.int y2), (.int y3), (.int y4), (.int y5)] (.int 0)) (SA : Sta Z h0 "java/lang/StringUTF16" "$assertionsDisabled" "Z" (.int 1)) (SH : Sta Z h0 "java/lang/StringUTF16" "HI_BYTE_SHIFT" "I" (.int 0)) (SL : Sta Z h0 "java/lang/StringUTF16" "LO_BYTE_SHIFT" "I" (.int 8)) (g1 : n0 ≤ a1) :
    own_M l own_y19 jdk_52_method_4_code 3 none ws (own_R 0 0 0 0) Z h0 #[(.ref a1), (.int 0), (.int p3)] (QPc_3_0 Z a1 p3 k1 y0 y1 y2 y3 y4 y5 h0 n0) := by
  refine own_body (plainFor_of_name pn_java_lang_StringUTF16) fun p e s m below meth c s₁ Bd hx hby hml (hown : s.vm.findClass "java/lang/StringUTF16" = some m.cls) hnm X0 e0 hZ => ?_
  have N0 := Fr.nil n0
  have pre0 : own_P p e below s₁ (entryFrame m #[(.ref a1), (.int 0), (.int p3)] 3) s₁ (mkF m 0 #[rv a1, iv 0, iv p3] []) := fun t k => castTop (by first | rfl | (simp [entryFrame, mkF, argsToLocals, Value.category]; done)) k
  have f101 := Keep.refl h0 [a1]
  obtain ⟨T102, X102, e102, st102⟩ := getS2 X0 hx hZ hown (host := "") (Or.inl (own_i hw 99 rfl)) Via.refl e0 SA (g := (mkF m 0 #[rv a1, iv 0, iv p3] [])) rfl (hb hby d22_0)
  have pre103 : own_P p e below s₁ (entryFrame m #[(.ref a1), (.int 0), (.int p3)] 3) T102 (mkF m 31 #[rv a1, iv 0, iv p3] [(.int ((0 : Int32) <<< ((1 : Int32) &&& 31)))]) := fun t k => pre0 t (by
    show Steps p.tables e below (s₁.setTop (mkF m 0 #[rv a1, iv 0, iv p3] [])) t
    refine st102 _ ?_
    refine XS.ifYes X102.here hx rfl (pc0 := 3) (pc' := 28) rfl (hb hby d22_3) rfl ((if0 _ _).trans (feq (by decide : ¬ ((1 : Int32) = (0 : Int32)))).2) (by decide) (by decide) ?_
    refine XS.iloadN X102.here hx rfl (hb hby d22_28) rfl ?_
    refine XS.iconst X102.here hx rfl (hb hby d22_29) ?_
    refine XS.ishl X102.here hx rfl (hb hby d22_30) rfl ?_
    exact k)
  have pre104 : own_P p e below s₁ (entryFrame m #[(.ref a1), (.int 0), (.int p3)] 3) T102 (mkF m 31 #[rv a1, iv 0, iv p3] [(.int 0)]) := fun t k => pre103 t (by rw [show ((0 : Int32) <<< ((1 : Int32) &&& 31)) = (0 : Int32) from (by decide)]; exact k)
  obtain ⟨T105, X105, e105, st105⟩ := getS2 X102 hx hZ hown (host := "") (Or.inl (own_i hw 100 rfl)) Via.refl e102 SH (g := (mkF m 38 #[rv a1, iv 1, iv p3] [(.int p3), (.int 0), (.ref a1)])) rfl (hb hby d22_38)
  obtain ⟨cl106, Ar106, q106, S106, N106z, H106, G106⟩ := (id V1)
  have hin106 : ¬ ((0 : Int32) < 0 ∨ cl106.slots.size ≤ ((0 : Int32)).toNatClampNeg) := inb_of S106 ⟨by decide, by decide⟩
  obtain ⟨T106, h106, X106, e106, W106, st106⟩ := stB X105 hx hZ e105 Ar106 (j := (0 : Int32)) hin106 (g := (mkF m 43 #[rv a1, iv 1, iv p3] [(.int ((p3 >>> ((0 : Int32) &&& 31)).toInt8.toInt32)), (.int 0), (.ref a1)])) rfl rfl (hb hby d22_43)
  have V106 : Arv Z h106 a1 k1 .byte (6 : Int32) [(.int (nar .byte ((p3 >>> ((0 : Int32) &&& 31)).toInt8.toInt32))), (.int y1), (.int y2), (.int y3), (.int y4), (.int y5)] (.int 0) := Arv.set Ar106 q106 S106 N106z H106 G106 (fits_nar_byte _) W106 0 rfl (Nat.le_of_ble_eq_true rfl)
  have N106 := Fr.snoc X106 N0 g1
  have f107 := Nat.le_trans Z0 (Keep.of_wr W106).1
  have f108 := SA.wr W106
  have f109 := SH.wr W106
  have f110 := SL.wr W106
  have f111 := f101.wr W106 (Or.inl (List.mem_of_getElem? (i := 0) rfl))
  obtain ⟨T112, X112, e112, st112⟩ := getS2 X106 hx hZ hown (host := "") (Or.inl (own_i hw 101 rfl)) Via.refl e106 f110 (g := (mkF m 47 #[rv a1, iv 1, iv p3] [(.int p3), (.int 1), (.ref a1)])) rfl (hb hby d22_47)
  obtain ⟨cl113, Ar113, q113, S113, N113z, H113, G113⟩ := (id V106)
  have hin113 : ¬ ((1 : Int32) < 0 ∨ cl113.slots.size ≤ ((1 : Int32)).toNatClampNeg) := inb_of S113 ⟨by decide, by decide⟩
  obtain ⟨T113, h113, X113, e113, W113, st113⟩ := stB X112 hx hZ e112 Ar113 (j := (1 : Int32)) hin113 (g := (mkF m 52 #[rv a1, iv 1, iv p3] [(.int ((p3 >>> ((8 : Int32) &&& 31)).toInt8.toInt32)), (.int 1), (.ref a1)])) rfl rfl (hb hby d22_52)
  have V113 : Arv Z h113 a1 k1 .byte (6 : Int32) [(.int (nar .byte ((p3 >>> ((0 : Int32) &&& 31)).toInt8.toInt32))), (.int (nar .byte ((p3 >>> ((8 : Int32) &&& 31)).toInt8.toInt32))), (.int y2), (.int y3), (.int y4), (.int y5)] (.int 0) := Arv.set Ar113 q113 S113 N113z H113 G113 (fits_nar_byte _) W113 1 rfl (Nat.le_of_ble_eq_true rfl)
  have N113 := Fr.snoc X113 N106 g1
  have f114 := Nat.le_trans f107 (Keep.of_wr W113).1
  have f115 := f108.wr W113
  have f116 := f109.wr W113
  have f117 := f110.wr W113
  have f118 := f111.wr W113 (Or.inl (List.mem_of_getElem? (i := 0) rfl))
  have pre119 : own_P p e below s₁ (entryFrame m #[(.ref a1), (.int 0), (.int p3)] 3) T113 (mkF m 53 #[rv a1, iv 1, iv p3] []) := fun t k => pre104 t (by
    show Steps p.tables e below (T102.setTop (mkF m 31 #[rv a1, iv 0, iv p3] [(.int 0)])) t
    refine XS.istoreN X102.here hx rfl (hb hby d22_31) rfl (l' := #[rv a1, iv 0, iv p3]) rfl ?_
    refine XS.aloadN X102.here hx rfl (hb hby d22_32) rfl rfl ?_
    refine XS.iloadN X102.here hx rfl (hb hby d22_33) rfl ?_
    refine XS.iinc X102.here hx rfl (hb hby d22_34) rfl (l' := #[rv a1, iv 1, iv p3]) rfl ?_
    refine XS.iloadN X102.here hx rfl (hb hby d22_37) rfl ?_
    refine st105 _ ?_
    refine XS.ishr X105.here hx rfl (hb hby d22_41) rfl ?_
    refine XS.i2b X105.here hx rfl (hb hby d22_42) rfl ?_
    refine st106 _ ?_
    refine XS.aloadN X106.here hx rfl (hb hby d22_44) rfl rfl ?_
    refine XS.iloadN X106.here hx rfl (hb hby d22_45) rfl ?_
    refine XS.iloadN X106.here hx rfl (hb hby d22_46) rfl ?_
    refine st112 _ ?_
    refine XS.ishr X112.here hx rfl (hb hby d22_50) rfl ?_
    refine XS.i2b X112.here hx rfl (hb hby d22_51) rfl ?_
    refine st113 _ ?_
    exact k)
  obtain ⟨fs, hr, hrun, hended, hW, hsame⟩ := X113.leave (v := none) (fun _ => rfl)
  refine ⟨_, _, pre119 _ ?_, hrun, hended, _, _, rfl, ?_, ⟨_, rfl⟩, hW, hsame.mono (by decide) (by decide)⟩
  · exact X113.returnOut hx Bd.returns (hb hby d22_53) hr
  · show QPc_3_0 Z a1 p3 k1 y0 y1 y2 y3 y4 y5 h0 n0 _ T113.heap _
    rw [e113]
    exact ⟨rfl, N113, f118, V113⟩
def QPc_3_1 (Z : State) (a1 : Addr) (p3 : Int32) (k1 : ClassId) (y0 y1 y2 y3 y4 y5 : Int32) (h0 : Heap) (n0 : Nat) (v : Option Value) (h : Heap) (L : List Loc) : Prop := v = none ∧ Fr n0 L ∧ Keep h0 h [a1] ∧ (Arv Z h a1 k1 .byte (6 : Int32) [(.int y0), (.int y1), (.int (own_b0 p3)), (.int (own_b1 p3)), (.int y4), (.int y5)] (.int 0))
theorem rmPc_3_1 (l : Launch) (Z : State) (a0 : Array Value) (hw : own_H Z a0) (ws : List Jvm.Cond) (a1 : Addr) (p3 : Int32) (k1 : ClassId) (y0 y1 y2 y3 y4 y5 : Int32) (h0 : Heap) (n0 : Nat) (Z0 : n0 ≤ h0.size) (V1 : Arv Z h0 a1 k1 .byte (6 : Int32) [(.int y0), (.int y1), (.int y2), (.int y3), (.int y4), (.int y5)] (.int 0)) (SA : Sta Z h0 "java/lang/StringUTF16" "$assertionsDisabled" "Z" (.int 1)) (SH : Sta Z h0 "java/lang/StringUTF16" "HI_BYTE_SHIFT" "I" (.int 0)) (SL : Sta Z h0 "java/lang/StringUTF16" "LO_BYTE_SHIFT" "I" (.int 8)) (g1 : n0 ≤ a1) :
    own_M l own_y19 jdk_52_method_4_code 3 none ws (own_R 0 0 0 0) Z h0 #[(.ref a1), (.int 1), (.int p3)] (QPc_3_1 Z a1 p3 k1 y0 y1 y2 y3 y4 y5 h0 n0) := by
  refine own_body (plainFor_of_name pn_java_lang_StringUTF16) fun p e s m below meth c s₁ Bd hx hby hml (hown : s.vm.findClass "java/lang/StringUTF16" = some m.cls) hnm X0 e0 hZ => ?_
  have N0 := Fr.nil n0
  have pre0 : own_P p e below s₁ (entryFrame m #[(.ref a1), (.int 1), (.int p3)] 3) s₁ (mkF m 0 #[rv a1, iv 1, iv p3] []) := fun t k => castTop (by first | rfl | (simp [entryFrame, mkF, argsToLocals, Value.category]; done)) k
  have f101 := Keep.refl h0 [a1]
  obtain ⟨T102, X102, e102, st102⟩ := getS2 X0 hx hZ hown (host := "") (Or.inl (own_i hw 99 rfl)) Via.refl e0 SA (g := (mkF m 0 #[rv a1, iv 1, iv p3] [])) rfl (hb hby d22_0)
  have pre103 : own_P p e below s₁ (entryFrame m #[(.ref a1), (.int 1), (.int p3)] 3) T102 (mkF m 31 #[rv a1, iv 1, iv p3] [(.int ((1 : Int32) <<< ((1 : Int32) &&& 31)))]) := fun t k => pre0 t (by
    show Steps p.tables e below (s₁.setTop (mkF m 0 #[rv a1, iv 1, iv p3] [])) t
    refine st102 _ ?_
    refine XS.ifYes X102.here hx rfl (pc0 := 3) (pc' := 28) rfl (hb hby d22_3) rfl ((if0 _ _).trans (feq (by decide : ¬ ((1 : Int32) = (0 : Int32)))).2) (by decide) (by decide) ?_
    refine XS.iloadN X102.here hx rfl (hb hby d22_28) rfl ?_
    refine XS.iconst X102.here hx rfl (hb hby d22_29) ?_
    refine XS.ishl X102.here hx rfl (hb hby d22_30) rfl ?_
    exact k)
  have pre104 : own_P p e below s₁ (entryFrame m #[(.ref a1), (.int 1), (.int p3)] 3) T102 (mkF m 31 #[rv a1, iv 1, iv p3] [(.int 2)]) := fun t k => pre103 t (by rw [show ((1 : Int32) <<< ((1 : Int32) &&& 31)) = (2 : Int32) from (by decide)]; exact k)
  obtain ⟨T105, X105, e105, st105⟩ := getS2 X102 hx hZ hown (host := "") (Or.inl (own_i hw 100 rfl)) Via.refl e102 SH (g := (mkF m 38 #[rv a1, iv 3, iv p3] [(.int p3), (.int 2), (.ref a1)])) rfl (hb hby d22_38)
  obtain ⟨cl106, Ar106, q106, S106, N106z, H106, G106⟩ := (id V1)
  have hin106 : ¬ ((2 : Int32) < 0 ∨ cl106.slots.size ≤ ((2 : Int32)).toNatClampNeg) := inb_of S106 ⟨by decide, by decide⟩
  obtain ⟨T106, h106, X106, e106, W106, st106⟩ := stB X105 hx hZ e105 Ar106 (j := (2 : Int32)) hin106 (g := (mkF m 43 #[rv a1, iv 3, iv p3] [(.int ((p3 >>> ((0 : Int32) &&& 31)).toInt8.toInt32)), (.int 2), (.ref a1)])) rfl rfl (hb hby d22_43)
  have V106 : Arv Z h106 a1 k1 .byte (6 : Int32) [(.int y0), (.int y1), (.int (nar .byte ((p3 >>> ((0 : Int32) &&& 31)).toInt8.toInt32))), (.int y3), (.int y4), (.int y5)] (.int 0) := Arv.set Ar106 q106 S106 N106z H106 G106 (fits_nar_byte _) W106 2 rfl (Nat.le_of_ble_eq_true rfl)
  have N106 := Fr.snoc X106 N0 g1
  have f107 := Nat.le_trans Z0 (Keep.of_wr W106).1
  have f108 := SA.wr W106
  have f109 := SH.wr W106
  have f110 := SL.wr W106
  have f111 := f101.wr W106 (Or.inl (List.mem_of_getElem? (i := 0) rfl))
  obtain ⟨T112, X112, e112, st112⟩ := getS2 X106 hx hZ hown (host := "") (Or.inl (own_i hw 101 rfl)) Via.refl e106 f110 (g := (mkF m 47 #[rv a1, iv 3, iv p3] [(.int p3), (.int 3), (.ref a1)])) rfl (hb hby d22_47)
  obtain ⟨cl113, Ar113, q113, S113, N113z, H113, G113⟩ := (id V106)
  have hin113 : ¬ ((3 : Int32) < 0 ∨ cl113.slots.size ≤ ((3 : Int32)).toNatClampNeg) := inb_of S113 ⟨by decide, by decide⟩
  obtain ⟨T113, h113, X113, e113, W113, st113⟩ := stB X112 hx hZ e112 Ar113 (j := (3 : Int32)) hin113 (g := (mkF m 52 #[rv a1, iv 3, iv p3] [(.int ((p3 >>> ((8 : Int32) &&& 31)).toInt8.toInt32)), (.int 3), (.ref a1)])) rfl rfl (hb hby d22_52)
  have V113 : Arv Z h113 a1 k1 .byte (6 : Int32) [(.int y0), (.int y1), (.int (nar .byte ((p3 >>> ((0 : Int32) &&& 31)).toInt8.toInt32))), (.int (nar .byte ((p3 >>> ((8 : Int32) &&& 31)).toInt8.toInt32))), (.int y4), (.int y5)] (.int 0) := Arv.set Ar113 q113 S113 N113z H113 G113 (fits_nar_byte _) W113 3 rfl (Nat.le_of_ble_eq_true rfl)
  have N113 := Fr.snoc X113 N106 g1
  have f114 := Nat.le_trans f107 (Keep.of_wr W113).1
  have f115 := f108.wr W113
  have f116 := f109.wr W113
  have f117 := f110.wr W113
  have f118 := f111.wr W113 (Or.inl (List.mem_of_getElem? (i := 0) rfl))
  have pre119 : own_P p e below s₁ (entryFrame m #[(.ref a1), (.int 1), (.int p3)] 3) T113 (mkF m 53 #[rv a1, iv 3, iv p3] []) := fun t k => pre104 t (by
    show Steps p.tables e below (T102.setTop (mkF m 31 #[rv a1, iv 1, iv p3] [(.int 2)])) t
    refine XS.istoreN X102.here hx rfl (hb hby d22_31) rfl (l' := #[rv a1, iv 2, iv p3]) rfl ?_
    refine XS.aloadN X102.here hx rfl (hb hby d22_32) rfl rfl ?_
    refine XS.iloadN X102.here hx rfl (hb hby d22_33) rfl ?_
    refine XS.iinc X102.here hx rfl (hb hby d22_34) rfl (l' := #[rv a1, iv 3, iv p3]) rfl ?_
    refine XS.iloadN X102.here hx rfl (hb hby d22_37) rfl ?_
    refine st105 _ ?_
    refine XS.ishr X105.here hx rfl (hb hby d22_41) rfl ?_
    refine XS.i2b X105.here hx rfl (hb hby d22_42) rfl ?_
    refine st106 _ ?_
    refine XS.aloadN X106.here hx rfl (hb hby d22_44) rfl rfl ?_
    refine XS.iloadN X106.here hx rfl (hb hby d22_45) rfl ?_
    refine XS.iloadN X106.here hx rfl (hb hby d22_46) rfl ?_
    refine st112 _ ?_
    refine XS.ishr X112.here hx rfl (hb hby d22_50) rfl ?_
    refine XS.i2b X112.here hx rfl (hb hby d22_51) rfl ?_
    refine st113 _ ?_
    exact k)
  obtain ⟨fs, hr, hrun, hended, hW, hsame⟩ := X113.leave (v := none) (fun _ => rfl)
  refine ⟨_, _, pre119 _ ?_, hrun, hended, _, _, rfl, ?_, ⟨_, rfl⟩, hW, hsame.mono (by decide) (by decide)⟩
  · exact X113.returnOut hx Bd.returns (hb hby d22_53) hr
  · show QPc_3_1 Z a1 p3 k1 y0 y1 y2 y3 y4 y5 h0 n0 _ T113.heap _
    rw [e113]
    exact ⟨rfl, N113, f118, V113⟩
def QPc_3_2 (Z : State) (a1 : Addr) (p3 : Int32) (k1 : ClassId) (y0 y1 y2 y3 y4 y5 : Int32) (h0 : Heap) (n0 : Nat) (v : Option Value) (h : Heap) (L : List Loc) : Prop := v = none ∧ Fr n0 L ∧ Keep h0 h [a1] ∧ (Arv Z h a1 k1 .byte (6 : Int32) [(.int y0), (.int y1), (.int y2), (.int y3), (.int (own_b0 p3)), (.int (own_b1 p3))] (.int 0))
theorem rmPc_3_2 (l : Launch) (Z : State) (a0 : Array Value) (hw : own_H Z a0) (ws : List Jvm.Cond) (a1 : Addr) (p3 : Int32) (k1 : ClassId) (y0 y1 y2 y3 y4 y5 : Int32) (h0 : Heap) (n0 : Nat) (Z0 : n0 ≤ h0.size) (V1 : Arv Z h0 a1 k1 .byte (6 : Int32) [(.int y0), (.int y1), (.int y2), (.int y3), (.int y4), (.int y5)] (.int 0)) (SA : Sta Z h0 "java/lang/StringUTF16" "$assertionsDisabled" "Z" (.int 1)) (SH : Sta Z h0 "java/lang/StringUTF16" "HI_BYTE_SHIFT" "I" (.int 0)) (SL : Sta Z h0 "java/lang/StringUTF16" "LO_BYTE_SHIFT" "I" (.int 8)) (g1 : n0 ≤ a1) :
    own_M l own_y19 jdk_52_method_4_code 3 none ws (own_R 0 0 0 0) Z h0 #[(.ref a1), (.int 2), (.int p3)] (QPc_3_2 Z a1 p3 k1 y0 y1 y2 y3 y4 y5 h0 n0) := by
  refine own_body (plainFor_of_name pn_java_lang_StringUTF16) fun p e s m below meth c s₁ Bd hx hby hml (hown : s.vm.findClass "java/lang/StringUTF16" = some m.cls) hnm X0 e0 hZ => ?_
  have N0 := Fr.nil n0
  have pre0 : own_P p e below s₁ (entryFrame m #[(.ref a1), (.int 2), (.int p3)] 3) s₁ (mkF m 0 #[rv a1, iv 2, iv p3] []) := fun t k => castTop (by first | rfl | (simp [entryFrame, mkF, argsToLocals, Value.category]; done)) k
  have f101 := Keep.refl h0 [a1]
  obtain ⟨T102, X102, e102, st102⟩ := getS2 X0 hx hZ hown (host := "") (Or.inl (own_i hw 99 rfl)) Via.refl e0 SA (g := (mkF m 0 #[rv a1, iv 2, iv p3] [])) rfl (hb hby d22_0)
  have pre103 : own_P p e below s₁ (entryFrame m #[(.ref a1), (.int 2), (.int p3)] 3) T102 (mkF m 31 #[rv a1, iv 2, iv p3] [(.int ((2 : Int32) <<< ((1 : Int32) &&& 31)))]) := fun t k => pre0 t (by
    show Steps p.tables e below (s₁.setTop (mkF m 0 #[rv a1, iv 2, iv p3] [])) t
    refine st102 _ ?_
    refine XS.ifYes X102.here hx rfl (pc0 := 3) (pc' := 28) rfl (hb hby d22_3) rfl ((if0 _ _).trans (feq (by decide : ¬ ((1 : Int32) = (0 : Int32)))).2) (by decide) (by decide) ?_
    refine XS.iloadN X102.here hx rfl (hb hby d22_28) rfl ?_
    refine XS.iconst X102.here hx rfl (hb hby d22_29) ?_
    refine XS.ishl X102.here hx rfl (hb hby d22_30) rfl ?_
    exact k)
  have pre104 : own_P p e below s₁ (entryFrame m #[(.ref a1), (.int 2), (.int p3)] 3) T102 (mkF m 31 #[rv a1, iv 2, iv p3] [(.int 4)]) := fun t k => pre103 t (by rw [show ((2 : Int32) <<< ((1 : Int32) &&& 31)) = (4 : Int32) from (by decide)]; exact k)
  obtain ⟨T105, X105, e105, st105⟩ := getS2 X102 hx hZ hown (host := "") (Or.inl (own_i hw 100 rfl)) Via.refl e102 SH (g := (mkF m 38 #[rv a1, iv 5, iv p3] [(.int p3), (.int 4), (.ref a1)])) rfl (hb hby d22_38)
  obtain ⟨cl106, Ar106, q106, S106, N106z, H106, G106⟩ := (id V1)
  have hin106 : ¬ ((4 : Int32) < 0 ∨ cl106.slots.size ≤ ((4 : Int32)).toNatClampNeg) := inb_of S106 ⟨by decide, by decide⟩
  obtain ⟨T106, h106, X106, e106, W106, st106⟩ := stB X105 hx hZ e105 Ar106 (j := (4 : Int32)) hin106 (g := (mkF m 43 #[rv a1, iv 5, iv p3] [(.int ((p3 >>> ((0 : Int32) &&& 31)).toInt8.toInt32)), (.int 4), (.ref a1)])) rfl rfl (hb hby d22_43)
  have V106 : Arv Z h106 a1 k1 .byte (6 : Int32) [(.int y0), (.int y1), (.int y2), (.int y3), (.int (nar .byte ((p3 >>> ((0 : Int32) &&& 31)).toInt8.toInt32))), (.int y5)] (.int 0) := Arv.set Ar106 q106 S106 N106z H106 G106 (fits_nar_byte _) W106 4 rfl (Nat.le_of_ble_eq_true rfl)
  have N106 := Fr.snoc X106 N0 g1
  have f107 := Nat.le_trans Z0 (Keep.of_wr W106).1
  have f108 := SA.wr W106
  have f109 := SH.wr W106
  have f110 := SL.wr W106
  have f111 := f101.wr W106 (Or.inl (List.mem_of_getElem? (i := 0) rfl))
  obtain ⟨T112, X112, e112, st112⟩ := getS2 X106 hx hZ hown (host := "") (Or.inl (own_i hw 101 rfl)) Via.refl e106 f110 (g := (mkF m 47 #[rv a1, iv 5, iv p3] [(.int p3), (.int 5), (.ref a1)])) rfl (hb hby d22_47)
  obtain ⟨cl113, Ar113, q113, S113, N113z, H113, G113⟩ := (id V106)
  have hin113 : ¬ ((5 : Int32) < 0 ∨ cl113.slots.size ≤ ((5 : Int32)).toNatClampNeg) := inb_of S113 ⟨by decide, by decide⟩
  obtain ⟨T113, h113, X113, e113, W113, st113⟩ := stB X112 hx hZ e112 Ar113 (j := (5 : Int32)) hin113 (g := (mkF m 52 #[rv a1, iv 5, iv p3] [(.int ((p3 >>> ((8 : Int32) &&& 31)).toInt8.toInt32)), (.int 5), (.ref a1)])) rfl rfl (hb hby d22_52)
  have V113 : Arv Z h113 a1 k1 .byte (6 : Int32) [(.int y0), (.int y1), (.int y2), (.int y3), (.int (nar .byte ((p3 >>> ((0 : Int32) &&& 31)).toInt8.toInt32))), (.int (nar .byte ((p3 >>> ((8 : Int32) &&& 31)).toInt8.toInt32)))] (.int 0) := Arv.set Ar113 q113 S113 N113z H113 G113 (fits_nar_byte _) W113 5 rfl (Nat.le_of_ble_eq_true rfl)
  have N113 := Fr.snoc X113 N106 g1
  have f114 := Nat.le_trans f107 (Keep.of_wr W113).1
  have f115 := f108.wr W113
  have f116 := f109.wr W113
  have f117 := f110.wr W113
  have f118 := f111.wr W113 (Or.inl (List.mem_of_getElem? (i := 0) rfl))
  have pre119 : own_P p e below s₁ (entryFrame m #[(.ref a1), (.int 2), (.int p3)] 3) T113 (mkF m 53 #[rv a1, iv 5, iv p3] []) := fun t k => pre104 t (by
    show Steps p.tables e below (T102.setTop (mkF m 31 #[rv a1, iv 2, iv p3] [(.int 4)])) t
    refine XS.istoreN X102.here hx rfl (hb hby d22_31) rfl (l' := #[rv a1, iv 4, iv p3]) rfl ?_
    refine XS.aloadN X102.here hx rfl (hb hby d22_32) rfl rfl ?_
    refine XS.iloadN X102.here hx rfl (hb hby d22_33) rfl ?_
    refine XS.iinc X102.here hx rfl (hb hby d22_34) rfl (l' := #[rv a1, iv 5, iv p3]) rfl ?_
    refine XS.iloadN X102.here hx rfl (hb hby d22_37) rfl ?_
    refine st105 _ ?_
    refine XS.ishr X105.here hx rfl (hb hby d22_41) rfl ?_
    refine XS.i2b X105.here hx rfl (hb hby d22_42) rfl ?_
    refine st106 _ ?_
    refine XS.aloadN X106.here hx rfl (hb hby d22_44) rfl rfl ?_
    refine XS.iloadN X106.here hx rfl (hb hby d22_45) rfl ?_
    refine XS.iloadN X106.here hx rfl (hb hby d22_46) rfl ?_
    refine st112 _ ?_
    refine XS.ishr X112.here hx rfl (hb hby d22_50) rfl ?_
    refine XS.i2b X112.here hx rfl (hb hby d22_51) rfl ?_
    refine st113 _ ?_
    exact k)
  obtain ⟨fs, hr, hrun, hended, hW, hsame⟩ := X113.leave (v := none) (fun _ => rfl)
  refine ⟨_, _, pre119 _ ?_, hrun, hended, _, _, rfl, ?_, ⟨_, rfl⟩, hW, hsame.mono (by decide) (by decide)⟩
  · exact X113.returnOut hx Bd.returns (hb hby d22_53) hr
  · show QPc_3_2 Z a1 p3 k1 y0 y1 y2 y3 y4 y5 h0 n0 _ T113.heap _
    rw [e113]
    exact ⟨rfl, N113, f118, V113⟩
def QNl_3 (Z : State)  (h0 : Heap) (n0 : Nat) (v : Option Value) (h : Heap) (L : List Loc) : Prop := v = some (.int 6) ∧ Fr n0 L ∧ h = h0
theorem rmNl_3 (l : Launch) (Z : State) (a0 : Array Value) (hw : own_H Z a0) (ws : List Jvm.Cond)  (h0 : Heap) (n0 : Nat) (Z0 : n0 ≤ h0.size) :
    own_M l own_y20 jdk_52_method_3_code 1 (some .int) ws (own_R 0 0 0 0) Z h0 #[(.int 3)] (QNl_3 Z h0 n0) := by
  refine own_body (plainFor_of_name pn_java_lang_StringUTF16) fun p e s m below meth c s₁ Bd hx hby hml (hown : s.vm.findClass "java/lang/StringUTF16" = some m.cls) hnm X0 e0 hZ => ?_
  have N0 := Fr.nil n0
  have pre0 : own_P p e below s₁ (entryFrame m #[(.int 3)] 1) s₁ (mkF m 0 #[iv 3] []) := fun t k => castTop (by first | rfl | (simp [entryFrame, mkF, argsToLocals, Value.category]; done)) k
  have pre101 : own_P p e below s₁ (entryFrame m #[(.int 3)] 1) s₁ (mkF m 58 #[iv 3] [(.int ((3 : Int32) <<< ((1 : Int32) &&& 31)))]) := fun t k => pre0 t (by
    show Steps p.tables e below (s₁.setTop (mkF m 0 #[iv 3] [])) t
    refine XS.iloadN X0.here hx rfl (hb hby d21_0) rfl ?_
    refine XS.ifYes X0.here hx rfl (pc0 := 1) (pc' := 12) rfl (hb hby d21_1) rfl ((if0 _ _).trans (flt (by decide : ¬ ((3 : Int32) < (0 : Int32)))).2.1) (by decide) (by decide) ?_
    refine XS.iloadN X0.here hx rfl (hb hby d21_12) rfl ?_
    refine X0.ldcInt hx hown (own_m hZ hw 95) (g := (mkF m 13 #[iv 3] [(.int 3)])) rfl (hb hby d21_13) _ ?_
    refine XS.icmpYes X0.here hx rfl (pc0 := 15) (pc' := 55) rfl (hb hby d21_15) rfl (tlt (by decide : (3 : Int32) < (1073741823 : Int32))).1 (by decide) (by decide) ?_
    refine XS.iloadN X0.here hx rfl (hb hby d21_55) rfl ?_
    refine XS.iconst X0.here hx rfl (hb hby d21_56) ?_
    refine XS.ishl X0.here hx rfl (hb hby d21_57) rfl ?_
    exact k)
  have pre102 : own_P p e below s₁ (entryFrame m #[(.int 3)] 1) s₁ (mkF m 58 #[iv 3] [(.int 6)]) := fun t k => pre101 t (by rw [show ((3 : Int32) <<< ((1 : Int32) &&& 31)) = (6 : Int32) from (by decide)]; exact k)
  obtain ⟨fs, hr, hrun, hended, hW, hsame⟩ := X0.leave (v := some (.int 6)) (fun h => by rw [Bd.returns] at h; cases h)
  refine ⟨_, _, pre102 _ ?_, hrun, hended, _, _, rfl, ?_, ⟨_, rfl⟩, hW, hsame.mono (by decide) (by decide)⟩
  · exact retI X0 hx Bd.returns (hb hby d21_58) hr
  · show QNl_3 Z h0 n0 _ s₁.heap _
    rw [e0]
    exact ⟨rfl, N0, rfl⟩
def QNf_3 (Z : State)  (h0 : Heap) (n0 : Nat) (v : Option Value) (h : Heap) (L : List Loc) : Prop := ∃ (b : Addr) (kb : ClassId), v = some (.ref b) ∧ Fr n0 L ∧ Keep h0 h [] ∧ (n0 ≤ b) ∧ (h0.size ≤ b) ∧ (Arv Z h b kb .byte (6 : Int32) [(.int 0), (.int 0), (.int 0), (.int 0), (.int 0), (.int 0)] (.int 0))
theorem rmNf_3 (l : Launch) (Z : State) (a0 : Array Value) (hw : own_H Z a0) (ws : List Jvm.Cond)  (h0 : Heap) (n0 : Nat) (Z0 : n0 ≤ h0.size) :
    own_M l own_y21 jdk_52_method_2_code 1 (some (.array .byte)) ws (own_R 1 1 6 12) Z h0 #[(.int 3)] (QNf_3 Z h0 n0) := by
  refine own_body (plainFor_of_name pn_java_lang_StringUTF16) fun p e s m below meth c s₁ Bd hx hby hml (hown : s.vm.findClass "java/lang/StringUTF16" = some m.cls) hnm X0 e0 hZ => ?_
  have N0 := Fr.nil n0
  have pre0 : own_P p e below s₁ (entryFrame m #[(.int 3)] 1) s₁ (mkF m 0 #[iv 3] []) := fun t k => castTop (by first | rfl | (simp [entryFrame, mkF, argsToLocals, Value.category]; done)) k
  have f101 := Keep.refl h0 []
  obtain ⟨_, _, ⟨T102, L102, k102, n102⟩, -, X102, ⟨Lc102, hQ102, l102, y102, z102⟩, st102⟩ := Jvm.LawKit.callS X0 hx (y := own_y20) hown (own_m hZ hw 92) (own_m hZ hw 93) (own_m hZ hw 42) (own_m hZ hw 94) (by decide) (backOf (W := 0) (rmNl_3 l Z a0 hw []  h0 n0 Z0 ) hZ (own_i hw 94 rfl) (own_i hw 42 rfl) (by decide) (by decide)) (g := (mkF m 1 #[iv 3] [(.int 3)])) rfl (by rw [hml]; rfl) (argsL := [(.int 3)]) (rest := []) (lenOf pd_11 rfl) rfl (Nat.le_of_eq rfl) (hb hby d20_1) (fun _ _ => ⟨rfl, e0, own_le rfl, own_le rfl⟩)
  dsimp only [Pt.U, Pt.locs, Pt.cells, Pt.slots] at X102 l102 y102 z102 st102 hQ102
  subst l102 y102 z102
  obtain ⟨rfl, N102q, e102⟩ := hQ102
  have N102 := Fr.app N0 N102q
  obtain ⟨T103, h103, k103, X103, e103, E103, A103, st103⟩ := newP X102 hx hZ (own_i hw 23 rfl) e102 (g := (mkF m 4 #[iv 3] [(.int 6)])) rfl (hb hby d20_4) rfl (by decide) (cap := 6) (by decide) (by decide) (by decide) (by decide)
  obtain ⟨b103, g103⟩ : ∃ z, z = h0.size := ⟨_, rfl⟩
  rw [← g103] at A103 st103
  have ga104 : n0 ≤ b103 := Nat.le_trans Z0 (Nat.le_of_eq g103.symm)
  have sz105 : h0.size ≤ b103 := Nat.le_trans f101.1 (Nat.le_of_eq g103.symm)
  have V103 : Arv Z h103 b103 k103 .byte (6 : Int32) [(.int 0), (.int 0), (.int 0), (.int 0), (.int 0), (.int 0)] (.int 0) := (Arv.new A103 (by decide)).pad (pad_rep [] (.int 0) 6)
  have f106 := Nat.le_trans Z0 E103.1
  have f107 := f101.ext E103
  have pre108 : own_P p e below s₁ (entryFrame m #[(.int 3)] 1) T103 (mkF m 6 #[iv 3] [(.ref b103)]) := fun t k => pre0 t (by
    show Steps p.tables e below (s₁.setTop (mkF m 0 #[iv 3] [])) t
    refine XS.iloadN X0.here hx rfl (hb hby d20_0) rfl ?_
    refine st102 _ ?_
    refine st103 _ ?_
    exact k)
  obtain ⟨fs, hr, hrun, hended, hW, hsame⟩ := X103.leave (v := some (.ref b103)) (fun h => by rw [Bd.returns] at h; cases h)
  refine ⟨_, _, pre108 _ ?_, hrun, hended, _, _, rfl, ?_, ⟨_, rfl⟩, hW, hsame.mono (by decide) (by decide)⟩
  · exact retOut X103 hx Bd.returns rfl (Or.inr (Or.inr (Or.inr (Or.inr ⟨rfl, rfl, rfl⟩)))) (hb hby d20_6) hr
  · show QNf_3 Z h0 n0 _ T103.heap _
    rw [e103]
    exact ⟨b103, k103, rfl, N102, f107, ga104, sz105, V103⟩
def QTb_3 (Z : State) (a1 : Addr) (k1 : ClassId) (x0 x1 x2 : Int32) (h0 : Heap) (n0 : Nat) (v : Option Value) (h : Heap) (L : List Loc) : Prop := ∃ (b : Addr) (kb : ClassId), v = some (.ref b) ∧ Fr n0 L ∧ Keep h0 h [] ∧ (n0 ≤ b) ∧ (h0.size ≤ b) ∧ (Arv Z h b kb .byte (6 : Int32) [(.int (own_b0 x0)), (.int (own_b1 x0)), (.int (own_b0 x1)), (.int (own_b1 x1)), (.int (own_b0 x2)), (.int (own_b1 x2))] (.int 0))
theorem rmTb_3 (l : Launch) (Z : State) (a0 : Array Value) (hw : own_H Z a0) (ws : List Jvm.Cond) (a1 : Addr) (k1 : ClassId) (x0 x1 x2 : Int32) (h0 : Heap) (n0 : Nat) (Z0 : n0 ≤ h0.size) (V1 : Arv Z h0 a1 k1 .char (3 : Int32) [(.int x0), (.int x1), (.int x2)] (.int 0)) (SA : Sta Z Z.heap "java/lang/StringUTF16" "$assertionsDisabled" "Z" (.int 1)) (SH : Sta Z Z.heap "java/lang/StringUTF16" "HI_BYTE_SHIFT" "I" (.int 0)) (SL : Sta Z Z.heap "java/lang/StringUTF16" "LO_BYTE_SHIFT" "I" (.int 8)) (O0 : Old Z n0 h0) :
    own_M l own_y22 jdk_52_method_14_code 5 (some (.array .byte)) ws (own_R 2 1 6 24) Z h0 #[(.ref a1), (.int 0), (.int 3)] (QTb_3 Z a1 k1 x0 x1 x2 h0 n0) := by
  refine own_body (plainFor_of_name pn_java_lang_StringUTF16) fun p e s m below meth c s₁ Bd hx hby hml (hown : s.vm.findClass "java/lang/StringUTF16" = some m.cls) hnm X0 e0 hZ => ?_
  have N0 := Fr.nil n0
  have pre0 : own_P p e below s₁ (entryFrame m #[(.ref a1), (.int 0), (.int 3)] 5) s₁ (mkF m 0 #[rv a1, iv 0, iv 3, .unset, .unset] []) := fun t k => castTop (by first | rfl | (simp [entryFrame, mkF, argsToLocals, Value.category]; done)) k
  have f101 := Keep.refl h0 []
  obtain ⟨_, _, ⟨T102, L102, k102, n102⟩, -, X102, ⟨Lc102, hQ102, l102, y102, z102⟩, st102⟩ := Jvm.LawKit.callS X0 hx (y := own_y21) hown (own_m hZ hw 89) (own_m hZ hw 90) (own_m hZ hw 42) (own_m hZ hw 91) (by decide) (backOf (W := 0) (rmNf_3 l Z a0 hw []  h0 n0 Z0 ) hZ (own_i hw 91 rfl) (own_i hw 42 rfl) (by decide) (by decide)) (g := (mkF m 1 #[rv a1, iv 0, iv 3, .unset, .unset] [(.int 3)])) rfl (by rw [hml]; rfl) (argsL := [(.int 3)]) (rest := []) (lenOf pd_12 rfl) rfl (Nat.le_of_eq rfl) (hb hby d19_1) (fun _ _ => ⟨rfl, e0, own_le rfl, own_le rfl⟩)
  dsimp only [Pt.U, Pt.locs, Pt.cells, Pt.slots] at X102 l102 y102 z102 st102 hQ102
  subst l102 y102 z102
  obtain ⟨b103, x104, rfl, N102q, K102, f105, f106, f107⟩ := hQ102
  have N102 := Fr.app N0 N102q
  have ne108 : a1 ≠ b103 := Nat.ne_of_lt (Nat.lt_of_lt_of_le V1.lt f106)
  have f109 := Nat.le_trans Z0 K102.1
  have f110 := V1.keep K102 nin0
  have f111 := O0.keep K102 all0
  have f112 := f101.trans K102 all0
  obtain ⟨cl113, Ar113, q113, S113, N113z, H113, G113⟩ := (id f110)
  have hin113 : ¬ ((0 : Int32) < 0 ∨ cl113.slots.size ≤ ((0 : Int32)).toNatClampNeg) := inb_of S113 ⟨by decide, by decide⟩
  have hat113 : cl113.slots[((0 : Int32)).toNatClampNeg]? = some (.int x0) := Has.at H113 hin113 rfl
  obtain ⟨_, _, ⟨T114, L114, k114, n114⟩, -, X114, ⟨Lc114, hQ114, l114, y114, z114⟩, st114⟩ := Jvm.LawKit.callS X102 hx (y := own_y19) hown (own_m hZ hw 96) (own_m hZ hw 97) (own_m hZ hw 42) (own_m hZ hw 98) (by decide) (backOf (W := 0) (rmPc_3_0 l Z a0 hw [] b103 x0 x104 (0 : Int32) (0 : Int32) (0 : Int32) (0 : Int32) (0 : Int32) (0 : Int32) T102.heap n0 f109 f107 (SA.ext f111.2) (SH.ext f111.2) (SL.ext f111.2) f105) hZ (own_i hw 98 rfl) (own_i hw 42 rfl) (by decide) (by decide)) (g := (mkF m 20 #[rv a1, iv 0, iv 3, rv b103, iv 0] [(.int x0), (.int 0), (.ref b103)])) rfl (by rw [hml]; rfl) (argsL := [(.ref b103), (.int 0), (.int x0)]) (rest := []) (lenOf pd_13 rfl) rfl (Nat.le_of_eq rfl) (hb hby d19_20) (fun _ _ => ⟨rfl, rfl, own_le rfl, own_le rfl⟩)
  dsimp only [Pt.U, Pt.locs, Pt.cells, Pt.slots] at X114 l114 y114 z114 st114 hQ114
  subst l114 y114 z114
  obtain ⟨rfl, N114q, K114, f115⟩ := hQ114
  have N114 := Fr.app N102 N114q
  have f116 := Nat.le_trans f109 K114.1
  have f117 := f110.keep K114 (ninS ne108 nin0)
  have f118 := f111.keep K114 (allS f105 all0)
  have f119 := f112.trans K114 (allS (Or.inr f106) all0)
  obtain ⟨cl120, Ar120, q120, S120, N120z, H120, G120⟩ := (id f117)
  have hin120 : ¬ ((1 : Int32) < 0 ∨ cl120.slots.size ≤ ((1 : Int32)).toNatClampNeg) := inb_of S120 ⟨by decide, by decide⟩
  have hat120 : cl120.slots[((1 : Int32)).toNatClampNeg]? = some (.int x1) := Has.at H120 hin120 rfl
  obtain ⟨_, _, ⟨T121, L121, k121, n121⟩, -, X121, ⟨Lc121, hQ121, l121, y121, z121⟩, st121⟩ := Jvm.LawKit.callS X114 hx (y := own_y19) hown (own_m hZ hw 96) (own_m hZ hw 97) (own_m hZ hw 42) (own_m hZ hw 98) (by decide) (backOf (W := 0) (rmPc_3_1 l Z a0 hw [] b103 x1 x104 (own_b0 x0) (own_b1 x0) (0 : Int32) (0 : Int32) (0 : Int32) (0 : Int32) T114.heap n0 f116 f115 (SA.ext f118.2) (SH.ext f118.2) (SL.ext f118.2) f105) hZ (own_i hw 98 rfl) (own_i hw 42 rfl) (by decide) (by decide)) (g := (mkF m 20 #[rv a1, iv 1, iv 3, rv b103, iv 1] [(.int x1), (.int 1), (.ref b103)])) rfl (by rw [hml]; rfl) (argsL := [(.ref b103), (.int 1), (.int x1)]) (rest := []) (lenOf pd_13 rfl) rfl (Nat.le_of_eq rfl) (hb hby d19_20) (fun _ _ => ⟨rfl, rfl, own_le rfl, own_le rfl⟩)
  dsimp only [Pt.U, Pt.locs, Pt.cells, Pt.slots] at X121 l121 y121 z121 st121 hQ121
  subst l121 y121 z121
  obtain ⟨rfl, N121q, K121, f122⟩ := hQ121
  have N121 := Fr.app N114 N121q
  have f123 := Nat.le_trans f116 K121.1
  have f124 := f117.keep K121 (ninS ne108 nin0)
  have f125 := f118.keep K121 (allS f105 all0)
  have f126 := f119.trans K121 (allS (Or.inr f106) all0)
  obtain ⟨cl127, Ar127, q127, S127, N127z, H127, G127⟩ := (id f124)
  have hin127 : ¬ ((2 : Int32) < 0 ∨ cl127.slots.size ≤ ((2 : Int32)).toNatClampNeg) := inb_of S127 ⟨by decide, by decide⟩
  have hat127 : cl127.slots[((2 : Int32)).toNatClampNeg]? = some (.int x2) := Has.at H127 hin127 rfl
  obtain ⟨_, _, ⟨T128, L128, k128, n128⟩, -, X128, ⟨Lc128, hQ128, l128, y128, z128⟩, st128⟩ := Jvm.LawKit.callS X121 hx (y := own_y19) hown (own_m hZ hw 96) (own_m hZ hw 97) (own_m hZ hw 42) (own_m hZ hw 98) (by decide) (backOf (W := 0) (rmPc_3_2 l Z a0 hw [] b103 x2 x104 (own_b0 x0) (own_b1 x0) (own_b0 x1) (own_b1 x1) (0 : Int32) (0 : Int32) T121.heap n0 f123 f122 (SA.ext f125.2) (SH.ext f125.2) (SL.ext f125.2) f105) hZ (own_i hw 98 rfl) (own_i hw 42 rfl) (by decide) (by decide)) (g := (mkF m 20 #[rv a1, iv 2, iv 3, rv b103, iv 2] [(.int x2), (.int 2), (.ref b103)])) rfl (by rw [hml]; rfl) (argsL := [(.ref b103), (.int 2), (.int x2)]) (rest := []) (lenOf pd_13 rfl) rfl (Nat.le_of_eq rfl) (hb hby d19_20) (fun _ _ => ⟨rfl, rfl, own_le rfl, own_le rfl⟩)
  dsimp only [Pt.U, Pt.locs, Pt.cells, Pt.slots] at X128 l128 y128 z128 st128 hQ128
  subst l128 y128 z128
  obtain ⟨rfl, N128q, K128, f129⟩ := hQ128
  have N128 := Fr.app N121 N128q
  have f130 := Nat.le_trans f123 K128.1
  have f131 := f124.keep K128 (ninS ne108 nin0)
  have f132 := f125.keep K128 (allS f105 all0)
  have f133 := f126.trans K128 (allS (Or.inr f106) all0)
  have pre134 : own_P p e below s₁ (entryFrame m #[(.ref a1), (.int 0), (.int 3)] 5) T128 (mkF m 33 #[rv a1, iv 3, iv 3, rv b103, iv 3] [(.ref b103)]) := fun t k => pre0 t (by
    show Steps p.tables e below (s₁.setTop (mkF m 0 #[rv a1, iv 0, iv 3, .unset, .unset] [])) t
    refine XS.iloadN X0.here hx rfl (hb hby d19_0) rfl ?_
    refine st102 _ ?_
    refine XS.astoreN X102.here hx rfl (hb hby d19_4) rfl rfl (l' := #[rv a1, iv 0, iv 3, rv b103, .unset]) rfl ?_
    refine XS.iconst X102.here hx rfl (hb hby d19_5) ?_
    refine XS.istore X102.here hx rfl (hb hby d19_6) rfl (l' := #[rv a1, iv 0, iv 3, rv b103, iv 0]) rfl ?_
    refine XS.iload X102.here hx rfl (hb hby d19_8) rfl ?_
    refine XS.iloadN X102.here hx rfl (hb hby d19_10) rfl ?_
    refine XS.icmpNo X102.here hx rfl (hb hby d19_11) rfl (tlt (by decide : (0 : Int32) < (3 : Int32))).2.1 ?_
    refine XS.aloadN X102.here hx rfl (hb hby d19_14) rfl rfl ?_
    refine XS.iload X102.here hx rfl (hb hby d19_15) rfl ?_
    refine XS.aloadN X102.here hx rfl (hb hby d19_17) rfl rfl ?_
    refine XS.iloadN X102.here hx rfl (hb hby d19_18) rfl ?_
    refine X102.caload hx (j := (0 : Int32)) (v := (.int x0)) Ar113.1 (State.isArrayOf_alike hZ.alike Ar113.2.1) Ar113.2.2 hin113 hat113 (g := (mkF m 19 #[rv a1, iv 0, iv 3, rv b103, iv 0] [(.int 0), (.ref a1), (.int 0), (.ref b103)])) rfl rfl (hb hby d19_19) _ ?_
    refine st114 _ ?_
    refine XS.iinc X114.here hx rfl (hb hby d19_23) rfl (l' := #[rv a1, iv 1, iv 3, rv b103, iv 0]) rfl ?_
    refine XS.iinc X114.here hx rfl (hb hby d19_26) rfl (l' := #[rv a1, iv 1, iv 3, rv b103, iv 1]) rfl ?_
    refine XS.goto X114.here hx rfl (pc0 := 29) (pc' := 8) rfl (hb hby d19_29) (by decide) (by decide) ?_
    refine XS.iload X114.here hx rfl (hb hby d19_8) rfl ?_
    refine XS.iloadN X114.here hx rfl (hb hby d19_10) rfl ?_
    refine XS.icmpNo X114.here hx rfl (hb hby d19_11) rfl (tlt (by decide : (1 : Int32) < (3 : Int32))).2.1 ?_
    refine XS.aloadN X114.here hx rfl (hb hby d19_14) rfl rfl ?_
    refine XS.iload X114.here hx rfl (hb hby d19_15) rfl ?_
    refine XS.aloadN X114.here hx rfl (hb hby d19_17) rfl rfl ?_
    refine XS.iloadN X114.here hx rfl (hb hby d19_18) rfl ?_
    refine X114.caload hx (j := (1 : Int32)) (v := (.int x1)) Ar120.1 (State.isArrayOf_alike hZ.alike Ar120.2.1) Ar120.2.2 hin120 hat120 (g := (mkF m 19 #[rv a1, iv 1, iv 3, rv b103, iv 1] [(.int 1), (.ref a1), (.int 1), (.ref b103)])) rfl rfl (hb hby d19_19) _ ?_
    refine st121 _ ?_
    refine XS.iinc X121.here hx rfl (hb hby d19_23) rfl (l' := #[rv a1, iv 2, iv 3, rv b103, iv 1]) rfl ?_
    refine XS.iinc X121.here hx rfl (hb hby d19_26) rfl (l' := #[rv a1, iv 2, iv 3, rv b103, iv 2]) rfl ?_
    refine XS.goto X121.here hx rfl (pc0 := 29) (pc' := 8) rfl (hb hby d19_29) (by decide) (by decide) ?_
    refine XS.iload X121.here hx rfl (hb hby d19_8) rfl ?_
    refine XS.iloadN X121.here hx rfl (hb hby d19_10) rfl ?_
    refine XS.icmpNo X121.here hx rfl (hb hby d19_11) rfl (tlt (by decide : (2 : Int32) < (3 : Int32))).2.1 ?_
    refine XS.aloadN X121.here hx rfl (hb hby d19_14) rfl rfl ?_
    refine XS.iload X121.here hx rfl (hb hby d19_15) rfl ?_
    refine XS.aloadN X121.here hx rfl (hb hby d19_17) rfl rfl ?_
    refine XS.iloadN X121.here hx rfl (hb hby d19_18) rfl ?_
    refine X121.caload hx (j := (2 : Int32)) (v := (.int x2)) Ar127.1 (State.isArrayOf_alike hZ.alike Ar127.2.1) Ar127.2.2 hin127 hat127 (g := (mkF m 19 #[rv a1, iv 2, iv 3, rv b103, iv 2] [(.int 2), (.ref a1), (.int 2), (.ref b103)])) rfl rfl (hb hby d19_19) _ ?_
    refine st128 _ ?_
    refine XS.iinc X128.here hx rfl (hb hby d19_23) rfl (l' := #[rv a1, iv 3, iv 3, rv b103, iv 2]) rfl ?_
    refine XS.iinc X128.here hx rfl (hb hby d19_26) rfl (l' := #[rv a1, iv 3, iv 3, rv b103, iv 3]) rfl ?_
    refine XS.goto X128.here hx rfl (pc0 := 29) (pc' := 8) rfl (hb hby d19_29) (by decide) (by decide) ?_
    refine XS.iload X128.here hx rfl (hb hby d19_8) rfl ?_
    refine XS.iloadN X128.here hx rfl (hb hby d19_10) rfl ?_
    refine XS.icmpYes X128.here hx rfl (pc0 := 11) (pc' := 32) rfl (hb hby d19_11) rfl (flt (by decide : ¬ ((3 : Int32) < (3 : Int32)))).2.1 (by decide) (by decide) ?_
    refine XS.aloadN X128.here hx rfl (hb hby d19_32) rfl rfl ?_
    exact k)
  obtain ⟨fs, hr, hrun, hended, hW, hsame⟩ := X128.leave (v := some (.ref b103)) (fun h => by rw [Bd.returns] at h; cases h)
  refine ⟨_, _, pre134 _ ?_, hrun, hended, _, _, rfl, ?_, ⟨_, rfl⟩, hW, hsame.mono (by decide) (by decide)⟩
  · exact retOut X128 hx Bd.returns rfl (Or.inr (Or.inr (Or.inr (Or.inr ⟨rfl, rfl, rfl⟩)))) (hb hby d19_33) hr
  · show QTb_3 Z a1 k1 x0 x1 x2 h0 n0 _ T128.heap _
    exact ⟨b103, x104, rfl, N128, f133, f105, f106, f129⟩
def QCU_3 (Z : State) (a1 a3 : Addr) (k1 k3 : ClassId) (x0 x1 x2 : Int32) (h0 : Heap) (n0 : Nat) (v : Option Value) (h : Heap) (L : List Loc) : Prop := ∃ (r : Int32), v = some (.int r) ∧ Fr n0 L ∧ Keep h0 h [a3] ∧ ((r = (0 : Int32) ∧ (255 : Int32) < x0) ∨ (r = (1 : Int32) ∧ (255 : Int32) < x1) ∨ (r = (2 : Int32) ∧ (255 : Int32) < x2))
theorem rmCU_3 (l : Launch) (Z : State) (a0 : Array Value) (hw : own_H Z a0) (ws : List Jvm.Cond) (a1 a3 : Addr) (k1 k3 : ClassId) (x0 x1 x2 : Int32) (h0 : Heap) (n0 : Nat) (Z0 : n0 ≤ h0.size) (V1 : Arv Z h0 a1 k1 .char (3 : Int32) [(.int x0), (.int x1), (.int x2)] (.int 0)) (V3 : Arv Z h0 a3 k3 .byte (3 : Int32) [(.int 0), (.int 0), (.int 0)] (.int 0)) (g3 : n0 ≤ a3) (ne : a1 ≠ a3) (hU : ¬ ((¬ ((255 : Int32) < x0)) ∧ (¬ ((255 : Int32) < x1)) ∧ (¬ ((255 : Int32) < x2)))) :
    own_M l own_y0 jdk_52_method_21_code 7 (some .int) ws (own_R 0 0 0 0) Z h0 #[(.ref a1), (.int 0), (.ref a3), (.int 0), (.int 3)] (QCU_3 Z a1 a3 k1 k3 x0 x1 x2 h0 n0) := by
  refine own_body (plainFor_of_name pn_java_lang_StringUTF16) fun p e s m below meth c s₁ Bd hx hby hml (hown : s.vm.findClass "java/lang/StringUTF16" = some m.cls) hnm X0 e0 hZ => ?_
  have N0 := Fr.nil n0
  have pre0 : own_P p e below s₁ (entryFrame m #[(.ref a1), (.int 0), (.ref a3), (.int 0), (.int 3)] 7) s₁ (mkF m 0 #[rv a1, iv 0, rv a3, iv 0, iv 3, .unset, .unset] []) := fun t k => castTop (by first | rfl | (simp [entryFrame, mkF, argsToLocals, Value.category]; done)) k
  have f101 := Keep.refl h0 [a3]
  obtain ⟨cl102, Ar102, q102, S102, N102z, H102, G102⟩ := (id V1)
  have hin102 : ¬ ((0 : Int32) < 0 ∨ cl102.slots.size ≤ ((0 : Int32)).toNatClampNeg) := inb_of S102 ⟨by decide, by decide⟩
  have hat102 : cl102.slots[((0 : Int32)).toNatClampNeg]? = some (.int x0) := Has.at H102 hin102 rfl
  have pre104 : own_P p e below s₁ (entryFrame m #[(.ref a1), (.int 0), (.ref a3), (.int 0), (.int 3)] 7) s₁ (mkF m 20 #[rv a1, iv 0, rv a3, iv 0, iv 3, iv 0, iv x0] [(.int 255), (.int x0)]) := fun t k => pre0 t (by
    show Steps p.tables e below (s₁.setTop (mkF m 0 #[rv a1, iv 0, rv a3, iv 0, iv 3, .unset, .unset] [])) t
    refine XS.iconst X0.here hx rfl (hb hby d9_0) ?_
    refine XS.istore X0.here hx rfl (hb hby d9_1) rfl (l' := #[rv a1, iv 0, rv a3, iv 0, iv 3, iv 0, .unset]) rfl ?_
    refine XS.iload X0.here hx rfl (hb hby d9_3) rfl ?_
    refine XS.iload X0.here hx rfl (hb hby d9_5) rfl ?_
    refine XS.icmpNo X0.here hx rfl (hb hby d9_7) rfl (tlt (by decide : (0 : Int32) < (3 : Int32))).2.1 ?_
    refine XS.aloadN X0.here hx rfl (hb hby d9_10) rfl rfl ?_
    refine XS.iloadN X0.here hx rfl (hb hby d9_11) rfl ?_
    refine X0.caload hx (j := (0 : Int32)) (v := (.int x0)) (by rw [e0]; exact Ar102.1) (State.isArrayOf_alike hZ.alike Ar102.2.1) Ar102.2.2 hin102 hat102 (g := (mkF m 12 #[rv a1, iv 0, rv a3, iv 0, iv 3, iv 0, .unset] [(.int 0), (.ref a1)])) rfl rfl (hb hby d9_12) _ ?_
    refine XS.istore X0.here hx rfl (hb hby d9_13) rfl (l' := #[rv a1, iv 0, rv a3, iv 0, iv 3, iv 0, iv x0]) rfl ?_
    refine XS.iload X0.here hx rfl (hb hby d9_15) rfl ?_
    refine XS.sipush X0.here hx rfl (hb hby d9_17) ?_
    exact k)
  by_cases hc103 : (255 : Int32) < x0
  · have pre105 : own_P p e below s₁ (entryFrame m #[(.ref a1), (.int 0), (.ref a3), (.int 0), (.int 3)] 7) s₁ (mkF m 25 #[rv a1, iv 0, rv a3, iv 0, iv 3, iv 0, iv x0] [(.int 0)]) := fun t k => pre104 t (by
      refine XS.icmpNo X0.here hx rfl (hb hby d9_20) rfl (tlt hc103).2.2.2 ?_
      refine XS.iload X0.here hx rfl (hb hby d9_23) rfl ?_
      exact k)
    obtain ⟨fs, hr, hrun, hended, hW, hsame⟩ := X0.leave (v := some (.int 0)) (fun h => by rw [Bd.returns] at h; cases h)
    refine ⟨_, _, pre105 _ ?_, hrun, hended, _, _, rfl, ?_, ⟨_, rfl⟩, hW, hsame.mono (by decide) (by decide)⟩
    · exact retI X0 hx Bd.returns (hb hby d9_25) hr
    · show QCU_3 Z a1 a3 k1 k3 x0 x1 x2 h0 n0 _ s₁.heap _
      rw [e0]
      exact ⟨(0 : Int32), rfl, N0, f101, (Or.inl ⟨rfl, hc103⟩)⟩
  · obtain ⟨cl106, Ar106, q106, S106, N106z, H106, G106⟩ := (id V3)
    have hin106 : ¬ ((0 : Int32) < 0 ∨ cl106.slots.size ≤ ((0 : Int32)).toNatClampNeg) := inb_of S106 ⟨by decide, by decide⟩
    obtain ⟨T106, h106, X106, e106, W106, st106⟩ := stB X0 hx hZ e0 Ar106 (j := (0 : Int32)) hin106 (g := (mkF m 31 #[rv a1, iv 0, rv a3, iv 0, iv 3, iv 0, iv x0] [(.int (x0.toInt8.toInt32)), (.int 0), (.ref a3)])) rfl rfl (hb hby d9_31)
    have V106 : Arv Z h106 a3 k3 .byte (3 : Int32) [(.int (nar .byte (x0.toInt8.toInt32))), (.int 0), (.int 0)] (.int 0) := Arv.set Ar106 q106 S106 N106z H106 G106 (fits_nar_byte _) W106 0 rfl (Nat.le_of_ble_eq_true rfl)
    have N106 := Fr.snoc X106 N0 g3
    have f107 := Nat.le_trans Z0 (Keep.of_wr W106).1
    have f108 := V1.other W106 ne
    have f109 := f101.wr W106 (Or.inl (List.mem_of_getElem? (i := 0) rfl))
    obtain ⟨cl110, Ar110, q110, S110, N110z, H110, G110⟩ := (id f108)
    have hin110 : ¬ ((1 : Int32) < 0 ∨ cl110.slots.size ≤ ((1 : Int32)).toNatClampNeg) := inb_of S110 ⟨by decide, by decide⟩
    have hat110 : cl110.slots[((1 : Int32)).toNatClampNeg]? = some (.int x1) := Has.at H110 hin110 rfl
    have pre112 : own_P p e below s₁ (entryFrame m #[(.ref a1), (.int 0), (.ref a3), (.int 0), (.int 3)] 7) T106 (mkF m 20 #[rv a1, iv 1, rv a3, iv 1, iv 3, iv 1, iv x1] [(.int 255), (.int x1)]) := fun t k => pre104 t (by
      refine XS.icmpYes X0.here hx rfl (pc0 := 20) (pc' := 26) rfl (hb hby d9_20) rfl (flt hc103).2.2.2 (by decide) (by decide) ?_
      refine XS.aloadN X0.here hx rfl (hb hby d9_26) rfl rfl ?_
      refine XS.iloadN X0.here hx rfl (hb hby d9_27) rfl ?_
      refine XS.iload X0.here hx rfl (hb hby d9_28) rfl ?_
      refine XS.i2b X0.here hx rfl (hb hby d9_30) rfl ?_
      refine st106 _ ?_
      refine XS.iinc X106.here hx rfl (hb hby d9_32) rfl (l' := #[rv a1, iv 1, rv a3, iv 0, iv 3, iv 0, iv x0]) rfl ?_
      refine XS.iinc X106.here hx rfl (hb hby d9_35) rfl (l' := #[rv a1, iv 1, rv a3, iv 1, iv 3, iv 0, iv x0]) rfl ?_
      refine XS.iinc X106.here hx rfl (hb hby d9_38) rfl (l' := #[rv a1, iv 1, rv a3, iv 1, iv 3, iv 1, iv x0]) rfl ?_
      refine XS.goto X106.here hx rfl (pc0 := 41) (pc' := 3) rfl (hb hby d9_41) (by decide) (by decide) ?_
      refine XS.iload X106.here hx rfl (hb hby d9_3) rfl ?_
      refine XS.iload X106.here hx rfl (hb hby d9_5) rfl ?_
      refine XS.icmpNo X106.here hx rfl (hb hby d9_7) rfl (tlt (by decide : (1 : Int32) < (3 : Int32))).2.1 ?_
      refine XS.aloadN X106.here hx rfl (hb hby d9_10) rfl rfl ?_
      refine XS.iloadN X106.here hx rfl (hb hby d9_11) rfl ?_
      refine X106.caload hx (j := (1 : Int32)) (v := (.int x1)) (by rw [e106]; exact Ar110.1) (State.isArrayOf_alike hZ.alike Ar110.2.1) Ar110.2.2 hin110 hat110 (g := (mkF m 12 #[rv a1, iv 1, rv a3, iv 1, iv 3, iv 1, iv x0] [(.int 1), (.ref a1)])) rfl rfl (hb hby d9_12) _ ?_
      refine XS.istore X106.here hx rfl (hb hby d9_13) rfl (l' := #[rv a1, iv 1, rv a3, iv 1, iv 3, iv 1, iv x1]) rfl ?_
      refine XS.iload X106.here hx rfl (hb hby d9_15) rfl ?_
      refine XS.sipush X106.here hx rfl (hb hby d9_17) ?_
      exact k)
    by_cases hc111 : (255 : Int32) < x1
    · have pre113 : own_P p e below s₁ (entryFrame m #[(.ref a1), (.int 0), (.ref a3), (.int 0), (.int 3)] 7) T106 (mkF m 25 #[rv a1, iv 1, rv a3, iv 1, iv 3, iv 1, iv x1] [(.int 1)]) := fun t k => pre112 t (by
        refine XS.icmpNo X106.here hx rfl (hb hby d9_20) rfl (tlt hc111).2.2.2 ?_
        refine XS.iload X106.here hx rfl (hb hby d9_23) rfl ?_
        exact k)
      obtain ⟨fs, hr, hrun, hended, hW, hsame⟩ := X106.leave (v := some (.int 1)) (fun h => by rw [Bd.returns] at h; cases h)
      refine ⟨_, _, pre113 _ ?_, hrun, hended, _, _, rfl, ?_, ⟨_, rfl⟩, hW, hsame.mono (by decide) (by decide)⟩
      · exact retI X106 hx Bd.returns (hb hby d9_25) hr
      · show QCU_3 Z a1 a3 k1 k3 x0 x1 x2 h0 n0 _ T106.heap _
        rw [e106]
        exact ⟨(1 : Int32), rfl, N106, f109, (Or.inr (Or.inl ⟨rfl, hc111⟩))⟩
    · obtain ⟨cl114, Ar114, q114, S114, N114z, H114, G114⟩ := (id V106)
      have hin114 : ¬ ((1 : Int32) < 0 ∨ cl114.slots.size ≤ ((1 : Int32)).toNatClampNeg) := inb_of S114 ⟨by decide, by decide⟩
      obtain ⟨T114, h114, X114, e114, W114, st114⟩ := stB X106 hx hZ e106 Ar114 (j := (1 : Int32)) hin114 (g := (mkF m 31 #[rv a1, iv 1, rv a3, iv 1, iv 3, iv 1, iv x1] [(.int (x1.toInt8.toInt32)), (.int 1), (.ref a3)])) rfl rfl (hb hby d9_31)
      have V114 : Arv Z h114 a3 k3 .byte (3 : Int32) [(.int (nar .byte (x0.toInt8.toInt32))), (.int (nar .byte (x1.toInt8.toInt32))), (.int 0)] (.int 0) := Arv.set Ar114 q114 S114 N114z H114 G114 (fits_nar_byte _) W114 1 rfl (Nat.le_of_ble_eq_true rfl)
      have N114 := Fr.snoc X114 N106 g3
      have f115 := Nat.le_trans f107 (Keep.of_wr W114).1
      have f116 := f108.other W114 ne
      have f117 := f109.wr W114 (Or.inl (List.mem_of_getElem? (i := 0) rfl))
      obtain ⟨cl118, Ar118, q118, S118, N118z, H118, G118⟩ := (id f116)
      have hin118 : ¬ ((2 : Int32) < 0 ∨ cl118.slots.size ≤ ((2 : Int32)).toNatClampNeg) := inb_of S118 ⟨by decide, by decide⟩
      have hat118 : cl118.slots[((2 : Int32)).toNatClampNeg]? = some (.int x2) := Has.at H118 hin118 rfl
      have hd119 : (255 : Int32) < x2 := Classical.byContradiction fun q => hU ⟨hc103, hc111, q⟩
      have pre120 : own_P p e below s₁ (entryFrame m #[(.ref a1), (.int 0), (.ref a3), (.int 0), (.int 3)] 7) T114 (mkF m 25 #[rv a1, iv 2, rv a3, iv 2, iv 3, iv 2, iv x2] [(.int 2)]) := fun t k => pre112 t (by
        refine XS.icmpYes X106.here hx rfl (pc0 := 20) (pc' := 26) rfl (hb hby d9_20) rfl (flt hc111).2.2.2 (by decide) (by decide) ?_
        refine XS.aloadN X106.here hx rfl (hb hby d9_26) rfl rfl ?_
        refine XS.iloadN X106.here hx rfl (hb hby d9_27) rfl ?_
        refine XS.iload X106.here hx rfl (hb hby d9_28) rfl ?_
        refine XS.i2b X106.here hx rfl (hb hby d9_30) rfl ?_
        refine st114 _ ?_
        refine XS.iinc X114.here hx rfl (hb hby d9_32) rfl (l' := #[rv a1, iv 2, rv a3, iv 1, iv 3, iv 1, iv x1]) rfl ?_
        refine XS.iinc X114.here hx rfl (hb hby d9_35) rfl (l' := #[rv a1, iv 2, rv a3, iv 2, iv 3, iv 1, iv x1]) rfl ?_
        refine XS.iinc X114.here hx rfl (hb hby d9_38) rfl (l' := #[rv a1, iv 2, rv a3, iv 2, iv 3, iv 2, iv x1]) rfl ?_
        refine XS.goto X114.here hx rfl (pc0 := 41) (pc' := 3) rfl (hb hby d9_41) (by decide) (by decide) ?_
        refine XS.iload X114.here hx rfl (hb hby d9_3) rfl ?_
        refine XS.iload X114.here hx rfl (hb hby d9_5) rfl ?_
        refine XS.icmpNo X114.here hx rfl (hb hby d9_7) rfl (tlt (by decide : (2 : Int32) < (3 : Int32))).2.1 ?_
        refine XS.aloadN X114.here hx rfl (hb hby d9_10) rfl rfl ?_
        refine XS.iloadN X114.here hx rfl (hb hby d9_11) rfl ?_
        refine X114.caload hx (j := (2 : Int32)) (v := (.int x2)) (by rw [e114]; exact Ar118.1) (State.isArrayOf_alike hZ.alike Ar118.2.1) Ar118.2.2 hin118 hat118 (g := (mkF m 12 #[rv a1, iv 2, rv a3, iv 2, iv 3, iv 2, iv x1] [(.int 2), (.ref a1)])) rfl rfl (hb hby d9_12) _ ?_
        refine XS.istore X114.here hx rfl (hb hby d9_13) rfl (l' := #[rv a1, iv 2, rv a3, iv 2, iv 3, iv 2, iv x2]) rfl ?_
        refine XS.iload X114.here hx rfl (hb hby d9_15) rfl ?_
        refine XS.sipush X114.here hx rfl (hb hby d9_17) ?_
        refine XS.icmpNo X114.here hx rfl (hb hby d9_20) rfl (tlt hd119).2.2.2 ?_
        refine XS.iload X114.here hx rfl (hb hby d9_23) rfl ?_
        exact k)
      obtain ⟨fs, hr, hrun, hended, hW, hsame⟩ := X114.leave (v := some (.int 2)) (fun h => by rw [Bd.returns] at h; cases h)
      refine ⟨_, _, pre120 _ ?_, hrun, hended, _, _, rfl, ?_, ⟨_, rfl⟩, hW, hsame.mono (by decide) (by decide)⟩
      · exact retI X114 hx Bd.returns (hb hby d9_25) hr
      · show QCU_3 Z a1 a3 k1 k3 x0 x1 x2 h0 n0 _ T114.heap _
        rw [e114]
        exact ⟨(2 : Int32), rfl, N114, f117, (Or.inr (Or.inr (⟨rfl, hd119⟩)))⟩
def QDU_3 (Z : State) (a1 : Addr) (k1 : ClassId) (x0 x1 x2 : Int32) (h0 : Heap) (n0 : Nat) (v : Option Value) (h : Heap) (L : List Loc) : Prop := ∃ (b : Addr) (kb : ClassId), v = some (.ref b) ∧ Fr n0 L ∧ Keep h0 h [] ∧ (n0 ≤ b) ∧ (h0.size ≤ b) ∧ (Arv Z h b kb .byte (6 : Int32) [(.int (own_b0 x0)), (.int (own_b1 x0)), (.int (own_b0 x1)), (.int (own_b1 x1)), (.int (own_b0 x2)), (.int (own_b1 x2))] (.int 0))
theorem rmDU_3 (l : Launch) (Z : State) (a0 : Array Value) (hw : own_H Z a0) (ws : List Jvm.Cond) (a1 : Addr) (k1 : ClassId) (x0 x1 x2 : Int32) (h0 : Heap) (n0 : Nat) (Z0 : n0 ≤ h0.size) (V1 : Arv Z h0 a1 k1 .char (3 : Int32) [(.int x0), (.int x1), (.int x2)] (.int 0)) (SA : Sta Z Z.heap "java/lang/StringUTF16" "$assertionsDisabled" "Z" (.int 1)) (SH : Sta Z Z.heap "java/lang/StringUTF16" "HI_BYTE_SHIFT" "I" (.int 0)) (SL : Sta Z Z.heap "java/lang/StringUTF16" "LO_BYTE_SHIFT" "I" (.int 8)) (O0 : Old Z n0 h0) (hC0 : own_C x0) (hC1 : own_C x1) (hC2 : own_C x2) (hU : ¬ ((¬ ((255 : Int32) < x0)) ∧ (¬ ((255 : Int32) < x1)) ∧ (¬ ((255 : Int32) < x2)))) :
    own_M l own_y1 jdk_52_method_16_code 6 (some (.array .byte)) ws (own_R 3 2 9 40) Z h0 #[(.ref a1), (.int 0), (.int 3)] (QDU_3 Z a1 k1 x0 x1 x2 h0 n0) := by
  refine own_body (plainFor_of_name pn_java_lang_StringUTF16) fun p e s m below meth c s₁ Bd hx hby hml (hown : s.vm.findClass "java/lang/StringUTF16" = some m.cls) hnm X0 e0 hZ => ?_
  have N0 := Fr.nil n0
  have pre0 : own_P p e below s₁ (entryFrame m #[(.ref a1), (.int 0), (.int 3)] 6) s₁ (mkF m 0 #[rv a1, iv 0, iv 3, .unset, .unset, .unset] []) := fun t k => castTop (by first | rfl | (simp [entryFrame, mkF, argsToLocals, Value.category]; done)) k
  have f101 := Keep.refl h0 []
  obtain ⟨T102, h102, k102, X102, e102, E102, A102, st102⟩ := newP X0 hx hZ (own_i hw 23 rfl) e0 (g := (mkF m 1 #[rv a1, iv 0, iv 3, .unset, .unset, .unset] [(.int 3)])) rfl (hb hby d8_1) rfl (by decide) (cap := 3) (by decide) (by decide) (by decide) (by decide)
  obtain ⟨b102, g102⟩ : ∃ z, z = h0.size := ⟨_, rfl⟩
  rw [← g102] at A102 st102
  have ne103 : a1 ≠ b102 := Nat.ne_of_lt (Nat.lt_of_lt_of_le V1.lt (Nat.le_of_eq g102.symm))
  have ga104 : n0 ≤ b102 := Nat.le_trans Z0 (Nat.le_of_eq g102.symm)
  have sz105 : h0.size ≤ b102 := Nat.le_trans f101.1 (Nat.le_of_eq g102.symm)
  have V102 : Arv Z h102 b102 k102 .byte (3 : Int32) [(.int 0), (.int 0), (.int 0)] (.int 0) := (Arv.new A102 (by decide)).pad (pad_rep [] (.int 0) 3)
  have f106 := Nat.le_trans Z0 E102.1
  have f107 := V1.ext E102
  have f108 := O0.ext E102
  have f109 := f101.ext E102
  obtain ⟨_, _, ⟨T110, L110, k110, n110⟩, -, X110, ⟨Lc110, hQ110, l110, y110, z110⟩, st110⟩ := Jvm.LawKit.callS X102 hx (y := own_y0) hown (own_m hZ hw 44) (own_m hZ hw 45) (own_m hZ hw 42) (own_m hZ hw 46) (by decide) (backOf (W := 0) (rmCU_3 l Z a0 hw [] a1 b102 k1 k102 x0 x1 x2 h102 n0 f106 f107 V102 ga104 ne103 hU) hZ (own_i hw 46 rfl) (own_i hw 42 rfl) (by decide) (by decide)) (g := (mkF m 9 #[rv a1, iv 0, iv 3, rv b102, .unset, .unset] [(.int 3), (.int 0), (.ref b102), (.int 0), (.ref a1)])) rfl (by rw [hml]; rfl) (argsL := [(.ref a1), (.int 0), (.ref b102), (.int 0), (.int 3)]) (rest := []) (lenOf pd_0 rfl) rfl (Nat.le_of_eq rfl) (hb hby d8_9) (fun _ _ => ⟨rfl, e102, own_le rfl, own_le rfl⟩)
  dsimp only [Pt.U, Pt.locs, Pt.cells, Pt.slots] at X110 l110 y110 z110 st110 hQ110
  subst l110 y110 z110
  obtain ⟨x111, rfl, N110q, K110, f112⟩ := hQ110
  have N110 := Fr.app N0 N110q
  have f113 := Nat.le_trans f106 K110.1
  have f114 := f107.keep K110 (ninS ne103 nin0)
  have f115 := f108.keep K110 (allS ga104 all0)
  have f116 := f109.trans K110 (allS (Or.inr sz105) all0)
  have hd117 : ¬ (x111 = (3 : Int32)) := fun q => by rcases f112 with h | h | h <;> exact absurd (h.1.symm.trans q) (by decide)
  obtain ⟨_, _, ⟨T118, L118, k118, n118⟩, -, X118, ⟨Lc118, hQ118, l118, y118, z118⟩, st118⟩ := Jvm.LawKit.callS X110 hx (y := own_y22) hown (own_m hZ hw 86) (own_m hZ hw 87) (own_m hZ hw 42) (own_m hZ hw 88) (by decide) (backOf (W := 0) (rmTb_3 l Z a0 hw [] a1 k1 x0 x1 x2 T110.heap n0 f113 f114 SA SH SL f115) hZ (own_i hw 88 rfl) (own_i hw 42 rfl) (by decide) (by decide)) (g := (mkF m 23 #[rv a1, iv 0, iv 3, rv b102, iv x111, .unset] [(.int 3), (.int 0), (.ref a1)])) rfl (by rw [hml]; rfl) (argsL := [(.ref a1), (.int 0), (.int 3)]) (rest := []) (lenOf pd_1 rfl) rfl (Nat.le_of_eq rfl) (hb hby d8_23) (fun _ _ => ⟨rfl, rfl, own_le rfl, own_le rfl⟩)
  dsimp only [Pt.U, Pt.locs, Pt.cells, Pt.slots] at X118 l118 y118 z118 st118 hQ118
  subst l118 y118 z118
  obtain ⟨b119, x120, rfl, N118q, K118, f121, f122, f123⟩ := hQ118
  have N118 := Fr.app N110 N118q
  have ne124 : a1 ≠ b119 := Nat.ne_of_lt (Nat.lt_of_lt_of_le f114.lt f122)
  have sz125 : h0.size ≤ b119 := Nat.le_trans f116.1 f122
  have f126 := Nat.le_trans f113 K118.1
  have f127 := f114.keep K118 nin0
  have f128 := f115.keep K118 all0
  have f129 := f116.trans K118 all0
  have pre130 : own_P p e below s₁ (entryFrame m #[(.ref a1), (.int 0), (.int 3)] 6) T118 (mkF m 28 #[rv a1, iv 0, iv 3, rv b102, iv x111, rv b119] []) := fun t k => pre0 t (by
    show Steps p.tables e below (s₁.setTop (mkF m 0 #[rv a1, iv 0, iv 3, .unset, .unset, .unset] [])) t
    refine XS.iloadN X0.here hx rfl (hb hby d8_0) rfl ?_
    refine st102 _ ?_
    refine XS.astoreN X102.here hx rfl (hb hby d8_3) rfl rfl (l' := #[rv a1, iv 0, iv 3, rv b102, .unset, .unset]) rfl ?_
    refine XS.aloadN X102.here hx rfl (hb hby d8_4) rfl rfl ?_
    refine XS.iloadN X102.here hx rfl (hb hby d8_5) rfl ?_
    refine XS.aloadN X102.here hx rfl (hb hby d8_6) rfl rfl ?_
    refine XS.iconst X102.here hx rfl (hb hby d8_7) ?_
    refine XS.iloadN X102.here hx rfl (hb hby d8_8) rfl ?_
    refine st110 _ ?_
    refine XS.istore X110.here hx rfl (hb hby d8_12) rfl (l' := #[rv a1, iv 0, iv 3, rv b102, iv x111, .unset]) rfl ?_
    refine XS.iload X110.here hx rfl (hb hby d8_14) rfl ?_
    refine XS.iloadN X110.here hx rfl (hb hby d8_16) rfl ?_
    refine XS.icmpNo X110.here hx rfl (hb hby d8_17) rfl (feq hd117).1 ?_
    refine XS.aloadN X110.here hx rfl (hb hby d8_20) rfl rfl ?_
    refine XS.iloadN X110.here hx rfl (hb hby d8_21) rfl ?_
    refine XS.iloadN X110.here hx rfl (hb hby d8_22) rfl ?_
    refine st118 _ ?_
    refine XS.astore X118.here hx rfl (hb hby d8_26) rfl rfl (l' := #[rv a1, iv 0, iv 3, rv b102, iv x111, rv b119]) rfl ?_
    exact k)
  rcases f112 with hs131 | hs131 | hs131
  · have pre132 : own_P p e below s₁ (entryFrame m #[(.ref a1), (.int 0), (.int 3)] 6) T118 (mkF m 28 #[rv a1, iv 0, iv 3, rv b102, iv 0, rv b119] []) := fun t k => pre130 t (by rw [show x111 = (0 : Int32) from hs131.1]; exact k)
    obtain ⟨_, _, ⟨T133, L133, k133, n133⟩, -, X133, ⟨Lc133, hQ133, l133, y133, z133⟩, st133⟩ := Jvm.LawKit.callS X118 hx (y := own_y15) hown (own_m hZ hw 102) (own_m hZ hw 103) (own_m hZ hw 42) (own_m hZ hw 104) (by decide) (backOf (W := 0) (rmGc l Z a0 hw [] b119 (0 : Int32) x120 (own_b0 x0) (own_b1 x0) (6 : Int32) ([(.int (own_b0 x0)), (.int (own_b1 x0)), (.int (own_b0 x1)), (.int (own_b1 x1)), (.int (own_b0 x2)), (.int (own_b1 x2))]) T118.heap n0 f126 f123 (SA.ext f128.2) (SH.ext f128.2) (SL.ext f128.2) (by decide) (by decide) (by decide) (by decide) rfl rfl) hZ (own_i hw 104 rfl) (own_i hw 42 rfl) (by decide) (by decide)) (g := (mkF m 32 #[rv a1, iv 0, iv 3, rv b102, iv 0, rv b119] [(.int 0), (.ref b119)])) rfl (by rw [hml]; rfl) (argsL := [(.ref b119), (.int 0)]) (rest := []) (lenOf pd_8 rfl) rfl (Nat.le_of_eq rfl) (hb hby d8_32) (fun _ _ => ⟨rfl, rfl, own_le rfl, own_le rfl⟩)
    dsimp only [Pt.U, Pt.locs, Pt.cells, Pt.slots] at X133 l133 y133 z133 st133 hQ133
    subst l133 y133 z133
    obtain ⟨rfl, N133q, e133⟩ := hQ133
    have N133 := Fr.app N118 N133q
    have hd134 : (255 : Int32) < (own_ut (own_b0 x0) (own_b1 x0)) := by rw [own_utc hC0]; exact hs131.2
    have pre135 : own_P p e below s₁ (entryFrame m #[(.ref a1), (.int 0), (.int 3)] 6) T133 (mkF m 56 #[rv a1, iv 0, iv 3, rv b102, iv 0, rv b119] [(.ref b119)]) := fun t k => pre132 t (by
      show Steps p.tables e below (T118.setTop (mkF m 28 #[rv a1, iv 0, iv 3, rv b102, iv 0, rv b119] [])) t
      refine XS.aload X118.here hx rfl (hb hby d8_28) rfl rfl ?_
      refine XS.iload X118.here hx rfl (hb hby d8_30) rfl ?_
      refine st133 _ ?_
      refine XS.sipush X133.here hx rfl (hb hby d8_35) ?_
      refine XS.icmpYes X133.here hx rfl (pc0 := 38) (pc' := 54) rfl (hb hby d8_38) rfl (tlt hd134).2.2.1 (by decide) (by decide) ?_
      refine XS.aload X133.here hx rfl (hb hby d8_54) rfl rfl ?_
      exact k)
    obtain ⟨fs, hr, hrun, hended, hW, hsame⟩ := X133.leave (v := some (.ref b119)) (fun h => by rw [Bd.returns] at h; cases h)
    refine ⟨_, _, pre135 _ ?_, hrun, hended, _, _, rfl, ?_, ⟨_, rfl⟩, hW, hsame.mono (by decide) (by decide)⟩
    · exact retOut X133 hx Bd.returns rfl (Or.inr (Or.inr (Or.inr (Or.inr ⟨rfl, rfl, rfl⟩)))) (hb hby d8_56) hr
    · show QDU_3 Z a1 k1 x0 x1 x2 h0 n0 _ T133.heap _
      rw [e133]
      exact ⟨b119, x120, rfl, N133, f129, f121, sz125, f123⟩
  · have pre136 : own_P p e below s₁ (entryFrame m #[(.ref a1), (.int 0), (.int 3)] 6) T118 (mkF m 28 #[rv a1, iv 0, iv 3, rv b102, iv 1, rv b119] []) := fun t k => pre130 t (by rw [show x111 = (1 : Int32) from hs131.1]; exact k)
    obtain ⟨_, _, ⟨T137, L137, k137, n137⟩, -, X137, ⟨Lc137, hQ137, l137, y137, z137⟩, st137⟩ := Jvm.LawKit.callS X118 hx (y := own_y15) hown (own_m hZ hw 102) (own_m hZ hw 103) (own_m hZ hw 42) (own_m hZ hw 104) (by decide) (backOf (W := 0) (rmGc l Z a0 hw [] b119 (1 : Int32) x120 (own_b0 x1) (own_b1 x1) (6 : Int32) ([(.int (own_b0 x0)), (.int (own_b1 x0)), (.int (own_b0 x1)), (.int (own_b1 x1)), (.int (own_b0 x2)), (.int (own_b1 x2))]) T118.heap n0 f126 f123 (SA.ext f128.2) (SH.ext f128.2) (SL.ext f128.2) (by decide) (by decide) (by decide) (by decide) rfl rfl) hZ (own_i hw 104 rfl) (own_i hw 42 rfl) (by decide) (by decide)) (g := (mkF m 32 #[rv a1, iv 0, iv 3, rv b102, iv 1, rv b119] [(.int 1), (.ref b119)])) rfl (by rw [hml]; rfl) (argsL := [(.ref b119), (.int 1)]) (rest := []) (lenOf pd_8 rfl) rfl (Nat.le_of_eq rfl) (hb hby d8_32) (fun _ _ => ⟨rfl, rfl, own_le rfl, own_le rfl⟩)
    dsimp only [Pt.U, Pt.locs, Pt.cells, Pt.slots] at X137 l137 y137 z137 st137 hQ137
    subst l137 y137 z137
    obtain ⟨rfl, N137q, e137⟩ := hQ137
    have N137 := Fr.app N118 N137q
    have hd138 : (255 : Int32) < (own_ut (own_b0 x1) (own_b1 x1)) := by rw [own_utc hC1]; exact hs131.2
    have pre139 : own_P p e below s₁ (entryFrame m #[(.ref a1), (.int 0), (.int 3)] 6) T137 (mkF m 56 #[rv a1, iv 0, iv 3, rv b102, iv 1, rv b119] [(.ref b119)]) := fun t k => pre136 t (by
      show Steps p.tables e below (T118.setTop (mkF m 28 #[rv a1, iv 0, iv 3, rv b102, iv 1, rv b119] [])) t
      refine XS.aload X118.here hx rfl (hb hby d8_28) rfl rfl ?_
      refine XS.iload X118.here hx rfl (hb hby d8_30) rfl ?_
      refine st137 _ ?_
      refine XS.sipush X137.here hx rfl (hb hby d8_35) ?_
      refine XS.icmpYes X137.here hx rfl (pc0 := 38) (pc' := 54) rfl (hb hby d8_38) rfl (tlt hd138).2.2.1 (by decide) (by decide) ?_
      refine XS.aload X137.here hx rfl (hb hby d8_54) rfl rfl ?_
      exact k)
    obtain ⟨fs, hr, hrun, hended, hW, hsame⟩ := X137.leave (v := some (.ref b119)) (fun h => by rw [Bd.returns] at h; cases h)
    refine ⟨_, _, pre139 _ ?_, hrun, hended, _, _, rfl, ?_, ⟨_, rfl⟩, hW, hsame.mono (by decide) (by decide)⟩
    · exact retOut X137 hx Bd.returns rfl (Or.inr (Or.inr (Or.inr (Or.inr ⟨rfl, rfl, rfl⟩)))) (hb hby d8_56) hr
    · show QDU_3 Z a1 k1 x0 x1 x2 h0 n0 _ T137.heap _
      rw [e137]
      exact ⟨b119, x120, rfl, N137, f129, f121, sz125, f123⟩
  · have pre140 : own_P p e below s₁ (entryFrame m #[(.ref a1), (.int 0), (.int 3)] 6) T118 (mkF m 28 #[rv a1, iv 0, iv 3, rv b102, iv 2, rv b119] []) := fun t k => pre130 t (by rw [show x111 = (2 : Int32) from hs131.1]; exact k)
    obtain ⟨_, _, ⟨T141, L141, k141, n141⟩, -, X141, ⟨Lc141, hQ141, l141, y141, z141⟩, st141⟩ := Jvm.LawKit.callS X118 hx (y := own_y15) hown (own_m hZ hw 102) (own_m hZ hw 103) (own_m hZ hw 42) (own_m hZ hw 104) (by decide) (backOf (W := 0) (rmGc l Z a0 hw [] b119 (2 : Int32) x120 (own_b0 x2) (own_b1 x2) (6 : Int32) ([(.int (own_b0 x0)), (.int (own_b1 x0)), (.int (own_b0 x1)), (.int (own_b1 x1)), (.int (own_b0 x2)), (.int (own_b1 x2))]) T118.heap n0 f126 f123 (SA.ext f128.2) (SH.ext f128.2) (SL.ext f128.2) (by decide) (by decide) (by decide) (by decide) rfl rfl) hZ (own_i hw 104 rfl) (own_i hw 42 rfl) (by decide) (by decide)) (g := (mkF m 32 #[rv a1, iv 0, iv 3, rv b102, iv 2, rv b119] [(.int 2), (.ref b119)])) rfl (by rw [hml]; rfl) (argsL := [(.ref b119), (.int 2)]) (rest := []) (lenOf pd_8 rfl) rfl (Nat.le_of_eq rfl) (hb hby d8_32) (fun _ _ => ⟨rfl, rfl, own_le rfl, own_le rfl⟩)
    dsimp only [Pt.U, Pt.locs, Pt.cells, Pt.slots] at X141 l141 y141 z141 st141 hQ141
    subst l141 y141 z141
    obtain ⟨rfl, N141q, e141⟩ := hQ141
    have N141 := Fr.app N118 N141q
    have hd142 : (255 : Int32) < (own_ut (own_b0 x2) (own_b1 x2)) := by rw [own_utc hC2]; exact hs131.2
    have pre143 : own_P p e below s₁ (entryFrame m #[(.ref a1), (.int 0), (.int 3)] 6) T141 (mkF m 56 #[rv a1, iv 0, iv 3, rv b102, iv 2, rv b119] [(.ref b119)]) := fun t k => pre140 t (by
      show Steps p.tables e below (T118.setTop (mkF m 28 #[rv a1, iv 0, iv 3, rv b102, iv 2, rv b119] [])) t
      refine XS.aload X118.here hx rfl (hb hby d8_28) rfl rfl ?_
      refine XS.iload X118.here hx rfl (hb hby d8_30) rfl ?_
      refine st141 _ ?_
      refine XS.sipush X141.here hx rfl (hb hby d8_35) ?_
      refine XS.icmpYes X141.here hx rfl (pc0 := 38) (pc' := 54) rfl (hb hby d8_38) rfl (tlt hd142).2.2.1 (by decide) (by decide) ?_
      refine XS.aload X141.here hx rfl (hb hby d8_54) rfl rfl ?_
      exact k)
    obtain ⟨fs, hr, hrun, hended, hW, hsame⟩ := X141.leave (v := some (.ref b119)) (fun h => by rw [Bd.returns] at h; cases h)
    refine ⟨_, _, pre143 _ ?_, hrun, hended, _, _, rfl, ?_, ⟨_, rfl⟩, hW, hsame.mono (by decide) (by decide)⟩
    · exact retOut X141 hx Bd.returns rfl (Or.inr (Or.inr (Or.inr (Or.inr ⟨rfl, rfl, rfl⟩)))) (hb hby d8_56) hr
    · show QDU_3 Z a1 k1 x0 x1 x2 h0 n0 _ T141.heap _
      rw [e141]
      exact ⟨b119, x120, rfl, N141, f129, f121, sz125, f123⟩
def QEU_3 (Z : State) (a1 : Addr) (k1 : ClassId) (y0 y1 y2 y3 y4 y5 : Int32) (h0 : Heap) (n0 : Nat) (v : Option Value) (h : Heap) (L : List Loc) : Prop := v = some (.int 1) ∧ Fr n0 L ∧ h = h0
theorem rmEU_3 (l : Launch) (Z : State) (a0 : Array Value) (hw : own_H Z a0) (ws : List Jvm.Cond) (a1 : Addr) (k1 : ClassId) (y0 y1 y2 y3 y4 y5 : Int32) (h0 : Heap) (n0 : Nat) (Z0 : n0 ≤ h0.size) (V1 : Arv Z h0 a1 k1 .byte (6 : Int32) [(.int y0), (.int y1), (.int y2), (.int y3), (.int y4), (.int y5)] (.int 0)) :
    own_M l own_y2 jdk_52_method_15_code 2 (some .byte) ws (own_R 0 0 0 0) Z h0 #[(.ref a1), (.int 3)] (QEU_3 Z a1 k1 y0 y1 y2 y3 y4 y5 h0 n0) := by
  refine own_body (plainFor_of_name pn_java_lang_StringUTF16) fun p e s m below meth c s₁ Bd hx hby hml (hown : s.vm.findClass "java/lang/StringUTF16" = some m.cls) hnm X0 e0 hZ => ?_
  have N0 := Fr.nil n0
  have pre0 : own_P p e below s₁ (entryFrame m #[(.ref a1), (.int 3)] 2) s₁ (mkF m 0 #[rv a1, iv 3] []) := fun t k => castTop (by first | rfl | (simp [entryFrame, mkF, argsToLocals, Value.category]; done)) k
  obtain ⟨cl101, Ar101, q101, S101, N101z, H101, G101⟩ := (id V1)
  have pre102 : own_P p e below s₁ (entryFrame m #[(.ref a1), (.int 3)] 2) s₁ (mkF m 8 #[rv a1, iv 3] [(.int ((((-3 : Int32).toUInt32 >>> ((31 : Int32) &&& 31).toUInt32).toInt32).toInt8.toInt32))]) := fun t k => pre0 t (by
    show Steps p.tables e below (s₁.setTop (mkF m 0 #[rv a1, iv 3] [])) t
    refine XS.iloadN X0.here hx rfl (hb hby d10_0) rfl ?_
    refine XS.aloadN X0.here hx rfl (hb hby d10_1) rfl rfl ?_
    refine X0.arraylength hx (by rw [e0]; exact Ar101.1) (State.isArrayOf_alike hZ.alike Ar101.2.1) (g := (mkF m 2 #[rv a1, iv 3] [(.ref a1), (.int 3)])) rfl rfl (hb hby d10_2) _ ?_
    rw [len_of S101 N101z]
    refine XS.isub X0.here hx rfl (hb hby d10_3) rfl ?_
    refine XS.bipush X0.here hx rfl (hb hby d10_4) ?_
    refine XS.iushr X0.here hx rfl (hb hby d10_6) rfl ?_
    refine XS.i2b X0.here hx rfl (hb hby d10_7) rfl ?_
    exact k)
  obtain ⟨fs, hr, hrun, hended, hW, hsame⟩ := X0.leave (v := some (.int (nar .byte ((((-3 : Int32).toUInt32 >>> ((31 : Int32) &&& 31).toUInt32).toInt32).toInt8.toInt32)))) (fun h => by rw [Bd.returns] at h; cases h)
  refine ⟨_, _, pre102 _ ?_, hrun, hended, _, _, rfl, ?_, ⟨_, rfl⟩, hW, hsame.mono (by decide) (by decide)⟩
  · exact retN X0 hx (t := .byte) Bd.returns (by simp) (hb hby d10_8) hr
  · show QEU_3 Z a1 k1 y0 y1 y2 y3 y4 y5 h0 n0 _ s₁.heap _
    rw [e0]
    exact ⟨(by rw [show (nar .byte ((((-3 : Int32).toUInt32 >>> ((31 : Int32) &&& 31).toUInt32).toInt32).toInt8.toInt32)) = (1 : Int32) from by decide]), N0, rfl⟩
def QFU_3 (Z : State) (a1 a2 : Addr) (k2 : ClassId) (cs x0 x1 x2 : Int32) (h0 : Heap) (n0 : Nat) (v : Option Value) (h : Heap) (L : List Loc) : Prop := ∃ (t : Addr) (kt : ClassId), v = none ∧ Fr n0 L ∧ Keep h0 h [a1] ∧ (Exa Z h a1 "java/lang/String") ∧ (Fld Z h a1 "java/lang/String" "coder" "B" (.int 1)) ∧ (Fld Z h a1 "java/lang/String" "value" "[B" (.ref t)) ∧ (n0 ≤ t) ∧ (h0.size ≤ t) ∧ (Arv Z h t kt .byte (6 : Int32) [(.int (own_b0 x0)), (.int (own_b1 x0)), (.int (own_b0 x1)), (.int (own_b1 x1)), (.int (own_b0 x2)), (.int (own_b1 x2))] (.int 0))
theorem rmFU_3 (l : Launch) (Z : State) (a0 : Array Value) (hw : own_H Z a0) (ws : List Jvm.Cond) (a1 a2 : Addr) (k2 : ClassId) (cs x0 x1 x2 : Int32) (h0 : Heap) (n0 : Nat) (Z0 : n0 ≤ h0.size) (F1 : Fld Z h0 a1 "java/lang/String" "value" "[B" .null) (F2 : Fld Z h0 a1 "java/lang/String" "coder" "B" (.int 0)) (E1 : Exa Z h0 a1 "java/lang/String") (g1 : n0 ≤ a1) (V2 : Arv Z h0 a2 k2 .char (3 : Int32) [(.int x0), (.int x1), (.int x2)] (.int 0)) (ne : a1 ≠ a2) (SC : Sta Z Z.heap "java/lang/String" "COMPACT_STRINGS" "Z" (.int cs)) (hcs : ¬ (cs = (0 : Int32))) (SA : Sta Z Z.heap "java/lang/StringUTF16" "$assertionsDisabled" "Z" (.int 1)) (SH : Sta Z Z.heap "java/lang/StringUTF16" "HI_BYTE_SHIFT" "I" (.int 0)) (SL : Sta Z Z.heap "java/lang/StringUTF16" "LO_BYTE_SHIFT" "I" (.int 8)) (O0 : Old Z n0 h0) (hC0 : own_C x0) (hC1 : own_C x1) (hC2 : own_C x2) (hU : ¬ ((¬ ((255 : Int32) < x0)) ∧ (¬ ((255 : Int32) < x1)) ∧ (¬ ((255 : Int32) < x2)))) :
    own_M l own_y3 jdk_42_method_149_code 6 none ws (own_R 4 2 9 57) Z h0 #[(.ref a1), (.ref a2), (.int 0), (.int 3), .null] (QFU_3 Z a1 a2 k2 cs x0 x1 x2 h0 n0) := by
  refine own_body (plainFor_of_name pn_java_lang_String) fun p e s m below meth c s₁ Bd hx hby hml (hown : s.vm.findClass "java/lang/String" = some m.cls) hnm X0 e0 hZ => ?_
  have N0 := Fr.nil n0
  have pre0 : own_P p e below s₁ (entryFrame m #[(.ref a1), (.ref a2), (.int 0), (.int 3), .null] 6) s₁ (mkF m 0 #[rv a1, rv a2, iv 0, iv 3, .val .null, .unset] []) := fun t k => castTop (by first | rfl | (simp [entryFrame, mkF, argsToLocals, Value.category]; done)) k
  have f101 := Keep.refl h0 [a1]
  obtain ⟨T102, X102, e102, st102⟩ := initO X0 hx hZ hown (own_i hw 19 rfl) (own_i hw 20 rfl) (own_i hw 21 rfl) e0 (g := (mkF m 1 #[rv a1, rv a2, iv 0, iv 3, .val .null, .unset] [(.ref a1)])) rfl (by rw [hml]; rfl) rfl (hb hby d4_1) (by decide) (W := 0) (Nat.le_of_eq rfl) (by decide)
  obtain ⟨T103, X103, e103, st103⟩ := getS2 X102 hx hZ hown (host := "") (Or.inl (own_i hw 39 rfl)) Via.refl e102 (SC.ext O0.2) (g := (mkF m 27 #[rv a1, rv a2, iv 0, iv 3, .val .null, .unset] [])) rfl (hb hby d4_27)
  obtain ⟨_, _, ⟨T104, L104, k104, n104⟩, -, X104, ⟨Lc104, hQ104, l104, y104, z104⟩, st104⟩ := Jvm.LawKit.callS X103 hx (y := own_y1) hown (own_m hZ hw 40) (own_m hZ hw 41) (own_m hZ hw 42) (own_m hZ hw 43) (by decide) (backOf (W := 0) (rmDU_3 l Z a0 hw [] a2 k2 x0 x1 x2 h0 n0 Z0 V2 SA SH SL O0 hC0 hC1 hC2 hU) hZ (own_i hw 43 rfl) (own_i hw 42 rfl) (by decide) (by decide)) (g := (mkF m 36 #[rv a1, rv a2, iv 0, iv 3, .val .null, .unset] [(.int 3), (.int 0), (.ref a2)])) rfl (by rw [hml]; rfl) (argsL := [(.ref a2), (.int 0), (.int 3)]) (rest := []) (lenOf pd_1 rfl) rfl (Nat.le_of_eq rfl) (hb hby d4_36) (fun _ _ => ⟨rfl, e103, own_le rfl, own_le rfl⟩)
  dsimp only [Pt.U, Pt.locs, Pt.cells, Pt.slots] at X104 l104 y104 z104 st104 hQ104
  subst l104 y104 z104
  obtain ⟨b105, x106, rfl, N104q, K104, f107, f108, f109⟩ := hQ104
  have N104 := Fr.app N0 N104q
  have ne110 : a1 ≠ b105 := Nat.ne_of_lt (Nat.lt_of_lt_of_le F1.lt f108)
  have ne111 : a2 ≠ b105 := Nat.ne_of_lt (Nat.lt_of_lt_of_le V2.lt f108)
  have f112 := Nat.le_trans Z0 K104.1
  have f113 := F1.keep K104 nin0
  have f114 := F2.keep K104 nin0
  have f115 := E1.keep K104
  have f116 := V2.keep K104 nin0
  have f117 := O0.keep K104 all0
  have f118 := f101.trans K104 all0
  obtain ⟨_, _, ⟨T119, L119, k119, n119⟩, -, X119, ⟨Lc119, hQ119, l119, y119, z119⟩, st119⟩ := Jvm.LawKit.callS X104 hx (y := own_y2) hown (own_m hZ hw 47) (own_m hZ hw 48) (own_m hZ hw 42) (own_m hZ hw 49) (by decide) (backOf (W := 1) (rmEU_3 l Z a0 hw [] b105 x106 (own_b0 x0) (own_b1 x0) (own_b0 x1) (own_b1 x1) (own_b0 x2) (own_b1 x2) T104.heap n0 f112 f109) hZ (own_i hw 49 rfl) (own_i hw 42 rfl) (by decide) (by decide)) (g := (mkF m 45 #[rv a1, rv a2, iv 0, iv 3, .val .null, rv b105] [(.int 3), (.ref b105), (.ref a1)])) rfl (by rw [hml]; rfl) (argsL := [(.ref b105), (.int 3)]) (rest := [(.ref a1)]) (lenOf pd_2 rfl) rfl (Nat.le_of_eq rfl) (hb hby d4_45) (fun _ _ => ⟨rfl, rfl, own_le rfl, own_le rfl⟩)
  dsimp only [Pt.U, Pt.locs, Pt.cells, Pt.slots] at X119 l119 y119 z119 st119 hQ119
  subst l119 y119 z119
  obtain ⟨rfl, N119q, e119⟩ := hQ119
  have N119 := Fr.app N104 N119q
  obtain ⟨T120, h120, X120, e120, W120, st120⟩ := putFN X119 hx hZ hown (own_i hw 29 rfl) Via.refl e119 f114 f115 (Or.inr ⟨(own_i hw 25 rfl), rfl, hnm⟩) (own_i hw 9 rfl) (ty := .byte) (v' := (.int 1)) (by decide) rfl (by decide) (g := (mkF m 48 #[rv a1, rv a2, iv 0, iv 3, .val .null, rv b105] [(.int 1), (.ref a1)])) rfl rfl (hb hby d4_48)
  have Fw120 := f114.same W120
  have N120 := Fr.snoc X120 N119 g1
  have f121 := Nat.le_trans f112 (Keep.of_wr W120).1
  have f122 := f113.other W120 (Or.inr (slot_ne (Or.inr (own_i hw 24 rfl)) (Or.inr (own_i hw 25 rfl)) (by decide) (t := (.array .byte)) (t' := .byte) (by decide) (by decide)))
  have f123 := f115.wr W120
  have f124 := f116.other W120 (Ne.symm ne)
  have f125 := f117.wr W120 g1
  have f126 := f118.wr W120 (Or.inl (List.mem_of_getElem? (i := 0) rfl))
  have f127 := f109.other W120 (Ne.symm ne110)
  obtain ⟨T128, h128, X128, e128, W128, st128⟩ := putF X120 hx hZ hown (host := "") (Or.inl (own_i hw 28 rfl)) Via.refl e120 f122 f123 (Or.inr ⟨(own_i hw 24 rfl), rfl, hnm⟩) (own_i hw 9 rfl) (ty := (.array .byte)) (by decide) rfl rfl (g := (mkF m 54 #[rv a1, rv a2, iv 0, iv 3, .val .null, rv b105] [(.ref b105), (.ref a1)])) rfl rfl (hb hby d4_54)
  have Fw128 := f122.same W128
  have N128 := Fr.snoc X128 N120 g1
  have f129 := Nat.le_trans f121 (Keep.of_wr W128).1
  have f130 := f123.wr W128
  have f131 := f124.other W128 (Ne.symm ne)
  have f132 := f125.wr W128 g1
  have f133 := f126.wr W128 (Or.inl (List.mem_of_getElem? (i := 0) rfl))
  have f134 := f127.other W128 (Ne.symm ne110)
  have f135 := Fw120.other W128 (Or.inr (slot_ne (Or.inr (own_i hw 25 rfl)) (Or.inr (own_i hw 24 rfl)) (by decide) (t := .byte) (t' := (.array .byte)) (by decide) (by decide)))
  have pre136 : own_P p e below s₁ (entryFrame m #[(.ref a1), (.ref a2), (.int 0), (.int 3), .null] 6) T128 (mkF m 57 #[rv a1, rv a2, iv 0, iv 3, .val .null, rv b105] []) := fun t k => pre0 t (by
    show Steps p.tables e below (s₁.setTop (mkF m 0 #[rv a1, rv a2, iv 0, iv 3, .val .null, .unset] [])) t
    refine XS.aloadN X0.here hx rfl (hb hby d4_0) rfl rfl ?_
    refine st102 _ ?_
    refine XS.iloadN X102.here hx rfl (hb hby d4_4) rfl ?_
    refine XS.ifYes X102.here hx rfl (pc0 := 5) (pc' := 27) rfl (hb hby d4_5) rfl ((if0 _ _).trans (feq (by decide : ¬ ((3 : Int32) = (0 : Int32)))).2) (by decide) (by decide) ?_
    refine st103 _ ?_
    refine XS.ifNo X103.here hx rfl (hb hby d4_30) rfl ((if0 _ _).trans (feq hcs).1) ?_
    refine XS.aloadN X103.here hx rfl (hb hby d4_33) rfl rfl ?_
    refine XS.iloadN X103.here hx rfl (hb hby d4_34) rfl ?_
    refine XS.iloadN X103.here hx rfl (hb hby d4_35) rfl ?_
    refine st104 _ ?_
    refine XS.astore X104.here hx rfl (hb hby d4_39) rfl rfl (l' := #[rv a1, rv a2, iv 0, iv 3, .val .null, rv b105]) rfl ?_
    refine XS.aloadN X104.here hx rfl (hb hby d4_41) rfl rfl ?_
    refine XS.aload X104.here hx rfl (hb hby d4_42) rfl rfl ?_
    refine XS.iloadN X104.here hx rfl (hb hby d4_44) rfl ?_
    refine st119 _ ?_
    refine st120 _ ?_
    refine XS.aloadN X120.here hx rfl (hb hby d4_51) rfl rfl ?_
    refine XS.aload X120.here hx rfl (hb hby d4_52) rfl rfl ?_
    refine st128 _ ?_
    exact k)
  obtain ⟨fs, hr, hrun, hended, hW, hsame⟩ := X128.leave (v := none) (fun _ => rfl)
  refine ⟨_, _, pre136 _ ?_, hrun, hended, _, _, rfl, ?_, ⟨_, rfl⟩, hW, hsame.mono (by decide) (by decide)⟩
  · exact X128.returnOut hx Bd.returns (hb hby d4_57) hr
  · show QFU_3 Z a1 a2 k2 cs x0 x1 x2 h0 n0 _ T128.heap _
    rw [e128]
    exact ⟨b105, x106, rfl, N128, f133, f130, f135, Fw128, f107, f108, f134⟩
def QGU_3 (Z : State) (a1 a2 : Addr) (k2 : ClassId) (cs x0 x1 x2 : Int32) (h0 : Heap) (n0 : Nat) (v : Option Value) (h : Heap) (L : List Loc) : Prop := ∃ (t : Addr) (kt : ClassId), v = none ∧ Fr n0 L ∧ Keep h0 h [a1] ∧ (Exa Z h a1 "java/lang/String") ∧ (Fld Z h a1 "java/lang/String" "coder" "B" (.int 1)) ∧ (Fld Z h a1 "java/lang/String" "value" "[B" (.ref t)) ∧ (n0 ≤ t) ∧ (h0.size ≤ t) ∧ (Arv Z h t kt .byte (6 : Int32) [(.int (own_b0 x0)), (.int (own_b1 x0)), (.int (own_b0 x1)), (.int (own_b1 x1)), (.int (own_b0 x2)), (.int (own_b1 x2))] (.int 0))
theorem rmGU_3 (l : Launch) (Z : State) (a0 : Array Value) (hw : own_H Z a0) (ws : List Jvm.Cond) (a1 a2 : Addr) (k2 : ClassId) (cs x0 x1 x2 : Int32) (h0 : Heap) (n0 : Nat) (Z0 : n0 ≤ h0.size) (F1 : Fld Z h0 a1 "java/lang/String" "value" "[B" .null) (F2 : Fld Z h0 a1 "java/lang/String" "coder" "B" (.int 0)) (E1 : Exa Z h0 a1 "java/lang/String") (g1 : n0 ≤ a1) (V2 : Arv Z h0 a2 k2 .char (3 : Int32) [(.int x0), (.int x1), (.int x2)] (.int 0)) (ne : a1 ≠ a2) (SC : Sta Z Z.heap "java/lang/String" "COMPACT_STRINGS" "Z" (.int cs)) (hcs : ¬ (cs = (0 : Int32))) (SA : Sta Z Z.heap "java/lang/StringUTF16" "$assertionsDisabled" "Z" (.int 1)) (SH : Sta Z Z.heap "java/lang/StringUTF16" "HI_BYTE_SHIFT" "I" (.int 0)) (SL : Sta Z Z.heap "java/lang/StringUTF16" "LO_BYTE_SHIFT" "I" (.int 8)) (O0 : Old Z n0 h0) (hC0 : own_C x0) (hC1 : own_C x1) (hC2 : own_C x2) (hU : ¬ ((¬ ((255 : Int32) < x0)) ∧ (¬ ((255 : Int32) < x1)) ∧ (¬ ((255 : Int32) < x2)))) :
    own_M l own_y4 jdk_42_method_3_code 2 none ws (own_R 5 2 9 74) Z h0 #[(.ref a1), (.ref a2)] (QGU_3 Z a1 a2 k2 cs x0 x1 x2 h0 n0) := by
  refine own_body (plainFor_of_name pn_java_lang_String) fun p e s m below meth c s₁ Bd hx hby hml (hown : s.vm.findClass "java/lang/String" = some m.cls) hnm X0 e0 hZ => ?_
  have N0 := Fr.nil n0
  have pre0 : own_P p e below s₁ (entryFrame m #[(.ref a1), (.ref a2)] 2) s₁ (mkF m 0 #[rv a1, rv a2] []) := fun t k => castTop (by first | rfl | (simp [entryFrame, mkF, argsToLocals, Value.category]; done)) k
  have f101 := Keep.refl h0 [a1]
  obtain ⟨cl102, Ar102, q102, S102, N102z, H102, G102⟩ := (id V2)
  obtain ⟨_, _, ⟨T103, L103, k103, n103⟩, -, X103, ⟨Lc103, hQ103, l103, y103, z103⟩, st103⟩ := X0.specialBack hx (y := own_y3) rfl hown (own_m hZ hw 15) (own_m hZ hw 16) (own_m hZ hw 18) (by decide) (backOf (W := 0) (rmFU_3 l Z a0 hw [] a1 a2 k2 cs x0 x1 x2 h0 n0 Z0 F1 F2 E1 g1 V2 ne SC hcs SA SH SL O0 hC0 hC1 hC2 hU) hZ (own_i hw 18 rfl) (own_i hw 10 rfl) (by decide) (by decide)) (g := (mkF m 6 #[rv a1, rv a2] [.null, (.int 3), (.int 0), (.ref a2), (.ref a1)])) rfl (by rw [hml]; rfl) (Steps.refl _) (a := a1) (argsL := [(.ref a2), (.int 0), (.int 3), .null]) (rest := []) (lenOf pd_3 rfl) rfl (Nat.le_of_eq rfl) (hb hby d3_6) (fun _ _ => ⟨rfl, e0, own_le rfl, own_le rfl⟩)
  dsimp only [Pt.U, Pt.locs, Pt.cells, Pt.slots] at X103 l103 y103 z103 st103 hQ103
  subst l103 y103 z103
  obtain ⟨b104, x105, rfl, N103q, K103, f106, f107, f108, f109, f110, f111⟩ := hQ103
  have N103 := Fr.app N0 N103q
  have ne112 : a1 ≠ b104 := Nat.ne_of_lt (Nat.lt_of_lt_of_le F1.lt f110)
  have ne113 : a2 ≠ b104 := Nat.ne_of_lt (Nat.lt_of_lt_of_le V2.lt f110)
  have f114 := Nat.le_trans Z0 K103.1
  have f115 := V2.keep K103 (ninS (Ne.symm ne) nin0)
  have f116 := O0.keep K103 (allS g1 all0)
  have f117 := f101.trans K103 (allS (Or.inl (List.mem_of_getElem? (i := 0) rfl)) all0)
  have pre118 : own_P p e below s₁ (entryFrame m #[(.ref a1), (.ref a2)] 2) T103 (mkF m 9 #[rv a1, rv a2] []) := fun t k => pre0 t (by
    show Steps p.tables e below (s₁.setTop (mkF m 0 #[rv a1, rv a2] [])) t
    refine XS.aloadN X0.here hx rfl (hb hby d3_0) rfl rfl ?_
    refine XS.aloadN X0.here hx rfl (hb hby d3_1) rfl rfl ?_
    refine XS.iconst X0.here hx rfl (hb hby d3_2) ?_
    refine XS.aloadN X0.here hx rfl (hb hby d3_3) rfl rfl ?_
    refine X0.arraylength hx (by rw [e0]; exact Ar102.1) (State.isArrayOf_alike hZ.alike Ar102.2.1) (g := (mkF m 4 #[rv a1, rv a2] [(.ref a2), (.int 0), (.ref a2), (.ref a1)])) rfl rfl (hb hby d3_4) _ ?_
    rw [len_of S102 N102z]
    refine XS.aconstNull X0.here hx rfl (hb hby d3_5) ?_
    refine st103.trans ?_
    exact k)
  obtain ⟨fs, hr, hrun, hended, hW, hsame⟩ := X103.leave (v := none) (fun _ => rfl)
  refine ⟨_, _, pre118 _ ?_, hrun, hended, _, _, rfl, ?_, ⟨_, rfl⟩, hW, hsame.mono (by decide) (by decide)⟩
  · exact X103.returnOut hx Bd.returns (hb hby d3_9) hr
  · show QGU_3 Z a1 a2 k2 cs x0 x1 x2 h0 n0 _ T103.heap _
    exact ⟨b104, x105, rfl, N103, f117, f106, f107, f108, f109, f110, f111⟩
def QPc_4_0 (Z : State) (a1 : Addr) (p3 : Int32) (k1 : ClassId) (y0 y1 y2 y3 y4 y5 y6 y7 : Int32) (h0 : Heap) (n0 : Nat) (v : Option Value) (h : Heap) (L : List Loc) : Prop := v = none ∧ Fr n0 L ∧ Keep h0 h [a1] ∧ (Arv Z h a1 k1 .byte (8 : Int32) [(.int (own_b0 p3)), (.int (own_b1 p3)), (.int y2), (.int y3), (.int y4), (.int y5), (.int y6), (.int y7)] (.int 0))
theorem rmPc_4_0 (l : Launch) (Z : State) (a0 : Array Value) (hw : own_H Z a0) (ws : List Jvm.Cond) (a1 : Addr) (p3 : Int32) (k1 : ClassId) (y0 y1 y2 y3 y4 y5 y6 y7 : Int32) (h0 : Heap) (n0 : Nat) (Z0 : n0 ≤ h0.size) (V1 : Arv Z h0 a1 k1 .byte (8 : Int32) [(.int y0), (.int y1), (.int y2), (.int y3), (.int y4), (.int y5), (.int y6), (.int y7)] (.int 0)) (SA : Sta Z h0 "java/lang/StringUTF16" "$assertionsDisabled" "Z" (.int 1)) (SH : Sta Z h0 "java/lang/StringUTF16" "HI_BYTE_SHIFT" "I" (.int 0)) (SL : Sta Z h0 "java/lang/StringUTF16" "LO_BYTE_SHIFT" "I" (.int 8)) (g1 : n0 ≤ a1) :
    own_M l own_y19 jdk_52_method_4_code 3 none ws (own_R 0 0 0 0) Z h0 #[(.ref a1), (.int 0), (.int p3)] (QPc_4_0 Z a1 p3 k1 y0 y1 y2 y3 y4 y5 y6 y7 h0 n0) := by
  refine own_body (plainFor_of_name pn_java_lang_StringUTF16) fun p e s m below meth c s₁ Bd hx hby hml (hown : s.vm.findClass "java/lang/StringUTF16" = some m.cls) hnm X0 e0 hZ => ?_
  have N0 := Fr.nil n0
  have pre0 : own_P p e below s₁ (entryFrame m #[(.ref a1), (.int 0), (.int p3)] 3) s₁ (mkF m 0 #[rv a1, iv 0, iv p3] []) := fun t k => castTop (by first | rfl | (simp [entryFrame, mkF, argsToLocals, Value.category]; done)) k
  have f101 := Keep.refl h0 [a1]
  obtain ⟨T102, X102, e102, st102⟩ := getS2 X0 hx hZ hown (host := "") (Or.inl (own_i hw 99 rfl)) Via.refl e0 SA (g := (mkF m 0 #[rv a1, iv 0, iv p3] [])) rfl (hb hby d22_0)
  have pre103 : own_P p e below s₁ (entryFrame m #[(.ref a1), (.int 0), (.int p3)] 3) T102 (mkF m 31 #[rv a1, iv 0, iv p3] [(.int ((0 : Int32) <<< ((1 : Int32) &&& 31)))]) := fun t k => pre0 t (by
    show Steps p.tables e below (s₁.setTop (mkF m 0 #[rv a1, iv 0, iv p3] [])) t
    refine st102 _ ?_
    refine XS.ifYes X102.here hx rfl (pc0 := 3) (pc' := 28) rfl (hb hby d22_3) rfl ((if0 _ _).trans (feq (by decide : ¬ ((1 : Int32) = (0 : Int32)))).2) (by decide) (by decide) ?_
    refine XS.iloadN X102.here hx rfl (hb hby d22_28) rfl ?_
    refine XS.iconst X102.here hx rfl (hb hby d22_29) ?_
    refine XS.ishl X102.here hx rfl (hb hby d22_30) rfl ?_
    exact k)
  have pre104 : own_P p e below s₁ (entryFrame m #[(.ref a1), (.int 0), (.int p3)] 3) T102 (mkF m 31 #[rv a1, iv 0, iv p3] [(.int 0)]) := fun t k => pre103 t (by rw [show ((0 : Int32) <<< ((1 : Int32) &&& 31)) = (0 : Int32) from (by decide)]; exact k)
  obtain ⟨T105, X105, e105, st105⟩ := getS2 X102 hx hZ hown (host := "") (Or.inl (own_i hw 100 rfl)) Via.refl e102 SH (g := (mkF m 38 #[rv a1, iv 1, iv p3] [(.int p3), (.int 0), (.ref a1)])) rfl (hb hby d22_38)
  obtain ⟨cl106, Ar106, q106, S106, N106z, H106, G106⟩ := (id V1)
  have hin106 : ¬ ((0 : Int32) < 0 ∨ cl106.slots.size ≤ ((0 : Int32)).toNatClampNeg) := inb_of S106 ⟨by decide, by decide⟩
  obtain ⟨T106, h106, X106, e106, W106, st106⟩ := stB X105 hx hZ e105 Ar106 (j := (0 : Int32)) hin106 (g := (mkF m 43 #[rv a1, iv 1, iv p3] [(.int ((p3 >>> ((0 : Int32) &&& 31)).toInt8.toInt32)), (.int 0), (.ref a1)])) rfl rfl (hb hby d22_43)
  have V106 : Arv Z h106 a1 k1 .byte (8 : Int32) [(.int (nar .byte ((p3 >>> ((0 : Int32) &&& 31)).toInt8.toInt32))), (.int y1), (.int y2), (.int y3), (.int y4), (.int y5), (.int y6), (.int y7)] (.int 0) := Arv.set Ar106 q106 S106 N106z H106 G106 (fits_nar_byte _) W106 0 rfl (Nat.le_of_ble_eq_true rfl)
  have N106 := Fr.snoc X106 N0 g1
  have f107 := Nat.le_trans Z0 (Keep.of_wr W106).1
  have f108 := SA.wr W106
  have f109 := SH.wr W106
  have f110 := SL.wr W106
  have f111 := f101.wr W106 (Or.inl (List.mem_of_getElem? (i := 0) rfl))
  obtain ⟨T112, X112, e112, st112⟩ := getS2 X106 hx hZ hown (host := "") (Or.inl (own_i hw 101 rfl)) Via.refl e106 f110 (g := (mkF m 47 #[rv a1, iv 1, iv p3] [(.int p3), (.int 1), (.ref a1)])) rfl (hb hby d22_47)
  obtain ⟨cl113, Ar113, q113, S113, N113z, H113, G113⟩ := (id V106)
  have hin113 : ¬ ((1 : Int32) < 0 ∨ cl113.slots.size ≤ ((1 : Int32)).toNatClampNeg) := inb_of S113 ⟨by decide, by decide⟩
  obtain ⟨T113, h113, X113, e113, W113, st113⟩ := stB X112 hx hZ e112 Ar113 (j := (1 : Int32)) hin113 (g := (mkF m 52 #[rv a1, iv 1, iv p3] [(.int ((p3 >>> ((8 : Int32) &&& 31)).toInt8.toInt32)), (.int 1), (.ref a1)])) rfl rfl (hb hby d22_52)
  have V113 : Arv Z h113 a1 k1 .byte (8 : Int32) [(.int (nar .byte ((p3 >>> ((0 : Int32) &&& 31)).toInt8.toInt32))), (.int (nar .byte ((p3 >>> ((8 : Int32) &&& 31)).toInt8.toInt32))), (.int y2), (.int y3), (.int y4), (.int y5), (.int y6), (.int y7)] (.int 0) := Arv.set Ar113 q113 S113 N113z H113 G113 (fits_nar_byte _) W113 1 rfl (Nat.le_of_ble_eq_true rfl)
  have N113 := Fr.snoc X113 N106 g1
  have f114 := Nat.le_trans f107 (Keep.of_wr W113).1
  have f115 := f108.wr W113
  have f116 := f109.wr W113
  have f117 := f110.wr W113
  have f118 := f111.wr W113 (Or.inl (List.mem_of_getElem? (i := 0) rfl))
  have pre119 : own_P p e below s₁ (entryFrame m #[(.ref a1), (.int 0), (.int p3)] 3) T113 (mkF m 53 #[rv a1, iv 1, iv p3] []) := fun t k => pre104 t (by
    show Steps p.tables e below (T102.setTop (mkF m 31 #[rv a1, iv 0, iv p3] [(.int 0)])) t
    refine XS.istoreN X102.here hx rfl (hb hby d22_31) rfl (l' := #[rv a1, iv 0, iv p3]) rfl ?_
    refine XS.aloadN X102.here hx rfl (hb hby d22_32) rfl rfl ?_
    refine XS.iloadN X102.here hx rfl (hb hby d22_33) rfl ?_
    refine XS.iinc X102.here hx rfl (hb hby d22_34) rfl (l' := #[rv a1, iv 1, iv p3]) rfl ?_
    refine XS.iloadN X102.here hx rfl (hb hby d22_37) rfl ?_
    refine st105 _ ?_
    refine XS.ishr X105.here hx rfl (hb hby d22_41) rfl ?_
    refine XS.i2b X105.here hx rfl (hb hby d22_42) rfl ?_
    refine st106 _ ?_
    refine XS.aloadN X106.here hx rfl (hb hby d22_44) rfl rfl ?_
    refine XS.iloadN X106.here hx rfl (hb hby d22_45) rfl ?_
    refine XS.iloadN X106.here hx rfl (hb hby d22_46) rfl ?_
    refine st112 _ ?_
    refine XS.ishr X112.here hx rfl (hb hby d22_50) rfl ?_
    refine XS.i2b X112.here hx rfl (hb hby d22_51) rfl ?_
    refine st113 _ ?_
    exact k)
  obtain ⟨fs, hr, hrun, hended, hW, hsame⟩ := X113.leave (v := none) (fun _ => rfl)
  refine ⟨_, _, pre119 _ ?_, hrun, hended, _, _, rfl, ?_, ⟨_, rfl⟩, hW, hsame.mono (by decide) (by decide)⟩
  · exact X113.returnOut hx Bd.returns (hb hby d22_53) hr
  · show QPc_4_0 Z a1 p3 k1 y0 y1 y2 y3 y4 y5 y6 y7 h0 n0 _ T113.heap _
    rw [e113]
    exact ⟨rfl, N113, f118, V113⟩
def QPc_4_1 (Z : State) (a1 : Addr) (p3 : Int32) (k1 : ClassId) (y0 y1 y2 y3 y4 y5 y6 y7 : Int32) (h0 : Heap) (n0 : Nat) (v : Option Value) (h : Heap) (L : List Loc) : Prop := v = none ∧ Fr n0 L ∧ Keep h0 h [a1] ∧ (Arv Z h a1 k1 .byte (8 : Int32) [(.int y0), (.int y1), (.int (own_b0 p3)), (.int (own_b1 p3)), (.int y4), (.int y5), (.int y6), (.int y7)] (.int 0))
theorem rmPc_4_1 (l : Launch) (Z : State) (a0 : Array Value) (hw : own_H Z a0) (ws : List Jvm.Cond) (a1 : Addr) (p3 : Int32) (k1 : ClassId) (y0 y1 y2 y3 y4 y5 y6 y7 : Int32) (h0 : Heap) (n0 : Nat) (Z0 : n0 ≤ h0.size) (V1 : Arv Z h0 a1 k1 .byte (8 : Int32) [(.int y0), (.int y1), (.int y2), (.int y3), (.int y4), (.int y5), (.int y6), (.int y7)] (.int 0)) (SA : Sta Z h0 "java/lang/StringUTF16" "$assertionsDisabled" "Z" (.int 1)) (SH : Sta Z h0 "java/lang/StringUTF16" "HI_BYTE_SHIFT" "I" (.int 0)) (SL : Sta Z h0 "java/lang/StringUTF16" "LO_BYTE_SHIFT" "I" (.int 8)) (g1 : n0 ≤ a1) :
    own_M l own_y19 jdk_52_method_4_code 3 none ws (own_R 0 0 0 0) Z h0 #[(.ref a1), (.int 1), (.int p3)] (QPc_4_1 Z a1 p3 k1 y0 y1 y2 y3 y4 y5 y6 y7 h0 n0) := by
  refine own_body (plainFor_of_name pn_java_lang_StringUTF16) fun p e s m below meth c s₁ Bd hx hby hml (hown : s.vm.findClass "java/lang/StringUTF16" = some m.cls) hnm X0 e0 hZ => ?_
  have N0 := Fr.nil n0
  have pre0 : own_P p e below s₁ (entryFrame m #[(.ref a1), (.int 1), (.int p3)] 3) s₁ (mkF m 0 #[rv a1, iv 1, iv p3] []) := fun t k => castTop (by first | rfl | (simp [entryFrame, mkF, argsToLocals, Value.category]; done)) k
  have f101 := Keep.refl h0 [a1]
  obtain ⟨T102, X102, e102, st102⟩ := getS2 X0 hx hZ hown (host := "") (Or.inl (own_i hw 99 rfl)) Via.refl e0 SA (g := (mkF m 0 #[rv a1, iv 1, iv p3] [])) rfl (hb hby d22_0)
  have pre103 : own_P p e below s₁ (entryFrame m #[(.ref a1), (.int 1), (.int p3)] 3) T102 (mkF m 31 #[rv a1, iv 1, iv p3] [(.int ((1 : Int32) <<< ((1 : Int32) &&& 31)))]) := fun t k => pre0 t (by
    show Steps p.tables e below (s₁.setTop (mkF m 0 #[rv a1, iv 1, iv p3] [])) t
    refine st102 _ ?_
    refine XS.ifYes X102.here hx rfl (pc0 := 3) (pc' := 28) rfl (hb hby d22_3) rfl ((if0 _ _).trans (feq (by decide : ¬ ((1 : Int32) = (0 : Int32)))).2) (by decide) (by decide) ?_
    refine XS.iloadN X102.here hx rfl (hb hby d22_28) rfl ?_
    refine XS.iconst X102.here hx rfl (hb hby d22_29) ?_
    refine XS.ishl X102.here hx rfl (hb hby d22_30) rfl ?_
    exact k)
  have pre104 : own_P p e below s₁ (entryFrame m #[(.ref a1), (.int 1), (.int p3)] 3) T102 (mkF m 31 #[rv a1, iv 1, iv p3] [(.int 2)]) := fun t k => pre103 t (by rw [show ((1 : Int32) <<< ((1 : Int32) &&& 31)) = (2 : Int32) from (by decide)]; exact k)
  obtain ⟨T105, X105, e105, st105⟩ := getS2 X102 hx hZ hown (host := "") (Or.inl (own_i hw 100 rfl)) Via.refl e102 SH (g := (mkF m 38 #[rv a1, iv 3, iv p3] [(.int p3), (.int 2), (.ref a1)])) rfl (hb hby d22_38)
  obtain ⟨cl106, Ar106, q106, S106, N106z, H106, G106⟩ := (id V1)
  have hin106 : ¬ ((2 : Int32) < 0 ∨ cl106.slots.size ≤ ((2 : Int32)).toNatClampNeg) := inb_of S106 ⟨by decide, by decide⟩
  obtain ⟨T106, h106, X106, e106, W106, st106⟩ := stB X105 hx hZ e105 Ar106 (j := (2 : Int32)) hin106 (g := (mkF m 43 #[rv a1, iv 3, iv p3] [(.int ((p3 >>> ((0 : Int32) &&& 31)).toInt8.toInt32)), (.int 2), (.ref a1)])) rfl rfl (hb hby d22_43)
  have V106 : Arv Z h106 a1 k1 .byte (8 : Int32) [(.int y0), (.int y1), (.int (nar .byte ((p3 >>> ((0 : Int32) &&& 31)).toInt8.toInt32))), (.int y3), (.int y4), (.int y5), (.int y6), (.int y7)] (.int 0) := Arv.set Ar106 q106 S106 N106z H106 G106 (fits_nar_byte _) W106 2 rfl (Nat.le_of_ble_eq_true rfl)
  have N106 := Fr.snoc X106 N0 g1
  have f107 := Nat.le_trans Z0 (Keep.of_wr W106).1
  have f108 := SA.wr W106
  have f109 := SH.wr W106
  have f110 := SL.wr W106
  have f111 := f101.wr W106 (Or.inl (List.mem_of_getElem? (i := 0) rfl))
  obtain ⟨T112, X112, e112, st112⟩ := getS2 X106 hx hZ hown (host := "") (Or.inl (own_i hw 101 rfl)) Via.refl e106 f110 (g := (mkF m 47 #[rv a1, iv 3, iv p3] [(.int p3), (.int 3), (.ref a1)])) rfl (hb hby d22_47)
  obtain ⟨cl113, Ar113, q113, S113, N113z, H113, G113⟩ := (id V106)
  have hin113 : ¬ ((3 : Int32) < 0 ∨ cl113.slots.size ≤ ((3 : Int32)).toNatClampNeg) := inb_of S113 ⟨by decide, by decide⟩
  obtain ⟨T113, h113, X113, e113, W113, st113⟩ := stB X112 hx hZ e112 Ar113 (j := (3 : Int32)) hin113 (g := (mkF m 52 #[rv a1, iv 3, iv p3] [(.int ((p3 >>> ((8 : Int32) &&& 31)).toInt8.toInt32)), (.int 3), (.ref a1)])) rfl rfl (hb hby d22_52)
  have V113 : Arv Z h113 a1 k1 .byte (8 : Int32) [(.int y0), (.int y1), (.int (nar .byte ((p3 >>> ((0 : Int32) &&& 31)).toInt8.toInt32))), (.int (nar .byte ((p3 >>> ((8 : Int32) &&& 31)).toInt8.toInt32))), (.int y4), (.int y5), (.int y6), (.int y7)] (.int 0) := Arv.set Ar113 q113 S113 N113z H113 G113 (fits_nar_byte _) W113 3 rfl (Nat.le_of_ble_eq_true rfl)
  have N113 := Fr.snoc X113 N106 g1
  have f114 := Nat.le_trans f107 (Keep.of_wr W113).1
  have f115 := f108.wr W113
  have f116 := f109.wr W113
  have f117 := f110.wr W113
  have f118 := f111.wr W113 (Or.inl (List.mem_of_getElem? (i := 0) rfl))
  have pre119 : own_P p e below s₁ (entryFrame m #[(.ref a1), (.int 1), (.int p3)] 3) T113 (mkF m 53 #[rv a1, iv 3, iv p3] []) := fun t k => pre104 t (by
    show Steps p.tables e below (T102.setTop (mkF m 31 #[rv a1, iv 1, iv p3] [(.int 2)])) t
    refine XS.istoreN X102.here hx rfl (hb hby d22_31) rfl (l' := #[rv a1, iv 2, iv p3]) rfl ?_
    refine XS.aloadN X102.here hx rfl (hb hby d22_32) rfl rfl ?_
    refine XS.iloadN X102.here hx rfl (hb hby d22_33) rfl ?_
    refine XS.iinc X102.here hx rfl (hb hby d22_34) rfl (l' := #[rv a1, iv 3, iv p3]) rfl ?_
    refine XS.iloadN X102.here hx rfl (hb hby d22_37) rfl ?_
    refine st105 _ ?_
    refine XS.ishr X105.here hx rfl (hb hby d22_41) rfl ?_
    refine XS.i2b X105.here hx rfl (hb hby d22_42) rfl ?_
    refine st106 _ ?_
    refine XS.aloadN X106.here hx rfl (hb hby d22_44) rfl rfl ?_
    refine XS.iloadN X106.here hx rfl (hb hby d22_45) rfl ?_
    refine XS.iloadN X106.here hx rfl (hb hby d22_46) rfl ?_
    refine st112 _ ?_
    refine XS.ishr X112.here hx rfl (hb hby d22_50) rfl ?_
    refine XS.i2b X112.here hx rfl (hb hby d22_51) rfl ?_
    refine st113 _ ?_
    exact k)
  obtain ⟨fs, hr, hrun, hended, hW, hsame⟩ := X113.leave (v := none) (fun _ => rfl)
  refine ⟨_, _, pre119 _ ?_, hrun, hended, _, _, rfl, ?_, ⟨_, rfl⟩, hW, hsame.mono (by decide) (by decide)⟩
  · exact X113.returnOut hx Bd.returns (hb hby d22_53) hr
  · show QPc_4_1 Z a1 p3 k1 y0 y1 y2 y3 y4 y5 y6 y7 h0 n0 _ T113.heap _
    rw [e113]
    exact ⟨rfl, N113, f118, V113⟩
def QPc_4_2 (Z : State) (a1 : Addr) (p3 : Int32) (k1 : ClassId) (y0 y1 y2 y3 y4 y5 y6 y7 : Int32) (h0 : Heap) (n0 : Nat) (v : Option Value) (h : Heap) (L : List Loc) : Prop := v = none ∧ Fr n0 L ∧ Keep h0 h [a1] ∧ (Arv Z h a1 k1 .byte (8 : Int32) [(.int y0), (.int y1), (.int y2), (.int y3), (.int (own_b0 p3)), (.int (own_b1 p3)), (.int y6), (.int y7)] (.int 0))
theorem rmPc_4_2 (l : Launch) (Z : State) (a0 : Array Value) (hw : own_H Z a0) (ws : List Jvm.Cond) (a1 : Addr) (p3 : Int32) (k1 : ClassId) (y0 y1 y2 y3 y4 y5 y6 y7 : Int32) (h0 : Heap) (n0 : Nat) (Z0 : n0 ≤ h0.size) (V1 : Arv Z h0 a1 k1 .byte (8 : Int32) [(.int y0), (.int y1), (.int y2), (.int y3), (.int y4), (.int y5), (.int y6), (.int y7)] (.int 0)) (SA : Sta Z h0 "java/lang/StringUTF16" "$assertionsDisabled" "Z" (.int 1)) (SH : Sta Z h0 "java/lang/StringUTF16" "HI_BYTE_SHIFT" "I" (.int 0)) (SL : Sta Z h0 "java/lang/StringUTF16" "LO_BYTE_SHIFT" "I" (.int 8)) (g1 : n0 ≤ a1) :
    own_M l own_y19 jdk_52_method_4_code 3 none ws (own_R 0 0 0 0) Z h0 #[(.ref a1), (.int 2), (.int p3)] (QPc_4_2 Z a1 p3 k1 y0 y1 y2 y3 y4 y5 y6 y7 h0 n0) := by
  refine own_body (plainFor_of_name pn_java_lang_StringUTF16) fun p e s m below meth c s₁ Bd hx hby hml (hown : s.vm.findClass "java/lang/StringUTF16" = some m.cls) hnm X0 e0 hZ => ?_
  have N0 := Fr.nil n0
  have pre0 : own_P p e below s₁ (entryFrame m #[(.ref a1), (.int 2), (.int p3)] 3) s₁ (mkF m 0 #[rv a1, iv 2, iv p3] []) := fun t k => castTop (by first | rfl | (simp [entryFrame, mkF, argsToLocals, Value.category]; done)) k
  have f101 := Keep.refl h0 [a1]
  obtain ⟨T102, X102, e102, st102⟩ := getS2 X0 hx hZ hown (host := "") (Or.inl (own_i hw 99 rfl)) Via.refl e0 SA (g := (mkF m 0 #[rv a1, iv 2, iv p3] [])) rfl (hb hby d22_0)
  have pre103 : own_P p e below s₁ (entryFrame m #[(.ref a1), (.int 2), (.int p3)] 3) T102 (mkF m 31 #[rv a1, iv 2, iv p3] [(.int ((2 : Int32) <<< ((1 : Int32) &&& 31)))]) := fun t k => pre0 t (by
    show Steps p.tables e below (s₁.setTop (mkF m 0 #[rv a1, iv 2, iv p3] [])) t
    refine st102 _ ?_
    refine XS.ifYes X102.here hx rfl (pc0 := 3) (pc' := 28) rfl (hb hby d22_3) rfl ((if0 _ _).trans (feq (by decide : ¬ ((1 : Int32) = (0 : Int32)))).2) (by decide) (by decide) ?_
    refine XS.iloadN X102.here hx rfl (hb hby d22_28) rfl ?_
    refine XS.iconst X102.here hx rfl (hb hby d22_29) ?_
    refine XS.ishl X102.here hx rfl (hb hby d22_30) rfl ?_
    exact k)
  have pre104 : own_P p e below s₁ (entryFrame m #[(.ref a1), (.int 2), (.int p3)] 3) T102 (mkF m 31 #[rv a1, iv 2, iv p3] [(.int 4)]) := fun t k => pre103 t (by rw [show ((2 : Int32) <<< ((1 : Int32) &&& 31)) = (4 : Int32) from (by decide)]; exact k)
  obtain ⟨T105, X105, e105, st105⟩ := getS2 X102 hx hZ hown (host := "") (Or.inl (own_i hw 100 rfl)) Via.refl e102 SH (g := (mkF m 38 #[rv a1, iv 5, iv p3] [(.int p3), (.int 4), (.ref a1)])) rfl (hb hby d22_38)
  obtain ⟨cl106, Ar106, q106, S106, N106z, H106, G106⟩ := (id V1)
  have hin106 : ¬ ((4 : Int32) < 0 ∨ cl106.slots.size ≤ ((4 : Int32)).toNatClampNeg) := inb_of S106 ⟨by decide, by decide⟩
  obtain ⟨T106, h106, X106, e106, W106, st106⟩ := stB X105 hx hZ e105 Ar106 (j := (4 : Int32)) hin106 (g := (mkF m 43 #[rv a1, iv 5, iv p3] [(.int ((p3 >>> ((0 : Int32) &&& 31)).toInt8.toInt32)), (.int 4), (.ref a1)])) rfl rfl (hb hby d22_43)
  have V106 : Arv Z h106 a1 k1 .byte (8 : Int32) [(.int y0), (.int y1), (.int y2), (.int y3), (.int (nar .byte ((p3 >>> ((0 : Int32) &&& 31)).toInt8.toInt32))), (.int y5), (.int y6), (.int y7)] (.int 0) := Arv.set Ar106 q106 S106 N106z H106 G106 (fits_nar_byte _) W106 4 rfl (Nat.le_of_ble_eq_true rfl)
  have N106 := Fr.snoc X106 N0 g1
  have f107 := Nat.le_trans Z0 (Keep.of_wr W106).1
  have f108 := SA.wr W106
  have f109 := SH.wr W106
  have f110 := SL.wr W106
  have f111 := f101.wr W106 (Or.inl (List.mem_of_getElem? (i := 0) rfl))
  obtain ⟨T112, X112, e112, st112⟩ := getS2 X106 hx hZ hown (host := "") (Or.inl (own_i hw 101 rfl)) Via.refl e106 f110 (g := (mkF m 47 #[rv a1, iv 5, iv p3] [(.int p3), (.int 5), (.ref a1)])) rfl (hb hby d22_47)
  obtain ⟨cl113, Ar113, q113, S113, N113z, H113, G113⟩ := (id V106)
  have hin113 : ¬ ((5 : Int32) < 0 ∨ cl113.slots.size ≤ ((5 : Int32)).toNatClampNeg) := inb_of S113 ⟨by decide, by decide⟩
  obtain ⟨T113, h113, X113, e113, W113, st113⟩ := stB X112 hx hZ e112 Ar113 (j := (5 : Int32)) hin113 (g := (mkF m 52 #[rv a1, iv 5, iv p3] [(.int ((p3 >>> ((8 : Int32) &&& 31)).toInt8.toInt32)), (.int 5), (.ref a1)])) rfl rfl (hb hby d22_52)
  have V113 : Arv Z h113 a1 k1 .byte (8 : Int32) [(.int y0), (.int y1), (.int y2), (.int y3), (.int (nar .byte ((p3 >>> ((0 : Int32) &&& 31)).toInt8.toInt32))), (.int (nar .byte ((p3 >>> ((8 : Int32) &&& 31)).toInt8.toInt32))), (.int y6), (.int y7)] (.int 0) := Arv.set Ar113 q113 S113 N113z H113 G113 (fits_nar_byte _) W113 5 rfl (Nat.le_of_ble_eq_true rfl)
  have N113 := Fr.snoc X113 N106 g1
  have f114 := Nat.le_trans f107 (Keep.of_wr W113).1
  have f115 := f108.wr W113
  have f116 := f109.wr W113
  have f117 := f110.wr W113
  have f118 := f111.wr W113 (Or.inl (List.mem_of_getElem? (i := 0) rfl))
  have pre119 : own_P p e below s₁ (entryFrame m #[(.ref a1), (.int 2), (.int p3)] 3) T113 (mkF m 53 #[rv a1, iv 5, iv p3] []) := fun t k => pre104 t (by
    show Steps p.tables e below (T102.setTop (mkF m 31 #[rv a1, iv 2, iv p3] [(.int 4)])) t
    refine XS.istoreN X102.here hx rfl (hb hby d22_31) rfl (l' := #[rv a1, iv 4, iv p3]) rfl ?_
    refine XS.aloadN X102.here hx rfl (hb hby d22_32) rfl rfl ?_
    refine XS.iloadN X102.here hx rfl (hb hby d22_33) rfl ?_
    refine XS.iinc X102.here hx rfl (hb hby d22_34) rfl (l' := #[rv a1, iv 5, iv p3]) rfl ?_
    refine XS.iloadN X102.here hx rfl (hb hby d22_37) rfl ?_
    refine st105 _ ?_
    refine XS.ishr X105.here hx rfl (hb hby d22_41) rfl ?_
    refine XS.i2b X105.here hx rfl (hb hby d22_42) rfl ?_
    refine st106 _ ?_
    refine XS.aloadN X106.here hx rfl (hb hby d22_44) rfl rfl ?_
    refine XS.iloadN X106.here hx rfl (hb hby d22_45) rfl ?_
    refine XS.iloadN X106.here hx rfl (hb hby d22_46) rfl ?_
    refine st112 _ ?_
    refine XS.ishr X112.here hx rfl (hb hby d22_50) rfl ?_
    refine XS.i2b X112.here hx rfl (hb hby d22_51) rfl ?_
    refine st113 _ ?_
    exact k)
  obtain ⟨fs, hr, hrun, hended, hW, hsame⟩ := X113.leave (v := none) (fun _ => rfl)
  refine ⟨_, _, pre119 _ ?_, hrun, hended, _, _, rfl, ?_, ⟨_, rfl⟩, hW, hsame.mono (by decide) (by decide)⟩
  · exact X113.returnOut hx Bd.returns (hb hby d22_53) hr
  · show QPc_4_2 Z a1 p3 k1 y0 y1 y2 y3 y4 y5 y6 y7 h0 n0 _ T113.heap _
    rw [e113]
    exact ⟨rfl, N113, f118, V113⟩
def QPc_4_3 (Z : State) (a1 : Addr) (p3 : Int32) (k1 : ClassId) (y0 y1 y2 y3 y4 y5 y6 y7 : Int32) (h0 : Heap) (n0 : Nat) (v : Option Value) (h : Heap) (L : List Loc) : Prop := v = none ∧ Fr n0 L ∧ Keep h0 h [a1] ∧ (Arv Z h a1 k1 .byte (8 : Int32) [(.int y0), (.int y1), (.int y2), (.int y3), (.int y4), (.int y5), (.int (own_b0 p3)), (.int (own_b1 p3))] (.int 0))
theorem rmPc_4_3 (l : Launch) (Z : State) (a0 : Array Value) (hw : own_H Z a0) (ws : List Jvm.Cond) (a1 : Addr) (p3 : Int32) (k1 : ClassId) (y0 y1 y2 y3 y4 y5 y6 y7 : Int32) (h0 : Heap) (n0 : Nat) (Z0 : n0 ≤ h0.size) (V1 : Arv Z h0 a1 k1 .byte (8 : Int32) [(.int y0), (.int y1), (.int y2), (.int y3), (.int y4), (.int y5), (.int y6), (.int y7)] (.int 0)) (SA : Sta Z h0 "java/lang/StringUTF16" "$assertionsDisabled" "Z" (.int 1)) (SH : Sta Z h0 "java/lang/StringUTF16" "HI_BYTE_SHIFT" "I" (.int 0)) (SL : Sta Z h0 "java/lang/StringUTF16" "LO_BYTE_SHIFT" "I" (.int 8)) (g1 : n0 ≤ a1) :
    own_M l own_y19 jdk_52_method_4_code 3 none ws (own_R 0 0 0 0) Z h0 #[(.ref a1), (.int 3), (.int p3)] (QPc_4_3 Z a1 p3 k1 y0 y1 y2 y3 y4 y5 y6 y7 h0 n0) := by
  refine own_body (plainFor_of_name pn_java_lang_StringUTF16) fun p e s m below meth c s₁ Bd hx hby hml (hown : s.vm.findClass "java/lang/StringUTF16" = some m.cls) hnm X0 e0 hZ => ?_
  have N0 := Fr.nil n0
  have pre0 : own_P p e below s₁ (entryFrame m #[(.ref a1), (.int 3), (.int p3)] 3) s₁ (mkF m 0 #[rv a1, iv 3, iv p3] []) := fun t k => castTop (by first | rfl | (simp [entryFrame, mkF, argsToLocals, Value.category]; done)) k
  have f101 := Keep.refl h0 [a1]
  obtain ⟨T102, X102, e102, st102⟩ := getS2 X0 hx hZ hown (host := "") (Or.inl (own_i hw 99 rfl)) Via.refl e0 SA (g := (mkF m 0 #[rv a1, iv 3, iv p3] [])) rfl (hb hby d22_0)
  have pre103 : own_P p e below s₁ (entryFrame m #[(.ref a1), (.int 3), (.int p3)] 3) T102 (mkF m 31 #[rv a1, iv 3, iv p3] [(.int ((3 : Int32) <<< ((1 : Int32) &&& 31)))]) := fun t k => pre0 t (by
    show Steps p.tables e below (s₁.setTop (mkF m 0 #[rv a1, iv 3, iv p3] [])) t
    refine st102 _ ?_
    refine XS.ifYes X102.here hx rfl (pc0 := 3) (pc' := 28) rfl (hb hby d22_3) rfl ((if0 _ _).trans (feq (by decide : ¬ ((1 : Int32) = (0 : Int32)))).2) (by decide) (by decide) ?_
    refine XS.iloadN X102.here hx rfl (hb hby d22_28) rfl ?_
    refine XS.iconst X102.here hx rfl (hb hby d22_29) ?_
    refine XS.ishl X102.here hx rfl (hb hby d22_30) rfl ?_
    exact k)
  have pre104 : own_P p e below s₁ (entryFrame m #[(.ref a1), (.int 3), (.int p3)] 3) T102 (mkF m 31 #[rv a1, iv 3, iv p3] [(.int 6)]) := fun t k => pre103 t (by rw [show ((3 : Int32) <<< ((1 : Int32) &&& 31)) = (6 : Int32) from (by decide)]; exact k)
  obtain ⟨T105, X105, e105, st105⟩ := getS2 X102 hx hZ hown (host := "") (Or.inl (own_i hw 100 rfl)) Via.refl e102 SH (g := (mkF m 38 #[rv a1, iv 7, iv p3] [(.int p3), (.int 6), (.ref a1)])) rfl (hb hby d22_38)
  obtain ⟨cl106, Ar106, q106, S106, N106z, H106, G106⟩ := (id V1)
  have hin106 : ¬ ((6 : Int32) < 0 ∨ cl106.slots.size ≤ ((6 : Int32)).toNatClampNeg) := inb_of S106 ⟨by decide, by decide⟩
  obtain ⟨T106, h106, X106, e106, W106, st106⟩ := stB X105 hx hZ e105 Ar106 (j := (6 : Int32)) hin106 (g := (mkF m 43 #[rv a1, iv 7, iv p3] [(.int ((p3 >>> ((0 : Int32) &&& 31)).toInt8.toInt32)), (.int 6), (.ref a1)])) rfl rfl (hb hby d22_43)
  have V106 : Arv Z h106 a1 k1 .byte (8 : Int32) [(.int y0), (.int y1), (.int y2), (.int y3), (.int y4), (.int y5), (.int (nar .byte ((p3 >>> ((0 : Int32) &&& 31)).toInt8.toInt32))), (.int y7)] (.int 0) := Arv.set Ar106 q106 S106 N106z H106 G106 (fits_nar_byte _) W106 6 rfl (Nat.le_of_ble_eq_true rfl)
  have N106 := Fr.snoc X106 N0 g1
  have f107 := Nat.le_trans Z0 (Keep.of_wr W106).1
  have f108 := SA.wr W106
  have f109 := SH.wr W106
  have f110 := SL.wr W106
  have f111 := f101.wr W106 (Or.inl (List.mem_of_getElem? (i := 0) rfl))
  obtain ⟨T112, X112, e112, st112⟩ := getS2 X106 hx hZ hown (host := "") (Or.inl (own_i hw 101 rfl)) Via.refl e106 f110 (g := (mkF m 47 #[rv a1, iv 7, iv p3] [(.int p3), (.int 7), (.ref a1)])) rfl (hb hby d22_47)
  obtain ⟨cl113, Ar113, q113, S113, N113z, H113, G113⟩ := (id V106)
  have hin113 : ¬ ((7 : Int32) < 0 ∨ cl113.slots.size ≤ ((7 : Int32)).toNatClampNeg) := inb_of S113 ⟨by decide, by decide⟩
  obtain ⟨T113, h113, X113, e113, W113, st113⟩ := stB X112 hx hZ e112 Ar113 (j := (7 : Int32)) hin113 (g := (mkF m 52 #[rv a1, iv 7, iv p3] [(.int ((p3 >>> ((8 : Int32) &&& 31)).toInt8.toInt32)), (.int 7), (.ref a1)])) rfl rfl (hb hby d22_52)
  have V113 : Arv Z h113 a1 k1 .byte (8 : Int32) [(.int y0), (.int y1), (.int y2), (.int y3), (.int y4), (.int y5), (.int (nar .byte ((p3 >>> ((0 : Int32) &&& 31)).toInt8.toInt32))), (.int (nar .byte ((p3 >>> ((8 : Int32) &&& 31)).toInt8.toInt32)))] (.int 0) := Arv.set Ar113 q113 S113 N113z H113 G113 (fits_nar_byte _) W113 7 rfl (Nat.le_of_ble_eq_true rfl)
  have N113 := Fr.snoc X113 N106 g1
  have f114 := Nat.le_trans f107 (Keep.of_wr W113).1
  have f115 := f108.wr W113
  have f116 := f109.wr W113
  have f117 := f110.wr W113
  have f118 := f111.wr W113 (Or.inl (List.mem_of_getElem? (i := 0) rfl))
  have pre119 : own_P p e below s₁ (entryFrame m #[(.ref a1), (.int 3), (.int p3)] 3) T113 (mkF m 53 #[rv a1, iv 7, iv p3] []) := fun t k => pre104 t (by
    show Steps p.tables e below (T102.setTop (mkF m 31 #[rv a1, iv 3, iv p3] [(.int 6)])) t
    refine XS.istoreN X102.here hx rfl (hb hby d22_31) rfl (l' := #[rv a1, iv 6, iv p3]) rfl ?_
    refine XS.aloadN X102.here hx rfl (hb hby d22_32) rfl rfl ?_
    refine XS.iloadN X102.here hx rfl (hb hby d22_33) rfl ?_
    refine XS.iinc X102.here hx rfl (hb hby d22_34) rfl (l' := #[rv a1, iv 7, iv p3]) rfl ?_
    refine XS.iloadN X102.here hx rfl (hb hby d22_37) rfl ?_
    refine st105 _ ?_
    refine XS.ishr X105.here hx rfl (hb hby d22_41) rfl ?_
    refine XS.i2b X105.here hx rfl (hb hby d22_42) rfl ?_
    refine st106 _ ?_
    refine XS.aloadN X106.here hx rfl (hb hby d22_44) rfl rfl ?_
    refine XS.iloadN X106.here hx rfl (hb hby d22_45) rfl ?_
    refine XS.iloadN X106.here hx rfl (hb hby d22_46) rfl ?_
    refine st112 _ ?_
    refine XS.ishr X112.here hx rfl (hb hby d22_50) rfl ?_
    refine XS.i2b X112.here hx rfl (hb hby d22_51) rfl ?_
    refine st113 _ ?_
    exact k)
  obtain ⟨fs, hr, hrun, hended, hW, hsame⟩ := X113.leave (v := none) (fun _ => rfl)
  refine ⟨_, _, pre119 _ ?_, hrun, hended, _, _, rfl, ?_, ⟨_, rfl⟩, hW, hsame.mono (by decide) (by decide)⟩
  · exact X113.returnOut hx Bd.returns (hb hby d22_53) hr
  · show QPc_4_3 Z a1 p3 k1 y0 y1 y2 y3 y4 y5 y6 y7 h0 n0 _ T113.heap _
    rw [e113]
    exact ⟨rfl, N113, f118, V113⟩
def QNl_4 (Z : State)  (h0 : Heap) (n0 : Nat) (v : Option Value) (h : Heap) (L : List Loc) : Prop := v = some (.int 8) ∧ Fr n0 L ∧ h = h0
theorem rmNl_4 (l : Launch) (Z : State) (a0 : Array Value) (hw : own_H Z a0) (ws : List Jvm.Cond)  (h0 : Heap) (n0 : Nat) (Z0 : n0 ≤ h0.size) :
    own_M l own_y20 jdk_52_method_3_code 1 (some .int) ws (own_R 0 0 0 0) Z h0 #[(.int 4)] (QNl_4 Z h0 n0) := by
  refine own_body (plainFor_of_name pn_java_lang_StringUTF16) fun p e s m below meth c s₁ Bd hx hby hml (hown : s.vm.findClass "java/lang/StringUTF16" = some m.cls) hnm X0 e0 hZ => ?_
  have N0 := Fr.nil n0
  have pre0 : own_P p e below s₁ (entryFrame m #[(.int 4)] 1) s₁ (mkF m 0 #[iv 4] []) := fun t k => castTop (by first | rfl | (simp [entryFrame, mkF, argsToLocals, Value.category]; done)) k
  have pre101 : own_P p e below s₁ (entryFrame m #[(.int 4)] 1) s₁ (mkF m 58 #[iv 4] [(.int ((4 : Int32) <<< ((1 : Int32) &&& 31)))]) := fun t k => pre0 t (by
    show Steps p.tables e below (s₁.setTop (mkF m 0 #[iv 4] [])) t
    refine XS.iloadN X0.here hx rfl (hb hby d21_0) rfl ?_
    refine XS.ifYes X0.here hx rfl (pc0 := 1) (pc' := 12) rfl (hb hby d21_1) rfl ((if0 _ _).trans (flt (by decide : ¬ ((4 : Int32) < (0 : Int32)))).2.1) (by decide) (by decide) ?_
    refine XS.iloadN X0.here hx rfl (hb hby d21_12) rfl ?_
    refine X0.ldcInt hx hown (own_m hZ hw 95) (g := (mkF m 13 #[iv 4] [(.int 4)])) rfl (hb hby d21_13) _ ?_
    refine XS.icmpYes X0.here hx rfl (pc0 := 15) (pc' := 55) rfl (hb hby d21_15) rfl (tlt (by decide : (4 : Int32) < (1073741823 : Int32))).1 (by decide) (by decide) ?_
    refine XS.iloadN X0.here hx rfl (hb hby d21_55) rfl ?_
    refine XS.iconst X0.here hx rfl (hb hby d21_56) ?_
    refine XS.ishl X0.here hx rfl (hb hby d21_57) rfl ?_
    exact k)
  have pre102 : own_P p e below s₁ (entryFrame m #[(.int 4)] 1) s₁ (mkF m 58 #[iv 4] [(.int 8)]) := fun t k => pre101 t (by rw [show ((4 : Int32) <<< ((1 : Int32) &&& 31)) = (8 : Int32) from (by decide)]; exact k)
  obtain ⟨fs, hr, hrun, hended, hW, hsame⟩ := X0.leave (v := some (.int 8)) (fun h => by rw [Bd.returns] at h; cases h)
  refine ⟨_, _, pre102 _ ?_, hrun, hended, _, _, rfl, ?_, ⟨_, rfl⟩, hW, hsame.mono (by decide) (by decide)⟩
  · exact retI X0 hx Bd.returns (hb hby d21_58) hr
  · show QNl_4 Z h0 n0 _ s₁.heap _
    rw [e0]
    exact ⟨rfl, N0, rfl⟩
def QNf_4 (Z : State)  (h0 : Heap) (n0 : Nat) (v : Option Value) (h : Heap) (L : List Loc) : Prop := ∃ (b : Addr) (kb : ClassId), v = some (.ref b) ∧ Fr n0 L ∧ Keep h0 h [] ∧ (n0 ≤ b) ∧ (h0.size ≤ b) ∧ (Arv Z h b kb .byte (8 : Int32) [(.int 0), (.int 0), (.int 0), (.int 0), (.int 0), (.int 0), (.int 0), (.int 0)] (.int 0))
theorem rmNf_4 (l : Launch) (Z : State) (a0 : Array Value) (hw : own_H Z a0) (ws : List Jvm.Cond)  (h0 : Heap) (n0 : Nat) (Z0 : n0 ≤ h0.size) :
    own_M l own_y21 jdk_52_method_2_code 1 (some (.array .byte)) ws (own_R 1 1 8 12) Z h0 #[(.int 4)] (QNf_4 Z h0 n0) := by
  refine own_body (plainFor_of_name pn_java_lang_StringUTF16) fun p e s m below meth c s₁ Bd hx hby hml (hown : s.vm.findClass "java/lang/StringUTF16" = some m.cls) hnm X0 e0 hZ => ?_
  have N0 := Fr.nil n0
  have pre0 : own_P p e below s₁ (entryFrame m #[(.int 4)] 1) s₁ (mkF m 0 #[iv 4] []) := fun t k => castTop (by first | rfl | (simp [entryFrame, mkF, argsToLocals, Value.category]; done)) k
  have f101 := Keep.refl h0 []
  obtain ⟨_, _, ⟨T102, L102, k102, n102⟩, -, X102, ⟨Lc102, hQ102, l102, y102, z102⟩, st102⟩ := Jvm.LawKit.callS X0 hx (y := own_y20) hown (own_m hZ hw 92) (own_m hZ hw 93) (own_m hZ hw 42) (own_m hZ hw 94) (by decide) (backOf (W := 0) (rmNl_4 l Z a0 hw []  h0 n0 Z0 ) hZ (own_i hw 94 rfl) (own_i hw 42 rfl) (by decide) (by decide)) (g := (mkF m 1 #[iv 4] [(.int 4)])) rfl (by rw [hml]; rfl) (argsL := [(.int 4)]) (rest := []) (lenOf pd_11 rfl) rfl (Nat.le_of_eq rfl) (hb hby d20_1) (fun _ _ => ⟨rfl, e0, own_le rfl, own_le rfl⟩)
  dsimp only [Pt.U, Pt.locs, Pt.cells, Pt.slots] at X102 l102 y102 z102 st102 hQ102
  subst l102 y102 z102
  obtain ⟨rfl, N102q, e102⟩ := hQ102
  have N102 := Fr.app N0 N102q
  obtain ⟨T103, h103, k103, X103, e103, E103, A103, st103⟩ := newP X102 hx hZ (own_i hw 23 rfl) e102 (g := (mkF m 4 #[iv 4] [(.int 8)])) rfl (hb hby d20_4) rfl (by decide) (cap := 8) (by decide) (by decide) (by decide) (by decide)
  obtain ⟨b103, g103⟩ : ∃ z, z = h0.size := ⟨_, rfl⟩
  rw [← g103] at A103 st103
  have ga104 : n0 ≤ b103 := Nat.le_trans Z0 (Nat.le_of_eq g103.symm)
  have sz105 : h0.size ≤ b103 := Nat.le_trans f101.1 (Nat.le_of_eq g103.symm)
  have V103 : Arv Z h103 b103 k103 .byte (8 : Int32) [(.int 0), (.int 0), (.int 0), (.int 0), (.int 0), (.int 0), (.int 0), (.int 0)] (.int 0) := (Arv.new A103 (by decide)).pad (pad_rep [] (.int 0) 8)
  have f106 := Nat.le_trans Z0 E103.1
  have f107 := f101.ext E103
  have pre108 : own_P p e below s₁ (entryFrame m #[(.int 4)] 1) T103 (mkF m 6 #[iv 4] [(.ref b103)]) := fun t k => pre0 t (by
    show Steps p.tables e below (s₁.setTop (mkF m 0 #[iv 4] [])) t
    refine XS.iloadN X0.here hx rfl (hb hby d20_0) rfl ?_
    refine st102 _ ?_
    refine st103 _ ?_
    exact k)
  obtain ⟨fs, hr, hrun, hended, hW, hsame⟩ := X103.leave (v := some (.ref b103)) (fun h => by rw [Bd.returns] at h; cases h)
  refine ⟨_, _, pre108 _ ?_, hrun, hended, _, _, rfl, ?_, ⟨_, rfl⟩, hW, hsame.mono (by decide) (by decide)⟩
  · exact retOut X103 hx Bd.returns rfl (Or.inr (Or.inr (Or.inr (Or.inr ⟨rfl, rfl, rfl⟩)))) (hb hby d20_6) hr
  · show QNf_4 Z h0 n0 _ T103.heap _
    rw [e103]
    exact ⟨b103, k103, rfl, N102, f107, ga104, sz105, V103⟩
def QTb_4 (Z : State) (a1 : Addr) (k1 : ClassId) (x0 x1 x2 x3 : Int32) (h0 : Heap) (n0 : Nat) (v : Option Value) (h : Heap) (L : List Loc) : Prop := ∃ (b : Addr) (kb : ClassId), v = some (.ref b) ∧ Fr n0 L ∧ Keep h0 h [] ∧ (n0 ≤ b) ∧ (h0.size ≤ b) ∧ (Arv Z h b kb .byte (8 : Int32) [(.int (own_b0 x0)), (.int (own_b1 x0)), (.int (own_b0 x1)), (.int (own_b1 x1)), (.int (own_b0 x2)), (.int (own_b1 x2)), (.int (own_b0 x3)), (.int (own_b1 x3))] (.int 0))
theorem rmTb_4 (l : Launch) (Z : State) (a0 : Array Value) (hw : own_H Z a0) (ws : List Jvm.Cond) (a1 : Addr) (k1 : ClassId) (x0 x1 x2 x3 : Int32) (h0 : Heap) (n0 : Nat) (Z0 : n0 ≤ h0.size) (V1 : Arv Z h0 a1 k1 .char (4 : Int32) [(.int x0), (.int x1), (.int x2), (.int x3)] (.int 0)) (SA : Sta Z Z.heap "java/lang/StringUTF16" "$assertionsDisabled" "Z" (.int 1)) (SH : Sta Z Z.heap "java/lang/StringUTF16" "HI_BYTE_SHIFT" "I" (.int 0)) (SL : Sta Z Z.heap "java/lang/StringUTF16" "LO_BYTE_SHIFT" "I" (.int 8)) (O0 : Old Z n0 h0) :
    own_M l own_y22 jdk_52_method_14_code 5 (some (.array .byte)) ws (own_R 2 1 8 24) Z h0 #[(.ref a1), (.int 0), (.int 4)] (QTb_4 Z a1 k1 x0 x1 x2 x3 h0 n0) := by
  refine own_body (plainFor_of_name pn_java_lang_StringUTF16) fun p e s m below meth c s₁ Bd hx hby hml (hown : s.vm.findClass "java/lang/StringUTF16" = some m.cls) hnm X0 e0 hZ => ?_
  have N0 := Fr.nil n0
  have pre0 : own_P p e below s₁ (entryFrame m #[(.ref a1), (.int 0), (.int 4)] 5) s₁ (mkF m 0 #[rv a1, iv 0, iv 4, .unset, .unset] []) := fun t k => castTop (by first | rfl | (simp [entryFrame, mkF, argsToLocals, Value.category]; done)) k
  have f101 := Keep.refl h0 []
  obtain ⟨_, _, ⟨T102, L102, k102, n102⟩, -, X102, ⟨Lc102, hQ102, l102, y102, z102⟩, st102⟩ := Jvm.LawKit.callS X0 hx (y := own_y21) hown (own_m hZ hw 89) (own_m hZ hw 90) (own_m hZ hw 42) (own_m hZ hw 91) (by decide) (backOf (W := 0) (rmNf_4 l Z a0 hw []  h0 n0 Z0 ) hZ (own_i hw 91 rfl) (own_i hw 42 rfl) (by decide) (by decide)) (g := (mkF m 1 #[rv a1, iv 0, iv 4, .unset, .unset] [(.int 4)])) rfl (by rw [hml]; rfl) (argsL := [(.int 4)]) (rest := []) (lenOf pd_12 rfl) rfl (Nat.le_of_eq rfl) (hb hby d19_1) (fun _ _ => ⟨rfl, e0, own_le rfl, own_le rfl⟩)
  dsimp only [Pt.U, Pt.locs, Pt.cells, Pt.slots] at X102 l102 y102 z102 st102 hQ102
  subst l102 y102 z102
  obtain ⟨b103, x104, rfl, N102q, K102, f105, f106, f107⟩ := hQ102
  have N102 := Fr.app N0 N102q
  have ne108 : a1 ≠ b103 := Nat.ne_of_lt (Nat.lt_of_lt_of_le V1.lt f106)
  have f109 := Nat.le_trans Z0 K102.1
  have f110 := V1.keep K102 nin0
  have f111 := O0.keep K102 all0
  have f112 := f101.trans K102 all0
  obtain ⟨cl113, Ar113, q113, S113, N113z, H113, G113⟩ := (id f110)
  have hin113 : ¬ ((0 : Int32) < 0 ∨ cl113.slots.size ≤ ((0 : Int32)).toNatClampNeg) := inb_of S113 ⟨by decide, by decide⟩
  have hat113 : cl113.slots[((0 : Int32)).toNatClampNeg]? = some (.int x0) := Has.at H113 hin113 rfl
  obtain ⟨_, _, ⟨T114, L114, k114, n114⟩, -, X114, ⟨Lc114, hQ114, l114, y114, z114⟩, st114⟩ := Jvm.LawKit.callS X102 hx (y := own_y19) hown (own_m hZ hw 96) (own_m hZ hw 97) (own_m hZ hw 42) (own_m hZ hw 98) (by decide) (backOf (W := 0) (rmPc_4_0 l Z a0 hw [] b103 x0 x104 (0 : Int32) (0 : Int32) (0 : Int32) (0 : Int32) (0 : Int32) (0 : Int32) (0 : Int32) (0 : Int32) T102.heap n0 f109 f107 (SA.ext f111.2) (SH.ext f111.2) (SL.ext f111.2) f105) hZ (own_i hw 98 rfl) (own_i hw 42 rfl) (by decide) (by decide)) (g := (mkF m 20 #[rv a1, iv 0, iv 4, rv b103, iv 0] [(.int x0), (.int 0), (.ref b103)])) rfl (by rw [hml]; rfl) (argsL := [(.ref b103), (.int 0), (.int x0)]) (rest := []) (lenOf pd_13 rfl) rfl (Nat.le_of_eq rfl) (hb hby d19_20) (fun _ _ => ⟨rfl, rfl, own_le rfl, own_le rfl⟩)
  dsimp only [Pt.U, Pt.locs, Pt.cells, Pt.slots] at X114 l114 y114 z114 st114 hQ114
  subst l114 y114 z114
  obtain ⟨rfl, N114q, K114, f115⟩ := hQ114
  have N114 := Fr.app N102 N114q
  have f116 := Nat.le_trans f109 K114.1
  have f117 := f110.keep K114 (ninS ne108 nin0)
  have f118 := f111.keep K114 (allS f105 all0)
  have f119 := f112.trans K114 (allS (Or.inr f106) all0)
  obtain ⟨cl120, Ar120, q120, S120, N120z, H120, G120⟩ := (id f117)
  have hin120 : ¬ ((1 : Int32) < 0 ∨ cl120.slots.size ≤ ((1 : Int32)).toNatClampNeg) := inb_of S120 ⟨by decide, by decide⟩
  have hat120 : cl120.slots[((1 : Int32)).toNatClampNeg]? = some (.int x1) := Has.at H120 hin120 rfl
  obtain ⟨_, _, ⟨T121, L121, k121, n121⟩, -, X121, ⟨Lc121, hQ121, l121, y121, z121⟩, st121⟩ := Jvm.LawKit.callS X114 hx (y := own_y19) hown (own_m hZ hw 96) (own_m hZ hw 97) (own_m hZ hw 42) (own_m hZ hw 98) (by decide) (backOf (W := 0) (rmPc_4_1 l Z a0 hw [] b103 x1 x104 (own_b0 x0) (own_b1 x0) (0 : Int32) (0 : Int32) (0 : Int32) (0 : Int32) (0 : Int32) (0 : Int32) T114.heap n0 f116 f115 (SA.ext f118.2) (SH.ext f118.2) (SL.ext f118.2) f105) hZ (own_i hw 98 rfl) (own_i hw 42 rfl) (by decide) (by decide)) (g := (mkF m 20 #[rv a1, iv 1, iv 4, rv b103, iv 1] [(.int x1), (.int 1), (.ref b103)])) rfl (by rw [hml]; rfl) (argsL := [(.ref b103), (.int 1), (.int x1)]) (rest := []) (lenOf pd_13 rfl) rfl (Nat.le_of_eq rfl) (hb hby d19_20) (fun _ _ => ⟨rfl, rfl, own_le rfl, own_le rfl⟩)
  dsimp only [Pt.U, Pt.locs, Pt.cells, Pt.slots] at X121 l121 y121 z121 st121 hQ121
  subst l121 y121 z121
  obtain ⟨rfl, N121q, K121, f122⟩ := hQ121
  have N121 := Fr.app N114 N121q
  have f123 := Nat.le_trans f116 K121.1
  have f124 := f117.keep K121 (ninS ne108 nin0)
  have f125 := f118.keep K121 (allS f105 all0)
  have f126 := f119.trans K121 (allS (Or.inr f106) all0)
  obtain ⟨cl127, Ar127, q127, S127, N127z, H127, G127⟩ := (id f124)
  have hin127 : ¬ ((2 : Int32) < 0 ∨ cl127.slots.size ≤ ((2 : Int32)).toNatClampNeg) := inb_of S127 ⟨by decide, by decide⟩
  have hat127 : cl127.slots[((2 : Int32)).toNatClampNeg]? = some (.int x2) := Has.at H127 hin127 rfl
  obtain ⟨_, _, ⟨T128, L128, k128, n128⟩, -, X128, ⟨Lc128, hQ128, l128, y128, z128⟩, st128⟩ := Jvm.LawKit.callS X121 hx (y := own_y19) hown (own_m hZ hw 96) (own_m hZ hw 97) (own_m hZ hw 42) (own_m hZ hw 98) (by decide) (backOf (W := 0) (rmPc_4_2 l Z a0 hw [] b103 x2 x104 (own_b0 x0) (own_b1 x0) (own_b0 x1) (own_b1 x1) (0 : Int32) (0 : Int32) (0 : Int32) (0 : Int32) T121.heap n0 f123 f122 (SA.ext f125.2) (SH.ext f125.2) (SL.ext f125.2) f105) hZ (own_i hw 98 rfl) (own_i hw 42 rfl) (by decide) (by decide)) (g := (mkF m 20 #[rv a1, iv 2, iv 4, rv b103, iv 2] [(.int x2), (.int 2), (.ref b103)])) rfl (by rw [hml]; rfl) (argsL := [(.ref b103), (.int 2), (.int x2)]) (rest := []) (lenOf pd_13 rfl) rfl (Nat.le_of_eq rfl) (hb hby d19_20) (fun _ _ => ⟨rfl, rfl, own_le rfl, own_le rfl⟩)
  dsimp only [Pt.U, Pt.locs, Pt.cells, Pt.slots] at X128 l128 y128 z128 st128 hQ128
  subst l128 y128 z128
  obtain ⟨rfl, N128q, K128, f129⟩ := hQ128
  have N128 := Fr.app N121 N128q
  have f130 := Nat.le_trans f123 K128.1
  have f131 := f124.keep K128 (ninS ne108 nin0)
  have f132 := f125.keep K128 (allS f105 all0)
  have f133 := f126.trans K128 (allS (Or.inr f106) all0)
  obtain ⟨cl134, Ar134, q134, S134, N134z, H134, G134⟩ := (id f131)
  have hin134 : ¬ ((3 : Int32) < 0 ∨ cl134.slots.size ≤ ((3 : Int32)).toNatClampNeg) := inb_of S134 ⟨by decide, by decide⟩
  have hat134 : cl134.slots[((3 : Int32)).toNatClampNeg]? = some (.int x3) := Has.at H134 hin134 rfl
  obtain ⟨_, _, ⟨T135, L135, k135, n135⟩, -, X135, ⟨Lc135, hQ135, l135, y135, z135⟩, st135⟩ := Jvm.LawKit.callS X128 hx (y := own_y19) hown (own_m hZ hw 96) (own_m hZ hw 97) (own_m hZ hw 42) (own_m hZ hw 98) (by decide) (backOf (W := 0) (rmPc_4_3 l Z a0 hw [] b103 x3 x104 (own_b0 x0) (own_b1 x0) (own_b0 x1) (own_b1 x1) (own_b0 x2) (own_b1 x2) (0 : Int32) (0 : Int32) T128.heap n0 f130 f129 (SA.ext f132.2) (SH.ext f132.2) (SL.ext f132.2) f105) hZ (own_i hw 98 rfl) (own_i hw 42 rfl) (by decide) (by decide)) (g := (mkF m 20 #[rv a1, iv 3, iv 4, rv b103, iv 3] [(.int x3), (.int 3), (.ref b103)])) rfl (by rw [hml]; rfl) (argsL := [(.ref b103), (.int 3), (.int x3)]) (rest := []) (lenOf pd_13 rfl) rfl (Nat.le_of_eq rfl) (hb hby d19_20) (fun _ _ => ⟨rfl, rfl, own_le rfl, own_le rfl⟩)
  dsimp only [Pt.U, Pt.locs, Pt.cells, Pt.slots] at X135 l135 y135 z135 st135 hQ135
  subst l135 y135 z135
  obtain ⟨rfl, N135q, K135, f136⟩ := hQ135
  have N135 := Fr.app N128 N135q
  have f137 := Nat.le_trans f130 K135.1
  have f138 := f131.keep K135 (ninS ne108 nin0)
  have f139 := f132.keep K135 (allS f105 all0)
  have f140 := f133.trans K135 (allS (Or.inr f106) all0)
  have pre141 : own_P p e below s₁ (entryFrame m #[(.ref a1), (.int 0), (.int 4)] 5) T135 (mkF m 33 #[rv a1, iv 4, iv 4, rv b103, iv 4] [(.ref b103)]) := fun t k => pre0 t (by
    show Steps p.tables e below (s₁.setTop (mkF m 0 #[rv a1, iv 0, iv 4, .unset, .unset] [])) t
    refine XS.iloadN X0.here hx rfl (hb hby d19_0) rfl ?_
    refine st102 _ ?_
    refine XS.astoreN X102.here hx rfl (hb hby d19_4) rfl rfl (l' := #[rv a1, iv 0, iv 4, rv b103, .unset]) rfl ?_
    refine XS.iconst X102.here hx rfl (hb hby d19_5) ?_
    refine XS.istore X102.here hx rfl (hb hby d19_6) rfl (l' := #[rv a1, iv 0, iv 4, rv b103, iv 0]) rfl ?_
    refine XS.iload X102.here hx rfl (hb hby d19_8) rfl ?_
    refine XS.iloadN X102.here hx rfl (hb hby d19_10) rfl ?_
    refine XS.icmpNo X102.here hx rfl (hb hby d19_11) rfl (tlt (by decide : (0 : Int32) < (4 : Int32))).2.1 ?_
    refine XS.aloadN X102.here hx rfl (hb hby d19_14) rfl rfl ?_
    refine XS.iload X102.here hx rfl (hb hby d19_15) rfl ?_
    refine XS.aloadN X102.here hx rfl (hb hby d19_17) rfl rfl ?_
    refine XS.iloadN X102.here hx rfl (hb hby d19_18) rfl ?_
    refine X102.caload hx (j := (0 : Int32)) (v := (.int x0)) Ar113.1 (State.isArrayOf_alike hZ.alike Ar113.2.1) Ar113.2.2 hin113 hat113 (g := (mkF m 19 #[rv a1, iv 0, iv 4, rv b103, iv 0] [(.int 0), (.ref a1), (.int 0), (.ref b103)])) rfl rfl (hb hby d19_19) _ ?_
    refine st114 _ ?_
    refine XS.iinc X114.here hx rfl (hb hby d19_23) rfl (l' := #[rv a1, iv 1, iv 4, rv b103, iv 0]) rfl ?_
    refine XS.iinc X114.here hx rfl (hb hby d19_26) rfl (l' := #[rv a1, iv 1, iv 4, rv b103, iv 1]) rfl ?_
    refine XS.goto X114.here hx rfl (pc0 := 29) (pc' := 8) rfl (hb hby d19_29) (by decide) (by decide) ?_
    refine XS.iload X114.here hx rfl (hb hby d19_8) rfl ?_
    refine XS.iloadN X114.here hx rfl (hb hby d19_10) rfl ?_
    refine XS.icmpNo X114.here hx rfl (hb hby d19_11) rfl (tlt (by decide : (1 : Int32) < (4 : Int32))).2.1 ?_
    refine XS.aloadN X114.here hx rfl (hb hby d19_14) rfl rfl ?_
    refine XS.iload X114.here hx rfl (hb hby d19_15) rfl ?_
    refine XS.aloadN X114.here hx rfl (hb hby d19_17) rfl rfl ?_
    refine XS.iloadN X114.here hx rfl (hb hby d19_18) rfl ?_
    refine X114.caload hx (j := (1 : Int32)) (v := (.int x1)) Ar120.1 (State.isArrayOf_alike hZ.alike Ar120.2.1) Ar120.2.2 hin120 hat120 (g := (mkF m 19 #[rv a1, iv 1, iv 4, rv b103, iv 1] [(.int 1), (.ref a1), (.int 1), (.ref b103)])) rfl rfl (hb hby d19_19) _ ?_
    refine st121 _ ?_
    refine XS.iinc X121.here hx rfl (hb hby d19_23) rfl (l' := #[rv a1, iv 2, iv 4, rv b103, iv 1]) rfl ?_
    refine XS.iinc X121.here hx rfl (hb hby d19_26) rfl (l' := #[rv a1, iv 2, iv 4, rv b103, iv 2]) rfl ?_
    refine XS.goto X121.here hx rfl (pc0 := 29) (pc' := 8) rfl (hb hby d19_29) (by decide) (by decide) ?_
    refine XS.iload X121.here hx rfl (hb hby d19_8) rfl ?_
    refine XS.iloadN X121.here hx rfl (hb hby d19_10) rfl ?_
    refine XS.icmpNo X121.here hx rfl (hb hby d19_11) rfl (tlt (by decide : (2 : Int32) < (4 : Int32))).2.1 ?_
    refine XS.aloadN X121.here hx rfl (hb hby d19_14) rfl rfl ?_
    refine XS.iload X121.here hx rfl (hb hby d19_15) rfl ?_
    refine XS.aloadN X121.here hx rfl (hb hby d19_17) rfl rfl ?_
    refine XS.iloadN X121.here hx rfl (hb hby d19_18) rfl ?_
    refine X121.caload hx (j := (2 : Int32)) (v := (.int x2)) Ar127.1 (State.isArrayOf_alike hZ.alike Ar127.2.1) Ar127.2.2 hin127 hat127 (g := (mkF m 19 #[rv a1, iv 2, iv 4, rv b103, iv 2] [(.int 2), (.ref a1), (.int 2), (.ref b103)])) rfl rfl (hb hby d19_19) _ ?_
    refine st128 _ ?_
    refine XS.iinc X128.here hx rfl (hb hby d19_23) rfl (l' := #[rv a1, iv 3, iv 4, rv b103, iv 2]) rfl ?_
    refine XS.iinc X128.here hx rfl (hb hby d19_26) rfl (l' := #[rv a1, iv 3, iv 4, rv b103, iv 3]) rfl ?_
    refine XS.goto X128.here hx rfl (pc0 := 29) (pc' := 8) rfl (hb hby d19_29) (by decide) (by decide) ?_
    refine XS.iload X128.here hx rfl (hb hby d19_8) rfl ?_
    refine XS.iloadN X128.here hx rfl (hb hby d19_10) rfl ?_
    refine XS.icmpNo X128.here hx rfl (hb hby d19_11) rfl (tlt (by decide : (3 : Int32) < (4 : Int32))).2.1 ?_
    refine XS.aloadN X128.here hx rfl (hb hby d19_14) rfl rfl ?_
    refine XS.iload X128.here hx rfl (hb hby d19_15) rfl ?_
    refine XS.aloadN X128.here hx rfl (hb hby d19_17) rfl rfl ?_
    refine XS.iloadN X128.here hx rfl (hb hby d19_18) rfl ?_
    refine X128.caload hx (j := (3 : Int32)) (v := (.int x3)) Ar134.1 (State.isArrayOf_alike hZ.alike Ar134.2.1) Ar134.2.2 hin134 hat134 (g := (mkF m 19 #[rv a1, iv 3, iv 4, rv b103, iv 3] [(.int 3), (.ref a1), (.int 3), (.ref b103)])) rfl rfl (hb hby d19_19) _ ?_
    refine st135 _ ?_
    refine XS.iinc X135.here hx rfl (hb hby d19_23) rfl (l' := #[rv a1, iv 4, iv 4, rv b103, iv 3]) rfl ?_
    refine XS.iinc X135.here hx rfl (hb hby d19_26) rfl (l' := #[rv a1, iv 4, iv 4, rv b103, iv 4]) rfl ?_
    refine XS.goto X135.here hx rfl (pc0 := 29) (pc' := 8) rfl (hb hby d19_29) (by decide) (by decide) ?_
    refine XS.iload X135.here hx rfl (hb hby d19_8) rfl ?_
    refine XS.iloadN X135.here hx rfl (hb hby d19_10) rfl ?_
    refine XS.icmpYes X135.here hx rfl (pc0 := 11) (pc' := 32) rfl (hb hby d19_11) rfl (flt (by decide : ¬ ((4 : Int32) < (4 : Int32)))).2.1 (by decide) (by decide) ?_
    refine XS.aloadN X135.here hx rfl (hb hby d19_32) rfl rfl ?_
    exact k)
  obtain ⟨fs, hr, hrun, hended, hW, hsame⟩ := X135.leave (v := some (.ref b103)) (fun h => by rw [Bd.returns] at h; cases h)
  refine ⟨_, _, pre141 _ ?_, hrun, hended, _, _, rfl, ?_, ⟨_, rfl⟩, hW, hsame.mono (by decide) (by decide)⟩
  · exact retOut X135 hx Bd.returns rfl (Or.inr (Or.inr (Or.inr (Or.inr ⟨rfl, rfl, rfl⟩)))) (hb hby d19_33) hr
  · show QTb_4 Z a1 k1 x0 x1 x2 x3 h0 n0 _ T135.heap _
    exact ⟨b103, x104, rfl, N135, f140, f105, f106, f136⟩
def QCU_4 (Z : State) (a1 a3 : Addr) (k1 k3 : ClassId) (x0 x1 x2 x3 : Int32) (h0 : Heap) (n0 : Nat) (v : Option Value) (h : Heap) (L : List Loc) : Prop := ∃ (r : Int32), v = some (.int r) ∧ Fr n0 L ∧ Keep h0 h [a3] ∧ ((r = (0 : Int32) ∧ (255 : Int32) < x0) ∨ (r = (1 : Int32) ∧ (255 : Int32) < x1) ∨ (r = (2 : Int32) ∧ (255 : Int32) < x2) ∨ (r = (3 : Int32) ∧ (255 : Int32) < x3))
theorem rmCU_4 (l : Launch) (Z : State) (a0 : Array Value) (hw : own_H Z a0) (ws : List Jvm.Cond) (a1 a3 : Addr) (k1 k3 : ClassId) (x0 x1 x2 x3 : Int32) (h0 : Heap) (n0 : Nat) (Z0 : n0 ≤ h0.size) (V1 : Arv Z h0 a1 k1 .char (4 : Int32) [(.int x0), (.int x1), (.int x2), (.int x3)] (.int 0)) (V3 : Arv Z h0 a3 k3 .byte (4 : Int32) [(.int 0), (.int 0), (.int 0), (.int 0)] (.int 0)) (g3 : n0 ≤ a3) (ne : a1 ≠ a3) (hU : ¬ ((¬ ((255 : Int32) < x0)) ∧ (¬ ((255 : Int32) < x1)) ∧ (¬ ((255 : Int32) < x2)) ∧ (¬ ((255 : Int32) < x3)))) :
    own_M l own_y0 jdk_52_method_21_code 7 (some .int) ws (own_R 0 0 0 0) Z h0 #[(.ref a1), (.int 0), (.ref a3), (.int 0), (.int 4)] (QCU_4 Z a1 a3 k1 k3 x0 x1 x2 x3 h0 n0) := by
  refine own_body (plainFor_of_name pn_java_lang_StringUTF16) fun p e s m below meth c s₁ Bd hx hby hml (hown : s.vm.findClass "java/lang/StringUTF16" = some m.cls) hnm X0 e0 hZ => ?_
  have N0 := Fr.nil n0
  have pre0 : own_P p e below s₁ (entryFrame m #[(.ref a1), (.int 0), (.ref a3), (.int 0), (.int 4)] 7) s₁ (mkF m 0 #[rv a1, iv 0, rv a3, iv 0, iv 4, .unset, .unset] []) := fun t k => castTop (by first | rfl | (simp [entryFrame, mkF, argsToLocals, Value.category]; done)) k
  have f101 := Keep.refl h0 [a3]
  obtain ⟨cl102, Ar102, q102, S102, N102z, H102, G102⟩ := (id V1)
  have hin102 : ¬ ((0 : Int32) < 0 ∨ cl102.slots.size ≤ ((0 : Int32)).toNatClampNeg) := inb_of S102 ⟨by decide, by decide⟩
  have hat102 : cl102.slots[((0 : Int32)).toNatClampNeg]? = some (.int x0) := Has.at H102 hin102 rfl
  have pre104 : own_P p e below s₁ (entryFrame m #[(.ref a1), (.int 0), (.ref a3), (.int 0), (.int 4)] 7) s₁ (mkF m 20 #[rv a1, iv 0, rv a3, iv 0, iv 4, iv 0, iv x0] [(.int 255), (.int x0)]) := fun t k => pre0 t (by
    show Steps p.tables e below (s₁.setTop (mkF m 0 #[rv a1, iv 0, rv a3, iv 0, iv 4, .unset, .unset] [])) t
    refine XS.iconst X0.here hx rfl (hb hby d9_0) ?_
    refine XS.istore X0.here hx rfl (hb hby d9_1) rfl (l' := #[rv a1, iv 0, rv a3, iv 0, iv 4, iv 0, .unset]) rfl ?_
    refine XS.iload X0.here hx rfl (hb hby d9_3) rfl ?_
    refine XS.iload X0.here hx rfl (hb hby d9_5) rfl ?_
    refine XS.icmpNo X0.here hx rfl (hb hby d9_7) rfl (tlt (by decide : (0 : Int32) < (4 : Int32))).2.1 ?_
    refine XS.aloadN X0.here hx rfl (hb hby d9_10) rfl rfl ?_
    refine XS.iloadN X0.here hx rfl (hb hby d9_11) rfl ?_
    refine X0.caload hx (j := (0 : Int32)) (v := (.int x0)) (by rw [e0]; exact Ar102.1) (State.isArrayOf_alike hZ.alike Ar102.2.1) Ar102.2.2 hin102 hat102 (g := (mkF m 12 #[rv a1, iv 0, rv a3, iv 0, iv 4, iv 0, .unset] [(.int 0), (.ref a1)])) rfl rfl (hb hby d9_12) _ ?_
    refine XS.istore X0.here hx rfl (hb hby d9_13) rfl (l' := #[rv a1, iv 0, rv a3, iv 0, iv 4, iv 0, iv x0]) rfl ?_
    refine XS.iload X0.here hx rfl (hb hby d9_15) rfl ?_
    refine XS.sipush X0.here hx rfl (hb hby d9_17) ?_
    exact k)
  by_cases hc103 : (255 : Int32) < x0
  · have pre105 : own_P p e below s₁ (entryFrame m #[(.ref a1), (.int 0), (.ref a3), (.int 0), (.int 4)] 7) s₁ (mkF m 25 #[rv a1, iv 0, rv a3, iv 0, iv 4, iv 0, iv x0] [(.int 0)]) := fun t k => pre104 t (by
      refine XS.icmpNo X0.here hx rfl (hb hby d9_20) rfl (tlt hc103).2.2.2 ?_
      refine XS.iload X0.here hx rfl (hb hby d9_23) rfl ?_
      exact k)
    obtain ⟨fs, hr, hrun, hended, hW, hsame⟩ := X0.leave (v := some (.int 0)) (fun h => by rw [Bd.returns] at h; cases h)
    refine ⟨_, _, pre105 _ ?_, hrun, hended, _, _, rfl, ?_, ⟨_, rfl⟩, hW, hsame.mono (by decide) (by decide)⟩
    · exact retI X0 hx Bd.returns (hb hby d9_25) hr
    · show QCU_4 Z a1 a3 k1 k3 x0 x1 x2 x3 h0 n0 _ s₁.heap _
      rw [e0]
      exact ⟨(0 : Int32), rfl, N0, f101, (Or.inl ⟨rfl, hc103⟩)⟩
  · obtain ⟨cl106, Ar106, q106, S106, N106z, H106, G106⟩ := (id V3)
    have hin106 : ¬ ((0 : Int32) < 0 ∨ cl106.slots.size ≤ ((0 : Int32)).toNatClampNeg) := inb_of S106 ⟨by decide, by decide⟩
    obtain ⟨T106, h106, X106, e106, W106, st106⟩ := stB X0 hx hZ e0 Ar106 (j := (0 : Int32)) hin106 (g := (mkF m 31 #[rv a1, iv 0, rv a3, iv 0, iv 4, iv 0, iv x0] [(.int (x0.toInt8.toInt32)), (.int 0), (.ref a3)])) rfl rfl (hb hby d9_31)
    have V106 : Arv Z h106 a3 k3 .byte (4 : Int32) [(.int (nar .byte (x0.toInt8.toInt32))), (.int 0), (.int 0), (.int 0)] (.int 0) := Arv.set Ar106 q106 S106 N106z H106 G106 (fits_nar_byte _) W106 0 rfl (Nat.le_of_ble_eq_true rfl)
    have N106 := Fr.snoc X106 N0 g3
    have f107 := Nat.le_trans Z0 (Keep.of_wr W106).1
    have f108 := V1.other W106 ne
    have f109 := f101.wr W106 (Or.inl (List.mem_of_getElem? (i := 0) rfl))
    obtain ⟨cl110, Ar110, q110, S110, N110z, H110, G110⟩ := (id f108)
    have hin110 : ¬ ((1 : Int32) < 0 ∨ cl110.slots.size ≤ ((1 : Int32)).toNatClampNeg) := inb_of S110 ⟨by decide, by decide⟩
    have hat110 : cl110.slots[((1 : Int32)).toNatClampNeg]? = some (.int x1) := Has.at H110 hin110 rfl
    have pre112 : own_P p e below s₁ (entryFrame m #[(.ref a1), (.int 0), (.ref a3), (.int 0), (.int 4)] 7) T106 (mkF m 20 #[rv a1, iv 1, rv a3, iv 1, iv 4, iv 1, iv x1] [(.int 255), (.int x1)]) := fun t k => pre104 t (by
      refine XS.icmpYes X0.here hx rfl (pc0 := 20) (pc' := 26) rfl (hb hby d9_20) rfl (flt hc103).2.2.2 (by decide) (by decide) ?_
      refine XS.aloadN X0.here hx rfl (hb hby d9_26) rfl rfl ?_
      refine XS.iloadN X0.here hx rfl (hb hby d9_27) rfl ?_
      refine XS.iload X0.here hx rfl (hb hby d9_28) rfl ?_
      refine XS.i2b X0.here hx rfl (hb hby d9_30) rfl ?_
      refine st106 _ ?_
      refine XS.iinc X106.here hx rfl (hb hby d9_32) rfl (l' := #[rv a1, iv 1, rv a3, iv 0, iv 4, iv 0, iv x0]) rfl ?_
      refine XS.iinc X106.here hx rfl (hb hby d9_35) rfl (l' := #[rv a1, iv 1, rv a3, iv 1, iv 4, iv 0, iv x0]) rfl ?_
      refine XS.iinc X106.here hx rfl (hb hby d9_38) rfl (l' := #[rv a1, iv 1, rv a3, iv 1, iv 4, iv 1, iv x0]) rfl ?_
      refine XS.goto X106.here hx rfl (pc0 := 41) (pc' := 3) rfl (hb hby d9_41) (by decide) (by decide) ?_
      refine XS.iload X106.here hx rfl (hb hby d9_3) rfl ?_
      refine XS.iload X106.here hx rfl (hb hby d9_5) rfl ?_
      refine XS.icmpNo X106.here hx rfl (hb hby d9_7) rfl (tlt (by decide : (1 : Int32) < (4 : Int32))).2.1 ?_
      refine XS.aloadN X106.here hx rfl (hb hby d9_10) rfl rfl ?_
      refine XS.iloadN X106.here hx rfl (hb hby d9_11) rfl ?_
      refine X106.caload hx (j := (1 : Int32)) (v := (.int x1)) (by rw [e106]; exact Ar110.1) (State.isArrayOf_alike hZ.alike Ar110.2.1) Ar110.2.2 hin110 hat110 (g := (mkF m 12 #[rv a1, iv 1, rv a3, iv 1, iv 4, iv 1, iv x0] [(.int 1), (.ref a1)])) rfl rfl (hb hby d9_12) _ ?_
      refine XS.istore X106.here hx rfl (hb hby d9_13) rfl (l' := #[rv a1, iv 1, rv a3, iv 1, iv 4, iv 1, iv x1]) rfl ?_
      refine XS.iload X106.here hx rfl (hb hby d9_15) rfl ?_
      refine XS.sipush X106.here hx rfl (hb hby d9_17) ?_
      exact k)
    by_cases hc111 : (255 : Int32) < x1
    · have pre113 : own_P p e below s₁ (entryFrame m #[(.ref a1), (.int 0), (.ref a3), (.int 0), (.int 4)] 7) T106 (mkF m 25 #[rv a1, iv 1, rv a3, iv 1, iv 4, iv 1, iv x1] [(.int 1)]) := fun t k => pre112 t (by
        refine XS.icmpNo X106.here hx rfl (hb hby d9_20) rfl (tlt hc111).2.2.2 ?_
        refine XS.iload X106.here hx rfl (hb hby d9_23) rfl ?_
        exact k)
      obtain ⟨fs, hr, hrun, hended, hW, hsame⟩ := X106.leave (v := some (.int 1)) (fun h => by rw [Bd.returns] at h; cases h)
      refine ⟨_, _, pre113 _ ?_, hrun, hended, _, _, rfl, ?_, ⟨_, rfl⟩, hW, hsame.mono (by decide) (by decide)⟩
      · exact retI X106 hx Bd.returns (hb hby d9_25) hr
      · show QCU_4 Z a1 a3 k1 k3 x0 x1 x2 x3 h0 n0 _ T106.heap _
        rw [e106]
        exact ⟨(1 : Int32), rfl, N106, f109, (Or.inr (Or.inl ⟨rfl, hc111⟩))⟩
    · obtain ⟨cl114, Ar114, q114, S114, N114z, H114, G114⟩ := (id V106)
      have hin114 : ¬ ((1 : Int32) < 0 ∨ cl114.slots.size ≤ ((1 : Int32)).toNatClampNeg) := inb_of S114 ⟨by decide, by decide⟩
      obtain ⟨T114, h114, X114, e114, W114, st114⟩ := stB X106 hx hZ e106 Ar114 (j := (1 : Int32)) hin114 (g := (mkF m 31 #[rv a1, iv 1, rv a3, iv 1, iv 4, iv 1, iv x1] [(.int (x1.toInt8.toInt32)), (.int 1), (.ref a3)])) rfl rfl (hb hby d9_31)
      have V114 : Arv Z h114 a3 k3 .byte (4 : Int32) [(.int (nar .byte (x0.toInt8.toInt32))), (.int (nar .byte (x1.toInt8.toInt32))), (.int 0), (.int 0)] (.int 0) := Arv.set Ar114 q114 S114 N114z H114 G114 (fits_nar_byte _) W114 1 rfl (Nat.le_of_ble_eq_true rfl)
      have N114 := Fr.snoc X114 N106 g3
      have f115 := Nat.le_trans f107 (Keep.of_wr W114).1
      have f116 := f108.other W114 ne
      have f117 := f109.wr W114 (Or.inl (List.mem_of_getElem? (i := 0) rfl))
      obtain ⟨cl118, Ar118, q118, S118, N118z, H118, G118⟩ := (id f116)
      have hin118 : ¬ ((2 : Int32) < 0 ∨ cl118.slots.size ≤ ((2 : Int32)).toNatClampNeg) := inb_of S118 ⟨by decide, by decide⟩
      have hat118 : cl118.slots[((2 : Int32)).toNatClampNeg]? = some (.int x2) := Has.at H118 hin118 rfl
      have pre120 : own_P p e below s₁ (entryFrame m #[(.ref a1), (.int 0), (.ref a3), (.int 0), (.int 4)] 7) T114 (mkF m 20 #[rv a1, iv 2, rv a3, iv 2, iv 4, iv 2, iv x2] [(.int 255), (.int x2)]) := fun t k => pre112 t (by
        refine XS.icmpYes X106.here hx rfl (pc0 := 20) (pc' := 26) rfl (hb hby d9_20) rfl (flt hc111).2.2.2 (by decide) (by decide) ?_
        refine XS.aloadN X106.here hx rfl (hb hby d9_26) rfl rfl ?_
        refine XS.iloadN X106.here hx rfl (hb hby d9_27) rfl ?_
        refine XS.iload X106.here hx rfl (hb hby d9_28) rfl ?_
        refine XS.i2b X106.here hx rfl (hb hby d9_30) rfl ?_
        refine st114 _ ?_
        refine XS.iinc X114.here hx rfl (hb hby d9_32) rfl (l' := #[rv a1, iv 2, rv a3, iv 1, iv 4, iv 1, iv x1]) rfl ?_
        refine XS.iinc X114.here hx rfl (hb hby d9_35) rfl (l' := #[rv a1, iv 2, rv a3, iv 2, iv 4, iv 1, iv x1]) rfl ?_
        refine XS.iinc X114.here hx rfl (hb hby d9_38) rfl (l' := #[rv a1, iv 2, rv a3, iv 2, iv 4, iv 2, iv x1]) rfl ?_
        refine XS.goto X114.here hx rfl (pc0 := 41) (pc' := 3) rfl (hb hby d9_41) (by decide) (by decide) ?_
        refine XS.iload X114.here hx rfl (hb hby d9_3) rfl ?_
        refine XS.iload X114.here hx rfl (hb hby d9_5) rfl ?_
        refine XS.icmpNo X114.here hx rfl (hb hby d9_7) rfl (tlt (by decide : (2 : Int32) < (4 : Int32))).2.1 ?_
        refine XS.aloadN X114.here hx rfl (hb hby d9_10) rfl rfl ?_
        refine XS.iloadN X114.here hx rfl (hb hby d9_11) rfl ?_
        refine X114.caload hx (j := (2 : Int32)) (v := (.int x2)) (by rw [e114]; exact Ar118.1) (State.isArrayOf_alike hZ.alike Ar118.2.1) Ar118.2.2 hin118 hat118 (g := (mkF m 12 #[rv a1, iv 2, rv a3, iv 2, iv 4, iv 2, iv x1] [(.int 2), (.ref a1)])) rfl rfl (hb hby d9_12) _ ?_
        refine XS.istore X114.here hx rfl (hb hby d9_13) rfl (l' := #[rv a1, iv 2, rv a3, iv 2, iv 4, iv 2, iv x2]) rfl ?_
        refine XS.iload X114.here hx rfl (hb hby d9_15) rfl ?_
        refine XS.sipush X114.here hx rfl (hb hby d9_17) ?_
        exact k)
      by_cases hc119 : (255 : Int32) < x2
      · have pre121 : own_P p e below s₁ (entryFrame m #[(.ref a1), (.int 0), (.ref a3), (.int 0), (.int 4)] 7) T114 (mkF m 25 #[rv a1, iv 2, rv a3, iv 2, iv 4, iv 2, iv x2] [(.int 2)]) := fun t k => pre120 t (by
          refine XS.icmpNo X114.here hx rfl (hb hby d9_20) rfl (tlt hc119).2.2.2 ?_
          refine XS.iload X114.here hx rfl (hb hby d9_23) rfl ?_
          exact k)
        obtain ⟨fs, hr, hrun, hended, hW, hsame⟩ := X114.leave (v := some (.int 2)) (fun h => by rw [Bd.returns] at h; cases h)
        refine ⟨_, _, pre121 _ ?_, hrun, hended, _, _, rfl, ?_, ⟨_, rfl⟩, hW, hsame.mono (by decide) (by decide)⟩
        · exact retI X114 hx Bd.returns (hb hby d9_25) hr
        · show QCU_4 Z a1 a3 k1 k3 x0 x1 x2 x3 h0 n0 _ T114.heap _
          rw [e114]
          exact ⟨(2 : Int32), rfl, N114, f117, (Or.inr (Or.inr (Or.inl ⟨rfl, hc119⟩)))⟩
      · obtain ⟨cl122, Ar122, q122, S122, N122z, H122, G122⟩ := (id V114)
        have hin122 : ¬ ((2 : Int32) < 0 ∨ cl122.slots.size ≤ ((2 : Int32)).toNatClampNeg) := inb_of S122 ⟨by decide, by decide⟩
        obtain ⟨T122, h122, X122, e122, W122, st122⟩ := stB X114 hx hZ e114 Ar122 (j := (2 : Int32)) hin122 (g := (mkF m 31 #[rv a1, iv 2, rv a3, iv 2, iv 4, iv 2, iv x2] [(.int (x2.toInt8.toInt32)), (.int 2), (.ref a3)])) rfl rfl (hb hby d9_31)
        have V122 : Arv Z h122 a3 k3 .byte (4 : Int32) [(.int (nar .byte (x0.toInt8.toInt32))), (.int (nar .byte (x1.toInt8.toInt32))), (.int (nar .byte (x2.toInt8.toInt32))), (.int 0)] (.int 0) := Arv.set Ar122 q122 S122 N122z H122 G122 (fits_nar_byte _) W122 2 rfl (Nat.le_of_ble_eq_true rfl)
        have N122 := Fr.snoc X122 N114 g3
        have f123 := Nat.le_trans f115 (Keep.of_wr W122).1
        have f124 := f116.other W122 ne
        have f125 := f117.wr W122 (Or.inl (List.mem_of_getElem? (i := 0) rfl))
        obtain ⟨cl126, Ar126, q126, S126, N126z, H126, G126⟩ := (id f124)
        have hin126 : ¬ ((3 : Int32) < 0 ∨ cl126.slots.size ≤ ((3 : Int32)).toNatClampNeg) := inb_of S126 ⟨by decide, by decide⟩
        have hat126 : cl126.slots[((3 : Int32)).toNatClampNeg]? = some (.int x3) := Has.at H126 hin126 rfl
        have hd127 : (255 : Int32) < x3 := Classical.byContradiction fun q => hU ⟨hc103, hc111, hc119, q⟩
        have pre128 : own_P p e below s₁ (entryFrame m #[(.ref a1), (.int 0), (.ref a3), (.int 0), (.int 4)] 7) T122 (mkF m 25 #[rv a1, iv 3, rv a3, iv 3, iv 4, iv 3, iv x3] [(.int 3)]) := fun t k => pre120 t (by
          refine XS.icmpYes X114.here hx rfl (pc0 := 20) (pc' := 26) rfl (hb hby d9_20) rfl (flt hc119).2.2.2 (by decide) (by decide) ?_
          refine XS.aloadN X114.here hx rfl (hb hby d9_26) rfl rfl ?_
          refine XS.iloadN X114.here hx rfl (hb hby d9_27) rfl ?_
          refine XS.iload X114.here hx rfl (hb hby d9_28) rfl ?_
          refine XS.i2b X114.here hx rfl (hb hby d9_30) rfl ?_
          refine st122 _ ?_
          refine XS.iinc X122.here hx rfl (hb hby d9_32) rfl (l' := #[rv a1, iv 3, rv a3, iv 2, iv 4, iv 2, iv x2]) rfl ?_
          refine XS.iinc X122.here hx rfl (hb hby d9_35) rfl (l' := #[rv a1, iv 3, rv a3, iv 3, iv 4, iv 2, iv x2]) rfl ?_
          refine XS.iinc X122.here hx rfl (hb hby d9_38) rfl (l' := #[rv a1, iv 3, rv a3, iv 3, iv 4, iv 3, iv x2]) rfl ?_
          refine XS.goto X122.here hx rfl (pc0 := 41) (pc' := 3) rfl (hb hby d9_41) (by decide) (by decide) ?_
          refine XS.iload X122.here hx rfl (hb hby d9_3) rfl ?_
          refine XS.iload X122.here hx rfl (hb hby d9_5) rfl ?_
          refine XS.icmpNo X122.here hx rfl (hb hby d9_7) rfl (tlt (by decide : (3 : Int32) < (4 : Int32))).2.1 ?_
          refine XS.aloadN X122.here hx rfl (hb hby d9_10) rfl rfl ?_
          refine XS.iloadN X122.here hx rfl (hb hby d9_11) rfl ?_
          refine X122.caload hx (j := (3 : Int32)) (v := (.int x3)) (by rw [e122]; exact Ar126.1) (State.isArrayOf_alike hZ.alike Ar126.2.1) Ar126.2.2 hin126 hat126 (g := (mkF m 12 #[rv a1, iv 3, rv a3, iv 3, iv 4, iv 3, iv x2] [(.int 3), (.ref a1)])) rfl rfl (hb hby d9_12) _ ?_
          refine XS.istore X122.here hx rfl (hb hby d9_13) rfl (l' := #[rv a1, iv 3, rv a3, iv 3, iv 4, iv 3, iv x3]) rfl ?_
          refine XS.iload X122.here hx rfl (hb hby d9_15) rfl ?_
          refine XS.sipush X122.here hx rfl (hb hby d9_17) ?_
          refine XS.icmpNo X122.here hx rfl (hb hby d9_20) rfl (tlt hd127).2.2.2 ?_
          refine XS.iload X122.here hx rfl (hb hby d9_23) rfl ?_
          exact k)
        obtain ⟨fs, hr, hrun, hended, hW, hsame⟩ := X122.leave (v := some (.int 3)) (fun h => by rw [Bd.returns] at h; cases h)
        refine ⟨_, _, pre128 _ ?_, hrun, hended, _, _, rfl, ?_, ⟨_, rfl⟩, hW, hsame.mono (by decide) (by decide)⟩
        · exact retI X122 hx Bd.returns (hb hby d9_25) hr
        · show QCU_4 Z a1 a3 k1 k3 x0 x1 x2 x3 h0 n0 _ T122.heap _
          rw [e122]
          exact ⟨(3 : Int32), rfl, N122, f125, (Or.inr (Or.inr (Or.inr (⟨rfl, hd127⟩))))⟩
def QDU_4 (Z : State) (a1 : Addr) (k1 : ClassId) (x0 x1 x2 x3 : Int32) (h0 : Heap) (n0 : Nat) (v : Option Value) (h : Heap) (L : List Loc) : Prop := ∃ (b : Addr) (kb : ClassId), v = some (.ref b) ∧ Fr n0 L ∧ Keep h0 h [] ∧ (n0 ≤ b) ∧ (h0.size ≤ b) ∧ (Arv Z h b kb .byte (8 : Int32) [(.int (own_b0 x0)), (.int (own_b1 x0)), (.int (own_b0 x1)), (.int (own_b1 x1)), (.int (own_b0 x2)), (.int (own_b1 x2)), (.int (own_b0 x3)), (.int (own_b1 x3))] (.int 0))
theorem rmDU_4 (l : Launch) (Z : State) (a0 : Array Value) (hw : own_H Z a0) (ws : List Jvm.Cond) (a1 : Addr) (k1 : ClassId) (x0 x1 x2 x3 : Int32) (h0 : Heap) (n0 : Nat) (Z0 : n0 ≤ h0.size) (V1 : Arv Z h0 a1 k1 .char (4 : Int32) [(.int x0), (.int x1), (.int x2), (.int x3)] (.int 0)) (SA : Sta Z Z.heap "java/lang/StringUTF16" "$assertionsDisabled" "Z" (.int 1)) (SH : Sta Z Z.heap "java/lang/StringUTF16" "HI_BYTE_SHIFT" "I" (.int 0)) (SL : Sta Z Z.heap "java/lang/StringUTF16" "LO_BYTE_SHIFT" "I" (.int 8)) (O0 : Old Z n0 h0) (hC0 : own_C x0) (hC1 : own_C x1) (hC2 : own_C x2) (hC3 : own_C x3) (hU : ¬ ((¬ ((255 : Int32) < x0)) ∧ (¬ ((255 : Int32) < x1)) ∧ (¬ ((255 : Int32) < x2)) ∧ (¬ ((255 : Int32) < x3)))) :
    own_M l own_y1 jdk_52_method_16_code 6 (some (.array .byte)) ws (own_R 3 2 12 40) Z h0 #[(.ref a1), (.int 0), (.int 4)] (QDU_4 Z a1 k1 x0 x1 x2 x3 h0 n0) := by
  refine own_body (plainFor_of_name pn_java_lang_StringUTF16) fun p e s m below meth c s₁ Bd hx hby hml (hown : s.vm.findClass "java/lang/StringUTF16" = some m.cls) hnm X0 e0 hZ => ?_
  have N0 := Fr.nil n0
  have pre0 : own_P p e below s₁ (entryFrame m #[(.ref a1), (.int 0), (.int 4)] 6) s₁ (mkF m 0 #[rv a1, iv 0, iv 4, .unset, .unset, .unset] []) := fun t k => castTop (by first | rfl | (simp [entryFrame, mkF, argsToLocals, Value.category]; done)) k
  have f101 := Keep.refl h0 []
  obtain ⟨T102, h102, k102, X102, e102, E102, A102, st102⟩ := newP X0 hx hZ (own_i hw 23 rfl) e0 (g := (mkF m 1 #[rv a1, iv 0, iv 4, .unset, .unset, .unset] [(.int 4)])) rfl (hb hby d8_1) rfl (by decide) (cap := 4) (by decide) (by decide) (by decide) (by decide)
  obtain ⟨b102, g102⟩ : ∃ z, z = h0.size := ⟨_, rfl⟩
  rw [← g102] at A102 st102
  have ne103 : a1 ≠ b102 := Nat.ne_of_lt (Nat.lt_of_lt_of_le V1.lt (Nat.le_of_eq g102.symm))
  have ga104 : n0 ≤ b102 := Nat.le_trans Z0 (Nat.le_of_eq g102.symm)
  have sz105 : h0.size ≤ b102 := Nat.le_trans f101.1 (Nat.le_of_eq g102.symm)
  have V102 : Arv Z h102 b102 k102 .byte (4 : Int32) [(.int 0), (.int 0), (.int 0), (.int 0)] (.int 0) := (Arv.new A102 (by decide)).pad (pad_rep [] (.int 0) 4)
  have f106 := Nat.le_trans Z0 E102.1
  have f107 := V1.ext E102
  have f108 := O0.ext E102
  have f109 := f101.ext E102
  obtain ⟨_, _, ⟨T110, L110, k110, n110⟩, -, X110, ⟨Lc110, hQ110, l110, y110, z110⟩, st110⟩ := Jvm.LawKit.callS X102 hx (y := own_y0) hown (own_m hZ hw 44) (own_m hZ hw 45) (own_m hZ hw 42) (own_m hZ hw 46) (by decide) (backOf (W := 0) (rmCU_4 l Z a0 hw [] a1 b102 k1 k102 x0 x1 x2 x3 h102 n0 f106 f107 V102 ga104 ne103 hU) hZ (own_i hw 46 rfl) (own_i hw 42 rfl) (by decide) (by decide)) (g := (mkF m 9 #[rv a1, iv 0, iv 4, rv b102, .unset, .unset] [(.int 4), (.int 0), (.ref b102), (.int 0), (.ref a1)])) rfl (by rw [hml]; rfl) (argsL := [(.ref a1), (.int 0), (.ref b102), (.int 0), (.int 4)]) (rest := []) (lenOf pd_0 rfl) rfl (Nat.le_of_eq rfl) (hb hby d8_9) (fun _ _ => ⟨rfl, e102, own_le rfl, own_le rfl⟩)
  dsimp only [Pt.U, Pt.locs, Pt.cells, Pt.slots] at X110 l110 y110 z110 st110 hQ110
  subst l110 y110 z110
  obtain ⟨x111, rfl, N110q, K110, f112⟩ := hQ110
  have N110 := Fr.app N0 N110q
  have f113 := Nat.le_trans f106 K110.1
  have f114 := f107.keep K110 (ninS ne103 nin0)
  have f115 := f108.keep K110 (allS ga104 all0)
  have f116 := f109.trans K110 (allS (Or.inr sz105) all0)
  have hd117 : ¬ (x111 = (4 : Int32)) := fun q => by rcases f112 with h | h | h | h <;> exact absurd (h.1.symm.trans q) (by decide)
  obtain ⟨_, _, ⟨T118, L118, k118, n118⟩, -, X118, ⟨Lc118, hQ118, l118, y118, z118⟩, st118⟩ := Jvm.LawKit.callS X110 hx (y := own_y22) hown (own_m hZ hw 86) (own_m hZ hw 87) (own_m hZ hw 42) (own_m hZ hw 88) (by decide) (backOf (W := 0) (rmTb_4 l Z a0 hw [] a1 k1 x0 x1 x2 x3 T110.heap n0 f113 f114 SA SH SL f115) hZ (own_i hw 88 rfl) (own_i hw 42 rfl) (by decide) (by decide)) (g := (mkF m 23 #[rv a1, iv 0, iv 4, rv b102, iv x111, .unset] [(.int 4), (.int 0), (.ref a1)])) rfl (by rw [hml]; rfl) (argsL := [(.ref a1), (.int 0), (.int 4)]) (rest := []) (lenOf pd_1 rfl) rfl (Nat.le_of_eq rfl) (hb hby d8_23) (fun _ _ => ⟨rfl, rfl, own_le rfl, own_le rfl⟩)
  dsimp only [Pt.U, Pt.locs, Pt.cells, Pt.slots] at X118 l118 y118 z118 st118 hQ118
  subst l118 y118 z118
  obtain ⟨b119, x120, rfl, N118q, K118, f121, f122, f123⟩ := hQ118
  have N118 := Fr.app N110 N118q
  have ne124 : a1 ≠ b119 := Nat.ne_of_lt (Nat.lt_of_lt_of_le f114.lt f122)
  have sz125 : h0.size ≤ b119 := Nat.le_trans f116.1 f122
  have f126 := Nat.le_trans f113 K118.1
  have f127 := f114.keep K118 nin0
  have f128 := f115.keep K118 all0
  have f129 := f116.trans K118 all0
  have pre130 : own_P p e below s₁ (entryFrame m #[(.ref a1), (.int 0), (.int 4)] 6) T118 (mkF m 28 #[rv a1, iv 0, iv 4, rv b102, iv x111, rv b119] []) := fun t k => pre0 t (by
    show Steps p.tables e below (s₁.setTop (mkF m 0 #[rv a1, iv 0, iv 4, .unset, .unset, .unset] [])) t
    refine XS.iloadN X0.here hx rfl (hb hby d8_0) rfl ?_
    refine st102 _ ?_
    refine XS.astoreN X102.here hx rfl (hb hby d8_3) rfl rfl (l' := #[rv a1, iv 0, iv 4, rv b102, .unset, .unset]) rfl ?_
    refine XS.aloadN X102.here hx rfl (hb hby d8_4) rfl rfl ?_
    refine XS.iloadN X102.here hx rfl (hb hby d8_5) rfl ?_
    refine XS.aloadN X102.here hx rfl (hb hby d8_6) rfl rfl ?_
    refine XS.iconst X102.here hx rfl (hb hby d8_7) ?_
    refine XS.iloadN X102.here hx rfl (hb hby d8_8) rfl ?_
    refine st110 _ ?_
    refine XS.istore X110.here hx rfl (hb hby d8_12) rfl (l' := #[rv a1, iv 0, iv 4, rv b102, iv x111, .unset]) rfl ?_
    refine XS.iload X110.here hx rfl (hb hby d8_14) rfl ?_
    refine XS.iloadN X110.here hx rfl (hb hby d8_16) rfl ?_
    refine XS.icmpNo X110.here hx rfl (hb hby d8_17) rfl (feq hd117).1 ?_
    refine XS.aloadN X110.here hx rfl (hb hby d8_20) rfl rfl ?_
    refine XS.iloadN X110.here hx rfl (hb hby d8_21) rfl ?_
    refine XS.iloadN X110.here hx rfl (hb hby d8_22) rfl ?_
    refine st118 _ ?_
    refine XS.astore X118.here hx rfl (hb hby d8_26) rfl rfl (l' := #[rv a1, iv 0, iv 4, rv b102, iv x111, rv b119]) rfl ?_
    exact k)
  rcases f112 with hs131 | hs131 | hs131 | hs131
  · have pre132 : own_P p e below s₁ (entryFrame m #[(.ref a1), (.int 0), (.int 4)] 6) T118 (mkF m 28 #[rv a1, iv 0, iv 4, rv b102, iv 0, rv b119] []) := fun t k => pre130 t (by rw [show x111 = (0 : Int32) from hs131.1]; exact k)
    obtain ⟨_, _, ⟨T133, L133, k133, n133⟩, -, X133, ⟨Lc133, hQ133, l133, y133, z133⟩, st133⟩ := Jvm.LawKit.callS X118 hx (y := own_y15) hown (own_m hZ hw 102) (own_m hZ hw 103) (own_m hZ hw 42) (own_m hZ hw 104) (by decide) (backOf (W := 0) (rmGc l Z a0 hw [] b119 (0 : Int32) x120 (own_b0 x0) (own_b1 x0) (8 : Int32) ([(.int (own_b0 x0)), (.int (own_b1 x0)), (.int (own_b0 x1)), (.int (own_b1 x1)), (.int (own_b0 x2)), (.int (own_b1 x2)), (.int (own_b0 x3)), (.int (own_b1 x3))]) T118.heap n0 f126 f123 (SA.ext f128.2) (SH.ext f128.2) (SL.ext f128.2) (by decide) (by decide) (by decide) (by decide) rfl rfl) hZ (own_i hw 104 rfl) (own_i hw 42 rfl) (by decide) (by decide)) (g := (mkF m 32 #[rv a1, iv 0, iv 4, rv b102, iv 0, rv b119] [(.int 0), (.ref b119)])) rfl (by rw [hml]; rfl) (argsL := [(.ref b119), (.int 0)]) (rest := []) (lenOf pd_8 rfl) rfl (Nat.le_of_eq rfl) (hb hby d8_32) (fun _ _ => ⟨rfl, rfl, own_le rfl, own_le rfl⟩)
    dsimp only [Pt.U, Pt.locs, Pt.cells, Pt.slots] at X133 l133 y133 z133 st133 hQ133
    subst l133 y133 z133
    obtain ⟨rfl, N133q, e133⟩ := hQ133
    have N133 := Fr.app N118 N133q
    have hd134 : (255 : Int32) < (own_ut (own_b0 x0) (own_b1 x0)) := by rw [own_utc hC0]; exact hs131.2
    have pre135 : own_P p e below s₁ (entryFrame m #[(.ref a1), (.int 0), (.int 4)] 6) T133 (mkF m 56 #[rv a1, iv 0, iv 4, rv b102, iv 0, rv b119] [(.ref b119)]) := fun t k => pre132 t (by
      show Steps p.tables e below (T118.setTop (mkF m 28 #[rv a1, iv 0, iv 4, rv b102, iv 0, rv b119] [])) t
      refine XS.aload X118.here hx rfl (hb hby d8_28) rfl rfl ?_
      refine XS.iload X118.here hx rfl (hb hby d8_30) rfl ?_
      refine st133 _ ?_
      refine XS.sipush X133.here hx rfl (hb hby d8_35) ?_
      refine XS.icmpYes X133.here hx rfl (pc0 := 38) (pc' := 54) rfl (hb hby d8_38) rfl (tlt hd134).2.2.1 (by decide) (by decide) ?_
      refine XS.aload X133.here hx rfl (hb hby d8_54) rfl rfl ?_
      exact k)
    obtain ⟨fs, hr, hrun, hended, hW, hsame⟩ := X133.leave (v := some (.ref b119)) (fun h => by rw [Bd.returns] at h; cases h)
    refine ⟨_, _, pre135 _ ?_, hrun, hended, _, _, rfl, ?_, ⟨_, rfl⟩, hW, hsame.mono (by decide) (by decide)⟩
    · exact retOut X133 hx Bd.returns rfl (Or.inr (Or.inr (Or.inr (Or.inr ⟨rfl, rfl, rfl⟩)))) (hb hby d8_56) hr
    · show QDU_4 Z a1 k1 x0 x1 x2 x3 h0 n0 _ T133.heap _
      rw [e133]
      exact ⟨b119, x120, rfl, N133, f129, f121, sz125, f123⟩
  · have pre136 : own_P p e below s₁ (entryFrame m #[(.ref a1), (.int 0), (.int 4)] 6) T118 (mkF m 28 #[rv a1, iv 0, iv 4, rv b102, iv 1, rv b119] []) := fun t k => pre130 t (by rw [show x111 = (1 : Int32) from hs131.1]; exact k)
    obtain ⟨_, _, ⟨T137, L137, k137, n137⟩, -, X137, ⟨Lc137, hQ137, l137, y137, z137⟩, st137⟩ := Jvm.LawKit.callS X118 hx (y := own_y15) hown (own_m hZ hw 102) (own_m hZ hw 103) (own_m hZ hw 42) (own_m hZ hw 104) (by decide) (backOf (W := 0) (rmGc l Z a0 hw [] b119 (1 : Int32) x120 (own_b0 x1) (own_b1 x1) (8 : Int32) ([(.int (own_b0 x0)), (.int (own_b1 x0)), (.int (own_b0 x1)), (.int (own_b1 x1)), (.int (own_b0 x2)), (.int (own_b1 x2)), (.int (own_b0 x3)), (.int (own_b1 x3))]) T118.heap n0 f126 f123 (SA.ext f128.2) (SH.ext f128.2) (SL.ext f128.2) (by decide) (by decide) (by decide) (by decide) rfl rfl) hZ (own_i hw 104 rfl) (own_i hw 42 rfl) (by decide) (by decide)) (g := (mkF m 32 #[rv a1, iv 0, iv 4, rv b102, iv 1, rv b119] [(.int 1), (.ref b119)])) rfl (by rw [hml]; rfl) (argsL := [(.ref b119), (.int 1)]) (rest := []) (lenOf pd_8 rfl) rfl (Nat.le_of_eq rfl) (hb hby d8_32) (fun _ _ => ⟨rfl, rfl, own_le rfl, own_le rfl⟩)
    dsimp only [Pt.U, Pt.locs, Pt.cells, Pt.slots] at X137 l137 y137 z137 st137 hQ137
    subst l137 y137 z137
    obtain ⟨rfl, N137q, e137⟩ := hQ137
    have N137 := Fr.app N118 N137q
    have hd138 : (255 : Int32) < (own_ut (own_b0 x1) (own_b1 x1)) := by rw [own_utc hC1]; exact hs131.2
    have pre139 : own_P p e below s₁ (entryFrame m #[(.ref a1), (.int 0), (.int 4)] 6) T137 (mkF m 56 #[rv a1, iv 0, iv 4, rv b102, iv 1, rv b119] [(.ref b119)]) := fun t k => pre136 t (by
      show Steps p.tables e below (T118.setTop (mkF m 28 #[rv a1, iv 0, iv 4, rv b102, iv 1, rv b119] [])) t
      refine XS.aload X118.here hx rfl (hb hby d8_28) rfl rfl ?_
      refine XS.iload X118.here hx rfl (hb hby d8_30) rfl ?_
      refine st137 _ ?_
      refine XS.sipush X137.here hx rfl (hb hby d8_35) ?_
      refine XS.icmpYes X137.here hx rfl (pc0 := 38) (pc' := 54) rfl (hb hby d8_38) rfl (tlt hd138).2.2.1 (by decide) (by decide) ?_
      refine XS.aload X137.here hx rfl (hb hby d8_54) rfl rfl ?_
      exact k)
    obtain ⟨fs, hr, hrun, hended, hW, hsame⟩ := X137.leave (v := some (.ref b119)) (fun h => by rw [Bd.returns] at h; cases h)
    refine ⟨_, _, pre139 _ ?_, hrun, hended, _, _, rfl, ?_, ⟨_, rfl⟩, hW, hsame.mono (by decide) (by decide)⟩
    · exact retOut X137 hx Bd.returns rfl (Or.inr (Or.inr (Or.inr (Or.inr ⟨rfl, rfl, rfl⟩)))) (hb hby d8_56) hr
    · show QDU_4 Z a1 k1 x0 x1 x2 x3 h0 n0 _ T137.heap _
      rw [e137]
      exact ⟨b119, x120, rfl, N137, f129, f121, sz125, f123⟩
  · have pre140 : own_P p e below s₁ (entryFrame m #[(.ref a1), (.int 0), (.int 4)] 6) T118 (mkF m 28 #[rv a1, iv 0, iv 4, rv b102, iv 2, rv b119] []) := fun t k => pre130 t (by rw [show x111 = (2 : Int32) from hs131.1]; exact k)
    obtain ⟨_, _, ⟨T141, L141, k141, n141⟩, -, X141, ⟨Lc141, hQ141, l141, y141, z141⟩, st141⟩ := Jvm.LawKit.callS X118 hx (y := own_y15) hown (own_m hZ hw 102) (own_m hZ hw 103) (own_m hZ hw 42) (own_m hZ hw 104) (by decide) (backOf (W := 0) (rmGc l Z a0 hw [] b119 (2 : Int32) x120 (own_b0 x2) (own_b1 x2) (8 : Int32) ([(.int (own_b0 x0)), (.int (own_b1 x0)), (.int (own_b0 x1)), (.int (own_b1 x1)), (.int (own_b0 x2)), (.int (own_b1 x2)), (.int (own_b0 x3)), (.int (own_b1 x3))]) T118.heap n0 f126 f123 (SA.ext f128.2) (SH.ext f128.2) (SL.ext f128.2) (by decide) (by decide) (by decide) (by decide) rfl rfl) hZ (own_i hw 104 rfl) (own_i hw 42 rfl) (by decide) (by decide)) (g := (mkF m 32 #[rv a1, iv 0, iv 4, rv b102, iv 2, rv b119] [(.int 2), (.ref b119)])) rfl (by rw [hml]; rfl) (argsL := [(.ref b119), (.int 2)]) (rest := []) (lenOf pd_8 rfl) rfl (Nat.le_of_eq rfl) (hb hby d8_32) (fun _ _ => ⟨rfl, rfl, own_le rfl, own_le rfl⟩)
    dsimp only [Pt.U, Pt.locs, Pt.cells, Pt.slots] at X141 l141 y141 z141 st141 hQ141
    subst l141 y141 z141
    obtain ⟨rfl, N141q, e141⟩ := hQ141
    have N141 := Fr.app N118 N141q
    have hd142 : (255 : Int32) < (own_ut (own_b0 x2) (own_b1 x2)) := by rw [own_utc hC2]; exact hs131.2
    have pre143 : own_P p e below s₁ (entryFrame m #[(.ref a1), (.int 0), (.int 4)] 6) T141 (mkF m 56 #[rv a1, iv 0, iv 4, rv b102, iv 2, rv b119] [(.ref b119)]) := fun t k => pre140 t (by
      show Steps p.tables e below (T118.setTop (mkF m 28 #[rv a1, iv 0, iv 4, rv b102, iv 2, rv b119] [])) t
      refine XS.aload X118.here hx rfl (hb hby d8_28) rfl rfl ?_
      refine XS.iload X118.here hx rfl (hb hby d8_30) rfl ?_
      refine st141 _ ?_
      refine XS.sipush X141.here hx rfl (hb hby d8_35) ?_
      refine XS.icmpYes X141.here hx rfl (pc0 := 38) (pc' := 54) rfl (hb hby d8_38) rfl (tlt hd142).2.2.1 (by decide) (by decide) ?_
      refine XS.aload X141.here hx rfl (hb hby d8_54) rfl rfl ?_
      exact k)
    obtain ⟨fs, hr, hrun, hended, hW, hsame⟩ := X141.leave (v := some (.ref b119)) (fun h => by rw [Bd.returns] at h; cases h)
    refine ⟨_, _, pre143 _ ?_, hrun, hended, _, _, rfl, ?_, ⟨_, rfl⟩, hW, hsame.mono (by decide) (by decide)⟩
    · exact retOut X141 hx Bd.returns rfl (Or.inr (Or.inr (Or.inr (Or.inr ⟨rfl, rfl, rfl⟩)))) (hb hby d8_56) hr
    · show QDU_4 Z a1 k1 x0 x1 x2 x3 h0 n0 _ T141.heap _
      rw [e141]
      exact ⟨b119, x120, rfl, N141, f129, f121, sz125, f123⟩
  · have pre144 : own_P p e below s₁ (entryFrame m #[(.ref a1), (.int 0), (.int 4)] 6) T118 (mkF m 28 #[rv a1, iv 0, iv 4, rv b102, iv 3, rv b119] []) := fun t k => pre130 t (by rw [show x111 = (3 : Int32) from hs131.1]; exact k)
    obtain ⟨_, _, ⟨T145, L145, k145, n145⟩, -, X145, ⟨Lc145, hQ145, l145, y145, z145⟩, st145⟩ := Jvm.LawKit.callS X118 hx (y := own_y15) hown (own_m hZ hw 102) (own_m hZ hw 103) (own_m hZ hw 42) (own_m hZ hw 104) (by decide) (backOf (W := 0) (rmGc l Z a0 hw [] b119 (3 : Int32) x120 (own_b0 x3) (own_b1 x3) (8 : Int32) ([(.int (own_b0 x0)), (.int (own_b1 x0)), (.int (own_b0 x1)), (.int (own_b1 x1)), (.int (own_b0 x2)), (.int (own_b1 x2)), (.int (own_b0 x3)), (.int (own_b1 x3))]) T118.heap n0 f126 f123 (SA.ext f128.2) (SH.ext f128.2) (SL.ext f128.2) (by decide) (by decide) (by decide) (by decide) rfl rfl) hZ (own_i hw 104 rfl) (own_i hw 42 rfl) (by decide) (by decide)) (g := (mkF m 32 #[rv a1, iv 0, iv 4, rv b102, iv 3, rv b119] [(.int 3), (.ref b119)])) rfl (by rw [hml]; rfl) (argsL := [(.ref b119), (.int 3)]) (rest := []) (lenOf pd_8 rfl) rfl (Nat.le_of_eq rfl) (hb hby d8_32) (fun _ _ => ⟨rfl, rfl, own_le rfl, own_le rfl⟩)
    dsimp only [Pt.U, Pt.locs, Pt.cells, Pt.slots] at X145 l145 y145 z145 st145 hQ145
    subst l145 y145 z145
    obtain ⟨rfl, N145q, e145⟩ := hQ145
    have N145 := Fr.app N118 N145q
    have hd146 : (255 : Int32) < (own_ut (own_b0 x3) (own_b1 x3)) := by rw [own_utc hC3]; exact hs131.2
    have pre147 : own_P p e below s₁ (entryFrame m #[(.ref a1), (.int 0), (.int 4)] 6) T145 (mkF m 56 #[rv a1, iv 0, iv 4, rv b102, iv 3, rv b119] [(.ref b119)]) := fun t k => pre144 t (by
      show Steps p.tables e below (T118.setTop (mkF m 28 #[rv a1, iv 0, iv 4, rv b102, iv 3, rv b119] [])) t
      refine XS.aload X118.here hx rfl (hb hby d8_28) rfl rfl ?_
      refine XS.iload X118.here hx rfl (hb hby d8_30) rfl ?_
      refine st145 _ ?_
      refine XS.sipush X145.here hx rfl (hb hby d8_35) ?_
      refine XS.icmpYes X145.here hx rfl (pc0 := 38) (pc' := 54) rfl (hb hby d8_38) rfl (tlt hd146).2.2.1 (by decide) (by decide) ?_
      refine XS.aload X145.here hx rfl (hb hby d8_54) rfl rfl ?_
      exact k)
    obtain ⟨fs, hr, hrun, hended, hW, hsame⟩ := X145.leave (v := some (.ref b119)) (fun h => by rw [Bd.returns] at h; cases h)
    refine ⟨_, _, pre147 _ ?_, hrun, hended, _, _, rfl, ?_, ⟨_, rfl⟩, hW, hsame.mono (by decide) (by decide)⟩
    · exact retOut X145 hx Bd.returns rfl (Or.inr (Or.inr (Or.inr (Or.inr ⟨rfl, rfl, rfl⟩)))) (hb hby d8_56) hr
    · show QDU_4 Z a1 k1 x0 x1 x2 x3 h0 n0 _ T145.heap _
      rw [e145]
      exact ⟨b119, x120, rfl, N145, f129, f121, sz125, f123⟩
def QEU_4 (Z : State) (a1 : Addr) (k1 : ClassId) (y0 y1 y2 y3 y4 y5 y6 y7 : Int32) (h0 : Heap) (n0 : Nat) (v : Option Value) (h : Heap) (L : List Loc) : Prop := v = some (.int 1) ∧ Fr n0 L ∧ h = h0
theorem rmEU_4 (l : Launch) (Z : State) (a0 : Array Value) (hw : own_H Z a0) (ws : List Jvm.Cond) (a1 : Addr) (k1 : ClassId) (y0 y1 y2 y3 y4 y5 y6 y7 : Int32) (h0 : Heap) (n0 : Nat) (Z0 : n0 ≤ h0.size) (V1 : Arv Z h0 a1 k1 .byte (8 : Int32) [(.int y0), (.int y1), (.int y2), (.int y3), (.int y4), (.int y5), (.int y6), (.int y7)] (.int 0)) :
    own_M l own_y2 jdk_52_method_15_code 2 (some .byte) ws (own_R 0 0 0 0) Z h0 #[(.ref a1), (.int 4)] (QEU_4 Z a1 k1 y0 y1 y2 y3 y4 y5 y6 y7 h0 n0) := by
  refine own_body (plainFor_of_name pn_java_lang_StringUTF16) fun p e s m below meth c s₁ Bd hx hby hml (hown : s.vm.findClass "java/lang/StringUTF16" = some m.cls) hnm X0 e0 hZ => ?_
  have N0 := Fr.nil n0
  have pre0 : own_P p e below s₁ (entryFrame m #[(.ref a1), (.int 4)] 2) s₁ (mkF m 0 #[rv a1, iv 4] []) := fun t k => castTop (by first | rfl | (simp [entryFrame, mkF, argsToLocals, Value.category]; done)) k
  obtain ⟨cl101, Ar101, q101, S101, N101z, H101, G101⟩ := (id V1)
  have pre102 : own_P p e below s₁ (entryFrame m #[(.ref a1), (.int 4)] 2) s₁ (mkF m 8 #[rv a1, iv 4] [(.int ((((-4 : Int32).toUInt32 >>> ((31 : Int32) &&& 31).toUInt32).toInt32).toInt8.toInt32))]) := fun t k => pre0 t (by
    show Steps p.tables e below (s₁.setTop (mkF m 0 #[rv a1, iv 4] [])) t
    refine XS.iloadN X0.here hx rfl (hb hby d10_0) rfl ?_
    refine XS.aloadN X0.here hx rfl (hb hby d10_1) rfl rfl ?_
    refine X0.arraylength hx (by rw [e0]; exact Ar101.1) (State.isArrayOf_alike hZ.alike Ar101.2.1) (g := (mkF m 2 #[rv a1, iv 4] [(.ref a1), (.int 4)])) rfl rfl (hb hby d10_2) _ ?_
    rw [len_of S101 N101z]
    refine XS.isub X0.here hx rfl (hb hby d10_3) rfl ?_
    refine XS.bipush X0.here hx rfl (hb hby d10_4) ?_
    refine XS.iushr X0.here hx rfl (hb hby d10_6) rfl ?_
    refine XS.i2b X0.here hx rfl (hb hby d10_7) rfl ?_
    exact k)
  obtain ⟨fs, hr, hrun, hended, hW, hsame⟩ := X0.leave (v := some (.int (nar .byte ((((-4 : Int32).toUInt32 >>> ((31 : Int32) &&& 31).toUInt32).toInt32).toInt8.toInt32)))) (fun h => by rw [Bd.returns] at h; cases h)
  refine ⟨_, _, pre102 _ ?_, hrun, hended, _, _, rfl, ?_, ⟨_, rfl⟩, hW, hsame.mono (by decide) (by decide)⟩
  · exact retN X0 hx (t := .byte) Bd.returns (by simp) (hb hby d10_8) hr
  · show QEU_4 Z a1 k1 y0 y1 y2 y3 y4 y5 y6 y7 h0 n0 _ s₁.heap _
    rw [e0]
    exact ⟨(by rw [show (nar .byte ((((-4 : Int32).toUInt32 >>> ((31 : Int32) &&& 31).toUInt32).toInt32).toInt8.toInt32)) = (1 : Int32) from by decide]), N0, rfl⟩
def QFU_4 (Z : State) (a1 a2 : Addr) (k2 : ClassId) (cs x0 x1 x2 x3 : Int32) (h0 : Heap) (n0 : Nat) (v : Option Value) (h : Heap) (L : List Loc) : Prop := ∃ (t : Addr) (kt : ClassId), v = none ∧ Fr n0 L ∧ Keep h0 h [a1] ∧ (Exa Z h a1 "java/lang/String") ∧ (Fld Z h a1 "java/lang/String" "coder" "B" (.int 1)) ∧ (Fld Z h a1 "java/lang/String" "value" "[B" (.ref t)) ∧ (n0 ≤ t) ∧ (h0.size ≤ t) ∧ (Arv Z h t kt .byte (8 : Int32) [(.int (own_b0 x0)), (.int (own_b1 x0)), (.int (own_b0 x1)), (.int (own_b1 x1)), (.int (own_b0 x2)), (.int (own_b1 x2)), (.int (own_b0 x3)), (.int (own_b1 x3))] (.int 0))
theorem rmFU_4 (l : Launch) (Z : State) (a0 : Array Value) (hw : own_H Z a0) (ws : List Jvm.Cond) (a1 a2 : Addr) (k2 : ClassId) (cs x0 x1 x2 x3 : Int32) (h0 : Heap) (n0 : Nat) (Z0 : n0 ≤ h0.size) (F1 : Fld Z h0 a1 "java/lang/String" "value" "[B" .null) (F2 : Fld Z h0 a1 "java/lang/String" "coder" "B" (.int 0)) (E1 : Exa Z h0 a1 "java/lang/String") (g1 : n0 ≤ a1) (V2 : Arv Z h0 a2 k2 .char (4 : Int32) [(.int x0), (.int x1), (.int x2), (.int x3)] (.int 0)) (ne : a1 ≠ a2) (SC : Sta Z Z.heap "java/lang/String" "COMPACT_STRINGS" "Z" (.int cs)) (hcs : ¬ (cs = (0 : Int32))) (SA : Sta Z Z.heap "java/lang/StringUTF16" "$assertionsDisabled" "Z" (.int 1)) (SH : Sta Z Z.heap "java/lang/StringUTF16" "HI_BYTE_SHIFT" "I" (.int 0)) (SL : Sta Z Z.heap "java/lang/StringUTF16" "LO_BYTE_SHIFT" "I" (.int 8)) (O0 : Old Z n0 h0) (hC0 : own_C x0) (hC1 : own_C x1) (hC2 : own_C x2) (hC3 : own_C x3) (hU : ¬ ((¬ ((255 : Int32) < x0)) ∧ (¬ ((255 : Int32) < x1)) ∧ (¬ ((255 : Int32) < x2)) ∧ (¬ ((255 : Int32) < x3)))) :
    own_M l own_y3 jdk_42_method_149_code 6 none ws (own_R 4 2 12 57) Z h0 #[(.ref a1), (.ref a2), (.int 0), (.int 4), .null] (QFU_4 Z a1 a2 k2 cs x0 x1 x2 x3 h0 n0) := by
  refine own_body (plainFor_of_name pn_java_lang_String) fun p e s m below meth c s₁ Bd hx hby hml (hown : s.vm.findClass "java/lang/String" = some m.cls) hnm X0 e0 hZ => ?_
  have N0 := Fr.nil n0
  have pre0 : own_P p e below s₁ (entryFrame m #[(.ref a1), (.ref a2), (.int 0), (.int 4), .null] 6) s₁ (mkF m 0 #[rv a1, rv a2, iv 0, iv 4, .val .null, .unset] []) := fun t k => castTop (by first | rfl | (simp [entryFrame, mkF, argsToLocals, Value.category]; done)) k
  have f101 := Keep.refl h0 [a1]
  obtain ⟨T102, X102, e102, st102⟩ := initO X0 hx hZ hown (own_i hw 19 rfl) (own_i hw 20 rfl) (own_i hw 21 rfl) e0 (g := (mkF m 1 #[rv a1, rv a2, iv 0, iv 4, .val .null, .unset] [(.ref a1)])) rfl (by rw [hml]; rfl) rfl (hb hby d4_1) (by decide) (W := 0) (Nat.le_of_eq rfl) (by decide)
  obtain ⟨T103, X103, e103, st103⟩ := getS2 X102 hx hZ hown (host := "") (Or.inl (own_i hw 39 rfl)) Via.refl e102 (SC.ext O0.2) (g := (mkF m 27 #[rv a1, rv a2, iv 0, iv 4, .val .null, .unset] [])) rfl (hb hby d4_27)
  obtain ⟨_, _, ⟨T104, L104, k104, n104⟩, -, X104, ⟨Lc104, hQ104, l104, y104, z104⟩, st104⟩ := Jvm.LawKit.callS X103 hx (y := own_y1) hown (own_m hZ hw 40) (own_m hZ hw 41) (own_m hZ hw 42) (own_m hZ hw 43) (by decide) (backOf (W := 0) (rmDU_4 l Z a0 hw [] a2 k2 x0 x1 x2 x3 h0 n0 Z0 V2 SA SH SL O0 hC0 hC1 hC2 hC3 hU) hZ (own_i hw 43 rfl) (own_i hw 42 rfl) (by decide) (by decide)) (g := (mkF m 36 #[rv a1, rv a2, iv 0, iv 4, .val .null, .unset] [(.int 4), (.int 0), (.ref a2)])) rfl (by rw [hml]; rfl) (argsL := [(.ref a2), (.int 0), (.int 4)]) (rest := []) (lenOf pd_1 rfl) rfl (Nat.le_of_eq rfl) (hb hby d4_36) (fun _ _ => ⟨rfl, e103, own_le rfl, own_le rfl⟩)
  dsimp only [Pt.U, Pt.locs, Pt.cells, Pt.slots] at X104 l104 y104 z104 st104 hQ104
  subst l104 y104 z104
  obtain ⟨b105, x106, rfl, N104q, K104, f107, f108, f109⟩ := hQ104
  have N104 := Fr.app N0 N104q
  have ne110 : a1 ≠ b105 := Nat.ne_of_lt (Nat.lt_of_lt_of_le F1.lt f108)
  have ne111 : a2 ≠ b105 := Nat.ne_of_lt (Nat.lt_of_lt_of_le V2.lt f108)
  have f112 := Nat.le_trans Z0 K104.1
  have f113 := F1.keep K104 nin0
  have f114 := F2.keep K104 nin0
  have f115 := E1.keep K104
  have f116 := V2.keep K104 nin0
  have f117 := O0.keep K104 all0
  have f118 := f101.trans K104 all0
  obtain ⟨_, _, ⟨T119, L119, k119, n119⟩, -, X119, ⟨Lc119, hQ119, l119, y119, z119⟩, st119⟩ := Jvm.LawKit.callS X104 hx (y := own_y2) hown (own_m hZ hw 47) (own_m hZ hw 48) (own_m hZ hw 42) (own_m hZ hw 49) (by decide) (backOf (W := 1) (rmEU_4 l Z a0 hw [] b105 x106 (own_b0 x0) (own_b1 x0) (own_b0 x1) (own_b1 x1) (own_b0 x2) (own_b1 x2) (own_b0 x3) (own_b1 x3) T104.heap n0 f112 f109) hZ (own_i hw 49 rfl) (own_i hw 42 rfl) (by decide) (by decide)) (g := (mkF m 45 #[rv a1, rv a2, iv 0, iv 4, .val .null, rv b105] [(.int 4), (.ref b105), (.ref a1)])) rfl (by rw [hml]; rfl) (argsL := [(.ref b105), (.int 4)]) (rest := [(.ref a1)]) (lenOf pd_2 rfl) rfl (Nat.le_of_eq rfl) (hb hby d4_45) (fun _ _ => ⟨rfl, rfl, own_le rfl, own_le rfl⟩)
  dsimp only [Pt.U, Pt.locs, Pt.cells, Pt.slots] at X119 l119 y119 z119 st119 hQ119
  subst l119 y119 z119
  obtain ⟨rfl, N119q, e119⟩ := hQ119
  have N119 := Fr.app N104 N119q
  obtain ⟨T120, h120, X120, e120, W120, st120⟩ := putFN X119 hx hZ hown (own_i hw 29 rfl) Via.refl e119 f114 f115 (Or.inr ⟨(own_i hw 25 rfl), rfl, hnm⟩) (own_i hw 9 rfl) (ty := .byte) (v' := (.int 1)) (by decide) rfl (by decide) (g := (mkF m 48 #[rv a1, rv a2, iv 0, iv 4, .val .null, rv b105] [(.int 1), (.ref a1)])) rfl rfl (hb hby d4_48)
  have Fw120 := f114.same W120
  have N120 := Fr.snoc X120 N119 g1
  have f121 := Nat.le_trans f112 (Keep.of_wr W120).1
  have f122 := f113.other W120 (Or.inr (slot_ne (Or.inr (own_i hw 24 rfl)) (Or.inr (own_i hw 25 rfl)) (by decide) (t := (.array .byte)) (t' := .byte) (by decide) (by decide)))
  have f123 := f115.wr W120
  have f124 := f116.other W120 (Ne.symm ne)
  have f125 := f117.wr W120 g1
  have f126 := f118.wr W120 (Or.inl (List.mem_of_getElem? (i := 0) rfl))
  have f127 := f109.other W120 (Ne.symm ne110)
  obtain ⟨T128, h128, X128, e128, W128, st128⟩ := putF X120 hx hZ hown (host := "") (Or.inl (own_i hw 28 rfl)) Via.refl e120 f122 f123 (Or.inr ⟨(own_i hw 24 rfl), rfl, hnm⟩) (own_i hw 9 rfl) (ty := (.array .byte)) (by decide) rfl rfl (g := (mkF m 54 #[rv a1, rv a2, iv 0, iv 4, .val .null, rv b105] [(.ref b105), (.ref a1)])) rfl rfl (hb hby d4_54)
  have Fw128 := f122.same W128
  have N128 := Fr.snoc X128 N120 g1
  have f129 := Nat.le_trans f121 (Keep.of_wr W128).1
  have f130 := f123.wr W128
  have f131 := f124.other W128 (Ne.symm ne)
  have f132 := f125.wr W128 g1
  have f133 := f126.wr W128 (Or.inl (List.mem_of_getElem? (i := 0) rfl))
  have f134 := f127.other W128 (Ne.symm ne110)
  have f135 := Fw120.other W128 (Or.inr (slot_ne (Or.inr (own_i hw 25 rfl)) (Or.inr (own_i hw 24 rfl)) (by decide) (t := .byte) (t' := (.array .byte)) (by decide) (by decide)))
  have pre136 : own_P p e below s₁ (entryFrame m #[(.ref a1), (.ref a2), (.int 0), (.int 4), .null] 6) T128 (mkF m 57 #[rv a1, rv a2, iv 0, iv 4, .val .null, rv b105] []) := fun t k => pre0 t (by
    show Steps p.tables e below (s₁.setTop (mkF m 0 #[rv a1, rv a2, iv 0, iv 4, .val .null, .unset] [])) t
    refine XS.aloadN X0.here hx rfl (hb hby d4_0) rfl rfl ?_
    refine st102 _ ?_
    refine XS.iloadN X102.here hx rfl (hb hby d4_4) rfl ?_
    refine XS.ifYes X102.here hx rfl (pc0 := 5) (pc' := 27) rfl (hb hby d4_5) rfl ((if0 _ _).trans (feq (by decide : ¬ ((4 : Int32) = (0 : Int32)))).2) (by decide) (by decide) ?_
    refine st103 _ ?_
    refine XS.ifNo X103.here hx rfl (hb hby d4_30) rfl ((if0 _ _).trans (feq hcs).1) ?_
    refine XS.aloadN X103.here hx rfl (hb hby d4_33) rfl rfl ?_
    refine XS.iloadN X103.here hx rfl (hb hby d4_34) rfl ?_
    refine XS.iloadN X103.here hx rfl (hb hby d4_35) rfl ?_
    refine st104 _ ?_
    refine XS.astore X104.here hx rfl (hb hby d4_39) rfl rfl (l' := #[rv a1, rv a2, iv 0, iv 4, .val .null, rv b105]) rfl ?_
    refine XS.aloadN X104.here hx rfl (hb hby d4_41) rfl rfl ?_
    refine XS.aload X104.here hx rfl (hb hby d4_42) rfl rfl ?_
    refine XS.iloadN X104.here hx rfl (hb hby d4_44) rfl ?_
    refine st119 _ ?_
    refine st120 _ ?_
    refine XS.aloadN X120.here hx rfl (hb hby d4_51) rfl rfl ?_
    refine XS.aload X120.here hx rfl (hb hby d4_52) rfl rfl ?_
    refine st128 _ ?_
    exact k)
  obtain ⟨fs, hr, hrun, hended, hW, hsame⟩ := X128.leave (v := none) (fun _ => rfl)
  refine ⟨_, _, pre136 _ ?_, hrun, hended, _, _, rfl, ?_, ⟨_, rfl⟩, hW, hsame.mono (by decide) (by decide)⟩
  · exact X128.returnOut hx Bd.returns (hb hby d4_57) hr
  · show QFU_4 Z a1 a2 k2 cs x0 x1 x2 x3 h0 n0 _ T128.heap _
    rw [e128]
    exact ⟨b105, x106, rfl, N128, f133, f130, f135, Fw128, f107, f108, f134⟩
def QGU_4 (Z : State) (a1 a2 : Addr) (k2 : ClassId) (cs x0 x1 x2 x3 : Int32) (h0 : Heap) (n0 : Nat) (v : Option Value) (h : Heap) (L : List Loc) : Prop := ∃ (t : Addr) (kt : ClassId), v = none ∧ Fr n0 L ∧ Keep h0 h [a1] ∧ (Exa Z h a1 "java/lang/String") ∧ (Fld Z h a1 "java/lang/String" "coder" "B" (.int 1)) ∧ (Fld Z h a1 "java/lang/String" "value" "[B" (.ref t)) ∧ (n0 ≤ t) ∧ (h0.size ≤ t) ∧ (Arv Z h t kt .byte (8 : Int32) [(.int (own_b0 x0)), (.int (own_b1 x0)), (.int (own_b0 x1)), (.int (own_b1 x1)), (.int (own_b0 x2)), (.int (own_b1 x2)), (.int (own_b0 x3)), (.int (own_b1 x3))] (.int 0))
theorem rmGU_4 (l : Launch) (Z : State) (a0 : Array Value) (hw : own_H Z a0) (ws : List Jvm.Cond) (a1 a2 : Addr) (k2 : ClassId) (cs x0 x1 x2 x3 : Int32) (h0 : Heap) (n0 : Nat) (Z0 : n0 ≤ h0.size) (F1 : Fld Z h0 a1 "java/lang/String" "value" "[B" .null) (F2 : Fld Z h0 a1 "java/lang/String" "coder" "B" (.int 0)) (E1 : Exa Z h0 a1 "java/lang/String") (g1 : n0 ≤ a1) (V2 : Arv Z h0 a2 k2 .char (4 : Int32) [(.int x0), (.int x1), (.int x2), (.int x3)] (.int 0)) (ne : a1 ≠ a2) (SC : Sta Z Z.heap "java/lang/String" "COMPACT_STRINGS" "Z" (.int cs)) (hcs : ¬ (cs = (0 : Int32))) (SA : Sta Z Z.heap "java/lang/StringUTF16" "$assertionsDisabled" "Z" (.int 1)) (SH : Sta Z Z.heap "java/lang/StringUTF16" "HI_BYTE_SHIFT" "I" (.int 0)) (SL : Sta Z Z.heap "java/lang/StringUTF16" "LO_BYTE_SHIFT" "I" (.int 8)) (O0 : Old Z n0 h0) (hC0 : own_C x0) (hC1 : own_C x1) (hC2 : own_C x2) (hC3 : own_C x3) (hU : ¬ ((¬ ((255 : Int32) < x0)) ∧ (¬ ((255 : Int32) < x1)) ∧ (¬ ((255 : Int32) < x2)) ∧ (¬ ((255 : Int32) < x3)))) :
    own_M l own_y4 jdk_42_method_3_code 2 none ws (own_R 5 2 12 74) Z h0 #[(.ref a1), (.ref a2)] (QGU_4 Z a1 a2 k2 cs x0 x1 x2 x3 h0 n0) := by
  refine own_body (plainFor_of_name pn_java_lang_String) fun p e s m below meth c s₁ Bd hx hby hml (hown : s.vm.findClass "java/lang/String" = some m.cls) hnm X0 e0 hZ => ?_
  have N0 := Fr.nil n0
  have pre0 : own_P p e below s₁ (entryFrame m #[(.ref a1), (.ref a2)] 2) s₁ (mkF m 0 #[rv a1, rv a2] []) := fun t k => castTop (by first | rfl | (simp [entryFrame, mkF, argsToLocals, Value.category]; done)) k
  have f101 := Keep.refl h0 [a1]
  obtain ⟨cl102, Ar102, q102, S102, N102z, H102, G102⟩ := (id V2)
  obtain ⟨_, _, ⟨T103, L103, k103, n103⟩, -, X103, ⟨Lc103, hQ103, l103, y103, z103⟩, st103⟩ := X0.specialBack hx (y := own_y3) rfl hown (own_m hZ hw 15) (own_m hZ hw 16) (own_m hZ hw 18) (by decide) (backOf (W := 0) (rmFU_4 l Z a0 hw [] a1 a2 k2 cs x0 x1 x2 x3 h0 n0 Z0 F1 F2 E1 g1 V2 ne SC hcs SA SH SL O0 hC0 hC1 hC2 hC3 hU) hZ (own_i hw 18 rfl) (own_i hw 10 rfl) (by decide) (by decide)) (g := (mkF m 6 #[rv a1, rv a2] [.null, (.int 4), (.int 0), (.ref a2), (.ref a1)])) rfl (by rw [hml]; rfl) (Steps.refl _) (a := a1) (argsL := [(.ref a2), (.int 0), (.int 4), .null]) (rest := []) (lenOf pd_3 rfl) rfl (Nat.le_of_eq rfl) (hb hby d3_6) (fun _ _ => ⟨rfl, e0, own_le rfl, own_le rfl⟩)
  dsimp only [Pt.U, Pt.locs, Pt.cells, Pt.slots] at X103 l103 y103 z103 st103 hQ103
  subst l103 y103 z103
  obtain ⟨b104, x105, rfl, N103q, K103, f106, f107, f108, f109, f110, f111⟩ := hQ103
  have N103 := Fr.app N0 N103q
  have ne112 : a1 ≠ b104 := Nat.ne_of_lt (Nat.lt_of_lt_of_le F1.lt f110)
  have ne113 : a2 ≠ b104 := Nat.ne_of_lt (Nat.lt_of_lt_of_le V2.lt f110)
  have f114 := Nat.le_trans Z0 K103.1
  have f115 := V2.keep K103 (ninS (Ne.symm ne) nin0)
  have f116 := O0.keep K103 (allS g1 all0)
  have f117 := f101.trans K103 (allS (Or.inl (List.mem_of_getElem? (i := 0) rfl)) all0)
  have pre118 : own_P p e below s₁ (entryFrame m #[(.ref a1), (.ref a2)] 2) T103 (mkF m 9 #[rv a1, rv a2] []) := fun t k => pre0 t (by
    show Steps p.tables e below (s₁.setTop (mkF m 0 #[rv a1, rv a2] [])) t
    refine XS.aloadN X0.here hx rfl (hb hby d3_0) rfl rfl ?_
    refine XS.aloadN X0.here hx rfl (hb hby d3_1) rfl rfl ?_
    refine XS.iconst X0.here hx rfl (hb hby d3_2) ?_
    refine XS.aloadN X0.here hx rfl (hb hby d3_3) rfl rfl ?_
    refine X0.arraylength hx (by rw [e0]; exact Ar102.1) (State.isArrayOf_alike hZ.alike Ar102.2.1) (g := (mkF m 4 #[rv a1, rv a2] [(.ref a2), (.int 0), (.ref a2), (.ref a1)])) rfl rfl (hb hby d3_4) _ ?_
    rw [len_of S102 N102z]
    refine XS.aconstNull X0.here hx rfl (hb hby d3_5) ?_
    refine st103.trans ?_
    exact k)
  obtain ⟨fs, hr, hrun, hended, hW, hsame⟩ := X103.leave (v := none) (fun _ => rfl)
  refine ⟨_, _, pre118 _ ?_, hrun, hended, _, _, rfl, ?_, ⟨_, rfl⟩, hW, hsame.mono (by decide) (by decide)⟩
  · exact X103.returnOut hx Bd.returns (hb hby d3_9) hr
  · show QGU_4 Z a1 a2 k2 cs x0 x1 x2 x3 h0 n0 _ T103.heap _
    exact ⟨b104, x105, rfl, N103, f117, f106, f107, f108, f109, f110, f111⟩
theorem pd_14 : parseMethodDescriptor "([C)V" = some ⟨[(.array .char)], none⟩ := by decide +kernel
def QM_1 (Z : State) (p2 p3 p4 p5 cs : Int32) (h0 : Heap) (n0 : Nat) (v : Option Value) (h : Heap) (L : List Loc) : Prop := ∃ (b t : Addr) (kt : ClassId), v = some (.ref b) ∧ Fr n0 L ∧ Keep h0 h [] ∧ (n0 ≤ b) ∧ (h0.size ≤ b) ∧ (Exa Z h b "java/lang/String") ∧ (Fld Z h b "java/lang/String" "coder" "B" (.int 0)) ∧ (Fld Z h b "java/lang/String" "value" "[B" (.ref t)) ∧ (n0 ≤ t) ∧ (h0.size ≤ t) ∧ (Arv Z h t kt .byte (1 : Int32) [(.int (nar .byte ((nar .char p2).toInt8.toInt32)))] (.int 0))
theorem rmM_1 (l : Launch) (Z : State) (a0 : Array Value) (hw : own_H Z a0) (ws : List Jvm.Cond) (p2 p3 p4 p5 cs : Int32) (h0 : Heap) (n0 : Nat) (Z0 : n0 ≤ h0.size) (SC : Sta Z Z.heap "java/lang/String" "COMPACT_STRINGS" "Z" (.int cs)) (hcs : ¬ (cs = (0 : Int32))) (O0 : Old Z n0 h0) (hx0 : ¬ ((255 : Int32) < (nar .char p2))) :
    own_M l own_y23 method_4_code 5 (some (.object "java/lang/String")) ws (own_R 4 3 6 66) Z h0 #[(.int 1), (.int p2), (.int p3), (.int p4), (.int p5)] (QM_1 Z p2 p3 p4 p5 cs h0 n0) := by
  refine own_body (plainFor_of_name pn_com_example_millipede_millipede_DecimalNumbersIsNumberPinLaw) fun p e s m below meth c s₁ Bd hx hby hml (hown : s.vm.findClass "com/example/millipede/millipede/DecimalNumbersIsNumberPinLaw" = some m.cls) hnm X0 e0 hZ => ?_
  have N0 := Fr.nil n0
  have pre0 : own_P p e below s₁ (entryFrame m #[(.int 1), (.int p2), (.int p3), (.int p4), (.int p5)] 5) s₁ (mkF m 0 #[iv 1, iv p2, iv p3, iv p4, iv p5] []) := fun t k => castTop (by first | rfl | (simp [entryFrame, mkF, argsToLocals, Value.category]; done)) k
  have f101 := Keep.refl h0 []
  obtain ⟨T102, h102, X102, e102, E102, A102, D102, -, st102⟩ := newO X0 hx hZ hown (own_i hw 8 rfl) (own_i hw 9 rfl) (own_i hw 10 rfl) e0 (g := (mkF m 20 #[iv 1, iv p2, iv p3, iv p4, iv p5] [])) rfl (hb hby d2_20) (by decide) (by decide)
  obtain ⟨b102, g102⟩ : ∃ z, z = h0.size := ⟨_, rfl⟩
  rw [← g102] at A102 D102 st102
  have ga103 : n0 ≤ b102 := Nat.le_trans Z0 (Nat.le_of_eq g102.symm)
  have sz104 : h0.size ≤ b102 := Nat.le_trans f101.1 (Nat.le_of_eq g102.symm)
  have f105 : Fld Z h102 b102 "java/lang/String" "value" "[B" .null := D102 (Or.inr (own_i hw 24 rfl)) (ty := (.array .byte)) (by decide)
  have f106 : Fld Z h102 b102 "java/lang/String" "coder" "B" (.int 0) := D102 (Or.inr (own_i hw 25 rfl)) (ty := .byte) (by decide)
  have f107 := Nat.le_trans Z0 E102.1
  have f108 := O0.ext E102
  have f109 := f101.ext E102
  obtain ⟨T110, h110, k110, X110, e110, E110, A110, st110⟩ := newP X102 hx hZ (own_i hw 11 rfl) e102 (g := (mkF m 25 #[iv 1, iv p2, iv p3, iv p4, iv p5] [(.int 1), (.ref b102), (.ref b102)])) rfl (hb hby d2_25) rfl (by decide) (cap := 1) (by decide) (by decide) (by decide) (by decide)
  obtain ⟨b110, g110⟩ : ∃ z, z = h102.size := ⟨_, rfl⟩
  rw [← g110] at A110 st110
  have ne111 : b102 ≠ b110 := Nat.ne_of_lt (Nat.lt_of_lt_of_le A102.lt (Nat.le_of_eq g110.symm))
  have ga112 : n0 ≤ b110 := Nat.le_trans f107 (Nat.le_of_eq g110.symm)
  have sz113 : h0.size ≤ b110 := Nat.le_trans f109.1 (Nat.le_of_eq g110.symm)
  have V110 : Arv Z h110 b110 k110 .char (1 : Int32) [(.int 0)] (.int 0) := (Arv.new A110 (by decide)).pad (pad_rep [] (.int 0) 1)
  have f114 := Nat.le_trans f107 E110.1
  have f115 := f108.ext E110
  have f116 := f109.ext E110
  have f117 := A102.ext E110
  have f118 := f105.ext E110
  have f119 := f106.ext E110
  obtain ⟨cl120, Ar120, q120, S120, N120z, H120, G120⟩ := (id V110)
  have hin120 : ¬ ((0 : Int32) < 0 ∨ cl120.slots.size ≤ ((0 : Int32)).toNatClampNeg) := inb_of S120 ⟨by decide, by decide⟩
  obtain ⟨T120, h120, X120, e120, W120, st120⟩ := stC X110 hx hZ e110 Ar120 (j := (0 : Int32)) hin120 (g := (mkF m 30 #[iv 1, iv p2, iv p3, iv p4, iv p5] [(.int p2), (.int 0), (.ref b110), (.ref b110), (.ref b102), (.ref b102)])) rfl rfl (hb hby d2_30)
  have V120 : Arv Z h120 b110 k110 .char (1 : Int32) [(.int (nar .char p2))] (.int 0) := Arv.set Ar120 q120 S120 N120z H120 G120 (fits_nar_char _) W120 0 rfl (Nat.le_of_ble_eq_true rfl)
  have N120 := Fr.snoc X120 N0 ga112
  have f121 := Nat.le_trans f114 (Keep.of_wr W120).1
  have f122 := f115.wr W120 ga112
  have f123 := f116.wr W120 (Or.inr sz113)
  have f124 := f117.wr W120
  have f125 := f118.other W120 (Or.inl ne111)
  have f126 := f119.other W120 (Or.inl ne111)
  obtain ⟨_, _, ⟨T127, L127, k127, n127⟩, -, X127, ⟨Lc127, hQ127, l127, y127, z127⟩, st127⟩ := X120.specialBack hx (y := own_y4) rfl hown (own_m hZ hw 12) (own_m hZ hw 13) (own_m hZ hw 14) (by decide) (backOf (W := 1) (rmG_1 l Z a0 hw [] b102 b110 k110 cs (nar .char p2) h120 n0 f121 f125 f126 f124 ga103 V120 (SC.ext f122.2) hcs ne111 hx0) hZ (own_i hw 14 rfl) (own_i hw 10 rfl) (by decide) (by decide)) (g := (mkF m 31 #[iv 1, iv p2, iv p3, iv p4, iv p5] [(.ref b110), (.ref b102), (.ref b102)])) rfl (by rw [hml]; rfl) (Steps.refl _) (a := b102) (argsL := [(.ref b110)]) (rest := [(.ref b102)]) (lenOf pd_14 rfl) rfl (Nat.le_of_eq rfl) (hb hby d2_31) (fun _ _ => ⟨rfl, e120, own_le rfl, own_le rfl⟩)
  dsimp only [Pt.U, Pt.locs, Pt.cells, Pt.slots] at X127 l127 y127 z127 st127 hQ127
  subst l127 y127 z127
  obtain ⟨b128, x129, rfl, N127q, K127, f130, f131, f132, f133, f134, f135⟩ := hQ127
  have N127 := Fr.app N120 N127q
  have ne136 : b102 ≠ b128 := Nat.ne_of_lt (Nat.lt_of_lt_of_le f124.lt f134)
  have ne137 : b110 ≠ b128 := Nat.ne_of_lt (Nat.lt_of_lt_of_le V120.lt f134)
  have sz138 : h0.size ≤ b128 := Nat.le_trans f123.1 f134
  have f139 := Nat.le_trans f121 K127.1
  have f140 := f122.keep K127 (allS ga103 all0)
  have f141 := f123.trans K127 (allS (Or.inr sz104) all0)
  have f142 := V120.keep K127 (ninS (Ne.symm ne111) nin0)
  have pre143 : own_P p e below s₁ (entryFrame m #[(.int 1), (.int p2), (.int p3), (.int p4), (.int p5)] 5) T127 (mkF m 34 #[iv 1, iv p2, iv p3, iv p4, iv p5] [(.ref b102)]) := fun t k => pre0 t (by
    show Steps p.tables e below (s₁.setTop (mkF m 0 #[iv 1, iv p2, iv p3, iv p4, iv p5] [])) t
    refine XS.iloadN X0.here hx rfl (hb hby d2_0) rfl ?_
    refine XS.ifYes X0.here hx rfl (pc0 := 1) (pc' := 15) rfl (hb hby d2_1) rfl ((if0 _ _).trans (feq (by decide : ¬ ((1 : Int32) = (0 : Int32)))).2) (by decide) (by decide) ?_
    refine XS.iloadN X0.here hx rfl (hb hby d2_15) rfl ?_
    refine XS.iconst X0.here hx rfl (hb hby d2_16) ?_
    refine XS.icmpNo X0.here hx rfl (hb hby d2_17) rfl (teq (by decide : (1 : Int32) = (1 : Int32))).2 ?_
    refine st102 _ ?_
    refine XS.dup X102.here hx rfl (hb hby d2_23) rfl rfl ?_
    refine XS.iconst X102.here hx rfl (hb hby d2_24) ?_
    refine st110 _ ?_
    refine XS.dup X110.here hx rfl (hb hby d2_27) rfl rfl ?_
    refine XS.iconst X110.here hx rfl (hb hby d2_28) ?_
    refine XS.iloadN X110.here hx rfl (hb hby d2_29) rfl ?_
    refine st120 _ ?_
    refine st127.trans ?_
    exact k)
  obtain ⟨fs, hr, hrun, hended, hW, hsame⟩ := X127.leave (v := some (.ref b102)) (fun h => by rw [Bd.returns] at h; cases h)
  refine ⟨_, _, pre143 _ ?_, hrun, hended, _, _, rfl, ?_, ⟨_, rfl⟩, hW, hsame.mono (by decide) (by decide)⟩
  · exact retOut X127 hx Bd.returns rfl (Or.inr (Or.inr (Or.inr (Or.inr ⟨rfl, rfl, rfl⟩)))) (hb hby d2_34) hr
  · show QM_1 Z p2 p3 p4 p5 cs h0 n0 _ T127.heap _
    exact ⟨b102, b128, x129, rfl, N127, f141, ga103, sz104, f130, f131, f132, f133, sz138, f135⟩
def QMU_1 (Z : State) (p2 p3 p4 p5 cs : Int32) (h0 : Heap) (n0 : Nat) (v : Option Value) (h : Heap) (L : List Loc) : Prop := ∃ (b t : Addr) (kt : ClassId), v = some (.ref b) ∧ Fr n0 L ∧ Keep h0 h [] ∧ (n0 ≤ b) ∧ (h0.size ≤ b) ∧ (Exa Z h b "java/lang/String") ∧ (Fld Z h b "java/lang/String" "coder" "B" (.int 1)) ∧ (Fld Z h b "java/lang/String" "value" "[B" (.ref t)) ∧ (n0 ≤ t) ∧ (h0.size ≤ t) ∧ (Arv Z h t kt .byte (2 : Int32) [(.int (own_b0 (nar .char p2))), (.int (own_b1 (nar .char p2)))] (.int 0))
theorem rmMU_1 (l : Launch) (Z : State) (a0 : Array Value) (hw : own_H Z a0) (ws : List Jvm.Cond) (p2 p3 p4 p5 cs : Int32) (h0 : Heap) (n0 : Nat) (Z0 : n0 ≤ h0.size) (SC : Sta Z Z.heap "java/lang/String" "COMPACT_STRINGS" "Z" (.int cs)) (hcs : ¬ (cs = (0 : Int32))) (SA : Sta Z Z.heap "java/lang/StringUTF16" "$assertionsDisabled" "Z" (.int 1)) (SH : Sta Z Z.heap "java/lang/StringUTF16" "HI_BYTE_SHIFT" "I" (.int 0)) (SL : Sta Z Z.heap "java/lang/StringUTF16" "LO_BYTE_SHIFT" "I" (.int 8)) (O0 : Old Z n0 h0) (hU : ¬ ((¬ ((255 : Int32) < (nar .char p2))))) :
    own_M l own_y23 method_4_code 5 (some (.object "java/lang/String")) ws (own_R 6 4 8 88) Z h0 #[(.int 1), (.int p2), (.int p3), (.int p4), (.int p5)] (QMU_1 Z p2 p3 p4 p5 cs h0 n0) := by
  refine own_body (plainFor_of_name pn_com_example_millipede_millipede_DecimalNumbersIsNumberPinLaw) fun p e s m below meth c s₁ Bd hx hby hml (hown : s.vm.findClass "com/example/millipede/millipede/DecimalNumbersIsNumberPinLaw" = some m.cls) hnm X0 e0 hZ => ?_
  have N0 := Fr.nil n0
  have pre0 : own_P p e below s₁ (entryFrame m #[(.int 1), (.int p2), (.int p3), (.int p4), (.int p5)] 5) s₁ (mkF m 0 #[iv 1, iv p2, iv p3, iv p4, iv p5] []) := fun t k => castTop (by first | rfl | (simp [entryFrame, mkF, argsToLocals, Value.category]; done)) k
  have f101 := Keep.refl h0 []
  obtain ⟨T102, h102, X102, e102, E102, A102, D102, -, st102⟩ := newO X0 hx hZ hown (own_i hw 8 rfl) (own_i hw 9 rfl) (own_i hw 10 rfl) e0 (g := (mkF m 20 #[iv 1, iv p2, iv p3, iv p4, iv p5] [])) rfl (hb hby d2_20) (by decide) (by decide)
  obtain ⟨b102, g102⟩ : ∃ z, z = h0.size := ⟨_, rfl⟩
  rw [← g102] at A102 D102 st102
  have ga103 : n0 ≤ b102 := Nat.le_trans Z0 (Nat.le_of_eq g102.symm)
  have sz104 : h0.size ≤ b102 := Nat.le_trans f101.1 (Nat.le_of_eq g102.symm)
  have f105 : Fld Z h102 b102 "java/lang/String" "value" "[B" .null := D102 (Or.inr (own_i hw 24 rfl)) (ty := (.array .byte)) (by decide)
  have f106 : Fld Z h102 b102 "java/lang/String" "coder" "B" (.int 0) := D102 (Or.inr (own_i hw 25 rfl)) (ty := .byte) (by decide)
  have f107 := Nat.le_trans Z0 E102.1
  have f108 := O0.ext E102
  have f109 := f101.ext E102
  obtain ⟨T110, h110, k110, X110, e110, E110, A110, st110⟩ := newP X102 hx hZ (own_i hw 11 rfl) e102 (g := (mkF m 25 #[iv 1, iv p2, iv p3, iv p4, iv p5] [(.int 1), (.ref b102), (.ref b102)])) rfl (hb hby d2_25) rfl (by decide) (cap := 1) (by decide) (by decide) (by decide) (by decide)
  obtain ⟨b110, g110⟩ : ∃ z, z = h102.size := ⟨_, rfl⟩
  rw [← g110] at A110 st110
  have ne111 : b102 ≠ b110 := Nat.ne_of_lt (Nat.lt_of_lt_of_le A102.lt (Nat.le_of_eq g110.symm))
  have ga112 : n0 ≤ b110 := Nat.le_trans f107 (Nat.le_of_eq g110.symm)
  have sz113 : h0.size ≤ b110 := Nat.le_trans f109.1 (Nat.le_of_eq g110.symm)
  have V110 : Arv Z h110 b110 k110 .char (1 : Int32) [(.int 0)] (.int 0) := (Arv.new A110 (by decide)).pad (pad_rep [] (.int 0) 1)
  have f114 := Nat.le_trans f107 E110.1
  have f115 := f108.ext E110
  have f116 := f109.ext E110
  have f117 := A102.ext E110
  have f118 := f105.ext E110
  have f119 := f106.ext E110
  obtain ⟨cl120, Ar120, q120, S120, N120z, H120, G120⟩ := (id V110)
  have hin120 : ¬ ((0 : Int32) < 0 ∨ cl120.slots.size ≤ ((0 : Int32)).toNatClampNeg) := inb_of S120 ⟨by decide, by decide⟩
  obtain ⟨T120, h120, X120, e120, W120, st120⟩ := stC X110 hx hZ e110 Ar120 (j := (0 : Int32)) hin120 (g := (mkF m 30 #[iv 1, iv p2, iv p3, iv p4, iv p5] [(.int p2), (.int 0), (.ref b110), (.ref b110), (.ref b102), (.ref b102)])) rfl rfl (hb hby d2_30)
  have V120 : Arv Z h120 b110 k110 .char (1 : Int32) [(.int (nar .char p2))] (.int 0) := Arv.set Ar120 q120 S120 N120z H120 G120 (fits_nar_char _) W120 0 rfl (Nat.le_of_ble_eq_true rfl)
  have N120 := Fr.snoc X120 N0 ga112
  have f121 := Nat.le_trans f114 (Keep.of_wr W120).1
  have f122 := f115.wr W120 ga112
  have f123 := f116.wr W120 (Or.inr sz113)
  have f124 := f117.wr W120
  have f125 := f118.other W120 (Or.inl ne111)
  have f126 := f119.other W120 (Or.inl ne111)
  obtain ⟨_, _, ⟨T127, L127, k127, n127⟩, -, X127, ⟨Lc127, hQ127, l127, y127, z127⟩, st127⟩ := X120.specialBack hx (y := own_y4) rfl hown (own_m hZ hw 12) (own_m hZ hw 13) (own_m hZ hw 14) (by decide) (backOf (W := 1) (rmGU_1 l Z a0 hw [] b102 b110 k110 cs (nar .char p2) h120 n0 f121 f125 f126 f124 ga103 V120 ne111 SC hcs SA SH SL f122 (own_Cn _) hU) hZ (own_i hw 14 rfl) (own_i hw 10 rfl) (by decide) (by decide)) (g := (mkF m 31 #[iv 1, iv p2, iv p3, iv p4, iv p5] [(.ref b110), (.ref b102), (.ref b102)])) rfl (by rw [hml]; rfl) (Steps.refl _) (a := b102) (argsL := [(.ref b110)]) (rest := [(.ref b102)]) (lenOf pd_14 rfl) rfl (Nat.le_of_eq rfl) (hb hby d2_31) (fun _ _ => ⟨rfl, e120, own_le rfl, own_le rfl⟩)
  dsimp only [Pt.U, Pt.locs, Pt.cells, Pt.slots] at X127 l127 y127 z127 st127 hQ127
  subst l127 y127 z127
  obtain ⟨b128, x129, rfl, N127q, K127, f130, f131, f132, f133, f134, f135⟩ := hQ127
  have N127 := Fr.app N120 N127q
  have ne136 : b102 ≠ b128 := Nat.ne_of_lt (Nat.lt_of_lt_of_le f124.lt f134)
  have ne137 : b110 ≠ b128 := Nat.ne_of_lt (Nat.lt_of_lt_of_le V120.lt f134)
  have sz138 : h0.size ≤ b128 := Nat.le_trans f123.1 f134
  have f139 := Nat.le_trans f121 K127.1
  have f140 := f122.keep K127 (allS ga103 all0)
  have f141 := f123.trans K127 (allS (Or.inr sz104) all0)
  have f142 := V120.keep K127 (ninS (Ne.symm ne111) nin0)
  have pre143 : own_P p e below s₁ (entryFrame m #[(.int 1), (.int p2), (.int p3), (.int p4), (.int p5)] 5) T127 (mkF m 34 #[iv 1, iv p2, iv p3, iv p4, iv p5] [(.ref b102)]) := fun t k => pre0 t (by
    show Steps p.tables e below (s₁.setTop (mkF m 0 #[iv 1, iv p2, iv p3, iv p4, iv p5] [])) t
    refine XS.iloadN X0.here hx rfl (hb hby d2_0) rfl ?_
    refine XS.ifYes X0.here hx rfl (pc0 := 1) (pc' := 15) rfl (hb hby d2_1) rfl ((if0 _ _).trans (feq (by decide : ¬ ((1 : Int32) = (0 : Int32)))).2) (by decide) (by decide) ?_
    refine XS.iloadN X0.here hx rfl (hb hby d2_15) rfl ?_
    refine XS.iconst X0.here hx rfl (hb hby d2_16) ?_
    refine XS.icmpNo X0.here hx rfl (hb hby d2_17) rfl (teq (by decide : (1 : Int32) = (1 : Int32))).2 ?_
    refine st102 _ ?_
    refine XS.dup X102.here hx rfl (hb hby d2_23) rfl rfl ?_
    refine XS.iconst X102.here hx rfl (hb hby d2_24) ?_
    refine st110 _ ?_
    refine XS.dup X110.here hx rfl (hb hby d2_27) rfl rfl ?_
    refine XS.iconst X110.here hx rfl (hb hby d2_28) ?_
    refine XS.iloadN X110.here hx rfl (hb hby d2_29) rfl ?_
    refine st120 _ ?_
    refine st127.trans ?_
    exact k)
  obtain ⟨fs, hr, hrun, hended, hW, hsame⟩ := X127.leave (v := some (.ref b102)) (fun h => by rw [Bd.returns] at h; cases h)
  refine ⟨_, _, pre143 _ ?_, hrun, hended, _, _, rfl, ?_, ⟨_, rfl⟩, hW, hsame.mono (by decide) (by decide)⟩
  · exact retOut X127 hx Bd.returns rfl (Or.inr (Or.inr (Or.inr (Or.inr ⟨rfl, rfl, rfl⟩)))) (hb hby d2_34) hr
  · show QMU_1 Z p2 p3 p4 p5 cs h0 n0 _ T127.heap _
    exact ⟨b102, b128, x129, rfl, N127, f141, ga103, sz104, f130, f131, f132, f133, sz138, f135⟩
theorem pn_com_example_millipede_millipede_DecimalNumbers : plainName "com/example/millipede/millipede/DecimalNumbers" = true := by first | (simp [plainName, overriddenIn]; done) | decide +kernel
theorem pd_15 : parseMethodDescriptor "()I" = some ⟨[], some .int⟩ := by decide +kernel
theorem pd_16 : parseMethodDescriptor "(I)C" = some ⟨[.int], some .char⟩ := by decide +kernel
def QIs_1 (Z : State) (a1 : Addr) (cs : Int32) (vF : Value) (tv : Addr) (kt : ClassId) (y0 : Int32) (h0 : Heap) (n0 : Nat) (v : Option Value) (h : Heap) (L : List Loc) : Prop := v = some (.int (own_all1 (own_cat y0))) ∧ Fr n0 L ∧ h = h0
theorem rmIs_1 (l : Launch) (Z : State) (a0 : Array Value) (hw : own_H Z a0) (ws : List Jvm.Cond) (a1 : Addr) (cs : Int32) (vF : Value) (tv : Addr) (kt : ClassId) (y0 : Int32) (h0 : Heap) (n0 : Nat) (Z0 : n0 ≤ h0.size) (SC : Sta Z h0 "java/lang/String" "COMPACT_STRINGS" "Z" (.int cs)) (hcs : ¬ (cs = (0 : Int32))) (SF : Sta Z h0 "jdk/internal/util/Preconditions" "SIOOBE_FORMATTER" "Ljava/util/function/BiFunction;" vF) (hF : vF.isRef = true) (E1 : Exa Z h0 a1 "java/lang/String") (C1 : Fld Z h0 a1 "java/lang/String" "coder" "B" (.int 0)) (W1 : Fld Z h0 a1 "java/lang/String" "value" "[B" (.ref tv)) (V1 : Arv Z h0 tv kt .byte (1 : Int32) [(.int y0)] (.int 0)) :
    own_M l own_y24 prog_20_method_2_code 3 (some .boolean) ws (own_R 4 0 0 53) Z h0 #[(.ref a1)] (QIs_1 Z a1 cs vF tv kt y0 h0 n0) := by
  refine own_body (plainFor_of_name pn_com_example_millipede_millipede_DecimalNumbers) fun p e s m below meth c s₁ Bd hx hby hml (hown : s.vm.findClass "com/example/millipede/millipede/DecimalNumbers" = some m.cls) hnm X0 e0 hZ => ?_
  have N0 := Fr.nil n0
  have pre0 : own_P p e below s₁ (entryFrame m #[(.ref a1)] 3) s₁ (mkF m 0 #[rv a1, .unset, .unset] []) := fun t k => castTop (by first | rfl | (simp [entryFrame, mkF, argsToLocals, Value.category]; done)) k
  obtain ⟨cq101, kq101, q101a, q101b, q101c⟩ := isOf hZ e0 E1
  obtain ⟨_, _, ⟨T101, L101, k101, n101⟩, -, X101, ⟨Lc101, hQ101, l101, y101, z101⟩, st101⟩ := X0.virtualBack hx (y := own_y18) (z := own_y18) hown (own_m hZ hw 34) (own_m hZ hw 35) (notFace_of_selects (args := #[]) (own_m hZ hw 37)) (own_m hZ hw 37) (own_m hZ hw 36) (by decide) (backOf (W := 0) (rmEm l Z a0 hw [] a1 tv kt (1 : Int32) ([(.int y0)]) h0 n0 Z0 W1 V1 (by decide)) hZ (own_i hw 38 rfl) (own_i hw 10 rfl) (by decide) (by decide)) q101a q101c (g := (mkF m 1 #[rv a1, .unset, .unset] [(.ref a1)])) rfl (by rw [hml]; rfl) (Steps.refl _) (argsL := []) (rest := []) (lenOf pd_7 rfl) rfl (Nat.le_of_eq rfl) (hb hby d6_1) (fun _ _ => ⟨rfl, e0, own_le rfl, own_le rfl⟩)
  dsimp only [Pt.U, Pt.locs, Pt.cells, Pt.slots] at X101 l101 y101 z101 st101 hQ101
  subst l101 y101 z101
  obtain ⟨rfl, N101q, e101⟩ := hQ101
  have N101 := Fr.app N0 N101q
  obtain ⟨cq102, kq102, q102a, q102b, q102c⟩ := isOf hZ e101 E1
  obtain ⟨_, _, ⟨T102, L102, k102, n102⟩, -, X102, ⟨Lc102, hQ102, l102, y102, z102⟩, st102⟩ := X101.virtualBack hx (y := own_y9) (z := own_y9) hown (own_m hZ hw 53) (own_m hZ hw 54) (notFace_of_selects (args := #[]) (own_m hZ hw 56)) (own_m hZ hw 56) (own_m hZ hw 55) (by decide) (backOf (W := 1) (rmLen l Z a0 hw [] a1 cs tv kt (1 : Int32) ([(.int y0)]) h0 n0 Z0 SC hcs E1 C1 W1 V1) hZ (own_i hw 57 rfl) (own_i hw 10 rfl) (by decide) (by decide)) q102a q102c (g := (mkF m 13 #[rv a1, iv 0, .unset] [(.ref a1), (.int 0)])) rfl (by rw [hml]; rfl) (Steps.refl _) (argsL := []) (rest := [(.int 0)]) (lenOf pd_15 rfl) rfl (Nat.le_of_eq rfl) (hb hby d6_13) (fun _ _ => ⟨rfl, e101, own_le rfl, own_le rfl⟩)
  dsimp only [Pt.U, Pt.locs, Pt.cells, Pt.slots] at X102 l102 y102 z102 st102 hQ102
  subst l102 y102 z102
  obtain ⟨rfl, N102q, e102⟩ := hQ102
  have N102 := Fr.app N101 N102q
  obtain ⟨cq103, kq103, q103a, q103b, q103c⟩ := isOf hZ e102 E1
  obtain ⟨_, _, ⟨T103, L103, k103, n103⟩, -, X103, ⟨Lc103, hQ103, l103, y103, z103⟩, st103⟩ := X102.virtualBack hx (y := own_y13) (z := own_y13) hown (own_m hZ hw 63) (own_m hZ hw 64) (notFace_of_selects (args := #[]) (own_m hZ hw 66)) (own_m hZ hw 66) (own_m hZ hw 65) (by decide) (backOf (W := 0) (rmCh l Z a0 hw [] a1 (0 : Int32) cs vF tv kt y0 (1 : Int32) ([(.int y0)]) h0 n0 Z0 SC hcs SF hF E1 C1 W1 V1 (by decide) (by decide) rfl) hZ (own_i hw 67 rfl) (own_i hw 10 rfl) (by decide) (by decide)) q103a q103c (g := (mkF m 21 #[rv a1, iv 0, .unset] [(.int 0), (.ref a1)])) rfl (by rw [hml]; rfl) (Steps.refl _) (argsL := [(.int 0)]) (rest := []) (lenOf pd_16 rfl) rfl (Nat.le_of_eq rfl) (hb hby d6_21) (fun _ _ => ⟨rfl, e102, own_le rfl, own_le rfl⟩)
  dsimp only [Pt.U, Pt.locs, Pt.cells, Pt.slots] at X103 l103 y103 z103 st103 hQ103
  subst l103 y103 z103
  obtain ⟨rfl, N103q, e103⟩ := hQ103
  have N103 := Fr.app N102 N103q
  have pre105 : own_P p e below s₁ (entryFrame m #[(.ref a1)] 3) T103 (mkF m 28 #[rv a1, iv 0, iv (own_cat y0)] [(.int 48), (.int (own_cat y0))]) := fun t k => pre0 t (by
    show Steps p.tables e below (s₁.setTop (mkF m 0 #[rv a1, .unset, .unset] [])) t
    refine XS.aloadN X0.here hx rfl (hb hby d6_0) rfl rfl ?_
    refine st101.trans ?_
    refine XS.ifYes X101.here hx rfl (pc0 := 4) (pc' := 9) rfl (hb hby d6_4) rfl ((if0 _ _).trans (teq (by decide : (0 : Int32) = (0 : Int32))).1) (by decide) (by decide) ?_
    refine XS.iconst X101.here hx rfl (hb hby d6_9) ?_
    refine XS.istoreN X101.here hx rfl (hb hby d6_10) rfl (l' := #[rv a1, iv 0, .unset]) rfl ?_
    refine XS.iloadN X101.here hx rfl (hb hby d6_11) rfl ?_
    refine XS.aloadN X101.here hx rfl (hb hby d6_12) rfl rfl ?_
    refine st102.trans ?_
    refine XS.icmpNo X102.here hx rfl (hb hby d6_16) rfl (tlt (by decide : (0 : Int32) < (1 : Int32))).2.1 ?_
    refine XS.aloadN X102.here hx rfl (hb hby d6_19) rfl rfl ?_
    refine XS.iloadN X102.here hx rfl (hb hby d6_20) rfl ?_
    refine st103.trans ?_
    refine XS.istoreN X103.here hx rfl (hb hby d6_24) rfl (l' := #[rv a1, iv 0, iv (own_cat y0)]) rfl ?_
    refine XS.iloadN X103.here hx rfl (hb hby d6_25) rfl ?_
    refine XS.bipush X103.here hx rfl (hb hby d6_26) ?_
    exact k)
  by_cases hc104 : (own_cat y0) < (48 : Int32)
  · have pre106 : own_P p e below s₁ (entryFrame m #[(.ref a1)] 3) T103 (mkF m 38 #[rv a1, iv 0, iv (own_cat y0)] [(.int 0)]) := fun t k => pre105 t (by
      refine XS.icmpYes X103.here hx rfl (pc0 := 28) (pc' := 37) rfl (hb hby d6_28) rfl (tlt hc104).1 (by decide) (by decide) ?_
      refine XS.iconst X103.here hx rfl (hb hby d6_37) ?_
      exact k)
    obtain ⟨fs, hr, hrun, hended, hW, hsame⟩ := X103.leave (v := some (.int 0)) (fun h => by rw [Bd.returns] at h; cases h)
    refine ⟨_, _, pre106 _ ?_, hrun, hended, _, _, rfl, ?_, ⟨_, rfl⟩, hW, hsame.mono (by decide) (by decide)⟩
    · exact retN X103 hx (t := .boolean) Bd.returns (by simp) (hb hby d6_38) hr
    · show QIs_1 Z a1 cs vF tv kt y0 h0 n0 _ T103.heap _
      rw [e103]
      exact ⟨(by rw [own_all1, if_neg (by rintro ⟨_, _⟩ <;> contradiction)]), N103, rfl⟩
  · have pre108 : own_P p e below s₁ (entryFrame m #[(.ref a1)] 3) T103 (mkF m 34 #[rv a1, iv 0, iv (own_cat y0)] [(.int 57), (.int (own_cat y0))]) := fun t k => pre105 t (by
      refine XS.icmpNo X103.here hx rfl (hb hby d6_28) rfl (flt hc104).1 ?_
      refine XS.iloadN X103.here hx rfl (hb hby d6_31) rfl ?_
      refine XS.bipush X103.here hx rfl (hb hby d6_32) ?_
      exact k)
    by_cases hc107 : (57 : Int32) < (own_cat y0)
    · have pre109 : own_P p e below s₁ (entryFrame m #[(.ref a1)] 3) T103 (mkF m 38 #[rv a1, iv 0, iv (own_cat y0)] [(.int 0)]) := fun t k => pre108 t (by
        refine XS.icmpNo X103.here hx rfl (hb hby d6_34) rfl (tlt hc107).2.2.2 ?_
        refine XS.iconst X103.here hx rfl (hb hby d6_37) ?_
        exact k)
      obtain ⟨fs, hr, hrun, hended, hW, hsame⟩ := X103.leave (v := some (.int 0)) (fun h => by rw [Bd.returns] at h; cases h)
      refine ⟨_, _, pre109 _ ?_, hrun, hended, _, _, rfl, ?_, ⟨_, rfl⟩, hW, hsame.mono (by decide) (by decide)⟩
      · exact retN X103 hx (t := .boolean) Bd.returns (by simp) (hb hby d6_38) hr
      · show QIs_1 Z a1 cs vF tv kt y0 h0 n0 _ T103.heap _
        rw [e103]
        exact ⟨(by rw [own_all1, if_neg (by rintro ⟨_, _⟩ <;> contradiction)]), N103, rfl⟩
    · obtain ⟨cq110, kq110, q110a, q110b, q110c⟩ := isOf hZ e103 E1
      obtain ⟨_, _, ⟨T110, L110, k110, n110⟩, -, X110, ⟨Lc110, hQ110, l110, y110, z110⟩, st110⟩ := X103.virtualBack hx (y := own_y9) (z := own_y9) hown (own_m hZ hw 53) (own_m hZ hw 54) (notFace_of_selects (args := #[]) (own_m hZ hw 56)) (own_m hZ hw 56) (own_m hZ hw 55) (by decide) (backOf (W := 1) (rmLen l Z a0 hw [] a1 cs tv kt (1 : Int32) ([(.int y0)]) h0 n0 Z0 SC hcs E1 C1 W1 V1) hZ (own_i hw 57 rfl) (own_i hw 10 rfl) (by decide) (by decide)) q110a q110c (g := (mkF m 13 #[rv a1, iv 1, iv (own_cat y0)] [(.ref a1), (.int 1)])) rfl (by rw [hml]; rfl) (Steps.refl _) (argsL := []) (rest := [(.int 1)]) (lenOf pd_15 rfl) rfl (Nat.le_of_eq rfl) (hb hby d6_13) (fun _ _ => ⟨rfl, e103, own_le rfl, own_le rfl⟩)
      dsimp only [Pt.U, Pt.locs, Pt.cells, Pt.slots] at X110 l110 y110 z110 st110 hQ110
      subst l110 y110 z110
      obtain ⟨rfl, N110q, e110⟩ := hQ110
      have N110 := Fr.app N103 N110q
      have pre111 : own_P p e below s₁ (entryFrame m #[(.ref a1)] 3) T110 (mkF m 46 #[rv a1, iv 1, iv (own_cat y0)] [(.int 1)]) := fun t k => pre108 t (by
        refine XS.icmpYes X103.here hx rfl (pc0 := 34) (pc' := 39) rfl (hb hby d6_34) rfl (flt hc107).2.2.2 (by decide) (by decide) ?_
        refine XS.iinc X103.here hx rfl (hb hby d6_39) rfl (l' := #[rv a1, iv 1, iv (own_cat y0)]) rfl ?_
        refine XS.goto X103.here hx rfl (pc0 := 42) (pc' := 11) rfl (hb hby d6_42) (by decide) (by decide) ?_
        refine XS.iloadN X103.here hx rfl (hb hby d6_11) rfl ?_
        refine XS.aloadN X103.here hx rfl (hb hby d6_12) rfl rfl ?_
        refine st110.trans ?_
        refine XS.icmpYes X110.here hx rfl (pc0 := 16) (pc' := 45) rfl (hb hby d6_16) rfl (flt (by decide : ¬ ((1 : Int32) < (1 : Int32)))).2.1 (by decide) (by decide) ?_
        refine XS.iconst X110.here hx rfl (hb hby d6_45) ?_
        exact k)
      obtain ⟨fs, hr, hrun, hended, hW, hsame⟩ := X110.leave (v := some (.int 1)) (fun h => by rw [Bd.returns] at h; cases h)
      refine ⟨_, _, pre111 _ ?_, hrun, hended, _, _, rfl, ?_, ⟨_, rfl⟩, hW, hsame.mono (by decide) (by decide)⟩
      · exact retN X110 hx (t := .boolean) Bd.returns (by simp) (hb hby d6_46) hr
      · show QIs_1 Z a1 cs vF tv kt y0 h0 n0 _ T110.heap _
        rw [e110]
        exact ⟨(by rw [own_all1, if_pos ⟨by assumption, by assumption⟩]), N110, rfl⟩
def QIU_1 (Z : State) (a1 : Addr) (cs : Int32) (vF : Value) (tv : Addr) (kt : ClassId) (y0 y1 : Int32) (h0 : Heap) (n0 : Nat) (v : Option Value) (h : Heap) (L : List Loc) : Prop := v = some (.int (own_all1 (nar .char (nar .char (own_ut y0 y1))))) ∧ Fr n0 L ∧ h = h0
theorem rmIU_1 (l : Launch) (Z : State) (a0 : Array Value) (hw : own_H Z a0) (ws : List Jvm.Cond) (a1 : Addr) (cs : Int32) (vF : Value) (tv : Addr) (kt : ClassId) (y0 y1 : Int32) (h0 : Heap) (n0 : Nat) (Z0 : n0 ≤ h0.size) (SC : Sta Z h0 "java/lang/String" "COMPACT_STRINGS" "Z" (.int cs)) (hcs : ¬ (cs = (0 : Int32))) (SF : Sta Z h0 "jdk/internal/util/Preconditions" "SIOOBE_FORMATTER" "Ljava/util/function/BiFunction;" vF) (hF : vF.isRef = true) (SA : Sta Z h0 "java/lang/StringUTF16" "$assertionsDisabled" "Z" (.int 1)) (SH : Sta Z h0 "java/lang/StringUTF16" "HI_BYTE_SHIFT" "I" (.int 0)) (SL : Sta Z h0 "java/lang/StringUTF16" "LO_BYTE_SHIFT" "I" (.int 8)) (E1 : Exa Z h0 a1 "java/lang/String") (C1 : Fld Z h0 a1 "java/lang/String" "coder" "B" (.int 1)) (W1 : Fld Z h0 a1 "java/lang/String" "value" "[B" (.ref tv)) (V1 : Arv Z h0 tv kt .byte (2 : Int32) [(.int y0), (.int y1)] (.int 0)) :
    own_M l own_y24 prog_20_method_2_code 3 (some .boolean) ws (own_R 5 0 0 66) Z h0 #[(.ref a1)] (QIU_1 Z a1 cs vF tv kt y0 y1 h0 n0) := by
  refine own_body (plainFor_of_name pn_com_example_millipede_millipede_DecimalNumbers) fun p e s m below meth c s₁ Bd hx hby hml (hown : s.vm.findClass "com/example/millipede/millipede/DecimalNumbers" = some m.cls) hnm X0 e0 hZ => ?_
  have N0 := Fr.nil n0
  have pre0 : own_P p e below s₁ (entryFrame m #[(.ref a1)] 3) s₁ (mkF m 0 #[rv a1, .unset, .unset] []) := fun t k => castTop (by first | rfl | (simp [entryFrame, mkF, argsToLocals, Value.category]; done)) k
  obtain ⟨cq101, kq101, q101a, q101b, q101c⟩ := isOf hZ e0 E1
  obtain ⟨_, _, ⟨T101, L101, k101, n101⟩, -, X101, ⟨Lc101, hQ101, l101, y101, z101⟩, st101⟩ := X0.virtualBack hx (y := own_y18) (z := own_y18) hown (own_m hZ hw 34) (own_m hZ hw 35) (notFace_of_selects (args := #[]) (own_m hZ hw 37)) (own_m hZ hw 37) (own_m hZ hw 36) (by decide) (backOf (W := 0) (rmEm l Z a0 hw [] a1 tv kt (2 : Int32) ([(.int y0), (.int y1)]) h0 n0 Z0 W1 V1 (by decide)) hZ (own_i hw 38 rfl) (own_i hw 10 rfl) (by decide) (by decide)) q101a q101c (g := (mkF m 1 #[rv a1, .unset, .unset] [(.ref a1)])) rfl (by rw [hml]; rfl) (Steps.refl _) (argsL := []) (rest := []) (lenOf pd_7 rfl) rfl (Nat.le_of_eq rfl) (hb hby d6_1) (fun _ _ => ⟨rfl, e0, own_le rfl, own_le rfl⟩)
  dsimp only [Pt.U, Pt.locs, Pt.cells, Pt.slots] at X101 l101 y101 z101 st101 hQ101
  subst l101 y101 z101
  obtain ⟨rfl, N101q, e101⟩ := hQ101
  have N101 := Fr.app N0 N101q
  obtain ⟨cq102, kq102, q102a, q102b, q102c⟩ := isOf hZ e101 E1
  obtain ⟨_, _, ⟨T102, L102, k102, n102⟩, -, X102, ⟨Lc102, hQ102, l102, y102, z102⟩, st102⟩ := X101.virtualBack hx (y := own_y9) (z := own_y9) hown (own_m hZ hw 53) (own_m hZ hw 54) (notFace_of_selects (args := #[]) (own_m hZ hw 56)) (own_m hZ hw 56) (own_m hZ hw 55) (by decide) (backOf (W := 1) (rmLen2 l Z a0 hw [] a1 cs tv kt (2 : Int32) ([(.int y0), (.int y1)]) h0 n0 Z0 SC hcs E1 C1 W1 V1) hZ (own_i hw 57 rfl) (own_i hw 10 rfl) (by decide) (by decide)) q102a q102c (g := (mkF m 13 #[rv a1, iv 0, .unset] [(.ref a1), (.int 0)])) rfl (by rw [hml]; rfl) (Steps.refl _) (argsL := []) (rest := [(.int 0)]) (lenOf pd_15 rfl) rfl (Nat.le_of_eq rfl) (hb hby d6_13) (fun _ _ => ⟨rfl, e101, own_le rfl, own_le rfl⟩)
  dsimp only [Pt.U, Pt.locs, Pt.cells, Pt.slots] at X102 l102 y102 z102 st102 hQ102
  subst l102 y102 z102
  obtain ⟨rfl, N102q, e102⟩ := hQ102
  have N102 := Fr.app N101 N102q
  have pre103 : own_P p e below s₁ (entryFrame m #[(.ref a1)] 3) T102 (mkF m 16 #[rv a1, iv 0, .unset] [(.int ((2 : Int32) >>> ((1 : Int32) &&& 31))), (.int 0)]) := fun t k => pre0 t (by
    show Steps p.tables e below (s₁.setTop (mkF m 0 #[rv a1, .unset, .unset] [])) t
    refine XS.aloadN X0.here hx rfl (hb hby d6_0) rfl rfl ?_
    refine st101.trans ?_
    refine XS.ifYes X101.here hx rfl (pc0 := 4) (pc' := 9) rfl (hb hby d6_4) rfl ((if0 _ _).trans (teq (by decide : (0 : Int32) = (0 : Int32))).1) (by decide) (by decide) ?_
    refine XS.iconst X101.here hx rfl (hb hby d6_9) ?_
    refine XS.istoreN X101.here hx rfl (hb hby d6_10) rfl (l' := #[rv a1, iv 0, .unset]) rfl ?_
    refine XS.iloadN X101.here hx rfl (hb hby d6_11) rfl ?_
    refine XS.aloadN X101.here hx rfl (hb hby d6_12) rfl rfl ?_
    refine st102.trans ?_
    exact k)
  have pre104 : own_P p e below s₁ (entryFrame m #[(.ref a1)] 3) T102 (mkF m 16 #[rv a1, iv 0, .unset] [(.int 1), (.int 0)]) := fun t k => pre103 t (by rw [show ((2 : Int32) >>> ((1 : Int32) &&& 31)) = (1 : Int32) from (by decide)]; exact k)
  obtain ⟨cq105, kq105, q105a, q105b, q105c⟩ := isOf hZ e102 E1
  obtain ⟨_, _, ⟨T105, L105, k105, n105⟩, -, X105, ⟨Lc105, hQ105, l105, y105, z105⟩, st105⟩ := X102.virtualBack hx (y := own_y13) (z := own_y13) hown (own_m hZ hw 63) (own_m hZ hw 64) (notFace_of_selects (args := #[]) (own_m hZ hw 66)) (own_m hZ hw 66) (own_m hZ hw 65) (by decide) (backOf (W := 0) (rmCh2 l Z a0 hw [] a1 (0 : Int32) cs vF tv kt y0 y1 (2 : Int32) ([(.int y0), (.int y1)]) h0 n0 Z0 SC hcs SF hF SA SH SL E1 C1 W1 V1 (by decide) (by decide) (by decide) (by decide) (by decide) (by decide) rfl rfl) hZ (own_i hw 67 rfl) (own_i hw 10 rfl) (by decide) (by decide)) q105a q105c (g := (mkF m 21 #[rv a1, iv 0, .unset] [(.int 0), (.ref a1)])) rfl (by rw [hml]; rfl) (Steps.refl _) (argsL := [(.int 0)]) (rest := []) (lenOf pd_16 rfl) rfl (Nat.le_of_eq rfl) (hb hby d6_21) (fun _ _ => ⟨rfl, e102, own_le rfl, own_le rfl⟩)
  dsimp only [Pt.U, Pt.locs, Pt.cells, Pt.slots] at X105 l105 y105 z105 st105 hQ105
  subst l105 y105 z105
  obtain ⟨rfl, N105q, e105⟩ := hQ105
  have N105 := Fr.app N102 N105q
  have pre107 : own_P p e below s₁ (entryFrame m #[(.ref a1)] 3) T105 (mkF m 28 #[rv a1, iv 0, iv (nar .char (nar .char (own_ut y0 y1)))] [(.int 48), (.int (nar .char (nar .char (own_ut y0 y1))))]) := fun t k => pre104 t (by
    show Steps p.tables e below (T102.setTop (mkF m 16 #[rv a1, iv 0, .unset] [(.int 1), (.int 0)])) t
    refine XS.icmpNo X102.here hx rfl (hb hby d6_16) rfl (tlt (by decide : (0 : Int32) < (1 : Int32))).2.1 ?_
    refine XS.aloadN X102.here hx rfl (hb hby d6_19) rfl rfl ?_
    refine XS.iloadN X102.here hx rfl (hb hby d6_20) rfl ?_
    refine st105.trans ?_
    refine XS.istoreN X105.here hx rfl (hb hby d6_24) rfl (l' := #[rv a1, iv 0, iv (nar .char (nar .char (own_ut y0 y1)))]) rfl ?_
    refine XS.iloadN X105.here hx rfl (hb hby d6_25) rfl ?_
    refine XS.bipush X105.here hx rfl (hb hby d6_26) ?_
    exact k)
  by_cases hc106 : (nar .char (nar .char (own_ut y0 y1))) < (48 : Int32)
  · have pre108 : own_P p e below s₁ (entryFrame m #[(.ref a1)] 3) T105 (mkF m 38 #[rv a1, iv 0, iv (nar .char (nar .char (own_ut y0 y1)))] [(.int 0)]) := fun t k => pre107 t (by
      refine XS.icmpYes X105.here hx rfl (pc0 := 28) (pc' := 37) rfl (hb hby d6_28) rfl (tlt hc106).1 (by decide) (by decide) ?_
      refine XS.iconst X105.here hx rfl (hb hby d6_37) ?_
      exact k)
    obtain ⟨fs, hr, hrun, hended, hW, hsame⟩ := X105.leave (v := some (.int 0)) (fun h => by rw [Bd.returns] at h; cases h)
    refine ⟨_, _, pre108 _ ?_, hrun, hended, _, _, rfl, ?_, ⟨_, rfl⟩, hW, hsame.mono (by decide) (by decide)⟩
    · exact retN X105 hx (t := .boolean) Bd.returns (by simp) (hb hby d6_38) hr
    · show QIU_1 Z a1 cs vF tv kt y0 y1 h0 n0 _ T105.heap _
      rw [e105]
      exact ⟨(by rw [own_all1, if_neg (by rintro ⟨_, _⟩ <;> contradiction)]), N105, rfl⟩
  · have pre110 : own_P p e below s₁ (entryFrame m #[(.ref a1)] 3) T105 (mkF m 34 #[rv a1, iv 0, iv (nar .char (nar .char (own_ut y0 y1)))] [(.int 57), (.int (nar .char (nar .char (own_ut y0 y1))))]) := fun t k => pre107 t (by
      refine XS.icmpNo X105.here hx rfl (hb hby d6_28) rfl (flt hc106).1 ?_
      refine XS.iloadN X105.here hx rfl (hb hby d6_31) rfl ?_
      refine XS.bipush X105.here hx rfl (hb hby d6_32) ?_
      exact k)
    by_cases hc109 : (57 : Int32) < (nar .char (nar .char (own_ut y0 y1)))
    · have pre111 : own_P p e below s₁ (entryFrame m #[(.ref a1)] 3) T105 (mkF m 38 #[rv a1, iv 0, iv (nar .char (nar .char (own_ut y0 y1)))] [(.int 0)]) := fun t k => pre110 t (by
        refine XS.icmpNo X105.here hx rfl (hb hby d6_34) rfl (tlt hc109).2.2.2 ?_
        refine XS.iconst X105.here hx rfl (hb hby d6_37) ?_
        exact k)
      obtain ⟨fs, hr, hrun, hended, hW, hsame⟩ := X105.leave (v := some (.int 0)) (fun h => by rw [Bd.returns] at h; cases h)
      refine ⟨_, _, pre111 _ ?_, hrun, hended, _, _, rfl, ?_, ⟨_, rfl⟩, hW, hsame.mono (by decide) (by decide)⟩
      · exact retN X105 hx (t := .boolean) Bd.returns (by simp) (hb hby d6_38) hr
      · show QIU_1 Z a1 cs vF tv kt y0 y1 h0 n0 _ T105.heap _
        rw [e105]
        exact ⟨(by rw [own_all1, if_neg (by rintro ⟨_, _⟩ <;> contradiction)]), N105, rfl⟩
    · obtain ⟨cq112, kq112, q112a, q112b, q112c⟩ := isOf hZ e105 E1
      obtain ⟨_, _, ⟨T112, L112, k112, n112⟩, -, X112, ⟨Lc112, hQ112, l112, y112, z112⟩, st112⟩ := X105.virtualBack hx (y := own_y9) (z := own_y9) hown (own_m hZ hw 53) (own_m hZ hw 54) (notFace_of_selects (args := #[]) (own_m hZ hw 56)) (own_m hZ hw 56) (own_m hZ hw 55) (by decide) (backOf (W := 1) (rmLen2 l Z a0 hw [] a1 cs tv kt (2 : Int32) ([(.int y0), (.int y1)]) h0 n0 Z0 SC hcs E1 C1 W1 V1) hZ (own_i hw 57 rfl) (own_i hw 10 rfl) (by decide) (by decide)) q112a q112c (g := (mkF m 13 #[rv a1, iv 1, iv (nar .char (nar .char (own_ut y0 y1)))] [(.ref a1), (.int 1)])) rfl (by rw [hml]; rfl) (Steps.refl _) (argsL := []) (rest := [(.int 1)]) (lenOf pd_15 rfl) rfl (Nat.le_of_eq rfl) (hb hby d6_13) (fun _ _ => ⟨rfl, e105, own_le rfl, own_le rfl⟩)
      dsimp only [Pt.U, Pt.locs, Pt.cells, Pt.slots] at X112 l112 y112 z112 st112 hQ112
      subst l112 y112 z112
      obtain ⟨rfl, N112q, e112⟩ := hQ112
      have N112 := Fr.app N105 N112q
      have pre113 : own_P p e below s₁ (entryFrame m #[(.ref a1)] 3) T112 (mkF m 16 #[rv a1, iv 1, iv (nar .char (nar .char (own_ut y0 y1)))] [(.int ((2 : Int32) >>> ((1 : Int32) &&& 31))), (.int 1)]) := fun t k => pre110 t (by
        refine XS.icmpYes X105.here hx rfl (pc0 := 34) (pc' := 39) rfl (hb hby d6_34) rfl (flt hc109).2.2.2 (by decide) (by decide) ?_
        refine XS.iinc X105.here hx rfl (hb hby d6_39) rfl (l' := #[rv a1, iv 1, iv (nar .char (nar .char (own_ut y0 y1)))]) rfl ?_
        refine XS.goto X105.here hx rfl (pc0 := 42) (pc' := 11) rfl (hb hby d6_42) (by decide) (by decide) ?_
        refine XS.iloadN X105.here hx rfl (hb hby d6_11) rfl ?_
        refine XS.aloadN X105.here hx rfl (hb hby d6_12) rfl rfl ?_
        refine st112.trans ?_
        exact k)
      have pre114 : own_P p e below s₁ (entryFrame m #[(.ref a1)] 3) T112 (mkF m 16 #[rv a1, iv 1, iv (nar .char (nar .char (own_ut y0 y1)))] [(.int 1), (.int 1)]) := fun t k => pre113 t (by rw [show ((2 : Int32) >>> ((1 : Int32) &&& 31)) = (1 : Int32) from (by decide)]; exact k)
      have pre115 : own_P p e below s₁ (entryFrame m #[(.ref a1)] 3) T112 (mkF m 46 #[rv a1, iv 1, iv (nar .char (nar .char (own_ut y0 y1)))] [(.int 1)]) := fun t k => pre114 t (by
        show Steps p.tables e below (T112.setTop (mkF m 16 #[rv a1, iv 1, iv (nar .char (nar .char (own_ut y0 y1)))] [(.int 1), (.int 1)])) t
        refine XS.icmpYes X112.here hx rfl (pc0 := 16) (pc' := 45) rfl (hb hby d6_16) rfl (flt (by decide : ¬ ((1 : Int32) < (1 : Int32)))).2.1 (by decide) (by decide) ?_
        refine XS.iconst X112.here hx rfl (hb hby d6_45) ?_
        exact k)
      obtain ⟨fs, hr, hrun, hended, hW, hsame⟩ := X112.leave (v := some (.int 1)) (fun h => by rw [Bd.returns] at h; cases h)
      refine ⟨_, _, pre115 _ ?_, hrun, hended, _, _, rfl, ?_, ⟨_, rfl⟩, hW, hsame.mono (by decide) (by decide)⟩
      · exact retN X112 hx (t := .boolean) Bd.returns (by simp) (hb hby d6_46) hr
      · show QIU_1 Z a1 cs vF tv kt y0 y1 h0 n0 _ T112.heap _
        rw [e112]
        exact ⟨(by rw [own_all1, if_pos ⟨by assumption, by assumption⟩]), N112, rfl⟩
def QM_2 (Z : State) (p2 p3 p4 p5 cs : Int32) (h0 : Heap) (n0 : Nat) (v : Option Value) (h : Heap) (L : List Loc) : Prop := ∃ (b t : Addr) (kt : ClassId), v = some (.ref b) ∧ Fr n0 L ∧ Keep h0 h [] ∧ (n0 ≤ b) ∧ (h0.size ≤ b) ∧ (Exa Z h b "java/lang/String") ∧ (Fld Z h b "java/lang/String" "coder" "B" (.int 0)) ∧ (Fld Z h b "java/lang/String" "value" "[B" (.ref t)) ∧ (n0 ≤ t) ∧ (h0.size ≤ t) ∧ (Arv Z h t kt .byte (2 : Int32) [(.int (nar .byte ((nar .char p2).toInt8.toInt32))), (.int (nar .byte ((nar .char p3).toInt8.toInt32)))] (.int 0))
theorem rmM_2 (l : Launch) (Z : State) (a0 : Array Value) (hw : own_H Z a0) (ws : List Jvm.Cond) (p2 p3 p4 p5 cs : Int32) (h0 : Heap) (n0 : Nat) (Z0 : n0 ≤ h0.size) (SC : Sta Z Z.heap "java/lang/String" "COMPACT_STRINGS" "Z" (.int cs)) (hcs : ¬ (cs = (0 : Int32))) (O0 : Old Z n0 h0) (hx0 : ¬ ((255 : Int32) < (nar .char p2))) (hx1 : ¬ ((255 : Int32) < (nar .char p3))) :
    own_M l own_y23 method_4_code 5 (some (.object "java/lang/String")) ws (own_R 4 3 8 66) Z h0 #[(.int 2), (.int p2), (.int p3), (.int p4), (.int p5)] (QM_2 Z p2 p3 p4 p5 cs h0 n0) := by
  refine own_body (plainFor_of_name pn_com_example_millipede_millipede_DecimalNumbersIsNumberPinLaw) fun p e s m below meth c s₁ Bd hx hby hml (hown : s.vm.findClass "com/example/millipede/millipede/DecimalNumbersIsNumberPinLaw" = some m.cls) hnm X0 e0 hZ => ?_
  have N0 := Fr.nil n0
  have pre0 : own_P p e below s₁ (entryFrame m #[(.int 2), (.int p2), (.int p3), (.int p4), (.int p5)] 5) s₁ (mkF m 0 #[iv 2, iv p2, iv p3, iv p4, iv p5] []) := fun t k => castTop (by first | rfl | (simp [entryFrame, mkF, argsToLocals, Value.category]; done)) k
  have f101 := Keep.refl h0 []
  obtain ⟨T102, h102, X102, e102, E102, A102, D102, -, st102⟩ := newO X0 hx hZ hown (own_i hw 8 rfl) (own_i hw 9 rfl) (own_i hw 10 rfl) e0 (g := (mkF m 40 #[iv 2, iv p2, iv p3, iv p4, iv p5] [])) rfl (hb hby d2_40) (by decide) (by decide)
  obtain ⟨b102, g102⟩ : ∃ z, z = h0.size := ⟨_, rfl⟩
  rw [← g102] at A102 D102 st102
  have ga103 : n0 ≤ b102 := Nat.le_trans Z0 (Nat.le_of_eq g102.symm)
  have sz104 : h0.size ≤ b102 := Nat.le_trans f101.1 (Nat.le_of_eq g102.symm)
  have f105 : Fld Z h102 b102 "java/lang/String" "value" "[B" .null := D102 (Or.inr (own_i hw 24 rfl)) (ty := (.array .byte)) (by decide)
  have f106 : Fld Z h102 b102 "java/lang/String" "coder" "B" (.int 0) := D102 (Or.inr (own_i hw 25 rfl)) (ty := .byte) (by decide)
  have f107 := Nat.le_trans Z0 E102.1
  have f108 := O0.ext E102
  have f109 := f101.ext E102
  obtain ⟨T110, h110, k110, X110, e110, E110, A110, st110⟩ := newP X102 hx hZ (own_i hw 11 rfl) e102 (g := (mkF m 45 #[iv 2, iv p2, iv p3, iv p4, iv p5] [(.int 2), (.ref b102), (.ref b102)])) rfl (hb hby d2_45) rfl (by decide) (cap := 2) (by decide) (by decide) (by decide) (by decide)
  obtain ⟨b110, g110⟩ : ∃ z, z = h102.size := ⟨_, rfl⟩
  rw [← g110] at A110 st110
  have ne111 : b102 ≠ b110 := Nat.ne_of_lt (Nat.lt_of_lt_of_le A102.lt (Nat.le_of_eq g110.symm))
  have ga112 : n0 ≤ b110 := Nat.le_trans f107 (Nat.le_of_eq g110.symm)
  have sz113 : h0.size ≤ b110 := Nat.le_trans f109.1 (Nat.le_of_eq g110.symm)
  have V110 : Arv Z h110 b110 k110 .char (2 : Int32) [(.int 0), (.int 0)] (.int 0) := (Arv.new A110 (by decide)).pad (pad_rep [] (.int 0) 2)
  have f114 := Nat.le_trans f107 E110.1
  have f115 := f108.ext E110
  have f116 := f109.ext E110
  have f117 := A102.ext E110
  have f118 := f105.ext E110
  have f119 := f106.ext E110
  obtain ⟨cl120, Ar120, q120, S120, N120z, H120, G120⟩ := (id V110)
  have hin120 : ¬ ((0 : Int32) < 0 ∨ cl120.slots.size ≤ ((0 : Int32)).toNatClampNeg) := inb_of S120 ⟨by decide, by decide⟩
  obtain ⟨T120, h120, X120, e120, W120, st120⟩ := stC X110 hx hZ e110 Ar120 (j := (0 : Int32)) hin120 (g := (mkF m 50 #[iv 2, iv p2, iv p3, iv p4, iv p5] [(.int p2), (.int 0), (.ref b110), (.ref b110), (.ref b102), (.ref b102)])) rfl rfl (hb hby d2_50)
  have V120 : Arv Z h120 b110 k110 .char (2 : Int32) [(.int (nar .char p2)), (.int 0)] (.int 0) := Arv.set Ar120 q120 S120 N120z H120 G120 (fits_nar_char _) W120 0 rfl (Nat.le_of_ble_eq_true rfl)
  have N120 := Fr.snoc X120 N0 ga112
  have f121 := Nat.le_trans f114 (Keep.of_wr W120).1
  have f122 := f115.wr W120 ga112
  have f123 := f116.wr W120 (Or.inr sz113)
  have f124 := f117.wr W120
  have f125 := f118.other W120 (Or.inl ne111)
  have f126 := f119.other W120 (Or.inl ne111)
  obtain ⟨cl127, Ar127, q127, S127, N127z, H127, G127⟩ := (id V120)
  have hin127 : ¬ ((1 : Int32) < 0 ∨ cl127.slots.size ≤ ((1 : Int32)).toNatClampNeg) := inb_of S127 ⟨by decide, by decide⟩
  obtain ⟨T127, h127, X127, e127, W127, st127⟩ := stC X120 hx hZ e120 Ar127 (j := (1 : Int32)) hin127 (g := (mkF m 54 #[iv 2, iv p2, iv p3, iv p4, iv p5] [(.int p3), (.int 1), (.ref b110), (.ref b110), (.ref b102), (.ref b102)])) rfl rfl (hb hby d2_54)
  have V127 : Arv Z h127 b110 k110 .char (2 : Int32) [(.int (nar .char p2)), (.int (nar .char p3))] (.int 0) := Arv.set Ar127 q127 S127 N127z H127 G127 (fits_nar_char _) W127 1 rfl (Nat.le_of_ble_eq_true rfl)
  have N127 := Fr.snoc X127 N120 ga112
  have f128 := Nat.le_trans f121 (Keep.of_wr W127).1
  have f129 := f122.wr W127 ga112
  have f130 := f123.wr W127 (Or.inr sz113)
  have f131 := f124.wr W127
  have f132 := f125.other W127 (Or.inl ne111)
  have f133 := f126.other W127 (Or.inl ne111)
  obtain ⟨_, _, ⟨T134, L134, k134, n134⟩, -, X134, ⟨Lc134, hQ134, l134, y134, z134⟩, st134⟩ := X127.specialBack hx (y := own_y4) rfl hown (own_m hZ hw 12) (own_m hZ hw 13) (own_m hZ hw 14) (by decide) (backOf (W := 1) (rmG_2 l Z a0 hw [] b102 b110 k110 cs (nar .char p2) (nar .char p3) h127 n0 f128 f132 f133 f131 ga103 V127 (SC.ext f129.2) hcs ne111 hx0 hx1) hZ (own_i hw 14 rfl) (own_i hw 10 rfl) (by decide) (by decide)) (g := (mkF m 55 #[iv 2, iv p2, iv p3, iv p4, iv p5] [(.ref b110), (.ref b102), (.ref b102)])) rfl (by rw [hml]; rfl) (Steps.refl _) (a := b102) (argsL := [(.ref b110)]) (rest := [(.ref b102)]) (lenOf pd_14 rfl) rfl (Nat.le_of_eq rfl) (hb hby d2_55) (fun _ _ => ⟨rfl, e127, own_le rfl, own_le rfl⟩)
  dsimp only [Pt.U, Pt.locs, Pt.cells, Pt.slots] at X134 l134 y134 z134 st134 hQ134
  subst l134 y134 z134
  obtain ⟨b135, x136, rfl, N134q, K134, f137, f138, f139, f140, f141, f142⟩ := hQ134
  have N134 := Fr.app N127 N134q
  have ne143 : b102 ≠ b135 := Nat.ne_of_lt (Nat.lt_of_lt_of_le f131.lt f141)
  have ne144 : b110 ≠ b135 := Nat.ne_of_lt (Nat.lt_of_lt_of_le V127.lt f141)
  have sz145 : h0.size ≤ b135 := Nat.le_trans f130.1 f141
  have f146 := Nat.le_trans f128 K134.1
  have f147 := f129.keep K134 (allS ga103 all0)
  have f148 := f130.trans K134 (allS (Or.inr sz104) all0)
  have f149 := V127.keep K134 (ninS (Ne.symm ne111) nin0)
  have pre150 : own_P p e below s₁ (entryFrame m #[(.int 2), (.int p2), (.int p3), (.int p4), (.int p5)] 5) T134 (mkF m 58 #[iv 2, iv p2, iv p3, iv p4, iv p5] [(.ref b102)]) := fun t k => pre0 t (by
    show Steps p.tables e below (s₁.setTop (mkF m 0 #[iv 2, iv p2, iv p3, iv p4, iv p5] [])) t
    refine XS.iloadN X0.here hx rfl (hb hby d2_0) rfl ?_
    refine XS.ifYes X0.here hx rfl (pc0 := 1) (pc' := 15) rfl (hb hby d2_1) rfl ((if0 _ _).trans (feq (by decide : ¬ ((2 : Int32) = (0 : Int32)))).2) (by decide) (by decide) ?_
    refine XS.iloadN X0.here hx rfl (hb hby d2_15) rfl ?_
    refine XS.iconst X0.here hx rfl (hb hby d2_16) ?_
    refine XS.icmpYes X0.here hx rfl (pc0 := 17) (pc' := 35) rfl (hb hby d2_17) rfl (feq (by decide : ¬ ((2 : Int32) = (1 : Int32)))).2 (by decide) (by decide) ?_
    refine XS.iloadN X0.here hx rfl (hb hby d2_35) rfl ?_
    refine XS.iconst X0.here hx rfl (hb hby d2_36) ?_
    refine XS.icmpNo X0.here hx rfl (hb hby d2_37) rfl (teq (by decide : (2 : Int32) = (2 : Int32))).2 ?_
    refine st102 _ ?_
    refine XS.dup X102.here hx rfl (hb hby d2_43) rfl rfl ?_
    refine XS.iconst X102.here hx rfl (hb hby d2_44) ?_
    refine st110 _ ?_
    refine XS.dup X110.here hx rfl (hb hby d2_47) rfl rfl ?_
    refine XS.iconst X110.here hx rfl (hb hby d2_48) ?_
    refine XS.iloadN X110.here hx rfl (hb hby d2_49) rfl ?_
    refine st120 _ ?_
    refine XS.dup X120.here hx rfl (hb hby d2_51) rfl rfl ?_
    refine XS.iconst X120.here hx rfl (hb hby d2_52) ?_
    refine XS.iloadN X120.here hx rfl (hb hby d2_53) rfl ?_
    refine st127 _ ?_
    refine st134.trans ?_
    exact k)
  obtain ⟨fs, hr, hrun, hended, hW, hsame⟩ := X134.leave (v := some (.ref b102)) (fun h => by rw [Bd.returns] at h; cases h)
  refine ⟨_, _, pre150 _ ?_, hrun, hended, _, _, rfl, ?_, ⟨_, rfl⟩, hW, hsame.mono (by decide) (by decide)⟩
  · exact retOut X134 hx Bd.returns rfl (Or.inr (Or.inr (Or.inr (Or.inr ⟨rfl, rfl, rfl⟩)))) (hb hby d2_58) hr
  · show QM_2 Z p2 p3 p4 p5 cs h0 n0 _ T134.heap _
    exact ⟨b102, b135, x136, rfl, N134, f148, ga103, sz104, f137, f138, f139, f140, sz145, f142⟩
def QMU_2 (Z : State) (p2 p3 p4 p5 cs : Int32) (h0 : Heap) (n0 : Nat) (v : Option Value) (h : Heap) (L : List Loc) : Prop := ∃ (b t : Addr) (kt : ClassId), v = some (.ref b) ∧ Fr n0 L ∧ Keep h0 h [] ∧ (n0 ≤ b) ∧ (h0.size ≤ b) ∧ (Exa Z h b "java/lang/String") ∧ (Fld Z h b "java/lang/String" "coder" "B" (.int 1)) ∧ (Fld Z h b "java/lang/String" "value" "[B" (.ref t)) ∧ (n0 ≤ t) ∧ (h0.size ≤ t) ∧ (Arv Z h t kt .byte (4 : Int32) [(.int (own_b0 (nar .char p2))), (.int (own_b1 (nar .char p2))), (.int (own_b0 (nar .char p3))), (.int (own_b1 (nar .char p3)))] (.int 0))
theorem rmMU_2 (l : Launch) (Z : State) (a0 : Array Value) (hw : own_H Z a0) (ws : List Jvm.Cond) (p2 p3 p4 p5 cs : Int32) (h0 : Heap) (n0 : Nat) (Z0 : n0 ≤ h0.size) (SC : Sta Z Z.heap "java/lang/String" "COMPACT_STRINGS" "Z" (.int cs)) (hcs : ¬ (cs = (0 : Int32))) (SA : Sta Z Z.heap "java/lang/StringUTF16" "$assertionsDisabled" "Z" (.int 1)) (SH : Sta Z Z.heap "java/lang/StringUTF16" "HI_BYTE_SHIFT" "I" (.int 0)) (SL : Sta Z Z.heap "java/lang/StringUTF16" "LO_BYTE_SHIFT" "I" (.int 8)) (O0 : Old Z n0 h0) (hU : ¬ ((¬ ((255 : Int32) < (nar .char p2))) ∧ (¬ ((255 : Int32) < (nar .char p3))))) :
    own_M l own_y23 method_4_code 5 (some (.object "java/lang/String")) ws (own_R 6 4 12 88) Z h0 #[(.int 2), (.int p2), (.int p3), (.int p4), (.int p5)] (QMU_2 Z p2 p3 p4 p5 cs h0 n0) := by
  refine own_body (plainFor_of_name pn_com_example_millipede_millipede_DecimalNumbersIsNumberPinLaw) fun p e s m below meth c s₁ Bd hx hby hml (hown : s.vm.findClass "com/example/millipede/millipede/DecimalNumbersIsNumberPinLaw" = some m.cls) hnm X0 e0 hZ => ?_
  have N0 := Fr.nil n0
  have pre0 : own_P p e below s₁ (entryFrame m #[(.int 2), (.int p2), (.int p3), (.int p4), (.int p5)] 5) s₁ (mkF m 0 #[iv 2, iv p2, iv p3, iv p4, iv p5] []) := fun t k => castTop (by first | rfl | (simp [entryFrame, mkF, argsToLocals, Value.category]; done)) k
  have f101 := Keep.refl h0 []
  obtain ⟨T102, h102, X102, e102, E102, A102, D102, -, st102⟩ := newO X0 hx hZ hown (own_i hw 8 rfl) (own_i hw 9 rfl) (own_i hw 10 rfl) e0 (g := (mkF m 40 #[iv 2, iv p2, iv p3, iv p4, iv p5] [])) rfl (hb hby d2_40) (by decide) (by decide)
  obtain ⟨b102, g102⟩ : ∃ z, z = h0.size := ⟨_, rfl⟩
  rw [← g102] at A102 D102 st102
  have ga103 : n0 ≤ b102 := Nat.le_trans Z0 (Nat.le_of_eq g102.symm)
  have sz104 : h0.size ≤ b102 := Nat.le_trans f101.1 (Nat.le_of_eq g102.symm)
  have f105 : Fld Z h102 b102 "java/lang/String" "value" "[B" .null := D102 (Or.inr (own_i hw 24 rfl)) (ty := (.array .byte)) (by decide)
  have f106 : Fld Z h102 b102 "java/lang/String" "coder" "B" (.int 0) := D102 (Or.inr (own_i hw 25 rfl)) (ty := .byte) (by decide)
  have f107 := Nat.le_trans Z0 E102.1
  have f108 := O0.ext E102
  have f109 := f101.ext E102
  obtain ⟨T110, h110, k110, X110, e110, E110, A110, st110⟩ := newP X102 hx hZ (own_i hw 11 rfl) e102 (g := (mkF m 45 #[iv 2, iv p2, iv p3, iv p4, iv p5] [(.int 2), (.ref b102), (.ref b102)])) rfl (hb hby d2_45) rfl (by decide) (cap := 2) (by decide) (by decide) (by decide) (by decide)
  obtain ⟨b110, g110⟩ : ∃ z, z = h102.size := ⟨_, rfl⟩
  rw [← g110] at A110 st110
  have ne111 : b102 ≠ b110 := Nat.ne_of_lt (Nat.lt_of_lt_of_le A102.lt (Nat.le_of_eq g110.symm))
  have ga112 : n0 ≤ b110 := Nat.le_trans f107 (Nat.le_of_eq g110.symm)
  have sz113 : h0.size ≤ b110 := Nat.le_trans f109.1 (Nat.le_of_eq g110.symm)
  have V110 : Arv Z h110 b110 k110 .char (2 : Int32) [(.int 0), (.int 0)] (.int 0) := (Arv.new A110 (by decide)).pad (pad_rep [] (.int 0) 2)
  have f114 := Nat.le_trans f107 E110.1
  have f115 := f108.ext E110
  have f116 := f109.ext E110
  have f117 := A102.ext E110
  have f118 := f105.ext E110
  have f119 := f106.ext E110
  obtain ⟨cl120, Ar120, q120, S120, N120z, H120, G120⟩ := (id V110)
  have hin120 : ¬ ((0 : Int32) < 0 ∨ cl120.slots.size ≤ ((0 : Int32)).toNatClampNeg) := inb_of S120 ⟨by decide, by decide⟩
  obtain ⟨T120, h120, X120, e120, W120, st120⟩ := stC X110 hx hZ e110 Ar120 (j := (0 : Int32)) hin120 (g := (mkF m 50 #[iv 2, iv p2, iv p3, iv p4, iv p5] [(.int p2), (.int 0), (.ref b110), (.ref b110), (.ref b102), (.ref b102)])) rfl rfl (hb hby d2_50)
  have V120 : Arv Z h120 b110 k110 .char (2 : Int32) [(.int (nar .char p2)), (.int 0)] (.int 0) := Arv.set Ar120 q120 S120 N120z H120 G120 (fits_nar_char _) W120 0 rfl (Nat.le_of_ble_eq_true rfl)
  have N120 := Fr.snoc X120 N0 ga112
  have f121 := Nat.le_trans f114 (Keep.of_wr W120).1
  have f122 := f115.wr W120 ga112
  have f123 := f116.wr W120 (Or.inr sz113)
  have f124 := f117.wr W120
  have f125 := f118.other W120 (Or.inl ne111)
  have f126 := f119.other W120 (Or.inl ne111)
  obtain ⟨cl127, Ar127, q127, S127, N127z, H127, G127⟩ := (id V120)
  have hin127 : ¬ ((1 : Int32) < 0 ∨ cl127.slots.size ≤ ((1 : Int32)).toNatClampNeg) := inb_of S127 ⟨by decide, by decide⟩
  obtain ⟨T127, h127, X127, e127, W127, st127⟩ := stC X120 hx hZ e120 Ar127 (j := (1 : Int32)) hin127 (g := (mkF m 54 #[iv 2, iv p2, iv p3, iv p4, iv p5] [(.int p3), (.int 1), (.ref b110), (.ref b110), (.ref b102), (.ref b102)])) rfl rfl (hb hby d2_54)
  have V127 : Arv Z h127 b110 k110 .char (2 : Int32) [(.int (nar .char p2)), (.int (nar .char p3))] (.int 0) := Arv.set Ar127 q127 S127 N127z H127 G127 (fits_nar_char _) W127 1 rfl (Nat.le_of_ble_eq_true rfl)
  have N127 := Fr.snoc X127 N120 ga112
  have f128 := Nat.le_trans f121 (Keep.of_wr W127).1
  have f129 := f122.wr W127 ga112
  have f130 := f123.wr W127 (Or.inr sz113)
  have f131 := f124.wr W127
  have f132 := f125.other W127 (Or.inl ne111)
  have f133 := f126.other W127 (Or.inl ne111)
  obtain ⟨_, _, ⟨T134, L134, k134, n134⟩, -, X134, ⟨Lc134, hQ134, l134, y134, z134⟩, st134⟩ := X127.specialBack hx (y := own_y4) rfl hown (own_m hZ hw 12) (own_m hZ hw 13) (own_m hZ hw 14) (by decide) (backOf (W := 1) (rmGU_2 l Z a0 hw [] b102 b110 k110 cs (nar .char p2) (nar .char p3) h127 n0 f128 f132 f133 f131 ga103 V127 ne111 SC hcs SA SH SL f129 (own_Cn _) (own_Cn _) hU) hZ (own_i hw 14 rfl) (own_i hw 10 rfl) (by decide) (by decide)) (g := (mkF m 55 #[iv 2, iv p2, iv p3, iv p4, iv p5] [(.ref b110), (.ref b102), (.ref b102)])) rfl (by rw [hml]; rfl) (Steps.refl _) (a := b102) (argsL := [(.ref b110)]) (rest := [(.ref b102)]) (lenOf pd_14 rfl) rfl (Nat.le_of_eq rfl) (hb hby d2_55) (fun _ _ => ⟨rfl, e127, own_le rfl, own_le rfl⟩)
  dsimp only [Pt.U, Pt.locs, Pt.cells, Pt.slots] at X134 l134 y134 z134 st134 hQ134
  subst l134 y134 z134
  obtain ⟨b135, x136, rfl, N134q, K134, f137, f138, f139, f140, f141, f142⟩ := hQ134
  have N134 := Fr.app N127 N134q
  have ne143 : b102 ≠ b135 := Nat.ne_of_lt (Nat.lt_of_lt_of_le f131.lt f141)
  have ne144 : b110 ≠ b135 := Nat.ne_of_lt (Nat.lt_of_lt_of_le V127.lt f141)
  have sz145 : h0.size ≤ b135 := Nat.le_trans f130.1 f141
  have f146 := Nat.le_trans f128 K134.1
  have f147 := f129.keep K134 (allS ga103 all0)
  have f148 := f130.trans K134 (allS (Or.inr sz104) all0)
  have f149 := V127.keep K134 (ninS (Ne.symm ne111) nin0)
  have pre150 : own_P p e below s₁ (entryFrame m #[(.int 2), (.int p2), (.int p3), (.int p4), (.int p5)] 5) T134 (mkF m 58 #[iv 2, iv p2, iv p3, iv p4, iv p5] [(.ref b102)]) := fun t k => pre0 t (by
    show Steps p.tables e below (s₁.setTop (mkF m 0 #[iv 2, iv p2, iv p3, iv p4, iv p5] [])) t
    refine XS.iloadN X0.here hx rfl (hb hby d2_0) rfl ?_
    refine XS.ifYes X0.here hx rfl (pc0 := 1) (pc' := 15) rfl (hb hby d2_1) rfl ((if0 _ _).trans (feq (by decide : ¬ ((2 : Int32) = (0 : Int32)))).2) (by decide) (by decide) ?_
    refine XS.iloadN X0.here hx rfl (hb hby d2_15) rfl ?_
    refine XS.iconst X0.here hx rfl (hb hby d2_16) ?_
    refine XS.icmpYes X0.here hx rfl (pc0 := 17) (pc' := 35) rfl (hb hby d2_17) rfl (feq (by decide : ¬ ((2 : Int32) = (1 : Int32)))).2 (by decide) (by decide) ?_
    refine XS.iloadN X0.here hx rfl (hb hby d2_35) rfl ?_
    refine XS.iconst X0.here hx rfl (hb hby d2_36) ?_
    refine XS.icmpNo X0.here hx rfl (hb hby d2_37) rfl (teq (by decide : (2 : Int32) = (2 : Int32))).2 ?_
    refine st102 _ ?_
    refine XS.dup X102.here hx rfl (hb hby d2_43) rfl rfl ?_
    refine XS.iconst X102.here hx rfl (hb hby d2_44) ?_
    refine st110 _ ?_
    refine XS.dup X110.here hx rfl (hb hby d2_47) rfl rfl ?_
    refine XS.iconst X110.here hx rfl (hb hby d2_48) ?_
    refine XS.iloadN X110.here hx rfl (hb hby d2_49) rfl ?_
    refine st120 _ ?_
    refine XS.dup X120.here hx rfl (hb hby d2_51) rfl rfl ?_
    refine XS.iconst X120.here hx rfl (hb hby d2_52) ?_
    refine XS.iloadN X120.here hx rfl (hb hby d2_53) rfl ?_
    refine st127 _ ?_
    refine st134.trans ?_
    exact k)
  obtain ⟨fs, hr, hrun, hended, hW, hsame⟩ := X134.leave (v := some (.ref b102)) (fun h => by rw [Bd.returns] at h; cases h)
  refine ⟨_, _, pre150 _ ?_, hrun, hended, _, _, rfl, ?_, ⟨_, rfl⟩, hW, hsame.mono (by decide) (by decide)⟩
  · exact retOut X134 hx Bd.returns rfl (Or.inr (Or.inr (Or.inr (Or.inr ⟨rfl, rfl, rfl⟩)))) (hb hby d2_58) hr
  · show QMU_2 Z p2 p3 p4 p5 cs h0 n0 _ T134.heap _
    exact ⟨b102, b135, x136, rfl, N134, f148, ga103, sz104, f137, f138, f139, f140, sz145, f142⟩
def QIs_2 (Z : State) (a1 : Addr) (cs : Int32) (vF : Value) (tv : Addr) (kt : ClassId) (y0 y1 : Int32) (h0 : Heap) (n0 : Nat) (v : Option Value) (h : Heap) (L : List Loc) : Prop := v = some (.int (own_all2 (own_cat y0) (own_cat y1))) ∧ Fr n0 L ∧ h = h0
theorem rmIs_2 (l : Launch) (Z : State) (a0 : Array Value) (hw : own_H Z a0) (ws : List Jvm.Cond) (a1 : Addr) (cs : Int32) (vF : Value) (tv : Addr) (kt : ClassId) (y0 y1 : Int32) (h0 : Heap) (n0 : Nat) (Z0 : n0 ≤ h0.size) (SC : Sta Z h0 "java/lang/String" "COMPACT_STRINGS" "Z" (.int cs)) (hcs : ¬ (cs = (0 : Int32))) (SF : Sta Z h0 "jdk/internal/util/Preconditions" "SIOOBE_FORMATTER" "Ljava/util/function/BiFunction;" vF) (hF : vF.isRef = true) (E1 : Exa Z h0 a1 "java/lang/String") (C1 : Fld Z h0 a1 "java/lang/String" "coder" "B" (.int 0)) (W1 : Fld Z h0 a1 "java/lang/String" "value" "[B" (.ref tv)) (V1 : Arv Z h0 tv kt .byte (2 : Int32) [(.int y0), (.int y1)] (.int 0)) :
    own_M l own_y24 prog_20_method_2_code 3 (some .boolean) ws (own_R 4 0 0 53) Z h0 #[(.ref a1)] (QIs_2 Z a1 cs vF tv kt y0 y1 h0 n0) := by
  refine own_body (plainFor_of_name pn_com_example_millipede_millipede_DecimalNumbers) fun p e s m below meth c s₁ Bd hx hby hml (hown : s.vm.findClass "com/example/millipede/millipede/DecimalNumbers" = some m.cls) hnm X0 e0 hZ => ?_
  have N0 := Fr.nil n0
  have pre0 : own_P p e below s₁ (entryFrame m #[(.ref a1)] 3) s₁ (mkF m 0 #[rv a1, .unset, .unset] []) := fun t k => castTop (by first | rfl | (simp [entryFrame, mkF, argsToLocals, Value.category]; done)) k
  obtain ⟨cq101, kq101, q101a, q101b, q101c⟩ := isOf hZ e0 E1
  obtain ⟨_, _, ⟨T101, L101, k101, n101⟩, -, X101, ⟨Lc101, hQ101, l101, y101, z101⟩, st101⟩ := X0.virtualBack hx (y := own_y18) (z := own_y18) hown (own_m hZ hw 34) (own_m hZ hw 35) (notFace_of_selects (args := #[]) (own_m hZ hw 37)) (own_m hZ hw 37) (own_m hZ hw 36) (by decide) (backOf (W := 0) (rmEm l Z a0 hw [] a1 tv kt (2 : Int32) ([(.int y0), (.int y1)]) h0 n0 Z0 W1 V1 (by decide)) hZ (own_i hw 38 rfl) (own_i hw 10 rfl) (by decide) (by decide)) q101a q101c (g := (mkF m 1 #[rv a1, .unset, .unset] [(.ref a1)])) rfl (by rw [hml]; rfl) (Steps.refl _) (argsL := []) (rest := []) (lenOf pd_7 rfl) rfl (Nat.le_of_eq rfl) (hb hby d6_1) (fun _ _ => ⟨rfl, e0, own_le rfl, own_le rfl⟩)
  dsimp only [Pt.U, Pt.locs, Pt.cells, Pt.slots] at X101 l101 y101 z101 st101 hQ101
  subst l101 y101 z101
  obtain ⟨rfl, N101q, e101⟩ := hQ101
  have N101 := Fr.app N0 N101q
  obtain ⟨cq102, kq102, q102a, q102b, q102c⟩ := isOf hZ e101 E1
  obtain ⟨_, _, ⟨T102, L102, k102, n102⟩, -, X102, ⟨Lc102, hQ102, l102, y102, z102⟩, st102⟩ := X101.virtualBack hx (y := own_y9) (z := own_y9) hown (own_m hZ hw 53) (own_m hZ hw 54) (notFace_of_selects (args := #[]) (own_m hZ hw 56)) (own_m hZ hw 56) (own_m hZ hw 55) (by decide) (backOf (W := 1) (rmLen l Z a0 hw [] a1 cs tv kt (2 : Int32) ([(.int y0), (.int y1)]) h0 n0 Z0 SC hcs E1 C1 W1 V1) hZ (own_i hw 57 rfl) (own_i hw 10 rfl) (by decide) (by decide)) q102a q102c (g := (mkF m 13 #[rv a1, iv 0, .unset] [(.ref a1), (.int 0)])) rfl (by rw [hml]; rfl) (Steps.refl _) (argsL := []) (rest := [(.int 0)]) (lenOf pd_15 rfl) rfl (Nat.le_of_eq rfl) (hb hby d6_13) (fun _ _ => ⟨rfl, e101, own_le rfl, own_le rfl⟩)
  dsimp only [Pt.U, Pt.locs, Pt.cells, Pt.slots] at X102 l102 y102 z102 st102 hQ102
  subst l102 y102 z102
  obtain ⟨rfl, N102q, e102⟩ := hQ102
  have N102 := Fr.app N101 N102q
  obtain ⟨cq103, kq103, q103a, q103b, q103c⟩ := isOf hZ e102 E1
  obtain ⟨_, _, ⟨T103, L103, k103, n103⟩, -, X103, ⟨Lc103, hQ103, l103, y103, z103⟩, st103⟩ := X102.virtualBack hx (y := own_y13) (z := own_y13) hown (own_m hZ hw 63) (own_m hZ hw 64) (notFace_of_selects (args := #[]) (own_m hZ hw 66)) (own_m hZ hw 66) (own_m hZ hw 65) (by decide) (backOf (W := 0) (rmCh l Z a0 hw [] a1 (0 : Int32) cs vF tv kt y0 (2 : Int32) ([(.int y0), (.int y1)]) h0 n0 Z0 SC hcs SF hF E1 C1 W1 V1 (by decide) (by decide) rfl) hZ (own_i hw 67 rfl) (own_i hw 10 rfl) (by decide) (by decide)) q103a q103c (g := (mkF m 21 #[rv a1, iv 0, .unset] [(.int 0), (.ref a1)])) rfl (by rw [hml]; rfl) (Steps.refl _) (argsL := [(.int 0)]) (rest := []) (lenOf pd_16 rfl) rfl (Nat.le_of_eq rfl) (hb hby d6_21) (fun _ _ => ⟨rfl, e102, own_le rfl, own_le rfl⟩)
  dsimp only [Pt.U, Pt.locs, Pt.cells, Pt.slots] at X103 l103 y103 z103 st103 hQ103
  subst l103 y103 z103
  obtain ⟨rfl, N103q, e103⟩ := hQ103
  have N103 := Fr.app N102 N103q
  have pre105 : own_P p e below s₁ (entryFrame m #[(.ref a1)] 3) T103 (mkF m 28 #[rv a1, iv 0, iv (own_cat y0)] [(.int 48), (.int (own_cat y0))]) := fun t k => pre0 t (by
    show Steps p.tables e below (s₁.setTop (mkF m 0 #[rv a1, .unset, .unset] [])) t
    refine XS.aloadN X0.here hx rfl (hb hby d6_0) rfl rfl ?_
    refine st101.trans ?_
    refine XS.ifYes X101.here hx rfl (pc0 := 4) (pc' := 9) rfl (hb hby d6_4) rfl ((if0 _ _).trans (teq (by decide : (0 : Int32) = (0 : Int32))).1) (by decide) (by decide) ?_
    refine XS.iconst X101.here hx rfl (hb hby d6_9) ?_
    refine XS.istoreN X101.here hx rfl (hb hby d6_10) rfl (l' := #[rv a1, iv 0, .unset]) rfl ?_
    refine XS.iloadN X101.here hx rfl (hb hby d6_11) rfl ?_
    refine XS.aloadN X101.here hx rfl (hb hby d6_12) rfl rfl ?_
    refine st102.trans ?_
    refine XS.icmpNo X102.here hx rfl (hb hby d6_16) rfl (tlt (by decide : (0 : Int32) < (2 : Int32))).2.1 ?_
    refine XS.aloadN X102.here hx rfl (hb hby d6_19) rfl rfl ?_
    refine XS.iloadN X102.here hx rfl (hb hby d6_20) rfl ?_
    refine st103.trans ?_
    refine XS.istoreN X103.here hx rfl (hb hby d6_24) rfl (l' := #[rv a1, iv 0, iv (own_cat y0)]) rfl ?_
    refine XS.iloadN X103.here hx rfl (hb hby d6_25) rfl ?_
    refine XS.bipush X103.here hx rfl (hb hby d6_26) ?_
    exact k)
  by_cases hc104 : (own_cat y0) < (48 : Int32)
  · have pre106 : own_P p e below s₁ (entryFrame m #[(.ref a1)] 3) T103 (mkF m 38 #[rv a1, iv 0, iv (own_cat y0)] [(.int 0)]) := fun t k => pre105 t (by
      refine XS.icmpYes X103.here hx rfl (pc0 := 28) (pc' := 37) rfl (hb hby d6_28) rfl (tlt hc104).1 (by decide) (by decide) ?_
      refine XS.iconst X103.here hx rfl (hb hby d6_37) ?_
      exact k)
    obtain ⟨fs, hr, hrun, hended, hW, hsame⟩ := X103.leave (v := some (.int 0)) (fun h => by rw [Bd.returns] at h; cases h)
    refine ⟨_, _, pre106 _ ?_, hrun, hended, _, _, rfl, ?_, ⟨_, rfl⟩, hW, hsame.mono (by decide) (by decide)⟩
    · exact retN X103 hx (t := .boolean) Bd.returns (by simp) (hb hby d6_38) hr
    · show QIs_2 Z a1 cs vF tv kt y0 y1 h0 n0 _ T103.heap _
      rw [e103]
      exact ⟨(by rw [own_all2, if_neg (by rintro ⟨⟨_, _⟩, ⟨_, _⟩⟩ <;> contradiction)]), N103, rfl⟩
  · have pre108 : own_P p e below s₁ (entryFrame m #[(.ref a1)] 3) T103 (mkF m 34 #[rv a1, iv 0, iv (own_cat y0)] [(.int 57), (.int (own_cat y0))]) := fun t k => pre105 t (by
      refine XS.icmpNo X103.here hx rfl (hb hby d6_28) rfl (flt hc104).1 ?_
      refine XS.iloadN X103.here hx rfl (hb hby d6_31) rfl ?_
      refine XS.bipush X103.here hx rfl (hb hby d6_32) ?_
      exact k)
    by_cases hc107 : (57 : Int32) < (own_cat y0)
    · have pre109 : own_P p e below s₁ (entryFrame m #[(.ref a1)] 3) T103 (mkF m 38 #[rv a1, iv 0, iv (own_cat y0)] [(.int 0)]) := fun t k => pre108 t (by
        refine XS.icmpNo X103.here hx rfl (hb hby d6_34) rfl (tlt hc107).2.2.2 ?_
        refine XS.iconst X103.here hx rfl (hb hby d6_37) ?_
        exact k)
      obtain ⟨fs, hr, hrun, hended, hW, hsame⟩ := X103.leave (v := some (.int 0)) (fun h => by rw [Bd.returns] at h; cases h)
      refine ⟨_, _, pre109 _ ?_, hrun, hended, _, _, rfl, ?_, ⟨_, rfl⟩, hW, hsame.mono (by decide) (by decide)⟩
      · exact retN X103 hx (t := .boolean) Bd.returns (by simp) (hb hby d6_38) hr
      · show QIs_2 Z a1 cs vF tv kt y0 y1 h0 n0 _ T103.heap _
        rw [e103]
        exact ⟨(by rw [own_all2, if_neg (by rintro ⟨⟨_, _⟩, ⟨_, _⟩⟩ <;> contradiction)]), N103, rfl⟩
    · obtain ⟨cq110, kq110, q110a, q110b, q110c⟩ := isOf hZ e103 E1
      obtain ⟨_, _, ⟨T110, L110, k110, n110⟩, -, X110, ⟨Lc110, hQ110, l110, y110, z110⟩, st110⟩ := X103.virtualBack hx (y := own_y9) (z := own_y9) hown (own_m hZ hw 53) (own_m hZ hw 54) (notFace_of_selects (args := #[]) (own_m hZ hw 56)) (own_m hZ hw 56) (own_m hZ hw 55) (by decide) (backOf (W := 1) (rmLen l Z a0 hw [] a1 cs tv kt (2 : Int32) ([(.int y0), (.int y1)]) h0 n0 Z0 SC hcs E1 C1 W1 V1) hZ (own_i hw 57 rfl) (own_i hw 10 rfl) (by decide) (by decide)) q110a q110c (g := (mkF m 13 #[rv a1, iv 1, iv (own_cat y0)] [(.ref a1), (.int 1)])) rfl (by rw [hml]; rfl) (Steps.refl _) (argsL := []) (rest := [(.int 1)]) (lenOf pd_15 rfl) rfl (Nat.le_of_eq rfl) (hb hby d6_13) (fun _ _ => ⟨rfl, e103, own_le rfl, own_le rfl⟩)
      dsimp only [Pt.U, Pt.locs, Pt.cells, Pt.slots] at X110 l110 y110 z110 st110 hQ110
      subst l110 y110 z110
      obtain ⟨rfl, N110q, e110⟩ := hQ110
      have N110 := Fr.app N103 N110q
      obtain ⟨cq111, kq111, q111a, q111b, q111c⟩ := isOf hZ e110 E1
      obtain ⟨_, _, ⟨T111, L111, k111, n111⟩, -, X111, ⟨Lc111, hQ111, l111, y111, z111⟩, st111⟩ := X110.virtualBack hx (y := own_y13) (z := own_y13) hown (own_m hZ hw 63) (own_m hZ hw 64) (notFace_of_selects (args := #[]) (own_m hZ hw 66)) (own_m hZ hw 66) (own_m hZ hw 65) (by decide) (backOf (W := 0) (rmCh l Z a0 hw [] a1 (1 : Int32) cs vF tv kt y1 (2 : Int32) ([(.int y0), (.int y1)]) h0 n0 Z0 SC hcs SF hF E1 C1 W1 V1 (by decide) (by decide) rfl) hZ (own_i hw 67 rfl) (own_i hw 10 rfl) (by decide) (by decide)) q111a q111c (g := (mkF m 21 #[rv a1, iv 1, iv (own_cat y0)] [(.int 1), (.ref a1)])) rfl (by rw [hml]; rfl) (Steps.refl _) (argsL := [(.int 1)]) (rest := []) (lenOf pd_16 rfl) rfl (Nat.le_of_eq rfl) (hb hby d6_21) (fun _ _ => ⟨rfl, e110, own_le rfl, own_le rfl⟩)
      dsimp only [Pt.U, Pt.locs, Pt.cells, Pt.slots] at X111 l111 y111 z111 st111 hQ111
      subst l111 y111 z111
      obtain ⟨rfl, N111q, e111⟩ := hQ111
      have N111 := Fr.app N110 N111q
      have pre113 : own_P p e below s₁ (entryFrame m #[(.ref a1)] 3) T111 (mkF m 28 #[rv a1, iv 1, iv (own_cat y1)] [(.int 48), (.int (own_cat y1))]) := fun t k => pre108 t (by
        refine XS.icmpYes X103.here hx rfl (pc0 := 34) (pc' := 39) rfl (hb hby d6_34) rfl (flt hc107).2.2.2 (by decide) (by decide) ?_
        refine XS.iinc X103.here hx rfl (hb hby d6_39) rfl (l' := #[rv a1, iv 1, iv (own_cat y0)]) rfl ?_
        refine XS.goto X103.here hx rfl (pc0 := 42) (pc' := 11) rfl (hb hby d6_42) (by decide) (by decide) ?_
        refine XS.iloadN X103.here hx rfl (hb hby d6_11) rfl ?_
        refine XS.aloadN X103.here hx rfl (hb hby d6_12) rfl rfl ?_
        refine st110.trans ?_
        refine XS.icmpNo X110.here hx rfl (hb hby d6_16) rfl (tlt (by decide : (1 : Int32) < (2 : Int32))).2.1 ?_
        refine XS.aloadN X110.here hx rfl (hb hby d6_19) rfl rfl ?_
        refine XS.iloadN X110.here hx rfl (hb hby d6_20) rfl ?_
        refine st111.trans ?_
        refine XS.istoreN X111.here hx rfl (hb hby d6_24) rfl (l' := #[rv a1, iv 1, iv (own_cat y1)]) rfl ?_
        refine XS.iloadN X111.here hx rfl (hb hby d6_25) rfl ?_
        refine XS.bipush X111.here hx rfl (hb hby d6_26) ?_
        exact k)
      by_cases hc112 : (own_cat y1) < (48 : Int32)
      · have pre114 : own_P p e below s₁ (entryFrame m #[(.ref a1)] 3) T111 (mkF m 38 #[rv a1, iv 1, iv (own_cat y1)] [(.int 0)]) := fun t k => pre113 t (by
          refine XS.icmpYes X111.here hx rfl (pc0 := 28) (pc' := 37) rfl (hb hby d6_28) rfl (tlt hc112).1 (by decide) (by decide) ?_
          refine XS.iconst X111.here hx rfl (hb hby d6_37) ?_
          exact k)
        obtain ⟨fs, hr, hrun, hended, hW, hsame⟩ := X111.leave (v := some (.int 0)) (fun h => by rw [Bd.returns] at h; cases h)
        refine ⟨_, _, pre114 _ ?_, hrun, hended, _, _, rfl, ?_, ⟨_, rfl⟩, hW, hsame.mono (by decide) (by decide)⟩
        · exact retN X111 hx (t := .boolean) Bd.returns (by simp) (hb hby d6_38) hr
        · show QIs_2 Z a1 cs vF tv kt y0 y1 h0 n0 _ T111.heap _
          rw [e111]
          exact ⟨(by rw [own_all2, if_neg (by rintro ⟨⟨_, _⟩, ⟨_, _⟩⟩ <;> contradiction)]), N111, rfl⟩
      · have pre116 : own_P p e below s₁ (entryFrame m #[(.ref a1)] 3) T111 (mkF m 34 #[rv a1, iv 1, iv (own_cat y1)] [(.int 57), (.int (own_cat y1))]) := fun t k => pre113 t (by
          refine XS.icmpNo X111.here hx rfl (hb hby d6_28) rfl (flt hc112).1 ?_
          refine XS.iloadN X111.here hx rfl (hb hby d6_31) rfl ?_
          refine XS.bipush X111.here hx rfl (hb hby d6_32) ?_
          exact k)
        by_cases hc115 : (57 : Int32) < (own_cat y1)
        · have pre117 : own_P p e below s₁ (entryFrame m #[(.ref a1)] 3) T111 (mkF m 38 #[rv a1, iv 1, iv (own_cat y1)] [(.int 0)]) := fun t k => pre116 t (by
            refine XS.icmpNo X111.here hx rfl (hb hby d6_34) rfl (tlt hc115).2.2.2 ?_
            refine XS.iconst X111.here hx rfl (hb hby d6_37) ?_
            exact k)
          obtain ⟨fs, hr, hrun, hended, hW, hsame⟩ := X111.leave (v := some (.int 0)) (fun h => by rw [Bd.returns] at h; cases h)
          refine ⟨_, _, pre117 _ ?_, hrun, hended, _, _, rfl, ?_, ⟨_, rfl⟩, hW, hsame.mono (by decide) (by decide)⟩
          · exact retN X111 hx (t := .boolean) Bd.returns (by simp) (hb hby d6_38) hr
          · show QIs_2 Z a1 cs vF tv kt y0 y1 h0 n0 _ T111.heap _
            rw [e111]
            exact ⟨(by rw [own_all2, if_neg (by rintro ⟨⟨_, _⟩, ⟨_, _⟩⟩ <;> contradiction)]), N111, rfl⟩
        · obtain ⟨cq118, kq118, q118a, q118b, q118c⟩ := isOf hZ e111 E1
          obtain ⟨_, _, ⟨T118, L118, k118, n118⟩, -, X118, ⟨Lc118, hQ118, l118, y118, z118⟩, st118⟩ := X111.virtualBack hx (y := own_y9) (z := own_y9) hown (own_m hZ hw 53) (own_m hZ hw 54) (notFace_of_selects (args := #[]) (own_m hZ hw 56)) (own_m hZ hw 56) (own_m hZ hw 55) (by decide) (backOf (W := 1) (rmLen l Z a0 hw [] a1 cs tv kt (2 : Int32) ([(.int y0), (.int y1)]) h0 n0 Z0 SC hcs E1 C1 W1 V1) hZ (own_i hw 57 rfl) (own_i hw 10 rfl) (by decide) (by decide)) q118a q118c (g := (mkF m 13 #[rv a1, iv 2, iv (own_cat y1)] [(.ref a1), (.int 2)])) rfl (by rw [hml]; rfl) (Steps.refl _) (argsL := []) (rest := [(.int 2)]) (lenOf pd_15 rfl) rfl (Nat.le_of_eq rfl) (hb hby d6_13) (fun _ _ => ⟨rfl, e111, own_le rfl, own_le rfl⟩)
          dsimp only [Pt.U, Pt.locs, Pt.cells, Pt.slots] at X118 l118 y118 z118 st118 hQ118
          subst l118 y118 z118
          obtain ⟨rfl, N118q, e118⟩ := hQ118
          have N118 := Fr.app N111 N118q
          have pre119 : own_P p e below s₁ (entryFrame m #[(.ref a1)] 3) T118 (mkF m 46 #[rv a1, iv 2, iv (own_cat y1)] [(.int 1)]) := fun t k => pre116 t (by
            refine XS.icmpYes X111.here hx rfl (pc0 := 34) (pc' := 39) rfl (hb hby d6_34) rfl (flt hc115).2.2.2 (by decide) (by decide) ?_
            refine XS.iinc X111.here hx rfl (hb hby d6_39) rfl (l' := #[rv a1, iv 2, iv (own_cat y1)]) rfl ?_
            refine XS.goto X111.here hx rfl (pc0 := 42) (pc' := 11) rfl (hb hby d6_42) (by decide) (by decide) ?_
            refine XS.iloadN X111.here hx rfl (hb hby d6_11) rfl ?_
            refine XS.aloadN X111.here hx rfl (hb hby d6_12) rfl rfl ?_
            refine st118.trans ?_
            refine XS.icmpYes X118.here hx rfl (pc0 := 16) (pc' := 45) rfl (hb hby d6_16) rfl (flt (by decide : ¬ ((2 : Int32) < (2 : Int32)))).2.1 (by decide) (by decide) ?_
            refine XS.iconst X118.here hx rfl (hb hby d6_45) ?_
            exact k)
          obtain ⟨fs, hr, hrun, hended, hW, hsame⟩ := X118.leave (v := some (.int 1)) (fun h => by rw [Bd.returns] at h; cases h)
          refine ⟨_, _, pre119 _ ?_, hrun, hended, _, _, rfl, ?_, ⟨_, rfl⟩, hW, hsame.mono (by decide) (by decide)⟩
          · exact retN X118 hx (t := .boolean) Bd.returns (by simp) (hb hby d6_46) hr
          · show QIs_2 Z a1 cs vF tv kt y0 y1 h0 n0 _ T118.heap _
            rw [e118]
            exact ⟨(by rw [own_all2, if_pos ⟨⟨by assumption, by assumption⟩, ⟨by assumption, by assumption⟩⟩]), N118, rfl⟩
def QIU_2 (Z : State) (a1 : Addr) (cs : Int32) (vF : Value) (tv : Addr) (kt : ClassId) (y0 y1 y2 y3 : Int32) (h0 : Heap) (n0 : Nat) (v : Option Value) (h : Heap) (L : List Loc) : Prop := v = some (.int (own_all2 (nar .char (nar .char (own_ut y0 y1))) (nar .char (nar .char (own_ut y2 y3))))) ∧ Fr n0 L ∧ h = h0
theorem rmIU_2 (l : Launch) (Z : State) (a0 : Array Value) (hw : own_H Z a0) (ws : List Jvm.Cond) (a1 : Addr) (cs : Int32) (vF : Value) (tv : Addr) (kt : ClassId) (y0 y1 y2 y3 : Int32) (h0 : Heap) (n0 : Nat) (Z0 : n0 ≤ h0.size) (SC : Sta Z h0 "java/lang/String" "COMPACT_STRINGS" "Z" (.int cs)) (hcs : ¬ (cs = (0 : Int32))) (SF : Sta Z h0 "jdk/internal/util/Preconditions" "SIOOBE_FORMATTER" "Ljava/util/function/BiFunction;" vF) (hF : vF.isRef = true) (SA : Sta Z h0 "java/lang/StringUTF16" "$assertionsDisabled" "Z" (.int 1)) (SH : Sta Z h0 "java/lang/StringUTF16" "HI_BYTE_SHIFT" "I" (.int 0)) (SL : Sta Z h0 "java/lang/StringUTF16" "LO_BYTE_SHIFT" "I" (.int 8)) (E1 : Exa Z h0 a1 "java/lang/String") (C1 : Fld Z h0 a1 "java/lang/String" "coder" "B" (.int 1)) (W1 : Fld Z h0 a1 "java/lang/String" "value" "[B" (.ref tv)) (V1 : Arv Z h0 tv kt .byte (4 : Int32) [(.int y0), (.int y1), (.int y2), (.int y3)] (.int 0)) :
    own_M l own_y24 prog_20_method_2_code 3 (some .boolean) ws (own_R 5 0 0 66) Z h0 #[(.ref a1)] (QIU_2 Z a1 cs vF tv kt y0 y1 y2 y3 h0 n0) := by
  refine own_body (plainFor_of_name pn_com_example_millipede_millipede_DecimalNumbers) fun p e s m below meth c s₁ Bd hx hby hml (hown : s.vm.findClass "com/example/millipede/millipede/DecimalNumbers" = some m.cls) hnm X0 e0 hZ => ?_
  have N0 := Fr.nil n0
  have pre0 : own_P p e below s₁ (entryFrame m #[(.ref a1)] 3) s₁ (mkF m 0 #[rv a1, .unset, .unset] []) := fun t k => castTop (by first | rfl | (simp [entryFrame, mkF, argsToLocals, Value.category]; done)) k
  obtain ⟨cq101, kq101, q101a, q101b, q101c⟩ := isOf hZ e0 E1
  obtain ⟨_, _, ⟨T101, L101, k101, n101⟩, -, X101, ⟨Lc101, hQ101, l101, y101, z101⟩, st101⟩ := X0.virtualBack hx (y := own_y18) (z := own_y18) hown (own_m hZ hw 34) (own_m hZ hw 35) (notFace_of_selects (args := #[]) (own_m hZ hw 37)) (own_m hZ hw 37) (own_m hZ hw 36) (by decide) (backOf (W := 0) (rmEm l Z a0 hw [] a1 tv kt (4 : Int32) ([(.int y0), (.int y1), (.int y2), (.int y3)]) h0 n0 Z0 W1 V1 (by decide)) hZ (own_i hw 38 rfl) (own_i hw 10 rfl) (by decide) (by decide)) q101a q101c (g := (mkF m 1 #[rv a1, .unset, .unset] [(.ref a1)])) rfl (by rw [hml]; rfl) (Steps.refl _) (argsL := []) (rest := []) (lenOf pd_7 rfl) rfl (Nat.le_of_eq rfl) (hb hby d6_1) (fun _ _ => ⟨rfl, e0, own_le rfl, own_le rfl⟩)
  dsimp only [Pt.U, Pt.locs, Pt.cells, Pt.slots] at X101 l101 y101 z101 st101 hQ101
  subst l101 y101 z101
  obtain ⟨rfl, N101q, e101⟩ := hQ101
  have N101 := Fr.app N0 N101q
  obtain ⟨cq102, kq102, q102a, q102b, q102c⟩ := isOf hZ e101 E1
  obtain ⟨_, _, ⟨T102, L102, k102, n102⟩, -, X102, ⟨Lc102, hQ102, l102, y102, z102⟩, st102⟩ := X101.virtualBack hx (y := own_y9) (z := own_y9) hown (own_m hZ hw 53) (own_m hZ hw 54) (notFace_of_selects (args := #[]) (own_m hZ hw 56)) (own_m hZ hw 56) (own_m hZ hw 55) (by decide) (backOf (W := 1) (rmLen2 l Z a0 hw [] a1 cs tv kt (4 : Int32) ([(.int y0), (.int y1), (.int y2), (.int y3)]) h0 n0 Z0 SC hcs E1 C1 W1 V1) hZ (own_i hw 57 rfl) (own_i hw 10 rfl) (by decide) (by decide)) q102a q102c (g := (mkF m 13 #[rv a1, iv 0, .unset] [(.ref a1), (.int 0)])) rfl (by rw [hml]; rfl) (Steps.refl _) (argsL := []) (rest := [(.int 0)]) (lenOf pd_15 rfl) rfl (Nat.le_of_eq rfl) (hb hby d6_13) (fun _ _ => ⟨rfl, e101, own_le rfl, own_le rfl⟩)
  dsimp only [Pt.U, Pt.locs, Pt.cells, Pt.slots] at X102 l102 y102 z102 st102 hQ102
  subst l102 y102 z102
  obtain ⟨rfl, N102q, e102⟩ := hQ102
  have N102 := Fr.app N101 N102q
  have pre103 : own_P p e below s₁ (entryFrame m #[(.ref a1)] 3) T102 (mkF m 16 #[rv a1, iv 0, .unset] [(.int ((4 : Int32) >>> ((1 : Int32) &&& 31))), (.int 0)]) := fun t k => pre0 t (by
    show Steps p.tables e below (s₁.setTop (mkF m 0 #[rv a1, .unset, .unset] [])) t
    refine XS.aloadN X0.here hx rfl (hb hby d6_0) rfl rfl ?_
    refine st101.trans ?_
    refine XS.ifYes X101.here hx rfl (pc0 := 4) (pc' := 9) rfl (hb hby d6_4) rfl ((if0 _ _).trans (teq (by decide : (0 : Int32) = (0 : Int32))).1) (by decide) (by decide) ?_
    refine XS.iconst X101.here hx rfl (hb hby d6_9) ?_
    refine XS.istoreN X101.here hx rfl (hb hby d6_10) rfl (l' := #[rv a1, iv 0, .unset]) rfl ?_
    refine XS.iloadN X101.here hx rfl (hb hby d6_11) rfl ?_
    refine XS.aloadN X101.here hx rfl (hb hby d6_12) rfl rfl ?_
    refine st102.trans ?_
    exact k)
  have pre104 : own_P p e below s₁ (entryFrame m #[(.ref a1)] 3) T102 (mkF m 16 #[rv a1, iv 0, .unset] [(.int 2), (.int 0)]) := fun t k => pre103 t (by rw [show ((4 : Int32) >>> ((1 : Int32) &&& 31)) = (2 : Int32) from (by decide)]; exact k)
  obtain ⟨cq105, kq105, q105a, q105b, q105c⟩ := isOf hZ e102 E1
  obtain ⟨_, _, ⟨T105, L105, k105, n105⟩, -, X105, ⟨Lc105, hQ105, l105, y105, z105⟩, st105⟩ := X102.virtualBack hx (y := own_y13) (z := own_y13) hown (own_m hZ hw 63) (own_m hZ hw 64) (notFace_of_selects (args := #[]) (own_m hZ hw 66)) (own_m hZ hw 66) (own_m hZ hw 65) (by decide) (backOf (W := 0) (rmCh2 l Z a0 hw [] a1 (0 : Int32) cs vF tv kt y0 y1 (4 : Int32) ([(.int y0), (.int y1), (.int y2), (.int y3)]) h0 n0 Z0 SC hcs SF hF SA SH SL E1 C1 W1 V1 (by decide) (by decide) (by decide) (by decide) (by decide) (by decide) rfl rfl) hZ (own_i hw 67 rfl) (own_i hw 10 rfl) (by decide) (by decide)) q105a q105c (g := (mkF m 21 #[rv a1, iv 0, .unset] [(.int 0), (.ref a1)])) rfl (by rw [hml]; rfl) (Steps.refl _) (argsL := [(.int 0)]) (rest := []) (lenOf pd_16 rfl) rfl (Nat.le_of_eq rfl) (hb hby d6_21) (fun _ _ => ⟨rfl, e102, own_le rfl, own_le rfl⟩)
  dsimp only [Pt.U, Pt.locs, Pt.cells, Pt.slots] at X105 l105 y105 z105 st105 hQ105
  subst l105 y105 z105
  obtain ⟨rfl, N105q, e105⟩ := hQ105
  have N105 := Fr.app N102 N105q
  have pre107 : own_P p e below s₁ (entryFrame m #[(.ref a1)] 3) T105 (mkF m 28 #[rv a1, iv 0, iv (nar .char (nar .char (own_ut y0 y1)))] [(.int 48), (.int (nar .char (nar .char (own_ut y0 y1))))]) := fun t k => pre104 t (by
    show Steps p.tables e below (T102.setTop (mkF m 16 #[rv a1, iv 0, .unset] [(.int 2), (.int 0)])) t
    refine XS.icmpNo X102.here hx rfl (hb hby d6_16) rfl (tlt (by decide : (0 : Int32) < (2 : Int32))).2.1 ?_
    refine XS.aloadN X102.here hx rfl (hb hby d6_19) rfl rfl ?_
    refine XS.iloadN X102.here hx rfl (hb hby d6_20) rfl ?_
    refine st105.trans ?_
    refine XS.istoreN X105.here hx rfl (hb hby d6_24) rfl (l' := #[rv a1, iv 0, iv (nar .char (nar .char (own_ut y0 y1)))]) rfl ?_
    refine XS.iloadN X105.here hx rfl (hb hby d6_25) rfl ?_
    refine XS.bipush X105.here hx rfl (hb hby d6_26) ?_
    exact k)
  by_cases hc106 : (nar .char (nar .char (own_ut y0 y1))) < (48 : Int32)
  · have pre108 : own_P p e below s₁ (entryFrame m #[(.ref a1)] 3) T105 (mkF m 38 #[rv a1, iv 0, iv (nar .char (nar .char (own_ut y0 y1)))] [(.int 0)]) := fun t k => pre107 t (by
      refine XS.icmpYes X105.here hx rfl (pc0 := 28) (pc' := 37) rfl (hb hby d6_28) rfl (tlt hc106).1 (by decide) (by decide) ?_
      refine XS.iconst X105.here hx rfl (hb hby d6_37) ?_
      exact k)
    obtain ⟨fs, hr, hrun, hended, hW, hsame⟩ := X105.leave (v := some (.int 0)) (fun h => by rw [Bd.returns] at h; cases h)
    refine ⟨_, _, pre108 _ ?_, hrun, hended, _, _, rfl, ?_, ⟨_, rfl⟩, hW, hsame.mono (by decide) (by decide)⟩
    · exact retN X105 hx (t := .boolean) Bd.returns (by simp) (hb hby d6_38) hr
    · show QIU_2 Z a1 cs vF tv kt y0 y1 y2 y3 h0 n0 _ T105.heap _
      rw [e105]
      exact ⟨(by rw [own_all2, if_neg (by rintro ⟨⟨_, _⟩, ⟨_, _⟩⟩ <;> contradiction)]), N105, rfl⟩
  · have pre110 : own_P p e below s₁ (entryFrame m #[(.ref a1)] 3) T105 (mkF m 34 #[rv a1, iv 0, iv (nar .char (nar .char (own_ut y0 y1)))] [(.int 57), (.int (nar .char (nar .char (own_ut y0 y1))))]) := fun t k => pre107 t (by
      refine XS.icmpNo X105.here hx rfl (hb hby d6_28) rfl (flt hc106).1 ?_
      refine XS.iloadN X105.here hx rfl (hb hby d6_31) rfl ?_
      refine XS.bipush X105.here hx rfl (hb hby d6_32) ?_
      exact k)
    by_cases hc109 : (57 : Int32) < (nar .char (nar .char (own_ut y0 y1)))
    · have pre111 : own_P p e below s₁ (entryFrame m #[(.ref a1)] 3) T105 (mkF m 38 #[rv a1, iv 0, iv (nar .char (nar .char (own_ut y0 y1)))] [(.int 0)]) := fun t k => pre110 t (by
        refine XS.icmpNo X105.here hx rfl (hb hby d6_34) rfl (tlt hc109).2.2.2 ?_
        refine XS.iconst X105.here hx rfl (hb hby d6_37) ?_
        exact k)
      obtain ⟨fs, hr, hrun, hended, hW, hsame⟩ := X105.leave (v := some (.int 0)) (fun h => by rw [Bd.returns] at h; cases h)
      refine ⟨_, _, pre111 _ ?_, hrun, hended, _, _, rfl, ?_, ⟨_, rfl⟩, hW, hsame.mono (by decide) (by decide)⟩
      · exact retN X105 hx (t := .boolean) Bd.returns (by simp) (hb hby d6_38) hr
      · show QIU_2 Z a1 cs vF tv kt y0 y1 y2 y3 h0 n0 _ T105.heap _
        rw [e105]
        exact ⟨(by rw [own_all2, if_neg (by rintro ⟨⟨_, _⟩, ⟨_, _⟩⟩ <;> contradiction)]), N105, rfl⟩
    · obtain ⟨cq112, kq112, q112a, q112b, q112c⟩ := isOf hZ e105 E1
      obtain ⟨_, _, ⟨T112, L112, k112, n112⟩, -, X112, ⟨Lc112, hQ112, l112, y112, z112⟩, st112⟩ := X105.virtualBack hx (y := own_y9) (z := own_y9) hown (own_m hZ hw 53) (own_m hZ hw 54) (notFace_of_selects (args := #[]) (own_m hZ hw 56)) (own_m hZ hw 56) (own_m hZ hw 55) (by decide) (backOf (W := 1) (rmLen2 l Z a0 hw [] a1 cs tv kt (4 : Int32) ([(.int y0), (.int y1), (.int y2), (.int y3)]) h0 n0 Z0 SC hcs E1 C1 W1 V1) hZ (own_i hw 57 rfl) (own_i hw 10 rfl) (by decide) (by decide)) q112a q112c (g := (mkF m 13 #[rv a1, iv 1, iv (nar .char (nar .char (own_ut y0 y1)))] [(.ref a1), (.int 1)])) rfl (by rw [hml]; rfl) (Steps.refl _) (argsL := []) (rest := [(.int 1)]) (lenOf pd_15 rfl) rfl (Nat.le_of_eq rfl) (hb hby d6_13) (fun _ _ => ⟨rfl, e105, own_le rfl, own_le rfl⟩)
      dsimp only [Pt.U, Pt.locs, Pt.cells, Pt.slots] at X112 l112 y112 z112 st112 hQ112
      subst l112 y112 z112
      obtain ⟨rfl, N112q, e112⟩ := hQ112
      have N112 := Fr.app N105 N112q
      have pre113 : own_P p e below s₁ (entryFrame m #[(.ref a1)] 3) T112 (mkF m 16 #[rv a1, iv 1, iv (nar .char (nar .char (own_ut y0 y1)))] [(.int ((4 : Int32) >>> ((1 : Int32) &&& 31))), (.int 1)]) := fun t k => pre110 t (by
        refine XS.icmpYes X105.here hx rfl (pc0 := 34) (pc' := 39) rfl (hb hby d6_34) rfl (flt hc109).2.2.2 (by decide) (by decide) ?_
        refine XS.iinc X105.here hx rfl (hb hby d6_39) rfl (l' := #[rv a1, iv 1, iv (nar .char (nar .char (own_ut y0 y1)))]) rfl ?_
        refine XS.goto X105.here hx rfl (pc0 := 42) (pc' := 11) rfl (hb hby d6_42) (by decide) (by decide) ?_
        refine XS.iloadN X105.here hx rfl (hb hby d6_11) rfl ?_
        refine XS.aloadN X105.here hx rfl (hb hby d6_12) rfl rfl ?_
        refine st112.trans ?_
        exact k)
      have pre114 : own_P p e below s₁ (entryFrame m #[(.ref a1)] 3) T112 (mkF m 16 #[rv a1, iv 1, iv (nar .char (nar .char (own_ut y0 y1)))] [(.int 2), (.int 1)]) := fun t k => pre113 t (by rw [show ((4 : Int32) >>> ((1 : Int32) &&& 31)) = (2 : Int32) from (by decide)]; exact k)
      obtain ⟨cq115, kq115, q115a, q115b, q115c⟩ := isOf hZ e112 E1
      obtain ⟨_, _, ⟨T115, L115, k115, n115⟩, -, X115, ⟨Lc115, hQ115, l115, y115, z115⟩, st115⟩ := X112.virtualBack hx (y := own_y13) (z := own_y13) hown (own_m hZ hw 63) (own_m hZ hw 64) (notFace_of_selects (args := #[]) (own_m hZ hw 66)) (own_m hZ hw 66) (own_m hZ hw 65) (by decide) (backOf (W := 0) (rmCh2 l Z a0 hw [] a1 (1 : Int32) cs vF tv kt y2 y3 (4 : Int32) ([(.int y0), (.int y1), (.int y2), (.int y3)]) h0 n0 Z0 SC hcs SF hF SA SH SL E1 C1 W1 V1 (by decide) (by decide) (by decide) (by decide) (by decide) (by decide) rfl rfl) hZ (own_i hw 67 rfl) (own_i hw 10 rfl) (by decide) (by decide)) q115a q115c (g := (mkF m 21 #[rv a1, iv 1, iv (nar .char (nar .char (own_ut y0 y1)))] [(.int 1), (.ref a1)])) rfl (by rw [hml]; rfl) (Steps.refl _) (argsL := [(.int 1)]) (rest := []) (lenOf pd_16 rfl) rfl (Nat.le_of_eq rfl) (hb hby d6_21) (fun _ _ => ⟨rfl, e112, own_le rfl, own_le rfl⟩)
      dsimp only [Pt.U, Pt.locs, Pt.cells, Pt.slots] at X115 l115 y115 z115 st115 hQ115
      subst l115 y115 z115
      obtain ⟨rfl, N115q, e115⟩ := hQ115
      have N115 := Fr.app N112 N115q
      have pre117 : own_P p e below s₁ (entryFrame m #[(.ref a1)] 3) T115 (mkF m 28 #[rv a1, iv 1, iv (nar .char (nar .char (own_ut y2 y3)))] [(.int 48), (.int (nar .char (nar .char (own_ut y2 y3))))]) := fun t k => pre114 t (by
        show Steps p.tables e below (T112.setTop (mkF m 16 #[rv a1, iv 1, iv (nar .char (nar .char (own_ut y0 y1)))] [(.int 2), (.int 1)])) t
        refine XS.icmpNo X112.here hx rfl (hb hby d6_16) rfl (tlt (by decide : (1 : Int32) < (2 : Int32))).2.1 ?_
        refine XS.aloadN X112.here hx rfl (hb hby d6_19) rfl rfl ?_
        refine XS.iloadN X112.here hx rfl (hb hby d6_20) rfl ?_
        refine st115.trans ?_
        refine XS.istoreN X115.here hx rfl (hb hby d6_24) rfl (l' := #[rv a1, iv 1, iv (nar .char (nar .char (own_ut y2 y3)))]) rfl ?_
        refine XS.iloadN X115.here hx rfl (hb hby d6_25) rfl ?_
        refine XS.bipush X115.here hx rfl (hb hby d6_26) ?_
        exact k)
      by_cases hc116 : (nar .char (nar .char (own_ut y2 y3))) < (48 : Int32)
      · have pre118 : own_P p e below s₁ (entryFrame m #[(.ref a1)] 3) T115 (mkF m 38 #[rv a1, iv 1, iv (nar .char (nar .char (own_ut y2 y3)))] [(.int 0)]) := fun t k => pre117 t (by
          refine XS.icmpYes X115.here hx rfl (pc0 := 28) (pc' := 37) rfl (hb hby d6_28) rfl (tlt hc116).1 (by decide) (by decide) ?_
          refine XS.iconst X115.here hx rfl (hb hby d6_37) ?_
          exact k)
        obtain ⟨fs, hr, hrun, hended, hW, hsame⟩ := X115.leave (v := some (.int 0)) (fun h => by rw [Bd.returns] at h; cases h)
        refine ⟨_, _, pre118 _ ?_, hrun, hended, _, _, rfl, ?_, ⟨_, rfl⟩, hW, hsame.mono (by decide) (by decide)⟩
        · exact retN X115 hx (t := .boolean) Bd.returns (by simp) (hb hby d6_38) hr
        · show QIU_2 Z a1 cs vF tv kt y0 y1 y2 y3 h0 n0 _ T115.heap _
          rw [e115]
          exact ⟨(by rw [own_all2, if_neg (by rintro ⟨⟨_, _⟩, ⟨_, _⟩⟩ <;> contradiction)]), N115, rfl⟩
      · have pre120 : own_P p e below s₁ (entryFrame m #[(.ref a1)] 3) T115 (mkF m 34 #[rv a1, iv 1, iv (nar .char (nar .char (own_ut y2 y3)))] [(.int 57), (.int (nar .char (nar .char (own_ut y2 y3))))]) := fun t k => pre117 t (by
          refine XS.icmpNo X115.here hx rfl (hb hby d6_28) rfl (flt hc116).1 ?_
          refine XS.iloadN X115.here hx rfl (hb hby d6_31) rfl ?_
          refine XS.bipush X115.here hx rfl (hb hby d6_32) ?_
          exact k)
        by_cases hc119 : (57 : Int32) < (nar .char (nar .char (own_ut y2 y3)))
        · have pre121 : own_P p e below s₁ (entryFrame m #[(.ref a1)] 3) T115 (mkF m 38 #[rv a1, iv 1, iv (nar .char (nar .char (own_ut y2 y3)))] [(.int 0)]) := fun t k => pre120 t (by
            refine XS.icmpNo X115.here hx rfl (hb hby d6_34) rfl (tlt hc119).2.2.2 ?_
            refine XS.iconst X115.here hx rfl (hb hby d6_37) ?_
            exact k)
          obtain ⟨fs, hr, hrun, hended, hW, hsame⟩ := X115.leave (v := some (.int 0)) (fun h => by rw [Bd.returns] at h; cases h)
          refine ⟨_, _, pre121 _ ?_, hrun, hended, _, _, rfl, ?_, ⟨_, rfl⟩, hW, hsame.mono (by decide) (by decide)⟩
          · exact retN X115 hx (t := .boolean) Bd.returns (by simp) (hb hby d6_38) hr
          · show QIU_2 Z a1 cs vF tv kt y0 y1 y2 y3 h0 n0 _ T115.heap _
            rw [e115]
            exact ⟨(by rw [own_all2, if_neg (by rintro ⟨⟨_, _⟩, ⟨_, _⟩⟩ <;> contradiction)]), N115, rfl⟩
        · obtain ⟨cq122, kq122, q122a, q122b, q122c⟩ := isOf hZ e115 E1
          obtain ⟨_, _, ⟨T122, L122, k122, n122⟩, -, X122, ⟨Lc122, hQ122, l122, y122, z122⟩, st122⟩ := X115.virtualBack hx (y := own_y9) (z := own_y9) hown (own_m hZ hw 53) (own_m hZ hw 54) (notFace_of_selects (args := #[]) (own_m hZ hw 56)) (own_m hZ hw 56) (own_m hZ hw 55) (by decide) (backOf (W := 1) (rmLen2 l Z a0 hw [] a1 cs tv kt (4 : Int32) ([(.int y0), (.int y1), (.int y2), (.int y3)]) h0 n0 Z0 SC hcs E1 C1 W1 V1) hZ (own_i hw 57 rfl) (own_i hw 10 rfl) (by decide) (by decide)) q122a q122c (g := (mkF m 13 #[rv a1, iv 2, iv (nar .char (nar .char (own_ut y2 y3)))] [(.ref a1), (.int 2)])) rfl (by rw [hml]; rfl) (Steps.refl _) (argsL := []) (rest := [(.int 2)]) (lenOf pd_15 rfl) rfl (Nat.le_of_eq rfl) (hb hby d6_13) (fun _ _ => ⟨rfl, e115, own_le rfl, own_le rfl⟩)
          dsimp only [Pt.U, Pt.locs, Pt.cells, Pt.slots] at X122 l122 y122 z122 st122 hQ122
          subst l122 y122 z122
          obtain ⟨rfl, N122q, e122⟩ := hQ122
          have N122 := Fr.app N115 N122q
          have pre123 : own_P p e below s₁ (entryFrame m #[(.ref a1)] 3) T122 (mkF m 16 #[rv a1, iv 2, iv (nar .char (nar .char (own_ut y2 y3)))] [(.int ((4 : Int32) >>> ((1 : Int32) &&& 31))), (.int 2)]) := fun t k => pre120 t (by
            refine XS.icmpYes X115.here hx rfl (pc0 := 34) (pc' := 39) rfl (hb hby d6_34) rfl (flt hc119).2.2.2 (by decide) (by decide) ?_
            refine XS.iinc X115.here hx rfl (hb hby d6_39) rfl (l' := #[rv a1, iv 2, iv (nar .char (nar .char (own_ut y2 y3)))]) rfl ?_
            refine XS.goto X115.here hx rfl (pc0 := 42) (pc' := 11) rfl (hb hby d6_42) (by decide) (by decide) ?_
            refine XS.iloadN X115.here hx rfl (hb hby d6_11) rfl ?_
            refine XS.aloadN X115.here hx rfl (hb hby d6_12) rfl rfl ?_
            refine st122.trans ?_
            exact k)
          have pre124 : own_P p e below s₁ (entryFrame m #[(.ref a1)] 3) T122 (mkF m 16 #[rv a1, iv 2, iv (nar .char (nar .char (own_ut y2 y3)))] [(.int 2), (.int 2)]) := fun t k => pre123 t (by rw [show ((4 : Int32) >>> ((1 : Int32) &&& 31)) = (2 : Int32) from (by decide)]; exact k)
          have pre125 : own_P p e below s₁ (entryFrame m #[(.ref a1)] 3) T122 (mkF m 46 #[rv a1, iv 2, iv (nar .char (nar .char (own_ut y2 y3)))] [(.int 1)]) := fun t k => pre124 t (by
            show Steps p.tables e below (T122.setTop (mkF m 16 #[rv a1, iv 2, iv (nar .char (nar .char (own_ut y2 y3)))] [(.int 2), (.int 2)])) t
            refine XS.icmpYes X122.here hx rfl (pc0 := 16) (pc' := 45) rfl (hb hby d6_16) rfl (flt (by decide : ¬ ((2 : Int32) < (2 : Int32)))).2.1 (by decide) (by decide) ?_
            refine XS.iconst X122.here hx rfl (hb hby d6_45) ?_
            exact k)
          obtain ⟨fs, hr, hrun, hended, hW, hsame⟩ := X122.leave (v := some (.int 1)) (fun h => by rw [Bd.returns] at h; cases h)
          refine ⟨_, _, pre125 _ ?_, hrun, hended, _, _, rfl, ?_, ⟨_, rfl⟩, hW, hsame.mono (by decide) (by decide)⟩
          · exact retN X122 hx (t := .boolean) Bd.returns (by simp) (hb hby d6_46) hr
          · show QIU_2 Z a1 cs vF tv kt y0 y1 y2 y3 h0 n0 _ T122.heap _
            rw [e122]
            exact ⟨(by rw [own_all2, if_pos ⟨⟨by assumption, by assumption⟩, ⟨by assumption, by assumption⟩⟩]), N122, rfl⟩
def QM_3 (Z : State) (p2 p3 p4 p5 cs : Int32) (h0 : Heap) (n0 : Nat) (v : Option Value) (h : Heap) (L : List Loc) : Prop := ∃ (b t : Addr) (kt : ClassId), v = some (.ref b) ∧ Fr n0 L ∧ Keep h0 h [] ∧ (n0 ≤ b) ∧ (h0.size ≤ b) ∧ (Exa Z h b "java/lang/String") ∧ (Fld Z h b "java/lang/String" "coder" "B" (.int 0)) ∧ (Fld Z h b "java/lang/String" "value" "[B" (.ref t)) ∧ (n0 ≤ t) ∧ (h0.size ≤ t) ∧ (Arv Z h t kt .byte (3 : Int32) [(.int (nar .byte ((nar .char p2).toInt8.toInt32))), (.int (nar .byte ((nar .char p3).toInt8.toInt32))), (.int (nar .byte ((nar .char p4).toInt8.toInt32)))] (.int 0))
theorem rmM_3 (l : Launch) (Z : State) (a0 : Array Value) (hw : own_H Z a0) (ws : List Jvm.Cond) (p2 p3 p4 p5 cs : Int32) (h0 : Heap) (n0 : Nat) (Z0 : n0 ≤ h0.size) (SC : Sta Z Z.heap "java/lang/String" "COMPACT_STRINGS" "Z" (.int cs)) (hcs : ¬ (cs = (0 : Int32))) (O0 : Old Z n0 h0) (hx0 : ¬ ((255 : Int32) < (nar .char p2))) (hx1 : ¬ ((255 : Int32) < (nar .char p3))) (hx2 : ¬ ((255 : Int32) < (nar .char p4))) :
    own_M l own_y23 method_4_code 5 (some (.object "java/lang/String")) ws (own_R 4 3 10 66) Z h0 #[(.int 3), (.int p2), (.int p3), (.int p4), (.int p5)] (QM_3 Z p2 p3 p4 p5 cs h0 n0) := by
  refine own_body (plainFor_of_name pn_com_example_millipede_millipede_DecimalNumbersIsNumberPinLaw) fun p e s m below meth c s₁ Bd hx hby hml (hown : s.vm.findClass "com/example/millipede/millipede/DecimalNumbersIsNumberPinLaw" = some m.cls) hnm X0 e0 hZ => ?_
  have N0 := Fr.nil n0
  have pre0 : own_P p e below s₁ (entryFrame m #[(.int 3), (.int p2), (.int p3), (.int p4), (.int p5)] 5) s₁ (mkF m 0 #[iv 3, iv p2, iv p3, iv p4, iv p5] []) := fun t k => castTop (by first | rfl | (simp [entryFrame, mkF, argsToLocals, Value.category]; done)) k
  have f101 := Keep.refl h0 []
  obtain ⟨T102, h102, X102, e102, E102, A102, D102, -, st102⟩ := newO X0 hx hZ hown (own_i hw 8 rfl) (own_i hw 9 rfl) (own_i hw 10 rfl) e0 (g := (mkF m 64 #[iv 3, iv p2, iv p3, iv p4, iv p5] [])) rfl (hb hby d2_64) (by decide) (by decide)
  obtain ⟨b102, g102⟩ : ∃ z, z = h0.size := ⟨_, rfl⟩
  rw [← g102] at A102 D102 st102
  have ga103 : n0 ≤ b102 := Nat.le_trans Z0 (Nat.le_of_eq g102.symm)
  have sz104 : h0.size ≤ b102 := Nat.le_trans f101.1 (Nat.le_of_eq g102.symm)
  have f105 : Fld Z h102 b102 "java/lang/String" "value" "[B" .null := D102 (Or.inr (own_i hw 24 rfl)) (ty := (.array .byte)) (by decide)
  have f106 : Fld Z h102 b102 "java/lang/String" "coder" "B" (.int 0) := D102 (Or.inr (own_i hw 25 rfl)) (ty := .byte) (by decide)
  have f107 := Nat.le_trans Z0 E102.1
  have f108 := O0.ext E102
  have f109 := f101.ext E102
  obtain ⟨T110, h110, k110, X110, e110, E110, A110, st110⟩ := newP X102 hx hZ (own_i hw 11 rfl) e102 (g := (mkF m 69 #[iv 3, iv p2, iv p3, iv p4, iv p5] [(.int 3), (.ref b102), (.ref b102)])) rfl (hb hby d2_69) rfl (by decide) (cap := 3) (by decide) (by decide) (by decide) (by decide)
  obtain ⟨b110, g110⟩ : ∃ z, z = h102.size := ⟨_, rfl⟩
  rw [← g110] at A110 st110
  have ne111 : b102 ≠ b110 := Nat.ne_of_lt (Nat.lt_of_lt_of_le A102.lt (Nat.le_of_eq g110.symm))
  have ga112 : n0 ≤ b110 := Nat.le_trans f107 (Nat.le_of_eq g110.symm)
  have sz113 : h0.size ≤ b110 := Nat.le_trans f109.1 (Nat.le_of_eq g110.symm)
  have V110 : Arv Z h110 b110 k110 .char (3 : Int32) [(.int 0), (.int 0), (.int 0)] (.int 0) := (Arv.new A110 (by decide)).pad (pad_rep [] (.int 0) 3)
  have f114 := Nat.le_trans f107 E110.1
  have f115 := f108.ext E110
  have f116 := f109.ext E110
  have f117 := A102.ext E110
  have f118 := f105.ext E110
  have f119 := f106.ext E110
  obtain ⟨cl120, Ar120, q120, S120, N120z, H120, G120⟩ := (id V110)
  have hin120 : ¬ ((0 : Int32) < 0 ∨ cl120.slots.size ≤ ((0 : Int32)).toNatClampNeg) := inb_of S120 ⟨by decide, by decide⟩
  obtain ⟨T120, h120, X120, e120, W120, st120⟩ := stC X110 hx hZ e110 Ar120 (j := (0 : Int32)) hin120 (g := (mkF m 74 #[iv 3, iv p2, iv p3, iv p4, iv p5] [(.int p2), (.int 0), (.ref b110), (.ref b110), (.ref b102), (.ref b102)])) rfl rfl (hb hby d2_74)
  have V120 : Arv Z h120 b110 k110 .char (3 : Int32) [(.int (nar .char p2)), (.int 0), (.int 0)] (.int 0) := Arv.set Ar120 q120 S120 N120z H120 G120 (fits_nar_char _) W120 0 rfl (Nat.le_of_ble_eq_true rfl)
  have N120 := Fr.snoc X120 N0 ga112
  have f121 := Nat.le_trans f114 (Keep.of_wr W120).1
  have f122 := f115.wr W120 ga112
  have f123 := f116.wr W120 (Or.inr sz113)
  have f124 := f117.wr W120
  have f125 := f118.other W120 (Or.inl ne111)
  have f126 := f119.other W120 (Or.inl ne111)
  obtain ⟨cl127, Ar127, q127, S127, N127z, H127, G127⟩ := (id V120)
  have hin127 : ¬ ((1 : Int32) < 0 ∨ cl127.slots.size ≤ ((1 : Int32)).toNatClampNeg) := inb_of S127 ⟨by decide, by decide⟩
  obtain ⟨T127, h127, X127, e127, W127, st127⟩ := stC X120 hx hZ e120 Ar127 (j := (1 : Int32)) hin127 (g := (mkF m 78 #[iv 3, iv p2, iv p3, iv p4, iv p5] [(.int p3), (.int 1), (.ref b110), (.ref b110), (.ref b102), (.ref b102)])) rfl rfl (hb hby d2_78)
  have V127 : Arv Z h127 b110 k110 .char (3 : Int32) [(.int (nar .char p2)), (.int (nar .char p3)), (.int 0)] (.int 0) := Arv.set Ar127 q127 S127 N127z H127 G127 (fits_nar_char _) W127 1 rfl (Nat.le_of_ble_eq_true rfl)
  have N127 := Fr.snoc X127 N120 ga112
  have f128 := Nat.le_trans f121 (Keep.of_wr W127).1
  have f129 := f122.wr W127 ga112
  have f130 := f123.wr W127 (Or.inr sz113)
  have f131 := f124.wr W127
  have f132 := f125.other W127 (Or.inl ne111)
  have f133 := f126.other W127 (Or.inl ne111)
  obtain ⟨cl134, Ar134, q134, S134, N134z, H134, G134⟩ := (id V127)
  have hin134 : ¬ ((2 : Int32) < 0 ∨ cl134.slots.size ≤ ((2 : Int32)).toNatClampNeg) := inb_of S134 ⟨by decide, by decide⟩
  obtain ⟨T134, h134, X134, e134, W134, st134⟩ := stC X127 hx hZ e127 Ar134 (j := (2 : Int32)) hin134 (g := (mkF m 82 #[iv 3, iv p2, iv p3, iv p4, iv p5] [(.int p4), (.int 2), (.ref b110), (.ref b110), (.ref b102), (.ref b102)])) rfl rfl (hb hby d2_82)
  have V134 : Arv Z h134 b110 k110 .char (3 : Int32) [(.int (nar .char p2)), (.int (nar .char p3)), (.int (nar .char p4))] (.int 0) := Arv.set Ar134 q134 S134 N134z H134 G134 (fits_nar_char _) W134 2 rfl (Nat.le_of_ble_eq_true rfl)
  have N134 := Fr.snoc X134 N127 ga112
  have f135 := Nat.le_trans f128 (Keep.of_wr W134).1
  have f136 := f129.wr W134 ga112
  have f137 := f130.wr W134 (Or.inr sz113)
  have f138 := f131.wr W134
  have f139 := f132.other W134 (Or.inl ne111)
  have f140 := f133.other W134 (Or.inl ne111)
  obtain ⟨_, _, ⟨T141, L141, k141, n141⟩, -, X141, ⟨Lc141, hQ141, l141, y141, z141⟩, st141⟩ := X134.specialBack hx (y := own_y4) rfl hown (own_m hZ hw 12) (own_m hZ hw 13) (own_m hZ hw 14) (by decide) (backOf (W := 1) (rmG_3 l Z a0 hw [] b102 b110 k110 cs (nar .char p2) (nar .char p3) (nar .char p4) h134 n0 f135 f139 f140 f138 ga103 V134 (SC.ext f136.2) hcs ne111 hx0 hx1 hx2) hZ (own_i hw 14 rfl) (own_i hw 10 rfl) (by decide) (by decide)) (g := (mkF m 83 #[iv 3, iv p2, iv p3, iv p4, iv p5] [(.ref b110), (.ref b102), (.ref b102)])) rfl (by rw [hml]; rfl) (Steps.refl _) (a := b102) (argsL := [(.ref b110)]) (rest := [(.ref b102)]) (lenOf pd_14 rfl) rfl (Nat.le_of_eq rfl) (hb hby d2_83) (fun _ _ => ⟨rfl, e134, own_le rfl, own_le rfl⟩)
  dsimp only [Pt.U, Pt.locs, Pt.cells, Pt.slots] at X141 l141 y141 z141 st141 hQ141
  subst l141 y141 z141
  obtain ⟨b142, x143, rfl, N141q, K141, f144, f145, f146, f147, f148, f149⟩ := hQ141
  have N141 := Fr.app N134 N141q
  have ne150 : b102 ≠ b142 := Nat.ne_of_lt (Nat.lt_of_lt_of_le f138.lt f148)
  have ne151 : b110 ≠ b142 := Nat.ne_of_lt (Nat.lt_of_lt_of_le V134.lt f148)
  have sz152 : h0.size ≤ b142 := Nat.le_trans f137.1 f148
  have f153 := Nat.le_trans f135 K141.1
  have f154 := f136.keep K141 (allS ga103 all0)
  have f155 := f137.trans K141 (allS (Or.inr sz104) all0)
  have f156 := V134.keep K141 (ninS (Ne.symm ne111) nin0)
  have pre157 : own_P p e below s₁ (entryFrame m #[(.int 3), (.int p2), (.int p3), (.int p4), (.int p5)] 5) T141 (mkF m 86 #[iv 3, iv p2, iv p3, iv p4, iv p5] [(.ref b102)]) := fun t k => pre0 t (by
    show Steps p.tables e below (s₁.setTop (mkF m 0 #[iv 3, iv p2, iv p3, iv p4, iv p5] [])) t
    refine XS.iloadN X0.here hx rfl (hb hby d2_0) rfl ?_
    refine XS.ifYes X0.here hx rfl (pc0 := 1) (pc' := 15) rfl (hb hby d2_1) rfl ((if0 _ _).trans (feq (by decide : ¬ ((3 : Int32) = (0 : Int32)))).2) (by decide) (by decide) ?_
    refine XS.iloadN X0.here hx rfl (hb hby d2_15) rfl ?_
    refine XS.iconst X0.here hx rfl (hb hby d2_16) ?_
    refine XS.icmpYes X0.here hx rfl (pc0 := 17) (pc' := 35) rfl (hb hby d2_17) rfl (feq (by decide : ¬ ((3 : Int32) = (1 : Int32)))).2 (by decide) (by decide) ?_
    refine XS.iloadN X0.here hx rfl (hb hby d2_35) rfl ?_
    refine XS.iconst X0.here hx rfl (hb hby d2_36) ?_
    refine XS.icmpYes X0.here hx rfl (pc0 := 37) (pc' := 59) rfl (hb hby d2_37) rfl (feq (by decide : ¬ ((3 : Int32) = (2 : Int32)))).2 (by decide) (by decide) ?_
    refine XS.iloadN X0.here hx rfl (hb hby d2_59) rfl ?_
    refine XS.iconst X0.here hx rfl (hb hby d2_60) ?_
    refine XS.icmpNo X0.here hx rfl (hb hby d2_61) rfl (teq (by decide : (3 : Int32) = (3 : Int32))).2 ?_
    refine st102 _ ?_
    refine XS.dup X102.here hx rfl (hb hby d2_67) rfl rfl ?_
    refine XS.iconst X102.here hx rfl (hb hby d2_68) ?_
    refine st110 _ ?_
    refine XS.dup X110.here hx rfl (hb hby d2_71) rfl rfl ?_
    refine XS.iconst X110.here hx rfl (hb hby d2_72) ?_
    refine XS.iloadN X110.here hx rfl (hb hby d2_73) rfl ?_
    refine st120 _ ?_
    refine XS.dup X120.here hx rfl (hb hby d2_75) rfl rfl ?_
    refine XS.iconst X120.here hx rfl (hb hby d2_76) ?_
    refine XS.iloadN X120.here hx rfl (hb hby d2_77) rfl ?_
    refine st127 _ ?_
    refine XS.dup X127.here hx rfl (hb hby d2_79) rfl rfl ?_
    refine XS.iconst X127.here hx rfl (hb hby d2_80) ?_
    refine XS.iloadN X127.here hx rfl (hb hby d2_81) rfl ?_
    refine st134 _ ?_
    refine st141.trans ?_
    exact k)
  obtain ⟨fs, hr, hrun, hended, hW, hsame⟩ := X141.leave (v := some (.ref b102)) (fun h => by rw [Bd.returns] at h; cases h)
  refine ⟨_, _, pre157 _ ?_, hrun, hended, _, _, rfl, ?_, ⟨_, rfl⟩, hW, hsame.mono (by decide) (by decide)⟩
  · exact retOut X141 hx Bd.returns rfl (Or.inr (Or.inr (Or.inr (Or.inr ⟨rfl, rfl, rfl⟩)))) (hb hby d2_86) hr
  · show QM_3 Z p2 p3 p4 p5 cs h0 n0 _ T141.heap _
    exact ⟨b102, b142, x143, rfl, N141, f155, ga103, sz104, f144, f145, f146, f147, sz152, f149⟩
def QMU_3 (Z : State) (p2 p3 p4 p5 cs : Int32) (h0 : Heap) (n0 : Nat) (v : Option Value) (h : Heap) (L : List Loc) : Prop := ∃ (b t : Addr) (kt : ClassId), v = some (.ref b) ∧ Fr n0 L ∧ Keep h0 h [] ∧ (n0 ≤ b) ∧ (h0.size ≤ b) ∧ (Exa Z h b "java/lang/String") ∧ (Fld Z h b "java/lang/String" "coder" "B" (.int 1)) ∧ (Fld Z h b "java/lang/String" "value" "[B" (.ref t)) ∧ (n0 ≤ t) ∧ (h0.size ≤ t) ∧ (Arv Z h t kt .byte (6 : Int32) [(.int (own_b0 (nar .char p2))), (.int (own_b1 (nar .char p2))), (.int (own_b0 (nar .char p3))), (.int (own_b1 (nar .char p3))), (.int (own_b0 (nar .char p4))), (.int (own_b1 (nar .char p4)))] (.int 0))
theorem rmMU_3 (l : Launch) (Z : State) (a0 : Array Value) (hw : own_H Z a0) (ws : List Jvm.Cond) (p2 p3 p4 p5 cs : Int32) (h0 : Heap) (n0 : Nat) (Z0 : n0 ≤ h0.size) (SC : Sta Z Z.heap "java/lang/String" "COMPACT_STRINGS" "Z" (.int cs)) (hcs : ¬ (cs = (0 : Int32))) (SA : Sta Z Z.heap "java/lang/StringUTF16" "$assertionsDisabled" "Z" (.int 1)) (SH : Sta Z Z.heap "java/lang/StringUTF16" "HI_BYTE_SHIFT" "I" (.int 0)) (SL : Sta Z Z.heap "java/lang/StringUTF16" "LO_BYTE_SHIFT" "I" (.int 8)) (O0 : Old Z n0 h0) (hU : ¬ ((¬ ((255 : Int32) < (nar .char p2))) ∧ (¬ ((255 : Int32) < (nar .char p3))) ∧ (¬ ((255 : Int32) < (nar .char p4))))) :
    own_M l own_y23 method_4_code 5 (some (.object "java/lang/String")) ws (own_R 6 4 16 88) Z h0 #[(.int 3), (.int p2), (.int p3), (.int p4), (.int p5)] (QMU_3 Z p2 p3 p4 p5 cs h0 n0) := by
  refine own_body (plainFor_of_name pn_com_example_millipede_millipede_DecimalNumbersIsNumberPinLaw) fun p e s m below meth c s₁ Bd hx hby hml (hown : s.vm.findClass "com/example/millipede/millipede/DecimalNumbersIsNumberPinLaw" = some m.cls) hnm X0 e0 hZ => ?_
  have N0 := Fr.nil n0
  have pre0 : own_P p e below s₁ (entryFrame m #[(.int 3), (.int p2), (.int p3), (.int p4), (.int p5)] 5) s₁ (mkF m 0 #[iv 3, iv p2, iv p3, iv p4, iv p5] []) := fun t k => castTop (by first | rfl | (simp [entryFrame, mkF, argsToLocals, Value.category]; done)) k
  have f101 := Keep.refl h0 []
  obtain ⟨T102, h102, X102, e102, E102, A102, D102, -, st102⟩ := newO X0 hx hZ hown (own_i hw 8 rfl) (own_i hw 9 rfl) (own_i hw 10 rfl) e0 (g := (mkF m 64 #[iv 3, iv p2, iv p3, iv p4, iv p5] [])) rfl (hb hby d2_64) (by decide) (by decide)
  obtain ⟨b102, g102⟩ : ∃ z, z = h0.size := ⟨_, rfl⟩
  rw [← g102] at A102 D102 st102
  have ga103 : n0 ≤ b102 := Nat.le_trans Z0 (Nat.le_of_eq g102.symm)
  have sz104 : h0.size ≤ b102 := Nat.le_trans f101.1 (Nat.le_of_eq g102.symm)
  have f105 : Fld Z h102 b102 "java/lang/String" "value" "[B" .null := D102 (Or.inr (own_i hw 24 rfl)) (ty := (.array .byte)) (by decide)
  have f106 : Fld Z h102 b102 "java/lang/String" "coder" "B" (.int 0) := D102 (Or.inr (own_i hw 25 rfl)) (ty := .byte) (by decide)
  have f107 := Nat.le_trans Z0 E102.1
  have f108 := O0.ext E102
  have f109 := f101.ext E102
  obtain ⟨T110, h110, k110, X110, e110, E110, A110, st110⟩ := newP X102 hx hZ (own_i hw 11 rfl) e102 (g := (mkF m 69 #[iv 3, iv p2, iv p3, iv p4, iv p5] [(.int 3), (.ref b102), (.ref b102)])) rfl (hb hby d2_69) rfl (by decide) (cap := 3) (by decide) (by decide) (by decide) (by decide)
  obtain ⟨b110, g110⟩ : ∃ z, z = h102.size := ⟨_, rfl⟩
  rw [← g110] at A110 st110
  have ne111 : b102 ≠ b110 := Nat.ne_of_lt (Nat.lt_of_lt_of_le A102.lt (Nat.le_of_eq g110.symm))
  have ga112 : n0 ≤ b110 := Nat.le_trans f107 (Nat.le_of_eq g110.symm)
  have sz113 : h0.size ≤ b110 := Nat.le_trans f109.1 (Nat.le_of_eq g110.symm)
  have V110 : Arv Z h110 b110 k110 .char (3 : Int32) [(.int 0), (.int 0), (.int 0)] (.int 0) := (Arv.new A110 (by decide)).pad (pad_rep [] (.int 0) 3)
  have f114 := Nat.le_trans f107 E110.1
  have f115 := f108.ext E110
  have f116 := f109.ext E110
  have f117 := A102.ext E110
  have f118 := f105.ext E110
  have f119 := f106.ext E110
  obtain ⟨cl120, Ar120, q120, S120, N120z, H120, G120⟩ := (id V110)
  have hin120 : ¬ ((0 : Int32) < 0 ∨ cl120.slots.size ≤ ((0 : Int32)).toNatClampNeg) := inb_of S120 ⟨by decide, by decide⟩
  obtain ⟨T120, h120, X120, e120, W120, st120⟩ := stC X110 hx hZ e110 Ar120 (j := (0 : Int32)) hin120 (g := (mkF m 74 #[iv 3, iv p2, iv p3, iv p4, iv p5] [(.int p2), (.int 0), (.ref b110), (.ref b110), (.ref b102), (.ref b102)])) rfl rfl (hb hby d2_74)
  have V120 : Arv Z h120 b110 k110 .char (3 : Int32) [(.int (nar .char p2)), (.int 0), (.int 0)] (.int 0) := Arv.set Ar120 q120 S120 N120z H120 G120 (fits_nar_char _) W120 0 rfl (Nat.le_of_ble_eq_true rfl)
  have N120 := Fr.snoc X120 N0 ga112
  have f121 := Nat.le_trans f114 (Keep.of_wr W120).1
  have f122 := f115.wr W120 ga112
  have f123 := f116.wr W120 (Or.inr sz113)
  have f124 := f117.wr W120
  have f125 := f118.other W120 (Or.inl ne111)
  have f126 := f119.other W120 (Or.inl ne111)
  obtain ⟨cl127, Ar127, q127, S127, N127z, H127, G127⟩ := (id V120)
  have hin127 : ¬ ((1 : Int32) < 0 ∨ cl127.slots.size ≤ ((1 : Int32)).toNatClampNeg) := inb_of S127 ⟨by decide, by decide⟩
  obtain ⟨T127, h127, X127, e127, W127, st127⟩ := stC X120 hx hZ e120 Ar127 (j := (1 : Int32)) hin127 (g := (mkF m 78 #[iv 3, iv p2, iv p3, iv p4, iv p5] [(.int p3), (.int 1), (.ref b110), (.ref b110), (.ref b102), (.ref b102)])) rfl rfl (hb hby d2_78)
  have V127 : Arv Z h127 b110 k110 .char (3 : Int32) [(.int (nar .char p2)), (.int (nar .char p3)), (.int 0)] (.int 0) := Arv.set Ar127 q127 S127 N127z H127 G127 (fits_nar_char _) W127 1 rfl (Nat.le_of_ble_eq_true rfl)
  have N127 := Fr.snoc X127 N120 ga112
  have f128 := Nat.le_trans f121 (Keep.of_wr W127).1
  have f129 := f122.wr W127 ga112
  have f130 := f123.wr W127 (Or.inr sz113)
  have f131 := f124.wr W127
  have f132 := f125.other W127 (Or.inl ne111)
  have f133 := f126.other W127 (Or.inl ne111)
  obtain ⟨cl134, Ar134, q134, S134, N134z, H134, G134⟩ := (id V127)
  have hin134 : ¬ ((2 : Int32) < 0 ∨ cl134.slots.size ≤ ((2 : Int32)).toNatClampNeg) := inb_of S134 ⟨by decide, by decide⟩
  obtain ⟨T134, h134, X134, e134, W134, st134⟩ := stC X127 hx hZ e127 Ar134 (j := (2 : Int32)) hin134 (g := (mkF m 82 #[iv 3, iv p2, iv p3, iv p4, iv p5] [(.int p4), (.int 2), (.ref b110), (.ref b110), (.ref b102), (.ref b102)])) rfl rfl (hb hby d2_82)
  have V134 : Arv Z h134 b110 k110 .char (3 : Int32) [(.int (nar .char p2)), (.int (nar .char p3)), (.int (nar .char p4))] (.int 0) := Arv.set Ar134 q134 S134 N134z H134 G134 (fits_nar_char _) W134 2 rfl (Nat.le_of_ble_eq_true rfl)
  have N134 := Fr.snoc X134 N127 ga112
  have f135 := Nat.le_trans f128 (Keep.of_wr W134).1
  have f136 := f129.wr W134 ga112
  have f137 := f130.wr W134 (Or.inr sz113)
  have f138 := f131.wr W134
  have f139 := f132.other W134 (Or.inl ne111)
  have f140 := f133.other W134 (Or.inl ne111)
  obtain ⟨_, _, ⟨T141, L141, k141, n141⟩, -, X141, ⟨Lc141, hQ141, l141, y141, z141⟩, st141⟩ := X134.specialBack hx (y := own_y4) rfl hown (own_m hZ hw 12) (own_m hZ hw 13) (own_m hZ hw 14) (by decide) (backOf (W := 1) (rmGU_3 l Z a0 hw [] b102 b110 k110 cs (nar .char p2) (nar .char p3) (nar .char p4) h134 n0 f135 f139 f140 f138 ga103 V134 ne111 SC hcs SA SH SL f136 (own_Cn _) (own_Cn _) (own_Cn _) hU) hZ (own_i hw 14 rfl) (own_i hw 10 rfl) (by decide) (by decide)) (g := (mkF m 83 #[iv 3, iv p2, iv p3, iv p4, iv p5] [(.ref b110), (.ref b102), (.ref b102)])) rfl (by rw [hml]; rfl) (Steps.refl _) (a := b102) (argsL := [(.ref b110)]) (rest := [(.ref b102)]) (lenOf pd_14 rfl) rfl (Nat.le_of_eq rfl) (hb hby d2_83) (fun _ _ => ⟨rfl, e134, own_le rfl, own_le rfl⟩)
  dsimp only [Pt.U, Pt.locs, Pt.cells, Pt.slots] at X141 l141 y141 z141 st141 hQ141
  subst l141 y141 z141
  obtain ⟨b142, x143, rfl, N141q, K141, f144, f145, f146, f147, f148, f149⟩ := hQ141
  have N141 := Fr.app N134 N141q
  have ne150 : b102 ≠ b142 := Nat.ne_of_lt (Nat.lt_of_lt_of_le f138.lt f148)
  have ne151 : b110 ≠ b142 := Nat.ne_of_lt (Nat.lt_of_lt_of_le V134.lt f148)
  have sz152 : h0.size ≤ b142 := Nat.le_trans f137.1 f148
  have f153 := Nat.le_trans f135 K141.1
  have f154 := f136.keep K141 (allS ga103 all0)
  have f155 := f137.trans K141 (allS (Or.inr sz104) all0)
  have f156 := V134.keep K141 (ninS (Ne.symm ne111) nin0)
  have pre157 : own_P p e below s₁ (entryFrame m #[(.int 3), (.int p2), (.int p3), (.int p4), (.int p5)] 5) T141 (mkF m 86 #[iv 3, iv p2, iv p3, iv p4, iv p5] [(.ref b102)]) := fun t k => pre0 t (by
    show Steps p.tables e below (s₁.setTop (mkF m 0 #[iv 3, iv p2, iv p3, iv p4, iv p5] [])) t
    refine XS.iloadN X0.here hx rfl (hb hby d2_0) rfl ?_
    refine XS.ifYes X0.here hx rfl (pc0 := 1) (pc' := 15) rfl (hb hby d2_1) rfl ((if0 _ _).trans (feq (by decide : ¬ ((3 : Int32) = (0 : Int32)))).2) (by decide) (by decide) ?_
    refine XS.iloadN X0.here hx rfl (hb hby d2_15) rfl ?_
    refine XS.iconst X0.here hx rfl (hb hby d2_16) ?_
    refine XS.icmpYes X0.here hx rfl (pc0 := 17) (pc' := 35) rfl (hb hby d2_17) rfl (feq (by decide : ¬ ((3 : Int32) = (1 : Int32)))).2 (by decide) (by decide) ?_
    refine XS.iloadN X0.here hx rfl (hb hby d2_35) rfl ?_
    refine XS.iconst X0.here hx rfl (hb hby d2_36) ?_
    refine XS.icmpYes X0.here hx rfl (pc0 := 37) (pc' := 59) rfl (hb hby d2_37) rfl (feq (by decide : ¬ ((3 : Int32) = (2 : Int32)))).2 (by decide) (by decide) ?_
    refine XS.iloadN X0.here hx rfl (hb hby d2_59) rfl ?_
    refine XS.iconst X0.here hx rfl (hb hby d2_60) ?_
    refine XS.icmpNo X0.here hx rfl (hb hby d2_61) rfl (teq (by decide : (3 : Int32) = (3 : Int32))).2 ?_
    refine st102 _ ?_
    refine XS.dup X102.here hx rfl (hb hby d2_67) rfl rfl ?_
    refine XS.iconst X102.here hx rfl (hb hby d2_68) ?_
    refine st110 _ ?_
    refine XS.dup X110.here hx rfl (hb hby d2_71) rfl rfl ?_
    refine XS.iconst X110.here hx rfl (hb hby d2_72) ?_
    refine XS.iloadN X110.here hx rfl (hb hby d2_73) rfl ?_
    refine st120 _ ?_
    refine XS.dup X120.here hx rfl (hb hby d2_75) rfl rfl ?_
    refine XS.iconst X120.here hx rfl (hb hby d2_76) ?_
    refine XS.iloadN X120.here hx rfl (hb hby d2_77) rfl ?_
    refine st127 _ ?_
    refine XS.dup X127.here hx rfl (hb hby d2_79) rfl rfl ?_
    refine XS.iconst X127.here hx rfl (hb hby d2_80) ?_
    refine XS.iloadN X127.here hx rfl (hb hby d2_81) rfl ?_
    refine st134 _ ?_
    refine st141.trans ?_
    exact k)
  obtain ⟨fs, hr, hrun, hended, hW, hsame⟩ := X141.leave (v := some (.ref b102)) (fun h => by rw [Bd.returns] at h; cases h)
  refine ⟨_, _, pre157 _ ?_, hrun, hended, _, _, rfl, ?_, ⟨_, rfl⟩, hW, hsame.mono (by decide) (by decide)⟩
  · exact retOut X141 hx Bd.returns rfl (Or.inr (Or.inr (Or.inr (Or.inr ⟨rfl, rfl, rfl⟩)))) (hb hby d2_86) hr
  · show QMU_3 Z p2 p3 p4 p5 cs h0 n0 _ T141.heap _
    exact ⟨b102, b142, x143, rfl, N141, f155, ga103, sz104, f144, f145, f146, f147, sz152, f149⟩
def QIs_3 (Z : State) (a1 : Addr) (cs : Int32) (vF : Value) (tv : Addr) (kt : ClassId) (y0 y1 y2 : Int32) (h0 : Heap) (n0 : Nat) (v : Option Value) (h : Heap) (L : List Loc) : Prop := v = some (.int (own_all3 (own_cat y0) (own_cat y1) (own_cat y2))) ∧ Fr n0 L ∧ h = h0
theorem rmIs_3 (l : Launch) (Z : State) (a0 : Array Value) (hw : own_H Z a0) (ws : List Jvm.Cond) (a1 : Addr) (cs : Int32) (vF : Value) (tv : Addr) (kt : ClassId) (y0 y1 y2 : Int32) (h0 : Heap) (n0 : Nat) (Z0 : n0 ≤ h0.size) (SC : Sta Z h0 "java/lang/String" "COMPACT_STRINGS" "Z" (.int cs)) (hcs : ¬ (cs = (0 : Int32))) (SF : Sta Z h0 "jdk/internal/util/Preconditions" "SIOOBE_FORMATTER" "Ljava/util/function/BiFunction;" vF) (hF : vF.isRef = true) (E1 : Exa Z h0 a1 "java/lang/String") (C1 : Fld Z h0 a1 "java/lang/String" "coder" "B" (.int 0)) (W1 : Fld Z h0 a1 "java/lang/String" "value" "[B" (.ref tv)) (V1 : Arv Z h0 tv kt .byte (3 : Int32) [(.int y0), (.int y1), (.int y2)] (.int 0)) :
    own_M l own_y24 prog_20_method_2_code 3 (some .boolean) ws (own_R 4 0 0 53) Z h0 #[(.ref a1)] (QIs_3 Z a1 cs vF tv kt y0 y1 y2 h0 n0) := by
  refine own_body (plainFor_of_name pn_com_example_millipede_millipede_DecimalNumbers) fun p e s m below meth c s₁ Bd hx hby hml (hown : s.vm.findClass "com/example/millipede/millipede/DecimalNumbers" = some m.cls) hnm X0 e0 hZ => ?_
  have N0 := Fr.nil n0
  have pre0 : own_P p e below s₁ (entryFrame m #[(.ref a1)] 3) s₁ (mkF m 0 #[rv a1, .unset, .unset] []) := fun t k => castTop (by first | rfl | (simp [entryFrame, mkF, argsToLocals, Value.category]; done)) k
  obtain ⟨cq101, kq101, q101a, q101b, q101c⟩ := isOf hZ e0 E1
  obtain ⟨_, _, ⟨T101, L101, k101, n101⟩, -, X101, ⟨Lc101, hQ101, l101, y101, z101⟩, st101⟩ := X0.virtualBack hx (y := own_y18) (z := own_y18) hown (own_m hZ hw 34) (own_m hZ hw 35) (notFace_of_selects (args := #[]) (own_m hZ hw 37)) (own_m hZ hw 37) (own_m hZ hw 36) (by decide) (backOf (W := 0) (rmEm l Z a0 hw [] a1 tv kt (3 : Int32) ([(.int y0), (.int y1), (.int y2)]) h0 n0 Z0 W1 V1 (by decide)) hZ (own_i hw 38 rfl) (own_i hw 10 rfl) (by decide) (by decide)) q101a q101c (g := (mkF m 1 #[rv a1, .unset, .unset] [(.ref a1)])) rfl (by rw [hml]; rfl) (Steps.refl _) (argsL := []) (rest := []) (lenOf pd_7 rfl) rfl (Nat.le_of_eq rfl) (hb hby d6_1) (fun _ _ => ⟨rfl, e0, own_le rfl, own_le rfl⟩)
  dsimp only [Pt.U, Pt.locs, Pt.cells, Pt.slots] at X101 l101 y101 z101 st101 hQ101
  subst l101 y101 z101
  obtain ⟨rfl, N101q, e101⟩ := hQ101
  have N101 := Fr.app N0 N101q
  obtain ⟨cq102, kq102, q102a, q102b, q102c⟩ := isOf hZ e101 E1
  obtain ⟨_, _, ⟨T102, L102, k102, n102⟩, -, X102, ⟨Lc102, hQ102, l102, y102, z102⟩, st102⟩ := X101.virtualBack hx (y := own_y9) (z := own_y9) hown (own_m hZ hw 53) (own_m hZ hw 54) (notFace_of_selects (args := #[]) (own_m hZ hw 56)) (own_m hZ hw 56) (own_m hZ hw 55) (by decide) (backOf (W := 1) (rmLen l Z a0 hw [] a1 cs tv kt (3 : Int32) ([(.int y0), (.int y1), (.int y2)]) h0 n0 Z0 SC hcs E1 C1 W1 V1) hZ (own_i hw 57 rfl) (own_i hw 10 rfl) (by decide) (by decide)) q102a q102c (g := (mkF m 13 #[rv a1, iv 0, .unset] [(.ref a1), (.int 0)])) rfl (by rw [hml]; rfl) (Steps.refl _) (argsL := []) (rest := [(.int 0)]) (lenOf pd_15 rfl) rfl (Nat.le_of_eq rfl) (hb hby d6_13) (fun _ _ => ⟨rfl, e101, own_le rfl, own_le rfl⟩)
  dsimp only [Pt.U, Pt.locs, Pt.cells, Pt.slots] at X102 l102 y102 z102 st102 hQ102
  subst l102 y102 z102
  obtain ⟨rfl, N102q, e102⟩ := hQ102
  have N102 := Fr.app N101 N102q
  obtain ⟨cq103, kq103, q103a, q103b, q103c⟩ := isOf hZ e102 E1
  obtain ⟨_, _, ⟨T103, L103, k103, n103⟩, -, X103, ⟨Lc103, hQ103, l103, y103, z103⟩, st103⟩ := X102.virtualBack hx (y := own_y13) (z := own_y13) hown (own_m hZ hw 63) (own_m hZ hw 64) (notFace_of_selects (args := #[]) (own_m hZ hw 66)) (own_m hZ hw 66) (own_m hZ hw 65) (by decide) (backOf (W := 0) (rmCh l Z a0 hw [] a1 (0 : Int32) cs vF tv kt y0 (3 : Int32) ([(.int y0), (.int y1), (.int y2)]) h0 n0 Z0 SC hcs SF hF E1 C1 W1 V1 (by decide) (by decide) rfl) hZ (own_i hw 67 rfl) (own_i hw 10 rfl) (by decide) (by decide)) q103a q103c (g := (mkF m 21 #[rv a1, iv 0, .unset] [(.int 0), (.ref a1)])) rfl (by rw [hml]; rfl) (Steps.refl _) (argsL := [(.int 0)]) (rest := []) (lenOf pd_16 rfl) rfl (Nat.le_of_eq rfl) (hb hby d6_21) (fun _ _ => ⟨rfl, e102, own_le rfl, own_le rfl⟩)
  dsimp only [Pt.U, Pt.locs, Pt.cells, Pt.slots] at X103 l103 y103 z103 st103 hQ103
  subst l103 y103 z103
  obtain ⟨rfl, N103q, e103⟩ := hQ103
  have N103 := Fr.app N102 N103q
  have pre105 : own_P p e below s₁ (entryFrame m #[(.ref a1)] 3) T103 (mkF m 28 #[rv a1, iv 0, iv (own_cat y0)] [(.int 48), (.int (own_cat y0))]) := fun t k => pre0 t (by
    show Steps p.tables e below (s₁.setTop (mkF m 0 #[rv a1, .unset, .unset] [])) t
    refine XS.aloadN X0.here hx rfl (hb hby d6_0) rfl rfl ?_
    refine st101.trans ?_
    refine XS.ifYes X101.here hx rfl (pc0 := 4) (pc' := 9) rfl (hb hby d6_4) rfl ((if0 _ _).trans (teq (by decide : (0 : Int32) = (0 : Int32))).1) (by decide) (by decide) ?_
    refine XS.iconst X101.here hx rfl (hb hby d6_9) ?_
    refine XS.istoreN X101.here hx rfl (hb hby d6_10) rfl (l' := #[rv a1, iv 0, .unset]) rfl ?_
    refine XS.iloadN X101.here hx rfl (hb hby d6_11) rfl ?_
    refine XS.aloadN X101.here hx rfl (hb hby d6_12) rfl rfl ?_
    refine st102.trans ?_
    refine XS.icmpNo X102.here hx rfl (hb hby d6_16) rfl (tlt (by decide : (0 : Int32) < (3 : Int32))).2.1 ?_
    refine XS.aloadN X102.here hx rfl (hb hby d6_19) rfl rfl ?_
    refine XS.iloadN X102.here hx rfl (hb hby d6_20) rfl ?_
    refine st103.trans ?_
    refine XS.istoreN X103.here hx rfl (hb hby d6_24) rfl (l' := #[rv a1, iv 0, iv (own_cat y0)]) rfl ?_
    refine XS.iloadN X103.here hx rfl (hb hby d6_25) rfl ?_
    refine XS.bipush X103.here hx rfl (hb hby d6_26) ?_
    exact k)
  by_cases hc104 : (own_cat y0) < (48 : Int32)
  · have pre106 : own_P p e below s₁ (entryFrame m #[(.ref a1)] 3) T103 (mkF m 38 #[rv a1, iv 0, iv (own_cat y0)] [(.int 0)]) := fun t k => pre105 t (by
      refine XS.icmpYes X103.here hx rfl (pc0 := 28) (pc' := 37) rfl (hb hby d6_28) rfl (tlt hc104).1 (by decide) (by decide) ?_
      refine XS.iconst X103.here hx rfl (hb hby d6_37) ?_
      exact k)
    obtain ⟨fs, hr, hrun, hended, hW, hsame⟩ := X103.leave (v := some (.int 0)) (fun h => by rw [Bd.returns] at h; cases h)
    refine ⟨_, _, pre106 _ ?_, hrun, hended, _, _, rfl, ?_, ⟨_, rfl⟩, hW, hsame.mono (by decide) (by decide)⟩
    · exact retN X103 hx (t := .boolean) Bd.returns (by simp) (hb hby d6_38) hr
    · show QIs_3 Z a1 cs vF tv kt y0 y1 y2 h0 n0 _ T103.heap _
      rw [e103]
      exact ⟨(by rw [own_all3, if_neg (by rintro ⟨⟨_, _⟩, ⟨_, _⟩, ⟨_, _⟩⟩ <;> contradiction)]), N103, rfl⟩
  · have pre108 : own_P p e below s₁ (entryFrame m #[(.ref a1)] 3) T103 (mkF m 34 #[rv a1, iv 0, iv (own_cat y0)] [(.int 57), (.int (own_cat y0))]) := fun t k => pre105 t (by
      refine XS.icmpNo X103.here hx rfl (hb hby d6_28) rfl (flt hc104).1 ?_
      refine XS.iloadN X103.here hx rfl (hb hby d6_31) rfl ?_
      refine XS.bipush X103.here hx rfl (hb hby d6_32) ?_
      exact k)
    by_cases hc107 : (57 : Int32) < (own_cat y0)
    · have pre109 : own_P p e below s₁ (entryFrame m #[(.ref a1)] 3) T103 (mkF m 38 #[rv a1, iv 0, iv (own_cat y0)] [(.int 0)]) := fun t k => pre108 t (by
        refine XS.icmpNo X103.here hx rfl (hb hby d6_34) rfl (tlt hc107).2.2.2 ?_
        refine XS.iconst X103.here hx rfl (hb hby d6_37) ?_
        exact k)
      obtain ⟨fs, hr, hrun, hended, hW, hsame⟩ := X103.leave (v := some (.int 0)) (fun h => by rw [Bd.returns] at h; cases h)
      refine ⟨_, _, pre109 _ ?_, hrun, hended, _, _, rfl, ?_, ⟨_, rfl⟩, hW, hsame.mono (by decide) (by decide)⟩
      · exact retN X103 hx (t := .boolean) Bd.returns (by simp) (hb hby d6_38) hr
      · show QIs_3 Z a1 cs vF tv kt y0 y1 y2 h0 n0 _ T103.heap _
        rw [e103]
        exact ⟨(by rw [own_all3, if_neg (by rintro ⟨⟨_, _⟩, ⟨_, _⟩, ⟨_, _⟩⟩ <;> contradiction)]), N103, rfl⟩
    · obtain ⟨cq110, kq110, q110a, q110b, q110c⟩ := isOf hZ e103 E1
      obtain ⟨_, _, ⟨T110, L110, k110, n110⟩, -, X110, ⟨Lc110, hQ110, l110, y110, z110⟩, st110⟩ := X103.virtualBack hx (y := own_y9) (z := own_y9) hown (own_m hZ hw 53) (own_m hZ hw 54) (notFace_of_selects (args := #[]) (own_m hZ hw 56)) (own_m hZ hw 56) (own_m hZ hw 55) (by decide) (backOf (W := 1) (rmLen l Z a0 hw [] a1 cs tv kt (3 : Int32) ([(.int y0), (.int y1), (.int y2)]) h0 n0 Z0 SC hcs E1 C1 W1 V1) hZ (own_i hw 57 rfl) (own_i hw 10 rfl) (by decide) (by decide)) q110a q110c (g := (mkF m 13 #[rv a1, iv 1, iv (own_cat y0)] [(.ref a1), (.int 1)])) rfl (by rw [hml]; rfl) (Steps.refl _) (argsL := []) (rest := [(.int 1)]) (lenOf pd_15 rfl) rfl (Nat.le_of_eq rfl) (hb hby d6_13) (fun _ _ => ⟨rfl, e103, own_le rfl, own_le rfl⟩)
      dsimp only [Pt.U, Pt.locs, Pt.cells, Pt.slots] at X110 l110 y110 z110 st110 hQ110
      subst l110 y110 z110
      obtain ⟨rfl, N110q, e110⟩ := hQ110
      have N110 := Fr.app N103 N110q
      obtain ⟨cq111, kq111, q111a, q111b, q111c⟩ := isOf hZ e110 E1
      obtain ⟨_, _, ⟨T111, L111, k111, n111⟩, -, X111, ⟨Lc111, hQ111, l111, y111, z111⟩, st111⟩ := X110.virtualBack hx (y := own_y13) (z := own_y13) hown (own_m hZ hw 63) (own_m hZ hw 64) (notFace_of_selects (args := #[]) (own_m hZ hw 66)) (own_m hZ hw 66) (own_m hZ hw 65) (by decide) (backOf (W := 0) (rmCh l Z a0 hw [] a1 (1 : Int32) cs vF tv kt y1 (3 : Int32) ([(.int y0), (.int y1), (.int y2)]) h0 n0 Z0 SC hcs SF hF E1 C1 W1 V1 (by decide) (by decide) rfl) hZ (own_i hw 67 rfl) (own_i hw 10 rfl) (by decide) (by decide)) q111a q111c (g := (mkF m 21 #[rv a1, iv 1, iv (own_cat y0)] [(.int 1), (.ref a1)])) rfl (by rw [hml]; rfl) (Steps.refl _) (argsL := [(.int 1)]) (rest := []) (lenOf pd_16 rfl) rfl (Nat.le_of_eq rfl) (hb hby d6_21) (fun _ _ => ⟨rfl, e110, own_le rfl, own_le rfl⟩)
      dsimp only [Pt.U, Pt.locs, Pt.cells, Pt.slots] at X111 l111 y111 z111 st111 hQ111
      subst l111 y111 z111
      obtain ⟨rfl, N111q, e111⟩ := hQ111
      have N111 := Fr.app N110 N111q
      have pre113 : own_P p e below s₁ (entryFrame m #[(.ref a1)] 3) T111 (mkF m 28 #[rv a1, iv 1, iv (own_cat y1)] [(.int 48), (.int (own_cat y1))]) := fun t k => pre108 t (by
        refine XS.icmpYes X103.here hx rfl (pc0 := 34) (pc' := 39) rfl (hb hby d6_34) rfl (flt hc107).2.2.2 (by decide) (by decide) ?_
        refine XS.iinc X103.here hx rfl (hb hby d6_39) rfl (l' := #[rv a1, iv 1, iv (own_cat y0)]) rfl ?_
        refine XS.goto X103.here hx rfl (pc0 := 42) (pc' := 11) rfl (hb hby d6_42) (by decide) (by decide) ?_
        refine XS.iloadN X103.here hx rfl (hb hby d6_11) rfl ?_
        refine XS.aloadN X103.here hx rfl (hb hby d6_12) rfl rfl ?_
        refine st110.trans ?_
        refine XS.icmpNo X110.here hx rfl (hb hby d6_16) rfl (tlt (by decide : (1 : Int32) < (3 : Int32))).2.1 ?_
        refine XS.aloadN X110.here hx rfl (hb hby d6_19) rfl rfl ?_
        refine XS.iloadN X110.here hx rfl (hb hby d6_20) rfl ?_
        refine st111.trans ?_
        refine XS.istoreN X111.here hx rfl (hb hby d6_24) rfl (l' := #[rv a1, iv 1, iv (own_cat y1)]) rfl ?_
        refine XS.iloadN X111.here hx rfl (hb hby d6_25) rfl ?_
        refine XS.bipush X111.here hx rfl (hb hby d6_26) ?_
        exact k)
      by_cases hc112 : (own_cat y1) < (48 : Int32)
      · have pre114 : own_P p e below s₁ (entryFrame m #[(.ref a1)] 3) T111 (mkF m 38 #[rv a1, iv 1, iv (own_cat y1)] [(.int 0)]) := fun t k => pre113 t (by
          refine XS.icmpYes X111.here hx rfl (pc0 := 28) (pc' := 37) rfl (hb hby d6_28) rfl (tlt hc112).1 (by decide) (by decide) ?_
          refine XS.iconst X111.here hx rfl (hb hby d6_37) ?_
          exact k)
        obtain ⟨fs, hr, hrun, hended, hW, hsame⟩ := X111.leave (v := some (.int 0)) (fun h => by rw [Bd.returns] at h; cases h)
        refine ⟨_, _, pre114 _ ?_, hrun, hended, _, _, rfl, ?_, ⟨_, rfl⟩, hW, hsame.mono (by decide) (by decide)⟩
        · exact retN X111 hx (t := .boolean) Bd.returns (by simp) (hb hby d6_38) hr
        · show QIs_3 Z a1 cs vF tv kt y0 y1 y2 h0 n0 _ T111.heap _
          rw [e111]
          exact ⟨(by rw [own_all3, if_neg (by rintro ⟨⟨_, _⟩, ⟨_, _⟩, ⟨_, _⟩⟩ <;> contradiction)]), N111, rfl⟩
      · have pre116 : own_P p e below s₁ (entryFrame m #[(.ref a1)] 3) T111 (mkF m 34 #[rv a1, iv 1, iv (own_cat y1)] [(.int 57), (.int (own_cat y1))]) := fun t k => pre113 t (by
          refine XS.icmpNo X111.here hx rfl (hb hby d6_28) rfl (flt hc112).1 ?_
          refine XS.iloadN X111.here hx rfl (hb hby d6_31) rfl ?_
          refine XS.bipush X111.here hx rfl (hb hby d6_32) ?_
          exact k)
        by_cases hc115 : (57 : Int32) < (own_cat y1)
        · have pre117 : own_P p e below s₁ (entryFrame m #[(.ref a1)] 3) T111 (mkF m 38 #[rv a1, iv 1, iv (own_cat y1)] [(.int 0)]) := fun t k => pre116 t (by
            refine XS.icmpNo X111.here hx rfl (hb hby d6_34) rfl (tlt hc115).2.2.2 ?_
            refine XS.iconst X111.here hx rfl (hb hby d6_37) ?_
            exact k)
          obtain ⟨fs, hr, hrun, hended, hW, hsame⟩ := X111.leave (v := some (.int 0)) (fun h => by rw [Bd.returns] at h; cases h)
          refine ⟨_, _, pre117 _ ?_, hrun, hended, _, _, rfl, ?_, ⟨_, rfl⟩, hW, hsame.mono (by decide) (by decide)⟩
          · exact retN X111 hx (t := .boolean) Bd.returns (by simp) (hb hby d6_38) hr
          · show QIs_3 Z a1 cs vF tv kt y0 y1 y2 h0 n0 _ T111.heap _
            rw [e111]
            exact ⟨(by rw [own_all3, if_neg (by rintro ⟨⟨_, _⟩, ⟨_, _⟩, ⟨_, _⟩⟩ <;> contradiction)]), N111, rfl⟩
        · obtain ⟨cq118, kq118, q118a, q118b, q118c⟩ := isOf hZ e111 E1
          obtain ⟨_, _, ⟨T118, L118, k118, n118⟩, -, X118, ⟨Lc118, hQ118, l118, y118, z118⟩, st118⟩ := X111.virtualBack hx (y := own_y9) (z := own_y9) hown (own_m hZ hw 53) (own_m hZ hw 54) (notFace_of_selects (args := #[]) (own_m hZ hw 56)) (own_m hZ hw 56) (own_m hZ hw 55) (by decide) (backOf (W := 1) (rmLen l Z a0 hw [] a1 cs tv kt (3 : Int32) ([(.int y0), (.int y1), (.int y2)]) h0 n0 Z0 SC hcs E1 C1 W1 V1) hZ (own_i hw 57 rfl) (own_i hw 10 rfl) (by decide) (by decide)) q118a q118c (g := (mkF m 13 #[rv a1, iv 2, iv (own_cat y1)] [(.ref a1), (.int 2)])) rfl (by rw [hml]; rfl) (Steps.refl _) (argsL := []) (rest := [(.int 2)]) (lenOf pd_15 rfl) rfl (Nat.le_of_eq rfl) (hb hby d6_13) (fun _ _ => ⟨rfl, e111, own_le rfl, own_le rfl⟩)
          dsimp only [Pt.U, Pt.locs, Pt.cells, Pt.slots] at X118 l118 y118 z118 st118 hQ118
          subst l118 y118 z118
          obtain ⟨rfl, N118q, e118⟩ := hQ118
          have N118 := Fr.app N111 N118q
          obtain ⟨cq119, kq119, q119a, q119b, q119c⟩ := isOf hZ e118 E1
          obtain ⟨_, _, ⟨T119, L119, k119, n119⟩, -, X119, ⟨Lc119, hQ119, l119, y119, z119⟩, st119⟩ := X118.virtualBack hx (y := own_y13) (z := own_y13) hown (own_m hZ hw 63) (own_m hZ hw 64) (notFace_of_selects (args := #[]) (own_m hZ hw 66)) (own_m hZ hw 66) (own_m hZ hw 65) (by decide) (backOf (W := 0) (rmCh l Z a0 hw [] a1 (2 : Int32) cs vF tv kt y2 (3 : Int32) ([(.int y0), (.int y1), (.int y2)]) h0 n0 Z0 SC hcs SF hF E1 C1 W1 V1 (by decide) (by decide) rfl) hZ (own_i hw 67 rfl) (own_i hw 10 rfl) (by decide) (by decide)) q119a q119c (g := (mkF m 21 #[rv a1, iv 2, iv (own_cat y1)] [(.int 2), (.ref a1)])) rfl (by rw [hml]; rfl) (Steps.refl _) (argsL := [(.int 2)]) (rest := []) (lenOf pd_16 rfl) rfl (Nat.le_of_eq rfl) (hb hby d6_21) (fun _ _ => ⟨rfl, e118, own_le rfl, own_le rfl⟩)
          dsimp only [Pt.U, Pt.locs, Pt.cells, Pt.slots] at X119 l119 y119 z119 st119 hQ119
          subst l119 y119 z119
          obtain ⟨rfl, N119q, e119⟩ := hQ119
          have N119 := Fr.app N118 N119q
          have pre121 : own_P p e below s₁ (entryFrame m #[(.ref a1)] 3) T119 (mkF m 28 #[rv a1, iv 2, iv (own_cat y2)] [(.int 48), (.int (own_cat y2))]) := fun t k => pre116 t (by
            refine XS.icmpYes X111.here hx rfl (pc0 := 34) (pc' := 39) rfl (hb hby d6_34) rfl (flt hc115).2.2.2 (by decide) (by decide) ?_
            refine XS.iinc X111.here hx rfl (hb hby d6_39) rfl (l' := #[rv a1, iv 2, iv (own_cat y1)]) rfl ?_
            refine XS.goto X111.here hx rfl (pc0 := 42) (pc' := 11) rfl (hb hby d6_42) (by decide) (by decide) ?_
            refine XS.iloadN X111.here hx rfl (hb hby d6_11) rfl ?_
            refine XS.aloadN X111.here hx rfl (hb hby d6_12) rfl rfl ?_
            refine st118.trans ?_
            refine XS.icmpNo X118.here hx rfl (hb hby d6_16) rfl (tlt (by decide : (2 : Int32) < (3 : Int32))).2.1 ?_
            refine XS.aloadN X118.here hx rfl (hb hby d6_19) rfl rfl ?_
            refine XS.iloadN X118.here hx rfl (hb hby d6_20) rfl ?_
            refine st119.trans ?_
            refine XS.istoreN X119.here hx rfl (hb hby d6_24) rfl (l' := #[rv a1, iv 2, iv (own_cat y2)]) rfl ?_
            refine XS.iloadN X119.here hx rfl (hb hby d6_25) rfl ?_
            refine XS.bipush X119.here hx rfl (hb hby d6_26) ?_
            exact k)
          by_cases hc120 : (own_cat y2) < (48 : Int32)
          · have pre122 : own_P p e below s₁ (entryFrame m #[(.ref a1)] 3) T119 (mkF m 38 #[rv a1, iv 2, iv (own_cat y2)] [(.int 0)]) := fun t k => pre121 t (by
              refine XS.icmpYes X119.here hx rfl (pc0 := 28) (pc' := 37) rfl (hb hby d6_28) rfl (tlt hc120).1 (by decide) (by decide) ?_
              refine XS.iconst X119.here hx rfl (hb hby d6_37) ?_
              exact k)
            obtain ⟨fs, hr, hrun, hended, hW, hsame⟩ := X119.leave (v := some (.int 0)) (fun h => by rw [Bd.returns] at h; cases h)
            refine ⟨_, _, pre122 _ ?_, hrun, hended, _, _, rfl, ?_, ⟨_, rfl⟩, hW, hsame.mono (by decide) (by decide)⟩
            · exact retN X119 hx (t := .boolean) Bd.returns (by simp) (hb hby d6_38) hr
            · show QIs_3 Z a1 cs vF tv kt y0 y1 y2 h0 n0 _ T119.heap _
              rw [e119]
              exact ⟨(by rw [own_all3, if_neg (by rintro ⟨⟨_, _⟩, ⟨_, _⟩, ⟨_, _⟩⟩ <;> contradiction)]), N119, rfl⟩
          · have pre124 : own_P p e below s₁ (entryFrame m #[(.ref a1)] 3) T119 (mkF m 34 #[rv a1, iv 2, iv (own_cat y2)] [(.int 57), (.int (own_cat y2))]) := fun t k => pre121 t (by
              refine XS.icmpNo X119.here hx rfl (hb hby d6_28) rfl (flt hc120).1 ?_
              refine XS.iloadN X119.here hx rfl (hb hby d6_31) rfl ?_
              refine XS.bipush X119.here hx rfl (hb hby d6_32) ?_
              exact k)
            by_cases hc123 : (57 : Int32) < (own_cat y2)
            · have pre125 : own_P p e below s₁ (entryFrame m #[(.ref a1)] 3) T119 (mkF m 38 #[rv a1, iv 2, iv (own_cat y2)] [(.int 0)]) := fun t k => pre124 t (by
                refine XS.icmpNo X119.here hx rfl (hb hby d6_34) rfl (tlt hc123).2.2.2 ?_
                refine XS.iconst X119.here hx rfl (hb hby d6_37) ?_
                exact k)
              obtain ⟨fs, hr, hrun, hended, hW, hsame⟩ := X119.leave (v := some (.int 0)) (fun h => by rw [Bd.returns] at h; cases h)
              refine ⟨_, _, pre125 _ ?_, hrun, hended, _, _, rfl, ?_, ⟨_, rfl⟩, hW, hsame.mono (by decide) (by decide)⟩
              · exact retN X119 hx (t := .boolean) Bd.returns (by simp) (hb hby d6_38) hr
              · show QIs_3 Z a1 cs vF tv kt y0 y1 y2 h0 n0 _ T119.heap _
                rw [e119]
                exact ⟨(by rw [own_all3, if_neg (by rintro ⟨⟨_, _⟩, ⟨_, _⟩, ⟨_, _⟩⟩ <;> contradiction)]), N119, rfl⟩
            · obtain ⟨cq126, kq126, q126a, q126b, q126c⟩ := isOf hZ e119 E1
              obtain ⟨_, _, ⟨T126, L126, k126, n126⟩, -, X126, ⟨Lc126, hQ126, l126, y126, z126⟩, st126⟩ := X119.virtualBack hx (y := own_y9) (z := own_y9) hown (own_m hZ hw 53) (own_m hZ hw 54) (notFace_of_selects (args := #[]) (own_m hZ hw 56)) (own_m hZ hw 56) (own_m hZ hw 55) (by decide) (backOf (W := 1) (rmLen l Z a0 hw [] a1 cs tv kt (3 : Int32) ([(.int y0), (.int y1), (.int y2)]) h0 n0 Z0 SC hcs E1 C1 W1 V1) hZ (own_i hw 57 rfl) (own_i hw 10 rfl) (by decide) (by decide)) q126a q126c (g := (mkF m 13 #[rv a1, iv 3, iv (own_cat y2)] [(.ref a1), (.int 3)])) rfl (by rw [hml]; rfl) (Steps.refl _) (argsL := []) (rest := [(.int 3)]) (lenOf pd_15 rfl) rfl (Nat.le_of_eq rfl) (hb hby d6_13) (fun _ _ => ⟨rfl, e119, own_le rfl, own_le rfl⟩)
              dsimp only [Pt.U, Pt.locs, Pt.cells, Pt.slots] at X126 l126 y126 z126 st126 hQ126
              subst l126 y126 z126
              obtain ⟨rfl, N126q, e126⟩ := hQ126
              have N126 := Fr.app N119 N126q
              have pre127 : own_P p e below s₁ (entryFrame m #[(.ref a1)] 3) T126 (mkF m 46 #[rv a1, iv 3, iv (own_cat y2)] [(.int 1)]) := fun t k => pre124 t (by
                refine XS.icmpYes X119.here hx rfl (pc0 := 34) (pc' := 39) rfl (hb hby d6_34) rfl (flt hc123).2.2.2 (by decide) (by decide) ?_
                refine XS.iinc X119.here hx rfl (hb hby d6_39) rfl (l' := #[rv a1, iv 3, iv (own_cat y2)]) rfl ?_
                refine XS.goto X119.here hx rfl (pc0 := 42) (pc' := 11) rfl (hb hby d6_42) (by decide) (by decide) ?_
                refine XS.iloadN X119.here hx rfl (hb hby d6_11) rfl ?_
                refine XS.aloadN X119.here hx rfl (hb hby d6_12) rfl rfl ?_
                refine st126.trans ?_
                refine XS.icmpYes X126.here hx rfl (pc0 := 16) (pc' := 45) rfl (hb hby d6_16) rfl (flt (by decide : ¬ ((3 : Int32) < (3 : Int32)))).2.1 (by decide) (by decide) ?_
                refine XS.iconst X126.here hx rfl (hb hby d6_45) ?_
                exact k)
              obtain ⟨fs, hr, hrun, hended, hW, hsame⟩ := X126.leave (v := some (.int 1)) (fun h => by rw [Bd.returns] at h; cases h)
              refine ⟨_, _, pre127 _ ?_, hrun, hended, _, _, rfl, ?_, ⟨_, rfl⟩, hW, hsame.mono (by decide) (by decide)⟩
              · exact retN X126 hx (t := .boolean) Bd.returns (by simp) (hb hby d6_46) hr
              · show QIs_3 Z a1 cs vF tv kt y0 y1 y2 h0 n0 _ T126.heap _
                rw [e126]
                exact ⟨(by rw [own_all3, if_pos ⟨⟨by assumption, by assumption⟩, ⟨by assumption, by assumption⟩, ⟨by assumption, by assumption⟩⟩]), N126, rfl⟩
def QIU_3 (Z : State) (a1 : Addr) (cs : Int32) (vF : Value) (tv : Addr) (kt : ClassId) (y0 y1 y2 y3 y4 y5 : Int32) (h0 : Heap) (n0 : Nat) (v : Option Value) (h : Heap) (L : List Loc) : Prop := v = some (.int (own_all3 (nar .char (nar .char (own_ut y0 y1))) (nar .char (nar .char (own_ut y2 y3))) (nar .char (nar .char (own_ut y4 y5))))) ∧ Fr n0 L ∧ h = h0
theorem rmIU_3 (l : Launch) (Z : State) (a0 : Array Value) (hw : own_H Z a0) (ws : List Jvm.Cond) (a1 : Addr) (cs : Int32) (vF : Value) (tv : Addr) (kt : ClassId) (y0 y1 y2 y3 y4 y5 : Int32) (h0 : Heap) (n0 : Nat) (Z0 : n0 ≤ h0.size) (SC : Sta Z h0 "java/lang/String" "COMPACT_STRINGS" "Z" (.int cs)) (hcs : ¬ (cs = (0 : Int32))) (SF : Sta Z h0 "jdk/internal/util/Preconditions" "SIOOBE_FORMATTER" "Ljava/util/function/BiFunction;" vF) (hF : vF.isRef = true) (SA : Sta Z h0 "java/lang/StringUTF16" "$assertionsDisabled" "Z" (.int 1)) (SH : Sta Z h0 "java/lang/StringUTF16" "HI_BYTE_SHIFT" "I" (.int 0)) (SL : Sta Z h0 "java/lang/StringUTF16" "LO_BYTE_SHIFT" "I" (.int 8)) (E1 : Exa Z h0 a1 "java/lang/String") (C1 : Fld Z h0 a1 "java/lang/String" "coder" "B" (.int 1)) (W1 : Fld Z h0 a1 "java/lang/String" "value" "[B" (.ref tv)) (V1 : Arv Z h0 tv kt .byte (6 : Int32) [(.int y0), (.int y1), (.int y2), (.int y3), (.int y4), (.int y5)] (.int 0)) :
    own_M l own_y24 prog_20_method_2_code 3 (some .boolean) ws (own_R 5 0 0 66) Z h0 #[(.ref a1)] (QIU_3 Z a1 cs vF tv kt y0 y1 y2 y3 y4 y5 h0 n0) := by
  refine own_body (plainFor_of_name pn_com_example_millipede_millipede_DecimalNumbers) fun p e s m below meth c s₁ Bd hx hby hml (hown : s.vm.findClass "com/example/millipede/millipede/DecimalNumbers" = some m.cls) hnm X0 e0 hZ => ?_
  have N0 := Fr.nil n0
  have pre0 : own_P p e below s₁ (entryFrame m #[(.ref a1)] 3) s₁ (mkF m 0 #[rv a1, .unset, .unset] []) := fun t k => castTop (by first | rfl | (simp [entryFrame, mkF, argsToLocals, Value.category]; done)) k
  obtain ⟨cq101, kq101, q101a, q101b, q101c⟩ := isOf hZ e0 E1
  obtain ⟨_, _, ⟨T101, L101, k101, n101⟩, -, X101, ⟨Lc101, hQ101, l101, y101, z101⟩, st101⟩ := X0.virtualBack hx (y := own_y18) (z := own_y18) hown (own_m hZ hw 34) (own_m hZ hw 35) (notFace_of_selects (args := #[]) (own_m hZ hw 37)) (own_m hZ hw 37) (own_m hZ hw 36) (by decide) (backOf (W := 0) (rmEm l Z a0 hw [] a1 tv kt (6 : Int32) ([(.int y0), (.int y1), (.int y2), (.int y3), (.int y4), (.int y5)]) h0 n0 Z0 W1 V1 (by decide)) hZ (own_i hw 38 rfl) (own_i hw 10 rfl) (by decide) (by decide)) q101a q101c (g := (mkF m 1 #[rv a1, .unset, .unset] [(.ref a1)])) rfl (by rw [hml]; rfl) (Steps.refl _) (argsL := []) (rest := []) (lenOf pd_7 rfl) rfl (Nat.le_of_eq rfl) (hb hby d6_1) (fun _ _ => ⟨rfl, e0, own_le rfl, own_le rfl⟩)
  dsimp only [Pt.U, Pt.locs, Pt.cells, Pt.slots] at X101 l101 y101 z101 st101 hQ101
  subst l101 y101 z101
  obtain ⟨rfl, N101q, e101⟩ := hQ101
  have N101 := Fr.app N0 N101q
  obtain ⟨cq102, kq102, q102a, q102b, q102c⟩ := isOf hZ e101 E1
  obtain ⟨_, _, ⟨T102, L102, k102, n102⟩, -, X102, ⟨Lc102, hQ102, l102, y102, z102⟩, st102⟩ := X101.virtualBack hx (y := own_y9) (z := own_y9) hown (own_m hZ hw 53) (own_m hZ hw 54) (notFace_of_selects (args := #[]) (own_m hZ hw 56)) (own_m hZ hw 56) (own_m hZ hw 55) (by decide) (backOf (W := 1) (rmLen2 l Z a0 hw [] a1 cs tv kt (6 : Int32) ([(.int y0), (.int y1), (.int y2), (.int y3), (.int y4), (.int y5)]) h0 n0 Z0 SC hcs E1 C1 W1 V1) hZ (own_i hw 57 rfl) (own_i hw 10 rfl) (by decide) (by decide)) q102a q102c (g := (mkF m 13 #[rv a1, iv 0, .unset] [(.ref a1), (.int 0)])) rfl (by rw [hml]; rfl) (Steps.refl _) (argsL := []) (rest := [(.int 0)]) (lenOf pd_15 rfl) rfl (Nat.le_of_eq rfl) (hb hby d6_13) (fun _ _ => ⟨rfl, e101, own_le rfl, own_le rfl⟩)
  dsimp only [Pt.U, Pt.locs, Pt.cells, Pt.slots] at X102 l102 y102 z102 st102 hQ102
  subst l102 y102 z102
  obtain ⟨rfl, N102q, e102⟩ := hQ102
  have N102 := Fr.app N101 N102q
  have pre103 : own_P p e below s₁ (entryFrame m #[(.ref a1)] 3) T102 (mkF m 16 #[rv a1, iv 0, .unset] [(.int ((6 : Int32) >>> ((1 : Int32) &&& 31))), (.int 0)]) := fun t k => pre0 t (by
    show Steps p.tables e below (s₁.setTop (mkF m 0 #[rv a1, .unset, .unset] [])) t
    refine XS.aloadN X0.here hx rfl (hb hby d6_0) rfl rfl ?_
    refine st101.trans ?_
    refine XS.ifYes X101.here hx rfl (pc0 := 4) (pc' := 9) rfl (hb hby d6_4) rfl ((if0 _ _).trans (teq (by decide : (0 : Int32) = (0 : Int32))).1) (by decide) (by decide) ?_
    refine XS.iconst X101.here hx rfl (hb hby d6_9) ?_
    refine XS.istoreN X101.here hx rfl (hb hby d6_10) rfl (l' := #[rv a1, iv 0, .unset]) rfl ?_
    refine XS.iloadN X101.here hx rfl (hb hby d6_11) rfl ?_
    refine XS.aloadN X101.here hx rfl (hb hby d6_12) rfl rfl ?_
    refine st102.trans ?_
    exact k)
  have pre104 : own_P p e below s₁ (entryFrame m #[(.ref a1)] 3) T102 (mkF m 16 #[rv a1, iv 0, .unset] [(.int 3), (.int 0)]) := fun t k => pre103 t (by rw [show ((6 : Int32) >>> ((1 : Int32) &&& 31)) = (3 : Int32) from (by decide)]; exact k)
  obtain ⟨cq105, kq105, q105a, q105b, q105c⟩ := isOf hZ e102 E1
  obtain ⟨_, _, ⟨T105, L105, k105, n105⟩, -, X105, ⟨Lc105, hQ105, l105, y105, z105⟩, st105⟩ := X102.virtualBack hx (y := own_y13) (z := own_y13) hown (own_m hZ hw 63) (own_m hZ hw 64) (notFace_of_selects (args := #[]) (own_m hZ hw 66)) (own_m hZ hw 66) (own_m hZ hw 65) (by decide) (backOf (W := 0) (rmCh2 l Z a0 hw [] a1 (0 : Int32) cs vF tv kt y0 y1 (6 : Int32) ([(.int y0), (.int y1), (.int y2), (.int y3), (.int y4), (.int y5)]) h0 n0 Z0 SC hcs SF hF SA SH SL E1 C1 W1 V1 (by decide) (by decide) (by decide) (by decide) (by decide) (by decide) rfl rfl) hZ (own_i hw 67 rfl) (own_i hw 10 rfl) (by decide) (by decide)) q105a q105c (g := (mkF m 21 #[rv a1, iv 0, .unset] [(.int 0), (.ref a1)])) rfl (by rw [hml]; rfl) (Steps.refl _) (argsL := [(.int 0)]) (rest := []) (lenOf pd_16 rfl) rfl (Nat.le_of_eq rfl) (hb hby d6_21) (fun _ _ => ⟨rfl, e102, own_le rfl, own_le rfl⟩)
  dsimp only [Pt.U, Pt.locs, Pt.cells, Pt.slots] at X105 l105 y105 z105 st105 hQ105
  subst l105 y105 z105
  obtain ⟨rfl, N105q, e105⟩ := hQ105
  have N105 := Fr.app N102 N105q
  have pre107 : own_P p e below s₁ (entryFrame m #[(.ref a1)] 3) T105 (mkF m 28 #[rv a1, iv 0, iv (nar .char (nar .char (own_ut y0 y1)))] [(.int 48), (.int (nar .char (nar .char (own_ut y0 y1))))]) := fun t k => pre104 t (by
    show Steps p.tables e below (T102.setTop (mkF m 16 #[rv a1, iv 0, .unset] [(.int 3), (.int 0)])) t
    refine XS.icmpNo X102.here hx rfl (hb hby d6_16) rfl (tlt (by decide : (0 : Int32) < (3 : Int32))).2.1 ?_
    refine XS.aloadN X102.here hx rfl (hb hby d6_19) rfl rfl ?_
    refine XS.iloadN X102.here hx rfl (hb hby d6_20) rfl ?_
    refine st105.trans ?_
    refine XS.istoreN X105.here hx rfl (hb hby d6_24) rfl (l' := #[rv a1, iv 0, iv (nar .char (nar .char (own_ut y0 y1)))]) rfl ?_
    refine XS.iloadN X105.here hx rfl (hb hby d6_25) rfl ?_
    refine XS.bipush X105.here hx rfl (hb hby d6_26) ?_
    exact k)
  by_cases hc106 : (nar .char (nar .char (own_ut y0 y1))) < (48 : Int32)
  · have pre108 : own_P p e below s₁ (entryFrame m #[(.ref a1)] 3) T105 (mkF m 38 #[rv a1, iv 0, iv (nar .char (nar .char (own_ut y0 y1)))] [(.int 0)]) := fun t k => pre107 t (by
      refine XS.icmpYes X105.here hx rfl (pc0 := 28) (pc' := 37) rfl (hb hby d6_28) rfl (tlt hc106).1 (by decide) (by decide) ?_
      refine XS.iconst X105.here hx rfl (hb hby d6_37) ?_
      exact k)
    obtain ⟨fs, hr, hrun, hended, hW, hsame⟩ := X105.leave (v := some (.int 0)) (fun h => by rw [Bd.returns] at h; cases h)
    refine ⟨_, _, pre108 _ ?_, hrun, hended, _, _, rfl, ?_, ⟨_, rfl⟩, hW, hsame.mono (by decide) (by decide)⟩
    · exact retN X105 hx (t := .boolean) Bd.returns (by simp) (hb hby d6_38) hr
    · show QIU_3 Z a1 cs vF tv kt y0 y1 y2 y3 y4 y5 h0 n0 _ T105.heap _
      rw [e105]
      exact ⟨(by rw [own_all3, if_neg (by rintro ⟨⟨_, _⟩, ⟨_, _⟩, ⟨_, _⟩⟩ <;> contradiction)]), N105, rfl⟩
  · have pre110 : own_P p e below s₁ (entryFrame m #[(.ref a1)] 3) T105 (mkF m 34 #[rv a1, iv 0, iv (nar .char (nar .char (own_ut y0 y1)))] [(.int 57), (.int (nar .char (nar .char (own_ut y0 y1))))]) := fun t k => pre107 t (by
      refine XS.icmpNo X105.here hx rfl (hb hby d6_28) rfl (flt hc106).1 ?_
      refine XS.iloadN X105.here hx rfl (hb hby d6_31) rfl ?_
      refine XS.bipush X105.here hx rfl (hb hby d6_32) ?_
      exact k)
    by_cases hc109 : (57 : Int32) < (nar .char (nar .char (own_ut y0 y1)))
    · have pre111 : own_P p e below s₁ (entryFrame m #[(.ref a1)] 3) T105 (mkF m 38 #[rv a1, iv 0, iv (nar .char (nar .char (own_ut y0 y1)))] [(.int 0)]) := fun t k => pre110 t (by
        refine XS.icmpNo X105.here hx rfl (hb hby d6_34) rfl (tlt hc109).2.2.2 ?_
        refine XS.iconst X105.here hx rfl (hb hby d6_37) ?_
        exact k)
      obtain ⟨fs, hr, hrun, hended, hW, hsame⟩ := X105.leave (v := some (.int 0)) (fun h => by rw [Bd.returns] at h; cases h)
      refine ⟨_, _, pre111 _ ?_, hrun, hended, _, _, rfl, ?_, ⟨_, rfl⟩, hW, hsame.mono (by decide) (by decide)⟩
      · exact retN X105 hx (t := .boolean) Bd.returns (by simp) (hb hby d6_38) hr
      · show QIU_3 Z a1 cs vF tv kt y0 y1 y2 y3 y4 y5 h0 n0 _ T105.heap _
        rw [e105]
        exact ⟨(by rw [own_all3, if_neg (by rintro ⟨⟨_, _⟩, ⟨_, _⟩, ⟨_, _⟩⟩ <;> contradiction)]), N105, rfl⟩
    · obtain ⟨cq112, kq112, q112a, q112b, q112c⟩ := isOf hZ e105 E1
      obtain ⟨_, _, ⟨T112, L112, k112, n112⟩, -, X112, ⟨Lc112, hQ112, l112, y112, z112⟩, st112⟩ := X105.virtualBack hx (y := own_y9) (z := own_y9) hown (own_m hZ hw 53) (own_m hZ hw 54) (notFace_of_selects (args := #[]) (own_m hZ hw 56)) (own_m hZ hw 56) (own_m hZ hw 55) (by decide) (backOf (W := 1) (rmLen2 l Z a0 hw [] a1 cs tv kt (6 : Int32) ([(.int y0), (.int y1), (.int y2), (.int y3), (.int y4), (.int y5)]) h0 n0 Z0 SC hcs E1 C1 W1 V1) hZ (own_i hw 57 rfl) (own_i hw 10 rfl) (by decide) (by decide)) q112a q112c (g := (mkF m 13 #[rv a1, iv 1, iv (nar .char (nar .char (own_ut y0 y1)))] [(.ref a1), (.int 1)])) rfl (by rw [hml]; rfl) (Steps.refl _) (argsL := []) (rest := [(.int 1)]) (lenOf pd_15 rfl) rfl (Nat.le_of_eq rfl) (hb hby d6_13) (fun _ _ => ⟨rfl, e105, own_le rfl, own_le rfl⟩)
      dsimp only [Pt.U, Pt.locs, Pt.cells, Pt.slots] at X112 l112 y112 z112 st112 hQ112
      subst l112 y112 z112
      obtain ⟨rfl, N112q, e112⟩ := hQ112
      have N112 := Fr.app N105 N112q
      have pre113 : own_P p e below s₁ (entryFrame m #[(.ref a1)] 3) T112 (mkF m 16 #[rv a1, iv 1, iv (nar .char (nar .char (own_ut y0 y1)))] [(.int ((6 : Int32) >>> ((1 : Int32) &&& 31))), (.int 1)]) := fun t k => pre110 t (by
        refine XS.icmpYes X105.here hx rfl (pc0 := 34) (pc' := 39) rfl (hb hby d6_34) rfl (flt hc109).2.2.2 (by decide) (by decide) ?_
        refine XS.iinc X105.here hx rfl (hb hby d6_39) rfl (l' := #[rv a1, iv 1, iv (nar .char (nar .char (own_ut y0 y1)))]) rfl ?_
        refine XS.goto X105.here hx rfl (pc0 := 42) (pc' := 11) rfl (hb hby d6_42) (by decide) (by decide) ?_
        refine XS.iloadN X105.here hx rfl (hb hby d6_11) rfl ?_
        refine XS.aloadN X105.here hx rfl (hb hby d6_12) rfl rfl ?_
        refine st112.trans ?_
        exact k)
      have pre114 : own_P p e below s₁ (entryFrame m #[(.ref a1)] 3) T112 (mkF m 16 #[rv a1, iv 1, iv (nar .char (nar .char (own_ut y0 y1)))] [(.int 3), (.int 1)]) := fun t k => pre113 t (by rw [show ((6 : Int32) >>> ((1 : Int32) &&& 31)) = (3 : Int32) from (by decide)]; exact k)
      obtain ⟨cq115, kq115, q115a, q115b, q115c⟩ := isOf hZ e112 E1
      obtain ⟨_, _, ⟨T115, L115, k115, n115⟩, -, X115, ⟨Lc115, hQ115, l115, y115, z115⟩, st115⟩ := X112.virtualBack hx (y := own_y13) (z := own_y13) hown (own_m hZ hw 63) (own_m hZ hw 64) (notFace_of_selects (args := #[]) (own_m hZ hw 66)) (own_m hZ hw 66) (own_m hZ hw 65) (by decide) (backOf (W := 0) (rmCh2 l Z a0 hw [] a1 (1 : Int32) cs vF tv kt y2 y3 (6 : Int32) ([(.int y0), (.int y1), (.int y2), (.int y3), (.int y4), (.int y5)]) h0 n0 Z0 SC hcs SF hF SA SH SL E1 C1 W1 V1 (by decide) (by decide) (by decide) (by decide) (by decide) (by decide) rfl rfl) hZ (own_i hw 67 rfl) (own_i hw 10 rfl) (by decide) (by decide)) q115a q115c (g := (mkF m 21 #[rv a1, iv 1, iv (nar .char (nar .char (own_ut y0 y1)))] [(.int 1), (.ref a1)])) rfl (by rw [hml]; rfl) (Steps.refl _) (argsL := [(.int 1)]) (rest := []) (lenOf pd_16 rfl) rfl (Nat.le_of_eq rfl) (hb hby d6_21) (fun _ _ => ⟨rfl, e112, own_le rfl, own_le rfl⟩)
      dsimp only [Pt.U, Pt.locs, Pt.cells, Pt.slots] at X115 l115 y115 z115 st115 hQ115
      subst l115 y115 z115
      obtain ⟨rfl, N115q, e115⟩ := hQ115
      have N115 := Fr.app N112 N115q
      have pre117 : own_P p e below s₁ (entryFrame m #[(.ref a1)] 3) T115 (mkF m 28 #[rv a1, iv 1, iv (nar .char (nar .char (own_ut y2 y3)))] [(.int 48), (.int (nar .char (nar .char (own_ut y2 y3))))]) := fun t k => pre114 t (by
        show Steps p.tables e below (T112.setTop (mkF m 16 #[rv a1, iv 1, iv (nar .char (nar .char (own_ut y0 y1)))] [(.int 3), (.int 1)])) t
        refine XS.icmpNo X112.here hx rfl (hb hby d6_16) rfl (tlt (by decide : (1 : Int32) < (3 : Int32))).2.1 ?_
        refine XS.aloadN X112.here hx rfl (hb hby d6_19) rfl rfl ?_
        refine XS.iloadN X112.here hx rfl (hb hby d6_20) rfl ?_
        refine st115.trans ?_
        refine XS.istoreN X115.here hx rfl (hb hby d6_24) rfl (l' := #[rv a1, iv 1, iv (nar .char (nar .char (own_ut y2 y3)))]) rfl ?_
        refine XS.iloadN X115.here hx rfl (hb hby d6_25) rfl ?_
        refine XS.bipush X115.here hx rfl (hb hby d6_26) ?_
        exact k)
      by_cases hc116 : (nar .char (nar .char (own_ut y2 y3))) < (48 : Int32)
      · have pre118 : own_P p e below s₁ (entryFrame m #[(.ref a1)] 3) T115 (mkF m 38 #[rv a1, iv 1, iv (nar .char (nar .char (own_ut y2 y3)))] [(.int 0)]) := fun t k => pre117 t (by
          refine XS.icmpYes X115.here hx rfl (pc0 := 28) (pc' := 37) rfl (hb hby d6_28) rfl (tlt hc116).1 (by decide) (by decide) ?_
          refine XS.iconst X115.here hx rfl (hb hby d6_37) ?_
          exact k)
        obtain ⟨fs, hr, hrun, hended, hW, hsame⟩ := X115.leave (v := some (.int 0)) (fun h => by rw [Bd.returns] at h; cases h)
        refine ⟨_, _, pre118 _ ?_, hrun, hended, _, _, rfl, ?_, ⟨_, rfl⟩, hW, hsame.mono (by decide) (by decide)⟩
        · exact retN X115 hx (t := .boolean) Bd.returns (by simp) (hb hby d6_38) hr
        · show QIU_3 Z a1 cs vF tv kt y0 y1 y2 y3 y4 y5 h0 n0 _ T115.heap _
          rw [e115]
          exact ⟨(by rw [own_all3, if_neg (by rintro ⟨⟨_, _⟩, ⟨_, _⟩, ⟨_, _⟩⟩ <;> contradiction)]), N115, rfl⟩
      · have pre120 : own_P p e below s₁ (entryFrame m #[(.ref a1)] 3) T115 (mkF m 34 #[rv a1, iv 1, iv (nar .char (nar .char (own_ut y2 y3)))] [(.int 57), (.int (nar .char (nar .char (own_ut y2 y3))))]) := fun t k => pre117 t (by
          refine XS.icmpNo X115.here hx rfl (hb hby d6_28) rfl (flt hc116).1 ?_
          refine XS.iloadN X115.here hx rfl (hb hby d6_31) rfl ?_
          refine XS.bipush X115.here hx rfl (hb hby d6_32) ?_
          exact k)
        by_cases hc119 : (57 : Int32) < (nar .char (nar .char (own_ut y2 y3)))
        · have pre121 : own_P p e below s₁ (entryFrame m #[(.ref a1)] 3) T115 (mkF m 38 #[rv a1, iv 1, iv (nar .char (nar .char (own_ut y2 y3)))] [(.int 0)]) := fun t k => pre120 t (by
            refine XS.icmpNo X115.here hx rfl (hb hby d6_34) rfl (tlt hc119).2.2.2 ?_
            refine XS.iconst X115.here hx rfl (hb hby d6_37) ?_
            exact k)
          obtain ⟨fs, hr, hrun, hended, hW, hsame⟩ := X115.leave (v := some (.int 0)) (fun h => by rw [Bd.returns] at h; cases h)
          refine ⟨_, _, pre121 _ ?_, hrun, hended, _, _, rfl, ?_, ⟨_, rfl⟩, hW, hsame.mono (by decide) (by decide)⟩
          · exact retN X115 hx (t := .boolean) Bd.returns (by simp) (hb hby d6_38) hr
          · show QIU_3 Z a1 cs vF tv kt y0 y1 y2 y3 y4 y5 h0 n0 _ T115.heap _
            rw [e115]
            exact ⟨(by rw [own_all3, if_neg (by rintro ⟨⟨_, _⟩, ⟨_, _⟩, ⟨_, _⟩⟩ <;> contradiction)]), N115, rfl⟩
        · obtain ⟨cq122, kq122, q122a, q122b, q122c⟩ := isOf hZ e115 E1
          obtain ⟨_, _, ⟨T122, L122, k122, n122⟩, -, X122, ⟨Lc122, hQ122, l122, y122, z122⟩, st122⟩ := X115.virtualBack hx (y := own_y9) (z := own_y9) hown (own_m hZ hw 53) (own_m hZ hw 54) (notFace_of_selects (args := #[]) (own_m hZ hw 56)) (own_m hZ hw 56) (own_m hZ hw 55) (by decide) (backOf (W := 1) (rmLen2 l Z a0 hw [] a1 cs tv kt (6 : Int32) ([(.int y0), (.int y1), (.int y2), (.int y3), (.int y4), (.int y5)]) h0 n0 Z0 SC hcs E1 C1 W1 V1) hZ (own_i hw 57 rfl) (own_i hw 10 rfl) (by decide) (by decide)) q122a q122c (g := (mkF m 13 #[rv a1, iv 2, iv (nar .char (nar .char (own_ut y2 y3)))] [(.ref a1), (.int 2)])) rfl (by rw [hml]; rfl) (Steps.refl _) (argsL := []) (rest := [(.int 2)]) (lenOf pd_15 rfl) rfl (Nat.le_of_eq rfl) (hb hby d6_13) (fun _ _ => ⟨rfl, e115, own_le rfl, own_le rfl⟩)
          dsimp only [Pt.U, Pt.locs, Pt.cells, Pt.slots] at X122 l122 y122 z122 st122 hQ122
          subst l122 y122 z122
          obtain ⟨rfl, N122q, e122⟩ := hQ122
          have N122 := Fr.app N115 N122q
          have pre123 : own_P p e below s₁ (entryFrame m #[(.ref a1)] 3) T122 (mkF m 16 #[rv a1, iv 2, iv (nar .char (nar .char (own_ut y2 y3)))] [(.int ((6 : Int32) >>> ((1 : Int32) &&& 31))), (.int 2)]) := fun t k => pre120 t (by
            refine XS.icmpYes X115.here hx rfl (pc0 := 34) (pc' := 39) rfl (hb hby d6_34) rfl (flt hc119).2.2.2 (by decide) (by decide) ?_
            refine XS.iinc X115.here hx rfl (hb hby d6_39) rfl (l' := #[rv a1, iv 2, iv (nar .char (nar .char (own_ut y2 y3)))]) rfl ?_
            refine XS.goto X115.here hx rfl (pc0 := 42) (pc' := 11) rfl (hb hby d6_42) (by decide) (by decide) ?_
            refine XS.iloadN X115.here hx rfl (hb hby d6_11) rfl ?_
            refine XS.aloadN X115.here hx rfl (hb hby d6_12) rfl rfl ?_
            refine st122.trans ?_
            exact k)
          have pre124 : own_P p e below s₁ (entryFrame m #[(.ref a1)] 3) T122 (mkF m 16 #[rv a1, iv 2, iv (nar .char (nar .char (own_ut y2 y3)))] [(.int 3), (.int 2)]) := fun t k => pre123 t (by rw [show ((6 : Int32) >>> ((1 : Int32) &&& 31)) = (3 : Int32) from (by decide)]; exact k)
          obtain ⟨cq125, kq125, q125a, q125b, q125c⟩ := isOf hZ e122 E1
          obtain ⟨_, _, ⟨T125, L125, k125, n125⟩, -, X125, ⟨Lc125, hQ125, l125, y125, z125⟩, st125⟩ := X122.virtualBack hx (y := own_y13) (z := own_y13) hown (own_m hZ hw 63) (own_m hZ hw 64) (notFace_of_selects (args := #[]) (own_m hZ hw 66)) (own_m hZ hw 66) (own_m hZ hw 65) (by decide) (backOf (W := 0) (rmCh2 l Z a0 hw [] a1 (2 : Int32) cs vF tv kt y4 y5 (6 : Int32) ([(.int y0), (.int y1), (.int y2), (.int y3), (.int y4), (.int y5)]) h0 n0 Z0 SC hcs SF hF SA SH SL E1 C1 W1 V1 (by decide) (by decide) (by decide) (by decide) (by decide) (by decide) rfl rfl) hZ (own_i hw 67 rfl) (own_i hw 10 rfl) (by decide) (by decide)) q125a q125c (g := (mkF m 21 #[rv a1, iv 2, iv (nar .char (nar .char (own_ut y2 y3)))] [(.int 2), (.ref a1)])) rfl (by rw [hml]; rfl) (Steps.refl _) (argsL := [(.int 2)]) (rest := []) (lenOf pd_16 rfl) rfl (Nat.le_of_eq rfl) (hb hby d6_21) (fun _ _ => ⟨rfl, e122, own_le rfl, own_le rfl⟩)
          dsimp only [Pt.U, Pt.locs, Pt.cells, Pt.slots] at X125 l125 y125 z125 st125 hQ125
          subst l125 y125 z125
          obtain ⟨rfl, N125q, e125⟩ := hQ125
          have N125 := Fr.app N122 N125q
          have pre127 : own_P p e below s₁ (entryFrame m #[(.ref a1)] 3) T125 (mkF m 28 #[rv a1, iv 2, iv (nar .char (nar .char (own_ut y4 y5)))] [(.int 48), (.int (nar .char (nar .char (own_ut y4 y5))))]) := fun t k => pre124 t (by
            show Steps p.tables e below (T122.setTop (mkF m 16 #[rv a1, iv 2, iv (nar .char (nar .char (own_ut y2 y3)))] [(.int 3), (.int 2)])) t
            refine XS.icmpNo X122.here hx rfl (hb hby d6_16) rfl (tlt (by decide : (2 : Int32) < (3 : Int32))).2.1 ?_
            refine XS.aloadN X122.here hx rfl (hb hby d6_19) rfl rfl ?_
            refine XS.iloadN X122.here hx rfl (hb hby d6_20) rfl ?_
            refine st125.trans ?_
            refine XS.istoreN X125.here hx rfl (hb hby d6_24) rfl (l' := #[rv a1, iv 2, iv (nar .char (nar .char (own_ut y4 y5)))]) rfl ?_
            refine XS.iloadN X125.here hx rfl (hb hby d6_25) rfl ?_
            refine XS.bipush X125.here hx rfl (hb hby d6_26) ?_
            exact k)
          by_cases hc126 : (nar .char (nar .char (own_ut y4 y5))) < (48 : Int32)
          · have pre128 : own_P p e below s₁ (entryFrame m #[(.ref a1)] 3) T125 (mkF m 38 #[rv a1, iv 2, iv (nar .char (nar .char (own_ut y4 y5)))] [(.int 0)]) := fun t k => pre127 t (by
              refine XS.icmpYes X125.here hx rfl (pc0 := 28) (pc' := 37) rfl (hb hby d6_28) rfl (tlt hc126).1 (by decide) (by decide) ?_
              refine XS.iconst X125.here hx rfl (hb hby d6_37) ?_
              exact k)
            obtain ⟨fs, hr, hrun, hended, hW, hsame⟩ := X125.leave (v := some (.int 0)) (fun h => by rw [Bd.returns] at h; cases h)
            refine ⟨_, _, pre128 _ ?_, hrun, hended, _, _, rfl, ?_, ⟨_, rfl⟩, hW, hsame.mono (by decide) (by decide)⟩
            · exact retN X125 hx (t := .boolean) Bd.returns (by simp) (hb hby d6_38) hr
            · show QIU_3 Z a1 cs vF tv kt y0 y1 y2 y3 y4 y5 h0 n0 _ T125.heap _
              rw [e125]
              exact ⟨(by rw [own_all3, if_neg (by rintro ⟨⟨_, _⟩, ⟨_, _⟩, ⟨_, _⟩⟩ <;> contradiction)]), N125, rfl⟩
          · have pre130 : own_P p e below s₁ (entryFrame m #[(.ref a1)] 3) T125 (mkF m 34 #[rv a1, iv 2, iv (nar .char (nar .char (own_ut y4 y5)))] [(.int 57), (.int (nar .char (nar .char (own_ut y4 y5))))]) := fun t k => pre127 t (by
              refine XS.icmpNo X125.here hx rfl (hb hby d6_28) rfl (flt hc126).1 ?_
              refine XS.iloadN X125.here hx rfl (hb hby d6_31) rfl ?_
              refine XS.bipush X125.here hx rfl (hb hby d6_32) ?_
              exact k)
            by_cases hc129 : (57 : Int32) < (nar .char (nar .char (own_ut y4 y5)))
            · have pre131 : own_P p e below s₁ (entryFrame m #[(.ref a1)] 3) T125 (mkF m 38 #[rv a1, iv 2, iv (nar .char (nar .char (own_ut y4 y5)))] [(.int 0)]) := fun t k => pre130 t (by
                refine XS.icmpNo X125.here hx rfl (hb hby d6_34) rfl (tlt hc129).2.2.2 ?_
                refine XS.iconst X125.here hx rfl (hb hby d6_37) ?_
                exact k)
              obtain ⟨fs, hr, hrun, hended, hW, hsame⟩ := X125.leave (v := some (.int 0)) (fun h => by rw [Bd.returns] at h; cases h)
              refine ⟨_, _, pre131 _ ?_, hrun, hended, _, _, rfl, ?_, ⟨_, rfl⟩, hW, hsame.mono (by decide) (by decide)⟩
              · exact retN X125 hx (t := .boolean) Bd.returns (by simp) (hb hby d6_38) hr
              · show QIU_3 Z a1 cs vF tv kt y0 y1 y2 y3 y4 y5 h0 n0 _ T125.heap _
                rw [e125]
                exact ⟨(by rw [own_all3, if_neg (by rintro ⟨⟨_, _⟩, ⟨_, _⟩, ⟨_, _⟩⟩ <;> contradiction)]), N125, rfl⟩
            · obtain ⟨cq132, kq132, q132a, q132b, q132c⟩ := isOf hZ e125 E1
              obtain ⟨_, _, ⟨T132, L132, k132, n132⟩, -, X132, ⟨Lc132, hQ132, l132, y132, z132⟩, st132⟩ := X125.virtualBack hx (y := own_y9) (z := own_y9) hown (own_m hZ hw 53) (own_m hZ hw 54) (notFace_of_selects (args := #[]) (own_m hZ hw 56)) (own_m hZ hw 56) (own_m hZ hw 55) (by decide) (backOf (W := 1) (rmLen2 l Z a0 hw [] a1 cs tv kt (6 : Int32) ([(.int y0), (.int y1), (.int y2), (.int y3), (.int y4), (.int y5)]) h0 n0 Z0 SC hcs E1 C1 W1 V1) hZ (own_i hw 57 rfl) (own_i hw 10 rfl) (by decide) (by decide)) q132a q132c (g := (mkF m 13 #[rv a1, iv 3, iv (nar .char (nar .char (own_ut y4 y5)))] [(.ref a1), (.int 3)])) rfl (by rw [hml]; rfl) (Steps.refl _) (argsL := []) (rest := [(.int 3)]) (lenOf pd_15 rfl) rfl (Nat.le_of_eq rfl) (hb hby d6_13) (fun _ _ => ⟨rfl, e125, own_le rfl, own_le rfl⟩)
              dsimp only [Pt.U, Pt.locs, Pt.cells, Pt.slots] at X132 l132 y132 z132 st132 hQ132
              subst l132 y132 z132
              obtain ⟨rfl, N132q, e132⟩ := hQ132
              have N132 := Fr.app N125 N132q
              have pre133 : own_P p e below s₁ (entryFrame m #[(.ref a1)] 3) T132 (mkF m 16 #[rv a1, iv 3, iv (nar .char (nar .char (own_ut y4 y5)))] [(.int ((6 : Int32) >>> ((1 : Int32) &&& 31))), (.int 3)]) := fun t k => pre130 t (by
                refine XS.icmpYes X125.here hx rfl (pc0 := 34) (pc' := 39) rfl (hb hby d6_34) rfl (flt hc129).2.2.2 (by decide) (by decide) ?_
                refine XS.iinc X125.here hx rfl (hb hby d6_39) rfl (l' := #[rv a1, iv 3, iv (nar .char (nar .char (own_ut y4 y5)))]) rfl ?_
                refine XS.goto X125.here hx rfl (pc0 := 42) (pc' := 11) rfl (hb hby d6_42) (by decide) (by decide) ?_
                refine XS.iloadN X125.here hx rfl (hb hby d6_11) rfl ?_
                refine XS.aloadN X125.here hx rfl (hb hby d6_12) rfl rfl ?_
                refine st132.trans ?_
                exact k)
              have pre134 : own_P p e below s₁ (entryFrame m #[(.ref a1)] 3) T132 (mkF m 16 #[rv a1, iv 3, iv (nar .char (nar .char (own_ut y4 y5)))] [(.int 3), (.int 3)]) := fun t k => pre133 t (by rw [show ((6 : Int32) >>> ((1 : Int32) &&& 31)) = (3 : Int32) from (by decide)]; exact k)
              have pre135 : own_P p e below s₁ (entryFrame m #[(.ref a1)] 3) T132 (mkF m 46 #[rv a1, iv 3, iv (nar .char (nar .char (own_ut y4 y5)))] [(.int 1)]) := fun t k => pre134 t (by
                show Steps p.tables e below (T132.setTop (mkF m 16 #[rv a1, iv 3, iv (nar .char (nar .char (own_ut y4 y5)))] [(.int 3), (.int 3)])) t
                refine XS.icmpYes X132.here hx rfl (pc0 := 16) (pc' := 45) rfl (hb hby d6_16) rfl (flt (by decide : ¬ ((3 : Int32) < (3 : Int32)))).2.1 (by decide) (by decide) ?_
                refine XS.iconst X132.here hx rfl (hb hby d6_45) ?_
                exact k)
              obtain ⟨fs, hr, hrun, hended, hW, hsame⟩ := X132.leave (v := some (.int 1)) (fun h => by rw [Bd.returns] at h; cases h)
              refine ⟨_, _, pre135 _ ?_, hrun, hended, _, _, rfl, ?_, ⟨_, rfl⟩, hW, hsame.mono (by decide) (by decide)⟩
              · exact retN X132 hx (t := .boolean) Bd.returns (by simp) (hb hby d6_46) hr
              · show QIU_3 Z a1 cs vF tv kt y0 y1 y2 y3 y4 y5 h0 n0 _ T132.heap _
                rw [e132]
                exact ⟨(by rw [own_all3, if_pos ⟨⟨by assumption, by assumption⟩, ⟨by assumption, by assumption⟩, ⟨by assumption, by assumption⟩⟩]), N132, rfl⟩
def QM_4 (Z : State) (p2 p3 p4 p5 cs : Int32) (h0 : Heap) (n0 : Nat) (v : Option Value) (h : Heap) (L : List Loc) : Prop := ∃ (b t : Addr) (kt : ClassId), v = some (.ref b) ∧ Fr n0 L ∧ Keep h0 h [] ∧ (n0 ≤ b) ∧ (h0.size ≤ b) ∧ (Exa Z h b "java/lang/String") ∧ (Fld Z h b "java/lang/String" "coder" "B" (.int 0)) ∧ (Fld Z h b "java/lang/String" "value" "[B" (.ref t)) ∧ (n0 ≤ t) ∧ (h0.size ≤ t) ∧ (Arv Z h t kt .byte (4 : Int32) [(.int (nar .byte ((nar .char p2).toInt8.toInt32))), (.int (nar .byte ((nar .char p3).toInt8.toInt32))), (.int (nar .byte ((nar .char p4).toInt8.toInt32))), (.int (nar .byte ((nar .char p5).toInt8.toInt32)))] (.int 0))
theorem rmM_4 (l : Launch) (Z : State) (a0 : Array Value) (hw : own_H Z a0) (ws : List Jvm.Cond) (p2 p3 p4 p5 cs : Int32) (h0 : Heap) (n0 : Nat) (Z0 : n0 ≤ h0.size) (SC : Sta Z Z.heap "java/lang/String" "COMPACT_STRINGS" "Z" (.int cs)) (hcs : ¬ (cs = (0 : Int32))) (O0 : Old Z n0 h0) (hx0 : ¬ ((255 : Int32) < (nar .char p2))) (hx1 : ¬ ((255 : Int32) < (nar .char p3))) (hx2 : ¬ ((255 : Int32) < (nar .char p4))) (hx3 : ¬ ((255 : Int32) < (nar .char p5))) :
    own_M l own_y23 method_4_code 5 (some (.object "java/lang/String")) ws (own_R 4 3 12 66) Z h0 #[(.int 4), (.int p2), (.int p3), (.int p4), (.int p5)] (QM_4 Z p2 p3 p4 p5 cs h0 n0) := by
  refine own_body (plainFor_of_name pn_com_example_millipede_millipede_DecimalNumbersIsNumberPinLaw) fun p e s m below meth c s₁ Bd hx hby hml (hown : s.vm.findClass "com/example/millipede/millipede/DecimalNumbersIsNumberPinLaw" = some m.cls) hnm X0 e0 hZ => ?_
  have N0 := Fr.nil n0
  have pre0 : own_P p e below s₁ (entryFrame m #[(.int 4), (.int p2), (.int p3), (.int p4), (.int p5)] 5) s₁ (mkF m 0 #[iv 4, iv p2, iv p3, iv p4, iv p5] []) := fun t k => castTop (by first | rfl | (simp [entryFrame, mkF, argsToLocals, Value.category]; done)) k
  have f101 := Keep.refl h0 []
  obtain ⟨T102, h102, X102, e102, E102, A102, D102, -, st102⟩ := newO X0 hx hZ hown (own_i hw 8 rfl) (own_i hw 9 rfl) (own_i hw 10 rfl) e0 (g := (mkF m 87 #[iv 4, iv p2, iv p3, iv p4, iv p5] [])) rfl (hb hby d2_87) (by decide) (by decide)
  obtain ⟨b102, g102⟩ : ∃ z, z = h0.size := ⟨_, rfl⟩
  rw [← g102] at A102 D102 st102
  have ga103 : n0 ≤ b102 := Nat.le_trans Z0 (Nat.le_of_eq g102.symm)
  have sz104 : h0.size ≤ b102 := Nat.le_trans f101.1 (Nat.le_of_eq g102.symm)
  have f105 : Fld Z h102 b102 "java/lang/String" "value" "[B" .null := D102 (Or.inr (own_i hw 24 rfl)) (ty := (.array .byte)) (by decide)
  have f106 : Fld Z h102 b102 "java/lang/String" "coder" "B" (.int 0) := D102 (Or.inr (own_i hw 25 rfl)) (ty := .byte) (by decide)
  have f107 := Nat.le_trans Z0 E102.1
  have f108 := O0.ext E102
  have f109 := f101.ext E102
  obtain ⟨T110, h110, k110, X110, e110, E110, A110, st110⟩ := newP X102 hx hZ (own_i hw 11 rfl) e102 (g := (mkF m 92 #[iv 4, iv p2, iv p3, iv p4, iv p5] [(.int 4), (.ref b102), (.ref b102)])) rfl (hb hby d2_92) rfl (by decide) (cap := 4) (by decide) (by decide) (by decide) (by decide)
  obtain ⟨b110, g110⟩ : ∃ z, z = h102.size := ⟨_, rfl⟩
  rw [← g110] at A110 st110
  have ne111 : b102 ≠ b110 := Nat.ne_of_lt (Nat.lt_of_lt_of_le A102.lt (Nat.le_of_eq g110.symm))
  have ga112 : n0 ≤ b110 := Nat.le_trans f107 (Nat.le_of_eq g110.symm)
  have sz113 : h0.size ≤ b110 := Nat.le_trans f109.1 (Nat.le_of_eq g110.symm)
  have V110 : Arv Z h110 b110 k110 .char (4 : Int32) [(.int 0), (.int 0), (.int 0), (.int 0)] (.int 0) := (Arv.new A110 (by decide)).pad (pad_rep [] (.int 0) 4)
  have f114 := Nat.le_trans f107 E110.1
  have f115 := f108.ext E110
  have f116 := f109.ext E110
  have f117 := A102.ext E110
  have f118 := f105.ext E110
  have f119 := f106.ext E110
  obtain ⟨cl120, Ar120, q120, S120, N120z, H120, G120⟩ := (id V110)
  have hin120 : ¬ ((0 : Int32) < 0 ∨ cl120.slots.size ≤ ((0 : Int32)).toNatClampNeg) := inb_of S120 ⟨by decide, by decide⟩
  obtain ⟨T120, h120, X120, e120, W120, st120⟩ := stC X110 hx hZ e110 Ar120 (j := (0 : Int32)) hin120 (g := (mkF m 97 #[iv 4, iv p2, iv p3, iv p4, iv p5] [(.int p2), (.int 0), (.ref b110), (.ref b110), (.ref b102), (.ref b102)])) rfl rfl (hb hby d2_97)
  have V120 : Arv Z h120 b110 k110 .char (4 : Int32) [(.int (nar .char p2)), (.int 0), (.int 0), (.int 0)] (.int 0) := Arv.set Ar120 q120 S120 N120z H120 G120 (fits_nar_char _) W120 0 rfl (Nat.le_of_ble_eq_true rfl)
  have N120 := Fr.snoc X120 N0 ga112
  have f121 := Nat.le_trans f114 (Keep.of_wr W120).1
  have f122 := f115.wr W120 ga112
  have f123 := f116.wr W120 (Or.inr sz113)
  have f124 := f117.wr W120
  have f125 := f118.other W120 (Or.inl ne111)
  have f126 := f119.other W120 (Or.inl ne111)
  obtain ⟨cl127, Ar127, q127, S127, N127z, H127, G127⟩ := (id V120)
  have hin127 : ¬ ((1 : Int32) < 0 ∨ cl127.slots.size ≤ ((1 : Int32)).toNatClampNeg) := inb_of S127 ⟨by decide, by decide⟩
  obtain ⟨T127, h127, X127, e127, W127, st127⟩ := stC X120 hx hZ e120 Ar127 (j := (1 : Int32)) hin127 (g := (mkF m 101 #[iv 4, iv p2, iv p3, iv p4, iv p5] [(.int p3), (.int 1), (.ref b110), (.ref b110), (.ref b102), (.ref b102)])) rfl rfl (hb hby d2_101)
  have V127 : Arv Z h127 b110 k110 .char (4 : Int32) [(.int (nar .char p2)), (.int (nar .char p3)), (.int 0), (.int 0)] (.int 0) := Arv.set Ar127 q127 S127 N127z H127 G127 (fits_nar_char _) W127 1 rfl (Nat.le_of_ble_eq_true rfl)
  have N127 := Fr.snoc X127 N120 ga112
  have f128 := Nat.le_trans f121 (Keep.of_wr W127).1
  have f129 := f122.wr W127 ga112
  have f130 := f123.wr W127 (Or.inr sz113)
  have f131 := f124.wr W127
  have f132 := f125.other W127 (Or.inl ne111)
  have f133 := f126.other W127 (Or.inl ne111)
  obtain ⟨cl134, Ar134, q134, S134, N134z, H134, G134⟩ := (id V127)
  have hin134 : ¬ ((2 : Int32) < 0 ∨ cl134.slots.size ≤ ((2 : Int32)).toNatClampNeg) := inb_of S134 ⟨by decide, by decide⟩
  obtain ⟨T134, h134, X134, e134, W134, st134⟩ := stC X127 hx hZ e127 Ar134 (j := (2 : Int32)) hin134 (g := (mkF m 105 #[iv 4, iv p2, iv p3, iv p4, iv p5] [(.int p4), (.int 2), (.ref b110), (.ref b110), (.ref b102), (.ref b102)])) rfl rfl (hb hby d2_105)
  have V134 : Arv Z h134 b110 k110 .char (4 : Int32) [(.int (nar .char p2)), (.int (nar .char p3)), (.int (nar .char p4)), (.int 0)] (.int 0) := Arv.set Ar134 q134 S134 N134z H134 G134 (fits_nar_char _) W134 2 rfl (Nat.le_of_ble_eq_true rfl)
  have N134 := Fr.snoc X134 N127 ga112
  have f135 := Nat.le_trans f128 (Keep.of_wr W134).1
  have f136 := f129.wr W134 ga112
  have f137 := f130.wr W134 (Or.inr sz113)
  have f138 := f131.wr W134
  have f139 := f132.other W134 (Or.inl ne111)
  have f140 := f133.other W134 (Or.inl ne111)
  obtain ⟨cl141, Ar141, q141, S141, N141z, H141, G141⟩ := (id V134)
  have hin141 : ¬ ((3 : Int32) < 0 ∨ cl141.slots.size ≤ ((3 : Int32)).toNatClampNeg) := inb_of S141 ⟨by decide, by decide⟩
  obtain ⟨T141, h141, X141, e141, W141, st141⟩ := stC X134 hx hZ e134 Ar141 (j := (3 : Int32)) hin141 (g := (mkF m 110 #[iv 4, iv p2, iv p3, iv p4, iv p5] [(.int p5), (.int 3), (.ref b110), (.ref b110), (.ref b102), (.ref b102)])) rfl rfl (hb hby d2_110)
  have V141 : Arv Z h141 b110 k110 .char (4 : Int32) [(.int (nar .char p2)), (.int (nar .char p3)), (.int (nar .char p4)), (.int (nar .char p5))] (.int 0) := Arv.set Ar141 q141 S141 N141z H141 G141 (fits_nar_char _) W141 3 rfl (Nat.le_of_ble_eq_true rfl)
  have N141 := Fr.snoc X141 N134 ga112
  have f142 := Nat.le_trans f135 (Keep.of_wr W141).1
  have f143 := f136.wr W141 ga112
  have f144 := f137.wr W141 (Or.inr sz113)
  have f145 := f138.wr W141
  have f146 := f139.other W141 (Or.inl ne111)
  have f147 := f140.other W141 (Or.inl ne111)
  obtain ⟨_, _, ⟨T148, L148, k148, n148⟩, -, X148, ⟨Lc148, hQ148, l148, y148, z148⟩, st148⟩ := X141.specialBack hx (y := own_y4) rfl hown (own_m hZ hw 12) (own_m hZ hw 13) (own_m hZ hw 14) (by decide) (backOf (W := 1) (rmG_4 l Z a0 hw [] b102 b110 k110 cs (nar .char p2) (nar .char p3) (nar .char p4) (nar .char p5) h141 n0 f142 f146 f147 f145 ga103 V141 (SC.ext f143.2) hcs ne111 hx0 hx1 hx2 hx3) hZ (own_i hw 14 rfl) (own_i hw 10 rfl) (by decide) (by decide)) (g := (mkF m 111 #[iv 4, iv p2, iv p3, iv p4, iv p5] [(.ref b110), (.ref b102), (.ref b102)])) rfl (by rw [hml]; rfl) (Steps.refl _) (a := b102) (argsL := [(.ref b110)]) (rest := [(.ref b102)]) (lenOf pd_14 rfl) rfl (Nat.le_of_eq rfl) (hb hby d2_111) (fun _ _ => ⟨rfl, e141, own_le rfl, own_le rfl⟩)
  dsimp only [Pt.U, Pt.locs, Pt.cells, Pt.slots] at X148 l148 y148 z148 st148 hQ148
  subst l148 y148 z148
  obtain ⟨b149, x150, rfl, N148q, K148, f151, f152, f153, f154, f155, f156⟩ := hQ148
  have N148 := Fr.app N141 N148q
  have ne157 : b102 ≠ b149 := Nat.ne_of_lt (Nat.lt_of_lt_of_le f145.lt f155)
  have ne158 : b110 ≠ b149 := Nat.ne_of_lt (Nat.lt_of_lt_of_le V141.lt f155)
  have sz159 : h0.size ≤ b149 := Nat.le_trans f144.1 f155
  have f160 := Nat.le_trans f142 K148.1
  have f161 := f143.keep K148 (allS ga103 all0)
  have f162 := f144.trans K148 (allS (Or.inr sz104) all0)
  have f163 := V141.keep K148 (ninS (Ne.symm ne111) nin0)
  have pre164 : own_P p e below s₁ (entryFrame m #[(.int 4), (.int p2), (.int p3), (.int p4), (.int p5)] 5) T148 (mkF m 114 #[iv 4, iv p2, iv p3, iv p4, iv p5] [(.ref b102)]) := fun t k => pre0 t (by
    show Steps p.tables e below (s₁.setTop (mkF m 0 #[iv 4, iv p2, iv p3, iv p4, iv p5] [])) t
    refine XS.iloadN X0.here hx rfl (hb hby d2_0) rfl ?_
    refine XS.ifYes X0.here hx rfl (pc0 := 1) (pc' := 15) rfl (hb hby d2_1) rfl ((if0 _ _).trans (feq (by decide : ¬ ((4 : Int32) = (0 : Int32)))).2) (by decide) (by decide) ?_
    refine XS.iloadN X0.here hx rfl (hb hby d2_15) rfl ?_
    refine XS.iconst X0.here hx rfl (hb hby d2_16) ?_
    refine XS.icmpYes X0.here hx rfl (pc0 := 17) (pc' := 35) rfl (hb hby d2_17) rfl (feq (by decide : ¬ ((4 : Int32) = (1 : Int32)))).2 (by decide) (by decide) ?_
    refine XS.iloadN X0.here hx rfl (hb hby d2_35) rfl ?_
    refine XS.iconst X0.here hx rfl (hb hby d2_36) ?_
    refine XS.icmpYes X0.here hx rfl (pc0 := 37) (pc' := 59) rfl (hb hby d2_37) rfl (feq (by decide : ¬ ((4 : Int32) = (2 : Int32)))).2 (by decide) (by decide) ?_
    refine XS.iloadN X0.here hx rfl (hb hby d2_59) rfl ?_
    refine XS.iconst X0.here hx rfl (hb hby d2_60) ?_
    refine XS.icmpYes X0.here hx rfl (pc0 := 61) (pc' := 87) rfl (hb hby d2_61) rfl (feq (by decide : ¬ ((4 : Int32) = (3 : Int32)))).2 (by decide) (by decide) ?_
    refine st102 _ ?_
    refine XS.dup X102.here hx rfl (hb hby d2_90) rfl rfl ?_
    refine XS.iconst X102.here hx rfl (hb hby d2_91) ?_
    refine st110 _ ?_
    refine XS.dup X110.here hx rfl (hb hby d2_94) rfl rfl ?_
    refine XS.iconst X110.here hx rfl (hb hby d2_95) ?_
    refine XS.iloadN X110.here hx rfl (hb hby d2_96) rfl ?_
    refine st120 _ ?_
    refine XS.dup X120.here hx rfl (hb hby d2_98) rfl rfl ?_
    refine XS.iconst X120.here hx rfl (hb hby d2_99) ?_
    refine XS.iloadN X120.here hx rfl (hb hby d2_100) rfl ?_
    refine st127 _ ?_
    refine XS.dup X127.here hx rfl (hb hby d2_102) rfl rfl ?_
    refine XS.iconst X127.here hx rfl (hb hby d2_103) ?_
    refine XS.iloadN X127.here hx rfl (hb hby d2_104) rfl ?_
    refine st134 _ ?_
    refine XS.dup X134.here hx rfl (hb hby d2_106) rfl rfl ?_
    refine XS.iconst X134.here hx rfl (hb hby d2_107) ?_
    refine XS.iload X134.here hx rfl (hb hby d2_108) rfl ?_
    refine st141 _ ?_
    refine st148.trans ?_
    exact k)
  obtain ⟨fs, hr, hrun, hended, hW, hsame⟩ := X148.leave (v := some (.ref b102)) (fun h => by rw [Bd.returns] at h; cases h)
  refine ⟨_, _, pre164 _ ?_, hrun, hended, _, _, rfl, ?_, ⟨_, rfl⟩, hW, hsame.mono (by decide) (by decide)⟩
  · exact retOut X148 hx Bd.returns rfl (Or.inr (Or.inr (Or.inr (Or.inr ⟨rfl, rfl, rfl⟩)))) (hb hby d2_114) hr
  · show QM_4 Z p2 p3 p4 p5 cs h0 n0 _ T148.heap _
    exact ⟨b102, b149, x150, rfl, N148, f162, ga103, sz104, f151, f152, f153, f154, sz159, f156⟩
def QMU_4 (Z : State) (p2 p3 p4 p5 cs : Int32) (h0 : Heap) (n0 : Nat) (v : Option Value) (h : Heap) (L : List Loc) : Prop := ∃ (b t : Addr) (kt : ClassId), v = some (.ref b) ∧ Fr n0 L ∧ Keep h0 h [] ∧ (n0 ≤ b) ∧ (h0.size ≤ b) ∧ (Exa Z h b "java/lang/String") ∧ (Fld Z h b "java/lang/String" "coder" "B" (.int 1)) ∧ (Fld Z h b "java/lang/String" "value" "[B" (.ref t)) ∧ (n0 ≤ t) ∧ (h0.size ≤ t) ∧ (Arv Z h t kt .byte (8 : Int32) [(.int (own_b0 (nar .char p2))), (.int (own_b1 (nar .char p2))), (.int (own_b0 (nar .char p3))), (.int (own_b1 (nar .char p3))), (.int (own_b0 (nar .char p4))), (.int (own_b1 (nar .char p4))), (.int (own_b0 (nar .char p5))), (.int (own_b1 (nar .char p5)))] (.int 0))
theorem rmMU_4 (l : Launch) (Z : State) (a0 : Array Value) (hw : own_H Z a0) (ws : List Jvm.Cond) (p2 p3 p4 p5 cs : Int32) (h0 : Heap) (n0 : Nat) (Z0 : n0 ≤ h0.size) (SC : Sta Z Z.heap "java/lang/String" "COMPACT_STRINGS" "Z" (.int cs)) (hcs : ¬ (cs = (0 : Int32))) (SA : Sta Z Z.heap "java/lang/StringUTF16" "$assertionsDisabled" "Z" (.int 1)) (SH : Sta Z Z.heap "java/lang/StringUTF16" "HI_BYTE_SHIFT" "I" (.int 0)) (SL : Sta Z Z.heap "java/lang/StringUTF16" "LO_BYTE_SHIFT" "I" (.int 8)) (O0 : Old Z n0 h0) (hU : ¬ ((¬ ((255 : Int32) < (nar .char p2))) ∧ (¬ ((255 : Int32) < (nar .char p3))) ∧ (¬ ((255 : Int32) < (nar .char p4))) ∧ (¬ ((255 : Int32) < (nar .char p5))))) :
    own_M l own_y23 method_4_code 5 (some (.object "java/lang/String")) ws (own_R 6 4 20 88) Z h0 #[(.int 4), (.int p2), (.int p3), (.int p4), (.int p5)] (QMU_4 Z p2 p3 p4 p5 cs h0 n0) := by
  refine own_body (plainFor_of_name pn_com_example_millipede_millipede_DecimalNumbersIsNumberPinLaw) fun p e s m below meth c s₁ Bd hx hby hml (hown : s.vm.findClass "com/example/millipede/millipede/DecimalNumbersIsNumberPinLaw" = some m.cls) hnm X0 e0 hZ => ?_
  have N0 := Fr.nil n0
  have pre0 : own_P p e below s₁ (entryFrame m #[(.int 4), (.int p2), (.int p3), (.int p4), (.int p5)] 5) s₁ (mkF m 0 #[iv 4, iv p2, iv p3, iv p4, iv p5] []) := fun t k => castTop (by first | rfl | (simp [entryFrame, mkF, argsToLocals, Value.category]; done)) k
  have f101 := Keep.refl h0 []
  obtain ⟨T102, h102, X102, e102, E102, A102, D102, -, st102⟩ := newO X0 hx hZ hown (own_i hw 8 rfl) (own_i hw 9 rfl) (own_i hw 10 rfl) e0 (g := (mkF m 87 #[iv 4, iv p2, iv p3, iv p4, iv p5] [])) rfl (hb hby d2_87) (by decide) (by decide)
  obtain ⟨b102, g102⟩ : ∃ z, z = h0.size := ⟨_, rfl⟩
  rw [← g102] at A102 D102 st102
  have ga103 : n0 ≤ b102 := Nat.le_trans Z0 (Nat.le_of_eq g102.symm)
  have sz104 : h0.size ≤ b102 := Nat.le_trans f101.1 (Nat.le_of_eq g102.symm)
  have f105 : Fld Z h102 b102 "java/lang/String" "value" "[B" .null := D102 (Or.inr (own_i hw 24 rfl)) (ty := (.array .byte)) (by decide)
  have f106 : Fld Z h102 b102 "java/lang/String" "coder" "B" (.int 0) := D102 (Or.inr (own_i hw 25 rfl)) (ty := .byte) (by decide)
  have f107 := Nat.le_trans Z0 E102.1
  have f108 := O0.ext E102
  have f109 := f101.ext E102
  obtain ⟨T110, h110, k110, X110, e110, E110, A110, st110⟩ := newP X102 hx hZ (own_i hw 11 rfl) e102 (g := (mkF m 92 #[iv 4, iv p2, iv p3, iv p4, iv p5] [(.int 4), (.ref b102), (.ref b102)])) rfl (hb hby d2_92) rfl (by decide) (cap := 4) (by decide) (by decide) (by decide) (by decide)
  obtain ⟨b110, g110⟩ : ∃ z, z = h102.size := ⟨_, rfl⟩
  rw [← g110] at A110 st110
  have ne111 : b102 ≠ b110 := Nat.ne_of_lt (Nat.lt_of_lt_of_le A102.lt (Nat.le_of_eq g110.symm))
  have ga112 : n0 ≤ b110 := Nat.le_trans f107 (Nat.le_of_eq g110.symm)
  have sz113 : h0.size ≤ b110 := Nat.le_trans f109.1 (Nat.le_of_eq g110.symm)
  have V110 : Arv Z h110 b110 k110 .char (4 : Int32) [(.int 0), (.int 0), (.int 0), (.int 0)] (.int 0) := (Arv.new A110 (by decide)).pad (pad_rep [] (.int 0) 4)
  have f114 := Nat.le_trans f107 E110.1
  have f115 := f108.ext E110
  have f116 := f109.ext E110
  have f117 := A102.ext E110
  have f118 := f105.ext E110
  have f119 := f106.ext E110
  obtain ⟨cl120, Ar120, q120, S120, N120z, H120, G120⟩ := (id V110)
  have hin120 : ¬ ((0 : Int32) < 0 ∨ cl120.slots.size ≤ ((0 : Int32)).toNatClampNeg) := inb_of S120 ⟨by decide, by decide⟩
  obtain ⟨T120, h120, X120, e120, W120, st120⟩ := stC X110 hx hZ e110 Ar120 (j := (0 : Int32)) hin120 (g := (mkF m 97 #[iv 4, iv p2, iv p3, iv p4, iv p5] [(.int p2), (.int 0), (.ref b110), (.ref b110), (.ref b102), (.ref b102)])) rfl rfl (hb hby d2_97)
  have V120 : Arv Z h120 b110 k110 .char (4 : Int32) [(.int (nar .char p2)), (.int 0), (.int 0), (.int 0)] (.int 0) := Arv.set Ar120 q120 S120 N120z H120 G120 (fits_nar_char _) W120 0 rfl (Nat.le_of_ble_eq_true rfl)
  have N120 := Fr.snoc X120 N0 ga112
  have f121 := Nat.le_trans f114 (Keep.of_wr W120).1
  have f122 := f115.wr W120 ga112
  have f123 := f116.wr W120 (Or.inr sz113)
  have f124 := f117.wr W120
  have f125 := f118.other W120 (Or.inl ne111)
  have f126 := f119.other W120 (Or.inl ne111)
  obtain ⟨cl127, Ar127, q127, S127, N127z, H127, G127⟩ := (id V120)
  have hin127 : ¬ ((1 : Int32) < 0 ∨ cl127.slots.size ≤ ((1 : Int32)).toNatClampNeg) := inb_of S127 ⟨by decide, by decide⟩
  obtain ⟨T127, h127, X127, e127, W127, st127⟩ := stC X120 hx hZ e120 Ar127 (j := (1 : Int32)) hin127 (g := (mkF m 101 #[iv 4, iv p2, iv p3, iv p4, iv p5] [(.int p3), (.int 1), (.ref b110), (.ref b110), (.ref b102), (.ref b102)])) rfl rfl (hb hby d2_101)
  have V127 : Arv Z h127 b110 k110 .char (4 : Int32) [(.int (nar .char p2)), (.int (nar .char p3)), (.int 0), (.int 0)] (.int 0) := Arv.set Ar127 q127 S127 N127z H127 G127 (fits_nar_char _) W127 1 rfl (Nat.le_of_ble_eq_true rfl)
  have N127 := Fr.snoc X127 N120 ga112
  have f128 := Nat.le_trans f121 (Keep.of_wr W127).1
  have f129 := f122.wr W127 ga112
  have f130 := f123.wr W127 (Or.inr sz113)
  have f131 := f124.wr W127
  have f132 := f125.other W127 (Or.inl ne111)
  have f133 := f126.other W127 (Or.inl ne111)
  obtain ⟨cl134, Ar134, q134, S134, N134z, H134, G134⟩ := (id V127)
  have hin134 : ¬ ((2 : Int32) < 0 ∨ cl134.slots.size ≤ ((2 : Int32)).toNatClampNeg) := inb_of S134 ⟨by decide, by decide⟩
  obtain ⟨T134, h134, X134, e134, W134, st134⟩ := stC X127 hx hZ e127 Ar134 (j := (2 : Int32)) hin134 (g := (mkF m 105 #[iv 4, iv p2, iv p3, iv p4, iv p5] [(.int p4), (.int 2), (.ref b110), (.ref b110), (.ref b102), (.ref b102)])) rfl rfl (hb hby d2_105)
  have V134 : Arv Z h134 b110 k110 .char (4 : Int32) [(.int (nar .char p2)), (.int (nar .char p3)), (.int (nar .char p4)), (.int 0)] (.int 0) := Arv.set Ar134 q134 S134 N134z H134 G134 (fits_nar_char _) W134 2 rfl (Nat.le_of_ble_eq_true rfl)
  have N134 := Fr.snoc X134 N127 ga112
  have f135 := Nat.le_trans f128 (Keep.of_wr W134).1
  have f136 := f129.wr W134 ga112
  have f137 := f130.wr W134 (Or.inr sz113)
  have f138 := f131.wr W134
  have f139 := f132.other W134 (Or.inl ne111)
  have f140 := f133.other W134 (Or.inl ne111)
  obtain ⟨cl141, Ar141, q141, S141, N141z, H141, G141⟩ := (id V134)
  have hin141 : ¬ ((3 : Int32) < 0 ∨ cl141.slots.size ≤ ((3 : Int32)).toNatClampNeg) := inb_of S141 ⟨by decide, by decide⟩
  obtain ⟨T141, h141, X141, e141, W141, st141⟩ := stC X134 hx hZ e134 Ar141 (j := (3 : Int32)) hin141 (g := (mkF m 110 #[iv 4, iv p2, iv p3, iv p4, iv p5] [(.int p5), (.int 3), (.ref b110), (.ref b110), (.ref b102), (.ref b102)])) rfl rfl (hb hby d2_110)
  have V141 : Arv Z h141 b110 k110 .char (4 : Int32) [(.int (nar .char p2)), (.int (nar .char p3)), (.int (nar .char p4)), (.int (nar .char p5))] (.int 0) := Arv.set Ar141 q141 S141 N141z H141 G141 (fits_nar_char _) W141 3 rfl (Nat.le_of_ble_eq_true rfl)
  have N141 := Fr.snoc X141 N134 ga112
  have f142 := Nat.le_trans f135 (Keep.of_wr W141).1
  have f143 := f136.wr W141 ga112
  have f144 := f137.wr W141 (Or.inr sz113)
  have f145 := f138.wr W141
  have f146 := f139.other W141 (Or.inl ne111)
  have f147 := f140.other W141 (Or.inl ne111)
  obtain ⟨_, _, ⟨T148, L148, k148, n148⟩, -, X148, ⟨Lc148, hQ148, l148, y148, z148⟩, st148⟩ := X141.specialBack hx (y := own_y4) rfl hown (own_m hZ hw 12) (own_m hZ hw 13) (own_m hZ hw 14) (by decide) (backOf (W := 1) (rmGU_4 l Z a0 hw [] b102 b110 k110 cs (nar .char p2) (nar .char p3) (nar .char p4) (nar .char p5) h141 n0 f142 f146 f147 f145 ga103 V141 ne111 SC hcs SA SH SL f143 (own_Cn _) (own_Cn _) (own_Cn _) (own_Cn _) hU) hZ (own_i hw 14 rfl) (own_i hw 10 rfl) (by decide) (by decide)) (g := (mkF m 111 #[iv 4, iv p2, iv p3, iv p4, iv p5] [(.ref b110), (.ref b102), (.ref b102)])) rfl (by rw [hml]; rfl) (Steps.refl _) (a := b102) (argsL := [(.ref b110)]) (rest := [(.ref b102)]) (lenOf pd_14 rfl) rfl (Nat.le_of_eq rfl) (hb hby d2_111) (fun _ _ => ⟨rfl, e141, own_le rfl, own_le rfl⟩)
  dsimp only [Pt.U, Pt.locs, Pt.cells, Pt.slots] at X148 l148 y148 z148 st148 hQ148
  subst l148 y148 z148
  obtain ⟨b149, x150, rfl, N148q, K148, f151, f152, f153, f154, f155, f156⟩ := hQ148
  have N148 := Fr.app N141 N148q
  have ne157 : b102 ≠ b149 := Nat.ne_of_lt (Nat.lt_of_lt_of_le f145.lt f155)
  have ne158 : b110 ≠ b149 := Nat.ne_of_lt (Nat.lt_of_lt_of_le V141.lt f155)
  have sz159 : h0.size ≤ b149 := Nat.le_trans f144.1 f155
  have f160 := Nat.le_trans f142 K148.1
  have f161 := f143.keep K148 (allS ga103 all0)
  have f162 := f144.trans K148 (allS (Or.inr sz104) all0)
  have f163 := V141.keep K148 (ninS (Ne.symm ne111) nin0)
  have pre164 : own_P p e below s₁ (entryFrame m #[(.int 4), (.int p2), (.int p3), (.int p4), (.int p5)] 5) T148 (mkF m 114 #[iv 4, iv p2, iv p3, iv p4, iv p5] [(.ref b102)]) := fun t k => pre0 t (by
    show Steps p.tables e below (s₁.setTop (mkF m 0 #[iv 4, iv p2, iv p3, iv p4, iv p5] [])) t
    refine XS.iloadN X0.here hx rfl (hb hby d2_0) rfl ?_
    refine XS.ifYes X0.here hx rfl (pc0 := 1) (pc' := 15) rfl (hb hby d2_1) rfl ((if0 _ _).trans (feq (by decide : ¬ ((4 : Int32) = (0 : Int32)))).2) (by decide) (by decide) ?_
    refine XS.iloadN X0.here hx rfl (hb hby d2_15) rfl ?_
    refine XS.iconst X0.here hx rfl (hb hby d2_16) ?_
    refine XS.icmpYes X0.here hx rfl (pc0 := 17) (pc' := 35) rfl (hb hby d2_17) rfl (feq (by decide : ¬ ((4 : Int32) = (1 : Int32)))).2 (by decide) (by decide) ?_
    refine XS.iloadN X0.here hx rfl (hb hby d2_35) rfl ?_
    refine XS.iconst X0.here hx rfl (hb hby d2_36) ?_
    refine XS.icmpYes X0.here hx rfl (pc0 := 37) (pc' := 59) rfl (hb hby d2_37) rfl (feq (by decide : ¬ ((4 : Int32) = (2 : Int32)))).2 (by decide) (by decide) ?_
    refine XS.iloadN X0.here hx rfl (hb hby d2_59) rfl ?_
    refine XS.iconst X0.here hx rfl (hb hby d2_60) ?_
    refine XS.icmpYes X0.here hx rfl (pc0 := 61) (pc' := 87) rfl (hb hby d2_61) rfl (feq (by decide : ¬ ((4 : Int32) = (3 : Int32)))).2 (by decide) (by decide) ?_
    refine st102 _ ?_
    refine XS.dup X102.here hx rfl (hb hby d2_90) rfl rfl ?_
    refine XS.iconst X102.here hx rfl (hb hby d2_91) ?_
    refine st110 _ ?_
    refine XS.dup X110.here hx rfl (hb hby d2_94) rfl rfl ?_
    refine XS.iconst X110.here hx rfl (hb hby d2_95) ?_
    refine XS.iloadN X110.here hx rfl (hb hby d2_96) rfl ?_
    refine st120 _ ?_
    refine XS.dup X120.here hx rfl (hb hby d2_98) rfl rfl ?_
    refine XS.iconst X120.here hx rfl (hb hby d2_99) ?_
    refine XS.iloadN X120.here hx rfl (hb hby d2_100) rfl ?_
    refine st127 _ ?_
    refine XS.dup X127.here hx rfl (hb hby d2_102) rfl rfl ?_
    refine XS.iconst X127.here hx rfl (hb hby d2_103) ?_
    refine XS.iloadN X127.here hx rfl (hb hby d2_104) rfl ?_
    refine st134 _ ?_
    refine XS.dup X134.here hx rfl (hb hby d2_106) rfl rfl ?_
    refine XS.iconst X134.here hx rfl (hb hby d2_107) ?_
    refine XS.iload X134.here hx rfl (hb hby d2_108) rfl ?_
    refine st141 _ ?_
    refine st148.trans ?_
    exact k)
  obtain ⟨fs, hr, hrun, hended, hW, hsame⟩ := X148.leave (v := some (.ref b102)) (fun h => by rw [Bd.returns] at h; cases h)
  refine ⟨_, _, pre164 _ ?_, hrun, hended, _, _, rfl, ?_, ⟨_, rfl⟩, hW, hsame.mono (by decide) (by decide)⟩
  · exact retOut X148 hx Bd.returns rfl (Or.inr (Or.inr (Or.inr (Or.inr ⟨rfl, rfl, rfl⟩)))) (hb hby d2_114) hr
  · show QMU_4 Z p2 p3 p4 p5 cs h0 n0 _ T148.heap _
    exact ⟨b102, b149, x150, rfl, N148, f162, ga103, sz104, f151, f152, f153, f154, sz159, f156⟩
def QIs_4 (Z : State) (a1 : Addr) (cs : Int32) (vF : Value) (tv : Addr) (kt : ClassId) (y0 y1 y2 y3 : Int32) (h0 : Heap) (n0 : Nat) (v : Option Value) (h : Heap) (L : List Loc) : Prop := v = some (.int (own_all4 (own_cat y0) (own_cat y1) (own_cat y2) (own_cat y3))) ∧ Fr n0 L ∧ h = h0
theorem rmIs_4 (l : Launch) (Z : State) (a0 : Array Value) (hw : own_H Z a0) (ws : List Jvm.Cond) (a1 : Addr) (cs : Int32) (vF : Value) (tv : Addr) (kt : ClassId) (y0 y1 y2 y3 : Int32) (h0 : Heap) (n0 : Nat) (Z0 : n0 ≤ h0.size) (SC : Sta Z h0 "java/lang/String" "COMPACT_STRINGS" "Z" (.int cs)) (hcs : ¬ (cs = (0 : Int32))) (SF : Sta Z h0 "jdk/internal/util/Preconditions" "SIOOBE_FORMATTER" "Ljava/util/function/BiFunction;" vF) (hF : vF.isRef = true) (E1 : Exa Z h0 a1 "java/lang/String") (C1 : Fld Z h0 a1 "java/lang/String" "coder" "B" (.int 0)) (W1 : Fld Z h0 a1 "java/lang/String" "value" "[B" (.ref tv)) (V1 : Arv Z h0 tv kt .byte (4 : Int32) [(.int y0), (.int y1), (.int y2), (.int y3)] (.int 0)) :
    own_M l own_y24 prog_20_method_2_code 3 (some .boolean) ws (own_R 4 0 0 53) Z h0 #[(.ref a1)] (QIs_4 Z a1 cs vF tv kt y0 y1 y2 y3 h0 n0) := by
  refine own_body (plainFor_of_name pn_com_example_millipede_millipede_DecimalNumbers) fun p e s m below meth c s₁ Bd hx hby hml (hown : s.vm.findClass "com/example/millipede/millipede/DecimalNumbers" = some m.cls) hnm X0 e0 hZ => ?_
  have N0 := Fr.nil n0
  have pre0 : own_P p e below s₁ (entryFrame m #[(.ref a1)] 3) s₁ (mkF m 0 #[rv a1, .unset, .unset] []) := fun t k => castTop (by first | rfl | (simp [entryFrame, mkF, argsToLocals, Value.category]; done)) k
  obtain ⟨cq101, kq101, q101a, q101b, q101c⟩ := isOf hZ e0 E1
  obtain ⟨_, _, ⟨T101, L101, k101, n101⟩, -, X101, ⟨Lc101, hQ101, l101, y101, z101⟩, st101⟩ := X0.virtualBack hx (y := own_y18) (z := own_y18) hown (own_m hZ hw 34) (own_m hZ hw 35) (notFace_of_selects (args := #[]) (own_m hZ hw 37)) (own_m hZ hw 37) (own_m hZ hw 36) (by decide) (backOf (W := 0) (rmEm l Z a0 hw [] a1 tv kt (4 : Int32) ([(.int y0), (.int y1), (.int y2), (.int y3)]) h0 n0 Z0 W1 V1 (by decide)) hZ (own_i hw 38 rfl) (own_i hw 10 rfl) (by decide) (by decide)) q101a q101c (g := (mkF m 1 #[rv a1, .unset, .unset] [(.ref a1)])) rfl (by rw [hml]; rfl) (Steps.refl _) (argsL := []) (rest := []) (lenOf pd_7 rfl) rfl (Nat.le_of_eq rfl) (hb hby d6_1) (fun _ _ => ⟨rfl, e0, own_le rfl, own_le rfl⟩)
  dsimp only [Pt.U, Pt.locs, Pt.cells, Pt.slots] at X101 l101 y101 z101 st101 hQ101
  subst l101 y101 z101
  obtain ⟨rfl, N101q, e101⟩ := hQ101
  have N101 := Fr.app N0 N101q
  obtain ⟨cq102, kq102, q102a, q102b, q102c⟩ := isOf hZ e101 E1
  obtain ⟨_, _, ⟨T102, L102, k102, n102⟩, -, X102, ⟨Lc102, hQ102, l102, y102, z102⟩, st102⟩ := X101.virtualBack hx (y := own_y9) (z := own_y9) hown (own_m hZ hw 53) (own_m hZ hw 54) (notFace_of_selects (args := #[]) (own_m hZ hw 56)) (own_m hZ hw 56) (own_m hZ hw 55) (by decide) (backOf (W := 1) (rmLen l Z a0 hw [] a1 cs tv kt (4 : Int32) ([(.int y0), (.int y1), (.int y2), (.int y3)]) h0 n0 Z0 SC hcs E1 C1 W1 V1) hZ (own_i hw 57 rfl) (own_i hw 10 rfl) (by decide) (by decide)) q102a q102c (g := (mkF m 13 #[rv a1, iv 0, .unset] [(.ref a1), (.int 0)])) rfl (by rw [hml]; rfl) (Steps.refl _) (argsL := []) (rest := [(.int 0)]) (lenOf pd_15 rfl) rfl (Nat.le_of_eq rfl) (hb hby d6_13) (fun _ _ => ⟨rfl, e101, own_le rfl, own_le rfl⟩)
  dsimp only [Pt.U, Pt.locs, Pt.cells, Pt.slots] at X102 l102 y102 z102 st102 hQ102
  subst l102 y102 z102
  obtain ⟨rfl, N102q, e102⟩ := hQ102
  have N102 := Fr.app N101 N102q
  obtain ⟨cq103, kq103, q103a, q103b, q103c⟩ := isOf hZ e102 E1
  obtain ⟨_, _, ⟨T103, L103, k103, n103⟩, -, X103, ⟨Lc103, hQ103, l103, y103, z103⟩, st103⟩ := X102.virtualBack hx (y := own_y13) (z := own_y13) hown (own_m hZ hw 63) (own_m hZ hw 64) (notFace_of_selects (args := #[]) (own_m hZ hw 66)) (own_m hZ hw 66) (own_m hZ hw 65) (by decide) (backOf (W := 0) (rmCh l Z a0 hw [] a1 (0 : Int32) cs vF tv kt y0 (4 : Int32) ([(.int y0), (.int y1), (.int y2), (.int y3)]) h0 n0 Z0 SC hcs SF hF E1 C1 W1 V1 (by decide) (by decide) rfl) hZ (own_i hw 67 rfl) (own_i hw 10 rfl) (by decide) (by decide)) q103a q103c (g := (mkF m 21 #[rv a1, iv 0, .unset] [(.int 0), (.ref a1)])) rfl (by rw [hml]; rfl) (Steps.refl _) (argsL := [(.int 0)]) (rest := []) (lenOf pd_16 rfl) rfl (Nat.le_of_eq rfl) (hb hby d6_21) (fun _ _ => ⟨rfl, e102, own_le rfl, own_le rfl⟩)
  dsimp only [Pt.U, Pt.locs, Pt.cells, Pt.slots] at X103 l103 y103 z103 st103 hQ103
  subst l103 y103 z103
  obtain ⟨rfl, N103q, e103⟩ := hQ103
  have N103 := Fr.app N102 N103q
  have pre105 : own_P p e below s₁ (entryFrame m #[(.ref a1)] 3) T103 (mkF m 28 #[rv a1, iv 0, iv (own_cat y0)] [(.int 48), (.int (own_cat y0))]) := fun t k => pre0 t (by
    show Steps p.tables e below (s₁.setTop (mkF m 0 #[rv a1, .unset, .unset] [])) t
    refine XS.aloadN X0.here hx rfl (hb hby d6_0) rfl rfl ?_
    refine st101.trans ?_
    refine XS.ifYes X101.here hx rfl (pc0 := 4) (pc' := 9) rfl (hb hby d6_4) rfl ((if0 _ _).trans (teq (by decide : (0 : Int32) = (0 : Int32))).1) (by decide) (by decide) ?_
    refine XS.iconst X101.here hx rfl (hb hby d6_9) ?_
    refine XS.istoreN X101.here hx rfl (hb hby d6_10) rfl (l' := #[rv a1, iv 0, .unset]) rfl ?_
    refine XS.iloadN X101.here hx rfl (hb hby d6_11) rfl ?_
    refine XS.aloadN X101.here hx rfl (hb hby d6_12) rfl rfl ?_
    refine st102.trans ?_
    refine XS.icmpNo X102.here hx rfl (hb hby d6_16) rfl (tlt (by decide : (0 : Int32) < (4 : Int32))).2.1 ?_
    refine XS.aloadN X102.here hx rfl (hb hby d6_19) rfl rfl ?_
    refine XS.iloadN X102.here hx rfl (hb hby d6_20) rfl ?_
    refine st103.trans ?_
    refine XS.istoreN X103.here hx rfl (hb hby d6_24) rfl (l' := #[rv a1, iv 0, iv (own_cat y0)]) rfl ?_
    refine XS.iloadN X103.here hx rfl (hb hby d6_25) rfl ?_
    refine XS.bipush X103.here hx rfl (hb hby d6_26) ?_
    exact k)
  by_cases hc104 : (own_cat y0) < (48 : Int32)
  · have pre106 : own_P p e below s₁ (entryFrame m #[(.ref a1)] 3) T103 (mkF m 38 #[rv a1, iv 0, iv (own_cat y0)] [(.int 0)]) := fun t k => pre105 t (by
      refine XS.icmpYes X103.here hx rfl (pc0 := 28) (pc' := 37) rfl (hb hby d6_28) rfl (tlt hc104).1 (by decide) (by decide) ?_
      refine XS.iconst X103.here hx rfl (hb hby d6_37) ?_
      exact k)
    obtain ⟨fs, hr, hrun, hended, hW, hsame⟩ := X103.leave (v := some (.int 0)) (fun h => by rw [Bd.returns] at h; cases h)
    refine ⟨_, _, pre106 _ ?_, hrun, hended, _, _, rfl, ?_, ⟨_, rfl⟩, hW, hsame.mono (by decide) (by decide)⟩
    · exact retN X103 hx (t := .boolean) Bd.returns (by simp) (hb hby d6_38) hr
    · show QIs_4 Z a1 cs vF tv kt y0 y1 y2 y3 h0 n0 _ T103.heap _
      rw [e103]
      exact ⟨(by rw [own_all4, if_neg (by rintro ⟨⟨_, _⟩, ⟨_, _⟩, ⟨_, _⟩, ⟨_, _⟩⟩ <;> contradiction)]), N103, rfl⟩
  · have pre108 : own_P p e below s₁ (entryFrame m #[(.ref a1)] 3) T103 (mkF m 34 #[rv a1, iv 0, iv (own_cat y0)] [(.int 57), (.int (own_cat y0))]) := fun t k => pre105 t (by
      refine XS.icmpNo X103.here hx rfl (hb hby d6_28) rfl (flt hc104).1 ?_
      refine XS.iloadN X103.here hx rfl (hb hby d6_31) rfl ?_
      refine XS.bipush X103.here hx rfl (hb hby d6_32) ?_
      exact k)
    by_cases hc107 : (57 : Int32) < (own_cat y0)
    · have pre109 : own_P p e below s₁ (entryFrame m #[(.ref a1)] 3) T103 (mkF m 38 #[rv a1, iv 0, iv (own_cat y0)] [(.int 0)]) := fun t k => pre108 t (by
        refine XS.icmpNo X103.here hx rfl (hb hby d6_34) rfl (tlt hc107).2.2.2 ?_
        refine XS.iconst X103.here hx rfl (hb hby d6_37) ?_
        exact k)
      obtain ⟨fs, hr, hrun, hended, hW, hsame⟩ := X103.leave (v := some (.int 0)) (fun h => by rw [Bd.returns] at h; cases h)
      refine ⟨_, _, pre109 _ ?_, hrun, hended, _, _, rfl, ?_, ⟨_, rfl⟩, hW, hsame.mono (by decide) (by decide)⟩
      · exact retN X103 hx (t := .boolean) Bd.returns (by simp) (hb hby d6_38) hr
      · show QIs_4 Z a1 cs vF tv kt y0 y1 y2 y3 h0 n0 _ T103.heap _
        rw [e103]
        exact ⟨(by rw [own_all4, if_neg (by rintro ⟨⟨_, _⟩, ⟨_, _⟩, ⟨_, _⟩, ⟨_, _⟩⟩ <;> contradiction)]), N103, rfl⟩
    · obtain ⟨cq110, kq110, q110a, q110b, q110c⟩ := isOf hZ e103 E1
      obtain ⟨_, _, ⟨T110, L110, k110, n110⟩, -, X110, ⟨Lc110, hQ110, l110, y110, z110⟩, st110⟩ := X103.virtualBack hx (y := own_y9) (z := own_y9) hown (own_m hZ hw 53) (own_m hZ hw 54) (notFace_of_selects (args := #[]) (own_m hZ hw 56)) (own_m hZ hw 56) (own_m hZ hw 55) (by decide) (backOf (W := 1) (rmLen l Z a0 hw [] a1 cs tv kt (4 : Int32) ([(.int y0), (.int y1), (.int y2), (.int y3)]) h0 n0 Z0 SC hcs E1 C1 W1 V1) hZ (own_i hw 57 rfl) (own_i hw 10 rfl) (by decide) (by decide)) q110a q110c (g := (mkF m 13 #[rv a1, iv 1, iv (own_cat y0)] [(.ref a1), (.int 1)])) rfl (by rw [hml]; rfl) (Steps.refl _) (argsL := []) (rest := [(.int 1)]) (lenOf pd_15 rfl) rfl (Nat.le_of_eq rfl) (hb hby d6_13) (fun _ _ => ⟨rfl, e103, own_le rfl, own_le rfl⟩)
      dsimp only [Pt.U, Pt.locs, Pt.cells, Pt.slots] at X110 l110 y110 z110 st110 hQ110
      subst l110 y110 z110
      obtain ⟨rfl, N110q, e110⟩ := hQ110
      have N110 := Fr.app N103 N110q
      obtain ⟨cq111, kq111, q111a, q111b, q111c⟩ := isOf hZ e110 E1
      obtain ⟨_, _, ⟨T111, L111, k111, n111⟩, -, X111, ⟨Lc111, hQ111, l111, y111, z111⟩, st111⟩ := X110.virtualBack hx (y := own_y13) (z := own_y13) hown (own_m hZ hw 63) (own_m hZ hw 64) (notFace_of_selects (args := #[]) (own_m hZ hw 66)) (own_m hZ hw 66) (own_m hZ hw 65) (by decide) (backOf (W := 0) (rmCh l Z a0 hw [] a1 (1 : Int32) cs vF tv kt y1 (4 : Int32) ([(.int y0), (.int y1), (.int y2), (.int y3)]) h0 n0 Z0 SC hcs SF hF E1 C1 W1 V1 (by decide) (by decide) rfl) hZ (own_i hw 67 rfl) (own_i hw 10 rfl) (by decide) (by decide)) q111a q111c (g := (mkF m 21 #[rv a1, iv 1, iv (own_cat y0)] [(.int 1), (.ref a1)])) rfl (by rw [hml]; rfl) (Steps.refl _) (argsL := [(.int 1)]) (rest := []) (lenOf pd_16 rfl) rfl (Nat.le_of_eq rfl) (hb hby d6_21) (fun _ _ => ⟨rfl, e110, own_le rfl, own_le rfl⟩)
      dsimp only [Pt.U, Pt.locs, Pt.cells, Pt.slots] at X111 l111 y111 z111 st111 hQ111
      subst l111 y111 z111
      obtain ⟨rfl, N111q, e111⟩ := hQ111
      have N111 := Fr.app N110 N111q
      have pre113 : own_P p e below s₁ (entryFrame m #[(.ref a1)] 3) T111 (mkF m 28 #[rv a1, iv 1, iv (own_cat y1)] [(.int 48), (.int (own_cat y1))]) := fun t k => pre108 t (by
        refine XS.icmpYes X103.here hx rfl (pc0 := 34) (pc' := 39) rfl (hb hby d6_34) rfl (flt hc107).2.2.2 (by decide) (by decide) ?_
        refine XS.iinc X103.here hx rfl (hb hby d6_39) rfl (l' := #[rv a1, iv 1, iv (own_cat y0)]) rfl ?_
        refine XS.goto X103.here hx rfl (pc0 := 42) (pc' := 11) rfl (hb hby d6_42) (by decide) (by decide) ?_
        refine XS.iloadN X103.here hx rfl (hb hby d6_11) rfl ?_
        refine XS.aloadN X103.here hx rfl (hb hby d6_12) rfl rfl ?_
        refine st110.trans ?_
        refine XS.icmpNo X110.here hx rfl (hb hby d6_16) rfl (tlt (by decide : (1 : Int32) < (4 : Int32))).2.1 ?_
        refine XS.aloadN X110.here hx rfl (hb hby d6_19) rfl rfl ?_
        refine XS.iloadN X110.here hx rfl (hb hby d6_20) rfl ?_
        refine st111.trans ?_
        refine XS.istoreN X111.here hx rfl (hb hby d6_24) rfl (l' := #[rv a1, iv 1, iv (own_cat y1)]) rfl ?_
        refine XS.iloadN X111.here hx rfl (hb hby d6_25) rfl ?_
        refine XS.bipush X111.here hx rfl (hb hby d6_26) ?_
        exact k)
      by_cases hc112 : (own_cat y1) < (48 : Int32)
      · have pre114 : own_P p e below s₁ (entryFrame m #[(.ref a1)] 3) T111 (mkF m 38 #[rv a1, iv 1, iv (own_cat y1)] [(.int 0)]) := fun t k => pre113 t (by
          refine XS.icmpYes X111.here hx rfl (pc0 := 28) (pc' := 37) rfl (hb hby d6_28) rfl (tlt hc112).1 (by decide) (by decide) ?_
          refine XS.iconst X111.here hx rfl (hb hby d6_37) ?_
          exact k)
        obtain ⟨fs, hr, hrun, hended, hW, hsame⟩ := X111.leave (v := some (.int 0)) (fun h => by rw [Bd.returns] at h; cases h)
        refine ⟨_, _, pre114 _ ?_, hrun, hended, _, _, rfl, ?_, ⟨_, rfl⟩, hW, hsame.mono (by decide) (by decide)⟩
        · exact retN X111 hx (t := .boolean) Bd.returns (by simp) (hb hby d6_38) hr
        · show QIs_4 Z a1 cs vF tv kt y0 y1 y2 y3 h0 n0 _ T111.heap _
          rw [e111]
          exact ⟨(by rw [own_all4, if_neg (by rintro ⟨⟨_, _⟩, ⟨_, _⟩, ⟨_, _⟩, ⟨_, _⟩⟩ <;> contradiction)]), N111, rfl⟩
      · have pre116 : own_P p e below s₁ (entryFrame m #[(.ref a1)] 3) T111 (mkF m 34 #[rv a1, iv 1, iv (own_cat y1)] [(.int 57), (.int (own_cat y1))]) := fun t k => pre113 t (by
          refine XS.icmpNo X111.here hx rfl (hb hby d6_28) rfl (flt hc112).1 ?_
          refine XS.iloadN X111.here hx rfl (hb hby d6_31) rfl ?_
          refine XS.bipush X111.here hx rfl (hb hby d6_32) ?_
          exact k)
        by_cases hc115 : (57 : Int32) < (own_cat y1)
        · have pre117 : own_P p e below s₁ (entryFrame m #[(.ref a1)] 3) T111 (mkF m 38 #[rv a1, iv 1, iv (own_cat y1)] [(.int 0)]) := fun t k => pre116 t (by
            refine XS.icmpNo X111.here hx rfl (hb hby d6_34) rfl (tlt hc115).2.2.2 ?_
            refine XS.iconst X111.here hx rfl (hb hby d6_37) ?_
            exact k)
          obtain ⟨fs, hr, hrun, hended, hW, hsame⟩ := X111.leave (v := some (.int 0)) (fun h => by rw [Bd.returns] at h; cases h)
          refine ⟨_, _, pre117 _ ?_, hrun, hended, _, _, rfl, ?_, ⟨_, rfl⟩, hW, hsame.mono (by decide) (by decide)⟩
          · exact retN X111 hx (t := .boolean) Bd.returns (by simp) (hb hby d6_38) hr
          · show QIs_4 Z a1 cs vF tv kt y0 y1 y2 y3 h0 n0 _ T111.heap _
            rw [e111]
            exact ⟨(by rw [own_all4, if_neg (by rintro ⟨⟨_, _⟩, ⟨_, _⟩, ⟨_, _⟩, ⟨_, _⟩⟩ <;> contradiction)]), N111, rfl⟩
        · obtain ⟨cq118, kq118, q118a, q118b, q118c⟩ := isOf hZ e111 E1
          obtain ⟨_, _, ⟨T118, L118, k118, n118⟩, -, X118, ⟨Lc118, hQ118, l118, y118, z118⟩, st118⟩ := X111.virtualBack hx (y := own_y9) (z := own_y9) hown (own_m hZ hw 53) (own_m hZ hw 54) (notFace_of_selects (args := #[]) (own_m hZ hw 56)) (own_m hZ hw 56) (own_m hZ hw 55) (by decide) (backOf (W := 1) (rmLen l Z a0 hw [] a1 cs tv kt (4 : Int32) ([(.int y0), (.int y1), (.int y2), (.int y3)]) h0 n0 Z0 SC hcs E1 C1 W1 V1) hZ (own_i hw 57 rfl) (own_i hw 10 rfl) (by decide) (by decide)) q118a q118c (g := (mkF m 13 #[rv a1, iv 2, iv (own_cat y1)] [(.ref a1), (.int 2)])) rfl (by rw [hml]; rfl) (Steps.refl _) (argsL := []) (rest := [(.int 2)]) (lenOf pd_15 rfl) rfl (Nat.le_of_eq rfl) (hb hby d6_13) (fun _ _ => ⟨rfl, e111, own_le rfl, own_le rfl⟩)
          dsimp only [Pt.U, Pt.locs, Pt.cells, Pt.slots] at X118 l118 y118 z118 st118 hQ118
          subst l118 y118 z118
          obtain ⟨rfl, N118q, e118⟩ := hQ118
          have N118 := Fr.app N111 N118q
          obtain ⟨cq119, kq119, q119a, q119b, q119c⟩ := isOf hZ e118 E1
          obtain ⟨_, _, ⟨T119, L119, k119, n119⟩, -, X119, ⟨Lc119, hQ119, l119, y119, z119⟩, st119⟩ := X118.virtualBack hx (y := own_y13) (z := own_y13) hown (own_m hZ hw 63) (own_m hZ hw 64) (notFace_of_selects (args := #[]) (own_m hZ hw 66)) (own_m hZ hw 66) (own_m hZ hw 65) (by decide) (backOf (W := 0) (rmCh l Z a0 hw [] a1 (2 : Int32) cs vF tv kt y2 (4 : Int32) ([(.int y0), (.int y1), (.int y2), (.int y3)]) h0 n0 Z0 SC hcs SF hF E1 C1 W1 V1 (by decide) (by decide) rfl) hZ (own_i hw 67 rfl) (own_i hw 10 rfl) (by decide) (by decide)) q119a q119c (g := (mkF m 21 #[rv a1, iv 2, iv (own_cat y1)] [(.int 2), (.ref a1)])) rfl (by rw [hml]; rfl) (Steps.refl _) (argsL := [(.int 2)]) (rest := []) (lenOf pd_16 rfl) rfl (Nat.le_of_eq rfl) (hb hby d6_21) (fun _ _ => ⟨rfl, e118, own_le rfl, own_le rfl⟩)
          dsimp only [Pt.U, Pt.locs, Pt.cells, Pt.slots] at X119 l119 y119 z119 st119 hQ119
          subst l119 y119 z119
          obtain ⟨rfl, N119q, e119⟩ := hQ119
          have N119 := Fr.app N118 N119q
          have pre121 : own_P p e below s₁ (entryFrame m #[(.ref a1)] 3) T119 (mkF m 28 #[rv a1, iv 2, iv (own_cat y2)] [(.int 48), (.int (own_cat y2))]) := fun t k => pre116 t (by
            refine XS.icmpYes X111.here hx rfl (pc0 := 34) (pc' := 39) rfl (hb hby d6_34) rfl (flt hc115).2.2.2 (by decide) (by decide) ?_
            refine XS.iinc X111.here hx rfl (hb hby d6_39) rfl (l' := #[rv a1, iv 2, iv (own_cat y1)]) rfl ?_
            refine XS.goto X111.here hx rfl (pc0 := 42) (pc' := 11) rfl (hb hby d6_42) (by decide) (by decide) ?_
            refine XS.iloadN X111.here hx rfl (hb hby d6_11) rfl ?_
            refine XS.aloadN X111.here hx rfl (hb hby d6_12) rfl rfl ?_
            refine st118.trans ?_
            refine XS.icmpNo X118.here hx rfl (hb hby d6_16) rfl (tlt (by decide : (2 : Int32) < (4 : Int32))).2.1 ?_
            refine XS.aloadN X118.here hx rfl (hb hby d6_19) rfl rfl ?_
            refine XS.iloadN X118.here hx rfl (hb hby d6_20) rfl ?_
            refine st119.trans ?_
            refine XS.istoreN X119.here hx rfl (hb hby d6_24) rfl (l' := #[rv a1, iv 2, iv (own_cat y2)]) rfl ?_
            refine XS.iloadN X119.here hx rfl (hb hby d6_25) rfl ?_
            refine XS.bipush X119.here hx rfl (hb hby d6_26) ?_
            exact k)
          by_cases hc120 : (own_cat y2) < (48 : Int32)
          · have pre122 : own_P p e below s₁ (entryFrame m #[(.ref a1)] 3) T119 (mkF m 38 #[rv a1, iv 2, iv (own_cat y2)] [(.int 0)]) := fun t k => pre121 t (by
              refine XS.icmpYes X119.here hx rfl (pc0 := 28) (pc' := 37) rfl (hb hby d6_28) rfl (tlt hc120).1 (by decide) (by decide) ?_
              refine XS.iconst X119.here hx rfl (hb hby d6_37) ?_
              exact k)
            obtain ⟨fs, hr, hrun, hended, hW, hsame⟩ := X119.leave (v := some (.int 0)) (fun h => by rw [Bd.returns] at h; cases h)
            refine ⟨_, _, pre122 _ ?_, hrun, hended, _, _, rfl, ?_, ⟨_, rfl⟩, hW, hsame.mono (by decide) (by decide)⟩
            · exact retN X119 hx (t := .boolean) Bd.returns (by simp) (hb hby d6_38) hr
            · show QIs_4 Z a1 cs vF tv kt y0 y1 y2 y3 h0 n0 _ T119.heap _
              rw [e119]
              exact ⟨(by rw [own_all4, if_neg (by rintro ⟨⟨_, _⟩, ⟨_, _⟩, ⟨_, _⟩, ⟨_, _⟩⟩ <;> contradiction)]), N119, rfl⟩
          · have pre124 : own_P p e below s₁ (entryFrame m #[(.ref a1)] 3) T119 (mkF m 34 #[rv a1, iv 2, iv (own_cat y2)] [(.int 57), (.int (own_cat y2))]) := fun t k => pre121 t (by
              refine XS.icmpNo X119.here hx rfl (hb hby d6_28) rfl (flt hc120).1 ?_
              refine XS.iloadN X119.here hx rfl (hb hby d6_31) rfl ?_
              refine XS.bipush X119.here hx rfl (hb hby d6_32) ?_
              exact k)
            by_cases hc123 : (57 : Int32) < (own_cat y2)
            · have pre125 : own_P p e below s₁ (entryFrame m #[(.ref a1)] 3) T119 (mkF m 38 #[rv a1, iv 2, iv (own_cat y2)] [(.int 0)]) := fun t k => pre124 t (by
                refine XS.icmpNo X119.here hx rfl (hb hby d6_34) rfl (tlt hc123).2.2.2 ?_
                refine XS.iconst X119.here hx rfl (hb hby d6_37) ?_
                exact k)
              obtain ⟨fs, hr, hrun, hended, hW, hsame⟩ := X119.leave (v := some (.int 0)) (fun h => by rw [Bd.returns] at h; cases h)
              refine ⟨_, _, pre125 _ ?_, hrun, hended, _, _, rfl, ?_, ⟨_, rfl⟩, hW, hsame.mono (by decide) (by decide)⟩
              · exact retN X119 hx (t := .boolean) Bd.returns (by simp) (hb hby d6_38) hr
              · show QIs_4 Z a1 cs vF tv kt y0 y1 y2 y3 h0 n0 _ T119.heap _
                rw [e119]
                exact ⟨(by rw [own_all4, if_neg (by rintro ⟨⟨_, _⟩, ⟨_, _⟩, ⟨_, _⟩, ⟨_, _⟩⟩ <;> contradiction)]), N119, rfl⟩
            · obtain ⟨cq126, kq126, q126a, q126b, q126c⟩ := isOf hZ e119 E1
              obtain ⟨_, _, ⟨T126, L126, k126, n126⟩, -, X126, ⟨Lc126, hQ126, l126, y126, z126⟩, st126⟩ := X119.virtualBack hx (y := own_y9) (z := own_y9) hown (own_m hZ hw 53) (own_m hZ hw 54) (notFace_of_selects (args := #[]) (own_m hZ hw 56)) (own_m hZ hw 56) (own_m hZ hw 55) (by decide) (backOf (W := 1) (rmLen l Z a0 hw [] a1 cs tv kt (4 : Int32) ([(.int y0), (.int y1), (.int y2), (.int y3)]) h0 n0 Z0 SC hcs E1 C1 W1 V1) hZ (own_i hw 57 rfl) (own_i hw 10 rfl) (by decide) (by decide)) q126a q126c (g := (mkF m 13 #[rv a1, iv 3, iv (own_cat y2)] [(.ref a1), (.int 3)])) rfl (by rw [hml]; rfl) (Steps.refl _) (argsL := []) (rest := [(.int 3)]) (lenOf pd_15 rfl) rfl (Nat.le_of_eq rfl) (hb hby d6_13) (fun _ _ => ⟨rfl, e119, own_le rfl, own_le rfl⟩)
              dsimp only [Pt.U, Pt.locs, Pt.cells, Pt.slots] at X126 l126 y126 z126 st126 hQ126
              subst l126 y126 z126
              obtain ⟨rfl, N126q, e126⟩ := hQ126
              have N126 := Fr.app N119 N126q
              obtain ⟨cq127, kq127, q127a, q127b, q127c⟩ := isOf hZ e126 E1
              obtain ⟨_, _, ⟨T127, L127, k127, n127⟩, -, X127, ⟨Lc127, hQ127, l127, y127, z127⟩, st127⟩ := X126.virtualBack hx (y := own_y13) (z := own_y13) hown (own_m hZ hw 63) (own_m hZ hw 64) (notFace_of_selects (args := #[]) (own_m hZ hw 66)) (own_m hZ hw 66) (own_m hZ hw 65) (by decide) (backOf (W := 0) (rmCh l Z a0 hw [] a1 (3 : Int32) cs vF tv kt y3 (4 : Int32) ([(.int y0), (.int y1), (.int y2), (.int y3)]) h0 n0 Z0 SC hcs SF hF E1 C1 W1 V1 (by decide) (by decide) rfl) hZ (own_i hw 67 rfl) (own_i hw 10 rfl) (by decide) (by decide)) q127a q127c (g := (mkF m 21 #[rv a1, iv 3, iv (own_cat y2)] [(.int 3), (.ref a1)])) rfl (by rw [hml]; rfl) (Steps.refl _) (argsL := [(.int 3)]) (rest := []) (lenOf pd_16 rfl) rfl (Nat.le_of_eq rfl) (hb hby d6_21) (fun _ _ => ⟨rfl, e126, own_le rfl, own_le rfl⟩)
              dsimp only [Pt.U, Pt.locs, Pt.cells, Pt.slots] at X127 l127 y127 z127 st127 hQ127
              subst l127 y127 z127
              obtain ⟨rfl, N127q, e127⟩ := hQ127
              have N127 := Fr.app N126 N127q
              have pre129 : own_P p e below s₁ (entryFrame m #[(.ref a1)] 3) T127 (mkF m 28 #[rv a1, iv 3, iv (own_cat y3)] [(.int 48), (.int (own_cat y3))]) := fun t k => pre124 t (by
                refine XS.icmpYes X119.here hx rfl (pc0 := 34) (pc' := 39) rfl (hb hby d6_34) rfl (flt hc123).2.2.2 (by decide) (by decide) ?_
                refine XS.iinc X119.here hx rfl (hb hby d6_39) rfl (l' := #[rv a1, iv 3, iv (own_cat y2)]) rfl ?_
                refine XS.goto X119.here hx rfl (pc0 := 42) (pc' := 11) rfl (hb hby d6_42) (by decide) (by decide) ?_
                refine XS.iloadN X119.here hx rfl (hb hby d6_11) rfl ?_
                refine XS.aloadN X119.here hx rfl (hb hby d6_12) rfl rfl ?_
                refine st126.trans ?_
                refine XS.icmpNo X126.here hx rfl (hb hby d6_16) rfl (tlt (by decide : (3 : Int32) < (4 : Int32))).2.1 ?_
                refine XS.aloadN X126.here hx rfl (hb hby d6_19) rfl rfl ?_
                refine XS.iloadN X126.here hx rfl (hb hby d6_20) rfl ?_
                refine st127.trans ?_
                refine XS.istoreN X127.here hx rfl (hb hby d6_24) rfl (l' := #[rv a1, iv 3, iv (own_cat y3)]) rfl ?_
                refine XS.iloadN X127.here hx rfl (hb hby d6_25) rfl ?_
                refine XS.bipush X127.here hx rfl (hb hby d6_26) ?_
                exact k)
              by_cases hc128 : (own_cat y3) < (48 : Int32)
              · have pre130 : own_P p e below s₁ (entryFrame m #[(.ref a1)] 3) T127 (mkF m 38 #[rv a1, iv 3, iv (own_cat y3)] [(.int 0)]) := fun t k => pre129 t (by
                  refine XS.icmpYes X127.here hx rfl (pc0 := 28) (pc' := 37) rfl (hb hby d6_28) rfl (tlt hc128).1 (by decide) (by decide) ?_
                  refine XS.iconst X127.here hx rfl (hb hby d6_37) ?_
                  exact k)
                obtain ⟨fs, hr, hrun, hended, hW, hsame⟩ := X127.leave (v := some (.int 0)) (fun h => by rw [Bd.returns] at h; cases h)
                refine ⟨_, _, pre130 _ ?_, hrun, hended, _, _, rfl, ?_, ⟨_, rfl⟩, hW, hsame.mono (by decide) (by decide)⟩
                · exact retN X127 hx (t := .boolean) Bd.returns (by simp) (hb hby d6_38) hr
                · show QIs_4 Z a1 cs vF tv kt y0 y1 y2 y3 h0 n0 _ T127.heap _
                  rw [e127]
                  exact ⟨(by rw [own_all4, if_neg (by rintro ⟨⟨_, _⟩, ⟨_, _⟩, ⟨_, _⟩, ⟨_, _⟩⟩ <;> contradiction)]), N127, rfl⟩
              · have pre132 : own_P p e below s₁ (entryFrame m #[(.ref a1)] 3) T127 (mkF m 34 #[rv a1, iv 3, iv (own_cat y3)] [(.int 57), (.int (own_cat y3))]) := fun t k => pre129 t (by
                  refine XS.icmpNo X127.here hx rfl (hb hby d6_28) rfl (flt hc128).1 ?_
                  refine XS.iloadN X127.here hx rfl (hb hby d6_31) rfl ?_
                  refine XS.bipush X127.here hx rfl (hb hby d6_32) ?_
                  exact k)
                by_cases hc131 : (57 : Int32) < (own_cat y3)
                · have pre133 : own_P p e below s₁ (entryFrame m #[(.ref a1)] 3) T127 (mkF m 38 #[rv a1, iv 3, iv (own_cat y3)] [(.int 0)]) := fun t k => pre132 t (by
                    refine XS.icmpNo X127.here hx rfl (hb hby d6_34) rfl (tlt hc131).2.2.2 ?_
                    refine XS.iconst X127.here hx rfl (hb hby d6_37) ?_
                    exact k)
                  obtain ⟨fs, hr, hrun, hended, hW, hsame⟩ := X127.leave (v := some (.int 0)) (fun h => by rw [Bd.returns] at h; cases h)
                  refine ⟨_, _, pre133 _ ?_, hrun, hended, _, _, rfl, ?_, ⟨_, rfl⟩, hW, hsame.mono (by decide) (by decide)⟩
                  · exact retN X127 hx (t := .boolean) Bd.returns (by simp) (hb hby d6_38) hr
                  · show QIs_4 Z a1 cs vF tv kt y0 y1 y2 y3 h0 n0 _ T127.heap _
                    rw [e127]
                    exact ⟨(by rw [own_all4, if_neg (by rintro ⟨⟨_, _⟩, ⟨_, _⟩, ⟨_, _⟩, ⟨_, _⟩⟩ <;> contradiction)]), N127, rfl⟩
                · obtain ⟨cq134, kq134, q134a, q134b, q134c⟩ := isOf hZ e127 E1
                  obtain ⟨_, _, ⟨T134, L134, k134, n134⟩, -, X134, ⟨Lc134, hQ134, l134, y134, z134⟩, st134⟩ := X127.virtualBack hx (y := own_y9) (z := own_y9) hown (own_m hZ hw 53) (own_m hZ hw 54) (notFace_of_selects (args := #[]) (own_m hZ hw 56)) (own_m hZ hw 56) (own_m hZ hw 55) (by decide) (backOf (W := 1) (rmLen l Z a0 hw [] a1 cs tv kt (4 : Int32) ([(.int y0), (.int y1), (.int y2), (.int y3)]) h0 n0 Z0 SC hcs E1 C1 W1 V1) hZ (own_i hw 57 rfl) (own_i hw 10 rfl) (by decide) (by decide)) q134a q134c (g := (mkF m 13 #[rv a1, iv 4, iv (own_cat y3)] [(.ref a1), (.int 4)])) rfl (by rw [hml]; rfl) (Steps.refl _) (argsL := []) (rest := [(.int 4)]) (lenOf pd_15 rfl) rfl (Nat.le_of_eq rfl) (hb hby d6_13) (fun _ _ => ⟨rfl, e127, own_le rfl, own_le rfl⟩)
                  dsimp only [Pt.U, Pt.locs, Pt.cells, Pt.slots] at X134 l134 y134 z134 st134 hQ134
                  subst l134 y134 z134
                  obtain ⟨rfl, N134q, e134⟩ := hQ134
                  have N134 := Fr.app N127 N134q
                  have pre135 : own_P p e below s₁ (entryFrame m #[(.ref a1)] 3) T134 (mkF m 46 #[rv a1, iv 4, iv (own_cat y3)] [(.int 1)]) := fun t k => pre132 t (by
                    refine XS.icmpYes X127.here hx rfl (pc0 := 34) (pc' := 39) rfl (hb hby d6_34) rfl (flt hc131).2.2.2 (by decide) (by decide) ?_
                    refine XS.iinc X127.here hx rfl (hb hby d6_39) rfl (l' := #[rv a1, iv 4, iv (own_cat y3)]) rfl ?_
                    refine XS.goto X127.here hx rfl (pc0 := 42) (pc' := 11) rfl (hb hby d6_42) (by decide) (by decide) ?_
                    refine XS.iloadN X127.here hx rfl (hb hby d6_11) rfl ?_
                    refine XS.aloadN X127.here hx rfl (hb hby d6_12) rfl rfl ?_
                    refine st134.trans ?_
                    refine XS.icmpYes X134.here hx rfl (pc0 := 16) (pc' := 45) rfl (hb hby d6_16) rfl (flt (by decide : ¬ ((4 : Int32) < (4 : Int32)))).2.1 (by decide) (by decide) ?_
                    refine XS.iconst X134.here hx rfl (hb hby d6_45) ?_
                    exact k)
                  obtain ⟨fs, hr, hrun, hended, hW, hsame⟩ := X134.leave (v := some (.int 1)) (fun h => by rw [Bd.returns] at h; cases h)
                  refine ⟨_, _, pre135 _ ?_, hrun, hended, _, _, rfl, ?_, ⟨_, rfl⟩, hW, hsame.mono (by decide) (by decide)⟩
                  · exact retN X134 hx (t := .boolean) Bd.returns (by simp) (hb hby d6_46) hr
                  · show QIs_4 Z a1 cs vF tv kt y0 y1 y2 y3 h0 n0 _ T134.heap _
                    rw [e134]
                    exact ⟨(by rw [own_all4, if_pos ⟨⟨by assumption, by assumption⟩, ⟨by assumption, by assumption⟩, ⟨by assumption, by assumption⟩, ⟨by assumption, by assumption⟩⟩]), N134, rfl⟩
def QIU_4 (Z : State) (a1 : Addr) (cs : Int32) (vF : Value) (tv : Addr) (kt : ClassId) (y0 y1 y2 y3 y4 y5 y6 y7 : Int32) (h0 : Heap) (n0 : Nat) (v : Option Value) (h : Heap) (L : List Loc) : Prop := v = some (.int (own_all4 (nar .char (nar .char (own_ut y0 y1))) (nar .char (nar .char (own_ut y2 y3))) (nar .char (nar .char (own_ut y4 y5))) (nar .char (nar .char (own_ut y6 y7))))) ∧ Fr n0 L ∧ h = h0
theorem rmIU_4 (l : Launch) (Z : State) (a0 : Array Value) (hw : own_H Z a0) (ws : List Jvm.Cond) (a1 : Addr) (cs : Int32) (vF : Value) (tv : Addr) (kt : ClassId) (y0 y1 y2 y3 y4 y5 y6 y7 : Int32) (h0 : Heap) (n0 : Nat) (Z0 : n0 ≤ h0.size) (SC : Sta Z h0 "java/lang/String" "COMPACT_STRINGS" "Z" (.int cs)) (hcs : ¬ (cs = (0 : Int32))) (SF : Sta Z h0 "jdk/internal/util/Preconditions" "SIOOBE_FORMATTER" "Ljava/util/function/BiFunction;" vF) (hF : vF.isRef = true) (SA : Sta Z h0 "java/lang/StringUTF16" "$assertionsDisabled" "Z" (.int 1)) (SH : Sta Z h0 "java/lang/StringUTF16" "HI_BYTE_SHIFT" "I" (.int 0)) (SL : Sta Z h0 "java/lang/StringUTF16" "LO_BYTE_SHIFT" "I" (.int 8)) (E1 : Exa Z h0 a1 "java/lang/String") (C1 : Fld Z h0 a1 "java/lang/String" "coder" "B" (.int 1)) (W1 : Fld Z h0 a1 "java/lang/String" "value" "[B" (.ref tv)) (V1 : Arv Z h0 tv kt .byte (8 : Int32) [(.int y0), (.int y1), (.int y2), (.int y3), (.int y4), (.int y5), (.int y6), (.int y7)] (.int 0)) :
    own_M l own_y24 prog_20_method_2_code 3 (some .boolean) ws (own_R 5 0 0 66) Z h0 #[(.ref a1)] (QIU_4 Z a1 cs vF tv kt y0 y1 y2 y3 y4 y5 y6 y7 h0 n0) := by
  refine own_body (plainFor_of_name pn_com_example_millipede_millipede_DecimalNumbers) fun p e s m below meth c s₁ Bd hx hby hml (hown : s.vm.findClass "com/example/millipede/millipede/DecimalNumbers" = some m.cls) hnm X0 e0 hZ => ?_
  have N0 := Fr.nil n0
  have pre0 : own_P p e below s₁ (entryFrame m #[(.ref a1)] 3) s₁ (mkF m 0 #[rv a1, .unset, .unset] []) := fun t k => castTop (by first | rfl | (simp [entryFrame, mkF, argsToLocals, Value.category]; done)) k
  obtain ⟨cq101, kq101, q101a, q101b, q101c⟩ := isOf hZ e0 E1
  obtain ⟨_, _, ⟨T101, L101, k101, n101⟩, -, X101, ⟨Lc101, hQ101, l101, y101, z101⟩, st101⟩ := X0.virtualBack hx (y := own_y18) (z := own_y18) hown (own_m hZ hw 34) (own_m hZ hw 35) (notFace_of_selects (args := #[]) (own_m hZ hw 37)) (own_m hZ hw 37) (own_m hZ hw 36) (by decide) (backOf (W := 0) (rmEm l Z a0 hw [] a1 tv kt (8 : Int32) ([(.int y0), (.int y1), (.int y2), (.int y3), (.int y4), (.int y5), (.int y6), (.int y7)]) h0 n0 Z0 W1 V1 (by decide)) hZ (own_i hw 38 rfl) (own_i hw 10 rfl) (by decide) (by decide)) q101a q101c (g := (mkF m 1 #[rv a1, .unset, .unset] [(.ref a1)])) rfl (by rw [hml]; rfl) (Steps.refl _) (argsL := []) (rest := []) (lenOf pd_7 rfl) rfl (Nat.le_of_eq rfl) (hb hby d6_1) (fun _ _ => ⟨rfl, e0, own_le rfl, own_le rfl⟩)
  dsimp only [Pt.U, Pt.locs, Pt.cells, Pt.slots] at X101 l101 y101 z101 st101 hQ101
  subst l101 y101 z101
  obtain ⟨rfl, N101q, e101⟩ := hQ101
  have N101 := Fr.app N0 N101q
  obtain ⟨cq102, kq102, q102a, q102b, q102c⟩ := isOf hZ e101 E1
  obtain ⟨_, _, ⟨T102, L102, k102, n102⟩, -, X102, ⟨Lc102, hQ102, l102, y102, z102⟩, st102⟩ := X101.virtualBack hx (y := own_y9) (z := own_y9) hown (own_m hZ hw 53) (own_m hZ hw 54) (notFace_of_selects (args := #[]) (own_m hZ hw 56)) (own_m hZ hw 56) (own_m hZ hw 55) (by decide) (backOf (W := 1) (rmLen2 l Z a0 hw [] a1 cs tv kt (8 : Int32) ([(.int y0), (.int y1), (.int y2), (.int y3), (.int y4), (.int y5), (.int y6), (.int y7)]) h0 n0 Z0 SC hcs E1 C1 W1 V1) hZ (own_i hw 57 rfl) (own_i hw 10 rfl) (by decide) (by decide)) q102a q102c (g := (mkF m 13 #[rv a1, iv 0, .unset] [(.ref a1), (.int 0)])) rfl (by rw [hml]; rfl) (Steps.refl _) (argsL := []) (rest := [(.int 0)]) (lenOf pd_15 rfl) rfl (Nat.le_of_eq rfl) (hb hby d6_13) (fun _ _ => ⟨rfl, e101, own_le rfl, own_le rfl⟩)
  dsimp only [Pt.U, Pt.locs, Pt.cells, Pt.slots] at X102 l102 y102 z102 st102 hQ102
  subst l102 y102 z102
  obtain ⟨rfl, N102q, e102⟩ := hQ102
  have N102 := Fr.app N101 N102q
  have pre103 : own_P p e below s₁ (entryFrame m #[(.ref a1)] 3) T102 (mkF m 16 #[rv a1, iv 0, .unset] [(.int ((8 : Int32) >>> ((1 : Int32) &&& 31))), (.int 0)]) := fun t k => pre0 t (by
    show Steps p.tables e below (s₁.setTop (mkF m 0 #[rv a1, .unset, .unset] [])) t
    refine XS.aloadN X0.here hx rfl (hb hby d6_0) rfl rfl ?_
    refine st101.trans ?_
    refine XS.ifYes X101.here hx rfl (pc0 := 4) (pc' := 9) rfl (hb hby d6_4) rfl ((if0 _ _).trans (teq (by decide : (0 : Int32) = (0 : Int32))).1) (by decide) (by decide) ?_
    refine XS.iconst X101.here hx rfl (hb hby d6_9) ?_
    refine XS.istoreN X101.here hx rfl (hb hby d6_10) rfl (l' := #[rv a1, iv 0, .unset]) rfl ?_
    refine XS.iloadN X101.here hx rfl (hb hby d6_11) rfl ?_
    refine XS.aloadN X101.here hx rfl (hb hby d6_12) rfl rfl ?_
    refine st102.trans ?_
    exact k)
  have pre104 : own_P p e below s₁ (entryFrame m #[(.ref a1)] 3) T102 (mkF m 16 #[rv a1, iv 0, .unset] [(.int 4), (.int 0)]) := fun t k => pre103 t (by rw [show ((8 : Int32) >>> ((1 : Int32) &&& 31)) = (4 : Int32) from (by decide)]; exact k)
  obtain ⟨cq105, kq105, q105a, q105b, q105c⟩ := isOf hZ e102 E1
  obtain ⟨_, _, ⟨T105, L105, k105, n105⟩, -, X105, ⟨Lc105, hQ105, l105, y105, z105⟩, st105⟩ := X102.virtualBack hx (y := own_y13) (z := own_y13) hown (own_m hZ hw 63) (own_m hZ hw 64) (notFace_of_selects (args := #[]) (own_m hZ hw 66)) (own_m hZ hw 66) (own_m hZ hw 65) (by decide) (backOf (W := 0) (rmCh2 l Z a0 hw [] a1 (0 : Int32) cs vF tv kt y0 y1 (8 : Int32) ([(.int y0), (.int y1), (.int y2), (.int y3), (.int y4), (.int y5), (.int y6), (.int y7)]) h0 n0 Z0 SC hcs SF hF SA SH SL E1 C1 W1 V1 (by decide) (by decide) (by decide) (by decide) (by decide) (by decide) rfl rfl) hZ (own_i hw 67 rfl) (own_i hw 10 rfl) (by decide) (by decide)) q105a q105c (g := (mkF m 21 #[rv a1, iv 0, .unset] [(.int 0), (.ref a1)])) rfl (by rw [hml]; rfl) (Steps.refl _) (argsL := [(.int 0)]) (rest := []) (lenOf pd_16 rfl) rfl (Nat.le_of_eq rfl) (hb hby d6_21) (fun _ _ => ⟨rfl, e102, own_le rfl, own_le rfl⟩)
  dsimp only [Pt.U, Pt.locs, Pt.cells, Pt.slots] at X105 l105 y105 z105 st105 hQ105
  subst l105 y105 z105
  obtain ⟨rfl, N105q, e105⟩ := hQ105
  have N105 := Fr.app N102 N105q
  have pre107 : own_P p e below s₁ (entryFrame m #[(.ref a1)] 3) T105 (mkF m 28 #[rv a1, iv 0, iv (nar .char (nar .char (own_ut y0 y1)))] [(.int 48), (.int (nar .char (nar .char (own_ut y0 y1))))]) := fun t k => pre104 t (by
    show Steps p.tables e below (T102.setTop (mkF m 16 #[rv a1, iv 0, .unset] [(.int 4), (.int 0)])) t
    refine XS.icmpNo X102.here hx rfl (hb hby d6_16) rfl (tlt (by decide : (0 : Int32) < (4 : Int32))).2.1 ?_
    refine XS.aloadN X102.here hx rfl (hb hby d6_19) rfl rfl ?_
    refine XS.iloadN X102.here hx rfl (hb hby d6_20) rfl ?_
    refine st105.trans ?_
    refine XS.istoreN X105.here hx rfl (hb hby d6_24) rfl (l' := #[rv a1, iv 0, iv (nar .char (nar .char (own_ut y0 y1)))]) rfl ?_
    refine XS.iloadN X105.here hx rfl (hb hby d6_25) rfl ?_
    refine XS.bipush X105.here hx rfl (hb hby d6_26) ?_
    exact k)
  by_cases hc106 : (nar .char (nar .char (own_ut y0 y1))) < (48 : Int32)
  · have pre108 : own_P p e below s₁ (entryFrame m #[(.ref a1)] 3) T105 (mkF m 38 #[rv a1, iv 0, iv (nar .char (nar .char (own_ut y0 y1)))] [(.int 0)]) := fun t k => pre107 t (by
      refine XS.icmpYes X105.here hx rfl (pc0 := 28) (pc' := 37) rfl (hb hby d6_28) rfl (tlt hc106).1 (by decide) (by decide) ?_
      refine XS.iconst X105.here hx rfl (hb hby d6_37) ?_
      exact k)
    obtain ⟨fs, hr, hrun, hended, hW, hsame⟩ := X105.leave (v := some (.int 0)) (fun h => by rw [Bd.returns] at h; cases h)
    refine ⟨_, _, pre108 _ ?_, hrun, hended, _, _, rfl, ?_, ⟨_, rfl⟩, hW, hsame.mono (by decide) (by decide)⟩
    · exact retN X105 hx (t := .boolean) Bd.returns (by simp) (hb hby d6_38) hr
    · show QIU_4 Z a1 cs vF tv kt y0 y1 y2 y3 y4 y5 y6 y7 h0 n0 _ T105.heap _
      rw [e105]
      exact ⟨(by rw [own_all4, if_neg (by rintro ⟨⟨_, _⟩, ⟨_, _⟩, ⟨_, _⟩, ⟨_, _⟩⟩ <;> contradiction)]), N105, rfl⟩
  · have pre110 : own_P p e below s₁ (entryFrame m #[(.ref a1)] 3) T105 (mkF m 34 #[rv a1, iv 0, iv (nar .char (nar .char (own_ut y0 y1)))] [(.int 57), (.int (nar .char (nar .char (own_ut y0 y1))))]) := fun t k => pre107 t (by
      refine XS.icmpNo X105.here hx rfl (hb hby d6_28) rfl (flt hc106).1 ?_
      refine XS.iloadN X105.here hx rfl (hb hby d6_31) rfl ?_
      refine XS.bipush X105.here hx rfl (hb hby d6_32) ?_
      exact k)
    by_cases hc109 : (57 : Int32) < (nar .char (nar .char (own_ut y0 y1)))
    · have pre111 : own_P p e below s₁ (entryFrame m #[(.ref a1)] 3) T105 (mkF m 38 #[rv a1, iv 0, iv (nar .char (nar .char (own_ut y0 y1)))] [(.int 0)]) := fun t k => pre110 t (by
        refine XS.icmpNo X105.here hx rfl (hb hby d6_34) rfl (tlt hc109).2.2.2 ?_
        refine XS.iconst X105.here hx rfl (hb hby d6_37) ?_
        exact k)
      obtain ⟨fs, hr, hrun, hended, hW, hsame⟩ := X105.leave (v := some (.int 0)) (fun h => by rw [Bd.returns] at h; cases h)
      refine ⟨_, _, pre111 _ ?_, hrun, hended, _, _, rfl, ?_, ⟨_, rfl⟩, hW, hsame.mono (by decide) (by decide)⟩
      · exact retN X105 hx (t := .boolean) Bd.returns (by simp) (hb hby d6_38) hr
      · show QIU_4 Z a1 cs vF tv kt y0 y1 y2 y3 y4 y5 y6 y7 h0 n0 _ T105.heap _
        rw [e105]
        exact ⟨(by rw [own_all4, if_neg (by rintro ⟨⟨_, _⟩, ⟨_, _⟩, ⟨_, _⟩, ⟨_, _⟩⟩ <;> contradiction)]), N105, rfl⟩
    · obtain ⟨cq112, kq112, q112a, q112b, q112c⟩ := isOf hZ e105 E1
      obtain ⟨_, _, ⟨T112, L112, k112, n112⟩, -, X112, ⟨Lc112, hQ112, l112, y112, z112⟩, st112⟩ := X105.virtualBack hx (y := own_y9) (z := own_y9) hown (own_m hZ hw 53) (own_m hZ hw 54) (notFace_of_selects (args := #[]) (own_m hZ hw 56)) (own_m hZ hw 56) (own_m hZ hw 55) (by decide) (backOf (W := 1) (rmLen2 l Z a0 hw [] a1 cs tv kt (8 : Int32) ([(.int y0), (.int y1), (.int y2), (.int y3), (.int y4), (.int y5), (.int y6), (.int y7)]) h0 n0 Z0 SC hcs E1 C1 W1 V1) hZ (own_i hw 57 rfl) (own_i hw 10 rfl) (by decide) (by decide)) q112a q112c (g := (mkF m 13 #[rv a1, iv 1, iv (nar .char (nar .char (own_ut y0 y1)))] [(.ref a1), (.int 1)])) rfl (by rw [hml]; rfl) (Steps.refl _) (argsL := []) (rest := [(.int 1)]) (lenOf pd_15 rfl) rfl (Nat.le_of_eq rfl) (hb hby d6_13) (fun _ _ => ⟨rfl, e105, own_le rfl, own_le rfl⟩)
      dsimp only [Pt.U, Pt.locs, Pt.cells, Pt.slots] at X112 l112 y112 z112 st112 hQ112
      subst l112 y112 z112
      obtain ⟨rfl, N112q, e112⟩ := hQ112
      have N112 := Fr.app N105 N112q
      have pre113 : own_P p e below s₁ (entryFrame m #[(.ref a1)] 3) T112 (mkF m 16 #[rv a1, iv 1, iv (nar .char (nar .char (own_ut y0 y1)))] [(.int ((8 : Int32) >>> ((1 : Int32) &&& 31))), (.int 1)]) := fun t k => pre110 t (by
        refine XS.icmpYes X105.here hx rfl (pc0 := 34) (pc' := 39) rfl (hb hby d6_34) rfl (flt hc109).2.2.2 (by decide) (by decide) ?_
        refine XS.iinc X105.here hx rfl (hb hby d6_39) rfl (l' := #[rv a1, iv 1, iv (nar .char (nar .char (own_ut y0 y1)))]) rfl ?_
        refine XS.goto X105.here hx rfl (pc0 := 42) (pc' := 11) rfl (hb hby d6_42) (by decide) (by decide) ?_
        refine XS.iloadN X105.here hx rfl (hb hby d6_11) rfl ?_
        refine XS.aloadN X105.here hx rfl (hb hby d6_12) rfl rfl ?_
        refine st112.trans ?_
        exact k)
      have pre114 : own_P p e below s₁ (entryFrame m #[(.ref a1)] 3) T112 (mkF m 16 #[rv a1, iv 1, iv (nar .char (nar .char (own_ut y0 y1)))] [(.int 4), (.int 1)]) := fun t k => pre113 t (by rw [show ((8 : Int32) >>> ((1 : Int32) &&& 31)) = (4 : Int32) from (by decide)]; exact k)
      obtain ⟨cq115, kq115, q115a, q115b, q115c⟩ := isOf hZ e112 E1
      obtain ⟨_, _, ⟨T115, L115, k115, n115⟩, -, X115, ⟨Lc115, hQ115, l115, y115, z115⟩, st115⟩ := X112.virtualBack hx (y := own_y13) (z := own_y13) hown (own_m hZ hw 63) (own_m hZ hw 64) (notFace_of_selects (args := #[]) (own_m hZ hw 66)) (own_m hZ hw 66) (own_m hZ hw 65) (by decide) (backOf (W := 0) (rmCh2 l Z a0 hw [] a1 (1 : Int32) cs vF tv kt y2 y3 (8 : Int32) ([(.int y0), (.int y1), (.int y2), (.int y3), (.int y4), (.int y5), (.int y6), (.int y7)]) h0 n0 Z0 SC hcs SF hF SA SH SL E1 C1 W1 V1 (by decide) (by decide) (by decide) (by decide) (by decide) (by decide) rfl rfl) hZ (own_i hw 67 rfl) (own_i hw 10 rfl) (by decide) (by decide)) q115a q115c (g := (mkF m 21 #[rv a1, iv 1, iv (nar .char (nar .char (own_ut y0 y1)))] [(.int 1), (.ref a1)])) rfl (by rw [hml]; rfl) (Steps.refl _) (argsL := [(.int 1)]) (rest := []) (lenOf pd_16 rfl) rfl (Nat.le_of_eq rfl) (hb hby d6_21) (fun _ _ => ⟨rfl, e112, own_le rfl, own_le rfl⟩)
      dsimp only [Pt.U, Pt.locs, Pt.cells, Pt.slots] at X115 l115 y115 z115 st115 hQ115
      subst l115 y115 z115
      obtain ⟨rfl, N115q, e115⟩ := hQ115
      have N115 := Fr.app N112 N115q
      have pre117 : own_P p e below s₁ (entryFrame m #[(.ref a1)] 3) T115 (mkF m 28 #[rv a1, iv 1, iv (nar .char (nar .char (own_ut y2 y3)))] [(.int 48), (.int (nar .char (nar .char (own_ut y2 y3))))]) := fun t k => pre114 t (by
        show Steps p.tables e below (T112.setTop (mkF m 16 #[rv a1, iv 1, iv (nar .char (nar .char (own_ut y0 y1)))] [(.int 4), (.int 1)])) t
        refine XS.icmpNo X112.here hx rfl (hb hby d6_16) rfl (tlt (by decide : (1 : Int32) < (4 : Int32))).2.1 ?_
        refine XS.aloadN X112.here hx rfl (hb hby d6_19) rfl rfl ?_
        refine XS.iloadN X112.here hx rfl (hb hby d6_20) rfl ?_
        refine st115.trans ?_
        refine XS.istoreN X115.here hx rfl (hb hby d6_24) rfl (l' := #[rv a1, iv 1, iv (nar .char (nar .char (own_ut y2 y3)))]) rfl ?_
        refine XS.iloadN X115.here hx rfl (hb hby d6_25) rfl ?_
        refine XS.bipush X115.here hx rfl (hb hby d6_26) ?_
        exact k)
      by_cases hc116 : (nar .char (nar .char (own_ut y2 y3))) < (48 : Int32)
      · have pre118 : own_P p e below s₁ (entryFrame m #[(.ref a1)] 3) T115 (mkF m 38 #[rv a1, iv 1, iv (nar .char (nar .char (own_ut y2 y3)))] [(.int 0)]) := fun t k => pre117 t (by
          refine XS.icmpYes X115.here hx rfl (pc0 := 28) (pc' := 37) rfl (hb hby d6_28) rfl (tlt hc116).1 (by decide) (by decide) ?_
          refine XS.iconst X115.here hx rfl (hb hby d6_37) ?_
          exact k)
        obtain ⟨fs, hr, hrun, hended, hW, hsame⟩ := X115.leave (v := some (.int 0)) (fun h => by rw [Bd.returns] at h; cases h)
        refine ⟨_, _, pre118 _ ?_, hrun, hended, _, _, rfl, ?_, ⟨_, rfl⟩, hW, hsame.mono (by decide) (by decide)⟩
        · exact retN X115 hx (t := .boolean) Bd.returns (by simp) (hb hby d6_38) hr
        · show QIU_4 Z a1 cs vF tv kt y0 y1 y2 y3 y4 y5 y6 y7 h0 n0 _ T115.heap _
          rw [e115]
          exact ⟨(by rw [own_all4, if_neg (by rintro ⟨⟨_, _⟩, ⟨_, _⟩, ⟨_, _⟩, ⟨_, _⟩⟩ <;> contradiction)]), N115, rfl⟩
      · have pre120 : own_P p e below s₁ (entryFrame m #[(.ref a1)] 3) T115 (mkF m 34 #[rv a1, iv 1, iv (nar .char (nar .char (own_ut y2 y3)))] [(.int 57), (.int (nar .char (nar .char (own_ut y2 y3))))]) := fun t k => pre117 t (by
          refine XS.icmpNo X115.here hx rfl (hb hby d6_28) rfl (flt hc116).1 ?_
          refine XS.iloadN X115.here hx rfl (hb hby d6_31) rfl ?_
          refine XS.bipush X115.here hx rfl (hb hby d6_32) ?_
          exact k)
        by_cases hc119 : (57 : Int32) < (nar .char (nar .char (own_ut y2 y3)))
        · have pre121 : own_P p e below s₁ (entryFrame m #[(.ref a1)] 3) T115 (mkF m 38 #[rv a1, iv 1, iv (nar .char (nar .char (own_ut y2 y3)))] [(.int 0)]) := fun t k => pre120 t (by
            refine XS.icmpNo X115.here hx rfl (hb hby d6_34) rfl (tlt hc119).2.2.2 ?_
            refine XS.iconst X115.here hx rfl (hb hby d6_37) ?_
            exact k)
          obtain ⟨fs, hr, hrun, hended, hW, hsame⟩ := X115.leave (v := some (.int 0)) (fun h => by rw [Bd.returns] at h; cases h)
          refine ⟨_, _, pre121 _ ?_, hrun, hended, _, _, rfl, ?_, ⟨_, rfl⟩, hW, hsame.mono (by decide) (by decide)⟩
          · exact retN X115 hx (t := .boolean) Bd.returns (by simp) (hb hby d6_38) hr
          · show QIU_4 Z a1 cs vF tv kt y0 y1 y2 y3 y4 y5 y6 y7 h0 n0 _ T115.heap _
            rw [e115]
            exact ⟨(by rw [own_all4, if_neg (by rintro ⟨⟨_, _⟩, ⟨_, _⟩, ⟨_, _⟩, ⟨_, _⟩⟩ <;> contradiction)]), N115, rfl⟩
        · obtain ⟨cq122, kq122, q122a, q122b, q122c⟩ := isOf hZ e115 E1
          obtain ⟨_, _, ⟨T122, L122, k122, n122⟩, -, X122, ⟨Lc122, hQ122, l122, y122, z122⟩, st122⟩ := X115.virtualBack hx (y := own_y9) (z := own_y9) hown (own_m hZ hw 53) (own_m hZ hw 54) (notFace_of_selects (args := #[]) (own_m hZ hw 56)) (own_m hZ hw 56) (own_m hZ hw 55) (by decide) (backOf (W := 1) (rmLen2 l Z a0 hw [] a1 cs tv kt (8 : Int32) ([(.int y0), (.int y1), (.int y2), (.int y3), (.int y4), (.int y5), (.int y6), (.int y7)]) h0 n0 Z0 SC hcs E1 C1 W1 V1) hZ (own_i hw 57 rfl) (own_i hw 10 rfl) (by decide) (by decide)) q122a q122c (g := (mkF m 13 #[rv a1, iv 2, iv (nar .char (nar .char (own_ut y2 y3)))] [(.ref a1), (.int 2)])) rfl (by rw [hml]; rfl) (Steps.refl _) (argsL := []) (rest := [(.int 2)]) (lenOf pd_15 rfl) rfl (Nat.le_of_eq rfl) (hb hby d6_13) (fun _ _ => ⟨rfl, e115, own_le rfl, own_le rfl⟩)
          dsimp only [Pt.U, Pt.locs, Pt.cells, Pt.slots] at X122 l122 y122 z122 st122 hQ122
          subst l122 y122 z122
          obtain ⟨rfl, N122q, e122⟩ := hQ122
          have N122 := Fr.app N115 N122q
          have pre123 : own_P p e below s₁ (entryFrame m #[(.ref a1)] 3) T122 (mkF m 16 #[rv a1, iv 2, iv (nar .char (nar .char (own_ut y2 y3)))] [(.int ((8 : Int32) >>> ((1 : Int32) &&& 31))), (.int 2)]) := fun t k => pre120 t (by
            refine XS.icmpYes X115.here hx rfl (pc0 := 34) (pc' := 39) rfl (hb hby d6_34) rfl (flt hc119).2.2.2 (by decide) (by decide) ?_
            refine XS.iinc X115.here hx rfl (hb hby d6_39) rfl (l' := #[rv a1, iv 2, iv (nar .char (nar .char (own_ut y2 y3)))]) rfl ?_
            refine XS.goto X115.here hx rfl (pc0 := 42) (pc' := 11) rfl (hb hby d6_42) (by decide) (by decide) ?_
            refine XS.iloadN X115.here hx rfl (hb hby d6_11) rfl ?_
            refine XS.aloadN X115.here hx rfl (hb hby d6_12) rfl rfl ?_
            refine st122.trans ?_
            exact k)
          have pre124 : own_P p e below s₁ (entryFrame m #[(.ref a1)] 3) T122 (mkF m 16 #[rv a1, iv 2, iv (nar .char (nar .char (own_ut y2 y3)))] [(.int 4), (.int 2)]) := fun t k => pre123 t (by rw [show ((8 : Int32) >>> ((1 : Int32) &&& 31)) = (4 : Int32) from (by decide)]; exact k)
          obtain ⟨cq125, kq125, q125a, q125b, q125c⟩ := isOf hZ e122 E1
          obtain ⟨_, _, ⟨T125, L125, k125, n125⟩, -, X125, ⟨Lc125, hQ125, l125, y125, z125⟩, st125⟩ := X122.virtualBack hx (y := own_y13) (z := own_y13) hown (own_m hZ hw 63) (own_m hZ hw 64) (notFace_of_selects (args := #[]) (own_m hZ hw 66)) (own_m hZ hw 66) (own_m hZ hw 65) (by decide) (backOf (W := 0) (rmCh2 l Z a0 hw [] a1 (2 : Int32) cs vF tv kt y4 y5 (8 : Int32) ([(.int y0), (.int y1), (.int y2), (.int y3), (.int y4), (.int y5), (.int y6), (.int y7)]) h0 n0 Z0 SC hcs SF hF SA SH SL E1 C1 W1 V1 (by decide) (by decide) (by decide) (by decide) (by decide) (by decide) rfl rfl) hZ (own_i hw 67 rfl) (own_i hw 10 rfl) (by decide) (by decide)) q125a q125c (g := (mkF m 21 #[rv a1, iv 2, iv (nar .char (nar .char (own_ut y2 y3)))] [(.int 2), (.ref a1)])) rfl (by rw [hml]; rfl) (Steps.refl _) (argsL := [(.int 2)]) (rest := []) (lenOf pd_16 rfl) rfl (Nat.le_of_eq rfl) (hb hby d6_21) (fun _ _ => ⟨rfl, e122, own_le rfl, own_le rfl⟩)
          dsimp only [Pt.U, Pt.locs, Pt.cells, Pt.slots] at X125 l125 y125 z125 st125 hQ125
          subst l125 y125 z125
          obtain ⟨rfl, N125q, e125⟩ := hQ125
          have N125 := Fr.app N122 N125q
          have pre127 : own_P p e below s₁ (entryFrame m #[(.ref a1)] 3) T125 (mkF m 28 #[rv a1, iv 2, iv (nar .char (nar .char (own_ut y4 y5)))] [(.int 48), (.int (nar .char (nar .char (own_ut y4 y5))))]) := fun t k => pre124 t (by
            show Steps p.tables e below (T122.setTop (mkF m 16 #[rv a1, iv 2, iv (nar .char (nar .char (own_ut y2 y3)))] [(.int 4), (.int 2)])) t
            refine XS.icmpNo X122.here hx rfl (hb hby d6_16) rfl (tlt (by decide : (2 : Int32) < (4 : Int32))).2.1 ?_
            refine XS.aloadN X122.here hx rfl (hb hby d6_19) rfl rfl ?_
            refine XS.iloadN X122.here hx rfl (hb hby d6_20) rfl ?_
            refine st125.trans ?_
            refine XS.istoreN X125.here hx rfl (hb hby d6_24) rfl (l' := #[rv a1, iv 2, iv (nar .char (nar .char (own_ut y4 y5)))]) rfl ?_
            refine XS.iloadN X125.here hx rfl (hb hby d6_25) rfl ?_
            refine XS.bipush X125.here hx rfl (hb hby d6_26) ?_
            exact k)
          by_cases hc126 : (nar .char (nar .char (own_ut y4 y5))) < (48 : Int32)
          · have pre128 : own_P p e below s₁ (entryFrame m #[(.ref a1)] 3) T125 (mkF m 38 #[rv a1, iv 2, iv (nar .char (nar .char (own_ut y4 y5)))] [(.int 0)]) := fun t k => pre127 t (by
              refine XS.icmpYes X125.here hx rfl (pc0 := 28) (pc' := 37) rfl (hb hby d6_28) rfl (tlt hc126).1 (by decide) (by decide) ?_
              refine XS.iconst X125.here hx rfl (hb hby d6_37) ?_
              exact k)
            obtain ⟨fs, hr, hrun, hended, hW, hsame⟩ := X125.leave (v := some (.int 0)) (fun h => by rw [Bd.returns] at h; cases h)
            refine ⟨_, _, pre128 _ ?_, hrun, hended, _, _, rfl, ?_, ⟨_, rfl⟩, hW, hsame.mono (by decide) (by decide)⟩
            · exact retN X125 hx (t := .boolean) Bd.returns (by simp) (hb hby d6_38) hr
            · show QIU_4 Z a1 cs vF tv kt y0 y1 y2 y3 y4 y5 y6 y7 h0 n0 _ T125.heap _
              rw [e125]
              exact ⟨(by rw [own_all4, if_neg (by rintro ⟨⟨_, _⟩, ⟨_, _⟩, ⟨_, _⟩, ⟨_, _⟩⟩ <;> contradiction)]), N125, rfl⟩
          · have pre130 : own_P p e below s₁ (entryFrame m #[(.ref a1)] 3) T125 (mkF m 34 #[rv a1, iv 2, iv (nar .char (nar .char (own_ut y4 y5)))] [(.int 57), (.int (nar .char (nar .char (own_ut y4 y5))))]) := fun t k => pre127 t (by
              refine XS.icmpNo X125.here hx rfl (hb hby d6_28) rfl (flt hc126).1 ?_
              refine XS.iloadN X125.here hx rfl (hb hby d6_31) rfl ?_
              refine XS.bipush X125.here hx rfl (hb hby d6_32) ?_
              exact k)
            by_cases hc129 : (57 : Int32) < (nar .char (nar .char (own_ut y4 y5)))
            · have pre131 : own_P p e below s₁ (entryFrame m #[(.ref a1)] 3) T125 (mkF m 38 #[rv a1, iv 2, iv (nar .char (nar .char (own_ut y4 y5)))] [(.int 0)]) := fun t k => pre130 t (by
                refine XS.icmpNo X125.here hx rfl (hb hby d6_34) rfl (tlt hc129).2.2.2 ?_
                refine XS.iconst X125.here hx rfl (hb hby d6_37) ?_
                exact k)
              obtain ⟨fs, hr, hrun, hended, hW, hsame⟩ := X125.leave (v := some (.int 0)) (fun h => by rw [Bd.returns] at h; cases h)
              refine ⟨_, _, pre131 _ ?_, hrun, hended, _, _, rfl, ?_, ⟨_, rfl⟩, hW, hsame.mono (by decide) (by decide)⟩
              · exact retN X125 hx (t := .boolean) Bd.returns (by simp) (hb hby d6_38) hr
              · show QIU_4 Z a1 cs vF tv kt y0 y1 y2 y3 y4 y5 y6 y7 h0 n0 _ T125.heap _
                rw [e125]
                exact ⟨(by rw [own_all4, if_neg (by rintro ⟨⟨_, _⟩, ⟨_, _⟩, ⟨_, _⟩, ⟨_, _⟩⟩ <;> contradiction)]), N125, rfl⟩
            · obtain ⟨cq132, kq132, q132a, q132b, q132c⟩ := isOf hZ e125 E1
              obtain ⟨_, _, ⟨T132, L132, k132, n132⟩, -, X132, ⟨Lc132, hQ132, l132, y132, z132⟩, st132⟩ := X125.virtualBack hx (y := own_y9) (z := own_y9) hown (own_m hZ hw 53) (own_m hZ hw 54) (notFace_of_selects (args := #[]) (own_m hZ hw 56)) (own_m hZ hw 56) (own_m hZ hw 55) (by decide) (backOf (W := 1) (rmLen2 l Z a0 hw [] a1 cs tv kt (8 : Int32) ([(.int y0), (.int y1), (.int y2), (.int y3), (.int y4), (.int y5), (.int y6), (.int y7)]) h0 n0 Z0 SC hcs E1 C1 W1 V1) hZ (own_i hw 57 rfl) (own_i hw 10 rfl) (by decide) (by decide)) q132a q132c (g := (mkF m 13 #[rv a1, iv 3, iv (nar .char (nar .char (own_ut y4 y5)))] [(.ref a1), (.int 3)])) rfl (by rw [hml]; rfl) (Steps.refl _) (argsL := []) (rest := [(.int 3)]) (lenOf pd_15 rfl) rfl (Nat.le_of_eq rfl) (hb hby d6_13) (fun _ _ => ⟨rfl, e125, own_le rfl, own_le rfl⟩)
              dsimp only [Pt.U, Pt.locs, Pt.cells, Pt.slots] at X132 l132 y132 z132 st132 hQ132
              subst l132 y132 z132
              obtain ⟨rfl, N132q, e132⟩ := hQ132
              have N132 := Fr.app N125 N132q
              have pre133 : own_P p e below s₁ (entryFrame m #[(.ref a1)] 3) T132 (mkF m 16 #[rv a1, iv 3, iv (nar .char (nar .char (own_ut y4 y5)))] [(.int ((8 : Int32) >>> ((1 : Int32) &&& 31))), (.int 3)]) := fun t k => pre130 t (by
                refine XS.icmpYes X125.here hx rfl (pc0 := 34) (pc' := 39) rfl (hb hby d6_34) rfl (flt hc129).2.2.2 (by decide) (by decide) ?_
                refine XS.iinc X125.here hx rfl (hb hby d6_39) rfl (l' := #[rv a1, iv 3, iv (nar .char (nar .char (own_ut y4 y5)))]) rfl ?_
                refine XS.goto X125.here hx rfl (pc0 := 42) (pc' := 11) rfl (hb hby d6_42) (by decide) (by decide) ?_
                refine XS.iloadN X125.here hx rfl (hb hby d6_11) rfl ?_
                refine XS.aloadN X125.here hx rfl (hb hby d6_12) rfl rfl ?_
                refine st132.trans ?_
                exact k)
              have pre134 : own_P p e below s₁ (entryFrame m #[(.ref a1)] 3) T132 (mkF m 16 #[rv a1, iv 3, iv (nar .char (nar .char (own_ut y4 y5)))] [(.int 4), (.int 3)]) := fun t k => pre133 t (by rw [show ((8 : Int32) >>> ((1 : Int32) &&& 31)) = (4 : Int32) from (by decide)]; exact k)
              obtain ⟨cq135, kq135, q135a, q135b, q135c⟩ := isOf hZ e132 E1
              obtain ⟨_, _, ⟨T135, L135, k135, n135⟩, -, X135, ⟨Lc135, hQ135, l135, y135, z135⟩, st135⟩ := X132.virtualBack hx (y := own_y13) (z := own_y13) hown (own_m hZ hw 63) (own_m hZ hw 64) (notFace_of_selects (args := #[]) (own_m hZ hw 66)) (own_m hZ hw 66) (own_m hZ hw 65) (by decide) (backOf (W := 0) (rmCh2 l Z a0 hw [] a1 (3 : Int32) cs vF tv kt y6 y7 (8 : Int32) ([(.int y0), (.int y1), (.int y2), (.int y3), (.int y4), (.int y5), (.int y6), (.int y7)]) h0 n0 Z0 SC hcs SF hF SA SH SL E1 C1 W1 V1 (by decide) (by decide) (by decide) (by decide) (by decide) (by decide) rfl rfl) hZ (own_i hw 67 rfl) (own_i hw 10 rfl) (by decide) (by decide)) q135a q135c (g := (mkF m 21 #[rv a1, iv 3, iv (nar .char (nar .char (own_ut y4 y5)))] [(.int 3), (.ref a1)])) rfl (by rw [hml]; rfl) (Steps.refl _) (argsL := [(.int 3)]) (rest := []) (lenOf pd_16 rfl) rfl (Nat.le_of_eq rfl) (hb hby d6_21) (fun _ _ => ⟨rfl, e132, own_le rfl, own_le rfl⟩)
              dsimp only [Pt.U, Pt.locs, Pt.cells, Pt.slots] at X135 l135 y135 z135 st135 hQ135
              subst l135 y135 z135
              obtain ⟨rfl, N135q, e135⟩ := hQ135
              have N135 := Fr.app N132 N135q
              have pre137 : own_P p e below s₁ (entryFrame m #[(.ref a1)] 3) T135 (mkF m 28 #[rv a1, iv 3, iv (nar .char (nar .char (own_ut y6 y7)))] [(.int 48), (.int (nar .char (nar .char (own_ut y6 y7))))]) := fun t k => pre134 t (by
                show Steps p.tables e below (T132.setTop (mkF m 16 #[rv a1, iv 3, iv (nar .char (nar .char (own_ut y4 y5)))] [(.int 4), (.int 3)])) t
                refine XS.icmpNo X132.here hx rfl (hb hby d6_16) rfl (tlt (by decide : (3 : Int32) < (4 : Int32))).2.1 ?_
                refine XS.aloadN X132.here hx rfl (hb hby d6_19) rfl rfl ?_
                refine XS.iloadN X132.here hx rfl (hb hby d6_20) rfl ?_
                refine st135.trans ?_
                refine XS.istoreN X135.here hx rfl (hb hby d6_24) rfl (l' := #[rv a1, iv 3, iv (nar .char (nar .char (own_ut y6 y7)))]) rfl ?_
                refine XS.iloadN X135.here hx rfl (hb hby d6_25) rfl ?_
                refine XS.bipush X135.here hx rfl (hb hby d6_26) ?_
                exact k)
              by_cases hc136 : (nar .char (nar .char (own_ut y6 y7))) < (48 : Int32)
              · have pre138 : own_P p e below s₁ (entryFrame m #[(.ref a1)] 3) T135 (mkF m 38 #[rv a1, iv 3, iv (nar .char (nar .char (own_ut y6 y7)))] [(.int 0)]) := fun t k => pre137 t (by
                  refine XS.icmpYes X135.here hx rfl (pc0 := 28) (pc' := 37) rfl (hb hby d6_28) rfl (tlt hc136).1 (by decide) (by decide) ?_
                  refine XS.iconst X135.here hx rfl (hb hby d6_37) ?_
                  exact k)
                obtain ⟨fs, hr, hrun, hended, hW, hsame⟩ := X135.leave (v := some (.int 0)) (fun h => by rw [Bd.returns] at h; cases h)
                refine ⟨_, _, pre138 _ ?_, hrun, hended, _, _, rfl, ?_, ⟨_, rfl⟩, hW, hsame.mono (by decide) (by decide)⟩
                · exact retN X135 hx (t := .boolean) Bd.returns (by simp) (hb hby d6_38) hr
                · show QIU_4 Z a1 cs vF tv kt y0 y1 y2 y3 y4 y5 y6 y7 h0 n0 _ T135.heap _
                  rw [e135]
                  exact ⟨(by rw [own_all4, if_neg (by rintro ⟨⟨_, _⟩, ⟨_, _⟩, ⟨_, _⟩, ⟨_, _⟩⟩ <;> contradiction)]), N135, rfl⟩
              · have pre140 : own_P p e below s₁ (entryFrame m #[(.ref a1)] 3) T135 (mkF m 34 #[rv a1, iv 3, iv (nar .char (nar .char (own_ut y6 y7)))] [(.int 57), (.int (nar .char (nar .char (own_ut y6 y7))))]) := fun t k => pre137 t (by
                  refine XS.icmpNo X135.here hx rfl (hb hby d6_28) rfl (flt hc136).1 ?_
                  refine XS.iloadN X135.here hx rfl (hb hby d6_31) rfl ?_
                  refine XS.bipush X135.here hx rfl (hb hby d6_32) ?_
                  exact k)
                by_cases hc139 : (57 : Int32) < (nar .char (nar .char (own_ut y6 y7)))
                · have pre141 : own_P p e below s₁ (entryFrame m #[(.ref a1)] 3) T135 (mkF m 38 #[rv a1, iv 3, iv (nar .char (nar .char (own_ut y6 y7)))] [(.int 0)]) := fun t k => pre140 t (by
                    refine XS.icmpNo X135.here hx rfl (hb hby d6_34) rfl (tlt hc139).2.2.2 ?_
                    refine XS.iconst X135.here hx rfl (hb hby d6_37) ?_
                    exact k)
                  obtain ⟨fs, hr, hrun, hended, hW, hsame⟩ := X135.leave (v := some (.int 0)) (fun h => by rw [Bd.returns] at h; cases h)
                  refine ⟨_, _, pre141 _ ?_, hrun, hended, _, _, rfl, ?_, ⟨_, rfl⟩, hW, hsame.mono (by decide) (by decide)⟩
                  · exact retN X135 hx (t := .boolean) Bd.returns (by simp) (hb hby d6_38) hr
                  · show QIU_4 Z a1 cs vF tv kt y0 y1 y2 y3 y4 y5 y6 y7 h0 n0 _ T135.heap _
                    rw [e135]
                    exact ⟨(by rw [own_all4, if_neg (by rintro ⟨⟨_, _⟩, ⟨_, _⟩, ⟨_, _⟩, ⟨_, _⟩⟩ <;> contradiction)]), N135, rfl⟩
                · obtain ⟨cq142, kq142, q142a, q142b, q142c⟩ := isOf hZ e135 E1
                  obtain ⟨_, _, ⟨T142, L142, k142, n142⟩, -, X142, ⟨Lc142, hQ142, l142, y142, z142⟩, st142⟩ := X135.virtualBack hx (y := own_y9) (z := own_y9) hown (own_m hZ hw 53) (own_m hZ hw 54) (notFace_of_selects (args := #[]) (own_m hZ hw 56)) (own_m hZ hw 56) (own_m hZ hw 55) (by decide) (backOf (W := 1) (rmLen2 l Z a0 hw [] a1 cs tv kt (8 : Int32) ([(.int y0), (.int y1), (.int y2), (.int y3), (.int y4), (.int y5), (.int y6), (.int y7)]) h0 n0 Z0 SC hcs E1 C1 W1 V1) hZ (own_i hw 57 rfl) (own_i hw 10 rfl) (by decide) (by decide)) q142a q142c (g := (mkF m 13 #[rv a1, iv 4, iv (nar .char (nar .char (own_ut y6 y7)))] [(.ref a1), (.int 4)])) rfl (by rw [hml]; rfl) (Steps.refl _) (argsL := []) (rest := [(.int 4)]) (lenOf pd_15 rfl) rfl (Nat.le_of_eq rfl) (hb hby d6_13) (fun _ _ => ⟨rfl, e135, own_le rfl, own_le rfl⟩)
                  dsimp only [Pt.U, Pt.locs, Pt.cells, Pt.slots] at X142 l142 y142 z142 st142 hQ142
                  subst l142 y142 z142
                  obtain ⟨rfl, N142q, e142⟩ := hQ142
                  have N142 := Fr.app N135 N142q
                  have pre143 : own_P p e below s₁ (entryFrame m #[(.ref a1)] 3) T142 (mkF m 16 #[rv a1, iv 4, iv (nar .char (nar .char (own_ut y6 y7)))] [(.int ((8 : Int32) >>> ((1 : Int32) &&& 31))), (.int 4)]) := fun t k => pre140 t (by
                    refine XS.icmpYes X135.here hx rfl (pc0 := 34) (pc' := 39) rfl (hb hby d6_34) rfl (flt hc139).2.2.2 (by decide) (by decide) ?_
                    refine XS.iinc X135.here hx rfl (hb hby d6_39) rfl (l' := #[rv a1, iv 4, iv (nar .char (nar .char (own_ut y6 y7)))]) rfl ?_
                    refine XS.goto X135.here hx rfl (pc0 := 42) (pc' := 11) rfl (hb hby d6_42) (by decide) (by decide) ?_
                    refine XS.iloadN X135.here hx rfl (hb hby d6_11) rfl ?_
                    refine XS.aloadN X135.here hx rfl (hb hby d6_12) rfl rfl ?_
                    refine st142.trans ?_
                    exact k)
                  have pre144 : own_P p e below s₁ (entryFrame m #[(.ref a1)] 3) T142 (mkF m 16 #[rv a1, iv 4, iv (nar .char (nar .char (own_ut y6 y7)))] [(.int 4), (.int 4)]) := fun t k => pre143 t (by rw [show ((8 : Int32) >>> ((1 : Int32) &&& 31)) = (4 : Int32) from (by decide)]; exact k)
                  have pre145 : own_P p e below s₁ (entryFrame m #[(.ref a1)] 3) T142 (mkF m 46 #[rv a1, iv 4, iv (nar .char (nar .char (own_ut y6 y7)))] [(.int 1)]) := fun t k => pre144 t (by
                    show Steps p.tables e below (T142.setTop (mkF m 16 #[rv a1, iv 4, iv (nar .char (nar .char (own_ut y6 y7)))] [(.int 4), (.int 4)])) t
                    refine XS.icmpYes X142.here hx rfl (pc0 := 16) (pc' := 45) rfl (hb hby d6_16) rfl (flt (by decide : ¬ ((4 : Int32) < (4 : Int32)))).2.1 (by decide) (by decide) ?_
                    refine XS.iconst X142.here hx rfl (hb hby d6_45) ?_
                    exact k)
                  obtain ⟨fs, hr, hrun, hended, hW, hsame⟩ := X142.leave (v := some (.int 1)) (fun h => by rw [Bd.returns] at h; cases h)
                  refine ⟨_, _, pre145 _ ?_, hrun, hended, _, _, rfl, ?_, ⟨_, rfl⟩, hW, hsame.mono (by decide) (by decide)⟩
                  · exact retN X142 hx (t := .boolean) Bd.returns (by simp) (hb hby d6_46) hr
                  · show QIU_4 Z a1 cs vF tv kt y0 y1 y2 y3 y4 y5 y6 y7 h0 n0 _ T142.heap _
                    rw [e142]
                    exact ⟨(by rw [own_all4, if_pos ⟨⟨by assumption, by assumption⟩, ⟨by assumption, by assumption⟩, ⟨by assumption, by assumption⟩, ⟨by assumption, by assumption⟩⟩]), N142, rfl⟩
abbrev own_EL : List (String × Nat) := [("java/lang/String", 7)]
theorem own_backCH {p : Program} {l : Launch} {e : Env} {R : Room} {s : State} {args : Array Value} {below : List Frame} {Z : State} {a0 : Array Value} {EL : List (String × Nat)} {h : Heap} {vm0 : Vm} {xs : List Addr} {y : MethodName} {bytes : ByteArray} {maxL : Nat} {ret : Option FieldType} {rm : Room} {len W : Nat} {as' : Array Value} {Q : Option Value → Heap → List Loc → Prop}
    (hM : MetFree l y (head1 [Jvm.Cond.code y bytes maxL ret] rm) (fun a U => a = as' ∧ Z.Warmed39 U.vm ∧ U.heap = h ∧ CHv Z EL U.vm h ∧ ∀ x ∈ xs, Safe Z EL U.vm h x) (fun _ _ _ _ _ => True) (fun _ U o U' => ∃ v L, o = .returned v ∧ Q v U'.heap L ∧ ReturnedEndW U o U' L rm.cells rm.slots))
    (hZ : Z.Warmed39 vm0) (wc : (Jvm.Cond.code y bytes maxL ret).before a0 Z = true) (wz : (Jvm.Cond.initialized y.cls).before a0 Z = true) (hf : rm.frames + 1 ≤ R.frames) (hl : W + (maxL + 11) + rm.locals ≤ R.locals) (hEL : EW Z a0 EL) (H : CHv Z EL vm0 h) (hxs : ∀ x ∈ xs, x < h.size ∧ Safe Z EL vm0 h x) :
    BackS l R p e below (s.setVm vm0) args y len W (fun A a => a = as' ∧ A.U.heap = h ∧ A.cells + rm.cells ≤ R.cells ∧ A.slots + rm.slots ≤ R.slots)
      (fun A _ v B => ∃ L, Q v B.U.heap L ∧ B.locs = A.locs ++ L ∧ B.cells = A.cells + rm.cells ∧ B.slots = A.slots + rm.slots) :=
  BackS.of_freeW (bytes := bytes) (maxL := maxL) (ret := ret) (E := fun _ _ o t L k n => k = rm.cells ∧ n = rm.slots ∧ ∃ v, o = .returned v ∧ Q v t.heap L) hM hf hl
    (fun m meth c A a Y hp => have hU : Z.Warmed39 A.U.vm := wtrans (s := s.setVm vm0) hZ Y.warmed
      ⟨by show (Jvm.Cond.and _ .tt).before a A.U = true; rw [Cond.before_and, mv hU wc]; rfl, mv hU wc, mv hU wz, hp.2.2.1, hp.2.2.2⟩)
    (fun m meth c A a g mk Y hp => ⟨hp.1, wtrans (s := s.setVm vm0) hZ Y.warmed, hp.2.1, (CHv.at Y hZ hEL H).1, fun x q => (CHv.at Y hZ hEL H).safe (hxs x q).1 (hxs x q).2⟩) (fun _ _ _ _ _ _ _ _ _ => trivial)
    (fun _ _ _ _ ⟨v, L, h1, h2, h4⟩ => ⟨L, _, _, h4, rfl, rfl, v, h1, h2⟩)
    (fun m meth c A a g mk v t L k n Y hp _ _ ⟨e1, e2, v', e3, e4⟩ => by
      cases e3; subst e1 e2
      exact ⟨L, e4, rfl, rfl, rfl⟩)
theorem own_EW {Z : State} {a0 : Array Value} (hw : ∀ d ∈ tables_1, d.before a0 Z = true) : EW Z a0 own_EL := EW.cons (own_i hw 22 rfl) (by simp) EW.nil
def QF_0 (Z : State) (a1 a2 : Addr) (k2 : ClassId) (h0 : Heap) (n0 : Nat) (v : Option Value) (h : Heap) (L : List Loc) : Prop := ∃ (t : Addr) (kt : ClassId), v = none ∧ Fr n0 L ∧ Keep h0 h [a1] ∧ (Exa Z h a1 "java/lang/String") ∧ (Fld Z h a1 "java/lang/String" "coder" "B" (.int 0)) ∧ (Fld Z h a1 "java/lang/String" "value" "[B" (.ref t)) ∧ (Arv Z h t kt .byte (0 : Int32) [] (.int 0))
theorem rmF_0 (l : Launch) (Z : State) (a0 : Array Value) (hw : own_H Z a0) (ws : List Jvm.Cond) (a1 a2 : Addr) (k2 : ClassId) (h0 : Heap) (n0 : Nat) (Z0 : n0 ≤ h0.size) (F1 : Fld Z h0 a1 "java/lang/String" "value" "[B" .null) (F2 : Fld Z h0 a1 "java/lang/String" "coder" "B" (.int 0)) (E1 : Exa Z h0 a1 "java/lang/String") (g1 : n0 ≤ a1) (V2 : Arv Z h0 a2 k2 .char (0 : Int32) [] (.int 0)) :
    MetFree l own_y3 (head1 (Jvm.Cond.code own_y3 jdk_42_method_149_code 6 none :: ws) (own_R 1 2 4 12)) (fun a U => a = #[(.ref a1), (.ref a2), (.int 0), (.int 0), .null] ∧ Z.Warmed39 U.vm ∧ U.heap = h0 ∧ CHv Z own_EL U.vm h0 ∧ ∀ x ∈ [a1], Safe Z own_EL U.vm h0 x) (fun _ _ _ _ _ => True) (fun _ U o U' => ∃ v L, o = .returned v ∧ QF_0 Z a1 a2 k2 h0 n0 v U'.heap L ∧ ReturnedEndW U o U' L (own_R 1 2 4 12).cells (own_R 1 2 4 12).slots) := by
  refine MetFree.of_bodySF (plainFor_of_name pn_java_lang_String) hisR ?_
  intro p e s m args below meth c s₁ Bd hml0 hP hK
  obtain ⟨rfl, hZ, hh, hCH0, hSA0⟩ := hP
  have hx := Bd.exec
  have hby := Bd.bytes
  have hml : c.maxLocals = 6 := hml0
  have hown : s.vm.findClass "java/lang/String" = some m.cls := findClass_of_methodNamed Bd.named
  have hnm := (name_of_methodNamed Bd.named Bd.method).1
  have X0 : Stand p l e (own_R 1 2 4 12) s m #[(.ref a1), (.ref a2), (.int 0), (.int 0), .null] below meth c s₁ [] 0 0 := Stand.of_body Bd
  have e0 : s₁.heap = h0 := by rw [← hh, Bd.state]; rfl
  have N0 := Fr.nil n0
  have hS0 : s.Since s.vm 0 := (State.WarmedH.refl s).since 0
  have hwS : ∀ a ∈ Bundle.stringAtoms, a.before a0 Z = true := own_atoms hw
  have pre0 : own_P p e below s₁ (entryFrame m #[(.ref a1), (.ref a2), (.int 0), (.int 0), .null] 6) s₁ (mkF m 0 #[rv a1, rv a2, iv 0, iv 0, .val .null, .unset] []) := fun t k => castTop (by first | rfl | (simp [entryFrame, mkF, argsToLocals, Value.category]; done)) k
  have f101 := hSA0 a1 (List.mem_singleton.mpr rfl)
  have f102 := Keep.refl h0 [a1]
  obtain ⟨T103, X103, e103, st103⟩ := initO X0 hx hZ hown (own_i hw 19 rfl) (own_i hw 20 rfl) (own_i hw 21 rfl) e0 (g := (mkF m 1 #[rv a1, rv a2, iv 0, iv 0, .val .null, .unset] [(.ref a1)])) rfl (by rw [hml]; rfl) rfl (hb hby d4_1) (by decide) (W := 0) (Nat.le_of_eq rfl) (by decide)
  obtain ⟨a104, T104, h104, k104, b104, kq104, X104, e104, E104, hS104, hk104, hZ104, ho104, Ex104, Co104, Va104, Ar104, -, -, hCr104, hLit104, hSf104, st104⟩ := ldcCH (s := s) (vm0 := s.vm) X103 hx hZ hown (own_i hw 22 rfl) hwS e103 hS0 (Nat.zero_le _) (own_EW hw) (List.mem_singleton.mpr rfl) hCH0 (vs := []) (z := (0 : Int32)) ⟨by simp, rfl⟩ (by decide) rfl (g := (mkF m 9 #[rv a1, rv a2, iv 0, iv 0, .val .null, .unset] [(.ref a1)])) rfl (hb hby d4_9) (n := 0) (by decide) (by decide) (by decide) (by decide)
  have nea104 := (hSf104 a1 (CHr.safe hCr104 E1.lt f101)).1
  have neb104 := (hSf104 a1 (CHr.safe hCr104 E1.lt f101)).2
  have f105 := Nat.le_trans Z0 E104.1
  have f106 := F1.ext E104
  have f107 := F2.ext E104
  have f108 := E1.ext E104
  have f109 := V2.ext E104
  have f110 := f102.ext E104
  obtain ⟨T111, X111, e111, st111⟩ := getF X104 hx hZ104 ho104 (host := "") (Or.inl (own_i hw 28 rfl)) Via.refl e104 Va104 (g := (mkF m 11 #[rv a1, rv a2, iv 0, iv 0, .val .null, .unset] [(.ref a104), (.ref a1)])) rfl rfl (hb hby d4_11)
  obtain ⟨T112, h112, X112, e112, W112, st112⟩ := putF X111 hx hZ104 ho104 (host := "") (Or.inl (own_i hw 28 rfl)) Via.refl e111 f106 f108 (Or.inr ⟨(own_i hw 24 rfl), rfl, hnm⟩) (own_i hw 9 rfl) (ty := (.array .byte)) (by decide) rfl rfl (g := (mkF m 14 #[rv a1, rv a2, iv 0, iv 0, .val .null, .unset] [(.ref b104), (.ref a1)])) rfl rfl (hb hby d4_14)
  have Fw112 := f106.same W112
  have N112 := Fr.snoc X112 N0 g1
  have f113 := Nat.le_trans f105 (Keep.of_wr W112).1
  have f114 := f107.other W112 (Or.inr (slot_ne (Or.inr (own_i hw 25 rfl)) (Or.inr (own_i hw 24 rfl)) (by decide) (t := .byte) (t' := (.array .byte)) (by decide) (by decide)))
  have f115 := f108.wr W112
  have f116 := f110.wr W112 (Or.inl (List.mem_of_getElem? (i := 0) rfl))
  have f117 := Nat.le_trans hk104 (Keep.of_wr W112).1
  have f118 := Ex104.wr W112
  have f119 := Co104.other W112 (Or.inl (Ne.symm nea104))
  have f120 := Va104.other W112 (Or.inl (Ne.symm nea104))
  have f121 := Ar104.other W112 (Ne.symm neb104)
  obtain ⟨T122, X122, e122, st122⟩ := getF X112 hx hZ104 ho104 (host := "") (Or.inl (own_i hw 29 rfl)) Via.refl e112 f119 (g := (mkF m 20 #[rv a1, rv a2, iv 0, iv 0, .val .null, .unset] [(.ref a104), (.ref a1)])) rfl rfl (hb hby d4_20)
  obtain ⟨T123, h123, X123, e123, W123, st123⟩ := putFN X122 hx hZ104 ho104 (own_i hw 29 rfl) Via.refl e122 f114 f115 (Or.inr ⟨(own_i hw 25 rfl), rfl, hnm⟩) (own_i hw 9 rfl) (ty := .byte) (v' := (.int 0)) (by decide) rfl (by decide) (g := (mkF m 23 #[rv a1, rv a2, iv 0, iv 0, .val .null, .unset] [(.int 0), (.ref a1)])) rfl rfl (hb hby d4_23)
  have Fw123 := f114.same W123
  have N123 := Fr.snoc X123 N112 g1
  have f124 := Nat.le_trans f113 (Keep.of_wr W123).1
  have f125 := f115.wr W123
  have f126 := f116.wr W123 (Or.inl (List.mem_of_getElem? (i := 0) rfl))
  have f127 := Nat.le_trans f117 (Keep.of_wr W123).1
  have f128 := f118.wr W123
  have f129 := f119.other W123 (Or.inl (Ne.symm nea104))
  have f130 := f120.other W123 (Or.inl (Ne.symm nea104))
  have f131 := f121.other W123 (Ne.symm neb104)
  have f132 := Fw112.other W123 (Or.inr (slot_ne (Or.inr (own_i hw 24 rfl)) (Or.inr (own_i hw 25 rfl)) (by decide) (t := (.array .byte)) (t' := .byte) (by decide) (by decide)))
  have pre133 : own_P p e below s₁ (entryFrame m #[(.ref a1), (.ref a2), (.int 0), (.int 0), .null] 6) T123 (mkF m 26 #[rv a1, rv a2, iv 0, iv 0, .val .null, .unset] []) := fun t k => pre0 t (by
    show Steps p.tables e below (s₁.setTop (mkF m 0 #[rv a1, rv a2, iv 0, iv 0, .val .null, .unset] [])) t
    refine XS.aloadN X0.here hx rfl (hb hby d4_0) rfl rfl ?_
    refine st103 _ ?_
    refine XS.iloadN X103.here hx rfl (hb hby d4_4) rfl ?_
    refine XS.ifNo X103.here hx rfl (hb hby d4_5) rfl ((if0 _ _).trans (teq (by decide : (0 : Int32) = (0 : Int32))).2) ?_
    refine XS.aloadN X103.here hx rfl (hb hby d4_8) rfl rfl ?_
    refine st104 _ ?_
    refine st111 _ ?_
    refine st112 _ ?_
    refine XS.aloadN X112.here hx rfl (hb hby d4_17) rfl rfl ?_
    refine ldcAgain (s := s) (vm0 := T104.vm) X112 hx hZ104 ho104 (own_i hw 22 rfl) hLit104 (g := (mkF m 18 #[rv a1, rv a2, iv 0, iv 0, .val .null, .unset] [(.ref a1)])) rfl (hb hby d4_18) _ ?_
    refine st122 _ ?_
    refine st123 _ ?_
    exact k)
  obtain ⟨fs, hr, hrun, hended, hRW⟩ := X123.leaveW hS104 (by rw [e123]; exact f127) (v := none) (fun _ => rfl)
  refine ⟨_, _, pre133 _ ?_, hrun, hended, _, _, rfl, ?_, hRW.1, hRW.2.1, hRW.2.2.1, hRW.2.2.2.mono (by decide) (by decide)⟩
  · exact X123.returnOut hx Bd.returns (hb hby d4_26) hr
  · show QF_0 Z a1 a2 k2 h0 n0 _ T123.heap _
    rw [e123]
    exact ⟨b104, kq104, rfl, N123, f126, f125, Fw123, f132, f131⟩
def QG_0 (Z : State) (a1 a2 : Addr) (k2 : ClassId) (h0 : Heap) (n0 : Nat) (v : Option Value) (h : Heap) (L : List Loc) : Prop := ∃ (t : Addr) (kt : ClassId), v = none ∧ Fr n0 L ∧ Keep h0 h [a1] ∧ (Exa Z h a1 "java/lang/String") ∧ (Fld Z h a1 "java/lang/String" "coder" "B" (.int 0)) ∧ (Fld Z h a1 "java/lang/String" "value" "[B" (.ref t)) ∧ (Arv Z h t kt .byte (0 : Int32) [] (.int 0))
theorem rmG_0 (l : Launch) (Z : State) (a0 : Array Value) (hw : own_H Z a0) (ws : List Jvm.Cond) (a1 a2 : Addr) (k2 : ClassId) (h0 : Heap) (n0 : Nat) (Z0 : n0 ≤ h0.size) (F1 : Fld Z h0 a1 "java/lang/String" "value" "[B" .null) (F2 : Fld Z h0 a1 "java/lang/String" "coder" "B" (.int 0)) (E1 : Exa Z h0 a1 "java/lang/String") (g1 : n0 ≤ a1) (V2 : Arv Z h0 a2 k2 .char (0 : Int32) [] (.int 0)) :
    MetFree l own_y4 (head1 (Jvm.Cond.code own_y4 jdk_42_method_3_code 2 none :: ws) (own_R 2 2 4 29)) (fun a U => a = #[(.ref a1), (.ref a2)] ∧ Z.Warmed39 U.vm ∧ U.heap = h0 ∧ CHv Z own_EL U.vm h0 ∧ ∀ x ∈ [a1], Safe Z own_EL U.vm h0 x) (fun _ _ _ _ _ => True) (fun _ U o U' => ∃ v L, o = .returned v ∧ QG_0 Z a1 a2 k2 h0 n0 v U'.heap L ∧ ReturnedEndW U o U' L (own_R 2 2 4 29).cells (own_R 2 2 4 29).slots) := by
  refine MetFree.of_bodySF (plainFor_of_name pn_java_lang_String) hisR ?_
  intro p e s m args below meth c s₁ Bd hml0 hP hK
  obtain ⟨rfl, hZ, hh, hCH0, hSA0⟩ := hP
  have hx := Bd.exec
  have hby := Bd.bytes
  have hml : c.maxLocals = 2 := hml0
  have hown : s.vm.findClass "java/lang/String" = some m.cls := findClass_of_methodNamed Bd.named
  have hnm := (name_of_methodNamed Bd.named Bd.method).1
  have X0 : Stand p l e (own_R 2 2 4 29) s m #[(.ref a1), (.ref a2)] below meth c s₁ [] 0 0 := Stand.of_body Bd
  have e0 : s₁.heap = h0 := by rw [← hh, Bd.state]; rfl
  have N0 := Fr.nil n0
  have hS0 : s.Since s.vm 0 := (State.WarmedH.refl s).since 0
  have hwS : ∀ a ∈ Bundle.stringAtoms, a.before a0 Z = true := own_atoms hw
  have pre0 : own_P p e below s₁ (entryFrame m #[(.ref a1), (.ref a2)] 2) s₁ (mkF m 0 #[rv a1, rv a2] []) := fun t k => castTop (by first | rfl | (simp [entryFrame, mkF, argsToLocals, Value.category]; done)) k
  have f101 := hSA0 a1 (List.mem_singleton.mpr rfl)
  have f102 := Keep.refl h0 [a1]
  obtain ⟨cl103, Ar103, q103, S103, N103z, H103, G103⟩ := (id V2)
  obtain ⟨_, _, ⟨T104, L104, k104, n104⟩, -, Xw104, hSi104, hgr104, ⟨Lc104, hQ104, l104, y104, z104⟩, st104⟩ := X0.specialBackS hx (y := own_y3) rfl hown (own_m hZ hw 15) (own_m hZ hw 16) (own_m hZ hw 18) (by decide) (own_backCH (s := s) (vm0 := s.vm) (xs := [a1]) (W := 0) (rmF_0 l Z a0 hw [] a1 a2 k2 h0 n0 Z0 F1 F2 E1 g1 V2) hZ (own_i hw 18 rfl) (own_i hw 10 rfl) (by decide) (by decide) (own_EW hw) hCH0 (fun x q => by obtain rfl := List.mem_singleton.mp q; exact ⟨E1.lt, f101⟩)) (g := (mkF m 6 #[rv a1, rv a2] [.null, (.int 0), (.int 0), (.ref a2), (.ref a1)])) rfl (by rw [hml]; rfl) (Steps.refl _) (a := a1) (argsL := [(.ref a2), (.int 0), (.int 0), .null]) (rest := []) (lenOf pd_3 rfl) rfl (Nat.le_of_eq rfl) (hb hby d3_6) (fun _ _ => ⟨rfl, e0, own_le rfl, own_le rfl⟩)
  dsimp only [Pt.U, Pt.locs, Pt.cells, Pt.slots] at Xw104 hSi104 hgr104 l104 y104 z104 st104 hQ104
  subst l104 y104 z104
  have hS104 : s.Since T104.vm T104.heap.size := foldS (s := s) (vm0 := s.vm) (T := s₁) hS0 (Nat.zero_le _) hSi104 hgr104
  have hZ104 : Z.Warmed39 (s.setVm T104.vm).vm := State.Warmed39.trans (hZ) hS104.1
  have ho104 : (s.setVm T104.vm).vm.findClass "java/lang/String" = some m.cls := by show T104.vm.findClass _ = _; rw [hS104.1.alike.findClass]; exact hown
  have X104 : Stand p l e (own_R 2 2 4 29) (s.setVm T104.vm) m #[(.ref a1), (.ref a2)] below meth c T104 _ _ _ := Xw104
  obtain ⟨b105, x106, rfl, N104q, K104, f107, f108, f109, f110⟩ := hQ104
  have N104 := Fr.app N0 N104q
  have f111 := Nat.le_trans Z0 K104.1
  have f112 := f102.trans K104 (allS (Or.inl (List.mem_of_getElem? (i := 0) rfl)) all0)
  have pre113 : own_P p e below s₁ (entryFrame m #[(.ref a1), (.ref a2)] 2) T104 (mkF m 9 #[rv a1, rv a2] []) := fun t k => pre0 t (by
    show Steps p.tables e below (s₁.setTop (mkF m 0 #[rv a1, rv a2] [])) t
    refine XS.aloadN X0.here hx rfl (hb hby d3_0) rfl rfl ?_
    refine XS.aloadN X0.here hx rfl (hb hby d3_1) rfl rfl ?_
    refine XS.iconst X0.here hx rfl (hb hby d3_2) ?_
    refine XS.aloadN X0.here hx rfl (hb hby d3_3) rfl rfl ?_
    refine X0.arraylength hx (by rw [e0]; exact Ar103.1) (State.isArrayOf_alike hZ.alike Ar103.2.1) (g := (mkF m 4 #[rv a1, rv a2] [(.ref a2), (.int 0), (.ref a2), (.ref a1)])) rfl rfl (hb hby d3_4) _ ?_
    rw [len_of S103 N103z]
    refine XS.aconstNull X0.here hx rfl (hb hby d3_5) ?_
    refine st104.trans ?_
    exact k)
  obtain ⟨fs, hr, hrun, hended, hRW⟩ := X104.leaveW hS104 (Nat.le_refl _) (v := none) (fun _ => rfl)
  refine ⟨_, _, pre113 _ ?_, hrun, hended, _, _, rfl, ?_, hRW.1, hRW.2.1, hRW.2.2.1, hRW.2.2.2.mono (by decide) (by decide)⟩
  · exact X104.returnOut hx Bd.returns (hb hby d3_9) hr
  · show QG_0 Z a1 a2 k2 h0 n0 _ T104.heap _
    exact ⟨b105, x106, rfl, N104, f112, f107, f108, f109, f110⟩
def QM_0 (Z : State) (p2 p3 p4 p5 : Int32) (h0 : Heap) (n0 : Nat) (v : Option Value) (h : Heap) (L : List Loc) : Prop := ∃ (b t : Addr) (kt : ClassId), v = some (.ref b) ∧ Fr n0 L ∧ Keep h0 h [] ∧ (n0 ≤ b) ∧ (h0.size ≤ b) ∧ (Exa Z h b "java/lang/String") ∧ (Fld Z h b "java/lang/String" "value" "[B" (.ref t)) ∧ (Arv Z h t kt .byte (0 : Int32) [] (.int 0))
theorem rmM_0 (l : Launch) (Z : State) (a0 : Array Value) (hw : own_H Z a0) (ws : List Jvm.Cond) (p2 p3 p4 p5 : Int32) (h0 : Heap) (n0 : Nat) (Z0 : n0 ≤ h0.size) :
    MetFree l own_y23 (head1 (Jvm.Cond.code own_y23 method_4_code 5 (some (.object "java/lang/String")) :: ws) (own_R 3 4 8 43)) (fun a U => a = #[(.int 0), (.int p2), (.int p3), (.int p4), (.int p5)] ∧ Z.Warmed39 U.vm ∧ U.heap = h0 ∧ CHv Z own_EL U.vm h0 ∧ ∀ x ∈ [], Safe Z own_EL U.vm h0 x) (fun _ _ _ _ _ => True) (fun _ U o U' => ∃ v L, o = .returned v ∧ QM_0 Z p2 p3 p4 p5 h0 n0 v U'.heap L ∧ ReturnedEndW U o U' L (own_R 3 4 8 43).cells (own_R 3 4 8 43).slots) := by
  refine MetFree.of_bodySF (plainFor_of_name pn_com_example_millipede_millipede_DecimalNumbersIsNumberPinLaw) hisR ?_
  intro p e s m args below meth c s₁ Bd hml0 hP hK
  obtain ⟨rfl, hZ, hh, hCH0, hSA0⟩ := hP
  have hx := Bd.exec
  have hby := Bd.bytes
  have hml : c.maxLocals = 5 := hml0
  have hown : s.vm.findClass "com/example/millipede/millipede/DecimalNumbersIsNumberPinLaw" = some m.cls := findClass_of_methodNamed Bd.named
  have hnm := (name_of_methodNamed Bd.named Bd.method).1
  have X0 : Stand p l e (own_R 3 4 8 43) s m #[(.int 0), (.int p2), (.int p3), (.int p4), (.int p5)] below meth c s₁ [] 0 0 := Stand.of_body Bd
  have e0 : s₁.heap = h0 := by rw [← hh, Bd.state]; rfl
  have N0 := Fr.nil n0
  have hS0 : s.Since s.vm 0 := (State.WarmedH.refl s).since 0
  have hwS : ∀ a ∈ Bundle.stringAtoms, a.before a0 Z = true := own_atoms hw
  have pre0 : own_P p e below s₁ (entryFrame m #[(.int 0), (.int p2), (.int p3), (.int p4), (.int p5)] 5) s₁ (mkF m 0 #[iv 0, iv p2, iv p3, iv p4, iv p5] []) := fun t k => castTop (by first | rfl | (simp [entryFrame, mkF, argsToLocals, Value.category]; done)) k
  have f101 := Keep.refl h0 []
  obtain ⟨T102, h102, X102, e102, E102, A102, D102, -, st102⟩ := newO X0 hx hZ hown (own_i hw 8 rfl) (own_i hw 9 rfl) (own_i hw 10 rfl) e0 (g := (mkF m 4 #[iv 0, iv p2, iv p3, iv p4, iv p5] [])) rfl (hb hby d2_4) (by decide) (by decide)
  obtain ⟨b102, g102⟩ : ∃ z, z = h0.size := ⟨_, rfl⟩
  rw [← g102] at A102 D102 st102
  have ga103 : n0 ≤ b102 := Nat.le_trans Z0 (Nat.le_of_eq g102.symm)
  have sz104 : h0.size ≤ b102 := Nat.le_trans f101.1 (Nat.le_of_eq g102.symm)
  have f105 : Fld Z h102 b102 "java/lang/String" "value" "[B" .null := D102 (Or.inr (own_i hw 24 rfl)) (ty := (.array .byte)) (by decide)
  have f106 : Fld Z h102 b102 "java/lang/String" "coder" "B" (.int 0) := D102 (Or.inr (own_i hw 25 rfl)) (ty := .byte) (by decide)
  have f107 := Nat.le_trans Z0 E102.1
  have f108 := CHv.ext E102 hCH0
  have f109 := f101.ext E102
  have f110 := Safe.ext E102 hCH0 (Safe.new (Nat.le_of_eq g102.symm))
  obtain ⟨T111, h111, k111, X111, e111, E111, A111, st111⟩ := newP X102 hx hZ (own_i hw 11 rfl) e102 (g := (mkF m 9 #[iv 0, iv p2, iv p3, iv p4, iv p5] [(.int 0), (.ref b102), (.ref b102)])) rfl (hb hby d2_9) rfl (by decide) (cap := 0) (by decide) (by decide) (by decide) (by decide)
  obtain ⟨b111, g111⟩ : ∃ z, z = h102.size := ⟨_, rfl⟩
  rw [← g111] at A111 st111
  have ne112 : b102 ≠ b111 := Nat.ne_of_lt (Nat.lt_of_lt_of_le A102.lt (Nat.le_of_eq g111.symm))
  have ga113 : n0 ≤ b111 := Nat.le_trans f107 (Nat.le_of_eq g111.symm)
  have sz114 : h0.size ≤ b111 := Nat.le_trans f109.1 (Nat.le_of_eq g111.symm)
  have V111 : Arv Z h111 b111 k111 .char (0 : Int32) [] (.int 0) := (Arv.new A111 (by decide)).pad (pad_rep [] (.int 0) 0)
  have f115 := Nat.le_trans f107 E111.1
  have f116 := CHv.ext E111 f108
  have f117 := f109.ext E111
  have f118 := Safe.ext E111 f108 f110
  have f119 := A102.ext E111
  have f120 := f105.ext E111
  have f121 := f106.ext E111
  obtain ⟨_, _, ⟨T122, L122, k122, n122⟩, -, Xw122, hSi122, hgr122, ⟨Lc122, hQ122, l122, y122, z122⟩, st122⟩ := X111.specialBackS hx (y := own_y4) rfl hown (own_m hZ hw 12) (own_m hZ hw 13) (own_m hZ hw 14) (by decide) (own_backCH (s := s) (vm0 := s.vm) (xs := [b102]) (W := 1) (rmG_0 l Z a0 hw [] b102 b111 k111 h111 n0 f115 f120 f121 f119 ga103 V111) hZ (own_i hw 14 rfl) (own_i hw 10 rfl) (by decide) (by decide) (own_EW hw) f116 (fun x q => by obtain rfl := List.mem_singleton.mp q; exact ⟨f119.lt, f118⟩)) (g := (mkF m 11 #[iv 0, iv p2, iv p3, iv p4, iv p5] [(.ref b111), (.ref b102), (.ref b102)])) rfl (by rw [hml]; rfl) (Steps.refl _) (a := b102) (argsL := [(.ref b111)]) (rest := [(.ref b102)]) (lenOf pd_14 rfl) rfl (Nat.le_of_eq rfl) (hb hby d2_11) (fun _ _ => ⟨rfl, e111, own_le rfl, own_le rfl⟩)
  dsimp only [Pt.U, Pt.locs, Pt.cells, Pt.slots] at Xw122 hSi122 hgr122 l122 y122 z122 st122 hQ122
  subst l122 y122 z122
  have hS122 : s.Since T122.vm T122.heap.size := foldS (s := s) (vm0 := s.vm) (T := T111) hS0 (Nat.zero_le _) hSi122 hgr122
  have hZ122 : Z.Warmed39 (s.setVm T122.vm).vm := State.Warmed39.trans (hZ) hS122.1
  have ho122 : (s.setVm T122.vm).vm.findClass "com/example/millipede/millipede/DecimalNumbersIsNumberPinLaw" = some m.cls := by show T122.vm.findClass _ = _; rw [hS122.1.alike.findClass]; exact hown
  have X122 : Stand p l e (own_R 3 4 8 43) (s.setVm T122.vm) m #[(.int 0), (.int p2), (.int p3), (.int p4), (.int p5)] below meth c T122 _ _ _ := Xw122
  obtain ⟨b123, x124, rfl, N122q, K122, f125, f126, f127, f128⟩ := hQ122
  have N122 := Fr.app N0 N122q
  have f129 := Nat.le_trans f115 K122.1
  have f130 := f117.trans K122 (allS (Or.inr sz104) all0)
  have f131 := V111.keep K122 (ninS (Ne.symm ne112) nin0)
  have pre132 : own_P p e below s₁ (entryFrame m #[(.int 0), (.int p2), (.int p3), (.int p4), (.int p5)] 5) T122 (mkF m 14 #[iv 0, iv p2, iv p3, iv p4, iv p5] [(.ref b102)]) := fun t k => pre0 t (by
    show Steps p.tables e below (s₁.setTop (mkF m 0 #[iv 0, iv p2, iv p3, iv p4, iv p5] [])) t
    refine XS.iloadN X0.here hx rfl (hb hby d2_0) rfl ?_
    refine XS.ifNo X0.here hx rfl (hb hby d2_1) rfl ((if0 _ _).trans (teq (by decide : (0 : Int32) = (0 : Int32))).2) ?_
    refine st102 _ ?_
    refine XS.dup X102.here hx rfl (hb hby d2_7) rfl rfl ?_
    refine XS.iconst X102.here hx rfl (hb hby d2_8) ?_
    refine st111 _ ?_
    refine st122.trans ?_
    exact k)
  obtain ⟨fs, hr, hrun, hended, hRW⟩ := X122.leaveW hS122 (Nat.le_refl _) (v := some (.ref b102)) (fun h => by rw [Bd.returns] at h; cases h)
  refine ⟨_, _, pre132 _ ?_, hrun, hended, _, _, rfl, ?_, hRW.1, hRW.2.1, hRW.2.2.1, hRW.2.2.2.mono (by decide) (by decide)⟩
  · exact retOut X122 hx Bd.returns rfl (Or.inr (Or.inr (Or.inr (Or.inr ⟨rfl, rfl, rfl⟩)))) (hb hby d2_14) hr
  · show QM_0 Z p2 p3 p4 p5 h0 n0 _ T122.heap _
    exact ⟨b102, b123, x124, rfl, N122, f130, ga103, sz104, f125, f127, f128⟩
def QEm0 (Z : State) (a1 tv : Addr) (kt : ClassId) (h0 : Heap) (n0 : Nat) (v : Option Value) (h : Heap) (L : List Loc) : Prop := v = some (.int 1) ∧ Fr n0 L ∧ h = h0
theorem rmEm0 (l : Launch) (Z : State) (a0 : Array Value) (hw : own_H Z a0) (ws : List Jvm.Cond) (a1 tv : Addr) (kt : ClassId) (h0 : Heap) (n0 : Nat) (Z0 : n0 ≤ h0.size) (W1 : Fld Z h0 a1 "java/lang/String" "value" "[B" (.ref tv)) (V1 : Arv Z h0 tv kt .byte (0 : Int32) [] (.int 0)) :
    own_M l own_y18 jdk_42_method_55_code 1 (some .boolean) ws (own_R 0 0 0 0) Z h0 #[(.ref a1)] (QEm0 Z a1 tv kt h0 n0) := by
  refine own_body (plainFor_of_name pn_java_lang_String) fun p e s m below meth c s₁ Bd hx hby hml (hown : s.vm.findClass "java/lang/String" = some m.cls) hnm X0 e0 hZ => ?_
  have N0 := Fr.nil n0
  have pre0 : own_P p e below s₁ (entryFrame m #[(.ref a1)] 1) s₁ (mkF m 0 #[rv a1] []) := fun t k => castTop (by first | rfl | (simp [entryFrame, mkF, argsToLocals, Value.category]; done)) k
  obtain ⟨T101, X101, e101, st101⟩ := getF X0 hx hZ hown (host := "") (Or.inl (own_i hw 28 rfl)) Via.refl e0 W1 (g := (mkF m 1 #[rv a1] [(.ref a1)])) rfl rfl (hb hby d7_1)
  obtain ⟨cl102, Ar102, q102, S102, N102z, H102, G102⟩ := (id V1)
  have pre103 : own_P p e below s₁ (entryFrame m #[(.ref a1)] 1) T101 (mkF m 13 #[rv a1] [(.int 1)]) := fun t k => pre0 t (by
    show Steps p.tables e below (s₁.setTop (mkF m 0 #[rv a1] [])) t
    refine XS.aloadN X0.here hx rfl (hb hby d7_0) rfl rfl ?_
    refine st101 _ ?_
    refine X101.arraylength hx (by rw [e101]; exact Ar102.1) (State.isArrayOf_alike hZ.alike Ar102.2.1) (g := (mkF m 4 #[rv a1] [(.ref tv)])) rfl rfl (hb hby d7_4) _ ?_
    rw [len_of S102 N102z]
    refine XS.ifNo X101.here hx rfl (hb hby d7_5) rfl ((if0 _ _).trans (teq (by decide : (0 : Int32) = (0 : Int32))).2) ?_
    refine XS.iconst X101.here hx rfl (hb hby d7_8) ?_
    refine XS.goto X101.here hx rfl (pc0 := 9) (pc' := 13) rfl (hb hby d7_9) (by decide) (by decide) ?_
    exact k)
  obtain ⟨fs, hr, hrun, hended, hW, hsame⟩ := X101.leave (v := some (.int 1)) (fun h => by rw [Bd.returns] at h; cases h)
  refine ⟨_, _, pre103 _ ?_, hrun, hended, _, _, rfl, ?_, ⟨_, rfl⟩, hW, hsame.mono (by decide) (by decide)⟩
  · exact retN X101 hx (t := .boolean) Bd.returns (by simp) (hb hby d7_13) hr
  · show QEm0 Z a1 tv kt h0 n0 _ T101.heap _
    rw [e101]
    exact ⟨rfl, N0, rfl⟩
def QIs_0 (Z : State) (a1 tv : Addr) (kt : ClassId) (h0 : Heap) (n0 : Nat) (v : Option Value) (h : Heap) (L : List Loc) : Prop := v = some (.int 0) ∧ Fr n0 L ∧ h = h0
theorem rmIs_0 (l : Launch) (Z : State) (a0 : Array Value) (hw : own_H Z a0) (ws : List Jvm.Cond) (a1 tv : Addr) (kt : ClassId) (h0 : Heap) (n0 : Nat) (Z0 : n0 ≤ h0.size) (E1 : Exa Z h0 a1 "java/lang/String") (W1 : Fld Z h0 a1 "java/lang/String" "value" "[B" (.ref tv)) (V1 : Arv Z h0 tv kt .byte (0 : Int32) [] (.int 0)) :
    own_M l own_y24 prog_20_method_2_code 3 (some .boolean) ws (own_R 1 0 0 12) Z h0 #[(.ref a1)] (QIs_0 Z a1 tv kt h0 n0) := by
  refine own_body (plainFor_of_name pn_com_example_millipede_millipede_DecimalNumbers) fun p e s m below meth c s₁ Bd hx hby hml (hown : s.vm.findClass "com/example/millipede/millipede/DecimalNumbers" = some m.cls) hnm X0 e0 hZ => ?_
  have N0 := Fr.nil n0
  have pre0 : own_P p e below s₁ (entryFrame m #[(.ref a1)] 3) s₁ (mkF m 0 #[rv a1, .unset, .unset] []) := fun t k => castTop (by first | rfl | (simp [entryFrame, mkF, argsToLocals, Value.category]; done)) k
  obtain ⟨cq101, kq101, q101a, q101b, q101c⟩ := isOf hZ e0 E1
  obtain ⟨_, _, ⟨T101, L101, k101, n101⟩, -, X101, ⟨Lc101, hQ101, l101, y101, z101⟩, st101⟩ := X0.virtualBack hx (y := own_y18) (z := own_y18) hown (own_m hZ hw 34) (own_m hZ hw 35) (notFace_of_selects (args := #[]) (own_m hZ hw 37)) (own_m hZ hw 37) (own_m hZ hw 36) (by decide) (backOf (W := 0) (rmEm0 l Z a0 hw [] a1 tv kt h0 n0 Z0 W1 V1) hZ (own_i hw 38 rfl) (own_i hw 10 rfl) (by decide) (by decide)) q101a q101c (g := (mkF m 1 #[rv a1, .unset, .unset] [(.ref a1)])) rfl (by rw [hml]; rfl) (Steps.refl _) (argsL := []) (rest := []) (lenOf pd_7 rfl) rfl (Nat.le_of_eq rfl) (hb hby d6_1) (fun _ _ => ⟨rfl, e0, own_le rfl, own_le rfl⟩)
  dsimp only [Pt.U, Pt.locs, Pt.cells, Pt.slots] at X101 l101 y101 z101 st101 hQ101
  subst l101 y101 z101
  obtain ⟨rfl, N101q, e101⟩ := hQ101
  have N101 := Fr.app N0 N101q
  have pre102 : own_P p e below s₁ (entryFrame m #[(.ref a1)] 3) T101 (mkF m 8 #[rv a1, .unset, .unset] [(.int 0)]) := fun t k => pre0 t (by
    show Steps p.tables e below (s₁.setTop (mkF m 0 #[rv a1, .unset, .unset] [])) t
    refine XS.aloadN X0.here hx rfl (hb hby d6_0) rfl rfl ?_
    refine st101.trans ?_
    refine XS.ifNo X101.here hx rfl (hb hby d6_4) rfl ((if0 _ _).trans (feq (by decide : ¬ ((1 : Int32) = (0 : Int32)))).1) ?_
    refine XS.iconst X101.here hx rfl (hb hby d6_7) ?_
    exact k)
  obtain ⟨fs, hr, hrun, hended, hW, hsame⟩ := X101.leave (v := some (.int 0)) (fun h => by rw [Bd.returns] at h; cases h)
  refine ⟨_, _, pre102 _ ?_, hrun, hended, _, _, rfl, ?_, ⟨_, rfl⟩, hW, hsame.mono (by decide) (by decide)⟩
  · exact retN X101 hx (t := .boolean) Bd.returns (by simp) (hb hby d6_8) hr
  · show QIs_0 Z a1 tv kt h0 n0 _ T101.heap _
    rw [e101]
    exact ⟨rfl, N101, rfl⟩
theorem own_len5 (x : Int32) : ((x &&& (2147483647 : Int32)) % (5 : Int32)) = (1 : Int32) ∨ ((x &&& (2147483647 : Int32)) % (5 : Int32)) = (2 : Int32) ∨ ((x &&& (2147483647 : Int32)) % (5 : Int32)) = (3 : Int32) ∨ ((x &&& (2147483647 : Int32)) % (5 : Int32)) = (4 : Int32) ∨ ((x &&& (2147483647 : Int32)) % (5 : Int32)) = (0 : Int32) := by
  have e : (x &&& (2147483647 : Int32)).toInt = x.toInt % 2 ^ 31 := Jvm.Kit.i32_mask x 2147483647 (k := 31) (by decide) (by decide)
  have e2 : ((x &&& (2147483647 : Int32)) % (5 : Int32)).toInt = (x &&& (2147483647 : Int32)).toInt % (5 : Int32).toInt := Jvm.Kit.i32_rem_nonneg (by omega)
  have e3 : (5 : Int32).toInt = 5 := rfl
  rw [e3] at e2
  have q : ∀ k : Int32, ((x &&& (2147483647 : Int32)) % (5 : Int32)).toInt = k.toInt → (x &&& (2147483647 : Int32)) % (5 : Int32) = k := fun k hk => Int32.toInt_inj.mp hk
  have h : ((x &&& (2147483647 : Int32)) % (5 : Int32)).toInt = 1 ∨ ((x &&& (2147483647 : Int32)) % (5 : Int32)).toInt = 2 ∨ ((x &&& (2147483647 : Int32)) % (5 : Int32)).toInt = 3 ∨ ((x &&& (2147483647 : Int32)) % (5 : Int32)).toInt = 4 ∨ ((x &&& (2147483647 : Int32)) % (5 : Int32)).toInt = 0 := by omega
  rcases h with h | h | h | h | h
  · exact Or.inl (q 1 h)
  · exact Or.inr (Or.inl (q 2 h))
  · exact Or.inr (Or.inr (Or.inl (q 3 h)))
  · exact Or.inr (Or.inr (Or.inr (Or.inl (q 4 h))))
  · exact Or.inr (Or.inr (Or.inr (Or.inr (q 0 h))))
theorem own_nn (c : Int32) : nar .char (nar .char c) = nar .char c := by
  apply Int32.toBitVec_inj.mp
  rw [own_narc (nar .char c), own_narc c]
  simp
theorem own_drn (x : Int32) : nar .char (own_dr x) = own_dr x := by
  unfold own_dr
  split <;> exact own_nn _
theorem own_drC (x : Int32) : own_C (own_dr x) := by
  rw [← own_drn]; exact own_Cn _
theorem own_eL {x : Int32} (h : ¬ ((255 : Int32) < (nar .char (own_dr x)))) : own_cat (nar .byte ((nar .char (own_dr x)).toInt8.toInt32)) = own_dr x := by
  rw [own_drn] at h ⊢
  exact own_latc (own_drC x) h
theorem own_eU (x : Int32) : nar .char (nar .char (own_ut (own_b0 (nar .char (own_dr x))) (own_b1 (nar .char (own_dr x))))) = own_dr x := by
  rw [own_drn, own_utc (own_drC x), own_drn, own_drn]
theorem own_dz (x : Int32) : (own_dgt (own_dr x) = (0 : Int32)) = ¬ own_dg (own_dr x) := by
  have h := own_drC x
  generalize own_dr x = c at h
  obtain ⟨h1, h2⟩ := h
  have e48 : (48 : Int32).toInt = 48 := rfl
  have es : (c - (48 : Int32)).toInt = c.toInt - 48 := by
    rw [Int32.toInt_sub, e48]
    rw [Int.bmod_eq_of_le (by omega) (by omega)]
  have e0 : (0 : Int32).toInt = 0 := rfl
  have e10 : (10 : Int32).toInt = 10 := rfl
  have e57 : (57 : Int32).toInt = 57 := rfl
  unfold own_dgt own_dg
  simp only [Int32.lt_iff_toInt_lt, es, e0, e10, e48, e57]
  apply propext
  by_cases a : c.toInt - 48 < 0
  · simp only [a, if_true, true_iff]
    omega
  · by_cases b : c.toInt - 48 < 10
    · simp only [a, b, if_true, if_false]
      refine ⟨fun q => absurd q (by decide), fun q => ?_⟩
      exfalso
      omega
    · simp only [a, b, if_false, true_iff]
      omega
theorem own_fin1 {p2 v158 : Int32} (h : (((own_dgt (own_dr p2)) = (0 : Int32)) ∧ v158 = (0 : Int32)) ∨ ((¬ ((own_dgt (own_dr p2)) = (0 : Int32))) ∧ v158 = (1 : Int32))) : own_all1 (own_dr p2) = v158 := by
  simp only [own_dz] at h
  unfold own_all1
  by_cases q0 : own_dg (own_dr p2) <;> simp [q0] at h ⊢ <;> simp_all
theorem own_fin2 {p2 p3 v221 : Int32} (h : (((own_dgt (own_dr p2)) = (0 : Int32)) ∧ v221 = (0 : Int32)) ∨ ((¬ ((own_dgt (own_dr p2)) = (0 : Int32))) ∧ ((own_dgt (own_dr p3)) = (0 : Int32)) ∧ v221 = (0 : Int32)) ∨ ((¬ ((own_dgt (own_dr p2)) = (0 : Int32))) ∧ (¬ ((own_dgt (own_dr p3)) = (0 : Int32))) ∧ v221 = (1 : Int32))) : own_all2 (own_dr p2) (own_dr p3) = v221 := by
  simp only [own_dz] at h
  unfold own_all2
  by_cases q0 : own_dg (own_dr p2) <;> by_cases q1 : own_dg (own_dr p3) <;> simp [q0, q1] at h ⊢ <;> simp_all
theorem own_fin3 {p2 p3 p4 v292 : Int32} (h : (((own_dgt (own_dr p2)) = (0 : Int32)) ∧ v292 = (0 : Int32)) ∨ ((¬ ((own_dgt (own_dr p2)) = (0 : Int32))) ∧ ((own_dgt (own_dr p3)) = (0 : Int32)) ∧ v292 = (0 : Int32)) ∨ ((¬ ((own_dgt (own_dr p2)) = (0 : Int32))) ∧ (¬ ((own_dgt (own_dr p3)) = (0 : Int32))) ∧ ((own_dgt (own_dr p4)) = (0 : Int32)) ∧ v292 = (0 : Int32)) ∨ ((¬ ((own_dgt (own_dr p2)) = (0 : Int32))) ∧ (¬ ((own_dgt (own_dr p3)) = (0 : Int32))) ∧ (¬ ((own_dgt (own_dr p4)) = (0 : Int32))) ∧ v292 = (1 : Int32))) : own_all3 (own_dr p2) (own_dr p3) (own_dr p4) = v292 := by
  simp only [own_dz] at h
  unfold own_all3
  by_cases q0 : own_dg (own_dr p2) <;> by_cases q1 : own_dg (own_dr p3) <;> by_cases q2 : own_dg (own_dr p4) <;> simp [q0, q1, q2] at h ⊢ <;> simp_all
theorem own_fin4 {p2 p3 p4 p5 v371 : Int32} (h : (((own_dgt (own_dr p2)) = (0 : Int32)) ∧ v371 = (0 : Int32)) ∨ ((¬ ((own_dgt (own_dr p2)) = (0 : Int32))) ∧ ((own_dgt (own_dr p3)) = (0 : Int32)) ∧ v371 = (0 : Int32)) ∨ ((¬ ((own_dgt (own_dr p2)) = (0 : Int32))) ∧ (¬ ((own_dgt (own_dr p3)) = (0 : Int32))) ∧ ((own_dgt (own_dr p4)) = (0 : Int32)) ∧ v371 = (0 : Int32)) ∨ ((¬ ((own_dgt (own_dr p2)) = (0 : Int32))) ∧ (¬ ((own_dgt (own_dr p3)) = (0 : Int32))) ∧ (¬ ((own_dgt (own_dr p4)) = (0 : Int32))) ∧ ((own_dgt (own_dr p5)) = (0 : Int32)) ∧ v371 = (0 : Int32)) ∨ ((¬ ((own_dgt (own_dr p2)) = (0 : Int32))) ∧ (¬ ((own_dgt (own_dr p3)) = (0 : Int32))) ∧ (¬ ((own_dgt (own_dr p4)) = (0 : Int32))) ∧ (¬ ((own_dgt (own_dr p5)) = (0 : Int32))) ∧ v371 = (1 : Int32))) : own_all4 (own_dr p2) (own_dr p3) (own_dr p4) (own_dr p5) = v371 := by
  simp only [own_dz] at h
  unfold own_all4
  by_cases q0 : own_dg (own_dr p2) <;> by_cases q1 : own_dg (own_dr p3) <;> by_cases q2 : own_dg (own_dr p4) <;> by_cases q3 : own_dg (own_dr p5) <;> simp [q0, q1, q2, q3] at h ⊢ <;> simp_all
theorem pd_17 : parseMethodDescriptor "(ICCCC)Ljava/lang/String;" = some ⟨[.int, .char, .char, .char, .char], some (.object "java/lang/String")⟩ := by decide +kernel
theorem pd_18 : parseMethodDescriptor "(C)Z" = some ⟨[.char], some .boolean⟩ := by decide +kernel
theorem pd_19 : parseMethodDescriptor "(Ljava/lang/String;)Z" = some ⟨[(.object "java/lang/String")], some .boolean⟩ := by decide +kernel
theorem ef_rm0 (m : MethodId) (x0 : Int32) (x1 : Int32) (x2 : Int32) (x3 : Int32) (x4 : Int32) : entryFrame m #[(.int x0), (.int x1), (.int x2), (.int x3), (.int x4)] maxLocals = mkF m 0 #[iv x0, iv x1, iv x2, iv x3, iv x4, .unset, .unset, .unset, .unset, .unset, .unset, .unset] [] := by first | (simp [entryFrame, mkF, argsToLocals, Value.category, maxLocals]; done) | rfl
def Q0 (Z : State) (p1 p2 p3 p4 p5 cs : Int32) (vF : Value) (h0 : Heap) (n0 : Nat) (v : Option Value) (h : Heap) (L : List Loc) : Prop := v = some (.int 1) ∧ Fr n0 L
set_option maxRecDepth 65536 in
set_option maxHeartbeats 40000000 in
theorem rm0 (l : Launch) (Z : State) (a0 : Array Value) (hw : own_H Z a0) (ws : List Jvm.Cond) (p1 p2 p3 p4 p5 cs : Int32) (vF : Value) (h0 : Heap) (n0 : Nat) (Z0 : n0 ≤ h0.size) (SC : Sta Z Z.heap "java/lang/String" "COMPACT_STRINGS" "Z" (.int cs)) (hcs : ¬ (cs = (0 : Int32))) (SA : Sta Z Z.heap "java/lang/StringUTF16" "$assertionsDisabled" "Z" (.int 1)) (SH : Sta Z Z.heap "java/lang/StringUTF16" "HI_BYTE_SHIFT" "I" (.int 0)) (SL : Sta Z Z.heap "java/lang/StringUTF16" "LO_BYTE_SHIFT" "I" (.int 8)) (SF : Sta Z Z.heap "jdk/internal/util/Preconditions" "SIOOBE_FORMATTER" "Ljava/util/function/BiFunction;" vF) (hF : vF.isRef = true) (O0 : Old Z n0 h0) (hCH : CHv Z own_EL Z.vm Z.heap) :
    MetFree l x (head1 (Jvm.Cond.code x code maxLocals ret :: ws) room_1) (fun a U => a = #[(.int p1), (.int p2), (.int p3), (.int p4), (.int p5)] ∧ Z.Warmed39 U.vm ∧ U.heap = h0 ∧ U = Z) (fun _ _ _ _ _ => True) (fun _ U o U' => ∃ v L, o = .returned v ∧ Q0 Z p1 p2 p3 p4 p5 cs vF h0 n0 v U'.heap L ∧ ReturnedEndW U o U' L 4 20) := by
  refine MetFree.of_bodySF (plainFor_of_name pn_com_example_millipede_millipede_DecimalNumbersIsNumberPinLaw) hisR ?_
  intro p e s m args below meth c s₁ Bd hml0 hP hK
  obtain ⟨rfl, hZ, hh, hUZ⟩ := hP
  have hx := Bd.exec
  have hby := Bd.bytes
  have hml : c.maxLocals = 12 := hml0
  have hown : s.vm.findClass "com/example/millipede/millipede/DecimalNumbersIsNumberPinLaw" = some m.cls := findClass_of_methodNamed Bd.named
  have hnm := (name_of_methodNamed Bd.named Bd.method).1
  have X0 : Stand p l e room_1 s m #[(.int p1), (.int p2), (.int p3), (.int p4), (.int p5)] below meth c s₁ [] 0 0 := Stand.of_body Bd
  have e0 : s₁.heap = h0 := by rw [← hh, Bd.state]; rfl
  have N0 := Fr.nil n0
  have hCH0 : CHv Z own_EL s.vm h0 := by rw [← hh, hUZ]; exact hCH
  have hS0 : s.Since s.vm 0 := (State.WarmedH.refl s).since 0
  have hwS : ∀ a ∈ Bundle.stringAtoms, a.before a0 Z = true := own_atoms hw
  have pre0 : own_P p e below s₁ (entryFrame m #[(.int p1), (.int p2), (.int p3), (.int p4), (.int p5)] maxLocals) s₁ (mkF m 0 #[iv p1, iv p2, iv p3, iv p4, iv p5, .unset, .unset, .unset, .unset, .unset, .unset, .unset] []) := fun t k => castTop (ef_rm0 m p1 p2 p3 p4 p5) k
  have f101 := Keep.refl h0 []
  obtain ⟨_, _, ⟨T102, L102, k102, n102⟩, -, X102, ⟨Lc102, hQ102, l102, y102, z102⟩, st102⟩ := Jvm.LawKit.callS X0 hx (y := own_y5) hown (own_m hZ hw 1) (own_m hZ hw 2) (own_m hZ hw 3) (own_m hZ hw 4) (by decide) (backOf (W := 0) (rmDr l Z a0 hw [] p2 h0 n0 Z0 ) hZ (own_i hw 4 rfl) (own_i hw 3 rfl) (by decide) (by decide)) (g := (mkF m 9 #[iv p1, iv p2, iv p3, iv p4, iv p5, iv ((p1 &&& (2147483647 : Int32)) % (5 : Int32)), .unset, .unset, .unset, .unset, .unset, .unset] [(.int p2)])) rfl (by rw [hml]; rfl) (argsL := [(.int p2)]) (rest := []) (lenOf pd_16 rfl) rfl (Nat.le_of_eq rfl) (hb hby at_9) (fun _ _ => ⟨rfl, e0, own_le rfl, own_le rfl⟩)
  dsimp only [Pt.U, Pt.locs, Pt.cells, Pt.slots] at X102 l102 y102 z102 st102 hQ102
  subst l102 y102 z102
  obtain ⟨rfl, N102q, e102⟩ := hQ102
  have N102 := Fr.app N0 N102q
  obtain ⟨_, _, ⟨T103, L103, k103, n103⟩, -, X103, ⟨Lc103, hQ103, l103, y103, z103⟩, st103⟩ := Jvm.LawKit.callS X102 hx (y := own_y5) hown (own_m hZ hw 1) (own_m hZ hw 2) (own_m hZ hw 3) (own_m hZ hw 4) (by decide) (backOf (W := 0) (rmDr l Z a0 hw [] p3 h0 n0 Z0 ) hZ (own_i hw 4 rfl) (own_i hw 3 rfl) (by decide) (by decide)) (g := (mkF m 15 #[iv p1, iv p2, iv p3, iv p4, iv p5, iv ((p1 &&& (2147483647 : Int32)) % (5 : Int32)), iv (own_dr p2), .unset, .unset, .unset, .unset, .unset] [(.int p3)])) rfl (by rw [hml]; rfl) (argsL := [(.int p3)]) (rest := []) (lenOf pd_16 rfl) rfl (Nat.le_of_eq rfl) (hb hby at_15) (fun _ _ => ⟨rfl, e102, own_le rfl, own_le rfl⟩)
  dsimp only [Pt.U, Pt.locs, Pt.cells, Pt.slots] at X103 l103 y103 z103 st103 hQ103
  subst l103 y103 z103
  obtain ⟨rfl, N103q, e103⟩ := hQ103
  have N103 := Fr.app N102 N103q
  obtain ⟨_, _, ⟨T104, L104, k104, n104⟩, -, X104, ⟨Lc104, hQ104, l104, y104, z104⟩, st104⟩ := Jvm.LawKit.callS X103 hx (y := own_y5) hown (own_m hZ hw 1) (own_m hZ hw 2) (own_m hZ hw 3) (own_m hZ hw 4) (by decide) (backOf (W := 0) (rmDr l Z a0 hw [] p4 h0 n0 Z0 ) hZ (own_i hw 4 rfl) (own_i hw 3 rfl) (by decide) (by decide)) (g := (mkF m 21 #[iv p1, iv p2, iv p3, iv p4, iv p5, iv ((p1 &&& (2147483647 : Int32)) % (5 : Int32)), iv (own_dr p2), iv (own_dr p3), .unset, .unset, .unset, .unset] [(.int p4)])) rfl (by rw [hml]; rfl) (argsL := [(.int p4)]) (rest := []) (lenOf pd_16 rfl) rfl (Nat.le_of_eq rfl) (hb hby at_21) (fun _ _ => ⟨rfl, e103, own_le rfl, own_le rfl⟩)
  dsimp only [Pt.U, Pt.locs, Pt.cells, Pt.slots] at X104 l104 y104 z104 st104 hQ104
  subst l104 y104 z104
  obtain ⟨rfl, N104q, e104⟩ := hQ104
  have N104 := Fr.app N103 N104q
  obtain ⟨_, _, ⟨T105, L105, k105, n105⟩, -, X105, ⟨Lc105, hQ105, l105, y105, z105⟩, st105⟩ := Jvm.LawKit.callS X104 hx (y := own_y5) hown (own_m hZ hw 1) (own_m hZ hw 2) (own_m hZ hw 3) (own_m hZ hw 4) (by decide) (backOf (W := 0) (rmDr l Z a0 hw [] p5 h0 n0 Z0 ) hZ (own_i hw 4 rfl) (own_i hw 3 rfl) (by decide) (by decide)) (g := (mkF m 28 #[iv p1, iv p2, iv p3, iv p4, iv p5, iv ((p1 &&& (2147483647 : Int32)) % (5 : Int32)), iv (own_dr p2), iv (own_dr p3), iv (own_dr p4), .unset, .unset, .unset] [(.int p5)])) rfl (by rw [hml]; rfl) (argsL := [(.int p5)]) (rest := []) (lenOf pd_16 rfl) rfl (Nat.le_of_eq rfl) (hb hby at_28) (fun _ _ => ⟨rfl, e104, own_le rfl, own_le rfl⟩)
  dsimp only [Pt.U, Pt.locs, Pt.cells, Pt.slots] at X105 l105 y105 z105 st105 hQ105
  subst l105 y105 z105
  obtain ⟨rfl, N105q, e105⟩ := hQ105
  have N105 := Fr.app N104 N105q
  have pre106 : own_P p e below s₁ (entryFrame m #[(.int p1), (.int p2), (.int p3), (.int p4), (.int p5)] maxLocals) T105 (mkF m 33 #[iv p1, iv p2, iv p3, iv p4, iv p5, iv ((p1 &&& (2147483647 : Int32)) % (5 : Int32)), iv (own_dr p2), iv (own_dr p3), iv (own_dr p4), iv (own_dr p5), .unset, .unset] []) := fun t k => pre0 t (by
    show Steps p.tables e below (s₁.setTop (mkF m 0 #[iv p1, iv p2, iv p3, iv p4, iv p5, .unset, .unset, .unset, .unset, .unset, .unset, .unset] [])) t
    refine XS.iloadN X0.here hx rfl (hb hby at_0) rfl ?_
    refine X0.ldcInt hx hown (own_m hZ hw 0) (g := (mkF m 1 #[iv p1, iv p2, iv p3, iv p4, iv p5, .unset, .unset, .unset, .unset, .unset, .unset, .unset] [(.int p1)])) rfl (hb hby at_1) _ ?_
    refine XS.iand X0.here hx rfl (hb hby at_3) rfl ?_
    refine XS.iconst X0.here hx rfl (hb hby at_4) ?_
    refine iremM (g := (mkF m 5 #[iv p1, iv p2, iv p3, iv p4, iv p5, .unset, .unset, .unset, .unset, .unset, .unset, .unset] [(.int 5), (.int (p1 &&& (2147483647 : Int32)))])) X0 hx rfl (hb hby at_5) rfl (by decide) ?_
    refine XS.istore X0.here hx rfl (hb hby at_6) rfl (l' := #[iv p1, iv p2, iv p3, iv p4, iv p5, iv ((p1 &&& (2147483647 : Int32)) % (5 : Int32)), .unset, .unset, .unset, .unset, .unset, .unset]) rfl ?_
    refine XS.iloadN X0.here hx rfl (hb hby at_8) rfl ?_
    refine st102 _ ?_
    refine XS.istore X102.here hx rfl (hb hby at_12) rfl (l' := #[iv p1, iv p2, iv p3, iv p4, iv p5, iv ((p1 &&& (2147483647 : Int32)) % (5 : Int32)), iv (own_dr p2), .unset, .unset, .unset, .unset, .unset]) rfl ?_
    refine XS.iloadN X102.here hx rfl (hb hby at_14) rfl ?_
    refine st103 _ ?_
    refine XS.istore X103.here hx rfl (hb hby at_18) rfl (l' := #[iv p1, iv p2, iv p3, iv p4, iv p5, iv ((p1 &&& (2147483647 : Int32)) % (5 : Int32)), iv (own_dr p2), iv (own_dr p3), .unset, .unset, .unset, .unset]) rfl ?_
    refine XS.iloadN X103.here hx rfl (hb hby at_20) rfl ?_
    refine st104 _ ?_
    refine XS.istore X104.here hx rfl (hb hby at_24) rfl (l' := #[iv p1, iv p2, iv p3, iv p4, iv p5, iv ((p1 &&& (2147483647 : Int32)) % (5 : Int32)), iv (own_dr p2), iv (own_dr p3), iv (own_dr p4), .unset, .unset, .unset]) rfl ?_
    refine XS.iload X104.here hx rfl (hb hby at_26) rfl ?_
    refine st105 _ ?_
    refine XS.istore X105.here hx rfl (hb hby at_31) rfl (l' := #[iv p1, iv p2, iv p3, iv p4, iv p5, iv ((p1 &&& (2147483647 : Int32)) % (5 : Int32)), iv (own_dr p2), iv (own_dr p3), iv (own_dr p4), iv (own_dr p5), .unset, .unset]) rfl ?_
    exact k)
  rcases (own_len5 p1) with hs107 | hs107 | hs107 | hs107 | hs107
  · have pre108 : own_P p e below s₁ (entryFrame m #[(.int p1), (.int p2), (.int p3), (.int p4), (.int p5)] maxLocals) T105 (mkF m 33 #[iv p1, iv p2, iv p3, iv p4, iv p5, iv 1, iv (own_dr p2), iv (own_dr p3), iv (own_dr p4), iv (own_dr p5), .unset, .unset] []) := fun t k => pre106 t (by rw [show ((p1 &&& (2147483647 : Int32)) % (5 : Int32)) = (1 : Int32) from hs107]; exact k)
    have pre109 : own_P p e below s₁ (entryFrame m #[(.int p1), (.int p2), (.int p3), (.int p4), (.int p5)] maxLocals) T105 (mkF m 35 #[iv p1, iv p2, iv p3, iv p4, iv p5, iv 1, iv (own_dr p2), iv (own_dr p3), iv (own_dr p4), iv (own_dr p5), .unset, .unset] [(.int 1)]) := fun t k => pre108 t (by
      show Steps p.tables e below (T105.setTop (mkF m 33 #[iv p1, iv p2, iv p3, iv p4, iv p5, iv 1, iv (own_dr p2), iv (own_dr p3), iv (own_dr p4), iv (own_dr p5), .unset, .unset] [])) t
      refine XS.iload X105.here hx rfl (hb hby at_33) rfl ?_
      exact k)
    rcases (Classical.em ((¬ ((255 : Int32) < (nar .char (own_dr p2)))))) with hs110 | hs110
    · obtain ⟨_, _, ⟨T111, L111, k111, n111⟩, -, X111, ⟨Lc111, hQ111, l111, y111, z111⟩, st111⟩ := Jvm.LawKit.callS X105 hx (y := own_y23) hown (own_m hZ hw 5) (own_m hZ hw 6) (own_m hZ hw 3) (own_m hZ hw 7) (by decide) (backOf (W := 0) (rmM_1 l Z a0 hw [] (own_dr p2) (own_dr p3) (own_dr p4) (own_dr p5) cs h0 n0 Z0 SC hcs O0 hs110) hZ (own_i hw 7 rfl) (own_i hw 3 rfl) (by decide) (by decide)) (g := (mkF m 43 #[iv p1, iv p2, iv p3, iv p4, iv p5, iv 1, iv (own_dr p2), iv (own_dr p3), iv (own_dr p4), iv (own_dr p5), .unset, .unset] [(.int (own_dr p5)), (.int (own_dr p4)), (.int (own_dr p3)), (.int (own_dr p2)), (.int 1)])) rfl (by rw [hml]; rfl) (argsL := [(.int 1), (.int (own_dr p2)), (.int (own_dr p3)), (.int (own_dr p4)), (.int (own_dr p5))]) (rest := []) (lenOf pd_17 rfl) rfl (Nat.le_of_eq rfl) (hb hby at_43) (fun _ _ => ⟨rfl, e105, own_le rfl, own_le rfl⟩)
      dsimp only [Pt.U, Pt.locs, Pt.cells, Pt.slots] at X111 l111 y111 z111 st111 hQ111
      subst l111 y111 z111
      obtain ⟨b112, b113, x114, rfl, N111q, K111, f115, f116, f117, f118, f119, f120, f121, f122⟩ := hQ111
      have N111 := Fr.app N105 N111q
      have f123 := Nat.le_trans Z0 K111.1
      have f124 := O0.keep K111 all0
      have f125 := f101.trans K111 all0
      have pre126 : own_P p e below s₁ (entryFrame m #[(.int p1), (.int p2), (.int p3), (.int p4), (.int p5)] maxLocals) T111 (mkF m 48 #[iv p1, iv p2, iv p3, iv p4, iv p5, iv 1, iv (own_dr p2), iv (own_dr p3), iv (own_dr p4), iv (own_dr p5), rv b112, .unset] []) := fun t k => pre109 t (by
        show Steps p.tables e below (T105.setTop (mkF m 35 #[iv p1, iv p2, iv p3, iv p4, iv p5, iv 1, iv (own_dr p2), iv (own_dr p3), iv (own_dr p4), iv (own_dr p5), .unset, .unset] [(.int 1)])) t
        refine XS.iload X105.here hx rfl (hb hby at_35) rfl ?_
        refine XS.iload X105.here hx rfl (hb hby at_37) rfl ?_
        refine XS.iload X105.here hx rfl (hb hby at_39) rfl ?_
        refine XS.iload X105.here hx rfl (hb hby at_41) rfl ?_
        refine st111 _ ?_
        refine XS.astore X111.here hx rfl (hb hby at_46) rfl rfl (l' := #[iv p1, iv p2, iv p3, iv p4, iv p5, iv 1, iv (own_dr p2), iv (own_dr p3), iv (own_dr p4), iv (own_dr p5), rv b112, .unset]) rfl ?_
        exact k)
      obtain ⟨T133, L133, v132, X133, e133, N133, hP133, pre133⟩ : ∃ (T' : State) (L' : List Loc) (v132 : Int32), Stand p l e room_1 s m #[(.int p1), (.int p2), (.int p3), (.int p4), (.int p5)] below meth c T' L' 3 6 ∧ T'.heap = T111.heap ∧ Fr n0 L' ∧ ((((own_dgt (own_dr p2)) = (0 : Int32)) ∧ v132 = (0 : Int32)) ∨ ((¬ ((own_dgt (own_dr p2)) = (0 : Int32))) ∧ v132 = (1 : Int32))) ∧ ∀ t, Steps p.tables e below (T'.setTop (mkF m 108 #[iv p1, iv p2, iv p3, iv p4, iv p5, iv 1, iv (own_dr p2), iv (own_dr p3), iv (own_dr p4), iv (own_dr p5), rv b112, .unset] [(.int v132)])) t → Steps p.tables e below (s₁.setTop (entryFrame m #[(.int p1), (.int p2), (.int p3), (.int p4), (.int p5)] maxLocals)) t := by
        obtain ⟨_, _, ⟨T127, L127, k127, n127⟩, -, X127, ⟨Lc127, hQ127, l127, y127, z127⟩, st127⟩ := Jvm.LawKit.callS X111 hx (y := own_y6) hown (own_m hZ hw 50) (own_m hZ hw 51) (own_m hZ hw 3) (own_m hZ hw 52) (by decide) (backOf (W := 0) (rmDt l Z a0 hw [] (own_dr p2) T111.heap n0 f123 ) hZ (own_i hw 52 rfl) (own_i hw 3 rfl) (by decide) (by decide)) (g := (mkF m 55 #[iv p1, iv p2, iv p3, iv p4, iv p5, iv 1, iv (own_dr p2), iv (own_dr p3), iv (own_dr p4), iv (own_dr p5), rv b112, .unset] [(.int (own_dr p2))])) rfl (by rw [hml]; rfl) (argsL := [(.int (own_dr p2))]) (rest := []) (lenOf pd_18 rfl) rfl (Nat.le_of_eq rfl) (hb hby at_55) (fun _ _ => ⟨rfl, rfl, own_le rfl, own_le rfl⟩)
        dsimp only [Pt.U, Pt.locs, Pt.cells, Pt.slots] at X127 l127 y127 z127 st127 hQ127
        subst l127 y127 z127
        obtain ⟨rfl, N127q, e127⟩ := hQ127
        have N127 := Fr.app N111 N127q
        have pre129 : own_P p e below s₁ (entryFrame m #[(.int p1), (.int p2), (.int p3), (.int p4), (.int p5)] maxLocals) T127 (mkF m 58 #[iv p1, iv p2, iv p3, iv p4, iv p5, iv 1, iv (own_dr p2), iv (own_dr p3), iv (own_dr p4), iv (own_dr p5), rv b112, .unset] [(.int (own_dgt (own_dr p2)))]) := fun t k => pre126 t (by
          show Steps p.tables e below (T111.setTop (mkF m 48 #[iv p1, iv p2, iv p3, iv p4, iv p5, iv 1, iv (own_dr p2), iv (own_dr p3), iv (own_dr p4), iv (own_dr p5), rv b112, .unset] [])) t
          refine XS.iload X111.here hx rfl (hb hby at_48) rfl ?_
          refine XS.ifNo X111.here hx rfl (hb hby at_50) rfl ((if0 _ _).trans (tlt (by decide : (0 : Int32) < (1 : Int32))).2.2.2) ?_
          refine XS.iload X111.here hx rfl (hb hby at_53) rfl ?_
          refine st127 _ ?_
          exact k)
        by_cases hc128 : (own_dgt (own_dr p2)) = (0 : Int32)
        · have pre130 : own_P p e below s₁ (entryFrame m #[(.int p1), (.int p2), (.int p3), (.int p4), (.int p5)] maxLocals) T127 (mkF m 108 #[iv p1, iv p2, iv p3, iv p4, iv p5, iv 1, iv (own_dr p2), iv (own_dr p3), iv (own_dr p4), iv (own_dr p5), rv b112, .unset] [(.int 0)]) := fun t k => pre129 t (by
            refine XS.ifYes X127.here hx rfl (pc0 := 58) (pc' := 107) rfl (hb hby at_58) rfl ((if0 _ _).trans (teq hc128).1) (by decide) (by decide) ?_
            refine XS.iconst X127.here hx rfl (hb hby at_107) ?_
            exact k)
          exact ⟨_, _, (0 : Int32), X127, e127, N127, (Or.inl ⟨hc128, rfl⟩), pre130⟩
        · have pre131 : own_P p e below s₁ (entryFrame m #[(.int p1), (.int p2), (.int p3), (.int p4), (.int p5)] maxLocals) T127 (mkF m 108 #[iv p1, iv p2, iv p3, iv p4, iv p5, iv 1, iv (own_dr p2), iv (own_dr p3), iv (own_dr p4), iv (own_dr p5), rv b112, .unset] [(.int 1)]) := fun t k => pre129 t (by
            refine XS.ifNo X127.here hx rfl (hb hby at_58) rfl ((if0 _ _).trans (feq hc128).1) ?_
            refine XS.iload X127.here hx rfl (hb hby at_61) rfl ?_
            refine XS.iconst X127.here hx rfl (hb hby at_63) ?_
            refine XS.icmpYes X127.here hx rfl (pc0 := 64) (pc' := 75) rfl (hb hby at_64) rfl (tlt (by decide : (1 : Int32) < (2 : Int32))).1 (by decide) (by decide) ?_
            refine XS.iload X127.here hx rfl (hb hby at_75) rfl ?_
            refine XS.iconst X127.here hx rfl (hb hby at_77) ?_
            refine XS.icmpYes X127.here hx rfl (pc0 := 78) (pc' := 89) rfl (hb hby at_78) rfl (tlt (by decide : (1 : Int32) < (3 : Int32))).1 (by decide) (by decide) ?_
            refine XS.iload X127.here hx rfl (hb hby at_89) rfl ?_
            refine XS.iconst X127.here hx rfl (hb hby at_91) ?_
            refine XS.icmpYes X127.here hx rfl (pc0 := 92) (pc' := 103) rfl (hb hby at_92) rfl (tlt (by decide : (1 : Int32) < (4 : Int32))).1 (by decide) (by decide) ?_
            refine XS.iconst X127.here hx rfl (hb hby at_103) ?_
            refine XS.goto X127.here hx rfl (pc0 := 104) (pc' := 108) rfl (hb hby at_104) (by decide) (by decide) ?_
            exact k)
          exact ⟨_, _, (1 : Int32), X127, e127, N127, (Or.inr (⟨hc128, rfl⟩)), pre131⟩
      obtain ⟨_, _, ⟨T134, L134, k134, n134⟩, -, X134, ⟨Lc134, hQ134, l134, y134, z134⟩, st134⟩ := Jvm.LawKit.callS X133 hx (y := own_y24) hown (own_m hZ hw 30) (own_m hZ hw 31) (own_m hZ hw 32) (own_m hZ hw 33) (by decide) (backOf (W := 0) (rmIs_1 l Z a0 hw [] b112 cs vF b113 x114 (nar .byte ((nar .char (own_dr p2)).toInt8.toInt32)) T111.heap n0 f123 (SC.ext f124.2) hcs (SF.ext f124.2) hF f117 f118 f119 f122) hZ (own_i hw 33 rfl) (own_i hw 32 rfl) (by decide) (by decide)) (g := (mkF m 112 #[iv p1, iv p2, iv p3, iv p4, iv p5, iv 1, iv (own_dr p2), iv (own_dr p3), iv (own_dr p4), iv (own_dr p5), rv b112, iv v132] [(.ref b112)])) rfl (by rw [hml]; rfl) (argsL := [(.ref b112)]) (rest := []) (lenOf pd_19 rfl) rfl (Nat.le_of_eq rfl) (hb hby at_112) (fun _ _ => ⟨rfl, e133, own_le rfl, own_le rfl⟩)
      dsimp only [Pt.U, Pt.locs, Pt.cells, Pt.slots] at X134 l134 y134 z134 st134 hQ134
      subst l134 y134 z134
      obtain ⟨rfl, N134q, e134⟩ := hQ134
      have N134 := Fr.app N133 N134q
      have hd135 : (own_all1 (own_cat (nar .byte ((nar .char (own_dr p2)).toInt8.toInt32)))) = v132 := by rw [own_eL hs110]; exact own_fin1 hP133
      have pre136 : own_P p e below s₁ (entryFrame m #[(.int p1), (.int p2), (.int p3), (.int p4), (.int p5)] maxLocals) T134 (mkF m 125 #[iv p1, iv p2, iv p3, iv p4, iv p5, iv 1, iv (own_dr p2), iv (own_dr p3), iv (own_dr p4), iv (own_dr p5), rv b112, iv v132] [(.int 1)]) := fun t k => pre133 t (by
        show Steps p.tables e below (T133.setTop (mkF m 108 #[iv p1, iv p2, iv p3, iv p4, iv p5, iv 1, iv (own_dr p2), iv (own_dr p3), iv (own_dr p4), iv (own_dr p5), rv b112, .unset] [(.int v132)])) t
        refine XS.istore X133.here hx rfl (hb hby at_108) rfl (l' := #[iv p1, iv p2, iv p3, iv p4, iv p5, iv 1, iv (own_dr p2), iv (own_dr p3), iv (own_dr p4), iv (own_dr p5), rv b112, iv v132]) rfl ?_
        refine XS.aload X133.here hx rfl (hb hby at_110) rfl rfl ?_
        refine st134 _ ?_
        refine XS.iload X134.here hx rfl (hb hby at_115) rfl ?_
        refine XS.icmpNo X134.here hx rfl (hb hby at_117) rfl (teq hd135).2 ?_
        refine XS.iconst X134.here hx rfl (hb hby at_120) ?_
        refine XS.goto X134.here hx rfl (pc0 := 121) (pc' := 125) rfl (hb hby at_121) (by decide) (by decide) ?_
        exact k)
      obtain ⟨fs, hr, hrun, hended, hW, hsame⟩ := X134.leave (v := some (.int 1)) (fun h => by rw [Bd.returns] at h; cases h)
      refine ⟨_, _, pre136 _ ?_, hrun, hended, _, _, rfl, ?_, ReturnedEndW.of_narrow ⟨_, rfl⟩ hW (hsame.mono (by decide) (by decide))⟩
      · exact retN X134 hx (t := .boolean) Bd.returns (by simp) (hb hby at_125) hr
      · show Q0 Z p1 p2 p3 p4 p5 cs vF h0 n0 _ T134.heap _
        rw [e134]
        exact ⟨rfl, N134⟩
    · obtain ⟨_, _, ⟨T137, L137, k137, n137⟩, -, X137, ⟨Lc137, hQ137, l137, y137, z137⟩, st137⟩ := Jvm.LawKit.callS X105 hx (y := own_y23) hown (own_m hZ hw 5) (own_m hZ hw 6) (own_m hZ hw 3) (own_m hZ hw 7) (by decide) (backOf (W := 0) (rmMU_1 l Z a0 hw [] (own_dr p2) (own_dr p3) (own_dr p4) (own_dr p5) cs h0 n0 Z0 SC hcs SA SH SL O0 hs110) hZ (own_i hw 7 rfl) (own_i hw 3 rfl) (by decide) (by decide)) (g := (mkF m 43 #[iv p1, iv p2, iv p3, iv p4, iv p5, iv 1, iv (own_dr p2), iv (own_dr p3), iv (own_dr p4), iv (own_dr p5), .unset, .unset] [(.int (own_dr p5)), (.int (own_dr p4)), (.int (own_dr p3)), (.int (own_dr p2)), (.int 1)])) rfl (by rw [hml]; rfl) (argsL := [(.int 1), (.int (own_dr p2)), (.int (own_dr p3)), (.int (own_dr p4)), (.int (own_dr p5))]) (rest := []) (lenOf pd_17 rfl) rfl (Nat.le_of_eq rfl) (hb hby at_43) (fun _ _ => ⟨rfl, e105, own_le rfl, own_le rfl⟩)
      dsimp only [Pt.U, Pt.locs, Pt.cells, Pt.slots] at X137 l137 y137 z137 st137 hQ137
      subst l137 y137 z137
      obtain ⟨b138, b139, x140, rfl, N137q, K137, f141, f142, f143, f144, f145, f146, f147, f148⟩ := hQ137
      have N137 := Fr.app N105 N137q
      have f149 := Nat.le_trans Z0 K137.1
      have f150 := O0.keep K137 all0
      have f151 := f101.trans K137 all0
      have pre152 : own_P p e below s₁ (entryFrame m #[(.int p1), (.int p2), (.int p3), (.int p4), (.int p5)] maxLocals) T137 (mkF m 48 #[iv p1, iv p2, iv p3, iv p4, iv p5, iv 1, iv (own_dr p2), iv (own_dr p3), iv (own_dr p4), iv (own_dr p5), rv b138, .unset] []) := fun t k => pre109 t (by
        show Steps p.tables e below (T105.setTop (mkF m 35 #[iv p1, iv p2, iv p3, iv p4, iv p5, iv 1, iv (own_dr p2), iv (own_dr p3), iv (own_dr p4), iv (own_dr p5), .unset, .unset] [(.int 1)])) t
        refine XS.iload X105.here hx rfl (hb hby at_35) rfl ?_
        refine XS.iload X105.here hx rfl (hb hby at_37) rfl ?_
        refine XS.iload X105.here hx rfl (hb hby at_39) rfl ?_
        refine XS.iload X105.here hx rfl (hb hby at_41) rfl ?_
        refine st137 _ ?_
        refine XS.astore X137.here hx rfl (hb hby at_46) rfl rfl (l' := #[iv p1, iv p2, iv p3, iv p4, iv p5, iv 1, iv (own_dr p2), iv (own_dr p3), iv (own_dr p4), iv (own_dr p5), rv b138, .unset]) rfl ?_
        exact k)
      obtain ⟨T159, L159, v158, X159, e159, N159, hP159, pre159⟩ : ∃ (T' : State) (L' : List Loc) (v158 : Int32), Stand p l e room_1 s m #[(.int p1), (.int p2), (.int p3), (.int p4), (.int p5)] below meth c T' L' 4 8 ∧ T'.heap = T137.heap ∧ Fr n0 L' ∧ ((((own_dgt (own_dr p2)) = (0 : Int32)) ∧ v158 = (0 : Int32)) ∨ ((¬ ((own_dgt (own_dr p2)) = (0 : Int32))) ∧ v158 = (1 : Int32))) ∧ ∀ t, Steps p.tables e below (T'.setTop (mkF m 108 #[iv p1, iv p2, iv p3, iv p4, iv p5, iv 1, iv (own_dr p2), iv (own_dr p3), iv (own_dr p4), iv (own_dr p5), rv b138, .unset] [(.int v158)])) t → Steps p.tables e below (s₁.setTop (entryFrame m #[(.int p1), (.int p2), (.int p3), (.int p4), (.int p5)] maxLocals)) t := by
        obtain ⟨_, _, ⟨T153, L153, k153, n153⟩, -, X153, ⟨Lc153, hQ153, l153, y153, z153⟩, st153⟩ := Jvm.LawKit.callS X137 hx (y := own_y6) hown (own_m hZ hw 50) (own_m hZ hw 51) (own_m hZ hw 3) (own_m hZ hw 52) (by decide) (backOf (W := 0) (rmDt l Z a0 hw [] (own_dr p2) T137.heap n0 f149 ) hZ (own_i hw 52 rfl) (own_i hw 3 rfl) (by decide) (by decide)) (g := (mkF m 55 #[iv p1, iv p2, iv p3, iv p4, iv p5, iv 1, iv (own_dr p2), iv (own_dr p3), iv (own_dr p4), iv (own_dr p5), rv b138, .unset] [(.int (own_dr p2))])) rfl (by rw [hml]; rfl) (argsL := [(.int (own_dr p2))]) (rest := []) (lenOf pd_18 rfl) rfl (Nat.le_of_eq rfl) (hb hby at_55) (fun _ _ => ⟨rfl, rfl, own_le rfl, own_le rfl⟩)
        dsimp only [Pt.U, Pt.locs, Pt.cells, Pt.slots] at X153 l153 y153 z153 st153 hQ153
        subst l153 y153 z153
        obtain ⟨rfl, N153q, e153⟩ := hQ153
        have N153 := Fr.app N137 N153q
        have pre155 : own_P p e below s₁ (entryFrame m #[(.int p1), (.int p2), (.int p3), (.int p4), (.int p5)] maxLocals) T153 (mkF m 58 #[iv p1, iv p2, iv p3, iv p4, iv p5, iv 1, iv (own_dr p2), iv (own_dr p3), iv (own_dr p4), iv (own_dr p5), rv b138, .unset] [(.int (own_dgt (own_dr p2)))]) := fun t k => pre152 t (by
          show Steps p.tables e below (T137.setTop (mkF m 48 #[iv p1, iv p2, iv p3, iv p4, iv p5, iv 1, iv (own_dr p2), iv (own_dr p3), iv (own_dr p4), iv (own_dr p5), rv b138, .unset] [])) t
          refine XS.iload X137.here hx rfl (hb hby at_48) rfl ?_
          refine XS.ifNo X137.here hx rfl (hb hby at_50) rfl ((if0 _ _).trans (tlt (by decide : (0 : Int32) < (1 : Int32))).2.2.2) ?_
          refine XS.iload X137.here hx rfl (hb hby at_53) rfl ?_
          refine st153 _ ?_
          exact k)
        by_cases hc154 : (own_dgt (own_dr p2)) = (0 : Int32)
        · have pre156 : own_P p e below s₁ (entryFrame m #[(.int p1), (.int p2), (.int p3), (.int p4), (.int p5)] maxLocals) T153 (mkF m 108 #[iv p1, iv p2, iv p3, iv p4, iv p5, iv 1, iv (own_dr p2), iv (own_dr p3), iv (own_dr p4), iv (own_dr p5), rv b138, .unset] [(.int 0)]) := fun t k => pre155 t (by
            refine XS.ifYes X153.here hx rfl (pc0 := 58) (pc' := 107) rfl (hb hby at_58) rfl ((if0 _ _).trans (teq hc154).1) (by decide) (by decide) ?_
            refine XS.iconst X153.here hx rfl (hb hby at_107) ?_
            exact k)
          exact ⟨_, _, (0 : Int32), X153, e153, N153, (Or.inl ⟨hc154, rfl⟩), pre156⟩
        · have pre157 : own_P p e below s₁ (entryFrame m #[(.int p1), (.int p2), (.int p3), (.int p4), (.int p5)] maxLocals) T153 (mkF m 108 #[iv p1, iv p2, iv p3, iv p4, iv p5, iv 1, iv (own_dr p2), iv (own_dr p3), iv (own_dr p4), iv (own_dr p5), rv b138, .unset] [(.int 1)]) := fun t k => pre155 t (by
            refine XS.ifNo X153.here hx rfl (hb hby at_58) rfl ((if0 _ _).trans (feq hc154).1) ?_
            refine XS.iload X153.here hx rfl (hb hby at_61) rfl ?_
            refine XS.iconst X153.here hx rfl (hb hby at_63) ?_
            refine XS.icmpYes X153.here hx rfl (pc0 := 64) (pc' := 75) rfl (hb hby at_64) rfl (tlt (by decide : (1 : Int32) < (2 : Int32))).1 (by decide) (by decide) ?_
            refine XS.iload X153.here hx rfl (hb hby at_75) rfl ?_
            refine XS.iconst X153.here hx rfl (hb hby at_77) ?_
            refine XS.icmpYes X153.here hx rfl (pc0 := 78) (pc' := 89) rfl (hb hby at_78) rfl (tlt (by decide : (1 : Int32) < (3 : Int32))).1 (by decide) (by decide) ?_
            refine XS.iload X153.here hx rfl (hb hby at_89) rfl ?_
            refine XS.iconst X153.here hx rfl (hb hby at_91) ?_
            refine XS.icmpYes X153.here hx rfl (pc0 := 92) (pc' := 103) rfl (hb hby at_92) rfl (tlt (by decide : (1 : Int32) < (4 : Int32))).1 (by decide) (by decide) ?_
            refine XS.iconst X153.here hx rfl (hb hby at_103) ?_
            refine XS.goto X153.here hx rfl (pc0 := 104) (pc' := 108) rfl (hb hby at_104) (by decide) (by decide) ?_
            exact k)
          exact ⟨_, _, (1 : Int32), X153, e153, N153, (Or.inr (⟨hc154, rfl⟩)), pre157⟩
      obtain ⟨_, _, ⟨T160, L160, k160, n160⟩, -, X160, ⟨Lc160, hQ160, l160, y160, z160⟩, st160⟩ := Jvm.LawKit.callS X159 hx (y := own_y24) hown (own_m hZ hw 30) (own_m hZ hw 31) (own_m hZ hw 32) (own_m hZ hw 33) (by decide) (backOf (W := 0) (rmIU_1 l Z a0 hw [] b138 cs vF b139 x140 (own_b0 (nar .char (own_dr p2))) (own_b1 (nar .char (own_dr p2))) T137.heap n0 f149 (SC.ext f150.2) hcs (SF.ext f150.2) hF (SA.ext f150.2) (SH.ext f150.2) (SL.ext f150.2) f143 f144 f145 f148) hZ (own_i hw 33 rfl) (own_i hw 32 rfl) (by decide) (by decide)) (g := (mkF m 112 #[iv p1, iv p2, iv p3, iv p4, iv p5, iv 1, iv (own_dr p2), iv (own_dr p3), iv (own_dr p4), iv (own_dr p5), rv b138, iv v158] [(.ref b138)])) rfl (by rw [hml]; rfl) (argsL := [(.ref b138)]) (rest := []) (lenOf pd_19 rfl) rfl (Nat.le_of_eq rfl) (hb hby at_112) (fun _ _ => ⟨rfl, e159, own_le rfl, own_le rfl⟩)
      dsimp only [Pt.U, Pt.locs, Pt.cells, Pt.slots] at X160 l160 y160 z160 st160 hQ160
      subst l160 y160 z160
      obtain ⟨rfl, N160q, e160⟩ := hQ160
      have N160 := Fr.app N159 N160q
      have hd161 : (own_all1 (nar .char (nar .char (own_ut (own_b0 (nar .char (own_dr p2))) (own_b1 (nar .char (own_dr p2))))))) = v158 := by rw [own_eU p2]; exact own_fin1 hP159
      have pre162 : own_P p e below s₁ (entryFrame m #[(.int p1), (.int p2), (.int p3), (.int p4), (.int p5)] maxLocals) T160 (mkF m 125 #[iv p1, iv p2, iv p3, iv p4, iv p5, iv 1, iv (own_dr p2), iv (own_dr p3), iv (own_dr p4), iv (own_dr p5), rv b138, iv v158] [(.int 1)]) := fun t k => pre159 t (by
        show Steps p.tables e below (T159.setTop (mkF m 108 #[iv p1, iv p2, iv p3, iv p4, iv p5, iv 1, iv (own_dr p2), iv (own_dr p3), iv (own_dr p4), iv (own_dr p5), rv b138, .unset] [(.int v158)])) t
        refine XS.istore X159.here hx rfl (hb hby at_108) rfl (l' := #[iv p1, iv p2, iv p3, iv p4, iv p5, iv 1, iv (own_dr p2), iv (own_dr p3), iv (own_dr p4), iv (own_dr p5), rv b138, iv v158]) rfl ?_
        refine XS.aload X159.here hx rfl (hb hby at_110) rfl rfl ?_
        refine st160 _ ?_
        refine XS.iload X160.here hx rfl (hb hby at_115) rfl ?_
        refine XS.icmpNo X160.here hx rfl (hb hby at_117) rfl (teq hd161).2 ?_
        refine XS.iconst X160.here hx rfl (hb hby at_120) ?_
        refine XS.goto X160.here hx rfl (pc0 := 121) (pc' := 125) rfl (hb hby at_121) (by decide) (by decide) ?_
        exact k)
      obtain ⟨fs, hr, hrun, hended, hW, hsame⟩ := X160.leave (v := some (.int 1)) (fun h => by rw [Bd.returns] at h; cases h)
      refine ⟨_, _, pre162 _ ?_, hrun, hended, _, _, rfl, ?_, ReturnedEndW.of_narrow ⟨_, rfl⟩ hW (hsame.mono (by decide) (by decide))⟩
      · exact retN X160 hx (t := .boolean) Bd.returns (by simp) (hb hby at_125) hr
      · show Q0 Z p1 p2 p3 p4 p5 cs vF h0 n0 _ T160.heap _
        rw [e160]
        exact ⟨rfl, N160⟩
  · have pre163 : own_P p e below s₁ (entryFrame m #[(.int p1), (.int p2), (.int p3), (.int p4), (.int p5)] maxLocals) T105 (mkF m 33 #[iv p1, iv p2, iv p3, iv p4, iv p5, iv 2, iv (own_dr p2), iv (own_dr p3), iv (own_dr p4), iv (own_dr p5), .unset, .unset] []) := fun t k => pre106 t (by rw [show ((p1 &&& (2147483647 : Int32)) % (5 : Int32)) = (2 : Int32) from hs107]; exact k)
    have pre164 : own_P p e below s₁ (entryFrame m #[(.int p1), (.int p2), (.int p3), (.int p4), (.int p5)] maxLocals) T105 (mkF m 35 #[iv p1, iv p2, iv p3, iv p4, iv p5, iv 2, iv (own_dr p2), iv (own_dr p3), iv (own_dr p4), iv (own_dr p5), .unset, .unset] [(.int 2)]) := fun t k => pre163 t (by
      show Steps p.tables e below (T105.setTop (mkF m 33 #[iv p1, iv p2, iv p3, iv p4, iv p5, iv 2, iv (own_dr p2), iv (own_dr p3), iv (own_dr p4), iv (own_dr p5), .unset, .unset] [])) t
      refine XS.iload X105.here hx rfl (hb hby at_33) rfl ?_
      exact k)
    rcases (Classical.em ((¬ ((255 : Int32) < (nar .char (own_dr p2)))) ∧ (¬ ((255 : Int32) < (nar .char (own_dr p3)))))) with hs165 | hs165
    · obtain ⟨_, _, ⟨T166, L166, k166, n166⟩, -, X166, ⟨Lc166, hQ166, l166, y166, z166⟩, st166⟩ := Jvm.LawKit.callS X105 hx (y := own_y23) hown (own_m hZ hw 5) (own_m hZ hw 6) (own_m hZ hw 3) (own_m hZ hw 7) (by decide) (backOf (W := 0) (rmM_2 l Z a0 hw [] (own_dr p2) (own_dr p3) (own_dr p4) (own_dr p5) cs h0 n0 Z0 SC hcs O0 hs165.1 hs165.2) hZ (own_i hw 7 rfl) (own_i hw 3 rfl) (by decide) (by decide)) (g := (mkF m 43 #[iv p1, iv p2, iv p3, iv p4, iv p5, iv 2, iv (own_dr p2), iv (own_dr p3), iv (own_dr p4), iv (own_dr p5), .unset, .unset] [(.int (own_dr p5)), (.int (own_dr p4)), (.int (own_dr p3)), (.int (own_dr p2)), (.int 2)])) rfl (by rw [hml]; rfl) (argsL := [(.int 2), (.int (own_dr p2)), (.int (own_dr p3)), (.int (own_dr p4)), (.int (own_dr p5))]) (rest := []) (lenOf pd_17 rfl) rfl (Nat.le_of_eq rfl) (hb hby at_43) (fun _ _ => ⟨rfl, e105, own_le rfl, own_le rfl⟩)
      dsimp only [Pt.U, Pt.locs, Pt.cells, Pt.slots] at X166 l166 y166 z166 st166 hQ166
      subst l166 y166 z166
      obtain ⟨b167, b168, x169, rfl, N166q, K166, f170, f171, f172, f173, f174, f175, f176, f177⟩ := hQ166
      have N166 := Fr.app N105 N166q
      have f178 := Nat.le_trans Z0 K166.1
      have f179 := O0.keep K166 all0
      have f180 := f101.trans K166 all0
      have pre181 : own_P p e below s₁ (entryFrame m #[(.int p1), (.int p2), (.int p3), (.int p4), (.int p5)] maxLocals) T166 (mkF m 48 #[iv p1, iv p2, iv p3, iv p4, iv p5, iv 2, iv (own_dr p2), iv (own_dr p3), iv (own_dr p4), iv (own_dr p5), rv b167, .unset] []) := fun t k => pre164 t (by
        show Steps p.tables e below (T105.setTop (mkF m 35 #[iv p1, iv p2, iv p3, iv p4, iv p5, iv 2, iv (own_dr p2), iv (own_dr p3), iv (own_dr p4), iv (own_dr p5), .unset, .unset] [(.int 2)])) t
        refine XS.iload X105.here hx rfl (hb hby at_35) rfl ?_
        refine XS.iload X105.here hx rfl (hb hby at_37) rfl ?_
        refine XS.iload X105.here hx rfl (hb hby at_39) rfl ?_
        refine XS.iload X105.here hx rfl (hb hby at_41) rfl ?_
        refine st166 _ ?_
        refine XS.astore X166.here hx rfl (hb hby at_46) rfl rfl (l' := #[iv p1, iv p2, iv p3, iv p4, iv p5, iv 2, iv (own_dr p2), iv (own_dr p3), iv (own_dr p4), iv (own_dr p5), rv b167, .unset]) rfl ?_
        exact k)
      obtain ⟨T192, L192, v191, X192, e192, N192, hP192, pre192⟩ : ∃ (T' : State) (L' : List Loc) (v191 : Int32), Stand p l e room_1 s m #[(.int p1), (.int p2), (.int p3), (.int p4), (.int p5)] below meth c T' L' 3 8 ∧ T'.heap = T166.heap ∧ Fr n0 L' ∧ ((((own_dgt (own_dr p2)) = (0 : Int32)) ∧ v191 = (0 : Int32)) ∨ ((¬ ((own_dgt (own_dr p2)) = (0 : Int32))) ∧ ((own_dgt (own_dr p3)) = (0 : Int32)) ∧ v191 = (0 : Int32)) ∨ ((¬ ((own_dgt (own_dr p2)) = (0 : Int32))) ∧ (¬ ((own_dgt (own_dr p3)) = (0 : Int32))) ∧ v191 = (1 : Int32))) ∧ ∀ t, Steps p.tables e below (T'.setTop (mkF m 108 #[iv p1, iv p2, iv p3, iv p4, iv p5, iv 2, iv (own_dr p2), iv (own_dr p3), iv (own_dr p4), iv (own_dr p5), rv b167, .unset] [(.int v191)])) t → Steps p.tables e below (s₁.setTop (entryFrame m #[(.int p1), (.int p2), (.int p3), (.int p4), (.int p5)] maxLocals)) t := by
        obtain ⟨_, _, ⟨T182, L182, k182, n182⟩, -, X182, ⟨Lc182, hQ182, l182, y182, z182⟩, st182⟩ := Jvm.LawKit.callS X166 hx (y := own_y6) hown (own_m hZ hw 50) (own_m hZ hw 51) (own_m hZ hw 3) (own_m hZ hw 52) (by decide) (backOf (W := 0) (rmDt l Z a0 hw [] (own_dr p2) T166.heap n0 f178 ) hZ (own_i hw 52 rfl) (own_i hw 3 rfl) (by decide) (by decide)) (g := (mkF m 55 #[iv p1, iv p2, iv p3, iv p4, iv p5, iv 2, iv (own_dr p2), iv (own_dr p3), iv (own_dr p4), iv (own_dr p5), rv b167, .unset] [(.int (own_dr p2))])) rfl (by rw [hml]; rfl) (argsL := [(.int (own_dr p2))]) (rest := []) (lenOf pd_18 rfl) rfl (Nat.le_of_eq rfl) (hb hby at_55) (fun _ _ => ⟨rfl, rfl, own_le rfl, own_le rfl⟩)
        dsimp only [Pt.U, Pt.locs, Pt.cells, Pt.slots] at X182 l182 y182 z182 st182 hQ182
        subst l182 y182 z182
        obtain ⟨rfl, N182q, e182⟩ := hQ182
        have N182 := Fr.app N166 N182q
        have pre184 : own_P p e below s₁ (entryFrame m #[(.int p1), (.int p2), (.int p3), (.int p4), (.int p5)] maxLocals) T182 (mkF m 58 #[iv p1, iv p2, iv p3, iv p4, iv p5, iv 2, iv (own_dr p2), iv (own_dr p3), iv (own_dr p4), iv (own_dr p5), rv b167, .unset] [(.int (own_dgt (own_dr p2)))]) := fun t k => pre181 t (by
          show Steps p.tables e below (T166.setTop (mkF m 48 #[iv p1, iv p2, iv p3, iv p4, iv p5, iv 2, iv (own_dr p2), iv (own_dr p3), iv (own_dr p4), iv (own_dr p5), rv b167, .unset] [])) t
          refine XS.iload X166.here hx rfl (hb hby at_48) rfl ?_
          refine XS.ifNo X166.here hx rfl (hb hby at_50) rfl ((if0 _ _).trans (tlt (by decide : (0 : Int32) < (2 : Int32))).2.2.2) ?_
          refine XS.iload X166.here hx rfl (hb hby at_53) rfl ?_
          refine st182 _ ?_
          exact k)
        by_cases hc183 : (own_dgt (own_dr p2)) = (0 : Int32)
        · have pre185 : own_P p e below s₁ (entryFrame m #[(.int p1), (.int p2), (.int p3), (.int p4), (.int p5)] maxLocals) T182 (mkF m 108 #[iv p1, iv p2, iv p3, iv p4, iv p5, iv 2, iv (own_dr p2), iv (own_dr p3), iv (own_dr p4), iv (own_dr p5), rv b167, .unset] [(.int 0)]) := fun t k => pre184 t (by
            refine XS.ifYes X182.here hx rfl (pc0 := 58) (pc' := 107) rfl (hb hby at_58) rfl ((if0 _ _).trans (teq hc183).1) (by decide) (by decide) ?_
            refine XS.iconst X182.here hx rfl (hb hby at_107) ?_
            exact k)
          exact ⟨_, _, (0 : Int32), X182, e182, N182, (Or.inl ⟨hc183, rfl⟩), pre185⟩
        · obtain ⟨_, _, ⟨T186, L186, k186, n186⟩, -, X186, ⟨Lc186, hQ186, l186, y186, z186⟩, st186⟩ := Jvm.LawKit.callS X182 hx (y := own_y6) hown (own_m hZ hw 50) (own_m hZ hw 51) (own_m hZ hw 3) (own_m hZ hw 52) (by decide) (backOf (W := 0) (rmDt l Z a0 hw [] (own_dr p3) T166.heap n0 f178 ) hZ (own_i hw 52 rfl) (own_i hw 3 rfl) (by decide) (by decide)) (g := (mkF m 69 #[iv p1, iv p2, iv p3, iv p4, iv p5, iv 2, iv (own_dr p2), iv (own_dr p3), iv (own_dr p4), iv (own_dr p5), rv b167, .unset] [(.int (own_dr p3))])) rfl (by rw [hml]; rfl) (argsL := [(.int (own_dr p3))]) (rest := []) (lenOf pd_18 rfl) rfl (Nat.le_of_eq rfl) (hb hby at_69) (fun _ _ => ⟨rfl, e182, own_le rfl, own_le rfl⟩)
          dsimp only [Pt.U, Pt.locs, Pt.cells, Pt.slots] at X186 l186 y186 z186 st186 hQ186
          subst l186 y186 z186
          obtain ⟨rfl, N186q, e186⟩ := hQ186
          have N186 := Fr.app N182 N186q
          have pre188 : own_P p e below s₁ (entryFrame m #[(.int p1), (.int p2), (.int p3), (.int p4), (.int p5)] maxLocals) T186 (mkF m 72 #[iv p1, iv p2, iv p3, iv p4, iv p5, iv 2, iv (own_dr p2), iv (own_dr p3), iv (own_dr p4), iv (own_dr p5), rv b167, .unset] [(.int (own_dgt (own_dr p3)))]) := fun t k => pre184 t (by
            refine XS.ifNo X182.here hx rfl (hb hby at_58) rfl ((if0 _ _).trans (feq hc183).1) ?_
            refine XS.iload X182.here hx rfl (hb hby at_61) rfl ?_
            refine XS.iconst X182.here hx rfl (hb hby at_63) ?_
            refine XS.icmpNo X182.here hx rfl (hb hby at_64) rfl (flt (by decide : ¬ ((2 : Int32) < (2 : Int32)))).1 ?_
            refine XS.iload X182.here hx rfl (hb hby at_67) rfl ?_
            refine st186 _ ?_
            exact k)
          by_cases hc187 : (own_dgt (own_dr p3)) = (0 : Int32)
          · have pre189 : own_P p e below s₁ (entryFrame m #[(.int p1), (.int p2), (.int p3), (.int p4), (.int p5)] maxLocals) T186 (mkF m 108 #[iv p1, iv p2, iv p3, iv p4, iv p5, iv 2, iv (own_dr p2), iv (own_dr p3), iv (own_dr p4), iv (own_dr p5), rv b167, .unset] [(.int 0)]) := fun t k => pre188 t (by
              refine XS.ifYes X186.here hx rfl (pc0 := 72) (pc' := 107) rfl (hb hby at_72) rfl ((if0 _ _).trans (teq hc187).1) (by decide) (by decide) ?_
              refine XS.iconst X186.here hx rfl (hb hby at_107) ?_
              exact k)
            exact ⟨_, _, (0 : Int32), X186, e186, N186, (Or.inr (Or.inl ⟨hc183, hc187, rfl⟩)), pre189⟩
          · have pre190 : own_P p e below s₁ (entryFrame m #[(.int p1), (.int p2), (.int p3), (.int p4), (.int p5)] maxLocals) T186 (mkF m 108 #[iv p1, iv p2, iv p3, iv p4, iv p5, iv 2, iv (own_dr p2), iv (own_dr p3), iv (own_dr p4), iv (own_dr p5), rv b167, .unset] [(.int 1)]) := fun t k => pre188 t (by
              refine XS.ifNo X186.here hx rfl (hb hby at_72) rfl ((if0 _ _).trans (feq hc187).1) ?_
              refine XS.iload X186.here hx rfl (hb hby at_75) rfl ?_
              refine XS.iconst X186.here hx rfl (hb hby at_77) ?_
              refine XS.icmpYes X186.here hx rfl (pc0 := 78) (pc' := 89) rfl (hb hby at_78) rfl (tlt (by decide : (2 : Int32) < (3 : Int32))).1 (by decide) (by decide) ?_
              refine XS.iload X186.here hx rfl (hb hby at_89) rfl ?_
              refine XS.iconst X186.here hx rfl (hb hby at_91) ?_
              refine XS.icmpYes X186.here hx rfl (pc0 := 92) (pc' := 103) rfl (hb hby at_92) rfl (tlt (by decide : (2 : Int32) < (4 : Int32))).1 (by decide) (by decide) ?_
              refine XS.iconst X186.here hx rfl (hb hby at_103) ?_
              refine XS.goto X186.here hx rfl (pc0 := 104) (pc' := 108) rfl (hb hby at_104) (by decide) (by decide) ?_
              exact k)
            exact ⟨_, _, (1 : Int32), X186, e186, N186, (Or.inr (Or.inr (⟨hc183, hc187, rfl⟩))), pre190⟩
      obtain ⟨_, _, ⟨T193, L193, k193, n193⟩, -, X193, ⟨Lc193, hQ193, l193, y193, z193⟩, st193⟩ := Jvm.LawKit.callS X192 hx (y := own_y24) hown (own_m hZ hw 30) (own_m hZ hw 31) (own_m hZ hw 32) (own_m hZ hw 33) (by decide) (backOf (W := 0) (rmIs_2 l Z a0 hw [] b167 cs vF b168 x169 (nar .byte ((nar .char (own_dr p2)).toInt8.toInt32)) (nar .byte ((nar .char (own_dr p3)).toInt8.toInt32)) T166.heap n0 f178 (SC.ext f179.2) hcs (SF.ext f179.2) hF f172 f173 f174 f177) hZ (own_i hw 33 rfl) (own_i hw 32 rfl) (by decide) (by decide)) (g := (mkF m 112 #[iv p1, iv p2, iv p3, iv p4, iv p5, iv 2, iv (own_dr p2), iv (own_dr p3), iv (own_dr p4), iv (own_dr p5), rv b167, iv v191] [(.ref b167)])) rfl (by rw [hml]; rfl) (argsL := [(.ref b167)]) (rest := []) (lenOf pd_19 rfl) rfl (Nat.le_of_eq rfl) (hb hby at_112) (fun _ _ => ⟨rfl, e192, own_le rfl, own_le rfl⟩)
      dsimp only [Pt.U, Pt.locs, Pt.cells, Pt.slots] at X193 l193 y193 z193 st193 hQ193
      subst l193 y193 z193
      obtain ⟨rfl, N193q, e193⟩ := hQ193
      have N193 := Fr.app N192 N193q
      have hd194 : (own_all2 (own_cat (nar .byte ((nar .char (own_dr p2)).toInt8.toInt32))) (own_cat (nar .byte ((nar .char (own_dr p3)).toInt8.toInt32)))) = v191 := by rw [own_eL hs165.1, own_eL hs165.2]; exact own_fin2 hP192
      have pre195 : own_P p e below s₁ (entryFrame m #[(.int p1), (.int p2), (.int p3), (.int p4), (.int p5)] maxLocals) T193 (mkF m 125 #[iv p1, iv p2, iv p3, iv p4, iv p5, iv 2, iv (own_dr p2), iv (own_dr p3), iv (own_dr p4), iv (own_dr p5), rv b167, iv v191] [(.int 1)]) := fun t k => pre192 t (by
        show Steps p.tables e below (T192.setTop (mkF m 108 #[iv p1, iv p2, iv p3, iv p4, iv p5, iv 2, iv (own_dr p2), iv (own_dr p3), iv (own_dr p4), iv (own_dr p5), rv b167, .unset] [(.int v191)])) t
        refine XS.istore X192.here hx rfl (hb hby at_108) rfl (l' := #[iv p1, iv p2, iv p3, iv p4, iv p5, iv 2, iv (own_dr p2), iv (own_dr p3), iv (own_dr p4), iv (own_dr p5), rv b167, iv v191]) rfl ?_
        refine XS.aload X192.here hx rfl (hb hby at_110) rfl rfl ?_
        refine st193 _ ?_
        refine XS.iload X193.here hx rfl (hb hby at_115) rfl ?_
        refine XS.icmpNo X193.here hx rfl (hb hby at_117) rfl (teq hd194).2 ?_
        refine XS.iconst X193.here hx rfl (hb hby at_120) ?_
        refine XS.goto X193.here hx rfl (pc0 := 121) (pc' := 125) rfl (hb hby at_121) (by decide) (by decide) ?_
        exact k)
      obtain ⟨fs, hr, hrun, hended, hW, hsame⟩ := X193.leave (v := some (.int 1)) (fun h => by rw [Bd.returns] at h; cases h)
      refine ⟨_, _, pre195 _ ?_, hrun, hended, _, _, rfl, ?_, ReturnedEndW.of_narrow ⟨_, rfl⟩ hW (hsame.mono (by decide) (by decide))⟩
      · exact retN X193 hx (t := .boolean) Bd.returns (by simp) (hb hby at_125) hr
      · show Q0 Z p1 p2 p3 p4 p5 cs vF h0 n0 _ T193.heap _
        rw [e193]
        exact ⟨rfl, N193⟩
    · obtain ⟨_, _, ⟨T196, L196, k196, n196⟩, -, X196, ⟨Lc196, hQ196, l196, y196, z196⟩, st196⟩ := Jvm.LawKit.callS X105 hx (y := own_y23) hown (own_m hZ hw 5) (own_m hZ hw 6) (own_m hZ hw 3) (own_m hZ hw 7) (by decide) (backOf (W := 0) (rmMU_2 l Z a0 hw [] (own_dr p2) (own_dr p3) (own_dr p4) (own_dr p5) cs h0 n0 Z0 SC hcs SA SH SL O0 hs165) hZ (own_i hw 7 rfl) (own_i hw 3 rfl) (by decide) (by decide)) (g := (mkF m 43 #[iv p1, iv p2, iv p3, iv p4, iv p5, iv 2, iv (own_dr p2), iv (own_dr p3), iv (own_dr p4), iv (own_dr p5), .unset, .unset] [(.int (own_dr p5)), (.int (own_dr p4)), (.int (own_dr p3)), (.int (own_dr p2)), (.int 2)])) rfl (by rw [hml]; rfl) (argsL := [(.int 2), (.int (own_dr p2)), (.int (own_dr p3)), (.int (own_dr p4)), (.int (own_dr p5))]) (rest := []) (lenOf pd_17 rfl) rfl (Nat.le_of_eq rfl) (hb hby at_43) (fun _ _ => ⟨rfl, e105, own_le rfl, own_le rfl⟩)
      dsimp only [Pt.U, Pt.locs, Pt.cells, Pt.slots] at X196 l196 y196 z196 st196 hQ196
      subst l196 y196 z196
      obtain ⟨b197, b198, x199, rfl, N196q, K196, f200, f201, f202, f203, f204, f205, f206, f207⟩ := hQ196
      have N196 := Fr.app N105 N196q
      have f208 := Nat.le_trans Z0 K196.1
      have f209 := O0.keep K196 all0
      have f210 := f101.trans K196 all0
      have pre211 : own_P p e below s₁ (entryFrame m #[(.int p1), (.int p2), (.int p3), (.int p4), (.int p5)] maxLocals) T196 (mkF m 48 #[iv p1, iv p2, iv p3, iv p4, iv p5, iv 2, iv (own_dr p2), iv (own_dr p3), iv (own_dr p4), iv (own_dr p5), rv b197, .unset] []) := fun t k => pre164 t (by
        show Steps p.tables e below (T105.setTop (mkF m 35 #[iv p1, iv p2, iv p3, iv p4, iv p5, iv 2, iv (own_dr p2), iv (own_dr p3), iv (own_dr p4), iv (own_dr p5), .unset, .unset] [(.int 2)])) t
        refine XS.iload X105.here hx rfl (hb hby at_35) rfl ?_
        refine XS.iload X105.here hx rfl (hb hby at_37) rfl ?_
        refine XS.iload X105.here hx rfl (hb hby at_39) rfl ?_
        refine XS.iload X105.here hx rfl (hb hby at_41) rfl ?_
        refine st196 _ ?_
        refine XS.astore X196.here hx rfl (hb hby at_46) rfl rfl (l' := #[iv p1, iv p2, iv p3, iv p4, iv p5, iv 2, iv (own_dr p2), iv (own_dr p3), iv (own_dr p4), iv (own_dr p5), rv b197, .unset]) rfl ?_
        exact k)
      obtain ⟨T222, L222, v221, X222, e222, N222, hP222, pre222⟩ : ∃ (T' : State) (L' : List Loc) (v221 : Int32), Stand p l e room_1 s m #[(.int p1), (.int p2), (.int p3), (.int p4), (.int p5)] below meth c T' L' 4 12 ∧ T'.heap = T196.heap ∧ Fr n0 L' ∧ ((((own_dgt (own_dr p2)) = (0 : Int32)) ∧ v221 = (0 : Int32)) ∨ ((¬ ((own_dgt (own_dr p2)) = (0 : Int32))) ∧ ((own_dgt (own_dr p3)) = (0 : Int32)) ∧ v221 = (0 : Int32)) ∨ ((¬ ((own_dgt (own_dr p2)) = (0 : Int32))) ∧ (¬ ((own_dgt (own_dr p3)) = (0 : Int32))) ∧ v221 = (1 : Int32))) ∧ ∀ t, Steps p.tables e below (T'.setTop (mkF m 108 #[iv p1, iv p2, iv p3, iv p4, iv p5, iv 2, iv (own_dr p2), iv (own_dr p3), iv (own_dr p4), iv (own_dr p5), rv b197, .unset] [(.int v221)])) t → Steps p.tables e below (s₁.setTop (entryFrame m #[(.int p1), (.int p2), (.int p3), (.int p4), (.int p5)] maxLocals)) t := by
        obtain ⟨_, _, ⟨T212, L212, k212, n212⟩, -, X212, ⟨Lc212, hQ212, l212, y212, z212⟩, st212⟩ := Jvm.LawKit.callS X196 hx (y := own_y6) hown (own_m hZ hw 50) (own_m hZ hw 51) (own_m hZ hw 3) (own_m hZ hw 52) (by decide) (backOf (W := 0) (rmDt l Z a0 hw [] (own_dr p2) T196.heap n0 f208 ) hZ (own_i hw 52 rfl) (own_i hw 3 rfl) (by decide) (by decide)) (g := (mkF m 55 #[iv p1, iv p2, iv p3, iv p4, iv p5, iv 2, iv (own_dr p2), iv (own_dr p3), iv (own_dr p4), iv (own_dr p5), rv b197, .unset] [(.int (own_dr p2))])) rfl (by rw [hml]; rfl) (argsL := [(.int (own_dr p2))]) (rest := []) (lenOf pd_18 rfl) rfl (Nat.le_of_eq rfl) (hb hby at_55) (fun _ _ => ⟨rfl, rfl, own_le rfl, own_le rfl⟩)
        dsimp only [Pt.U, Pt.locs, Pt.cells, Pt.slots] at X212 l212 y212 z212 st212 hQ212
        subst l212 y212 z212
        obtain ⟨rfl, N212q, e212⟩ := hQ212
        have N212 := Fr.app N196 N212q
        have pre214 : own_P p e below s₁ (entryFrame m #[(.int p1), (.int p2), (.int p3), (.int p4), (.int p5)] maxLocals) T212 (mkF m 58 #[iv p1, iv p2, iv p3, iv p4, iv p5, iv 2, iv (own_dr p2), iv (own_dr p3), iv (own_dr p4), iv (own_dr p5), rv b197, .unset] [(.int (own_dgt (own_dr p2)))]) := fun t k => pre211 t (by
          show Steps p.tables e below (T196.setTop (mkF m 48 #[iv p1, iv p2, iv p3, iv p4, iv p5, iv 2, iv (own_dr p2), iv (own_dr p3), iv (own_dr p4), iv (own_dr p5), rv b197, .unset] [])) t
          refine XS.iload X196.here hx rfl (hb hby at_48) rfl ?_
          refine XS.ifNo X196.here hx rfl (hb hby at_50) rfl ((if0 _ _).trans (tlt (by decide : (0 : Int32) < (2 : Int32))).2.2.2) ?_
          refine XS.iload X196.here hx rfl (hb hby at_53) rfl ?_
          refine st212 _ ?_
          exact k)
        by_cases hc213 : (own_dgt (own_dr p2)) = (0 : Int32)
        · have pre215 : own_P p e below s₁ (entryFrame m #[(.int p1), (.int p2), (.int p3), (.int p4), (.int p5)] maxLocals) T212 (mkF m 108 #[iv p1, iv p2, iv p3, iv p4, iv p5, iv 2, iv (own_dr p2), iv (own_dr p3), iv (own_dr p4), iv (own_dr p5), rv b197, .unset] [(.int 0)]) := fun t k => pre214 t (by
            refine XS.ifYes X212.here hx rfl (pc0 := 58) (pc' := 107) rfl (hb hby at_58) rfl ((if0 _ _).trans (teq hc213).1) (by decide) (by decide) ?_
            refine XS.iconst X212.here hx rfl (hb hby at_107) ?_
            exact k)
          exact ⟨_, _, (0 : Int32), X212, e212, N212, (Or.inl ⟨hc213, rfl⟩), pre215⟩
        · obtain ⟨_, _, ⟨T216, L216, k216, n216⟩, -, X216, ⟨Lc216, hQ216, l216, y216, z216⟩, st216⟩ := Jvm.LawKit.callS X212 hx (y := own_y6) hown (own_m hZ hw 50) (own_m hZ hw 51) (own_m hZ hw 3) (own_m hZ hw 52) (by decide) (backOf (W := 0) (rmDt l Z a0 hw [] (own_dr p3) T196.heap n0 f208 ) hZ (own_i hw 52 rfl) (own_i hw 3 rfl) (by decide) (by decide)) (g := (mkF m 69 #[iv p1, iv p2, iv p3, iv p4, iv p5, iv 2, iv (own_dr p2), iv (own_dr p3), iv (own_dr p4), iv (own_dr p5), rv b197, .unset] [(.int (own_dr p3))])) rfl (by rw [hml]; rfl) (argsL := [(.int (own_dr p3))]) (rest := []) (lenOf pd_18 rfl) rfl (Nat.le_of_eq rfl) (hb hby at_69) (fun _ _ => ⟨rfl, e212, own_le rfl, own_le rfl⟩)
          dsimp only [Pt.U, Pt.locs, Pt.cells, Pt.slots] at X216 l216 y216 z216 st216 hQ216
          subst l216 y216 z216
          obtain ⟨rfl, N216q, e216⟩ := hQ216
          have N216 := Fr.app N212 N216q
          have pre218 : own_P p e below s₁ (entryFrame m #[(.int p1), (.int p2), (.int p3), (.int p4), (.int p5)] maxLocals) T216 (mkF m 72 #[iv p1, iv p2, iv p3, iv p4, iv p5, iv 2, iv (own_dr p2), iv (own_dr p3), iv (own_dr p4), iv (own_dr p5), rv b197, .unset] [(.int (own_dgt (own_dr p3)))]) := fun t k => pre214 t (by
            refine XS.ifNo X212.here hx rfl (hb hby at_58) rfl ((if0 _ _).trans (feq hc213).1) ?_
            refine XS.iload X212.here hx rfl (hb hby at_61) rfl ?_
            refine XS.iconst X212.here hx rfl (hb hby at_63) ?_
            refine XS.icmpNo X212.here hx rfl (hb hby at_64) rfl (flt (by decide : ¬ ((2 : Int32) < (2 : Int32)))).1 ?_
            refine XS.iload X212.here hx rfl (hb hby at_67) rfl ?_
            refine st216 _ ?_
            exact k)
          by_cases hc217 : (own_dgt (own_dr p3)) = (0 : Int32)
          · have pre219 : own_P p e below s₁ (entryFrame m #[(.int p1), (.int p2), (.int p3), (.int p4), (.int p5)] maxLocals) T216 (mkF m 108 #[iv p1, iv p2, iv p3, iv p4, iv p5, iv 2, iv (own_dr p2), iv (own_dr p3), iv (own_dr p4), iv (own_dr p5), rv b197, .unset] [(.int 0)]) := fun t k => pre218 t (by
              refine XS.ifYes X216.here hx rfl (pc0 := 72) (pc' := 107) rfl (hb hby at_72) rfl ((if0 _ _).trans (teq hc217).1) (by decide) (by decide) ?_
              refine XS.iconst X216.here hx rfl (hb hby at_107) ?_
              exact k)
            exact ⟨_, _, (0 : Int32), X216, e216, N216, (Or.inr (Or.inl ⟨hc213, hc217, rfl⟩)), pre219⟩
          · have pre220 : own_P p e below s₁ (entryFrame m #[(.int p1), (.int p2), (.int p3), (.int p4), (.int p5)] maxLocals) T216 (mkF m 108 #[iv p1, iv p2, iv p3, iv p4, iv p5, iv 2, iv (own_dr p2), iv (own_dr p3), iv (own_dr p4), iv (own_dr p5), rv b197, .unset] [(.int 1)]) := fun t k => pre218 t (by
              refine XS.ifNo X216.here hx rfl (hb hby at_72) rfl ((if0 _ _).trans (feq hc217).1) ?_
              refine XS.iload X216.here hx rfl (hb hby at_75) rfl ?_
              refine XS.iconst X216.here hx rfl (hb hby at_77) ?_
              refine XS.icmpYes X216.here hx rfl (pc0 := 78) (pc' := 89) rfl (hb hby at_78) rfl (tlt (by decide : (2 : Int32) < (3 : Int32))).1 (by decide) (by decide) ?_
              refine XS.iload X216.here hx rfl (hb hby at_89) rfl ?_
              refine XS.iconst X216.here hx rfl (hb hby at_91) ?_
              refine XS.icmpYes X216.here hx rfl (pc0 := 92) (pc' := 103) rfl (hb hby at_92) rfl (tlt (by decide : (2 : Int32) < (4 : Int32))).1 (by decide) (by decide) ?_
              refine XS.iconst X216.here hx rfl (hb hby at_103) ?_
              refine XS.goto X216.here hx rfl (pc0 := 104) (pc' := 108) rfl (hb hby at_104) (by decide) (by decide) ?_
              exact k)
            exact ⟨_, _, (1 : Int32), X216, e216, N216, (Or.inr (Or.inr (⟨hc213, hc217, rfl⟩))), pre220⟩
      obtain ⟨_, _, ⟨T223, L223, k223, n223⟩, -, X223, ⟨Lc223, hQ223, l223, y223, z223⟩, st223⟩ := Jvm.LawKit.callS X222 hx (y := own_y24) hown (own_m hZ hw 30) (own_m hZ hw 31) (own_m hZ hw 32) (own_m hZ hw 33) (by decide) (backOf (W := 0) (rmIU_2 l Z a0 hw [] b197 cs vF b198 x199 (own_b0 (nar .char (own_dr p2))) (own_b1 (nar .char (own_dr p2))) (own_b0 (nar .char (own_dr p3))) (own_b1 (nar .char (own_dr p3))) T196.heap n0 f208 (SC.ext f209.2) hcs (SF.ext f209.2) hF (SA.ext f209.2) (SH.ext f209.2) (SL.ext f209.2) f202 f203 f204 f207) hZ (own_i hw 33 rfl) (own_i hw 32 rfl) (by decide) (by decide)) (g := (mkF m 112 #[iv p1, iv p2, iv p3, iv p4, iv p5, iv 2, iv (own_dr p2), iv (own_dr p3), iv (own_dr p4), iv (own_dr p5), rv b197, iv v221] [(.ref b197)])) rfl (by rw [hml]; rfl) (argsL := [(.ref b197)]) (rest := []) (lenOf pd_19 rfl) rfl (Nat.le_of_eq rfl) (hb hby at_112) (fun _ _ => ⟨rfl, e222, own_le rfl, own_le rfl⟩)
      dsimp only [Pt.U, Pt.locs, Pt.cells, Pt.slots] at X223 l223 y223 z223 st223 hQ223
      subst l223 y223 z223
      obtain ⟨rfl, N223q, e223⟩ := hQ223
      have N223 := Fr.app N222 N223q
      have hd224 : (own_all2 (nar .char (nar .char (own_ut (own_b0 (nar .char (own_dr p2))) (own_b1 (nar .char (own_dr p2)))))) (nar .char (nar .char (own_ut (own_b0 (nar .char (own_dr p3))) (own_b1 (nar .char (own_dr p3))))))) = v221 := by rw [own_eU p2, own_eU p3]; exact own_fin2 hP222
      have pre225 : own_P p e below s₁ (entryFrame m #[(.int p1), (.int p2), (.int p3), (.int p4), (.int p5)] maxLocals) T223 (mkF m 125 #[iv p1, iv p2, iv p3, iv p4, iv p5, iv 2, iv (own_dr p2), iv (own_dr p3), iv (own_dr p4), iv (own_dr p5), rv b197, iv v221] [(.int 1)]) := fun t k => pre222 t (by
        show Steps p.tables e below (T222.setTop (mkF m 108 #[iv p1, iv p2, iv p3, iv p4, iv p5, iv 2, iv (own_dr p2), iv (own_dr p3), iv (own_dr p4), iv (own_dr p5), rv b197, .unset] [(.int v221)])) t
        refine XS.istore X222.here hx rfl (hb hby at_108) rfl (l' := #[iv p1, iv p2, iv p3, iv p4, iv p5, iv 2, iv (own_dr p2), iv (own_dr p3), iv (own_dr p4), iv (own_dr p5), rv b197, iv v221]) rfl ?_
        refine XS.aload X222.here hx rfl (hb hby at_110) rfl rfl ?_
        refine st223 _ ?_
        refine XS.iload X223.here hx rfl (hb hby at_115) rfl ?_
        refine XS.icmpNo X223.here hx rfl (hb hby at_117) rfl (teq hd224).2 ?_
        refine XS.iconst X223.here hx rfl (hb hby at_120) ?_
        refine XS.goto X223.here hx rfl (pc0 := 121) (pc' := 125) rfl (hb hby at_121) (by decide) (by decide) ?_
        exact k)
      obtain ⟨fs, hr, hrun, hended, hW, hsame⟩ := X223.leave (v := some (.int 1)) (fun h => by rw [Bd.returns] at h; cases h)
      refine ⟨_, _, pre225 _ ?_, hrun, hended, _, _, rfl, ?_, ReturnedEndW.of_narrow ⟨_, rfl⟩ hW (hsame.mono (by decide) (by decide))⟩
      · exact retN X223 hx (t := .boolean) Bd.returns (by simp) (hb hby at_125) hr
      · show Q0 Z p1 p2 p3 p4 p5 cs vF h0 n0 _ T223.heap _
        rw [e223]
        exact ⟨rfl, N223⟩
  · have pre226 : own_P p e below s₁ (entryFrame m #[(.int p1), (.int p2), (.int p3), (.int p4), (.int p5)] maxLocals) T105 (mkF m 33 #[iv p1, iv p2, iv p3, iv p4, iv p5, iv 3, iv (own_dr p2), iv (own_dr p3), iv (own_dr p4), iv (own_dr p5), .unset, .unset] []) := fun t k => pre106 t (by rw [show ((p1 &&& (2147483647 : Int32)) % (5 : Int32)) = (3 : Int32) from hs107]; exact k)
    have pre227 : own_P p e below s₁ (entryFrame m #[(.int p1), (.int p2), (.int p3), (.int p4), (.int p5)] maxLocals) T105 (mkF m 35 #[iv p1, iv p2, iv p3, iv p4, iv p5, iv 3, iv (own_dr p2), iv (own_dr p3), iv (own_dr p4), iv (own_dr p5), .unset, .unset] [(.int 3)]) := fun t k => pre226 t (by
      show Steps p.tables e below (T105.setTop (mkF m 33 #[iv p1, iv p2, iv p3, iv p4, iv p5, iv 3, iv (own_dr p2), iv (own_dr p3), iv (own_dr p4), iv (own_dr p5), .unset, .unset] [])) t
      refine XS.iload X105.here hx rfl (hb hby at_33) rfl ?_
      exact k)
    rcases (Classical.em ((¬ ((255 : Int32) < (nar .char (own_dr p2)))) ∧ (¬ ((255 : Int32) < (nar .char (own_dr p3)))) ∧ (¬ ((255 : Int32) < (nar .char (own_dr p4)))))) with hs228 | hs228
    · obtain ⟨_, _, ⟨T229, L229, k229, n229⟩, -, X229, ⟨Lc229, hQ229, l229, y229, z229⟩, st229⟩ := Jvm.LawKit.callS X105 hx (y := own_y23) hown (own_m hZ hw 5) (own_m hZ hw 6) (own_m hZ hw 3) (own_m hZ hw 7) (by decide) (backOf (W := 0) (rmM_3 l Z a0 hw [] (own_dr p2) (own_dr p3) (own_dr p4) (own_dr p5) cs h0 n0 Z0 SC hcs O0 hs228.1 hs228.2.1 hs228.2.2) hZ (own_i hw 7 rfl) (own_i hw 3 rfl) (by decide) (by decide)) (g := (mkF m 43 #[iv p1, iv p2, iv p3, iv p4, iv p5, iv 3, iv (own_dr p2), iv (own_dr p3), iv (own_dr p4), iv (own_dr p5), .unset, .unset] [(.int (own_dr p5)), (.int (own_dr p4)), (.int (own_dr p3)), (.int (own_dr p2)), (.int 3)])) rfl (by rw [hml]; rfl) (argsL := [(.int 3), (.int (own_dr p2)), (.int (own_dr p3)), (.int (own_dr p4)), (.int (own_dr p5))]) (rest := []) (lenOf pd_17 rfl) rfl (Nat.le_of_eq rfl) (hb hby at_43) (fun _ _ => ⟨rfl, e105, own_le rfl, own_le rfl⟩)
      dsimp only [Pt.U, Pt.locs, Pt.cells, Pt.slots] at X229 l229 y229 z229 st229 hQ229
      subst l229 y229 z229
      obtain ⟨b230, b231, x232, rfl, N229q, K229, f233, f234, f235, f236, f237, f238, f239, f240⟩ := hQ229
      have N229 := Fr.app N105 N229q
      have f241 := Nat.le_trans Z0 K229.1
      have f242 := O0.keep K229 all0
      have f243 := f101.trans K229 all0
      have pre244 : own_P p e below s₁ (entryFrame m #[(.int p1), (.int p2), (.int p3), (.int p4), (.int p5)] maxLocals) T229 (mkF m 48 #[iv p1, iv p2, iv p3, iv p4, iv p5, iv 3, iv (own_dr p2), iv (own_dr p3), iv (own_dr p4), iv (own_dr p5), rv b230, .unset] []) := fun t k => pre227 t (by
        show Steps p.tables e below (T105.setTop (mkF m 35 #[iv p1, iv p2, iv p3, iv p4, iv p5, iv 3, iv (own_dr p2), iv (own_dr p3), iv (own_dr p4), iv (own_dr p5), .unset, .unset] [(.int 3)])) t
        refine XS.iload X105.here hx rfl (hb hby at_35) rfl ?_
        refine XS.iload X105.here hx rfl (hb hby at_37) rfl ?_
        refine XS.iload X105.here hx rfl (hb hby at_39) rfl ?_
        refine XS.iload X105.here hx rfl (hb hby at_41) rfl ?_
        refine st229 _ ?_
        refine XS.astore X229.here hx rfl (hb hby at_46) rfl rfl (l' := #[iv p1, iv p2, iv p3, iv p4, iv p5, iv 3, iv (own_dr p2), iv (own_dr p3), iv (own_dr p4), iv (own_dr p5), rv b230, .unset]) rfl ?_
        exact k)
      obtain ⟨T259, L259, v258, X259, e259, N259, hP259, pre259⟩ : ∃ (T' : State) (L' : List Loc) (v258 : Int32), Stand p l e room_1 s m #[(.int p1), (.int p2), (.int p3), (.int p4), (.int p5)] below meth c T' L' 3 10 ∧ T'.heap = T229.heap ∧ Fr n0 L' ∧ ((((own_dgt (own_dr p2)) = (0 : Int32)) ∧ v258 = (0 : Int32)) ∨ ((¬ ((own_dgt (own_dr p2)) = (0 : Int32))) ∧ ((own_dgt (own_dr p3)) = (0 : Int32)) ∧ v258 = (0 : Int32)) ∨ ((¬ ((own_dgt (own_dr p2)) = (0 : Int32))) ∧ (¬ ((own_dgt (own_dr p3)) = (0 : Int32))) ∧ ((own_dgt (own_dr p4)) = (0 : Int32)) ∧ v258 = (0 : Int32)) ∨ ((¬ ((own_dgt (own_dr p2)) = (0 : Int32))) ∧ (¬ ((own_dgt (own_dr p3)) = (0 : Int32))) ∧ (¬ ((own_dgt (own_dr p4)) = (0 : Int32))) ∧ v258 = (1 : Int32))) ∧ ∀ t, Steps p.tables e below (T'.setTop (mkF m 108 #[iv p1, iv p2, iv p3, iv p4, iv p5, iv 3, iv (own_dr p2), iv (own_dr p3), iv (own_dr p4), iv (own_dr p5), rv b230, .unset] [(.int v258)])) t → Steps p.tables e below (s₁.setTop (entryFrame m #[(.int p1), (.int p2), (.int p3), (.int p4), (.int p5)] maxLocals)) t := by
        obtain ⟨_, _, ⟨T245, L245, k245, n245⟩, -, X245, ⟨Lc245, hQ245, l245, y245, z245⟩, st245⟩ := Jvm.LawKit.callS X229 hx (y := own_y6) hown (own_m hZ hw 50) (own_m hZ hw 51) (own_m hZ hw 3) (own_m hZ hw 52) (by decide) (backOf (W := 0) (rmDt l Z a0 hw [] (own_dr p2) T229.heap n0 f241 ) hZ (own_i hw 52 rfl) (own_i hw 3 rfl) (by decide) (by decide)) (g := (mkF m 55 #[iv p1, iv p2, iv p3, iv p4, iv p5, iv 3, iv (own_dr p2), iv (own_dr p3), iv (own_dr p4), iv (own_dr p5), rv b230, .unset] [(.int (own_dr p2))])) rfl (by rw [hml]; rfl) (argsL := [(.int (own_dr p2))]) (rest := []) (lenOf pd_18 rfl) rfl (Nat.le_of_eq rfl) (hb hby at_55) (fun _ _ => ⟨rfl, rfl, own_le rfl, own_le rfl⟩)
        dsimp only [Pt.U, Pt.locs, Pt.cells, Pt.slots] at X245 l245 y245 z245 st245 hQ245
        subst l245 y245 z245
        obtain ⟨rfl, N245q, e245⟩ := hQ245
        have N245 := Fr.app N229 N245q
        have pre247 : own_P p e below s₁ (entryFrame m #[(.int p1), (.int p2), (.int p3), (.int p4), (.int p5)] maxLocals) T245 (mkF m 58 #[iv p1, iv p2, iv p3, iv p4, iv p5, iv 3, iv (own_dr p2), iv (own_dr p3), iv (own_dr p4), iv (own_dr p5), rv b230, .unset] [(.int (own_dgt (own_dr p2)))]) := fun t k => pre244 t (by
          show Steps p.tables e below (T229.setTop (mkF m 48 #[iv p1, iv p2, iv p3, iv p4, iv p5, iv 3, iv (own_dr p2), iv (own_dr p3), iv (own_dr p4), iv (own_dr p5), rv b230, .unset] [])) t
          refine XS.iload X229.here hx rfl (hb hby at_48) rfl ?_
          refine XS.ifNo X229.here hx rfl (hb hby at_50) rfl ((if0 _ _).trans (tlt (by decide : (0 : Int32) < (3 : Int32))).2.2.2) ?_
          refine XS.iload X229.here hx rfl (hb hby at_53) rfl ?_
          refine st245 _ ?_
          exact k)
        by_cases hc246 : (own_dgt (own_dr p2)) = (0 : Int32)
        · have pre248 : own_P p e below s₁ (entryFrame m #[(.int p1), (.int p2), (.int p3), (.int p4), (.int p5)] maxLocals) T245 (mkF m 108 #[iv p1, iv p2, iv p3, iv p4, iv p5, iv 3, iv (own_dr p2), iv (own_dr p3), iv (own_dr p4), iv (own_dr p5), rv b230, .unset] [(.int 0)]) := fun t k => pre247 t (by
            refine XS.ifYes X245.here hx rfl (pc0 := 58) (pc' := 107) rfl (hb hby at_58) rfl ((if0 _ _).trans (teq hc246).1) (by decide) (by decide) ?_
            refine XS.iconst X245.here hx rfl (hb hby at_107) ?_
            exact k)
          exact ⟨_, _, (0 : Int32), X245, e245, N245, (Or.inl ⟨hc246, rfl⟩), pre248⟩
        · obtain ⟨_, _, ⟨T249, L249, k249, n249⟩, -, X249, ⟨Lc249, hQ249, l249, y249, z249⟩, st249⟩ := Jvm.LawKit.callS X245 hx (y := own_y6) hown (own_m hZ hw 50) (own_m hZ hw 51) (own_m hZ hw 3) (own_m hZ hw 52) (by decide) (backOf (W := 0) (rmDt l Z a0 hw [] (own_dr p3) T229.heap n0 f241 ) hZ (own_i hw 52 rfl) (own_i hw 3 rfl) (by decide) (by decide)) (g := (mkF m 69 #[iv p1, iv p2, iv p3, iv p4, iv p5, iv 3, iv (own_dr p2), iv (own_dr p3), iv (own_dr p4), iv (own_dr p5), rv b230, .unset] [(.int (own_dr p3))])) rfl (by rw [hml]; rfl) (argsL := [(.int (own_dr p3))]) (rest := []) (lenOf pd_18 rfl) rfl (Nat.le_of_eq rfl) (hb hby at_69) (fun _ _ => ⟨rfl, e245, own_le rfl, own_le rfl⟩)
          dsimp only [Pt.U, Pt.locs, Pt.cells, Pt.slots] at X249 l249 y249 z249 st249 hQ249
          subst l249 y249 z249
          obtain ⟨rfl, N249q, e249⟩ := hQ249
          have N249 := Fr.app N245 N249q
          have pre251 : own_P p e below s₁ (entryFrame m #[(.int p1), (.int p2), (.int p3), (.int p4), (.int p5)] maxLocals) T249 (mkF m 72 #[iv p1, iv p2, iv p3, iv p4, iv p5, iv 3, iv (own_dr p2), iv (own_dr p3), iv (own_dr p4), iv (own_dr p5), rv b230, .unset] [(.int (own_dgt (own_dr p3)))]) := fun t k => pre247 t (by
            refine XS.ifNo X245.here hx rfl (hb hby at_58) rfl ((if0 _ _).trans (feq hc246).1) ?_
            refine XS.iload X245.here hx rfl (hb hby at_61) rfl ?_
            refine XS.iconst X245.here hx rfl (hb hby at_63) ?_
            refine XS.icmpNo X245.here hx rfl (hb hby at_64) rfl (flt (by decide : ¬ ((3 : Int32) < (2 : Int32)))).1 ?_
            refine XS.iload X245.here hx rfl (hb hby at_67) rfl ?_
            refine st249 _ ?_
            exact k)
          by_cases hc250 : (own_dgt (own_dr p3)) = (0 : Int32)
          · have pre252 : own_P p e below s₁ (entryFrame m #[(.int p1), (.int p2), (.int p3), (.int p4), (.int p5)] maxLocals) T249 (mkF m 108 #[iv p1, iv p2, iv p3, iv p4, iv p5, iv 3, iv (own_dr p2), iv (own_dr p3), iv (own_dr p4), iv (own_dr p5), rv b230, .unset] [(.int 0)]) := fun t k => pre251 t (by
              refine XS.ifYes X249.here hx rfl (pc0 := 72) (pc' := 107) rfl (hb hby at_72) rfl ((if0 _ _).trans (teq hc250).1) (by decide) (by decide) ?_
              refine XS.iconst X249.here hx rfl (hb hby at_107) ?_
              exact k)
            exact ⟨_, _, (0 : Int32), X249, e249, N249, (Or.inr (Or.inl ⟨hc246, hc250, rfl⟩)), pre252⟩
          · obtain ⟨_, _, ⟨T253, L253, k253, n253⟩, -, X253, ⟨Lc253, hQ253, l253, y253, z253⟩, st253⟩ := Jvm.LawKit.callS X249 hx (y := own_y6) hown (own_m hZ hw 50) (own_m hZ hw 51) (own_m hZ hw 3) (own_m hZ hw 52) (by decide) (backOf (W := 0) (rmDt l Z a0 hw [] (own_dr p4) T229.heap n0 f241 ) hZ (own_i hw 52 rfl) (own_i hw 3 rfl) (by decide) (by decide)) (g := (mkF m 83 #[iv p1, iv p2, iv p3, iv p4, iv p5, iv 3, iv (own_dr p2), iv (own_dr p3), iv (own_dr p4), iv (own_dr p5), rv b230, .unset] [(.int (own_dr p4))])) rfl (by rw [hml]; rfl) (argsL := [(.int (own_dr p4))]) (rest := []) (lenOf pd_18 rfl) rfl (Nat.le_of_eq rfl) (hb hby at_83) (fun _ _ => ⟨rfl, e249, own_le rfl, own_le rfl⟩)
            dsimp only [Pt.U, Pt.locs, Pt.cells, Pt.slots] at X253 l253 y253 z253 st253 hQ253
            subst l253 y253 z253
            obtain ⟨rfl, N253q, e253⟩ := hQ253
            have N253 := Fr.app N249 N253q
            have pre255 : own_P p e below s₁ (entryFrame m #[(.int p1), (.int p2), (.int p3), (.int p4), (.int p5)] maxLocals) T253 (mkF m 86 #[iv p1, iv p2, iv p3, iv p4, iv p5, iv 3, iv (own_dr p2), iv (own_dr p3), iv (own_dr p4), iv (own_dr p5), rv b230, .unset] [(.int (own_dgt (own_dr p4)))]) := fun t k => pre251 t (by
              refine XS.ifNo X249.here hx rfl (hb hby at_72) rfl ((if0 _ _).trans (feq hc250).1) ?_
              refine XS.iload X249.here hx rfl (hb hby at_75) rfl ?_
              refine XS.iconst X249.here hx rfl (hb hby at_77) ?_
              refine XS.icmpNo X249.here hx rfl (hb hby at_78) rfl (flt (by decide : ¬ ((3 : Int32) < (3 : Int32)))).1 ?_
              refine XS.iload X249.here hx rfl (hb hby at_81) rfl ?_
              refine st253 _ ?_
              exact k)
            by_cases hc254 : (own_dgt (own_dr p4)) = (0 : Int32)
            · have pre256 : own_P p e below s₁ (entryFrame m #[(.int p1), (.int p2), (.int p3), (.int p4), (.int p5)] maxLocals) T253 (mkF m 108 #[iv p1, iv p2, iv p3, iv p4, iv p5, iv 3, iv (own_dr p2), iv (own_dr p3), iv (own_dr p4), iv (own_dr p5), rv b230, .unset] [(.int 0)]) := fun t k => pre255 t (by
                refine XS.ifYes X253.here hx rfl (pc0 := 86) (pc' := 107) rfl (hb hby at_86) rfl ((if0 _ _).trans (teq hc254).1) (by decide) (by decide) ?_
                refine XS.iconst X253.here hx rfl (hb hby at_107) ?_
                exact k)
              exact ⟨_, _, (0 : Int32), X253, e253, N253, (Or.inr (Or.inr (Or.inl ⟨hc246, hc250, hc254, rfl⟩))), pre256⟩
            · have pre257 : own_P p e below s₁ (entryFrame m #[(.int p1), (.int p2), (.int p3), (.int p4), (.int p5)] maxLocals) T253 (mkF m 108 #[iv p1, iv p2, iv p3, iv p4, iv p5, iv 3, iv (own_dr p2), iv (own_dr p3), iv (own_dr p4), iv (own_dr p5), rv b230, .unset] [(.int 1)]) := fun t k => pre255 t (by
                refine XS.ifNo X253.here hx rfl (hb hby at_86) rfl ((if0 _ _).trans (feq hc254).1) ?_
                refine XS.iload X253.here hx rfl (hb hby at_89) rfl ?_
                refine XS.iconst X253.here hx rfl (hb hby at_91) ?_
                refine XS.icmpYes X253.here hx rfl (pc0 := 92) (pc' := 103) rfl (hb hby at_92) rfl (tlt (by decide : (3 : Int32) < (4 : Int32))).1 (by decide) (by decide) ?_
                refine XS.iconst X253.here hx rfl (hb hby at_103) ?_
                refine XS.goto X253.here hx rfl (pc0 := 104) (pc' := 108) rfl (hb hby at_104) (by decide) (by decide) ?_
                exact k)
              exact ⟨_, _, (1 : Int32), X253, e253, N253, (Or.inr (Or.inr (Or.inr (⟨hc246, hc250, hc254, rfl⟩)))), pre257⟩
      obtain ⟨_, _, ⟨T260, L260, k260, n260⟩, -, X260, ⟨Lc260, hQ260, l260, y260, z260⟩, st260⟩ := Jvm.LawKit.callS X259 hx (y := own_y24) hown (own_m hZ hw 30) (own_m hZ hw 31) (own_m hZ hw 32) (own_m hZ hw 33) (by decide) (backOf (W := 0) (rmIs_3 l Z a0 hw [] b230 cs vF b231 x232 (nar .byte ((nar .char (own_dr p2)).toInt8.toInt32)) (nar .byte ((nar .char (own_dr p3)).toInt8.toInt32)) (nar .byte ((nar .char (own_dr p4)).toInt8.toInt32)) T229.heap n0 f241 (SC.ext f242.2) hcs (SF.ext f242.2) hF f235 f236 f237 f240) hZ (own_i hw 33 rfl) (own_i hw 32 rfl) (by decide) (by decide)) (g := (mkF m 112 #[iv p1, iv p2, iv p3, iv p4, iv p5, iv 3, iv (own_dr p2), iv (own_dr p3), iv (own_dr p4), iv (own_dr p5), rv b230, iv v258] [(.ref b230)])) rfl (by rw [hml]; rfl) (argsL := [(.ref b230)]) (rest := []) (lenOf pd_19 rfl) rfl (Nat.le_of_eq rfl) (hb hby at_112) (fun _ _ => ⟨rfl, e259, own_le rfl, own_le rfl⟩)
      dsimp only [Pt.U, Pt.locs, Pt.cells, Pt.slots] at X260 l260 y260 z260 st260 hQ260
      subst l260 y260 z260
      obtain ⟨rfl, N260q, e260⟩ := hQ260
      have N260 := Fr.app N259 N260q
      have hd261 : (own_all3 (own_cat (nar .byte ((nar .char (own_dr p2)).toInt8.toInt32))) (own_cat (nar .byte ((nar .char (own_dr p3)).toInt8.toInt32))) (own_cat (nar .byte ((nar .char (own_dr p4)).toInt8.toInt32)))) = v258 := by rw [own_eL hs228.1, own_eL hs228.2.1, own_eL hs228.2.2]; exact own_fin3 hP259
      have pre262 : own_P p e below s₁ (entryFrame m #[(.int p1), (.int p2), (.int p3), (.int p4), (.int p5)] maxLocals) T260 (mkF m 125 #[iv p1, iv p2, iv p3, iv p4, iv p5, iv 3, iv (own_dr p2), iv (own_dr p3), iv (own_dr p4), iv (own_dr p5), rv b230, iv v258] [(.int 1)]) := fun t k => pre259 t (by
        show Steps p.tables e below (T259.setTop (mkF m 108 #[iv p1, iv p2, iv p3, iv p4, iv p5, iv 3, iv (own_dr p2), iv (own_dr p3), iv (own_dr p4), iv (own_dr p5), rv b230, .unset] [(.int v258)])) t
        refine XS.istore X259.here hx rfl (hb hby at_108) rfl (l' := #[iv p1, iv p2, iv p3, iv p4, iv p5, iv 3, iv (own_dr p2), iv (own_dr p3), iv (own_dr p4), iv (own_dr p5), rv b230, iv v258]) rfl ?_
        refine XS.aload X259.here hx rfl (hb hby at_110) rfl rfl ?_
        refine st260 _ ?_
        refine XS.iload X260.here hx rfl (hb hby at_115) rfl ?_
        refine XS.icmpNo X260.here hx rfl (hb hby at_117) rfl (teq hd261).2 ?_
        refine XS.iconst X260.here hx rfl (hb hby at_120) ?_
        refine XS.goto X260.here hx rfl (pc0 := 121) (pc' := 125) rfl (hb hby at_121) (by decide) (by decide) ?_
        exact k)
      obtain ⟨fs, hr, hrun, hended, hW, hsame⟩ := X260.leave (v := some (.int 1)) (fun h => by rw [Bd.returns] at h; cases h)
      refine ⟨_, _, pre262 _ ?_, hrun, hended, _, _, rfl, ?_, ReturnedEndW.of_narrow ⟨_, rfl⟩ hW (hsame.mono (by decide) (by decide))⟩
      · exact retN X260 hx (t := .boolean) Bd.returns (by simp) (hb hby at_125) hr
      · show Q0 Z p1 p2 p3 p4 p5 cs vF h0 n0 _ T260.heap _
        rw [e260]
        exact ⟨rfl, N260⟩
    · obtain ⟨_, _, ⟨T263, L263, k263, n263⟩, -, X263, ⟨Lc263, hQ263, l263, y263, z263⟩, st263⟩ := Jvm.LawKit.callS X105 hx (y := own_y23) hown (own_m hZ hw 5) (own_m hZ hw 6) (own_m hZ hw 3) (own_m hZ hw 7) (by decide) (backOf (W := 0) (rmMU_3 l Z a0 hw [] (own_dr p2) (own_dr p3) (own_dr p4) (own_dr p5) cs h0 n0 Z0 SC hcs SA SH SL O0 hs228) hZ (own_i hw 7 rfl) (own_i hw 3 rfl) (by decide) (by decide)) (g := (mkF m 43 #[iv p1, iv p2, iv p3, iv p4, iv p5, iv 3, iv (own_dr p2), iv (own_dr p3), iv (own_dr p4), iv (own_dr p5), .unset, .unset] [(.int (own_dr p5)), (.int (own_dr p4)), (.int (own_dr p3)), (.int (own_dr p2)), (.int 3)])) rfl (by rw [hml]; rfl) (argsL := [(.int 3), (.int (own_dr p2)), (.int (own_dr p3)), (.int (own_dr p4)), (.int (own_dr p5))]) (rest := []) (lenOf pd_17 rfl) rfl (Nat.le_of_eq rfl) (hb hby at_43) (fun _ _ => ⟨rfl, e105, own_le rfl, own_le rfl⟩)
      dsimp only [Pt.U, Pt.locs, Pt.cells, Pt.slots] at X263 l263 y263 z263 st263 hQ263
      subst l263 y263 z263
      obtain ⟨b264, b265, x266, rfl, N263q, K263, f267, f268, f269, f270, f271, f272, f273, f274⟩ := hQ263
      have N263 := Fr.app N105 N263q
      have f275 := Nat.le_trans Z0 K263.1
      have f276 := O0.keep K263 all0
      have f277 := f101.trans K263 all0
      have pre278 : own_P p e below s₁ (entryFrame m #[(.int p1), (.int p2), (.int p3), (.int p4), (.int p5)] maxLocals) T263 (mkF m 48 #[iv p1, iv p2, iv p3, iv p4, iv p5, iv 3, iv (own_dr p2), iv (own_dr p3), iv (own_dr p4), iv (own_dr p5), rv b264, .unset] []) := fun t k => pre227 t (by
        show Steps p.tables e below (T105.setTop (mkF m 35 #[iv p1, iv p2, iv p3, iv p4, iv p5, iv 3, iv (own_dr p2), iv (own_dr p3), iv (own_dr p4), iv (own_dr p5), .unset, .unset] [(.int 3)])) t
        refine XS.iload X105.here hx rfl (hb hby at_35) rfl ?_
        refine XS.iload X105.here hx rfl (hb hby at_37) rfl ?_
        refine XS.iload X105.here hx rfl (hb hby at_39) rfl ?_
        refine XS.iload X105.here hx rfl (hb hby at_41) rfl ?_
        refine st263 _ ?_
        refine XS.astore X263.here hx rfl (hb hby at_46) rfl rfl (l' := #[iv p1, iv p2, iv p3, iv p4, iv p5, iv 3, iv (own_dr p2), iv (own_dr p3), iv (own_dr p4), iv (own_dr p5), rv b264, .unset]) rfl ?_
        exact k)
      obtain ⟨T293, L293, v292, X293, e293, N293, hP293, pre293⟩ : ∃ (T' : State) (L' : List Loc) (v292 : Int32), Stand p l e room_1 s m #[(.int p1), (.int p2), (.int p3), (.int p4), (.int p5)] below meth c T' L' 4 16 ∧ T'.heap = T263.heap ∧ Fr n0 L' ∧ ((((own_dgt (own_dr p2)) = (0 : Int32)) ∧ v292 = (0 : Int32)) ∨ ((¬ ((own_dgt (own_dr p2)) = (0 : Int32))) ∧ ((own_dgt (own_dr p3)) = (0 : Int32)) ∧ v292 = (0 : Int32)) ∨ ((¬ ((own_dgt (own_dr p2)) = (0 : Int32))) ∧ (¬ ((own_dgt (own_dr p3)) = (0 : Int32))) ∧ ((own_dgt (own_dr p4)) = (0 : Int32)) ∧ v292 = (0 : Int32)) ∨ ((¬ ((own_dgt (own_dr p2)) = (0 : Int32))) ∧ (¬ ((own_dgt (own_dr p3)) = (0 : Int32))) ∧ (¬ ((own_dgt (own_dr p4)) = (0 : Int32))) ∧ v292 = (1 : Int32))) ∧ ∀ t, Steps p.tables e below (T'.setTop (mkF m 108 #[iv p1, iv p2, iv p3, iv p4, iv p5, iv 3, iv (own_dr p2), iv (own_dr p3), iv (own_dr p4), iv (own_dr p5), rv b264, .unset] [(.int v292)])) t → Steps p.tables e below (s₁.setTop (entryFrame m #[(.int p1), (.int p2), (.int p3), (.int p4), (.int p5)] maxLocals)) t := by
        obtain ⟨_, _, ⟨T279, L279, k279, n279⟩, -, X279, ⟨Lc279, hQ279, l279, y279, z279⟩, st279⟩ := Jvm.LawKit.callS X263 hx (y := own_y6) hown (own_m hZ hw 50) (own_m hZ hw 51) (own_m hZ hw 3) (own_m hZ hw 52) (by decide) (backOf (W := 0) (rmDt l Z a0 hw [] (own_dr p2) T263.heap n0 f275 ) hZ (own_i hw 52 rfl) (own_i hw 3 rfl) (by decide) (by decide)) (g := (mkF m 55 #[iv p1, iv p2, iv p3, iv p4, iv p5, iv 3, iv (own_dr p2), iv (own_dr p3), iv (own_dr p4), iv (own_dr p5), rv b264, .unset] [(.int (own_dr p2))])) rfl (by rw [hml]; rfl) (argsL := [(.int (own_dr p2))]) (rest := []) (lenOf pd_18 rfl) rfl (Nat.le_of_eq rfl) (hb hby at_55) (fun _ _ => ⟨rfl, rfl, own_le rfl, own_le rfl⟩)
        dsimp only [Pt.U, Pt.locs, Pt.cells, Pt.slots] at X279 l279 y279 z279 st279 hQ279
        subst l279 y279 z279
        obtain ⟨rfl, N279q, e279⟩ := hQ279
        have N279 := Fr.app N263 N279q
        have pre281 : own_P p e below s₁ (entryFrame m #[(.int p1), (.int p2), (.int p3), (.int p4), (.int p5)] maxLocals) T279 (mkF m 58 #[iv p1, iv p2, iv p3, iv p4, iv p5, iv 3, iv (own_dr p2), iv (own_dr p3), iv (own_dr p4), iv (own_dr p5), rv b264, .unset] [(.int (own_dgt (own_dr p2)))]) := fun t k => pre278 t (by
          show Steps p.tables e below (T263.setTop (mkF m 48 #[iv p1, iv p2, iv p3, iv p4, iv p5, iv 3, iv (own_dr p2), iv (own_dr p3), iv (own_dr p4), iv (own_dr p5), rv b264, .unset] [])) t
          refine XS.iload X263.here hx rfl (hb hby at_48) rfl ?_
          refine XS.ifNo X263.here hx rfl (hb hby at_50) rfl ((if0 _ _).trans (tlt (by decide : (0 : Int32) < (3 : Int32))).2.2.2) ?_
          refine XS.iload X263.here hx rfl (hb hby at_53) rfl ?_
          refine st279 _ ?_
          exact k)
        by_cases hc280 : (own_dgt (own_dr p2)) = (0 : Int32)
        · have pre282 : own_P p e below s₁ (entryFrame m #[(.int p1), (.int p2), (.int p3), (.int p4), (.int p5)] maxLocals) T279 (mkF m 108 #[iv p1, iv p2, iv p3, iv p4, iv p5, iv 3, iv (own_dr p2), iv (own_dr p3), iv (own_dr p4), iv (own_dr p5), rv b264, .unset] [(.int 0)]) := fun t k => pre281 t (by
            refine XS.ifYes X279.here hx rfl (pc0 := 58) (pc' := 107) rfl (hb hby at_58) rfl ((if0 _ _).trans (teq hc280).1) (by decide) (by decide) ?_
            refine XS.iconst X279.here hx rfl (hb hby at_107) ?_
            exact k)
          exact ⟨_, _, (0 : Int32), X279, e279, N279, (Or.inl ⟨hc280, rfl⟩), pre282⟩
        · obtain ⟨_, _, ⟨T283, L283, k283, n283⟩, -, X283, ⟨Lc283, hQ283, l283, y283, z283⟩, st283⟩ := Jvm.LawKit.callS X279 hx (y := own_y6) hown (own_m hZ hw 50) (own_m hZ hw 51) (own_m hZ hw 3) (own_m hZ hw 52) (by decide) (backOf (W := 0) (rmDt l Z a0 hw [] (own_dr p3) T263.heap n0 f275 ) hZ (own_i hw 52 rfl) (own_i hw 3 rfl) (by decide) (by decide)) (g := (mkF m 69 #[iv p1, iv p2, iv p3, iv p4, iv p5, iv 3, iv (own_dr p2), iv (own_dr p3), iv (own_dr p4), iv (own_dr p5), rv b264, .unset] [(.int (own_dr p3))])) rfl (by rw [hml]; rfl) (argsL := [(.int (own_dr p3))]) (rest := []) (lenOf pd_18 rfl) rfl (Nat.le_of_eq rfl) (hb hby at_69) (fun _ _ => ⟨rfl, e279, own_le rfl, own_le rfl⟩)
          dsimp only [Pt.U, Pt.locs, Pt.cells, Pt.slots] at X283 l283 y283 z283 st283 hQ283
          subst l283 y283 z283
          obtain ⟨rfl, N283q, e283⟩ := hQ283
          have N283 := Fr.app N279 N283q
          have pre285 : own_P p e below s₁ (entryFrame m #[(.int p1), (.int p2), (.int p3), (.int p4), (.int p5)] maxLocals) T283 (mkF m 72 #[iv p1, iv p2, iv p3, iv p4, iv p5, iv 3, iv (own_dr p2), iv (own_dr p3), iv (own_dr p4), iv (own_dr p5), rv b264, .unset] [(.int (own_dgt (own_dr p3)))]) := fun t k => pre281 t (by
            refine XS.ifNo X279.here hx rfl (hb hby at_58) rfl ((if0 _ _).trans (feq hc280).1) ?_
            refine XS.iload X279.here hx rfl (hb hby at_61) rfl ?_
            refine XS.iconst X279.here hx rfl (hb hby at_63) ?_
            refine XS.icmpNo X279.here hx rfl (hb hby at_64) rfl (flt (by decide : ¬ ((3 : Int32) < (2 : Int32)))).1 ?_
            refine XS.iload X279.here hx rfl (hb hby at_67) rfl ?_
            refine st283 _ ?_
            exact k)
          by_cases hc284 : (own_dgt (own_dr p3)) = (0 : Int32)
          · have pre286 : own_P p e below s₁ (entryFrame m #[(.int p1), (.int p2), (.int p3), (.int p4), (.int p5)] maxLocals) T283 (mkF m 108 #[iv p1, iv p2, iv p3, iv p4, iv p5, iv 3, iv (own_dr p2), iv (own_dr p3), iv (own_dr p4), iv (own_dr p5), rv b264, .unset] [(.int 0)]) := fun t k => pre285 t (by
              refine XS.ifYes X283.here hx rfl (pc0 := 72) (pc' := 107) rfl (hb hby at_72) rfl ((if0 _ _).trans (teq hc284).1) (by decide) (by decide) ?_
              refine XS.iconst X283.here hx rfl (hb hby at_107) ?_
              exact k)
            exact ⟨_, _, (0 : Int32), X283, e283, N283, (Or.inr (Or.inl ⟨hc280, hc284, rfl⟩)), pre286⟩
          · obtain ⟨_, _, ⟨T287, L287, k287, n287⟩, -, X287, ⟨Lc287, hQ287, l287, y287, z287⟩, st287⟩ := Jvm.LawKit.callS X283 hx (y := own_y6) hown (own_m hZ hw 50) (own_m hZ hw 51) (own_m hZ hw 3) (own_m hZ hw 52) (by decide) (backOf (W := 0) (rmDt l Z a0 hw [] (own_dr p4) T263.heap n0 f275 ) hZ (own_i hw 52 rfl) (own_i hw 3 rfl) (by decide) (by decide)) (g := (mkF m 83 #[iv p1, iv p2, iv p3, iv p4, iv p5, iv 3, iv (own_dr p2), iv (own_dr p3), iv (own_dr p4), iv (own_dr p5), rv b264, .unset] [(.int (own_dr p4))])) rfl (by rw [hml]; rfl) (argsL := [(.int (own_dr p4))]) (rest := []) (lenOf pd_18 rfl) rfl (Nat.le_of_eq rfl) (hb hby at_83) (fun _ _ => ⟨rfl, e283, own_le rfl, own_le rfl⟩)
            dsimp only [Pt.U, Pt.locs, Pt.cells, Pt.slots] at X287 l287 y287 z287 st287 hQ287
            subst l287 y287 z287
            obtain ⟨rfl, N287q, e287⟩ := hQ287
            have N287 := Fr.app N283 N287q
            have pre289 : own_P p e below s₁ (entryFrame m #[(.int p1), (.int p2), (.int p3), (.int p4), (.int p5)] maxLocals) T287 (mkF m 86 #[iv p1, iv p2, iv p3, iv p4, iv p5, iv 3, iv (own_dr p2), iv (own_dr p3), iv (own_dr p4), iv (own_dr p5), rv b264, .unset] [(.int (own_dgt (own_dr p4)))]) := fun t k => pre285 t (by
              refine XS.ifNo X283.here hx rfl (hb hby at_72) rfl ((if0 _ _).trans (feq hc284).1) ?_
              refine XS.iload X283.here hx rfl (hb hby at_75) rfl ?_
              refine XS.iconst X283.here hx rfl (hb hby at_77) ?_
              refine XS.icmpNo X283.here hx rfl (hb hby at_78) rfl (flt (by decide : ¬ ((3 : Int32) < (3 : Int32)))).1 ?_
              refine XS.iload X283.here hx rfl (hb hby at_81) rfl ?_
              refine st287 _ ?_
              exact k)
            by_cases hc288 : (own_dgt (own_dr p4)) = (0 : Int32)
            · have pre290 : own_P p e below s₁ (entryFrame m #[(.int p1), (.int p2), (.int p3), (.int p4), (.int p5)] maxLocals) T287 (mkF m 108 #[iv p1, iv p2, iv p3, iv p4, iv p5, iv 3, iv (own_dr p2), iv (own_dr p3), iv (own_dr p4), iv (own_dr p5), rv b264, .unset] [(.int 0)]) := fun t k => pre289 t (by
                refine XS.ifYes X287.here hx rfl (pc0 := 86) (pc' := 107) rfl (hb hby at_86) rfl ((if0 _ _).trans (teq hc288).1) (by decide) (by decide) ?_
                refine XS.iconst X287.here hx rfl (hb hby at_107) ?_
                exact k)
              exact ⟨_, _, (0 : Int32), X287, e287, N287, (Or.inr (Or.inr (Or.inl ⟨hc280, hc284, hc288, rfl⟩))), pre290⟩
            · have pre291 : own_P p e below s₁ (entryFrame m #[(.int p1), (.int p2), (.int p3), (.int p4), (.int p5)] maxLocals) T287 (mkF m 108 #[iv p1, iv p2, iv p3, iv p4, iv p5, iv 3, iv (own_dr p2), iv (own_dr p3), iv (own_dr p4), iv (own_dr p5), rv b264, .unset] [(.int 1)]) := fun t k => pre289 t (by
                refine XS.ifNo X287.here hx rfl (hb hby at_86) rfl ((if0 _ _).trans (feq hc288).1) ?_
                refine XS.iload X287.here hx rfl (hb hby at_89) rfl ?_
                refine XS.iconst X287.here hx rfl (hb hby at_91) ?_
                refine XS.icmpYes X287.here hx rfl (pc0 := 92) (pc' := 103) rfl (hb hby at_92) rfl (tlt (by decide : (3 : Int32) < (4 : Int32))).1 (by decide) (by decide) ?_
                refine XS.iconst X287.here hx rfl (hb hby at_103) ?_
                refine XS.goto X287.here hx rfl (pc0 := 104) (pc' := 108) rfl (hb hby at_104) (by decide) (by decide) ?_
                exact k)
              exact ⟨_, _, (1 : Int32), X287, e287, N287, (Or.inr (Or.inr (Or.inr (⟨hc280, hc284, hc288, rfl⟩)))), pre291⟩
      obtain ⟨_, _, ⟨T294, L294, k294, n294⟩, -, X294, ⟨Lc294, hQ294, l294, y294, z294⟩, st294⟩ := Jvm.LawKit.callS X293 hx (y := own_y24) hown (own_m hZ hw 30) (own_m hZ hw 31) (own_m hZ hw 32) (own_m hZ hw 33) (by decide) (backOf (W := 0) (rmIU_3 l Z a0 hw [] b264 cs vF b265 x266 (own_b0 (nar .char (own_dr p2))) (own_b1 (nar .char (own_dr p2))) (own_b0 (nar .char (own_dr p3))) (own_b1 (nar .char (own_dr p3))) (own_b0 (nar .char (own_dr p4))) (own_b1 (nar .char (own_dr p4))) T263.heap n0 f275 (SC.ext f276.2) hcs (SF.ext f276.2) hF (SA.ext f276.2) (SH.ext f276.2) (SL.ext f276.2) f269 f270 f271 f274) hZ (own_i hw 33 rfl) (own_i hw 32 rfl) (by decide) (by decide)) (g := (mkF m 112 #[iv p1, iv p2, iv p3, iv p4, iv p5, iv 3, iv (own_dr p2), iv (own_dr p3), iv (own_dr p4), iv (own_dr p5), rv b264, iv v292] [(.ref b264)])) rfl (by rw [hml]; rfl) (argsL := [(.ref b264)]) (rest := []) (lenOf pd_19 rfl) rfl (Nat.le_of_eq rfl) (hb hby at_112) (fun _ _ => ⟨rfl, e293, own_le rfl, own_le rfl⟩)
      dsimp only [Pt.U, Pt.locs, Pt.cells, Pt.slots] at X294 l294 y294 z294 st294 hQ294
      subst l294 y294 z294
      obtain ⟨rfl, N294q, e294⟩ := hQ294
      have N294 := Fr.app N293 N294q
      have hd295 : (own_all3 (nar .char (nar .char (own_ut (own_b0 (nar .char (own_dr p2))) (own_b1 (nar .char (own_dr p2)))))) (nar .char (nar .char (own_ut (own_b0 (nar .char (own_dr p3))) (own_b1 (nar .char (own_dr p3)))))) (nar .char (nar .char (own_ut (own_b0 (nar .char (own_dr p4))) (own_b1 (nar .char (own_dr p4))))))) = v292 := by rw [own_eU p2, own_eU p3, own_eU p4]; exact own_fin3 hP293
      have pre296 : own_P p e below s₁ (entryFrame m #[(.int p1), (.int p2), (.int p3), (.int p4), (.int p5)] maxLocals) T294 (mkF m 125 #[iv p1, iv p2, iv p3, iv p4, iv p5, iv 3, iv (own_dr p2), iv (own_dr p3), iv (own_dr p4), iv (own_dr p5), rv b264, iv v292] [(.int 1)]) := fun t k => pre293 t (by
        show Steps p.tables e below (T293.setTop (mkF m 108 #[iv p1, iv p2, iv p3, iv p4, iv p5, iv 3, iv (own_dr p2), iv (own_dr p3), iv (own_dr p4), iv (own_dr p5), rv b264, .unset] [(.int v292)])) t
        refine XS.istore X293.here hx rfl (hb hby at_108) rfl (l' := #[iv p1, iv p2, iv p3, iv p4, iv p5, iv 3, iv (own_dr p2), iv (own_dr p3), iv (own_dr p4), iv (own_dr p5), rv b264, iv v292]) rfl ?_
        refine XS.aload X293.here hx rfl (hb hby at_110) rfl rfl ?_
        refine st294 _ ?_
        refine XS.iload X294.here hx rfl (hb hby at_115) rfl ?_
        refine XS.icmpNo X294.here hx rfl (hb hby at_117) rfl (teq hd295).2 ?_
        refine XS.iconst X294.here hx rfl (hb hby at_120) ?_
        refine XS.goto X294.here hx rfl (pc0 := 121) (pc' := 125) rfl (hb hby at_121) (by decide) (by decide) ?_
        exact k)
      obtain ⟨fs, hr, hrun, hended, hW, hsame⟩ := X294.leave (v := some (.int 1)) (fun h => by rw [Bd.returns] at h; cases h)
      refine ⟨_, _, pre296 _ ?_, hrun, hended, _, _, rfl, ?_, ReturnedEndW.of_narrow ⟨_, rfl⟩ hW (hsame.mono (by decide) (by decide))⟩
      · exact retN X294 hx (t := .boolean) Bd.returns (by simp) (hb hby at_125) hr
      · show Q0 Z p1 p2 p3 p4 p5 cs vF h0 n0 _ T294.heap _
        rw [e294]
        exact ⟨rfl, N294⟩
  · have pre297 : own_P p e below s₁ (entryFrame m #[(.int p1), (.int p2), (.int p3), (.int p4), (.int p5)] maxLocals) T105 (mkF m 33 #[iv p1, iv p2, iv p3, iv p4, iv p5, iv 4, iv (own_dr p2), iv (own_dr p3), iv (own_dr p4), iv (own_dr p5), .unset, .unset] []) := fun t k => pre106 t (by rw [show ((p1 &&& (2147483647 : Int32)) % (5 : Int32)) = (4 : Int32) from hs107]; exact k)
    have pre298 : own_P p e below s₁ (entryFrame m #[(.int p1), (.int p2), (.int p3), (.int p4), (.int p5)] maxLocals) T105 (mkF m 35 #[iv p1, iv p2, iv p3, iv p4, iv p5, iv 4, iv (own_dr p2), iv (own_dr p3), iv (own_dr p4), iv (own_dr p5), .unset, .unset] [(.int 4)]) := fun t k => pre297 t (by
      show Steps p.tables e below (T105.setTop (mkF m 33 #[iv p1, iv p2, iv p3, iv p4, iv p5, iv 4, iv (own_dr p2), iv (own_dr p3), iv (own_dr p4), iv (own_dr p5), .unset, .unset] [])) t
      refine XS.iload X105.here hx rfl (hb hby at_33) rfl ?_
      exact k)
    rcases (Classical.em ((¬ ((255 : Int32) < (nar .char (own_dr p2)))) ∧ (¬ ((255 : Int32) < (nar .char (own_dr p3)))) ∧ (¬ ((255 : Int32) < (nar .char (own_dr p4)))) ∧ (¬ ((255 : Int32) < (nar .char (own_dr p5)))))) with hs299 | hs299
    · obtain ⟨_, _, ⟨T300, L300, k300, n300⟩, -, X300, ⟨Lc300, hQ300, l300, y300, z300⟩, st300⟩ := Jvm.LawKit.callS X105 hx (y := own_y23) hown (own_m hZ hw 5) (own_m hZ hw 6) (own_m hZ hw 3) (own_m hZ hw 7) (by decide) (backOf (W := 0) (rmM_4 l Z a0 hw [] (own_dr p2) (own_dr p3) (own_dr p4) (own_dr p5) cs h0 n0 Z0 SC hcs O0 hs299.1 hs299.2.1 hs299.2.2.1 hs299.2.2.2) hZ (own_i hw 7 rfl) (own_i hw 3 rfl) (by decide) (by decide)) (g := (mkF m 43 #[iv p1, iv p2, iv p3, iv p4, iv p5, iv 4, iv (own_dr p2), iv (own_dr p3), iv (own_dr p4), iv (own_dr p5), .unset, .unset] [(.int (own_dr p5)), (.int (own_dr p4)), (.int (own_dr p3)), (.int (own_dr p2)), (.int 4)])) rfl (by rw [hml]; rfl) (argsL := [(.int 4), (.int (own_dr p2)), (.int (own_dr p3)), (.int (own_dr p4)), (.int (own_dr p5))]) (rest := []) (lenOf pd_17 rfl) rfl (Nat.le_of_eq rfl) (hb hby at_43) (fun _ _ => ⟨rfl, e105, own_le rfl, own_le rfl⟩)
      dsimp only [Pt.U, Pt.locs, Pt.cells, Pt.slots] at X300 l300 y300 z300 st300 hQ300
      subst l300 y300 z300
      obtain ⟨b301, b302, x303, rfl, N300q, K300, f304, f305, f306, f307, f308, f309, f310, f311⟩ := hQ300
      have N300 := Fr.app N105 N300q
      have f312 := Nat.le_trans Z0 K300.1
      have f313 := O0.keep K300 all0
      have f314 := f101.trans K300 all0
      have pre315 : own_P p e below s₁ (entryFrame m #[(.int p1), (.int p2), (.int p3), (.int p4), (.int p5)] maxLocals) T300 (mkF m 48 #[iv p1, iv p2, iv p3, iv p4, iv p5, iv 4, iv (own_dr p2), iv (own_dr p3), iv (own_dr p4), iv (own_dr p5), rv b301, .unset] []) := fun t k => pre298 t (by
        show Steps p.tables e below (T105.setTop (mkF m 35 #[iv p1, iv p2, iv p3, iv p4, iv p5, iv 4, iv (own_dr p2), iv (own_dr p3), iv (own_dr p4), iv (own_dr p5), .unset, .unset] [(.int 4)])) t
        refine XS.iload X105.here hx rfl (hb hby at_35) rfl ?_
        refine XS.iload X105.here hx rfl (hb hby at_37) rfl ?_
        refine XS.iload X105.here hx rfl (hb hby at_39) rfl ?_
        refine XS.iload X105.here hx rfl (hb hby at_41) rfl ?_
        refine st300 _ ?_
        refine XS.astore X300.here hx rfl (hb hby at_46) rfl rfl (l' := #[iv p1, iv p2, iv p3, iv p4, iv p5, iv 4, iv (own_dr p2), iv (own_dr p3), iv (own_dr p4), iv (own_dr p5), rv b301, .unset]) rfl ?_
        exact k)
      obtain ⟨T334, L334, v333, X334, e334, N334, hP334, pre334⟩ : ∃ (T' : State) (L' : List Loc) (v333 : Int32), Stand p l e room_1 s m #[(.int p1), (.int p2), (.int p3), (.int p4), (.int p5)] below meth c T' L' 3 12 ∧ T'.heap = T300.heap ∧ Fr n0 L' ∧ ((((own_dgt (own_dr p2)) = (0 : Int32)) ∧ v333 = (0 : Int32)) ∨ ((¬ ((own_dgt (own_dr p2)) = (0 : Int32))) ∧ ((own_dgt (own_dr p3)) = (0 : Int32)) ∧ v333 = (0 : Int32)) ∨ ((¬ ((own_dgt (own_dr p2)) = (0 : Int32))) ∧ (¬ ((own_dgt (own_dr p3)) = (0 : Int32))) ∧ ((own_dgt (own_dr p4)) = (0 : Int32)) ∧ v333 = (0 : Int32)) ∨ ((¬ ((own_dgt (own_dr p2)) = (0 : Int32))) ∧ (¬ ((own_dgt (own_dr p3)) = (0 : Int32))) ∧ (¬ ((own_dgt (own_dr p4)) = (0 : Int32))) ∧ ((own_dgt (own_dr p5)) = (0 : Int32)) ∧ v333 = (0 : Int32)) ∨ ((¬ ((own_dgt (own_dr p2)) = (0 : Int32))) ∧ (¬ ((own_dgt (own_dr p3)) = (0 : Int32))) ∧ (¬ ((own_dgt (own_dr p4)) = (0 : Int32))) ∧ (¬ ((own_dgt (own_dr p5)) = (0 : Int32))) ∧ v333 = (1 : Int32))) ∧ ∀ t, Steps p.tables e below (T'.setTop (mkF m 108 #[iv p1, iv p2, iv p3, iv p4, iv p5, iv 4, iv (own_dr p2), iv (own_dr p3), iv (own_dr p4), iv (own_dr p5), rv b301, .unset] [(.int v333)])) t → Steps p.tables e below (s₁.setTop (entryFrame m #[(.int p1), (.int p2), (.int p3), (.int p4), (.int p5)] maxLocals)) t := by
        obtain ⟨_, _, ⟨T316, L316, k316, n316⟩, -, X316, ⟨Lc316, hQ316, l316, y316, z316⟩, st316⟩ := Jvm.LawKit.callS X300 hx (y := own_y6) hown (own_m hZ hw 50) (own_m hZ hw 51) (own_m hZ hw 3) (own_m hZ hw 52) (by decide) (backOf (W := 0) (rmDt l Z a0 hw [] (own_dr p2) T300.heap n0 f312 ) hZ (own_i hw 52 rfl) (own_i hw 3 rfl) (by decide) (by decide)) (g := (mkF m 55 #[iv p1, iv p2, iv p3, iv p4, iv p5, iv 4, iv (own_dr p2), iv (own_dr p3), iv (own_dr p4), iv (own_dr p5), rv b301, .unset] [(.int (own_dr p2))])) rfl (by rw [hml]; rfl) (argsL := [(.int (own_dr p2))]) (rest := []) (lenOf pd_18 rfl) rfl (Nat.le_of_eq rfl) (hb hby at_55) (fun _ _ => ⟨rfl, rfl, own_le rfl, own_le rfl⟩)
        dsimp only [Pt.U, Pt.locs, Pt.cells, Pt.slots] at X316 l316 y316 z316 st316 hQ316
        subst l316 y316 z316
        obtain ⟨rfl, N316q, e316⟩ := hQ316
        have N316 := Fr.app N300 N316q
        have pre318 : own_P p e below s₁ (entryFrame m #[(.int p1), (.int p2), (.int p3), (.int p4), (.int p5)] maxLocals) T316 (mkF m 58 #[iv p1, iv p2, iv p3, iv p4, iv p5, iv 4, iv (own_dr p2), iv (own_dr p3), iv (own_dr p4), iv (own_dr p5), rv b301, .unset] [(.int (own_dgt (own_dr p2)))]) := fun t k => pre315 t (by
          show Steps p.tables e below (T300.setTop (mkF m 48 #[iv p1, iv p2, iv p3, iv p4, iv p5, iv 4, iv (own_dr p2), iv (own_dr p3), iv (own_dr p4), iv (own_dr p5), rv b301, .unset] [])) t
          refine XS.iload X300.here hx rfl (hb hby at_48) rfl ?_
          refine XS.ifNo X300.here hx rfl (hb hby at_50) rfl ((if0 _ _).trans (tlt (by decide : (0 : Int32) < (4 : Int32))).2.2.2) ?_
          refine XS.iload X300.here hx rfl (hb hby at_53) rfl ?_
          refine st316 _ ?_
          exact k)
        by_cases hc317 : (own_dgt (own_dr p2)) = (0 : Int32)
        · have pre319 : own_P p e below s₁ (entryFrame m #[(.int p1), (.int p2), (.int p3), (.int p4), (.int p5)] maxLocals) T316 (mkF m 108 #[iv p1, iv p2, iv p3, iv p4, iv p5, iv 4, iv (own_dr p2), iv (own_dr p3), iv (own_dr p4), iv (own_dr p5), rv b301, .unset] [(.int 0)]) := fun t k => pre318 t (by
            refine XS.ifYes X316.here hx rfl (pc0 := 58) (pc' := 107) rfl (hb hby at_58) rfl ((if0 _ _).trans (teq hc317).1) (by decide) (by decide) ?_
            refine XS.iconst X316.here hx rfl (hb hby at_107) ?_
            exact k)
          exact ⟨_, _, (0 : Int32), X316, e316, N316, (Or.inl ⟨hc317, rfl⟩), pre319⟩
        · obtain ⟨_, _, ⟨T320, L320, k320, n320⟩, -, X320, ⟨Lc320, hQ320, l320, y320, z320⟩, st320⟩ := Jvm.LawKit.callS X316 hx (y := own_y6) hown (own_m hZ hw 50) (own_m hZ hw 51) (own_m hZ hw 3) (own_m hZ hw 52) (by decide) (backOf (W := 0) (rmDt l Z a0 hw [] (own_dr p3) T300.heap n0 f312 ) hZ (own_i hw 52 rfl) (own_i hw 3 rfl) (by decide) (by decide)) (g := (mkF m 69 #[iv p1, iv p2, iv p3, iv p4, iv p5, iv 4, iv (own_dr p2), iv (own_dr p3), iv (own_dr p4), iv (own_dr p5), rv b301, .unset] [(.int (own_dr p3))])) rfl (by rw [hml]; rfl) (argsL := [(.int (own_dr p3))]) (rest := []) (lenOf pd_18 rfl) rfl (Nat.le_of_eq rfl) (hb hby at_69) (fun _ _ => ⟨rfl, e316, own_le rfl, own_le rfl⟩)
          dsimp only [Pt.U, Pt.locs, Pt.cells, Pt.slots] at X320 l320 y320 z320 st320 hQ320
          subst l320 y320 z320
          obtain ⟨rfl, N320q, e320⟩ := hQ320
          have N320 := Fr.app N316 N320q
          have pre322 : own_P p e below s₁ (entryFrame m #[(.int p1), (.int p2), (.int p3), (.int p4), (.int p5)] maxLocals) T320 (mkF m 72 #[iv p1, iv p2, iv p3, iv p4, iv p5, iv 4, iv (own_dr p2), iv (own_dr p3), iv (own_dr p4), iv (own_dr p5), rv b301, .unset] [(.int (own_dgt (own_dr p3)))]) := fun t k => pre318 t (by
            refine XS.ifNo X316.here hx rfl (hb hby at_58) rfl ((if0 _ _).trans (feq hc317).1) ?_
            refine XS.iload X316.here hx rfl (hb hby at_61) rfl ?_
            refine XS.iconst X316.here hx rfl (hb hby at_63) ?_
            refine XS.icmpNo X316.here hx rfl (hb hby at_64) rfl (flt (by decide : ¬ ((4 : Int32) < (2 : Int32)))).1 ?_
            refine XS.iload X316.here hx rfl (hb hby at_67) rfl ?_
            refine st320 _ ?_
            exact k)
          by_cases hc321 : (own_dgt (own_dr p3)) = (0 : Int32)
          · have pre323 : own_P p e below s₁ (entryFrame m #[(.int p1), (.int p2), (.int p3), (.int p4), (.int p5)] maxLocals) T320 (mkF m 108 #[iv p1, iv p2, iv p3, iv p4, iv p5, iv 4, iv (own_dr p2), iv (own_dr p3), iv (own_dr p4), iv (own_dr p5), rv b301, .unset] [(.int 0)]) := fun t k => pre322 t (by
              refine XS.ifYes X320.here hx rfl (pc0 := 72) (pc' := 107) rfl (hb hby at_72) rfl ((if0 _ _).trans (teq hc321).1) (by decide) (by decide) ?_
              refine XS.iconst X320.here hx rfl (hb hby at_107) ?_
              exact k)
            exact ⟨_, _, (0 : Int32), X320, e320, N320, (Or.inr (Or.inl ⟨hc317, hc321, rfl⟩)), pre323⟩
          · obtain ⟨_, _, ⟨T324, L324, k324, n324⟩, -, X324, ⟨Lc324, hQ324, l324, y324, z324⟩, st324⟩ := Jvm.LawKit.callS X320 hx (y := own_y6) hown (own_m hZ hw 50) (own_m hZ hw 51) (own_m hZ hw 3) (own_m hZ hw 52) (by decide) (backOf (W := 0) (rmDt l Z a0 hw [] (own_dr p4) T300.heap n0 f312 ) hZ (own_i hw 52 rfl) (own_i hw 3 rfl) (by decide) (by decide)) (g := (mkF m 83 #[iv p1, iv p2, iv p3, iv p4, iv p5, iv 4, iv (own_dr p2), iv (own_dr p3), iv (own_dr p4), iv (own_dr p5), rv b301, .unset] [(.int (own_dr p4))])) rfl (by rw [hml]; rfl) (argsL := [(.int (own_dr p4))]) (rest := []) (lenOf pd_18 rfl) rfl (Nat.le_of_eq rfl) (hb hby at_83) (fun _ _ => ⟨rfl, e320, own_le rfl, own_le rfl⟩)
            dsimp only [Pt.U, Pt.locs, Pt.cells, Pt.slots] at X324 l324 y324 z324 st324 hQ324
            subst l324 y324 z324
            obtain ⟨rfl, N324q, e324⟩ := hQ324
            have N324 := Fr.app N320 N324q
            have pre326 : own_P p e below s₁ (entryFrame m #[(.int p1), (.int p2), (.int p3), (.int p4), (.int p5)] maxLocals) T324 (mkF m 86 #[iv p1, iv p2, iv p3, iv p4, iv p5, iv 4, iv (own_dr p2), iv (own_dr p3), iv (own_dr p4), iv (own_dr p5), rv b301, .unset] [(.int (own_dgt (own_dr p4)))]) := fun t k => pre322 t (by
              refine XS.ifNo X320.here hx rfl (hb hby at_72) rfl ((if0 _ _).trans (feq hc321).1) ?_
              refine XS.iload X320.here hx rfl (hb hby at_75) rfl ?_
              refine XS.iconst X320.here hx rfl (hb hby at_77) ?_
              refine XS.icmpNo X320.here hx rfl (hb hby at_78) rfl (flt (by decide : ¬ ((4 : Int32) < (3 : Int32)))).1 ?_
              refine XS.iload X320.here hx rfl (hb hby at_81) rfl ?_
              refine st324 _ ?_
              exact k)
            by_cases hc325 : (own_dgt (own_dr p4)) = (0 : Int32)
            · have pre327 : own_P p e below s₁ (entryFrame m #[(.int p1), (.int p2), (.int p3), (.int p4), (.int p5)] maxLocals) T324 (mkF m 108 #[iv p1, iv p2, iv p3, iv p4, iv p5, iv 4, iv (own_dr p2), iv (own_dr p3), iv (own_dr p4), iv (own_dr p5), rv b301, .unset] [(.int 0)]) := fun t k => pre326 t (by
                refine XS.ifYes X324.here hx rfl (pc0 := 86) (pc' := 107) rfl (hb hby at_86) rfl ((if0 _ _).trans (teq hc325).1) (by decide) (by decide) ?_
                refine XS.iconst X324.here hx rfl (hb hby at_107) ?_
                exact k)
              exact ⟨_, _, (0 : Int32), X324, e324, N324, (Or.inr (Or.inr (Or.inl ⟨hc317, hc321, hc325, rfl⟩))), pre327⟩
            · obtain ⟨_, _, ⟨T328, L328, k328, n328⟩, -, X328, ⟨Lc328, hQ328, l328, y328, z328⟩, st328⟩ := Jvm.LawKit.callS X324 hx (y := own_y6) hown (own_m hZ hw 50) (own_m hZ hw 51) (own_m hZ hw 3) (own_m hZ hw 52) (by decide) (backOf (W := 0) (rmDt l Z a0 hw [] (own_dr p5) T300.heap n0 f312 ) hZ (own_i hw 52 rfl) (own_i hw 3 rfl) (by decide) (by decide)) (g := (mkF m 97 #[iv p1, iv p2, iv p3, iv p4, iv p5, iv 4, iv (own_dr p2), iv (own_dr p3), iv (own_dr p4), iv (own_dr p5), rv b301, .unset] [(.int (own_dr p5))])) rfl (by rw [hml]; rfl) (argsL := [(.int (own_dr p5))]) (rest := []) (lenOf pd_18 rfl) rfl (Nat.le_of_eq rfl) (hb hby at_97) (fun _ _ => ⟨rfl, e324, own_le rfl, own_le rfl⟩)
              dsimp only [Pt.U, Pt.locs, Pt.cells, Pt.slots] at X328 l328 y328 z328 st328 hQ328
              subst l328 y328 z328
              obtain ⟨rfl, N328q, e328⟩ := hQ328
              have N328 := Fr.app N324 N328q
              have pre330 : own_P p e below s₁ (entryFrame m #[(.int p1), (.int p2), (.int p3), (.int p4), (.int p5)] maxLocals) T328 (mkF m 100 #[iv p1, iv p2, iv p3, iv p4, iv p5, iv 4, iv (own_dr p2), iv (own_dr p3), iv (own_dr p4), iv (own_dr p5), rv b301, .unset] [(.int (own_dgt (own_dr p5)))]) := fun t k => pre326 t (by
                refine XS.ifNo X324.here hx rfl (hb hby at_86) rfl ((if0 _ _).trans (feq hc325).1) ?_
                refine XS.iload X324.here hx rfl (hb hby at_89) rfl ?_
                refine XS.iconst X324.here hx rfl (hb hby at_91) ?_
                refine XS.icmpNo X324.here hx rfl (hb hby at_92) rfl (flt (by decide : ¬ ((4 : Int32) < (4 : Int32)))).1 ?_
                refine XS.iload X324.here hx rfl (hb hby at_95) rfl ?_
                refine st328 _ ?_
                exact k)
              by_cases hc329 : (own_dgt (own_dr p5)) = (0 : Int32)
              · have pre331 : own_P p e below s₁ (entryFrame m #[(.int p1), (.int p2), (.int p3), (.int p4), (.int p5)] maxLocals) T328 (mkF m 108 #[iv p1, iv p2, iv p3, iv p4, iv p5, iv 4, iv (own_dr p2), iv (own_dr p3), iv (own_dr p4), iv (own_dr p5), rv b301, .unset] [(.int 0)]) := fun t k => pre330 t (by
                  refine XS.ifYes X328.here hx rfl (pc0 := 100) (pc' := 107) rfl (hb hby at_100) rfl ((if0 _ _).trans (teq hc329).1) (by decide) (by decide) ?_
                  refine XS.iconst X328.here hx rfl (hb hby at_107) ?_
                  exact k)
                exact ⟨_, _, (0 : Int32), X328, e328, N328, (Or.inr (Or.inr (Or.inr (Or.inl ⟨hc317, hc321, hc325, hc329, rfl⟩)))), pre331⟩
              · have pre332 : own_P p e below s₁ (entryFrame m #[(.int p1), (.int p2), (.int p3), (.int p4), (.int p5)] maxLocals) T328 (mkF m 108 #[iv p1, iv p2, iv p3, iv p4, iv p5, iv 4, iv (own_dr p2), iv (own_dr p3), iv (own_dr p4), iv (own_dr p5), rv b301, .unset] [(.int 1)]) := fun t k => pre330 t (by
                  refine XS.ifNo X328.here hx rfl (hb hby at_100) rfl ((if0 _ _).trans (feq hc329).1) ?_
                  refine XS.iconst X328.here hx rfl (hb hby at_103) ?_
                  refine XS.goto X328.here hx rfl (pc0 := 104) (pc' := 108) rfl (hb hby at_104) (by decide) (by decide) ?_
                  exact k)
                exact ⟨_, _, (1 : Int32), X328, e328, N328, (Or.inr (Or.inr (Or.inr (Or.inr (⟨hc317, hc321, hc325, hc329, rfl⟩))))), pre332⟩
      obtain ⟨_, _, ⟨T335, L335, k335, n335⟩, -, X335, ⟨Lc335, hQ335, l335, y335, z335⟩, st335⟩ := Jvm.LawKit.callS X334 hx (y := own_y24) hown (own_m hZ hw 30) (own_m hZ hw 31) (own_m hZ hw 32) (own_m hZ hw 33) (by decide) (backOf (W := 0) (rmIs_4 l Z a0 hw [] b301 cs vF b302 x303 (nar .byte ((nar .char (own_dr p2)).toInt8.toInt32)) (nar .byte ((nar .char (own_dr p3)).toInt8.toInt32)) (nar .byte ((nar .char (own_dr p4)).toInt8.toInt32)) (nar .byte ((nar .char (own_dr p5)).toInt8.toInt32)) T300.heap n0 f312 (SC.ext f313.2) hcs (SF.ext f313.2) hF f306 f307 f308 f311) hZ (own_i hw 33 rfl) (own_i hw 32 rfl) (by decide) (by decide)) (g := (mkF m 112 #[iv p1, iv p2, iv p3, iv p4, iv p5, iv 4, iv (own_dr p2), iv (own_dr p3), iv (own_dr p4), iv (own_dr p5), rv b301, iv v333] [(.ref b301)])) rfl (by rw [hml]; rfl) (argsL := [(.ref b301)]) (rest := []) (lenOf pd_19 rfl) rfl (Nat.le_of_eq rfl) (hb hby at_112) (fun _ _ => ⟨rfl, e334, own_le rfl, own_le rfl⟩)
      dsimp only [Pt.U, Pt.locs, Pt.cells, Pt.slots] at X335 l335 y335 z335 st335 hQ335
      subst l335 y335 z335
      obtain ⟨rfl, N335q, e335⟩ := hQ335
      have N335 := Fr.app N334 N335q
      have hd336 : (own_all4 (own_cat (nar .byte ((nar .char (own_dr p2)).toInt8.toInt32))) (own_cat (nar .byte ((nar .char (own_dr p3)).toInt8.toInt32))) (own_cat (nar .byte ((nar .char (own_dr p4)).toInt8.toInt32))) (own_cat (nar .byte ((nar .char (own_dr p5)).toInt8.toInt32)))) = v333 := by rw [own_eL hs299.1, own_eL hs299.2.1, own_eL hs299.2.2.1, own_eL hs299.2.2.2]; exact own_fin4 hP334
      have pre337 : own_P p e below s₁ (entryFrame m #[(.int p1), (.int p2), (.int p3), (.int p4), (.int p5)] maxLocals) T335 (mkF m 125 #[iv p1, iv p2, iv p3, iv p4, iv p5, iv 4, iv (own_dr p2), iv (own_dr p3), iv (own_dr p4), iv (own_dr p5), rv b301, iv v333] [(.int 1)]) := fun t k => pre334 t (by
        show Steps p.tables e below (T334.setTop (mkF m 108 #[iv p1, iv p2, iv p3, iv p4, iv p5, iv 4, iv (own_dr p2), iv (own_dr p3), iv (own_dr p4), iv (own_dr p5), rv b301, .unset] [(.int v333)])) t
        refine XS.istore X334.here hx rfl (hb hby at_108) rfl (l' := #[iv p1, iv p2, iv p3, iv p4, iv p5, iv 4, iv (own_dr p2), iv (own_dr p3), iv (own_dr p4), iv (own_dr p5), rv b301, iv v333]) rfl ?_
        refine XS.aload X334.here hx rfl (hb hby at_110) rfl rfl ?_
        refine st335 _ ?_
        refine XS.iload X335.here hx rfl (hb hby at_115) rfl ?_
        refine XS.icmpNo X335.here hx rfl (hb hby at_117) rfl (teq hd336).2 ?_
        refine XS.iconst X335.here hx rfl (hb hby at_120) ?_
        refine XS.goto X335.here hx rfl (pc0 := 121) (pc' := 125) rfl (hb hby at_121) (by decide) (by decide) ?_
        exact k)
      obtain ⟨fs, hr, hrun, hended, hW, hsame⟩ := X335.leave (v := some (.int 1)) (fun h => by rw [Bd.returns] at h; cases h)
      refine ⟨_, _, pre337 _ ?_, hrun, hended, _, _, rfl, ?_, ReturnedEndW.of_narrow ⟨_, rfl⟩ hW (hsame.mono (by decide) (by decide))⟩
      · exact retN X335 hx (t := .boolean) Bd.returns (by simp) (hb hby at_125) hr
      · show Q0 Z p1 p2 p3 p4 p5 cs vF h0 n0 _ T335.heap _
        rw [e335]
        exact ⟨rfl, N335⟩
    · obtain ⟨_, _, ⟨T338, L338, k338, n338⟩, -, X338, ⟨Lc338, hQ338, l338, y338, z338⟩, st338⟩ := Jvm.LawKit.callS X105 hx (y := own_y23) hown (own_m hZ hw 5) (own_m hZ hw 6) (own_m hZ hw 3) (own_m hZ hw 7) (by decide) (backOf (W := 0) (rmMU_4 l Z a0 hw [] (own_dr p2) (own_dr p3) (own_dr p4) (own_dr p5) cs h0 n0 Z0 SC hcs SA SH SL O0 hs299) hZ (own_i hw 7 rfl) (own_i hw 3 rfl) (by decide) (by decide)) (g := (mkF m 43 #[iv p1, iv p2, iv p3, iv p4, iv p5, iv 4, iv (own_dr p2), iv (own_dr p3), iv (own_dr p4), iv (own_dr p5), .unset, .unset] [(.int (own_dr p5)), (.int (own_dr p4)), (.int (own_dr p3)), (.int (own_dr p2)), (.int 4)])) rfl (by rw [hml]; rfl) (argsL := [(.int 4), (.int (own_dr p2)), (.int (own_dr p3)), (.int (own_dr p4)), (.int (own_dr p5))]) (rest := []) (lenOf pd_17 rfl) rfl (Nat.le_of_eq rfl) (hb hby at_43) (fun _ _ => ⟨rfl, e105, own_le rfl, own_le rfl⟩)
      dsimp only [Pt.U, Pt.locs, Pt.cells, Pt.slots] at X338 l338 y338 z338 st338 hQ338
      subst l338 y338 z338
      obtain ⟨b339, b340, x341, rfl, N338q, K338, f342, f343, f344, f345, f346, f347, f348, f349⟩ := hQ338
      have N338 := Fr.app N105 N338q
      have f350 := Nat.le_trans Z0 K338.1
      have f351 := O0.keep K338 all0
      have f352 := f101.trans K338 all0
      have pre353 : own_P p e below s₁ (entryFrame m #[(.int p1), (.int p2), (.int p3), (.int p4), (.int p5)] maxLocals) T338 (mkF m 48 #[iv p1, iv p2, iv p3, iv p4, iv p5, iv 4, iv (own_dr p2), iv (own_dr p3), iv (own_dr p4), iv (own_dr p5), rv b339, .unset] []) := fun t k => pre298 t (by
        show Steps p.tables e below (T105.setTop (mkF m 35 #[iv p1, iv p2, iv p3, iv p4, iv p5, iv 4, iv (own_dr p2), iv (own_dr p3), iv (own_dr p4), iv (own_dr p5), .unset, .unset] [(.int 4)])) t
        refine XS.iload X105.here hx rfl (hb hby at_35) rfl ?_
        refine XS.iload X105.here hx rfl (hb hby at_37) rfl ?_
        refine XS.iload X105.here hx rfl (hb hby at_39) rfl ?_
        refine XS.iload X105.here hx rfl (hb hby at_41) rfl ?_
        refine st338 _ ?_
        refine XS.astore X338.here hx rfl (hb hby at_46) rfl rfl (l' := #[iv p1, iv p2, iv p3, iv p4, iv p5, iv 4, iv (own_dr p2), iv (own_dr p3), iv (own_dr p4), iv (own_dr p5), rv b339, .unset]) rfl ?_
        exact k)
      obtain ⟨T372, L372, v371, X372, e372, N372, hP372, pre372⟩ : ∃ (T' : State) (L' : List Loc) (v371 : Int32), Stand p l e room_1 s m #[(.int p1), (.int p2), (.int p3), (.int p4), (.int p5)] below meth c T' L' 4 20 ∧ T'.heap = T338.heap ∧ Fr n0 L' ∧ ((((own_dgt (own_dr p2)) = (0 : Int32)) ∧ v371 = (0 : Int32)) ∨ ((¬ ((own_dgt (own_dr p2)) = (0 : Int32))) ∧ ((own_dgt (own_dr p3)) = (0 : Int32)) ∧ v371 = (0 : Int32)) ∨ ((¬ ((own_dgt (own_dr p2)) = (0 : Int32))) ∧ (¬ ((own_dgt (own_dr p3)) = (0 : Int32))) ∧ ((own_dgt (own_dr p4)) = (0 : Int32)) ∧ v371 = (0 : Int32)) ∨ ((¬ ((own_dgt (own_dr p2)) = (0 : Int32))) ∧ (¬ ((own_dgt (own_dr p3)) = (0 : Int32))) ∧ (¬ ((own_dgt (own_dr p4)) = (0 : Int32))) ∧ ((own_dgt (own_dr p5)) = (0 : Int32)) ∧ v371 = (0 : Int32)) ∨ ((¬ ((own_dgt (own_dr p2)) = (0 : Int32))) ∧ (¬ ((own_dgt (own_dr p3)) = (0 : Int32))) ∧ (¬ ((own_dgt (own_dr p4)) = (0 : Int32))) ∧ (¬ ((own_dgt (own_dr p5)) = (0 : Int32))) ∧ v371 = (1 : Int32))) ∧ ∀ t, Steps p.tables e below (T'.setTop (mkF m 108 #[iv p1, iv p2, iv p3, iv p4, iv p5, iv 4, iv (own_dr p2), iv (own_dr p3), iv (own_dr p4), iv (own_dr p5), rv b339, .unset] [(.int v371)])) t → Steps p.tables e below (s₁.setTop (entryFrame m #[(.int p1), (.int p2), (.int p3), (.int p4), (.int p5)] maxLocals)) t := by
        obtain ⟨_, _, ⟨T354, L354, k354, n354⟩, -, X354, ⟨Lc354, hQ354, l354, y354, z354⟩, st354⟩ := Jvm.LawKit.callS X338 hx (y := own_y6) hown (own_m hZ hw 50) (own_m hZ hw 51) (own_m hZ hw 3) (own_m hZ hw 52) (by decide) (backOf (W := 0) (rmDt l Z a0 hw [] (own_dr p2) T338.heap n0 f350 ) hZ (own_i hw 52 rfl) (own_i hw 3 rfl) (by decide) (by decide)) (g := (mkF m 55 #[iv p1, iv p2, iv p3, iv p4, iv p5, iv 4, iv (own_dr p2), iv (own_dr p3), iv (own_dr p4), iv (own_dr p5), rv b339, .unset] [(.int (own_dr p2))])) rfl (by rw [hml]; rfl) (argsL := [(.int (own_dr p2))]) (rest := []) (lenOf pd_18 rfl) rfl (Nat.le_of_eq rfl) (hb hby at_55) (fun _ _ => ⟨rfl, rfl, own_le rfl, own_le rfl⟩)
        dsimp only [Pt.U, Pt.locs, Pt.cells, Pt.slots] at X354 l354 y354 z354 st354 hQ354
        subst l354 y354 z354
        obtain ⟨rfl, N354q, e354⟩ := hQ354
        have N354 := Fr.app N338 N354q
        have pre356 : own_P p e below s₁ (entryFrame m #[(.int p1), (.int p2), (.int p3), (.int p4), (.int p5)] maxLocals) T354 (mkF m 58 #[iv p1, iv p2, iv p3, iv p4, iv p5, iv 4, iv (own_dr p2), iv (own_dr p3), iv (own_dr p4), iv (own_dr p5), rv b339, .unset] [(.int (own_dgt (own_dr p2)))]) := fun t k => pre353 t (by
          show Steps p.tables e below (T338.setTop (mkF m 48 #[iv p1, iv p2, iv p3, iv p4, iv p5, iv 4, iv (own_dr p2), iv (own_dr p3), iv (own_dr p4), iv (own_dr p5), rv b339, .unset] [])) t
          refine XS.iload X338.here hx rfl (hb hby at_48) rfl ?_
          refine XS.ifNo X338.here hx rfl (hb hby at_50) rfl ((if0 _ _).trans (tlt (by decide : (0 : Int32) < (4 : Int32))).2.2.2) ?_
          refine XS.iload X338.here hx rfl (hb hby at_53) rfl ?_
          refine st354 _ ?_
          exact k)
        by_cases hc355 : (own_dgt (own_dr p2)) = (0 : Int32)
        · have pre357 : own_P p e below s₁ (entryFrame m #[(.int p1), (.int p2), (.int p3), (.int p4), (.int p5)] maxLocals) T354 (mkF m 108 #[iv p1, iv p2, iv p3, iv p4, iv p5, iv 4, iv (own_dr p2), iv (own_dr p3), iv (own_dr p4), iv (own_dr p5), rv b339, .unset] [(.int 0)]) := fun t k => pre356 t (by
            refine XS.ifYes X354.here hx rfl (pc0 := 58) (pc' := 107) rfl (hb hby at_58) rfl ((if0 _ _).trans (teq hc355).1) (by decide) (by decide) ?_
            refine XS.iconst X354.here hx rfl (hb hby at_107) ?_
            exact k)
          exact ⟨_, _, (0 : Int32), X354, e354, N354, (Or.inl ⟨hc355, rfl⟩), pre357⟩
        · obtain ⟨_, _, ⟨T358, L358, k358, n358⟩, -, X358, ⟨Lc358, hQ358, l358, y358, z358⟩, st358⟩ := Jvm.LawKit.callS X354 hx (y := own_y6) hown (own_m hZ hw 50) (own_m hZ hw 51) (own_m hZ hw 3) (own_m hZ hw 52) (by decide) (backOf (W := 0) (rmDt l Z a0 hw [] (own_dr p3) T338.heap n0 f350 ) hZ (own_i hw 52 rfl) (own_i hw 3 rfl) (by decide) (by decide)) (g := (mkF m 69 #[iv p1, iv p2, iv p3, iv p4, iv p5, iv 4, iv (own_dr p2), iv (own_dr p3), iv (own_dr p4), iv (own_dr p5), rv b339, .unset] [(.int (own_dr p3))])) rfl (by rw [hml]; rfl) (argsL := [(.int (own_dr p3))]) (rest := []) (lenOf pd_18 rfl) rfl (Nat.le_of_eq rfl) (hb hby at_69) (fun _ _ => ⟨rfl, e354, own_le rfl, own_le rfl⟩)
          dsimp only [Pt.U, Pt.locs, Pt.cells, Pt.slots] at X358 l358 y358 z358 st358 hQ358
          subst l358 y358 z358
          obtain ⟨rfl, N358q, e358⟩ := hQ358
          have N358 := Fr.app N354 N358q
          have pre360 : own_P p e below s₁ (entryFrame m #[(.int p1), (.int p2), (.int p3), (.int p4), (.int p5)] maxLocals) T358 (mkF m 72 #[iv p1, iv p2, iv p3, iv p4, iv p5, iv 4, iv (own_dr p2), iv (own_dr p3), iv (own_dr p4), iv (own_dr p5), rv b339, .unset] [(.int (own_dgt (own_dr p3)))]) := fun t k => pre356 t (by
            refine XS.ifNo X354.here hx rfl (hb hby at_58) rfl ((if0 _ _).trans (feq hc355).1) ?_
            refine XS.iload X354.here hx rfl (hb hby at_61) rfl ?_
            refine XS.iconst X354.here hx rfl (hb hby at_63) ?_
            refine XS.icmpNo X354.here hx rfl (hb hby at_64) rfl (flt (by decide : ¬ ((4 : Int32) < (2 : Int32)))).1 ?_
            refine XS.iload X354.here hx rfl (hb hby at_67) rfl ?_
            refine st358 _ ?_
            exact k)
          by_cases hc359 : (own_dgt (own_dr p3)) = (0 : Int32)
          · have pre361 : own_P p e below s₁ (entryFrame m #[(.int p1), (.int p2), (.int p3), (.int p4), (.int p5)] maxLocals) T358 (mkF m 108 #[iv p1, iv p2, iv p3, iv p4, iv p5, iv 4, iv (own_dr p2), iv (own_dr p3), iv (own_dr p4), iv (own_dr p5), rv b339, .unset] [(.int 0)]) := fun t k => pre360 t (by
              refine XS.ifYes X358.here hx rfl (pc0 := 72) (pc' := 107) rfl (hb hby at_72) rfl ((if0 _ _).trans (teq hc359).1) (by decide) (by decide) ?_
              refine XS.iconst X358.here hx rfl (hb hby at_107) ?_
              exact k)
            exact ⟨_, _, (0 : Int32), X358, e358, N358, (Or.inr (Or.inl ⟨hc355, hc359, rfl⟩)), pre361⟩
          · obtain ⟨_, _, ⟨T362, L362, k362, n362⟩, -, X362, ⟨Lc362, hQ362, l362, y362, z362⟩, st362⟩ := Jvm.LawKit.callS X358 hx (y := own_y6) hown (own_m hZ hw 50) (own_m hZ hw 51) (own_m hZ hw 3) (own_m hZ hw 52) (by decide) (backOf (W := 0) (rmDt l Z a0 hw [] (own_dr p4) T338.heap n0 f350 ) hZ (own_i hw 52 rfl) (own_i hw 3 rfl) (by decide) (by decide)) (g := (mkF m 83 #[iv p1, iv p2, iv p3, iv p4, iv p5, iv 4, iv (own_dr p2), iv (own_dr p3), iv (own_dr p4), iv (own_dr p5), rv b339, .unset] [(.int (own_dr p4))])) rfl (by rw [hml]; rfl) (argsL := [(.int (own_dr p4))]) (rest := []) (lenOf pd_18 rfl) rfl (Nat.le_of_eq rfl) (hb hby at_83) (fun _ _ => ⟨rfl, e358, own_le rfl, own_le rfl⟩)
            dsimp only [Pt.U, Pt.locs, Pt.cells, Pt.slots] at X362 l362 y362 z362 st362 hQ362
            subst l362 y362 z362
            obtain ⟨rfl, N362q, e362⟩ := hQ362
            have N362 := Fr.app N358 N362q
            have pre364 : own_P p e below s₁ (entryFrame m #[(.int p1), (.int p2), (.int p3), (.int p4), (.int p5)] maxLocals) T362 (mkF m 86 #[iv p1, iv p2, iv p3, iv p4, iv p5, iv 4, iv (own_dr p2), iv (own_dr p3), iv (own_dr p4), iv (own_dr p5), rv b339, .unset] [(.int (own_dgt (own_dr p4)))]) := fun t k => pre360 t (by
              refine XS.ifNo X358.here hx rfl (hb hby at_72) rfl ((if0 _ _).trans (feq hc359).1) ?_
              refine XS.iload X358.here hx rfl (hb hby at_75) rfl ?_
              refine XS.iconst X358.here hx rfl (hb hby at_77) ?_
              refine XS.icmpNo X358.here hx rfl (hb hby at_78) rfl (flt (by decide : ¬ ((4 : Int32) < (3 : Int32)))).1 ?_
              refine XS.iload X358.here hx rfl (hb hby at_81) rfl ?_
              refine st362 _ ?_
              exact k)
            by_cases hc363 : (own_dgt (own_dr p4)) = (0 : Int32)
            · have pre365 : own_P p e below s₁ (entryFrame m #[(.int p1), (.int p2), (.int p3), (.int p4), (.int p5)] maxLocals) T362 (mkF m 108 #[iv p1, iv p2, iv p3, iv p4, iv p5, iv 4, iv (own_dr p2), iv (own_dr p3), iv (own_dr p4), iv (own_dr p5), rv b339, .unset] [(.int 0)]) := fun t k => pre364 t (by
                refine XS.ifYes X362.here hx rfl (pc0 := 86) (pc' := 107) rfl (hb hby at_86) rfl ((if0 _ _).trans (teq hc363).1) (by decide) (by decide) ?_
                refine XS.iconst X362.here hx rfl (hb hby at_107) ?_
                exact k)
              exact ⟨_, _, (0 : Int32), X362, e362, N362, (Or.inr (Or.inr (Or.inl ⟨hc355, hc359, hc363, rfl⟩))), pre365⟩
            · obtain ⟨_, _, ⟨T366, L366, k366, n366⟩, -, X366, ⟨Lc366, hQ366, l366, y366, z366⟩, st366⟩ := Jvm.LawKit.callS X362 hx (y := own_y6) hown (own_m hZ hw 50) (own_m hZ hw 51) (own_m hZ hw 3) (own_m hZ hw 52) (by decide) (backOf (W := 0) (rmDt l Z a0 hw [] (own_dr p5) T338.heap n0 f350 ) hZ (own_i hw 52 rfl) (own_i hw 3 rfl) (by decide) (by decide)) (g := (mkF m 97 #[iv p1, iv p2, iv p3, iv p4, iv p5, iv 4, iv (own_dr p2), iv (own_dr p3), iv (own_dr p4), iv (own_dr p5), rv b339, .unset] [(.int (own_dr p5))])) rfl (by rw [hml]; rfl) (argsL := [(.int (own_dr p5))]) (rest := []) (lenOf pd_18 rfl) rfl (Nat.le_of_eq rfl) (hb hby at_97) (fun _ _ => ⟨rfl, e362, own_le rfl, own_le rfl⟩)
              dsimp only [Pt.U, Pt.locs, Pt.cells, Pt.slots] at X366 l366 y366 z366 st366 hQ366
              subst l366 y366 z366
              obtain ⟨rfl, N366q, e366⟩ := hQ366
              have N366 := Fr.app N362 N366q
              have pre368 : own_P p e below s₁ (entryFrame m #[(.int p1), (.int p2), (.int p3), (.int p4), (.int p5)] maxLocals) T366 (mkF m 100 #[iv p1, iv p2, iv p3, iv p4, iv p5, iv 4, iv (own_dr p2), iv (own_dr p3), iv (own_dr p4), iv (own_dr p5), rv b339, .unset] [(.int (own_dgt (own_dr p5)))]) := fun t k => pre364 t (by
                refine XS.ifNo X362.here hx rfl (hb hby at_86) rfl ((if0 _ _).trans (feq hc363).1) ?_
                refine XS.iload X362.here hx rfl (hb hby at_89) rfl ?_
                refine XS.iconst X362.here hx rfl (hb hby at_91) ?_
                refine XS.icmpNo X362.here hx rfl (hb hby at_92) rfl (flt (by decide : ¬ ((4 : Int32) < (4 : Int32)))).1 ?_
                refine XS.iload X362.here hx rfl (hb hby at_95) rfl ?_
                refine st366 _ ?_
                exact k)
              by_cases hc367 : (own_dgt (own_dr p5)) = (0 : Int32)
              · have pre369 : own_P p e below s₁ (entryFrame m #[(.int p1), (.int p2), (.int p3), (.int p4), (.int p5)] maxLocals) T366 (mkF m 108 #[iv p1, iv p2, iv p3, iv p4, iv p5, iv 4, iv (own_dr p2), iv (own_dr p3), iv (own_dr p4), iv (own_dr p5), rv b339, .unset] [(.int 0)]) := fun t k => pre368 t (by
                  refine XS.ifYes X366.here hx rfl (pc0 := 100) (pc' := 107) rfl (hb hby at_100) rfl ((if0 _ _).trans (teq hc367).1) (by decide) (by decide) ?_
                  refine XS.iconst X366.here hx rfl (hb hby at_107) ?_
                  exact k)
                exact ⟨_, _, (0 : Int32), X366, e366, N366, (Or.inr (Or.inr (Or.inr (Or.inl ⟨hc355, hc359, hc363, hc367, rfl⟩)))), pre369⟩
              · have pre370 : own_P p e below s₁ (entryFrame m #[(.int p1), (.int p2), (.int p3), (.int p4), (.int p5)] maxLocals) T366 (mkF m 108 #[iv p1, iv p2, iv p3, iv p4, iv p5, iv 4, iv (own_dr p2), iv (own_dr p3), iv (own_dr p4), iv (own_dr p5), rv b339, .unset] [(.int 1)]) := fun t k => pre368 t (by
                  refine XS.ifNo X366.here hx rfl (hb hby at_100) rfl ((if0 _ _).trans (feq hc367).1) ?_
                  refine XS.iconst X366.here hx rfl (hb hby at_103) ?_
                  refine XS.goto X366.here hx rfl (pc0 := 104) (pc' := 108) rfl (hb hby at_104) (by decide) (by decide) ?_
                  exact k)
                exact ⟨_, _, (1 : Int32), X366, e366, N366, (Or.inr (Or.inr (Or.inr (Or.inr (⟨hc355, hc359, hc363, hc367, rfl⟩))))), pre370⟩
      obtain ⟨_, _, ⟨T373, L373, k373, n373⟩, -, X373, ⟨Lc373, hQ373, l373, y373, z373⟩, st373⟩ := Jvm.LawKit.callS X372 hx (y := own_y24) hown (own_m hZ hw 30) (own_m hZ hw 31) (own_m hZ hw 32) (own_m hZ hw 33) (by decide) (backOf (W := 0) (rmIU_4 l Z a0 hw [] b339 cs vF b340 x341 (own_b0 (nar .char (own_dr p2))) (own_b1 (nar .char (own_dr p2))) (own_b0 (nar .char (own_dr p3))) (own_b1 (nar .char (own_dr p3))) (own_b0 (nar .char (own_dr p4))) (own_b1 (nar .char (own_dr p4))) (own_b0 (nar .char (own_dr p5))) (own_b1 (nar .char (own_dr p5))) T338.heap n0 f350 (SC.ext f351.2) hcs (SF.ext f351.2) hF (SA.ext f351.2) (SH.ext f351.2) (SL.ext f351.2) f344 f345 f346 f349) hZ (own_i hw 33 rfl) (own_i hw 32 rfl) (by decide) (by decide)) (g := (mkF m 112 #[iv p1, iv p2, iv p3, iv p4, iv p5, iv 4, iv (own_dr p2), iv (own_dr p3), iv (own_dr p4), iv (own_dr p5), rv b339, iv v371] [(.ref b339)])) rfl (by rw [hml]; rfl) (argsL := [(.ref b339)]) (rest := []) (lenOf pd_19 rfl) rfl (Nat.le_of_eq rfl) (hb hby at_112) (fun _ _ => ⟨rfl, e372, own_le rfl, own_le rfl⟩)
      dsimp only [Pt.U, Pt.locs, Pt.cells, Pt.slots] at X373 l373 y373 z373 st373 hQ373
      subst l373 y373 z373
      obtain ⟨rfl, N373q, e373⟩ := hQ373
      have N373 := Fr.app N372 N373q
      have hd374 : (own_all4 (nar .char (nar .char (own_ut (own_b0 (nar .char (own_dr p2))) (own_b1 (nar .char (own_dr p2)))))) (nar .char (nar .char (own_ut (own_b0 (nar .char (own_dr p3))) (own_b1 (nar .char (own_dr p3)))))) (nar .char (nar .char (own_ut (own_b0 (nar .char (own_dr p4))) (own_b1 (nar .char (own_dr p4)))))) (nar .char (nar .char (own_ut (own_b0 (nar .char (own_dr p5))) (own_b1 (nar .char (own_dr p5))))))) = v371 := by rw [own_eU p2, own_eU p3, own_eU p4, own_eU p5]; exact own_fin4 hP372
      have pre375 : own_P p e below s₁ (entryFrame m #[(.int p1), (.int p2), (.int p3), (.int p4), (.int p5)] maxLocals) T373 (mkF m 125 #[iv p1, iv p2, iv p3, iv p4, iv p5, iv 4, iv (own_dr p2), iv (own_dr p3), iv (own_dr p4), iv (own_dr p5), rv b339, iv v371] [(.int 1)]) := fun t k => pre372 t (by
        show Steps p.tables e below (T372.setTop (mkF m 108 #[iv p1, iv p2, iv p3, iv p4, iv p5, iv 4, iv (own_dr p2), iv (own_dr p3), iv (own_dr p4), iv (own_dr p5), rv b339, .unset] [(.int v371)])) t
        refine XS.istore X372.here hx rfl (hb hby at_108) rfl (l' := #[iv p1, iv p2, iv p3, iv p4, iv p5, iv 4, iv (own_dr p2), iv (own_dr p3), iv (own_dr p4), iv (own_dr p5), rv b339, iv v371]) rfl ?_
        refine XS.aload X372.here hx rfl (hb hby at_110) rfl rfl ?_
        refine st373 _ ?_
        refine XS.iload X373.here hx rfl (hb hby at_115) rfl ?_
        refine XS.icmpNo X373.here hx rfl (hb hby at_117) rfl (teq hd374).2 ?_
        refine XS.iconst X373.here hx rfl (hb hby at_120) ?_
        refine XS.goto X373.here hx rfl (pc0 := 121) (pc' := 125) rfl (hb hby at_121) (by decide) (by decide) ?_
        exact k)
      obtain ⟨fs, hr, hrun, hended, hW, hsame⟩ := X373.leave (v := some (.int 1)) (fun h => by rw [Bd.returns] at h; cases h)
      refine ⟨_, _, pre375 _ ?_, hrun, hended, _, _, rfl, ?_, ReturnedEndW.of_narrow ⟨_, rfl⟩ hW (hsame.mono (by decide) (by decide))⟩
      · exact retN X373 hx (t := .boolean) Bd.returns (by simp) (hb hby at_125) hr
      · show Q0 Z p1 p2 p3 p4 p5 cs vF h0 n0 _ T373.heap _
        rw [e373]
        exact ⟨rfl, N373⟩
  · have pre376 : own_P p e below s₁ (entryFrame m #[(.int p1), (.int p2), (.int p3), (.int p4), (.int p5)] maxLocals) T105 (mkF m 33 #[iv p1, iv p2, iv p3, iv p4, iv p5, iv 0, iv (own_dr p2), iv (own_dr p3), iv (own_dr p4), iv (own_dr p5), .unset, .unset] []) := fun t k => pre106 t (by rw [show ((p1 &&& (2147483647 : Int32)) % (5 : Int32)) = (0 : Int32) from hs107]; exact k)
    obtain ⟨_, _, ⟨T377, L377, k377, n377⟩, -, Xw377, hSi377, hgr377, ⟨Lc377, hQ377, l377, y377, z377⟩, st377⟩ := callSS X105 hx (y := own_y23) hown (own_m hZ hw 5) (own_m hZ hw 6) (own_m hZ hw 3) (own_m hZ hw 7) (by decide) (own_backCH (s := s) (vm0 := s.vm) (xs := []) (W := 0) (rmM_0 l Z a0 hw [] (own_dr p2) (own_dr p3) (own_dr p4) (own_dr p5) h0 n0 Z0 ) hZ (own_i hw 7 rfl) (own_i hw 3 rfl) (by decide) (by decide) (own_EW hw) hCH0 (fun _ q => nomatch q)) (g := (mkF m 43 #[iv p1, iv p2, iv p3, iv p4, iv p5, iv 0, iv (own_dr p2), iv (own_dr p3), iv (own_dr p4), iv (own_dr p5), .unset, .unset] [(.int (own_dr p5)), (.int (own_dr p4)), (.int (own_dr p3)), (.int (own_dr p2)), (.int 0)])) rfl (by rw [hml]; rfl) (argsL := [(.int 0), (.int (own_dr p2)), (.int (own_dr p3)), (.int (own_dr p4)), (.int (own_dr p5))]) (rest := []) (lenOf pd_17 rfl) rfl (Nat.le_of_eq rfl) (hb hby at_43) (fun _ _ => ⟨rfl, e105, own_le rfl, own_le rfl⟩)
    dsimp only [Pt.U, Pt.locs, Pt.cells, Pt.slots] at Xw377 hSi377 hgr377 l377 y377 z377 st377 hQ377
    subst l377 y377 z377
    have hS377 : s.Since T377.vm T377.heap.size := foldS (s := s) (vm0 := s.vm) (T := T105) hS0 (Nat.zero_le _) hSi377 hgr377
    have hZ377 : Z.Warmed39 (s.setVm T377.vm).vm := State.Warmed39.trans (hZ) hS377.1
    have ho377 : (s.setVm T377.vm).vm.findClass "com/example/millipede/millipede/DecimalNumbersIsNumberPinLaw" = some m.cls := by show T377.vm.findClass _ = _; rw [hS377.1.alike.findClass]; exact hown
    have X377 : Stand p l e room_1 (s.setVm T377.vm) m #[(.int p1), (.int p2), (.int p3), (.int p4), (.int p5)] below meth c T377 _ _ _ := Xw377
    obtain ⟨b378, b379, x380, rfl, N377q, K377, f381, f382, f383, f384, f385⟩ := hQ377
    have N377 := Fr.app N105 N377q
    have f386 := Nat.le_trans Z0 K377.1
    have f387 := O0.keep K377 all0
    have f388 := f101.trans K377 all0
    obtain ⟨_, _, ⟨T389, L389, k389, n389⟩, -, X389, ⟨Lc389, hQ389, l389, y389, z389⟩, st389⟩ := Jvm.LawKit.callS X377 hx (y := own_y24) ho377 (mvT hZ377 (own_i hw 30 rfl)) (mvT hZ377 (own_i hw 31 rfl)) (mvT hZ377 (own_i hw 32 rfl)) (mvT hZ377 (own_i hw 33 rfl)) (by decide) (backOf (W := 0) (rmIs_0 l Z a0 hw [] b378 b379 x380 T377.heap n0 f386 f383 f384 f385) hZ377 (own_i hw 33 rfl) (own_i hw 32 rfl) (by decide) (by decide)) (g := (mkF m 112 #[iv p1, iv p2, iv p3, iv p4, iv p5, iv 0, iv (own_dr p2), iv (own_dr p3), iv (own_dr p4), iv (own_dr p5), rv b378, iv 0] [(.ref b378)])) rfl (by rw [hml]; rfl) (argsL := [(.ref b378)]) (rest := []) (lenOf pd_19 rfl) rfl (Nat.le_of_eq rfl) (hb hby at_112) (fun _ _ => ⟨rfl, rfl, own_le rfl, own_le rfl⟩)
    dsimp only [Pt.U, Pt.locs, Pt.cells, Pt.slots] at X389 l389 y389 z389 st389 hQ389
    subst l389 y389 z389
    obtain ⟨rfl, N389q, e389⟩ := hQ389
    have N389 := Fr.app N377 N389q
    have pre390 : own_P p e below s₁ (entryFrame m #[(.int p1), (.int p2), (.int p3), (.int p4), (.int p5)] maxLocals) T389 (mkF m 125 #[iv p1, iv p2, iv p3, iv p4, iv p5, iv 0, iv (own_dr p2), iv (own_dr p3), iv (own_dr p4), iv (own_dr p5), rv b378, iv 0] [(.int 1)]) := fun t k => pre376 t (by
      show Steps p.tables e below (T105.setTop (mkF m 33 #[iv p1, iv p2, iv p3, iv p4, iv p5, iv 0, iv (own_dr p2), iv (own_dr p3), iv (own_dr p4), iv (own_dr p5), .unset, .unset] [])) t
      refine XS.iload X105.here hx rfl (hb hby at_33) rfl ?_
      refine XS.iload X105.here hx rfl (hb hby at_35) rfl ?_
      refine XS.iload X105.here hx rfl (hb hby at_37) rfl ?_
      refine XS.iload X105.here hx rfl (hb hby at_39) rfl ?_
      refine XS.iload X105.here hx rfl (hb hby at_41) rfl ?_
      refine st377.trans ?_
      refine XS.astore X377.here hx rfl (hb hby at_46) rfl rfl (l' := #[iv p1, iv p2, iv p3, iv p4, iv p5, iv 0, iv (own_dr p2), iv (own_dr p3), iv (own_dr p4), iv (own_dr p5), rv b378, .unset]) rfl ?_
      refine XS.iload X377.here hx rfl (hb hby at_48) rfl ?_
      refine XS.ifYes X377.here hx rfl (pc0 := 50) (pc' := 107) rfl (hb hby at_50) rfl ((if0 _ _).trans (flt (by decide : ¬ ((0 : Int32) < (0 : Int32)))).2.2.2) (by decide) (by decide) ?_
      refine XS.iconst X377.here hx rfl (hb hby at_107) ?_
      refine XS.istore X377.here hx rfl (hb hby at_108) rfl (l' := #[iv p1, iv p2, iv p3, iv p4, iv p5, iv 0, iv (own_dr p2), iv (own_dr p3), iv (own_dr p4), iv (own_dr p5), rv b378, iv 0]) rfl ?_
      refine XS.aload X377.here hx rfl (hb hby at_110) rfl rfl ?_
      refine st389 _ ?_
      refine XS.iload X389.here hx rfl (hb hby at_115) rfl ?_
      refine XS.icmpNo X389.here hx rfl (hb hby at_117) rfl (teq (by decide : (0 : Int32) = (0 : Int32))).2 ?_
      refine XS.iconst X389.here hx rfl (hb hby at_120) ?_
      refine XS.goto X389.here hx rfl (pc0 := 121) (pc' := 125) rfl (hb hby at_121) (by decide) (by decide) ?_
      exact k)
    obtain ⟨fs, hr, hrun, hended, hRW⟩ := X389.leaveW hS377 (by rw [e389]; exact (Nat.le_refl _)) (v := some (.int 1)) (fun h => by rw [Bd.returns] at h; cases h)
    refine ⟨_, _, pre390 _ ?_, hrun, hended, _, _, rfl, ?_, hRW.1, hRW.2.1, hRW.2.2.1, hRW.2.2.2.mono (by decide) (by decide)⟩
    · exact retN X389 hx (t := .boolean) Bd.returns (by simp) (hb hby at_125) hr
    · show Q0 Z p1 p2 p3 p4 p5 cs vF h0 n0 _ T389.heap _
      rw [e389]
      exact ⟨rfl, N389⟩
theorem own_eqi {args : Array Value} {s : State} {t : Jvm.Term} {k : Int32} (h : (Jvm.Cond.eq t (Jvm.Term.int k)).value args s none s [] = some true) : t.eval args s none [] s = some (.int k) := by
  obtain ⟨x, y, ex, ey, -, ky⟩ := cmp_v (Or.inl h)
  have ey' : some (Value.int k) = some y := ey
  cases ey'
  obtain ⟨z, rfl⟩ := ky
  have hz : z = k := gotT (Cond.eq_ints ex (Term.int_eval k)) h
  subst hz
  exact ex
theorem comes_1 {Post : Tables → Env → Array Value → State → Outcome → State → Prop} (hpost : ∀ tb e args s v u, (limb_1_1.after args s (.returned v) u = true ∧ limb_1_2.after args s (.returned v) u = true ∧ True) → ReturnedEndW s (.returned v) u (Jvm.fieldLocs frame_1_writes args s ++ Jvm.arrayLocs frame_1_arrays args s ++ Jvm.staticLocs frame_1_statics s) 24 1152 → Post tb e args s (.returned v) u) :
    ArmFor flags0 classFile x code maxLocals ret World_1 tables_1 room_1 Calls_1 rest_1 Pre_1 Post := by
  intro l hfl _ _ p e ha hc hk s m args below hf hA hF happ hP
  obtain ⟨hcalls, hrest, hpre⟩ := hP
  obtain ⟨-, -, -, hnamed, -, -, -, hat⟩ := (Spec.applies_iff hf).mp happ
  obtain ⟨hg, hn⟩ := and_e (Cond.before_iff.mp (show (Jvm.Cond.and given_1 narrow_1).before args s = true from hpre))
  obtain ⟨hga, hgb⟩ := and_e hg
  obtain ⟨hgba, hgbb⟩ := and_e hgb
  obtain ⟨hgbba, hgbbb⟩ := and_e hgbb
  obtain ⟨hgbbba, hgbbbb⟩ := and_e hgbbb
  obtain ⟨hgbbbba, hgbbbbb⟩ := and_e hgbbbb
  obtain ⟨w0, w1, w2, w3, w4, rfl⟩ : ∃ w0 w1 w2 w3 w4 : Value, args = #[w0, w1, w2, w3, w4] := by
    have hs : args.size = 5 := by simpa [Cond.value, given_1] using hga
    obtain ⟨L⟩ := args
    match L, hs with
    | [w0, w1, w2, w3, w4], _ => exact ⟨w0, w1, w2, w3, w4, rfl⟩
  have hw := fun d (hd : d ∈ tables_1) => atoms_spec (ws := Jvm.Cond.code x code maxLocals ret :: tables_1) hat d (List.mem_cons_of_mem _ hd)
  obtain ⟨hsets, hown0⟩ := atoms_of _ (rest_1_c_eq ▸ (show rest_1_c.before _ s = true from hrest))
  have hr0 := Cond.before_iff.mp hown0
  have hfit : Fit s := fun {y c} hc i hi => by
    obtain ⟨ha, rfl⟩ := Array.getElem?_eq_some_iff.mp hc
    have q := List.all_eq_true.mp ((Array.all_eq_true_iff_forall_mem.mp hF) _ (Array.getElem_mem ha)) i (List.mem_range.mpr hi)
    simpa [Array.getElem?_eq_getElem hi] using q
  obtain ⟨i0, ev0⟩ := is_v hgba
  obtain rfl : w0 = (.int i0) := Option.some.inj ev0
  obtain ⟨i1, ev1⟩ := is_v hgbba
  obtain rfl : w1 = (.int i1) := Option.some.inj ev1
  obtain ⟨i2, ev2⟩ := is_v hgbbba
  obtain rfl : w2 = (.int i2) := Option.some.inj ev2
  obtain ⟨i3, ev3⟩ := is_v hgbbbba
  obtain rfl : w3 = (.int i3) := Option.some.inj ev3
  obtain ⟨i4, ev4⟩ := is_v hgbbbbb
  obtain rfl : w4 = (.int i4) := Option.some.inj ev4
  obtain ⟨cs, e10⟩ := is_v (Cond.before_iff.mp (hsets _ (List.mem_of_getElem? (i := 1) rfl)))
  have SC : Sta s s.heap "java/lang/String" "COMPACT_STRINGS" "Z" (.int cs) := Sta.start e10 (Or.inl (hsets _ (List.mem_of_getElem? (i := 0) rfl)))
  have n5 := not_v (Cond.before_iff.mp (hsets _ (List.mem_of_getElem? (i := 2) rfl)))
  have hcs : ¬ (cs = (0 : Int32)) := gotF (Cond.eq_ints e10 (Term.int_eval (0))) n5
  obtain ⟨vF, eF, hF⟩ := isR_v (Cond.before_iff.mp (hsets _ (List.mem_of_getElem? (i := 8) rfl)))
  have SF : Sta s s.heap "jdk/internal/util/Preconditions" "SIOOBE_FORMATTER" "Ljava/util/function/BiFunction;" vF := Sta.start eF (Or.inl (hsets _ (List.mem_of_getElem? (i := 7) rfl)))
  have SA : Sta s s.heap "java/lang/StringUTF16" "$assertionsDisabled" "Z" (.int 1) := Sta.start (own_eqi (Cond.before_iff.mp (hsets _ (List.mem_of_getElem? (i := 12) rfl)))) (Or.inl (hsets _ (List.mem_of_getElem? (i := 11) rfl)))
  have SH : Sta s s.heap "java/lang/StringUTF16" "HI_BYTE_SHIFT" "I" (.int 0) := Sta.start (own_eqi (Cond.before_iff.mp (hsets _ (List.mem_of_getElem? (i := 15) rfl)))) (Or.inl (hsets _ (List.mem_of_getElem? (i := 14) rfl)))
  have SL : Sta s s.heap "java/lang/StringUTF16" "LO_BYTE_SHIFT" "I" (.int 8) := Sta.start (own_eqi (Cond.before_iff.mp (hsets _ (List.mem_of_getElem? (i := 18) rfl)))) (Or.inl (hsets _ (List.mem_of_getElem? (i := 17) rfl)))
  have hCH : CHv s own_EL s.vm s.heap := CHv.start (own_EW hw) (fun p hp => by obtain rfl := List.mem_singleton.mp hp; exact hcalls.1 _ (List.mem_singleton.mpr rfl)) (hsets _ (List.mem_of_getElem? (i := 2) rfl)) (own_i hw 23 rfl) (own_i hw 9 rfl)
  obtain ⟨n, o, h1, h2, h3, _, L, rfl, ⟨rfl, N⟩, hq⟩ := rm0 l s _ hw tables_1 i0 i1 i2 i3 i4 cs vF s.heap s.heap.size (Nat.le_refl _) SC hcs SA SH SL SF hF (Old.start s) hCH p e ha hc hk s m _ below hf ((Spec.applies_iff_loose hf).mp happ).1 ⟨rfl, State.Warmed39.refl s, rfl, rfl⟩ trivial
  refine ⟨n, _, h1, h2, h3, hpost _ _ _ _ _ _ ⟨Cond.after_iff.mpr rfl, Cond.after_iff.mpr (eq_i res_at (Term.int_eval (1)) rfl), trivial⟩ ⟨hq.1, hq.2.1, hq.2.2.1, (hq.2.2.2.sift fun y hy => Or.inr (N y hy)).mono (by decide) (by decide)⟩⟩
theorem main_1_1 : Claimed_1_1 := comes_1 fun _ _ _ _ _ _ h hF => ⟨h.1, hF⟩
theorem main_1_2 : Claimed_1_2 := comes_1 fun _ _ _ _ _ _ h hF => ⟨h.2.1, hF⟩
end Jvm.Pilot.@@N@@
namespace Jvm.Pilot.@@N@@
open Jvm Jvm.ClassFile Sem Op Lib Jvm.Free Jvm.Stand Jvm.Pilot.@@N@@.Jvm.D
/-! MADE BY PROGRAM (witnessworld.py) out of the Statement's table words and the real class files: 20 classes; the members and pool entries that the words name. The judged class is class 1, her method 4. -/
namespace start1
open Jvm.ClassFile
def u (s : String) : CpInfo := .utf8 (stringToUtf16 s)
/-- a pool by its gaps: so many unusable entries, then the entry; so many at the end -/
def gap : Nat → List CpInfo → List CpInfo
  | 0, r => r
  | n + 1, r => .unusable :: gap n r
def poolList (es : List (Nat × CpInfo)) (last : Nat) : List CpInfo := es.foldr (fun e r => gap e.1 (e.2 :: r)) (gap last [])
def pool (es : List (Nat × CpInfo)) (last : Nat) : Array CpInfo := ⟨poolList es last⟩
def fileOf (pool : Array CpInfo) (this : Nat) (attrs : Array Attribute := #[]) (ms : Array MethodInfo := #[]) (fl : Nat := 33) (sup : Nat := 0) (ifs : Array Nat := #[]) (fds : Array FieldInfo := #[]) : ClassFile where
  minorVersion := 0
  majorVersion := 65
  constantPool := pool
  accessFlags := fl
  thisClass := this
  superClass := sup
  interfaces := ifs
  fields := fds
  methods := ms
  attributes := attrs
def plain (name : String) (sup : Option ClassId) : Class where
  name := name
  kind := .ordinary
  loader := none
  accessFlags := 33
  super := sup
  interfaces := #[]
  cf := none
  fields := #[]
  methods := #[]
  instanceTypes := #[]
  staticTypes := #[]
  resolved := #[]
  callSites := []
  init := .initialized
  statics := none
  mirror := none

def pool0 : Array CpInfo := pool [(5, u "<init>"), (0, u "()V"), (1, .class_ 10), (1, u "java/lang/Object")] 113

def k0c0 : Code := { maxStack := 0, maxLocals := 1, code := object_method_1_code, exceptionTable := #[], attributes := #[] }
def k0m0 : Method := { name := "<init>", desc := "()V", sig := { parameters := [], returnType := none }, accessFlags := 1, code := some k0c0 }
/-- java/lang/Object -/
def k0 : Class := { plain "java/lang/Object" none with
  accessFlags := 33
  interfaces := #[]
  cf := some (fileOf pool0 8 #[] #[{ accessFlags := 1, nameIndex := 5, descriptorIndex := 6, attributes := #[] }] 33 0 #[] #[])
  fields := #[]
  methods := #[k0m0]
  instanceTypes := #[]
  staticTypes := #[]
  resolved := Array.replicate 124 none
  statics := none }

def pool1 : Array CpInfo := pool [(2, .class_ 4), (1, u "java/lang/Object"), (0, u "<init>"), (0, u "()V"), (0, .integer 65535), (0, .class_ 9), (0, u "java/lang/String"), (0, .methodref 8 11), (0, .nameAndType 5 12), (0, u "([C)V"), (0, .integer 2147483647), (0, .methodref 15 16), (0, .class_ 17), (0, .nameAndType 18 19), (0, u "com/example/millipede/millipede/DecimalNumbersIsNumberPinLaw"), (0, u "draw"), (0, u "(I)C"), (0, .methodref 15 21), (0, .nameAndType 22 23), (0, u "make"), (0, u "(ICCCC)Ljava/lang/String;"), (0, .methodref 15 25), (0, .nameAndType 26 27), (0, u "digit"), (0, u "(C)Z"), (0, .methodref 29 30), (0, .class_ 31), (0, .nameAndType 32 33), (0, u "com/example/millipede/millipede/DecimalNumbers"), (0, u "isNumber"), (0, u "(Ljava/lang/String;)Z"), (3, u "law"), (0, u "(IIIII)Z")] 2

def k1m0 : Method := { name := "<init>", desc := "()V", sig := { parameters := [], returnType := none }, accessFlags := 2, code := none }
def k1c1 : Code := { maxStack := 3, maxLocals := 1, code := method_2_code, exceptionTable := #[], attributes := #[] }
def k1m1 : Method := { name := "draw", desc := "(I)C", sig := { parameters := [.int], returnType := some .char }, accessFlags := 10, code := some k1c1 }
def k1c2 : Code := { maxStack := 2, maxLocals := 2, code := method_3_code, exceptionTable := #[], attributes := #[] }
def k1m2 : Method := { name := "digit", desc := "(C)Z", sig := { parameters := [.char], returnType := some .boolean }, accessFlags := 10, code := some k1c2 }
def k1c3 : Code := { maxStack := 6, maxLocals := 5, code := method_4_code, exceptionTable := #[], attributes := #[] }
def k1m3 : Method := { name := "make", desc := "(ICCCC)Ljava/lang/String;", sig := { parameters := [.int, .char, .char, .char, .char], returnType := some (.object "java/lang/String") }, accessFlags := 10, code := some k1c3 }
def k1c4 : Code := { maxStack := 5, maxLocals := 12, code := code, exceptionTable := #[], attributes := #[] }
def k1m4 : Method := { name := "law", desc := "(IIIII)Z", sig := { parameters := [.int, .int, .int, .int, .int], returnType := some .boolean }, accessFlags := 9, code := some k1c4 }
/-- com/example/millipede/millipede/DecimalNumbersIsNumberPinLaw -/
def k1 : Class := { plain "com/example/millipede/millipede/DecimalNumbersIsNumberPinLaw" (some 0) with
  accessFlags := 49
  interfaces := #[]
  cf := some (fileOf pool1 15 #[] #[{ accessFlags := 2, nameIndex := 5, descriptorIndex := 6, attributes := #[] }, { accessFlags := 10, nameIndex := 18, descriptorIndex := 19, attributes := #[] }, { accessFlags := 10, nameIndex := 26, descriptorIndex := 27, attributes := #[] }, { accessFlags := 10, nameIndex := 22, descriptorIndex := 23, attributes := #[] }, { accessFlags := 9, nameIndex := 37, descriptorIndex := 38, attributes := #[] }] 49 2 #[] #[])
  fields := #[]
  methods := #[k1m0, k1m1, k1m2, k1m3, k1m4]
  instanceTypes := #[]
  staticTypes := #[]
  resolved := Array.replicate 41 none
  statics := none }

def pool2 : Array CpInfo := pool [(1, .class_ 2), (0, u "java/io/Serializable"), (0, .class_ 4), (0, u "java/lang/Object")] 2

/-- java/io/Serializable -/
def k2 : Class := { plain "java/io/Serializable" (some 0) with
  accessFlags := 1537
  interfaces := #[]
  cf := some (fileOf pool2 1 #[] #[] 1537 3 #[] #[])
  fields := #[]
  methods := #[]
  instanceTypes := #[]
  staticTypes := #[]
  resolved := Array.replicate 7 none
  statics := none }

def pool3 : Array CpInfo := pool [(1, .class_ 2), (0, u "java/lang/Comparable"), (0, .class_ 4), (0, u "java/lang/Object")] 7

/-- java/lang/Comparable -/
def k3 : Class := { plain "java/lang/Comparable" (some 0) with
  accessFlags := 1537
  interfaces := #[]
  cf := some (fileOf pool3 1 #[] #[] 1537 3 #[] #[])
  fields := #[]
  methods := #[]
  instanceTypes := #[]
  staticTypes := #[]
  resolved := Array.replicate 12 none
  statics := none }

def pool4 : Array CpInfo := pool [(2, .class_ 4), (1, u "java/lang/CharSequence"), (42, .class_ 48), (0, u "java/lang/CharSequence$1CodePointIterator"), (10, .class_ 60), (0, u "java/lang/CharSequence$1CharIterator"), (5, .class_ 67), (0, u "java/lang/Object")] 63

/-- java/lang/CharSequence -/
def k4 : Class := { plain "java/lang/CharSequence" (some 0) with
  accessFlags := 1537
  interfaces := #[]
  cf := some (fileOf pool4 2 #[.nestMembers #[47, 59]] #[] 1537 66 #[] #[])
  fields := #[]
  methods := #[]
  instanceTypes := #[]
  staticTypes := #[]
  resolved := Array.replicate 131 none
  statics := none }

def pool5 : Array CpInfo := pool [(1, .class_ 2), (0, u "java/lang/constant/Constable"), (0, .class_ 4), (0, u "java/lang/Object")] 6

/-- java/lang/constant/Constable -/
def k5 : Class := { plain "java/lang/constant/Constable" (some 0) with
  accessFlags := 1537
  interfaces := #[]
  cf := some (fileOf pool5 1 #[] #[] 1537 3 #[] #[])
  fields := #[]
  methods := #[]
  instanceTypes := #[]
  staticTypes := #[]
  resolved := Array.replicate 11 none
  statics := none }

def pool6 : Array CpInfo := pool [(1, .class_ 2), (0, u "java/lang/constant/ConstantDesc"), (0, .class_ 4), (0, u "java/lang/Object")] 32

/-- java/lang/constant/ConstantDesc -/
def k6 : Class := { plain "java/lang/constant/ConstantDesc" (some 0) with
  accessFlags := 1537
  interfaces := #[]
  cf := some (fileOf pool6 1 #[] #[] 1537 3 #[] #[])
  fields := #[]
  methods := #[]
  instanceTypes := #[]
  staticTypes := #[]
  resolved := Array.replicate 37 none
  statics := none }

def pool7 : Array CpInfo := pool [(1, .methodref 2 3), (0, .class_ 4), (0, .nameAndType 5 6), (0, u "java/lang/Object"), (0, u "<init>"), (0, u "()V"), (0, .string 8), (0, u ""), (0, .fieldref 10 11), (0, .class_ 12), (0, .nameAndType 13 14), (0, u "java/lang/String"), (0, u "value"), (0, u "[B"), (0, .fieldref 10 16), (0, .nameAndType 17 18), (0, u "coder"), (0, u "B"), (2, u "hash"), (0, u "I"), (2, u "hashIsZero"), (0, u "Z"), (0, .methodref 10 28), (0, .nameAndType 5 29), (0, u "([CIILjava/lang/Void;)V"), (8, .fieldref 10 39), (0, .nameAndType 40 26), (0, u "COMPACT_STRINGS"), (1, .class_ 44), (1, u "java/lang/StringUTF16"), (0, u "compress"), (1, .methodref 42 48), (0, .nameAndType 49 50), (0, u "coderFromArrayLen"), (0, u "([BI)B"), (56, .class_ 109), (1, u "java/lang/StringLatin1"), (32, u "()Z"), (34, .methodref 42 178), (0, .nameAndType 45 179), (0, u "([CII)[B"), (154, u "()I"), (0, .methodref 10 336), (0, .nameAndType 17 337), (0, u "()B"), (25, u "([BI)C"), (27, u "(II)V"), (35, u "(I)C"), (64, .methodref 10 493), (0, .nameAndType 494 142), (0, u "isLatin1"), (0, .methodref 107 496), (0, .nameAndType 497 363), (0, u "charAt"), (0, .methodref 42 496), (2, u "checkIndex"), (5, u "length"), (67, .class_ 576), (0, u "java/lang/CharSequence"), (22, u "CASE_INSENSITIVE_ORDER"), (0, u "Ljava/util/Comparator;"), (91, u "isEmpty"), (317, u "([C)V"), (42, .fieldref 1054 1055), (0, .class_ 1056), (0, .nameAndType 1057 1058), (0, u "jdk/internal/util/Preconditions"), (0, u "SIOOBE_FORMATTER"), (0, u "Ljava/util/function/BiFunction;"), (0, .methodref 1054 1060), (0, .nameAndType 501 1061), (0, u "(IILjava/util/function/BiFunction;)I"), (39, u "serialPersistentFields"), (0, u "[Ljava/io/ObjectStreamField;"), (0, .class_ 1104), (0, u "java/lang/String$CaseInsensitiveComparator"), (1, .class_ 1107), (0, u "java/io/Serializable"), (0, .class_ 1109), (0, u "java/lang/Comparable"), (0, .class_ 1111), (0, u "java/lang/constant/Constable"), (0, .class_ 1113), (0, u "java/lang/constant/ConstantDesc"), (2, u "serialVersionUID"), (0, u "J"), (3, u "REPL"), (0, u "C"), (2, u "LATIN1"), (1, u "UTF16")] 323

def k7m0 : Method := { name := "<init>", desc := "()V", sig := { parameters := [], returnType := none }, accessFlags := 1, code := none }
def k7c1 : Code := { maxStack := 5, maxLocals := 2, code := jdk_42_method_3_code, exceptionTable := #[], attributes := #[] }
def k7m1 : Method := { name := "<init>", desc := "([C)V", sig := { parameters := [(.array .char)], returnType := none }, accessFlags := 1, code := some k7c1 }
def k7c2 : Code := { maxStack := 2, maxLocals := 1, code := jdk_42_method_54_code, exceptionTable := #[], attributes := #[] }
def k7m2 : Method := { name := "length", desc := "()I", sig := { parameters := [], returnType := some .int }, accessFlags := 1, code := some k7c2 }
def k7c3 : Code := { maxStack := 1, maxLocals := 1, code := jdk_42_method_55_code, exceptionTable := #[], attributes := #[] }
def k7m3 : Method := { name := "isEmpty", desc := "()Z", sig := { parameters := [], returnType := some .boolean }, accessFlags := 1, code := some k7c3 }
def k7c4 : Code := { maxStack := 2, maxLocals := 2, code := jdk_42_method_56_code, exceptionTable := #[], attributes := #[] }
def k7m4 : Method := { name := "charAt", desc := "(I)C", sig := { parameters := [.int], returnType := some .char }, accessFlags := 1, code := some k7c4 }
def k7c5 : Code := { maxStack := 4, maxLocals := 6, code := jdk_42_method_149_code, exceptionTable := #[], attributes := #[] }
def k7m5 : Method := { name := "<init>", desc := "([CIILjava/lang/Void;)V", sig := { parameters := [(.array .char), .int, .int, (.object "java/lang/Void")], returnType := none }, accessFlags := 2, code := some k7c5 }
def k7c6 : Code := { maxStack := 1, maxLocals := 1, code := jdk_42_method_152_code, exceptionTable := #[], attributes := #[] }
def k7m6 : Method := { name := "coder", desc := "()B", sig := { parameters := [], returnType := some .byte }, accessFlags := 0, code := some k7c6 }
def k7c7 : Code := { maxStack := 1, maxLocals := 1, code := jdk_42_method_154_code, exceptionTable := #[], attributes := #[] }
def k7m7 : Method := { name := "isLatin1", desc := "()Z", sig := { parameters := [], returnType := some .boolean }, accessFlags := 0, code := some k7c7 }
def k7c8 : Code := { maxStack := 3, maxLocals := 2, code := jdk_42_method_155_code, exceptionTable := #[], attributes := #[] }
def k7m8 : Method := { name := "checkIndex", desc := "(II)V", sig := { parameters := [.int, .int], returnType := none }, accessFlags := 8, code := some k7c8 }
/-- java/lang/String -/
def k7 : Class := { plain "java/lang/String" (some 0) with
  accessFlags := 49
  interfaces := #[2, 3, 4, 5, 6]
  cf := some (fileOf pool7 10 #[.nestMembers #[1103]] #[{ accessFlags := 1, nameIndex := 5, descriptorIndex := 6, attributes := #[] }, { accessFlags := 1, nameIndex := 5, descriptorIndex := 1010, attributes := #[] }, { accessFlags := 1, nameIndex := 507, descriptorIndex := 334, attributes := #[] }, { accessFlags := 1, nameIndex := 692, descriptorIndex := 142, attributes := #[] }, { accessFlags := 1, nameIndex := 497, descriptorIndex := 427, attributes := #[] }, { accessFlags := 2, nameIndex := 5, descriptorIndex := 29, attributes := #[] }, { accessFlags := 0, nameIndex := 17, descriptorIndex := 337, attributes := #[] }, { accessFlags := 0, nameIndex := 494, descriptorIndex := 142, attributes := #[] }, { accessFlags := 8, nameIndex := 501, descriptorIndex := 391, attributes := #[] }] 49 2 #[1106, 1108, 575, 1110, 1112] #[{ accessFlags := 18, nameIndex := 13, descriptorIndex := 14, attributes := #[] }, { accessFlags := 18, nameIndex := 17, descriptorIndex := 18, attributes := #[] }, { accessFlags := 2, nameIndex := 21, descriptorIndex := 22, attributes := #[] }, { accessFlags := 2, nameIndex := 25, descriptorIndex := 26, attributes := #[] }, { accessFlags := 26, nameIndex := 1116, descriptorIndex := 1117, attributes := #[] }, { accessFlags := 24, nameIndex := 40, descriptorIndex := 26, attributes := #[] }, { accessFlags := 26, nameIndex := 1101, descriptorIndex := 1102, attributes := #[] }, { accessFlags := 26, nameIndex := 1121, descriptorIndex := 1122, attributes := #[] }, { accessFlags := 25, nameIndex := 599, descriptorIndex := 600, attributes := #[] }, { accessFlags := 24, nameIndex := 1125, descriptorIndex := 18, attributes := #[] }, { accessFlags := 24, nameIndex := 1127, descriptorIndex := 18, attributes := #[] }])
  fields := #[{ name := "value", type := (.array .byte), accessFlags := 18, slot := 0, constantValue := 0 }, { name := "coder", type := .byte, accessFlags := 18, slot := 1, constantValue := 0 }, { name := "hash", type := .int, accessFlags := 2, slot := 2, constantValue := 0 }, { name := "hashIsZero", type := .boolean, accessFlags := 2, slot := 3, constantValue := 0 }, { name := "serialVersionUID", type := .long, accessFlags := 26, slot := 0, constantValue := 0 }, { name := "COMPACT_STRINGS", type := .boolean, accessFlags := 24, slot := 1, constantValue := 0 }, { name := "serialPersistentFields", type := (.array (.object "java/io/ObjectStreamField")), accessFlags := 26, slot := 2, constantValue := 0 }, { name := "REPL", type := .char, accessFlags := 26, slot := 3, constantValue := 0 }, { name := "CASE_INSENSITIVE_ORDER", type := (.object "java/util/Comparator"), accessFlags := 25, slot := 4, constantValue := 0 }, { name := "LATIN1", type := .byte, accessFlags := 24, slot := 5, constantValue := 0 }, { name := "UTF16", type := .byte, accessFlags := 24, slot := 6, constantValue := 0 }]
  methods := #[k7m0, k7m1, k7m2, k7m3, k7m4, k7m5, k7m6, k7m7, k7m8]
  instanceTypes := #[(.array .byte), .byte, .int, .boolean]
  staticTypes := #[.long, .boolean, (.array (.object "java/io/ObjectStreamField")), .char, (.object "java/util/Comparator"), .byte, .byte]
  resolved := Array.replicate 1451 none
  statics := some 0 }

def pool8 : Array CpInfo := pool [(2, .class_ 4), (1, u "java/lang/Object"), (0, u "<init>"), (0, u "()V"), (0, .methodref 8 9), (0, .class_ 10), (0, .nameAndType 11 12), (0, u "java/lang/String"), (0, u "isEmpty"), (0, u "()Z"), (0, .methodref 8 14), (0, .nameAndType 15 16), (0, u "length"), (0, u "()I"), (0, .methodref 8 18), (0, .nameAndType 19 20), (0, u "charAt"), (0, u "(I)C"), (5, .class_ 28), (1, u "com/example/millipede/millipede/DecimalNumbers"), (18, u "LONG_MAX_DIGITS"), (0, u "Ljava/lang/String;"), (17, u "isNumber"), (0, u "(Ljava/lang/String;)Z")] 5

def k8m0 : Method := { name := "<init>", desc := "()V", sig := { parameters := [], returnType := none }, accessFlags := 2, code := none }
def k8c1 : Code := { maxStack := 2, maxLocals := 3, code := prog_20_method_2_code, exceptionTable := #[], attributes := #[] }
def k8m1 : Method := { name := "isNumber", desc := "(Ljava/lang/String;)Z", sig := { parameters := [(.object "java/lang/String")], returnType := some .boolean }, accessFlags := 8, code := some k8c1 }
/-- com/example/millipede/millipede/DecimalNumbers -/
def k8 : Class := { plain "com/example/millipede/millipede/DecimalNumbers" (some 0) with
  accessFlags := 48
  interfaces := #[]
  cf := some (fileOf pool8 26 #[] #[{ accessFlags := 2, nameIndex := 5, descriptorIndex := 6, attributes := #[] }, { accessFlags := 8, nameIndex := 66, descriptorIndex := 67, attributes := #[] }] 48 2 #[] #[{ accessFlags := 26, nameIndex := 47, descriptorIndex := 48, attributes := #[] }])
  fields := #[{ name := "LONG_MAX_DIGITS", type := (.object "java/lang/String"), accessFlags := 26, slot := 0, constantValue := 0 }]
  methods := #[k8m0, k8m1]
  instanceTypes := #[]
  staticTypes := #[(.object "java/lang/String")]
  resolved := Array.replicate 73 none
  statics := none }

def pool9 : Array CpInfo := pool [(3, .class_ 4), (0, u "java/lang/String"), (1, .class_ 8), (1, u "java/lang/Object"), (0, u "<init>"), (0, u "()V"), (0, .methodref 12 13), (0, .class_ 14), (0, .nameAndType 15 16), (0, u "java/lang/StringUTF16"), (0, u "newBytesLength"), (0, u "(I)I"), (3, .integer 1073741823), (23, .fieldref 12 45), (0, .nameAndType 46 47), (0, u "$assertionsDisabled"), (0, u "Z"), (0, .methodref 12 49), (0, .nameAndType 50 51), (0, u "length"), (0, u "([B)I"), (7, .fieldref 12 60), (0, .nameAndType 61 62), (0, u "HI_BYTE_SHIFT"), (0, u "I"), (0, .fieldref 12 64), (0, .nameAndType 65 62), (0, u "LO_BYTE_SHIFT"), (1, .methodref 12 68), (0, .nameAndType 69 70), (0, u "checkIndex"), (0, u "(I[B)V"), (0, .methodref 12 72), (0, .nameAndType 73 74), (0, u "getChar"), (0, u "([BI)C"), (32, .methodref 12 108), (0, .nameAndType 109 110), (0, u "newBytesFor"), (0, u "(I)[B"), (0, .methodref 12 112), (0, .nameAndType 113 114), (0, u "putChar"), (0, u "([BII)V"), (0, .methodref 12 116), (0, .nameAndType 117 118), (0, u "compress"), (0, u "([CI[BII)I"), (0, .methodref 12 120), (0, .nameAndType 121 122), (0, u "toBytes"), (0, u "([CII)[B"), (138, u "coderFromArrayLen"), (0, u "([BI)B"), (106, .class_ 371), (1, u "java/lang/StringUTF16$LinesSpliterator"), (20, u "charAt"), (21, .methodref 3 415), (0, .nameAndType 69 416), (0, u "(II)V"), (13, u "MAX_LENGTH"), (196, .class_ 628), (0, u "java/lang/StringUTF16$CodePointsSpliterator"), (0, .class_ 630), (0, u "java/lang/StringUTF16$CharsSpliterator")] 4

def k9m0 : Method := { name := "<init>", desc := "()V", sig := { parameters := [], returnType := none }, accessFlags := 0, code := none }
def k9c1 : Code := { maxStack := 1, maxLocals := 1, code := jdk_52_method_2_code, exceptionTable := #[], attributes := #[] }
def k9m1 : Method := { name := "newBytesFor", desc := "(I)[B", sig := { parameters := [.int], returnType := some (.array .byte) }, accessFlags := 9, code := some k9c1 }
def k9c2 : Code := { maxStack := 4, maxLocals := 1, code := jdk_52_method_3_code, exceptionTable := #[], attributes := #[] }
def k9m2 : Method := { name := "newBytesLength", desc := "(I)I", sig := { parameters := [.int], returnType := some .int }, accessFlags := 9, code := some k9c2 }
def k9c3 : Code := { maxStack := 4, maxLocals := 3, code := jdk_52_method_4_code, exceptionTable := #[], attributes := #[] }
def k9m3 : Method := { name := "putChar", desc := "([BII)V", sig := { parameters := [(.array .byte), .int, .int], returnType := none }, accessFlags := 8, code := some k9c3 }
def k9c4 : Code := { maxStack := 3, maxLocals := 2, code := jdk_52_method_5_code, exceptionTable := #[], attributes := #[] }
def k9m4 : Method := { name := "getChar", desc := "([BI)C", sig := { parameters := [(.array .byte), .int], returnType := some .char }, accessFlags := 8, code := some k9c4 }
def k9c5 : Code := { maxStack := 2, maxLocals := 1, code := jdk_52_method_6_code, exceptionTable := #[], attributes := #[] }
def k9m5 : Method := { name := "length", desc := "([B)I", sig := { parameters := [(.array .byte)], returnType := some .int }, accessFlags := 9, code := some k9c5 }
def k9c6 : Code := { maxStack := 4, maxLocals := 5, code := jdk_52_method_14_code, exceptionTable := #[], attributes := #[] }
def k9m6 : Method := { name := "toBytes", desc := "([CII)[B", sig := { parameters := [(.array .char), .int, .int], returnType := some (.array .byte) }, accessFlags := 9, code := some k9c6 }
def k9c7 : Code := { maxStack := 2, maxLocals := 2, code := jdk_52_method_15_code, exceptionTable := #[], attributes := #[] }
def k9m7 : Method := { name := "coderFromArrayLen", desc := "([BI)B", sig := { parameters := [(.array .byte), .int], returnType := some .byte }, accessFlags := 8, code := some k9c7 }
def k9c8 : Code := { maxStack := 5, maxLocals := 6, code := jdk_52_method_16_code, exceptionTable := #[], attributes := #[] }
def k9m8 : Method := { name := "compress", desc := "([CII)[B", sig := { parameters := [(.array .char), .int, .int], returnType := some (.array .byte) }, accessFlags := 9, code := some k9c8 }
def k9c9 : Code := { maxStack := 3, maxLocals := 7, code := jdk_52_method_21_code, exceptionTable := #[], attributes := #[] }
def k9m9 : Method := { name := "compress", desc := "([CI[BII)I", sig := { parameters := [(.array .char), .int, (.array .byte), .int, .int], returnType := some .int }, accessFlags := 9, code := some k9c9 }
def k9c10 : Code := { maxStack := 2, maxLocals := 2, code := jdk_52_method_83_code, exceptionTable := #[], attributes := #[] }
def k9m10 : Method := { name := "charAt", desc := "([BI)C", sig := { parameters := [(.array .byte), .int], returnType := some .char }, accessFlags := 9, code := some k9c10 }
def k9c11 : Code := { maxStack := 2, maxLocals := 2, code := jdk_52_method_91_code, exceptionTable := #[], attributes := #[] }
def k9m11 : Method := { name := "checkIndex", desc := "(I[B)V", sig := { parameters := [.int, (.array .byte)], returnType := none }, accessFlags := 9, code := some k9c11 }
/-- java/lang/StringUTF16 -/
def k9 : Class := { plain "java/lang/StringUTF16" (some 0) with
  accessFlags := 48
  interfaces := #[]
  cf := some (fileOf pool9 12 #[.nestMembers #[627, 629, 369]] #[{ accessFlags := 0, nameIndex := 9, descriptorIndex := 10, attributes := #[] }, { accessFlags := 9, nameIndex := 109, descriptorIndex := 110, attributes := #[] }, { accessFlags := 9, nameIndex := 15, descriptorIndex := 16, attributes := #[] }, { accessFlags := 8, nameIndex := 113, descriptorIndex := 114, attributes := #[] }, { accessFlags := 8, nameIndex := 73, descriptorIndex := 74, attributes := #[] }, { accessFlags := 9, nameIndex := 50, descriptorIndex := 51, attributes := #[] }, { accessFlags := 9, nameIndex := 121, descriptorIndex := 122, attributes := #[] }, { accessFlags := 8, nameIndex := 261, descriptorIndex := 262, attributes := #[] }, { accessFlags := 9, nameIndex := 117, descriptorIndex := 122, attributes := #[] }, { accessFlags := 9, nameIndex := 117, descriptorIndex := 118, attributes := #[] }, { accessFlags := 9, nameIndex := 392, descriptorIndex := 74, attributes := #[] }, { accessFlags := 9, nameIndex := 69, descriptorIndex := 70, attributes := #[] }] 48 6 #[] #[{ accessFlags := 26, nameIndex := 61, descriptorIndex := 62, attributes := #[] }, { accessFlags := 26, nameIndex := 65, descriptorIndex := 62, attributes := #[] }, { accessFlags := 24, nameIndex := 430, descriptorIndex := 62, attributes := #[] }, { accessFlags := 4120, nameIndex := 46, descriptorIndex := 47, attributes := #[] }])
  fields := #[{ name := "HI_BYTE_SHIFT", type := .int, accessFlags := 26, slot := 0, constantValue := 0 }, { name := "LO_BYTE_SHIFT", type := .int, accessFlags := 26, slot := 1, constantValue := 0 }, { name := "MAX_LENGTH", type := .int, accessFlags := 24, slot := 2, constantValue := 0 }, { name := "$assertionsDisabled", type := .boolean, accessFlags := 4120, slot := 3, constantValue := 0 }]
  methods := #[k9m0, k9m1, k9m2, k9m3, k9m4, k9m5, k9m6, k9m7, k9m8, k9m9, k9m10, k9m11]
  instanceTypes := #[]
  staticTypes := #[.int, .int, .int, .boolean]
  resolved := Array.replicate 635 none
  statics := some 1 }

def pool10 : Array CpInfo := pool [(1, .class_ 2), (0, u "java/lang/String"), (1, .class_ 6), (1, u "java/lang/Object"), (0, u "<init>"), (0, u "()V"), (0, .methodref 1 10), (0, .nameAndType 11 12), (0, u "checkIndex"), (0, u "(II)V"), (1, .class_ 16), (1, u "java/lang/StringLatin1"), (36, u "([BI)C"), (67, u "$assertionsDisabled"), (0, u "Z"), (98, .class_ 223), (1, u "java/lang/StringLatin1$LinesSpliterator"), (28, u "charAt"), (137, .class_ 391), (0, u "java/lang/StringLatin1$CharsSpliterator")] 3

def k10m0 : Method := { name := "<init>", desc := "()V", sig := { parameters := [], returnType := none }, accessFlags := 0, code := none }
def k10c1 : Code := { maxStack := 2, maxLocals := 2, code := jdk_43_method_2_code, exceptionTable := #[], attributes := #[] }
def k10m1 : Method := { name := "charAt", desc := "([BI)C", sig := { parameters := [(.array .byte), .int], returnType := some .char }, accessFlags := 9, code := some k10c1 }
/-- java/lang/StringLatin1 -/
def k10 : Class := { plain "java/lang/StringLatin1" (some 0) with
  accessFlags := 48
  interfaces := #[]
  cf := some (fileOf pool10 14 #[.nestMembers #[390, 221]] #[{ accessFlags := 0, nameIndex := 7, descriptorIndex := 8, attributes := #[] }, { accessFlags := 9, nameIndex := 252, descriptorIndex := 53, attributes := #[] }] 48 4 #[] #[{ accessFlags := 4120, nameIndex := 121, descriptorIndex := 122, attributes := #[] }])
  fields := #[{ name := "$assertionsDisabled", type := .boolean, accessFlags := 4120, slot := 0, constantValue := 0 }]
  methods := #[k10m0, k10m1]
  instanceTypes := #[]
  staticTypes := #[.boolean]
  resolved := Array.replicate 395 none
  statics := none }

def pool11 : Array CpInfo := pool [(2, .class_ 4), (1, u "java/lang/Object"), (0, u "<init>"), (0, u "()V"), (17, .class_ 26), (1, u "jdk/internal/util/Preconditions"), (6, u "checkIndex"), (21, .class_ 56), (0, u "jdk/internal/util/Preconditions$4"), (57, .class_ 115), (0, u "jdk/internal/util/Preconditions$1"), (7, u "SIOOBE_FORMATTER"), (0, u "Ljava/util/function/BiFunction;"), (0, .class_ 126), (0, u "jdk/internal/util/Preconditions$2"), (3, u "AIOOBE_FORMATTER"), (0, .class_ 132), (0, u "jdk/internal/util/Preconditions$3"), (3, u "IOOBE_FORMATTER"), (41, u "(IILjava/util/function/BiFunction;)I")] 15

def k11m0 : Method := { name := "<init>", desc := "()V", sig := { parameters := [], returnType := none }, accessFlags := 1, code := none }
def k11c1 : Code := { maxStack := 3, maxLocals := 3, code := jdk_41_method_11_code, exceptionTable := #[], attributes := #[] }
def k11m1 : Method := { name := "checkIndex", desc := "(IILjava/util/function/BiFunction;)I", sig := { parameters := [.int, .int, (.object "java/util/function/BiFunction")], returnType := some .int }, accessFlags := 9, code := some k11c1 }
/-- jdk/internal/util/Preconditions -/
def k11 : Class := { plain "jdk/internal/util/Preconditions" (some 0) with
  accessFlags := 33
  interfaces := #[]
  cf := some (fileOf pool11 24 #[.nestMembers #[55, 131, 125, 114]] #[{ accessFlags := 1, nameIndex := 5, descriptorIndex := 6, attributes := #[] }, { accessFlags := 9, nameIndex := 33, descriptorIndex := 178, attributes := #[] }] 33 2 #[] #[{ accessFlags := 25, nameIndex := 123, descriptorIndex := 124, attributes := #[] }, { accessFlags := 25, nameIndex := 130, descriptorIndex := 124, attributes := #[] }, { accessFlags := 25, nameIndex := 136, descriptorIndex := 124, attributes := #[] }])
  fields := #[{ name := "SIOOBE_FORMATTER", type := (.object "java/util/function/BiFunction"), accessFlags := 25, slot := 0, constantValue := 0 }, { name := "AIOOBE_FORMATTER", type := (.object "java/util/function/BiFunction"), accessFlags := 25, slot := 1, constantValue := 0 }, { name := "IOOBE_FORMATTER", type := (.object "java/util/function/BiFunction"), accessFlags := 25, slot := 2, constantValue := 0 }]
  methods := #[k11m0, k11m1]
  instanceTypes := #[]
  staticTypes := #[(.object "java/util/function/BiFunction"), (.object "java/util/function/BiFunction"), (.object "java/util/function/BiFunction")]
  resolved := Array.replicate 194 none
  statics := some 2 }

def pool12 : Array CpInfo := pool [(9, u "<init>"), (6, .class_ 18), (1, u "java/lang/Object"), (0, u "()V"), (1, .class_ 23), (1, u "jdk/internal/util/ArraysSupport"), (0, u "LOG2_ARRAY_LONG_INDEX_SCALE"), (0, u "I"), (2, u "U"), (0, u "Ljdk/internal/misc/Unsafe;"), (8, u "BIG_ENDIAN"), (0, u "Z"), (8, u "LOG2_BYTE_BIT_SIZE"), (4, u "LOG2_ARRAY_INT_INDEX_SCALE"), (54, u "JLA"), (0, u "Ljdk/internal/access/JavaLangAccess;"), (11, u "LOG2_ARRAY_BOOLEAN_INDEX_SCALE"), (9, u "LOG2_ARRAY_BYTE_INDEX_SCALE"), (5, u "LOG2_ARRAY_CHAR_INDEX_SCALE"), (5, u "LOG2_ARRAY_SHORT_INDEX_SCALE"), (18, u "LOG2_ARRAY_FLOAT_INDEX_SCALE"), (24, u "LOG2_ARRAY_DOUBLE_INDEX_SCALE"), (89, u "T_BOOLEAN"), (2, u "T_CHAR"), (1, u "T_FLOAT"), (1, u "T_DOUBLE"), (1, u "T_BYTE"), (1, u "T_SHORT"), (1, u "T_INT"), (1, u "T_LONG"), (1, u "SOFT_MAX_ARRAY_LENGTH")] 83

def k12m0 : Method := { name := "<init>", desc := "()V", sig := { parameters := [], returnType := none }, accessFlags := 2, code := none }
/-- jdk/internal/util/ArraysSupport -/
def k12 : Class := { plain "jdk/internal/util/ArraysSupport" (some 0) with
  accessFlags := 33
  interfaces := #[]
  cf := some (fileOf pool12 21 #[] #[{ accessFlags := 2, nameIndex := 9, descriptorIndex := 19, attributes := #[] }] 33 16 #[] #[{ accessFlags := 24, nameIndex := 28, descriptorIndex := 29, attributes := #[] }, { accessFlags := 26, nameIndex := 38, descriptorIndex := 39, attributes := #[] }, { accessFlags := 25, nameIndex := 121, descriptorIndex := 25, attributes := #[] }, { accessFlags := 25, nameIndex := 131, descriptorIndex := 25, attributes := #[] }, { accessFlags := 25, nameIndex := 137, descriptorIndex := 25, attributes := #[] }, { accessFlags := 25, nameIndex := 143, descriptorIndex := 25, attributes := #[] }, { accessFlags := 25, nameIndex := 53, descriptorIndex := 25, attributes := #[] }, { accessFlags := 25, nameIndex := 24, descriptorIndex := 25, attributes := #[] }, { accessFlags := 25, nameIndex := 162, descriptorIndex := 25, attributes := #[] }, { accessFlags := 25, nameIndex := 187, descriptorIndex := 25, attributes := #[] }, { accessFlags := 26, nameIndex := 48, descriptorIndex := 25, attributes := #[] }, { accessFlags := 25, nameIndex := 277, descriptorIndex := 25, attributes := #[] }, { accessFlags := 25, nameIndex := 280, descriptorIndex := 25, attributes := #[] }, { accessFlags := 25, nameIndex := 282, descriptorIndex := 25, attributes := #[] }, { accessFlags := 25, nameIndex := 284, descriptorIndex := 25, attributes := #[] }, { accessFlags := 25, nameIndex := 286, descriptorIndex := 25, attributes := #[] }, { accessFlags := 25, nameIndex := 288, descriptorIndex := 25, attributes := #[] }, { accessFlags := 25, nameIndex := 290, descriptorIndex := 25, attributes := #[] }, { accessFlags := 25, nameIndex := 292, descriptorIndex := 25, attributes := #[] }, { accessFlags := 26, nameIndex := 108, descriptorIndex := 109, attributes := #[] }, { accessFlags := 25, nameIndex := 294, descriptorIndex := 25, attributes := #[] }])
  fields := #[{ name := "U", type := (.object "jdk/internal/misc/Unsafe"), accessFlags := 24, slot := 0, constantValue := 0 }, { name := "BIG_ENDIAN", type := .boolean, accessFlags := 26, slot := 1, constantValue := 0 }, { name := "LOG2_ARRAY_BOOLEAN_INDEX_SCALE", type := .int, accessFlags := 25, slot := 2, constantValue := 0 }, { name := "LOG2_ARRAY_BYTE_INDEX_SCALE", type := .int, accessFlags := 25, slot := 3, constantValue := 0 }, { name := "LOG2_ARRAY_CHAR_INDEX_SCALE", type := .int, accessFlags := 25, slot := 4, constantValue := 0 }, { name := "LOG2_ARRAY_SHORT_INDEX_SCALE", type := .int, accessFlags := 25, slot := 5, constantValue := 0 }, { name := "LOG2_ARRAY_INT_INDEX_SCALE", type := .int, accessFlags := 25, slot := 6, constantValue := 0 }, { name := "LOG2_ARRAY_LONG_INDEX_SCALE", type := .int, accessFlags := 25, slot := 7, constantValue := 0 }, { name := "LOG2_ARRAY_FLOAT_INDEX_SCALE", type := .int, accessFlags := 25, slot := 8, constantValue := 0 }, { name := "LOG2_ARRAY_DOUBLE_INDEX_SCALE", type := .int, accessFlags := 25, slot := 9, constantValue := 0 }, { name := "LOG2_BYTE_BIT_SIZE", type := .int, accessFlags := 26, slot := 10, constantValue := 0 }, { name := "T_BOOLEAN", type := .int, accessFlags := 25, slot := 11, constantValue := 0 }, { name := "T_CHAR", type := .int, accessFlags := 25, slot := 12, constantValue := 0 }, { name := "T_FLOAT", type := .int, accessFlags := 25, slot := 13, constantValue := 0 }, { name := "T_DOUBLE", type := .int, accessFlags := 25, slot := 14, constantValue := 0 }, { name := "T_BYTE", type := .int, accessFlags := 25, slot := 15, constantValue := 0 }, { name := "T_SHORT", type := .int, accessFlags := 25, slot := 16, constantValue := 0 }, { name := "T_INT", type := .int, accessFlags := 25, slot := 17, constantValue := 0 }, { name := "T_LONG", type := .int, accessFlags := 25, slot := 18, constantValue := 0 }, { name := "JLA", type := (.object "jdk/internal/access/JavaLangAccess"), accessFlags := 26, slot := 19, constantValue := 0 }, { name := "SOFT_MAX_ARRAY_LENGTH", type := .int, accessFlags := 25, slot := 20, constantValue := 0 }]
  methods := #[k12m0]
  instanceTypes := #[]
  staticTypes := #[(.object "jdk/internal/misc/Unsafe"), .boolean, .int, .int, .int, .int, .int, .int, .int, .int, .int, .int, .int, .int, .int, .int, .int, .int, .int, (.object "jdk/internal/access/JavaLangAccess"), .int]
  resolved := Array.replicate 378 none
  statics := none }

def pool13 : Array CpInfo := pool [(1, u "java/lang/Cloneable"), (0, .class_ 1), (0, u "java/lang/Object"), (0, .class_ 3)] 3

/-- java/lang/Cloneable -/
def k13 : Class := { plain "java/lang/Cloneable" (some 0) with
  accessFlags := 1537
  interfaces := #[]
  cf := some (fileOf pool13 2 #[] #[] 1537 4 #[] #[])
  fields := #[]
  methods := #[]
  instanceTypes := #[]
  staticTypes := #[]
  resolved := Array.replicate 8 none
  statics := none }

/-- the primitive byte -/
def k14 : Class := { plain "byte" none with kind := .primitive 'B', accessFlags := 0x411 }
/-- [B -/
def k15 : Class := { plain "[B" (some 0) with kind := .array 14 .byte, interfaces := #[13, 2], accessFlags := 1041 }

/-- the primitive char -/
def k16 : Class := { plain "char" none with kind := .primitive 'C', accessFlags := 0x411 }
/-- [C -/
def k17 : Class := { plain "[C" (some 0) with kind := .array 16 .char, interfaces := #[13, 2], accessFlags := 1041 }

/-- the primitive int -/
def k18 : Class := { plain "int" none with kind := .primitive 'I', accessFlags := 0x411 }
/-- [I -/
def k19 : Class := { plain "[I" (some 0) with kind := .array 18 .int, interfaces := #[13, 2], accessFlags := 1041 }

def heap : Heap := #[{ cls := 7, slots := #[.long 0, .int 1, .null, .int 0, .null, .int 0, .int 0], vm := .statics 7 },
  { cls := 9, slots := #[.int 0, .int 8, .int 0, .int 1], vm := .statics 9 },
  { cls := 11, slots := #[.null, .null, .null], vm := .statics 11 }]
def classes : Array Class := #[k0, k1, k2, k3, k4, k5, k6, k7, k8, k9, k10, k11, k12, k13, k14, k15, k16, k17, k18, k19]
def interned : List (Array UInt16 × Addr) := []
def slotsUsed : Nat := 14
def theMethod : MethodId := ⟨1, 4⟩
def args0 : Array Value := #[.int 5, .int 5, .int 5, .int 5, .int 5]
def aboutOver (below : List Frame) : State where
  vm := { classes := classes, interned := interned.toArray }
  heap := heap
  slotsUsed := slotsUsed
  threads := #[{ frames := .invoking theMethod args0 :: below }]
def below0 : List Frame := [.native { method := ⟨0, 0⟩, args := #[] }]
def about1 : State := aboutOver below0
def p0 : Program := .bare "" "" ""
def e0 : Env := launch0.env 0 0 0
theorem w_frames : about1.frames = Frame.invoking theMethod args0 :: below0 := rfl
set_option maxRecDepth 65536 in
theorem w_args : argsFit about1.vm theMethod args0 = true := by decide +kernel
set_option maxRecDepth 65536 in
theorem w_heap : heapFits about1 = true := by decide +kernel
set_option maxRecDepth 65536 in
theorem w_runnable : about1.curStatus? = some .runnable := by decide +kernel
set_option maxRecDepth 65536 in
theorem w_alone : about1.alone = true := by decide +kernel
set_option maxRecDepth 65536 in
theorem w_named : about1.methodNamed? x = some theMethod := by decide +kernel
set_option maxRecDepth 65536 in
theorem w_hears : about1.hears theMethod below0 = true := by decide +kernel
set_option maxRecDepth 65536 in
theorem w_ripe : about1.ripe theMethod args0 below0 = true := by decide +kernel
theorem w_running : about1.status = .running := rfl
set_option maxRecDepth 65536 in
theorem w_room : about1.hasRoom e0.platform room_1 = true :=
  launch0.hasRoom_least _ room_1 (by decide +kernel) (by decide +kernel) (by decide +kernel) (by decide +kernel) (by decide +kernel) (by decide +kernel)
theorem allAtoms_all (ts : List Jvm.Cond) (a : Array Jvm.Value) (st : Jvm.State) : (allAtoms ts).before a st = ts.all (fun c => c.before a st) := by
  induction ts with
  | nil => rfl
  | cons c t ih =>
    show (Jvm.Cond.and c (allAtoms t)).before a st = _
    rw [Jvm.Cond.before_and, ih, List.all_cons]
def words1 : List Jvm.Cond := Jvm.Cond.code x code maxLocals ret :: tables_1
/-- a 'code' word, met by the world's own term for the bytes: nothing is compared byte by byte -/
theorem code_word {y : MethodName} {bytes : ByteArray} {mx : Nat} {rt : Option FieldType} {a : Array Value} {s : State} {m : MethodId} {meth : Method} {c : Code} (h1 : s.methodNamed? y = some m) (h2 : s.vm.method? m = some meth) (h3 : meth.code = some c) (h4 : c.code = bytes)
    (h5 : (c.maxLocals == mx && c.exceptionTable.isEmpty && decide (c.maxStack ≤ mostOperands) && decide (meth.sig.returnType = rt) && !meth.locks && decide (parseMethodDescriptor y.desc = some meth.sig)) = true) : (Jvm.Cond.code y bytes mx rt).before a s = true := by
  simp only [Bool.and_eq_true, beq_iff_eq, Bool.not_eq_true', decide_eq_true_eq] at h5
  obtain ⟨⟨⟨⟨⟨g1, g2⟩, g3⟩, g4⟩, g5⟩, g6⟩ := h5
  simp [Cond.before, Cond.holds, Cond.value, h1, h2, h3, h4, g1, g2, g3, g4, g5, g6]
def isCode : Jvm.Cond → Bool
  | .code _ _ _ _ => true
  | _ => false
theorem all_split {L : List Jvm.Cond} {P : Jvm.Cond → Bool} (h1 : L.all (fun c => isCode c || P c) = true) (h2 : ∀ c ∈ L.filter isCode, P c = true) : L.all P = true := by
  refine List.all_eq_true.mpr fun c hc => ?_
  have h := List.all_eq_true.mp h1 c hc
  rcases Bool.eq_false_or_eq_true (isCode c) with hi | hi
  · exact h2 c (List.mem_filter.mpr ⟨hc, hi⟩)
  · simpa [hi] using h
set_option maxRecDepth 65536 in
theorem w_c0 : (Jvm.Cond.code x code maxLocals ret).before args0 about1 = true := code_word (m := ⟨1, 4⟩) (meth := k1m4) (c := k1c4) (by decide +kernel) rfl rfl rfl (by decide +kernel)
set_option maxRecDepth 65536 in
theorem w_c1 : (Jvm.Cond.code ({ cls := "com/example/millipede/millipede/DecimalNumbersIsNumberPinLaw", name := "draw", desc := "(I)C" } : Jvm.MethodName) method_2_code (1 : Nat) (Option.some Jvm.ClassFile.FieldType.char)).before args0 about1 = true := code_word (m := ⟨1, 1⟩) (meth := k1m1) (c := k1c1) (by decide +kernel) rfl rfl rfl (by decide +kernel)
set_option maxRecDepth 65536 in
theorem w_c2 : (Jvm.Cond.code ({ cls := "com/example/millipede/millipede/DecimalNumbersIsNumberPinLaw", name := "make", desc := "(ICCCC)Ljava/lang/String;" } : Jvm.MethodName) method_4_code (5 : Nat) (Option.some (Jvm.ClassFile.FieldType.object "java/lang/String"))).before args0 about1 = true := code_word (m := ⟨1, 3⟩) (meth := k1m3) (c := k1c3) (by decide +kernel) rfl rfl rfl (by decide +kernel)
set_option maxRecDepth 65536 in
theorem w_c3 : (Jvm.Cond.code ({ cls := "java/lang/String", name := "<init>", desc := "([C)V" } : Jvm.MethodName) jdk_42_method_3_code (2 : Nat) (Option.none : Option Jvm.ClassFile.FieldType)).before args0 about1 = true := code_word (m := ⟨7, 1⟩) (meth := k7m1) (c := k7c1) (by decide +kernel) rfl rfl rfl (by decide +kernel)
set_option maxRecDepth 65536 in
theorem w_c4 : (Jvm.Cond.code ({ cls := "java/lang/String", name := "<init>", desc := "([CIILjava/lang/Void;)V" } : Jvm.MethodName) jdk_42_method_149_code (6 : Nat) (Option.none : Option Jvm.ClassFile.FieldType)).before args0 about1 = true := code_word (m := ⟨7, 5⟩) (meth := k7m5) (c := k7c5) (by decide +kernel) rfl rfl rfl (by decide +kernel)
set_option maxRecDepth 65536 in
theorem w_c5 : (Jvm.Cond.code ({ cls := "java/lang/Object", name := "<init>", desc := "()V" } : Jvm.MethodName) object_method_1_code (1 : Nat) (Option.none : Option Jvm.ClassFile.FieldType)).before args0 about1 = true := code_word (m := ⟨0, 0⟩) (meth := k0m0) (c := k0c0) (by decide +kernel) rfl rfl rfl (by decide +kernel)
set_option maxRecDepth 65536 in
theorem w_c6 : (Jvm.Cond.code ({ cls := "com/example/millipede/millipede/DecimalNumbers", name := "isNumber", desc := "(Ljava/lang/String;)Z" } : Jvm.MethodName) prog_20_method_2_code (3 : Nat) (Option.some Jvm.ClassFile.FieldType.boolean)).before args0 about1 = true := code_word (m := ⟨8, 1⟩) (meth := k8m1) (c := k8c1) (by decide +kernel) rfl rfl rfl (by decide +kernel)
set_option maxRecDepth 65536 in
theorem w_c7 : (Jvm.Cond.code ({ cls := "java/lang/String", name := "isEmpty", desc := "()Z" } : Jvm.MethodName) jdk_42_method_55_code (1 : Nat) (Option.some Jvm.ClassFile.FieldType.boolean)).before args0 about1 = true := code_word (m := ⟨7, 3⟩) (meth := k7m3) (c := k7c3) (by decide +kernel) rfl rfl rfl (by decide +kernel)
set_option maxRecDepth 65536 in
theorem w_c8 : (Jvm.Cond.code ({ cls := "java/lang/StringUTF16", name := "compress", desc := "([CII)[B" } : Jvm.MethodName) jdk_52_method_16_code (6 : Nat) (Option.some (Jvm.ClassFile.FieldType.array Jvm.ClassFile.FieldType.byte))).before args0 about1 = true := code_word (m := ⟨9, 8⟩) (meth := k9m8) (c := k9c8) (by decide +kernel) rfl rfl rfl (by decide +kernel)
set_option maxRecDepth 65536 in
theorem w_c9 : (Jvm.Cond.code ({ cls := "java/lang/StringUTF16", name := "compress", desc := "([CI[BII)I" } : Jvm.MethodName) jdk_52_method_21_code (7 : Nat) (Option.some Jvm.ClassFile.FieldType.int)).before args0 about1 = true := code_word (m := ⟨9, 9⟩) (meth := k9m9) (c := k9c9) (by decide +kernel) rfl rfl rfl (by decide +kernel)
set_option maxRecDepth 65536 in
theorem w_c10 : (Jvm.Cond.code ({ cls := "java/lang/StringUTF16", name := "coderFromArrayLen", desc := "([BI)B" } : Jvm.MethodName) jdk_52_method_15_code (2 : Nat) (Option.some Jvm.ClassFile.FieldType.byte)).before args0 about1 = true := code_word (m := ⟨9, 7⟩) (meth := k9m7) (c := k9c7) (by decide +kernel) rfl rfl rfl (by decide +kernel)
set_option maxRecDepth 65536 in
theorem w_c11 : (Jvm.Cond.code ({ cls := "com/example/millipede/millipede/DecimalNumbersIsNumberPinLaw", name := "digit", desc := "(C)Z" } : Jvm.MethodName) method_3_code (2 : Nat) (Option.some Jvm.ClassFile.FieldType.boolean)).before args0 about1 = true := code_word (m := ⟨1, 2⟩) (meth := k1m2) (c := k1c2) (by decide +kernel) rfl rfl rfl (by decide +kernel)
set_option maxRecDepth 65536 in
theorem w_c12 : (Jvm.Cond.code ({ cls := "java/lang/String", name := "length", desc := "()I" } : Jvm.MethodName) jdk_42_method_54_code (1 : Nat) (Option.some Jvm.ClassFile.FieldType.int)).before args0 about1 = true := code_word (m := ⟨7, 2⟩) (meth := k7m2) (c := k7c2) (by decide +kernel) rfl rfl rfl (by decide +kernel)
set_option maxRecDepth 65536 in
theorem w_c13 : (Jvm.Cond.code ({ cls := "java/lang/String", name := "coder", desc := "()B" } : Jvm.MethodName) jdk_42_method_152_code (1 : Nat) (Option.some Jvm.ClassFile.FieldType.byte)).before args0 about1 = true := code_word (m := ⟨7, 6⟩) (meth := k7m6) (c := k7c6) (by decide +kernel) rfl rfl rfl (by decide +kernel)
set_option maxRecDepth 65536 in
theorem w_c14 : (Jvm.Cond.code ({ cls := "java/lang/String", name := "charAt", desc := "(I)C" } : Jvm.MethodName) jdk_42_method_56_code (2 : Nat) (Option.some Jvm.ClassFile.FieldType.char)).before args0 about1 = true := code_word (m := ⟨7, 4⟩) (meth := k7m4) (c := k7c4) (by decide +kernel) rfl rfl rfl (by decide +kernel)
set_option maxRecDepth 65536 in
theorem w_c15 : (Jvm.Cond.code ({ cls := "java/lang/String", name := "isLatin1", desc := "()Z" } : Jvm.MethodName) jdk_42_method_154_code (1 : Nat) (Option.some Jvm.ClassFile.FieldType.boolean)).before args0 about1 = true := code_word (m := ⟨7, 7⟩) (meth := k7m7) (c := k7c7) (by decide +kernel) rfl rfl rfl (by decide +kernel)
set_option maxRecDepth 65536 in
theorem w_c16 : (Jvm.Cond.code ({ cls := "java/lang/StringLatin1", name := "charAt", desc := "([BI)C" } : Jvm.MethodName) jdk_43_method_2_code (2 : Nat) (Option.some Jvm.ClassFile.FieldType.char)).before args0 about1 = true := code_word (m := ⟨10, 1⟩) (meth := k10m1) (c := k10c1) (by decide +kernel) rfl rfl rfl (by decide +kernel)
set_option maxRecDepth 65536 in
theorem w_c17 : (Jvm.Cond.code ({ cls := "java/lang/String", name := "checkIndex", desc := "(II)V" } : Jvm.MethodName) jdk_42_method_155_code (2 : Nat) (Option.none : Option Jvm.ClassFile.FieldType)).before args0 about1 = true := code_word (m := ⟨7, 8⟩) (meth := k7m8) (c := k7c8) (by decide +kernel) rfl rfl rfl (by decide +kernel)
set_option maxRecDepth 65536 in
theorem w_c18 : (Jvm.Cond.code ({ cls := "jdk/internal/util/Preconditions", name := "checkIndex", desc := "(IILjava/util/function/BiFunction;)I" } : Jvm.MethodName) jdk_41_method_11_code (3 : Nat) (Option.some Jvm.ClassFile.FieldType.int)).before args0 about1 = true := code_word (m := ⟨11, 1⟩) (meth := k11m1) (c := k11c1) (by decide +kernel) rfl rfl rfl (by decide +kernel)
set_option maxRecDepth 65536 in
theorem w_c19 : (Jvm.Cond.code ({ cls := "java/lang/StringUTF16", name := "toBytes", desc := "([CII)[B" } : Jvm.MethodName) jdk_52_method_14_code (5 : Nat) (Option.some (Jvm.ClassFile.FieldType.array Jvm.ClassFile.FieldType.byte))).before args0 about1 = true := code_word (m := ⟨9, 6⟩) (meth := k9m6) (c := k9c6) (by decide +kernel) rfl rfl rfl (by decide +kernel)
set_option maxRecDepth 65536 in
theorem w_c20 : (Jvm.Cond.code ({ cls := "java/lang/StringUTF16", name := "newBytesFor", desc := "(I)[B" } : Jvm.MethodName) jdk_52_method_2_code (1 : Nat) (Option.some (Jvm.ClassFile.FieldType.array Jvm.ClassFile.FieldType.byte))).before args0 about1 = true := code_word (m := ⟨9, 1⟩) (meth := k9m1) (c := k9c1) (by decide +kernel) rfl rfl rfl (by decide +kernel)
set_option maxRecDepth 65536 in
theorem w_c21 : (Jvm.Cond.code ({ cls := "java/lang/StringUTF16", name := "newBytesLength", desc := "(I)I" } : Jvm.MethodName) jdk_52_method_3_code (1 : Nat) (Option.some Jvm.ClassFile.FieldType.int)).before args0 about1 = true := code_word (m := ⟨9, 2⟩) (meth := k9m2) (c := k9c2) (by decide +kernel) rfl rfl rfl (by decide +kernel)
set_option maxRecDepth 65536 in
theorem w_c22 : (Jvm.Cond.code ({ cls := "java/lang/StringUTF16", name := "putChar", desc := "([BII)V" } : Jvm.MethodName) jdk_52_method_4_code (3 : Nat) (Option.none : Option Jvm.ClassFile.FieldType)).before args0 about1 = true := code_word (m := ⟨9, 3⟩) (meth := k9m3) (c := k9c3) (by decide +kernel) rfl rfl rfl (by decide +kernel)
set_option maxRecDepth 65536 in
theorem w_c23 : (Jvm.Cond.code ({ cls := "java/lang/StringUTF16", name := "getChar", desc := "([BI)C" } : Jvm.MethodName) jdk_52_method_5_code (2 : Nat) (Option.some Jvm.ClassFile.FieldType.char)).before args0 about1 = true := code_word (m := ⟨9, 4⟩) (meth := k9m4) (c := k9c4) (by decide +kernel) rfl rfl rfl (by decide +kernel)
set_option maxRecDepth 65536 in
theorem w_c24 : (Jvm.Cond.code ({ cls := "java/lang/StringUTF16", name := "charAt", desc := "([BI)C" } : Jvm.MethodName) jdk_52_method_83_code (2 : Nat) (Option.some Jvm.ClassFile.FieldType.char)).before args0 about1 = true := code_word (m := ⟨9, 10⟩) (meth := k9m10) (c := k9c10) (by decide +kernel) rfl rfl rfl (by decide +kernel)
set_option maxRecDepth 65536 in
theorem w_c25 : (Jvm.Cond.code ({ cls := "java/lang/StringUTF16", name := "checkIndex", desc := "(I[B)V" } : Jvm.MethodName) jdk_52_method_91_code (2 : Nat) (Option.none : Option Jvm.ClassFile.FieldType)).before args0 about1 = true := code_word (m := ⟨9, 11⟩) (meth := k9m11) (c := k9c11) (by decide +kernel) rfl rfl rfl (by decide +kernel)
set_option maxRecDepth 65536 in
theorem w_c26 : (Jvm.Cond.code ({ cls := "java/lang/StringUTF16", name := "length", desc := "([B)I" } : Jvm.MethodName) jdk_52_method_6_code (1 : Nat) (Option.some Jvm.ClassFile.FieldType.int)).before args0 about1 = true := code_word (m := ⟨9, 5⟩) (meth := k9m5) (c := k9c5) (by decide +kernel) rfl rfl rfl (by decide +kernel)
def codes1 : List Jvm.Cond := [Jvm.Cond.code x code maxLocals ret, Jvm.Cond.code ({ cls := "com/example/millipede/millipede/DecimalNumbersIsNumberPinLaw", name := "draw", desc := "(I)C" } : Jvm.MethodName) method_2_code (1 : Nat) (Option.some Jvm.ClassFile.FieldType.char), Jvm.Cond.code ({ cls := "com/example/millipede/millipede/DecimalNumbersIsNumberPinLaw", name := "make", desc := "(ICCCC)Ljava/lang/String;" } : Jvm.MethodName) method_4_code (5 : Nat) (Option.some (Jvm.ClassFile.FieldType.object "java/lang/String")), Jvm.Cond.code ({ cls := "java/lang/String", name := "<init>", desc := "([C)V" } : Jvm.MethodName) jdk_42_method_3_code (2 : Nat) (Option.none : Option Jvm.ClassFile.FieldType), Jvm.Cond.code ({ cls := "java/lang/String", name := "<init>", desc := "([CIILjava/lang/Void;)V" } : Jvm.MethodName) jdk_42_method_149_code (6 : Nat) (Option.none : Option Jvm.ClassFile.FieldType), Jvm.Cond.code ({ cls := "java/lang/Object", name := "<init>", desc := "()V" } : Jvm.MethodName) object_method_1_code (1 : Nat) (Option.none : Option Jvm.ClassFile.FieldType), Jvm.Cond.code ({ cls := "com/example/millipede/millipede/DecimalNumbers", name := "isNumber", desc := "(Ljava/lang/String;)Z" } : Jvm.MethodName) prog_20_method_2_code (3 : Nat) (Option.some Jvm.ClassFile.FieldType.boolean), Jvm.Cond.code ({ cls := "java/lang/String", name := "isEmpty", desc := "()Z" } : Jvm.MethodName) jdk_42_method_55_code (1 : Nat) (Option.some Jvm.ClassFile.FieldType.boolean), Jvm.Cond.code ({ cls := "java/lang/StringUTF16", name := "compress", desc := "([CII)[B" } : Jvm.MethodName) jdk_52_method_16_code (6 : Nat) (Option.some (Jvm.ClassFile.FieldType.array Jvm.ClassFile.FieldType.byte)), Jvm.Cond.code ({ cls := "java/lang/StringUTF16", name := "compress", desc := "([CI[BII)I" } : Jvm.MethodName) jdk_52_method_21_code (7 : Nat) (Option.some Jvm.ClassFile.FieldType.int), Jvm.Cond.code ({ cls := "java/lang/StringUTF16", name := "coderFromArrayLen", desc := "([BI)B" } : Jvm.MethodName) jdk_52_method_15_code (2 : Nat) (Option.some Jvm.ClassFile.FieldType.byte), Jvm.Cond.code ({ cls := "com/example/millipede/millipede/DecimalNumbersIsNumberPinLaw", name := "digit", desc := "(C)Z" } : Jvm.MethodName) method_3_code (2 : Nat) (Option.some Jvm.ClassFile.FieldType.boolean), Jvm.Cond.code ({ cls := "java/lang/String", name := "length", desc := "()I" } : Jvm.MethodName) jdk_42_method_54_code (1 : Nat) (Option.some Jvm.ClassFile.FieldType.int), Jvm.Cond.code ({ cls := "java/lang/String", name := "coder", desc := "()B" } : Jvm.MethodName) jdk_42_method_152_code (1 : Nat) (Option.some Jvm.ClassFile.FieldType.byte), Jvm.Cond.code ({ cls := "java/lang/String", name := "charAt", desc := "(I)C" } : Jvm.MethodName) jdk_42_method_56_code (2 : Nat) (Option.some Jvm.ClassFile.FieldType.char), Jvm.Cond.code ({ cls := "java/lang/String", name := "isLatin1", desc := "()Z" } : Jvm.MethodName) jdk_42_method_154_code (1 : Nat) (Option.some Jvm.ClassFile.FieldType.boolean), Jvm.Cond.code ({ cls := "java/lang/StringLatin1", name := "charAt", desc := "([BI)C" } : Jvm.MethodName) jdk_43_method_2_code (2 : Nat) (Option.some Jvm.ClassFile.FieldType.char), Jvm.Cond.code ({ cls := "java/lang/String", name := "checkIndex", desc := "(II)V" } : Jvm.MethodName) jdk_42_method_155_code (2 : Nat) (Option.none : Option Jvm.ClassFile.FieldType), Jvm.Cond.code ({ cls := "jdk/internal/util/Preconditions", name := "checkIndex", desc := "(IILjava/util/function/BiFunction;)I" } : Jvm.MethodName) jdk_41_method_11_code (3 : Nat) (Option.some Jvm.ClassFile.FieldType.int), Jvm.Cond.code ({ cls := "java/lang/StringUTF16", name := "toBytes", desc := "([CII)[B" } : Jvm.MethodName) jdk_52_method_14_code (5 : Nat) (Option.some (Jvm.ClassFile.FieldType.array Jvm.ClassFile.FieldType.byte)), Jvm.Cond.code ({ cls := "java/lang/StringUTF16", name := "newBytesFor", desc := "(I)[B" } : Jvm.MethodName) jdk_52_method_2_code (1 : Nat) (Option.some (Jvm.ClassFile.FieldType.array Jvm.ClassFile.FieldType.byte)), Jvm.Cond.code ({ cls := "java/lang/StringUTF16", name := "newBytesLength", desc := "(I)I" } : Jvm.MethodName) jdk_52_method_3_code (1 : Nat) (Option.some Jvm.ClassFile.FieldType.int), Jvm.Cond.code ({ cls := "java/lang/StringUTF16", name := "putChar", desc := "([BII)V" } : Jvm.MethodName) jdk_52_method_4_code (3 : Nat) (Option.none : Option Jvm.ClassFile.FieldType), Jvm.Cond.code ({ cls := "java/lang/StringUTF16", name := "getChar", desc := "([BI)C" } : Jvm.MethodName) jdk_52_method_5_code (2 : Nat) (Option.some Jvm.ClassFile.FieldType.char), Jvm.Cond.code ({ cls := "java/lang/StringUTF16", name := "charAt", desc := "([BI)C" } : Jvm.MethodName) jdk_52_method_83_code (2 : Nat) (Option.some Jvm.ClassFile.FieldType.char), Jvm.Cond.code ({ cls := "java/lang/StringUTF16", name := "checkIndex", desc := "(I[B)V" } : Jvm.MethodName) jdk_52_method_91_code (2 : Nat) (Option.none : Option Jvm.ClassFile.FieldType), Jvm.Cond.code ({ cls := "java/lang/StringUTF16", name := "length", desc := "([B)I" } : Jvm.MethodName) jdk_52_method_6_code (1 : Nat) (Option.some Jvm.ClassFile.FieldType.int)]
set_option maxRecDepth 65536 in
theorem codes_eq : words1.filter isCode = codes1 := rfl
theorem w_codes : ∀ c ∈ words1.filter isCode, c.before args0 about1 = true := by
  rw [codes_eq]
  intro c hc
  simp only [codes1, List.mem_cons, List.not_mem_nil, or_false] at hc
  rcases hc with rfl | rfl | rfl | rfl | rfl | rfl | rfl | rfl | rfl | rfl | rfl | rfl | rfl | rfl | rfl | rfl | rfl | rfl | rfl | rfl | rfl | rfl | rfl | rfl | rfl | rfl | rfl
  · exact w_c0
  · exact w_c1
  · exact w_c2
  · exact w_c3
  · exact w_c4
  · exact w_c5
  · exact w_c6
  · exact w_c7
  · exact w_c8
  · exact w_c9
  · exact w_c10
  · exact w_c11
  · exact w_c12
  · exact w_c13
  · exact w_c14
  · exact w_c15
  · exact w_c16
  · exact w_c17
  · exact w_c18
  · exact w_c19
  · exact w_c20
  · exact w_c21
  · exact w_c22
  · exact w_c23
  · exact w_c24
  · exact w_c25
  · exact w_c26
set_option maxRecDepth 65536 in
theorem w_t1 : (words1.take 24).all (fun c => isCode c || c.before args0 about1) = true := by decide +kernel
set_option maxRecDepth 65536 in
theorem w_t2 : ((words1.drop 24).take 24).all (fun c => isCode c || c.before args0 about1) = true := by decide +kernel
set_option maxRecDepth 65536 in
theorem w_t3 : (((words1.drop 24).drop 24).take 24).all (fun c => isCode c || c.before args0 about1) = true := by decide +kernel
set_option maxRecDepth 65536 in
theorem w_t4 : ((((words1.drop 24).drop 24).drop 24).take 24).all (fun c => isCode c || c.before args0 about1) = true := by decide +kernel
set_option maxRecDepth 65536 in
theorem w_t5 : ((((words1.drop 24).drop 24).drop 24).drop 24).all (fun c => isCode c || c.before args0 about1) = true := by decide +kernel
theorem w_tables : (allAtoms (Jvm.Cond.code x code maxLocals ret :: tables_1)).before args0 about1 = true := by
  rw [allAtoms_all]
  show words1.all (fun c => c.before args0 about1) = true
  refine all_split ?_ w_codes
  rw [← List.take_append_drop 24 words1, List.all_append, w_t1, ← List.take_append_drop 24 (words1.drop 24), List.all_append, w_t2, ← List.take_append_drop 24 ((words1.drop 24).drop 24), List.all_append, w_t3, ← List.take_append_drop 24 (((words1.drop 24).drop 24).drop 24), List.all_append, w_t4, w_t5]
  rfl
set_option maxRecDepth 65536 in
theorem w_rest : rest_1_c.before args0 about1 = true := by decide +kernel
set_option maxRecDepth 65536 in
theorem w_case : (Jvm.Cond.and given_1 narrow_1).before args0 about1 = true := by decide +kernel
set_option maxRecDepth 65536 in
theorem w_consts : constsHeld consts_1 about1 := Jvm.Lit.constsHeldB_iff.mp (by decide +kernel)
theorem w_applies : (headSpec (Jvm.Cond.code x code maxLocals ret :: tables_1) room_1).applies x e0.platform about1 = true :=
  (Spec.applies_iff w_frames).mpr ⟨w_running, w_runnable, w_alone, w_named, w_hears, w_ripe, w_room, w_tables⟩
theorem atStart : AtStart classFile x code maxLocals ret World_1 tables_1 room_1 Calls_1 rest_1 Pre_1 launch0 p0 e0 about1 theMethod args0 below0 :=
  ⟨lists_1, trivial, launch0.admits_env _ _ _, launch0.least_env, fairChoices_fair.cas, fairChoices_fair.clock, w_frames, w_args, w_heap, w_applies, ⟨w_consts, trivial⟩, w_rest, w_case⟩
end start1
theorem witness_1 : WitnessClaimed_1 := ⟨start1.p0, start1.e0, start1.about1, start1.theMethod, start1.args0, start1.below0, start1.atStart⟩
end Jvm.Pilot.@@N@@
