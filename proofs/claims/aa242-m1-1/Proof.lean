import JvmDerived
import JvmDerived.Pilot.@@N@@Statement
import JvmDerived.Pilot.@@N@@Code
set_option linter.unusedVariables false
set_option linter.unusedSimpArgs false
namespace Jvm.RoadKit
open Sem ClassFile Op Lib Jvm.Stand Jvm.Free Jvm.LawKit
section New
variable {p : Program} {l : Launch} {e : Env} {R : Room} {s : State} {m : MethodId} {args : Array Value} {below : List Frame} {meth : Method} {c : Code} {T : State} {locs : List Loc} {cells slots : Nat}
theorem retI (X : Stand p l e R s m args below meth c T locs cells slots) (hx : p.tables.exec = Jvm.exec) {pc : Nat} {Ls : Array Slot} {z : Int32} {rest : List Value} (hret : meth.sig.returnType = some .int) (hd : decode c.code pc = .ok (.ireturn, 1)) {fs : List Frame}
    (hl : ∀ (f : JFrame) (acts : List Action), f.method = m → f.locked = none → f.entered = [] → (doReturn e (T.setTop f) acts (some (.int z))).1 = T.setFrames fs) : Steps p.tables e below (T.setTop (mkF m pc Ls (.int z :: rest))) (T.setFrames fs) := by
  have hm' : T.vm.method? m = some meth := X.method'
  have hn : narrow .int (.int z) = .int z := rfl
  show Steps p.tables e below (T.setTop { method := m, pc := pc, locals := Ls, stack := _ :: rest, locked := none }) _
  jvm_step X.here [X.here.top, hx, hd, hm', hret, hn]
  first | (intro acts; rw [hl _ acts rfl rfl rfl]) | rw [hl _ _ rfl rfl rfl]
  exact Steps.refl _
end New
end Jvm.RoadKit
namespace Jvm.Pilot.@@N@@
open Jvm Jvm.ClassFile Sem Op Lib Jvm.Free Jvm.Stand Jvm.LawKit Jvm.RoadKit Bundle Jvm.Pilot.@@N@@.Jvm.D
theorem own_i {L : List Jvm.Cond} {a0 : Array Value} {Z : State} (hw : ∀ d ∈ L, d.before a0 Z = true) (i : Nat) {d : Jvm.Cond} (h : L[i]? = some d) : d.before a0 Z = true := hw _ (List.mem_of_getElem? h)
theorem d1_0 : decode jdk_42_method_139_code 0 = .ok (.getstatic 38, 3) := by decide +kernel
theorem d1_3 : decode jdk_42_method_139_code 3 = .ok (.ifCond .eq 23, 3) := by decide +kernel
theorem d1_6 : decode jdk_42_method_139_code 6 = .ok (.iload_n 0, 1) := by decide +kernel
theorem d1_7 : decode jdk_42_method_139_code 7 = .ok (.invokestatic 1015, 3) := by decide +kernel
theorem d1_10 : decode jdk_42_method_139_code 10 = .ok (.ifCond .eq 16, 3) := by decide +kernel
theorem d1_13 : decode jdk_42_method_139_code 13 = .ok (.new 10, 3) := by decide +kernel
theorem d1_16 : decode jdk_42_method_139_code 16 = .ok (.dup, 1) := by decide +kernel
theorem d1_17 : decode jdk_42_method_139_code 17 = .ok (.iload_n 0, 1) := by decide +kernel
theorem d1_18 : decode jdk_42_method_139_code 18 = .ok (.invokestatic 1018, 3) := by decide +kernel
theorem d1_21 : decode jdk_42_method_139_code 21 = .ok (.iconst 0, 1) := by decide +kernel
theorem d1_22 : decode jdk_42_method_139_code 22 = .ok (.invokespecial 209, 3) := by decide +kernel
theorem d1_25 : decode jdk_42_method_139_code 25 = .ok (.areturn, 1) := by decide +kernel
theorem d2_0 : decode jdk_43_method_3_code 0 = .ok (.iload_n 0, 1) := by decide +kernel
theorem d2_1 : decode jdk_43_method_3_code 1 = .ok (.sipush 255, 3) := by decide +kernel
theorem d2_4 : decode jdk_43_method_3_code 4 = .ok (.if_icmp .gt 7, 3) := by decide +kernel
theorem d2_7 : decode jdk_43_method_3_code 7 = .ok (.iconst 1, 1) := by decide +kernel
theorem d2_8 : decode jdk_43_method_3_code 8 = .ok (.goto 4, 3) := by decide +kernel
theorem d2_12 : decode jdk_43_method_3_code 12 = .ok (.ireturn, 1) := by decide +kernel
theorem d3_0 : decode jdk_43_method_46_code 0 = .ok (.iconst 1, 1) := by decide +kernel
theorem d3_1 : decode jdk_43_method_46_code 1 = .ok (.newarray .byte, 2) := by decide +kernel
theorem d3_3 : decode jdk_43_method_46_code 3 = .ok (.dup, 1) := by decide +kernel
theorem d3_4 : decode jdk_43_method_46_code 4 = .ok (.iconst 0, 1) := by decide +kernel
theorem d3_5 : decode jdk_43_method_46_code 5 = .ok (.iload_n 0, 1) := by decide +kernel
theorem d3_6 : decode jdk_43_method_46_code 6 = .ok (.i2b, 1) := by decide +kernel
theorem d3_7 : decode jdk_43_method_46_code 7 = .ok (.bastore, 1) := by decide +kernel
theorem d3_8 : decode jdk_43_method_46_code 8 = .ok (.areturn, 1) := by decide +kernel
theorem d4_0 : decode jdk_42_method_151_code 0 = .ok (.aload_n 0, 1) := by decide +kernel
theorem d4_1 : decode jdk_42_method_151_code 1 = .ok (.invokespecial 1, 3) := by decide +kernel
theorem d4_4 : decode jdk_42_method_151_code 4 = .ok (.aload_n 0, 1) := by decide +kernel
theorem d4_5 : decode jdk_42_method_151_code 5 = .ok (.aload_n 1, 1) := by decide +kernel
theorem d4_6 : decode jdk_42_method_151_code 6 = .ok (.putfield 9, 3) := by decide +kernel
theorem d4_9 : decode jdk_42_method_151_code 9 = .ok (.aload_n 0, 1) := by decide +kernel
theorem d4_10 : decode jdk_42_method_151_code 10 = .ok (.iload_n 2, 1) := by decide +kernel
theorem d4_11 : decode jdk_42_method_151_code 11 = .ok (.putfield 15, 3) := by decide +kernel
theorem d4_14 : decode jdk_42_method_151_code 14 = .ok (.return_, 1) := by decide +kernel
theorem d6_0 : decode prog_72_method_1_code 0 = .ok (.aload_n 0, 1) := by decide +kernel
theorem d6_1 : decode prog_72_method_1_code 1 = .ok (.invokespecial 1, 3) := by decide +kernel
theorem d6_4 : decode prog_72_method_1_code 4 = .ok (.aload_n 0, 1) := by decide +kernel
theorem d6_5 : decode prog_72_method_1_code 5 = .ok (.aload_n 1, 1) := by decide +kernel
theorem d6_6 : decode prog_72_method_1_code 6 = .ok (.ldc 7, 2) := by decide +kernel
theorem d6_8 : decode prog_72_method_1_code 8 = .ok (.invokestatic 9, 3) := by decide +kernel
theorem d6_11 : decode prog_72_method_1_code 11 = .ok (.checkcast 15, 3) := by decide +kernel
theorem d6_14 : decode prog_72_method_1_code 14 = .ok (.putfield 17, 3) := by decide +kernel
theorem d6_17 : decode prog_72_method_1_code 17 = .ok (.aload_n 0, 1) := by decide +kernel
theorem d6_18 : decode prog_72_method_1_code 18 = .ok (.aload_n 2, 1) := by decide +kernel
theorem d6_19 : decode prog_72_method_1_code 19 = .ok (.ldc 22, 2) := by decide +kernel
theorem d6_21 : decode prog_72_method_1_code 21 = .ok (.invokestatic 9, 3) := by decide +kernel
theorem d6_24 : decode prog_72_method_1_code 24 = .ok (.checkcast 15, 3) := by decide +kernel
theorem d6_27 : decode prog_72_method_1_code 27 = .ok (.putfield 24, 3) := by decide +kernel
theorem d6_30 : decode prog_72_method_1_code 30 = .ok (.aload_n 0, 1) := by decide +kernel
theorem d6_31 : decode prog_72_method_1_code 31 = .ok (.iload_n 3, 1) := by decide +kernel
theorem d6_32 : decode prog_72_method_1_code 32 = .ok (.putfield 26, 3) := by decide +kernel
theorem d6_35 : decode prog_72_method_1_code 35 = .ok (.return_, 1) := by decide +kernel
theorem d7_0 : decode jdk_31_method_11_code 0 = .ok (.aload_n 0, 1) := by decide +kernel
theorem d7_1 : decode jdk_31_method_11_code 1 = .ok (.ifnonnull 12, 3) := by decide +kernel
theorem d7_13 : decode jdk_31_method_11_code 13 = .ok (.aload_n 0, 1) := by decide +kernel
theorem d7_14 : decode jdk_31_method_11_code 14 = .ok (.areturn, 1) := by decide +kernel
theorem d8_0 : decode prog_72_method_6_code 0 = .ok (.aload_n 0, 1) := by decide +kernel
theorem d8_1 : decode prog_72_method_6_code 1 = .ok (.getfield 26, 3) := by decide +kernel
theorem d8_4 : decode prog_72_method_6_code 4 = .ok (.ifCond .le 7, 3) := by decide +kernel
theorem d8_7 : decode prog_72_method_6_code 7 = .ok (.iconst 1, 1) := by decide +kernel
theorem d8_8 : decode prog_72_method_6_code 8 = .ok (.goto 4, 3) := by decide +kernel
theorem d8_11 : decode prog_72_method_6_code 11 = .ok (.iconst 0, 1) := by decide +kernel
theorem d8_12 : decode prog_72_method_6_code 12 = .ok (.ireturn, 1) := by decide +kernel
theorem own_atoms {Z : State} {a0 : Array Value} (hw : ∀ d ∈ tables_1, d.before a0 Z = true) : ∀ a ∈ Bundle.stringAtoms, a.before a0 Z = true := by
  intro d hd
  simp only [Bundle.stringAtoms, List.mem_cons, List.not_mem_nil, or_false] at hd
  rcases hd with rfl | rfl | rfl | rfl | rfl | rfl | rfl
  · exact (own_i hw 2 rfl)
  · exact (own_i hw 10 rfl)
  · exact (own_i hw 14 rfl)
  · exact (own_i hw 23 rfl)
  · exact (own_i hw 25 rfl)
  · exact (own_i hw 34 rfl)
  · exact (own_i hw 35 rfl)
def own_rel (w : Int32) : Int32 := if (0 : Int32) < w then 1 else 0
theorem own_c255 (x : Int32) : ¬ ((255 : Int32) < ((x &&& (255 : Int32)).toUInt32.toUInt16.toUInt32.toInt32)) := by
  have t : ∀ k : Fin 256, ¬ ((255 : Int32) < ((Int32.ofNat k.val).toUInt32.toUInt16.toUInt32.toInt32)) := by decide +kernel
  have h : (x &&& 255).toBitVec.toNat < 256 := by
    simp only [Int32.toBitVec_and, BitVec.toNat_and]
    exact Nat.lt_succ_of_le Nat.and_le_right
  have e : (x &&& 255) = Int32.ofNat (x &&& 255).toBitVec.toNat := by
    apply Int32.toBitVec_inj.mp
    show _ = BitVec.ofNat 32 _
    rw [BitVec.ofNat_toNat]; simp
  rw [e]
  exact t ⟨_, h⟩
theorem own_mono {a b : Int32} (h1 : ¬ (b < a)) (h2 : ¬ (own_rel a = (0 : Int32))) : ¬ (own_rel b = (0 : Int32)) := by
  unfold own_rel at *
  rw [Int32.lt_iff_toInt_lt] at h1
  have e0 : (0 : Int32).toInt = 0 := rfl
  by_cases q : (0 : Int32) < a
  · have q2 : (0 : Int32) < b := by rw [Int32.lt_iff_toInt_lt] at *; omega
    rw [if_pos q2]; decide
  · rw [if_neg q] at h2; exact absurd rfl h2
theorem pn_java_lang_StringLatin1 : plainName "java/lang/StringLatin1" = true := by first | (simp [plainName, overriddenIn]; done) | decide +kernel
theorem ef_rm2 (m : MethodId) (x0 : Int32) : entryFrame m #[(.int x0)] 1 = mkF m 0 #[.val (.int x0)] [] := by first | (simp [entryFrame, mkF, argsToLocals, Value.category]; done) | rfl
def Q2 (Z : State) (p1 : Int32) (h0 : Heap) (n0 : Nat) (v : Option Value) (h : Heap) (L : List Loc) : Prop := v = some (.int (1 : Int32)) ∧ Fr n0 L ∧ h = h0
set_option maxRecDepth 65536 in
set_option maxHeartbeats 40000000 in
theorem rm2 (l : Launch) (Z : State) (a0 : Array Value) (hw : ∀ d ∈ tables_1, d.before a0 Z = true) (ws : List Jvm.Cond) (p1 : Int32) (h0 : Heap) (n0 : Nat) (Z0 : n0 ≤ h0.size) (hq : ¬ ((255 : Int32) < p1)) :
    MetFree l (⟨"java/lang/StringLatin1", "canEncode", "(C)Z"⟩ : MethodName) (head1 (Jvm.Cond.code (⟨"java/lang/StringLatin1", "canEncode", "(C)Z"⟩ : MethodName) jdk_43_method_3_code 1 (some .boolean) :: ws) ({ frames := 0, cells := 0, slots := 0, locals := 0 } : Room)) (fun a U => a = #[(.int p1)] ∧ Z.Warmed39 U.vm ∧ U.heap = h0) (fun _ _ _ _ _ => True) (fun _ U o U' => ∃ v L, o = .returned v ∧ Q2 Z p1 h0 n0 v U'.heap L ∧ FrameEnd U o U' L ({ frames := 0, cells := 0, slots := 0, locals := 0 } : Room).cells ({ frames := 0, cells := 0, slots := 0, locals := 0 } : Room).slots) := by
  refine MetFree.of_bodySF (plainFor_of_name pn_java_lang_StringLatin1) hisR ?_
  intro p e s m args below meth c s₁ Bd hml0 hP hK
  obtain ⟨rfl, hZ, hh⟩ := hP
  have hx := Bd.exec
  have hby := Bd.bytes
  have hml : c.maxLocals = 1 := hml0
  have hown : s.vm.findClass "java/lang/StringLatin1" = some m.cls := findClass_of_methodNamed Bd.named
  have hnm := (name_of_methodNamed Bd.named Bd.method).1
  have X0 : Stand p l e ({ frames := 0, cells := 0, slots := 0, locals := 0 } : Room) s m #[(.int p1)] below meth c s₁ [] 0 0 := Stand.of_body Bd
  have e0 : s₁.heap = h0 := by rw [← hh, Bd.state]; rfl
  have N0 := Fr.nil n0
  have pre0 : ∀ t, Steps p.tables e below (s₁.setTop (mkF m 0 #[.val (.int p1)] [])) t → Steps p.tables e below (s₁.setTop (entryFrame m #[(.int p1)] 1)) t := fun t k => castTop (ef_rm2 m p1) k
  have pre101 : ∀ t, Steps p.tables e below (s₁.setTop (mkF m 12 #[.val (.int p1)] [(.int (1 : Int32))])) t → Steps p.tables e below (s₁.setTop (entryFrame m #[(.int p1)] 1)) t := fun t k => pre0 t (by
    show Steps p.tables e below (s₁.setTop (mkF m 0 #[.val (.int p1)] [])) t
    refine XS.iloadN X0.here hx rfl (hb hby d2_0) rfl ?_
    show Steps p.tables e below (s₁.setTop (mkF m 1 #[.val (.int p1)] [(.int p1)])) t
    refine XS.sipush X0.here hx rfl (hb hby d2_1) ?_
    show Steps p.tables e below (s₁.setTop (mkF m 4 #[.val (.int p1)] [(.int (255 : Int32)), (.int p1)])) t
    refine XS.icmpNo X0.here hx rfl (hb hby d2_4) rfl (flt hq).2.2.1 ?_
    show Steps p.tables e below (s₁.setTop (mkF m 7 #[.val (.int p1)] [])) t
    refine XS.iconst X0.here hx rfl (hb hby d2_7) ?_
    show Steps p.tables e below (s₁.setTop (mkF m 8 #[.val (.int p1)] [(.int (1 : Int32))])) t
    refine XS.goto X0.here hx rfl (pc0 := 8) (pc' := 12) rfl (hb hby d2_8) (by decide) (by decide) ?_
    exact k)
  obtain ⟨fs, hr, hrun, hended, hW, hsame⟩ := X0.leave (v := some (.int (1 : Int32))) (fun h => by rw [Bd.returns] at h; cases h)
  refine ⟨_, _, pre101 _ ?_, hrun, hended, _, _, rfl, ?_, ⟨_, rfl⟩, hW, hsame.mono (by decide) (by decide)⟩
  · exact retN X0 hx (t := .boolean) Bd.returns (by simp) (hb hby d2_12) hr
  · show Q2 Z p1 h0 n0 _ s₁.heap _
    rw [e0]
    exact ⟨rfl, N0, rfl⟩
theorem ef_rm3 (m : MethodId) (x0 : Int32) : entryFrame m #[(.int x0)] 1 = mkF m 0 #[.val (.int x0)] [] := by first | (simp [entryFrame, mkF, argsToLocals, Value.category]; done) | rfl
def Q3 (Z : State) (p1 : Int32) (h0 : Heap) (n0 : Nat) (v : Option Value) (h : Heap) (L : List Loc) : Prop := ∃ (b : Addr), v = some (.ref b) ∧ Fr n0 L ∧ Keep h0 h [] ∧ (n0 ≤ b)
set_option maxRecDepth 65536 in
set_option maxHeartbeats 40000000 in
theorem rm3 (l : Launch) (Z : State) (a0 : Array Value) (hw : ∀ d ∈ tables_1, d.before a0 Z = true) (ws : List Jvm.Cond) (p1 : Int32) (h0 : Heap) (n0 : Nat) (Z0 : n0 ≤ h0.size) :
    MetFree l (⟨"java/lang/StringLatin1", "toBytes", "(C)[B"⟩ : MethodName) (head1 (Jvm.Cond.code (⟨"java/lang/StringLatin1", "toBytes", "(C)[B"⟩ : MethodName) jdk_43_method_46_code 1 (some (.array .byte)) :: ws) ({ frames := 0, cells := 1, slots := 1, locals := 0 } : Room)) (fun a U => a = #[(.int p1)] ∧ Z.Warmed39 U.vm ∧ U.heap = h0) (fun _ _ _ _ _ => True) (fun _ U o U' => ∃ v L, o = .returned v ∧ Q3 Z p1 h0 n0 v U'.heap L ∧ FrameEnd U o U' L ({ frames := 0, cells := 1, slots := 1, locals := 0 } : Room).cells ({ frames := 0, cells := 1, slots := 1, locals := 0 } : Room).slots) := by
  refine MetFree.of_bodySF (plainFor_of_name pn_java_lang_StringLatin1) hisR ?_
  intro p e s m args below meth c s₁ Bd hml0 hP hK
  obtain ⟨rfl, hZ, hh⟩ := hP
  have hx := Bd.exec
  have hby := Bd.bytes
  have hml : c.maxLocals = 1 := hml0
  have hown : s.vm.findClass "java/lang/StringLatin1" = some m.cls := findClass_of_methodNamed Bd.named
  have hnm := (name_of_methodNamed Bd.named Bd.method).1
  have X0 : Stand p l e ({ frames := 0, cells := 1, slots := 1, locals := 0 } : Room) s m #[(.int p1)] below meth c s₁ [] 0 0 := Stand.of_body Bd
  have e0 : s₁.heap = h0 := by rw [← hh, Bd.state]; rfl
  have N0 := Fr.nil n0
  have pre0 : ∀ t, Steps p.tables e below (s₁.setTop (mkF m 0 #[.val (.int p1)] [])) t → Steps p.tables e below (s₁.setTop (entryFrame m #[(.int p1)] 1)) t := fun t k => castTop (ef_rm3 m p1) k
  have f101 := Keep.refl h0 []
  obtain ⟨T102, h102, k102, X102, e102, E102, A102, st102⟩ := newP X0 hx hZ (own_i hw 14 rfl) e0 (g := (mkF m 1 #[.val (.int p1)] [(.int (1 : Int32))])) rfl (hb hby d3_1) rfl (by decide) (cap := 1) (by decide) (by decide) (by decide) (by decide)
  obtain ⟨b102, g102⟩ : ∃ z, z = h0.size := ⟨_, rfl⟩
  rw [← g102] at A102 st102
  have ga103 : n0 ≤ b102 := Nat.le_trans Z0 (Nat.le_of_eq g102.symm)
  have sz104 : h0.size ≤ b102 := Nat.le_trans f101.1 (Nat.le_of_eq g102.symm)
  have V102 : Arv Z h102 b102 k102 .byte (1 : Int32) [(.int (0 : Int32))] (.int (0 : Int32)) := (Arv.new A102 (by decide)).pad (pad_rep [] (.int (0 : Int32)) 1)
  have f105 := Nat.le_trans Z0 E102.1
  have f106 := f101.ext E102
  obtain ⟨cl107, Ar107, q107, S107, N107z, H107, G107⟩ := (id V102)
  have hin107 : ¬ ((0 : Int32) < 0 ∨ cl107.slots.size ≤ ((0 : Int32)).toNatClampNeg) := inb_of S107 ⟨by decide, by decide⟩
  obtain ⟨T107, h107, X107, e107, W107, st107⟩ := stB X102 hx hZ e102 Ar107 (j := (0 : Int32)) hin107 (g := (mkF m 7 #[.val (.int p1)] [(.int (p1.toInt8.toInt32)), (.int (0 : Int32)), (.ref b102), (.ref b102)])) rfl rfl (hb hby d3_7)
  have V107 : Arv Z h107 b102 k102 .byte (1 : Int32) [(.int (nar .byte (p1.toInt8.toInt32)))] (.int (0 : Int32)) := Arv.set Ar107 q107 S107 N107z H107 G107 (fits_nar_byte _) W107 0 rfl (Nat.le_of_ble_eq_true rfl)
  have N107 := Fr.snoc X107 N0 ga103
  have f108 := Nat.le_trans f105 (Keep.of_wr W107).1
  have f109 := f106.wr W107 (Or.inr sz104)
  have pre110 : ∀ t, Steps p.tables e below (T107.setTop (mkF m 8 #[.val (.int p1)] [(.ref b102)])) t → Steps p.tables e below (s₁.setTop (entryFrame m #[(.int p1)] 1)) t := fun t k => pre0 t (by
    show Steps p.tables e below (s₁.setTop (mkF m 0 #[.val (.int p1)] [])) t
    refine XS.iconst X0.here hx rfl (hb hby d3_0) ?_
    show Steps p.tables e below (s₁.setTop (mkF m 1 #[.val (.int p1)] [(.int (1 : Int32))])) t
    refine st102 _ ?_
    show Steps p.tables e below (T102.setTop (mkF m 3 #[.val (.int p1)] [(.ref b102)])) t
    refine XS.dup X102.here hx rfl (hb hby d3_3) rfl rfl ?_
    show Steps p.tables e below (T102.setTop (mkF m 4 #[.val (.int p1)] [(.ref b102), (.ref b102)])) t
    refine XS.iconst X102.here hx rfl (hb hby d3_4) ?_
    show Steps p.tables e below (T102.setTop (mkF m 5 #[.val (.int p1)] [(.int (0 : Int32)), (.ref b102), (.ref b102)])) t
    refine XS.iloadN X102.here hx rfl (hb hby d3_5) rfl ?_
    show Steps p.tables e below (T102.setTop (mkF m 6 #[.val (.int p1)] [(.int p1), (.int (0 : Int32)), (.ref b102), (.ref b102)])) t
    refine XS.i2b X102.here hx rfl (hb hby d3_6) rfl ?_
    show Steps p.tables e below (T102.setTop (mkF m 7 #[.val (.int p1)] [(.int (p1.toInt8.toInt32)), (.int (0 : Int32)), (.ref b102), (.ref b102)])) t
    refine st107 _ ?_
    exact k)
  obtain ⟨fs, hr, hrun, hended, hW, hsame⟩ := X107.leave (v := some (.ref b102)) (fun h => by rw [Bd.returns] at h; cases h)
  refine ⟨_, _, pre110 _ ?_, hrun, hended, _, _, rfl, ?_, ⟨_, rfl⟩, hW, hsame.mono (by decide) (by decide)⟩
  · jvm_step X107.here [X107.here.top, hx, (hb hby d3_8), X107.method', Bd.returns, Value.isRef, FieldType.isReference]
    first | (intro acts; rw [hr _ acts rfl rfl rfl]) | rw [hr _ _ rfl rfl rfl]
    exact Steps.refl _
  · show Q3 Z p1 h0 n0 _ T107.heap _
    rw [e107]
    exact ⟨b102, rfl, N107, f109, ga103⟩
theorem pn_java_lang_String : plainName "java/lang/String" = true := by first | (simp [plainName, overriddenIn]; done) | decide +kernel
theorem ef_rm4 (m : MethodId) (x0 : Addr) (x1 : Addr) (x2 : Int32) : entryFrame m #[(.ref x0), (.ref x1), (.int x2)] 3 = mkF m 0 #[.val (.ref x0), .val (.ref x1), .val (.int x2)] [] := by first | (simp [entryFrame, mkF, argsToLocals, Value.category]; done) | rfl
def Q4 (Z : State) (a1 : Addr) (a2 : Addr) (p3 : Int32) (h0 : Heap) (n0 : Nat) (v : Option Value) (h : Heap) (L : List Loc) : Prop := v = none ∧ Fr n0 L ∧ Keep h0 h [a1] ∧ (Exa Z h a1 "java/lang/String")
set_option maxRecDepth 65536 in
set_option maxHeartbeats 40000000 in
theorem rm4 (l : Launch) (Z : State) (a0 : Array Value) (hw : ∀ d ∈ tables_1, d.before a0 Z = true) (ws : List Jvm.Cond) (a1 : Addr) (a2 : Addr) (p3 : Int32) (h0 : Heap) (n0 : Nat) (Z0 : n0 ≤ h0.size) (F1 : Fld Z h0 a1 "java/lang/String" "value" "[B" .null) (F2 : Fld Z h0 a1 "java/lang/String" "coder" "B" (.int (0 : Int32))) (E1 : Exa Z h0 a1 "java/lang/String") (g1 : n0 ≤ a1) :
    MetFree l (⟨"java/lang/String", "<init>", "([BB)V"⟩ : MethodName) (head1 (Jvm.Cond.code (⟨"java/lang/String", "<init>", "([BB)V"⟩ : MethodName) jdk_42_method_151_code 3 none :: ws) ({ frames := 1, cells := 0, slots := 0, locals := 12 } : Room)) (fun a U => a = #[(.ref a1), (.ref a2), (.int p3)] ∧ Z.Warmed39 U.vm ∧ U.heap = h0) (fun _ _ _ _ _ => True) (fun _ U o U' => ∃ v L, o = .returned v ∧ Q4 Z a1 a2 p3 h0 n0 v U'.heap L ∧ FrameEnd U o U' L ({ frames := 1, cells := 0, slots := 0, locals := 12 } : Room).cells ({ frames := 1, cells := 0, slots := 0, locals := 12 } : Room).slots) := by
  refine MetFree.of_bodySF (plainFor_of_name pn_java_lang_String) hisR ?_
  intro p e s m args below meth c s₁ Bd hml0 hP hK
  obtain ⟨rfl, hZ, hh⟩ := hP
  have hx := Bd.exec
  have hby := Bd.bytes
  have hml : c.maxLocals = 3 := hml0
  have hown : s.vm.findClass "java/lang/String" = some m.cls := findClass_of_methodNamed Bd.named
  have hnm := (name_of_methodNamed Bd.named Bd.method).1
  have X0 : Stand p l e ({ frames := 1, cells := 0, slots := 0, locals := 12 } : Room) s m #[(.ref a1), (.ref a2), (.int p3)] below meth c s₁ [] 0 0 := Stand.of_body Bd
  have e0 : s₁.heap = h0 := by rw [← hh, Bd.state]; rfl
  have N0 := Fr.nil n0
  have pre0 : ∀ t, Steps p.tables e below (s₁.setTop (mkF m 0 #[.val (.ref a1), .val (.ref a2), .val (.int p3)] [])) t → Steps p.tables e below (s₁.setTop (entryFrame m #[(.ref a1), (.ref a2), (.int p3)] 3)) t := fun t k => castTop (ef_rm4 m a1 a2 p3) k
  have f101 := Keep.refl h0 [a1]
  obtain ⟨T102, X102, e102, st102⟩ := initO X0 hx hZ hown (own_i hw 19 rfl) (own_i hw 20 rfl) (own_i hw 21 rfl) e0 (g := (mkF m 1 #[.val (.ref a1), .val (.ref a2), .val (.int p3)] [(.ref a1)])) rfl (by rw [hml]; rfl) rfl (hb hby d4_1) (by decide) (W := 0) (by show 2 * 0 + _ ≤ _; exact Nat.le_of_eq rfl) (by decide)
  obtain ⟨T103, h103, X103, e103, W103, st103⟩ := putF X102 hx hZ hown (host := "") (Or.inl (own_i hw 22 rfl)) Via.refl e102 F1 E1 (Or.inr ⟨(own_i hw 23 rfl), rfl, hnm⟩) (own_i hw 10 rfl) (ty := (.array .byte)) (by decide) rfl rfl (g := (mkF m 6 #[.val (.ref a1), .val (.ref a2), .val (.int p3)] [(.ref a2), (.ref a1)])) rfl rfl (hb hby d4_6)
  have Fw103 := F1.same W103
  have N103 := Fr.snoc X103 N0 g1
  have f104 := Nat.le_trans Z0 (Keep.of_wr W103).1
  have f105 := F2.other W103 (Or.inr (slot_ne (Or.inr (own_i hw 25 rfl)) (Or.inr (own_i hw 23 rfl)) (by decide) (t := .byte) (t' := (.array .byte)) (by decide) (by decide)))
  have f106 := E1.wr W103
  have f107 := f101.wr W103 (Or.inl (List.mem_of_getElem? (i := 0) rfl))
  obtain ⟨T108, h108, X108, e108, W108, st108⟩ := putFN X103 hx hZ hown (own_i hw 24 rfl) Via.refl e103 f105 f106 (Or.inr ⟨(own_i hw 25 rfl), rfl, hnm⟩) (own_i hw 10 rfl) (ty := .byte) (v' := (.int (nar .byte p3))) (by decide) rfl (fits_nar_byte _) (g := (mkF m 11 #[.val (.ref a1), .val (.ref a2), .val (.int p3)] [(.int p3), (.ref a1)])) rfl rfl (hb hby d4_11)
  have Fw108 := f105.same W108
  have N108 := Fr.snoc X108 N103 g1
  have f109 := Nat.le_trans f104 (Keep.of_wr W108).1
  have f110 := f106.wr W108
  have f111 := f107.wr W108 (Or.inl (List.mem_of_getElem? (i := 0) rfl))
  have f112 := Fw103.other W108 (Or.inr (slot_ne (Or.inr (own_i hw 23 rfl)) (Or.inr (own_i hw 25 rfl)) (by decide) (t := (.array .byte)) (t' := .byte) (by decide) (by decide)))
  have pre113 : ∀ t, Steps p.tables e below (T108.setTop (mkF m 14 #[.val (.ref a1), .val (.ref a2), .val (.int p3)] [])) t → Steps p.tables e below (s₁.setTop (entryFrame m #[(.ref a1), (.ref a2), (.int p3)] 3)) t := fun t k => pre0 t (by
    show Steps p.tables e below (s₁.setTop (mkF m 0 #[.val (.ref a1), .val (.ref a2), .val (.int p3)] [])) t
    refine XS.aloadN X0.here hx rfl (hb hby d4_0) rfl rfl ?_
    show Steps p.tables e below (s₁.setTop (mkF m 1 #[.val (.ref a1), .val (.ref a2), .val (.int p3)] [(.ref a1)])) t
    refine st102 _ ?_
    show Steps p.tables e below (T102.setTop (mkF m 4 #[.val (.ref a1), .val (.ref a2), .val (.int p3)] [])) t
    refine XS.aloadN X102.here hx rfl (hb hby d4_4) rfl rfl ?_
    show Steps p.tables e below (T102.setTop (mkF m 5 #[.val (.ref a1), .val (.ref a2), .val (.int p3)] [(.ref a1)])) t
    refine XS.aloadN X102.here hx rfl (hb hby d4_5) rfl rfl ?_
    show Steps p.tables e below (T102.setTop (mkF m 6 #[.val (.ref a1), .val (.ref a2), .val (.int p3)] [(.ref a2), (.ref a1)])) t
    refine st103 _ ?_
    show Steps p.tables e below (T103.setTop (mkF m 9 #[.val (.ref a1), .val (.ref a2), .val (.int p3)] [])) t
    refine XS.aloadN X103.here hx rfl (hb hby d4_9) rfl rfl ?_
    show Steps p.tables e below (T103.setTop (mkF m 10 #[.val (.ref a1), .val (.ref a2), .val (.int p3)] [(.ref a1)])) t
    refine XS.iloadN X103.here hx rfl (hb hby d4_10) rfl ?_
    show Steps p.tables e below (T103.setTop (mkF m 11 #[.val (.ref a1), .val (.ref a2), .val (.int p3)] [(.int p3), (.ref a1)])) t
    refine st108 _ ?_
    exact k)
  obtain ⟨fs, hr, hrun, hended, hW, hsame⟩ := X108.leave (v := none) (fun _ => rfl)
  refine ⟨_, _, pre113 _ ?_, hrun, hended, _, _, rfl, ?_, ⟨_, rfl⟩, hW, hsame.mono (by decide) (by decide)⟩
  · exact X108.returnOut hx Bd.returns (hb hby d4_14) hr
  · show Q4 Z a1 a2 p3 h0 n0 _ T108.heap _
    rw [e108]
    exact ⟨rfl, N108, f111, f110⟩
theorem pd_0 : parseMethodDescriptor "(C)Z" = some ⟨[.char], some .boolean⟩ := by decide +kernel
theorem pd_1 : parseMethodDescriptor "(C)[B" = some ⟨[.char], some (.array .byte)⟩ := by decide +kernel
theorem pd_2 : parseMethodDescriptor "([BB)V" = some ⟨[(.array .byte), .byte], none⟩ := by decide +kernel
theorem ef_rm1 (m : MethodId) (x0 : Int32) : entryFrame m #[(.int x0)] 1 = mkF m 0 #[.val (.int x0)] [] := by first | (simp [entryFrame, mkF, argsToLocals, Value.category]; done) | rfl
def Q1 (Z : State) (p1 : Int32) (cs : Int32) (h0 : Heap) (n0 : Nat) (v : Option Value) (h : Heap) (L : List Loc) : Prop := ∃ (b : Addr), v = some (.ref b) ∧ Fr n0 L ∧ Keep h0 h [] ∧ (n0 ≤ b) ∧ (Exa Z h b "java/lang/String")
set_option maxRecDepth 65536 in
set_option maxHeartbeats 40000000 in
theorem rm1 (l : Launch) (Z : State) (a0 : Array Value) (hw : ∀ d ∈ tables_1, d.before a0 Z = true) (ws : List Jvm.Cond) (p1 : Int32) (cs : Int32) (h0 : Heap) (n0 : Nat) (Z0 : n0 ≤ h0.size) (SC : Sta Z h0 "java/lang/String" "COMPACT_STRINGS" "Z" (.int cs)) (hcs : ¬ (cs = (0 : Int32))) (hq : ¬ ((255 : Int32) < p1)) :
    MetFree l (⟨"java/lang/String", "valueOf", "(C)Ljava/lang/String;"⟩ : MethodName) (head1 (Jvm.Cond.code (⟨"java/lang/String", "valueOf", "(C)Ljava/lang/String;"⟩ : MethodName) jdk_42_method_139_code 1 (some (.object "java/lang/String")) :: ws) ({ frames := 2, cells := 2, slots := 5, locals := 27 } : Room)) (fun a U => a = #[(.int p1)] ∧ Z.Warmed39 U.vm ∧ U.heap = h0) (fun _ _ _ _ _ => True) (fun _ U o U' => ∃ v L, o = .returned v ∧ Q1 Z p1 cs h0 n0 v U'.heap L ∧ FrameEnd U o U' L ({ frames := 2, cells := 2, slots := 5, locals := 27 } : Room).cells ({ frames := 2, cells := 2, slots := 5, locals := 27 } : Room).slots) := by
  refine MetFree.of_bodySF (plainFor_of_name pn_java_lang_String) hisR ?_
  intro p e s m args below meth c s₁ Bd hml0 hP hK
  obtain ⟨rfl, hZ, hh⟩ := hP
  have hx := Bd.exec
  have hby := Bd.bytes
  have hml : c.maxLocals = 1 := hml0
  have hown : s.vm.findClass "java/lang/String" = some m.cls := findClass_of_methodNamed Bd.named
  have hnm := (name_of_methodNamed Bd.named Bd.method).1
  have X0 : Stand p l e ({ frames := 2, cells := 2, slots := 5, locals := 27 } : Room) s m #[(.int p1)] below meth c s₁ [] 0 0 := Stand.of_body Bd
  have e0 : s₁.heap = h0 := by rw [← hh, Bd.state]; rfl
  have N0 := Fr.nil n0
  have pre0 : ∀ t, Steps p.tables e below (s₁.setTop (mkF m 0 #[.val (.int p1)] [])) t → Steps p.tables e below (s₁.setTop (entryFrame m #[(.int p1)] 1)) t := fun t k => castTop (ef_rm1 m p1) k
  have f101 := Keep.refl h0 []
  obtain ⟨T102, X102, e102, st102⟩ := getS2 X0 hx hZ hown (host := "") (Or.inl (own_i hw 4 rfl)) Via.refl e0 SC (g := (mkF m 0 #[.val (.int p1)] [])) rfl (hb hby d1_0)
  obtain ⟨_, _, ⟨T103, L103, k103, n103⟩, -, X103, ⟨Lc103, hQ103, l103, y103, z103⟩, st103⟩ := Jvm.LawKit.callS X102 hx (y := (⟨"java/lang/StringLatin1", "canEncode", "(C)Z"⟩ : MethodName)) hown (mvT hZ (own_i hw 5 rfl)) (mvT hZ (own_i hw 6 rfl)) (mvT hZ (own_i hw 7 rfl)) (mvT hZ (own_i hw 8 rfl)) (by decide) (backOf (W := 0) (rm2 l Z a0 hw [] p1 h0 n0 Z0 hq) hZ (own_i hw 8 rfl) (own_i hw 7 rfl) (by decide) (by decide)) (g := (mkF m 7 #[.val (.int p1)] [(.int p1)])) rfl (by rw [hml]; rfl) (argsL := [(.int p1)]) (rest := []) (lenOf pd_0 rfl) rfl (by show 2 * 0 + _ ≤ _; exact Nat.le_of_eq rfl) (hb hby d1_7) (fun _ _ => ⟨rfl, e102, (by decide : 0 + 0 ≤ _), (by decide : 0 + 0 ≤ _)⟩)
  dsimp only [Pt.U, Pt.locs, Pt.cells, Pt.slots] at X103 l103 y103 z103 st103 hQ103
  subst l103 y103 z103
  obtain ⟨rfl, N103q, e103⟩ := hQ103
  have N103 := Fr.app N0 N103q
  obtain ⟨T104, h104, X104, e104, E104, A104, D104, -, st104⟩ := newO X103 hx hZ hown (own_i hw 9 rfl) (own_i hw 10 rfl) (own_i hw 2 rfl) e103 (g := (mkF m 13 #[.val (.int p1)] [])) rfl (hb hby d1_13) (by decide) (by decide)
  obtain ⟨b104, g104⟩ : ∃ z, z = h0.size := ⟨_, rfl⟩
  rw [← g104] at A104 D104 st104
  have ga105 : n0 ≤ b104 := Nat.le_trans Z0 (Nat.le_of_eq g104.symm)
  have sz106 : h0.size ≤ b104 := Nat.le_trans f101.1 (Nat.le_of_eq g104.symm)
  have f107 : Fld Z h104 b104 "java/lang/String" "value" "[B" .null := D104 (Or.inr (own_i hw 23 rfl)) (ty := (.array .byte)) (by decide)
  have f108 : Fld Z h104 b104 "java/lang/String" "coder" "B" (.int (0 : Int32)) := D104 (Or.inr (own_i hw 25 rfl)) (ty := .byte) (by decide)
  have f109 := Nat.le_trans Z0 E104.1
  have f110 := SC.ext E104
  have f111 := f101.ext E104
  obtain ⟨_, _, ⟨T112, L112, k112, n112⟩, -, X112, ⟨Lc112, hQ112, l112, y112, z112⟩, st112⟩ := Jvm.LawKit.callS X104 hx (y := (⟨"java/lang/StringLatin1", "toBytes", "(C)[B"⟩ : MethodName)) hown (mvT hZ (own_i hw 11 rfl)) (mvT hZ (own_i hw 12 rfl)) (mvT hZ (own_i hw 7 rfl)) (mvT hZ (own_i hw 13 rfl)) (by decide) (backOf (W := 2) (rm3 l Z a0 hw [] p1 h104 n0 f109 ) hZ (own_i hw 13 rfl) (own_i hw 7 rfl) (by decide) (by decide)) (g := (mkF m 18 #[.val (.int p1)] [(.int p1), (.ref b104), (.ref b104)])) rfl (by rw [hml]; rfl) (argsL := [(.int p1)]) (rest := [(.ref b104), (.ref b104)]) (lenOf pd_1 rfl) rfl (by show 2 * 0 + _ ≤ _; exact Nat.le_of_eq rfl) (hb hby d1_18) (fun _ _ => ⟨rfl, e104, (by decide : 1 + 1 ≤ _), (by decide : 4 + 1 ≤ _)⟩)
  dsimp only [Pt.U, Pt.locs, Pt.cells, Pt.slots] at X112 l112 y112 z112 st112 hQ112
  subst l112 y112 z112
  obtain ⟨b113, rfl, N112q, K112, f114⟩ := hQ112
  have N112 := Fr.app N103 N112q
  have f115 := Nat.le_trans f109 K112.1
  have f116 := f111.trans K112 all0
  have f117 := A104.keep K112
  have f118 := f107.keep K112 nin0
  have f119 := f108.keep K112 nin0
  obtain ⟨_, _, ⟨T120, L120, k120, n120⟩, -, X120, ⟨Lc120, hQ120, l120, y120, z120⟩, st120⟩ := X112.specialBack hx (y := (⟨"java/lang/String", "<init>", "([BB)V"⟩ : MethodName)) rfl hown (mvT hZ (own_i hw 15 rfl)) (mvT hZ (own_i hw 16 rfl)) (mvT hZ (own_i hw 18 rfl)) (by decide) (backOf (W := 1) (rm4 l Z a0 hw [] b104 b113 (0 : Int32) T112.heap n0 f115 f118 f119 f117 ga105) hZ (own_i hw 18 rfl) (own_i hw 2 rfl) (by decide) (by decide)) (g := (mkF m 22 #[.val (.int p1)] [(.int (0 : Int32)), (.ref b113), (.ref b104), (.ref b104)])) rfl (by rw [hml]; rfl) (Steps.refl _) (a := b104) (argsL := [(.ref b113), (.int (0 : Int32))]) (rest := [(.ref b104)]) (lenOf pd_2 rfl) rfl (by show 2 * 0 + _ ≤ _; exact Nat.le_of_eq rfl) (hb hby d1_22) (fun _ _ => ⟨rfl, rfl, (by decide : 2 + 0 ≤ _), (by decide : 5 + 0 ≤ _)⟩)
  dsimp only [Pt.U, Pt.locs, Pt.cells, Pt.slots] at X120 l120 y120 z120 st120 hQ120
  subst l120 y120 z120
  obtain ⟨rfl, N120q, K120, f121⟩ := hQ120
  have N120 := Fr.app N112 N120q
  have f122 := Nat.le_trans f115 K120.1
  have f123 := f116.trans K120 (allS (Or.inr sz106) all0)
  have pre124 : ∀ t, Steps p.tables e below (T120.setTop (mkF m 25 #[.val (.int p1)] [(.ref b104)])) t → Steps p.tables e below (s₁.setTop (entryFrame m #[(.int p1)] 1)) t := fun t k => pre0 t (by
    show Steps p.tables e below (s₁.setTop (mkF m 0 #[.val (.int p1)] [])) t
    refine st102 _ ?_
    show Steps p.tables e below (T102.setTop (mkF m 3 #[.val (.int p1)] [(.int cs)])) t
    refine XS.ifNo X102.here hx rfl (hb hby d1_3) rfl ((if0 _ _).trans (feq hcs).1) ?_
    show Steps p.tables e below (T102.setTop (mkF m 6 #[.val (.int p1)] [])) t
    refine XS.iloadN X102.here hx rfl (hb hby d1_6) rfl ?_
    show Steps p.tables e below (T102.setTop (mkF m 7 #[.val (.int p1)] [(.int p1)])) t
    refine st103 _ ?_
    show Steps p.tables e below (T103.setTop (mkF m 10 #[.val (.int p1)] [(.int (1 : Int32))])) t
    refine XS.ifNo X103.here hx rfl (hb hby d1_10) rfl ((if0 _ _).trans (feq (by decide : ¬ ((1 : Int32) = (0 : Int32)))).1) ?_
    show Steps p.tables e below (T103.setTop (mkF m 13 #[.val (.int p1)] [])) t
    refine st104 _ ?_
    show Steps p.tables e below (T104.setTop (mkF m 16 #[.val (.int p1)] [(.ref b104)])) t
    refine XS.dup X104.here hx rfl (hb hby d1_16) rfl rfl ?_
    show Steps p.tables e below (T104.setTop (mkF m 17 #[.val (.int p1)] [(.ref b104), (.ref b104)])) t
    refine XS.iloadN X104.here hx rfl (hb hby d1_17) rfl ?_
    show Steps p.tables e below (T104.setTop (mkF m 18 #[.val (.int p1)] [(.int p1), (.ref b104), (.ref b104)])) t
    refine st112 _ ?_
    show Steps p.tables e below (T112.setTop (mkF m 21 #[.val (.int p1)] [(.ref b113), (.ref b104), (.ref b104)])) t
    refine XS.iconst X112.here hx rfl (hb hby d1_21) ?_
    show Steps p.tables e below (T112.setTop (mkF m 22 #[.val (.int p1)] [(.int (0 : Int32)), (.ref b113), (.ref b104), (.ref b104)])) t
    refine st120.trans ?_
    exact k)
  obtain ⟨fs, hr, hrun, hended, hW, hsame⟩ := X120.leave (v := some (.ref b104)) (fun h => by rw [Bd.returns] at h; cases h)
  refine ⟨_, _, pre124 _ ?_, hrun, hended, _, _, rfl, ?_, ⟨_, rfl⟩, hW, hsame.mono (by decide) (by decide)⟩
  · jvm_step X120.here [X120.here.top, hx, (hb hby d1_25), X120.method', Bd.returns, Value.isRef, FieldType.isReference]
    first | (intro acts; rw [hr _ acts rfl rfl rfl]) | rw [hr _ _ rfl rfl rfl]
    exact Steps.refl _
  · show Q1 Z p1 cs h0 n0 _ T120.heap _
    exact ⟨b104, rfl, N120, f123, ga105, f121⟩
theorem pn_java_util_Objects : plainName "java/util/Objects" = true := by first | (simp [plainName, overriddenIn]; done) | decide +kernel
theorem ef_rm7 (m : MethodId) (x0 : Addr) (x1 : Addr) : entryFrame m #[(.ref x0), (.ref x1)] 2 = mkF m 0 #[.val (.ref x0), .val (.ref x1)] [] := by first | (simp [entryFrame, mkF, argsToLocals, Value.category]; done) | rfl
def Q7 (Z : State) (a1 : Addr) (a2 : Addr) (h0 : Heap) (n0 : Nat) (v : Option Value) (h : Heap) (L : List Loc) : Prop := v = some (.ref a1) ∧ Fr n0 L ∧ h = h0
set_option maxRecDepth 65536 in
set_option maxHeartbeats 40000000 in
theorem rm7 (l : Launch) (Z : State) (a0 : Array Value) (hw : ∀ d ∈ tables_1, d.before a0 Z = true) (ws : List Jvm.Cond) (a1 : Addr) (a2 : Addr) (h0 : Heap) (n0 : Nat) (Z0 : n0 ≤ h0.size) :
    MetFree l (⟨"java/util/Objects", "requireNonNull", "(Ljava/lang/Object;Ljava/lang/String;)Ljava/lang/Object;"⟩ : MethodName) (head1 (Jvm.Cond.code (⟨"java/util/Objects", "requireNonNull", "(Ljava/lang/Object;Ljava/lang/String;)Ljava/lang/Object;"⟩ : MethodName) jdk_31_method_11_code 2 (some (.object "java/lang/Object")) :: ws) ({ frames := 0, cells := 0, slots := 0, locals := 0 } : Room)) (fun a U => a = #[(.ref a1), (.ref a2)] ∧ Z.Warmed39 U.vm ∧ U.heap = h0) (fun _ _ _ _ _ => True) (fun _ U o U' => ∃ v L, o = .returned v ∧ Q7 Z a1 a2 h0 n0 v U'.heap L ∧ FrameEnd U o U' L ({ frames := 0, cells := 0, slots := 0, locals := 0 } : Room).cells ({ frames := 0, cells := 0, slots := 0, locals := 0 } : Room).slots) := by
  refine MetFree.of_bodySF (plainFor_of_name pn_java_util_Objects) hisR ?_
  intro p e s m args below meth c s₁ Bd hml0 hP hK
  obtain ⟨rfl, hZ, hh⟩ := hP
  have hx := Bd.exec
  have hby := Bd.bytes
  have hml : c.maxLocals = 2 := hml0
  have hown : s.vm.findClass "java/util/Objects" = some m.cls := findClass_of_methodNamed Bd.named
  have hnm := (name_of_methodNamed Bd.named Bd.method).1
  have X0 : Stand p l e ({ frames := 0, cells := 0, slots := 0, locals := 0 } : Room) s m #[(.ref a1), (.ref a2)] below meth c s₁ [] 0 0 := Stand.of_body Bd
  have e0 : s₁.heap = h0 := by rw [← hh, Bd.state]; rfl
  have N0 := Fr.nil n0
  have pre0 : ∀ t, Steps p.tables e below (s₁.setTop (mkF m 0 #[.val (.ref a1), .val (.ref a2)] [])) t → Steps p.tables e below (s₁.setTop (entryFrame m #[(.ref a1), (.ref a2)] 2)) t := fun t k => castTop (ef_rm7 m a1 a2) k
  have pre101 : ∀ t, Steps p.tables e below (s₁.setTop (mkF m 14 #[.val (.ref a1), .val (.ref a2)] [(.ref a1)])) t → Steps p.tables e below (s₁.setTop (entryFrame m #[(.ref a1), (.ref a2)] 2)) t := fun t k => pre0 t (by
    show Steps p.tables e below (s₁.setTop (mkF m 0 #[.val (.ref a1), .val (.ref a2)] [])) t
    refine XS.aloadN X0.here hx rfl (hb hby d7_0) rfl rfl ?_
    show Steps p.tables e below (s₁.setTop (mkF m 1 #[.val (.ref a1), .val (.ref a2)] [(.ref a1)])) t
    refine XS.ifnonnullYes X0.here hx rfl (pc0 := 1) (pc' := 13) rfl (hb hby d7_1) rfl (by decide) (by decide) ?_
    show Steps p.tables e below (s₁.setTop (mkF m 13 #[.val (.ref a1), .val (.ref a2)] [])) t
    refine XS.aloadN X0.here hx rfl (hb hby d7_13) rfl rfl ?_
    exact k)
  obtain ⟨fs, hr, hrun, hended, hW, hsame⟩ := X0.leave (v := some (.ref a1)) (fun h => by rw [Bd.returns] at h; cases h)
  refine ⟨_, _, pre101 _ ?_, hrun, hended, _, _, rfl, ?_, ⟨_, rfl⟩, hW, hsame.mono (by decide) (by decide)⟩
  · jvm_step X0.here [X0.here.top, hx, (hb hby d7_14), X0.method', Bd.returns, Value.isRef, FieldType.isReference]
    first | (intro acts; rw [hr _ acts rfl rfl rfl]) | rw [hr _ _ rfl rfl rfl]
    exact Steps.refl _
  · show Q7 Z a1 a2 h0 n0 _ s₁.heap _
    rw [e0]
    exact ⟨rfl, N0, rfl⟩
theorem pn_com_example_bookish_search_bookishsearch_trec_Judgment : plainName "com/example/bookish_search/bookishsearch/trec/Judgment" = true := by first | (simp [plainName, overriddenIn]; done) | decide +kernel
theorem pd_3 : parseMethodDescriptor "(Ljava/lang/Object;Ljava/lang/String;)Ljava/lang/Object;" = some ⟨[(.object "java/lang/Object"), (.object "java/lang/String")], some (.object "java/lang/Object")⟩ := by decide +kernel
theorem ef_rm6 (m : MethodId) (x0 : Addr) (x1 : Addr) (x2 : Addr) (x3 : Int32) : entryFrame m #[(.ref x0), (.ref x1), (.ref x2), (.int x3)] 4 = mkF m 0 #[.val (.ref x0), .val (.ref x1), .val (.ref x2), .val (.int x3)] [] := by first | (simp [entryFrame, mkF, argsToLocals, Value.category]; done) | rfl
def Q6 (Z : State) (a1 : Addr) (a2 : Addr) (a3 : Addr) (p4 : Int32) (h0 : Heap) (n0 : Nat) (v : Option Value) (h : Heap) (L : List Loc) : Prop := v = none ∧ Fr n0 L ∧ Keep h0 h [a1] ∧ (Exa Z h a1 "com/example/bookish_search/bookishsearch/trec/Judgment") ∧ (Fld Z h a1 "com/example/bookish_search/bookishsearch/trec/Judgment" "level" "I" (.int p4))
set_option maxRecDepth 65536 in
set_option maxHeartbeats 40000000 in
theorem rm6 (l : Launch) (Z : State) (a0 : Array Value) (hw : ∀ d ∈ tables_1, d.before a0 Z = true) (ws : List Jvm.Cond) (a1 : Addr) (a2 : Addr) (a3 : Addr) (p4 : Int32) (h0 : Heap) (n0 : Nat) (Z0 : n0 ≤ h0.size) (F1 : Fld Z h0 a1 "com/example/bookish_search/bookishsearch/trec/Judgment" "topic" "Ljava/lang/String;" .null) (F2 : Fld Z h0 a1 "com/example/bookish_search/bookishsearch/trec/Judgment" "docno" "Ljava/lang/String;" .null) (F3 : Fld Z h0 a1 "com/example/bookish_search/bookishsearch/trec/Judgment" "level" "I" (.int (0 : Int32))) (E1 : Exa Z h0 a1 "com/example/bookish_search/bookishsearch/trec/Judgment") (E2 : Exa Z h0 a2 "java/lang/String") (E3 : Exa Z h0 a3 "java/lang/String") (g1 : n0 ≤ a1) :
    MetFree l (⟨"com/example/bookish_search/bookishsearch/trec/Judgment", "<init>", "(Ljava/lang/String;Ljava/lang/String;I)V"⟩ : MethodName) (head1 (Jvm.Cond.code (⟨"com/example/bookish_search/bookishsearch/trec/Judgment", "<init>", "(Ljava/lang/String;Ljava/lang/String;I)V"⟩ : MethodName) prog_72_method_1_code 4 none :: ws) ({ frames := 1, cells := 4, slots := 48, locals := 14 } : Room)) (fun a U => a = #[(.ref a1), (.ref a2), (.ref a3), (.int p4)] ∧ Z.Warmed39 U.vm ∧ U.heap = h0) (fun _ _ _ _ _ => True) (fun _ U o U' => ∃ v L, o = .returned v ∧ Q6 Z a1 a2 a3 p4 h0 n0 v U'.heap L ∧ ReturnedEndW U o U' L ({ frames := 1, cells := 4, slots := 48, locals := 14 } : Room).cells ({ frames := 1, cells := 4, slots := 48, locals := 14 } : Room).slots) := by
  refine MetFree.of_bodySF (plainFor_of_name pn_com_example_bookish_search_bookishsearch_trec_Judgment) hisR ?_
  intro p e s m args below meth c s₁ Bd hml0 hP hK
  obtain ⟨rfl, hZ, hh⟩ := hP
  have hx := Bd.exec
  have hby := Bd.bytes
  have hml : c.maxLocals = 4 := hml0
  have hown : s.vm.findClass "com/example/bookish_search/bookishsearch/trec/Judgment" = some m.cls := findClass_of_methodNamed Bd.named
  have hnm := (name_of_methodNamed Bd.named Bd.method).1
  have X0 : Stand p l e ({ frames := 1, cells := 4, slots := 48, locals := 14 } : Room) s m #[(.ref a1), (.ref a2), (.ref a3), (.int p4)] below meth c s₁ [] 0 0 := Stand.of_body Bd
  have e0 : s₁.heap = h0 := by rw [← hh, Bd.state]; rfl
  have N0 := Fr.nil n0
  have hS0 : s.Since s.vm 0 := (State.WarmedH.refl s).since 0
  have hwS : ∀ a ∈ Bundle.stringAtoms, a.before a0 Z = true := own_atoms hw
  have pre0 : ∀ t, Steps p.tables e below (s₁.setTop (mkF m 0 #[.val (.ref a1), .val (.ref a2), .val (.ref a3), .val (.int p4)] [])) t → Steps p.tables e below (s₁.setTop (entryFrame m #[(.ref a1), (.ref a2), (.ref a3), (.int p4)] 4)) t := fun t k => castTop (ef_rm6 m a1 a2 a3 p4) k
  have f101 := Keep.refl h0 [a1]
  obtain ⟨T102, X102, e102, st102⟩ := initO X0 hx hZ hown (own_i hw 32 rfl) (own_i hw 20 rfl) (own_i hw 21 rfl) e0 (g := (mkF m 1 #[.val (.ref a1), .val (.ref a2), .val (.ref a3), .val (.int p4)] [(.ref a1)])) rfl (by rw [hml]; rfl) rfl (hb hby d6_1) (by decide) (W := 0) (by show 2 * 0 + _ ≤ _; exact Nat.le_of_eq rfl) (by decide)
  obtain ⟨a103, T103, h103, k103, X103, e103, E103, hS103, hk103, hZ103, ho103, st103⟩ := ldcS (s := s) (vm0 := s.vm) X102 hx hZ hown (own_i hw 33 rfl) hwS e102 hS0 (Nat.zero_le _) (g := (mkF m 6 #[.val (.ref a1), .val (.ref a2), .val (.ref a3), .val (.int p4)] [(.ref a2), (.ref a1)])) rfl (hb hby d6_6) (n := 20) (by decide) (by decide) (by decide) (by decide)
  have f104 := Nat.le_trans Z0 E103.1
  have f105 := F1.ext E103
  have f106 := F2.ext E103
  have f107 := F3.ext E103
  have f108 := E1.ext E103
  have f109 := E2.ext E103
  have f110 := E3.ext E103
  have f111 := f101.ext E103
  obtain ⟨_, _, ⟨T112, L112, k112, n112⟩, -, X112, ⟨Lc112, hQ112, l112, y112, z112⟩, st112⟩ := Jvm.LawKit.callS X103 hx (y := (⟨"java/util/Objects", "requireNonNull", "(Ljava/lang/Object;Ljava/lang/String;)Ljava/lang/Object;"⟩ : MethodName)) ho103 (mvT hZ103 (own_i hw 36 rfl)) (mvT hZ103 (own_i hw 37 rfl)) (mvT hZ103 (own_i hw 38 rfl)) (mvT hZ103 (own_i hw 39 rfl)) (by decide) (backOf (W := 1) (rm7 l Z a0 hw [] a2 a103 h103 n0 f104 ) hZ103 (own_i hw 39 rfl) (own_i hw 38 rfl) (by decide) (by decide)) (g := (mkF m 8 #[.val (.ref a1), .val (.ref a2), .val (.ref a3), .val (.int p4)] [(.ref a103), (.ref a2), (.ref a1)])) rfl (by rw [hml]; rfl) (argsL := [(.ref a2), (.ref a103)]) (rest := [(.ref a1)]) (lenOf pd_3 rfl) rfl (by show 2 * 0 + _ ≤ _; exact Nat.le_of_eq rfl) (hb hby d6_8) (fun _ _ => ⟨rfl, e103, (by decide : 2 + 0 ≤ _), (by decide : 24 + 0 ≤ _)⟩)
  dsimp only [Pt.U, Pt.locs, Pt.cells, Pt.slots] at X112 l112 y112 z112 st112 hQ112
  subst l112 y112 z112
  obtain ⟨rfl, N112q, e112⟩ := hQ112
  have N112 := Fr.app N0 N112q
  obtain ⟨T113, X113, e113, st113⟩ := castY X112 hx hZ103 ho103 (own_i hw 40 rfl) e112 (Ins.self f109) (g := (mkF m 11 #[.val (.ref a1), .val (.ref a2), .val (.ref a3), .val (.int p4)] [(.ref a2), (.ref a1)])) rfl rfl (hb hby d6_11)
  obtain ⟨T114, h114, X114, e114, W114, st114⟩ := putF X113 hx hZ103 ho103 (host := "") (Or.inl (own_i hw 41 rfl)) Via.refl e113 f105 f108 (Or.inr ⟨(own_i hw 42 rfl), rfl, hnm⟩) (own_i hw 27 rfl) (ty := (.object "java/lang/String")) (by decide) rfl rfl (g := (mkF m 14 #[.val (.ref a1), .val (.ref a2), .val (.ref a3), .val (.int p4)] [(.ref a2), (.ref a1)])) rfl rfl (hb hby d6_14)
  have Fw114 := f105.same W114
  have N114 := Fr.snoc X114 N112 g1
  have f115 := Nat.le_trans f104 (Keep.of_wr W114).1
  have f116 := f106.other W114 (Or.inr (slot_ne (Or.inr (own_i hw 45 rfl)) (Or.inr (own_i hw 42 rfl)) (by decide) (t := (.object "java/lang/String")) (t' := (.object "java/lang/String")) (by decide) (by decide)))
  have f117 := f107.other W114 (Or.inr (slot_ne (Or.inr (own_i hw 47 rfl)) (Or.inr (own_i hw 42 rfl)) (by decide) (t := .int) (t' := (.object "java/lang/String")) (by decide) (by decide)))
  have f118 := f108.wr W114
  have f119 := f109.wr W114
  have f120 := f110.wr W114
  have f121 := f111.wr W114 (Or.inl (List.mem_of_getElem? (i := 0) rfl))
  have f122 := Nat.le_trans hk103 (Keep.of_wr W114).1
  obtain ⟨a123, T123, h123, k123, X123, e123, E123, hS123, hk123, hZ123, ho123, st123⟩ := ldcS (s := s) (vm0 := T103.vm) X114 hx hZ103 ho103 (own_i hw 43 rfl) hwS e114 hS103 f122 (g := (mkF m 19 #[.val (.ref a1), .val (.ref a2), .val (.ref a3), .val (.int p4)] [(.ref a3), (.ref a1)])) rfl (hb hby d6_19) (n := 20) (by decide) (by decide) (by decide) (by decide)
  have f124 := Nat.le_trans f115 E123.1
  have f125 := f116.ext E123
  have f126 := f117.ext E123
  have f127 := f118.ext E123
  have f128 := f119.ext E123
  have f129 := f120.ext E123
  have f130 := f121.ext E123
  have f131 := Fw114.ext E123
  obtain ⟨_, _, ⟨T132, L132, k132, n132⟩, -, X132, ⟨Lc132, hQ132, l132, y132, z132⟩, st132⟩ := Jvm.LawKit.callS X123 hx (y := (⟨"java/util/Objects", "requireNonNull", "(Ljava/lang/Object;Ljava/lang/String;)Ljava/lang/Object;"⟩ : MethodName)) ho123 (mvT hZ123 (own_i hw 36 rfl)) (mvT hZ123 (own_i hw 37 rfl)) (mvT hZ123 (own_i hw 38 rfl)) (mvT hZ123 (own_i hw 39 rfl)) (by decide) (backOf (W := 1) (rm7 l Z a0 hw [] a3 a123 h123 n0 f124 ) hZ123 (own_i hw 39 rfl) (own_i hw 38 rfl) (by decide) (by decide)) (g := (mkF m 21 #[.val (.ref a1), .val (.ref a2), .val (.ref a3), .val (.int p4)] [(.ref a123), (.ref a3), (.ref a1)])) rfl (by rw [hml]; rfl) (argsL := [(.ref a3), (.ref a123)]) (rest := [(.ref a1)]) (lenOf pd_3 rfl) rfl (by show 2 * 0 + _ ≤ _; exact Nat.le_of_eq rfl) (hb hby d6_21) (fun _ _ => ⟨rfl, e123, (by decide : 4 + 0 ≤ _), (by decide : 48 + 0 ≤ _)⟩)
  dsimp only [Pt.U, Pt.locs, Pt.cells, Pt.slots] at X132 l132 y132 z132 st132 hQ132
  subst l132 y132 z132
  obtain ⟨rfl, N132q, e132⟩ := hQ132
  have N132 := Fr.app N114 N132q
  obtain ⟨T133, X133, e133, st133⟩ := castY X132 hx hZ123 ho123 (own_i hw 40 rfl) e132 (Ins.self f129) (g := (mkF m 24 #[.val (.ref a1), .val (.ref a2), .val (.ref a3), .val (.int p4)] [(.ref a3), (.ref a1)])) rfl rfl (hb hby d6_24)
  obtain ⟨T134, h134, X134, e134, W134, st134⟩ := putF X133 hx hZ123 ho123 (host := "") (Or.inl (own_i hw 44 rfl)) Via.refl e133 f125 f127 (Or.inr ⟨(own_i hw 45 rfl), rfl, hnm⟩) (own_i hw 27 rfl) (ty := (.object "java/lang/String")) (by decide) rfl rfl (g := (mkF m 27 #[.val (.ref a1), .val (.ref a2), .val (.ref a3), .val (.int p4)] [(.ref a3), (.ref a1)])) rfl rfl (hb hby d6_27)
  have Fw134 := f125.same W134
  have N134 := Fr.snoc X134 N132 g1
  have f135 := Nat.le_trans f124 (Keep.of_wr W134).1
  have f136 := f126.other W134 (Or.inr (slot_ne (Or.inr (own_i hw 47 rfl)) (Or.inr (own_i hw 45 rfl)) (by decide) (t := .int) (t' := (.object "java/lang/String")) (by decide) (by decide)))
  have f137 := f127.wr W134
  have f138 := f128.wr W134
  have f139 := f129.wr W134
  have f140 := f130.wr W134 (Or.inl (List.mem_of_getElem? (i := 0) rfl))
  have f141 := f131.other W134 (Or.inr (slot_ne (Or.inr (own_i hw 42 rfl)) (Or.inr (own_i hw 45 rfl)) (by decide) (t := (.object "java/lang/String")) (t' := (.object "java/lang/String")) (by decide) (by decide)))
  have f142 := Nat.le_trans hk123 (Keep.of_wr W134).1
  obtain ⟨T143, h143, X143, e143, W143, st143⟩ := putF X134 hx hZ123 ho123 (host := "") (Or.inl (own_i hw 46 rfl)) Via.refl e134 f136 f137 (Or.inr ⟨(own_i hw 47 rfl), rfl, hnm⟩) (own_i hw 27 rfl) (ty := .int) (by decide) rfl rfl (g := (mkF m 32 #[.val (.ref a1), .val (.ref a2), .val (.ref a3), .val (.int p4)] [(.int p4), (.ref a1)])) rfl rfl (hb hby d6_32)
  have Fw143 := f136.same W143
  have N143 := Fr.snoc X143 N134 g1
  have f144 := Nat.le_trans f135 (Keep.of_wr W143).1
  have f145 := f137.wr W143
  have f146 := f138.wr W143
  have f147 := f139.wr W143
  have f148 := f140.wr W143 (Or.inl (List.mem_of_getElem? (i := 0) rfl))
  have f149 := f141.other W143 (Or.inr (slot_ne (Or.inr (own_i hw 42 rfl)) (Or.inr (own_i hw 47 rfl)) (by decide) (t := (.object "java/lang/String")) (t' := .int) (by decide) (by decide)))
  have f150 := Nat.le_trans f142 (Keep.of_wr W143).1
  have f151 := Fw134.other W143 (Or.inr (slot_ne (Or.inr (own_i hw 45 rfl)) (Or.inr (own_i hw 47 rfl)) (by decide) (t := (.object "java/lang/String")) (t' := .int) (by decide) (by decide)))
  have pre152 : ∀ t, Steps p.tables e below (T143.setTop (mkF m 35 #[.val (.ref a1), .val (.ref a2), .val (.ref a3), .val (.int p4)] [])) t → Steps p.tables e below (s₁.setTop (entryFrame m #[(.ref a1), (.ref a2), (.ref a3), (.int p4)] 4)) t := fun t k => pre0 t (by
    show Steps p.tables e below (s₁.setTop (mkF m 0 #[.val (.ref a1), .val (.ref a2), .val (.ref a3), .val (.int p4)] [])) t
    refine XS.aloadN X0.here hx rfl (hb hby d6_0) rfl rfl ?_
    show Steps p.tables e below (s₁.setTop (mkF m 1 #[.val (.ref a1), .val (.ref a2), .val (.ref a3), .val (.int p4)] [(.ref a1)])) t
    refine st102 _ ?_
    show Steps p.tables e below (T102.setTop (mkF m 4 #[.val (.ref a1), .val (.ref a2), .val (.ref a3), .val (.int p4)] [])) t
    refine XS.aloadN X102.here hx rfl (hb hby d6_4) rfl rfl ?_
    show Steps p.tables e below (T102.setTop (mkF m 5 #[.val (.ref a1), .val (.ref a2), .val (.ref a3), .val (.int p4)] [(.ref a1)])) t
    refine XS.aloadN X102.here hx rfl (hb hby d6_5) rfl rfl ?_
    show Steps p.tables e below (T102.setTop (mkF m 6 #[.val (.ref a1), .val (.ref a2), .val (.ref a3), .val (.int p4)] [(.ref a2), (.ref a1)])) t
    refine st103 _ ?_
    show Steps p.tables e below (T103.setTop (mkF m 8 #[.val (.ref a1), .val (.ref a2), .val (.ref a3), .val (.int p4)] [(.ref a103), (.ref a2), (.ref a1)])) t
    refine st112 _ ?_
    show Steps p.tables e below (T112.setTop (mkF m 11 #[.val (.ref a1), .val (.ref a2), .val (.ref a3), .val (.int p4)] [(.ref a2), (.ref a1)])) t
    refine st113 _ ?_
    show Steps p.tables e below (T113.setTop (mkF m 14 #[.val (.ref a1), .val (.ref a2), .val (.ref a3), .val (.int p4)] [(.ref a2), (.ref a1)])) t
    refine st114 _ ?_
    show Steps p.tables e below (T114.setTop (mkF m 17 #[.val (.ref a1), .val (.ref a2), .val (.ref a3), .val (.int p4)] [])) t
    refine XS.aloadN X114.here hx rfl (hb hby d6_17) rfl rfl ?_
    show Steps p.tables e below (T114.setTop (mkF m 18 #[.val (.ref a1), .val (.ref a2), .val (.ref a3), .val (.int p4)] [(.ref a1)])) t
    refine XS.aloadN X114.here hx rfl (hb hby d6_18) rfl rfl ?_
    show Steps p.tables e below (T114.setTop (mkF m 19 #[.val (.ref a1), .val (.ref a2), .val (.ref a3), .val (.int p4)] [(.ref a3), (.ref a1)])) t
    refine st123 _ ?_
    show Steps p.tables e below (T123.setTop (mkF m 21 #[.val (.ref a1), .val (.ref a2), .val (.ref a3), .val (.int p4)] [(.ref a123), (.ref a3), (.ref a1)])) t
    refine st132 _ ?_
    show Steps p.tables e below (T132.setTop (mkF m 24 #[.val (.ref a1), .val (.ref a2), .val (.ref a3), .val (.int p4)] [(.ref a3), (.ref a1)])) t
    refine st133 _ ?_
    show Steps p.tables e below (T133.setTop (mkF m 27 #[.val (.ref a1), .val (.ref a2), .val (.ref a3), .val (.int p4)] [(.ref a3), (.ref a1)])) t
    refine st134 _ ?_
    show Steps p.tables e below (T134.setTop (mkF m 30 #[.val (.ref a1), .val (.ref a2), .val (.ref a3), .val (.int p4)] [])) t
    refine XS.aloadN X134.here hx rfl (hb hby d6_30) rfl rfl ?_
    show Steps p.tables e below (T134.setTop (mkF m 31 #[.val (.ref a1), .val (.ref a2), .val (.ref a3), .val (.int p4)] [(.ref a1)])) t
    refine XS.iloadN X134.here hx rfl (hb hby d6_31) rfl ?_
    show Steps p.tables e below (T134.setTop (mkF m 32 #[.val (.ref a1), .val (.ref a2), .val (.ref a3), .val (.int p4)] [(.int p4), (.ref a1)])) t
    refine st143 _ ?_
    exact k)
  obtain ⟨fs, hr, hrun, hended, hRW⟩ := X143.leaveW hS123 (by rw [e143]; exact f150) (v := none) (fun _ => rfl)
  refine ⟨_, _, pre152 _ ?_, hrun, hended, _, _, rfl, ?_, hRW.1, hRW.2.1, hRW.2.2.1, hRW.2.2.2.mono (by decide) (by decide)⟩
  · exact X143.returnOut hx Bd.returns (hb hby d6_35) hr
  · show Q6 Z a1 a2 a3 p4 h0 n0 _ T143.heap _
    rw [e143]
    exact ⟨rfl, N143, f148, f145, Fw143⟩
theorem ef_rm8 (m : MethodId) (x0 : Addr) : entryFrame m #[(.ref x0)] 1 = mkF m 0 #[.val (.ref x0)] [] := by first | (simp [entryFrame, mkF, argsToLocals, Value.category]; done) | rfl
def Q8 (Z : State) (a1 : Addr) (w : Int32) (h0 : Heap) (n0 : Nat) (v : Option Value) (h : Heap) (L : List Loc) : Prop := v = some (.int (own_rel w)) ∧ Fr n0 L ∧ h = h0
set_option maxRecDepth 65536 in
set_option maxHeartbeats 40000000 in
theorem rm8 (l : Launch) (Z : State) (a0 : Array Value) (hw : ∀ d ∈ tables_1, d.before a0 Z = true) (ws : List Jvm.Cond) (a1 : Addr) (w : Int32) (h0 : Heap) (n0 : Nat) (Z0 : n0 ≤ h0.size) (F1 : Fld Z h0 a1 "com/example/bookish_search/bookishsearch/trec/Judgment" "level" "I" (.int w)) :
    MetFree l (⟨"com/example/bookish_search/bookishsearch/trec/Judgment", "isRelevant", "()Z"⟩ : MethodName) (head1 (Jvm.Cond.code (⟨"com/example/bookish_search/bookishsearch/trec/Judgment", "isRelevant", "()Z"⟩ : MethodName) prog_72_method_6_code 1 (some .boolean) :: ws) ({ frames := 0, cells := 0, slots := 0, locals := 0 } : Room)) (fun a U => a = #[(.ref a1)] ∧ Z.Warmed39 U.vm ∧ U.heap = h0) (fun _ _ _ _ _ => True) (fun _ U o U' => ∃ v L, o = .returned v ∧ Q8 Z a1 w h0 n0 v U'.heap L ∧ FrameEnd U o U' L ({ frames := 0, cells := 0, slots := 0, locals := 0 } : Room).cells ({ frames := 0, cells := 0, slots := 0, locals := 0 } : Room).slots) := by
  refine MetFree.of_bodySF (plainFor_of_name pn_com_example_bookish_search_bookishsearch_trec_Judgment) hisR ?_
  intro p e s m args below meth c s₁ Bd hml0 hP hK
  obtain ⟨rfl, hZ, hh⟩ := hP
  have hx := Bd.exec
  have hby := Bd.bytes
  have hml : c.maxLocals = 1 := hml0
  have hown : s.vm.findClass "com/example/bookish_search/bookishsearch/trec/Judgment" = some m.cls := findClass_of_methodNamed Bd.named
  have hnm := (name_of_methodNamed Bd.named Bd.method).1
  have X0 : Stand p l e ({ frames := 0, cells := 0, slots := 0, locals := 0 } : Room) s m #[(.ref a1)] below meth c s₁ [] 0 0 := Stand.of_body Bd
  have e0 : s₁.heap = h0 := by rw [← hh, Bd.state]; rfl
  have N0 := Fr.nil n0
  have pre0 : ∀ t, Steps p.tables e below (s₁.setTop (mkF m 0 #[.val (.ref a1)] [])) t → Steps p.tables e below (s₁.setTop (entryFrame m #[(.ref a1)] 1)) t := fun t k => castTop (ef_rm8 m a1) k
  obtain ⟨T101, X101, e101, st101⟩ := getF X0 hx hZ hown (host := "") (Or.inl (own_i hw 46 rfl)) Via.refl e0 F1 (g := (mkF m 1 #[.val (.ref a1)] [(.ref a1)])) rfl rfl (hb hby d8_1)
  have pre103 : ∀ t, Steps p.tables e below (T101.setTop (mkF m 4 #[.val (.ref a1)] [(.int w)])) t → Steps p.tables e below (s₁.setTop (entryFrame m #[(.ref a1)] 1)) t := fun t k => pre0 t (by
    show Steps p.tables e below (s₁.setTop (mkF m 0 #[.val (.ref a1)] [])) t
    refine XS.aloadN X0.here hx rfl (hb hby d8_0) rfl rfl ?_
    show Steps p.tables e below (s₁.setTop (mkF m 1 #[.val (.ref a1)] [(.ref a1)])) t
    refine st101 _ ?_
    exact k)
  by_cases hc102 : (0 : Int32) < w
  · have pre104 : ∀ t, Steps p.tables e below (T101.setTop (mkF m 12 #[.val (.ref a1)] [(.int (1 : Int32))])) t → Steps p.tables e below (s₁.setTop (entryFrame m #[(.ref a1)] 1)) t := fun t k => pre103 t (by
      show Steps p.tables e below (T101.setTop (mkF m 4 #[.val (.ref a1)] [(.int w)])) t
      refine XS.ifNo X101.here hx rfl (hb hby d8_4) rfl ((if0 _ _).trans (tlt hc102).2.2.2) ?_
      show Steps p.tables e below (T101.setTop (mkF m 7 #[.val (.ref a1)] [])) t
      refine XS.iconst X101.here hx rfl (hb hby d8_7) ?_
      show Steps p.tables e below (T101.setTop (mkF m 8 #[.val (.ref a1)] [(.int (1 : Int32))])) t
      refine XS.goto X101.here hx rfl (pc0 := 8) (pc' := 12) rfl (hb hby d8_8) (by decide) (by decide) ?_
      exact k)
    obtain ⟨fs, hr, hrun, hended, hW, hsame⟩ := X101.leave (v := some (.int (1 : Int32))) (fun h => by rw [Bd.returns] at h; cases h)
    refine ⟨_, _, pre104 _ ?_, hrun, hended, _, _, rfl, ?_, ⟨_, rfl⟩, hW, hsame.mono (by decide) (by decide)⟩
    · exact retN X101 hx (t := .boolean) Bd.returns (by simp) (hb hby d8_12) hr
    · show Q8 Z a1 w h0 n0 _ T101.heap _
      rw [e101]
      exact ⟨(by simp [own_rel, hc102]), N0, rfl⟩
  · have pre105 : ∀ t, Steps p.tables e below (T101.setTop (mkF m 12 #[.val (.ref a1)] [(.int (0 : Int32))])) t → Steps p.tables e below (s₁.setTop (entryFrame m #[(.ref a1)] 1)) t := fun t k => pre103 t (by
      show Steps p.tables e below (T101.setTop (mkF m 4 #[.val (.ref a1)] [(.int w)])) t
      refine XS.ifYes X101.here hx rfl (pc0 := 4) (pc' := 11) rfl (hb hby d8_4) rfl ((if0 _ _).trans (flt hc102).2.2.2) (by decide) (by decide) ?_
      show Steps p.tables e below (T101.setTop (mkF m 11 #[.val (.ref a1)] [])) t
      refine XS.iconst X101.here hx rfl (hb hby d8_11) ?_
      exact k)
    obtain ⟨fs, hr, hrun, hended, hW, hsame⟩ := X101.leave (v := some (.int (0 : Int32))) (fun h => by rw [Bd.returns] at h; cases h)
    refine ⟨_, _, pre105 _ ?_, hrun, hended, _, _, rfl, ?_, ⟨_, rfl⟩, hW, hsame.mono (by decide) (by decide)⟩
    · exact retN X101 hx (t := .boolean) Bd.returns (by simp) (hb hby d8_12) hr
    · show Q8 Z a1 w h0 n0 _ T101.heap _
      rw [e101]
      exact ⟨(by simp [own_rel, hc102]), N0, rfl⟩
theorem pn_com_example_bookish_search_bookishsearch_trec_JudgmentIsRelevantPinLaw : plainName "com/example/bookish_search/bookishsearch/trec/JudgmentIsRelevantPinLaw" = true := by first | (simp [plainName, overriddenIn]; done) | decide +kernel
theorem pd_4 : parseMethodDescriptor "(C)Ljava/lang/String;" = some ⟨[.char], some (.object "java/lang/String")⟩ := by decide +kernel
theorem pd_5 : parseMethodDescriptor "(Ljava/lang/String;Ljava/lang/String;I)V" = some ⟨[(.object "java/lang/String"), (.object "java/lang/String"), .int], none⟩ := by decide +kernel
theorem pd_6 : parseMethodDescriptor "()Z" = some ⟨[], some .boolean⟩ := by decide +kernel
theorem ef_rm0 (m : MethodId) (x0 : Int32) (x1 : Int32) (x2 : Int32) (x3 : Int32) : entryFrame m #[(.int x0), (.int x1), (.int x2), (.int x3)] maxLocals = mkF m 0 #[.val (.int x0), .val (.int x1), .val (.int x2), .val (.int x3), .unset, .unset, .unset, .unset, .unset, .unset, .unset, .unset, .unset, .unset] [] := by first | (simp [entryFrame, mkF, argsToLocals, Value.category, maxLocals]; done) | rfl
def Q0 (Z : State) (p1 : Int32) (p2 : Int32) (p3 : Int32) (p4 : Int32) (cs : Int32) (h0 : Heap) (n0 : Nat) (v : Option Value) (h : Heap) (L : List Loc) : Prop := v = some (.int 1) ∧ Fr n0 L
set_option maxRecDepth 65536 in
set_option maxHeartbeats 40000000 in
theorem rm0 (l : Launch) (Z : State) (a0 : Array Value) (hw : ∀ d ∈ tables_1, d.before a0 Z = true) (ws : List Jvm.Cond) (p1 : Int32) (p2 : Int32) (p3 : Int32) (p4 : Int32) (cs : Int32) (h0 : Heap) (n0 : Nat) (Z0 : n0 ≤ h0.size) (SC : Sta Z Z.heap "java/lang/String" "COMPACT_STRINGS" "Z" (.int cs)) (hcs : ¬ (cs = (0 : Int32))) (O0 : Old Z n0 h0) :
    MetFree l x (head1 (Jvm.Cond.code x code maxLocals ret :: ws) room_1) (fun a U => a = #[(.int p1), (.int p2), (.int p3), (.int p4)] ∧ Z.Warmed39 U.vm ∧ U.heap = h0) (fun _ _ _ _ _ => True) (fun _ U o U' => ∃ v L, o = .returned v ∧ Q0 Z p1 p2 p3 p4 cs h0 n0 v U'.heap L ∧ ReturnedEndW U o U' L 24 214) := by
  refine MetFree.of_bodySF (plainFor_of_name pn_com_example_bookish_search_bookishsearch_trec_JudgmentIsRelevantPinLaw) hisR ?_
  intro p e s m args below meth c s₁ Bd hml0 hP hK
  obtain ⟨rfl, hZ, hh⟩ := hP
  have hx := Bd.exec
  have hby := Bd.bytes
  have hml : c.maxLocals = 14 := hml0
  have hown : s.vm.findClass "com/example/bookish_search/bookishsearch/trec/JudgmentIsRelevantPinLaw" = some m.cls := findClass_of_methodNamed Bd.named
  have hnm := (name_of_methodNamed Bd.named Bd.method).1
  have X0 : Stand p l e room_1 s m #[(.int p1), (.int p2), (.int p3), (.int p4)] below meth c s₁ [] 0 0 := Stand.of_body Bd
  have e0 : s₁.heap = h0 := by rw [← hh, Bd.state]; rfl
  have N0 := Fr.nil n0
  have hS0 : s.Since s.vm 0 := (State.WarmedH.refl s).since 0
  have hwS : ∀ a ∈ Bundle.stringAtoms, a.before a0 Z = true := own_atoms hw
  have pre0 : ∀ t, Steps p.tables e below (s₁.setTop (mkF m 0 #[.val (.int p1), .val (.int p2), .val (.int p3), .val (.int p4), .unset, .unset, .unset, .unset, .unset, .unset, .unset, .unset, .unset, .unset] [])) t → Steps p.tables e below (s₁.setTop (entryFrame m #[(.int p1), (.int p2), (.int p3), (.int p4)] maxLocals)) t := fun t k => castTop (ef_rm0 m p1 p2 p3 p4) k
  have f101 := Keep.refl h0 []
  obtain ⟨_, _, ⟨T102, L102, k102, n102⟩, -, X102, ⟨Lc102, hQ102, l102, y102, z102⟩, st102⟩ := Jvm.LawKit.callS X0 hx (y := (⟨"java/lang/String", "valueOf", "(C)Ljava/lang/String;"⟩ : MethodName)) hown (mvT hZ (own_i hw 0 rfl)) (mvT hZ (own_i hw 1 rfl)) (mvT hZ (own_i hw 2 rfl)) (mvT hZ (own_i hw 3 rfl)) (by decide) (backOf (W := 0) (rm1 l Z a0 hw [] ((p3 &&& (255 : Int32)).toUInt32.toUInt16.toUInt32.toInt32) cs h0 n0 Z0 (SC.ext O0.2) hcs (own_c255 _)) hZ (own_i hw 3 rfl) (own_i hw 2 rfl) (by decide) (by decide)) (g := (mkF m 6 #[.val (.int p1), .val (.int p2), .val (.int p3), .val (.int p4), .unset, .unset, .unset, .unset, .unset, .unset, .unset, .unset, .unset, .unset] [(.int ((p3 &&& (255 : Int32)).toUInt32.toUInt16.toUInt32.toInt32))])) rfl (by rw [hml]; rfl) (argsL := [(.int ((p3 &&& (255 : Int32)).toUInt32.toUInt16.toUInt32.toInt32))]) (rest := []) (lenOf pd_4 rfl) rfl (by show 2 * 0 + _ ≤ _; exact Nat.le_of_eq rfl) (hb hby at_6) (fun _ _ => ⟨rfl, e0, (by decide : 0 + 2 ≤ _), (by decide : 0 + 5 ≤ _)⟩)
  dsimp only [Pt.U, Pt.locs, Pt.cells, Pt.slots] at X102 l102 y102 z102 st102 hQ102
  subst l102 y102 z102
  obtain ⟨b103, rfl, N102q, K102, f104, f105⟩ := hQ102
  have N102 := Fr.app N0 N102q
  have f106 := Nat.le_trans Z0 K102.1
  have f107 := O0.keep K102 all0
  have f108 := f101.trans K102 all0
  obtain ⟨_, _, ⟨T109, L109, k109, n109⟩, -, X109, ⟨Lc109, hQ109, l109, y109, z109⟩, st109⟩ := Jvm.LawKit.callS X102 hx (y := (⟨"java/lang/String", "valueOf", "(C)Ljava/lang/String;"⟩ : MethodName)) hown (mvT hZ (own_i hw 0 rfl)) (mvT hZ (own_i hw 1 rfl)) (mvT hZ (own_i hw 2 rfl)) (mvT hZ (own_i hw 3 rfl)) (by decide) (backOf (W := 0) (rm1 l Z a0 hw [] ((p4 &&& (255 : Int32)).toUInt32.toUInt16.toUInt32.toInt32) cs T102.heap n0 f106 (SC.ext f107.2) hcs (own_c255 _)) hZ (own_i hw 3 rfl) (own_i hw 2 rfl) (by decide) (by decide)) (g := (mkF m 17 #[.val (.int p1), .val (.int p2), .val (.int p3), .val (.int p4), .val (.ref b103), .unset, .unset, .unset, .unset, .unset, .unset, .unset, .unset, .unset] [(.int ((p4 &&& (255 : Int32)).toUInt32.toUInt16.toUInt32.toInt32))])) rfl (by rw [hml]; rfl) (argsL := [(.int ((p4 &&& (255 : Int32)).toUInt32.toUInt16.toUInt32.toInt32))]) (rest := []) (lenOf pd_4 rfl) rfl (by show 2 * 0 + _ ≤ _; exact Nat.le_of_eq rfl) (hb hby at_17) (fun _ _ => ⟨rfl, rfl, (by decide : 2 + 2 ≤ _), (by decide : 5 + 5 ≤ _)⟩)
  dsimp only [Pt.U, Pt.locs, Pt.cells, Pt.slots] at X109 l109 y109 z109 st109 hQ109
  subst l109 y109 z109
  obtain ⟨b110, rfl, N109q, K109, f111, f112⟩ := hQ109
  have N109 := Fr.app N102 N109q
  have f113 := Nat.le_trans f106 K109.1
  have f114 := f107.keep K109 all0
  have f115 := f108.trans K109 all0
  have f116 := f105.keep K109
  obtain ⟨T117, h117, X117, e117, E117, A117, D117, -, st117⟩ := newO X109 hx hZ hown (own_i hw 26 rfl) (own_i hw 27 rfl) (own_i hw 28 rfl) rfl (g := (mkF m 22 #[.val (.int p1), .val (.int p2), .val (.int p3), .val (.int p4), .val (.ref b103), .val (.ref b110), .unset, .unset, .unset, .unset, .unset, .unset, .unset, .unset] [])) rfl (hb hby at_22) (by decide) (by decide)
  obtain ⟨b117, g117⟩ : ∃ z, z = T109.heap.size := ⟨_, rfl⟩
  rw [← g117] at A117 D117 st117
  have ne118 : b103 ≠ b117 := Nat.ne_of_lt (Nat.lt_of_lt_of_le f116.lt (Nat.le_of_eq g117.symm))
  have ne119 : b110 ≠ b117 := Nat.ne_of_lt (Nat.lt_of_lt_of_le f112.lt (Nat.le_of_eq g117.symm))
  have ga120 : n0 ≤ b117 := Nat.le_trans f113 (Nat.le_of_eq g117.symm)
  have sz121 : h0.size ≤ b117 := Nat.le_trans f115.1 (Nat.le_of_eq g117.symm)
  have f122 : Fld Z h117 b117 "com/example/bookish_search/bookishsearch/trec/Judgment" "topic" "Ljava/lang/String;" .null := D117 (Or.inr (own_i hw 42 rfl)) (ty := (.object "java/lang/String")) (by decide)
  have f123 : Fld Z h117 b117 "com/example/bookish_search/bookishsearch/trec/Judgment" "docno" "Ljava/lang/String;" .null := D117 (Or.inr (own_i hw 45 rfl)) (ty := (.object "java/lang/String")) (by decide)
  have f124 : Fld Z h117 b117 "com/example/bookish_search/bookishsearch/trec/Judgment" "level" "I" (.int (0 : Int32)) := D117 (Or.inr (own_i hw 47 rfl)) (ty := .int) (by decide)
  have f125 := Nat.le_trans f113 E117.1
  have f126 := f114.ext E117
  have f127 := f115.ext E117
  have f128 := f116.ext E117
  have f129 := f112.ext E117
  obtain ⟨_, _, ⟨T130, L130, k130, n130⟩, -, Xw130, hSi130, hgr130, ⟨Lc130, hQ130, l130, y130, z130⟩, st130⟩ := X117.specialBackS hx (y := (⟨"com/example/bookish_search/bookishsearch/trec/Judgment", "<init>", "(Ljava/lang/String;Ljava/lang/String;I)V"⟩ : MethodName)) rfl hown (mvT hZ (own_i hw 29 rfl)) (mvT hZ (own_i hw 30 rfl)) (mvT hZ (own_i hw 31 rfl)) (by decide) (backOfS (W := 1) (rm6 l Z a0 hw [] b117 b103 b110 p1 h117 n0 f125 f122 f123 f124 A117 f128 f129 ga120) hZ (own_i hw 31 rfl) (own_i hw 28 rfl) (by decide) (by decide)) (g := (mkF m 31 #[.val (.int p1), .val (.int p2), .val (.int p3), .val (.int p4), .val (.ref b103), .val (.ref b110), .unset, .unset, .unset, .unset, .unset, .unset, .unset, .unset] [(.int p1), (.ref b110), (.ref b103), (.ref b117), (.ref b117)])) rfl (by rw [hml]; rfl) (Steps.refl _) (a := b117) (argsL := [(.ref b103), (.ref b110), (.int p1)]) (rest := [(.ref b117)]) (lenOf pd_5 rfl) rfl (by show 2 * 0 + _ ≤ _; exact Nat.le_of_eq rfl) (hb hby at_31) (fun _ _ => ⟨rfl, e117, (by decide : 5 + 4 ≤ _), (by decide : 13 + 48 ≤ _)⟩)
  dsimp only [Pt.U, Pt.locs, Pt.cells, Pt.slots] at Xw130 hSi130 hgr130 l130 y130 z130 st130 hQ130
  subst l130 y130 z130
  have hS130 : s.Since T130.vm T130.heap.size := foldS (s := s) (vm0 := s.vm) (T := T117) hS0 (Nat.zero_le _) hSi130 hgr130
  have hZ130 : Z.Warmed39 (s.setVm T130.vm).vm := State.Warmed39.trans (hZ) hS130.1
  have ho130 : (s.setVm T130.vm).vm.findClass "com/example/bookish_search/bookishsearch/trec/JudgmentIsRelevantPinLaw" = some m.cls := by show T130.vm.findClass _ = _; rw [hS130.1.alike.findClass]; exact hown
  have X130 : Stand p l e room_1 (s.setVm T130.vm) m #[(.int p1), (.int p2), (.int p3), (.int p4)] below meth c T130 _ _ _ := Xw130
  obtain ⟨rfl, N130q, K130, f131, f132⟩ := hQ130
  have N130 := Fr.app N109 N130q
  have f133 := Nat.le_trans f125 K130.1
  have f134 := f126.keep K130 (allS ga120 all0)
  have f135 := f127.trans K130 (allS (Or.inr sz121) all0)
  have f136 := f128.keep K130
  have f137 := f129.keep K130
  obtain ⟨T138, h138, X138, e138, E138, A138, D138, -, st138⟩ := newO X130 hx hZ130 ho130 (own_i hw 26 rfl) (own_i hw 27 rfl) (own_i hw 28 rfl) rfl (g := (mkF m 36 #[.val (.int p1), .val (.int p2), .val (.int p3), .val (.int p4), .val (.ref b103), .val (.ref b110), .val (.ref b117), .unset, .unset, .unset, .unset, .unset, .unset, .unset] [])) rfl (hb hby at_36) (by decide) (by decide)
  obtain ⟨b138, g138⟩ : ∃ z, z = T130.heap.size := ⟨_, rfl⟩
  rw [← g138] at A138 D138 st138
  have ne139 : b103 ≠ b138 := Nat.ne_of_lt (Nat.lt_of_lt_of_le f136.lt (Nat.le_of_eq g138.symm))
  have ne140 : b110 ≠ b138 := Nat.ne_of_lt (Nat.lt_of_lt_of_le f137.lt (Nat.le_of_eq g138.symm))
  have ne141 : b117 ≠ b138 := Nat.ne_of_lt (Nat.lt_of_lt_of_le f131.lt (Nat.le_of_eq g138.symm))
  have ga142 : n0 ≤ b138 := Nat.le_trans f133 (Nat.le_of_eq g138.symm)
  have sz143 : h0.size ≤ b138 := Nat.le_trans f135.1 (Nat.le_of_eq g138.symm)
  have f144 : Fld Z h138 b138 "com/example/bookish_search/bookishsearch/trec/Judgment" "topic" "Ljava/lang/String;" .null := D138 (Or.inr (own_i hw 42 rfl)) (ty := (.object "java/lang/String")) (by decide)
  have f145 : Fld Z h138 b138 "com/example/bookish_search/bookishsearch/trec/Judgment" "docno" "Ljava/lang/String;" .null := D138 (Or.inr (own_i hw 45 rfl)) (ty := (.object "java/lang/String")) (by decide)
  have f146 : Fld Z h138 b138 "com/example/bookish_search/bookishsearch/trec/Judgment" "level" "I" (.int (0 : Int32)) := D138 (Or.inr (own_i hw 47 rfl)) (ty := .int) (by decide)
  have f147 := Nat.le_trans f133 E138.1
  have f148 := f134.ext E138
  have f149 := f135.ext E138
  have f150 := f136.ext E138
  have f151 := f137.ext E138
  have f152 := f131.ext E138
  have f153 := f132.ext E138
  have f154 := Nat.le_trans (Nat.le_refl _) E138.1
  obtain ⟨_, _, ⟨T155, L155, k155, n155⟩, -, Xw155, hSi155, hgr155, ⟨Lc155, hQ155, l155, y155, z155⟩, st155⟩ := X138.specialBackS hx (y := (⟨"com/example/bookish_search/bookishsearch/trec/Judgment", "<init>", "(Ljava/lang/String;Ljava/lang/String;I)V"⟩ : MethodName)) rfl ho130 (mvT hZ130 (own_i hw 29 rfl)) (mvT hZ130 (own_i hw 30 rfl)) (mvT hZ130 (own_i hw 31 rfl)) (by decide) (backOfS (W := 1) (rm6 l Z a0 hw [] b138 b110 b103 p2 h138 n0 f147 f144 f145 f146 A138 f151 f150 ga142) hZ130 (own_i hw 31 rfl) (own_i hw 28 rfl) (by decide) (by decide)) (g := (mkF m 45 #[.val (.int p1), .val (.int p2), .val (.int p3), .val (.int p4), .val (.ref b103), .val (.ref b110), .val (.ref b117), .unset, .unset, .unset, .unset, .unset, .unset, .unset] [(.int p2), (.ref b103), (.ref b110), (.ref b138), (.ref b138)])) rfl (by rw [hml]; rfl) (Steps.refl _) (a := b138) (argsL := [(.ref b110), (.ref b103), (.int p2)]) (rest := [(.ref b138)]) (lenOf pd_5 rfl) rfl (by show 2 * 0 + _ ≤ _; exact Nat.le_of_eq rfl) (hb hby at_45) (fun _ _ => ⟨rfl, e138, (by decide : 10 + 4 ≤ _), (by decide : 64 + 48 ≤ _)⟩)
  dsimp only [Pt.U, Pt.locs, Pt.cells, Pt.slots] at Xw155 hSi155 hgr155 l155 y155 z155 st155 hQ155
  subst l155 y155 z155
  have hS155 : s.Since T155.vm T155.heap.size := foldS (s := s) (vm0 := T130.vm) (T := T138) hS130 (by rw [e138]; exact f154) hSi155 hgr155
  have hZ155 : Z.Warmed39 (s.setVm T155.vm).vm := State.Warmed39.trans (hZ) hS155.1
  have ho155 : (s.setVm T155.vm).vm.findClass "com/example/bookish_search/bookishsearch/trec/JudgmentIsRelevantPinLaw" = some m.cls := by show T155.vm.findClass _ = _; rw [hS155.1.alike.findClass]; exact hown
  have X155 : Stand p l e room_1 (s.setVm T155.vm) m #[(.int p1), (.int p2), (.int p3), (.int p4)] below meth c T155 _ _ _ := Xw155
  obtain ⟨rfl, N155q, K155, f156, f157⟩ := hQ155
  have N155 := Fr.app N130 N155q
  have f158 := Nat.le_trans f147 K155.1
  have f159 := f148.keep K155 (allS ga142 all0)
  have f160 := f149.trans K155 (allS (Or.inr sz143) all0)
  have f161 := f150.keep K155
  have f162 := f151.keep K155
  have f163 := f152.keep K155
  have f164 := f153.keep K155 (ninS ne141 nin0)
  have f165 := Nat.le_trans f154 K155.1
  obtain ⟨T166, h166, X166, e166, E166, A166, D166, -, st166⟩ := newO X155 hx hZ155 ho155 (own_i hw 26 rfl) (own_i hw 27 rfl) (own_i hw 28 rfl) rfl (g := (mkF m 50 #[.val (.int p1), .val (.int p2), .val (.int p3), .val (.int p4), .val (.ref b103), .val (.ref b110), .val (.ref b117), .val (.ref b138), .unset, .unset, .unset, .unset, .unset, .unset] [])) rfl (hb hby at_50) (by decide) (by decide)
  obtain ⟨b166, g166⟩ : ∃ z, z = T155.heap.size := ⟨_, rfl⟩
  rw [← g166] at A166 D166 st166
  have ne167 : b103 ≠ b166 := Nat.ne_of_lt (Nat.lt_of_lt_of_le f161.lt (Nat.le_of_eq g166.symm))
  have ne168 : b110 ≠ b166 := Nat.ne_of_lt (Nat.lt_of_lt_of_le f162.lt (Nat.le_of_eq g166.symm))
  have ne169 : b117 ≠ b166 := Nat.ne_of_lt (Nat.lt_of_lt_of_le f163.lt (Nat.le_of_eq g166.symm))
  have ne170 : b138 ≠ b166 := Nat.ne_of_lt (Nat.lt_of_lt_of_le f156.lt (Nat.le_of_eq g166.symm))
  have ga171 : n0 ≤ b166 := Nat.le_trans f158 (Nat.le_of_eq g166.symm)
  have sz172 : h0.size ≤ b166 := Nat.le_trans f160.1 (Nat.le_of_eq g166.symm)
  have f173 : Fld Z h166 b166 "com/example/bookish_search/bookishsearch/trec/Judgment" "topic" "Ljava/lang/String;" .null := D166 (Or.inr (own_i hw 42 rfl)) (ty := (.object "java/lang/String")) (by decide)
  have f174 : Fld Z h166 b166 "com/example/bookish_search/bookishsearch/trec/Judgment" "docno" "Ljava/lang/String;" .null := D166 (Or.inr (own_i hw 45 rfl)) (ty := (.object "java/lang/String")) (by decide)
  have f175 : Fld Z h166 b166 "com/example/bookish_search/bookishsearch/trec/Judgment" "level" "I" (.int (0 : Int32)) := D166 (Or.inr (own_i hw 47 rfl)) (ty := .int) (by decide)
  have f176 := Nat.le_trans f158 E166.1
  have f177 := f159.ext E166
  have f178 := f160.ext E166
  have f179 := f161.ext E166
  have f180 := f162.ext E166
  have f181 := f163.ext E166
  have f182 := f164.ext E166
  have f183 := f156.ext E166
  have f184 := f157.ext E166
  have f185 := Nat.le_trans (Nat.le_refl _) E166.1
  obtain ⟨_, _, ⟨T186, L186, k186, n186⟩, -, Xw186, hSi186, hgr186, ⟨Lc186, hQ186, l186, y186, z186⟩, st186⟩ := X166.specialBackS hx (y := (⟨"com/example/bookish_search/bookishsearch/trec/Judgment", "<init>", "(Ljava/lang/String;Ljava/lang/String;I)V"⟩ : MethodName)) rfl ho155 (mvT hZ155 (own_i hw 29 rfl)) (mvT hZ155 (own_i hw 30 rfl)) (mvT hZ155 (own_i hw 31 rfl)) (by decide) (backOfS (W := 1) (rm6 l Z a0 hw [] b166 b103 b110 (0 : Int32) h166 n0 f176 f173 f174 f175 A166 f179 f180 ga171) hZ155 (own_i hw 31 rfl) (own_i hw 28 rfl) (by decide) (by decide)) (g := (mkF m 59 #[.val (.int p1), .val (.int p2), .val (.int p3), .val (.int p4), .val (.ref b103), .val (.ref b110), .val (.ref b117), .val (.ref b138), .unset, .unset, .unset, .unset, .unset, .unset] [(.int (0 : Int32)), (.ref b110), (.ref b103), (.ref b166), (.ref b166)])) rfl (by rw [hml]; rfl) (Steps.refl _) (a := b166) (argsL := [(.ref b103), (.ref b110), (.int (0 : Int32))]) (rest := [(.ref b166)]) (lenOf pd_5 rfl) rfl (by show 2 * 0 + _ ≤ _; exact Nat.le_of_eq rfl) (hb hby at_59) (fun _ _ => ⟨rfl, e166, (by decide : 15 + 4 ≤ _), (by decide : 115 + 48 ≤ _)⟩)
  dsimp only [Pt.U, Pt.locs, Pt.cells, Pt.slots] at Xw186 hSi186 hgr186 l186 y186 z186 st186 hQ186
  subst l186 y186 z186
  have hS186 : s.Since T186.vm T186.heap.size := foldS (s := s) (vm0 := T155.vm) (T := T166) hS155 (by rw [e166]; exact f185) hSi186 hgr186
  have hZ186 : Z.Warmed39 (s.setVm T186.vm).vm := State.Warmed39.trans (hZ) hS186.1
  have ho186 : (s.setVm T186.vm).vm.findClass "com/example/bookish_search/bookishsearch/trec/JudgmentIsRelevantPinLaw" = some m.cls := by show T186.vm.findClass _ = _; rw [hS186.1.alike.findClass]; exact hown
  have X186 : Stand p l e room_1 (s.setVm T186.vm) m #[(.int p1), (.int p2), (.int p3), (.int p4)] below meth c T186 _ _ _ := Xw186
  obtain ⟨rfl, N186q, K186, f187, f188⟩ := hQ186
  have N186 := Fr.app N155 N186q
  have f189 := Nat.le_trans f176 K186.1
  have f190 := f177.keep K186 (allS ga171 all0)
  have f191 := f178.trans K186 (allS (Or.inr sz172) all0)
  have f192 := f179.keep K186
  have f193 := f180.keep K186
  have f194 := f181.keep K186
  have f195 := f182.keep K186 (ninS ne169 nin0)
  have f196 := f183.keep K186
  have f197 := f184.keep K186 (ninS ne170 nin0)
  have f198 := Nat.le_trans f185 K186.1
  obtain ⟨T199, h199, X199, e199, E199, A199, D199, -, st199⟩ := newO X186 hx hZ186 ho186 (own_i hw 26 rfl) (own_i hw 27 rfl) (own_i hw 28 rfl) rfl (g := (mkF m 64 #[.val (.int p1), .val (.int p2), .val (.int p3), .val (.int p4), .val (.ref b103), .val (.ref b110), .val (.ref b117), .val (.ref b138), .val (.ref b166), .unset, .unset, .unset, .unset, .unset] [])) rfl (hb hby at_64) (by decide) (by decide)
  obtain ⟨b199, g199⟩ : ∃ z, z = T186.heap.size := ⟨_, rfl⟩
  rw [← g199] at A199 D199 st199
  have ne200 : b103 ≠ b199 := Nat.ne_of_lt (Nat.lt_of_lt_of_le f192.lt (Nat.le_of_eq g199.symm))
  have ne201 : b110 ≠ b199 := Nat.ne_of_lt (Nat.lt_of_lt_of_le f193.lt (Nat.le_of_eq g199.symm))
  have ne202 : b117 ≠ b199 := Nat.ne_of_lt (Nat.lt_of_lt_of_le f194.lt (Nat.le_of_eq g199.symm))
  have ne203 : b138 ≠ b199 := Nat.ne_of_lt (Nat.lt_of_lt_of_le f196.lt (Nat.le_of_eq g199.symm))
  have ne204 : b166 ≠ b199 := Nat.ne_of_lt (Nat.lt_of_lt_of_le f187.lt (Nat.le_of_eq g199.symm))
  have ga205 : n0 ≤ b199 := Nat.le_trans f189 (Nat.le_of_eq g199.symm)
  have sz206 : h0.size ≤ b199 := Nat.le_trans f191.1 (Nat.le_of_eq g199.symm)
  have f207 : Fld Z h199 b199 "com/example/bookish_search/bookishsearch/trec/Judgment" "topic" "Ljava/lang/String;" .null := D199 (Or.inr (own_i hw 42 rfl)) (ty := (.object "java/lang/String")) (by decide)
  have f208 : Fld Z h199 b199 "com/example/bookish_search/bookishsearch/trec/Judgment" "docno" "Ljava/lang/String;" .null := D199 (Or.inr (own_i hw 45 rfl)) (ty := (.object "java/lang/String")) (by decide)
  have f209 : Fld Z h199 b199 "com/example/bookish_search/bookishsearch/trec/Judgment" "level" "I" (.int (0 : Int32)) := D199 (Or.inr (own_i hw 47 rfl)) (ty := .int) (by decide)
  have f210 := Nat.le_trans f189 E199.1
  have f211 := f190.ext E199
  have f212 := f191.ext E199
  have f213 := f192.ext E199
  have f214 := f193.ext E199
  have f215 := f194.ext E199
  have f216 := f195.ext E199
  have f217 := f196.ext E199
  have f218 := f197.ext E199
  have f219 := f187.ext E199
  have f220 := f188.ext E199
  have f221 := Nat.le_trans (Nat.le_refl _) E199.1
  obtain ⟨_, _, ⟨T222, L222, k222, n222⟩, -, Xw222, hSi222, hgr222, ⟨Lc222, hQ222, l222, y222, z222⟩, st222⟩ := X199.specialBackS hx (y := (⟨"com/example/bookish_search/bookishsearch/trec/Judgment", "<init>", "(Ljava/lang/String;Ljava/lang/String;I)V"⟩ : MethodName)) rfl ho186 (mvT hZ186 (own_i hw 29 rfl)) (mvT hZ186 (own_i hw 30 rfl)) (mvT hZ186 (own_i hw 31 rfl)) (by decide) (backOfS (W := 1) (rm6 l Z a0 hw [] b199 b110 b103 (1 : Int32) h199 n0 f210 f207 f208 f209 A199 f214 f213 ga205) hZ186 (own_i hw 31 rfl) (own_i hw 28 rfl) (by decide) (by decide)) (g := (mkF m 73 #[.val (.int p1), .val (.int p2), .val (.int p3), .val (.int p4), .val (.ref b103), .val (.ref b110), .val (.ref b117), .val (.ref b138), .val (.ref b166), .unset, .unset, .unset, .unset, .unset] [(.int (1 : Int32)), (.ref b103), (.ref b110), (.ref b199), (.ref b199)])) rfl (by rw [hml]; rfl) (Steps.refl _) (a := b199) (argsL := [(.ref b110), (.ref b103), (.int (1 : Int32))]) (rest := [(.ref b199)]) (lenOf pd_5 rfl) rfl (by show 2 * 0 + _ ≤ _; exact Nat.le_of_eq rfl) (hb hby at_73) (fun _ _ => ⟨rfl, e199, (by decide : 20 + 4 ≤ _), (by decide : 166 + 48 ≤ _)⟩)
  dsimp only [Pt.U, Pt.locs, Pt.cells, Pt.slots] at Xw222 hSi222 hgr222 l222 y222 z222 st222 hQ222
  subst l222 y222 z222
  have hS222 : s.Since T222.vm T222.heap.size := foldS (s := s) (vm0 := T186.vm) (T := T199) hS186 (by rw [e199]; exact f221) hSi222 hgr222
  have hZ222 : Z.Warmed39 (s.setVm T222.vm).vm := State.Warmed39.trans (hZ) hS222.1
  have ho222 : (s.setVm T222.vm).vm.findClass "com/example/bookish_search/bookishsearch/trec/JudgmentIsRelevantPinLaw" = some m.cls := by show T222.vm.findClass _ = _; rw [hS222.1.alike.findClass]; exact hown
  have X222 : Stand p l e room_1 (s.setVm T222.vm) m #[(.int p1), (.int p2), (.int p3), (.int p4)] below meth c T222 _ _ _ := Xw222
  obtain ⟨rfl, N222q, K222, f223, f224⟩ := hQ222
  have N222 := Fr.app N186 N222q
  have f225 := Nat.le_trans f210 K222.1
  have f226 := f211.keep K222 (allS ga205 all0)
  have f227 := f212.trans K222 (allS (Or.inr sz206) all0)
  have f228 := f213.keep K222
  have f229 := f214.keep K222
  have f230 := f215.keep K222
  have f231 := f216.keep K222 (ninS ne202 nin0)
  have f232 := f217.keep K222
  have f233 := f218.keep K222 (ninS ne203 nin0)
  have f234 := f219.keep K222
  have f235 := f220.keep K222 (ninS ne204 nin0)
  have f236 := Nat.le_trans f221 K222.1
  obtain ⟨cq237, kq237, q237a, q237b, q237c⟩ := isOf hZ222 rfl f230
  obtain ⟨_, _, ⟨T237, L237, k237, n237⟩, -, X237, ⟨Lc237, hQ237, l237, y237, z237⟩, st237⟩ := X222.virtualBack hx (y := (⟨"com/example/bookish_search/bookishsearch/trec/Judgment", "isRelevant", "()Z"⟩ : MethodName)) (z := (⟨"com/example/bookish_search/bookishsearch/trec/Judgment", "isRelevant", "()Z"⟩ : MethodName)) ho222 (mvT hZ222 (own_i hw 48 rfl)) (mvT hZ222 (own_i hw 49 rfl)) (notFace_of_selects (args := #[]) (mvT hZ222 (own_i hw 51 rfl))) (mvT hZ222 (own_i hw 51 rfl)) (mvT hZ222 (own_i hw 50 rfl)) (by decide) (backOf (W := 0) (rm8 l Z a0 hw [] b117 p1 T222.heap n0 f225 f231) hZ222 (own_i hw 52 rfl) (own_i hw 28 rfl) (by decide) (by decide)) q237a q237c (g := (mkF m 80 #[.val (.int p1), .val (.int p2), .val (.int p3), .val (.int p4), .val (.ref b103), .val (.ref b110), .val (.ref b117), .val (.ref b138), .val (.ref b166), .val (.ref b199), .unset, .unset, .unset, .unset] [(.ref b117)])) rfl (by rw [hml]; rfl) (Steps.refl _) (argsL := []) (rest := []) (lenOf pd_6 rfl) rfl (by show 2 * 0 + _ ≤ _; exact Nat.le_of_eq rfl) (hb hby at_80) (fun _ _ => ⟨rfl, rfl, (by decide : 24 + 0 ≤ _), (by decide : 214 + 0 ≤ _)⟩)
  dsimp only [Pt.U, Pt.locs, Pt.cells, Pt.slots] at X237 l237 y237 z237 st237 hQ237
  subst l237 y237 z237
  obtain ⟨rfl, N237q, e237⟩ := hQ237
  have N237 := Fr.app N222 N237q
  obtain ⟨cq238, kq238, q238a, q238b, q238c⟩ := isOf hZ222 e237 f232
  obtain ⟨_, _, ⟨T238, L238, k238, n238⟩, -, X238, ⟨Lc238, hQ238, l238, y238, z238⟩, st238⟩ := X237.virtualBack hx (y := (⟨"com/example/bookish_search/bookishsearch/trec/Judgment", "isRelevant", "()Z"⟩ : MethodName)) (z := (⟨"com/example/bookish_search/bookishsearch/trec/Judgment", "isRelevant", "()Z"⟩ : MethodName)) ho222 (mvT hZ222 (own_i hw 48 rfl)) (mvT hZ222 (own_i hw 49 rfl)) (notFace_of_selects (args := #[]) (mvT hZ222 (own_i hw 51 rfl))) (mvT hZ222 (own_i hw 51 rfl)) (mvT hZ222 (own_i hw 50 rfl)) (by decide) (backOf (W := 0) (rm8 l Z a0 hw [] b138 p2 T222.heap n0 f225 f233) hZ222 (own_i hw 52 rfl) (own_i hw 28 rfl) (by decide) (by decide)) q238a q238c (g := (mkF m 87 #[.val (.int p1), .val (.int p2), .val (.int p3), .val (.int p4), .val (.ref b103), .val (.ref b110), .val (.ref b117), .val (.ref b138), .val (.ref b166), .val (.ref b199), .val (.int (own_rel p1)), .unset, .unset, .unset] [(.ref b138)])) rfl (by rw [hml]; rfl) (Steps.refl _) (argsL := []) (rest := []) (lenOf pd_6 rfl) rfl (by show 2 * 0 + _ ≤ _; exact Nat.le_of_eq rfl) (hb hby at_87) (fun _ _ => ⟨rfl, e237, (by decide : 24 + 0 ≤ _), (by decide : 214 + 0 ≤ _)⟩)
  dsimp only [Pt.U, Pt.locs, Pt.cells, Pt.slots] at X238 l238 y238 z238 st238 hQ238
  subst l238 y238 z238
  obtain ⟨rfl, N238q, e238⟩ := hQ238
  have N238 := Fr.app N237 N238q
  obtain ⟨cq239, kq239, q239a, q239b, q239c⟩ := isOf hZ222 e238 f234
  obtain ⟨_, _, ⟨T239, L239, k239, n239⟩, -, X239, ⟨Lc239, hQ239, l239, y239, z239⟩, st239⟩ := X238.virtualBack hx (y := (⟨"com/example/bookish_search/bookishsearch/trec/Judgment", "isRelevant", "()Z"⟩ : MethodName)) (z := (⟨"com/example/bookish_search/bookishsearch/trec/Judgment", "isRelevant", "()Z"⟩ : MethodName)) ho222 (mvT hZ222 (own_i hw 48 rfl)) (mvT hZ222 (own_i hw 49 rfl)) (notFace_of_selects (args := #[]) (mvT hZ222 (own_i hw 51 rfl))) (mvT hZ222 (own_i hw 51 rfl)) (mvT hZ222 (own_i hw 50 rfl)) (by decide) (backOf (W := 0) (rm8 l Z a0 hw [] b166 (0 : Int32) T222.heap n0 f225 f235) hZ222 (own_i hw 52 rfl) (own_i hw 28 rfl) (by decide) (by decide)) q239a q239c (g := (mkF m 94 #[.val (.int p1), .val (.int p2), .val (.int p3), .val (.int p4), .val (.ref b103), .val (.ref b110), .val (.ref b117), .val (.ref b138), .val (.ref b166), .val (.ref b199), .val (.int (own_rel p1)), .val (.int (own_rel p2)), .unset, .unset] [(.ref b166)])) rfl (by rw [hml]; rfl) (Steps.refl _) (argsL := []) (rest := []) (lenOf pd_6 rfl) rfl (by show 2 * 0 + _ ≤ _; exact Nat.le_of_eq rfl) (hb hby at_94) (fun _ _ => ⟨rfl, e238, (by decide : 24 + 0 ≤ _), (by decide : 214 + 0 ≤ _)⟩)
  dsimp only [Pt.U, Pt.locs, Pt.cells, Pt.slots] at X239 l239 y239 z239 st239 hQ239
  subst l239 y239 z239
  obtain ⟨rfl, N239q, e239⟩ := hQ239
  have N239 := Fr.app N238 N239q
  obtain ⟨cq240, kq240, q240a, q240b, q240c⟩ := isOf hZ222 e239 f223
  obtain ⟨_, _, ⟨T240, L240, k240, n240⟩, -, X240, ⟨Lc240, hQ240, l240, y240, z240⟩, st240⟩ := X239.virtualBack hx (y := (⟨"com/example/bookish_search/bookishsearch/trec/Judgment", "isRelevant", "()Z"⟩ : MethodName)) (z := (⟨"com/example/bookish_search/bookishsearch/trec/Judgment", "isRelevant", "()Z"⟩ : MethodName)) ho222 (mvT hZ222 (own_i hw 48 rfl)) (mvT hZ222 (own_i hw 49 rfl)) (notFace_of_selects (args := #[]) (mvT hZ222 (own_i hw 51 rfl))) (mvT hZ222 (own_i hw 51 rfl)) (mvT hZ222 (own_i hw 50 rfl)) (by decide) (backOf (W := 0) (rm8 l Z a0 hw [] b199 (1 : Int32) T222.heap n0 f225 f224) hZ222 (own_i hw 52 rfl) (own_i hw 28 rfl) (by decide) (by decide)) q240a q240c (g := (mkF m 101 #[.val (.int p1), .val (.int p2), .val (.int p3), .val (.int p4), .val (.ref b103), .val (.ref b110), .val (.ref b117), .val (.ref b138), .val (.ref b166), .val (.ref b199), .val (.int (own_rel p1)), .val (.int (own_rel p2)), .val (.int (own_rel (0 : Int32))), .unset] [(.ref b199)])) rfl (by rw [hml]; rfl) (Steps.refl _) (argsL := []) (rest := []) (lenOf pd_6 rfl) rfl (by show 2 * 0 + _ ≤ _; exact Nat.le_of_eq rfl) (hb hby at_101) (fun _ _ => ⟨rfl, e239, (by decide : 24 + 0 ≤ _), (by decide : 214 + 0 ≤ _)⟩)
  dsimp only [Pt.U, Pt.locs, Pt.cells, Pt.slots] at X240 l240 y240 z240 st240 hQ240
  subst l240 y240 z240
  obtain ⟨rfl, N240q, e240⟩ := hQ240
  have N240 := Fr.app N239 N240q
  have hd241 : (own_rel (0 : Int32)) = (0 : Int32) := by decide
  have hd242 : ¬ ((own_rel (1 : Int32)) = (0 : Int32)) := by decide
  have pre244 : ∀ t, Steps p.tables e below (T240.setTop (mkF m 122 #[.val (.int p1), .val (.int p2), .val (.int p3), .val (.int p4), .val (.ref b103), .val (.ref b110), .val (.ref b117), .val (.ref b138), .val (.ref b166), .val (.ref b199), .val (.int (own_rel p1)), .val (.int (own_rel p2)), .val (.int (own_rel (0 : Int32))), .val (.int (own_rel (1 : Int32)))] [(.int p2), (.int p1)])) t → Steps p.tables e below (s₁.setTop (entryFrame m #[(.int p1), (.int p2), (.int p3), (.int p4)] maxLocals)) t := fun t k => pre0 t (by
    show Steps p.tables e below (s₁.setTop (mkF m 0 #[.val (.int p1), .val (.int p2), .val (.int p3), .val (.int p4), .unset, .unset, .unset, .unset, .unset, .unset, .unset, .unset, .unset, .unset] [])) t
    refine XS.iloadN X0.here hx rfl (hb hby at_0) rfl ?_
    show Steps p.tables e below (s₁.setTop (mkF m 1 #[.val (.int p1), .val (.int p2), .val (.int p3), .val (.int p4), .unset, .unset, .unset, .unset, .unset, .unset, .unset, .unset, .unset, .unset] [(.int p3)])) t
    refine XS.sipush X0.here hx rfl (hb hby at_1) ?_
    show Steps p.tables e below (s₁.setTop (mkF m 4 #[.val (.int p1), .val (.int p2), .val (.int p3), .val (.int p4), .unset, .unset, .unset, .unset, .unset, .unset, .unset, .unset, .unset, .unset] [(.int (255 : Int32)), (.int p3)])) t
    refine XS.iand X0.here hx rfl (hb hby at_4) rfl ?_
    show Steps p.tables e below (s₁.setTop (mkF m 5 #[.val (.int p1), .val (.int p2), .val (.int p3), .val (.int p4), .unset, .unset, .unset, .unset, .unset, .unset, .unset, .unset, .unset, .unset] [(.int (p3 &&& (255 : Int32)))])) t
    refine XS.i2c X0.here hx rfl (hb hby at_5) rfl ?_
    show Steps p.tables e below (s₁.setTop (mkF m 6 #[.val (.int p1), .val (.int p2), .val (.int p3), .val (.int p4), .unset, .unset, .unset, .unset, .unset, .unset, .unset, .unset, .unset, .unset] [(.int ((p3 &&& (255 : Int32)).toUInt32.toUInt16.toUInt32.toInt32))])) t
    refine st102 _ ?_
    show Steps p.tables e below (T102.setTop (mkF m 9 #[.val (.int p1), .val (.int p2), .val (.int p3), .val (.int p4), .unset, .unset, .unset, .unset, .unset, .unset, .unset, .unset, .unset, .unset] [(.ref b103)])) t
    refine XS.astore X102.here hx rfl (hb hby at_9) rfl rfl (l' := #[.val (.int p1), .val (.int p2), .val (.int p3), .val (.int p4), .val (.ref b103), .unset, .unset, .unset, .unset, .unset, .unset, .unset, .unset, .unset]) rfl ?_
    show Steps p.tables e below (T102.setTop (mkF m 11 #[.val (.int p1), .val (.int p2), .val (.int p3), .val (.int p4), .val (.ref b103), .unset, .unset, .unset, .unset, .unset, .unset, .unset, .unset, .unset] [])) t
    refine XS.iloadN X102.here hx rfl (hb hby at_11) rfl ?_
    show Steps p.tables e below (T102.setTop (mkF m 12 #[.val (.int p1), .val (.int p2), .val (.int p3), .val (.int p4), .val (.ref b103), .unset, .unset, .unset, .unset, .unset, .unset, .unset, .unset, .unset] [(.int p4)])) t
    refine XS.sipush X102.here hx rfl (hb hby at_12) ?_
    show Steps p.tables e below (T102.setTop (mkF m 15 #[.val (.int p1), .val (.int p2), .val (.int p3), .val (.int p4), .val (.ref b103), .unset, .unset, .unset, .unset, .unset, .unset, .unset, .unset, .unset] [(.int (255 : Int32)), (.int p4)])) t
    refine XS.iand X102.here hx rfl (hb hby at_15) rfl ?_
    show Steps p.tables e below (T102.setTop (mkF m 16 #[.val (.int p1), .val (.int p2), .val (.int p3), .val (.int p4), .val (.ref b103), .unset, .unset, .unset, .unset, .unset, .unset, .unset, .unset, .unset] [(.int (p4 &&& (255 : Int32)))])) t
    refine XS.i2c X102.here hx rfl (hb hby at_16) rfl ?_
    show Steps p.tables e below (T102.setTop (mkF m 17 #[.val (.int p1), .val (.int p2), .val (.int p3), .val (.int p4), .val (.ref b103), .unset, .unset, .unset, .unset, .unset, .unset, .unset, .unset, .unset] [(.int ((p4 &&& (255 : Int32)).toUInt32.toUInt16.toUInt32.toInt32))])) t
    refine st109 _ ?_
    show Steps p.tables e below (T109.setTop (mkF m 20 #[.val (.int p1), .val (.int p2), .val (.int p3), .val (.int p4), .val (.ref b103), .unset, .unset, .unset, .unset, .unset, .unset, .unset, .unset, .unset] [(.ref b110)])) t
    refine XS.astore X109.here hx rfl (hb hby at_20) rfl rfl (l' := #[.val (.int p1), .val (.int p2), .val (.int p3), .val (.int p4), .val (.ref b103), .val (.ref b110), .unset, .unset, .unset, .unset, .unset, .unset, .unset, .unset]) rfl ?_
    show Steps p.tables e below (T109.setTop (mkF m 22 #[.val (.int p1), .val (.int p2), .val (.int p3), .val (.int p4), .val (.ref b103), .val (.ref b110), .unset, .unset, .unset, .unset, .unset, .unset, .unset, .unset] [])) t
    refine st117 _ ?_
    show Steps p.tables e below (T117.setTop (mkF m 25 #[.val (.int p1), .val (.int p2), .val (.int p3), .val (.int p4), .val (.ref b103), .val (.ref b110), .unset, .unset, .unset, .unset, .unset, .unset, .unset, .unset] [(.ref b117)])) t
    refine XS.dup X117.here hx rfl (hb hby at_25) rfl rfl ?_
    show Steps p.tables e below (T117.setTop (mkF m 26 #[.val (.int p1), .val (.int p2), .val (.int p3), .val (.int p4), .val (.ref b103), .val (.ref b110), .unset, .unset, .unset, .unset, .unset, .unset, .unset, .unset] [(.ref b117), (.ref b117)])) t
    refine XS.aload X117.here hx rfl (hb hby at_26) rfl rfl ?_
    show Steps p.tables e below (T117.setTop (mkF m 28 #[.val (.int p1), .val (.int p2), .val (.int p3), .val (.int p4), .val (.ref b103), .val (.ref b110), .unset, .unset, .unset, .unset, .unset, .unset, .unset, .unset] [(.ref b103), (.ref b117), (.ref b117)])) t
    refine XS.aload X117.here hx rfl (hb hby at_28) rfl rfl ?_
    show Steps p.tables e below (T117.setTop (mkF m 30 #[.val (.int p1), .val (.int p2), .val (.int p3), .val (.int p4), .val (.ref b103), .val (.ref b110), .unset, .unset, .unset, .unset, .unset, .unset, .unset, .unset] [(.ref b110), (.ref b103), (.ref b117), (.ref b117)])) t
    refine XS.iloadN X117.here hx rfl (hb hby at_30) rfl ?_
    show Steps p.tables e below (T117.setTop (mkF m 31 #[.val (.int p1), .val (.int p2), .val (.int p3), .val (.int p4), .val (.ref b103), .val (.ref b110), .unset, .unset, .unset, .unset, .unset, .unset, .unset, .unset] [(.int p1), (.ref b110), (.ref b103), (.ref b117), (.ref b117)])) t
    refine st130.trans ?_
    show Steps p.tables e below (T130.setTop (mkF m 34 #[.val (.int p1), .val (.int p2), .val (.int p3), .val (.int p4), .val (.ref b103), .val (.ref b110), .unset, .unset, .unset, .unset, .unset, .unset, .unset, .unset] [(.ref b117)])) t
    refine XS.astore X130.here hx rfl (hb hby at_34) rfl rfl (l' := #[.val (.int p1), .val (.int p2), .val (.int p3), .val (.int p4), .val (.ref b103), .val (.ref b110), .val (.ref b117), .unset, .unset, .unset, .unset, .unset, .unset, .unset]) rfl ?_
    show Steps p.tables e below (T130.setTop (mkF m 36 #[.val (.int p1), .val (.int p2), .val (.int p3), .val (.int p4), .val (.ref b103), .val (.ref b110), .val (.ref b117), .unset, .unset, .unset, .unset, .unset, .unset, .unset] [])) t
    refine st138 _ ?_
    show Steps p.tables e below (T138.setTop (mkF m 39 #[.val (.int p1), .val (.int p2), .val (.int p3), .val (.int p4), .val (.ref b103), .val (.ref b110), .val (.ref b117), .unset, .unset, .unset, .unset, .unset, .unset, .unset] [(.ref b138)])) t
    refine XS.dup X138.here hx rfl (hb hby at_39) rfl rfl ?_
    show Steps p.tables e below (T138.setTop (mkF m 40 #[.val (.int p1), .val (.int p2), .val (.int p3), .val (.int p4), .val (.ref b103), .val (.ref b110), .val (.ref b117), .unset, .unset, .unset, .unset, .unset, .unset, .unset] [(.ref b138), (.ref b138)])) t
    refine XS.aload X138.here hx rfl (hb hby at_40) rfl rfl ?_
    show Steps p.tables e below (T138.setTop (mkF m 42 #[.val (.int p1), .val (.int p2), .val (.int p3), .val (.int p4), .val (.ref b103), .val (.ref b110), .val (.ref b117), .unset, .unset, .unset, .unset, .unset, .unset, .unset] [(.ref b110), (.ref b138), (.ref b138)])) t
    refine XS.aload X138.here hx rfl (hb hby at_42) rfl rfl ?_
    show Steps p.tables e below (T138.setTop (mkF m 44 #[.val (.int p1), .val (.int p2), .val (.int p3), .val (.int p4), .val (.ref b103), .val (.ref b110), .val (.ref b117), .unset, .unset, .unset, .unset, .unset, .unset, .unset] [(.ref b103), (.ref b110), (.ref b138), (.ref b138)])) t
    refine XS.iloadN X138.here hx rfl (hb hby at_44) rfl ?_
    show Steps p.tables e below (T138.setTop (mkF m 45 #[.val (.int p1), .val (.int p2), .val (.int p3), .val (.int p4), .val (.ref b103), .val (.ref b110), .val (.ref b117), .unset, .unset, .unset, .unset, .unset, .unset, .unset] [(.int p2), (.ref b103), (.ref b110), (.ref b138), (.ref b138)])) t
    refine st155.trans ?_
    show Steps p.tables e below (T155.setTop (mkF m 48 #[.val (.int p1), .val (.int p2), .val (.int p3), .val (.int p4), .val (.ref b103), .val (.ref b110), .val (.ref b117), .unset, .unset, .unset, .unset, .unset, .unset, .unset] [(.ref b138)])) t
    refine XS.astore X155.here hx rfl (hb hby at_48) rfl rfl (l' := #[.val (.int p1), .val (.int p2), .val (.int p3), .val (.int p4), .val (.ref b103), .val (.ref b110), .val (.ref b117), .val (.ref b138), .unset, .unset, .unset, .unset, .unset, .unset]) rfl ?_
    show Steps p.tables e below (T155.setTop (mkF m 50 #[.val (.int p1), .val (.int p2), .val (.int p3), .val (.int p4), .val (.ref b103), .val (.ref b110), .val (.ref b117), .val (.ref b138), .unset, .unset, .unset, .unset, .unset, .unset] [])) t
    refine st166 _ ?_
    show Steps p.tables e below (T166.setTop (mkF m 53 #[.val (.int p1), .val (.int p2), .val (.int p3), .val (.int p4), .val (.ref b103), .val (.ref b110), .val (.ref b117), .val (.ref b138), .unset, .unset, .unset, .unset, .unset, .unset] [(.ref b166)])) t
    refine XS.dup X166.here hx rfl (hb hby at_53) rfl rfl ?_
    show Steps p.tables e below (T166.setTop (mkF m 54 #[.val (.int p1), .val (.int p2), .val (.int p3), .val (.int p4), .val (.ref b103), .val (.ref b110), .val (.ref b117), .val (.ref b138), .unset, .unset, .unset, .unset, .unset, .unset] [(.ref b166), (.ref b166)])) t
    refine XS.aload X166.here hx rfl (hb hby at_54) rfl rfl ?_
    show Steps p.tables e below (T166.setTop (mkF m 56 #[.val (.int p1), .val (.int p2), .val (.int p3), .val (.int p4), .val (.ref b103), .val (.ref b110), .val (.ref b117), .val (.ref b138), .unset, .unset, .unset, .unset, .unset, .unset] [(.ref b103), (.ref b166), (.ref b166)])) t
    refine XS.aload X166.here hx rfl (hb hby at_56) rfl rfl ?_
    show Steps p.tables e below (T166.setTop (mkF m 58 #[.val (.int p1), .val (.int p2), .val (.int p3), .val (.int p4), .val (.ref b103), .val (.ref b110), .val (.ref b117), .val (.ref b138), .unset, .unset, .unset, .unset, .unset, .unset] [(.ref b110), (.ref b103), (.ref b166), (.ref b166)])) t
    refine XS.iconst X166.here hx rfl (hb hby at_58) ?_
    show Steps p.tables e below (T166.setTop (mkF m 59 #[.val (.int p1), .val (.int p2), .val (.int p3), .val (.int p4), .val (.ref b103), .val (.ref b110), .val (.ref b117), .val (.ref b138), .unset, .unset, .unset, .unset, .unset, .unset] [(.int (0 : Int32)), (.ref b110), (.ref b103), (.ref b166), (.ref b166)])) t
    refine st186.trans ?_
    show Steps p.tables e below (T186.setTop (mkF m 62 #[.val (.int p1), .val (.int p2), .val (.int p3), .val (.int p4), .val (.ref b103), .val (.ref b110), .val (.ref b117), .val (.ref b138), .unset, .unset, .unset, .unset, .unset, .unset] [(.ref b166)])) t
    refine XS.astore X186.here hx rfl (hb hby at_62) rfl rfl (l' := #[.val (.int p1), .val (.int p2), .val (.int p3), .val (.int p4), .val (.ref b103), .val (.ref b110), .val (.ref b117), .val (.ref b138), .val (.ref b166), .unset, .unset, .unset, .unset, .unset]) rfl ?_
    show Steps p.tables e below (T186.setTop (mkF m 64 #[.val (.int p1), .val (.int p2), .val (.int p3), .val (.int p4), .val (.ref b103), .val (.ref b110), .val (.ref b117), .val (.ref b138), .val (.ref b166), .unset, .unset, .unset, .unset, .unset] [])) t
    refine st199 _ ?_
    show Steps p.tables e below (T199.setTop (mkF m 67 #[.val (.int p1), .val (.int p2), .val (.int p3), .val (.int p4), .val (.ref b103), .val (.ref b110), .val (.ref b117), .val (.ref b138), .val (.ref b166), .unset, .unset, .unset, .unset, .unset] [(.ref b199)])) t
    refine XS.dup X199.here hx rfl (hb hby at_67) rfl rfl ?_
    show Steps p.tables e below (T199.setTop (mkF m 68 #[.val (.int p1), .val (.int p2), .val (.int p3), .val (.int p4), .val (.ref b103), .val (.ref b110), .val (.ref b117), .val (.ref b138), .val (.ref b166), .unset, .unset, .unset, .unset, .unset] [(.ref b199), (.ref b199)])) t
    refine XS.aload X199.here hx rfl (hb hby at_68) rfl rfl ?_
    show Steps p.tables e below (T199.setTop (mkF m 70 #[.val (.int p1), .val (.int p2), .val (.int p3), .val (.int p4), .val (.ref b103), .val (.ref b110), .val (.ref b117), .val (.ref b138), .val (.ref b166), .unset, .unset, .unset, .unset, .unset] [(.ref b110), (.ref b199), (.ref b199)])) t
    refine XS.aload X199.here hx rfl (hb hby at_70) rfl rfl ?_
    show Steps p.tables e below (T199.setTop (mkF m 72 #[.val (.int p1), .val (.int p2), .val (.int p3), .val (.int p4), .val (.ref b103), .val (.ref b110), .val (.ref b117), .val (.ref b138), .val (.ref b166), .unset, .unset, .unset, .unset, .unset] [(.ref b103), (.ref b110), (.ref b199), (.ref b199)])) t
    refine XS.iconst X199.here hx rfl (hb hby at_72) ?_
    show Steps p.tables e below (T199.setTop (mkF m 73 #[.val (.int p1), .val (.int p2), .val (.int p3), .val (.int p4), .val (.ref b103), .val (.ref b110), .val (.ref b117), .val (.ref b138), .val (.ref b166), .unset, .unset, .unset, .unset, .unset] [(.int (1 : Int32)), (.ref b103), (.ref b110), (.ref b199), (.ref b199)])) t
    refine st222.trans ?_
    show Steps p.tables e below (T222.setTop (mkF m 76 #[.val (.int p1), .val (.int p2), .val (.int p3), .val (.int p4), .val (.ref b103), .val (.ref b110), .val (.ref b117), .val (.ref b138), .val (.ref b166), .unset, .unset, .unset, .unset, .unset] [(.ref b199)])) t
    refine XS.astore X222.here hx rfl (hb hby at_76) rfl rfl (l' := #[.val (.int p1), .val (.int p2), .val (.int p3), .val (.int p4), .val (.ref b103), .val (.ref b110), .val (.ref b117), .val (.ref b138), .val (.ref b166), .val (.ref b199), .unset, .unset, .unset, .unset]) rfl ?_
    show Steps p.tables e below (T222.setTop (mkF m 78 #[.val (.int p1), .val (.int p2), .val (.int p3), .val (.int p4), .val (.ref b103), .val (.ref b110), .val (.ref b117), .val (.ref b138), .val (.ref b166), .val (.ref b199), .unset, .unset, .unset, .unset] [])) t
    refine XS.aload X222.here hx rfl (hb hby at_78) rfl rfl ?_
    show Steps p.tables e below (T222.setTop (mkF m 80 #[.val (.int p1), .val (.int p2), .val (.int p3), .val (.int p4), .val (.ref b103), .val (.ref b110), .val (.ref b117), .val (.ref b138), .val (.ref b166), .val (.ref b199), .unset, .unset, .unset, .unset] [(.ref b117)])) t
    refine st237.trans ?_
    show Steps p.tables e below (T237.setTop (mkF m 83 #[.val (.int p1), .val (.int p2), .val (.int p3), .val (.int p4), .val (.ref b103), .val (.ref b110), .val (.ref b117), .val (.ref b138), .val (.ref b166), .val (.ref b199), .unset, .unset, .unset, .unset] [(.int (own_rel p1))])) t
    refine XS.istore X237.here hx rfl (hb hby at_83) rfl (l' := #[.val (.int p1), .val (.int p2), .val (.int p3), .val (.int p4), .val (.ref b103), .val (.ref b110), .val (.ref b117), .val (.ref b138), .val (.ref b166), .val (.ref b199), .val (.int (own_rel p1)), .unset, .unset, .unset]) rfl ?_
    show Steps p.tables e below (T237.setTop (mkF m 85 #[.val (.int p1), .val (.int p2), .val (.int p3), .val (.int p4), .val (.ref b103), .val (.ref b110), .val (.ref b117), .val (.ref b138), .val (.ref b166), .val (.ref b199), .val (.int (own_rel p1)), .unset, .unset, .unset] [])) t
    refine XS.aload X237.here hx rfl (hb hby at_85) rfl rfl ?_
    show Steps p.tables e below (T237.setTop (mkF m 87 #[.val (.int p1), .val (.int p2), .val (.int p3), .val (.int p4), .val (.ref b103), .val (.ref b110), .val (.ref b117), .val (.ref b138), .val (.ref b166), .val (.ref b199), .val (.int (own_rel p1)), .unset, .unset, .unset] [(.ref b138)])) t
    refine st238.trans ?_
    show Steps p.tables e below (T238.setTop (mkF m 90 #[.val (.int p1), .val (.int p2), .val (.int p3), .val (.int p4), .val (.ref b103), .val (.ref b110), .val (.ref b117), .val (.ref b138), .val (.ref b166), .val (.ref b199), .val (.int (own_rel p1)), .unset, .unset, .unset] [(.int (own_rel p2))])) t
    refine XS.istore X238.here hx rfl (hb hby at_90) rfl (l' := #[.val (.int p1), .val (.int p2), .val (.int p3), .val (.int p4), .val (.ref b103), .val (.ref b110), .val (.ref b117), .val (.ref b138), .val (.ref b166), .val (.ref b199), .val (.int (own_rel p1)), .val (.int (own_rel p2)), .unset, .unset]) rfl ?_
    show Steps p.tables e below (T238.setTop (mkF m 92 #[.val (.int p1), .val (.int p2), .val (.int p3), .val (.int p4), .val (.ref b103), .val (.ref b110), .val (.ref b117), .val (.ref b138), .val (.ref b166), .val (.ref b199), .val (.int (own_rel p1)), .val (.int (own_rel p2)), .unset, .unset] [])) t
    refine XS.aload X238.here hx rfl (hb hby at_92) rfl rfl ?_
    show Steps p.tables e below (T238.setTop (mkF m 94 #[.val (.int p1), .val (.int p2), .val (.int p3), .val (.int p4), .val (.ref b103), .val (.ref b110), .val (.ref b117), .val (.ref b138), .val (.ref b166), .val (.ref b199), .val (.int (own_rel p1)), .val (.int (own_rel p2)), .unset, .unset] [(.ref b166)])) t
    refine st239.trans ?_
    show Steps p.tables e below (T239.setTop (mkF m 97 #[.val (.int p1), .val (.int p2), .val (.int p3), .val (.int p4), .val (.ref b103), .val (.ref b110), .val (.ref b117), .val (.ref b138), .val (.ref b166), .val (.ref b199), .val (.int (own_rel p1)), .val (.int (own_rel p2)), .unset, .unset] [(.int (own_rel (0 : Int32)))])) t
    refine XS.istore X239.here hx rfl (hb hby at_97) rfl (l' := #[.val (.int p1), .val (.int p2), .val (.int p3), .val (.int p4), .val (.ref b103), .val (.ref b110), .val (.ref b117), .val (.ref b138), .val (.ref b166), .val (.ref b199), .val (.int (own_rel p1)), .val (.int (own_rel p2)), .val (.int (own_rel (0 : Int32))), .unset]) rfl ?_
    show Steps p.tables e below (T239.setTop (mkF m 99 #[.val (.int p1), .val (.int p2), .val (.int p3), .val (.int p4), .val (.ref b103), .val (.ref b110), .val (.ref b117), .val (.ref b138), .val (.ref b166), .val (.ref b199), .val (.int (own_rel p1)), .val (.int (own_rel p2)), .val (.int (own_rel (0 : Int32))), .unset] [])) t
    refine XS.aload X239.here hx rfl (hb hby at_99) rfl rfl ?_
    show Steps p.tables e below (T239.setTop (mkF m 101 #[.val (.int p1), .val (.int p2), .val (.int p3), .val (.int p4), .val (.ref b103), .val (.ref b110), .val (.ref b117), .val (.ref b138), .val (.ref b166), .val (.ref b199), .val (.int (own_rel p1)), .val (.int (own_rel p2)), .val (.int (own_rel (0 : Int32))), .unset] [(.ref b199)])) t
    refine st240.trans ?_
    show Steps p.tables e below (T240.setTop (mkF m 104 #[.val (.int p1), .val (.int p2), .val (.int p3), .val (.int p4), .val (.ref b103), .val (.ref b110), .val (.ref b117), .val (.ref b138), .val (.ref b166), .val (.ref b199), .val (.int (own_rel p1)), .val (.int (own_rel p2)), .val (.int (own_rel (0 : Int32))), .unset] [(.int (own_rel (1 : Int32)))])) t
    refine XS.istore X240.here hx rfl (hb hby at_104) rfl (l' := #[.val (.int p1), .val (.int p2), .val (.int p3), .val (.int p4), .val (.ref b103), .val (.ref b110), .val (.ref b117), .val (.ref b138), .val (.ref b166), .val (.ref b199), .val (.int (own_rel p1)), .val (.int (own_rel p2)), .val (.int (own_rel (0 : Int32))), .val (.int (own_rel (1 : Int32)))]) rfl ?_
    show Steps p.tables e below (T240.setTop (mkF m 106 #[.val (.int p1), .val (.int p2), .val (.int p3), .val (.int p4), .val (.ref b103), .val (.ref b110), .val (.ref b117), .val (.ref b138), .val (.ref b166), .val (.ref b199), .val (.int (own_rel p1)), .val (.int (own_rel p2)), .val (.int (own_rel (0 : Int32))), .val (.int (own_rel (1 : Int32)))] [])) t
    refine XS.iload X240.here hx rfl (hb hby at_106) rfl ?_
    show Steps p.tables e below (T240.setTop (mkF m 108 #[.val (.int p1), .val (.int p2), .val (.int p3), .val (.int p4), .val (.ref b103), .val (.ref b110), .val (.ref b117), .val (.ref b138), .val (.ref b166), .val (.ref b199), .val (.int (own_rel p1)), .val (.int (own_rel p2)), .val (.int (own_rel (0 : Int32))), .val (.int (own_rel (1 : Int32)))] [(.int (own_rel (0 : Int32)))])) t
    refine XS.ifYes X240.here hx rfl (pc0 := 108) (pc' := 113) rfl (hb hby at_108) rfl ((if0 _ _).trans (teq hd241).1) (by decide) (by decide) ?_
    show Steps p.tables e below (T240.setTop (mkF m 113 #[.val (.int p1), .val (.int p2), .val (.int p3), .val (.int p4), .val (.ref b103), .val (.ref b110), .val (.ref b117), .val (.ref b138), .val (.ref b166), .val (.ref b199), .val (.int (own_rel p1)), .val (.int (own_rel p2)), .val (.int (own_rel (0 : Int32))), .val (.int (own_rel (1 : Int32)))] [])) t
    refine XS.iload X240.here hx rfl (hb hby at_113) rfl ?_
    show Steps p.tables e below (T240.setTop (mkF m 115 #[.val (.int p1), .val (.int p2), .val (.int p3), .val (.int p4), .val (.ref b103), .val (.ref b110), .val (.ref b117), .val (.ref b138), .val (.ref b166), .val (.ref b199), .val (.int (own_rel p1)), .val (.int (own_rel p2)), .val (.int (own_rel (0 : Int32))), .val (.int (own_rel (1 : Int32)))] [(.int (own_rel (1 : Int32)))])) t
    refine XS.ifYes X240.here hx rfl (pc0 := 115) (pc' := 120) rfl (hb hby at_115) rfl ((if0 _ _).trans (feq hd242).2) (by decide) (by decide) ?_
    show Steps p.tables e below (T240.setTop (mkF m 120 #[.val (.int p1), .val (.int p2), .val (.int p3), .val (.int p4), .val (.ref b103), .val (.ref b110), .val (.ref b117), .val (.ref b138), .val (.ref b166), .val (.ref b199), .val (.int (own_rel p1)), .val (.int (own_rel p2)), .val (.int (own_rel (0 : Int32))), .val (.int (own_rel (1 : Int32)))] [])) t
    refine XS.iloadN X240.here hx rfl (hb hby at_120) rfl ?_
    show Steps p.tables e below (T240.setTop (mkF m 121 #[.val (.int p1), .val (.int p2), .val (.int p3), .val (.int p4), .val (.ref b103), .val (.ref b110), .val (.ref b117), .val (.ref b138), .val (.ref b166), .val (.ref b199), .val (.int (own_rel p1)), .val (.int (own_rel p2)), .val (.int (own_rel (0 : Int32))), .val (.int (own_rel (1 : Int32)))] [(.int p1)])) t
    refine XS.iloadN X240.here hx rfl (hb hby at_121) rfl ?_
    exact k)
  by_cases hc243 : p2 < p1
  · have pre245 : ∀ t, Steps p.tables e below (T240.setTop (mkF m 138 #[.val (.int p1), .val (.int p2), .val (.int p3), .val (.int p4), .val (.ref b103), .val (.ref b110), .val (.ref b117), .val (.ref b138), .val (.ref b166), .val (.ref b199), .val (.int (own_rel p1)), .val (.int (own_rel p2)), .val (.int (own_rel (0 : Int32))), .val (.int (own_rel (1 : Int32)))] [(.int (1 : Int32))])) t → Steps p.tables e below (s₁.setTop (entryFrame m #[(.int p1), (.int p2), (.int p3), (.int p4)] maxLocals)) t := fun t k => pre244 t (by
      show Steps p.tables e below (T240.setTop (mkF m 122 #[.val (.int p1), .val (.int p2), .val (.int p3), .val (.int p4), .val (.ref b103), .val (.ref b110), .val (.ref b117), .val (.ref b138), .val (.ref b166), .val (.ref b199), .val (.int (own_rel p1)), .val (.int (own_rel p2)), .val (.int (own_rel (0 : Int32))), .val (.int (own_rel (1 : Int32)))] [(.int p2), (.int p1)])) t
      refine XS.icmpYes X240.here hx rfl (pc0 := 122) (pc' := 137) rfl (hb hby at_122) rfl (tlt hc243).2.2.1 (by decide) (by decide) ?_
      show Steps p.tables e below (T240.setTop (mkF m 137 #[.val (.int p1), .val (.int p2), .val (.int p3), .val (.int p4), .val (.ref b103), .val (.ref b110), .val (.ref b117), .val (.ref b138), .val (.ref b166), .val (.ref b199), .val (.int (own_rel p1)), .val (.int (own_rel p2)), .val (.int (own_rel (0 : Int32))), .val (.int (own_rel (1 : Int32)))] [])) t
      refine XS.iconst X240.here hx rfl (hb hby at_137) ?_
      exact k)
    obtain ⟨fs, hr, hrun, hended, hRW⟩ := X240.leaveW hS222 (by rw [e240]; exact (Nat.le_refl _)) (v := some (.int (1 : Int32))) (fun h => by rw [Bd.returns] at h; cases h)
    refine ⟨_, _, pre245 _ ?_, hrun, hended, _, _, rfl, ?_, hRW.1, hRW.2.1, hRW.2.2.1, hRW.2.2.2.mono (by decide) (by decide)⟩
    · exact retN X240 hx (t := .boolean) Bd.returns (by simp) (hb hby at_138) hr
    · show Q0 Z p1 p2 p3 p4 cs h0 n0 _ T240.heap _
      rw [e240]
      exact ⟨rfl, N240⟩
  · have pre247 : ∀ t, Steps p.tables e below (T240.setTop (mkF m 127 #[.val (.int p1), .val (.int p2), .val (.int p3), .val (.int p4), .val (.ref b103), .val (.ref b110), .val (.ref b117), .val (.ref b138), .val (.ref b166), .val (.ref b199), .val (.int (own_rel p1)), .val (.int (own_rel p2)), .val (.int (own_rel (0 : Int32))), .val (.int (own_rel (1 : Int32)))] [(.int (own_rel p1))])) t → Steps p.tables e below (s₁.setTop (entryFrame m #[(.int p1), (.int p2), (.int p3), (.int p4)] maxLocals)) t := fun t k => pre244 t (by
      show Steps p.tables e below (T240.setTop (mkF m 122 #[.val (.int p1), .val (.int p2), .val (.int p3), .val (.int p4), .val (.ref b103), .val (.ref b110), .val (.ref b117), .val (.ref b138), .val (.ref b166), .val (.ref b199), .val (.int (own_rel p1)), .val (.int (own_rel p2)), .val (.int (own_rel (0 : Int32))), .val (.int (own_rel (1 : Int32)))] [(.int p2), (.int p1)])) t
      refine XS.icmpNo X240.here hx rfl (hb hby at_122) rfl (flt hc243).2.2.1 ?_
      show Steps p.tables e below (T240.setTop (mkF m 125 #[.val (.int p1), .val (.int p2), .val (.int p3), .val (.int p4), .val (.ref b103), .val (.ref b110), .val (.ref b117), .val (.ref b138), .val (.ref b166), .val (.ref b199), .val (.int (own_rel p1)), .val (.int (own_rel p2)), .val (.int (own_rel (0 : Int32))), .val (.int (own_rel (1 : Int32)))] [])) t
      refine XS.iload X240.here hx rfl (hb hby at_125) rfl ?_
      exact k)
    by_cases hc246 : (own_rel p1) = (0 : Int32)
    · have pre248 : ∀ t, Steps p.tables e below (T240.setTop (mkF m 138 #[.val (.int p1), .val (.int p2), .val (.int p3), .val (.int p4), .val (.ref b103), .val (.ref b110), .val (.ref b117), .val (.ref b138), .val (.ref b166), .val (.ref b199), .val (.int (own_rel p1)), .val (.int (own_rel p2)), .val (.int (own_rel (0 : Int32))), .val (.int (own_rel (1 : Int32)))] [(.int (1 : Int32))])) t → Steps p.tables e below (s₁.setTop (entryFrame m #[(.int p1), (.int p2), (.int p3), (.int p4)] maxLocals)) t := fun t k => pre247 t (by
        show Steps p.tables e below (T240.setTop (mkF m 127 #[.val (.int p1), .val (.int p2), .val (.int p3), .val (.int p4), .val (.ref b103), .val (.ref b110), .val (.ref b117), .val (.ref b138), .val (.ref b166), .val (.ref b199), .val (.int (own_rel p1)), .val (.int (own_rel p2)), .val (.int (own_rel (0 : Int32))), .val (.int (own_rel (1 : Int32)))] [(.int (own_rel p1))])) t
        refine XS.ifYes X240.here hx rfl (pc0 := 127) (pc' := 137) rfl (hb hby at_127) rfl ((if0 _ _).trans (teq hc246).1) (by decide) (by decide) ?_
        show Steps p.tables e below (T240.setTop (mkF m 137 #[.val (.int p1), .val (.int p2), .val (.int p3), .val (.int p4), .val (.ref b103), .val (.ref b110), .val (.ref b117), .val (.ref b138), .val (.ref b166), .val (.ref b199), .val (.int (own_rel p1)), .val (.int (own_rel p2)), .val (.int (own_rel (0 : Int32))), .val (.int (own_rel (1 : Int32)))] [])) t
        refine XS.iconst X240.here hx rfl (hb hby at_137) ?_
        exact k)
      obtain ⟨fs, hr, hrun, hended, hRW⟩ := X240.leaveW hS222 (by rw [e240]; exact (Nat.le_refl _)) (v := some (.int (1 : Int32))) (fun h => by rw [Bd.returns] at h; cases h)
      refine ⟨_, _, pre248 _ ?_, hrun, hended, _, _, rfl, ?_, hRW.1, hRW.2.1, hRW.2.2.1, hRW.2.2.2.mono (by decide) (by decide)⟩
      · exact retN X240 hx (t := .boolean) Bd.returns (by simp) (hb hby at_138) hr
      · show Q0 Z p1 p2 p3 p4 cs h0 n0 _ T240.heap _
        rw [e240]
        exact ⟨rfl, N240⟩
    · have hd249 : ¬ ((own_rel p2) = (0 : Int32)) := own_mono hc243 hc246
      have pre250 : ∀ t, Steps p.tables e below (T240.setTop (mkF m 138 #[.val (.int p1), .val (.int p2), .val (.int p3), .val (.int p4), .val (.ref b103), .val (.ref b110), .val (.ref b117), .val (.ref b138), .val (.ref b166), .val (.ref b199), .val (.int (own_rel p1)), .val (.int (own_rel p2)), .val (.int (own_rel (0 : Int32))), .val (.int (own_rel (1 : Int32)))] [(.int (1 : Int32))])) t → Steps p.tables e below (s₁.setTop (entryFrame m #[(.int p1), (.int p2), (.int p3), (.int p4)] maxLocals)) t := fun t k => pre247 t (by
        show Steps p.tables e below (T240.setTop (mkF m 127 #[.val (.int p1), .val (.int p2), .val (.int p3), .val (.int p4), .val (.ref b103), .val (.ref b110), .val (.ref b117), .val (.ref b138), .val (.ref b166), .val (.ref b199), .val (.int (own_rel p1)), .val (.int (own_rel p2)), .val (.int (own_rel (0 : Int32))), .val (.int (own_rel (1 : Int32)))] [(.int (own_rel p1))])) t
        refine XS.ifNo X240.here hx rfl (hb hby at_127) rfl ((if0 _ _).trans (feq hc246).1) ?_
        show Steps p.tables e below (T240.setTop (mkF m 130 #[.val (.int p1), .val (.int p2), .val (.int p3), .val (.int p4), .val (.ref b103), .val (.ref b110), .val (.ref b117), .val (.ref b138), .val (.ref b166), .val (.ref b199), .val (.int (own_rel p1)), .val (.int (own_rel p2)), .val (.int (own_rel (0 : Int32))), .val (.int (own_rel (1 : Int32)))] [])) t
        refine XS.iload X240.here hx rfl (hb hby at_130) rfl ?_
        show Steps p.tables e below (T240.setTop (mkF m 132 #[.val (.int p1), .val (.int p2), .val (.int p3), .val (.int p4), .val (.ref b103), .val (.ref b110), .val (.ref b117), .val (.ref b138), .val (.ref b166), .val (.ref b199), .val (.int (own_rel p1)), .val (.int (own_rel p2)), .val (.int (own_rel (0 : Int32))), .val (.int (own_rel (1 : Int32)))] [(.int (own_rel p2))])) t
        refine XS.ifYes X240.here hx rfl (pc0 := 132) (pc' := 137) rfl (hb hby at_132) rfl ((if0 _ _).trans (feq hd249).2) (by decide) (by decide) ?_
        show Steps p.tables e below (T240.setTop (mkF m 137 #[.val (.int p1), .val (.int p2), .val (.int p3), .val (.int p4), .val (.ref b103), .val (.ref b110), .val (.ref b117), .val (.ref b138), .val (.ref b166), .val (.ref b199), .val (.int (own_rel p1)), .val (.int (own_rel p2)), .val (.int (own_rel (0 : Int32))), .val (.int (own_rel (1 : Int32)))] [])) t
        refine XS.iconst X240.here hx rfl (hb hby at_137) ?_
        exact k)
      obtain ⟨fs, hr, hrun, hended, hRW⟩ := X240.leaveW hS222 (by rw [e240]; exact (Nat.le_refl _)) (v := some (.int (1 : Int32))) (fun h => by rw [Bd.returns] at h; cases h)
      refine ⟨_, _, pre250 _ ?_, hrun, hended, _, _, rfl, ?_, hRW.1, hRW.2.1, hRW.2.2.1, hRW.2.2.2.mono (by decide) (by decide)⟩
      · exact retN X240 hx (t := .boolean) Bd.returns (by simp) (hb hby at_138) hr
      · show Q0 Z p1 p2 p3 p4 cs h0 n0 _ T240.heap _
        rw [e240]
        exact ⟨rfl, N240⟩
set_option maxRecDepth 65536 in
set_option maxHeartbeats 40000000 in
theorem comes_1 {Post : Tables → Env → Array Value → State → Outcome → State → Prop} (hpost : ∀ tb e args s v u, (limb_1_1.after args s (.returned v) u = true ∧ limb_1_2.after args s (.returned v) u = true ∧ True) → ReturnedEndW s (.returned v) u (Jvm.fieldLocs frame_1_writes args s ++ Jvm.arrayLocs frame_1_arrays args s ++ Jvm.staticLocs frame_1_statics s) 32 2176 → Post tb e args s (.returned v) u) :
    ArmFor flags0 classFile x code maxLocals ret World_1 tables_1 room_1 Calls_1 rest_1 Pre_1 Post := by
  intro l hfl _ _ p e ha hc hk s m args below hf hA hF happ hP
  obtain ⟨hcalls, hrest, hpre⟩ := hP
  obtain ⟨-, -, -, hnamed, -, -, -, hat⟩ := (Spec.applies_iff hf).mp happ
  obtain ⟨hg, hn⟩ := and_e (Cond.before_iff.mp (show (Jvm.Cond.and given_1 narrow_1).before args s = true from hpre))
  obtain ⟨hga, hgb⟩ := and_e hg
  obtain ⟨hgba, hgbb⟩ := and_e hgb
  obtain ⟨hgbba, hgbbb⟩ := and_e hgbb
  obtain ⟨hgbbba, hgbbbb⟩ := and_e hgbbb
  obtain ⟨w0, w1, w2, w3, rfl⟩ : ∃ w0 w1 w2 w3 : Value, args = #[w0, w1, w2, w3] := by
    have hs : args.size = 4 := by simpa [Cond.value, given_1] using hga
    obtain ⟨L⟩ := args
    match L, hs with
    | [w0, w1, w2, w3], _ => exact ⟨w0, w1, w2, w3, rfl⟩
  have hw := fun d (hd : d ∈ tables_1) => atoms_spec (ws := Jvm.Cond.code x code maxLocals ret :: tables_1) hat d (List.mem_cons_of_mem _ hd)
  obtain ⟨hsets, hown0⟩ := atoms_of _ (rest_1_c_eq ▸ (show rest_1_c.before _ s = true from hrest))
  have hr0 := Cond.before_iff.mp hown0
  have hfit : Fit s := fun {y c} hc i hi => by
    obtain ⟨ha, rfl⟩ := Array.getElem?_eq_some_iff.mp hc
    have q := List.all_eq_true.mp ((Array.all_eq_true_iff_forall_mem.mp hF) _ (Array.getElem_mem ha)) i (List.mem_range.mpr hi)
    simpa [Array.getElem?_eq_getElem hi] using q
  obtain ⟨i0, ev0⟩ := is_v hgba
  obtain rfl : w0 = (.int i0) := Option.some.inj ev0
  obtain ⟨i1, ev1⟩ := is_v hgbba
  obtain rfl : w1 = (.int i1) := Option.some.inj ev1
  obtain ⟨i2, ev2⟩ := is_v hgbbba
  obtain rfl : w2 = (.int i2) := Option.some.inj ev2
  obtain ⟨i3, ev3⟩ := is_v hgbbbb
  obtain rfl : w3 = (.int i3) := Option.some.inj ev3
  obtain ⟨cs, e10⟩ := is_v (Cond.before_iff.mp (hsets _ (List.mem_of_getElem? (i := 1) rfl)))
  have SC : Sta s s.heap "java/lang/String" "COMPACT_STRINGS" "Z" (.int cs) := Sta.start e10 (Or.inl (hsets _ (List.mem_of_getElem? (i := 0) rfl)))
  have n5 := not_v (Cond.before_iff.mp (hsets _ (List.mem_of_getElem? (i := 2) rfl)))
  have hcs : ¬ (cs = (0 : Int32)) := gotF (Cond.eq_ints e10 (Term.int_eval (0))) n5
  obtain ⟨n, o, h1, h2, h3, _, L, rfl, ⟨rfl, N⟩, hq⟩ := rm0 l s _ hw tables_1 i0 i1 i2 i3 cs s.heap s.heap.size (Nat.le_refl _) SC hcs (Old.start s) p e ha hc hk s m _ below hf ((Spec.applies_iff_loose hf).mp happ).1 ⟨rfl, State.Warmed39.refl s, rfl⟩ trivial
  refine ⟨n, _, h1, h2, h3, hpost _ _ _ _ _ _ ⟨Cond.after_iff.mpr rfl, Cond.after_iff.mpr (eq_i res_at (Term.int_eval (1)) rfl), trivial⟩ ⟨hq.1, hq.2.1, hq.2.2.1, (hq.2.2.2.sift fun y hy => Or.inr (N y hy)).mono (by decide) (by decide)⟩⟩
theorem main_1_1 : Claimed_1_1 := comes_1 fun _ _ _ _ _ _ h hF => ⟨h.1, hF⟩
theorem main_1_2 : Claimed_1_2 := comes_1 fun _ _ _ _ _ _ h hF => ⟨h.2.1, hF⟩
end Jvm.Pilot.@@N@@
namespace Jvm.Pilot.@@N@@
open Jvm Jvm.ClassFile Sem Op Lib Jvm.Free Jvm.Stand Jvm.Pilot.@@N@@.Jvm.D
/-! MADE BY PROGRAM (witnessworld.py) out of the Statement's table words and the real class files: 16 classes; the members and pool entries that the words name. The judged class is class 1, her method 1. -/
namespace start1
open Jvm.ClassFile
def u (s : String) : CpInfo := .utf8 (stringToUtf16 s)
/-- a pool by its gaps: so many unusable entries, then the entry; so many at the end -/
def gap : Nat → List CpInfo → List CpInfo
  | 0, r => r
  | n + 1, r => .unusable :: gap n r
def poolList (es : List (Nat × CpInfo)) (last : Nat) : List CpInfo := es.foldr (fun e r => gap e.1 (e.2 :: r)) (gap last [])
def pool (es : List (Nat × CpInfo)) (last : Nat) : Array CpInfo := ⟨poolList es last⟩
def fileOf (pool : Array CpInfo) (this : Nat) (attrs : Array Attribute := #[]) (ms : Array MethodInfo := #[]) (fl : Nat := 33) (sup : Nat := 0) (ifs : Array Nat := #[]) (fds : Array FieldInfo := #[]) : ClassFile where
  minorVersion := 0
  majorVersion := 65
  constantPool := pool
  accessFlags := fl
  thisClass := this
  superClass := sup
  interfaces := ifs
  fields := fds
  methods := ms
  attributes := attrs
def plain (name : String) (sup : Option ClassId) : Class where
  name := name
  kind := .ordinary
  loader := none
  accessFlags := 33
  super := sup
  interfaces := #[]
  cf := none
  fields := #[]
  methods := #[]
  instanceTypes := #[]
  staticTypes := #[]
  resolved := #[]
  callSites := []
  init := .initialized
  statics := none
  mirror := none

def pool0 : Array CpInfo := pool [(5, u "<init>"), (0, u "()V"), (1, .class_ 10), (1, u "java/lang/Object")] 113

def k0c0 : Code := { maxStack := 0, maxLocals := 1, code := object_method_1_code, exceptionTable := #[], attributes := #[] }
def k0m0 : Method := { name := "<init>", desc := "()V", sig := { parameters := [], returnType := none }, accessFlags := 1, code := some k0c0 }
/-- java/lang/Object -/
def k0 : Class := { plain "java/lang/Object" none with
  accessFlags := 33
  interfaces := #[]
  cf := some (fileOf pool0 8 #[] #[{ accessFlags := 1, nameIndex := 5, descriptorIndex := 6, attributes := #[] }] 33 0 #[] #[])
  fields := #[]
  methods := #[k0m0]
  instanceTypes := #[]
  staticTypes := #[]
  resolved := Array.replicate 124 none
  statics := none }

def pool1 : Array CpInfo := pool [(2, .class_ 4), (1, u "java/lang/Object"), (0, u "<init>"), (0, u "()V"), (0, .methodref 8 9), (0, .class_ 10), (0, .nameAndType 11 12), (0, u "java/lang/String"), (0, u "valueOf"), (0, u "(C)Ljava/lang/String;"), (0, .class_ 14), (0, u "com/example/bookish_search/bookishsearch/trec/Judgment"), (0, .methodref 13 16), (0, .nameAndType 5 17), (0, u "(Ljava/lang/String;Ljava/lang/String;I)V"), (0, .methodref 13 19), (0, .nameAndType 20 21), (0, u "isRelevant"), (0, u "()Z"), (0, .class_ 23), (0, u "com/example/bookish_search/bookishsearch/trec/JudgmentIsRelevantPinLaw"), (2, u "law"), (0, u "(IIII)Z")] 3

def k1m0 : Method := { name := "<init>", desc := "()V", sig := { parameters := [], returnType := none }, accessFlags := 2, code := none }
def k1c1 : Code := { maxStack := 5, maxLocals := 14, code := code, exceptionTable := #[], attributes := #[] }
def k1m1 : Method := { name := "law", desc := "(IIII)Z", sig := { parameters := [.int, .int, .int, .int], returnType := some .boolean }, accessFlags := 9, code := some k1c1 }
/-- com/example/bookish_search/bookishsearch/trec/JudgmentIsRelevantPinLaw -/
def k1 : Class := { plain "com/example/bookish_search/bookishsearch/trec/JudgmentIsRelevantPinLaw" (some 0) with
  accessFlags := 49
  interfaces := #[]
  cf := some (fileOf pool1 22 #[] #[{ accessFlags := 2, nameIndex := 5, descriptorIndex := 6, attributes := #[] }, { accessFlags := 9, nameIndex := 26, descriptorIndex := 27, attributes := #[] }] 49 2 #[] #[])
  fields := #[]
  methods := #[k1m0, k1m1]
  instanceTypes := #[]
  staticTypes := #[]
  resolved := Array.replicate 31 none
  statics := none }

def pool2 : Array CpInfo := pool [(1, .class_ 2), (0, u "java/io/Serializable"), (0, .class_ 4), (0, u "java/lang/Object")] 2

/-- java/io/Serializable -/
def k2 : Class := { plain "java/io/Serializable" (some 0) with
  accessFlags := 1537
  interfaces := #[]
  cf := some (fileOf pool2 1 #[] #[] 1537 3 #[] #[])
  fields := #[]
  methods := #[]
  instanceTypes := #[]
  staticTypes := #[]
  resolved := Array.replicate 7 none
  statics := none }

def pool3 : Array CpInfo := pool [(1, .class_ 2), (0, u "java/lang/Comparable"), (0, .class_ 4), (0, u "java/lang/Object")] 7

/-- java/lang/Comparable -/
def k3 : Class := { plain "java/lang/Comparable" (some 0) with
  accessFlags := 1537
  interfaces := #[]
  cf := some (fileOf pool3 1 #[] #[] 1537 3 #[] #[])
  fields := #[]
  methods := #[]
  instanceTypes := #[]
  staticTypes := #[]
  resolved := Array.replicate 12 none
  statics := none }

def pool4 : Array CpInfo := pool [(2, .class_ 4), (1, u "java/lang/CharSequence"), (42, .class_ 48), (0, u "java/lang/CharSequence$1CodePointIterator"), (10, .class_ 60), (0, u "java/lang/CharSequence$1CharIterator"), (5, .class_ 67), (0, u "java/lang/Object")] 63

/-- java/lang/CharSequence -/
def k4 : Class := { plain "java/lang/CharSequence" (some 0) with
  accessFlags := 1537
  interfaces := #[]
  cf := some (fileOf pool4 2 #[.nestMembers #[47, 59]] #[] 1537 66 #[] #[])
  fields := #[]
  methods := #[]
  instanceTypes := #[]
  staticTypes := #[]
  resolved := Array.replicate 131 none
  statics := none }

def pool5 : Array CpInfo := pool [(1, .class_ 2), (0, u "java/lang/constant/Constable"), (0, .class_ 4), (0, u "java/lang/Object")] 6

/-- java/lang/constant/Constable -/
def k5 : Class := { plain "java/lang/constant/Constable" (some 0) with
  accessFlags := 1537
  interfaces := #[]
  cf := some (fileOf pool5 1 #[] #[] 1537 3 #[] #[])
  fields := #[]
  methods := #[]
  instanceTypes := #[]
  staticTypes := #[]
  resolved := Array.replicate 11 none
  statics := none }

def pool6 : Array CpInfo := pool [(1, .class_ 2), (0, u "java/lang/constant/ConstantDesc"), (0, .class_ 4), (0, u "java/lang/Object")] 32

/-- java/lang/constant/ConstantDesc -/
def k6 : Class := { plain "java/lang/constant/ConstantDesc" (some 0) with
  accessFlags := 1537
  interfaces := #[]
  cf := some (fileOf pool6 1 #[] #[] 1537 3 #[] #[])
  fields := #[]
  methods := #[]
  instanceTypes := #[]
  staticTypes := #[]
  resolved := Array.replicate 37 none
  statics := none }

def pool7 : Array CpInfo := pool [(1, .methodref 2 3), (0, .class_ 4), (0, .nameAndType 5 6), (0, u "java/lang/Object"), (0, u "<init>"), (0, u "()V"), (2, .fieldref 10 11), (0, .class_ 12), (0, .nameAndType 13 14), (0, u "java/lang/String"), (0, u "value"), (0, u "[B"), (0, .fieldref 10 16), (0, .nameAndType 17 18), (0, u "coder"), (0, u "B"), (2, u "hash"), (0, u "I"), (2, u "hashIsZero"), (0, u "Z"), (11, .fieldref 10 39), (0, .nameAndType 40 26), (0, u "COMPACT_STRINGS"), (12, u "toBytes"), (53, .class_ 109), (1, u "java/lang/StringLatin1"), (99, .methodref 10 210), (0, .nameAndType 5 211), (0, u "([BB)V"), (157, u "(C)Z"), (205, .class_ 576), (0, u "java/lang/CharSequence"), (22, u "CASE_INSENSITIVE_ORDER"), (0, u "Ljava/util/Comparator;"), (181, u "valueOf"), (0, u "(C)Ljava/lang/String;"), (231, .methodref 107 1016), (0, .nameAndType 1017 369), (0, u "canEncode"), (0, .methodref 107 1019), (0, .nameAndType 53 1020), (0, u "(C)[B"), (80, u "serialPersistentFields"), (0, u "[Ljava/io/ObjectStreamField;"), (0, .class_ 1104), (0, u "java/lang/String$CaseInsensitiveComparator"), (1, .class_ 1107), (0, u "java/io/Serializable"), (0, .class_ 1109), (0, u "java/lang/Comparable"), (0, .class_ 1111), (0, u "java/lang/constant/Constable"), (0, .class_ 1113), (0, u "java/lang/constant/ConstantDesc"), (2, u "serialVersionUID"), (0, u "J"), (3, u "REPL"), (0, u "C"), (2, u "LATIN1"), (1, u "UTF16")] 323

def k7m0 : Method := { name := "<init>", desc := "()V", sig := { parameters := [], returnType := none }, accessFlags := 1, code := none }
def k7c1 : Code := { maxStack := 4, maxLocals := 1, code := jdk_42_method_139_code, exceptionTable := #[], attributes := #[] }
def k7m1 : Method := { name := "valueOf", desc := "(C)Ljava/lang/String;", sig := { parameters := [.char], returnType := some (.object "java/lang/String") }, accessFlags := 9, code := some k7c1 }
def k7c2 : Code := { maxStack := 2, maxLocals := 3, code := jdk_42_method_151_code, exceptionTable := #[], attributes := #[] }
def k7m2 : Method := { name := "<init>", desc := "([BB)V", sig := { parameters := [(.array .byte), .byte], returnType := none }, accessFlags := 0, code := some k7c2 }
/-- java/lang/String -/
def k7 : Class := { plain "java/lang/String" (some 0) with
  accessFlags := 49
  interfaces := #[2, 3, 4, 5, 6]
  cf := some (fileOf pool7 10 #[.nestMembers #[1103]] #[{ accessFlags := 1, nameIndex := 5, descriptorIndex := 6, attributes := #[] }, { accessFlags := 9, nameIndex := 782, descriptorIndex := 783, attributes := #[] }, { accessFlags := 0, nameIndex := 5, descriptorIndex := 211, attributes := #[] }] 49 2 #[1106, 1108, 575, 1110, 1112] #[{ accessFlags := 18, nameIndex := 13, descriptorIndex := 14, attributes := #[] }, { accessFlags := 18, nameIndex := 17, descriptorIndex := 18, attributes := #[] }, { accessFlags := 2, nameIndex := 21, descriptorIndex := 22, attributes := #[] }, { accessFlags := 2, nameIndex := 25, descriptorIndex := 26, attributes := #[] }, { accessFlags := 26, nameIndex := 1116, descriptorIndex := 1117, attributes := #[] }, { accessFlags := 24, nameIndex := 40, descriptorIndex := 26, attributes := #[] }, { accessFlags := 26, nameIndex := 1101, descriptorIndex := 1102, attributes := #[] }, { accessFlags := 26, nameIndex := 1121, descriptorIndex := 1122, attributes := #[] }, { accessFlags := 25, nameIndex := 599, descriptorIndex := 600, attributes := #[] }, { accessFlags := 24, nameIndex := 1125, descriptorIndex := 18, attributes := #[] }, { accessFlags := 24, nameIndex := 1127, descriptorIndex := 18, attributes := #[] }])
  fields := #[{ name := "value", type := (.array .byte), accessFlags := 18, slot := 0, constantValue := 0 }, { name := "coder", type := .byte, accessFlags := 18, slot := 1, constantValue := 0 }, { name := "hash", type := .int, accessFlags := 2, slot := 2, constantValue := 0 }, { name := "hashIsZero", type := .boolean, accessFlags := 2, slot := 3, constantValue := 0 }, { name := "serialVersionUID", type := .long, accessFlags := 26, slot := 0, constantValue := 0 }, { name := "COMPACT_STRINGS", type := .boolean, accessFlags := 24, slot := 1, constantValue := 0 }, { name := "serialPersistentFields", type := (.array (.object "java/io/ObjectStreamField")), accessFlags := 26, slot := 2, constantValue := 0 }, { name := "REPL", type := .char, accessFlags := 26, slot := 3, constantValue := 0 }, { name := "CASE_INSENSITIVE_ORDER", type := (.object "java/util/Comparator"), accessFlags := 25, slot := 4, constantValue := 0 }, { name := "LATIN1", type := .byte, accessFlags := 24, slot := 5, constantValue := 0 }, { name := "UTF16", type := .byte, accessFlags := 24, slot := 6, constantValue := 0 }]
  methods := #[k7m0, k7m1, k7m2]
  instanceTypes := #[(.array .byte), .byte, .int, .boolean]
  staticTypes := #[.long, .boolean, (.array (.object "java/io/ObjectStreamField")), .char, (.object "java/util/Comparator"), .byte, .byte]
  resolved := Array.replicate 1451 none
  statics := some 0 }

def pool8 : Array CpInfo := pool [(4, .class_ 6), (1, u "java/lang/Object"), (0, u "<init>"), (0, u "()V"), (5, .class_ 16), (1, u "java/lang/StringLatin1"), (73, u "canEncode"), (14, u "(C)Z"), (15, u "$assertionsDisabled"), (0, u "Z"), (98, .class_ 223), (1, u "java/lang/StringLatin1$LinesSpliterator"), (156, u "toBytes"), (1, u "(C)[B"), (7, .class_ 391), (0, u "java/lang/StringLatin1$CharsSpliterator")] 3

def k8m0 : Method := { name := "<init>", desc := "()V", sig := { parameters := [], returnType := none }, accessFlags := 0, code := none }
def k8c1 : Code := { maxStack := 2, maxLocals := 1, code := jdk_43_method_3_code, exceptionTable := #[], attributes := #[] }
def k8m1 : Method := { name := "canEncode", desc := "(C)Z", sig := { parameters := [.char], returnType := some .boolean }, accessFlags := 9, code := some k8c1 }
def k8c2 : Code := { maxStack := 4, maxLocals := 1, code := jdk_43_method_46_code, exceptionTable := #[], attributes := #[] }
def k8m2 : Method := { name := "toBytes", desc := "(C)[B", sig := { parameters := [.char], returnType := some (.array .byte) }, accessFlags := 9, code := some k8c2 }
/-- java/lang/StringLatin1 -/
def k8 : Class := { plain "java/lang/StringLatin1" (some 0) with
  accessFlags := 48
  interfaces := #[]
  cf := some (fileOf pool8 14 #[.nestMembers #[390, 221]] #[{ accessFlags := 0, nameIndex := 7, descriptorIndex := 8, attributes := #[] }, { accessFlags := 9, nameIndex := 90, descriptorIndex := 105, attributes := #[] }, { accessFlags := 9, nameIndex := 380, descriptorIndex := 382, attributes := #[] }] 48 4 #[] #[{ accessFlags := 4120, nameIndex := 121, descriptorIndex := 122, attributes := #[] }])
  fields := #[{ name := "$assertionsDisabled", type := .boolean, accessFlags := 4120, slot := 0, constantValue := 0 }]
  methods := #[k8m0, k8m1, k8m2]
  instanceTypes := #[]
  staticTypes := #[.boolean]
  resolved := Array.replicate 395 none
  statics := none }

def pool9 : Array CpInfo := pool [(1, .methodref 2 3), (0, .class_ 4), (0, .nameAndType 5 6), (0, u "java/lang/Object"), (0, u "<init>"), (0, u "()V"), (0, .string 8), (0, u "topic"), (0, .methodref 10 11), (0, .class_ 12), (0, .nameAndType 13 14), (0, u "java/util/Objects"), (0, u "requireNonNull"), (0, u "(Ljava/lang/Object;Ljava/lang/String;)Ljava/lang/Object;"), (0, .class_ 16), (0, u "java/lang/String"), (0, .fieldref 18 19), (0, .class_ 20), (0, .nameAndType 8 21), (0, u "com/example/bookish_search/bookishsearch/trec/Judgment"), (0, u "Ljava/lang/String;"), (0, .string 23), (0, u "docno"), (0, .fieldref 18 25), (0, .nameAndType 23 21), (0, .fieldref 18 27), (0, .nameAndType 28 29), (0, u "level"), (0, u "I"), (32, u "(Ljava/lang/String;Ljava/lang/String;I)V"), (27, u "isRelevant"), (0, u "()Z")] 21

def k9c0 : Code := { maxStack := 3, maxLocals := 4, code := prog_72_method_1_code, exceptionTable := #[], attributes := #[] }
def k9m0 : Method := { name := "<init>", desc := "(Ljava/lang/String;Ljava/lang/String;I)V", sig := { parameters := [(.object "java/lang/String"), (.object "java/lang/String"), .int], returnType := none }, accessFlags := 1, code := some k9c0 }
def k9c1 : Code := { maxStack := 1, maxLocals := 1, code := prog_72_method_6_code, exceptionTable := #[], attributes := #[] }
def k9m1 : Method := { name := "isRelevant", desc := "()Z", sig := { parameters := [], returnType := some .boolean }, accessFlags := 1, code := some k9c1 }
/-- com/example/bookish_search/bookishsearch/trec/Judgment -/
def k9 : Class := { plain "com/example/bookish_search/bookishsearch/trec/Judgment" (some 0) with
  accessFlags := 49
  interfaces := #[]
  cf := some (fileOf pool9 18 #[] #[{ accessFlags := 1, nameIndex := 5, descriptorIndex := 62, attributes := #[] }, { accessFlags := 1, nameIndex := 90, descriptorIndex := 91, attributes := #[] }] 49 2 #[] #[{ accessFlags := 18, nameIndex := 8, descriptorIndex := 21, attributes := #[] }, { accessFlags := 18, nameIndex := 23, descriptorIndex := 21, attributes := #[] }, { accessFlags := 18, nameIndex := 28, descriptorIndex := 29, attributes := #[] }])
  fields := #[{ name := "topic", type := (.object "java/lang/String"), accessFlags := 18, slot := 0, constantValue := 0 }, { name := "docno", type := (.object "java/lang/String"), accessFlags := 18, slot := 1, constantValue := 0 }, { name := "level", type := .int, accessFlags := 18, slot := 2, constantValue := 0 }]
  methods := #[k9m0, k9m1]
  instanceTypes := #[(.object "java/lang/String"), (.object "java/lang/String"), .int]
  staticTypes := #[]
  resolved := Array.replicate 113 none
  statics := none }

def pool10 : Array CpInfo := pool [(2, .class_ 4), (1, u "java/lang/Object"), (0, u "<init>"), (0, u "()V"), (35, .class_ 44), (1, u "java/util/Objects"), (0, u "requireNonNull"), (48, u "(Ljava/lang/Object;Ljava/lang/String;)Ljava/lang/Object;")] 89

def k10m0 : Method := { name := "<init>", desc := "()V", sig := { parameters := [], returnType := none }, accessFlags := 2, code := none }
def k10c1 : Code := { maxStack := 3, maxLocals := 2, code := jdk_31_method_11_code, exceptionTable := #[], attributes := #[] }
def k10m1 : Method := { name := "requireNonNull", desc := "(Ljava/lang/Object;Ljava/lang/String;)Ljava/lang/Object;", sig := { parameters := [(.object "java/lang/Object"), (.object "java/lang/String")], returnType := some (.object "java/lang/Object") }, accessFlags := 9, code := some k10c1 }
/-- java/util/Objects -/
def k10 : Class := { plain "java/util/Objects" (some 0) with
  accessFlags := 49
  interfaces := #[]
  cf := some (fileOf pool10 42 #[] #[{ accessFlags := 2, nameIndex := 5, descriptorIndex := 6, attributes := #[] }, { accessFlags := 9, nameIndex := 45, descriptorIndex := 94, attributes := #[] }] 49 2 #[] #[])
  fields := #[]
  methods := #[k10m0, k10m1]
  instanceTypes := #[]
  staticTypes := #[]
  resolved := Array.replicate 184 none
  statics := none }

def pool11 : Array CpInfo := pool [(2, .class_ 4), (1, u "java/lang/Object"), (0, u "<init>"), (0, u "()V"), (17, .class_ 26), (1, u "jdk/internal/util/Preconditions"), (28, .class_ 56), (0, u "jdk/internal/util/Preconditions$4"), (57, .class_ 115), (0, u "jdk/internal/util/Preconditions$1"), (7, u "SIOOBE_FORMATTER"), (0, u "Ljava/util/function/BiFunction;"), (0, .class_ 126), (0, u "jdk/internal/util/Preconditions$2"), (3, u "AIOOBE_FORMATTER"), (0, .class_ 132), (0, u "jdk/internal/util/Preconditions$3"), (3, u "IOOBE_FORMATTER")] 57

def k11m0 : Method := { name := "<init>", desc := "()V", sig := { parameters := [], returnType := none }, accessFlags := 1, code := none }
/-- jdk/internal/util/Preconditions -/
def k11 : Class := { plain "jdk/internal/util/Preconditions" (some 0) with
  accessFlags := 33
  interfaces := #[]
  cf := some (fileOf pool11 24 #[.nestMembers #[55, 131, 125, 114]] #[{ accessFlags := 1, nameIndex := 5, descriptorIndex := 6, attributes := #[] }] 33 2 #[] #[{ accessFlags := 25, nameIndex := 123, descriptorIndex := 124, attributes := #[] }, { accessFlags := 25, nameIndex := 130, descriptorIndex := 124, attributes := #[] }, { accessFlags := 25, nameIndex := 136, descriptorIndex := 124, attributes := #[] }])
  fields := #[{ name := "SIOOBE_FORMATTER", type := (.object "java/util/function/BiFunction"), accessFlags := 25, slot := 0, constantValue := 0 }, { name := "AIOOBE_FORMATTER", type := (.object "java/util/function/BiFunction"), accessFlags := 25, slot := 1, constantValue := 0 }, { name := "IOOBE_FORMATTER", type := (.object "java/util/function/BiFunction"), accessFlags := 25, slot := 2, constantValue := 0 }]
  methods := #[k11m0]
  instanceTypes := #[]
  staticTypes := #[(.object "java/util/function/BiFunction"), (.object "java/util/function/BiFunction"), (.object "java/util/function/BiFunction")]
  resolved := Array.replicate 194 none
  statics := some 1 }

def pool12 : Array CpInfo := pool [(9, u "<init>"), (6, .class_ 18), (1, u "java/lang/Object"), (0, u "()V"), (1, .class_ 23), (1, u "jdk/internal/util/ArraysSupport"), (0, u "LOG2_ARRAY_LONG_INDEX_SCALE"), (0, u "I"), (2, u "U"), (0, u "Ljdk/internal/misc/Unsafe;"), (8, u "BIG_ENDIAN"), (0, u "Z"), (8, u "LOG2_BYTE_BIT_SIZE"), (4, u "LOG2_ARRAY_INT_INDEX_SCALE"), (54, u "JLA"), (0, u "Ljdk/internal/access/JavaLangAccess;"), (11, u "LOG2_ARRAY_BOOLEAN_INDEX_SCALE"), (9, u "LOG2_ARRAY_BYTE_INDEX_SCALE"), (5, u "LOG2_ARRAY_CHAR_INDEX_SCALE"), (5, u "LOG2_ARRAY_SHORT_INDEX_SCALE"), (18, u "LOG2_ARRAY_FLOAT_INDEX_SCALE"), (24, u "LOG2_ARRAY_DOUBLE_INDEX_SCALE"), (89, u "T_BOOLEAN"), (2, u "T_CHAR"), (1, u "T_FLOAT"), (1, u "T_DOUBLE"), (1, u "T_BYTE"), (1, u "T_SHORT"), (1, u "T_INT"), (1, u "T_LONG"), (1, u "SOFT_MAX_ARRAY_LENGTH")] 83

def k12m0 : Method := { name := "<init>", desc := "()V", sig := { parameters := [], returnType := none }, accessFlags := 2, code := none }
/-- jdk/internal/util/ArraysSupport -/
def k12 : Class := { plain "jdk/internal/util/ArraysSupport" (some 0) with
  accessFlags := 33
  interfaces := #[]
  cf := some (fileOf pool12 21 #[] #[{ accessFlags := 2, nameIndex := 9, descriptorIndex := 19, attributes := #[] }] 33 16 #[] #[{ accessFlags := 24, nameIndex := 28, descriptorIndex := 29, attributes := #[] }, { accessFlags := 26, nameIndex := 38, descriptorIndex := 39, attributes := #[] }, { accessFlags := 25, nameIndex := 121, descriptorIndex := 25, attributes := #[] }, { accessFlags := 25, nameIndex := 131, descriptorIndex := 25, attributes := #[] }, { accessFlags := 25, nameIndex := 137, descriptorIndex := 25, attributes := #[] }, { accessFlags := 25, nameIndex := 143, descriptorIndex := 25, attributes := #[] }, { accessFlags := 25, nameIndex := 53, descriptorIndex := 25, attributes := #[] }, { accessFlags := 25, nameIndex := 24, descriptorIndex := 25, attributes := #[] }, { accessFlags := 25, nameIndex := 162, descriptorIndex := 25, attributes := #[] }, { accessFlags := 25, nameIndex := 187, descriptorIndex := 25, attributes := #[] }, { accessFlags := 26, nameIndex := 48, descriptorIndex := 25, attributes := #[] }, { accessFlags := 25, nameIndex := 277, descriptorIndex := 25, attributes := #[] }, { accessFlags := 25, nameIndex := 280, descriptorIndex := 25, attributes := #[] }, { accessFlags := 25, nameIndex := 282, descriptorIndex := 25, attributes := #[] }, { accessFlags := 25, nameIndex := 284, descriptorIndex := 25, attributes := #[] }, { accessFlags := 25, nameIndex := 286, descriptorIndex := 25, attributes := #[] }, { accessFlags := 25, nameIndex := 288, descriptorIndex := 25, attributes := #[] }, { accessFlags := 25, nameIndex := 290, descriptorIndex := 25, attributes := #[] }, { accessFlags := 25, nameIndex := 292, descriptorIndex := 25, attributes := #[] }, { accessFlags := 26, nameIndex := 108, descriptorIndex := 109, attributes := #[] }, { accessFlags := 25, nameIndex := 294, descriptorIndex := 25, attributes := #[] }])
  fields := #[{ name := "U", type := (.object "jdk/internal/misc/Unsafe"), accessFlags := 24, slot := 0, constantValue := 0 }, { name := "BIG_ENDIAN", type := .boolean, accessFlags := 26, slot := 1, constantValue := 0 }, { name := "LOG2_ARRAY_BOOLEAN_INDEX_SCALE", type := .int, accessFlags := 25, slot := 2, constantValue := 0 }, { name := "LOG2_ARRAY_BYTE_INDEX_SCALE", type := .int, accessFlags := 25, slot := 3, constantValue := 0 }, { name := "LOG2_ARRAY_CHAR_INDEX_SCALE", type := .int, accessFlags := 25, slot := 4, constantValue := 0 }, { name := "LOG2_ARRAY_SHORT_INDEX_SCALE", type := .int, accessFlags := 25, slot := 5, constantValue := 0 }, { name := "LOG2_ARRAY_INT_INDEX_SCALE", type := .int, accessFlags := 25, slot := 6, constantValue := 0 }, { name := "LOG2_ARRAY_LONG_INDEX_SCALE", type := .int, accessFlags := 25, slot := 7, constantValue := 0 }, { name := "LOG2_ARRAY_FLOAT_INDEX_SCALE", type := .int, accessFlags := 25, slot := 8, constantValue := 0 }, { name := "LOG2_ARRAY_DOUBLE_INDEX_SCALE", type := .int, accessFlags := 25, slot := 9, constantValue := 0 }, { name := "LOG2_BYTE_BIT_SIZE", type := .int, accessFlags := 26, slot := 10, constantValue := 0 }, { name := "T_BOOLEAN", type := .int, accessFlags := 25, slot := 11, constantValue := 0 }, { name := "T_CHAR", type := .int, accessFlags := 25, slot := 12, constantValue := 0 }, { name := "T_FLOAT", type := .int, accessFlags := 25, slot := 13, constantValue := 0 }, { name := "T_DOUBLE", type := .int, accessFlags := 25, slot := 14, constantValue := 0 }, { name := "T_BYTE", type := .int, accessFlags := 25, slot := 15, constantValue := 0 }, { name := "T_SHORT", type := .int, accessFlags := 25, slot := 16, constantValue := 0 }, { name := "T_INT", type := .int, accessFlags := 25, slot := 17, constantValue := 0 }, { name := "T_LONG", type := .int, accessFlags := 25, slot := 18, constantValue := 0 }, { name := "JLA", type := (.object "jdk/internal/access/JavaLangAccess"), accessFlags := 26, slot := 19, constantValue := 0 }, { name := "SOFT_MAX_ARRAY_LENGTH", type := .int, accessFlags := 25, slot := 20, constantValue := 0 }]
  methods := #[k12m0]
  instanceTypes := #[]
  staticTypes := #[(.object "jdk/internal/misc/Unsafe"), .boolean, .int, .int, .int, .int, .int, .int, .int, .int, .int, .int, .int, .int, .int, .int, .int, .int, .int, (.object "jdk/internal/access/JavaLangAccess"), .int]
  resolved := Array.replicate 378 none
  statics := none }

def pool13 : Array CpInfo := pool [(1, u "java/lang/Cloneable"), (0, .class_ 1), (0, u "java/lang/Object"), (0, .class_ 3)] 3

/-- java/lang/Cloneable -/
def k13 : Class := { plain "java/lang/Cloneable" (some 0) with
  accessFlags := 1537
  interfaces := #[]
  cf := some (fileOf pool13 2 #[] #[] 1537 4 #[] #[])
  fields := #[]
  methods := #[]
  instanceTypes := #[]
  staticTypes := #[]
  resolved := Array.replicate 8 none
  statics := none }

/-- the primitive byte -/
def k14 : Class := { plain "byte" none with kind := .primitive 'B', accessFlags := 0x411 }
/-- [B -/
def k15 : Class := { plain "[B" (some 0) with kind := .array 14 .byte, interfaces := #[13, 2], accessFlags := 1041 }

def heap : Heap := #[{ cls := 7, slots := #[.long 0, .int 1, .null, .int 0, .null, .int 0, .int 0], vm := .statics 7 },
  { cls := 11, slots := #[.null, .null, .null], vm := .statics 11 }]
def classes : Array Class := #[k0, k1, k2, k3, k4, k5, k6, k7, k8, k9, k10, k11, k12, k13, k14, k15]
def interned : List (Array UInt16 × Addr) := []
def slotsUsed : Nat := 10
def theMethod : MethodId := ⟨1, 1⟩
def args0 : Array Value := #[.int 5, .int 5, .int 5, .int 5]
def aboutOver (below : List Frame) : State where
  vm := { classes := classes, interned := interned.toArray }
  heap := heap
  slotsUsed := slotsUsed
  threads := #[{ frames := .invoking theMethod args0 :: below }]
def below0 : List Frame := [.native { method := ⟨0, 0⟩, args := #[] }]
def about1 : State := aboutOver below0
def p0 : Program := .bare "" "" ""
def e0 : Env := launch0.env 0 0 0
theorem w_frames : about1.frames = Frame.invoking theMethod args0 :: below0 := rfl
set_option maxRecDepth 65536 in
theorem w_args : argsFit about1.vm theMethod args0 = true := by decide +kernel
set_option maxRecDepth 65536 in
theorem w_heap : heapFits about1 = true := by decide +kernel
set_option maxRecDepth 65536 in
theorem w_runnable : about1.curStatus? = some .runnable := by decide +kernel
set_option maxRecDepth 65536 in
theorem w_alone : about1.alone = true := by decide +kernel
set_option maxRecDepth 65536 in
theorem w_named : about1.methodNamed? x = some theMethod := by decide +kernel
set_option maxRecDepth 65536 in
theorem w_hears : about1.hears theMethod below0 = true := by decide +kernel
set_option maxRecDepth 65536 in
theorem w_ripe : about1.ripe theMethod args0 below0 = true := by decide +kernel
theorem w_running : about1.status = .running := rfl
set_option maxRecDepth 65536 in
theorem w_room : about1.hasRoom e0.platform room_1 = true :=
  launch0.hasRoom_least _ room_1 (by decide +kernel) (by decide +kernel) (by decide +kernel) (by decide +kernel) (by decide +kernel) (by decide +kernel)
theorem allAtoms_all (ts : List Jvm.Cond) (a : Array Jvm.Value) (st : Jvm.State) : (allAtoms ts).before a st = ts.all (fun c => c.before a st) := by
  induction ts with
  | nil => rfl
  | cons c t ih =>
    show (Jvm.Cond.and c (allAtoms t)).before a st = _
    rw [Jvm.Cond.before_and, ih, List.all_cons]
def words1 : List Jvm.Cond := Jvm.Cond.code x code maxLocals ret :: tables_1
/-- a 'code' word, met by the world's own term for the bytes: nothing is compared byte by byte -/
theorem code_word {y : MethodName} {bytes : ByteArray} {mx : Nat} {rt : Option FieldType} {a : Array Value} {s : State} {m : MethodId} {meth : Method} {c : Code} (h1 : s.methodNamed? y = some m) (h2 : s.vm.method? m = some meth) (h3 : meth.code = some c) (h4 : c.code = bytes)
    (h5 : (c.maxLocals == mx && c.exceptionTable.isEmpty && decide (c.maxStack ≤ mostOperands) && decide (meth.sig.returnType = rt) && !meth.locks && decide (parseMethodDescriptor y.desc = some meth.sig)) = true) : (Jvm.Cond.code y bytes mx rt).before a s = true := by
  simp only [Bool.and_eq_true, beq_iff_eq, Bool.not_eq_true', decide_eq_true_eq] at h5
  obtain ⟨⟨⟨⟨⟨g1, g2⟩, g3⟩, g4⟩, g5⟩, g6⟩ := h5
  simp [Cond.before, Cond.holds, Cond.value, h1, h2, h3, h4, g1, g2, g3, g4, g5, g6]
def isCode : Jvm.Cond → Bool
  | .code _ _ _ _ => true
  | _ => false
theorem all_split {L : List Jvm.Cond} {P : Jvm.Cond → Bool} (h1 : L.all (fun c => isCode c || P c) = true) (h2 : ∀ c ∈ L.filter isCode, P c = true) : L.all P = true := by
  refine List.all_eq_true.mpr fun c hc => ?_
  have h := List.all_eq_true.mp h1 c hc
  rcases Bool.eq_false_or_eq_true (isCode c) with hi | hi
  · exact h2 c (List.mem_filter.mpr ⟨hc, hi⟩)
  · simpa [hi] using h
set_option maxRecDepth 65536 in
theorem w_c0 : (Jvm.Cond.code x code maxLocals ret).before args0 about1 = true := code_word (m := ⟨1, 1⟩) (meth := k1m1) (c := k1c1) (by decide +kernel) rfl rfl rfl (by decide +kernel)
set_option maxRecDepth 65536 in
theorem w_c1 : (Jvm.Cond.code ({ cls := "java/lang/String", name := "valueOf", desc := "(C)Ljava/lang/String;" } : Jvm.MethodName) jdk_42_method_139_code (1 : Nat) (Option.some (Jvm.ClassFile.FieldType.object "java/lang/String"))).before args0 about1 = true := code_word (m := ⟨7, 1⟩) (meth := k7m1) (c := k7c1) (by decide +kernel) rfl rfl rfl (by decide +kernel)
set_option maxRecDepth 65536 in
theorem w_c2 : (Jvm.Cond.code ({ cls := "java/lang/StringLatin1", name := "canEncode", desc := "(C)Z" } : Jvm.MethodName) jdk_43_method_3_code (1 : Nat) (Option.some Jvm.ClassFile.FieldType.boolean)).before args0 about1 = true := code_word (m := ⟨8, 1⟩) (meth := k8m1) (c := k8c1) (by decide +kernel) rfl rfl rfl (by decide +kernel)
set_option maxRecDepth 65536 in
theorem w_c3 : (Jvm.Cond.code ({ cls := "java/lang/StringLatin1", name := "toBytes", desc := "(C)[B" } : Jvm.MethodName) jdk_43_method_46_code (1 : Nat) (Option.some (Jvm.ClassFile.FieldType.array Jvm.ClassFile.FieldType.byte))).before args0 about1 = true := code_word (m := ⟨8, 2⟩) (meth := k8m2) (c := k8c2) (by decide +kernel) rfl rfl rfl (by decide +kernel)
set_option maxRecDepth 65536 in
theorem w_c4 : (Jvm.Cond.code ({ cls := "java/lang/String", name := "<init>", desc := "([BB)V" } : Jvm.MethodName) jdk_42_method_151_code (3 : Nat) (Option.none : Option Jvm.ClassFile.FieldType)).before args0 about1 = true := code_word (m := ⟨7, 2⟩) (meth := k7m2) (c := k7c2) (by decide +kernel) rfl rfl rfl (by decide +kernel)
set_option maxRecDepth 65536 in
theorem w_c5 : (Jvm.Cond.code ({ cls := "java/lang/Object", name := "<init>", desc := "()V" } : Jvm.MethodName) object_method_1_code (1 : Nat) (Option.none : Option Jvm.ClassFile.FieldType)).before args0 about1 = true := code_word (m := ⟨0, 0⟩) (meth := k0m0) (c := k0c0) (by decide +kernel) rfl rfl rfl (by decide +kernel)
set_option maxRecDepth 65536 in
theorem w_c6 : (Jvm.Cond.code ({ cls := "com/example/bookish_search/bookishsearch/trec/Judgment", name := "<init>", desc := "(Ljava/lang/String;Ljava/lang/String;I)V" } : Jvm.MethodName) prog_72_method_1_code (4 : Nat) (Option.none : Option Jvm.ClassFile.FieldType)).before args0 about1 = true := code_word (m := ⟨9, 0⟩) (meth := k9m0) (c := k9c0) (by decide +kernel) rfl rfl rfl (by decide +kernel)
set_option maxRecDepth 65536 in
theorem w_c7 : (Jvm.Cond.code ({ cls := "java/util/Objects", name := "requireNonNull", desc := "(Ljava/lang/Object;Ljava/lang/String;)Ljava/lang/Object;" } : Jvm.MethodName) jdk_31_method_11_code (2 : Nat) (Option.some (Jvm.ClassFile.FieldType.object "java/lang/Object"))).before args0 about1 = true := code_word (m := ⟨10, 1⟩) (meth := k10m1) (c := k10c1) (by decide +kernel) rfl rfl rfl (by decide +kernel)
set_option maxRecDepth 65536 in
theorem w_c8 : (Jvm.Cond.code ({ cls := "com/example/bookish_search/bookishsearch/trec/Judgment", name := "isRelevant", desc := "()Z" } : Jvm.MethodName) prog_72_method_6_code (1 : Nat) (Option.some Jvm.ClassFile.FieldType.boolean)).before args0 about1 = true := code_word (m := ⟨9, 1⟩) (meth := k9m1) (c := k9c1) (by decide +kernel) rfl rfl rfl (by decide +kernel)
def codes1 : List Jvm.Cond := [Jvm.Cond.code x code maxLocals ret, Jvm.Cond.code ({ cls := "java/lang/String", name := "valueOf", desc := "(C)Ljava/lang/String;" } : Jvm.MethodName) jdk_42_method_139_code (1 : Nat) (Option.some (Jvm.ClassFile.FieldType.object "java/lang/String")), Jvm.Cond.code ({ cls := "java/lang/StringLatin1", name := "canEncode", desc := "(C)Z" } : Jvm.MethodName) jdk_43_method_3_code (1 : Nat) (Option.some Jvm.ClassFile.FieldType.boolean), Jvm.Cond.code ({ cls := "java/lang/StringLatin1", name := "toBytes", desc := "(C)[B" } : Jvm.MethodName) jdk_43_method_46_code (1 : Nat) (Option.some (Jvm.ClassFile.FieldType.array Jvm.ClassFile.FieldType.byte)), Jvm.Cond.code ({ cls := "java/lang/String", name := "<init>", desc := "([BB)V" } : Jvm.MethodName) jdk_42_method_151_code (3 : Nat) (Option.none : Option Jvm.ClassFile.FieldType), Jvm.Cond.code ({ cls := "java/lang/Object", name := "<init>", desc := "()V" } : Jvm.MethodName) object_method_1_code (1 : Nat) (Option.none : Option Jvm.ClassFile.FieldType), Jvm.Cond.code ({ cls := "com/example/bookish_search/bookishsearch/trec/Judgment", name := "<init>", desc := "(Ljava/lang/String;Ljava/lang/String;I)V" } : Jvm.MethodName) prog_72_method_1_code (4 : Nat) (Option.none : Option Jvm.ClassFile.FieldType), Jvm.Cond.code ({ cls := "java/util/Objects", name := "requireNonNull", desc := "(Ljava/lang/Object;Ljava/lang/String;)Ljava/lang/Object;" } : Jvm.MethodName) jdk_31_method_11_code (2 : Nat) (Option.some (Jvm.ClassFile.FieldType.object "java/lang/Object")), Jvm.Cond.code ({ cls := "com/example/bookish_search/bookishsearch/trec/Judgment", name := "isRelevant", desc := "()Z" } : Jvm.MethodName) prog_72_method_6_code (1 : Nat) (Option.some Jvm.ClassFile.FieldType.boolean)]
set_option maxRecDepth 65536 in
theorem codes_eq : words1.filter isCode = codes1 := rfl
theorem w_codes : ∀ c ∈ words1.filter isCode, c.before args0 about1 = true := by
  rw [codes_eq]
  intro c hc
  simp only [codes1, List.mem_cons, List.not_mem_nil, or_false] at hc
  rcases hc with rfl | rfl | rfl | rfl | rfl | rfl | rfl | rfl | rfl
  · exact w_c0
  · exact w_c1
  · exact w_c2
  · exact w_c3
  · exact w_c4
  · exact w_c5
  · exact w_c6
  · exact w_c7
  · exact w_c8
set_option maxRecDepth 65536 in
theorem w_t1 : (words1.take 24).all (fun c => isCode c || c.before args0 about1) = true := by decide +kernel
set_option maxRecDepth 65536 in
theorem w_t2 : ((words1.drop 24).take 24).all (fun c => isCode c || c.before args0 about1) = true := by decide +kernel
set_option maxRecDepth 65536 in
theorem w_t3 : ((words1.drop 24).drop 24).all (fun c => isCode c || c.before args0 about1) = true := by decide +kernel
theorem w_tables : (allAtoms (Jvm.Cond.code x code maxLocals ret :: tables_1)).before args0 about1 = true := by
  rw [allAtoms_all]
  show words1.all (fun c => c.before args0 about1) = true
  refine all_split ?_ w_codes
  rw [← List.take_append_drop 24 words1, List.all_append, w_t1, ← List.take_append_drop 24 (words1.drop 24), List.all_append, w_t2, w_t3]
  rfl
set_option maxRecDepth 65536 in
theorem w_rest : rest_1_c.before args0 about1 = true := by decide +kernel
set_option maxRecDepth 65536 in
theorem w_case : (Jvm.Cond.and given_1 narrow_1).before args0 about1 = true := by decide +kernel
theorem w_applies : (headSpec (Jvm.Cond.code x code maxLocals ret :: tables_1) room_1).applies x e0.platform about1 = true :=
  (Spec.applies_iff w_frames).mpr ⟨w_running, w_runnable, w_alone, w_named, w_hears, w_ripe, w_room, w_tables⟩
theorem atStart : AtStart classFile x code maxLocals ret World_1 tables_1 room_1 Calls_1 rest_1 Pre_1 launch0 p0 e0 about1 theMethod args0 below0 :=
  ⟨lists_1, trivial, launch0.admits_env _ _ _, launch0.least_env, fairChoices_fair.cas, fairChoices_fair.clock, w_frames, w_args, w_heap, w_applies, trivial, w_rest, w_case⟩
end start1
theorem witness_1 : WitnessClaimed_1 := ⟨start1.p0, start1.e0, start1.about1, start1.theMethod, start1.args0, start1.below0, start1.atStart⟩
end Jvm.Pilot.@@N@@
