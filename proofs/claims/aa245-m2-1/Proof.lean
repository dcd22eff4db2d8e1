import JvmDerived
import JvmDerived.Pilot.@@N@@Statement
import JvmDerived.Pilot.@@N@@Code
set_option linter.unusedVariables false
set_option linter.unusedSimpArgs false
@@BLOCK:NumsL.lean.txt@@
namespace Jvm.RoadKit
open Sem ClassFile Op Lib Jvm.Stand Jvm.Free Jvm.LawKit
section New
variable {p : Program} {l : Launch} {e : Env} {R : Room} {s : State} {m : MethodId} {args : Array Value} {below : List Frame} {meth : Method} {c : Code} {T : State} {locs : List Loc} {cells slots : Nat}
theorem retI (X : Stand p l e R s m args below meth c T locs cells slots) (hx : p.tables.exec = Jvm.exec) {pc : Nat} {Ls : Array Slot} {z : Int32} {rest : List Value} (hret : meth.sig.returnType = some .int) (hd : decode c.code pc = .ok (.ireturn, 1)) {fs : List Frame}
    (hl : ∀ (f : JFrame) (acts : List Action), f.method = m → f.locked = none → f.entered = [] → (doReturn e (T.setTop f) acts (some (.int z))).1 = T.setFrames fs) : Steps p.tables e below (T.setTop (mkF m pc Ls (.int z :: rest))) (T.setFrames fs) := by
  have hm' : T.vm.method? m = some meth := X.method'
  have hn : narrow .int (.int z) = .int z := rfl
  show Steps p.tables e below (T.setTop { method := m, pc := pc, locals := Ls, stack := _ :: rest, locked := none }) _
  jvm_step X.here [X.here.top, hx, hd, hm', hret, hn]
  first | (intro acts; rw [hl _ acts rfl rfl rfl]) | rw [hl _ _ rfl rfl rfl]
  exact Steps.refl _
end New
end Jvm.RoadKit
namespace Jvm.Pilot.@@N@@
open Jvm Jvm.ClassFile Sem Op Lib Jvm.Free Jvm.Stand Jvm.LawKit Jvm.RoadKit Bundle Jvm.Pilot.@@N@@.Jvm.D
theorem own_nr {n : String} {w : Value} (h : w.isRef = true) : narrow (.object n) w = w := by rcases ref_cases h with rfl | ⟨_, rfl⟩ <;> rfl
theorem own_i {L : List Jvm.Cond} {a0 : Array Value} {Z : State} (hw : ∀ d ∈ L, d.before a0 Z = true) (i : Nat) {d : Jvm.Cond} (h : L[i]? = some d) : d.before a0 Z = true := hw _ (List.mem_of_getElem? h)
theorem d1_0 : decode prog_145_method_1_code 0 = .ok (.aload_n 0, 1) := by decide +kernel
theorem d1_1 : decode prog_145_method_1_code 1 = .ok (.invokespecial 1, 3) := by decide +kernel
theorem d1_4 : decode prog_145_method_1_code 4 = .ok (.aload_n 0, 1) := by decide +kernel
theorem d1_5 : decode prog_145_method_1_code 5 = .ok (.lload_n 1, 1) := by decide +kernel
theorem d1_6 : decode prog_145_method_1_code 6 = .ok (.putfield 7, 3) := by decide +kernel
theorem d1_9 : decode prog_145_method_1_code 9 = .ok (.return_, 1) := by decide +kernel
theorem d3_0 : decode prog_116_method_2_code 0 = .ok (.aload_n 0, 1) := by decide +kernel
theorem d3_1 : decode prog_116_method_2_code 1 = .ok (.invokespecial 30, 3) := by decide +kernel
theorem d3_4 : decode prog_116_method_2_code 4 = .ok (.iload_n 2, 1) := by decide +kernel
theorem d3_5 : decode prog_116_method_2_code 5 = .ok (.ifCond .ne 13, 3) := by decide +kernel
theorem d3_18 : decode prog_116_method_2_code 18 = .ok (.aload_n 0, 1) := by decide +kernel
theorem d3_19 : decode prog_116_method_2_code 19 = .ok (.aload_n 1, 1) := by decide +kernel
theorem d3_20 : decode prog_116_method_2_code 20 = .ok (.putfield 42, 3) := by decide +kernel
theorem d3_23 : decode prog_116_method_2_code 23 = .ok (.aload_n 0, 1) := by decide +kernel
theorem d3_24 : decode prog_116_method_2_code 24 = .ok (.iload_n 2, 1) := by decide +kernel
theorem d3_25 : decode prog_116_method_2_code 25 = .ok (.putfield 13, 3) := by decide +kernel
theorem d3_28 : decode prog_116_method_2_code 28 = .ok (.aload_n 0, 1) := by decide +kernel
theorem d3_29 : decode prog_116_method_2_code 29 = .ok (.iload_n 2, 1) := by decide +kernel
theorem d3_30 : decode prog_116_method_2_code 30 = .ok (.iconst 2, 1) := by decide +kernel
theorem d3_31 : decode prog_116_method_2_code 31 = .ok (.if_icmp .le 12, 3) := by decide +kernel
theorem d3_34 : decode prog_116_method_2_code 34 = .ok (.iload_n 2, 1) := by decide +kernel
theorem d3_35 : decode prog_116_method_2_code 35 = .ok (.iconst 2, 1) := by decide +kernel
theorem d3_36 : decode prog_116_method_2_code 36 = .ok (.isub, 1) := by decide +kernel
theorem d3_37 : decode prog_116_method_2_code 37 = .ok (.anewarray 46, 3) := by decide +kernel
theorem d3_40 : decode prog_116_method_2_code 40 = .ok (.goto 4, 3) := by decide +kernel
theorem d3_43 : decode prog_116_method_2_code 43 = .ok (.aconst_null, 1) := by decide +kernel
theorem d3_44 : decode prog_116_method_2_code 44 = .ok (.putfield 20, 3) := by decide +kernel
theorem d3_47 : decode prog_116_method_2_code 47 = .ok (.return_, 1) := by decide +kernel
theorem d4_0 : decode prog_116_method_7_code 0 = .ok (.iload_n 1, 1) := by decide +kernel
theorem d4_1 : decode prog_116_method_7_code 1 = .ok (.ifCond .ne 8, 3) := by decide +kernel
theorem d4_4 : decode prog_116_method_7_code 4 = .ok (.aload_n 0, 1) := by decide +kernel
theorem d4_5 : decode prog_116_method_7_code 5 = .ok (.getfield 9, 3) := by decide +kernel
theorem d4_8 : decode prog_116_method_7_code 8 = .ok (.areturn, 1) := by decide +kernel
theorem d4_9 : decode prog_116_method_7_code 9 = .ok (.iload_n 1, 1) := by decide +kernel
theorem d4_10 : decode prog_116_method_7_code 10 = .ok (.iconst 1, 1) := by decide +kernel
theorem d4_11 : decode prog_116_method_7_code 11 = .ok (.if_icmp .ne 16, 3) := by decide +kernel
theorem d4_14 : decode prog_116_method_7_code 14 = .ok (.aload_n 0, 1) := by decide +kernel
theorem d4_15 : decode prog_116_method_7_code 15 = .ok (.getfield 13, 3) := by decide +kernel
theorem d4_18 : decode prog_116_method_7_code 18 = .ok (.iconst 1, 1) := by decide +kernel
theorem d4_19 : decode prog_116_method_7_code 19 = .ok (.if_icmp .le 8, 3) := by decide +kernel
theorem d4_22 : decode prog_116_method_7_code 22 = .ok (.aload_n 0, 1) := by decide +kernel
theorem d4_23 : decode prog_116_method_7_code 23 = .ok (.getfield 17, 3) := by decide +kernel
theorem d4_26 : decode prog_116_method_7_code 26 = .ok (.areturn, 1) := by decide +kernel
theorem d4_27 : decode prog_116_method_7_code 27 = .ok (.aload_n 0, 1) := by decide +kernel
theorem d4_28 : decode prog_116_method_7_code 28 = .ok (.getfield 20, 3) := by decide +kernel
theorem d4_31 : decode prog_116_method_7_code 31 = .ok (.iload_n 1, 1) := by decide +kernel
theorem d4_32 : decode prog_116_method_7_code 32 = .ok (.iconst 2, 1) := by decide +kernel
theorem d4_33 : decode prog_116_method_7_code 33 = .ok (.isub, 1) := by decide +kernel
theorem d4_34 : decode prog_116_method_7_code 34 = .ok (.aaload, 1) := by decide +kernel
theorem d4_35 : decode prog_116_method_7_code 35 = .ok (.areturn, 1) := by decide +kernel
theorem d5_0 : decode prog_116_method_8_code 0 = .ok (.iload_n 1, 1) := by decide +kernel
theorem d5_1 : decode prog_116_method_8_code 1 = .ok (.ifCond .ne 11, 3) := by decide +kernel
theorem d5_4 : decode prog_116_method_8_code 4 = .ok (.aload_n 0, 1) := by decide +kernel
theorem d5_5 : decode prog_116_method_8_code 5 = .ok (.aload_n 2, 1) := by decide +kernel
theorem d5_6 : decode prog_116_method_8_code 6 = .ok (.putfield 9, 3) := by decide +kernel
theorem d5_9 : decode prog_116_method_8_code 9 = .ok (.goto 33, 3) := by decide +kernel
theorem d5_12 : decode prog_116_method_8_code 12 = .ok (.iload_n 1, 1) := by decide +kernel
theorem d5_13 : decode prog_116_method_8_code 13 = .ok (.iconst 1, 1) := by decide +kernel
theorem d5_14 : decode prog_116_method_8_code 14 = .ok (.if_icmp .ne 19, 3) := by decide +kernel
theorem d5_17 : decode prog_116_method_8_code 17 = .ok (.aload_n 0, 1) := by decide +kernel
theorem d5_18 : decode prog_116_method_8_code 18 = .ok (.getfield 13, 3) := by decide +kernel
theorem d5_21 : decode prog_116_method_8_code 21 = .ok (.iconst 1, 1) := by decide +kernel
theorem d5_22 : decode prog_116_method_8_code 22 = .ok (.if_icmp .le 11, 3) := by decide +kernel
theorem d5_25 : decode prog_116_method_8_code 25 = .ok (.aload_n 0, 1) := by decide +kernel
theorem d5_26 : decode prog_116_method_8_code 26 = .ok (.aload_n 2, 1) := by decide +kernel
theorem d5_27 : decode prog_116_method_8_code 27 = .ok (.putfield 17, 3) := by decide +kernel
theorem d5_30 : decode prog_116_method_8_code 30 = .ok (.goto 12, 3) := by decide +kernel
theorem d5_33 : decode prog_116_method_8_code 33 = .ok (.aload_n 0, 1) := by decide +kernel
theorem d5_34 : decode prog_116_method_8_code 34 = .ok (.getfield 20, 3) := by decide +kernel
theorem d5_37 : decode prog_116_method_8_code 37 = .ok (.iload_n 1, 1) := by decide +kernel
theorem d5_38 : decode prog_116_method_8_code 38 = .ok (.iconst 2, 1) := by decide +kernel
theorem d5_39 : decode prog_116_method_8_code 39 = .ok (.isub, 1) := by decide +kernel
theorem d5_40 : decode prog_116_method_8_code 40 = .ok (.aload_n 2, 1) := by decide +kernel
theorem d5_41 : decode prog_116_method_8_code 41 = .ok (.aastore, 1) := by decide +kernel
theorem d5_42 : decode prog_116_method_8_code 42 = .ok (.return_, 1) := by decide +kernel
theorem own_atoms {Z : State} {a0 : Array Value} (hw : ∀ d ∈ tables_1, d.before a0 Z = true) : ∀ a ∈ Bundle.stringAtoms, a.before a0 Z = true := by
  intro d hd
  simp only [Bundle.stringAtoms, List.mem_cons, List.not_mem_nil, or_false] at hd
  rcases hd with rfl | rfl | rfl | rfl | rfl | rfl | rfl
  · exact (own_i hw 20 rfl)
  · exact (own_i hw 21 rfl)
  · exact (own_i hw 22 rfl)
  · exact (own_i hw 23 rfl)
  · exact (own_i hw 24 rfl)
  · exact (own_i hw 25 rfl)
  · exact (own_i hw 26 rfl)
theorem pn_com_example_libsld_libsld_Var : plainName "com/example/libsld/libsld/Var" = true := by first | (simp [plainName, overriddenIn]; done) | decide +kernel
theorem ef_rm1 (m : MethodId) (x0 : Addr) (x1 : Int64) : entryFrame m #[(.ref x0), (.long x1)] 3 = mkF m 0 #[.val (.ref x0), .val (.long x1), .second] [] := by first | (simp [entryFrame, mkF, argsToLocals, Value.category]; done) | rfl
def Q1 (Z : State) (a1 : Addr) (q2 : Int64) (h0 : Heap) (n0 : Nat) (v : Option Value) (h : Heap) (L : List Loc) : Prop := v = none ∧ Fr n0 L ∧ Keep h0 h [a1] ∧ (Exa Z h a1 "com/example/libsld/libsld/Var")
set_option maxRecDepth 65536 in
set_option maxHeartbeats 40000000 in
theorem rm1 (l : Launch) (Z : State) (a0 : Array Value) (hw : ∀ d ∈ tables_1, d.before a0 Z = true) (ws : List Jvm.Cond) (a1 : Addr) (q2 : Int64) (h0 : Heap) (n0 : Nat) (Z0 : n0 ≤ h0.size) (F1 : Fld Z h0 a1 "com/example/libsld/libsld/Var" "number" "J" (.long (0 : Int64))) (E1 : Exa Z h0 a1 "com/example/libsld/libsld/Var") (g1 : n0 ≤ a1) :
    MetFree l (⟨"com/example/libsld/libsld/Var", "<init>", "(J)V"⟩ : MethodName) (head1 (Jvm.Cond.code (⟨"com/example/libsld/libsld/Var", "<init>", "(J)V"⟩ : MethodName) prog_145_method_1_code 3 none :: ws) ({ frames := 1, cells := 0, slots := 0, locals := 12 } : Room)) (fun a U => a = #[(.ref a1), (.long q2)] ∧ Z.Warmed39 U.vm ∧ U.heap = h0) (fun _ _ _ _ _ => True) (fun _ U o U' => ∃ v L, o = .returned v ∧ Q1 Z a1 q2 h0 n0 v U'.heap L ∧ FrameEnd U o U' L ({ frames := 1, cells := 0, slots := 0, locals := 12 } : Room).cells ({ frames := 1, cells := 0, slots := 0, locals := 12 } : Room).slots) := by
  refine MetFree.of_bodySF (plainFor_of_name pn_com_example_libsld_libsld_Var) hisR ?_
  intro p e s m args below meth c s₁ Bd hml0 hP hK
  obtain ⟨rfl, hZ, hh⟩ := hP
  have hx := Bd.exec
  have hby := Bd.bytes
  have hml : c.maxLocals = 3 := hml0
  have hown : s.vm.findClass "com/example/libsld/libsld/Var" = some m.cls := findClass_of_methodNamed Bd.named
  have hnm := (name_of_methodNamed Bd.named Bd.method).1
  have X0 : Stand p l e ({ frames := 1, cells := 0, slots := 0, locals := 12 } : Room) s m #[(.ref a1), (.long q2)] below meth c s₁ [] 0 0 := Stand.of_body Bd
  have e0 : s₁.heap = h0 := by rw [← hh, Bd.state]; rfl
  have N0 := Fr.nil n0
  have pre0 : ∀ t, Steps p.tables e below (s₁.setTop (mkF m 0 #[.val (.ref a1), .val (.long q2), .second] [])) t → Steps p.tables e below (s₁.setTop (entryFrame m #[(.ref a1), (.long q2)] 3)) t := fun t k => castTop (ef_rm1 m a1 q2) k
  have f101 := Keep.refl h0 [a1]
  obtain ⟨T102, X102, e102, st102⟩ := initO X0 hx hZ hown (own_i hw 7 rfl) (own_i hw 8 rfl) (own_i hw 9 rfl) e0 (g := (mkF m 1 #[.val (.ref a1), .val (.long q2), .second] [(.ref a1)])) rfl (by rw [hml]; rfl) rfl (hb hby d1_1) (by decide) (W := 0) (by show 2 * 0 + _ ≤ _; exact Nat.le_of_eq rfl) (by decide)
  obtain ⟨T103, h103, X103, e103, W103, st103⟩ := putF X102 hx hZ hown (host := "") (Or.inl (own_i hw 10 rfl)) Via.refl e102 F1 E1 (Or.inr ⟨(own_i hw 11 rfl), rfl, hnm⟩) (own_i hw 2 rfl) (ty := .long) (by decide) rfl rfl (g := (mkF m 6 #[.val (.ref a1), .val (.long q2), .second] [(.long q2), (.ref a1)])) rfl rfl (hb hby d1_6)
  have Fw103 := F1.same W103
  have N103 := Fr.snoc X103 N0 g1
  have f104 := Nat.le_trans Z0 (Keep.of_wr W103).1
  have f105 := E1.wr W103
  have f106 := f101.wr W103 (Or.inl (List.mem_of_getElem? (i := 0) rfl))
  have pre107 : ∀ t, Steps p.tables e below (T103.setTop (mkF m 9 #[.val (.ref a1), .val (.long q2), .second] [])) t → Steps p.tables e below (s₁.setTop (entryFrame m #[(.ref a1), (.long q2)] 3)) t := fun t k => pre0 t (by
    show Steps p.tables e below (s₁.setTop (mkF m 0 #[.val (.ref a1), .val (.long q2), .second] [])) t
    refine XS.aloadN X0.here hx rfl (hb hby d1_0) rfl rfl ?_
    show Steps p.tables e below (s₁.setTop (mkF m 1 #[.val (.ref a1), .val (.long q2), .second] [(.ref a1)])) t
    refine st102 _ ?_
    show Steps p.tables e below (T102.setTop (mkF m 4 #[.val (.ref a1), .val (.long q2), .second] [])) t
    refine XS.aloadN X102.here hx rfl (hb hby d1_4) rfl rfl ?_
    show Steps p.tables e below (T102.setTop (mkF m 5 #[.val (.ref a1), .val (.long q2), .second] [(.ref a1)])) t
    refine XS.lloadN X102.here hx rfl (hb hby d1_5) rfl ?_
    show Steps p.tables e below (T102.setTop (mkF m 6 #[.val (.ref a1), .val (.long q2), .second] [(.long q2), (.ref a1)])) t
    refine st103 _ ?_
    exact k)
  obtain ⟨fs, hr, hrun, hended, hW, hsame⟩ := X103.leave (v := none) (fun _ => rfl)
  refine ⟨_, _, pre107 _ ?_, hrun, hended, _, _, rfl, ?_, ⟨_, rfl⟩, hW, hsame.mono (by decide) (by decide)⟩
  · exact X103.returnOut hx Bd.returns (hb hby d1_9) hr
  · show Q1 Z a1 q2 h0 n0 _ T103.heap _
    rw [e103]
    exact ⟨rfl, N103, f106, f105⟩
theorem pn_com_example_libsld_libsld_Struct : plainName "com/example/libsld/libsld/Struct" = true := by first | (simp [plainName, overriddenIn]; done) | decide +kernel
theorem ef_rm3_1 (m : MethodId) (x0 : Addr) (x1 : Addr) : entryFrame m #[(.ref x0), (.ref x1), (.int (1 : Int32))] 3 = mkF m 0 #[.val (.ref x0), .val (.ref x1), .val (.int (1 : Int32))] [] := by first | (simp [entryFrame, mkF, argsToLocals, Value.category]; done) | rfl
def Q3_1 (Z : State) (a1 : Addr) (a2 : Addr) (h0 : Heap) (n0 : Nat) (v : Option Value) (h : Heap) (L : List Loc) : Prop := v = none ∧ Fr n0 L ∧ Keep h0 h [a1] ∧ (Exa Z h a1 "com/example/libsld/libsld/Struct") ∧ (Fld Z h a1 "com/example/libsld/libsld/Struct" "first" "Lcom/example/libsld/libsld/Term;" .null) ∧ (Fld Z h a1 "com/example/libsld/libsld/Struct" "second" "Lcom/example/libsld/libsld/Term;" .null) ∧ (Fld Z h a1 "com/example/libsld/libsld/Struct" "arity" "I" (.int (1 : Int32))) ∧ (Fld Z h a1 "com/example/libsld/libsld/Struct" "rest" "[Lcom/example/libsld/libsld/Term;" .null)
set_option maxRecDepth 65536 in
set_option maxHeartbeats 40000000 in
theorem rm3_1 (l : Launch) (Z : State) (a0 : Array Value) (hw : ∀ d ∈ tables_1, d.before a0 Z = true) (ws : List Jvm.Cond) (a1 : Addr) (a2 : Addr) (h0 : Heap) (n0 : Nat) (Z0 : n0 ≤ h0.size) (F1 : Fld Z h0 a1 "com/example/libsld/libsld/Struct" "first" "Lcom/example/libsld/libsld/Term;" .null) (F2 : Fld Z h0 a1 "com/example/libsld/libsld/Struct" "second" "Lcom/example/libsld/libsld/Term;" .null) (F3 : Fld Z h0 a1 "com/example/libsld/libsld/Struct" "rest" "[Lcom/example/libsld/libsld/Term;" .null) (F4 : Fld Z h0 a1 "com/example/libsld/libsld/Struct" "arity" "I" (.int (0 : Int32))) (F5 : Fld Z h0 a1 "com/example/libsld/libsld/Struct" "name" "Ljava/lang/String;" .null) (E1 : Exa Z h0 a1 "com/example/libsld/libsld/Struct") (g1 : n0 ≤ a1) :
    MetFree l (⟨"com/example/libsld/libsld/Struct", "<init>", "(Ljava/lang/String;I)V"⟩ : MethodName) (head1 (Jvm.Cond.code (⟨"com/example/libsld/libsld/Struct", "<init>", "(Ljava/lang/String;I)V"⟩ : MethodName) prog_116_method_2_code 3 none :: ws) ({ frames := 1, cells := 0, slots := 0, locals := 12 } : Room)) (fun a U => a = #[(.ref a1), (.ref a2), (.int (1 : Int32))] ∧ Z.Warmed39 U.vm ∧ U.heap = h0) (fun _ _ _ _ _ => True) (fun _ U o U' => ∃ v L, o = .returned v ∧ Q3_1 Z a1 a2 h0 n0 v U'.heap L ∧ FrameEnd U o U' L ({ frames := 1, cells := 0, slots := 0, locals := 12 } : Room).cells ({ frames := 1, cells := 0, slots := 0, locals := 12 } : Room).slots) := by
  refine MetFree.of_bodySF (plainFor_of_name pn_com_example_libsld_libsld_Struct) hisR ?_
  intro p e s m args below meth c s₁ Bd hml0 hP hK
  obtain ⟨rfl, hZ, hh⟩ := hP
  have hx := Bd.exec
  have hby := Bd.bytes
  have hml : c.maxLocals = 3 := hml0
  have hown : s.vm.findClass "com/example/libsld/libsld/Struct" = some m.cls := findClass_of_methodNamed Bd.named
  have hnm := (name_of_methodNamed Bd.named Bd.method).1
  have X0 : Stand p l e ({ frames := 1, cells := 0, slots := 0, locals := 12 } : Room) s m #[(.ref a1), (.ref a2), (.int (1 : Int32))] below meth c s₁ [] 0 0 := Stand.of_body Bd
  have e0 : s₁.heap = h0 := by rw [← hh, Bd.state]; rfl
  have N0 := Fr.nil n0
  have pre0 : ∀ t, Steps p.tables e below (s₁.setTop (mkF m 0 #[.val (.ref a1), .val (.ref a2), .val (.int (1 : Int32))] [])) t → Steps p.tables e below (s₁.setTop (entryFrame m #[(.ref a1), (.ref a2), (.int (1 : Int32))] 3)) t := fun t k => castTop (ef_rm3_1 m a1 a2) k
  have f101 := Keep.refl h0 [a1]
  obtain ⟨T102, X102, e102, st102⟩ := initO X0 hx hZ hown (own_i hw 30 rfl) (own_i hw 8 rfl) (own_i hw 9 rfl) e0 (g := (mkF m 1 #[.val (.ref a1), .val (.ref a2), .val (.int (1 : Int32))] [(.ref a1)])) rfl (by rw [hml]; rfl) rfl (hb hby d3_1) (by decide) (W := 0) (by show 2 * 0 + _ ≤ _; exact Nat.le_of_eq rfl) (by decide)
  obtain ⟨T103, h103, X103, e103, W103, st103⟩ := putF X102 hx hZ hown (host := "") (Or.inl (own_i hw 31 rfl)) Via.refl e102 F5 E1 (Or.inr ⟨(own_i hw 32 rfl), rfl, hnm⟩) (own_i hw 17 rfl) (ty := (.object "java/lang/String")) (by decide) rfl rfl (g := (mkF m 20 #[.val (.ref a1), .val (.ref a2), .val (.int (1 : Int32))] [(.ref a2), (.ref a1)])) rfl rfl (hb hby d3_20)
  have Fw103 := F5.same W103
  have N103 := Fr.snoc X103 N0 g1
  have f104 := Nat.le_trans Z0 (Keep.of_wr W103).1
  have f105 := F1.other W103 (Or.inr (slot_ne (Or.inl (own_i hw 43 rfl)) (Or.inr (own_i hw 32 rfl)) (by decide) (t := (.object "com/example/libsld/libsld/Term")) (t' := (.object "java/lang/String")) (by decide) (by decide)))
  have f106 := F2.other W103 (Or.inr (slot_ne (Or.inl (own_i hw 51 rfl)) (Or.inr (own_i hw 32 rfl)) (by decide) (t := (.object "com/example/libsld/libsld/Term")) (t' := (.object "java/lang/String")) (by decide) (by decide)))
  have f107 := F3.other W103 (Or.inr (slot_ne (Or.inr (own_i hw 36 rfl)) (Or.inr (own_i hw 32 rfl)) (by decide) (t := (.array (.object "com/example/libsld/libsld/Term"))) (t' := (.object "java/lang/String")) (by decide) (by decide)))
  have f108 := F4.other W103 (Or.inr (slot_ne (Or.inr (own_i hw 34 rfl)) (Or.inr (own_i hw 32 rfl)) (by decide) (t := .int) (t' := (.object "java/lang/String")) (by decide) (by decide)))
  have f109 := E1.wr W103
  have f110 := f101.wr W103 (Or.inl (List.mem_of_getElem? (i := 0) rfl))
  obtain ⟨T111, h111, X111, e111, W111, st111⟩ := putF X103 hx hZ hown (host := "") (Or.inl (own_i hw 33 rfl)) Via.refl e103 f108 f109 (Or.inr ⟨(own_i hw 34 rfl), rfl, hnm⟩) (own_i hw 17 rfl) (ty := .int) (by decide) rfl rfl (g := (mkF m 25 #[.val (.ref a1), .val (.ref a2), .val (.int (1 : Int32))] [(.int (1 : Int32)), (.ref a1)])) rfl rfl (hb hby d3_25)
  have Fw111 := f108.same W111
  have N111 := Fr.snoc X111 N103 g1
  have f112 := Nat.le_trans f104 (Keep.of_wr W111).1
  have f113 := f105.other W111 (Or.inr (slot_ne (Or.inl (own_i hw 43 rfl)) (Or.inr (own_i hw 34 rfl)) (by decide) (t := (.object "com/example/libsld/libsld/Term")) (t' := .int) (by decide) (by decide)))
  have f114 := f106.other W111 (Or.inr (slot_ne (Or.inl (own_i hw 51 rfl)) (Or.inr (own_i hw 34 rfl)) (by decide) (t := (.object "com/example/libsld/libsld/Term")) (t' := .int) (by decide) (by decide)))
  have f115 := f107.other W111 (Or.inr (slot_ne (Or.inr (own_i hw 36 rfl)) (Or.inr (own_i hw 34 rfl)) (by decide) (t := (.array (.object "com/example/libsld/libsld/Term"))) (t' := .int) (by decide) (by decide)))
  have f116 := f109.wr W111
  have f117 := f110.wr W111 (Or.inl (List.mem_of_getElem? (i := 0) rfl))
  have f118 := Fw103.other W111 (Or.inr (slot_ne (Or.inr (own_i hw 32 rfl)) (Or.inr (own_i hw 34 rfl)) (by decide) (t := (.object "java/lang/String")) (t' := .int) (by decide) (by decide)))
  obtain ⟨T119, h119, X119, e119, W119, st119⟩ := putF X111 hx hZ hown (host := "") (Or.inl (own_i hw 35 rfl)) Via.refl e111 f115 f116 (Or.inr ⟨(own_i hw 36 rfl), rfl, hnm⟩) (own_i hw 17 rfl) (ty := (.array (.object "com/example/libsld/libsld/Term"))) (by decide) rfl rfl (g := (mkF m 44 #[.val (.ref a1), .val (.ref a2), .val (.int (1 : Int32))] [.null, (.ref a1)])) rfl rfl (hb hby d3_44)
  have Fw119 := f115.same W119
  have N119 := Fr.snoc X119 N111 g1
  have f120 := Nat.le_trans f112 (Keep.of_wr W119).1
  have f121 := f113.other W119 (Or.inr (slot_ne (Or.inl (own_i hw 43 rfl)) (Or.inr (own_i hw 36 rfl)) (by decide) (t := (.object "com/example/libsld/libsld/Term")) (t' := (.array (.object "com/example/libsld/libsld/Term"))) (by decide) (by decide)))
  have f122 := f114.other W119 (Or.inr (slot_ne (Or.inl (own_i hw 51 rfl)) (Or.inr (own_i hw 36 rfl)) (by decide) (t := (.object "com/example/libsld/libsld/Term")) (t' := (.array (.object "com/example/libsld/libsld/Term"))) (by decide) (by decide)))
  have f123 := f116.wr W119
  have f124 := f117.wr W119 (Or.inl (List.mem_of_getElem? (i := 0) rfl))
  have f125 := f118.other W119 (Or.inr (slot_ne (Or.inr (own_i hw 32 rfl)) (Or.inr (own_i hw 36 rfl)) (by decide) (t := (.object "java/lang/String")) (t' := (.array (.object "com/example/libsld/libsld/Term"))) (by decide) (by decide)))
  have f126 := Fw111.other W119 (Or.inr (slot_ne (Or.inr (own_i hw 34 rfl)) (Or.inr (own_i hw 36 rfl)) (by decide) (t := .int) (t' := (.array (.object "com/example/libsld/libsld/Term"))) (by decide) (by decide)))
  have pre127 : ∀ t, Steps p.tables e below (T119.setTop (mkF m 47 #[.val (.ref a1), .val (.ref a2), .val (.int (1 : Int32))] [])) t → Steps p.tables e below (s₁.setTop (entryFrame m #[(.ref a1), (.ref a2), (.int (1 : Int32))] 3)) t := fun t k => pre0 t (by
    show Steps p.tables e below (s₁.setTop (mkF m 0 #[.val (.ref a1), .val (.ref a2), .val (.int (1 : Int32))] [])) t
    refine XS.aloadN X0.here hx rfl (hb hby d3_0) rfl rfl ?_
    show Steps p.tables e below (s₁.setTop (mkF m 1 #[.val (.ref a1), .val (.ref a2), .val (.int (1 : Int32))] [(.ref a1)])) t
    refine st102 _ ?_
    show Steps p.tables e below (T102.setTop (mkF m 4 #[.val (.ref a1), .val (.ref a2), .val (.int (1 : Int32))] [])) t
    refine XS.iloadN X102.here hx rfl (hb hby d3_4) rfl ?_
    show Steps p.tables e below (T102.setTop (mkF m 5 #[.val (.ref a1), .val (.ref a2), .val (.int (1 : Int32))] [(.int (1 : Int32))])) t
    refine XS.ifYes X102.here hx rfl (pc0 := 5) (pc' := 18) rfl (hb hby d3_5) rfl ((if0 _ _).trans (feq (by decide : ¬ ((1 : Int32) = (0 : Int32)))).2) (by decide) (by decide) ?_
    show Steps p.tables e below (T102.setTop (mkF m 18 #[.val (.ref a1), .val (.ref a2), .val (.int (1 : Int32))] [])) t
    refine XS.aloadN X102.here hx rfl (hb hby d3_18) rfl rfl ?_
    show Steps p.tables e below (T102.setTop (mkF m 19 #[.val (.ref a1), .val (.ref a2), .val (.int (1 : Int32))] [(.ref a1)])) t
    refine XS.aloadN X102.here hx rfl (hb hby d3_19) rfl rfl ?_
    show Steps p.tables e below (T102.setTop (mkF m 20 #[.val (.ref a1), .val (.ref a2), .val (.int (1 : Int32))] [(.ref a2), (.ref a1)])) t
    refine st103 _ ?_
    show Steps p.tables e below (T103.setTop (mkF m 23 #[.val (.ref a1), .val (.ref a2), .val (.int (1 : Int32))] [])) t
    refine XS.aloadN X103.here hx rfl (hb hby d3_23) rfl rfl ?_
    show Steps p.tables e below (T103.setTop (mkF m 24 #[.val (.ref a1), .val (.ref a2), .val (.int (1 : Int32))] [(.ref a1)])) t
    refine XS.iloadN X103.here hx rfl (hb hby d3_24) rfl ?_
    show Steps p.tables e below (T103.setTop (mkF m 25 #[.val (.ref a1), .val (.ref a2), .val (.int (1 : Int32))] [(.int (1 : Int32)), (.ref a1)])) t
    refine st111 _ ?_
    show Steps p.tables e below (T111.setTop (mkF m 28 #[.val (.ref a1), .val (.ref a2), .val (.int (1 : Int32))] [])) t
    refine XS.aloadN X111.here hx rfl (hb hby d3_28) rfl rfl ?_
    show Steps p.tables e below (T111.setTop (mkF m 29 #[.val (.ref a1), .val (.ref a2), .val (.int (1 : Int32))] [(.ref a1)])) t
    refine XS.iloadN X111.here hx rfl (hb hby d3_29) rfl ?_
    show Steps p.tables e below (T111.setTop (mkF m 30 #[.val (.ref a1), .val (.ref a2), .val (.int (1 : Int32))] [(.int (1 : Int32)), (.ref a1)])) t
    refine XS.iconst X111.here hx rfl (hb hby d3_30) ?_
    show Steps p.tables e below (T111.setTop (mkF m 31 #[.val (.ref a1), .val (.ref a2), .val (.int (1 : Int32))] [(.int (2 : Int32)), (.int (1 : Int32)), (.ref a1)])) t
    refine XS.icmpYes X111.here hx rfl (pc0 := 31) (pc' := 43) rfl (hb hby d3_31) rfl (flt (by decide : ¬ ((2 : Int32) < (1 : Int32)))).2.2.2 (by decide) (by decide) ?_
    show Steps p.tables e below (T111.setTop (mkF m 43 #[.val (.ref a1), .val (.ref a2), .val (.int (1 : Int32))] [(.ref a1)])) t
    refine XS.aconstNull X111.here hx rfl (hb hby d3_43) ?_
    show Steps p.tables e below (T111.setTop (mkF m 44 #[.val (.ref a1), .val (.ref a2), .val (.int (1 : Int32))] [.null, (.ref a1)])) t
    refine st119 _ ?_
    exact k)
  obtain ⟨fs, hr, hrun, hended, hW, hsame⟩ := X119.leave (v := none) (fun _ => rfl)
  refine ⟨_, _, pre127 _ ?_, hrun, hended, _, _, rfl, ?_, ⟨_, rfl⟩, hW, hsame.mono (by decide) (by decide)⟩
  · exact X119.returnOut hx Bd.returns (hb hby d3_47) hr
  · show Q3_1 Z a1 a2 h0 n0 _ T119.heap _
    rw [e119]
    exact ⟨rfl, N119, f124, f123, f121, f122, f126, Fw119⟩
theorem ef_rm3_2 (m : MethodId) (x0 : Addr) (x1 : Addr) : entryFrame m #[(.ref x0), (.ref x1), (.int (2 : Int32))] 3 = mkF m 0 #[.val (.ref x0), .val (.ref x1), .val (.int (2 : Int32))] [] := by first | (simp [entryFrame, mkF, argsToLocals, Value.category]; done) | rfl
def Q3_2 (Z : State) (a1 : Addr) (a2 : Addr) (h0 : Heap) (n0 : Nat) (v : Option Value) (h : Heap) (L : List Loc) : Prop := v = none ∧ Fr n0 L ∧ Keep h0 h [a1] ∧ (Exa Z h a1 "com/example/libsld/libsld/Struct") ∧ (Fld Z h a1 "com/example/libsld/libsld/Struct" "first" "Lcom/example/libsld/libsld/Term;" .null) ∧ (Fld Z h a1 "com/example/libsld/libsld/Struct" "second" "Lcom/example/libsld/libsld/Term;" .null) ∧ (Fld Z h a1 "com/example/libsld/libsld/Struct" "arity" "I" (.int (2 : Int32))) ∧ (Fld Z h a1 "com/example/libsld/libsld/Struct" "rest" "[Lcom/example/libsld/libsld/Term;" .null)
set_option maxRecDepth 65536 in
set_option maxHeartbeats 40000000 in
theorem rm3_2 (l : Launch) (Z : State) (a0 : Array Value) (hw : ∀ d ∈ tables_1, d.before a0 Z = true) (ws : List Jvm.Cond) (a1 : Addr) (a2 : Addr) (h0 : Heap) (n0 : Nat) (Z0 : n0 ≤ h0.size) (F1 : Fld Z h0 a1 "com/example/libsld/libsld/Struct" "first" "Lcom/example/libsld/libsld/Term;" .null) (F2 : Fld Z h0 a1 "com/example/libsld/libsld/Struct" "second" "Lcom/example/libsld/libsld/Term;" .null) (F3 : Fld Z h0 a1 "com/example/libsld/libsld/Struct" "rest" "[Lcom/example/libsld/libsld/Term;" .null) (F4 : Fld Z h0 a1 "com/example/libsld/libsld/Struct" "arity" "I" (.int (0 : Int32))) (F5 : Fld Z h0 a1 "com/example/libsld/libsld/Struct" "name" "Ljava/lang/String;" .null) (E1 : Exa Z h0 a1 "com/example/libsld/libsld/Struct") (g1 : n0 ≤ a1) :
    MetFree l (⟨"com/example/libsld/libsld/Struct", "<init>", "(Ljava/lang/String;I)V"⟩ : MethodName) (head1 (Jvm.Cond.code (⟨"com/example/libsld/libsld/Struct", "<init>", "(Ljava/lang/String;I)V"⟩ : MethodName) prog_116_method_2_code 3 none :: ws) ({ frames := 1, cells := 0, slots := 0, locals := 12 } : Room)) (fun a U => a = #[(.ref a1), (.ref a2), (.int (2 : Int32))] ∧ Z.Warmed39 U.vm ∧ U.heap = h0) (fun _ _ _ _ _ => True) (fun _ U o U' => ∃ v L, o = .returned v ∧ Q3_2 Z a1 a2 h0 n0 v U'.heap L ∧ FrameEnd U o U' L ({ frames := 1, cells := 0, slots := 0, locals := 12 } : Room).cells ({ frames := 1, cells := 0, slots := 0, locals := 12 } : Room).slots) := by
  refine MetFree.of_bodySF (plainFor_of_name pn_com_example_libsld_libsld_Struct) hisR ?_
  intro p e s m args below meth c s₁ Bd hml0 hP hK
  obtain ⟨rfl, hZ, hh⟩ := hP
  have hx := Bd.exec
  have hby := Bd.bytes
  have hml : c.maxLocals = 3 := hml0
  have hown : s.vm.findClass "com/example/libsld/libsld/Struct" = some m.cls := findClass_of_methodNamed Bd.named
  have hnm := (name_of_methodNamed Bd.named Bd.method).1
  have X0 : Stand p l e ({ frames := 1, cells := 0, slots := 0, locals := 12 } : Room) s m #[(.ref a1), (.ref a2), (.int (2 : Int32))] below meth c s₁ [] 0 0 := Stand.of_body Bd
  have e0 : s₁.heap = h0 := by rw [← hh, Bd.state]; rfl
  have N0 := Fr.nil n0
  have pre0 : ∀ t, Steps p.tables e below (s₁.setTop (mkF m 0 #[.val (.ref a1), .val (.ref a2), .val (.int (2 : Int32))] [])) t → Steps p.tables e below (s₁.setTop (entryFrame m #[(.ref a1), (.ref a2), (.int (2 : Int32))] 3)) t := fun t k => castTop (ef_rm3_2 m a1 a2) k
  have f101 := Keep.refl h0 [a1]
  obtain ⟨T102, X102, e102, st102⟩ := initO X0 hx hZ hown (own_i hw 30 rfl) (own_i hw 8 rfl) (own_i hw 9 rfl) e0 (g := (mkF m 1 #[.val (.ref a1), .val (.ref a2), .val (.int (2 : Int32))] [(.ref a1)])) rfl (by rw [hml]; rfl) rfl (hb hby d3_1) (by decide) (W := 0) (by show 2 * 0 + _ ≤ _; exact Nat.le_of_eq rfl) (by decide)
  obtain ⟨T103, h103, X103, e103, W103, st103⟩ := putF X102 hx hZ hown (host := "") (Or.inl (own_i hw 31 rfl)) Via.refl e102 F5 E1 (Or.inr ⟨(own_i hw 32 rfl), rfl, hnm⟩) (own_i hw 17 rfl) (ty := (.object "java/lang/String")) (by decide) rfl rfl (g := (mkF m 20 #[.val (.ref a1), .val (.ref a2), .val (.int (2 : Int32))] [(.ref a2), (.ref a1)])) rfl rfl (hb hby d3_20)
  have Fw103 := F5.same W103
  have N103 := Fr.snoc X103 N0 g1
  have f104 := Nat.le_trans Z0 (Keep.of_wr W103).1
  have f105 := F1.other W103 (Or.inr (slot_ne (Or.inl (own_i hw 43 rfl)) (Or.inr (own_i hw 32 rfl)) (by decide) (t := (.object "com/example/libsld/libsld/Term")) (t' := (.object "java/lang/String")) (by decide) (by decide)))
  have f106 := F2.other W103 (Or.inr (slot_ne (Or.inl (own_i hw 51 rfl)) (Or.inr (own_i hw 32 rfl)) (by decide) (t := (.object "com/example/libsld/libsld/Term")) (t' := (.object "java/lang/String")) (by decide) (by decide)))
  have f107 := F3.other W103 (Or.inr (slot_ne (Or.inr (own_i hw 36 rfl)) (Or.inr (own_i hw 32 rfl)) (by decide) (t := (.array (.object "com/example/libsld/libsld/Term"))) (t' := (.object "java/lang/String")) (by decide) (by decide)))
  have f108 := F4.other W103 (Or.inr (slot_ne (Or.inr (own_i hw 34 rfl)) (Or.inr (own_i hw 32 rfl)) (by decide) (t := .int) (t' := (.object "java/lang/String")) (by decide) (by decide)))
  have f109 := E1.wr W103
  have f110 := f101.wr W103 (Or.inl (List.mem_of_getElem? (i := 0) rfl))
  obtain ⟨T111, h111, X111, e111, W111, st111⟩ := putF X103 hx hZ hown (host := "") (Or.inl (own_i hw 33 rfl)) Via.refl e103 f108 f109 (Or.inr ⟨(own_i hw 34 rfl), rfl, hnm⟩) (own_i hw 17 rfl) (ty := .int) (by decide) rfl rfl (g := (mkF m 25 #[.val (.ref a1), .val (.ref a2), .val (.int (2 : Int32))] [(.int (2 : Int32)), (.ref a1)])) rfl rfl (hb hby d3_25)
  have Fw111 := f108.same W111
  have N111 := Fr.snoc X111 N103 g1
  have f112 := Nat.le_trans f104 (Keep.of_wr W111).1
  have f113 := f105.other W111 (Or.inr (slot_ne (Or.inl (own_i hw 43 rfl)) (Or.inr (own_i hw 34 rfl)) (by decide) (t := (.object "com/example/libsld/libsld/Term")) (t' := .int) (by decide) (by decide)))
  have f114 := f106.other W111 (Or.inr (slot_ne (Or.inl (own_i hw 51 rfl)) (Or.inr (own_i hw 34 rfl)) (by decide) (t := (.object "com/example/libsld/libsld/Term")) (t' := .int) (by decide) (by decide)))
  have f115 := f107.other W111 (Or.inr (slot_ne (Or.inr (own_i hw 36 rfl)) (Or.inr (own_i hw 34 rfl)) (by decide) (t := (.array (.object "com/example/libsld/libsld/Term"))) (t' := .int) (by decide) (by decide)))
  have f116 := f109.wr W111
  have f117 := f110.wr W111 (Or.inl (List.mem_of_getElem? (i := 0) rfl))
  have f118 := Fw103.other W111 (Or.inr (slot_ne (Or.inr (own_i hw 32 rfl)) (Or.inr (own_i hw 34 rfl)) (by decide) (t := (.object "java/lang/String")) (t' := .int) (by decide) (by decide)))
  obtain ⟨T119, h119, X119, e119, W119, st119⟩ := putF X111 hx hZ hown (host := "") (Or.inl (own_i hw 35 rfl)) Via.refl e111 f115 f116 (Or.inr ⟨(own_i hw 36 rfl), rfl, hnm⟩) (own_i hw 17 rfl) (ty := (.array (.object "com/example/libsld/libsld/Term"))) (by decide) rfl rfl (g := (mkF m 44 #[.val (.ref a1), .val (.ref a2), .val (.int (2 : Int32))] [.null, (.ref a1)])) rfl rfl (hb hby d3_44)
  have Fw119 := f115.same W119
  have N119 := Fr.snoc X119 N111 g1
  have f120 := Nat.le_trans f112 (Keep.of_wr W119).1
  have f121 := f113.other W119 (Or.inr (slot_ne (Or.inl (own_i hw 43 rfl)) (Or.inr (own_i hw 36 rfl)) (by decide) (t := (.object "com/example/libsld/libsld/Term")) (t' := (.array (.object "com/example/libsld/libsld/Term"))) (by decide) (by decide)))
  have f122 := f114.other W119 (Or.inr (slot_ne (Or.inl (own_i hw 51 rfl)) (Or.inr (own_i hw 36 rfl)) (by decide) (t := (.object "com/example/libsld/libsld/Term")) (t' := (.array (.object "com/example/libsld/libsld/Term"))) (by decide) (by decide)))
  have f123 := f116.wr W119
  have f124 := f117.wr W119 (Or.inl (List.mem_of_getElem? (i := 0) rfl))
  have f125 := f118.other W119 (Or.inr (slot_ne (Or.inr (own_i hw 32 rfl)) (Or.inr (own_i hw 36 rfl)) (by decide) (t := (.object "java/lang/String")) (t' := (.array (.object "com/example/libsld/libsld/Term"))) (by decide) (by decide)))
  have f126 := Fw111.other W119 (Or.inr (slot_ne (Or.inr (own_i hw 34 rfl)) (Or.inr (own_i hw 36 rfl)) (by decide) (t := .int) (t' := (.array (.object "com/example/libsld/libsld/Term"))) (by decide) (by decide)))
  have pre127 : ∀ t, Steps p.tables e below (T119.setTop (mkF m 47 #[.val (.ref a1), .val (.ref a2), .val (.int (2 : Int32))] [])) t → Steps p.tables e below (s₁.setTop (entryFrame m #[(.ref a1), (.ref a2), (.int (2 : Int32))] 3)) t := fun t k => pre0 t (by
    show Steps p.tables e below (s₁.setTop (mkF m 0 #[.val (.ref a1), .val (.ref a2), .val (.int (2 : Int32))] [])) t
    refine XS.aloadN X0.here hx rfl (hb hby d3_0) rfl rfl ?_
    show Steps p.tables e below (s₁.setTop (mkF m 1 #[.val (.ref a1), .val (.ref a2), .val (.int (2 : Int32))] [(.ref a1)])) t
    refine st102 _ ?_
    show Steps p.tables e below (T102.setTop (mkF m 4 #[.val (.ref a1), .val (.ref a2), .val (.int (2 : Int32))] [])) t
    refine XS.iloadN X102.here hx rfl (hb hby d3_4) rfl ?_
    show Steps p.tables e below (T102.setTop (mkF m 5 #[.val (.ref a1), .val (.ref a2), .val (.int (2 : Int32))] [(.int (2 : Int32))])) t
    refine XS.ifYes X102.here hx rfl (pc0 := 5) (pc' := 18) rfl (hb hby d3_5) rfl ((if0 _ _).trans (feq (by decide : ¬ ((2 : Int32) = (0 : Int32)))).2) (by decide) (by decide) ?_
    show Steps p.tables e below (T102.setTop (mkF m 18 #[.val (.ref a1), .val (.ref a2), .val (.int (2 : Int32))] [])) t
    refine XS.aloadN X102.here hx rfl (hb hby d3_18) rfl rfl ?_
    show Steps p.tables e below (T102.setTop (mkF m 19 #[.val (.ref a1), .val (.ref a2), .val (.int (2 : Int32))] [(.ref a1)])) t
    refine XS.aloadN X102.here hx rfl (hb hby d3_19) rfl rfl ?_
    show Steps p.tables e below (T102.setTop (mkF m 20 #[.val (.ref a1), .val (.ref a2), .val (.int (2 : Int32))] [(.ref a2), (.ref a1)])) t
    refine st103 _ ?_
    show Steps p.tables e below (T103.setTop (mkF m 23 #[.val (.ref a1), .val (.ref a2), .val (.int (2 : Int32))] [])) t
    refine XS.aloadN X103.here hx rfl (hb hby d3_23) rfl rfl ?_
    show Steps p.tables e below (T103.setTop (mkF m 24 #[.val (.ref a1), .val (.ref a2), .val (.int (2 : Int32))] [(.ref a1)])) t
    refine XS.iloadN X103.here hx rfl (hb hby d3_24) rfl ?_
    show Steps p.tables e below (T103.setTop (mkF m 25 #[.val (.ref a1), .val (.ref a2), .val (.int (2 : Int32))] [(.int (2 : Int32)), (.ref a1)])) t
    refine st111 _ ?_
    show Steps p.tables e below (T111.setTop (mkF m 28 #[.val (.ref a1), .val (.ref a2), .val (.int (2 : Int32))] [])) t
    refine XS.aloadN X111.here hx rfl (hb hby d3_28) rfl rfl ?_
    show Steps p.tables e below (T111.setTop (mkF m 29 #[.val (.ref a1), .val (.ref a2), .val (.int (2 : Int32))] [(.ref a1)])) t
    refine XS.iloadN X111.here hx rfl (hb hby d3_29) rfl ?_
    show Steps p.tables e below (T111.setTop (mkF m 30 #[.val (.ref a1), .val (.ref a2), .val (.int (2 : Int32))] [(.int (2 : Int32)), (.ref a1)])) t
    refine XS.iconst X111.here hx rfl (hb hby d3_30) ?_
    show Steps p.tables e below (T111.setTop (mkF m 31 #[.val (.ref a1), .val (.ref a2), .val (.int (2 : Int32))] [(.int (2 : Int32)), (.int (2 : Int32)), (.ref a1)])) t
    refine XS.icmpYes X111.here hx rfl (pc0 := 31) (pc' := 43) rfl (hb hby d3_31) rfl (flt (by decide : ¬ ((2 : Int32) < (2 : Int32)))).2.2.2 (by decide) (by decide) ?_
    show Steps p.tables e below (T111.setTop (mkF m 43 #[.val (.ref a1), .val (.ref a2), .val (.int (2 : Int32))] [(.ref a1)])) t
    refine XS.aconstNull X111.here hx rfl (hb hby d3_43) ?_
    show Steps p.tables e below (T111.setTop (mkF m 44 #[.val (.ref a1), .val (.ref a2), .val (.int (2 : Int32))] [.null, (.ref a1)])) t
    refine st119 _ ?_
    exact k)
  obtain ⟨fs, hr, hrun, hended, hW, hsame⟩ := X119.leave (v := none) (fun _ => rfl)
  refine ⟨_, _, pre127 _ ?_, hrun, hended, _, _, rfl, ?_, ⟨_, rfl⟩, hW, hsame.mono (by decide) (by decide)⟩
  · exact X119.returnOut hx Bd.returns (hb hby d3_47) hr
  · show Q3_2 Z a1 a2 h0 n0 _ T119.heap _
    rw [e119]
    exact ⟨rfl, N119, f124, f123, f121, f122, f126, Fw119⟩
theorem ef_rm3_3 (m : MethodId) (x0 : Addr) (x1 : Addr) : entryFrame m #[(.ref x0), (.ref x1), (.int (3 : Int32))] 3 = mkF m 0 #[.val (.ref x0), .val (.ref x1), .val (.int (3 : Int32))] [] := by first | (simp [entryFrame, mkF, argsToLocals, Value.category]; done) | rfl
def Q3_3 (Z : State) (a1 : Addr) (a2 : Addr) (h0 : Heap) (n0 : Nat) (v : Option Value) (h : Heap) (L : List Loc) : Prop := ∃ (r : Addr) (kR : ClassId), v = none ∧ Fr n0 L ∧ Keep h0 h [a1] ∧ (Exa Z h a1 "com/example/libsld/libsld/Struct") ∧ (Fld Z h a1 "com/example/libsld/libsld/Struct" "first" "Lcom/example/libsld/libsld/Term;" .null) ∧ (Fld Z h a1 "com/example/libsld/libsld/Struct" "second" "Lcom/example/libsld/libsld/Term;" .null) ∧ (Fld Z h a1 "com/example/libsld/libsld/Struct" "arity" "I" (.int (3 : Int32))) ∧ (Fld Z h a1 "com/example/libsld/libsld/Struct" "rest" "[Lcom/example/libsld/libsld/Term;" (.ref r)) ∧ (n0 ≤ r) ∧ (h0.size ≤ r) ∧ (Arv Z h r kR (.object "com/example/libsld/libsld/Term") (1 : Int32) [.null] .null) ∧ (Ovr Z kR "com/example/libsld/libsld/Term") ∧ (a1 ≠ r)
set_option maxRecDepth 65536 in
set_option maxHeartbeats 40000000 in
theorem rm3_3 (l : Launch) (Z : State) (a0 : Array Value) (hw : ∀ d ∈ tables_1, d.before a0 Z = true) (ws : List Jvm.Cond) (a1 : Addr) (a2 : Addr) (h0 : Heap) (n0 : Nat) (Z0 : n0 ≤ h0.size) (F1 : Fld Z h0 a1 "com/example/libsld/libsld/Struct" "first" "Lcom/example/libsld/libsld/Term;" .null) (F2 : Fld Z h0 a1 "com/example/libsld/libsld/Struct" "second" "Lcom/example/libsld/libsld/Term;" .null) (F3 : Fld Z h0 a1 "com/example/libsld/libsld/Struct" "rest" "[Lcom/example/libsld/libsld/Term;" .null) (F4 : Fld Z h0 a1 "com/example/libsld/libsld/Struct" "arity" "I" (.int (0 : Int32))) (F5 : Fld Z h0 a1 "com/example/libsld/libsld/Struct" "name" "Ljava/lang/String;" .null) (E1 : Exa Z h0 a1 "com/example/libsld/libsld/Struct") (g1 : n0 ≤ a1) :
    MetFree l (⟨"com/example/libsld/libsld/Struct", "<init>", "(Ljava/lang/String;I)V"⟩ : MethodName) (head1 (Jvm.Cond.code (⟨"com/example/libsld/libsld/Struct", "<init>", "(Ljava/lang/String;I)V"⟩ : MethodName) prog_116_method_2_code 3 none :: ws) ({ frames := 1, cells := 1, slots := 1, locals := 12 } : Room)) (fun a U => a = #[(.ref a1), (.ref a2), (.int (3 : Int32))] ∧ Z.Warmed39 U.vm ∧ U.heap = h0) (fun _ _ _ _ _ => True) (fun _ U o U' => ∃ v L, o = .returned v ∧ Q3_3 Z a1 a2 h0 n0 v U'.heap L ∧ FrameEnd U o U' L ({ frames := 1, cells := 1, slots := 1, locals := 12 } : Room).cells ({ frames := 1, cells := 1, slots := 1, locals := 12 } : Room).slots) := by
  refine MetFree.of_bodySF (plainFor_of_name pn_com_example_libsld_libsld_Struct) hisR ?_
  intro p e s m args below meth c s₁ Bd hml0 hP hK
  obtain ⟨rfl, hZ, hh⟩ := hP
  have hx := Bd.exec
  have hby := Bd.bytes
  have hml : c.maxLocals = 3 := hml0
  have hown : s.vm.findClass "com/example/libsld/libsld/Struct" = some m.cls := findClass_of_methodNamed Bd.named
  have hnm := (name_of_methodNamed Bd.named Bd.method).1
  have X0 : Stand p l e ({ frames := 1, cells := 1, slots := 1, locals := 12 } : Room) s m #[(.ref a1), (.ref a2), (.int (3 : Int32))] below meth c s₁ [] 0 0 := Stand.of_body Bd
  have e0 : s₁.heap = h0 := by rw [← hh, Bd.state]; rfl
  have N0 := Fr.nil n0
  have pre0 : ∀ t, Steps p.tables e below (s₁.setTop (mkF m 0 #[.val (.ref a1), .val (.ref a2), .val (.int (3 : Int32))] [])) t → Steps p.tables e below (s₁.setTop (entryFrame m #[(.ref a1), (.ref a2), (.int (3 : Int32))] 3)) t := fun t k => castTop (ef_rm3_3 m a1 a2) k
  have f101 := Keep.refl h0 [a1]
  obtain ⟨T102, X102, e102, st102⟩ := initO X0 hx hZ hown (own_i hw 30 rfl) (own_i hw 8 rfl) (own_i hw 9 rfl) e0 (g := (mkF m 1 #[.val (.ref a1), .val (.ref a2), .val (.int (3 : Int32))] [(.ref a1)])) rfl (by rw [hml]; rfl) rfl (hb hby d3_1) (by decide) (W := 0) (by show 2 * 0 + _ ≤ _; exact Nat.le_of_eq rfl) (by decide)
  obtain ⟨T103, h103, X103, e103, W103, st103⟩ := putF X102 hx hZ hown (host := "") (Or.inl (own_i hw 31 rfl)) Via.refl e102 F5 E1 (Or.inr ⟨(own_i hw 32 rfl), rfl, hnm⟩) (own_i hw 17 rfl) (ty := (.object "java/lang/String")) (by decide) rfl rfl (g := (mkF m 20 #[.val (.ref a1), .val (.ref a2), .val (.int (3 : Int32))] [(.ref a2), (.ref a1)])) rfl rfl (hb hby d3_20)
  have Fw103 := F5.same W103
  have N103 := Fr.snoc X103 N0 g1
  have f104 := Nat.le_trans Z0 (Keep.of_wr W103).1
  have f105 := F1.other W103 (Or.inr (slot_ne (Or.inl (own_i hw 43 rfl)) (Or.inr (own_i hw 32 rfl)) (by decide) (t := (.object "com/example/libsld/libsld/Term")) (t' := (.object "java/lang/String")) (by decide) (by decide)))
  have f106 := F2.other W103 (Or.inr (slot_ne (Or.inl (own_i hw 51 rfl)) (Or.inr (own_i hw 32 rfl)) (by decide) (t := (.object "com/example/libsld/libsld/Term")) (t' := (.object "java/lang/String")) (by decide) (by decide)))
  have f107 := F3.other W103 (Or.inr (slot_ne (Or.inr (own_i hw 36 rfl)) (Or.inr (own_i hw 32 rfl)) (by decide) (t := (.array (.object "com/example/libsld/libsld/Term"))) (t' := (.object "java/lang/String")) (by decide) (by decide)))
  have f108 := F4.other W103 (Or.inr (slot_ne (Or.inr (own_i hw 34 rfl)) (Or.inr (own_i hw 32 rfl)) (by decide) (t := .int) (t' := (.object "java/lang/String")) (by decide) (by decide)))
  have f109 := E1.wr W103
  have f110 := f101.wr W103 (Or.inl (List.mem_of_getElem? (i := 0) rfl))
  obtain ⟨T111, h111, X111, e111, W111, st111⟩ := putF X103 hx hZ hown (host := "") (Or.inl (own_i hw 33 rfl)) Via.refl e103 f108 f109 (Or.inr ⟨(own_i hw 34 rfl), rfl, hnm⟩) (own_i hw 17 rfl) (ty := .int) (by decide) rfl rfl (g := (mkF m 25 #[.val (.ref a1), .val (.ref a2), .val (.int (3 : Int32))] [(.int (3 : Int32)), (.ref a1)])) rfl rfl (hb hby d3_25)
  have Fw111 := f108.same W111
  have N111 := Fr.snoc X111 N103 g1
  have f112 := Nat.le_trans f104 (Keep.of_wr W111).1
  have f113 := f105.other W111 (Or.inr (slot_ne (Or.inl (own_i hw 43 rfl)) (Or.inr (own_i hw 34 rfl)) (by decide) (t := (.object "com/example/libsld/libsld/Term")) (t' := .int) (by decide) (by decide)))
  have f114 := f106.other W111 (Or.inr (slot_ne (Or.inl (own_i hw 51 rfl)) (Or.inr (own_i hw 34 rfl)) (by decide) (t := (.object "com/example/libsld/libsld/Term")) (t' := .int) (by decide) (by decide)))
  have f115 := f107.other W111 (Or.inr (slot_ne (Or.inr (own_i hw 36 rfl)) (Or.inr (own_i hw 34 rfl)) (by decide) (t := (.array (.object "com/example/libsld/libsld/Term"))) (t' := .int) (by decide) (by decide)))
  have f116 := f109.wr W111
  have f117 := f110.wr W111 (Or.inl (List.mem_of_getElem? (i := 0) rfl))
  have f118 := Fw103.other W111 (Or.inr (slot_ne (Or.inr (own_i hw 32 rfl)) (Or.inr (own_i hw 34 rfl)) (by decide) (t := (.object "java/lang/String")) (t' := .int) (by decide) (by decide)))
  obtain ⟨T119, h119, k119, X119, e119, E119, A119, O119, st119⟩ := newR X111 hx hZ hown (own_i hw 52 rfl) (own_i hw 15 rfl) e111 (g := (mkF m 37 #[.val (.ref a1), .val (.ref a2), .val (.int (3 : Int32))] [(.int (1 : Int32)), (.ref a1)])) rfl (hb hby d3_37) rfl (by decide) (cap := 1) (by decide) (by decide) (by decide) (by decide)
  obtain ⟨b119, g119⟩ : ∃ z, z = h111.size := ⟨_, rfl⟩
  rw [← g119] at A119 st119
  have ne120 : a1 ≠ b119 := Nat.ne_of_lt (Nat.lt_of_lt_of_le f113.lt (Nat.le_of_eq g119.symm))
  have ga121 : n0 ≤ b119 := Nat.le_trans f112 (Nat.le_of_eq g119.symm)
  have sz122 : h0.size ≤ b119 := Nat.le_trans f117.1 (Nat.le_of_eq g119.symm)
  have V119 : Arv Z h119 b119 k119 (.object "com/example/libsld/libsld/Term") (1 : Int32) [.null] .null := (Arv.new A119 (by decide)).pad (pad_rep [] .null 1)
  have f123 := Nat.le_trans f112 E119.1
  have f124 := f113.ext E119
  have f125 := f114.ext E119
  have f126 := f115.ext E119
  have f127 := f116.ext E119
  have f128 := f117.ext E119
  have f129 := f118.ext E119
  have f130 := Fw111.ext E119
  obtain ⟨T131, h131, X131, e131, W131, st131⟩ := putF X119 hx hZ hown (host := "") (Or.inl (own_i hw 35 rfl)) Via.refl e119 f126 f127 (Or.inr ⟨(own_i hw 36 rfl), rfl, hnm⟩) (own_i hw 17 rfl) (ty := (.array (.object "com/example/libsld/libsld/Term"))) (by decide) rfl rfl (g := (mkF m 44 #[.val (.ref a1), .val (.ref a2), .val (.int (3 : Int32))] [(.ref b119), (.ref a1)])) rfl rfl (hb hby d3_44)
  have Fw131 := f126.same W131
  have N131 := Fr.snoc X131 N111 g1
  have f132 := Nat.le_trans f123 (Keep.of_wr W131).1
  have f133 := f124.other W131 (Or.inr (slot_ne (Or.inl (own_i hw 43 rfl)) (Or.inr (own_i hw 36 rfl)) (by decide) (t := (.object "com/example/libsld/libsld/Term")) (t' := (.array (.object "com/example/libsld/libsld/Term"))) (by decide) (by decide)))
  have f134 := f125.other W131 (Or.inr (slot_ne (Or.inl (own_i hw 51 rfl)) (Or.inr (own_i hw 36 rfl)) (by decide) (t := (.object "com/example/libsld/libsld/Term")) (t' := (.array (.object "com/example/libsld/libsld/Term"))) (by decide) (by decide)))
  have f135 := f127.wr W131
  have f136 := f128.wr W131 (Or.inl (List.mem_of_getElem? (i := 0) rfl))
  have f137 := f129.other W131 (Or.inr (slot_ne (Or.inr (own_i hw 32 rfl)) (Or.inr (own_i hw 36 rfl)) (by decide) (t := (.object "java/lang/String")) (t' := (.array (.object "com/example/libsld/libsld/Term"))) (by decide) (by decide)))
  have f138 := f130.other W131 (Or.inr (slot_ne (Or.inr (own_i hw 34 rfl)) (Or.inr (own_i hw 36 rfl)) (by decide) (t := .int) (t' := (.array (.object "com/example/libsld/libsld/Term"))) (by decide) (by decide)))
  have f139 := V119.other W131 (Ne.symm ne120)
  have pre140 : ∀ t, Steps p.tables e below (T131.setTop (mkF m 47 #[.val (.ref a1), .val (.ref a2), .val (.int (3 : Int32))] [])) t → Steps p.tables e below (s₁.setTop (entryFrame m #[(.ref a1), (.ref a2), (.int (3 : Int32))] 3)) t := fun t k => pre0 t (by
    show Steps p.tables e below (s₁.setTop (mkF m 0 #[.val (.ref a1), .val (.ref a2), .val (.int (3 : Int32))] [])) t
    refine XS.aloadN X0.here hx rfl (hb hby d3_0) rfl rfl ?_
    show Steps p.tables e below (s₁.setTop (mkF m 1 #[.val (.ref a1), .val (.ref a2), .val (.int (3 : Int32))] [(.ref a1)])) t
    refine st102 _ ?_
    show Steps p.tables e below (T102.setTop (mkF m 4 #[.val (.ref a1), .val (.ref a2), .val (.int (3 : Int32))] [])) t
    refine XS.iloadN X102.here hx rfl (hb hby d3_4) rfl ?_
    show Steps p.tables e below (T102.setTop (mkF m 5 #[.val (.ref a1), .val (.ref a2), .val (.int (3 : Int32))] [(.int (3 : Int32))])) t
    refine XS.ifYes X102.here hx rfl (pc0 := 5) (pc' := 18) rfl (hb hby d3_5) rfl ((if0 _ _).trans (feq (by decide : ¬ ((3 : Int32) = (0 : Int32)))).2) (by decide) (by decide) ?_
    show Steps p.tables e below (T102.setTop (mkF m 18 #[.val (.ref a1), .val (.ref a2), .val (.int (3 : Int32))] [])) t
    refine XS.aloadN X102.here hx rfl (hb hby d3_18) rfl rfl ?_
    show Steps p.tables e below (T102.setTop (mkF m 19 #[.val (.ref a1), .val (.ref a2), .val (.int (3 : Int32))] [(.ref a1)])) t
    refine XS.aloadN X102.here hx rfl (hb hby d3_19) rfl rfl ?_
    show Steps p.tables e below (T102.setTop (mkF m 20 #[.val (.ref a1), .val (.ref a2), .val (.int (3 : Int32))] [(.ref a2), (.ref a1)])) t
    refine st103 _ ?_
    show Steps p.tables e below (T103.setTop (mkF m 23 #[.val (.ref a1), .val (.ref a2), .val (.int (3 : Int32))] [])) t
    refine XS.aloadN X103.here hx rfl (hb hby d3_23) rfl rfl ?_
    show Steps p.tables e below (T103.setTop (mkF m 24 #[.val (.ref a1), .val (.ref a2), .val (.int (3 : Int32))] [(.ref a1)])) t
    refine XS.iloadN X103.here hx rfl (hb hby d3_24) rfl ?_
    show Steps p.tables e below (T103.setTop (mkF m 25 #[.val (.ref a1), .val (.ref a2), .val (.int (3 : Int32))] [(.int (3 : Int32)), (.ref a1)])) t
    refine st111 _ ?_
    show Steps p.tables e below (T111.setTop (mkF m 28 #[.val (.ref a1), .val (.ref a2), .val (.int (3 : Int32))] [])) t
    refine XS.aloadN X111.here hx rfl (hb hby d3_28) rfl rfl ?_
    show Steps p.tables e below (T111.setTop (mkF m 29 #[.val (.ref a1), .val (.ref a2), .val (.int (3 : Int32))] [(.ref a1)])) t
    refine XS.iloadN X111.here hx rfl (hb hby d3_29) rfl ?_
    show Steps p.tables e below (T111.setTop (mkF m 30 #[.val (.ref a1), .val (.ref a2), .val (.int (3 : Int32))] [(.int (3 : Int32)), (.ref a1)])) t
    refine XS.iconst X111.here hx rfl (hb hby d3_30) ?_
    show Steps p.tables e below (T111.setTop (mkF m 31 #[.val (.ref a1), .val (.ref a2), .val (.int (3 : Int32))] [(.int (2 : Int32)), (.int (3 : Int32)), (.ref a1)])) t
    refine XS.icmpNo X111.here hx rfl (hb hby d3_31) rfl (tlt (by decide : (2 : Int32) < (3 : Int32))).2.2.2 ?_
    show Steps p.tables e below (T111.setTop (mkF m 34 #[.val (.ref a1), .val (.ref a2), .val (.int (3 : Int32))] [(.ref a1)])) t
    refine XS.iloadN X111.here hx rfl (hb hby d3_34) rfl ?_
    show Steps p.tables e below (T111.setTop (mkF m 35 #[.val (.ref a1), .val (.ref a2), .val (.int (3 : Int32))] [(.int (3 : Int32)), (.ref a1)])) t
    refine XS.iconst X111.here hx rfl (hb hby d3_35) ?_
    show Steps p.tables e below (T111.setTop (mkF m 36 #[.val (.ref a1), .val (.ref a2), .val (.int (3 : Int32))] [(.int (2 : Int32)), (.int (3 : Int32)), (.ref a1)])) t
    refine XS.isub X111.here hx rfl (hb hby d3_36) rfl ?_
    show Steps p.tables e below (T111.setTop (mkF m 37 #[.val (.ref a1), .val (.ref a2), .val (.int (3 : Int32))] [(.int (1 : Int32)), (.ref a1)])) t
    refine st119 _ ?_
    show Steps p.tables e below (T119.setTop (mkF m 40 #[.val (.ref a1), .val (.ref a2), .val (.int (3 : Int32))] [(.ref b119), (.ref a1)])) t
    refine XS.goto X119.here hx rfl (pc0 := 40) (pc' := 44) rfl (hb hby d3_40) (by decide) (by decide) ?_
    show Steps p.tables e below (T119.setTop (mkF m 44 #[.val (.ref a1), .val (.ref a2), .val (.int (3 : Int32))] [(.ref b119), (.ref a1)])) t
    refine st131 _ ?_
    exact k)
  obtain ⟨fs, hr, hrun, hended, hW, hsame⟩ := X131.leave (v := none) (fun _ => rfl)
  refine ⟨_, _, pre140 _ ?_, hrun, hended, _, _, rfl, ?_, ⟨_, rfl⟩, hW, hsame.mono (by decide) (by decide)⟩
  · exact X131.returnOut hx Bd.returns (hb hby d3_47) hr
  · show Q3_3 Z a1 a2 h0 n0 _ T131.heap _
    rw [e131]
    exact ⟨b119, k119, rfl, N131, f136, f135, f133, f134, f138, Fw131, ga121, sz122, f139, O119, ne120⟩
theorem ef_rm3_4 (m : MethodId) (x0 : Addr) (x1 : Addr) : entryFrame m #[(.ref x0), (.ref x1), (.int (4 : Int32))] 3 = mkF m 0 #[.val (.ref x0), .val (.ref x1), .val (.int (4 : Int32))] [] := by first | (simp [entryFrame, mkF, argsToLocals, Value.category]; done) | rfl
def Q3_4 (Z : State) (a1 : Addr) (a2 : Addr) (h0 : Heap) (n0 : Nat) (v : Option Value) (h : Heap) (L : List Loc) : Prop := ∃ (r : Addr) (kR : ClassId), v = none ∧ Fr n0 L ∧ Keep h0 h [a1] ∧ (Exa Z h a1 "com/example/libsld/libsld/Struct") ∧ (Fld Z h a1 "com/example/libsld/libsld/Struct" "first" "Lcom/example/libsld/libsld/Term;" .null) ∧ (Fld Z h a1 "com/example/libsld/libsld/Struct" "second" "Lcom/example/libsld/libsld/Term;" .null) ∧ (Fld Z h a1 "com/example/libsld/libsld/Struct" "arity" "I" (.int (4 : Int32))) ∧ (Fld Z h a1 "com/example/libsld/libsld/Struct" "rest" "[Lcom/example/libsld/libsld/Term;" (.ref r)) ∧ (n0 ≤ r) ∧ (h0.size ≤ r) ∧ (Arv Z h r kR (.object "com/example/libsld/libsld/Term") (2 : Int32) [.null, .null] .null) ∧ (Ovr Z kR "com/example/libsld/libsld/Term") ∧ (a1 ≠ r)
set_option maxRecDepth 65536 in
set_option maxHeartbeats 40000000 in
theorem rm3_4 (l : Launch) (Z : State) (a0 : Array Value) (hw : ∀ d ∈ tables_1, d.before a0 Z = true) (ws : List Jvm.Cond) (a1 : Addr) (a2 : Addr) (h0 : Heap) (n0 : Nat) (Z0 : n0 ≤ h0.size) (F1 : Fld Z h0 a1 "com/example/libsld/libsld/Struct" "first" "Lcom/example/libsld/libsld/Term;" .null) (F2 : Fld Z h0 a1 "com/example/libsld/libsld/Struct" "second" "Lcom/example/libsld/libsld/Term;" .null) (F3 : Fld Z h0 a1 "com/example/libsld/libsld/Struct" "rest" "[Lcom/example/libsld/libsld/Term;" .null) (F4 : Fld Z h0 a1 "com/example/libsld/libsld/Struct" "arity" "I" (.int (0 : Int32))) (F5 : Fld Z h0 a1 "com/example/libsld/libsld/Struct" "name" "Ljava/lang/String;" .null) (E1 : Exa Z h0 a1 "com/example/libsld/libsld/Struct") (g1 : n0 ≤ a1) :
    MetFree l (⟨"com/example/libsld/libsld/Struct", "<init>", "(Ljava/lang/String;I)V"⟩ : MethodName) (head1 (Jvm.Cond.code (⟨"com/example/libsld/libsld/Struct", "<init>", "(Ljava/lang/String;I)V"⟩ : MethodName) prog_116_method_2_code 3 none :: ws) ({ frames := 1, cells := 1, slots := 2, locals := 12 } : Room)) (fun a U => a = #[(.ref a1), (.ref a2), (.int (4 : Int32))] ∧ Z.Warmed39 U.vm ∧ U.heap = h0) (fun _ _ _ _ _ => True) (fun _ U o U' => ∃ v L, o = .returned v ∧ Q3_4 Z a1 a2 h0 n0 v U'.heap L ∧ FrameEnd U o U' L ({ frames := 1, cells := 1, slots := 2, locals := 12 } : Room).cells ({ frames := 1, cells := 1, slots := 2, locals := 12 } : Room).slots) := by
  refine MetFree.of_bodySF (plainFor_of_name pn_com_example_libsld_libsld_Struct) hisR ?_
  intro p e s m args below meth c s₁ Bd hml0 hP hK
  obtain ⟨rfl, hZ, hh⟩ := hP
  have hx := Bd.exec
  have hby := Bd.bytes
  have hml : c.maxLocals = 3 := hml0
  have hown : s.vm.findClass "com/example/libsld/libsld/Struct" = some m.cls := findClass_of_methodNamed Bd.named
  have hnm := (name_of_methodNamed Bd.named Bd.method).1
  have X0 : Stand p l e ({ frames := 1, cells := 1, slots := 2, locals := 12 } : Room) s m #[(.ref a1), (.ref a2), (.int (4 : Int32))] below meth c s₁ [] 0 0 := Stand.of_body Bd
  have e0 : s₁.heap = h0 := by rw [← hh, Bd.state]; rfl
  have N0 := Fr.nil n0
  have pre0 : ∀ t, Steps p.tables e below (s₁.setTop (mkF m 0 #[.val (.ref a1), .val (.ref a2), .val (.int (4 : Int32))] [])) t → Steps p.tables e below (s₁.setTop (entryFrame m #[(.ref a1), (.ref a2), (.int (4 : Int32))] 3)) t := fun t k => castTop (ef_rm3_4 m a1 a2) k
  have f101 := Keep.refl h0 [a1]
  obtain ⟨T102, X102, e102, st102⟩ := initO X0 hx hZ hown (own_i hw 30 rfl) (own_i hw 8 rfl) (own_i hw 9 rfl) e0 (g := (mkF m 1 #[.val (.ref a1), .val (.ref a2), .val (.int (4 : Int32))] [(.ref a1)])) rfl (by rw [hml]; rfl) rfl (hb hby d3_1) (by decide) (W := 0) (by show 2 * 0 + _ ≤ _; exact Nat.le_of_eq rfl) (by decide)
  obtain ⟨T103, h103, X103, e103, W103, st103⟩ := putF X102 hx hZ hown (host := "") (Or.inl (own_i hw 31 rfl)) Via.refl e102 F5 E1 (Or.inr ⟨(own_i hw 32 rfl), rfl, hnm⟩) (own_i hw 17 rfl) (ty := (.object "java/lang/String")) (by decide) rfl rfl (g := (mkF m 20 #[.val (.ref a1), .val (.ref a2), .val (.int (4 : Int32))] [(.ref a2), (.ref a1)])) rfl rfl (hb hby d3_20)
  have Fw103 := F5.same W103
  have N103 := Fr.snoc X103 N0 g1
  have f104 := Nat.le_trans Z0 (Keep.of_wr W103).1
  have f105 := F1.other W103 (Or.inr (slot_ne (Or.inl (own_i hw 43 rfl)) (Or.inr (own_i hw 32 rfl)) (by decide) (t := (.object "com/example/libsld/libsld/Term")) (t' := (.object "java/lang/String")) (by decide) (by decide)))
  have f106 := F2.other W103 (Or.inr (slot_ne (Or.inl (own_i hw 51 rfl)) (Or.inr (own_i hw 32 rfl)) (by decide) (t := (.object "com/example/libsld/libsld/Term")) (t' := (.object "java/lang/String")) (by decide) (by decide)))
  have f107 := F3.other W103 (Or.inr (slot_ne (Or.inr (own_i hw 36 rfl)) (Or.inr (own_i hw 32 rfl)) (by decide) (t := (.array (.object "com/example/libsld/libsld/Term"))) (t' := (.object "java/lang/String")) (by decide) (by decide)))
  have f108 := F4.other W103 (Or.inr (slot_ne (Or.inr (own_i hw 34 rfl)) (Or.inr (own_i hw 32 rfl)) (by decide) (t := .int) (t' := (.object "java/lang/String")) (by decide) (by decide)))
  have f109 := E1.wr W103
  have f110 := f101.wr W103 (Or.inl (List.mem_of_getElem? (i := 0) rfl))
  obtain ⟨T111, h111, X111, e111, W111, st111⟩ := putF X103 hx hZ hown (host := "") (Or.inl (own_i hw 33 rfl)) Via.refl e103 f108 f109 (Or.inr ⟨(own_i hw 34 rfl), rfl, hnm⟩) (own_i hw 17 rfl) (ty := .int) (by decide) rfl rfl (g := (mkF m 25 #[.val (.ref a1), .val (.ref a2), .val (.int (4 : Int32))] [(.int (4 : Int32)), (.ref a1)])) rfl rfl (hb hby d3_25)
  have Fw111 := f108.same W111
  have N111 := Fr.snoc X111 N103 g1
  have f112 := Nat.le_trans f104 (Keep.of_wr W111).1
  have f113 := f105.other W111 (Or.inr (slot_ne (Or.inl (own_i hw 43 rfl)) (Or.inr (own_i hw 34 rfl)) (by decide) (t := (.object "com/example/libsld/libsld/Term")) (t' := .int) (by decide) (by decide)))
  have f114 := f106.other W111 (Or.inr (slot_ne (Or.inl (own_i hw 51 rfl)) (Or.inr (own_i hw 34 rfl)) (by decide) (t := (.object "com/example/libsld/libsld/Term")) (t' := .int) (by decide) (by decide)))
  have f115 := f107.other W111 (Or.inr (slot_ne (Or.inr (own_i hw 36 rfl)) (Or.inr (own_i hw 34 rfl)) (by decide) (t := (.array (.object "com/example/libsld/libsld/Term"))) (t' := .int) (by decide) (by decide)))
  have f116 := f109.wr W111
  have f117 := f110.wr W111 (Or.inl (List.mem_of_getElem? (i := 0) rfl))
  have f118 := Fw103.other W111 (Or.inr (slot_ne (Or.inr (own_i hw 32 rfl)) (Or.inr (own_i hw 34 rfl)) (by decide) (t := (.object "java/lang/String")) (t' := .int) (by decide) (by decide)))
  obtain ⟨T119, h119, k119, X119, e119, E119, A119, O119, st119⟩ := newR X111 hx hZ hown (own_i hw 52 rfl) (own_i hw 15 rfl) e111 (g := (mkF m 37 #[.val (.ref a1), .val (.ref a2), .val (.int (4 : Int32))] [(.int (2 : Int32)), (.ref a1)])) rfl (hb hby d3_37) rfl (by decide) (cap := 2) (by decide) (by decide) (by decide) (by decide)
  obtain ⟨b119, g119⟩ : ∃ z, z = h111.size := ⟨_, rfl⟩
  rw [← g119] at A119 st119
  have ne120 : a1 ≠ b119 := Nat.ne_of_lt (Nat.lt_of_lt_of_le f113.lt (Nat.le_of_eq g119.symm))
  have ga121 : n0 ≤ b119 := Nat.le_trans f112 (Nat.le_of_eq g119.symm)
  have sz122 : h0.size ≤ b119 := Nat.le_trans f117.1 (Nat.le_of_eq g119.symm)
  have V119 : Arv Z h119 b119 k119 (.object "com/example/libsld/libsld/Term") (2 : Int32) [.null, .null] .null := (Arv.new A119 (by decide)).pad (pad_rep [] .null 2)
  have f123 := Nat.le_trans f112 E119.1
  have f124 := f113.ext E119
  have f125 := f114.ext E119
  have f126 := f115.ext E119
  have f127 := f116.ext E119
  have f128 := f117.ext E119
  have f129 := f118.ext E119
  have f130 := Fw111.ext E119
  obtain ⟨T131, h131, X131, e131, W131, st131⟩ := putF X119 hx hZ hown (host := "") (Or.inl (own_i hw 35 rfl)) Via.refl e119 f126 f127 (Or.inr ⟨(own_i hw 36 rfl), rfl, hnm⟩) (own_i hw 17 rfl) (ty := (.array (.object "com/example/libsld/libsld/Term"))) (by decide) rfl rfl (g := (mkF m 44 #[.val (.ref a1), .val (.ref a2), .val (.int (4 : Int32))] [(.ref b119), (.ref a1)])) rfl rfl (hb hby d3_44)
  have Fw131 := f126.same W131
  have N131 := Fr.snoc X131 N111 g1
  have f132 := Nat.le_trans f123 (Keep.of_wr W131).1
  have f133 := f124.other W131 (Or.inr (slot_ne (Or.inl (own_i hw 43 rfl)) (Or.inr (own_i hw 36 rfl)) (by decide) (t := (.object "com/example/libsld/libsld/Term")) (t' := (.array (.object "com/example/libsld/libsld/Term"))) (by decide) (by decide)))
  have f134 := f125.other W131 (Or.inr (slot_ne (Or.inl (own_i hw 51 rfl)) (Or.inr (own_i hw 36 rfl)) (by decide) (t := (.object "com/example/libsld/libsld/Term")) (t' := (.array (.object "com/example/libsld/libsld/Term"))) (by decide) (by decide)))
  have f135 := f127.wr W131
  have f136 := f128.wr W131 (Or.inl (List.mem_of_getElem? (i := 0) rfl))
  have f137 := f129.other W131 (Or.inr (slot_ne (Or.inr (own_i hw 32 rfl)) (Or.inr (own_i hw 36 rfl)) (by decide) (t := (.object "java/lang/String")) (t' := (.array (.object "com/example/libsld/libsld/Term"))) (by decide) (by decide)))
  have f138 := f130.other W131 (Or.inr (slot_ne (Or.inr (own_i hw 34 rfl)) (Or.inr (own_i hw 36 rfl)) (by decide) (t := .int) (t' := (.array (.object "com/example/libsld/libsld/Term"))) (by decide) (by decide)))
  have f139 := V119.other W131 (Ne.symm ne120)
  have pre140 : ∀ t, Steps p.tables e below (T131.setTop (mkF m 47 #[.val (.ref a1), .val (.ref a2), .val (.int (4 : Int32))] [])) t → Steps p.tables e below (s₁.setTop (entryFrame m #[(.ref a1), (.ref a2), (.int (4 : Int32))] 3)) t := fun t k => pre0 t (by
    show Steps p.tables e below (s₁.setTop (mkF m 0 #[.val (.ref a1), .val (.ref a2), .val (.int (4 : Int32))] [])) t
    refine XS.aloadN X0.here hx rfl (hb hby d3_0) rfl rfl ?_
    show Steps p.tables e below (s₁.setTop (mkF m 1 #[.val (.ref a1), .val (.ref a2), .val (.int (4 : Int32))] [(.ref a1)])) t
    refine st102 _ ?_
    show Steps p.tables e below (T102.setTop (mkF m 4 #[.val (.ref a1), .val (.ref a2), .val (.int (4 : Int32))] [])) t
    refine XS.iloadN X102.here hx rfl (hb hby d3_4) rfl ?_
    show Steps p.tables e below (T102.setTop (mkF m 5 #[.val (.ref a1), .val (.ref a2), .val (.int (4 : Int32))] [(.int (4 : Int32))])) t
    refine XS.ifYes X102.here hx rfl (pc0 := 5) (pc' := 18) rfl (hb hby d3_5) rfl ((if0 _ _).trans (feq (by decide : ¬ ((4 : Int32) = (0 : Int32)))).2) (by decide) (by decide) ?_
    show Steps p.tables e below (T102.setTop (mkF m 18 #[.val (.ref a1), .val (.ref a2), .val (.int (4 : Int32))] [])) t
    refine XS.aloadN X102.here hx rfl (hb hby d3_18) rfl rfl ?_
    show Steps p.tables e below (T102.setTop (mkF m 19 #[.val (.ref a1), .val (.ref a2), .val (.int (4 : Int32))] [(.ref a1)])) t
    refine XS.aloadN X102.here hx rfl (hb hby d3_19) rfl rfl ?_
    show Steps p.tables e below (T102.setTop (mkF m 20 #[.val (.ref a1), .val (.ref a2), .val (.int (4 : Int32))] [(.ref a2), (.ref a1)])) t
    refine st103 _ ?_
    show Steps p.tables e below (T103.setTop (mkF m 23 #[.val (.ref a1), .val (.ref a2), .val (.int (4 : Int32))] [])) t
    refine XS.aloadN X103.here hx rfl (hb hby d3_23) rfl rfl ?_
    show Steps p.tables e below (T103.setTop (mkF m 24 #[.val (.ref a1), .val (.ref a2), .val (.int (4 : Int32))] [(.ref a1)])) t
    refine XS.iloadN X103.here hx rfl (hb hby d3_24) rfl ?_
    show Steps p.tables e below (T103.setTop (mkF m 25 #[.val (.ref a1), .val (.ref a2), .val (.int (4 : Int32))] [(.int (4 : Int32)), (.ref a1)])) t
    refine st111 _ ?_
    show Steps p.tables e below (T111.setTop (mkF m 28 #[.val (.ref a1), .val (.ref a2), .val (.int (4 : Int32))] [])) t
    refine XS.aloadN X111.here hx rfl (hb hby d3_28) rfl rfl ?_
    show Steps p.tables e below (T111.setTop (mkF m 29 #[.val (.ref a1), .val (.ref a2), .val (.int (4 : Int32))] [(.ref a1)])) t
    refine XS.iloadN X111.here hx rfl (hb hby d3_29) rfl ?_
    show Steps p.tables e below (T111.setTop (mkF m 30 #[.val (.ref a1), .val (.ref a2), .val (.int (4 : Int32))] [(.int (4 : Int32)), (.ref a1)])) t
    refine XS.iconst X111.here hx rfl (hb hby d3_30) ?_
    show Steps p.tables e below (T111.setTop (mkF m 31 #[.val (.ref a1), .val (.ref a2), .val (.int (4 : Int32))] [(.int (2 : Int32)), (.int (4 : Int32)), (.ref a1)])) t
    refine XS.icmpNo X111.here hx rfl (hb hby d3_31) rfl (tlt (by decide : (2 : Int32) < (4 : Int32))).2.2.2 ?_
    show Steps p.tables e below (T111.setTop (mkF m 34 #[.val (.ref a1), .val (.ref a2), .val (.int (4 : Int32))] [(.ref a1)])) t
    refine XS.iloadN X111.here hx rfl (hb hby d3_34) rfl ?_
    show Steps p.tables e below (T111.setTop (mkF m 35 #[.val (.ref a1), .val (.ref a2), .val (.int (4 : Int32))] [(.int (4 : Int32)), (.ref a1)])) t
    refine XS.iconst X111.here hx rfl (hb hby d3_35) ?_
    show Steps p.tables e below (T111.setTop (mkF m 36 #[.val (.ref a1), .val (.ref a2), .val (.int (4 : Int32))] [(.int (2 : Int32)), (.int (4 : Int32)), (.ref a1)])) t
    refine XS.isub X111.here hx rfl (hb hby d3_36) rfl ?_
    show Steps p.tables e below (T111.setTop (mkF m 37 #[.val (.ref a1), .val (.ref a2), .val (.int (4 : Int32))] [(.int (2 : Int32)), (.ref a1)])) t
    refine st119 _ ?_
    show Steps p.tables e below (T119.setTop (mkF m 40 #[.val (.ref a1), .val (.ref a2), .val (.int (4 : Int32))] [(.ref b119), (.ref a1)])) t
    refine XS.goto X119.here hx rfl (pc0 := 40) (pc' := 44) rfl (hb hby d3_40) (by decide) (by decide) ?_
    show Steps p.tables e below (T119.setTop (mkF m 44 #[.val (.ref a1), .val (.ref a2), .val (.int (4 : Int32))] [(.ref b119), (.ref a1)])) t
    refine st131 _ ?_
    exact k)
  obtain ⟨fs, hr, hrun, hended, hW, hsame⟩ := X131.leave (v := none) (fun _ => rfl)
  refine ⟨_, _, pre140 _ ?_, hrun, hended, _, _, rfl, ?_, ⟨_, rfl⟩, hW, hsame.mono (by decide) (by decide)⟩
  · exact X131.returnOut hx Bd.returns (hb hby d3_47) hr
  · show Q3_4 Z a1 a2 h0 n0 _ T131.heap _
    rw [e131]
    exact ⟨b119, k119, rfl, N131, f136, f135, f133, f134, f138, Fw131, ga121, sz122, f139, O119, ne120⟩
theorem ef_rm5_0 (m : MethodId) (x0 : Addr) (x2 : Addr) : entryFrame m #[(.ref x0), (.int (0 : Int32)), (.ref x2)] 3 = mkF m 0 #[.val (.ref x0), .val (.int (0 : Int32)), .val (.ref x2)] [] := by first | (simp [entryFrame, mkF, argsToLocals, Value.category]; done) | rfl
def Q5_0 (Z : State) (a1 : Addr) (a3 : Addr) (f0 : Value) (f1 : Value) (fr : Value) (ar : Int32) (h0 : Heap) (n0 : Nat) (v : Option Value) (h : Heap) (L : List Loc) : Prop := v = none ∧ Fr n0 L ∧ Keep h0 h [a1] ∧ (Exa Z h a1 "com/example/libsld/libsld/Struct") ∧ (Fld Z h a1 "com/example/libsld/libsld/Struct" "first" "Lcom/example/libsld/libsld/Term;" (.ref a3)) ∧ (Fld Z h a1 "com/example/libsld/libsld/Struct" "second" "Lcom/example/libsld/libsld/Term;" f1) ∧ (Fld Z h a1 "com/example/libsld/libsld/Struct" "rest" "[Lcom/example/libsld/libsld/Term;" fr) ∧ (Fld Z h a1 "com/example/libsld/libsld/Struct" "arity" "I" (.int ar))
set_option maxRecDepth 65536 in
set_option maxHeartbeats 40000000 in
theorem rm5_0 (l : Launch) (Z : State) (a0 : Array Value) (hw : ∀ d ∈ tables_1, d.before a0 Z = true) (ws : List Jvm.Cond) (a1 : Addr) (a3 : Addr) (f0 : Value) (f1 : Value) (fr : Value) (ar : Int32) (h0 : Heap) (n0 : Nat) (Z0 : n0 ≤ h0.size) (F1 : Fld Z h0 a1 "com/example/libsld/libsld/Struct" "first" "Lcom/example/libsld/libsld/Term;" f0) (F2 : Fld Z h0 a1 "com/example/libsld/libsld/Struct" "second" "Lcom/example/libsld/libsld/Term;" f1) (F3 : Fld Z h0 a1 "com/example/libsld/libsld/Struct" "rest" "[Lcom/example/libsld/libsld/Term;" fr) (F4 : Fld Z h0 a1 "com/example/libsld/libsld/Struct" "arity" "I" (.int ar)) (E1 : Exa Z h0 a1 "com/example/libsld/libsld/Struct") (g1 : n0 ≤ a1) :
    MetFree l (⟨"com/example/libsld/libsld/Struct", "setArg", "(ILcom/example/libsld/libsld/Term;)V"⟩ : MethodName) (head1 (Jvm.Cond.code (⟨"com/example/libsld/libsld/Struct", "setArg", "(ILcom/example/libsld/libsld/Term;)V"⟩ : MethodName) prog_116_method_8_code 3 none :: ws) ({ frames := 0, cells := 0, slots := 0, locals := 0 } : Room)) (fun a U => a = #[(.ref a1), (.int (0 : Int32)), (.ref a3)] ∧ Z.Warmed39 U.vm ∧ U.heap = h0) (fun _ _ _ _ _ => True) (fun _ U o U' => ∃ v L, o = .returned v ∧ Q5_0 Z a1 a3 f0 f1 fr ar h0 n0 v U'.heap L ∧ FrameEnd U o U' L ({ frames := 0, cells := 0, slots := 0, locals := 0 } : Room).cells ({ frames := 0, cells := 0, slots := 0, locals := 0 } : Room).slots) := by
  refine MetFree.of_bodySF (plainFor_of_name pn_com_example_libsld_libsld_Struct) hisR ?_
  intro p e s m args below meth c s₁ Bd hml0 hP hK
  obtain ⟨rfl, hZ, hh⟩ := hP
  have hx := Bd.exec
  have hby := Bd.bytes
  have hml : c.maxLocals = 3 := hml0
  have hown : s.vm.findClass "com/example/libsld/libsld/Struct" = some m.cls := findClass_of_methodNamed Bd.named
  have hnm := (name_of_methodNamed Bd.named Bd.method).1
  have X0 : Stand p l e ({ frames := 0, cells := 0, slots := 0, locals := 0 } : Room) s m #[(.ref a1), (.int (0 : Int32)), (.ref a3)] below meth c s₁ [] 0 0 := Stand.of_body Bd
  have e0 : s₁.heap = h0 := by rw [← hh, Bd.state]; rfl
  have N0 := Fr.nil n0
  have pre0 : ∀ t, Steps p.tables e below (s₁.setTop (mkF m 0 #[.val (.ref a1), .val (.int (0 : Int32)), .val (.ref a3)] [])) t → Steps p.tables e below (s₁.setTop (entryFrame m #[(.ref a1), (.int (0 : Int32)), (.ref a3)] 3)) t := fun t k => castTop (ef_rm5_0 m a1 a3) k
  have f101 := Keep.refl h0 [a1]
  obtain ⟨T102, h102, X102, e102, W102, st102⟩ := putF X0 hx hZ hown (host := "") (Or.inl (own_i hw 42 rfl)) Via.refl e0 F1 E1 (Or.inl (own_i hw 43 rfl)) (own_i hw 17 rfl) (ty := (.object "com/example/libsld/libsld/Term")) (by decide) rfl rfl (g := (mkF m 6 #[.val (.ref a1), .val (.int (0 : Int32)), .val (.ref a3)] [(.ref a3), (.ref a1)])) rfl rfl (hb hby d5_6)
  have Fw102 := F1.same W102
  have N102 := Fr.snoc X102 N0 g1
  have f103 := Nat.le_trans Z0 (Keep.of_wr W102).1
  have f104 := F2.other W102 (Or.inr (slot_ne (Or.inl (own_i hw 51 rfl)) (Or.inl (own_i hw 43 rfl)) (by decide) (t := (.object "com/example/libsld/libsld/Term")) (t' := (.object "com/example/libsld/libsld/Term")) (by decide) (by decide)))
  have f105 := F3.other W102 (Or.inr (slot_ne (Or.inr (own_i hw 36 rfl)) (Or.inl (own_i hw 43 rfl)) (by decide) (t := (.array (.object "com/example/libsld/libsld/Term"))) (t' := (.object "com/example/libsld/libsld/Term")) (by decide) (by decide)))
  have f106 := F4.other W102 (Or.inr (slot_ne (Or.inr (own_i hw 34 rfl)) (Or.inl (own_i hw 43 rfl)) (by decide) (t := .int) (t' := (.object "com/example/libsld/libsld/Term")) (by decide) (by decide)))
  have f107 := E1.wr W102
  have f108 := f101.wr W102 (Or.inl (List.mem_of_getElem? (i := 0) rfl))
  have pre109 : ∀ t, Steps p.tables e below (T102.setTop (mkF m 42 #[.val (.ref a1), .val (.int (0 : Int32)), .val (.ref a3)] [])) t → Steps p.tables e below (s₁.setTop (entryFrame m #[(.ref a1), (.int (0 : Int32)), (.ref a3)] 3)) t := fun t k => pre0 t (by
    show Steps p.tables e below (s₁.setTop (mkF m 0 #[.val (.ref a1), .val (.int (0 : Int32)), .val (.ref a3)] [])) t
    refine XS.iloadN X0.here hx rfl (hb hby d5_0) rfl ?_
    show Steps p.tables e below (s₁.setTop (mkF m 1 #[.val (.ref a1), .val (.int (0 : Int32)), .val (.ref a3)] [(.int (0 : Int32))])) t
    refine XS.ifNo X0.here hx rfl (hb hby d5_1) rfl ((if0 _ _).trans (teq (by decide : (0 : Int32) = (0 : Int32))).2) ?_
    show Steps p.tables e below (s₁.setTop (mkF m 4 #[.val (.ref a1), .val (.int (0 : Int32)), .val (.ref a3)] [])) t
    refine XS.aloadN X0.here hx rfl (hb hby d5_4) rfl rfl ?_
    show Steps p.tables e below (s₁.setTop (mkF m 5 #[.val (.ref a1), .val (.int (0 : Int32)), .val (.ref a3)] [(.ref a1)])) t
    refine XS.aloadN X0.here hx rfl (hb hby d5_5) rfl rfl ?_
    show Steps p.tables e below (s₁.setTop (mkF m 6 #[.val (.ref a1), .val (.int (0 : Int32)), .val (.ref a3)] [(.ref a3), (.ref a1)])) t
    refine st102 _ ?_
    show Steps p.tables e below (T102.setTop (mkF m 9 #[.val (.ref a1), .val (.int (0 : Int32)), .val (.ref a3)] [])) t
    refine XS.goto X102.here hx rfl (pc0 := 9) (pc' := 42) rfl (hb hby d5_9) (by decide) (by decide) ?_
    exact k)
  obtain ⟨fs, hr, hrun, hended, hW, hsame⟩ := X102.leave (v := none) (fun _ => rfl)
  refine ⟨_, _, pre109 _ ?_, hrun, hended, _, _, rfl, ?_, ⟨_, rfl⟩, hW, hsame.mono (by decide) (by decide)⟩
  · exact X102.returnOut hx Bd.returns (hb hby d5_42) hr
  · show Q5_0 Z a1 a3 f0 f1 fr ar h0 n0 _ T102.heap _
    rw [e102]
    exact ⟨rfl, N102, f108, f107, Fw102, f104, f105, f106⟩
theorem ef_rm5_1 (m : MethodId) (x0 : Addr) (x2 : Addr) : entryFrame m #[(.ref x0), (.int (1 : Int32)), (.ref x2)] 3 = mkF m 0 #[.val (.ref x0), .val (.int (1 : Int32)), .val (.ref x2)] [] := by first | (simp [entryFrame, mkF, argsToLocals, Value.category]; done) | rfl
def Q5_1 (Z : State) (a1 : Addr) (a3 : Addr) (f0 : Value) (f1 : Value) (fr : Value) (ar : Int32) (h0 : Heap) (n0 : Nat) (v : Option Value) (h : Heap) (L : List Loc) : Prop := v = none ∧ Fr n0 L ∧ Keep h0 h [a1] ∧ (Exa Z h a1 "com/example/libsld/libsld/Struct") ∧ (Fld Z h a1 "com/example/libsld/libsld/Struct" "first" "Lcom/example/libsld/libsld/Term;" f0) ∧ (Fld Z h a1 "com/example/libsld/libsld/Struct" "second" "Lcom/example/libsld/libsld/Term;" (.ref a3)) ∧ (Fld Z h a1 "com/example/libsld/libsld/Struct" "rest" "[Lcom/example/libsld/libsld/Term;" fr) ∧ (Fld Z h a1 "com/example/libsld/libsld/Struct" "arity" "I" (.int ar))
set_option maxRecDepth 65536 in
set_option maxHeartbeats 40000000 in
theorem rm5_1 (l : Launch) (Z : State) (a0 : Array Value) (hw : ∀ d ∈ tables_1, d.before a0 Z = true) (ws : List Jvm.Cond) (a1 : Addr) (a3 : Addr) (f0 : Value) (f1 : Value) (fr : Value) (ar : Int32) (h0 : Heap) (n0 : Nat) (Z0 : n0 ≤ h0.size) (F1 : Fld Z h0 a1 "com/example/libsld/libsld/Struct" "first" "Lcom/example/libsld/libsld/Term;" f0) (F2 : Fld Z h0 a1 "com/example/libsld/libsld/Struct" "second" "Lcom/example/libsld/libsld/Term;" f1) (F3 : Fld Z h0 a1 "com/example/libsld/libsld/Struct" "rest" "[Lcom/example/libsld/libsld/Term;" fr) (F4 : Fld Z h0 a1 "com/example/libsld/libsld/Struct" "arity" "I" (.int ar)) (har : (1 : Int32) < ar) (E1 : Exa Z h0 a1 "com/example/libsld/libsld/Struct") (g1 : n0 ≤ a1) :
    MetFree l (⟨"com/example/libsld/libsld/Struct", "setArg", "(ILcom/example/libsld/libsld/Term;)V"⟩ : MethodName) (head1 (Jvm.Cond.code (⟨"com/example/libsld/libsld/Struct", "setArg", "(ILcom/example/libsld/libsld/Term;)V"⟩ : MethodName) prog_116_method_8_code 3 none :: ws) ({ frames := 0, cells := 0, slots := 0, locals := 0 } : Room)) (fun a U => a = #[(.ref a1), (.int (1 : Int32)), (.ref a3)] ∧ Z.Warmed39 U.vm ∧ U.heap = h0) (fun _ _ _ _ _ => True) (fun _ U o U' => ∃ v L, o = .returned v ∧ Q5_1 Z a1 a3 f0 f1 fr ar h0 n0 v U'.heap L ∧ FrameEnd U o U' L ({ frames := 0, cells := 0, slots := 0, locals := 0 } : Room).cells ({ frames := 0, cells := 0, slots := 0, locals := 0 } : Room).slots) := by
  refine MetFree.of_bodySF (plainFor_of_name pn_com_example_libsld_libsld_Struct) hisR ?_
  intro p e s m args below meth c s₁ Bd hml0 hP hK
  obtain ⟨rfl, hZ, hh⟩ := hP
  have hx := Bd.exec
  have hby := Bd.bytes
  have hml : c.maxLocals = 3 := hml0
  have hown : s.vm.findClass "com/example/libsld/libsld/Struct" = some m.cls := findClass_of_methodNamed Bd.named
  have hnm := (name_of_methodNamed Bd.named Bd.method).1
  have X0 : Stand p l e ({ frames := 0, cells := 0, slots := 0, locals := 0 } : Room) s m #[(.ref a1), (.int (1 : Int32)), (.ref a3)] below meth c s₁ [] 0 0 := Stand.of_body Bd
  have e0 : s₁.heap = h0 := by rw [← hh, Bd.state]; rfl
  have N0 := Fr.nil n0
  have pre0 : ∀ t, Steps p.tables e below (s₁.setTop (mkF m 0 #[.val (.ref a1), .val (.int (1 : Int32)), .val (.ref a3)] [])) t → Steps p.tables e below (s₁.setTop (entryFrame m #[(.ref a1), (.int (1 : Int32)), (.ref a3)] 3)) t := fun t k => castTop (ef_rm5_1 m a1 a3) k
  have f101 := Keep.refl h0 [a1]
  obtain ⟨T102, X102, e102, st102⟩ := getF X0 hx hZ hown (host := "") (Or.inl (own_i hw 33 rfl)) Via.refl e0 F4 (g := (mkF m 18 #[.val (.ref a1), .val (.int (1 : Int32)), .val (.ref a3)] [(.ref a1)])) rfl rfl (hb hby d5_18)
  obtain ⟨T103, h103, X103, e103, W103, st103⟩ := putF X102 hx hZ hown (host := "") (Or.inl (own_i hw 50 rfl)) Via.refl e102 F2 E1 (Or.inl (own_i hw 51 rfl)) (own_i hw 17 rfl) (ty := (.object "com/example/libsld/libsld/Term")) (by decide) rfl rfl (g := (mkF m 27 #[.val (.ref a1), .val (.int (1 : Int32)), .val (.ref a3)] [(.ref a3), (.ref a1)])) rfl rfl (hb hby d5_27)
  have Fw103 := F2.same W103
  have N103 := Fr.snoc X103 N0 g1
  have f104 := Nat.le_trans Z0 (Keep.of_wr W103).1
  have f105 := F1.other W103 (Or.inr (slot_ne (Or.inl (own_i hw 43 rfl)) (Or.inl (own_i hw 51 rfl)) (by decide) (t := (.object "com/example/libsld/libsld/Term")) (t' := (.object "com/example/libsld/libsld/Term")) (by decide) (by decide)))
  have f106 := F3.other W103 (Or.inr (slot_ne (Or.inr (own_i hw 36 rfl)) (Or.inl (own_i hw 51 rfl)) (by decide) (t := (.array (.object "com/example/libsld/libsld/Term"))) (t' := (.object "com/example/libsld/libsld/Term")) (by decide) (by decide)))
  have f107 := F4.other W103 (Or.inr (slot_ne (Or.inr (own_i hw 34 rfl)) (Or.inl (own_i hw 51 rfl)) (by decide) (t := .int) (t' := (.object "com/example/libsld/libsld/Term")) (by decide) (by decide)))
  have f108 := E1.wr W103
  have f109 := f101.wr W103 (Or.inl (List.mem_of_getElem? (i := 0) rfl))
  have pre110 : ∀ t, Steps p.tables e below (T103.setTop (mkF m 42 #[.val (.ref a1), .val (.int (1 : Int32)), .val (.ref a3)] [])) t → Steps p.tables e below (s₁.setTop (entryFrame m #[(.ref a1), (.int (1 : Int32)), (.ref a3)] 3)) t := fun t k => pre0 t (by
    show Steps p.tables e below (s₁.setTop (mkF m 0 #[.val (.ref a1), .val (.int (1 : Int32)), .val (.ref a3)] [])) t
    refine XS.iloadN X0.here hx rfl (hb hby d5_0) rfl ?_
    show Steps p.tables e below (s₁.setTop (mkF m 1 #[.val (.ref a1), .val (.int (1 : Int32)), .val (.ref a3)] [(.int (1 : Int32))])) t
    refine XS.ifYes X0.here hx rfl (pc0 := 1) (pc' := 12) rfl (hb hby d5_1) rfl ((if0 _ _).trans (feq (by decide : ¬ ((1 : Int32) = (0 : Int32)))).2) (by decide) (by decide) ?_
    show Steps p.tables e below (s₁.setTop (mkF m 12 #[.val (.ref a1), .val (.int (1 : Int32)), .val (.ref a3)] [])) t
    refine XS.iloadN X0.here hx rfl (hb hby d5_12) rfl ?_
    show Steps p.tables e below (s₁.setTop (mkF m 13 #[.val (.ref a1), .val (.int (1 : Int32)), .val (.ref a3)] [(.int (1 : Int32))])) t
    refine XS.iconst X0.here hx rfl (hb hby d5_13) ?_
    show Steps p.tables e below (s₁.setTop (mkF m 14 #[.val (.ref a1), .val (.int (1 : Int32)), .val (.ref a3)] [(.int (1 : Int32)), (.int (1 : Int32))])) t
    refine XS.icmpNo X0.here hx rfl (hb hby d5_14) rfl (teq (by decide : (1 : Int32) = (1 : Int32))).2 ?_
    show Steps p.tables e below (s₁.setTop (mkF m 17 #[.val (.ref a1), .val (.int (1 : Int32)), .val (.ref a3)] [])) t
    refine XS.aloadN X0.here hx rfl (hb hby d5_17) rfl rfl ?_
    show Steps p.tables e below (s₁.setTop (mkF m 18 #[.val (.ref a1), .val (.int (1 : Int32)), .val (.ref a3)] [(.ref a1)])) t
    refine st102 _ ?_
    show Steps p.tables e below (T102.setTop (mkF m 21 #[.val (.ref a1), .val (.int (1 : Int32)), .val (.ref a3)] [(.int ar)])) t
    refine XS.iconst X102.here hx rfl (hb hby d5_21) ?_
    show Steps p.tables e below (T102.setTop (mkF m 22 #[.val (.ref a1), .val (.int (1 : Int32)), .val (.ref a3)] [(.int (1 : Int32)), (.int ar)])) t
    refine XS.icmpNo X102.here hx rfl (hb hby d5_22) rfl (tlt har).2.2.2 ?_
    show Steps p.tables e below (T102.setTop (mkF m 25 #[.val (.ref a1), .val (.int (1 : Int32)), .val (.ref a3)] [])) t
    refine XS.aloadN X102.here hx rfl (hb hby d5_25) rfl rfl ?_
    show Steps p.tables e below (T102.setTop (mkF m 26 #[.val (.ref a1), .val (.int (1 : Int32)), .val (.ref a3)] [(.ref a1)])) t
    refine XS.aloadN X102.here hx rfl (hb hby d5_26) rfl rfl ?_
    show Steps p.tables e below (T102.setTop (mkF m 27 #[.val (.ref a1), .val (.int (1 : Int32)), .val (.ref a3)] [(.ref a3), (.ref a1)])) t
    refine st103 _ ?_
    show Steps p.tables e below (T103.setTop (mkF m 30 #[.val (.ref a1), .val (.int (1 : Int32)), .val (.ref a3)] [])) t
    refine XS.goto X103.here hx rfl (pc0 := 30) (pc' := 42) rfl (hb hby d5_30) (by decide) (by decide) ?_
    exact k)
  obtain ⟨fs, hr, hrun, hended, hW, hsame⟩ := X103.leave (v := none) (fun _ => rfl)
  refine ⟨_, _, pre110 _ ?_, hrun, hended, _, _, rfl, ?_, ⟨_, rfl⟩, hW, hsame.mono (by decide) (by decide)⟩
  · exact X103.returnOut hx Bd.returns (hb hby d5_42) hr
  · show Q5_1 Z a1 a3 f0 f1 fr ar h0 n0 _ T103.heap _
    rw [e103]
    exact ⟨rfl, N103, f109, f108, f105, Fw103, f106, f107⟩
theorem ef_rm5_2_3 (m : MethodId) (x0 : Addr) (x2 : Addr) : entryFrame m #[(.ref x0), (.int (2 : Int32)), (.ref x2)] 3 = mkF m 0 #[.val (.ref x0), .val (.int (2 : Int32)), .val (.ref x2)] [] := by first | (simp [entryFrame, mkF, argsToLocals, Value.category]; done) | rfl
def Q5_2_3 (Z : State) (a1 : Addr) (a3 : Addr) (r : Addr) (kR : ClassId) (g0 : Value) (h0 : Heap) (n0 : Nat) (v : Option Value) (h : Heap) (L : List Loc) : Prop := v = none ∧ Fr n0 L ∧ Keep h0 h [r] ∧ (Arv Z h r kR (.object "com/example/libsld/libsld/Term") (1 : Int32) [(.ref a3)] .null)
set_option maxRecDepth 65536 in
set_option maxHeartbeats 40000000 in
theorem rm5_2_3 (l : Launch) (Z : State) (a0 : Array Value) (hw : ∀ d ∈ tables_1, d.before a0 Z = true) (ws : List Jvm.Cond) (a1 : Addr) (a3 : Addr) (r : Addr) (kR : ClassId) (g0 : Value) (h0 : Heap) (n0 : Nat) (Z0 : n0 ≤ h0.size) (F3 : Fld Z h0 a1 "com/example/libsld/libsld/Struct" "rest" "[Lcom/example/libsld/libsld/Term;" (.ref r)) (V1 : Arv Z h0 r kR (.object "com/example/libsld/libsld/Term") (1 : Int32) [g0] .null) (O1 : Ovr Z kR "com/example/libsld/libsld/Term") (E3 : Exa Z h0 a3 "com/example/libsld/libsld/Var") (gr : n0 ≤ r) :
    MetFree l (⟨"com/example/libsld/libsld/Struct", "setArg", "(ILcom/example/libsld/libsld/Term;)V"⟩ : MethodName) (head1 (Jvm.Cond.code (⟨"com/example/libsld/libsld/Struct", "setArg", "(ILcom/example/libsld/libsld/Term;)V"⟩ : MethodName) prog_116_method_8_code 3 none :: ws) ({ frames := 0, cells := 0, slots := 0, locals := 0 } : Room)) (fun a U => a = #[(.ref a1), (.int (2 : Int32)), (.ref a3)] ∧ Z.Warmed39 U.vm ∧ U.heap = h0) (fun _ _ _ _ _ => True) (fun _ U o U' => ∃ v L, o = .returned v ∧ Q5_2_3 Z a1 a3 r kR g0 h0 n0 v U'.heap L ∧ FrameEnd U o U' L ({ frames := 0, cells := 0, slots := 0, locals := 0 } : Room).cells ({ frames := 0, cells := 0, slots := 0, locals := 0 } : Room).slots) := by
  refine MetFree.of_bodySF (plainFor_of_name pn_com_example_libsld_libsld_Struct) hisR ?_
  intro p e s m args below meth c s₁ Bd hml0 hP hK
  obtain ⟨rfl, hZ, hh⟩ := hP
  have hx := Bd.exec
  have hby := Bd.bytes
  have hml : c.maxLocals = 3 := hml0
  have hown : s.vm.findClass "com/example/libsld/libsld/Struct" = some m.cls := findClass_of_methodNamed Bd.named
  have hnm := (name_of_methodNamed Bd.named Bd.method).1
  have X0 : Stand p l e ({ frames := 0, cells := 0, slots := 0, locals := 0 } : Room) s m #[(.ref a1), (.int (2 : Int32)), (.ref a3)] below meth c s₁ [] 0 0 := Stand.of_body Bd
  have e0 : s₁.heap = h0 := by rw [← hh, Bd.state]; rfl
  have N0 := Fr.nil n0
  have pre0 : ∀ t, Steps p.tables e below (s₁.setTop (mkF m 0 #[.val (.ref a1), .val (.int (2 : Int32)), .val (.ref a3)] [])) t → Steps p.tables e below (s₁.setTop (entryFrame m #[(.ref a1), (.int (2 : Int32)), (.ref a3)] 3)) t := fun t k => castTop (ef_rm5_2_3 m a1 a3) k
  have f101 := Keep.refl h0 [r]
  obtain ⟨T102, X102, e102, st102⟩ := getF X0 hx hZ hown (host := "") (Or.inl (own_i hw 35 rfl)) Via.refl e0 F3 (g := (mkF m 34 #[.val (.ref a1), .val (.int (2 : Int32)), .val (.ref a3)] [(.ref a1)])) rfl rfl (hb hby d5_34)
  obtain ⟨cl103, Ar103, q103, S103, N103z, H103, G103⟩ := (id V1)
  have hin103 : ¬ ((0 : Int32) < 0 ∨ cl103.slots.size ≤ ((0 : Int32)).toNatClampNeg) := inb_of S103 ⟨by decide, by decide⟩
  obtain ⟨T103, h103, X103, e103, W103, st103⟩ := stR X102 hx hZ e102 Ar103 (j := (0 : Int32)) hin103 rfl (Sto.ofV Ar103 q103 O1 (Ins.of_exa E3 (own_i hw 49 rfl))) (g := (mkF m 41 #[.val (.ref a1), .val (.int (2 : Int32)), .val (.ref a3)] [(.ref a3), (.int (0 : Int32)), (.ref r)])) rfl rfl (hb hby d5_41)
  have V103 : Arv Z h103 r kR (.object "com/example/libsld/libsld/Term") (1 : Int32) [(.ref a3)] .null := Arv.set Ar103 q103 S103 N103z H103 G103 rfl W103 0 rfl (Nat.le_of_ble_eq_true rfl)
  have N103 := Fr.snoc X103 N0 gr
  have f104 := Nat.le_trans Z0 (Keep.of_wr W103).1
  have f105 := E3.wr W103
  have f106 := f101.wr W103 (Or.inl (List.mem_of_getElem? (i := 0) rfl))
  have pre107 : ∀ t, Steps p.tables e below (T103.setTop (mkF m 42 #[.val (.ref a1), .val (.int (2 : Int32)), .val (.ref a3)] [])) t → Steps p.tables e below (s₁.setTop (entryFrame m #[(.ref a1), (.int (2 : Int32)), (.ref a3)] 3)) t := fun t k => pre0 t (by
    show Steps p.tables e below (s₁.setTop (mkF m 0 #[.val (.ref a1), .val (.int (2 : Int32)), .val (.ref a3)] [])) t
    refine XS.iloadN X0.here hx rfl (hb hby d5_0) rfl ?_
    show Steps p.tables e below (s₁.setTop (mkF m 1 #[.val (.ref a1), .val (.int (2 : Int32)), .val (.ref a3)] [(.int (2 : Int32))])) t
    refine XS.ifYes X0.here hx rfl (pc0 := 1) (pc' := 12) rfl (hb hby d5_1) rfl ((if0 _ _).trans (feq (by decide : ¬ ((2 : Int32) = (0 : Int32)))).2) (by decide) (by decide) ?_
    show Steps p.tables e below (s₁.setTop (mkF m 12 #[.val (.ref a1), .val (.int (2 : Int32)), .val (.ref a3)] [])) t
    refine XS.iloadN X0.here hx rfl (hb hby d5_12) rfl ?_
    show Steps p.tables e below (s₁.setTop (mkF m 13 #[.val (.ref a1), .val (.int (2 : Int32)), .val (.ref a3)] [(.int (2 : Int32))])) t
    refine XS.iconst X0.here hx rfl (hb hby d5_13) ?_
    show Steps p.tables e below (s₁.setTop (mkF m 14 #[.val (.ref a1), .val (.int (2 : Int32)), .val (.ref a3)] [(.int (1 : Int32)), (.int (2 : Int32))])) t
    refine XS.icmpYes X0.here hx rfl (pc0 := 14) (pc' := 33) rfl (hb hby d5_14) rfl (feq (by decide : ¬ ((2 : Int32) = (1 : Int32)))).2 (by decide) (by decide) ?_
    show Steps p.tables e below (s₁.setTop (mkF m 33 #[.val (.ref a1), .val (.int (2 : Int32)), .val (.ref a3)] [])) t
    refine XS.aloadN X0.here hx rfl (hb hby d5_33) rfl rfl ?_
    show Steps p.tables e below (s₁.setTop (mkF m 34 #[.val (.ref a1), .val (.int (2 : Int32)), .val (.ref a3)] [(.ref a1)])) t
    refine st102 _ ?_
    show Steps p.tables e below (T102.setTop (mkF m 37 #[.val (.ref a1), .val (.int (2 : Int32)), .val (.ref a3)] [(.ref r)])) t
    refine XS.iloadN X102.here hx rfl (hb hby d5_37) rfl ?_
    show Steps p.tables e below (T102.setTop (mkF m 38 #[.val (.ref a1), .val (.int (2 : Int32)), .val (.ref a3)] [(.int (2 : Int32)), (.ref r)])) t
    refine XS.iconst X102.here hx rfl (hb hby d5_38) ?_
    show Steps p.tables e below (T102.setTop (mkF m 39 #[.val (.ref a1), .val (.int (2 : Int32)), .val (.ref a3)] [(.int (2 : Int32)), (.int (2 : Int32)), (.ref r)])) t
    refine XS.isub X102.here hx rfl (hb hby d5_39) rfl ?_
    show Steps p.tables e below (T102.setTop (mkF m 40 #[.val (.ref a1), .val (.int (2 : Int32)), .val (.ref a3)] [(.int (0 : Int32)), (.ref r)])) t
    refine XS.aloadN X102.here hx rfl (hb hby d5_40) rfl rfl ?_
    show Steps p.tables e below (T102.setTop (mkF m 41 #[.val (.ref a1), .val (.int (2 : Int32)), .val (.ref a3)] [(.ref a3), (.int (0 : Int32)), (.ref r)])) t
    refine st103 _ ?_
    exact k)
  obtain ⟨fs, hr, hrun, hended, hW, hsame⟩ := X103.leave (v := none) (fun _ => rfl)
  refine ⟨_, _, pre107 _ ?_, hrun, hended, _, _, rfl, ?_, ⟨_, rfl⟩, hW, hsame.mono (by decide) (by decide)⟩
  · exact X103.returnOut hx Bd.returns (hb hby d5_42) hr
  · show Q5_2_3 Z a1 a3 r kR g0 h0 n0 _ T103.heap _
    rw [e103]
    exact ⟨rfl, N103, f106, V103⟩
theorem ef_rm5_2_4 (m : MethodId) (x0 : Addr) (x2 : Addr) : entryFrame m #[(.ref x0), (.int (2 : Int32)), (.ref x2)] 3 = mkF m 0 #[.val (.ref x0), .val (.int (2 : Int32)), .val (.ref x2)] [] := by first | (simp [entryFrame, mkF, argsToLocals, Value.category]; done) | rfl
def Q5_2_4 (Z : State) (a1 : Addr) (a3 : Addr) (r : Addr) (kR : ClassId) (g0 : Value) (g1 : Value) (h0 : Heap) (n0 : Nat) (v : Option Value) (h : Heap) (L : List Loc) : Prop := v = none ∧ Fr n0 L ∧ Keep h0 h [r] ∧ (Arv Z h r kR (.object "com/example/libsld/libsld/Term") (2 : Int32) [(.ref a3), g1] .null)
set_option maxRecDepth 65536 in
set_option maxHeartbeats 40000000 in
theorem rm5_2_4 (l : Launch) (Z : State) (a0 : Array Value) (hw : ∀ d ∈ tables_1, d.before a0 Z = true) (ws : List Jvm.Cond) (a1 : Addr) (a3 : Addr) (r : Addr) (kR : ClassId) (g0 : Value) (g1 : Value) (h0 : Heap) (n0 : Nat) (Z0 : n0 ≤ h0.size) (F3 : Fld Z h0 a1 "com/example/libsld/libsld/Struct" "rest" "[Lcom/example/libsld/libsld/Term;" (.ref r)) (V1 : Arv Z h0 r kR (.object "com/example/libsld/libsld/Term") (2 : Int32) [g0, g1] .null) (O1 : Ovr Z kR "com/example/libsld/libsld/Term") (E3 : Exa Z h0 a3 "com/example/libsld/libsld/Var") (gr : n0 ≤ r) :
    MetFree l (⟨"com/example/libsld/libsld/Struct", "setArg", "(ILcom/example/libsld/libsld/Term;)V"⟩ : MethodName) (head1 (Jvm.Cond.code (⟨"com/example/libsld/libsld/Struct", "setArg", "(ILcom/example/libsld/libsld/Term;)V"⟩ : MethodName) prog_116_method_8_code 3 none :: ws) ({ frames := 0, cells := 0, slots := 0, locals := 0 } : Room)) (fun a U => a = #[(.ref a1), (.int (2 : Int32)), (.ref a3)] ∧ Z.Warmed39 U.vm ∧ U.heap = h0) (fun _ _ _ _ _ => True) (fun _ U o U' => ∃ v L, o = .returned v ∧ Q5_2_4 Z a1 a3 r kR g0 g1 h0 n0 v U'.heap L ∧ FrameEnd U o U' L ({ frames := 0, cells := 0, slots := 0, locals := 0 } : Room).cells ({ frames := 0, cells := 0, slots := 0, locals := 0 } : Room).slots) := by
  refine MetFree.of_bodySF (plainFor_of_name pn_com_example_libsld_libsld_Struct) hisR ?_
  intro p e s m args below meth c s₁ Bd hml0 hP hK
  obtain ⟨rfl, hZ, hh⟩ := hP
  have hx := Bd.exec
  have hby := Bd.bytes
  have hml : c.maxLocals = 3 := hml0
  have hown : s.vm.findClass "com/example/libsld/libsld/Struct" = some m.cls := findClass_of_methodNamed Bd.named
  have hnm := (name_of_methodNamed Bd.named Bd.method).1
  have X0 : Stand p l e ({ frames := 0, cells := 0, slots := 0, locals := 0 } : Room) s m #[(.ref a1), (.int (2 : Int32)), (.ref a3)] below meth c s₁ [] 0 0 := Stand.of_body Bd
  have e0 : s₁.heap = h0 := by rw [← hh, Bd.state]; rfl
  have N0 := Fr.nil n0
  have pre0 : ∀ t, Steps p.tables e below (s₁.setTop (mkF m 0 #[.val (.ref a1), .val (.int (2 : Int32)), .val (.ref a3)] [])) t → Steps p.tables e below (s₁.setTop (entryFrame m #[(.ref a1), (.int (2 : Int32)), (.ref a3)] 3)) t := fun t k => castTop (ef_rm5_2_4 m a1 a3) k
  have f101 := Keep.refl h0 [r]
  obtain ⟨T102, X102, e102, st102⟩ := getF X0 hx hZ hown (host := "") (Or.inl (own_i hw 35 rfl)) Via.refl e0 F3 (g := (mkF m 34 #[.val (.ref a1), .val (.int (2 : Int32)), .val (.ref a3)] [(.ref a1)])) rfl rfl (hb hby d5_34)
  obtain ⟨cl103, Ar103, q103, S103, N103z, H103, G103⟩ := (id V1)
  have hin103 : ¬ ((0 : Int32) < 0 ∨ cl103.slots.size ≤ ((0 : Int32)).toNatClampNeg) := inb_of S103 ⟨by decide, by decide⟩
  obtain ⟨T103, h103, X103, e103, W103, st103⟩ := stR X102 hx hZ e102 Ar103 (j := (0 : Int32)) hin103 rfl (Sto.ofV Ar103 q103 O1 (Ins.of_exa E3 (own_i hw 49 rfl))) (g := (mkF m 41 #[.val (.ref a1), .val (.int (2 : Int32)), .val (.ref a3)] [(.ref a3), (.int (0 : Int32)), (.ref r)])) rfl rfl (hb hby d5_41)
  have V103 : Arv Z h103 r kR (.object "com/example/libsld/libsld/Term") (2 : Int32) [(.ref a3), g1] .null := Arv.set Ar103 q103 S103 N103z H103 G103 rfl W103 0 rfl (Nat.le_of_ble_eq_true rfl)
  have N103 := Fr.snoc X103 N0 gr
  have f104 := Nat.le_trans Z0 (Keep.of_wr W103).1
  have f105 := E3.wr W103
  have f106 := f101.wr W103 (Or.inl (List.mem_of_getElem? (i := 0) rfl))
  have pre107 : ∀ t, Steps p.tables e below (T103.setTop (mkF m 42 #[.val (.ref a1), .val (.int (2 : Int32)), .val (.ref a3)] [])) t → Steps p.tables e below (s₁.setTop (entryFrame m #[(.ref a1), (.int (2 : Int32)), (.ref a3)] 3)) t := fun t k => pre0 t (by
    show Steps p.tables e below (s₁.setTop (mkF m 0 #[.val (.ref a1), .val (.int (2 : Int32)), .val (.ref a3)] [])) t
    refine XS.iloadN X0.here hx rfl (hb hby d5_0) rfl ?_
    show Steps p.tables e below (s₁.setTop (mkF m 1 #[.val (.ref a1), .val (.int (2 : Int32)), .val (.ref a3)] [(.int (2 : Int32))])) t
    refine XS.ifYes X0.here hx rfl (pc0 := 1) (pc' := 12) rfl (hb hby d5_1) rfl ((if0 _ _).trans (feq (by decide : ¬ ((2 : Int32) = (0 : Int32)))).2) (by decide) (by decide) ?_
    show Steps p.tables e below (s₁.setTop (mkF m 12 #[.val (.ref a1), .val (.int (2 : Int32)), .val (.ref a3)] [])) t
    refine XS.iloadN X0.here hx rfl (hb hby d5_12) rfl ?_
    show Steps p.tables e below (s₁.setTop (mkF m 13 #[.val (.ref a1), .val (.int (2 : Int32)), .val (.ref a3)] [(.int (2 : Int32))])) t
    refine XS.iconst X0.here hx rfl (hb hby d5_13) ?_
    show Steps p.tables e below (s₁.setTop (mkF m 14 #[.val (.ref a1), .val (.int (2 : Int32)), .val (.ref a3)] [(.int (1 : Int32)), (.int (2 : Int32))])) t
    refine XS.icmpYes X0.here hx rfl (pc0 := 14) (pc' := 33) rfl (hb hby d5_14) rfl (feq (by decide : ¬ ((2 : Int32) = (1 : Int32)))).2 (by decide) (by decide) ?_
    show Steps p.tables e below (s₁.setTop (mkF m 33 #[.val (.ref a1), .val (.int (2 : Int32)), .val (.ref a3)] [])) t
    refine XS.aloadN X0.here hx rfl (hb hby d5_33) rfl rfl ?_
    show Steps p.tables e below (s₁.setTop (mkF m 34 #[.val (.ref a1), .val (.int (2 : Int32)), .val (.ref a3)] [(.ref a1)])) t
    refine st102 _ ?_
    show Steps p.tables e below (T102.setTop (mkF m 37 #[.val (.ref a1), .val (.int (2 : Int32)), .val (.ref a3)] [(.ref r)])) t
    refine XS.iloadN X102.here hx rfl (hb hby d5_37) rfl ?_
    show Steps p.tables e below (T102.setTop (mkF m 38 #[.val (.ref a1), .val (.int (2 : Int32)), .val (.ref a3)] [(.int (2 : Int32)), (.ref r)])) t
    refine XS.iconst X102.here hx rfl (hb hby d5_38) ?_
    show Steps p.tables e below (T102.setTop (mkF m 39 #[.val (.ref a1), .val (.int (2 : Int32)), .val (.ref a3)] [(.int (2 : Int32)), (.int (2 : Int32)), (.ref r)])) t
    refine XS.isub X102.here hx rfl (hb hby d5_39) rfl ?_
    show Steps p.tables e below (T102.setTop (mkF m 40 #[.val (.ref a1), .val (.int (2 : Int32)), .val (.ref a3)] [(.int (0 : Int32)), (.ref r)])) t
    refine XS.aloadN X102.here hx rfl (hb hby d5_40) rfl rfl ?_
    show Steps p.tables e below (T102.setTop (mkF m 41 #[.val (.ref a1), .val (.int (2 : Int32)), .val (.ref a3)] [(.ref a3), (.int (0 : Int32)), (.ref r)])) t
    refine st103 _ ?_
    exact k)
  obtain ⟨fs, hr, hrun, hended, hW, hsame⟩ := X103.leave (v := none) (fun _ => rfl)
  refine ⟨_, _, pre107 _ ?_, hrun, hended, _, _, rfl, ?_, ⟨_, rfl⟩, hW, hsame.mono (by decide) (by decide)⟩
  · exact X103.returnOut hx Bd.returns (hb hby d5_42) hr
  · show Q5_2_4 Z a1 a3 r kR g0 g1 h0 n0 _ T103.heap _
    rw [e103]
    exact ⟨rfl, N103, f106, V103⟩
theorem ef_rm5_3_4 (m : MethodId) (x0 : Addr) (x2 : Addr) : entryFrame m #[(.ref x0), (.int (3 : Int32)), (.ref x2)] 3 = mkF m 0 #[.val (.ref x0), .val (.int (3 : Int32)), .val (.ref x2)] [] := by first | (simp [entryFrame, mkF, argsToLocals, Value.category]; done) | rfl
def Q5_3_4 (Z : State) (a1 : Addr) (a3 : Addr) (r : Addr) (kR : ClassId) (g0 : Value) (g1 : Value) (h0 : Heap) (n0 : Nat) (v : Option Value) (h : Heap) (L : List Loc) : Prop := v = none ∧ Fr n0 L ∧ Keep h0 h [r] ∧ (Arv Z h r kR (.object "com/example/libsld/libsld/Term") (2 : Int32) [g0, (.ref a3)] .null)
set_option maxRecDepth 65536 in
set_option maxHeartbeats 40000000 in
theorem rm5_3_4 (l : Launch) (Z : State) (a0 : Array Value) (hw : ∀ d ∈ tables_1, d.before a0 Z = true) (ws : List Jvm.Cond) (a1 : Addr) (a3 : Addr) (r : Addr) (kR : ClassId) (g0 : Value) (g1 : Value) (h0 : Heap) (n0 : Nat) (Z0 : n0 ≤ h0.size) (F3 : Fld Z h0 a1 "com/example/libsld/libsld/Struct" "rest" "[Lcom/example/libsld/libsld/Term;" (.ref r)) (V1 : Arv Z h0 r kR (.object "com/example/libsld/libsld/Term") (2 : Int32) [g0, g1] .null) (O1 : Ovr Z kR "com/example/libsld/libsld/Term") (E3 : Exa Z h0 a3 "com/example/libsld/libsld/Var") (gr : n0 ≤ r) :
    MetFree l (⟨"com/example/libsld/libsld/Struct", "setArg", "(ILcom/example/libsld/libsld/Term;)V"⟩ : MethodName) (head1 (Jvm.Cond.code (⟨"com/example/libsld/libsld/Struct", "setArg", "(ILcom/example/libsld/libsld/Term;)V"⟩ : MethodName) prog_116_method_8_code 3 none :: ws) ({ frames := 0, cells := 0, slots := 0, locals := 0 } : Room)) (fun a U => a = #[(.ref a1), (.int (3 : Int32)), (.ref a3)] ∧ Z.Warmed39 U.vm ∧ U.heap = h0) (fun _ _ _ _ _ => True) (fun _ U o U' => ∃ v L, o = .returned v ∧ Q5_3_4 Z a1 a3 r kR g0 g1 h0 n0 v U'.heap L ∧ FrameEnd U o U' L ({ frames := 0, cells := 0, slots := 0, locals := 0 } : Room).cells ({ frames := 0, cells := 0, slots := 0, locals := 0 } : Room).slots) := by
  refine MetFree.of_bodySF (plainFor_of_name pn_com_example_libsld_libsld_Struct) hisR ?_
  intro p e s m args below meth c s₁ Bd hml0 hP hK
  obtain ⟨rfl, hZ, hh⟩ := hP
  have hx := Bd.exec
  have hby := Bd.bytes
  have hml : c.maxLocals = 3 := hml0
  have hown : s.vm.findClass "com/example/libsld/libsld/Struct" = some m.cls := findClass_of_methodNamed Bd.named
  have hnm := (name_of_methodNamed Bd.named Bd.method).1
  have X0 : Stand p l e ({ frames := 0, cells := 0, slots := 0, locals := 0 } : Room) s m #[(.ref a1), (.int (3 : Int32)), (.ref a3)] below meth c s₁ [] 0 0 := Stand.of_body Bd
  have e0 : s₁.heap = h0 := by rw [← hh, Bd.state]; rfl
  have N0 := Fr.nil n0
  have pre0 : ∀ t, Steps p.tables e below (s₁.setTop (mkF m 0 #[.val (.ref a1), .val (.int (3 : Int32)), .val (.ref a3)] [])) t → Steps p.tables e below (s₁.setTop (entryFrame m #[(.ref a1), (.int (3 : Int32)), (.ref a3)] 3)) t := fun t k => castTop (ef_rm5_3_4 m a1 a3) k
  have f101 := Keep.refl h0 [r]
  obtain ⟨T102, X102, e102, st102⟩ := getF X0 hx hZ hown (host := "") (Or.inl (own_i hw 35 rfl)) Via.refl e0 F3 (g := (mkF m 34 #[.val (.ref a1), .val (.int (3 : Int32)), .val (.ref a3)] [(.ref a1)])) rfl rfl (hb hby d5_34)
  obtain ⟨cl103, Ar103, q103, S103, N103z, H103, G103⟩ := (id V1)
  have hin103 : ¬ ((1 : Int32) < 0 ∨ cl103.slots.size ≤ ((1 : Int32)).toNatClampNeg) := inb_of S103 ⟨by decide, by decide⟩
  obtain ⟨T103, h103, X103, e103, W103, st103⟩ := stR X102 hx hZ e102 Ar103 (j := (1 : Int32)) hin103 rfl (Sto.ofV Ar103 q103 O1 (Ins.of_exa E3 (own_i hw 49 rfl))) (g := (mkF m 41 #[.val (.ref a1), .val (.int (3 : Int32)), .val (.ref a3)] [(.ref a3), (.int (1 : Int32)), (.ref r)])) rfl rfl (hb hby d5_41)
  have V103 : Arv Z h103 r kR (.object "com/example/libsld/libsld/Term") (2 : Int32) [g0, (.ref a3)] .null := Arv.set Ar103 q103 S103 N103z H103 G103 rfl W103 1 rfl (Nat.le_of_ble_eq_true rfl)
  have N103 := Fr.snoc X103 N0 gr
  have f104 := Nat.le_trans Z0 (Keep.of_wr W103).1
  have f105 := E3.wr W103
  have f106 := f101.wr W103 (Or.inl (List.mem_of_getElem? (i := 0) rfl))
  have pre107 : ∀ t, Steps p.tables e below (T103.setTop (mkF m 42 #[.val (.ref a1), .val (.int (3 : Int32)), .val (.ref a3)] [])) t → Steps p.tables e below (s₁.setTop (entryFrame m #[(.ref a1), (.int (3 : Int32)), (.ref a3)] 3)) t := fun t k => pre0 t (by
    show Steps p.tables e below (s₁.setTop (mkF m 0 #[.val (.ref a1), .val (.int (3 : Int32)), .val (.ref a3)] [])) t
    refine XS.iloadN X0.here hx rfl (hb hby d5_0) rfl ?_
    show Steps p.tables e below (s₁.setTop (mkF m 1 #[.val (.ref a1), .val (.int (3 : Int32)), .val (.ref a3)] [(.int (3 : Int32))])) t
    refine XS.ifYes X0.here hx rfl (pc0 := 1) (pc' := 12) rfl (hb hby d5_1) rfl ((if0 _ _).trans (feq (by decide : ¬ ((3 : Int32) = (0 : Int32)))).2) (by decide) (by decide) ?_
    show Steps p.tables e below (s₁.setTop (mkF m 12 #[.val (.ref a1), .val (.int (3 : Int32)), .val (.ref a3)] [])) t
    refine XS.iloadN X0.here hx rfl (hb hby d5_12) rfl ?_
    show Steps p.tables e below (s₁.setTop (mkF m 13 #[.val (.ref a1), .val (.int (3 : Int32)), .val (.ref a3)] [(.int (3 : Int32))])) t
    refine XS.iconst X0.here hx rfl (hb hby d5_13) ?_
    show Steps p.tables e below (s₁.setTop (mkF m 14 #[.val (.ref a1), .val (.int (3 : Int32)), .val (.ref a3)] [(.int (1 : Int32)), (.int (3 : Int32))])) t
    refine XS.icmpYes X0.here hx rfl (pc0 := 14) (pc' := 33) rfl (hb hby d5_14) rfl (feq (by decide : ¬ ((3 : Int32) = (1 : Int32)))).2 (by decide) (by decide) ?_
    show Steps p.tables e below (s₁.setTop (mkF m 33 #[.val (.ref a1), .val (.int (3 : Int32)), .val (.ref a3)] [])) t
    refine XS.aloadN X0.here hx rfl (hb hby d5_33) rfl rfl ?_
    show Steps p.tables e below (s₁.setTop (mkF m 34 #[.val (.ref a1), .val (.int (3 : Int32)), .val (.ref a3)] [(.ref a1)])) t
    refine st102 _ ?_
    show Steps p.tables e below (T102.setTop (mkF m 37 #[.val (.ref a1), .val (.int (3 : Int32)), .val (.ref a3)] [(.ref r)])) t
    refine XS.iloadN X102.here hx rfl (hb hby d5_37) rfl ?_
    show Steps p.tables e below (T102.setTop (mkF m 38 #[.val (.ref a1), .val (.int (3 : Int32)), .val (.ref a3)] [(.int (3 : Int32)), (.ref r)])) t
    refine XS.iconst X102.here hx rfl (hb hby d5_38) ?_
    show Steps p.tables e below (T102.setTop (mkF m 39 #[.val (.ref a1), .val (.int (3 : Int32)), .val (.ref a3)] [(.int (2 : Int32)), (.int (3 : Int32)), (.ref r)])) t
    refine XS.isub X102.here hx rfl (hb hby d5_39) rfl ?_
    show Steps p.tables e below (T102.setTop (mkF m 40 #[.val (.ref a1), .val (.int (3 : Int32)), .val (.ref a3)] [(.int (1 : Int32)), (.ref r)])) t
    refine XS.aloadN X102.here hx rfl (hb hby d5_40) rfl rfl ?_
    show Steps p.tables e below (T102.setTop (mkF m 41 #[.val (.ref a1), .val (.int (3 : Int32)), .val (.ref a3)] [(.ref a3), (.int (1 : Int32)), (.ref r)])) t
    refine st103 _ ?_
    exact k)
  obtain ⟨fs, hr, hrun, hended, hW, hsame⟩ := X103.leave (v := none) (fun _ => rfl)
  refine ⟨_, _, pre107 _ ?_, hrun, hended, _, _, rfl, ?_, ⟨_, rfl⟩, hW, hsame.mono (by decide) (by decide)⟩
  · exact X103.returnOut hx Bd.returns (hb hby d5_42) hr
  · show Q5_3_4 Z a1 a3 r kR g0 g1 h0 n0 _ T103.heap _
    rw [e103]
    exact ⟨rfl, N103, f106, V103⟩
theorem ef_rm4_0 (m : MethodId) (x0 : Addr) : entryFrame m #[(.ref x0), (.int (0 : Int32))] 2 = mkF m 0 #[.val (.ref x0), .val (.int (0 : Int32))] [] := by first | (simp [entryFrame, mkF, argsToLocals, Value.category]; done) | rfl
def Q4_0 (Z : State) (a1 : Addr) (f0 : Value) (h0 : Heap) (n0 : Nat) (v : Option Value) (h : Heap) (L : List Loc) : Prop := v = some f0 ∧ Fr n0 L ∧ h = h0
set_option maxRecDepth 65536 in
set_option maxHeartbeats 40000000 in
theorem rm4_0 (l : Launch) (Z : State) (a0 : Array Value) (hw : ∀ d ∈ tables_1, d.before a0 Z = true) (ws : List Jvm.Cond) (a1 : Addr) (f0 : Value) (h0 : Heap) (n0 : Nat) (Z0 : n0 ≤ h0.size) (F1 : Fld Z h0 a1 "com/example/libsld/libsld/Struct" "first" "Lcom/example/libsld/libsld/Term;" f0) (hR : f0.isRef = true) :
    MetFree l (⟨"com/example/libsld/libsld/Struct", "arg", "(I)Lcom/example/libsld/libsld/Term;"⟩ : MethodName) (head1 (Jvm.Cond.code (⟨"com/example/libsld/libsld/Struct", "arg", "(I)Lcom/example/libsld/libsld/Term;"⟩ : MethodName) prog_116_method_7_code 2 (some (.object "com/example/libsld/libsld/Term")) :: ws) ({ frames := 0, cells := 0, slots := 0, locals := 0 } : Room)) (fun a U => a = #[(.ref a1), (.int (0 : Int32))] ∧ Z.Warmed39 U.vm ∧ U.heap = h0) (fun _ _ _ _ _ => True) (fun _ U o U' => ∃ v L, o = .returned v ∧ Q4_0 Z a1 f0 h0 n0 v U'.heap L ∧ FrameEnd U o U' L ({ frames := 0, cells := 0, slots := 0, locals := 0 } : Room).cells ({ frames := 0, cells := 0, slots := 0, locals := 0 } : Room).slots) := by
  refine MetFree.of_bodySF (plainFor_of_name pn_com_example_libsld_libsld_Struct) hisR ?_
  intro p e s m args below meth c s₁ Bd hml0 hP hK
  obtain ⟨rfl, hZ, hh⟩ := hP
  have hx := Bd.exec
  have hby := Bd.bytes
  have hml : c.maxLocals = 2 := hml0
  have hown : s.vm.findClass "com/example/libsld/libsld/Struct" = some m.cls := findClass_of_methodNamed Bd.named
  have hnm := (name_of_methodNamed Bd.named Bd.method).1
  have X0 : Stand p l e ({ frames := 0, cells := 0, slots := 0, locals := 0 } : Room) s m #[(.ref a1), (.int (0 : Int32))] below meth c s₁ [] 0 0 := Stand.of_body Bd
  have e0 : s₁.heap = h0 := by rw [← hh, Bd.state]; rfl
  have N0 := Fr.nil n0
  have pre0 : ∀ t, Steps p.tables e below (s₁.setTop (mkF m 0 #[.val (.ref a1), .val (.int (0 : Int32))] [])) t → Steps p.tables e below (s₁.setTop (entryFrame m #[(.ref a1), (.int (0 : Int32))] 2)) t := fun t k => castTop (ef_rm4_0 m a1) k
  obtain ⟨T101, X101, e101, st101⟩ := getF X0 hx hZ hown (host := "") (Or.inl (own_i hw 42 rfl)) Via.refl e0 F1 (g := (mkF m 5 #[.val (.ref a1), .val (.int (0 : Int32))] [(.ref a1)])) rfl rfl (hb hby d4_5)
  have pre102 : ∀ t, Steps p.tables e below (T101.setTop (mkF m 8 #[.val (.ref a1), .val (.int (0 : Int32))] [f0])) t → Steps p.tables e below (s₁.setTop (entryFrame m #[(.ref a1), (.int (0 : Int32))] 2)) t := fun t k => pre0 t (by
    show Steps p.tables e below (s₁.setTop (mkF m 0 #[.val (.ref a1), .val (.int (0 : Int32))] [])) t
    refine XS.iloadN X0.here hx rfl (hb hby d4_0) rfl ?_
    show Steps p.tables e below (s₁.setTop (mkF m 1 #[.val (.ref a1), .val (.int (0 : Int32))] [(.int (0 : Int32))])) t
    refine XS.ifNo X0.here hx rfl (hb hby d4_1) rfl ((if0 _ _).trans (teq (by decide : (0 : Int32) = (0 : Int32))).2) ?_
    show Steps p.tables e below (s₁.setTop (mkF m 4 #[.val (.ref a1), .val (.int (0 : Int32))] [])) t
    refine XS.aloadN X0.here hx rfl (hb hby d4_4) rfl rfl ?_
    show Steps p.tables e below (s₁.setTop (mkF m 5 #[.val (.ref a1), .val (.int (0 : Int32))] [(.ref a1)])) t
    refine st101 _ ?_
    exact k)
  obtain ⟨fs, hr, hrun, hended, hW, hsame⟩ := X101.leave (v := some f0) (fun h => by rw [Bd.returns] at h; cases h)
  refine ⟨_, _, pre102 _ ?_, hrun, hended, _, _, rfl, ?_, ⟨_, rfl⟩, hW, hsame.mono (by decide) (by decide)⟩
  · exact retOut X101 hx Bd.returns (own_nr hR) (Or.inr (Or.inr (Or.inr (Or.inr ⟨rfl, rfl, hR⟩)))) (hb hby d4_8) hr
  · show Q4_0 Z a1 f0 h0 n0 _ T101.heap _
    rw [e101]
    exact ⟨rfl, N0, rfl⟩
theorem ef_rm4_1 (m : MethodId) (x0 : Addr) : entryFrame m #[(.ref x0), (.int (1 : Int32))] 2 = mkF m 0 #[.val (.ref x0), .val (.int (1 : Int32))] [] := by first | (simp [entryFrame, mkF, argsToLocals, Value.category]; done) | rfl
def Q4_1 (Z : State) (a1 : Addr) (f1 : Value) (ar : Int32) (h0 : Heap) (n0 : Nat) (v : Option Value) (h : Heap) (L : List Loc) : Prop := v = some f1 ∧ Fr n0 L ∧ h = h0
set_option maxRecDepth 65536 in
set_option maxHeartbeats 40000000 in
theorem rm4_1 (l : Launch) (Z : State) (a0 : Array Value) (hw : ∀ d ∈ tables_1, d.before a0 Z = true) (ws : List Jvm.Cond) (a1 : Addr) (f1 : Value) (ar : Int32) (h0 : Heap) (n0 : Nat) (Z0 : n0 ≤ h0.size) (F2 : Fld Z h0 a1 "com/example/libsld/libsld/Struct" "second" "Lcom/example/libsld/libsld/Term;" f1) (F4 : Fld Z h0 a1 "com/example/libsld/libsld/Struct" "arity" "I" (.int ar)) (har : (1 : Int32) < ar) (hR : f1.isRef = true) :
    MetFree l (⟨"com/example/libsld/libsld/Struct", "arg", "(I)Lcom/example/libsld/libsld/Term;"⟩ : MethodName) (head1 (Jvm.Cond.code (⟨"com/example/libsld/libsld/Struct", "arg", "(I)Lcom/example/libsld/libsld/Term;"⟩ : MethodName) prog_116_method_7_code 2 (some (.object "com/example/libsld/libsld/Term")) :: ws) ({ frames := 0, cells := 0, slots := 0, locals := 0 } : Room)) (fun a U => a = #[(.ref a1), (.int (1 : Int32))] ∧ Z.Warmed39 U.vm ∧ U.heap = h0) (fun _ _ _ _ _ => True) (fun _ U o U' => ∃ v L, o = .returned v ∧ Q4_1 Z a1 f1 ar h0 n0 v U'.heap L ∧ FrameEnd U o U' L ({ frames := 0, cells := 0, slots := 0, locals := 0 } : Room).cells ({ frames := 0, cells := 0, slots := 0, locals := 0 } : Room).slots) := by
  refine MetFree.of_bodySF (plainFor_of_name pn_com_example_libsld_libsld_Struct) hisR ?_
  intro p e s m args below meth c s₁ Bd hml0 hP hK
  obtain ⟨rfl, hZ, hh⟩ := hP
  have hx := Bd.exec
  have hby := Bd.bytes
  have hml : c.maxLocals = 2 := hml0
  have hown : s.vm.findClass "com/example/libsld/libsld/Struct" = some m.cls := findClass_of_methodNamed Bd.named
  have hnm := (name_of_methodNamed Bd.named Bd.method).1
  have X0 : Stand p l e ({ frames := 0, cells := 0, slots := 0, locals := 0 } : Room) s m #[(.ref a1), (.int (1 : Int32))] below meth c s₁ [] 0 0 := Stand.of_body Bd
  have e0 : s₁.heap = h0 := by rw [← hh, Bd.state]; rfl
  have N0 := Fr.nil n0
  have pre0 : ∀ t, Steps p.tables e below (s₁.setTop (mkF m 0 #[.val (.ref a1), .val (.int (1 : Int32))] [])) t → Steps p.tables e below (s₁.setTop (entryFrame m #[(.ref a1), (.int (1 : Int32))] 2)) t := fun t k => castTop (ef_rm4_1 m a1) k
  obtain ⟨T101, X101, e101, st101⟩ := getF X0 hx hZ hown (host := "") (Or.inl (own_i hw 33 rfl)) Via.refl e0 F4 (g := (mkF m 15 #[.val (.ref a1), .val (.int (1 : Int32))] [(.ref a1)])) rfl rfl (hb hby d4_15)
  obtain ⟨T102, X102, e102, st102⟩ := getF X101 hx hZ hown (host := "") (Or.inl (own_i hw 50 rfl)) Via.refl e101 F2 (g := (mkF m 23 #[.val (.ref a1), .val (.int (1 : Int32))] [(.ref a1)])) rfl rfl (hb hby d4_23)
  have pre103 : ∀ t, Steps p.tables e below (T102.setTop (mkF m 26 #[.val (.ref a1), .val (.int (1 : Int32))] [f1])) t → Steps p.tables e below (s₁.setTop (entryFrame m #[(.ref a1), (.int (1 : Int32))] 2)) t := fun t k => pre0 t (by
    show Steps p.tables e below (s₁.setTop (mkF m 0 #[.val (.ref a1), .val (.int (1 : Int32))] [])) t
    refine XS.iloadN X0.here hx rfl (hb hby d4_0) rfl ?_
    show Steps p.tables e below (s₁.setTop (mkF m 1 #[.val (.ref a1), .val (.int (1 : Int32))] [(.int (1 : Int32))])) t
    refine XS.ifYes X0.here hx rfl (pc0 := 1) (pc' := 9) rfl (hb hby d4_1) rfl ((if0 _ _).trans (feq (by decide : ¬ ((1 : Int32) = (0 : Int32)))).2) (by decide) (by decide) ?_
    show Steps p.tables e below (s₁.setTop (mkF m 9 #[.val (.ref a1), .val (.int (1 : Int32))] [])) t
    refine XS.iloadN X0.here hx rfl (hb hby d4_9) rfl ?_
    show Steps p.tables e below (s₁.setTop (mkF m 10 #[.val (.ref a1), .val (.int (1 : Int32))] [(.int (1 : Int32))])) t
    refine XS.iconst X0.here hx rfl (hb hby d4_10) ?_
    show Steps p.tables e below (s₁.setTop (mkF m 11 #[.val (.ref a1), .val (.int (1 : Int32))] [(.int (1 : Int32)), (.int (1 : Int32))])) t
    refine XS.icmpNo X0.here hx rfl (hb hby d4_11) rfl (teq (by decide : (1 : Int32) = (1 : Int32))).2 ?_
    show Steps p.tables e below (s₁.setTop (mkF m 14 #[.val (.ref a1), .val (.int (1 : Int32))] [])) t
    refine XS.aloadN X0.here hx rfl (hb hby d4_14) rfl rfl ?_
    show Steps p.tables e below (s₁.setTop (mkF m 15 #[.val (.ref a1), .val (.int (1 : Int32))] [(.ref a1)])) t
    refine st101 _ ?_
    show Steps p.tables e below (T101.setTop (mkF m 18 #[.val (.ref a1), .val (.int (1 : Int32))] [(.int ar)])) t
    refine XS.iconst X101.here hx rfl (hb hby d4_18) ?_
    show Steps p.tables e below (T101.setTop (mkF m 19 #[.val (.ref a1), .val (.int (1 : Int32))] [(.int (1 : Int32)), (.int ar)])) t
    refine XS.icmpNo X101.here hx rfl (hb hby d4_19) rfl (tlt har).2.2.2 ?_
    show Steps p.tables e below (T101.setTop (mkF m 22 #[.val (.ref a1), .val (.int (1 : Int32))] [])) t
    refine XS.aloadN X101.here hx rfl (hb hby d4_22) rfl rfl ?_
    show Steps p.tables e below (T101.setTop (mkF m 23 #[.val (.ref a1), .val (.int (1 : Int32))] [(.ref a1)])) t
    refine st102 _ ?_
    exact k)
  obtain ⟨fs, hr, hrun, hended, hW, hsame⟩ := X102.leave (v := some f1) (fun h => by rw [Bd.returns] at h; cases h)
  refine ⟨_, _, pre103 _ ?_, hrun, hended, _, _, rfl, ?_, ⟨_, rfl⟩, hW, hsame.mono (by decide) (by decide)⟩
  · exact retOut X102 hx Bd.returns (own_nr hR) (Or.inr (Or.inr (Or.inr (Or.inr ⟨rfl, rfl, hR⟩)))) (hb hby d4_26) hr
  · show Q4_1 Z a1 f1 ar h0 n0 _ T102.heap _
    rw [e102]
    exact ⟨rfl, N0, rfl⟩
theorem ef_rm4_2_3 (m : MethodId) (x0 : Addr) : entryFrame m #[(.ref x0), (.int (2 : Int32))] 2 = mkF m 0 #[.val (.ref x0), .val (.int (2 : Int32))] [] := by first | (simp [entryFrame, mkF, argsToLocals, Value.category]; done) | rfl
def Q4_2_3 (Z : State) (a1 : Addr) (r : Addr) (kR : ClassId) (g0 : Value) (h0 : Heap) (n0 : Nat) (v : Option Value) (h : Heap) (L : List Loc) : Prop := v = some g0 ∧ Fr n0 L ∧ h = h0
set_option maxRecDepth 65536 in
set_option maxHeartbeats 40000000 in
theorem rm4_2_3 (l : Launch) (Z : State) (a0 : Array Value) (hw : ∀ d ∈ tables_1, d.before a0 Z = true) (ws : List Jvm.Cond) (a1 : Addr) (r : Addr) (kR : ClassId) (g0 : Value) (h0 : Heap) (n0 : Nat) (Z0 : n0 ≤ h0.size) (F3 : Fld Z h0 a1 "com/example/libsld/libsld/Struct" "rest" "[Lcom/example/libsld/libsld/Term;" (.ref r)) (V1 : Arv Z h0 r kR (.object "com/example/libsld/libsld/Term") (1 : Int32) [g0] .null) (hR : g0.isRef = true) :
    MetFree l (⟨"com/example/libsld/libsld/Struct", "arg", "(I)Lcom/example/libsld/libsld/Term;"⟩ : MethodName) (head1 (Jvm.Cond.code (⟨"com/example/libsld/libsld/Struct", "arg", "(I)Lcom/example/libsld/libsld/Term;"⟩ : MethodName) prog_116_method_7_code 2 (some (.object "com/example/libsld/libsld/Term")) :: ws) ({ frames := 0, cells := 0, slots := 0, locals := 0 } : Room)) (fun a U => a = #[(.ref a1), (.int (2 : Int32))] ∧ Z.Warmed39 U.vm ∧ U.heap = h0) (fun _ _ _ _ _ => True) (fun _ U o U' => ∃ v L, o = .returned v ∧ Q4_2_3 Z a1 r kR g0 h0 n0 v U'.heap L ∧ FrameEnd U o U' L ({ frames := 0, cells := 0, slots := 0, locals := 0 } : Room).cells ({ frames := 0, cells := 0, slots := 0, locals := 0 } : Room).slots) := by
  refine MetFree.of_bodySF (plainFor_of_name pn_com_example_libsld_libsld_Struct) hisR ?_
  intro p e s m args below meth c s₁ Bd hml0 hP hK
  obtain ⟨rfl, hZ, hh⟩ := hP
  have hx := Bd.exec
  have hby := Bd.bytes
  have hml : c.maxLocals = 2 := hml0
  have hown : s.vm.findClass "com/example/libsld/libsld/Struct" = some m.cls := findClass_of_methodNamed Bd.named
  have hnm := (name_of_methodNamed Bd.named Bd.method).1
  have X0 : Stand p l e ({ frames := 0, cells := 0, slots := 0, locals := 0 } : Room) s m #[(.ref a1), (.int (2 : Int32))] below meth c s₁ [] 0 0 := Stand.of_body Bd
  have e0 : s₁.heap = h0 := by rw [← hh, Bd.state]; rfl
  have N0 := Fr.nil n0
  have pre0 : ∀ t, Steps p.tables e below (s₁.setTop (mkF m 0 #[.val (.ref a1), .val (.int (2 : Int32))] [])) t → Steps p.tables e below (s₁.setTop (entryFrame m #[(.ref a1), (.int (2 : Int32))] 2)) t := fun t k => castTop (ef_rm4_2_3 m a1) k
  obtain ⟨T101, X101, e101, st101⟩ := getF X0 hx hZ hown (host := "") (Or.inl (own_i hw 35 rfl)) Via.refl e0 F3 (g := (mkF m 28 #[.val (.ref a1), .val (.int (2 : Int32))] [(.ref a1)])) rfl rfl (hb hby d4_28)
  obtain ⟨cl102, Ar102, q102, S102, N102z, H102, G102⟩ := (id V1)
  have hin102 : ¬ ((0 : Int32) < 0 ∨ cl102.slots.size ≤ ((0 : Int32)).toNatClampNeg) := inb_of S102 ⟨by decide, by decide⟩
  have hat102 : cl102.slots[((0 : Int32)).toNatClampNeg]? = some g0 := Has.at H102 hin102 rfl
  have pre103 : ∀ t, Steps p.tables e below (T101.setTop (mkF m 35 #[.val (.ref a1), .val (.int (2 : Int32))] [g0])) t → Steps p.tables e below (s₁.setTop (entryFrame m #[(.ref a1), (.int (2 : Int32))] 2)) t := fun t k => pre0 t (by
    show Steps p.tables e below (s₁.setTop (mkF m 0 #[.val (.ref a1), .val (.int (2 : Int32))] [])) t
    refine XS.iloadN X0.here hx rfl (hb hby d4_0) rfl ?_
    show Steps p.tables e below (s₁.setTop (mkF m 1 #[.val (.ref a1), .val (.int (2 : Int32))] [(.int (2 : Int32))])) t
    refine XS.ifYes X0.here hx rfl (pc0 := 1) (pc' := 9) rfl (hb hby d4_1) rfl ((if0 _ _).trans (feq (by decide : ¬ ((2 : Int32) = (0 : Int32)))).2) (by decide) (by decide) ?_
    show Steps p.tables e below (s₁.setTop (mkF m 9 #[.val (.ref a1), .val (.int (2 : Int32))] [])) t
    refine XS.iloadN X0.here hx rfl (hb hby d4_9) rfl ?_
    show Steps p.tables e below (s₁.setTop (mkF m 10 #[.val (.ref a1), .val (.int (2 : Int32))] [(.int (2 : Int32))])) t
    refine XS.iconst X0.here hx rfl (hb hby d4_10) ?_
    show Steps p.tables e below (s₁.setTop (mkF m 11 #[.val (.ref a1), .val (.int (2 : Int32))] [(.int (1 : Int32)), (.int (2 : Int32))])) t
    refine XS.icmpYes X0.here hx rfl (pc0 := 11) (pc' := 27) rfl (hb hby d4_11) rfl (feq (by decide : ¬ ((2 : Int32) = (1 : Int32)))).2 (by decide) (by decide) ?_
    show Steps p.tables e below (s₁.setTop (mkF m 27 #[.val (.ref a1), .val (.int (2 : Int32))] [])) t
    refine XS.aloadN X0.here hx rfl (hb hby d4_27) rfl rfl ?_
    show Steps p.tables e below (s₁.setTop (mkF m 28 #[.val (.ref a1), .val (.int (2 : Int32))] [(.ref a1)])) t
    refine st101 _ ?_
    show Steps p.tables e below (T101.setTop (mkF m 31 #[.val (.ref a1), .val (.int (2 : Int32))] [(.ref r)])) t
    refine XS.iloadN X101.here hx rfl (hb hby d4_31) rfl ?_
    show Steps p.tables e below (T101.setTop (mkF m 32 #[.val (.ref a1), .val (.int (2 : Int32))] [(.int (2 : Int32)), (.ref r)])) t
    refine XS.iconst X101.here hx rfl (hb hby d4_32) ?_
    show Steps p.tables e below (T101.setTop (mkF m 33 #[.val (.ref a1), .val (.int (2 : Int32))] [(.int (2 : Int32)), (.int (2 : Int32)), (.ref r)])) t
    refine XS.isub X101.here hx rfl (hb hby d4_33) rfl ?_
    show Steps p.tables e below (T101.setTop (mkF m 34 #[.val (.ref a1), .val (.int (2 : Int32))] [(.int (0 : Int32)), (.ref r)])) t
    refine X101.aaload hx (j := (0 : Int32)) (v := g0) (by rw [e101]; exact Ar102.1) (State.isArrayOf_alike hZ.alike Ar102.2.1) rfl Ar102.2.2 hin102 hat102 (g := (mkF m 34 #[.val (.ref a1), .val (.int (2 : Int32))] [(.int (0 : Int32)), (.ref r)])) rfl rfl (hb hby d4_34) _ ?_
    exact k)
  obtain ⟨fs, hr, hrun, hended, hW, hsame⟩ := X101.leave (v := some g0) (fun h => by rw [Bd.returns] at h; cases h)
  refine ⟨_, _, pre103 _ ?_, hrun, hended, _, _, rfl, ?_, ⟨_, rfl⟩, hW, hsame.mono (by decide) (by decide)⟩
  · exact retOut X101 hx Bd.returns (own_nr hR) (Or.inr (Or.inr (Or.inr (Or.inr ⟨rfl, rfl, hR⟩)))) (hb hby d4_35) hr
  · show Q4_2_3 Z a1 r kR g0 h0 n0 _ T101.heap _
    rw [e101]
    exact ⟨rfl, N0, rfl⟩
theorem ef_rm4_2_4 (m : MethodId) (x0 : Addr) : entryFrame m #[(.ref x0), (.int (2 : Int32))] 2 = mkF m 0 #[.val (.ref x0), .val (.int (2 : Int32))] [] := by first | (simp [entryFrame, mkF, argsToLocals, Value.category]; done) | rfl
def Q4_2_4 (Z : State) (a1 : Addr) (r : Addr) (kR : ClassId) (g0 : Value) (g1 : Value) (h0 : Heap) (n0 : Nat) (v : Option Value) (h : Heap) (L : List Loc) : Prop := v = some g0 ∧ Fr n0 L ∧ h = h0
set_option maxRecDepth 65536 in
set_option maxHeartbeats 40000000 in
theorem rm4_2_4 (l : Launch) (Z : State) (a0 : Array Value) (hw : ∀ d ∈ tables_1, d.before a0 Z = true) (ws : List Jvm.Cond) (a1 : Addr) (r : Addr) (kR : ClassId) (g0 : Value) (g1 : Value) (h0 : Heap) (n0 : Nat) (Z0 : n0 ≤ h0.size) (F3 : Fld Z h0 a1 "com/example/libsld/libsld/Struct" "rest" "[Lcom/example/libsld/libsld/Term;" (.ref r)) (V1 : Arv Z h0 r kR (.object "com/example/libsld/libsld/Term") (2 : Int32) [g0, g1] .null) (hR : g0.isRef = true) :
    MetFree l (⟨"com/example/libsld/libsld/Struct", "arg", "(I)Lcom/example/libsld/libsld/Term;"⟩ : MethodName) (head1 (Jvm.Cond.code (⟨"com/example/libsld/libsld/Struct", "arg", "(I)Lcom/example/libsld/libsld/Term;"⟩ : MethodName) prog_116_method_7_code 2 (some (.object "com/example/libsld/libsld/Term")) :: ws) ({ frames := 0, cells := 0, slots := 0, locals := 0 } : Room)) (fun a U => a = #[(.ref a1), (.int (2 : Int32))] ∧ Z.Warmed39 U.vm ∧ U.heap = h0) (fun _ _ _ _ _ => True) (fun _ U o U' => ∃ v L, o = .returned v ∧ Q4_2_4 Z a1 r kR g0 g1 h0 n0 v U'.heap L ∧ FrameEnd U o U' L ({ frames := 0, cells := 0, slots := 0, locals := 0 } : Room).cells ({ frames := 0, cells := 0, slots := 0, locals := 0 } : Room).slots) := by
  refine MetFree.of_bodySF (plainFor_of_name pn_com_example_libsld_libsld_Struct) hisR ?_
  intro p e s m args below meth c s₁ Bd hml0 hP hK
  obtain ⟨rfl, hZ, hh⟩ := hP
  have hx := Bd.exec
  have hby := Bd.bytes
  have hml : c.maxLocals = 2 := hml0
  have hown : s.vm.findClass "com/example/libsld/libsld/Struct" = some m.cls := findClass_of_methodNamed Bd.named
  have hnm := (name_of_methodNamed Bd.named Bd.method).1
  have X0 : Stand p l e ({ frames := 0, cells := 0, slots := 0, locals := 0 } : Room) s m #[(.ref a1), (.int (2 : Int32))] below meth c s₁ [] 0 0 := Stand.of_body Bd
  have e0 : s₁.heap = h0 := by rw [← hh, Bd.state]; rfl
  have N0 := Fr.nil n0
  have pre0 : ∀ t, Steps p.tables e below (s₁.setTop (mkF m 0 #[.val (.ref a1), .val (.int (2 : Int32))] [])) t → Steps p.tables e below (s₁.setTop (entryFrame m #[(.ref a1), (.int (2 : Int32))] 2)) t := fun t k => castTop (ef_rm4_2_4 m a1) k
  obtain ⟨T101, X101, e101, st101⟩ := getF X0 hx hZ hown (host := "") (Or.inl (own_i hw 35 rfl)) Via.refl e0 F3 (g := (mkF m 28 #[.val (.ref a1), .val (.int (2 : Int32))] [(.ref a1)])) rfl rfl (hb hby d4_28)
  obtain ⟨cl102, Ar102, q102, S102, N102z, H102, G102⟩ := (id V1)
  have hin102 : ¬ ((0 : Int32) < 0 ∨ cl102.slots.size ≤ ((0 : Int32)).toNatClampNeg) := inb_of S102 ⟨by decide, by decide⟩
  have hat102 : cl102.slots[((0 : Int32)).toNatClampNeg]? = some g0 := Has.at H102 hin102 rfl
  have pre103 : ∀ t, Steps p.tables e below (T101.setTop (mkF m 35 #[.val (.ref a1), .val (.int (2 : Int32))] [g0])) t → Steps p.tables e below (s₁.setTop (entryFrame m #[(.ref a1), (.int (2 : Int32))] 2)) t := fun t k => pre0 t (by
    show Steps p.tables e below (s₁.setTop (mkF m 0 #[.val (.ref a1), .val (.int (2 : Int32))] [])) t
    refine XS.iloadN X0.here hx rfl (hb hby d4_0) rfl ?_
    show Steps p.tables e below (s₁.setTop (mkF m 1 #[.val (.ref a1), .val (.int (2 : Int32))] [(.int (2 : Int32))])) t
    refine XS.ifYes X0.here hx rfl (pc0 := 1) (pc' := 9) rfl (hb hby d4_1) rfl ((if0 _ _).trans (feq (by decide : ¬ ((2 : Int32) = (0 : Int32)))).2) (by decide) (by decide) ?_
    show Steps p.tables e below (s₁.setTop (mkF m 9 #[.val (.ref a1), .val (.int (2 : Int32))] [])) t
    refine XS.iloadN X0.here hx rfl (hb hby d4_9) rfl ?_
    show Steps p.tables e below (s₁.setTop (mkF m 10 #[.val (.ref a1), .val (.int (2 : Int32))] [(.int (2 : Int32))])) t
    refine XS.iconst X0.here hx rfl (hb hby d4_10) ?_
    show Steps p.tables e below (s₁.setTop (mkF m 11 #[.val (.ref a1), .val (.int (2 : Int32))] [(.int (1 : Int32)), (.int (2 : Int32))])) t
    refine XS.icmpYes X0.here hx rfl (pc0 := 11) (pc' := 27) rfl (hb hby d4_11) rfl (feq (by decide : ¬ ((2 : Int32) = (1 : Int32)))).2 (by decide) (by decide) ?_
    show Steps p.tables e below (s₁.setTop (mkF m 27 #[.val (.ref a1), .val (.int (2 : Int32))] [])) t
    refine XS.aloadN X0.here hx rfl (hb hby d4_27) rfl rfl ?_
    show Steps p.tables e below (s₁.setTop (mkF m 28 #[.val (.ref a1), .val (.int (2 : Int32))] [(.ref a1)])) t
    refine st101 _ ?_
    show Steps p.tables e below (T101.setTop (mkF m 31 #[.val (.ref a1), .val (.int (2 : Int32))] [(.ref r)])) t
    refine XS.iloadN X101.here hx rfl (hb hby d4_31) rfl ?_
    show Steps p.tables e below (T101.setTop (mkF m 32 #[.val (.ref a1), .val (.int (2 : Int32))] [(.int (2 : Int32)), (.ref r)])) t
    refine XS.iconst X101.here hx rfl (hb hby d4_32) ?_
    show Steps p.tables e below (T101.setTop (mkF m 33 #[.val (.ref a1), .val (.int (2 : Int32))] [(.int (2 : Int32)), (.int (2 : Int32)), (.ref r)])) t
    refine XS.isub X101.here hx rfl (hb hby d4_33) rfl ?_
    show Steps p.tables e below (T101.setTop (mkF m 34 #[.val (.ref a1), .val (.int (2 : Int32))] [(.int (0 : Int32)), (.ref r)])) t
    refine X101.aaload hx (j := (0 : Int32)) (v := g0) (by rw [e101]; exact Ar102.1) (State.isArrayOf_alike hZ.alike Ar102.2.1) rfl Ar102.2.2 hin102 hat102 (g := (mkF m 34 #[.val (.ref a1), .val (.int (2 : Int32))] [(.int (0 : Int32)), (.ref r)])) rfl rfl (hb hby d4_34) _ ?_
    exact k)
  obtain ⟨fs, hr, hrun, hended, hW, hsame⟩ := X101.leave (v := some g0) (fun h => by rw [Bd.returns] at h; cases h)
  refine ⟨_, _, pre103 _ ?_, hrun, hended, _, _, rfl, ?_, ⟨_, rfl⟩, hW, hsame.mono (by decide) (by decide)⟩
  · exact retOut X101 hx Bd.returns (own_nr hR) (Or.inr (Or.inr (Or.inr (Or.inr ⟨rfl, rfl, hR⟩)))) (hb hby d4_35) hr
  · show Q4_2_4 Z a1 r kR g0 g1 h0 n0 _ T101.heap _
    rw [e101]
    exact ⟨rfl, N0, rfl⟩
theorem ef_rm4_3_4 (m : MethodId) (x0 : Addr) : entryFrame m #[(.ref x0), (.int (3 : Int32))] 2 = mkF m 0 #[.val (.ref x0), .val (.int (3 : Int32))] [] := by first | (simp [entryFrame, mkF, argsToLocals, Value.category]; done) | rfl
def Q4_3_4 (Z : State) (a1 : Addr) (r : Addr) (kR : ClassId) (g0 : Value) (g1 : Value) (h0 : Heap) (n0 : Nat) (v : Option Value) (h : Heap) (L : List Loc) : Prop := v = some g1 ∧ Fr n0 L ∧ h = h0
set_option maxRecDepth 65536 in
set_option maxHeartbeats 40000000 in
theorem rm4_3_4 (l : Launch) (Z : State) (a0 : Array Value) (hw : ∀ d ∈ tables_1, d.before a0 Z = true) (ws : List Jvm.Cond) (a1 : Addr) (r : Addr) (kR : ClassId) (g0 : Value) (g1 : Value) (h0 : Heap) (n0 : Nat) (Z0 : n0 ≤ h0.size) (F3 : Fld Z h0 a1 "com/example/libsld/libsld/Struct" "rest" "[Lcom/example/libsld/libsld/Term;" (.ref r)) (V1 : Arv Z h0 r kR (.object "com/example/libsld/libsld/Term") (2 : Int32) [g0, g1] .null) (hR : g1.isRef = true) :
    MetFree l (⟨"com/example/libsld/libsld/Struct", "arg", "(I)Lcom/example/libsld/libsld/Term;"⟩ : MethodName) (head1 (Jvm.Cond.code (⟨"com/example/libsld/libsld/Struct", "arg", "(I)Lcom/example/libsld/libsld/Term;"⟩ : MethodName) prog_116_method_7_code 2 (some (.object "com/example/libsld/libsld/Term")) :: ws) ({ frames := 0, cells := 0, slots := 0, locals := 0 } : Room)) (fun a U => a = #[(.ref a1), (.int (3 : Int32))] ∧ Z.Warmed39 U.vm ∧ U.heap = h0) (fun _ _ _ _ _ => True) (fun _ U o U' => ∃ v L, o = .returned v ∧ Q4_3_4 Z a1 r kR g0 g1 h0 n0 v U'.heap L ∧ FrameEnd U o U' L ({ frames := 0, cells := 0, slots := 0, locals := 0 } : Room).cells ({ frames := 0, cells := 0, slots := 0, locals := 0 } : Room).slots) := by
  refine MetFree.of_bodySF (plainFor_of_name pn_com_example_libsld_libsld_Struct) hisR ?_
  intro p e s m args below meth c s₁ Bd hml0 hP hK
  obtain ⟨rfl, hZ, hh⟩ := hP
  have hx := Bd.exec
  have hby := Bd.bytes
  have hml : c.maxLocals = 2 := hml0
  have hown : s.vm.findClass "com/example/libsld/libsld/Struct" = some m.cls := findClass_of_methodNamed Bd.named
  have hnm := (name_of_methodNamed Bd.named Bd.method).1
  have X0 : Stand p l e ({ frames := 0, cells := 0, slots := 0, locals := 0 } : Room) s m #[(.ref a1), (.int (3 : Int32))] below meth c s₁ [] 0 0 := Stand.of_body Bd
  have e0 : s₁.heap = h0 := by rw [← hh, Bd.state]; rfl
  have N0 := Fr.nil n0
  have pre0 : ∀ t, Steps p.tables e below (s₁.setTop (mkF m 0 #[.val (.ref a1), .val (.int (3 : Int32))] [])) t → Steps p.tables e below (s₁.setTop (entryFrame m #[(.ref a1), (.int (3 : Int32))] 2)) t := fun t k => castTop (ef_rm4_3_4 m a1) k
  obtain ⟨T101, X101, e101, st101⟩ := getF X0 hx hZ hown (host := "") (Or.inl (own_i hw 35 rfl)) Via.refl e0 F3 (g := (mkF m 28 #[.val (.ref a1), .val (.int (3 : Int32))] [(.ref a1)])) rfl rfl (hb hby d4_28)
  obtain ⟨cl102, Ar102, q102, S102, N102z, H102, G102⟩ := (id V1)
  have hin102 : ¬ ((1 : Int32) < 0 ∨ cl102.slots.size ≤ ((1 : Int32)).toNatClampNeg) := inb_of S102 ⟨by decide, by decide⟩
  have hat102 : cl102.slots[((1 : Int32)).toNatClampNeg]? = some g1 := Has.at H102 hin102 rfl
  have pre103 : ∀ t, Steps p.tables e below (T101.setTop (mkF m 35 #[.val (.ref a1), .val (.int (3 : Int32))] [g1])) t → Steps p.tables e below (s₁.setTop (entryFrame m #[(.ref a1), (.int (3 : Int32))] 2)) t := fun t k => pre0 t (by
    show Steps p.tables e below (s₁.setTop (mkF m 0 #[.val (.ref a1), .val (.int (3 : Int32))] [])) t
    refine XS.iloadN X0.here hx rfl (hb hby d4_0) rfl ?_
    show Steps p.tables e below (s₁.setTop (mkF m 1 #[.val (.ref a1), .val (.int (3 : Int32))] [(.int (3 : Int32))])) t
    refine XS.ifYes X0.here hx rfl (pc0 := 1) (pc' := 9) rfl (hb hby d4_1) rfl ((if0 _ _).trans (feq (by decide : ¬ ((3 : Int32) = (0 : Int32)))).2) (by decide) (by decide) ?_
    show Steps p.tables e below (s₁.setTop (mkF m 9 #[.val (.ref a1), .val (.int (3 : Int32))] [])) t
    refine XS.iloadN X0.here hx rfl (hb hby d4_9) rfl ?_
    show Steps p.tables e below (s₁.setTop (mkF m 10 #[.val (.ref a1), .val (.int (3 : Int32))] [(.int (3 : Int32))])) t
    refine XS.iconst X0.here hx rfl (hb hby d4_10) ?_
    show Steps p.tables e below (s₁.setTop (mkF m 11 #[.val (.ref a1), .val (.int (3 : Int32))] [(.int (1 : Int32)), (.int (3 : Int32))])) t
    refine XS.icmpYes X0.here hx rfl (pc0 := 11) (pc' := 27) rfl (hb hby d4_11) rfl (feq (by decide : ¬ ((3 : Int32) = (1 : Int32)))).2 (by decide) (by decide) ?_
    show Steps p.tables e below (s₁.setTop (mkF m 27 #[.val (.ref a1), .val (.int (3 : Int32))] [])) t
    refine XS.aloadN X0.here hx rfl (hb hby d4_27) rfl rfl ?_
    show Steps p.tables e below (s₁.setTop (mkF m 28 #[.val (.ref a1), .val (.int (3 : Int32))] [(.ref a1)])) t
    refine st101 _ ?_
    show Steps p.tables e below (T101.setTop (mkF m 31 #[.val (.ref a1), .val (.int (3 : Int32))] [(.ref r)])) t
    refine XS.iloadN X101.here hx rfl (hb hby d4_31) rfl ?_
    show Steps p.tables e below (T101.setTop (mkF m 32 #[.val (.ref a1), .val (.int (3 : Int32))] [(.int (3 : Int32)), (.ref r)])) t
    refine XS.iconst X101.here hx rfl (hb hby d4_32) ?_
    show Steps p.tables e below (T101.setTop (mkF m 33 #[.val (.ref a1), .val (.int (3 : Int32))] [(.int (2 : Int32)), (.int (3 : Int32)), (.ref r)])) t
    refine XS.isub X101.here hx rfl (hb hby d4_33) rfl ?_
    show Steps p.tables e below (T101.setTop (mkF m 34 #[.val (.ref a1), .val (.int (3 : Int32))] [(.int (1 : Int32)), (.ref r)])) t
    refine X101.aaload hx (j := (1 : Int32)) (v := g1) (by rw [e101]; exact Ar102.1) (State.isArrayOf_alike hZ.alike Ar102.2.1) rfl Ar102.2.2 hin102 hat102 (g := (mkF m 34 #[.val (.ref a1), .val (.int (3 : Int32))] [(.int (1 : Int32)), (.ref r)])) rfl rfl (hb hby d4_34) _ ?_
    exact k)
  obtain ⟨fs, hr, hrun, hended, hW, hsame⟩ := X101.leave (v := some g1) (fun h => by rw [Bd.returns] at h; cases h)
  refine ⟨_, _, pre103 _ ?_, hrun, hended, _, _, rfl, ?_, ⟨_, rfl⟩, hW, hsame.mono (by decide) (by decide)⟩
  · exact retOut X101 hx Bd.returns (own_nr hR) (Or.inr (Or.inr (Or.inr (Or.inr ⟨rfl, rfl, hR⟩)))) (hb hby d4_35) hr
  · show Q4_3_4 Z a1 r kR g0 g1 h0 n0 _ T101.heap _
    rw [e101]
    exact ⟨rfl, N0, rfl⟩
theorem own_and3 (x : Int32) : x &&& (3 : Int32) = (0 : Int32) ∨ x &&& (3 : Int32) = (1 : Int32) ∨ x &&& (3 : Int32) = (2 : Int32) ∨ x &&& (3 : Int32) = (3 : Int32) := by
  have h : (x &&& 3).toInt = 0 ∨ (x &&& 3).toInt = 1 ∨ (x &&& 3).toInt = 2 ∨ (x &&& 3).toInt = 3 := by
    have e : (x &&& 3).toInt = x.toInt % 2 ^ 2 := Jvm.Kit.i32_mask x 3 (k := 2) (by decide) (by decide)
    omega
  have q : ∀ k : Int32, (x &&& 3).toInt = k.toInt → x &&& 3 = k := fun k hk => Int32.toInt_inj.mp hk
  rcases h with h | h | h | h
  · exact Or.inl (q 0 h)
  · exact Or.inr (Or.inl (q 1 h))
  · exact Or.inr (Or.inr (Or.inl (q 2 h)))
  · exact Or.inr (Or.inr (Or.inr (q 3 h)))
theorem own_rem1 (x : Int32) : ((x &&& (2147483647 : Int32)) % (1 : Int32)) = (0 : Int32) := by
  have e : (x &&& (2147483647 : Int32)).toInt = x.toInt % 2 ^ 31 := Jvm.Kit.i32_mask x 2147483647 (k := 31) (by decide) (by decide)
  have e2 : ((x &&& (2147483647 : Int32)) % (1 : Int32)).toInt = (x &&& (2147483647 : Int32)).toInt % (1 : Int32).toInt := Jvm.Kit.i32_rem_nonneg (by omega)
  have e3 : (1 : Int32).toInt = 1 := rfl
  rw [e3] at e2
  have q : ∀ k : Int32, ((x &&& (2147483647 : Int32)) % (1 : Int32)).toInt = k.toInt → ((x &&& (2147483647 : Int32)) % (1 : Int32)) = k := fun k hk => Int32.toInt_inj.mp hk
  have h : ((x &&& (2147483647 : Int32)) % (1 : Int32)).toInt = 0 := by omega
  rcases h with h
  · exact (q 0 h)
theorem own_rem2 (x : Int32) : ((x &&& (2147483647 : Int32)) % (2 : Int32)) = (0 : Int32) ∨ ((x &&& (2147483647 : Int32)) % (2 : Int32)) = (1 : Int32) := by
  have e : (x &&& (2147483647 : Int32)).toInt = x.toInt % 2 ^ 31 := Jvm.Kit.i32_mask x 2147483647 (k := 31) (by decide) (by decide)
  have e2 : ((x &&& (2147483647 : Int32)) % (2 : Int32)).toInt = (x &&& (2147483647 : Int32)).toInt % (2 : Int32).toInt := Jvm.Kit.i32_rem_nonneg (by omega)
  have e3 : (2 : Int32).toInt = 2 := rfl
  rw [e3] at e2
  have q : ∀ k : Int32, ((x &&& (2147483647 : Int32)) % (2 : Int32)).toInt = k.toInt → ((x &&& (2147483647 : Int32)) % (2 : Int32)) = k := fun k hk => Int32.toInt_inj.mp hk
  have h : ((x &&& (2147483647 : Int32)) % (2 : Int32)).toInt = 0 ∨ ((x &&& (2147483647 : Int32)) % (2 : Int32)).toInt = 1 := by omega
  rcases h with h | h
  · exact Or.inl (q 0 h)
  · exact Or.inr ((q 1 h))
theorem own_rem3 (x : Int32) : ((x &&& (2147483647 : Int32)) % (3 : Int32)) = (0 : Int32) ∨ ((x &&& (2147483647 : Int32)) % (3 : Int32)) = (1 : Int32) ∨ ((x &&& (2147483647 : Int32)) % (3 : Int32)) = (2 : Int32) := by
  have e : (x &&& (2147483647 : Int32)).toInt = x.toInt % 2 ^ 31 := Jvm.Kit.i32_mask x 2147483647 (k := 31) (by decide) (by decide)
  have e2 : ((x &&& (2147483647 : Int32)) % (3 : Int32)).toInt = (x &&& (2147483647 : Int32)).toInt % (3 : Int32).toInt := Jvm.Kit.i32_rem_nonneg (by omega)
  have e3 : (3 : Int32).toInt = 3 := rfl
  rw [e3] at e2
  have q : ∀ k : Int32, ((x &&& (2147483647 : Int32)) % (3 : Int32)).toInt = k.toInt → ((x &&& (2147483647 : Int32)) % (3 : Int32)) = k := fun k hk => Int32.toInt_inj.mp hk
  have h : ((x &&& (2147483647 : Int32)) % (3 : Int32)).toInt = 0 ∨ ((x &&& (2147483647 : Int32)) % (3 : Int32)).toInt = 1 ∨ ((x &&& (2147483647 : Int32)) % (3 : Int32)).toInt = 2 := by omega
  rcases h with h | h | h
  · exact Or.inl (q 0 h)
  · exact Or.inr (Or.inl (q 1 h))
  · exact Or.inr (Or.inr ((q 2 h)))
theorem own_rem4 (x : Int32) : ((x &&& (2147483647 : Int32)) % (4 : Int32)) = (0 : Int32) ∨ ((x &&& (2147483647 : Int32)) % (4 : Int32)) = (1 : Int32) ∨ ((x &&& (2147483647 : Int32)) % (4 : Int32)) = (2 : Int32) ∨ ((x &&& (2147483647 : Int32)) % (4 : Int32)) = (3 : Int32) := by
  have e : (x &&& (2147483647 : Int32)).toInt = x.toInt % 2 ^ 31 := Jvm.Kit.i32_mask x 2147483647 (k := 31) (by decide) (by decide)
  have e2 : ((x &&& (2147483647 : Int32)) % (4 : Int32)).toInt = (x &&& (2147483647 : Int32)).toInt % (4 : Int32).toInt := Jvm.Kit.i32_rem_nonneg (by omega)
  have e3 : (4 : Int32).toInt = 4 := rfl
  rw [e3] at e2
  have q : ∀ k : Int32, ((x &&& (2147483647 : Int32)) % (4 : Int32)).toInt = k.toInt → ((x &&& (2147483647 : Int32)) % (4 : Int32)) = k := fun k hk => Int32.toInt_inj.mp hk
  have h : ((x &&& (2147483647 : Int32)) % (4 : Int32)).toInt = 0 ∨ ((x &&& (2147483647 : Int32)) % (4 : Int32)).toInt = 1 ∨ ((x &&& (2147483647 : Int32)) % (4 : Int32)).toInt = 2 ∨ ((x &&& (2147483647 : Int32)) % (4 : Int32)).toInt = 3 := by omega
  rcases h with h | h | h | h
  · exact Or.inl (q 0 h)
  · exact Or.inr (Or.inl (q 1 h))
  · exact Or.inr (Or.inr (Or.inl (q 2 h)))
  · exact Or.inr (Or.inr (Or.inr ((q 3 h))))
theorem pn_com_example_libsld_libsld_StructArgPinLaw : plainName "com/example/libsld/libsld/StructArgPinLaw" = true := by first | (simp [plainName, overriddenIn]; done) | decide +kernel
theorem pd_0 : parseMethodDescriptor "(J)V" = some ⟨[.long], none⟩ := by decide +kernel
theorem pd_1 : parseMethodDescriptor "(Ljava/lang/String;I)V" = some ⟨[(.object "java/lang/String"), .int], none⟩ := by decide +kernel
theorem pd_2 : parseMethodDescriptor "(ILcom/example/libsld/libsld/Term;)V" = some ⟨[.int, (.object "com/example/libsld/libsld/Term")], none⟩ := by decide +kernel
theorem pd_3 : parseMethodDescriptor "(I)Lcom/example/libsld/libsld/Term;" = some ⟨[.int], some (.object "com/example/libsld/libsld/Term")⟩ := by decide +kernel
theorem ef_rm0 (m : MethodId) (x0 : Int32) (x1 : Int32) (x2 : Int32) : entryFrame m #[(.int x0), (.int x1), (.int x2)] maxLocals = mkF m 0 #[.val (.int x0), .val (.int x1), .val (.int x2), .unset, .unset, .unset, .unset, .unset, .unset, .unset, .unset] [] := by first | (simp [entryFrame, mkF, argsToLocals, Value.category, maxLocals]; done) | rfl
def Q0 (Z : State) (p1 : Int32) (p2 : Int32) (p3 : Int32) (h0 : Heap) (n0 : Nat) (v : Option Value) (h : Heap) (L : List Loc) : Prop := v = some (.int 1) ∧ Fr n0 L
set_option maxRecDepth 65536 in
set_option maxHeartbeats 40000000 in
theorem rm0 (l : Launch) (Z : State) (a0 : Array Value) (hw : ∀ d ∈ tables_1, d.before a0 Z = true) (ws : List Jvm.Cond) (p1 : Int32) (p2 : Int32) (p3 : Int32) (h0 : Heap) (n0 : Nat) (Z0 : n0 ≤ h0.size) :
    MetFree l x (head1 (Jvm.Cond.code x code maxLocals ret :: ws) room_1) (fun a U => a = #[(.int p1), (.int p2), (.int p3)] ∧ Z.Warmed39 U.vm ∧ U.heap = h0) (fun _ _ _ _ _ => True) (fun _ U o U' => ∃ v L, o = .returned v ∧ Q0 Z p1 p2 p3 h0 n0 v U'.heap L ∧ ReturnedEndW U o U' L 9 27) := by
  refine MetFree.of_bodySF (plainFor_of_name pn_com_example_libsld_libsld_StructArgPinLaw) hisR ?_
  intro p e s m args below meth c s₁ Bd hml0 hP hK
  obtain ⟨rfl, hZ, hh⟩ := hP
  have hx := Bd.exec
  have hby := Bd.bytes
  have hml : c.maxLocals = 11 := hml0
  have hown : s.vm.findClass "com/example/libsld/libsld/StructArgPinLaw" = some m.cls := findClass_of_methodNamed Bd.named
  have hnm := (name_of_methodNamed Bd.named Bd.method).1
  have X0 : Stand p l e room_1 s m #[(.int p1), (.int p2), (.int p3)] below meth c s₁ [] 0 0 := Stand.of_body Bd
  have e0 : s₁.heap = h0 := by rw [← hh, Bd.state]; rfl
  have N0 := Fr.nil n0
  have hS0 : s.Since s.vm 0 := (State.WarmedH.refl s).since 0
  have hwS : ∀ a ∈ Bundle.stringAtoms, a.before a0 Z = true := own_atoms hw
  have pre0 : ∀ t, Steps p.tables e below (s₁.setTop (mkF m 0 #[.val (.int p1), .val (.int p2), .val (.int p3), .unset, .unset, .unset, .unset, .unset, .unset, .unset, .unset] [])) t → Steps p.tables e below (s₁.setTop (entryFrame m #[(.int p1), (.int p2), (.int p3)] maxLocals)) t := fun t k => castTop (ef_rm0 m p1 p2 p3) k
  have f101 := Keep.refl h0 []
  have pre102 : ∀ t, Steps p.tables e below (s₁.setTop (mkF m 6 #[.val (.int p1), .val (.int p2), .val (.int p3), .val (.int ((1 : Int32) + (p1 &&& (3 : Int32)))), .unset, .unset, .unset, .unset, .unset, .unset, .unset] [])) t → Steps p.tables e below (s₁.setTop (entryFrame m #[(.int p1), (.int p2), (.int p3)] maxLocals)) t := fun t k => pre0 t (by
    show Steps p.tables e below (s₁.setTop (mkF m 0 #[.val (.int p1), .val (.int p2), .val (.int p3), .unset, .unset, .unset, .unset, .unset, .unset, .unset, .unset] [])) t
    refine XS.iconst X0.here hx rfl (hb hby at_0) ?_
    show Steps p.tables e below (s₁.setTop (mkF m 1 #[.val (.int p1), .val (.int p2), .val (.int p3), .unset, .unset, .unset, .unset, .unset, .unset, .unset, .unset] [(.int (1 : Int32))])) t
    refine XS.iloadN X0.here hx rfl (hb hby at_1) rfl ?_
    show Steps p.tables e below (s₁.setTop (mkF m 2 #[.val (.int p1), .val (.int p2), .val (.int p3), .unset, .unset, .unset, .unset, .unset, .unset, .unset, .unset] [(.int p1), (.int (1 : Int32))])) t
    refine XS.iconst X0.here hx rfl (hb hby at_2) ?_
    show Steps p.tables e below (s₁.setTop (mkF m 3 #[.val (.int p1), .val (.int p2), .val (.int p3), .unset, .unset, .unset, .unset, .unset, .unset, .unset, .unset] [(.int (3 : Int32)), (.int p1), (.int (1 : Int32))])) t
    refine XS.iand X0.here hx rfl (hb hby at_3) rfl ?_
    show Steps p.tables e below (s₁.setTop (mkF m 4 #[.val (.int p1), .val (.int p2), .val (.int p3), .unset, .unset, .unset, .unset, .unset, .unset, .unset, .unset] [(.int (p1 &&& (3 : Int32))), (.int (1 : Int32))])) t
    refine XS.iadd X0.here hx rfl (hb hby at_4) rfl ?_
    show Steps p.tables e below (s₁.setTop (mkF m 5 #[.val (.int p1), .val (.int p2), .val (.int p3), .unset, .unset, .unset, .unset, .unset, .unset, .unset, .unset] [(.int ((1 : Int32) + (p1 &&& (3 : Int32))))])) t
    refine XS.istoreN X0.here hx rfl (hb hby at_5) rfl (l' := #[.val (.int p1), .val (.int p2), .val (.int p3), .val (.int ((1 : Int32) + (p1 &&& (3 : Int32)))), .unset, .unset, .unset, .unset, .unset, .unset, .unset]) rfl ?_
    exact k)
  rcases own_and3 p1 with hs103 | hs103 | hs103 | hs103
  · have pre104 : ∀ t, Steps p.tables e below (s₁.setTop (mkF m 6 #[.val (.int p1), .val (.int p2), .val (.int p3), .val (.int (1 : Int32)), .unset, .unset, .unset, .unset, .unset, .unset, .unset] [])) t → Steps p.tables e below (s₁.setTop (entryFrame m #[(.int p1), (.int p2), (.int p3)] maxLocals)) t := fun t k => pre102 t (by rw [show ((1 : Int32) + (p1 &&& (3 : Int32))) = (1 : Int32) from (congrArg (fun z => (1 : Int32) + z) hs103)]; exact k)
    obtain ⟨T105, h105, X105, e105, E105, A105, D105, -, st105⟩ := newO X0 hx hZ hown (own_i hw 1 rfl) (own_i hw 2 rfl) (own_i hw 3 rfl) e0 (g := (mkF m 14 #[.val (.int p1), .val (.int p2), .val (.int p3), .val (.int (1 : Int32)), .val (.int ((p2 &&& (2147483647 : Int32)) % (1 : Int32))), .unset, .unset, .unset, .unset, .unset, .unset] [])) rfl (hb hby at_14) (by decide) (by decide)
    obtain ⟨b105, g105⟩ : ∃ z, z = h0.size := ⟨_, rfl⟩
    rw [← g105] at A105 D105 st105
    have ga106 : n0 ≤ b105 := Nat.le_trans Z0 (Nat.le_of_eq g105.symm)
    have sz107 : h0.size ≤ b105 := Nat.le_trans f101.1 (Nat.le_of_eq g105.symm)
    have f108 : Fld Z h105 b105 "com/example/libsld/libsld/Var" "number" "J" (.long (0 : Int64)) := D105 (Or.inr (own_i hw 11 rfl)) (ty := .long) (by decide)
    have f109 := Nat.le_trans Z0 E105.1
    have f110 := f101.ext E105
    obtain ⟨_, _, ⟨T111, L111, k111, n111⟩, -, X111, ⟨Lc111, hQ111, l111, y111, z111⟩, st111⟩ := X105.specialBack hx (y := (⟨"com/example/libsld/libsld/Var", "<init>", "(J)V"⟩ : MethodName)) rfl hown (mvT hZ (own_i hw 4 rfl)) (mvT hZ (own_i hw 5 rfl)) (mvT hZ (own_i hw 6 rfl)) (by decide) (backOf (W := 1) (rm1 l Z a0 hw [] b105 (0 : Int64) h105 n0 f109 f108 A105 ga106) hZ (own_i hw 6 rfl) (own_i hw 3 rfl) (by decide) (by decide)) (g := (mkF m 19 #[.val (.int p1), .val (.int p2), .val (.int p3), .val (.int (1 : Int32)), .val (.int ((p2 &&& (2147483647 : Int32)) % (1 : Int32))), .unset, .unset, .unset, .unset, .unset, .unset] [(.long (0 : Int64)), (.ref b105), (.ref b105)])) rfl (by rw [hml]; rfl) (Steps.refl _) (a := b105) (argsL := [(.long (0 : Int64))]) (rest := [(.ref b105)]) (lenOf pd_0 rfl) rfl (by show 2 * 0 + _ ≤ _; exact Nat.le_of_eq rfl) (hb hby at_19) (fun _ _ => ⟨rfl, e105, (by decide : 1 + 0 ≤ _), (by decide : 2 + 0 ≤ _)⟩)
    dsimp only [Pt.U, Pt.locs, Pt.cells, Pt.slots] at X111 l111 y111 z111 st111 hQ111
    subst l111 y111 z111
    obtain ⟨rfl, N111q, K111, f112⟩ := hQ111
    have N111 := Fr.app N0 N111q
    have f113 := Nat.le_trans f109 K111.1
    have f114 := f110.trans K111 (allS (Or.inr sz107) all0)
    obtain ⟨T115, h115, X115, e115, E115, A115, D115, -, st115⟩ := newO X111 hx hZ hown (own_i hw 1 rfl) (own_i hw 2 rfl) (own_i hw 3 rfl) rfl (g := (mkF m 24 #[.val (.int p1), .val (.int p2), .val (.int p3), .val (.int (1 : Int32)), .val (.int ((p2 &&& (2147483647 : Int32)) % (1 : Int32))), .val (.ref b105), .unset, .unset, .unset, .unset, .unset] [])) rfl (hb hby at_24) (by decide) (by decide)
    obtain ⟨b115, g115⟩ : ∃ z, z = T111.heap.size := ⟨_, rfl⟩
    rw [← g115] at A115 D115 st115
    have ne116 : b105 ≠ b115 := Nat.ne_of_lt (Nat.lt_of_lt_of_le f112.lt (Nat.le_of_eq g115.symm))
    have ga117 : n0 ≤ b115 := Nat.le_trans f113 (Nat.le_of_eq g115.symm)
    have sz118 : h0.size ≤ b115 := Nat.le_trans f114.1 (Nat.le_of_eq g115.symm)
    have f119 : Fld Z h115 b115 "com/example/libsld/libsld/Var" "number" "J" (.long (0 : Int64)) := D115 (Or.inr (own_i hw 11 rfl)) (ty := .long) (by decide)
    have f120 := Nat.le_trans f113 E115.1
    have f121 := f114.ext E115
    have f122 := f112.ext E115
    obtain ⟨_, _, ⟨T123, L123, k123, n123⟩, -, X123, ⟨Lc123, hQ123, l123, y123, z123⟩, st123⟩ := X115.specialBack hx (y := (⟨"com/example/libsld/libsld/Var", "<init>", "(J)V"⟩ : MethodName)) rfl hown (mvT hZ (own_i hw 4 rfl)) (mvT hZ (own_i hw 5 rfl)) (mvT hZ (own_i hw 6 rfl)) (by decide) (backOf (W := 1) (rm1 l Z a0 hw [] b115 (1 : Int64) h115 n0 f120 f119 A115 ga117) hZ (own_i hw 6 rfl) (own_i hw 3 rfl) (by decide) (by decide)) (g := (mkF m 29 #[.val (.int p1), .val (.int p2), .val (.int p3), .val (.int (1 : Int32)), .val (.int ((p2 &&& (2147483647 : Int32)) % (1 : Int32))), .val (.ref b105), .unset, .unset, .unset, .unset, .unset] [(.long (1 : Int64)), (.ref b115), (.ref b115)])) rfl (by rw [hml]; rfl) (Steps.refl _) (a := b115) (argsL := [(.long (1 : Int64))]) (rest := [(.ref b115)]) (lenOf pd_0 rfl) rfl (by show 2 * 0 + _ ≤ _; exact Nat.le_of_eq rfl) (hb hby at_29) (fun _ _ => ⟨rfl, e115, (by decide : 2 + 0 ≤ _), (by decide : 4 + 0 ≤ _)⟩)
    dsimp only [Pt.U, Pt.locs, Pt.cells, Pt.slots] at X123 l123 y123 z123 st123 hQ123
    subst l123 y123 z123
    obtain ⟨rfl, N123q, K123, f124⟩ := hQ123
    have N123 := Fr.app N111 N123q
    have f125 := Nat.le_trans f120 K123.1
    have f126 := f121.trans K123 (allS (Or.inr sz118) all0)
    have f127 := f122.keep K123
    obtain ⟨T128, h128, X128, e128, E128, A128, D128, -, st128⟩ := newO X123 hx hZ hown (own_i hw 1 rfl) (own_i hw 2 rfl) (own_i hw 3 rfl) rfl (g := (mkF m 34 #[.val (.int p1), .val (.int p2), .val (.int p3), .val (.int (1 : Int32)), .val (.int ((p2 &&& (2147483647 : Int32)) % (1 : Int32))), .val (.ref b105), .val (.ref b115), .unset, .unset, .unset, .unset] [])) rfl (hb hby at_34) (by decide) (by decide)
    obtain ⟨b128, g128⟩ : ∃ z, z = T123.heap.size := ⟨_, rfl⟩
    rw [← g128] at A128 D128 st128
    have ne129 : b105 ≠ b128 := Nat.ne_of_lt (Nat.lt_of_lt_of_le f127.lt (Nat.le_of_eq g128.symm))
    have ne130 : b115 ≠ b128 := Nat.ne_of_lt (Nat.lt_of_lt_of_le f124.lt (Nat.le_of_eq g128.symm))
    have ga131 : n0 ≤ b128 := Nat.le_trans f125 (Nat.le_of_eq g128.symm)
    have sz132 : h0.size ≤ b128 := Nat.le_trans f126.1 (Nat.le_of_eq g128.symm)
    have f133 : Fld Z h128 b128 "com/example/libsld/libsld/Var" "number" "J" (.long (0 : Int64)) := D128 (Or.inr (own_i hw 11 rfl)) (ty := .long) (by decide)
    have f134 := Nat.le_trans f125 E128.1
    have f135 := f126.ext E128
    have f136 := f127.ext E128
    have f137 := f124.ext E128
    obtain ⟨_, _, ⟨T138, L138, k138, n138⟩, -, X138, ⟨Lc138, hQ138, l138, y138, z138⟩, st138⟩ := X128.specialBack hx (y := (⟨"com/example/libsld/libsld/Var", "<init>", "(J)V"⟩ : MethodName)) rfl hown (mvT hZ (own_i hw 4 rfl)) (mvT hZ (own_i hw 5 rfl)) (mvT hZ (own_i hw 6 rfl)) (by decide) (backOf (W := 1) (rm1 l Z a0 hw [] b128 (2 : Int64) h128 n0 f134 f133 A128 ga131) hZ (own_i hw 6 rfl) (own_i hw 3 rfl) (by decide) (by decide)) (g := (mkF m 41 #[.val (.int p1), .val (.int p2), .val (.int p3), .val (.int (1 : Int32)), .val (.int ((p2 &&& (2147483647 : Int32)) % (1 : Int32))), .val (.ref b105), .val (.ref b115), .unset, .unset, .unset, .unset] [(.long (2 : Int64)), (.ref b128), (.ref b128)])) rfl (by rw [hml]; rfl) (Steps.refl _) (a := b128) (argsL := [(.long (2 : Int64))]) (rest := [(.ref b128)]) (lenOf pd_0 rfl) rfl (by show 2 * 0 + _ ≤ _; exact Nat.le_of_eq rfl) (hb hby at_41) (fun _ _ => ⟨rfl, e128, (by decide : 3 + 0 ≤ _), (by decide : 6 + 0 ≤ _)⟩)
    dsimp only [Pt.U, Pt.locs, Pt.cells, Pt.slots] at X138 l138 y138 z138 st138 hQ138
    subst l138 y138 z138
    obtain ⟨rfl, N138q, K138, f139⟩ := hQ138
    have N138 := Fr.app N123 N138q
    have f140 := Nat.le_trans f134 K138.1
    have f141 := f135.trans K138 (allS (Or.inr sz132) all0)
    have f142 := f136.keep K138
    have f143 := f137.keep K138
    obtain ⟨T144, h144, X144, e144, E144, A144, D144, -, st144⟩ := newO X138 hx hZ hown (own_i hw 1 rfl) (own_i hw 2 rfl) (own_i hw 3 rfl) rfl (g := (mkF m 46 #[.val (.int p1), .val (.int p2), .val (.int p3), .val (.int (1 : Int32)), .val (.int ((p2 &&& (2147483647 : Int32)) % (1 : Int32))), .val (.ref b105), .val (.ref b115), .val (.ref b128), .unset, .unset, .unset] [])) rfl (hb hby at_46) (by decide) (by decide)
    obtain ⟨b144, g144⟩ : ∃ z, z = T138.heap.size := ⟨_, rfl⟩
    rw [← g144] at A144 D144 st144
    have ne145 : b105 ≠ b144 := Nat.ne_of_lt (Nat.lt_of_lt_of_le f142.lt (Nat.le_of_eq g144.symm))
    have ne146 : b115 ≠ b144 := Nat.ne_of_lt (Nat.lt_of_lt_of_le f143.lt (Nat.le_of_eq g144.symm))
    have ne147 : b128 ≠ b144 := Nat.ne_of_lt (Nat.lt_of_lt_of_le f139.lt (Nat.le_of_eq g144.symm))
    have ga148 : n0 ≤ b144 := Nat.le_trans f140 (Nat.le_of_eq g144.symm)
    have sz149 : h0.size ≤ b144 := Nat.le_trans f141.1 (Nat.le_of_eq g144.symm)
    have f150 : Fld Z h144 b144 "com/example/libsld/libsld/Var" "number" "J" (.long (0 : Int64)) := D144 (Or.inr (own_i hw 11 rfl)) (ty := .long) (by decide)
    have f151 := Nat.le_trans f140 E144.1
    have f152 := f141.ext E144
    have f153 := f142.ext E144
    have f154 := f143.ext E144
    have f155 := f139.ext E144
    obtain ⟨_, _, ⟨T156, L156, k156, n156⟩, -, X156, ⟨Lc156, hQ156, l156, y156, z156⟩, st156⟩ := X144.specialBack hx (y := (⟨"com/example/libsld/libsld/Var", "<init>", "(J)V"⟩ : MethodName)) rfl hown (mvT hZ (own_i hw 4 rfl)) (mvT hZ (own_i hw 5 rfl)) (mvT hZ (own_i hw 6 rfl)) (by decide) (backOf (W := 1) (rm1 l Z a0 hw [] b144 (3 : Int64) h144 n0 f151 f150 A144 ga148) hZ (own_i hw 6 rfl) (own_i hw 3 rfl) (by decide) (by decide)) (g := (mkF m 53 #[.val (.int p1), .val (.int p2), .val (.int p3), .val (.int (1 : Int32)), .val (.int ((p2 &&& (2147483647 : Int32)) % (1 : Int32))), .val (.ref b105), .val (.ref b115), .val (.ref b128), .unset, .unset, .unset] [(.long (3 : Int64)), (.ref b144), (.ref b144)])) rfl (by rw [hml]; rfl) (Steps.refl _) (a := b144) (argsL := [(.long (3 : Int64))]) (rest := [(.ref b144)]) (lenOf pd_0 rfl) rfl (by show 2 * 0 + _ ≤ _; exact Nat.le_of_eq rfl) (hb hby at_53) (fun _ _ => ⟨rfl, e144, (by decide : 4 + 0 ≤ _), (by decide : 8 + 0 ≤ _)⟩)
    dsimp only [Pt.U, Pt.locs, Pt.cells, Pt.slots] at X156 l156 y156 z156 st156 hQ156
    subst l156 y156 z156
    obtain ⟨rfl, N156q, K156, f157⟩ := hQ156
    have N156 := Fr.app N138 N156q
    have f158 := Nat.le_trans f151 K156.1
    have f159 := f152.trans K156 (allS (Or.inr sz149) all0)
    have f160 := f153.keep K156
    have f161 := f154.keep K156
    have f162 := f155.keep K156
    obtain ⟨T163, h163, k163, X163, e163, E163, A163, O163, st163⟩ := newR X156 hx hZ hown (own_i hw 14 rfl) (own_i hw 15 rfl) rfl (g := (mkF m 59 #[.val (.int p1), .val (.int p2), .val (.int p3), .val (.int (1 : Int32)), .val (.int ((p2 &&& (2147483647 : Int32)) % (1 : Int32))), .val (.ref b105), .val (.ref b115), .val (.ref b128), .val (.ref b144), .unset, .unset] [(.int (4 : Int32))])) rfl (hb hby at_59) rfl (by decide) (cap := 4) (by decide) (by decide) (by decide) (by decide)
    obtain ⟨b163, g163⟩ : ∃ z, z = T156.heap.size := ⟨_, rfl⟩
    rw [← g163] at A163 st163
    have ne164 : b105 ≠ b163 := Nat.ne_of_lt (Nat.lt_of_lt_of_le f160.lt (Nat.le_of_eq g163.symm))
    have ne165 : b115 ≠ b163 := Nat.ne_of_lt (Nat.lt_of_lt_of_le f161.lt (Nat.le_of_eq g163.symm))
    have ne166 : b128 ≠ b163 := Nat.ne_of_lt (Nat.lt_of_lt_of_le f162.lt (Nat.le_of_eq g163.symm))
    have ne167 : b144 ≠ b163 := Nat.ne_of_lt (Nat.lt_of_lt_of_le f157.lt (Nat.le_of_eq g163.symm))
    have ga168 : n0 ≤ b163 := Nat.le_trans f158 (Nat.le_of_eq g163.symm)
    have sz169 : h0.size ≤ b163 := Nat.le_trans f159.1 (Nat.le_of_eq g163.symm)
    have V163 : Arv Z h163 b163 k163 (.object "com/example/libsld/libsld/Term") (4 : Int32) [.null, .null, .null, .null] .null := (Arv.new A163 (by decide)).pad (pad_rep [] .null 4)
    have f170 := Nat.le_trans f158 E163.1
    have f171 := f159.ext E163
    have f172 := f160.ext E163
    have f173 := f161.ext E163
    have f174 := f162.ext E163
    have f175 := f157.ext E163
    obtain ⟨T176, h176, X176, e176, E176, A176, D176, -, st176⟩ := newO X163 hx hZ hown (own_i hw 16 rfl) (own_i hw 17 rfl) (own_i hw 18 rfl) e163 (g := (mkF m 64 #[.val (.int p1), .val (.int p2), .val (.int p3), .val (.int (1 : Int32)), .val (.int ((p2 &&& (2147483647 : Int32)) % (1 : Int32))), .val (.ref b105), .val (.ref b115), .val (.ref b128), .val (.ref b144), .val (.ref b163), .unset] [])) rfl (hb hby at_64) (by decide) (by decide)
    obtain ⟨b176, g176⟩ : ∃ z, z = h163.size := ⟨_, rfl⟩
    rw [← g176] at A176 D176 st176
    have ne177 : b105 ≠ b176 := Nat.ne_of_lt (Nat.lt_of_lt_of_le f172.lt (Nat.le_of_eq g176.symm))
    have ne178 : b115 ≠ b176 := Nat.ne_of_lt (Nat.lt_of_lt_of_le f173.lt (Nat.le_of_eq g176.symm))
    have ne179 : b128 ≠ b176 := Nat.ne_of_lt (Nat.lt_of_lt_of_le f174.lt (Nat.le_of_eq g176.symm))
    have ne180 : b144 ≠ b176 := Nat.ne_of_lt (Nat.lt_of_lt_of_le f175.lt (Nat.le_of_eq g176.symm))
    have ne181 : b163 ≠ b176 := Nat.ne_of_lt (Nat.lt_of_lt_of_le V163.lt (Nat.le_of_eq g176.symm))
    have ga182 : n0 ≤ b176 := Nat.le_trans f170 (Nat.le_of_eq g176.symm)
    have sz183 : h0.size ≤ b176 := Nat.le_trans f171.1 (Nat.le_of_eq g176.symm)
    have f184 : Fld Z h176 b176 "com/example/libsld/libsld/Struct" "name" "Ljava/lang/String;" .null := D176 (Or.inr (own_i hw 32 rfl)) (ty := (.object "java/lang/String")) (by decide)
    have f185 : Fld Z h176 b176 "com/example/libsld/libsld/Struct" "arity" "I" (.int (0 : Int32)) := D176 (Or.inr (own_i hw 34 rfl)) (ty := .int) (by decide)
    have f186 : Fld Z h176 b176 "com/example/libsld/libsld/Struct" "rest" "[Lcom/example/libsld/libsld/Term;" .null := D176 (Or.inr (own_i hw 36 rfl)) (ty := (.array (.object "com/example/libsld/libsld/Term"))) (by decide)
    have f187 : Fld Z h176 b176 "com/example/libsld/libsld/Struct" "first" "Lcom/example/libsld/libsld/Term;" .null := D176 (Or.inl (own_i hw 43 rfl)) (ty := (.object "com/example/libsld/libsld/Term")) (by decide)
    have f188 : Fld Z h176 b176 "com/example/libsld/libsld/Struct" "second" "Lcom/example/libsld/libsld/Term;" .null := D176 (Or.inl (own_i hw 51 rfl)) (ty := (.object "com/example/libsld/libsld/Term")) (by decide)
    have f189 := Nat.le_trans f170 E176.1
    have f190 := f171.ext E176
    have f191 := f172.ext E176
    have f192 := f173.ext E176
    have f193 := f174.ext E176
    have f194 := f175.ext E176
    have f195 := V163.ext E176
    obtain ⟨a196, T196, h196, k196, X196, e196, E196, hS196, hk196, hZ196, ho196, st196⟩ := ldcS (s := s) (vm0 := s.vm) X176 hx hZ hown (own_i hw 19 rfl) hwS e176 hS0 (Nat.zero_le _) (g := (mkF m 68 #[.val (.int p1), .val (.int p2), .val (.int p3), .val (.int (1 : Int32)), .val (.int ((p2 &&& (2147483647 : Int32)) % (1 : Int32))), .val (.ref b105), .val (.ref b115), .val (.ref b128), .val (.ref b144), .val (.ref b163), .unset] [(.ref b176), (.ref b176)])) rfl (hb hby at_68) (n := 4) (by decide) (by decide) (by decide) (by decide)
    have f197 := Nat.le_trans f189 E196.1
    have f198 := f190.ext E196
    have f199 := f191.ext E196
    have f200 := f192.ext E196
    have f201 := f193.ext E196
    have f202 := f194.ext E196
    have f203 := f195.ext E196
    have f204 := A176.ext E196
    have f205 := f184.ext E196
    have f206 := f185.ext E196
    have f207 := f186.ext E196
    have f208 := f187.ext E196
    have f209 := f188.ext E196
    obtain ⟨_, _, ⟨T210, L210, k210, n210⟩, -, X210, ⟨Lc210, hQ210, l210, y210, z210⟩, st210⟩ := X196.specialBack hx (y := (⟨"com/example/libsld/libsld/Struct", "<init>", "(Ljava/lang/String;I)V"⟩ : MethodName)) rfl ho196 (mvT hZ196 (own_i hw 27 rfl)) (mvT hZ196 (own_i hw 28 rfl)) (mvT hZ196 (own_i hw 29 rfl)) (by decide) (backOf (W := 1) (rm3_1 l Z a0 hw [] b176 a196 h196 n0 f197 f208 f209 f207 f206 f205 f204 ga182) hZ196 (own_i hw 29 rfl) (own_i hw 18 rfl) (by decide) (by decide)) (g := (mkF m 71 #[.val (.int p1), .val (.int p2), .val (.int p3), .val (.int (1 : Int32)), .val (.int ((p2 &&& (2147483647 : Int32)) % (1 : Int32))), .val (.ref b105), .val (.ref b115), .val (.ref b128), .val (.ref b144), .val (.ref b163), .unset] [(.int (1 : Int32)), (.ref a196), (.ref b176), (.ref b176)])) rfl (by rw [hml]; rfl) (Steps.refl _) (a := b176) (argsL := [(.ref a196), (.int (1 : Int32))]) (rest := [(.ref b176)]) (lenOf pd_1 rfl) rfl (by show 2 * 0 + _ ≤ _; exact Nat.le_of_eq rfl) (hb hby at_71) (fun _ _ => ⟨rfl, e196, (by decide : 8 + 0 ≤ _), (by decide : 25 + 0 ≤ _)⟩)
    dsimp only [Pt.U, Pt.locs, Pt.cells, Pt.slots] at X210 l210 y210 z210 st210 hQ210
    subst l210 y210 z210
    obtain ⟨rfl, N210q, K210, f211, f212, f213, f214, f215⟩ := hQ210
    have N210 := Fr.app N156 N210q
    have f216 := Nat.le_trans f197 K210.1
    have f217 := f198.trans K210 (allS (Or.inr sz183) all0)
    have f218 := f199.keep K210
    have f219 := f200.keep K210
    have f220 := f201.keep K210
    have f221 := f202.keep K210
    have f222 := f203.keep K210 (ninS ne181 nin0)
    have f223 := Nat.le_trans hk196 K210.1
    have pre224 : ∀ t, Steps p.tables e below (T210.setTop (mkF m 76 #[.val (.int p1), .val (.int p2), .val (.int p3), .val (.int (1 : Int32)), .val (.int ((p2 &&& (2147483647 : Int32)) % (1 : Int32))), .val (.ref b105), .val (.ref b115), .val (.ref b128), .val (.ref b144), .val (.ref b163), .val (.ref b176)] [])) t → Steps p.tables e below (s₁.setTop (entryFrame m #[(.int p1), (.int p2), (.int p3)] maxLocals)) t := fun t k => pre104 t (by
      show Steps p.tables e below (s₁.setTop (mkF m 6 #[.val (.int p1), .val (.int p2), .val (.int p3), .val (.int (1 : Int32)), .unset, .unset, .unset, .unset, .unset, .unset, .unset] [])) t
      refine XS.iloadN X0.here hx rfl (hb hby at_6) rfl ?_
      show Steps p.tables e below (s₁.setTop (mkF m 7 #[.val (.int p1), .val (.int p2), .val (.int p3), .val (.int (1 : Int32)), .unset, .unset, .unset, .unset, .unset, .unset, .unset] [(.int p2)])) t
      refine X0.ldcInt hx hown (mvT hZ (own_i hw 0 rfl)) (g := (mkF m 7 #[.val (.int p1), .val (.int p2), .val (.int p3), .val (.int (1 : Int32)), .unset, .unset, .unset, .unset, .unset, .unset, .unset] [(.int p2)])) rfl (hb hby at_7) _ ?_
      show Steps p.tables e below (s₁.setTop (mkF m 9 #[.val (.int p1), .val (.int p2), .val (.int p3), .val (.int (1 : Int32)), .unset, .unset, .unset, .unset, .unset, .unset, .unset] [(.int (2147483647 : Int32)), (.int p2)])) t
      refine XS.iand X0.here hx rfl (hb hby at_9) rfl ?_
      show Steps p.tables e below (s₁.setTop (mkF m 10 #[.val (.int p1), .val (.int p2), .val (.int p3), .val (.int (1 : Int32)), .unset, .unset, .unset, .unset, .unset, .unset, .unset] [(.int (p2 &&& (2147483647 : Int32)))])) t
      refine XS.iloadN X0.here hx rfl (hb hby at_10) rfl ?_
      show Steps p.tables e below (s₁.setTop (mkF m 11 #[.val (.int p1), .val (.int p2), .val (.int p3), .val (.int (1 : Int32)), .unset, .unset, .unset, .unset, .unset, .unset, .unset] [(.int (1 : Int32)), (.int (p2 &&& (2147483647 : Int32)))])) t
      refine iremM (g := (mkF m 11 #[.val (.int p1), .val (.int p2), .val (.int p3), .val (.int (1 : Int32)), .unset, .unset, .unset, .unset, .unset, .unset, .unset] [(.int (1 : Int32)), (.int (p2 &&& (2147483647 : Int32)))])) X0 hx rfl (hb hby at_11) rfl (by decide) ?_
      show Steps p.tables e below (s₁.setTop (mkF m 12 #[.val (.int p1), .val (.int p2), .val (.int p3), .val (.int (1 : Int32)), .unset, .unset, .unset, .unset, .unset, .unset, .unset] [(.int ((p2 &&& (2147483647 : Int32)) % (1 : Int32)))])) t
      refine XS.istore X0.here hx rfl (hb hby at_12) rfl (l' := #[.val (.int p1), .val (.int p2), .val (.int p3), .val (.int (1 : Int32)), .val (.int ((p2 &&& (2147483647 : Int32)) % (1 : Int32))), .unset, .unset, .unset, .unset, .unset, .unset]) rfl ?_
      show Steps p.tables e below (s₁.setTop (mkF m 14 #[.val (.int p1), .val (.int p2), .val (.int p3), .val (.int (1 : Int32)), .val (.int ((p2 &&& (2147483647 : Int32)) % (1 : Int32))), .unset, .unset, .unset, .unset, .unset, .unset] [])) t
      refine st105 _ ?_
      show Steps p.tables e below (T105.setTop (mkF m 17 #[.val (.int p1), .val (.int p2), .val (.int p3), .val (.int (1 : Int32)), .val (.int ((p2 &&& (2147483647 : Int32)) % (1 : Int32))), .unset, .unset, .unset, .unset, .unset, .unset] [(.ref b105)])) t
      refine XS.dup X105.here hx rfl (hb hby at_17) rfl rfl ?_
      show Steps p.tables e below (T105.setTop (mkF m 18 #[.val (.int p1), .val (.int p2), .val (.int p3), .val (.int (1 : Int32)), .val (.int ((p2 &&& (2147483647 : Int32)) % (1 : Int32))), .unset, .unset, .unset, .unset, .unset, .unset] [(.ref b105), (.ref b105)])) t
      refine XS.lconst X105.here hx rfl (hb hby at_18) ?_
      show Steps p.tables e below (T105.setTop (mkF m 19 #[.val (.int p1), .val (.int p2), .val (.int p3), .val (.int (1 : Int32)), .val (.int ((p2 &&& (2147483647 : Int32)) % (1 : Int32))), .unset, .unset, .unset, .unset, .unset, .unset] [(.long (0 : Int64)), (.ref b105), (.ref b105)])) t
      refine st111.trans ?_
      show Steps p.tables e below (T111.setTop (mkF m 22 #[.val (.int p1), .val (.int p2), .val (.int p3), .val (.int (1 : Int32)), .val (.int ((p2 &&& (2147483647 : Int32)) % (1 : Int32))), .unset, .unset, .unset, .unset, .unset, .unset] [(.ref b105)])) t
      refine XS.astore X111.here hx rfl (hb hby at_22) rfl rfl (l' := #[.val (.int p1), .val (.int p2), .val (.int p3), .val (.int (1 : Int32)), .val (.int ((p2 &&& (2147483647 : Int32)) % (1 : Int32))), .val (.ref b105), .unset, .unset, .unset, .unset, .unset]) rfl ?_
      show Steps p.tables e below (T111.setTop (mkF m 24 #[.val (.int p1), .val (.int p2), .val (.int p3), .val (.int (1 : Int32)), .val (.int ((p2 &&& (2147483647 : Int32)) % (1 : Int32))), .val (.ref b105), .unset, .unset, .unset, .unset, .unset] [])) t
      refine st115 _ ?_
      show Steps p.tables e below (T115.setTop (mkF m 27 #[.val (.int p1), .val (.int p2), .val (.int p3), .val (.int (1 : Int32)), .val (.int ((p2 &&& (2147483647 : Int32)) % (1 : Int32))), .val (.ref b105), .unset, .unset, .unset, .unset, .unset] [(.ref b115)])) t
      refine XS.dup X115.here hx rfl (hb hby at_27) rfl rfl ?_
      show Steps p.tables e below (T115.setTop (mkF m 28 #[.val (.int p1), .val (.int p2), .val (.int p3), .val (.int (1 : Int32)), .val (.int ((p2 &&& (2147483647 : Int32)) % (1 : Int32))), .val (.ref b105), .unset, .unset, .unset, .unset, .unset] [(.ref b115), (.ref b115)])) t
      refine XS.lconst X115.here hx rfl (hb hby at_28) ?_
      show Steps p.tables e below (T115.setTop (mkF m 29 #[.val (.int p1), .val (.int p2), .val (.int p3), .val (.int (1 : Int32)), .val (.int ((p2 &&& (2147483647 : Int32)) % (1 : Int32))), .val (.ref b105), .unset, .unset, .unset, .unset, .unset] [(.long (1 : Int64)), (.ref b115), (.ref b115)])) t
      refine st123.trans ?_
      show Steps p.tables e below (T123.setTop (mkF m 32 #[.val (.int p1), .val (.int p2), .val (.int p3), .val (.int (1 : Int32)), .val (.int ((p2 &&& (2147483647 : Int32)) % (1 : Int32))), .val (.ref b105), .unset, .unset, .unset, .unset, .unset] [(.ref b115)])) t
      refine XS.astore X123.here hx rfl (hb hby at_32) rfl rfl (l' := #[.val (.int p1), .val (.int p2), .val (.int p3), .val (.int (1 : Int32)), .val (.int ((p2 &&& (2147483647 : Int32)) % (1 : Int32))), .val (.ref b105), .val (.ref b115), .unset, .unset, .unset, .unset]) rfl ?_
      show Steps p.tables e below (T123.setTop (mkF m 34 #[.val (.int p1), .val (.int p2), .val (.int p3), .val (.int (1 : Int32)), .val (.int ((p2 &&& (2147483647 : Int32)) % (1 : Int32))), .val (.ref b105), .val (.ref b115), .unset, .unset, .unset, .unset] [])) t
      refine st128 _ ?_
      show Steps p.tables e below (T128.setTop (mkF m 37 #[.val (.int p1), .val (.int p2), .val (.int p3), .val (.int (1 : Int32)), .val (.int ((p2 &&& (2147483647 : Int32)) % (1 : Int32))), .val (.ref b105), .val (.ref b115), .unset, .unset, .unset, .unset] [(.ref b128)])) t
      refine XS.dup X128.here hx rfl (hb hby at_37) rfl rfl ?_
      show Steps p.tables e below (T128.setTop (mkF m 38 #[.val (.int p1), .val (.int p2), .val (.int p3), .val (.int (1 : Int32)), .val (.int ((p2 &&& (2147483647 : Int32)) % (1 : Int32))), .val (.ref b105), .val (.ref b115), .unset, .unset, .unset, .unset] [(.ref b128), (.ref b128)])) t
      refine X128.ldc2Long hx hown (mvT hZ (own_i hw 12 rfl)) (g := (mkF m 38 #[.val (.int p1), .val (.int p2), .val (.int p3), .val (.int (1 : Int32)), .val (.int ((p2 &&& (2147483647 : Int32)) % (1 : Int32))), .val (.ref b105), .val (.ref b115), .unset, .unset, .unset, .unset] [(.ref b128), (.ref b128)])) rfl (hb hby at_38) _ ?_
      show Steps p.tables e below (T128.setTop (mkF m 41 #[.val (.int p1), .val (.int p2), .val (.int p3), .val (.int (1 : Int32)), .val (.int ((p2 &&& (2147483647 : Int32)) % (1 : Int32))), .val (.ref b105), .val (.ref b115), .unset, .unset, .unset, .unset] [(.long (2 : Int64)), (.ref b128), (.ref b128)])) t
      refine st138.trans ?_
      show Steps p.tables e below (T138.setTop (mkF m 44 #[.val (.int p1), .val (.int p2), .val (.int p3), .val (.int (1 : Int32)), .val (.int ((p2 &&& (2147483647 : Int32)) % (1 : Int32))), .val (.ref b105), .val (.ref b115), .unset, .unset, .unset, .unset] [(.ref b128)])) t
      refine XS.astore X138.here hx rfl (hb hby at_44) rfl rfl (l' := #[.val (.int p1), .val (.int p2), .val (.int p3), .val (.int (1 : Int32)), .val (.int ((p2 &&& (2147483647 : Int32)) % (1 : Int32))), .val (.ref b105), .val (.ref b115), .val (.ref b128), .unset, .unset, .unset]) rfl ?_
      show Steps p.tables e below (T138.setTop (mkF m 46 #[.val (.int p1), .val (.int p2), .val (.int p3), .val (.int (1 : Int32)), .val (.int ((p2 &&& (2147483647 : Int32)) % (1 : Int32))), .val (.ref b105), .val (.ref b115), .val (.ref b128), .unset, .unset, .unset] [])) t
      refine st144 _ ?_
      show Steps p.tables e below (T144.setTop (mkF m 49 #[.val (.int p1), .val (.int p2), .val (.int p3), .val (.int (1 : Int32)), .val (.int ((p2 &&& (2147483647 : Int32)) % (1 : Int32))), .val (.ref b105), .val (.ref b115), .val (.ref b128), .unset, .unset, .unset] [(.ref b144)])) t
      refine XS.dup X144.here hx rfl (hb hby at_49) rfl rfl ?_
      show Steps p.tables e below (T144.setTop (mkF m 50 #[.val (.int p1), .val (.int p2), .val (.int p3), .val (.int (1 : Int32)), .val (.int ((p2 &&& (2147483647 : Int32)) % (1 : Int32))), .val (.ref b105), .val (.ref b115), .val (.ref b128), .unset, .unset, .unset] [(.ref b144), (.ref b144)])) t
      refine X144.ldc2Long hx hown (mvT hZ (own_i hw 13 rfl)) (g := (mkF m 50 #[.val (.int p1), .val (.int p2), .val (.int p3), .val (.int (1 : Int32)), .val (.int ((p2 &&& (2147483647 : Int32)) % (1 : Int32))), .val (.ref b105), .val (.ref b115), .val (.ref b128), .unset, .unset, .unset] [(.ref b144), (.ref b144)])) rfl (hb hby at_50) _ ?_
      show Steps p.tables e below (T144.setTop (mkF m 53 #[.val (.int p1), .val (.int p2), .val (.int p3), .val (.int (1 : Int32)), .val (.int ((p2 &&& (2147483647 : Int32)) % (1 : Int32))), .val (.ref b105), .val (.ref b115), .val (.ref b128), .unset, .unset, .unset] [(.long (3 : Int64)), (.ref b144), (.ref b144)])) t
      refine st156.trans ?_
      show Steps p.tables e below (T156.setTop (mkF m 56 #[.val (.int p1), .val (.int p2), .val (.int p3), .val (.int (1 : Int32)), .val (.int ((p2 &&& (2147483647 : Int32)) % (1 : Int32))), .val (.ref b105), .val (.ref b115), .val (.ref b128), .unset, .unset, .unset] [(.ref b144)])) t
      refine XS.astore X156.here hx rfl (hb hby at_56) rfl rfl (l' := #[.val (.int p1), .val (.int p2), .val (.int p3), .val (.int (1 : Int32)), .val (.int ((p2 &&& (2147483647 : Int32)) % (1 : Int32))), .val (.ref b105), .val (.ref b115), .val (.ref b128), .val (.ref b144), .unset, .unset]) rfl ?_
      show Steps p.tables e below (T156.setTop (mkF m 58 #[.val (.int p1), .val (.int p2), .val (.int p3), .val (.int (1 : Int32)), .val (.int ((p2 &&& (2147483647 : Int32)) % (1 : Int32))), .val (.ref b105), .val (.ref b115), .val (.ref b128), .val (.ref b144), .unset, .unset] [])) t
      refine XS.iconst X156.here hx rfl (hb hby at_58) ?_
      show Steps p.tables e below (T156.setTop (mkF m 59 #[.val (.int p1), .val (.int p2), .val (.int p3), .val (.int (1 : Int32)), .val (.int ((p2 &&& (2147483647 : Int32)) % (1 : Int32))), .val (.ref b105), .val (.ref b115), .val (.ref b128), .val (.ref b144), .unset, .unset] [(.int (4 : Int32))])) t
      refine st163 _ ?_
      show Steps p.tables e below (T163.setTop (mkF m 62 #[.val (.int p1), .val (.int p2), .val (.int p3), .val (.int (1 : Int32)), .val (.int ((p2 &&& (2147483647 : Int32)) % (1 : Int32))), .val (.ref b105), .val (.ref b115), .val (.ref b128), .val (.ref b144), .unset, .unset] [(.ref b163)])) t
      refine XS.astore X163.here hx rfl (hb hby at_62) rfl rfl (l' := #[.val (.int p1), .val (.int p2), .val (.int p3), .val (.int (1 : Int32)), .val (.int ((p2 &&& (2147483647 : Int32)) % (1 : Int32))), .val (.ref b105), .val (.ref b115), .val (.ref b128), .val (.ref b144), .val (.ref b163), .unset]) rfl ?_
      show Steps p.tables e below (T163.setTop (mkF m 64 #[.val (.int p1), .val (.int p2), .val (.int p3), .val (.int (1 : Int32)), .val (.int ((p2 &&& (2147483647 : Int32)) % (1 : Int32))), .val (.ref b105), .val (.ref b115), .val (.ref b128), .val (.ref b144), .val (.ref b163), .unset] [])) t
      refine st176 _ ?_
      show Steps p.tables e below (T176.setTop (mkF m 67 #[.val (.int p1), .val (.int p2), .val (.int p3), .val (.int (1 : Int32)), .val (.int ((p2 &&& (2147483647 : Int32)) % (1 : Int32))), .val (.ref b105), .val (.ref b115), .val (.ref b128), .val (.ref b144), .val (.ref b163), .unset] [(.ref b176)])) t
      refine XS.dup X176.here hx rfl (hb hby at_67) rfl rfl ?_
      show Steps p.tables e below (T176.setTop (mkF m 68 #[.val (.int p1), .val (.int p2), .val (.int p3), .val (.int (1 : Int32)), .val (.int ((p2 &&& (2147483647 : Int32)) % (1 : Int32))), .val (.ref b105), .val (.ref b115), .val (.ref b128), .val (.ref b144), .val (.ref b163), .unset] [(.ref b176), (.ref b176)])) t
      refine st196 _ ?_
      show Steps p.tables e below (T196.setTop (mkF m 70 #[.val (.int p1), .val (.int p2), .val (.int p3), .val (.int (1 : Int32)), .val (.int ((p2 &&& (2147483647 : Int32)) % (1 : Int32))), .val (.ref b105), .val (.ref b115), .val (.ref b128), .val (.ref b144), .val (.ref b163), .unset] [(.ref a196), (.ref b176), (.ref b176)])) t
      refine XS.iloadN X196.here hx rfl (hb hby at_70) rfl ?_
      show Steps p.tables e below (T196.setTop (mkF m 71 #[.val (.int p1), .val (.int p2), .val (.int p3), .val (.int (1 : Int32)), .val (.int ((p2 &&& (2147483647 : Int32)) % (1 : Int32))), .val (.ref b105), .val (.ref b115), .val (.ref b128), .val (.ref b144), .val (.ref b163), .unset] [(.int (1 : Int32)), (.ref a196), (.ref b176), (.ref b176)])) t
      refine st210.trans ?_
      show Steps p.tables e below (T210.setTop (mkF m 74 #[.val (.int p1), .val (.int p2), .val (.int p3), .val (.int (1 : Int32)), .val (.int ((p2 &&& (2147483647 : Int32)) % (1 : Int32))), .val (.ref b105), .val (.ref b115), .val (.ref b128), .val (.ref b144), .val (.ref b163), .unset] [(.ref b176)])) t
      refine XS.astore X210.here hx rfl (hb hby at_74) rfl rfl (l' := #[.val (.int p1), .val (.int p2), .val (.int p3), .val (.int (1 : Int32)), .val (.int ((p2 &&& (2147483647 : Int32)) % (1 : Int32))), .val (.ref b105), .val (.ref b115), .val (.ref b128), .val (.ref b144), .val (.ref b163), .val (.ref b176)]) rfl ?_
      exact k)
    obtain ⟨T256, L256, h256, f0, X256, e256, N256, f257, f258, f259, f260, f261, f262, f263, f264, f265, f266, f267, f268, f269, hp270, hP256, pre256⟩ : ∃ (T' : State) (L' : List Loc) (h' : Heap) (f0 : Value), Stand p l e room_1 (s.setVm T196.vm) m #[(.int p1), (.int p2), (.int p3)] below meth c T' L' 8 25 ∧ T'.heap = h' ∧ Fr n0 L' ∧ n0 ≤ h'.size ∧ Keep h0 h' [] ∧ Exa Z h' b105 "com/example/libsld/libsld/Var" ∧ Exa Z h' b115 "com/example/libsld/libsld/Var" ∧ Exa Z h' b128 "com/example/libsld/libsld/Var" ∧ Exa Z h' b144 "com/example/libsld/libsld/Var" ∧ Exa Z h' b176 "com/example/libsld/libsld/Struct" ∧ k196 ≤ h'.size ∧ Fld Z h' b176 "com/example/libsld/libsld/Struct" "second" "Lcom/example/libsld/libsld/Term;" .null ∧ Fld Z h' b176 "com/example/libsld/libsld/Struct" "arity" "I" (.int (1 : Int32)) ∧ Fld Z h' b176 "com/example/libsld/libsld/Struct" "rest" "[Lcom/example/libsld/libsld/Term;" .null ∧ Arv Z h' b163 k163 (.object "com/example/libsld/libsld/Term") (4 : Int32) [f0, .null, .null, .null] .null ∧ Fld Z h' b176 "com/example/libsld/libsld/Struct" "first" "Lcom/example/libsld/libsld/Term;" f0 ∧ (f0.isRef = true) ∧ (True) ∧ ∀ t, Steps p.tables e below (T'.setTop (mkF m 96 #[.val (.int p1), .val (.int p2), .val (.int p3), .val (.int (1 : Int32)), .val (.int ((p2 &&& (2147483647 : Int32)) % (1 : Int32))), .val (.ref b105), .val (.ref b115), .val (.ref b128), .val (.ref b144), .val (.ref b163), .val (.ref b176)] [])) t → Steps p.tables e below (s₁.setTop (entryFrame m #[(.int p1), (.int p2), (.int p3)] maxLocals)) t := by
      have pre226 : ∀ t, Steps p.tables e below (T210.setTop (mkF m 79 #[.val (.int p1), .val (.int p2), .val (.int p3), .val (.int (1 : Int32)), .val (.int ((p2 &&& (2147483647 : Int32)) % (1 : Int32))), .val (.ref b105), .val (.ref b115), .val (.ref b128), .val (.ref b144), .val (.ref b163), .val (.ref b176)] [(.int (p3 &&& (1 : Int32)))])) t → Steps p.tables e below (s₁.setTop (entryFrame m #[(.int p1), (.int p2), (.int p3)] maxLocals)) t := fun t k => pre224 t (by
        show Steps p.tables e below (T210.setTop (mkF m 76 #[.val (.int p1), .val (.int p2), .val (.int p3), .val (.int (1 : Int32)), .val (.int ((p2 &&& (2147483647 : Int32)) % (1 : Int32))), .val (.ref b105), .val (.ref b115), .val (.ref b128), .val (.ref b144), .val (.ref b163), .val (.ref b176)] [])) t
        refine XS.iloadN X210.here hx rfl (hb hby at_76) rfl ?_
        show Steps p.tables e below (T210.setTop (mkF m 77 #[.val (.int p1), .val (.int p2), .val (.int p3), .val (.int (1 : Int32)), .val (.int ((p2 &&& (2147483647 : Int32)) % (1 : Int32))), .val (.ref b105), .val (.ref b115), .val (.ref b128), .val (.ref b144), .val (.ref b163), .val (.ref b176)] [(.int p3)])) t
        refine XS.iconst X210.here hx rfl (hb hby at_77) ?_
        show Steps p.tables e below (T210.setTop (mkF m 78 #[.val (.int p1), .val (.int p2), .val (.int p3), .val (.int (1 : Int32)), .val (.int ((p2 &&& (2147483647 : Int32)) % (1 : Int32))), .val (.ref b105), .val (.ref b115), .val (.ref b128), .val (.ref b144), .val (.ref b163), .val (.ref b176)] [(.int (1 : Int32)), (.int p3)])) t
        refine XS.iand X210.here hx rfl (hb hby at_78) rfl ?_
        exact k)
      by_cases hc225 : (p3 &&& (1 : Int32)) = (0 : Int32)
      · have pre227 : ∀ t, Steps p.tables e below (T210.setTop (mkF m 96 #[.val (.int p1), .val (.int p2), .val (.int p3), .val (.int (1 : Int32)), .val (.int ((p2 &&& (2147483647 : Int32)) % (1 : Int32))), .val (.ref b105), .val (.ref b115), .val (.ref b128), .val (.ref b144), .val (.ref b163), .val (.ref b176)] [])) t → Steps p.tables e below (s₁.setTop (entryFrame m #[(.int p1), (.int p2), (.int p3)] maxLocals)) t := fun t k => pre226 t (by
          show Steps p.tables e below (T210.setTop (mkF m 79 #[.val (.int p1), .val (.int p2), .val (.int p3), .val (.int (1 : Int32)), .val (.int ((p2 &&& (2147483647 : Int32)) % (1 : Int32))), .val (.ref b105), .val (.ref b115), .val (.ref b128), .val (.ref b144), .val (.ref b163), .val (.ref b176)] [(.int (p3 &&& (1 : Int32)))])) t
          refine XS.ifYes X210.here hx rfl (pc0 := 79) (pc' := 96) rfl (hb hby at_79) rfl ((if0 _ _).trans (teq hc225).1) (by decide) (by decide) ?_
          exact k)
        exact ⟨_, _, T210.heap, .null, X210, rfl, N210, f216, f217, f218, f219, f220, f221, f211, f223, f213, f214, f215, f222, f212, (by rfl), (by trivial), pre227⟩
      · obtain ⟨cq228, kq228, q228a, q228b, q228c⟩ := isOf hZ196 rfl f211
        obtain ⟨_, _, ⟨T228, L228, k228, n228⟩, -, X228, ⟨Lc228, hQ228, l228, y228, z228⟩, st228⟩ := X210.virtualBack hx (y := (⟨"com/example/libsld/libsld/Struct", "setArg", "(ILcom/example/libsld/libsld/Term;)V"⟩ : MethodName)) (z := (⟨"com/example/libsld/libsld/Struct", "setArg", "(ILcom/example/libsld/libsld/Term;)V"⟩ : MethodName)) ho196 (mvT hZ196 (own_i hw 44 rfl)) (mvT hZ196 (own_i hw 45 rfl)) (notFace_of_selects (args := #[]) (mvT hZ196 (own_i hw 47 rfl))) (mvT hZ196 (own_i hw 47 rfl)) (mvT hZ196 (own_i hw 46 rfl)) (by decide) (backOf (W := 0) (rm5_0 l Z a0 hw [] b176 b105 .null .null .null (1 : Int32) T210.heap n0 f216 f212 f213 f215 f214 f211 ga182) hZ196 (own_i hw 48 rfl) (own_i hw 18 rfl) (by decide) (by decide)) q228a q228c (g := (mkF m 87 #[.val (.int p1), .val (.int p2), .val (.int p3), .val (.int (1 : Int32)), .val (.int ((p2 &&& (2147483647 : Int32)) % (1 : Int32))), .val (.ref b105), .val (.ref b115), .val (.ref b128), .val (.ref b144), .val (.ref b163), .val (.ref b176)] [(.ref b105), (.int (0 : Int32)), (.ref b176)])) rfl (by rw [hml]; rfl) (Steps.refl _) (argsL := [(.int (0 : Int32)), (.ref b105)]) (rest := []) (lenOf pd_2 rfl) rfl (by show 2 * 0 + _ ≤ _; exact Nat.le_of_eq rfl) (hb hby at_87) (fun _ _ => ⟨rfl, rfl, (by decide : 8 + 0 ≤ _), (by decide : 25 + 0 ≤ _)⟩)
        dsimp only [Pt.U, Pt.locs, Pt.cells, Pt.slots] at X228 l228 y228 z228 st228 hQ228
        subst l228 y228 z228
        obtain ⟨rfl, N228q, K228, f229, f230, f231, f232, f233⟩ := hQ228
        have N228 := Fr.app N210 N228q
        have f234 := Nat.le_trans f216 K228.1
        have f235 := f217.trans K228 (allS (Or.inr sz183) all0)
        have f236 := f218.keep K228
        have f237 := f219.keep K228
        have f238 := f220.keep K228
        have f239 := f221.keep K228
        have f240 := f222.keep K228 (ninS ne181 nin0)
        have f241 := Nat.le_trans f223 K228.1
        obtain ⟨cl242, Ar242, q242, S242, N242z, H242, G242⟩ := (id f240)
        have hin242 : ¬ ((0 : Int32) < 0 ∨ cl242.slots.size ≤ ((0 : Int32)).toNatClampNeg) := inb_of S242 ⟨by decide, by decide⟩
        obtain ⟨T242, h242, X242, e242, W242, st242⟩ := stR X228 hx hZ196 rfl Ar242 (j := (0 : Int32)) hin242 rfl (Sto.ofV Ar242 q242 O163 (Ins.of_exa f236 (own_i hw 49 rfl))) (g := (mkF m 95 #[.val (.int p1), .val (.int p2), .val (.int p3), .val (.int (1 : Int32)), .val (.int ((p2 &&& (2147483647 : Int32)) % (1 : Int32))), .val (.ref b105), .val (.ref b115), .val (.ref b128), .val (.ref b144), .val (.ref b163), .val (.ref b176)] [(.ref b105), (.int (0 : Int32)), (.ref b163)])) rfl rfl (hb hby at_95)
        have V242 : Arv Z h242 b163 k163 (.object "com/example/libsld/libsld/Term") (4 : Int32) [(.ref b105), .null, .null, .null] .null := Arv.set Ar242 q242 S242 N242z H242 G242 rfl W242 0 rfl (Nat.le_of_ble_eq_true rfl)
        have N242 := Fr.snoc X242 N228 ga168
        have f243 := Nat.le_trans f234 (Keep.of_wr W242).1
        have f244 := f235.wr W242 (Or.inr sz169)
        have f245 := f236.wr W242
        have f246 := f237.wr W242
        have f247 := f238.wr W242
        have f248 := f239.wr W242
        have f249 := f229.wr W242
        have f250 := Nat.le_trans f241 (Keep.of_wr W242).1
        have f251 := f230.other W242 (Or.inl (Ne.symm ne181))
        have f252 := f231.other W242 (Or.inl (Ne.symm ne181))
        have f253 := f232.other W242 (Or.inl (Ne.symm ne181))
        have f254 := f233.other W242 (Or.inl (Ne.symm ne181))
        have pre255 : ∀ t, Steps p.tables e below (T242.setTop (mkF m 96 #[.val (.int p1), .val (.int p2), .val (.int p3), .val (.int (1 : Int32)), .val (.int ((p2 &&& (2147483647 : Int32)) % (1 : Int32))), .val (.ref b105), .val (.ref b115), .val (.ref b128), .val (.ref b144), .val (.ref b163), .val (.ref b176)] [])) t → Steps p.tables e below (s₁.setTop (entryFrame m #[(.int p1), (.int p2), (.int p3)] maxLocals)) t := fun t k => pre226 t (by
          show Steps p.tables e below (T210.setTop (mkF m 79 #[.val (.int p1), .val (.int p2), .val (.int p3), .val (.int (1 : Int32)), .val (.int ((p2 &&& (2147483647 : Int32)) % (1 : Int32))), .val (.ref b105), .val (.ref b115), .val (.ref b128), .val (.ref b144), .val (.ref b163), .val (.ref b176)] [(.int (p3 &&& (1 : Int32)))])) t
          refine XS.ifNo X210.here hx rfl (hb hby at_79) rfl ((if0 _ _).trans (feq hc225).1) ?_
          show Steps p.tables e below (T210.setTop (mkF m 82 #[.val (.int p1), .val (.int p2), .val (.int p3), .val (.int (1 : Int32)), .val (.int ((p2 &&& (2147483647 : Int32)) % (1 : Int32))), .val (.ref b105), .val (.ref b115), .val (.ref b128), .val (.ref b144), .val (.ref b163), .val (.ref b176)] [])) t
          refine XS.aload X210.here hx rfl (hb hby at_82) rfl rfl ?_
          show Steps p.tables e below (T210.setTop (mkF m 84 #[.val (.int p1), .val (.int p2), .val (.int p3), .val (.int (1 : Int32)), .val (.int ((p2 &&& (2147483647 : Int32)) % (1 : Int32))), .val (.ref b105), .val (.ref b115), .val (.ref b128), .val (.ref b144), .val (.ref b163), .val (.ref b176)] [(.ref b176)])) t
          refine XS.iconst X210.here hx rfl (hb hby at_84) ?_
          show Steps p.tables e below (T210.setTop (mkF m 85 #[.val (.int p1), .val (.int p2), .val (.int p3), .val (.int (1 : Int32)), .val (.int ((p2 &&& (2147483647 : Int32)) % (1 : Int32))), .val (.ref b105), .val (.ref b115), .val (.ref b128), .val (.ref b144), .val (.ref b163), .val (.ref b176)] [(.int (0 : Int32)), (.ref b176)])) t
          refine XS.aload X210.here hx rfl (hb hby at_85) rfl rfl ?_
          show Steps p.tables e below (T210.setTop (mkF m 87 #[.val (.int p1), .val (.int p2), .val (.int p3), .val (.int (1 : Int32)), .val (.int ((p2 &&& (2147483647 : Int32)) % (1 : Int32))), .val (.ref b105), .val (.ref b115), .val (.ref b128), .val (.ref b144), .val (.ref b163), .val (.ref b176)] [(.ref b105), (.int (0 : Int32)), (.ref b176)])) t
          refine st228.trans ?_
          show Steps p.tables e below (T228.setTop (mkF m 90 #[.val (.int p1), .val (.int p2), .val (.int p3), .val (.int (1 : Int32)), .val (.int ((p2 &&& (2147483647 : Int32)) % (1 : Int32))), .val (.ref b105), .val (.ref b115), .val (.ref b128), .val (.ref b144), .val (.ref b163), .val (.ref b176)] [])) t
          refine XS.aload X228.here hx rfl (hb hby at_90) rfl rfl ?_
          show Steps p.tables e below (T228.setTop (mkF m 92 #[.val (.int p1), .val (.int p2), .val (.int p3), .val (.int (1 : Int32)), .val (.int ((p2 &&& (2147483647 : Int32)) % (1 : Int32))), .val (.ref b105), .val (.ref b115), .val (.ref b128), .val (.ref b144), .val (.ref b163), .val (.ref b176)] [(.ref b163)])) t
          refine XS.iconst X228.here hx rfl (hb hby at_92) ?_
          show Steps p.tables e below (T228.setTop (mkF m 93 #[.val (.int p1), .val (.int p2), .val (.int p3), .val (.int (1 : Int32)), .val (.int ((p2 &&& (2147483647 : Int32)) % (1 : Int32))), .val (.ref b105), .val (.ref b115), .val (.ref b128), .val (.ref b144), .val (.ref b163), .val (.ref b176)] [(.int (0 : Int32)), (.ref b163)])) t
          refine XS.aload X228.here hx rfl (hb hby at_93) rfl rfl ?_
          show Steps p.tables e below (T228.setTop (mkF m 95 #[.val (.int p1), .val (.int p2), .val (.int p3), .val (.int (1 : Int32)), .val (.int ((p2 &&& (2147483647 : Int32)) % (1 : Int32))), .val (.ref b105), .val (.ref b115), .val (.ref b128), .val (.ref b144), .val (.ref b163), .val (.ref b176)] [(.ref b105), (.int (0 : Int32)), (.ref b163)])) t
          refine st242 _ ?_
          exact k)
        exact ⟨_, _, h242, (.ref b105), X242, e242, N242, f243, f244, f245, f246, f247, f248, f249, f250, f252, f254, f253, V242, f251, (by rfl), (by trivial), pre255⟩
    have pre271 : ∀ t, Steps p.tables e below (T256.setTop (mkF m 172 #[.val (.int p1), .val (.int p2), .val (.int p3), .val (.int (1 : Int32)), .val (.int ((p2 &&& (2147483647 : Int32)) % (1 : Int32))), .val (.ref b105), .val (.ref b115), .val (.ref b128), .val (.ref b144), .val (.ref b163), .val (.ref b176)] [])) t → Steps p.tables e below (s₁.setTop (entryFrame m #[(.int p1), (.int p2), (.int p3)] maxLocals)) t := fun t k => pre256 t (by
      show Steps p.tables e below (T256.setTop (mkF m 96 #[.val (.int p1), .val (.int p2), .val (.int p3), .val (.int (1 : Int32)), .val (.int ((p2 &&& (2147483647 : Int32)) % (1 : Int32))), .val (.ref b105), .val (.ref b115), .val (.ref b128), .val (.ref b144), .val (.ref b163), .val (.ref b176)] [])) t
      refine XS.iloadN X256.here hx rfl (hb hby at_96) rfl ?_
      show Steps p.tables e below (T256.setTop (mkF m 97 #[.val (.int p1), .val (.int p2), .val (.int p3), .val (.int (1 : Int32)), .val (.int ((p2 &&& (2147483647 : Int32)) % (1 : Int32))), .val (.ref b105), .val (.ref b115), .val (.ref b128), .val (.ref b144), .val (.ref b163), .val (.ref b176)] [(.int (1 : Int32))])) t
      refine XS.iconst X256.here hx rfl (hb hby at_97) ?_
      show Steps p.tables e below (T256.setTop (mkF m 98 #[.val (.int p1), .val (.int p2), .val (.int p3), .val (.int (1 : Int32)), .val (.int ((p2 &&& (2147483647 : Int32)) % (1 : Int32))), .val (.ref b105), .val (.ref b115), .val (.ref b128), .val (.ref b144), .val (.ref b163), .val (.ref b176)] [(.int (1 : Int32)), (.int (1 : Int32))])) t
      refine XS.icmpYes X256.here hx rfl (pc0 := 98) (pc' := 121) rfl (hb hby at_98) rfl (flt (by decide : ¬ ((1 : Int32) < (1 : Int32)))).2.2.2 (by decide) (by decide) ?_
      show Steps p.tables e below (T256.setTop (mkF m 121 #[.val (.int p1), .val (.int p2), .val (.int p3), .val (.int (1 : Int32)), .val (.int ((p2 &&& (2147483647 : Int32)) % (1 : Int32))), .val (.ref b105), .val (.ref b115), .val (.ref b128), .val (.ref b144), .val (.ref b163), .val (.ref b176)] [])) t
      refine XS.iloadN X256.here hx rfl (hb hby at_121) rfl ?_
      show Steps p.tables e below (T256.setTop (mkF m 122 #[.val (.int p1), .val (.int p2), .val (.int p3), .val (.int (1 : Int32)), .val (.int ((p2 &&& (2147483647 : Int32)) % (1 : Int32))), .val (.ref b105), .val (.ref b115), .val (.ref b128), .val (.ref b144), .val (.ref b163), .val (.ref b176)] [(.int (1 : Int32))])) t
      refine XS.iconst X256.here hx rfl (hb hby at_122) ?_
      show Steps p.tables e below (T256.setTop (mkF m 123 #[.val (.int p1), .val (.int p2), .val (.int p3), .val (.int (1 : Int32)), .val (.int ((p2 &&& (2147483647 : Int32)) % (1 : Int32))), .val (.ref b105), .val (.ref b115), .val (.ref b128), .val (.ref b144), .val (.ref b163), .val (.ref b176)] [(.int (2 : Int32)), (.int (1 : Int32))])) t
      refine XS.icmpYes X256.here hx rfl (pc0 := 123) (pc' := 146) rfl (hb hby at_123) rfl (flt (by decide : ¬ ((2 : Int32) < (1 : Int32)))).2.2.2 (by decide) (by decide) ?_
      show Steps p.tables e below (T256.setTop (mkF m 146 #[.val (.int p1), .val (.int p2), .val (.int p3), .val (.int (1 : Int32)), .val (.int ((p2 &&& (2147483647 : Int32)) % (1 : Int32))), .val (.ref b105), .val (.ref b115), .val (.ref b128), .val (.ref b144), .val (.ref b163), .val (.ref b176)] [])) t
      refine XS.iloadN X256.here hx rfl (hb hby at_146) rfl ?_
      show Steps p.tables e below (T256.setTop (mkF m 147 #[.val (.int p1), .val (.int p2), .val (.int p3), .val (.int (1 : Int32)), .val (.int ((p2 &&& (2147483647 : Int32)) % (1 : Int32))), .val (.ref b105), .val (.ref b115), .val (.ref b128), .val (.ref b144), .val (.ref b163), .val (.ref b176)] [(.int (1 : Int32))])) t
      refine XS.iconst X256.here hx rfl (hb hby at_147) ?_
      show Steps p.tables e below (T256.setTop (mkF m 148 #[.val (.int p1), .val (.int p2), .val (.int p3), .val (.int (1 : Int32)), .val (.int ((p2 &&& (2147483647 : Int32)) % (1 : Int32))), .val (.ref b105), .val (.ref b115), .val (.ref b128), .val (.ref b144), .val (.ref b163), .val (.ref b176)] [(.int (3 : Int32)), (.int (1 : Int32))])) t
      refine XS.icmpYes X256.here hx rfl (pc0 := 148) (pc' := 172) rfl (hb hby at_148) rfl (flt (by decide : ¬ ((3 : Int32) < (1 : Int32)))).2.2.2 (by decide) (by decide) ?_
      exact k)
    rcases own_rem1 p2 with hs272
    · have pre273 : ∀ t, Steps p.tables e below (T256.setTop (mkF m 172 #[.val (.int p1), .val (.int p2), .val (.int p3), .val (.int (1 : Int32)), .val (.int (0 : Int32)), .val (.ref b105), .val (.ref b115), .val (.ref b128), .val (.ref b144), .val (.ref b163), .val (.ref b176)] [])) t → Steps p.tables e below (s₁.setTop (entryFrame m #[(.int p1), (.int p2), (.int p3)] maxLocals)) t := fun t k => pre271 t (by rw [show ((p2 &&& (2147483647 : Int32)) % (1 : Int32)) = (0 : Int32) from hs272]; exact k)
      obtain ⟨cq274, kq274, q274a, q274b, q274c⟩ := isOf hZ196 e256 f263
      obtain ⟨_, _, ⟨T274, L274, k274, n274⟩, -, X274, ⟨Lc274, hQ274, l274, y274, z274⟩, st274⟩ := X256.virtualBack hx (y := (⟨"com/example/libsld/libsld/Struct", "arg", "(I)Lcom/example/libsld/libsld/Term;"⟩ : MethodName)) (z := (⟨"com/example/libsld/libsld/Struct", "arg", "(I)Lcom/example/libsld/libsld/Term;"⟩ : MethodName)) ho196 (mvT hZ196 (own_i hw 37 rfl)) (mvT hZ196 (own_i hw 38 rfl)) (notFace_of_selects (args := #[]) (mvT hZ196 (own_i hw 40 rfl))) (mvT hZ196 (own_i hw 40 rfl)) (mvT hZ196 (own_i hw 39 rfl)) (by decide) (backOf (W := 0) (rm4_0 l Z a0 hw [] b176 f0 h256 n0 f257 f269 hp270) hZ196 (own_i hw 41 rfl) (own_i hw 18 rfl) (by decide) (by decide)) q274a q274c (g := (mkF m 176 #[.val (.int p1), .val (.int p2), .val (.int p3), .val (.int (1 : Int32)), .val (.int (0 : Int32)), .val (.ref b105), .val (.ref b115), .val (.ref b128), .val (.ref b144), .val (.ref b163), .val (.ref b176)] [(.int (0 : Int32)), (.ref b176)])) rfl (by rw [hml]; rfl) (Steps.refl _) (argsL := [(.int (0 : Int32))]) (rest := []) (lenOf pd_3 rfl) rfl (by show 2 * 0 + _ ≤ _; exact Nat.le_of_eq rfl) (hb hby at_176) (fun _ _ => ⟨rfl, e256, (by decide : 8 + 0 ≤ _), (by decide : 25 + 0 ≤ _)⟩)
      dsimp only [Pt.U, Pt.locs, Pt.cells, Pt.slots] at X274 l274 y274 z274 st274 hQ274
      subst l274 y274 z274
      obtain ⟨rfl, N274q, e274⟩ := hQ274
      have N274 := Fr.app N256 N274q
      obtain ⟨cl275, Ar275, q275, S275, N275z, H275, G275⟩ := (id f268)
      have hin275 : ¬ ((0 : Int32) < 0 ∨ cl275.slots.size ≤ ((0 : Int32)).toNatClampNeg) := inb_of S275 ⟨by decide, by decide⟩
      have hat275 : cl275.slots[((0 : Int32)).toNatClampNeg]? = some f0 := Has.at H275 hin275 rfl
      have pre276 : ∀ t, Steps p.tables e below (T274.setTop (mkF m 192 #[.val (.int p1), .val (.int p2), .val (.int p3), .val (.int (1 : Int32)), .val (.int (0 : Int32)), .val (.ref b105), .val (.ref b115), .val (.ref b128), .val (.ref b144), .val (.ref b163), .val (.ref b176)] [(.int (1 : Int32))])) t → Steps p.tables e below (s₁.setTop (entryFrame m #[(.int p1), (.int p2), (.int p3)] maxLocals)) t := fun t k => pre273 t (by
        show Steps p.tables e below (T256.setTop (mkF m 172 #[.val (.int p1), .val (.int p2), .val (.int p3), .val (.int (1 : Int32)), .val (.int (0 : Int32)), .val (.ref b105), .val (.ref b115), .val (.ref b128), .val (.ref b144), .val (.ref b163), .val (.ref b176)] [])) t
        refine XS.aload X256.here hx rfl (hb hby at_172) rfl rfl ?_
        show Steps p.tables e below (T256.setTop (mkF m 174 #[.val (.int p1), .val (.int p2), .val (.int p3), .val (.int (1 : Int32)), .val (.int (0 : Int32)), .val (.ref b105), .val (.ref b115), .val (.ref b128), .val (.ref b144), .val (.ref b163), .val (.ref b176)] [(.ref b176)])) t
        refine XS.iload X256.here hx rfl (hb hby at_174) rfl ?_
        show Steps p.tables e below (T256.setTop (mkF m 176 #[.val (.int p1), .val (.int p2), .val (.int p3), .val (.int (1 : Int32)), .val (.int (0 : Int32)), .val (.ref b105), .val (.ref b115), .val (.ref b128), .val (.ref b144), .val (.ref b163), .val (.ref b176)] [(.int (0 : Int32)), (.ref b176)])) t
        refine st274.trans ?_
        show Steps p.tables e below (T274.setTop (mkF m 179 #[.val (.int p1), .val (.int p2), .val (.int p3), .val (.int (1 : Int32)), .val (.int (0 : Int32)), .val (.ref b105), .val (.ref b115), .val (.ref b128), .val (.ref b144), .val (.ref b163), .val (.ref b176)] [f0])) t
        refine XS.aload X274.here hx rfl (hb hby at_179) rfl rfl ?_
        show Steps p.tables e below (T274.setTop (mkF m 181 #[.val (.int p1), .val (.int p2), .val (.int p3), .val (.int (1 : Int32)), .val (.int (0 : Int32)), .val (.ref b105), .val (.ref b115), .val (.ref b128), .val (.ref b144), .val (.ref b163), .val (.ref b176)] [(.ref b163), f0])) t
        refine XS.iload X274.here hx rfl (hb hby at_181) rfl ?_
        show Steps p.tables e below (T274.setTop (mkF m 183 #[.val (.int p1), .val (.int p2), .val (.int p3), .val (.int (1 : Int32)), .val (.int (0 : Int32)), .val (.ref b105), .val (.ref b115), .val (.ref b128), .val (.ref b144), .val (.ref b163), .val (.ref b176)] [(.int (0 : Int32)), (.ref b163), f0])) t
        refine X274.aaload hx (j := (0 : Int32)) (v := f0) (by rw [e274]; exact Ar275.1) (State.isArrayOf_alike hZ196.alike Ar275.2.1) rfl Ar275.2.2 hin275 hat275 (g := (mkF m 183 #[.val (.int p1), .val (.int p2), .val (.int p3), .val (.int (1 : Int32)), .val (.int (0 : Int32)), .val (.ref b105), .val (.ref b115), .val (.ref b128), .val (.ref b144), .val (.ref b163), .val (.ref b176)] [(.int (0 : Int32)), (.ref b163), f0])) rfl rfl (hb hby at_183) _ ?_
        show Steps p.tables e below (T274.setTop (mkF m 184 #[.val (.int p1), .val (.int p2), .val (.int p3), .val (.int (1 : Int32)), .val (.int (0 : Int32)), .val (.ref b105), .val (.ref b115), .val (.ref b128), .val (.ref b144), .val (.ref b163), .val (.ref b176)] [f0, f0])) t
        refine Jvm.RoadKit.acmp (g := (mkF m 184 #[.val (.int p1), .val (.int p2), .val (.int p3), .val (.int (1 : Int32)), .val (.int (0 : Int32)), .val (.ref b105), .val (.ref b115), .val (.ref b128), .val (.ref b144), .val (.ref b163), .val (.ref b176)] [f0, f0])) X274 hx rfl hp270 hp270 (pc0 := 184) (pc' := 187) (same := true) rfl (hb hby at_184) rfl (decide_eq_true rfl) (by decide) (by decide) ?_
        show Steps p.tables e below (T274.setTop (mkF m 187 #[.val (.int p1), .val (.int p2), .val (.int p3), .val (.int (1 : Int32)), .val (.int (0 : Int32)), .val (.ref b105), .val (.ref b115), .val (.ref b128), .val (.ref b144), .val (.ref b163), .val (.ref b176)] [])) t
        refine XS.iconst X274.here hx rfl (hb hby at_187) ?_
        show Steps p.tables e below (T274.setTop (mkF m 188 #[.val (.int p1), .val (.int p2), .val (.int p3), .val (.int (1 : Int32)), .val (.int (0 : Int32)), .val (.ref b105), .val (.ref b115), .val (.ref b128), .val (.ref b144), .val (.ref b163), .val (.ref b176)] [(.int (1 : Int32))])) t
        refine XS.goto X274.here hx rfl (pc0 := 188) (pc' := 192) rfl (hb hby at_188) (by decide) (by decide) ?_
        exact k)
      obtain ⟨fs, hr, hrun, hended, hRW⟩ := X274.leaveW hS196 (by rw [e274]; exact f264) (v := some (.int (1 : Int32))) (fun h => by rw [Bd.returns] at h; cases h)
      refine ⟨_, _, pre276 _ ?_, hrun, hended, _, _, rfl, ?_, hRW.1, hRW.2.1, hRW.2.2.1, hRW.2.2.2.mono (by decide) (by decide)⟩
      · exact retN X274 hx (t := .boolean) Bd.returns (by simp) (hb hby at_192) hr
      · show Q0 Z p1 p2 p3 h0 n0 _ T274.heap _
        rw [e274]
        exact ⟨rfl, N274⟩
  · have pre277 : ∀ t, Steps p.tables e below (s₁.setTop (mkF m 6 #[.val (.int p1), .val (.int p2), .val (.int p3), .val (.int (2 : Int32)), .unset, .unset, .unset, .unset, .unset, .unset, .unset] [])) t → Steps p.tables e below (s₁.setTop (entryFrame m #[(.int p1), (.int p2), (.int p3)] maxLocals)) t := fun t k => pre102 t (by rw [show ((1 : Int32) + (p1 &&& (3 : Int32))) = (2 : Int32) from (congrArg (fun z => (1 : Int32) + z) hs103)]; exact k)
    obtain ⟨T278, h278, X278, e278, E278, A278, D278, -, st278⟩ := newO X0 hx hZ hown (own_i hw 1 rfl) (own_i hw 2 rfl) (own_i hw 3 rfl) e0 (g := (mkF m 14 #[.val (.int p1), .val (.int p2), .val (.int p3), .val (.int (2 : Int32)), .val (.int ((p2 &&& (2147483647 : Int32)) % (2 : Int32))), .unset, .unset, .unset, .unset, .unset, .unset] [])) rfl (hb hby at_14) (by decide) (by decide)
    obtain ⟨b278, g278⟩ : ∃ z, z = h0.size := ⟨_, rfl⟩
    rw [← g278] at A278 D278 st278
    have ga279 : n0 ≤ b278 := Nat.le_trans Z0 (Nat.le_of_eq g278.symm)
    have sz280 : h0.size ≤ b278 := Nat.le_trans f101.1 (Nat.le_of_eq g278.symm)
    have f281 : Fld Z h278 b278 "com/example/libsld/libsld/Var" "number" "J" (.long (0 : Int64)) := D278 (Or.inr (own_i hw 11 rfl)) (ty := .long) (by decide)
    have f282 := Nat.le_trans Z0 E278.1
    have f283 := f101.ext E278
    obtain ⟨_, _, ⟨T284, L284, k284, n284⟩, -, X284, ⟨Lc284, hQ284, l284, y284, z284⟩, st284⟩ := X278.specialBack hx (y := (⟨"com/example/libsld/libsld/Var", "<init>", "(J)V"⟩ : MethodName)) rfl hown (mvT hZ (own_i hw 4 rfl)) (mvT hZ (own_i hw 5 rfl)) (mvT hZ (own_i hw 6 rfl)) (by decide) (backOf (W := 1) (rm1 l Z a0 hw [] b278 (0 : Int64) h278 n0 f282 f281 A278 ga279) hZ (own_i hw 6 rfl) (own_i hw 3 rfl) (by decide) (by decide)) (g := (mkF m 19 #[.val (.int p1), .val (.int p2), .val (.int p3), .val (.int (2 : Int32)), .val (.int ((p2 &&& (2147483647 : Int32)) % (2 : Int32))), .unset, .unset, .unset, .unset, .unset, .unset] [(.long (0 : Int64)), (.ref b278), (.ref b278)])) rfl (by rw [hml]; rfl) (Steps.refl _) (a := b278) (argsL := [(.long (0 : Int64))]) (rest := [(.ref b278)]) (lenOf pd_0 rfl) rfl (by show 2 * 0 + _ ≤ _; exact Nat.le_of_eq rfl) (hb hby at_19) (fun _ _ => ⟨rfl, e278, (by decide : 1 + 0 ≤ _), (by decide : 2 + 0 ≤ _)⟩)
    dsimp only [Pt.U, Pt.locs, Pt.cells, Pt.slots] at X284 l284 y284 z284 st284 hQ284
    subst l284 y284 z284
    obtain ⟨rfl, N284q, K284, f285⟩ := hQ284
    have N284 := Fr.app N0 N284q
    have f286 := Nat.le_trans f282 K284.1
    have f287 := f283.trans K284 (allS (Or.inr sz280) all0)
    obtain ⟨T288, h288, X288, e288, E288, A288, D288, -, st288⟩ := newO X284 hx hZ hown (own_i hw 1 rfl) (own_i hw 2 rfl) (own_i hw 3 rfl) rfl (g := (mkF m 24 #[.val (.int p1), .val (.int p2), .val (.int p3), .val (.int (2 : Int32)), .val (.int ((p2 &&& (2147483647 : Int32)) % (2 : Int32))), .val (.ref b278), .unset, .unset, .unset, .unset, .unset] [])) rfl (hb hby at_24) (by decide) (by decide)
    obtain ⟨b288, g288⟩ : ∃ z, z = T284.heap.size := ⟨_, rfl⟩
    rw [← g288] at A288 D288 st288
    have ne289 : b278 ≠ b288 := Nat.ne_of_lt (Nat.lt_of_lt_of_le f285.lt (Nat.le_of_eq g288.symm))
    have ga290 : n0 ≤ b288 := Nat.le_trans f286 (Nat.le_of_eq g288.symm)
    have sz291 : h0.size ≤ b288 := Nat.le_trans f287.1 (Nat.le_of_eq g288.symm)
    have f292 : Fld Z h288 b288 "com/example/libsld/libsld/Var" "number" "J" (.long (0 : Int64)) := D288 (Or.inr (own_i hw 11 rfl)) (ty := .long) (by decide)
    have f293 := Nat.le_trans f286 E288.1
    have f294 := f287.ext E288
    have f295 := f285.ext E288
    obtain ⟨_, _, ⟨T296, L296, k296, n296⟩, -, X296, ⟨Lc296, hQ296, l296, y296, z296⟩, st296⟩ := X288.specialBack hx (y := (⟨"com/example/libsld/libsld/Var", "<init>", "(J)V"⟩ : MethodName)) rfl hown (mvT hZ (own_i hw 4 rfl)) (mvT hZ (own_i hw 5 rfl)) (mvT hZ (own_i hw 6 rfl)) (by decide) (backOf (W := 1) (rm1 l Z a0 hw [] b288 (1 : Int64) h288 n0 f293 f292 A288 ga290) hZ (own_i hw 6 rfl) (own_i hw 3 rfl) (by decide) (by decide)) (g := (mkF m 29 #[.val (.int p1), .val (.int p2), .val (.int p3), .val (.int (2 : Int32)), .val (.int ((p2 &&& (2147483647 : Int32)) % (2 : Int32))), .val (.ref b278), .unset, .unset, .unset, .unset, .unset] [(.long (1 : Int64)), (.ref b288), (.ref b288)])) rfl (by rw [hml]; rfl) (Steps.refl _) (a := b288) (argsL := [(.long (1 : Int64))]) (rest := [(.ref b288)]) (lenOf pd_0 rfl) rfl (by show 2 * 0 + _ ≤ _; exact Nat.le_of_eq rfl) (hb hby at_29) (fun _ _ => ⟨rfl, e288, (by decide : 2 + 0 ≤ _), (by decide : 4 + 0 ≤ _)⟩)
    dsimp only [Pt.U, Pt.locs, Pt.cells, Pt.slots] at X296 l296 y296 z296 st296 hQ296
    subst l296 y296 z296
    obtain ⟨rfl, N296q, K296, f297⟩ := hQ296
    have N296 := Fr.app N284 N296q
    have f298 := Nat.le_trans f293 K296.1
    have f299 := f294.trans K296 (allS (Or.inr sz291) all0)
    have f300 := f295.keep K296
    obtain ⟨T301, h301, X301, e301, E301, A301, D301, -, st301⟩ := newO X296 hx hZ hown (own_i hw 1 rfl) (own_i hw 2 rfl) (own_i hw 3 rfl) rfl (g := (mkF m 34 #[.val (.int p1), .val (.int p2), .val (.int p3), .val (.int (2 : Int32)), .val (.int ((p2 &&& (2147483647 : Int32)) % (2 : Int32))), .val (.ref b278), .val (.ref b288), .unset, .unset, .unset, .unset] [])) rfl (hb hby at_34) (by decide) (by decide)
    obtain ⟨b301, g301⟩ : ∃ z, z = T296.heap.size := ⟨_, rfl⟩
    rw [← g301] at A301 D301 st301
    have ne302 : b278 ≠ b301 := Nat.ne_of_lt (Nat.lt_of_lt_of_le f300.lt (Nat.le_of_eq g301.symm))
    have ne303 : b288 ≠ b301 := Nat.ne_of_lt (Nat.lt_of_lt_of_le f297.lt (Nat.le_of_eq g301.symm))
    have ga304 : n0 ≤ b301 := Nat.le_trans f298 (Nat.le_of_eq g301.symm)
    have sz305 : h0.size ≤ b301 := Nat.le_trans f299.1 (Nat.le_of_eq g301.symm)
    have f306 : Fld Z h301 b301 "com/example/libsld/libsld/Var" "number" "J" (.long (0 : Int64)) := D301 (Or.inr (own_i hw 11 rfl)) (ty := .long) (by decide)
    have f307 := Nat.le_trans f298 E301.1
    have f308 := f299.ext E301
    have f309 := f300.ext E301
    have f310 := f297.ext E301
    obtain ⟨_, _, ⟨T311, L311, k311, n311⟩, -, X311, ⟨Lc311, hQ311, l311, y311, z311⟩, st311⟩ := X301.specialBack hx (y := (⟨"com/example/libsld/libsld/Var", "<init>", "(J)V"⟩ : MethodName)) rfl hown (mvT hZ (own_i hw 4 rfl)) (mvT hZ (own_i hw 5 rfl)) (mvT hZ (own_i hw 6 rfl)) (by decide) (backOf (W := 1) (rm1 l Z a0 hw [] b301 (2 : Int64) h301 n0 f307 f306 A301 ga304) hZ (own_i hw 6 rfl) (own_i hw 3 rfl) (by decide) (by decide)) (g := (mkF m 41 #[.val (.int p1), .val (.int p2), .val (.int p3), .val (.int (2 : Int32)), .val (.int ((p2 &&& (2147483647 : Int32)) % (2 : Int32))), .val (.ref b278), .val (.ref b288), .unset, .unset, .unset, .unset] [(.long (2 : Int64)), (.ref b301), (.ref b301)])) rfl (by rw [hml]; rfl) (Steps.refl _) (a := b301) (argsL := [(.long (2 : Int64))]) (rest := [(.ref b301)]) (lenOf pd_0 rfl) rfl (by show 2 * 0 + _ ≤ _; exact Nat.le_of_eq rfl) (hb hby at_41) (fun _ _ => ⟨rfl, e301, (by decide : 3 + 0 ≤ _), (by decide : 6 + 0 ≤ _)⟩)
    dsimp only [Pt.U, Pt.locs, Pt.cells, Pt.slots] at X311 l311 y311 z311 st311 hQ311
    subst l311 y311 z311
    obtain ⟨rfl, N311q, K311, f312⟩ := hQ311
    have N311 := Fr.app N296 N311q
    have f313 := Nat.le_trans f307 K311.1
    have f314 := f308.trans K311 (allS (Or.inr sz305) all0)
    have f315 := f309.keep K311
    have f316 := f310.keep K311
    obtain ⟨T317, h317, X317, e317, E317, A317, D317, -, st317⟩ := newO X311 hx hZ hown (own_i hw 1 rfl) (own_i hw 2 rfl) (own_i hw 3 rfl) rfl (g := (mkF m 46 #[.val (.int p1), .val (.int p2), .val (.int p3), .val (.int (2 : Int32)), .val (.int ((p2 &&& (2147483647 : Int32)) % (2 : Int32))), .val (.ref b278), .val (.ref b288), .val (.ref b301), .unset, .unset, .unset] [])) rfl (hb hby at_46) (by decide) (by decide)
    obtain ⟨b317, g317⟩ : ∃ z, z = T311.heap.size := ⟨_, rfl⟩
    rw [← g317] at A317 D317 st317
    have ne318 : b278 ≠ b317 := Nat.ne_of_lt (Nat.lt_of_lt_of_le f315.lt (Nat.le_of_eq g317.symm))
    have ne319 : b288 ≠ b317 := Nat.ne_of_lt (Nat.lt_of_lt_of_le f316.lt (Nat.le_of_eq g317.symm))
    have ne320 : b301 ≠ b317 := Nat.ne_of_lt (Nat.lt_of_lt_of_le f312.lt (Nat.le_of_eq g317.symm))
    have ga321 : n0 ≤ b317 := Nat.le_trans f313 (Nat.le_of_eq g317.symm)
    have sz322 : h0.size ≤ b317 := Nat.le_trans f314.1 (Nat.le_of_eq g317.symm)
    have f323 : Fld Z h317 b317 "com/example/libsld/libsld/Var" "number" "J" (.long (0 : Int64)) := D317 (Or.inr (own_i hw 11 rfl)) (ty := .long) (by decide)
    have f324 := Nat.le_trans f313 E317.1
    have f325 := f314.ext E317
    have f326 := f315.ext E317
    have f327 := f316.ext E317
    have f328 := f312.ext E317
    obtain ⟨_, _, ⟨T329, L329, k329, n329⟩, -, X329, ⟨Lc329, hQ329, l329, y329, z329⟩, st329⟩ := X317.specialBack hx (y := (⟨"com/example/libsld/libsld/Var", "<init>", "(J)V"⟩ : MethodName)) rfl hown (mvT hZ (own_i hw 4 rfl)) (mvT hZ (own_i hw 5 rfl)) (mvT hZ (own_i hw 6 rfl)) (by decide) (backOf (W := 1) (rm1 l Z a0 hw [] b317 (3 : Int64) h317 n0 f324 f323 A317 ga321) hZ (own_i hw 6 rfl) (own_i hw 3 rfl) (by decide) (by decide)) (g := (mkF m 53 #[.val (.int p1), .val (.int p2), .val (.int p3), .val (.int (2 : Int32)), .val (.int ((p2 &&& (2147483647 : Int32)) % (2 : Int32))), .val (.ref b278), .val (.ref b288), .val (.ref b301), .unset, .unset, .unset] [(.long (3 : Int64)), (.ref b317), (.ref b317)])) rfl (by rw [hml]; rfl) (Steps.refl _) (a := b317) (argsL := [(.long (3 : Int64))]) (rest := [(.ref b317)]) (lenOf pd_0 rfl) rfl (by show 2 * 0 + _ ≤ _; exact Nat.le_of_eq rfl) (hb hby at_53) (fun _ _ => ⟨rfl, e317, (by decide : 4 + 0 ≤ _), (by decide : 8 + 0 ≤ _)⟩)
    dsimp only [Pt.U, Pt.locs, Pt.cells, Pt.slots] at X329 l329 y329 z329 st329 hQ329
    subst l329 y329 z329
    obtain ⟨rfl, N329q, K329, f330⟩ := hQ329
    have N329 := Fr.app N311 N329q
    have f331 := Nat.le_trans f324 K329.1
    have f332 := f325.trans K329 (allS (Or.inr sz322) all0)
    have f333 := f326.keep K329
    have f334 := f327.keep K329
    have f335 := f328.keep K329
    obtain ⟨T336, h336, k336, X336, e336, E336, A336, O336, st336⟩ := newR X329 hx hZ hown (own_i hw 14 rfl) (own_i hw 15 rfl) rfl (g := (mkF m 59 #[.val (.int p1), .val (.int p2), .val (.int p3), .val (.int (2 : Int32)), .val (.int ((p2 &&& (2147483647 : Int32)) % (2 : Int32))), .val (.ref b278), .val (.ref b288), .val (.ref b301), .val (.ref b317), .unset, .unset] [(.int (4 : Int32))])) rfl (hb hby at_59) rfl (by decide) (cap := 4) (by decide) (by decide) (by decide) (by decide)
    obtain ⟨b336, g336⟩ : ∃ z, z = T329.heap.size := ⟨_, rfl⟩
    rw [← g336] at A336 st336
    have ne337 : b278 ≠ b336 := Nat.ne_of_lt (Nat.lt_of_lt_of_le f333.lt (Nat.le_of_eq g336.symm))
    have ne338 : b288 ≠ b336 := Nat.ne_of_lt (Nat.lt_of_lt_of_le f334.lt (Nat.le_of_eq g336.symm))
    have ne339 : b301 ≠ b336 := Nat.ne_of_lt (Nat.lt_of_lt_of_le f335.lt (Nat.le_of_eq g336.symm))
    have ne340 : b317 ≠ b336 := Nat.ne_of_lt (Nat.lt_of_lt_of_le f330.lt (Nat.le_of_eq g336.symm))
    have ga341 : n0 ≤ b336 := Nat.le_trans f331 (Nat.le_of_eq g336.symm)
    have sz342 : h0.size ≤ b336 := Nat.le_trans f332.1 (Nat.le_of_eq g336.symm)
    have V336 : Arv Z h336 b336 k336 (.object "com/example/libsld/libsld/Term") (4 : Int32) [.null, .null, .null, .null] .null := (Arv.new A336 (by decide)).pad (pad_rep [] .null 4)
    have f343 := Nat.le_trans f331 E336.1
    have f344 := f332.ext E336
    have f345 := f333.ext E336
    have f346 := f334.ext E336
    have f347 := f335.ext E336
    have f348 := f330.ext E336
    obtain ⟨T349, h349, X349, e349, E349, A349, D349, -, st349⟩ := newO X336 hx hZ hown (own_i hw 16 rfl) (own_i hw 17 rfl) (own_i hw 18 rfl) e336 (g := (mkF m 64 #[.val (.int p1), .val (.int p2), .val (.int p3), .val (.int (2 : Int32)), .val (.int ((p2 &&& (2147483647 : Int32)) % (2 : Int32))), .val (.ref b278), .val (.ref b288), .val (.ref b301), .val (.ref b317), .val (.ref b336), .unset] [])) rfl (hb hby at_64) (by decide) (by decide)
    obtain ⟨b349, g349⟩ : ∃ z, z = h336.size := ⟨_, rfl⟩
    rw [← g349] at A349 D349 st349
    have ne350 : b278 ≠ b349 := Nat.ne_of_lt (Nat.lt_of_lt_of_le f345.lt (Nat.le_of_eq g349.symm))
    have ne351 : b288 ≠ b349 := Nat.ne_of_lt (Nat.lt_of_lt_of_le f346.lt (Nat.le_of_eq g349.symm))
    have ne352 : b301 ≠ b349 := Nat.ne_of_lt (Nat.lt_of_lt_of_le f347.lt (Nat.le_of_eq g349.symm))
    have ne353 : b317 ≠ b349 := Nat.ne_of_lt (Nat.lt_of_lt_of_le f348.lt (Nat.le_of_eq g349.symm))
    have ne354 : b336 ≠ b349 := Nat.ne_of_lt (Nat.lt_of_lt_of_le V336.lt (Nat.le_of_eq g349.symm))
    have ga355 : n0 ≤ b349 := Nat.le_trans f343 (Nat.le_of_eq g349.symm)
    have sz356 : h0.size ≤ b349 := Nat.le_trans f344.1 (Nat.le_of_eq g349.symm)
    have f357 : Fld Z h349 b349 "com/example/libsld/libsld/Struct" "name" "Ljava/lang/String;" .null := D349 (Or.inr (own_i hw 32 rfl)) (ty := (.object "java/lang/String")) (by decide)
    have f358 : Fld Z h349 b349 "com/example/libsld/libsld/Struct" "arity" "I" (.int (0 : Int32)) := D349 (Or.inr (own_i hw 34 rfl)) (ty := .int) (by decide)
    have f359 : Fld Z h349 b349 "com/example/libsld/libsld/Struct" "rest" "[Lcom/example/libsld/libsld/Term;" .null := D349 (Or.inr (own_i hw 36 rfl)) (ty := (.array (.object "com/example/libsld/libsld/Term"))) (by decide)
    have f360 : Fld Z h349 b349 "com/example/libsld/libsld/Struct" "first" "Lcom/example/libsld/libsld/Term;" .null := D349 (Or.inl (own_i hw 43 rfl)) (ty := (.object "com/example/libsld/libsld/Term")) (by decide)
    have f361 : Fld Z h349 b349 "com/example/libsld/libsld/Struct" "second" "Lcom/example/libsld/libsld/Term;" .null := D349 (Or.inl (own_i hw 51 rfl)) (ty := (.object "com/example/libsld/libsld/Term")) (by decide)
    have f362 := Nat.le_trans f343 E349.1
    have f363 := f344.ext E349
    have f364 := f345.ext E349
    have f365 := f346.ext E349
    have f366 := f347.ext E349
    have f367 := f348.ext E349
    have f368 := V336.ext E349
    obtain ⟨a369, T369, h369, k369, X369, e369, E369, hS369, hk369, hZ369, ho369, st369⟩ := ldcS (s := s) (vm0 := s.vm) X349 hx hZ hown (own_i hw 19 rfl) hwS e349 hS0 (Nat.zero_le _) (g := (mkF m 68 #[.val (.int p1), .val (.int p2), .val (.int p3), .val (.int (2 : Int32)), .val (.int ((p2 &&& (2147483647 : Int32)) % (2 : Int32))), .val (.ref b278), .val (.ref b288), .val (.ref b301), .val (.ref b317), .val (.ref b336), .unset] [(.ref b349), (.ref b349)])) rfl (hb hby at_68) (n := 4) (by decide) (by decide) (by decide) (by decide)
    have f370 := Nat.le_trans f362 E369.1
    have f371 := f363.ext E369
    have f372 := f364.ext E369
    have f373 := f365.ext E369
    have f374 := f366.ext E369
    have f375 := f367.ext E369
    have f376 := f368.ext E369
    have f377 := A349.ext E369
    have f378 := f357.ext E369
    have f379 := f358.ext E369
    have f380 := f359.ext E369
    have f381 := f360.ext E369
    have f382 := f361.ext E369
    obtain ⟨_, _, ⟨T383, L383, k383, n383⟩, -, X383, ⟨Lc383, hQ383, l383, y383, z383⟩, st383⟩ := X369.specialBack hx (y := (⟨"com/example/libsld/libsld/Struct", "<init>", "(Ljava/lang/String;I)V"⟩ : MethodName)) rfl ho369 (mvT hZ369 (own_i hw 27 rfl)) (mvT hZ369 (own_i hw 28 rfl)) (mvT hZ369 (own_i hw 29 rfl)) (by decide) (backOf (W := 1) (rm3_2 l Z a0 hw [] b349 a369 h369 n0 f370 f381 f382 f380 f379 f378 f377 ga355) hZ369 (own_i hw 29 rfl) (own_i hw 18 rfl) (by decide) (by decide)) (g := (mkF m 71 #[.val (.int p1), .val (.int p2), .val (.int p3), .val (.int (2 : Int32)), .val (.int ((p2 &&& (2147483647 : Int32)) % (2 : Int32))), .val (.ref b278), .val (.ref b288), .val (.ref b301), .val (.ref b317), .val (.ref b336), .unset] [(.int (2 : Int32)), (.ref a369), (.ref b349), (.ref b349)])) rfl (by rw [hml]; rfl) (Steps.refl _) (a := b349) (argsL := [(.ref a369), (.int (2 : Int32))]) (rest := [(.ref b349)]) (lenOf pd_1 rfl) rfl (by show 2 * 0 + _ ≤ _; exact Nat.le_of_eq rfl) (hb hby at_71) (fun _ _ => ⟨rfl, e369, (by decide : 8 + 0 ≤ _), (by decide : 25 + 0 ≤ _)⟩)
    dsimp only [Pt.U, Pt.locs, Pt.cells, Pt.slots] at X383 l383 y383 z383 st383 hQ383
    subst l383 y383 z383
    obtain ⟨rfl, N383q, K383, f384, f385, f386, f387, f388⟩ := hQ383
    have N383 := Fr.app N329 N383q
    have f389 := Nat.le_trans f370 K383.1
    have f390 := f371.trans K383 (allS (Or.inr sz356) all0)
    have f391 := f372.keep K383
    have f392 := f373.keep K383
    have f393 := f374.keep K383
    have f394 := f375.keep K383
    have f395 := f376.keep K383 (ninS ne354 nin0)
    have f396 := Nat.le_trans hk369 K383.1
    have pre397 : ∀ t, Steps p.tables e below (T383.setTop (mkF m 76 #[.val (.int p1), .val (.int p2), .val (.int p3), .val (.int (2 : Int32)), .val (.int ((p2 &&& (2147483647 : Int32)) % (2 : Int32))), .val (.ref b278), .val (.ref b288), .val (.ref b301), .val (.ref b317), .val (.ref b336), .val (.ref b349)] [])) t → Steps p.tables e below (s₁.setTop (entryFrame m #[(.int p1), (.int p2), (.int p3)] maxLocals)) t := fun t k => pre277 t (by
      show Steps p.tables e below (s₁.setTop (mkF m 6 #[.val (.int p1), .val (.int p2), .val (.int p3), .val (.int (2 : Int32)), .unset, .unset, .unset, .unset, .unset, .unset, .unset] [])) t
      refine XS.iloadN X0.here hx rfl (hb hby at_6) rfl ?_
      show Steps p.tables e below (s₁.setTop (mkF m 7 #[.val (.int p1), .val (.int p2), .val (.int p3), .val (.int (2 : Int32)), .unset, .unset, .unset, .unset, .unset, .unset, .unset] [(.int p2)])) t
      refine X0.ldcInt hx hown (mvT hZ (own_i hw 0 rfl)) (g := (mkF m 7 #[.val (.int p1), .val (.int p2), .val (.int p3), .val (.int (2 : Int32)), .unset, .unset, .unset, .unset, .unset, .unset, .unset] [(.int p2)])) rfl (hb hby at_7) _ ?_
      show Steps p.tables e below (s₁.setTop (mkF m 9 #[.val (.int p1), .val (.int p2), .val (.int p3), .val (.int (2 : Int32)), .unset, .unset, .unset, .unset, .unset, .unset, .unset] [(.int (2147483647 : Int32)), (.int p2)])) t
      refine XS.iand X0.here hx rfl (hb hby at_9) rfl ?_
      show Steps p.tables e below (s₁.setTop (mkF m 10 #[.val (.int p1), .val (.int p2), .val (.int p3), .val (.int (2 : Int32)), .unset, .unset, .unset, .unset, .unset, .unset, .unset] [(.int (p2 &&& (2147483647 : Int32)))])) t
      refine XS.iloadN X0.here hx rfl (hb hby at_10) rfl ?_
      show Steps p.tables e below (s₁.setTop (mkF m 11 #[.val (.int p1), .val (.int p2), .val (.int p3), .val (.int (2 : Int32)), .unset, .unset, .unset, .unset, .unset, .unset, .unset] [(.int (2 : Int32)), (.int (p2 &&& (2147483647 : Int32)))])) t
      refine iremM (g := (mkF m 11 #[.val (.int p1), .val (.int p2), .val (.int p3), .val (.int (2 : Int32)), .unset, .unset, .unset, .unset, .unset, .unset, .unset] [(.int (2 : Int32)), (.int (p2 &&& (2147483647 : Int32)))])) X0 hx rfl (hb hby at_11) rfl (by decide) ?_
      show Steps p.tables e below (s₁.setTop (mkF m 12 #[.val (.int p1), .val (.int p2), .val (.int p3), .val (.int (2 : Int32)), .unset, .unset, .unset, .unset, .unset, .unset, .unset] [(.int ((p2 &&& (2147483647 : Int32)) % (2 : Int32)))])) t
      refine XS.istore X0.here hx rfl (hb hby at_12) rfl (l' := #[.val (.int p1), .val (.int p2), .val (.int p3), .val (.int (2 : Int32)), .val (.int ((p2 &&& (2147483647 : Int32)) % (2 : Int32))), .unset, .unset, .unset, .unset, .unset, .unset]) rfl ?_
      show Steps p.tables e below (s₁.setTop (mkF m 14 #[.val (.int p1), .val (.int p2), .val (.int p3), .val (.int (2 : Int32)), .val (.int ((p2 &&& (2147483647 : Int32)) % (2 : Int32))), .unset, .unset, .unset, .unset, .unset, .unset] [])) t
      refine st278 _ ?_
      show Steps p.tables e below (T278.setTop (mkF m 17 #[.val (.int p1), .val (.int p2), .val (.int p3), .val (.int (2 : Int32)), .val (.int ((p2 &&& (2147483647 : Int32)) % (2 : Int32))), .unset, .unset, .unset, .unset, .unset, .unset] [(.ref b278)])) t
      refine XS.dup X278.here hx rfl (hb hby at_17) rfl rfl ?_
      show Steps p.tables e below (T278.setTop (mkF m 18 #[.val (.int p1), .val (.int p2), .val (.int p3), .val (.int (2 : Int32)), .val (.int ((p2 &&& (2147483647 : Int32)) % (2 : Int32))), .unset, .unset, .unset, .unset, .unset, .unset] [(.ref b278), (.ref b278)])) t
      refine XS.lconst X278.here hx rfl (hb hby at_18) ?_
      show Steps p.tables e below (T278.setTop (mkF m 19 #[.val (.int p1), .val (.int p2), .val (.int p3), .val (.int (2 : Int32)), .val (.int ((p2 &&& (2147483647 : Int32)) % (2 : Int32))), .unset, .unset, .unset, .unset, .unset, .unset] [(.long (0 : Int64)), (.ref b278), (.ref b278)])) t
      refine st284.trans ?_
      show Steps p.tables e below (T284.setTop (mkF m 22 #[.val (.int p1), .val (.int p2), .val (.int p3), .val (.int (2 : Int32)), .val (.int ((p2 &&& (2147483647 : Int32)) % (2 : Int32))), .unset, .unset, .unset, .unset, .unset, .unset] [(.ref b278)])) t
      refine XS.astore X284.here hx rfl (hb hby at_22) rfl rfl (l' := #[.val (.int p1), .val (.int p2), .val (.int p3), .val (.int (2 : Int32)), .val (.int ((p2 &&& (2147483647 : Int32)) % (2 : Int32))), .val (.ref b278), .unset, .unset, .unset, .unset, .unset]) rfl ?_
      show Steps p.tables e below (T284.setTop (mkF m 24 #[.val (.int p1), .val (.int p2), .val (.int p3), .val (.int (2 : Int32)), .val (.int ((p2 &&& (2147483647 : Int32)) % (2 : Int32))), .val (.ref b278), .unset, .unset, .unset, .unset, .unset] [])) t
      refine st288 _ ?_
      show Steps p.tables e below (T288.setTop (mkF m 27 #[.val (.int p1), .val (.int p2), .val (.int p3), .val (.int (2 : Int32)), .val (.int ((p2 &&& (2147483647 : Int32)) % (2 : Int32))), .val (.ref b278), .unset, .unset, .unset, .unset, .unset] [(.ref b288)])) t
      refine XS.dup X288.here hx rfl (hb hby at_27) rfl rfl ?_
      show Steps p.tables e below (T288.setTop (mkF m 28 #[.val (.int p1), .val (.int p2), .val (.int p3), .val (.int (2 : Int32)), .val (.int ((p2 &&& (2147483647 : Int32)) % (2 : Int32))), .val (.ref b278), .unset, .unset, .unset, .unset, .unset] [(.ref b288), (.ref b288)])) t
      refine XS.lconst X288.here hx rfl (hb hby at_28) ?_
      show Steps p.tables e below (T288.setTop (mkF m 29 #[.val (.int p1), .val (.int p2), .val (.int p3), .val (.int (2 : Int32)), .val (.int ((p2 &&& (2147483647 : Int32)) % (2 : Int32))), .val (.ref b278), .unset, .unset, .unset, .unset, .unset] [(.long (1 : Int64)), (.ref b288), (.ref b288)])) t
      refine st296.trans ?_
      show Steps p.tables e below (T296.setTop (mkF m 32 #[.val (.int p1), .val (.int p2), .val (.int p3), .val (.int (2 : Int32)), .val (.int ((p2 &&& (2147483647 : Int32)) % (2 : Int32))), .val (.ref b278), .unset, .unset, .unset, .unset, .unset] [(.ref b288)])) t
      refine XS.astore X296.here hx rfl (hb hby at_32) rfl rfl (l' := #[.val (.int p1), .val (.int p2), .val (.int p3), .val (.int (2 : Int32)), .val (.int ((p2 &&& (2147483647 : Int32)) % (2 : Int32))), .val (.ref b278), .val (.ref b288), .unset, .unset, .unset, .unset]) rfl ?_
      show Steps p.tables e below (T296.setTop (mkF m 34 #[.val (.int p1), .val (.int p2), .val (.int p3), .val (.int (2 : Int32)), .val (.int ((p2 &&& (2147483647 : Int32)) % (2 : Int32))), .val (.ref b278), .val (.ref b288), .unset, .unset, .unset, .unset] [])) t
      refine st301 _ ?_
      show Steps p.tables e below (T301.setTop (mkF m 37 #[.val (.int p1), .val (.int p2), .val (.int p3), .val (.int (2 : Int32)), .val (.int ((p2 &&& (2147483647 : Int32)) % (2 : Int32))), .val (.ref b278), .val (.ref b288), .unset, .unset, .unset, .unset] [(.ref b301)])) t
      refine XS.dup X301.here hx rfl (hb hby at_37) rfl rfl ?_
      show Steps p.tables e below (T301.setTop (mkF m 38 #[.val (.int p1), .val (.int p2), .val (.int p3), .val (.int (2 : Int32)), .val (.int ((p2 &&& (2147483647 : Int32)) % (2 : Int32))), .val (.ref b278), .val (.ref b288), .unset, .unset, .unset, .unset] [(.ref b301), (.ref b301)])) t
      refine X301.ldc2Long hx hown (mvT hZ (own_i hw 12 rfl)) (g := (mkF m 38 #[.val (.int p1), .val (.int p2), .val (.int p3), .val (.int (2 : Int32)), .val (.int ((p2 &&& (2147483647 : Int32)) % (2 : Int32))), .val (.ref b278), .val (.ref b288), .unset, .unset, .unset, .unset] [(.ref b301), (.ref b301)])) rfl (hb hby at_38) _ ?_
      show Steps p.tables e below (T301.setTop (mkF m 41 #[.val (.int p1), .val (.int p2), .val (.int p3), .val (.int (2 : Int32)), .val (.int ((p2 &&& (2147483647 : Int32)) % (2 : Int32))), .val (.ref b278), .val (.ref b288), .unset, .unset, .unset, .unset] [(.long (2 : Int64)), (.ref b301), (.ref b301)])) t
      refine st311.trans ?_
      show Steps p.tables e below (T311.setTop (mkF m 44 #[.val (.int p1), .val (.int p2), .val (.int p3), .val (.int (2 : Int32)), .val (.int ((p2 &&& (2147483647 : Int32)) % (2 : Int32))), .val (.ref b278), .val (.ref b288), .unset, .unset, .unset, .unset] [(.ref b301)])) t
      refine XS.astore X311.here hx rfl (hb hby at_44) rfl rfl (l' := #[.val (.int p1), .val (.int p2), .val (.int p3), .val (.int (2 : Int32)), .val (.int ((p2 &&& (2147483647 : Int32)) % (2 : Int32))), .val (.ref b278), .val (.ref b288), .val (.ref b301), .unset, .unset, .unset]) rfl ?_
      show Steps p.tables e below (T311.setTop (mkF m 46 #[.val (.int p1), .val (.int p2), .val (.int p3), .val (.int (2 : Int32)), .val (.int ((p2 &&& (2147483647 : Int32)) % (2 : Int32))), .val (.ref b278), .val (.ref b288), .val (.ref b301), .unset, .unset, .unset] [])) t
      refine st317 _ ?_
      show Steps p.tables e below (T317.setTop (mkF m 49 #[.val (.int p1), .val (.int p2), .val (.int p3), .val (.int (2 : Int32)), .val (.int ((p2 &&& (2147483647 : Int32)) % (2 : Int32))), .val (.ref b278), .val (.ref b288), .val (.ref b301), .unset, .unset, .unset] [(.ref b317)])) t
      refine XS.dup X317.here hx rfl (hb hby at_49) rfl rfl ?_
      show Steps p.tables e below (T317.setTop (mkF m 50 #[.val (.int p1), .val (.int p2), .val (.int p3), .val (.int (2 : Int32)), .val (.int ((p2 &&& (2147483647 : Int32)) % (2 : Int32))), .val (.ref b278), .val (.ref b288), .val (.ref b301), .unset, .unset, .unset] [(.ref b317), (.ref b317)])) t
      refine X317.ldc2Long hx hown (mvT hZ (own_i hw 13 rfl)) (g := (mkF m 50 #[.val (.int p1), .val (.int p2), .val (.int p3), .val (.int (2 : Int32)), .val (.int ((p2 &&& (2147483647 : Int32)) % (2 : Int32))), .val (.ref b278), .val (.ref b288), .val (.ref b301), .unset, .unset, .unset] [(.ref b317), (.ref b317)])) rfl (hb hby at_50) _ ?_
      show Steps p.tables e below (T317.setTop (mkF m 53 #[.val (.int p1), .val (.int p2), .val (.int p3), .val (.int (2 : Int32)), .val (.int ((p2 &&& (2147483647 : Int32)) % (2 : Int32))), .val (.ref b278), .val (.ref b288), .val (.ref b301), .unset, .unset, .unset] [(.long (3 : Int64)), (.ref b317), (.ref b317)])) t
      refine st329.trans ?_
      show Steps p.tables e below (T329.setTop (mkF m 56 #[.val (.int p1), .val (.int p2), .val (.int p3), .val (.int (2 : Int32)), .val (.int ((p2 &&& (2147483647 : Int32)) % (2 : Int32))), .val (.ref b278), .val (.ref b288), .val (.ref b301), .unset, .unset, .unset] [(.ref b317)])) t
      refine XS.astore X329.here hx rfl (hb hby at_56) rfl rfl (l' := #[.val (.int p1), .val (.int p2), .val (.int p3), .val (.int (2 : Int32)), .val (.int ((p2 &&& (2147483647 : Int32)) % (2 : Int32))), .val (.ref b278), .val (.ref b288), .val (.ref b301), .val (.ref b317), .unset, .unset]) rfl ?_
      show Steps p.tables e below (T329.setTop (mkF m 58 #[.val (.int p1), .val (.int p2), .val (.int p3), .val (.int (2 : Int32)), .val (.int ((p2 &&& (2147483647 : Int32)) % (2 : Int32))), .val (.ref b278), .val (.ref b288), .val (.ref b301), .val (.ref b317), .unset, .unset] [])) t
      refine XS.iconst X329.here hx rfl (hb hby at_58) ?_
      show Steps p.tables e below (T329.setTop (mkF m 59 #[.val (.int p1), .val (.int p2), .val (.int p3), .val (.int (2 : Int32)), .val (.int ((p2 &&& (2147483647 : Int32)) % (2 : Int32))), .val (.ref b278), .val (.ref b288), .val (.ref b301), .val (.ref b317), .unset, .unset] [(.int (4 : Int32))])) t
      refine st336 _ ?_
      show Steps p.tables e below (T336.setTop (mkF m 62 #[.val (.int p1), .val (.int p2), .val (.int p3), .val (.int (2 : Int32)), .val (.int ((p2 &&& (2147483647 : Int32)) % (2 : Int32))), .val (.ref b278), .val (.ref b288), .val (.ref b301), .val (.ref b317), .unset, .unset] [(.ref b336)])) t
      refine XS.astore X336.here hx rfl (hb hby at_62) rfl rfl (l' := #[.val (.int p1), .val (.int p2), .val (.int p3), .val (.int (2 : Int32)), .val (.int ((p2 &&& (2147483647 : Int32)) % (2 : Int32))), .val (.ref b278), .val (.ref b288), .val (.ref b301), .val (.ref b317), .val (.ref b336), .unset]) rfl ?_
      show Steps p.tables e below (T336.setTop (mkF m 64 #[.val (.int p1), .val (.int p2), .val (.int p3), .val (.int (2 : Int32)), .val (.int ((p2 &&& (2147483647 : Int32)) % (2 : Int32))), .val (.ref b278), .val (.ref b288), .val (.ref b301), .val (.ref b317), .val (.ref b336), .unset] [])) t
      refine st349 _ ?_
      show Steps p.tables e below (T349.setTop (mkF m 67 #[.val (.int p1), .val (.int p2), .val (.int p3), .val (.int (2 : Int32)), .val (.int ((p2 &&& (2147483647 : Int32)) % (2 : Int32))), .val (.ref b278), .val (.ref b288), .val (.ref b301), .val (.ref b317), .val (.ref b336), .unset] [(.ref b349)])) t
      refine XS.dup X349.here hx rfl (hb hby at_67) rfl rfl ?_
      show Steps p.tables e below (T349.setTop (mkF m 68 #[.val (.int p1), .val (.int p2), .val (.int p3), .val (.int (2 : Int32)), .val (.int ((p2 &&& (2147483647 : Int32)) % (2 : Int32))), .val (.ref b278), .val (.ref b288), .val (.ref b301), .val (.ref b317), .val (.ref b336), .unset] [(.ref b349), (.ref b349)])) t
      refine st369 _ ?_
      show Steps p.tables e below (T369.setTop (mkF m 70 #[.val (.int p1), .val (.int p2), .val (.int p3), .val (.int (2 : Int32)), .val (.int ((p2 &&& (2147483647 : Int32)) % (2 : Int32))), .val (.ref b278), .val (.ref b288), .val (.ref b301), .val (.ref b317), .val (.ref b336), .unset] [(.ref a369), (.ref b349), (.ref b349)])) t
      refine XS.iloadN X369.here hx rfl (hb hby at_70) rfl ?_
      show Steps p.tables e below (T369.setTop (mkF m 71 #[.val (.int p1), .val (.int p2), .val (.int p3), .val (.int (2 : Int32)), .val (.int ((p2 &&& (2147483647 : Int32)) % (2 : Int32))), .val (.ref b278), .val (.ref b288), .val (.ref b301), .val (.ref b317), .val (.ref b336), .unset] [(.int (2 : Int32)), (.ref a369), (.ref b349), (.ref b349)])) t
      refine st383.trans ?_
      show Steps p.tables e below (T383.setTop (mkF m 74 #[.val (.int p1), .val (.int p2), .val (.int p3), .val (.int (2 : Int32)), .val (.int ((p2 &&& (2147483647 : Int32)) % (2 : Int32))), .val (.ref b278), .val (.ref b288), .val (.ref b301), .val (.ref b317), .val (.ref b336), .unset] [(.ref b349)])) t
      refine XS.astore X383.here hx rfl (hb hby at_74) rfl rfl (l' := #[.val (.int p1), .val (.int p2), .val (.int p3), .val (.int (2 : Int32)), .val (.int ((p2 &&& (2147483647 : Int32)) % (2 : Int32))), .val (.ref b278), .val (.ref b288), .val (.ref b301), .val (.ref b317), .val (.ref b336), .val (.ref b349)]) rfl ?_
      exact k)
    obtain ⟨T429, L429, h429, f0, X429, e429, N429, f430, f431, f432, f433, f434, f435, f436, f437, f438, f439, f440, f441, f442, hp443, hP429, pre429⟩ : ∃ (T' : State) (L' : List Loc) (h' : Heap) (f0 : Value), Stand p l e room_1 (s.setVm T369.vm) m #[(.int p1), (.int p2), (.int p3)] below meth c T' L' 8 25 ∧ T'.heap = h' ∧ Fr n0 L' ∧ n0 ≤ h'.size ∧ Keep h0 h' [] ∧ Exa Z h' b278 "com/example/libsld/libsld/Var" ∧ Exa Z h' b288 "com/example/libsld/libsld/Var" ∧ Exa Z h' b301 "com/example/libsld/libsld/Var" ∧ Exa Z h' b317 "com/example/libsld/libsld/Var" ∧ Exa Z h' b349 "com/example/libsld/libsld/Struct" ∧ k369 ≤ h'.size ∧ Fld Z h' b349 "com/example/libsld/libsld/Struct" "second" "Lcom/example/libsld/libsld/Term;" .null ∧ Fld Z h' b349 "com/example/libsld/libsld/Struct" "arity" "I" (.int (2 : Int32)) ∧ Fld Z h' b349 "com/example/libsld/libsld/Struct" "rest" "[Lcom/example/libsld/libsld/Term;" .null ∧ Arv Z h' b336 k336 (.object "com/example/libsld/libsld/Term") (4 : Int32) [f0, .null, .null, .null] .null ∧ Fld Z h' b349 "com/example/libsld/libsld/Struct" "first" "Lcom/example/libsld/libsld/Term;" f0 ∧ (f0.isRef = true) ∧ (True) ∧ ∀ t, Steps p.tables e below (T'.setTop (mkF m 96 #[.val (.int p1), .val (.int p2), .val (.int p3), .val (.int (2 : Int32)), .val (.int ((p2 &&& (2147483647 : Int32)) % (2 : Int32))), .val (.ref b278), .val (.ref b288), .val (.ref b301), .val (.ref b317), .val (.ref b336), .val (.ref b349)] [])) t → Steps p.tables e below (s₁.setTop (entryFrame m #[(.int p1), (.int p2), (.int p3)] maxLocals)) t := by
      have pre399 : ∀ t, Steps p.tables e below (T383.setTop (mkF m 79 #[.val (.int p1), .val (.int p2), .val (.int p3), .val (.int (2 : Int32)), .val (.int ((p2 &&& (2147483647 : Int32)) % (2 : Int32))), .val (.ref b278), .val (.ref b288), .val (.ref b301), .val (.ref b317), .val (.ref b336), .val (.ref b349)] [(.int (p3 &&& (1 : Int32)))])) t → Steps p.tables e below (s₁.setTop (entryFrame m #[(.int p1), (.int p2), (.int p3)] maxLocals)) t := fun t k => pre397 t (by
        show Steps p.tables e below (T383.setTop (mkF m 76 #[.val (.int p1), .val (.int p2), .val (.int p3), .val (.int (2 : Int32)), .val (.int ((p2 &&& (2147483647 : Int32)) % (2 : Int32))), .val (.ref b278), .val (.ref b288), .val (.ref b301), .val (.ref b317), .val (.ref b336), .val (.ref b349)] [])) t
        refine XS.iloadN X383.here hx rfl (hb hby at_76) rfl ?_
        show Steps p.tables e below (T383.setTop (mkF m 77 #[.val (.int p1), .val (.int p2), .val (.int p3), .val (.int (2 : Int32)), .val (.int ((p2 &&& (2147483647 : Int32)) % (2 : Int32))), .val (.ref b278), .val (.ref b288), .val (.ref b301), .val (.ref b317), .val (.ref b336), .val (.ref b349)] [(.int p3)])) t
        refine XS.iconst X383.here hx rfl (hb hby at_77) ?_
        show Steps p.tables e below (T383.setTop (mkF m 78 #[.val (.int p1), .val (.int p2), .val (.int p3), .val (.int (2 : Int32)), .val (.int ((p2 &&& (2147483647 : Int32)) % (2 : Int32))), .val (.ref b278), .val (.ref b288), .val (.ref b301), .val (.ref b317), .val (.ref b336), .val (.ref b349)] [(.int (1 : Int32)), (.int p3)])) t
        refine XS.iand X383.here hx rfl (hb hby at_78) rfl ?_
        exact k)
      by_cases hc398 : (p3 &&& (1 : Int32)) = (0 : Int32)
      · have pre400 : ∀ t, Steps p.tables e below (T383.setTop (mkF m 96 #[.val (.int p1), .val (.int p2), .val (.int p3), .val (.int (2 : Int32)), .val (.int ((p2 &&& (2147483647 : Int32)) % (2 : Int32))), .val (.ref b278), .val (.ref b288), .val (.ref b301), .val (.ref b317), .val (.ref b336), .val (.ref b349)] [])) t → Steps p.tables e below (s₁.setTop (entryFrame m #[(.int p1), (.int p2), (.int p3)] maxLocals)) t := fun t k => pre399 t (by
          show Steps p.tables e below (T383.setTop (mkF m 79 #[.val (.int p1), .val (.int p2), .val (.int p3), .val (.int (2 : Int32)), .val (.int ((p2 &&& (2147483647 : Int32)) % (2 : Int32))), .val (.ref b278), .val (.ref b288), .val (.ref b301), .val (.ref b317), .val (.ref b336), .val (.ref b349)] [(.int (p3 &&& (1 : Int32)))])) t
          refine XS.ifYes X383.here hx rfl (pc0 := 79) (pc' := 96) rfl (hb hby at_79) rfl ((if0 _ _).trans (teq hc398).1) (by decide) (by decide) ?_
          exact k)
        exact ⟨_, _, T383.heap, .null, X383, rfl, N383, f389, f390, f391, f392, f393, f394, f384, f396, f386, f387, f388, f395, f385, (by rfl), (by trivial), pre400⟩
      · obtain ⟨cq401, kq401, q401a, q401b, q401c⟩ := isOf hZ369 rfl f384
        obtain ⟨_, _, ⟨T401, L401, k401, n401⟩, -, X401, ⟨Lc401, hQ401, l401, y401, z401⟩, st401⟩ := X383.virtualBack hx (y := (⟨"com/example/libsld/libsld/Struct", "setArg", "(ILcom/example/libsld/libsld/Term;)V"⟩ : MethodName)) (z := (⟨"com/example/libsld/libsld/Struct", "setArg", "(ILcom/example/libsld/libsld/Term;)V"⟩ : MethodName)) ho369 (mvT hZ369 (own_i hw 44 rfl)) (mvT hZ369 (own_i hw 45 rfl)) (notFace_of_selects (args := #[]) (mvT hZ369 (own_i hw 47 rfl))) (mvT hZ369 (own_i hw 47 rfl)) (mvT hZ369 (own_i hw 46 rfl)) (by decide) (backOf (W := 0) (rm5_0 l Z a0 hw [] b349 b278 .null .null .null (2 : Int32) T383.heap n0 f389 f385 f386 f388 f387 f384 ga355) hZ369 (own_i hw 48 rfl) (own_i hw 18 rfl) (by decide) (by decide)) q401a q401c (g := (mkF m 87 #[.val (.int p1), .val (.int p2), .val (.int p3), .val (.int (2 : Int32)), .val (.int ((p2 &&& (2147483647 : Int32)) % (2 : Int32))), .val (.ref b278), .val (.ref b288), .val (.ref b301), .val (.ref b317), .val (.ref b336), .val (.ref b349)] [(.ref b278), (.int (0 : Int32)), (.ref b349)])) rfl (by rw [hml]; rfl) (Steps.refl _) (argsL := [(.int (0 : Int32)), (.ref b278)]) (rest := []) (lenOf pd_2 rfl) rfl (by show 2 * 0 + _ ≤ _; exact Nat.le_of_eq rfl) (hb hby at_87) (fun _ _ => ⟨rfl, rfl, (by decide : 8 + 0 ≤ _), (by decide : 25 + 0 ≤ _)⟩)
        dsimp only [Pt.U, Pt.locs, Pt.cells, Pt.slots] at X401 l401 y401 z401 st401 hQ401
        subst l401 y401 z401
        obtain ⟨rfl, N401q, K401, f402, f403, f404, f405, f406⟩ := hQ401
        have N401 := Fr.app N383 N401q
        have f407 := Nat.le_trans f389 K401.1
        have f408 := f390.trans K401 (allS (Or.inr sz356) all0)
        have f409 := f391.keep K401
        have f410 := f392.keep K401
        have f411 := f393.keep K401
        have f412 := f394.keep K401
        have f413 := f395.keep K401 (ninS ne354 nin0)
        have f414 := Nat.le_trans f396 K401.1
        obtain ⟨cl415, Ar415, q415, S415, N415z, H415, G415⟩ := (id f413)
        have hin415 : ¬ ((0 : Int32) < 0 ∨ cl415.slots.size ≤ ((0 : Int32)).toNatClampNeg) := inb_of S415 ⟨by decide, by decide⟩
        obtain ⟨T415, h415, X415, e415, W415, st415⟩ := stR X401 hx hZ369 rfl Ar415 (j := (0 : Int32)) hin415 rfl (Sto.ofV Ar415 q415 O336 (Ins.of_exa f409 (own_i hw 49 rfl))) (g := (mkF m 95 #[.val (.int p1), .val (.int p2), .val (.int p3), .val (.int (2 : Int32)), .val (.int ((p2 &&& (2147483647 : Int32)) % (2 : Int32))), .val (.ref b278), .val (.ref b288), .val (.ref b301), .val (.ref b317), .val (.ref b336), .val (.ref b349)] [(.ref b278), (.int (0 : Int32)), (.ref b336)])) rfl rfl (hb hby at_95)
        have V415 : Arv Z h415 b336 k336 (.object "com/example/libsld/libsld/Term") (4 : Int32) [(.ref b278), .null, .null, .null] .null := Arv.set Ar415 q415 S415 N415z H415 G415 rfl W415 0 rfl (Nat.le_of_ble_eq_true rfl)
        have N415 := Fr.snoc X415 N401 ga341
        have f416 := Nat.le_trans f407 (Keep.of_wr W415).1
        have f417 := f408.wr W415 (Or.inr sz342)
        have f418 := f409.wr W415
        have f419 := f410.wr W415
        have f420 := f411.wr W415
        have f421 := f412.wr W415
        have f422 := f402.wr W415
        have f423 := Nat.le_trans f414 (Keep.of_wr W415).1
        have f424 := f403.other W415 (Or.inl (Ne.symm ne354))
        have f425 := f404.other W415 (Or.inl (Ne.symm ne354))
        have f426 := f405.other W415 (Or.inl (Ne.symm ne354))
        have f427 := f406.other W415 (Or.inl (Ne.symm ne354))
        have pre428 : ∀ t, Steps p.tables e below (T415.setTop (mkF m 96 #[.val (.int p1), .val (.int p2), .val (.int p3), .val (.int (2 : Int32)), .val (.int ((p2 &&& (2147483647 : Int32)) % (2 : Int32))), .val (.ref b278), .val (.ref b288), .val (.ref b301), .val (.ref b317), .val (.ref b336), .val (.ref b349)] [])) t → Steps p.tables e below (s₁.setTop (entryFrame m #[(.int p1), (.int p2), (.int p3)] maxLocals)) t := fun t k => pre399 t (by
          show Steps p.tables e below (T383.setTop (mkF m 79 #[.val (.int p1), .val (.int p2), .val (.int p3), .val (.int (2 : Int32)), .val (.int ((p2 &&& (2147483647 : Int32)) % (2 : Int32))), .val (.ref b278), .val (.ref b288), .val (.ref b301), .val (.ref b317), .val (.ref b336), .val (.ref b349)] [(.int (p3 &&& (1 : Int32)))])) t
          refine XS.ifNo X383.here hx rfl (hb hby at_79) rfl ((if0 _ _).trans (feq hc398).1) ?_
          show Steps p.tables e below (T383.setTop (mkF m 82 #[.val (.int p1), .val (.int p2), .val (.int p3), .val (.int (2 : Int32)), .val (.int ((p2 &&& (2147483647 : Int32)) % (2 : Int32))), .val (.ref b278), .val (.ref b288), .val (.ref b301), .val (.ref b317), .val (.ref b336), .val (.ref b349)] [])) t
          refine XS.aload X383.here hx rfl (hb hby at_82) rfl rfl ?_
          show Steps p.tables e below (T383.setTop (mkF m 84 #[.val (.int p1), .val (.int p2), .val (.int p3), .val (.int (2 : Int32)), .val (.int ((p2 &&& (2147483647 : Int32)) % (2 : Int32))), .val (.ref b278), .val (.ref b288), .val (.ref b301), .val (.ref b317), .val (.ref b336), .val (.ref b349)] [(.ref b349)])) t
          refine XS.iconst X383.here hx rfl (hb hby at_84) ?_
          show Steps p.tables e below (T383.setTop (mkF m 85 #[.val (.int p1), .val (.int p2), .val (.int p3), .val (.int (2 : Int32)), .val (.int ((p2 &&& (2147483647 : Int32)) % (2 : Int32))), .val (.ref b278), .val (.ref b288), .val (.ref b301), .val (.ref b317), .val (.ref b336), .val (.ref b349)] [(.int (0 : Int32)), (.ref b349)])) t
          refine XS.aload X383.here hx rfl (hb hby at_85) rfl rfl ?_
          show Steps p.tables e below (T383.setTop (mkF m 87 #[.val (.int p1), .val (.int p2), .val (.int p3), .val (.int (2 : Int32)), .val (.int ((p2 &&& (2147483647 : Int32)) % (2 : Int32))), .val (.ref b278), .val (.ref b288), .val (.ref b301), .val (.ref b317), .val (.ref b336), .val (.ref b349)] [(.ref b278), (.int (0 : Int32)), (.ref b349)])) t
          refine st401.trans ?_
          show Steps p.tables e below (T401.setTop (mkF m 90 #[.val (.int p1), .val (.int p2), .val (.int p3), .val (.int (2 : Int32)), .val (.int ((p2 &&& (2147483647 : Int32)) % (2 : Int32))), .val (.ref b278), .val (.ref b288), .val (.ref b301), .val (.ref b317), .val (.ref b336), .val (.ref b349)] [])) t
          refine XS.aload X401.here hx rfl (hb hby at_90) rfl rfl ?_
          show Steps p.tables e below (T401.setTop (mkF m 92 #[.val (.int p1), .val (.int p2), .val (.int p3), .val (.int (2 : Int32)), .val (.int ((p2 &&& (2147483647 : Int32)) % (2 : Int32))), .val (.ref b278), .val (.ref b288), .val (.ref b301), .val (.ref b317), .val (.ref b336), .val (.ref b349)] [(.ref b336)])) t
          refine XS.iconst X401.here hx rfl (hb hby at_92) ?_
          show Steps p.tables e below (T401.setTop (mkF m 93 #[.val (.int p1), .val (.int p2), .val (.int p3), .val (.int (2 : Int32)), .val (.int ((p2 &&& (2147483647 : Int32)) % (2 : Int32))), .val (.ref b278), .val (.ref b288), .val (.ref b301), .val (.ref b317), .val (.ref b336), .val (.ref b349)] [(.int (0 : Int32)), (.ref b336)])) t
          refine XS.aload X401.here hx rfl (hb hby at_93) rfl rfl ?_
          show Steps p.tables e below (T401.setTop (mkF m 95 #[.val (.int p1), .val (.int p2), .val (.int p3), .val (.int (2 : Int32)), .val (.int ((p2 &&& (2147483647 : Int32)) % (2 : Int32))), .val (.ref b278), .val (.ref b288), .val (.ref b301), .val (.ref b317), .val (.ref b336), .val (.ref b349)] [(.ref b278), (.int (0 : Int32)), (.ref b336)])) t
          refine st415 _ ?_
          exact k)
        exact ⟨_, _, h415, (.ref b278), X415, e415, N415, f416, f417, f418, f419, f420, f421, f422, f423, f425, f427, f426, V415, f424, (by rfl), (by trivial), pre428⟩
    obtain ⟨T475, L475, h475, f1, X475, e475, N475, f476, f477, f478, f479, f480, f481, f482, f483, f484, f485, f486, f487, f488, hp489, hP475, pre475⟩ : ∃ (T' : State) (L' : List Loc) (h' : Heap) (f1 : Value), Stand p l e room_1 (s.setVm T369.vm) m #[(.int p1), (.int p2), (.int p3)] below meth c T' L' 8 25 ∧ T'.heap = h' ∧ Fr n0 L' ∧ n0 ≤ h'.size ∧ Keep h0 h' [] ∧ Exa Z h' b278 "com/example/libsld/libsld/Var" ∧ Exa Z h' b288 "com/example/libsld/libsld/Var" ∧ Exa Z h' b301 "com/example/libsld/libsld/Var" ∧ Exa Z h' b317 "com/example/libsld/libsld/Var" ∧ Exa Z h' b349 "com/example/libsld/libsld/Struct" ∧ k369 ≤ h'.size ∧ Fld Z h' b349 "com/example/libsld/libsld/Struct" "arity" "I" (.int (2 : Int32)) ∧ Fld Z h' b349 "com/example/libsld/libsld/Struct" "rest" "[Lcom/example/libsld/libsld/Term;" .null ∧ Fld Z h' b349 "com/example/libsld/libsld/Struct" "first" "Lcom/example/libsld/libsld/Term;" f0 ∧ Arv Z h' b336 k336 (.object "com/example/libsld/libsld/Term") (4 : Int32) [f0, f1, .null, .null] .null ∧ Fld Z h' b349 "com/example/libsld/libsld/Struct" "second" "Lcom/example/libsld/libsld/Term;" f1 ∧ (f1.isRef = true) ∧ (True) ∧ ∀ t, Steps p.tables e below (T'.setTop (mkF m 121 #[.val (.int p1), .val (.int p2), .val (.int p3), .val (.int (2 : Int32)), .val (.int ((p2 &&& (2147483647 : Int32)) % (2 : Int32))), .val (.ref b278), .val (.ref b288), .val (.ref b301), .val (.ref b317), .val (.ref b336), .val (.ref b349)] [])) t → Steps p.tables e below (s₁.setTop (entryFrame m #[(.int p1), (.int p2), (.int p3)] maxLocals)) t := by
      have pre445 : ∀ t, Steps p.tables e below (T429.setTop (mkF m 104 #[.val (.int p1), .val (.int p2), .val (.int p3), .val (.int (2 : Int32)), .val (.int ((p2 &&& (2147483647 : Int32)) % (2 : Int32))), .val (.ref b278), .val (.ref b288), .val (.ref b301), .val (.ref b317), .val (.ref b336), .val (.ref b349)] [(.int (p3 &&& (2 : Int32)))])) t → Steps p.tables e below (s₁.setTop (entryFrame m #[(.int p1), (.int p2), (.int p3)] maxLocals)) t := fun t k => pre429 t (by
        show Steps p.tables e below (T429.setTop (mkF m 96 #[.val (.int p1), .val (.int p2), .val (.int p3), .val (.int (2 : Int32)), .val (.int ((p2 &&& (2147483647 : Int32)) % (2 : Int32))), .val (.ref b278), .val (.ref b288), .val (.ref b301), .val (.ref b317), .val (.ref b336), .val (.ref b349)] [])) t
        refine XS.iloadN X429.here hx rfl (hb hby at_96) rfl ?_
        show Steps p.tables e below (T429.setTop (mkF m 97 #[.val (.int p1), .val (.int p2), .val (.int p3), .val (.int (2 : Int32)), .val (.int ((p2 &&& (2147483647 : Int32)) % (2 : Int32))), .val (.ref b278), .val (.ref b288), .val (.ref b301), .val (.ref b317), .val (.ref b336), .val (.ref b349)] [(.int (2 : Int32))])) t
        refine XS.iconst X429.here hx rfl (hb hby at_97) ?_
        show Steps p.tables e below (T429.setTop (mkF m 98 #[.val (.int p1), .val (.int p2), .val (.int p3), .val (.int (2 : Int32)), .val (.int ((p2 &&& (2147483647 : Int32)) % (2 : Int32))), .val (.ref b278), .val (.ref b288), .val (.ref b301), .val (.ref b317), .val (.ref b336), .val (.ref b349)] [(.int (1 : Int32)), (.int (2 : Int32))])) t
        refine XS.icmpNo X429.here hx rfl (hb hby at_98) rfl (tlt (by decide : (1 : Int32) < (2 : Int32))).2.2.2 ?_
        show Steps p.tables e below (T429.setTop (mkF m 101 #[.val (.int p1), .val (.int p2), .val (.int p3), .val (.int (2 : Int32)), .val (.int ((p2 &&& (2147483647 : Int32)) % (2 : Int32))), .val (.ref b278), .val (.ref b288), .val (.ref b301), .val (.ref b317), .val (.ref b336), .val (.ref b349)] [])) t
        refine XS.iloadN X429.here hx rfl (hb hby at_101) rfl ?_
        show Steps p.tables e below (T429.setTop (mkF m 102 #[.val (.int p1), .val (.int p2), .val (.int p3), .val (.int (2 : Int32)), .val (.int ((p2 &&& (2147483647 : Int32)) % (2 : Int32))), .val (.ref b278), .val (.ref b288), .val (.ref b301), .val (.ref b317), .val (.ref b336), .val (.ref b349)] [(.int p3)])) t
        refine XS.iconst X429.here hx rfl (hb hby at_102) ?_
        show Steps p.tables e below (T429.setTop (mkF m 103 #[.val (.int p1), .val (.int p2), .val (.int p3), .val (.int (2 : Int32)), .val (.int ((p2 &&& (2147483647 : Int32)) % (2 : Int32))), .val (.ref b278), .val (.ref b288), .val (.ref b301), .val (.ref b317), .val (.ref b336), .val (.ref b349)] [(.int (2 : Int32)), (.int p3)])) t
        refine XS.iand X429.here hx rfl (hb hby at_103) rfl ?_
        exact k)
      by_cases hc444 : (p3 &&& (2 : Int32)) = (0 : Int32)
      · have pre446 : ∀ t, Steps p.tables e below (T429.setTop (mkF m 121 #[.val (.int p1), .val (.int p2), .val (.int p3), .val (.int (2 : Int32)), .val (.int ((p2 &&& (2147483647 : Int32)) % (2 : Int32))), .val (.ref b278), .val (.ref b288), .val (.ref b301), .val (.ref b317), .val (.ref b336), .val (.ref b349)] [])) t → Steps p.tables e below (s₁.setTop (entryFrame m #[(.int p1), (.int p2), (.int p3)] maxLocals)) t := fun t k => pre445 t (by
          show Steps p.tables e below (T429.setTop (mkF m 104 #[.val (.int p1), .val (.int p2), .val (.int p3), .val (.int (2 : Int32)), .val (.int ((p2 &&& (2147483647 : Int32)) % (2 : Int32))), .val (.ref b278), .val (.ref b288), .val (.ref b301), .val (.ref b317), .val (.ref b336), .val (.ref b349)] [(.int (p3 &&& (2 : Int32)))])) t
          refine XS.ifYes X429.here hx rfl (pc0 := 104) (pc' := 121) rfl (hb hby at_104) rfl ((if0 _ _).trans (teq hc444).1) (by decide) (by decide) ?_
          exact k)
        exact ⟨_, _, h429, .null, X429, e429, N429, f430, f431, f432, f433, f434, f435, f436, f437, f439, f440, f442, f441, f438, (by rfl), (by trivial), pre446⟩
      · obtain ⟨cq447, kq447, q447a, q447b, q447c⟩ := isOf hZ369 e429 f436
        obtain ⟨_, _, ⟨T447, L447, k447, n447⟩, -, X447, ⟨Lc447, hQ447, l447, y447, z447⟩, st447⟩ := X429.virtualBack hx (y := (⟨"com/example/libsld/libsld/Struct", "setArg", "(ILcom/example/libsld/libsld/Term;)V"⟩ : MethodName)) (z := (⟨"com/example/libsld/libsld/Struct", "setArg", "(ILcom/example/libsld/libsld/Term;)V"⟩ : MethodName)) ho369 (mvT hZ369 (own_i hw 44 rfl)) (mvT hZ369 (own_i hw 45 rfl)) (notFace_of_selects (args := #[]) (mvT hZ369 (own_i hw 47 rfl))) (mvT hZ369 (own_i hw 47 rfl)) (mvT hZ369 (own_i hw 46 rfl)) (by decide) (backOf (W := 0) (rm5_1 l Z a0 hw [] b349 b288 f0 .null .null (2 : Int32) h429 n0 f430 f442 f438 f440 f439 (by first | assumption | rfl | decide | omega | simp_all) f436 ga355) hZ369 (own_i hw 48 rfl) (own_i hw 18 rfl) (by decide) (by decide)) q447a q447c (g := (mkF m 112 #[.val (.int p1), .val (.int p2), .val (.int p3), .val (.int (2 : Int32)), .val (.int ((p2 &&& (2147483647 : Int32)) % (2 : Int32))), .val (.ref b278), .val (.ref b288), .val (.ref b301), .val (.ref b317), .val (.ref b336), .val (.ref b349)] [(.ref b288), (.int (1 : Int32)), (.ref b349)])) rfl (by rw [hml]; rfl) (Steps.refl _) (argsL := [(.int (1 : Int32)), (.ref b288)]) (rest := []) (lenOf pd_2 rfl) rfl (by show 2 * 0 + _ ≤ _; exact Nat.le_of_eq rfl) (hb hby at_112) (fun _ _ => ⟨rfl, e429, (by decide : 8 + 0 ≤ _), (by decide : 25 + 0 ≤ _)⟩)
        dsimp only [Pt.U, Pt.locs, Pt.cells, Pt.slots] at X447 l447 y447 z447 st447 hQ447
        subst l447 y447 z447
        obtain ⟨rfl, N447q, K447, f448, f449, f450, f451, f452⟩ := hQ447
        have N447 := Fr.app N429 N447q
        have f453 := Nat.le_trans f430 K447.1
        have f454 := f431.trans K447 (allS (Or.inr sz356) all0)
        have f455 := f432.keep K447
        have f456 := f433.keep K447
        have f457 := f434.keep K447
        have f458 := f435.keep K447
        have f459 := Nat.le_trans f437 K447.1
        have f460 := f441.keep K447 (ninS ne354 nin0)
        obtain ⟨cl461, Ar461, q461, S461, N461z, H461, G461⟩ := (id f460)
        have hin461 : ¬ ((1 : Int32) < 0 ∨ cl461.slots.size ≤ ((1 : Int32)).toNatClampNeg) := inb_of S461 ⟨by decide, by decide⟩
        obtain ⟨T461, h461, X461, e461, W461, st461⟩ := stR X447 hx hZ369 rfl Ar461 (j := (1 : Int32)) hin461 rfl (Sto.ofV Ar461 q461 O336 (Ins.of_exa f456 (own_i hw 49 rfl))) (g := (mkF m 120 #[.val (.int p1), .val (.int p2), .val (.int p3), .val (.int (2 : Int32)), .val (.int ((p2 &&& (2147483647 : Int32)) % (2 : Int32))), .val (.ref b278), .val (.ref b288), .val (.ref b301), .val (.ref b317), .val (.ref b336), .val (.ref b349)] [(.ref b288), (.int (1 : Int32)), (.ref b336)])) rfl rfl (hb hby at_120)
        have V461 : Arv Z h461 b336 k336 (.object "com/example/libsld/libsld/Term") (4 : Int32) [f0, (.ref b288), .null, .null] .null := Arv.set Ar461 q461 S461 N461z H461 G461 rfl W461 1 rfl (Nat.le_of_ble_eq_true rfl)
        have N461 := Fr.snoc X461 N447 ga341
        have f462 := Nat.le_trans f453 (Keep.of_wr W461).1
        have f463 := f454.wr W461 (Or.inr sz342)
        have f464 := f455.wr W461
        have f465 := f456.wr W461
        have f466 := f457.wr W461
        have f467 := f458.wr W461
        have f468 := f448.wr W461
        have f469 := Nat.le_trans f459 (Keep.of_wr W461).1
        have f470 := f449.other W461 (Or.inl (Ne.symm ne354))
        have f471 := f450.other W461 (Or.inl (Ne.symm ne354))
        have f472 := f451.other W461 (Or.inl (Ne.symm ne354))
        have f473 := f452.other W461 (Or.inl (Ne.symm ne354))
        have pre474 : ∀ t, Steps p.tables e below (T461.setTop (mkF m 121 #[.val (.int p1), .val (.int p2), .val (.int p3), .val (.int (2 : Int32)), .val (.int ((p2 &&& (2147483647 : Int32)) % (2 : Int32))), .val (.ref b278), .val (.ref b288), .val (.ref b301), .val (.ref b317), .val (.ref b336), .val (.ref b349)] [])) t → Steps p.tables e below (s₁.setTop (entryFrame m #[(.int p1), (.int p2), (.int p3)] maxLocals)) t := fun t k => pre445 t (by
          show Steps p.tables e below (T429.setTop (mkF m 104 #[.val (.int p1), .val (.int p2), .val (.int p3), .val (.int (2 : Int32)), .val (.int ((p2 &&& (2147483647 : Int32)) % (2 : Int32))), .val (.ref b278), .val (.ref b288), .val (.ref b301), .val (.ref b317), .val (.ref b336), .val (.ref b349)] [(.int (p3 &&& (2 : Int32)))])) t
          refine XS.ifNo X429.here hx rfl (hb hby at_104) rfl ((if0 _ _).trans (feq hc444).1) ?_
          show Steps p.tables e below (T429.setTop (mkF m 107 #[.val (.int p1), .val (.int p2), .val (.int p3), .val (.int (2 : Int32)), .val (.int ((p2 &&& (2147483647 : Int32)) % (2 : Int32))), .val (.ref b278), .val (.ref b288), .val (.ref b301), .val (.ref b317), .val (.ref b336), .val (.ref b349)] [])) t
          refine XS.aload X429.here hx rfl (hb hby at_107) rfl rfl ?_
          show Steps p.tables e below (T429.setTop (mkF m 109 #[.val (.int p1), .val (.int p2), .val (.int p3), .val (.int (2 : Int32)), .val (.int ((p2 &&& (2147483647 : Int32)) % (2 : Int32))), .val (.ref b278), .val (.ref b288), .val (.ref b301), .val (.ref b317), .val (.ref b336), .val (.ref b349)] [(.ref b349)])) t
          refine XS.iconst X429.here hx rfl (hb hby at_109) ?_
          show Steps p.tables e below (T429.setTop (mkF m 110 #[.val (.int p1), .val (.int p2), .val (.int p3), .val (.int (2 : Int32)), .val (.int ((p2 &&& (2147483647 : Int32)) % (2 : Int32))), .val (.ref b278), .val (.ref b288), .val (.ref b301), .val (.ref b317), .val (.ref b336), .val (.ref b349)] [(.int (1 : Int32)), (.ref b349)])) t
          refine XS.aload X429.here hx rfl (hb hby at_110) rfl rfl ?_
          show Steps p.tables e below (T429.setTop (mkF m 112 #[.val (.int p1), .val (.int p2), .val (.int p3), .val (.int (2 : Int32)), .val (.int ((p2 &&& (2147483647 : Int32)) % (2 : Int32))), .val (.ref b278), .val (.ref b288), .val (.ref b301), .val (.ref b317), .val (.ref b336), .val (.ref b349)] [(.ref b288), (.int (1 : Int32)), (.ref b349)])) t
          refine st447.trans ?_
          show Steps p.tables e below (T447.setTop (mkF m 115 #[.val (.int p1), .val (.int p2), .val (.int p3), .val (.int (2 : Int32)), .val (.int ((p2 &&& (2147483647 : Int32)) % (2 : Int32))), .val (.ref b278), .val (.ref b288), .val (.ref b301), .val (.ref b317), .val (.ref b336), .val (.ref b349)] [])) t
          refine XS.aload X447.here hx rfl (hb hby at_115) rfl rfl ?_
          show Steps p.tables e below (T447.setTop (mkF m 117 #[.val (.int p1), .val (.int p2), .val (.int p3), .val (.int (2 : Int32)), .val (.int ((p2 &&& (2147483647 : Int32)) % (2 : Int32))), .val (.ref b278), .val (.ref b288), .val (.ref b301), .val (.ref b317), .val (.ref b336), .val (.ref b349)] [(.ref b336)])) t
          refine XS.iconst X447.here hx rfl (hb hby at_117) ?_
          show Steps p.tables e below (T447.setTop (mkF m 118 #[.val (.int p1), .val (.int p2), .val (.int p3), .val (.int (2 : Int32)), .val (.int ((p2 &&& (2147483647 : Int32)) % (2 : Int32))), .val (.ref b278), .val (.ref b288), .val (.ref b301), .val (.ref b317), .val (.ref b336), .val (.ref b349)] [(.int (1 : Int32)), (.ref b336)])) t
          refine XS.aload X447.here hx rfl (hb hby at_118) rfl rfl ?_
          show Steps p.tables e below (T447.setTop (mkF m 120 #[.val (.int p1), .val (.int p2), .val (.int p3), .val (.int (2 : Int32)), .val (.int ((p2 &&& (2147483647 : Int32)) % (2 : Int32))), .val (.ref b278), .val (.ref b288), .val (.ref b301), .val (.ref b317), .val (.ref b336), .val (.ref b349)] [(.ref b288), (.int (1 : Int32)), (.ref b336)])) t
          refine st461 _ ?_
          exact k)
        exact ⟨_, _, h461, (.ref b288), X461, e461, N461, f462, f463, f464, f465, f466, f467, f468, f469, f473, f472, f470, V461, f471, (by rfl), (by trivial), pre474⟩
    have pre490 : ∀ t, Steps p.tables e below (T475.setTop (mkF m 172 #[.val (.int p1), .val (.int p2), .val (.int p3), .val (.int (2 : Int32)), .val (.int ((p2 &&& (2147483647 : Int32)) % (2 : Int32))), .val (.ref b278), .val (.ref b288), .val (.ref b301), .val (.ref b317), .val (.ref b336), .val (.ref b349)] [])) t → Steps p.tables e below (s₁.setTop (entryFrame m #[(.int p1), (.int p2), (.int p3)] maxLocals)) t := fun t k => pre475 t (by
      show Steps p.tables e below (T475.setTop (mkF m 121 #[.val (.int p1), .val (.int p2), .val (.int p3), .val (.int (2 : Int32)), .val (.int ((p2 &&& (2147483647 : Int32)) % (2 : Int32))), .val (.ref b278), .val (.ref b288), .val (.ref b301), .val (.ref b317), .val (.ref b336), .val (.ref b349)] [])) t
      refine XS.iloadN X475.here hx rfl (hb hby at_121) rfl ?_
      show Steps p.tables e below (T475.setTop (mkF m 122 #[.val (.int p1), .val (.int p2), .val (.int p3), .val (.int (2 : Int32)), .val (.int ((p2 &&& (2147483647 : Int32)) % (2 : Int32))), .val (.ref b278), .val (.ref b288), .val (.ref b301), .val (.ref b317), .val (.ref b336), .val (.ref b349)] [(.int (2 : Int32))])) t
      refine XS.iconst X475.here hx rfl (hb hby at_122) ?_
      show Steps p.tables e below (T475.setTop (mkF m 123 #[.val (.int p1), .val (.int p2), .val (.int p3), .val (.int (2 : Int32)), .val (.int ((p2 &&& (2147483647 : Int32)) % (2 : Int32))), .val (.ref b278), .val (.ref b288), .val (.ref b301), .val (.ref b317), .val (.ref b336), .val (.ref b349)] [(.int (2 : Int32)), (.int (2 : Int32))])) t
      refine XS.icmpYes X475.here hx rfl (pc0 := 123) (pc' := 146) rfl (hb hby at_123) rfl (flt (by decide : ¬ ((2 : Int32) < (2 : Int32)))).2.2.2 (by decide) (by decide) ?_
      show Steps p.tables e below (T475.setTop (mkF m 146 #[.val (.int p1), .val (.int p2), .val (.int p3), .val (.int (2 : Int32)), .val (.int ((p2 &&& (2147483647 : Int32)) % (2 : Int32))), .val (.ref b278), .val (.ref b288), .val (.ref b301), .val (.ref b317), .val (.ref b336), .val (.ref b349)] [])) t
      refine XS.iloadN X475.here hx rfl (hb hby at_146) rfl ?_
      show Steps p.tables e below (T475.setTop (mkF m 147 #[.val (.int p1), .val (.int p2), .val (.int p3), .val (.int (2 : Int32)), .val (.int ((p2 &&& (2147483647 : Int32)) % (2 : Int32))), .val (.ref b278), .val (.ref b288), .val (.ref b301), .val (.ref b317), .val (.ref b336), .val (.ref b349)] [(.int (2 : Int32))])) t
      refine XS.iconst X475.here hx rfl (hb hby at_147) ?_
      show Steps p.tables e below (T475.setTop (mkF m 148 #[.val (.int p1), .val (.int p2), .val (.int p3), .val (.int (2 : Int32)), .val (.int ((p2 &&& (2147483647 : Int32)) % (2 : Int32))), .val (.ref b278), .val (.ref b288), .val (.ref b301), .val (.ref b317), .val (.ref b336), .val (.ref b349)] [(.int (3 : Int32)), (.int (2 : Int32))])) t
      refine XS.icmpYes X475.here hx rfl (pc0 := 148) (pc' := 172) rfl (hb hby at_148) rfl (flt (by decide : ¬ ((3 : Int32) < (2 : Int32)))).2.2.2 (by decide) (by decide) ?_
      exact k)
    rcases own_rem2 p2 with hs491 | hs491
    · have pre492 : ∀ t, Steps p.tables e below (T475.setTop (mkF m 172 #[.val (.int p1), .val (.int p2), .val (.int p3), .val (.int (2 : Int32)), .val (.int (0 : Int32)), .val (.ref b278), .val (.ref b288), .val (.ref b301), .val (.ref b317), .val (.ref b336), .val (.ref b349)] [])) t → Steps p.tables e below (s₁.setTop (entryFrame m #[(.int p1), (.int p2), (.int p3)] maxLocals)) t := fun t k => pre490 t (by rw [show ((p2 &&& (2147483647 : Int32)) % (2 : Int32)) = (0 : Int32) from hs491]; exact k)
      obtain ⟨cq493, kq493, q493a, q493b, q493c⟩ := isOf hZ369 e475 f482
      obtain ⟨_, _, ⟨T493, L493, k493, n493⟩, -, X493, ⟨Lc493, hQ493, l493, y493, z493⟩, st493⟩ := X475.virtualBack hx (y := (⟨"com/example/libsld/libsld/Struct", "arg", "(I)Lcom/example/libsld/libsld/Term;"⟩ : MethodName)) (z := (⟨"com/example/libsld/libsld/Struct", "arg", "(I)Lcom/example/libsld/libsld/Term;"⟩ : MethodName)) ho369 (mvT hZ369 (own_i hw 37 rfl)) (mvT hZ369 (own_i hw 38 rfl)) (notFace_of_selects (args := #[]) (mvT hZ369 (own_i hw 40 rfl))) (mvT hZ369 (own_i hw 40 rfl)) (mvT hZ369 (own_i hw 39 rfl)) (by decide) (backOf (W := 0) (rm4_0 l Z a0 hw [] b349 f0 h475 n0 f476 f486 hp443) hZ369 (own_i hw 41 rfl) (own_i hw 18 rfl) (by decide) (by decide)) q493a q493c (g := (mkF m 176 #[.val (.int p1), .val (.int p2), .val (.int p3), .val (.int (2 : Int32)), .val (.int (0 : Int32)), .val (.ref b278), .val (.ref b288), .val (.ref b301), .val (.ref b317), .val (.ref b336), .val (.ref b349)] [(.int (0 : Int32)), (.ref b349)])) rfl (by rw [hml]; rfl) (Steps.refl _) (argsL := [(.int (0 : Int32))]) (rest := []) (lenOf pd_3 rfl) rfl (by show 2 * 0 + _ ≤ _; exact Nat.le_of_eq rfl) (hb hby at_176) (fun _ _ => ⟨rfl, e475, (by decide : 8 + 0 ≤ _), (by decide : 25 + 0 ≤ _)⟩)
      dsimp only [Pt.U, Pt.locs, Pt.cells, Pt.slots] at X493 l493 y493 z493 st493 hQ493
      subst l493 y493 z493
      obtain ⟨rfl, N493q, e493⟩ := hQ493
      have N493 := Fr.app N475 N493q
      obtain ⟨cl494, Ar494, q494, S494, N494z, H494, G494⟩ := (id f487)
      have hin494 : ¬ ((0 : Int32) < 0 ∨ cl494.slots.size ≤ ((0 : Int32)).toNatClampNeg) := inb_of S494 ⟨by decide, by decide⟩
      have hat494 : cl494.slots[((0 : Int32)).toNatClampNeg]? = some f0 := Has.at H494 hin494 rfl
      have pre495 : ∀ t, Steps p.tables e below (T493.setTop (mkF m 192 #[.val (.int p1), .val (.int p2), .val (.int p3), .val (.int (2 : Int32)), .val (.int (0 : Int32)), .val (.ref b278), .val (.ref b288), .val (.ref b301), .val (.ref b317), .val (.ref b336), .val (.ref b349)] [(.int (1 : Int32))])) t → Steps p.tables e below (s₁.setTop (entryFrame m #[(.int p1), (.int p2), (.int p3)] maxLocals)) t := fun t k => pre492 t (by
        show Steps p.tables e below (T475.setTop (mkF m 172 #[.val (.int p1), .val (.int p2), .val (.int p3), .val (.int (2 : Int32)), .val (.int (0 : Int32)), .val (.ref b278), .val (.ref b288), .val (.ref b301), .val (.ref b317), .val (.ref b336), .val (.ref b349)] [])) t
        refine XS.aload X475.here hx rfl (hb hby at_172) rfl rfl ?_
        show Steps p.tables e below (T475.setTop (mkF m 174 #[.val (.int p1), .val (.int p2), .val (.int p3), .val (.int (2 : Int32)), .val (.int (0 : Int32)), .val (.ref b278), .val (.ref b288), .val (.ref b301), .val (.ref b317), .val (.ref b336), .val (.ref b349)] [(.ref b349)])) t
        refine XS.iload X475.here hx rfl (hb hby at_174) rfl ?_
        show Steps p.tables e below (T475.setTop (mkF m 176 #[.val (.int p1), .val (.int p2), .val (.int p3), .val (.int (2 : Int32)), .val (.int (0 : Int32)), .val (.ref b278), .val (.ref b288), .val (.ref b301), .val (.ref b317), .val (.ref b336), .val (.ref b349)] [(.int (0 : Int32)), (.ref b349)])) t
        refine st493.trans ?_
        show Steps p.tables e below (T493.setTop (mkF m 179 #[.val (.int p1), .val (.int p2), .val (.int p3), .val (.int (2 : Int32)), .val (.int (0 : Int32)), .val (.ref b278), .val (.ref b288), .val (.ref b301), .val (.ref b317), .val (.ref b336), .val (.ref b349)] [f0])) t
        refine XS.aload X493.here hx rfl (hb hby at_179) rfl rfl ?_
        show Steps p.tables e below (T493.setTop (mkF m 181 #[.val (.int p1), .val (.int p2), .val (.int p3), .val (.int (2 : Int32)), .val (.int (0 : Int32)), .val (.ref b278), .val (.ref b288), .val (.ref b301), .val (.ref b317), .val (.ref b336), .val (.ref b349)] [(.ref b336), f0])) t
        refine XS.iload X493.here hx rfl (hb hby at_181) rfl ?_
        show Steps p.tables e below (T493.setTop (mkF m 183 #[.val (.int p1), .val (.int p2), .val (.int p3), .val (.int (2 : Int32)), .val (.int (0 : Int32)), .val (.ref b278), .val (.ref b288), .val (.ref b301), .val (.ref b317), .val (.ref b336), .val (.ref b349)] [(.int (0 : Int32)), (.ref b336), f0])) t
        refine X493.aaload hx (j := (0 : Int32)) (v := f0) (by rw [e493]; exact Ar494.1) (State.isArrayOf_alike hZ369.alike Ar494.2.1) rfl Ar494.2.2 hin494 hat494 (g := (mkF m 183 #[.val (.int p1), .val (.int p2), .val (.int p3), .val (.int (2 : Int32)), .val (.int (0 : Int32)), .val (.ref b278), .val (.ref b288), .val (.ref b301), .val (.ref b317), .val (.ref b336), .val (.ref b349)] [(.int (0 : Int32)), (.ref b336), f0])) rfl rfl (hb hby at_183) _ ?_
        show Steps p.tables e below (T493.setTop (mkF m 184 #[.val (.int p1), .val (.int p2), .val (.int p3), .val (.int (2 : Int32)), .val (.int (0 : Int32)), .val (.ref b278), .val (.ref b288), .val (.ref b301), .val (.ref b317), .val (.ref b336), .val (.ref b349)] [f0, f0])) t
        refine Jvm.RoadKit.acmp (g := (mkF m 184 #[.val (.int p1), .val (.int p2), .val (.int p3), .val (.int (2 : Int32)), .val (.int (0 : Int32)), .val (.ref b278), .val (.ref b288), .val (.ref b301), .val (.ref b317), .val (.ref b336), .val (.ref b349)] [f0, f0])) X493 hx rfl hp443 hp443 (pc0 := 184) (pc' := 187) (same := true) rfl (hb hby at_184) rfl (decide_eq_true rfl) (by decide) (by decide) ?_
        show Steps p.tables e below (T493.setTop (mkF m 187 #[.val (.int p1), .val (.int p2), .val (.int p3), .val (.int (2 : Int32)), .val (.int (0 : Int32)), .val (.ref b278), .val (.ref b288), .val (.ref b301), .val (.ref b317), .val (.ref b336), .val (.ref b349)] [])) t
        refine XS.iconst X493.here hx rfl (hb hby at_187) ?_
        show Steps p.tables e below (T493.setTop (mkF m 188 #[.val (.int p1), .val (.int p2), .val (.int p3), .val (.int (2 : Int32)), .val (.int (0 : Int32)), .val (.ref b278), .val (.ref b288), .val (.ref b301), .val (.ref b317), .val (.ref b336), .val (.ref b349)] [(.int (1 : Int32))])) t
        refine XS.goto X493.here hx rfl (pc0 := 188) (pc' := 192) rfl (hb hby at_188) (by decide) (by decide) ?_
        exact k)
      obtain ⟨fs, hr, hrun, hended, hRW⟩ := X493.leaveW hS369 (by rw [e493]; exact f483) (v := some (.int (1 : Int32))) (fun h => by rw [Bd.returns] at h; cases h)
      refine ⟨_, _, pre495 _ ?_, hrun, hended, _, _, rfl, ?_, hRW.1, hRW.2.1, hRW.2.2.1, hRW.2.2.2.mono (by decide) (by decide)⟩
      · exact retN X493 hx (t := .boolean) Bd.returns (by simp) (hb hby at_192) hr
      · show Q0 Z p1 p2 p3 h0 n0 _ T493.heap _
        rw [e493]
        exact ⟨rfl, N493⟩
    · have pre496 : ∀ t, Steps p.tables e below (T475.setTop (mkF m 172 #[.val (.int p1), .val (.int p2), .val (.int p3), .val (.int (2 : Int32)), .val (.int (1 : Int32)), .val (.ref b278), .val (.ref b288), .val (.ref b301), .val (.ref b317), .val (.ref b336), .val (.ref b349)] [])) t → Steps p.tables e below (s₁.setTop (entryFrame m #[(.int p1), (.int p2), (.int p3)] maxLocals)) t := fun t k => pre490 t (by rw [show ((p2 &&& (2147483647 : Int32)) % (2 : Int32)) = (1 : Int32) from hs491]; exact k)
      obtain ⟨cq497, kq497, q497a, q497b, q497c⟩ := isOf hZ369 e475 f482
      obtain ⟨_, _, ⟨T497, L497, k497, n497⟩, -, X497, ⟨Lc497, hQ497, l497, y497, z497⟩, st497⟩ := X475.virtualBack hx (y := (⟨"com/example/libsld/libsld/Struct", "arg", "(I)Lcom/example/libsld/libsld/Term;"⟩ : MethodName)) (z := (⟨"com/example/libsld/libsld/Struct", "arg", "(I)Lcom/example/libsld/libsld/Term;"⟩ : MethodName)) ho369 (mvT hZ369 (own_i hw 37 rfl)) (mvT hZ369 (own_i hw 38 rfl)) (notFace_of_selects (args := #[]) (mvT hZ369 (own_i hw 40 rfl))) (mvT hZ369 (own_i hw 40 rfl)) (mvT hZ369 (own_i hw 39 rfl)) (by decide) (backOf (W := 0) (rm4_1 l Z a0 hw [] b349 f1 (2 : Int32) h475 n0 f476 f488 f484 (by first | assumption | rfl | decide | omega | simp_all) hp489) hZ369 (own_i hw 41 rfl) (own_i hw 18 rfl) (by decide) (by decide)) q497a q497c (g := (mkF m 176 #[.val (.int p1), .val (.int p2), .val (.int p3), .val (.int (2 : Int32)), .val (.int (1 : Int32)), .val (.ref b278), .val (.ref b288), .val (.ref b301), .val (.ref b317), .val (.ref b336), .val (.ref b349)] [(.int (1 : Int32)), (.ref b349)])) rfl (by rw [hml]; rfl) (Steps.refl _) (argsL := [(.int (1 : Int32))]) (rest := []) (lenOf pd_3 rfl) rfl (by show 2 * 0 + _ ≤ _; exact Nat.le_of_eq rfl) (hb hby at_176) (fun _ _ => ⟨rfl, e475, (by decide : 8 + 0 ≤ _), (by decide : 25 + 0 ≤ _)⟩)
      dsimp only [Pt.U, Pt.locs, Pt.cells, Pt.slots] at X497 l497 y497 z497 st497 hQ497
      subst l497 y497 z497
      obtain ⟨rfl, N497q, e497⟩ := hQ497
      have N497 := Fr.app N475 N497q
      obtain ⟨cl498, Ar498, q498, S498, N498z, H498, G498⟩ := (id f487)
      have hin498 : ¬ ((1 : Int32) < 0 ∨ cl498.slots.size ≤ ((1 : Int32)).toNatClampNeg) := inb_of S498 ⟨by decide, by decide⟩
      have hat498 : cl498.slots[((1 : Int32)).toNatClampNeg]? = some f1 := Has.at H498 hin498 rfl
      have pre499 : ∀ t, Steps p.tables e below (T497.setTop (mkF m 192 #[.val (.int p1), .val (.int p2), .val (.int p3), .val (.int (2 : Int32)), .val (.int (1 : Int32)), .val (.ref b278), .val (.ref b288), .val (.ref b301), .val (.ref b317), .val (.ref b336), .val (.ref b349)] [(.int (1 : Int32))])) t → Steps p.tables e below (s₁.setTop (entryFrame m #[(.int p1), (.int p2), (.int p3)] maxLocals)) t := fun t k => pre496 t (by
        show Steps p.tables e below (T475.setTop (mkF m 172 #[.val (.int p1), .val (.int p2), .val (.int p3), .val (.int (2 : Int32)), .val (.int (1 : Int32)), .val (.ref b278), .val (.ref b288), .val (.ref b301), .val (.ref b317), .val (.ref b336), .val (.ref b349)] [])) t
        refine XS.aload X475.here hx rfl (hb hby at_172) rfl rfl ?_
        show Steps p.tables e below (T475.setTop (mkF m 174 #[.val (.int p1), .val (.int p2), .val (.int p3), .val (.int (2 : Int32)), .val (.int (1 : Int32)), .val (.ref b278), .val (.ref b288), .val (.ref b301), .val (.ref b317), .val (.ref b336), .val (.ref b349)] [(.ref b349)])) t
        refine XS.iload X475.here hx rfl (hb hby at_174) rfl ?_
        show Steps p.tables e below (T475.setTop (mkF m 176 #[.val (.int p1), .val (.int p2), .val (.int p3), .val (.int (2 : Int32)), .val (.int (1 : Int32)), .val (.ref b278), .val (.ref b288), .val (.ref b301), .val (.ref b317), .val (.ref b336), .val (.ref b349)] [(.int (1 : Int32)), (.ref b349)])) t
        refine st497.trans ?_
        show Steps p.tables e below (T497.setTop (mkF m 179 #[.val (.int p1), .val (.int p2), .val (.int p3), .val (.int (2 : Int32)), .val (.int (1 : Int32)), .val (.ref b278), .val (.ref b288), .val (.ref b301), .val (.ref b317), .val (.ref b336), .val (.ref b349)] [f1])) t
        refine XS.aload X497.here hx rfl (hb hby at_179) rfl rfl ?_
        show Steps p.tables e below (T497.setTop (mkF m 181 #[.val (.int p1), .val (.int p2), .val (.int p3), .val (.int (2 : Int32)), .val (.int (1 : Int32)), .val (.ref b278), .val (.ref b288), .val (.ref b301), .val (.ref b317), .val (.ref b336), .val (.ref b349)] [(.ref b336), f1])) t
        refine XS.iload X497.here hx rfl (hb hby at_181) rfl ?_
        show Steps p.tables e below (T497.setTop (mkF m 183 #[.val (.int p1), .val (.int p2), .val (.int p3), .val (.int (2 : Int32)), .val (.int (1 : Int32)), .val (.ref b278), .val (.ref b288), .val (.ref b301), .val (.ref b317), .val (.ref b336), .val (.ref b349)] [(.int (1 : Int32)), (.ref b336), f1])) t
        refine X497.aaload hx (j := (1 : Int32)) (v := f1) (by rw [e497]; exact Ar498.1) (State.isArrayOf_alike hZ369.alike Ar498.2.1) rfl Ar498.2.2 hin498 hat498 (g := (mkF m 183 #[.val (.int p1), .val (.int p2), .val (.int p3), .val (.int (2 : Int32)), .val (.int (1 : Int32)), .val (.ref b278), .val (.ref b288), .val (.ref b301), .val (.ref b317), .val (.ref b336), .val (.ref b349)] [(.int (1 : Int32)), (.ref b336), f1])) rfl rfl (hb hby at_183) _ ?_
        show Steps p.tables e below (T497.setTop (mkF m 184 #[.val (.int p1), .val (.int p2), .val (.int p3), .val (.int (2 : Int32)), .val (.int (1 : Int32)), .val (.ref b278), .val (.ref b288), .val (.ref b301), .val (.ref b317), .val (.ref b336), .val (.ref b349)] [f1, f1])) t
        refine Jvm.RoadKit.acmp (g := (mkF m 184 #[.val (.int p1), .val (.int p2), .val (.int p3), .val (.int (2 : Int32)), .val (.int (1 : Int32)), .val (.ref b278), .val (.ref b288), .val (.ref b301), .val (.ref b317), .val (.ref b336), .val (.ref b349)] [f1, f1])) X497 hx rfl hp489 hp489 (pc0 := 184) (pc' := 187) (same := true) rfl (hb hby at_184) rfl (decide_eq_true rfl) (by decide) (by decide) ?_
        show Steps p.tables e below (T497.setTop (mkF m 187 #[.val (.int p1), .val (.int p2), .val (.int p3), .val (.int (2 : Int32)), .val (.int (1 : Int32)), .val (.ref b278), .val (.ref b288), .val (.ref b301), .val (.ref b317), .val (.ref b336), .val (.ref b349)] [])) t
        refine XS.iconst X497.here hx rfl (hb hby at_187) ?_
        show Steps p.tables e below (T497.setTop (mkF m 188 #[.val (.int p1), .val (.int p2), .val (.int p3), .val (.int (2 : Int32)), .val (.int (1 : Int32)), .val (.ref b278), .val (.ref b288), .val (.ref b301), .val (.ref b317), .val (.ref b336), .val (.ref b349)] [(.int (1 : Int32))])) t
        refine XS.goto X497.here hx rfl (pc0 := 188) (pc' := 192) rfl (hb hby at_188) (by decide) (by decide) ?_
        exact k)
      obtain ⟨fs, hr, hrun, hended, hRW⟩ := X497.leaveW hS369 (by rw [e497]; exact f483) (v := some (.int (1 : Int32))) (fun h => by rw [Bd.returns] at h; cases h)
      refine ⟨_, _, pre499 _ ?_, hrun, hended, _, _, rfl, ?_, hRW.1, hRW.2.1, hRW.2.2.1, hRW.2.2.2.mono (by decide) (by decide)⟩
      · exact retN X497 hx (t := .boolean) Bd.returns (by simp) (hb hby at_192) hr
      · show Q0 Z p1 p2 p3 h0 n0 _ T497.heap _
        rw [e497]
        exact ⟨rfl, N497⟩
  · have pre500 : ∀ t, Steps p.tables e below (s₁.setTop (mkF m 6 #[.val (.int p1), .val (.int p2), .val (.int p3), .val (.int (3 : Int32)), .unset, .unset, .unset, .unset, .unset, .unset, .unset] [])) t → Steps p.tables e below (s₁.setTop (entryFrame m #[(.int p1), (.int p2), (.int p3)] maxLocals)) t := fun t k => pre102 t (by rw [show ((1 : Int32) + (p1 &&& (3 : Int32))) = (3 : Int32) from (congrArg (fun z => (1 : Int32) + z) hs103)]; exact k)
    obtain ⟨T501, h501, X501, e501, E501, A501, D501, -, st501⟩ := newO X0 hx hZ hown (own_i hw 1 rfl) (own_i hw 2 rfl) (own_i hw 3 rfl) e0 (g := (mkF m 14 #[.val (.int p1), .val (.int p2), .val (.int p3), .val (.int (3 : Int32)), .val (.int ((p2 &&& (2147483647 : Int32)) % (3 : Int32))), .unset, .unset, .unset, .unset, .unset, .unset] [])) rfl (hb hby at_14) (by decide) (by decide)
    obtain ⟨b501, g501⟩ : ∃ z, z = h0.size := ⟨_, rfl⟩
    rw [← g501] at A501 D501 st501
    have ga502 : n0 ≤ b501 := Nat.le_trans Z0 (Nat.le_of_eq g501.symm)
    have sz503 : h0.size ≤ b501 := Nat.le_trans f101.1 (Nat.le_of_eq g501.symm)
    have f504 : Fld Z h501 b501 "com/example/libsld/libsld/Var" "number" "J" (.long (0 : Int64)) := D501 (Or.inr (own_i hw 11 rfl)) (ty := .long) (by decide)
    have f505 := Nat.le_trans Z0 E501.1
    have f506 := f101.ext E501
    obtain ⟨_, _, ⟨T507, L507, k507, n507⟩, -, X507, ⟨Lc507, hQ507, l507, y507, z507⟩, st507⟩ := X501.specialBack hx (y := (⟨"com/example/libsld/libsld/Var", "<init>", "(J)V"⟩ : MethodName)) rfl hown (mvT hZ (own_i hw 4 rfl)) (mvT hZ (own_i hw 5 rfl)) (mvT hZ (own_i hw 6 rfl)) (by decide) (backOf (W := 1) (rm1 l Z a0 hw [] b501 (0 : Int64) h501 n0 f505 f504 A501 ga502) hZ (own_i hw 6 rfl) (own_i hw 3 rfl) (by decide) (by decide)) (g := (mkF m 19 #[.val (.int p1), .val (.int p2), .val (.int p3), .val (.int (3 : Int32)), .val (.int ((p2 &&& (2147483647 : Int32)) % (3 : Int32))), .unset, .unset, .unset, .unset, .unset, .unset] [(.long (0 : Int64)), (.ref b501), (.ref b501)])) rfl (by rw [hml]; rfl) (Steps.refl _) (a := b501) (argsL := [(.long (0 : Int64))]) (rest := [(.ref b501)]) (lenOf pd_0 rfl) rfl (by show 2 * 0 + _ ≤ _; exact Nat.le_of_eq rfl) (hb hby at_19) (fun _ _ => ⟨rfl, e501, (by decide : 1 + 0 ≤ _), (by decide : 2 + 0 ≤ _)⟩)
    dsimp only [Pt.U, Pt.locs, Pt.cells, Pt.slots] at X507 l507 y507 z507 st507 hQ507
    subst l507 y507 z507
    obtain ⟨rfl, N507q, K507, f508⟩ := hQ507
    have N507 := Fr.app N0 N507q
    have f509 := Nat.le_trans f505 K507.1
    have f510 := f506.trans K507 (allS (Or.inr sz503) all0)
    obtain ⟨T511, h511, X511, e511, E511, A511, D511, -, st511⟩ := newO X507 hx hZ hown (own_i hw 1 rfl) (own_i hw 2 rfl) (own_i hw 3 rfl) rfl (g := (mkF m 24 #[.val (.int p1), .val (.int p2), .val (.int p3), .val (.int (3 : Int32)), .val (.int ((p2 &&& (2147483647 : Int32)) % (3 : Int32))), .val (.ref b501), .unset, .unset, .unset, .unset, .unset] [])) rfl (hb hby at_24) (by decide) (by decide)
    obtain ⟨b511, g511⟩ : ∃ z, z = T507.heap.size := ⟨_, rfl⟩
    rw [← g511] at A511 D511 st511
    have ne512 : b501 ≠ b511 := Nat.ne_of_lt (Nat.lt_of_lt_of_le f508.lt (Nat.le_of_eq g511.symm))
    have ga513 : n0 ≤ b511 := Nat.le_trans f509 (Nat.le_of_eq g511.symm)
    have sz514 : h0.size ≤ b511 := Nat.le_trans f510.1 (Nat.le_of_eq g511.symm)
    have f515 : Fld Z h511 b511 "com/example/libsld/libsld/Var" "number" "J" (.long (0 : Int64)) := D511 (Or.inr (own_i hw 11 rfl)) (ty := .long) (by decide)
    have f516 := Nat.le_trans f509 E511.1
    have f517 := f510.ext E511
    have f518 := f508.ext E511
    obtain ⟨_, _, ⟨T519, L519, k519, n519⟩, -, X519, ⟨Lc519, hQ519, l519, y519, z519⟩, st519⟩ := X511.specialBack hx (y := (⟨"com/example/libsld/libsld/Var", "<init>", "(J)V"⟩ : MethodName)) rfl hown (mvT hZ (own_i hw 4 rfl)) (mvT hZ (own_i hw 5 rfl)) (mvT hZ (own_i hw 6 rfl)) (by decide) (backOf (W := 1) (rm1 l Z a0 hw [] b511 (1 : Int64) h511 n0 f516 f515 A511 ga513) hZ (own_i hw 6 rfl) (own_i hw 3 rfl) (by decide) (by decide)) (g := (mkF m 29 #[.val (.int p1), .val (.int p2), .val (.int p3), .val (.int (3 : Int32)), .val (.int ((p2 &&& (2147483647 : Int32)) % (3 : Int32))), .val (.ref b501), .unset, .unset, .unset, .unset, .unset] [(.long (1 : Int64)), (.ref b511), (.ref b511)])) rfl (by rw [hml]; rfl) (Steps.refl _) (a := b511) (argsL := [(.long (1 : Int64))]) (rest := [(.ref b511)]) (lenOf pd_0 rfl) rfl (by show 2 * 0 + _ ≤ _; exact Nat.le_of_eq rfl) (hb hby at_29) (fun _ _ => ⟨rfl, e511, (by decide : 2 + 0 ≤ _), (by decide : 4 + 0 ≤ _)⟩)
    dsimp only [Pt.U, Pt.locs, Pt.cells, Pt.slots] at X519 l519 y519 z519 st519 hQ519
    subst l519 y519 z519
    obtain ⟨rfl, N519q, K519, f520⟩ := hQ519
    have N519 := Fr.app N507 N519q
    have f521 := Nat.le_trans f516 K519.1
    have f522 := f517.trans K519 (allS (Or.inr sz514) all0)
    have f523 := f518.keep K519
    obtain ⟨T524, h524, X524, e524, E524, A524, D524, -, st524⟩ := newO X519 hx hZ hown (own_i hw 1 rfl) (own_i hw 2 rfl) (own_i hw 3 rfl) rfl (g := (mkF m 34 #[.val (.int p1), .val (.int p2), .val (.int p3), .val (.int (3 : Int32)), .val (.int ((p2 &&& (2147483647 : Int32)) % (3 : Int32))), .val (.ref b501), .val (.ref b511), .unset, .unset, .unset, .unset] [])) rfl (hb hby at_34) (by decide) (by decide)
    obtain ⟨b524, g524⟩ : ∃ z, z = T519.heap.size := ⟨_, rfl⟩
    rw [← g524] at A524 D524 st524
    have ne525 : b501 ≠ b524 := Nat.ne_of_lt (Nat.lt_of_lt_of_le f523.lt (Nat.le_of_eq g524.symm))
    have ne526 : b511 ≠ b524 := Nat.ne_of_lt (Nat.lt_of_lt_of_le f520.lt (Nat.le_of_eq g524.symm))
    have ga527 : n0 ≤ b524 := Nat.le_trans f521 (Nat.le_of_eq g524.symm)
    have sz528 : h0.size ≤ b524 := Nat.le_trans f522.1 (Nat.le_of_eq g524.symm)
    have f529 : Fld Z h524 b524 "com/example/libsld/libsld/Var" "number" "J" (.long (0 : Int64)) := D524 (Or.inr (own_i hw 11 rfl)) (ty := .long) (by decide)
    have f530 := Nat.le_trans f521 E524.1
    have f531 := f522.ext E524
    have f532 := f523.ext E524
    have f533 := f520.ext E524
    obtain ⟨_, _, ⟨T534, L534, k534, n534⟩, -, X534, ⟨Lc534, hQ534, l534, y534, z534⟩, st534⟩ := X524.specialBack hx (y := (⟨"com/example/libsld/libsld/Var", "<init>", "(J)V"⟩ : MethodName)) rfl hown (mvT hZ (own_i hw 4 rfl)) (mvT hZ (own_i hw 5 rfl)) (mvT hZ (own_i hw 6 rfl)) (by decide) (backOf (W := 1) (rm1 l Z a0 hw [] b524 (2 : Int64) h524 n0 f530 f529 A524 ga527) hZ (own_i hw 6 rfl) (own_i hw 3 rfl) (by decide) (by decide)) (g := (mkF m 41 #[.val (.int p1), .val (.int p2), .val (.int p3), .val (.int (3 : Int32)), .val (.int ((p2 &&& (2147483647 : Int32)) % (3 : Int32))), .val (.ref b501), .val (.ref b511), .unset, .unset, .unset, .unset] [(.long (2 : Int64)), (.ref b524), (.ref b524)])) rfl (by rw [hml]; rfl) (Steps.refl _) (a := b524) (argsL := [(.long (2 : Int64))]) (rest := [(.ref b524)]) (lenOf pd_0 rfl) rfl (by show 2 * 0 + _ ≤ _; exact Nat.le_of_eq rfl) (hb hby at_41) (fun _ _ => ⟨rfl, e524, (by decide : 3 + 0 ≤ _), (by decide : 6 + 0 ≤ _)⟩)
    dsimp only [Pt.U, Pt.locs, Pt.cells, Pt.slots] at X534 l534 y534 z534 st534 hQ534
    subst l534 y534 z534
    obtain ⟨rfl, N534q, K534, f535⟩ := hQ534
    have N534 := Fr.app N519 N534q
    have f536 := Nat.le_trans f530 K534.1
    have f537 := f531.trans K534 (allS (Or.inr sz528) all0)
    have f538 := f532.keep K534
    have f539 := f533.keep K534
    obtain ⟨T540, h540, X540, e540, E540, A540, D540, -, st540⟩ := newO X534 hx hZ hown (own_i hw 1 rfl) (own_i hw 2 rfl) (own_i hw 3 rfl) rfl (g := (mkF m 46 #[.val (.int p1), .val (.int p2), .val (.int p3), .val (.int (3 : Int32)), .val (.int ((p2 &&& (2147483647 : Int32)) % (3 : Int32))), .val (.ref b501), .val (.ref b511), .val (.ref b524), .unset, .unset, .unset] [])) rfl (hb hby at_46) (by decide) (by decide)
    obtain ⟨b540, g540⟩ : ∃ z, z = T534.heap.size := ⟨_, rfl⟩
    rw [← g540] at A540 D540 st540
    have ne541 : b501 ≠ b540 := Nat.ne_of_lt (Nat.lt_of_lt_of_le f538.lt (Nat.le_of_eq g540.symm))
    have ne542 : b511 ≠ b540 := Nat.ne_of_lt (Nat.lt_of_lt_of_le f539.lt (Nat.le_of_eq g540.symm))
    have ne543 : b524 ≠ b540 := Nat.ne_of_lt (Nat.lt_of_lt_of_le f535.lt (Nat.le_of_eq g540.symm))
    have ga544 : n0 ≤ b540 := Nat.le_trans f536 (Nat.le_of_eq g540.symm)
    have sz545 : h0.size ≤ b540 := Nat.le_trans f537.1 (Nat.le_of_eq g540.symm)
    have f546 : Fld Z h540 b540 "com/example/libsld/libsld/Var" "number" "J" (.long (0 : Int64)) := D540 (Or.inr (own_i hw 11 rfl)) (ty := .long) (by decide)
    have f547 := Nat.le_trans f536 E540.1
    have f548 := f537.ext E540
    have f549 := f538.ext E540
    have f550 := f539.ext E540
    have f551 := f535.ext E540
    obtain ⟨_, _, ⟨T552, L552, k552, n552⟩, -, X552, ⟨Lc552, hQ552, l552, y552, z552⟩, st552⟩ := X540.specialBack hx (y := (⟨"com/example/libsld/libsld/Var", "<init>", "(J)V"⟩ : MethodName)) rfl hown (mvT hZ (own_i hw 4 rfl)) (mvT hZ (own_i hw 5 rfl)) (mvT hZ (own_i hw 6 rfl)) (by decide) (backOf (W := 1) (rm1 l Z a0 hw [] b540 (3 : Int64) h540 n0 f547 f546 A540 ga544) hZ (own_i hw 6 rfl) (own_i hw 3 rfl) (by decide) (by decide)) (g := (mkF m 53 #[.val (.int p1), .val (.int p2), .val (.int p3), .val (.int (3 : Int32)), .val (.int ((p2 &&& (2147483647 : Int32)) % (3 : Int32))), .val (.ref b501), .val (.ref b511), .val (.ref b524), .unset, .unset, .unset] [(.long (3 : Int64)), (.ref b540), (.ref b540)])) rfl (by rw [hml]; rfl) (Steps.refl _) (a := b540) (argsL := [(.long (3 : Int64))]) (rest := [(.ref b540)]) (lenOf pd_0 rfl) rfl (by show 2 * 0 + _ ≤ _; exact Nat.le_of_eq rfl) (hb hby at_53) (fun _ _ => ⟨rfl, e540, (by decide : 4 + 0 ≤ _), (by decide : 8 + 0 ≤ _)⟩)
    dsimp only [Pt.U, Pt.locs, Pt.cells, Pt.slots] at X552 l552 y552 z552 st552 hQ552
    subst l552 y552 z552
    obtain ⟨rfl, N552q, K552, f553⟩ := hQ552
    have N552 := Fr.app N534 N552q
    have f554 := Nat.le_trans f547 K552.1
    have f555 := f548.trans K552 (allS (Or.inr sz545) all0)
    have f556 := f549.keep K552
    have f557 := f550.keep K552
    have f558 := f551.keep K552
    obtain ⟨T559, h559, k559, X559, e559, E559, A559, O559, st559⟩ := newR X552 hx hZ hown (own_i hw 14 rfl) (own_i hw 15 rfl) rfl (g := (mkF m 59 #[.val (.int p1), .val (.int p2), .val (.int p3), .val (.int (3 : Int32)), .val (.int ((p2 &&& (2147483647 : Int32)) % (3 : Int32))), .val (.ref b501), .val (.ref b511), .val (.ref b524), .val (.ref b540), .unset, .unset] [(.int (4 : Int32))])) rfl (hb hby at_59) rfl (by decide) (cap := 4) (by decide) (by decide) (by decide) (by decide)
    obtain ⟨b559, g559⟩ : ∃ z, z = T552.heap.size := ⟨_, rfl⟩
    rw [← g559] at A559 st559
    have ne560 : b501 ≠ b559 := Nat.ne_of_lt (Nat.lt_of_lt_of_le f556.lt (Nat.le_of_eq g559.symm))
    have ne561 : b511 ≠ b559 := Nat.ne_of_lt (Nat.lt_of_lt_of_le f557.lt (Nat.le_of_eq g559.symm))
    have ne562 : b524 ≠ b559 := Nat.ne_of_lt (Nat.lt_of_lt_of_le f558.lt (Nat.le_of_eq g559.symm))
    have ne563 : b540 ≠ b559 := Nat.ne_of_lt (Nat.lt_of_lt_of_le f553.lt (Nat.le_of_eq g559.symm))
    have ga564 : n0 ≤ b559 := Nat.le_trans f554 (Nat.le_of_eq g559.symm)
    have sz565 : h0.size ≤ b559 := Nat.le_trans f555.1 (Nat.le_of_eq g559.symm)
    have V559 : Arv Z h559 b559 k559 (.object "com/example/libsld/libsld/Term") (4 : Int32) [.null, .null, .null, .null] .null := (Arv.new A559 (by decide)).pad (pad_rep [] .null 4)
    have f566 := Nat.le_trans f554 E559.1
    have f567 := f555.ext E559
    have f568 := f556.ext E559
    have f569 := f557.ext E559
    have f570 := f558.ext E559
    have f571 := f553.ext E559
    obtain ⟨T572, h572, X572, e572, E572, A572, D572, -, st572⟩ := newO X559 hx hZ hown (own_i hw 16 rfl) (own_i hw 17 rfl) (own_i hw 18 rfl) e559 (g := (mkF m 64 #[.val (.int p1), .val (.int p2), .val (.int p3), .val (.int (3 : Int32)), .val (.int ((p2 &&& (2147483647 : Int32)) % (3 : Int32))), .val (.ref b501), .val (.ref b511), .val (.ref b524), .val (.ref b540), .val (.ref b559), .unset] [])) rfl (hb hby at_64) (by decide) (by decide)
    obtain ⟨b572, g572⟩ : ∃ z, z = h559.size := ⟨_, rfl⟩
    rw [← g572] at A572 D572 st572
    have ne573 : b501 ≠ b572 := Nat.ne_of_lt (Nat.lt_of_lt_of_le f568.lt (Nat.le_of_eq g572.symm))
    have ne574 : b511 ≠ b572 := Nat.ne_of_lt (Nat.lt_of_lt_of_le f569.lt (Nat.le_of_eq g572.symm))
    have ne575 : b524 ≠ b572 := Nat.ne_of_lt (Nat.lt_of_lt_of_le f570.lt (Nat.le_of_eq g572.symm))
    have ne576 : b540 ≠ b572 := Nat.ne_of_lt (Nat.lt_of_lt_of_le f571.lt (Nat.le_of_eq g572.symm))
    have ne577 : b559 ≠ b572 := Nat.ne_of_lt (Nat.lt_of_lt_of_le V559.lt (Nat.le_of_eq g572.symm))
    have ga578 : n0 ≤ b572 := Nat.le_trans f566 (Nat.le_of_eq g572.symm)
    have sz579 : h0.size ≤ b572 := Nat.le_trans f567.1 (Nat.le_of_eq g572.symm)
    have f580 : Fld Z h572 b572 "com/example/libsld/libsld/Struct" "name" "Ljava/lang/String;" .null := D572 (Or.inr (own_i hw 32 rfl)) (ty := (.object "java/lang/String")) (by decide)
    have f581 : Fld Z h572 b572 "com/example/libsld/libsld/Struct" "arity" "I" (.int (0 : Int32)) := D572 (Or.inr (own_i hw 34 rfl)) (ty := .int) (by decide)
    have f582 : Fld Z h572 b572 "com/example/libsld/libsld/Struct" "rest" "[Lcom/example/libsld/libsld/Term;" .null := D572 (Or.inr (own_i hw 36 rfl)) (ty := (.array (.object "com/example/libsld/libsld/Term"))) (by decide)
    have f583 : Fld Z h572 b572 "com/example/libsld/libsld/Struct" "first" "Lcom/example/libsld/libsld/Term;" .null := D572 (Or.inl (own_i hw 43 rfl)) (ty := (.object "com/example/libsld/libsld/Term")) (by decide)
    have f584 : Fld Z h572 b572 "com/example/libsld/libsld/Struct" "second" "Lcom/example/libsld/libsld/Term;" .null := D572 (Or.inl (own_i hw 51 rfl)) (ty := (.object "com/example/libsld/libsld/Term")) (by decide)
    have f585 := Nat.le_trans f566 E572.1
    have f586 := f567.ext E572
    have f587 := f568.ext E572
    have f588 := f569.ext E572
    have f589 := f570.ext E572
    have f590 := f571.ext E572
    have f591 := V559.ext E572
    obtain ⟨a592, T592, h592, k592, X592, e592, E592, hS592, hk592, hZ592, ho592, st592⟩ := ldcS (s := s) (vm0 := s.vm) X572 hx hZ hown (own_i hw 19 rfl) hwS e572 hS0 (Nat.zero_le _) (g := (mkF m 68 #[.val (.int p1), .val (.int p2), .val (.int p3), .val (.int (3 : Int32)), .val (.int ((p2 &&& (2147483647 : Int32)) % (3 : Int32))), .val (.ref b501), .val (.ref b511), .val (.ref b524), .val (.ref b540), .val (.ref b559), .unset] [(.ref b572), (.ref b572)])) rfl (hb hby at_68) (n := 4) (by decide) (by decide) (by decide) (by decide)
    have f593 := Nat.le_trans f585 E592.1
    have f594 := f586.ext E592
    have f595 := f587.ext E592
    have f596 := f588.ext E592
    have f597 := f589.ext E592
    have f598 := f590.ext E592
    have f599 := f591.ext E592
    have f600 := A572.ext E592
    have f601 := f580.ext E592
    have f602 := f581.ext E592
    have f603 := f582.ext E592
    have f604 := f583.ext E592
    have f605 := f584.ext E592
    obtain ⟨_, _, ⟨T606, L606, k606, n606⟩, -, X606, ⟨Lc606, hQ606, l606, y606, z606⟩, st606⟩ := X592.specialBack hx (y := (⟨"com/example/libsld/libsld/Struct", "<init>", "(Ljava/lang/String;I)V"⟩ : MethodName)) rfl ho592 (mvT hZ592 (own_i hw 27 rfl)) (mvT hZ592 (own_i hw 28 rfl)) (mvT hZ592 (own_i hw 29 rfl)) (by decide) (backOf (W := 1) (rm3_3 l Z a0 hw [] b572 a592 h592 n0 f593 f604 f605 f603 f602 f601 f600 ga578) hZ592 (own_i hw 29 rfl) (own_i hw 18 rfl) (by decide) (by decide)) (g := (mkF m 71 #[.val (.int p1), .val (.int p2), .val (.int p3), .val (.int (3 : Int32)), .val (.int ((p2 &&& (2147483647 : Int32)) % (3 : Int32))), .val (.ref b501), .val (.ref b511), .val (.ref b524), .val (.ref b540), .val (.ref b559), .unset] [(.int (3 : Int32)), (.ref a592), (.ref b572), (.ref b572)])) rfl (by rw [hml]; rfl) (Steps.refl _) (a := b572) (argsL := [(.ref a592), (.int (3 : Int32))]) (rest := [(.ref b572)]) (lenOf pd_1 rfl) rfl (by show 2 * 0 + _ ≤ _; exact Nat.le_of_eq rfl) (hb hby at_71) (fun _ _ => ⟨rfl, e592, (by decide : 8 + 1 ≤ _), (by decide : 25 + 1 ≤ _)⟩)
    dsimp only [Pt.U, Pt.locs, Pt.cells, Pt.slots] at X606 l606 y606 z606 st606 hQ606
    subst l606 y606 z606
    obtain ⟨b607, x608, rfl, N606q, K606, f609, f610, f611, f612, f613, f614, f615, f616, f617, f618⟩ := hQ606
    have N606 := Fr.app N552 N606q
    have ne619 : b501 ≠ b607 := Nat.ne_of_lt (Nat.lt_of_lt_of_le f595.lt f615)
    have ne620 : b511 ≠ b607 := Nat.ne_of_lt (Nat.lt_of_lt_of_le f596.lt f615)
    have ne621 : b524 ≠ b607 := Nat.ne_of_lt (Nat.lt_of_lt_of_le f597.lt f615)
    have ne622 : b540 ≠ b607 := Nat.ne_of_lt (Nat.lt_of_lt_of_le f598.lt f615)
    have ne623 : b559 ≠ b607 := Nat.ne_of_lt (Nat.lt_of_lt_of_le f599.lt f615)
    have ne624 : b572 ≠ b607 := Nat.ne_of_lt (Nat.lt_of_lt_of_le f600.lt f615)
    have sz625 : h0.size ≤ b607 := Nat.le_trans f594.1 f615
    have f626 := Nat.le_trans f593 K606.1
    have f627 := f594.trans K606 (allS (Or.inr sz579) all0)
    have f628 := f595.keep K606
    have f629 := f596.keep K606
    have f630 := f597.keep K606
    have f631 := f598.keep K606
    have f632 := f599.keep K606 (ninS ne577 nin0)
    have f633 := Nat.le_trans hk592 K606.1
    have pre634 : ∀ t, Steps p.tables e below (T606.setTop (mkF m 76 #[.val (.int p1), .val (.int p2), .val (.int p3), .val (.int (3 : Int32)), .val (.int ((p2 &&& (2147483647 : Int32)) % (3 : Int32))), .val (.ref b501), .val (.ref b511), .val (.ref b524), .val (.ref b540), .val (.ref b559), .val (.ref b572)] [])) t → Steps p.tables e below (s₁.setTop (entryFrame m #[(.int p1), (.int p2), (.int p3)] maxLocals)) t := fun t k => pre500 t (by
      show Steps p.tables e below (s₁.setTop (mkF m 6 #[.val (.int p1), .val (.int p2), .val (.int p3), .val (.int (3 : Int32)), .unset, .unset, .unset, .unset, .unset, .unset, .unset] [])) t
      refine XS.iloadN X0.here hx rfl (hb hby at_6) rfl ?_
      show Steps p.tables e below (s₁.setTop (mkF m 7 #[.val (.int p1), .val (.int p2), .val (.int p3), .val (.int (3 : Int32)), .unset, .unset, .unset, .unset, .unset, .unset, .unset] [(.int p2)])) t
      refine X0.ldcInt hx hown (mvT hZ (own_i hw 0 rfl)) (g := (mkF m 7 #[.val (.int p1), .val (.int p2), .val (.int p3), .val (.int (3 : Int32)), .unset, .unset, .unset, .unset, .unset, .unset, .unset] [(.int p2)])) rfl (hb hby at_7) _ ?_
      show Steps p.tables e below (s₁.setTop (mkF m 9 #[.val (.int p1), .val (.int p2), .val (.int p3), .val (.int (3 : Int32)), .unset, .unset, .unset, .unset, .unset, .unset, .unset] [(.int (2147483647 : Int32)), (.int p2)])) t
      refine XS.iand X0.here hx rfl (hb hby at_9) rfl ?_
      show Steps p.tables e below (s₁.setTop (mkF m 10 #[.val (.int p1), .val (.int p2), .val (.int p3), .val (.int (3 : Int32)), .unset, .unset, .unset, .unset, .unset, .unset, .unset] [(.int (p2 &&& (2147483647 : Int32)))])) t
      refine XS.iloadN X0.here hx rfl (hb hby at_10) rfl ?_
      show Steps p.tables e below (s₁.setTop (mkF m 11 #[.val (.int p1), .val (.int p2), .val (.int p3), .val (.int (3 : Int32)), .unset, .unset, .unset, .unset, .unset, .unset, .unset] [(.int (3 : Int32)), (.int (p2 &&& (2147483647 : Int32)))])) t
      refine iremM (g := (mkF m 11 #[.val (.int p1), .val (.int p2), .val (.int p3), .val (.int (3 : Int32)), .unset, .unset, .unset, .unset, .unset, .unset, .unset] [(.int (3 : Int32)), (.int (p2 &&& (2147483647 : Int32)))])) X0 hx rfl (hb hby at_11) rfl (by decide) ?_
      show Steps p.tables e below (s₁.setTop (mkF m 12 #[.val (.int p1), .val (.int p2), .val (.int p3), .val (.int (3 : Int32)), .unset, .unset, .unset, .unset, .unset, .unset, .unset] [(.int ((p2 &&& (2147483647 : Int32)) % (3 : Int32)))])) t
      refine XS.istore X0.here hx rfl (hb hby at_12) rfl (l' := #[.val (.int p1), .val (.int p2), .val (.int p3), .val (.int (3 : Int32)), .val (.int ((p2 &&& (2147483647 : Int32)) % (3 : Int32))), .unset, .unset, .unset, .unset, .unset, .unset]) rfl ?_
      show Steps p.tables e below (s₁.setTop (mkF m 14 #[.val (.int p1), .val (.int p2), .val (.int p3), .val (.int (3 : Int32)), .val (.int ((p2 &&& (2147483647 : Int32)) % (3 : Int32))), .unset, .unset, .unset, .unset, .unset, .unset] [])) t
      refine st501 _ ?_
      show Steps p.tables e below (T501.setTop (mkF m 17 #[.val (.int p1), .val (.int p2), .val (.int p3), .val (.int (3 : Int32)), .val (.int ((p2 &&& (2147483647 : Int32)) % (3 : Int32))), .unset, .unset, .unset, .unset, .unset, .unset] [(.ref b501)])) t
      refine XS.dup X501.here hx rfl (hb hby at_17) rfl rfl ?_
      show Steps p.tables e below (T501.setTop (mkF m 18 #[.val (.int p1), .val (.int p2), .val (.int p3), .val (.int (3 : Int32)), .val (.int ((p2 &&& (2147483647 : Int32)) % (3 : Int32))), .unset, .unset, .unset, .unset, .unset, .unset] [(.ref b501), (.ref b501)])) t
      refine XS.lconst X501.here hx rfl (hb hby at_18) ?_
      show Steps p.tables e below (T501.setTop (mkF m 19 #[.val (.int p1), .val (.int p2), .val (.int p3), .val (.int (3 : Int32)), .val (.int ((p2 &&& (2147483647 : Int32)) % (3 : Int32))), .unset, .unset, .unset, .unset, .unset, .unset] [(.long (0 : Int64)), (.ref b501), (.ref b501)])) t
      refine st507.trans ?_
      show Steps p.tables e below (T507.setTop (mkF m 22 #[.val (.int p1), .val (.int p2), .val (.int p3), .val (.int (3 : Int32)), .val (.int ((p2 &&& (2147483647 : Int32)) % (3 : Int32))), .unset, .unset, .unset, .unset, .unset, .unset] [(.ref b501)])) t
      refine XS.astore X507.here hx rfl (hb hby at_22) rfl rfl (l' := #[.val (.int p1), .val (.int p2), .val (.int p3), .val (.int (3 : Int32)), .val (.int ((p2 &&& (2147483647 : Int32)) % (3 : Int32))), .val (.ref b501), .unset, .unset, .unset, .unset, .unset]) rfl ?_
      show Steps p.tables e below (T507.setTop (mkF m 24 #[.val (.int p1), .val (.int p2), .val (.int p3), .val (.int (3 : Int32)), .val (.int ((p2 &&& (2147483647 : Int32)) % (3 : Int32))), .val (.ref b501), .unset, .unset, .unset, .unset, .unset] [])) t
      refine st511 _ ?_
      show Steps p.tables e below (T511.setTop (mkF m 27 #[.val (.int p1), .val (.int p2), .val (.int p3), .val (.int (3 : Int32)), .val (.int ((p2 &&& (2147483647 : Int32)) % (3 : Int32))), .val (.ref b501), .unset, .unset, .unset, .unset, .unset] [(.ref b511)])) t
      refine XS.dup X511.here hx rfl (hb hby at_27) rfl rfl ?_
      show Steps p.tables e below (T511.setTop (mkF m 28 #[.val (.int p1), .val (.int p2), .val (.int p3), .val (.int (3 : Int32)), .val (.int ((p2 &&& (2147483647 : Int32)) % (3 : Int32))), .val (.ref b501), .unset, .unset, .unset, .unset, .unset] [(.ref b511), (.ref b511)])) t
      refine XS.lconst X511.here hx rfl (hb hby at_28) ?_
      show Steps p.tables e below (T511.setTop (mkF m 29 #[.val (.int p1), .val (.int p2), .val (.int p3), .val (.int (3 : Int32)), .val (.int ((p2 &&& (2147483647 : Int32)) % (3 : Int32))), .val (.ref b501), .unset, .unset, .unset, .unset, .unset] [(.long (1 : Int64)), (.ref b511), (.ref b511)])) t
      refine st519.trans ?_
      show Steps p.tables e below (T519.setTop (mkF m 32 #[.val (.int p1), .val (.int p2), .val (.int p3), .val (.int (3 : Int32)), .val (.int ((p2 &&& (2147483647 : Int32)) % (3 : Int32))), .val (.ref b501), .unset, .unset, .unset, .unset, .unset] [(.ref b511)])) t
      refine XS.astore X519.here hx rfl (hb hby at_32) rfl rfl (l' := #[.val (.int p1), .val (.int p2), .val (.int p3), .val (.int (3 : Int32)), .val (.int ((p2 &&& (2147483647 : Int32)) % (3 : Int32))), .val (.ref b501), .val (.ref b511), .unset, .unset, .unset, .unset]) rfl ?_
      show Steps p.tables e below (T519.setTop (mkF m 34 #[.val (.int p1), .val (.int p2), .val (.int p3), .val (.int (3 : Int32)), .val (.int ((p2 &&& (2147483647 : Int32)) % (3 : Int32))), .val (.ref b501), .val (.ref b511), .unset, .unset, .unset, .unset] [])) t
      refine st524 _ ?_
      show Steps p.tables e below (T524.setTop (mkF m 37 #[.val (.int p1), .val (.int p2), .val (.int p3), .val (.int (3 : Int32)), .val (.int ((p2 &&& (2147483647 : Int32)) % (3 : Int32))), .val (.ref b501), .val (.ref b511), .unset, .unset, .unset, .unset] [(.ref b524)])) t
      refine XS.dup X524.here hx rfl (hb hby at_37) rfl rfl ?_
      show Steps p.tables e below (T524.setTop (mkF m 38 #[.val (.int p1), .val (.int p2), .val (.int p3), .val (.int (3 : Int32)), .val (.int ((p2 &&& (2147483647 : Int32)) % (3 : Int32))), .val (.ref b501), .val (.ref b511), .unset, .unset, .unset, .unset] [(.ref b524), (.ref b524)])) t
      refine X524.ldc2Long hx hown (mvT hZ (own_i hw 12 rfl)) (g := (mkF m 38 #[.val (.int p1), .val (.int p2), .val (.int p3), .val (.int (3 : Int32)), .val (.int ((p2 &&& (2147483647 : Int32)) % (3 : Int32))), .val (.ref b501), .val (.ref b511), .unset, .unset, .unset, .unset] [(.ref b524), (.ref b524)])) rfl (hb hby at_38) _ ?_
      show Steps p.tables e below (T524.setTop (mkF m 41 #[.val (.int p1), .val (.int p2), .val (.int p3), .val (.int (3 : Int32)), .val (.int ((p2 &&& (2147483647 : Int32)) % (3 : Int32))), .val (.ref b501), .val (.ref b511), .unset, .unset, .unset, .unset] [(.long (2 : Int64)), (.ref b524), (.ref b524)])) t
      refine st534.trans ?_
      show Steps p.tables e below (T534.setTop (mkF m 44 #[.val (.int p1), .val (.int p2), .val (.int p3), .val (.int (3 : Int32)), .val (.int ((p2 &&& (2147483647 : Int32)) % (3 : Int32))), .val (.ref b501), .val (.ref b511), .unset, .unset, .unset, .unset] [(.ref b524)])) t
      refine XS.astore X534.here hx rfl (hb hby at_44) rfl rfl (l' := #[.val (.int p1), .val (.int p2), .val (.int p3), .val (.int (3 : Int32)), .val (.int ((p2 &&& (2147483647 : Int32)) % (3 : Int32))), .val (.ref b501), .val (.ref b511), .val (.ref b524), .unset, .unset, .unset]) rfl ?_
      show Steps p.tables e below (T534.setTop (mkF m 46 #[.val (.int p1), .val (.int p2), .val (.int p3), .val (.int (3 : Int32)), .val (.int ((p2 &&& (2147483647 : Int32)) % (3 : Int32))), .val (.ref b501), .val (.ref b511), .val (.ref b524), .unset, .unset, .unset] [])) t
      refine st540 _ ?_
      show Steps p.tables e below (T540.setTop (mkF m 49 #[.val (.int p1), .val (.int p2), .val (.int p3), .val (.int (3 : Int32)), .val (.int ((p2 &&& (2147483647 : Int32)) % (3 : Int32))), .val (.ref b501), .val (.ref b511), .val (.ref b524), .unset, .unset, .unset] [(.ref b540)])) t
      refine XS.dup X540.here hx rfl (hb hby at_49) rfl rfl ?_
      show Steps p.tables e below (T540.setTop (mkF m 50 #[.val (.int p1), .val (.int p2), .val (.int p3), .val (.int (3 : Int32)), .val (.int ((p2 &&& (2147483647 : Int32)) % (3 : Int32))), .val (.ref b501), .val (.ref b511), .val (.ref b524), .unset, .unset, .unset] [(.ref b540), (.ref b540)])) t
      refine X540.ldc2Long hx hown (mvT hZ (own_i hw 13 rfl)) (g := (mkF m 50 #[.val (.int p1), .val (.int p2), .val (.int p3), .val (.int (3 : Int32)), .val (.int ((p2 &&& (2147483647 : Int32)) % (3 : Int32))), .val (.ref b501), .val (.ref b511), .val (.ref b524), .unset, .unset, .unset] [(.ref b540), (.ref b540)])) rfl (hb hby at_50) _ ?_
      show Steps p.tables e below (T540.setTop (mkF m 53 #[.val (.int p1), .val (.int p2), .val (.int p3), .val (.int (3 : Int32)), .val (.int ((p2 &&& (2147483647 : Int32)) % (3 : Int32))), .val (.ref b501), .val (.ref b511), .val (.ref b524), .unset, .unset, .unset] [(.long (3 : Int64)), (.ref b540), (.ref b540)])) t
      refine st552.trans ?_
      show Steps p.tables e below (T552.setTop (mkF m 56 #[.val (.int p1), .val (.int p2), .val (.int p3), .val (.int (3 : Int32)), .val (.int ((p2 &&& (2147483647 : Int32)) % (3 : Int32))), .val (.ref b501), .val (.ref b511), .val (.ref b524), .unset, .unset, .unset] [(.ref b540)])) t
      refine XS.astore X552.here hx rfl (hb hby at_56) rfl rfl (l' := #[.val (.int p1), .val (.int p2), .val (.int p3), .val (.int (3 : Int32)), .val (.int ((p2 &&& (2147483647 : Int32)) % (3 : Int32))), .val (.ref b501), .val (.ref b511), .val (.ref b524), .val (.ref b540), .unset, .unset]) rfl ?_
      show Steps p.tables e below (T552.setTop (mkF m 58 #[.val (.int p1), .val (.int p2), .val (.int p3), .val (.int (3 : Int32)), .val (.int ((p2 &&& (2147483647 : Int32)) % (3 : Int32))), .val (.ref b501), .val (.ref b511), .val (.ref b524), .val (.ref b540), .unset, .unset] [])) t
      refine XS.iconst X552.here hx rfl (hb hby at_58) ?_
      show Steps p.tables e below (T552.setTop (mkF m 59 #[.val (.int p1), .val (.int p2), .val (.int p3), .val (.int (3 : Int32)), .val (.int ((p2 &&& (2147483647 : Int32)) % (3 : Int32))), .val (.ref b501), .val (.ref b511), .val (.ref b524), .val (.ref b540), .unset, .unset] [(.int (4 : Int32))])) t
      refine st559 _ ?_
      show Steps p.tables e below (T559.setTop (mkF m 62 #[.val (.int p1), .val (.int p2), .val (.int p3), .val (.int (3 : Int32)), .val (.int ((p2 &&& (2147483647 : Int32)) % (3 : Int32))), .val (.ref b501), .val (.ref b511), .val (.ref b524), .val (.ref b540), .unset, .unset] [(.ref b559)])) t
      refine XS.astore X559.here hx rfl (hb hby at_62) rfl rfl (l' := #[.val (.int p1), .val (.int p2), .val (.int p3), .val (.int (3 : Int32)), .val (.int ((p2 &&& (2147483647 : Int32)) % (3 : Int32))), .val (.ref b501), .val (.ref b511), .val (.ref b524), .val (.ref b540), .val (.ref b559), .unset]) rfl ?_
      show Steps p.tables e below (T559.setTop (mkF m 64 #[.val (.int p1), .val (.int p2), .val (.int p3), .val (.int (3 : Int32)), .val (.int ((p2 &&& (2147483647 : Int32)) % (3 : Int32))), .val (.ref b501), .val (.ref b511), .val (.ref b524), .val (.ref b540), .val (.ref b559), .unset] [])) t
      refine st572 _ ?_
      show Steps p.tables e below (T572.setTop (mkF m 67 #[.val (.int p1), .val (.int p2), .val (.int p3), .val (.int (3 : Int32)), .val (.int ((p2 &&& (2147483647 : Int32)) % (3 : Int32))), .val (.ref b501), .val (.ref b511), .val (.ref b524), .val (.ref b540), .val (.ref b559), .unset] [(.ref b572)])) t
      refine XS.dup X572.here hx rfl (hb hby at_67) rfl rfl ?_
      show Steps p.tables e below (T572.setTop (mkF m 68 #[.val (.int p1), .val (.int p2), .val (.int p3), .val (.int (3 : Int32)), .val (.int ((p2 &&& (2147483647 : Int32)) % (3 : Int32))), .val (.ref b501), .val (.ref b511), .val (.ref b524), .val (.ref b540), .val (.ref b559), .unset] [(.ref b572), (.ref b572)])) t
      refine st592 _ ?_
      show Steps p.tables e below (T592.setTop (mkF m 70 #[.val (.int p1), .val (.int p2), .val (.int p3), .val (.int (3 : Int32)), .val (.int ((p2 &&& (2147483647 : Int32)) % (3 : Int32))), .val (.ref b501), .val (.ref b511), .val (.ref b524), .val (.ref b540), .val (.ref b559), .unset] [(.ref a592), (.ref b572), (.ref b572)])) t
      refine XS.iloadN X592.here hx rfl (hb hby at_70) rfl ?_
      show Steps p.tables e below (T592.setTop (mkF m 71 #[.val (.int p1), .val (.int p2), .val (.int p3), .val (.int (3 : Int32)), .val (.int ((p2 &&& (2147483647 : Int32)) % (3 : Int32))), .val (.ref b501), .val (.ref b511), .val (.ref b524), .val (.ref b540), .val (.ref b559), .unset] [(.int (3 : Int32)), (.ref a592), (.ref b572), (.ref b572)])) t
      refine st606.trans ?_
      show Steps p.tables e below (T606.setTop (mkF m 74 #[.val (.int p1), .val (.int p2), .val (.int p3), .val (.int (3 : Int32)), .val (.int ((p2 &&& (2147483647 : Int32)) % (3 : Int32))), .val (.ref b501), .val (.ref b511), .val (.ref b524), .val (.ref b540), .val (.ref b559), .unset] [(.ref b572)])) t
      refine XS.astore X606.here hx rfl (hb hby at_74) rfl rfl (l' := #[.val (.int p1), .val (.int p2), .val (.int p3), .val (.int (3 : Int32)), .val (.int ((p2 &&& (2147483647 : Int32)) % (3 : Int32))), .val (.ref b501), .val (.ref b511), .val (.ref b524), .val (.ref b540), .val (.ref b559), .val (.ref b572)]) rfl ?_
      exact k)
    obtain ⟨T668, L668, h668, f0, X668, e668, N668, f669, f670, f671, f672, f673, f674, f675, f676, f677, f678, f679, f680, f681, f682, hp683, hP668, pre668⟩ : ∃ (T' : State) (L' : List Loc) (h' : Heap) (f0 : Value), Stand p l e room_1 (s.setVm T592.vm) m #[(.int p1), (.int p2), (.int p3)] below meth c T' L' 9 26 ∧ T'.heap = h' ∧ Fr n0 L' ∧ n0 ≤ h'.size ∧ Keep h0 h' [] ∧ Exa Z h' b501 "com/example/libsld/libsld/Var" ∧ Exa Z h' b511 "com/example/libsld/libsld/Var" ∧ Exa Z h' b524 "com/example/libsld/libsld/Var" ∧ Exa Z h' b540 "com/example/libsld/libsld/Var" ∧ Exa Z h' b572 "com/example/libsld/libsld/Struct" ∧ k592 ≤ h'.size ∧ Fld Z h' b572 "com/example/libsld/libsld/Struct" "second" "Lcom/example/libsld/libsld/Term;" .null ∧ Fld Z h' b572 "com/example/libsld/libsld/Struct" "arity" "I" (.int (3 : Int32)) ∧ Fld Z h' b572 "com/example/libsld/libsld/Struct" "rest" "[Lcom/example/libsld/libsld/Term;" (.ref b607) ∧ Arv Z h' b607 x608 (.object "com/example/libsld/libsld/Term") (1 : Int32) [.null] .null ∧ Arv Z h' b559 k559 (.object "com/example/libsld/libsld/Term") (4 : Int32) [f0, .null, .null, .null] .null ∧ Fld Z h' b572 "com/example/libsld/libsld/Struct" "first" "Lcom/example/libsld/libsld/Term;" f0 ∧ (f0.isRef = true) ∧ (True) ∧ ∀ t, Steps p.tables e below (T'.setTop (mkF m 96 #[.val (.int p1), .val (.int p2), .val (.int p3), .val (.int (3 : Int32)), .val (.int ((p2 &&& (2147483647 : Int32)) % (3 : Int32))), .val (.ref b501), .val (.ref b511), .val (.ref b524), .val (.ref b540), .val (.ref b559), .val (.ref b572)] [])) t → Steps p.tables e below (s₁.setTop (entryFrame m #[(.int p1), (.int p2), (.int p3)] maxLocals)) t := by
      have pre636 : ∀ t, Steps p.tables e below (T606.setTop (mkF m 79 #[.val (.int p1), .val (.int p2), .val (.int p3), .val (.int (3 : Int32)), .val (.int ((p2 &&& (2147483647 : Int32)) % (3 : Int32))), .val (.ref b501), .val (.ref b511), .val (.ref b524), .val (.ref b540), .val (.ref b559), .val (.ref b572)] [(.int (p3 &&& (1 : Int32)))])) t → Steps p.tables e below (s₁.setTop (entryFrame m #[(.int p1), (.int p2), (.int p3)] maxLocals)) t := fun t k => pre634 t (by
        show Steps p.tables e below (T606.setTop (mkF m 76 #[.val (.int p1), .val (.int p2), .val (.int p3), .val (.int (3 : Int32)), .val (.int ((p2 &&& (2147483647 : Int32)) % (3 : Int32))), .val (.ref b501), .val (.ref b511), .val (.ref b524), .val (.ref b540), .val (.ref b559), .val (.ref b572)] [])) t
        refine XS.iloadN X606.here hx rfl (hb hby at_76) rfl ?_
        show Steps p.tables e below (T606.setTop (mkF m 77 #[.val (.int p1), .val (.int p2), .val (.int p3), .val (.int (3 : Int32)), .val (.int ((p2 &&& (2147483647 : Int32)) % (3 : Int32))), .val (.ref b501), .val (.ref b511), .val (.ref b524), .val (.ref b540), .val (.ref b559), .val (.ref b572)] [(.int p3)])) t
        refine XS.iconst X606.here hx rfl (hb hby at_77) ?_
        show Steps p.tables e below (T606.setTop (mkF m 78 #[.val (.int p1), .val (.int p2), .val (.int p3), .val (.int (3 : Int32)), .val (.int ((p2 &&& (2147483647 : Int32)) % (3 : Int32))), .val (.ref b501), .val (.ref b511), .val (.ref b524), .val (.ref b540), .val (.ref b559), .val (.ref b572)] [(.int (1 : Int32)), (.int p3)])) t
        refine XS.iand X606.here hx rfl (hb hby at_78) rfl ?_
        exact k)
      by_cases hc635 : (p3 &&& (1 : Int32)) = (0 : Int32)
      · have pre637 : ∀ t, Steps p.tables e below (T606.setTop (mkF m 96 #[.val (.int p1), .val (.int p2), .val (.int p3), .val (.int (3 : Int32)), .val (.int ((p2 &&& (2147483647 : Int32)) % (3 : Int32))), .val (.ref b501), .val (.ref b511), .val (.ref b524), .val (.ref b540), .val (.ref b559), .val (.ref b572)] [])) t → Steps p.tables e below (s₁.setTop (entryFrame m #[(.int p1), (.int p2), (.int p3)] maxLocals)) t := fun t k => pre636 t (by
          show Steps p.tables e below (T606.setTop (mkF m 79 #[.val (.int p1), .val (.int p2), .val (.int p3), .val (.int (3 : Int32)), .val (.int ((p2 &&& (2147483647 : Int32)) % (3 : Int32))), .val (.ref b501), .val (.ref b511), .val (.ref b524), .val (.ref b540), .val (.ref b559), .val (.ref b572)] [(.int (p3 &&& (1 : Int32)))])) t
          refine XS.ifYes X606.here hx rfl (pc0 := 79) (pc' := 96) rfl (hb hby at_79) rfl ((if0 _ _).trans (teq hc635).1) (by decide) (by decide) ?_
          exact k)
        exact ⟨_, _, T606.heap, .null, X606, rfl, N606, f626, f627, f628, f629, f630, f631, f609, f633, f611, f612, f613, f616, f632, f610, (by rfl), (by trivial), pre637⟩
      · obtain ⟨cq638, kq638, q638a, q638b, q638c⟩ := isOf hZ592 rfl f609
        obtain ⟨_, _, ⟨T638, L638, k638, n638⟩, -, X638, ⟨Lc638, hQ638, l638, y638, z638⟩, st638⟩ := X606.virtualBack hx (y := (⟨"com/example/libsld/libsld/Struct", "setArg", "(ILcom/example/libsld/libsld/Term;)V"⟩ : MethodName)) (z := (⟨"com/example/libsld/libsld/Struct", "setArg", "(ILcom/example/libsld/libsld/Term;)V"⟩ : MethodName)) ho592 (mvT hZ592 (own_i hw 44 rfl)) (mvT hZ592 (own_i hw 45 rfl)) (notFace_of_selects (args := #[]) (mvT hZ592 (own_i hw 47 rfl))) (mvT hZ592 (own_i hw 47 rfl)) (mvT hZ592 (own_i hw 46 rfl)) (by decide) (backOf (W := 0) (rm5_0 l Z a0 hw [] b572 b501 .null .null (.ref b607) (3 : Int32) T606.heap n0 f626 f610 f611 f613 f612 f609 ga578) hZ592 (own_i hw 48 rfl) (own_i hw 18 rfl) (by decide) (by decide)) q638a q638c (g := (mkF m 87 #[.val (.int p1), .val (.int p2), .val (.int p3), .val (.int (3 : Int32)), .val (.int ((p2 &&& (2147483647 : Int32)) % (3 : Int32))), .val (.ref b501), .val (.ref b511), .val (.ref b524), .val (.ref b540), .val (.ref b559), .val (.ref b572)] [(.ref b501), (.int (0 : Int32)), (.ref b572)])) rfl (by rw [hml]; rfl) (Steps.refl _) (argsL := [(.int (0 : Int32)), (.ref b501)]) (rest := []) (lenOf pd_2 rfl) rfl (by show 2 * 0 + _ ≤ _; exact Nat.le_of_eq rfl) (hb hby at_87) (fun _ _ => ⟨rfl, rfl, (by decide : 9 + 0 ≤ _), (by decide : 26 + 0 ≤ _)⟩)
        dsimp only [Pt.U, Pt.locs, Pt.cells, Pt.slots] at X638 l638 y638 z638 st638 hQ638
        subst l638 y638 z638
        obtain ⟨rfl, N638q, K638, f639, f640, f641, f642, f643⟩ := hQ638
        have N638 := Fr.app N606 N638q
        have f644 := Nat.le_trans f626 K638.1
        have f645 := f627.trans K638 (allS (Or.inr sz579) all0)
        have f646 := f628.keep K638
        have f647 := f629.keep K638
        have f648 := f630.keep K638
        have f649 := f631.keep K638
        have f650 := f632.keep K638 (ninS ne577 nin0)
        have f651 := Nat.le_trans f633 K638.1
        have f652 := f616.keep K638 (ninS (Ne.symm ne624) nin0)
        obtain ⟨cl653, Ar653, q653, S653, N653z, H653, G653⟩ := (id f650)
        have hin653 : ¬ ((0 : Int32) < 0 ∨ cl653.slots.size ≤ ((0 : Int32)).toNatClampNeg) := inb_of S653 ⟨by decide, by decide⟩
        obtain ⟨T653, h653, X653, e653, W653, st653⟩ := stR X638 hx hZ592 rfl Ar653 (j := (0 : Int32)) hin653 rfl (Sto.ofV Ar653 q653 O559 (Ins.of_exa f646 (own_i hw 49 rfl))) (g := (mkF m 95 #[.val (.int p1), .val (.int p2), .val (.int p3), .val (.int (3 : Int32)), .val (.int ((p2 &&& (2147483647 : Int32)) % (3 : Int32))), .val (.ref b501), .val (.ref b511), .val (.ref b524), .val (.ref b540), .val (.ref b559), .val (.ref b572)] [(.ref b501), (.int (0 : Int32)), (.ref b559)])) rfl rfl (hb hby at_95)
        have V653 : Arv Z h653 b559 k559 (.object "com/example/libsld/libsld/Term") (4 : Int32) [(.ref b501), .null, .null, .null] .null := Arv.set Ar653 q653 S653 N653z H653 G653 rfl W653 0 rfl (Nat.le_of_ble_eq_true rfl)
        have N653 := Fr.snoc X653 N638 ga564
        have f654 := Nat.le_trans f644 (Keep.of_wr W653).1
        have f655 := f645.wr W653 (Or.inr sz565)
        have f656 := f646.wr W653
        have f657 := f647.wr W653
        have f658 := f648.wr W653
        have f659 := f649.wr W653
        have f660 := f639.wr W653
        have f661 := Nat.le_trans f651 (Keep.of_wr W653).1
        have f662 := f652.other W653 (Ne.symm ne623)
        have f663 := f640.other W653 (Or.inl (Ne.symm ne577))
        have f664 := f641.other W653 (Or.inl (Ne.symm ne577))
        have f665 := f642.other W653 (Or.inl (Ne.symm ne577))
        have f666 := f643.other W653 (Or.inl (Ne.symm ne577))
        have pre667 : ∀ t, Steps p.tables e below (T653.setTop (mkF m 96 #[.val (.int p1), .val (.int p2), .val (.int p3), .val (.int (3 : Int32)), .val (.int ((p2 &&& (2147483647 : Int32)) % (3 : Int32))), .val (.ref b501), .val (.ref b511), .val (.ref b524), .val (.ref b540), .val (.ref b559), .val (.ref b572)] [])) t → Steps p.tables e below (s₁.setTop (entryFrame m #[(.int p1), (.int p2), (.int p3)] maxLocals)) t := fun t k => pre636 t (by
          show Steps p.tables e below (T606.setTop (mkF m 79 #[.val (.int p1), .val (.int p2), .val (.int p3), .val (.int (3 : Int32)), .val (.int ((p2 &&& (2147483647 : Int32)) % (3 : Int32))), .val (.ref b501), .val (.ref b511), .val (.ref b524), .val (.ref b540), .val (.ref b559), .val (.ref b572)] [(.int (p3 &&& (1 : Int32)))])) t
          refine XS.ifNo X606.here hx rfl (hb hby at_79) rfl ((if0 _ _).trans (feq hc635).1) ?_
          show Steps p.tables e below (T606.setTop (mkF m 82 #[.val (.int p1), .val (.int p2), .val (.int p3), .val (.int (3 : Int32)), .val (.int ((p2 &&& (2147483647 : Int32)) % (3 : Int32))), .val (.ref b501), .val (.ref b511), .val (.ref b524), .val (.ref b540), .val (.ref b559), .val (.ref b572)] [])) t
          refine XS.aload X606.here hx rfl (hb hby at_82) rfl rfl ?_
          show Steps p.tables e below (T606.setTop (mkF m 84 #[.val (.int p1), .val (.int p2), .val (.int p3), .val (.int (3 : Int32)), .val (.int ((p2 &&& (2147483647 : Int32)) % (3 : Int32))), .val (.ref b501), .val (.ref b511), .val (.ref b524), .val (.ref b540), .val (.ref b559), .val (.ref b572)] [(.ref b572)])) t
          refine XS.iconst X606.here hx rfl (hb hby at_84) ?_
          show Steps p.tables e below (T606.setTop (mkF m 85 #[.val (.int p1), .val (.int p2), .val (.int p3), .val (.int (3 : Int32)), .val (.int ((p2 &&& (2147483647 : Int32)) % (3 : Int32))), .val (.ref b501), .val (.ref b511), .val (.ref b524), .val (.ref b540), .val (.ref b559), .val (.ref b572)] [(.int (0 : Int32)), (.ref b572)])) t
          refine XS.aload X606.here hx rfl (hb hby at_85) rfl rfl ?_
          show Steps p.tables e below (T606.setTop (mkF m 87 #[.val (.int p1), .val (.int p2), .val (.int p3), .val (.int (3 : Int32)), .val (.int ((p2 &&& (2147483647 : Int32)) % (3 : Int32))), .val (.ref b501), .val (.ref b511), .val (.ref b524), .val (.ref b540), .val (.ref b559), .val (.ref b572)] [(.ref b501), (.int (0 : Int32)), (.ref b572)])) t
          refine st638.trans ?_
          show Steps p.tables e below (T638.setTop (mkF m 90 #[.val (.int p1), .val (.int p2), .val (.int p3), .val (.int (3 : Int32)), .val (.int ((p2 &&& (2147483647 : Int32)) % (3 : Int32))), .val (.ref b501), .val (.ref b511), .val (.ref b524), .val (.ref b540), .val (.ref b559), .val (.ref b572)] [])) t
          refine XS.aload X638.here hx rfl (hb hby at_90) rfl rfl ?_
          show Steps p.tables e below (T638.setTop (mkF m 92 #[.val (.int p1), .val (.int p2), .val (.int p3), .val (.int (3 : Int32)), .val (.int ((p2 &&& (2147483647 : Int32)) % (3 : Int32))), .val (.ref b501), .val (.ref b511), .val (.ref b524), .val (.ref b540), .val (.ref b559), .val (.ref b572)] [(.ref b559)])) t
          refine XS.iconst X638.here hx rfl (hb hby at_92) ?_
          show Steps p.tables e below (T638.setTop (mkF m 93 #[.val (.int p1), .val (.int p2), .val (.int p3), .val (.int (3 : Int32)), .val (.int ((p2 &&& (2147483647 : Int32)) % (3 : Int32))), .val (.ref b501), .val (.ref b511), .val (.ref b524), .val (.ref b540), .val (.ref b559), .val (.ref b572)] [(.int (0 : Int32)), (.ref b559)])) t
          refine XS.aload X638.here hx rfl (hb hby at_93) rfl rfl ?_
          show Steps p.tables e below (T638.setTop (mkF m 95 #[.val (.int p1), .val (.int p2), .val (.int p3), .val (.int (3 : Int32)), .val (.int ((p2 &&& (2147483647 : Int32)) % (3 : Int32))), .val (.ref b501), .val (.ref b511), .val (.ref b524), .val (.ref b540), .val (.ref b559), .val (.ref b572)] [(.ref b501), (.int (0 : Int32)), (.ref b559)])) t
          refine st653 _ ?_
          exact k)
        exact ⟨_, _, h653, (.ref b501), X653, e653, N653, f654, f655, f656, f657, f658, f659, f660, f661, f664, f666, f665, f662, V653, f663, (by rfl), (by trivial), pre667⟩
    obtain ⟨T717, L717, h717, f1, X717, e717, N717, f718, f719, f720, f721, f722, f723, f724, f725, f726, f727, f728, f729, f730, f731, hp732, hP717, pre717⟩ : ∃ (T' : State) (L' : List Loc) (h' : Heap) (f1 : Value), Stand p l e room_1 (s.setVm T592.vm) m #[(.int p1), (.int p2), (.int p3)] below meth c T' L' 9 26 ∧ T'.heap = h' ∧ Fr n0 L' ∧ n0 ≤ h'.size ∧ Keep h0 h' [] ∧ Exa Z h' b501 "com/example/libsld/libsld/Var" ∧ Exa Z h' b511 "com/example/libsld/libsld/Var" ∧ Exa Z h' b524 "com/example/libsld/libsld/Var" ∧ Exa Z h' b540 "com/example/libsld/libsld/Var" ∧ Exa Z h' b572 "com/example/libsld/libsld/Struct" ∧ k592 ≤ h'.size ∧ Fld Z h' b572 "com/example/libsld/libsld/Struct" "arity" "I" (.int (3 : Int32)) ∧ Fld Z h' b572 "com/example/libsld/libsld/Struct" "rest" "[Lcom/example/libsld/libsld/Term;" (.ref b607) ∧ Arv Z h' b607 x608 (.object "com/example/libsld/libsld/Term") (1 : Int32) [.null] .null ∧ Fld Z h' b572 "com/example/libsld/libsld/Struct" "first" "Lcom/example/libsld/libsld/Term;" f0 ∧ Arv Z h' b559 k559 (.object "com/example/libsld/libsld/Term") (4 : Int32) [f0, f1, .null, .null] .null ∧ Fld Z h' b572 "com/example/libsld/libsld/Struct" "second" "Lcom/example/libsld/libsld/Term;" f1 ∧ (f1.isRef = true) ∧ (True) ∧ ∀ t, Steps p.tables e below (T'.setTop (mkF m 121 #[.val (.int p1), .val (.int p2), .val (.int p3), .val (.int (3 : Int32)), .val (.int ((p2 &&& (2147483647 : Int32)) % (3 : Int32))), .val (.ref b501), .val (.ref b511), .val (.ref b524), .val (.ref b540), .val (.ref b559), .val (.ref b572)] [])) t → Steps p.tables e below (s₁.setTop (entryFrame m #[(.int p1), (.int p2), (.int p3)] maxLocals)) t := by
      have pre685 : ∀ t, Steps p.tables e below (T668.setTop (mkF m 104 #[.val (.int p1), .val (.int p2), .val (.int p3), .val (.int (3 : Int32)), .val (.int ((p2 &&& (2147483647 : Int32)) % (3 : Int32))), .val (.ref b501), .val (.ref b511), .val (.ref b524), .val (.ref b540), .val (.ref b559), .val (.ref b572)] [(.int (p3 &&& (2 : Int32)))])) t → Steps p.tables e below (s₁.setTop (entryFrame m #[(.int p1), (.int p2), (.int p3)] maxLocals)) t := fun t k => pre668 t (by
        show Steps p.tables e below (T668.setTop (mkF m 96 #[.val (.int p1), .val (.int p2), .val (.int p3), .val (.int (3 : Int32)), .val (.int ((p2 &&& (2147483647 : Int32)) % (3 : Int32))), .val (.ref b501), .val (.ref b511), .val (.ref b524), .val (.ref b540), .val (.ref b559), .val (.ref b572)] [])) t
        refine XS.iloadN X668.here hx rfl (hb hby at_96) rfl ?_
        show Steps p.tables e below (T668.setTop (mkF m 97 #[.val (.int p1), .val (.int p2), .val (.int p3), .val (.int (3 : Int32)), .val (.int ((p2 &&& (2147483647 : Int32)) % (3 : Int32))), .val (.ref b501), .val (.ref b511), .val (.ref b524), .val (.ref b540), .val (.ref b559), .val (.ref b572)] [(.int (3 : Int32))])) t
        refine XS.iconst X668.here hx rfl (hb hby at_97) ?_
        show Steps p.tables e below (T668.setTop (mkF m 98 #[.val (.int p1), .val (.int p2), .val (.int p3), .val (.int (3 : Int32)), .val (.int ((p2 &&& (2147483647 : Int32)) % (3 : Int32))), .val (.ref b501), .val (.ref b511), .val (.ref b524), .val (.ref b540), .val (.ref b559), .val (.ref b572)] [(.int (1 : Int32)), (.int (3 : Int32))])) t
        refine XS.icmpNo X668.here hx rfl (hb hby at_98) rfl (tlt (by decide : (1 : Int32) < (3 : Int32))).2.2.2 ?_
        show Steps p.tables e below (T668.setTop (mkF m 101 #[.val (.int p1), .val (.int p2), .val (.int p3), .val (.int (3 : Int32)), .val (.int ((p2 &&& (2147483647 : Int32)) % (3 : Int32))), .val (.ref b501), .val (.ref b511), .val (.ref b524), .val (.ref b540), .val (.ref b559), .val (.ref b572)] [])) t
        refine XS.iloadN X668.here hx rfl (hb hby at_101) rfl ?_
        show Steps p.tables e below (T668.setTop (mkF m 102 #[.val (.int p1), .val (.int p2), .val (.int p3), .val (.int (3 : Int32)), .val (.int ((p2 &&& (2147483647 : Int32)) % (3 : Int32))), .val (.ref b501), .val (.ref b511), .val (.ref b524), .val (.ref b540), .val (.ref b559), .val (.ref b572)] [(.int p3)])) t
        refine XS.iconst X668.here hx rfl (hb hby at_102) ?_
        show Steps p.tables e below (T668.setTop (mkF m 103 #[.val (.int p1), .val (.int p2), .val (.int p3), .val (.int (3 : Int32)), .val (.int ((p2 &&& (2147483647 : Int32)) % (3 : Int32))), .val (.ref b501), .val (.ref b511), .val (.ref b524), .val (.ref b540), .val (.ref b559), .val (.ref b572)] [(.int (2 : Int32)), (.int p3)])) t
        refine XS.iand X668.here hx rfl (hb hby at_103) rfl ?_
        exact k)
      by_cases hc684 : (p3 &&& (2 : Int32)) = (0 : Int32)
      · have pre686 : ∀ t, Steps p.tables e below (T668.setTop (mkF m 121 #[.val (.int p1), .val (.int p2), .val (.int p3), .val (.int (3 : Int32)), .val (.int ((p2 &&& (2147483647 : Int32)) % (3 : Int32))), .val (.ref b501), .val (.ref b511), .val (.ref b524), .val (.ref b540), .val (.ref b559), .val (.ref b572)] [])) t → Steps p.tables e below (s₁.setTop (entryFrame m #[(.int p1), (.int p2), (.int p3)] maxLocals)) t := fun t k => pre685 t (by
          show Steps p.tables e below (T668.setTop (mkF m 104 #[.val (.int p1), .val (.int p2), .val (.int p3), .val (.int (3 : Int32)), .val (.int ((p2 &&& (2147483647 : Int32)) % (3 : Int32))), .val (.ref b501), .val (.ref b511), .val (.ref b524), .val (.ref b540), .val (.ref b559), .val (.ref b572)] [(.int (p3 &&& (2 : Int32)))])) t
          refine XS.ifYes X668.here hx rfl (pc0 := 104) (pc' := 121) rfl (hb hby at_104) rfl ((if0 _ _).trans (teq hc684).1) (by decide) (by decide) ?_
          exact k)
        exact ⟨_, _, h668, .null, X668, e668, N668, f669, f670, f671, f672, f673, f674, f675, f676, f678, f679, f680, f682, f681, f677, (by rfl), (by trivial), pre686⟩
      · obtain ⟨cq687, kq687, q687a, q687b, q687c⟩ := isOf hZ592 e668 f675
        obtain ⟨_, _, ⟨T687, L687, k687, n687⟩, -, X687, ⟨Lc687, hQ687, l687, y687, z687⟩, st687⟩ := X668.virtualBack hx (y := (⟨"com/example/libsld/libsld/Struct", "setArg", "(ILcom/example/libsld/libsld/Term;)V"⟩ : MethodName)) (z := (⟨"com/example/libsld/libsld/Struct", "setArg", "(ILcom/example/libsld/libsld/Term;)V"⟩ : MethodName)) ho592 (mvT hZ592 (own_i hw 44 rfl)) (mvT hZ592 (own_i hw 45 rfl)) (notFace_of_selects (args := #[]) (mvT hZ592 (own_i hw 47 rfl))) (mvT hZ592 (own_i hw 47 rfl)) (mvT hZ592 (own_i hw 46 rfl)) (by decide) (backOf (W := 0) (rm5_1 l Z a0 hw [] b572 b511 f0 .null (.ref b607) (3 : Int32) h668 n0 f669 f682 f677 f679 f678 (by first | assumption | rfl | decide | omega | simp_all) f675 ga578) hZ592 (own_i hw 48 rfl) (own_i hw 18 rfl) (by decide) (by decide)) q687a q687c (g := (mkF m 112 #[.val (.int p1), .val (.int p2), .val (.int p3), .val (.int (3 : Int32)), .val (.int ((p2 &&& (2147483647 : Int32)) % (3 : Int32))), .val (.ref b501), .val (.ref b511), .val (.ref b524), .val (.ref b540), .val (.ref b559), .val (.ref b572)] [(.ref b511), (.int (1 : Int32)), (.ref b572)])) rfl (by rw [hml]; rfl) (Steps.refl _) (argsL := [(.int (1 : Int32)), (.ref b511)]) (rest := []) (lenOf pd_2 rfl) rfl (by show 2 * 0 + _ ≤ _; exact Nat.le_of_eq rfl) (hb hby at_112) (fun _ _ => ⟨rfl, e668, (by decide : 9 + 0 ≤ _), (by decide : 26 + 0 ≤ _)⟩)
        dsimp only [Pt.U, Pt.locs, Pt.cells, Pt.slots] at X687 l687 y687 z687 st687 hQ687
        subst l687 y687 z687
        obtain ⟨rfl, N687q, K687, f688, f689, f690, f691, f692⟩ := hQ687
        have N687 := Fr.app N668 N687q
        have f693 := Nat.le_trans f669 K687.1
        have f694 := f670.trans K687 (allS (Or.inr sz579) all0)
        have f695 := f671.keep K687
        have f696 := f672.keep K687
        have f697 := f673.keep K687
        have f698 := f674.keep K687
        have f699 := Nat.le_trans f676 K687.1
        have f700 := f680.keep K687 (ninS (Ne.symm ne624) nin0)
        have f701 := f681.keep K687 (ninS ne577 nin0)
        obtain ⟨cl702, Ar702, q702, S702, N702z, H702, G702⟩ := (id f701)
        have hin702 : ¬ ((1 : Int32) < 0 ∨ cl702.slots.size ≤ ((1 : Int32)).toNatClampNeg) := inb_of S702 ⟨by decide, by decide⟩
        obtain ⟨T702, h702, X702, e702, W702, st702⟩ := stR X687 hx hZ592 rfl Ar702 (j := (1 : Int32)) hin702 rfl (Sto.ofV Ar702 q702 O559 (Ins.of_exa f696 (own_i hw 49 rfl))) (g := (mkF m 120 #[.val (.int p1), .val (.int p2), .val (.int p3), .val (.int (3 : Int32)), .val (.int ((p2 &&& (2147483647 : Int32)) % (3 : Int32))), .val (.ref b501), .val (.ref b511), .val (.ref b524), .val (.ref b540), .val (.ref b559), .val (.ref b572)] [(.ref b511), (.int (1 : Int32)), (.ref b559)])) rfl rfl (hb hby at_120)
        have V702 : Arv Z h702 b559 k559 (.object "com/example/libsld/libsld/Term") (4 : Int32) [f0, (.ref b511), .null, .null] .null := Arv.set Ar702 q702 S702 N702z H702 G702 rfl W702 1 rfl (Nat.le_of_ble_eq_true rfl)
        have N702 := Fr.snoc X702 N687 ga564
        have f703 := Nat.le_trans f693 (Keep.of_wr W702).1
        have f704 := f694.wr W702 (Or.inr sz565)
        have f705 := f695.wr W702
        have f706 := f696.wr W702
        have f707 := f697.wr W702
        have f708 := f698.wr W702
        have f709 := f688.wr W702
        have f710 := Nat.le_trans f699 (Keep.of_wr W702).1
        have f711 := f700.other W702 (Ne.symm ne623)
        have f712 := f689.other W702 (Or.inl (Ne.symm ne577))
        have f713 := f690.other W702 (Or.inl (Ne.symm ne577))
        have f714 := f691.other W702 (Or.inl (Ne.symm ne577))
        have f715 := f692.other W702 (Or.inl (Ne.symm ne577))
        have pre716 : ∀ t, Steps p.tables e below (T702.setTop (mkF m 121 #[.val (.int p1), .val (.int p2), .val (.int p3), .val (.int (3 : Int32)), .val (.int ((p2 &&& (2147483647 : Int32)) % (3 : Int32))), .val (.ref b501), .val (.ref b511), .val (.ref b524), .val (.ref b540), .val (.ref b559), .val (.ref b572)] [])) t → Steps p.tables e below (s₁.setTop (entryFrame m #[(.int p1), (.int p2), (.int p3)] maxLocals)) t := fun t k => pre685 t (by
          show Steps p.tables e below (T668.setTop (mkF m 104 #[.val (.int p1), .val (.int p2), .val (.int p3), .val (.int (3 : Int32)), .val (.int ((p2 &&& (2147483647 : Int32)) % (3 : Int32))), .val (.ref b501), .val (.ref b511), .val (.ref b524), .val (.ref b540), .val (.ref b559), .val (.ref b572)] [(.int (p3 &&& (2 : Int32)))])) t
          refine XS.ifNo X668.here hx rfl (hb hby at_104) rfl ((if0 _ _).trans (feq hc684).1) ?_
          show Steps p.tables e below (T668.setTop (mkF m 107 #[.val (.int p1), .val (.int p2), .val (.int p3), .val (.int (3 : Int32)), .val (.int ((p2 &&& (2147483647 : Int32)) % (3 : Int32))), .val (.ref b501), .val (.ref b511), .val (.ref b524), .val (.ref b540), .val (.ref b559), .val (.ref b572)] [])) t
          refine XS.aload X668.here hx rfl (hb hby at_107) rfl rfl ?_
          show Steps p.tables e below (T668.setTop (mkF m 109 #[.val (.int p1), .val (.int p2), .val (.int p3), .val (.int (3 : Int32)), .val (.int ((p2 &&& (2147483647 : Int32)) % (3 : Int32))), .val (.ref b501), .val (.ref b511), .val (.ref b524), .val (.ref b540), .val (.ref b559), .val (.ref b572)] [(.ref b572)])) t
          refine XS.iconst X668.here hx rfl (hb hby at_109) ?_
          show Steps p.tables e below (T668.setTop (mkF m 110 #[.val (.int p1), .val (.int p2), .val (.int p3), .val (.int (3 : Int32)), .val (.int ((p2 &&& (2147483647 : Int32)) % (3 : Int32))), .val (.ref b501), .val (.ref b511), .val (.ref b524), .val (.ref b540), .val (.ref b559), .val (.ref b572)] [(.int (1 : Int32)), (.ref b572)])) t
          refine XS.aload X668.here hx rfl (hb hby at_110) rfl rfl ?_
          show Steps p.tables e below (T668.setTop (mkF m 112 #[.val (.int p1), .val (.int p2), .val (.int p3), .val (.int (3 : Int32)), .val (.int ((p2 &&& (2147483647 : Int32)) % (3 : Int32))), .val (.ref b501), .val (.ref b511), .val (.ref b524), .val (.ref b540), .val (.ref b559), .val (.ref b572)] [(.ref b511), (.int (1 : Int32)), (.ref b572)])) t
          refine st687.trans ?_
          show Steps p.tables e below (T687.setTop (mkF m 115 #[.val (.int p1), .val (.int p2), .val (.int p3), .val (.int (3 : Int32)), .val (.int ((p2 &&& (2147483647 : Int32)) % (3 : Int32))), .val (.ref b501), .val (.ref b511), .val (.ref b524), .val (.ref b540), .val (.ref b559), .val (.ref b572)] [])) t
          refine XS.aload X687.here hx rfl (hb hby at_115) rfl rfl ?_
          show Steps p.tables e below (T687.setTop (mkF m 117 #[.val (.int p1), .val (.int p2), .val (.int p3), .val (.int (3 : Int32)), .val (.int ((p2 &&& (2147483647 : Int32)) % (3 : Int32))), .val (.ref b501), .val (.ref b511), .val (.ref b524), .val (.ref b540), .val (.ref b559), .val (.ref b572)] [(.ref b559)])) t
          refine XS.iconst X687.here hx rfl (hb hby at_117) ?_
          show Steps p.tables e below (T687.setTop (mkF m 118 #[.val (.int p1), .val (.int p2), .val (.int p3), .val (.int (3 : Int32)), .val (.int ((p2 &&& (2147483647 : Int32)) % (3 : Int32))), .val (.ref b501), .val (.ref b511), .val (.ref b524), .val (.ref b540), .val (.ref b559), .val (.ref b572)] [(.int (1 : Int32)), (.ref b559)])) t
          refine XS.aload X687.here hx rfl (hb hby at_118) rfl rfl ?_
          show Steps p.tables e below (T687.setTop (mkF m 120 #[.val (.int p1), .val (.int p2), .val (.int p3), .val (.int (3 : Int32)), .val (.int ((p2 &&& (2147483647 : Int32)) % (3 : Int32))), .val (.ref b501), .val (.ref b511), .val (.ref b524), .val (.ref b540), .val (.ref b559), .val (.ref b572)] [(.ref b511), (.int (1 : Int32)), (.ref b559)])) t
          refine st702 _ ?_
          exact k)
        exact ⟨_, _, h702, (.ref b511), X702, e702, N702, f703, f704, f705, f706, f707, f708, f709, f710, f715, f714, f711, f712, V702, f713, (by rfl), (by trivial), pre716⟩
    obtain ⟨T766, L766, h766, g0, X766, e766, N766, f767, f768, f769, f770, f771, f772, f773, f774, f775, f776, f777, f778, f779, f780, hp781, hP766, pre766⟩ : ∃ (T' : State) (L' : List Loc) (h' : Heap) (g0 : Value), Stand p l e room_1 (s.setVm T592.vm) m #[(.int p1), (.int p2), (.int p3)] below meth c T' L' 9 26 ∧ T'.heap = h' ∧ Fr n0 L' ∧ n0 ≤ h'.size ∧ Keep h0 h' [] ∧ Exa Z h' b501 "com/example/libsld/libsld/Var" ∧ Exa Z h' b511 "com/example/libsld/libsld/Var" ∧ Exa Z h' b524 "com/example/libsld/libsld/Var" ∧ Exa Z h' b540 "com/example/libsld/libsld/Var" ∧ Exa Z h' b572 "com/example/libsld/libsld/Struct" ∧ k592 ≤ h'.size ∧ Fld Z h' b572 "com/example/libsld/libsld/Struct" "arity" "I" (.int (3 : Int32)) ∧ Fld Z h' b572 "com/example/libsld/libsld/Struct" "rest" "[Lcom/example/libsld/libsld/Term;" (.ref b607) ∧ Fld Z h' b572 "com/example/libsld/libsld/Struct" "first" "Lcom/example/libsld/libsld/Term;" f0 ∧ Fld Z h' b572 "com/example/libsld/libsld/Struct" "second" "Lcom/example/libsld/libsld/Term;" f1 ∧ Arv Z h' b559 k559 (.object "com/example/libsld/libsld/Term") (4 : Int32) [f0, f1, g0, .null] .null ∧ Arv Z h' b607 x608 (.object "com/example/libsld/libsld/Term") (1 : Int32) [g0] .null ∧ (g0.isRef = true) ∧ (True) ∧ ∀ t, Steps p.tables e below (T'.setTop (mkF m 146 #[.val (.int p1), .val (.int p2), .val (.int p3), .val (.int (3 : Int32)), .val (.int ((p2 &&& (2147483647 : Int32)) % (3 : Int32))), .val (.ref b501), .val (.ref b511), .val (.ref b524), .val (.ref b540), .val (.ref b559), .val (.ref b572)] [])) t → Steps p.tables e below (s₁.setTop (entryFrame m #[(.int p1), (.int p2), (.int p3)] maxLocals)) t := by
      have pre734 : ∀ t, Steps p.tables e below (T717.setTop (mkF m 129 #[.val (.int p1), .val (.int p2), .val (.int p3), .val (.int (3 : Int32)), .val (.int ((p2 &&& (2147483647 : Int32)) % (3 : Int32))), .val (.ref b501), .val (.ref b511), .val (.ref b524), .val (.ref b540), .val (.ref b559), .val (.ref b572)] [(.int (p3 &&& (4 : Int32)))])) t → Steps p.tables e below (s₁.setTop (entryFrame m #[(.int p1), (.int p2), (.int p3)] maxLocals)) t := fun t k => pre717 t (by
        show Steps p.tables e below (T717.setTop (mkF m 121 #[.val (.int p1), .val (.int p2), .val (.int p3), .val (.int (3 : Int32)), .val (.int ((p2 &&& (2147483647 : Int32)) % (3 : Int32))), .val (.ref b501), .val (.ref b511), .val (.ref b524), .val (.ref b540), .val (.ref b559), .val (.ref b572)] [])) t
        refine XS.iloadN X717.here hx rfl (hb hby at_121) rfl ?_
        show Steps p.tables e below (T717.setTop (mkF m 122 #[.val (.int p1), .val (.int p2), .val (.int p3), .val (.int (3 : Int32)), .val (.int ((p2 &&& (2147483647 : Int32)) % (3 : Int32))), .val (.ref b501), .val (.ref b511), .val (.ref b524), .val (.ref b540), .val (.ref b559), .val (.ref b572)] [(.int (3 : Int32))])) t
        refine XS.iconst X717.here hx rfl (hb hby at_122) ?_
        show Steps p.tables e below (T717.setTop (mkF m 123 #[.val (.int p1), .val (.int p2), .val (.int p3), .val (.int (3 : Int32)), .val (.int ((p2 &&& (2147483647 : Int32)) % (3 : Int32))), .val (.ref b501), .val (.ref b511), .val (.ref b524), .val (.ref b540), .val (.ref b559), .val (.ref b572)] [(.int (2 : Int32)), (.int (3 : Int32))])) t
        refine XS.icmpNo X717.here hx rfl (hb hby at_123) rfl (tlt (by decide : (2 : Int32) < (3 : Int32))).2.2.2 ?_
        show Steps p.tables e below (T717.setTop (mkF m 126 #[.val (.int p1), .val (.int p2), .val (.int p3), .val (.int (3 : Int32)), .val (.int ((p2 &&& (2147483647 : Int32)) % (3 : Int32))), .val (.ref b501), .val (.ref b511), .val (.ref b524), .val (.ref b540), .val (.ref b559), .val (.ref b572)] [])) t
        refine XS.iloadN X717.here hx rfl (hb hby at_126) rfl ?_
        show Steps p.tables e below (T717.setTop (mkF m 127 #[.val (.int p1), .val (.int p2), .val (.int p3), .val (.int (3 : Int32)), .val (.int ((p2 &&& (2147483647 : Int32)) % (3 : Int32))), .val (.ref b501), .val (.ref b511), .val (.ref b524), .val (.ref b540), .val (.ref b559), .val (.ref b572)] [(.int p3)])) t
        refine XS.iconst X717.here hx rfl (hb hby at_127) ?_
        show Steps p.tables e below (T717.setTop (mkF m 128 #[.val (.int p1), .val (.int p2), .val (.int p3), .val (.int (3 : Int32)), .val (.int ((p2 &&& (2147483647 : Int32)) % (3 : Int32))), .val (.ref b501), .val (.ref b511), .val (.ref b524), .val (.ref b540), .val (.ref b559), .val (.ref b572)] [(.int (4 : Int32)), (.int p3)])) t
        refine XS.iand X717.here hx rfl (hb hby at_128) rfl ?_
        exact k)
      by_cases hc733 : (p3 &&& (4 : Int32)) = (0 : Int32)
      · have pre735 : ∀ t, Steps p.tables e below (T717.setTop (mkF m 146 #[.val (.int p1), .val (.int p2), .val (.int p3), .val (.int (3 : Int32)), .val (.int ((p2 &&& (2147483647 : Int32)) % (3 : Int32))), .val (.ref b501), .val (.ref b511), .val (.ref b524), .val (.ref b540), .val (.ref b559), .val (.ref b572)] [])) t → Steps p.tables e below (s₁.setTop (entryFrame m #[(.int p1), (.int p2), (.int p3)] maxLocals)) t := fun t k => pre734 t (by
          show Steps p.tables e below (T717.setTop (mkF m 129 #[.val (.int p1), .val (.int p2), .val (.int p3), .val (.int (3 : Int32)), .val (.int ((p2 &&& (2147483647 : Int32)) % (3 : Int32))), .val (.ref b501), .val (.ref b511), .val (.ref b524), .val (.ref b540), .val (.ref b559), .val (.ref b572)] [(.int (p3 &&& (4 : Int32)))])) t
          refine XS.ifYes X717.here hx rfl (pc0 := 129) (pc' := 146) rfl (hb hby at_129) rfl ((if0 _ _).trans (teq hc733).1) (by decide) (by decide) ?_
          exact k)
        exact ⟨_, _, h717, .null, X717, e717, N717, f718, f719, f720, f721, f722, f723, f724, f725, f726, f727, f729, f731, f730, f728, (by rfl), (by trivial), pre735⟩
      · obtain ⟨cq736, kq736, q736a, q736b, q736c⟩ := isOf hZ592 e717 f724
        obtain ⟨_, _, ⟨T736, L736, k736, n736⟩, -, X736, ⟨Lc736, hQ736, l736, y736, z736⟩, st736⟩ := X717.virtualBack hx (y := (⟨"com/example/libsld/libsld/Struct", "setArg", "(ILcom/example/libsld/libsld/Term;)V"⟩ : MethodName)) (z := (⟨"com/example/libsld/libsld/Struct", "setArg", "(ILcom/example/libsld/libsld/Term;)V"⟩ : MethodName)) ho592 (mvT hZ592 (own_i hw 44 rfl)) (mvT hZ592 (own_i hw 45 rfl)) (notFace_of_selects (args := #[]) (mvT hZ592 (own_i hw 47 rfl))) (mvT hZ592 (own_i hw 47 rfl)) (mvT hZ592 (own_i hw 46 rfl)) (by decide) (backOf (W := 0) (rm5_2_3 l Z a0 hw [] b572 b524 b607 x608 .null h717 n0 f718 f727 f728 f617 f722 f614) hZ592 (own_i hw 48 rfl) (own_i hw 18 rfl) (by decide) (by decide)) q736a q736c (g := (mkF m 137 #[.val (.int p1), .val (.int p2), .val (.int p3), .val (.int (3 : Int32)), .val (.int ((p2 &&& (2147483647 : Int32)) % (3 : Int32))), .val (.ref b501), .val (.ref b511), .val (.ref b524), .val (.ref b540), .val (.ref b559), .val (.ref b572)] [(.ref b524), (.int (2 : Int32)), (.ref b572)])) rfl (by rw [hml]; rfl) (Steps.refl _) (argsL := [(.int (2 : Int32)), (.ref b524)]) (rest := []) (lenOf pd_2 rfl) rfl (by show 2 * 0 + _ ≤ _; exact Nat.le_of_eq rfl) (hb hby at_137) (fun _ _ => ⟨rfl, e717, (by decide : 9 + 0 ≤ _), (by decide : 26 + 0 ≤ _)⟩)
        dsimp only [Pt.U, Pt.locs, Pt.cells, Pt.slots] at X736 l736 y736 z736 st736 hQ736
        subst l736 y736 z736
        obtain ⟨rfl, N736q, K736, f737⟩ := hQ736
        have N736 := Fr.app N717 N736q
        have f738 := Nat.le_trans f718 K736.1
        have f739 := f719.trans K736 (allS (Or.inr sz625) all0)
        have f740 := f720.keep K736
        have f741 := f721.keep K736
        have f742 := f722.keep K736
        have f743 := f723.keep K736
        have f744 := f724.keep K736
        have f745 := Nat.le_trans f725 K736.1
        have f746 := f726.keep K736 (ninS ne624 nin0)
        have f747 := f727.keep K736 (ninS ne624 nin0)
        have f748 := f729.keep K736 (ninS ne624 nin0)
        have f749 := f730.keep K736 (ninS ne623 nin0)
        have f750 := f731.keep K736 (ninS ne624 nin0)
        obtain ⟨cl751, Ar751, q751, S751, N751z, H751, G751⟩ := (id f749)
        have hin751 : ¬ ((2 : Int32) < 0 ∨ cl751.slots.size ≤ ((2 : Int32)).toNatClampNeg) := inb_of S751 ⟨by decide, by decide⟩
        obtain ⟨T751, h751, X751, e751, W751, st751⟩ := stR X736 hx hZ592 rfl Ar751 (j := (2 : Int32)) hin751 rfl (Sto.ofV Ar751 q751 O559 (Ins.of_exa f742 (own_i hw 49 rfl))) (g := (mkF m 145 #[.val (.int p1), .val (.int p2), .val (.int p3), .val (.int (3 : Int32)), .val (.int ((p2 &&& (2147483647 : Int32)) % (3 : Int32))), .val (.ref b501), .val (.ref b511), .val (.ref b524), .val (.ref b540), .val (.ref b559), .val (.ref b572)] [(.ref b524), (.int (2 : Int32)), (.ref b559)])) rfl rfl (hb hby at_145)
        have V751 : Arv Z h751 b559 k559 (.object "com/example/libsld/libsld/Term") (4 : Int32) [f0, f1, (.ref b524), .null] .null := Arv.set Ar751 q751 S751 N751z H751 G751 rfl W751 2 rfl (Nat.le_of_ble_eq_true rfl)
        have N751 := Fr.snoc X751 N736 ga564
        have f752 := Nat.le_trans f738 (Keep.of_wr W751).1
        have f753 := f739.wr W751 (Or.inr sz565)
        have f754 := f740.wr W751
        have f755 := f741.wr W751
        have f756 := f742.wr W751
        have f757 := f743.wr W751
        have f758 := f744.wr W751
        have f759 := Nat.le_trans f745 (Keep.of_wr W751).1
        have f760 := f746.other W751 (Or.inl (Ne.symm ne577))
        have f761 := f747.other W751 (Or.inl (Ne.symm ne577))
        have f762 := f748.other W751 (Or.inl (Ne.symm ne577))
        have f763 := f750.other W751 (Or.inl (Ne.symm ne577))
        have f764 := f737.other W751 (Ne.symm ne623)
        have pre765 : ∀ t, Steps p.tables e below (T751.setTop (mkF m 146 #[.val (.int p1), .val (.int p2), .val (.int p3), .val (.int (3 : Int32)), .val (.int ((p2 &&& (2147483647 : Int32)) % (3 : Int32))), .val (.ref b501), .val (.ref b511), .val (.ref b524), .val (.ref b540), .val (.ref b559), .val (.ref b572)] [])) t → Steps p.tables e below (s₁.setTop (entryFrame m #[(.int p1), (.int p2), (.int p3)] maxLocals)) t := fun t k => pre734 t (by
          show Steps p.tables e below (T717.setTop (mkF m 129 #[.val (.int p1), .val (.int p2), .val (.int p3), .val (.int (3 : Int32)), .val (.int ((p2 &&& (2147483647 : Int32)) % (3 : Int32))), .val (.ref b501), .val (.ref b511), .val (.ref b524), .val (.ref b540), .val (.ref b559), .val (.ref b572)] [(.int (p3 &&& (4 : Int32)))])) t
          refine XS.ifNo X717.here hx rfl (hb hby at_129) rfl ((if0 _ _).trans (feq hc733).1) ?_
          show Steps p.tables e below (T717.setTop (mkF m 132 #[.val (.int p1), .val (.int p2), .val (.int p3), .val (.int (3 : Int32)), .val (.int ((p2 &&& (2147483647 : Int32)) % (3 : Int32))), .val (.ref b501), .val (.ref b511), .val (.ref b524), .val (.ref b540), .val (.ref b559), .val (.ref b572)] [])) t
          refine XS.aload X717.here hx rfl (hb hby at_132) rfl rfl ?_
          show Steps p.tables e below (T717.setTop (mkF m 134 #[.val (.int p1), .val (.int p2), .val (.int p3), .val (.int (3 : Int32)), .val (.int ((p2 &&& (2147483647 : Int32)) % (3 : Int32))), .val (.ref b501), .val (.ref b511), .val (.ref b524), .val (.ref b540), .val (.ref b559), .val (.ref b572)] [(.ref b572)])) t
          refine XS.iconst X717.here hx rfl (hb hby at_134) ?_
          show Steps p.tables e below (T717.setTop (mkF m 135 #[.val (.int p1), .val (.int p2), .val (.int p3), .val (.int (3 : Int32)), .val (.int ((p2 &&& (2147483647 : Int32)) % (3 : Int32))), .val (.ref b501), .val (.ref b511), .val (.ref b524), .val (.ref b540), .val (.ref b559), .val (.ref b572)] [(.int (2 : Int32)), (.ref b572)])) t
          refine XS.aload X717.here hx rfl (hb hby at_135) rfl rfl ?_
          show Steps p.tables e below (T717.setTop (mkF m 137 #[.val (.int p1), .val (.int p2), .val (.int p3), .val (.int (3 : Int32)), .val (.int ((p2 &&& (2147483647 : Int32)) % (3 : Int32))), .val (.ref b501), .val (.ref b511), .val (.ref b524), .val (.ref b540), .val (.ref b559), .val (.ref b572)] [(.ref b524), (.int (2 : Int32)), (.ref b572)])) t
          refine st736.trans ?_
          show Steps p.tables e below (T736.setTop (mkF m 140 #[.val (.int p1), .val (.int p2), .val (.int p3), .val (.int (3 : Int32)), .val (.int ((p2 &&& (2147483647 : Int32)) % (3 : Int32))), .val (.ref b501), .val (.ref b511), .val (.ref b524), .val (.ref b540), .val (.ref b559), .val (.ref b572)] [])) t
          refine XS.aload X736.here hx rfl (hb hby at_140) rfl rfl ?_
          show Steps p.tables e below (T736.setTop (mkF m 142 #[.val (.int p1), .val (.int p2), .val (.int p3), .val (.int (3 : Int32)), .val (.int ((p2 &&& (2147483647 : Int32)) % (3 : Int32))), .val (.ref b501), .val (.ref b511), .val (.ref b524), .val (.ref b540), .val (.ref b559), .val (.ref b572)] [(.ref b559)])) t
          refine XS.iconst X736.here hx rfl (hb hby at_142) ?_
          show Steps p.tables e below (T736.setTop (mkF m 143 #[.val (.int p1), .val (.int p2), .val (.int p3), .val (.int (3 : Int32)), .val (.int ((p2 &&& (2147483647 : Int32)) % (3 : Int32))), .val (.ref b501), .val (.ref b511), .val (.ref b524), .val (.ref b540), .val (.ref b559), .val (.ref b572)] [(.int (2 : Int32)), (.ref b559)])) t
          refine XS.aload X736.here hx rfl (hb hby at_143) rfl rfl ?_
          show Steps p.tables e below (T736.setTop (mkF m 145 #[.val (.int p1), .val (.int p2), .val (.int p3), .val (.int (3 : Int32)), .val (.int ((p2 &&& (2147483647 : Int32)) % (3 : Int32))), .val (.ref b501), .val (.ref b511), .val (.ref b524), .val (.ref b540), .val (.ref b559), .val (.ref b572)] [(.ref b524), (.int (2 : Int32)), (.ref b559)])) t
          refine st751 _ ?_
          exact k)
        exact ⟨_, _, h751, (.ref b524), X751, e751, N751, f752, f753, f754, f755, f756, f757, f758, f759, f760, f761, f762, f763, V751, f764, (by rfl), (by trivial), pre765⟩
    have pre782 : ∀ t, Steps p.tables e below (T766.setTop (mkF m 172 #[.val (.int p1), .val (.int p2), .val (.int p3), .val (.int (3 : Int32)), .val (.int ((p2 &&& (2147483647 : Int32)) % (3 : Int32))), .val (.ref b501), .val (.ref b511), .val (.ref b524), .val (.ref b540), .val (.ref b559), .val (.ref b572)] [])) t → Steps p.tables e below (s₁.setTop (entryFrame m #[(.int p1), (.int p2), (.int p3)] maxLocals)) t := fun t k => pre766 t (by
      show Steps p.tables e below (T766.setTop (mkF m 146 #[.val (.int p1), .val (.int p2), .val (.int p3), .val (.int (3 : Int32)), .val (.int ((p2 &&& (2147483647 : Int32)) % (3 : Int32))), .val (.ref b501), .val (.ref b511), .val (.ref b524), .val (.ref b540), .val (.ref b559), .val (.ref b572)] [])) t
      refine XS.iloadN X766.here hx rfl (hb hby at_146) rfl ?_
      show Steps p.tables e below (T766.setTop (mkF m 147 #[.val (.int p1), .val (.int p2), .val (.int p3), .val (.int (3 : Int32)), .val (.int ((p2 &&& (2147483647 : Int32)) % (3 : Int32))), .val (.ref b501), .val (.ref b511), .val (.ref b524), .val (.ref b540), .val (.ref b559), .val (.ref b572)] [(.int (3 : Int32))])) t
      refine XS.iconst X766.here hx rfl (hb hby at_147) ?_
      show Steps p.tables e below (T766.setTop (mkF m 148 #[.val (.int p1), .val (.int p2), .val (.int p3), .val (.int (3 : Int32)), .val (.int ((p2 &&& (2147483647 : Int32)) % (3 : Int32))), .val (.ref b501), .val (.ref b511), .val (.ref b524), .val (.ref b540), .val (.ref b559), .val (.ref b572)] [(.int (3 : Int32)), (.int (3 : Int32))])) t
      refine XS.icmpYes X766.here hx rfl (pc0 := 148) (pc' := 172) rfl (hb hby at_148) rfl (flt (by decide : ¬ ((3 : Int32) < (3 : Int32)))).2.2.2 (by decide) (by decide) ?_
      exact k)
    rcases own_rem3 p2 with hs783 | hs783 | hs783
    · have pre784 : ∀ t, Steps p.tables e below (T766.setTop (mkF m 172 #[.val (.int p1), .val (.int p2), .val (.int p3), .val (.int (3 : Int32)), .val (.int (0 : Int32)), .val (.ref b501), .val (.ref b511), .val (.ref b524), .val (.ref b540), .val (.ref b559), .val (.ref b572)] [])) t → Steps p.tables e below (s₁.setTop (entryFrame m #[(.int p1), (.int p2), (.int p3)] maxLocals)) t := fun t k => pre782 t (by rw [show ((p2 &&& (2147483647 : Int32)) % (3 : Int32)) = (0 : Int32) from hs783]; exact k)
      obtain ⟨cq785, kq785, q785a, q785b, q785c⟩ := isOf hZ592 e766 f773
      obtain ⟨_, _, ⟨T785, L785, k785, n785⟩, -, X785, ⟨Lc785, hQ785, l785, y785, z785⟩, st785⟩ := X766.virtualBack hx (y := (⟨"com/example/libsld/libsld/Struct", "arg", "(I)Lcom/example/libsld/libsld/Term;"⟩ : MethodName)) (z := (⟨"com/example/libsld/libsld/Struct", "arg", "(I)Lcom/example/libsld/libsld/Term;"⟩ : MethodName)) ho592 (mvT hZ592 (own_i hw 37 rfl)) (mvT hZ592 (own_i hw 38 rfl)) (notFace_of_selects (args := #[]) (mvT hZ592 (own_i hw 40 rfl))) (mvT hZ592 (own_i hw 40 rfl)) (mvT hZ592 (own_i hw 39 rfl)) (by decide) (backOf (W := 0) (rm4_0 l Z a0 hw [] b572 f0 h766 n0 f767 f777 hp683) hZ592 (own_i hw 41 rfl) (own_i hw 18 rfl) (by decide) (by decide)) q785a q785c (g := (mkF m 176 #[.val (.int p1), .val (.int p2), .val (.int p3), .val (.int (3 : Int32)), .val (.int (0 : Int32)), .val (.ref b501), .val (.ref b511), .val (.ref b524), .val (.ref b540), .val (.ref b559), .val (.ref b572)] [(.int (0 : Int32)), (.ref b572)])) rfl (by rw [hml]; rfl) (Steps.refl _) (argsL := [(.int (0 : Int32))]) (rest := []) (lenOf pd_3 rfl) rfl (by show 2 * 0 + _ ≤ _; exact Nat.le_of_eq rfl) (hb hby at_176) (fun _ _ => ⟨rfl, e766, (by decide : 9 + 0 ≤ _), (by decide : 26 + 0 ≤ _)⟩)
      dsimp only [Pt.U, Pt.locs, Pt.cells, Pt.slots] at X785 l785 y785 z785 st785 hQ785
      subst l785 y785 z785
      obtain ⟨rfl, N785q, e785⟩ := hQ785
      have N785 := Fr.app N766 N785q
      obtain ⟨cl786, Ar786, q786, S786, N786z, H786, G786⟩ := (id f779)
      have hin786 : ¬ ((0 : Int32) < 0 ∨ cl786.slots.size ≤ ((0 : Int32)).toNatClampNeg) := inb_of S786 ⟨by decide, by decide⟩
      have hat786 : cl786.slots[((0 : Int32)).toNatClampNeg]? = some f0 := Has.at H786 hin786 rfl
      have pre787 : ∀ t, Steps p.tables e below (T785.setTop (mkF m 192 #[.val (.int p1), .val (.int p2), .val (.int p3), .val (.int (3 : Int32)), .val (.int (0 : Int32)), .val (.ref b501), .val (.ref b511), .val (.ref b524), .val (.ref b540), .val (.ref b559), .val (.ref b572)] [(.int (1 : Int32))])) t → Steps p.tables e below (s₁.setTop (entryFrame m #[(.int p1), (.int p2), (.int p3)] maxLocals)) t := fun t k => pre784 t (by
        show Steps p.tables e below (T766.setTop (mkF m 172 #[.val (.int p1), .val (.int p2), .val (.int p3), .val (.int (3 : Int32)), .val (.int (0 : Int32)), .val (.ref b501), .val (.ref b511), .val (.ref b524), .val (.ref b540), .val (.ref b559), .val (.ref b572)] [])) t
        refine XS.aload X766.here hx rfl (hb hby at_172) rfl rfl ?_
        show Steps p.tables e below (T766.setTop (mkF m 174 #[.val (.int p1), .val (.int p2), .val (.int p3), .val (.int (3 : Int32)), .val (.int (0 : Int32)), .val (.ref b501), .val (.ref b511), .val (.ref b524), .val (.ref b540), .val (.ref b559), .val (.ref b572)] [(.ref b572)])) t
        refine XS.iload X766.here hx rfl (hb hby at_174) rfl ?_
        show Steps p.tables e below (T766.setTop (mkF m 176 #[.val (.int p1), .val (.int p2), .val (.int p3), .val (.int (3 : Int32)), .val (.int (0 : Int32)), .val (.ref b501), .val (.ref b511), .val (.ref b524), .val (.ref b540), .val (.ref b559), .val (.ref b572)] [(.int (0 : Int32)), (.ref b572)])) t
        refine st785.trans ?_
        show Steps p.tables e below (T785.setTop (mkF m 179 #[.val (.int p1), .val (.int p2), .val (.int p3), .val (.int (3 : Int32)), .val (.int (0 : Int32)), .val (.ref b501), .val (.ref b511), .val (.ref b524), .val (.ref b540), .val (.ref b559), .val (.ref b572)] [f0])) t
        refine XS.aload X785.here hx rfl (hb hby at_179) rfl rfl ?_
        show Steps p.tables e below (T785.setTop (mkF m 181 #[.val (.int p1), .val (.int p2), .val (.int p3), .val (.int (3 : Int32)), .val (.int (0 : Int32)), .val (.ref b501), .val (.ref b511), .val (.ref b524), .val (.ref b540), .val (.ref b559), .val (.ref b572)] [(.ref b559), f0])) t
        refine XS.iload X785.here hx rfl (hb hby at_181) rfl ?_
        show Steps p.tables e below (T785.setTop (mkF m 183 #[.val (.int p1), .val (.int p2), .val (.int p3), .val (.int (3 : Int32)), .val (.int (0 : Int32)), .val (.ref b501), .val (.ref b511), .val (.ref b524), .val (.ref b540), .val (.ref b559), .val (.ref b572)] [(.int (0 : Int32)), (.ref b559), f0])) t
        refine X785.aaload hx (j := (0 : Int32)) (v := f0) (by rw [e785]; exact Ar786.1) (State.isArrayOf_alike hZ592.alike Ar786.2.1) rfl Ar786.2.2 hin786 hat786 (g := (mkF m 183 #[.val (.int p1), .val (.int p2), .val (.int p3), .val (.int (3 : Int32)), .val (.int (0 : Int32)), .val (.ref b501), .val (.ref b511), .val (.ref b524), .val (.ref b540), .val (.ref b559), .val (.ref b572)] [(.int (0 : Int32)), (.ref b559), f0])) rfl rfl (hb hby at_183) _ ?_
        show Steps p.tables e below (T785.setTop (mkF m 184 #[.val (.int p1), .val (.int p2), .val (.int p3), .val (.int (3 : Int32)), .val (.int (0 : Int32)), .val (.ref b501), .val (.ref b511), .val (.ref b524), .val (.ref b540), .val (.ref b559), .val (.ref b572)] [f0, f0])) t
        refine Jvm.RoadKit.acmp (g := (mkF m 184 #[.val (.int p1), .val (.int p2), .val (.int p3), .val (.int (3 : Int32)), .val (.int (0 : Int32)), .val (.ref b501), .val (.ref b511), .val (.ref b524), .val (.ref b540), .val (.ref b559), .val (.ref b572)] [f0, f0])) X785 hx rfl hp683 hp683 (pc0 := 184) (pc' := 187) (same := true) rfl (hb hby at_184) rfl (decide_eq_true rfl) (by decide) (by decide) ?_
        show Steps p.tables e below (T785.setTop (mkF m 187 #[.val (.int p1), .val (.int p2), .val (.int p3), .val (.int (3 : Int32)), .val (.int (0 : Int32)), .val (.ref b501), .val (.ref b511), .val (.ref b524), .val (.ref b540), .val (.ref b559), .val (.ref b572)] [])) t
        refine XS.iconst X785.here hx rfl (hb hby at_187) ?_
        show Steps p.tables e below (T785.setTop (mkF m 188 #[.val (.int p1), .val (.int p2), .val (.int p3), .val (.int (3 : Int32)), .val (.int (0 : Int32)), .val (.ref b501), .val (.ref b511), .val (.ref b524), .val (.ref b540), .val (.ref b559), .val (.ref b572)] [(.int (1 : Int32))])) t
        refine XS.goto X785.here hx rfl (pc0 := 188) (pc' := 192) rfl (hb hby at_188) (by decide) (by decide) ?_
        exact k)
      obtain ⟨fs, hr, hrun, hended, hRW⟩ := X785.leaveW hS592 (by rw [e785]; exact f774) (v := some (.int (1 : Int32))) (fun h => by rw [Bd.returns] at h; cases h)
      refine ⟨_, _, pre787 _ ?_, hrun, hended, _, _, rfl, ?_, hRW.1, hRW.2.1, hRW.2.2.1, hRW.2.2.2.mono (by decide) (by decide)⟩
      · exact retN X785 hx (t := .boolean) Bd.returns (by simp) (hb hby at_192) hr
      · show Q0 Z p1 p2 p3 h0 n0 _ T785.heap _
        rw [e785]
        exact ⟨rfl, N785⟩
    · have pre788 : ∀ t, Steps p.tables e below (T766.setTop (mkF m 172 #[.val (.int p1), .val (.int p2), .val (.int p3), .val (.int (3 : Int32)), .val (.int (1 : Int32)), .val (.ref b501), .val (.ref b511), .val (.ref b524), .val (.ref b540), .val (.ref b559), .val (.ref b572)] [])) t → Steps p.tables e below (s₁.setTop (entryFrame m #[(.int p1), (.int p2), (.int p3)] maxLocals)) t := fun t k => pre782 t (by rw [show ((p2 &&& (2147483647 : Int32)) % (3 : Int32)) = (1 : Int32) from hs783]; exact k)
      obtain ⟨cq789, kq789, q789a, q789b, q789c⟩ := isOf hZ592 e766 f773
      obtain ⟨_, _, ⟨T789, L789, k789, n789⟩, -, X789, ⟨Lc789, hQ789, l789, y789, z789⟩, st789⟩ := X766.virtualBack hx (y := (⟨"com/example/libsld/libsld/Struct", "arg", "(I)Lcom/example/libsld/libsld/Term;"⟩ : MethodName)) (z := (⟨"com/example/libsld/libsld/Struct", "arg", "(I)Lcom/example/libsld/libsld/Term;"⟩ : MethodName)) ho592 (mvT hZ592 (own_i hw 37 rfl)) (mvT hZ592 (own_i hw 38 rfl)) (notFace_of_selects (args := #[]) (mvT hZ592 (own_i hw 40 rfl))) (mvT hZ592 (own_i hw 40 rfl)) (mvT hZ592 (own_i hw 39 rfl)) (by decide) (backOf (W := 0) (rm4_1 l Z a0 hw [] b572 f1 (3 : Int32) h766 n0 f767 f778 f775 (by first | assumption | rfl | decide | omega | simp_all) hp732) hZ592 (own_i hw 41 rfl) (own_i hw 18 rfl) (by decide) (by decide)) q789a q789c (g := (mkF m 176 #[.val (.int p1), .val (.int p2), .val (.int p3), .val (.int (3 : Int32)), .val (.int (1 : Int32)), .val (.ref b501), .val (.ref b511), .val (.ref b524), .val (.ref b540), .val (.ref b559), .val (.ref b572)] [(.int (1 : Int32)), (.ref b572)])) rfl (by rw [hml]; rfl) (Steps.refl _) (argsL := [(.int (1 : Int32))]) (rest := []) (lenOf pd_3 rfl) rfl (by show 2 * 0 + _ ≤ _; exact Nat.le_of_eq rfl) (hb hby at_176) (fun _ _ => ⟨rfl, e766, (by decide : 9 + 0 ≤ _), (by decide : 26 + 0 ≤ _)⟩)
      dsimp only [Pt.U, Pt.locs, Pt.cells, Pt.slots] at X789 l789 y789 z789 st789 hQ789
      subst l789 y789 z789
      obtain ⟨rfl, N789q, e789⟩ := hQ789
      have N789 := Fr.app N766 N789q
      obtain ⟨cl790, Ar790, q790, S790, N790z, H790, G790⟩ := (id f779)
      have hin790 : ¬ ((1 : Int32) < 0 ∨ cl790.slots.size ≤ ((1 : Int32)).toNatClampNeg) := inb_of S790 ⟨by decide, by decide⟩
      have hat790 : cl790.slots[((1 : Int32)).toNatClampNeg]? = some f1 := Has.at H790 hin790 rfl
      have pre791 : ∀ t, Steps p.tables e below (T789.setTop (mkF m 192 #[.val (.int p1), .val (.int p2), .val (.int p3), .val (.int (3 : Int32)), .val (.int (1 : Int32)), .val (.ref b501), .val (.ref b511), .val (.ref b524), .val (.ref b540), .val (.ref b559), .val (.ref b572)] [(.int (1 : Int32))])) t → Steps p.tables e below (s₁.setTop (entryFrame m #[(.int p1), (.int p2), (.int p3)] maxLocals)) t := fun t k => pre788 t (by
        show Steps p.tables e below (T766.setTop (mkF m 172 #[.val (.int p1), .val (.int p2), .val (.int p3), .val (.int (3 : Int32)), .val (.int (1 : Int32)), .val (.ref b501), .val (.ref b511), .val (.ref b524), .val (.ref b540), .val (.ref b559), .val (.ref b572)] [])) t
        refine XS.aload X766.here hx rfl (hb hby at_172) rfl rfl ?_
        show Steps p.tables e below (T766.setTop (mkF m 174 #[.val (.int p1), .val (.int p2), .val (.int p3), .val (.int (3 : Int32)), .val (.int (1 : Int32)), .val (.ref b501), .val (.ref b511), .val (.ref b524), .val (.ref b540), .val (.ref b559), .val (.ref b572)] [(.ref b572)])) t
        refine XS.iload X766.here hx rfl (hb hby at_174) rfl ?_
        show Steps p.tables e below (T766.setTop (mkF m 176 #[.val (.int p1), .val (.int p2), .val (.int p3), .val (.int (3 : Int32)), .val (.int (1 : Int32)), .val (.ref b501), .val (.ref b511), .val (.ref b524), .val (.ref b540), .val (.ref b559), .val (.ref b572)] [(.int (1 : Int32)), (.ref b572)])) t
        refine st789.trans ?_
        show Steps p.tables e below (T789.setTop (mkF m 179 #[.val (.int p1), .val (.int p2), .val (.int p3), .val (.int (3 : Int32)), .val (.int (1 : Int32)), .val (.ref b501), .val (.ref b511), .val (.ref b524), .val (.ref b540), .val (.ref b559), .val (.ref b572)] [f1])) t
        refine XS.aload X789.here hx rfl (hb hby at_179) rfl rfl ?_
        show Steps p.tables e below (T789.setTop (mkF m 181 #[.val (.int p1), .val (.int p2), .val (.int p3), .val (.int (3 : Int32)), .val (.int (1 : Int32)), .val (.ref b501), .val (.ref b511), .val (.ref b524), .val (.ref b540), .val (.ref b559), .val (.ref b572)] [(.ref b559), f1])) t
        refine XS.iload X789.here hx rfl (hb hby at_181) rfl ?_
        show Steps p.tables e below (T789.setTop (mkF m 183 #[.val (.int p1), .val (.int p2), .val (.int p3), .val (.int (3 : Int32)), .val (.int (1 : Int32)), .val (.ref b501), .val (.ref b511), .val (.ref b524), .val (.ref b540), .val (.ref b559), .val (.ref b572)] [(.int (1 : Int32)), (.ref b559), f1])) t
        refine X789.aaload hx (j := (1 : Int32)) (v := f1) (by rw [e789]; exact Ar790.1) (State.isArrayOf_alike hZ592.alike Ar790.2.1) rfl Ar790.2.2 hin790 hat790 (g := (mkF m 183 #[.val (.int p1), .val (.int p2), .val (.int p3), .val (.int (3 : Int32)), .val (.int (1 : Int32)), .val (.ref b501), .val (.ref b511), .val (.ref b524), .val (.ref b540), .val (.ref b559), .val (.ref b572)] [(.int (1 : Int32)), (.ref b559), f1])) rfl rfl (hb hby at_183) _ ?_
        show Steps p.tables e below (T789.setTop (mkF m 184 #[.val (.int p1), .val (.int p2), .val (.int p3), .val (.int (3 : Int32)), .val (.int (1 : Int32)), .val (.ref b501), .val (.ref b511), .val (.ref b524), .val (.ref b540), .val (.ref b559), .val (.ref b572)] [f1, f1])) t
        refine Jvm.RoadKit.acmp (g := (mkF m 184 #[.val (.int p1), .val (.int p2), .val (.int p3), .val (.int (3 : Int32)), .val (.int (1 : Int32)), .val (.ref b501), .val (.ref b511), .val (.ref b524), .val (.ref b540), .val (.ref b559), .val (.ref b572)] [f1, f1])) X789 hx rfl hp732 hp732 (pc0 := 184) (pc' := 187) (same := true) rfl (hb hby at_184) rfl (decide_eq_true rfl) (by decide) (by decide) ?_
        show Steps p.tables e below (T789.setTop (mkF m 187 #[.val (.int p1), .val (.int p2), .val (.int p3), .val (.int (3 : Int32)), .val (.int (1 : Int32)), .val (.ref b501), .val (.ref b511), .val (.ref b524), .val (.ref b540), .val (.ref b559), .val (.ref b572)] [])) t
        refine XS.iconst X789.here hx rfl (hb hby at_187) ?_
        show Steps p.tables e below (T789.setTop (mkF m 188 #[.val (.int p1), .val (.int p2), .val (.int p3), .val (.int (3 : Int32)), .val (.int (1 : Int32)), .val (.ref b501), .val (.ref b511), .val (.ref b524), .val (.ref b540), .val (.ref b559), .val (.ref b572)] [(.int (1 : Int32))])) t
        refine XS.goto X789.here hx rfl (pc0 := 188) (pc' := 192) rfl (hb hby at_188) (by decide) (by decide) ?_
        exact k)
      obtain ⟨fs, hr, hrun, hended, hRW⟩ := X789.leaveW hS592 (by rw [e789]; exact f774) (v := some (.int (1 : Int32))) (fun h => by rw [Bd.returns] at h; cases h)
      refine ⟨_, _, pre791 _ ?_, hrun, hended, _, _, rfl, ?_, hRW.1, hRW.2.1, hRW.2.2.1, hRW.2.2.2.mono (by decide) (by decide)⟩
      · exact retN X789 hx (t := .boolean) Bd.returns (by simp) (hb hby at_192) hr
      · show Q0 Z p1 p2 p3 h0 n0 _ T789.heap _
        rw [e789]
        exact ⟨rfl, N789⟩
    · have pre792 : ∀ t, Steps p.tables e below (T766.setTop (mkF m 172 #[.val (.int p1), .val (.int p2), .val (.int p3), .val (.int (3 : Int32)), .val (.int (2 : Int32)), .val (.ref b501), .val (.ref b511), .val (.ref b524), .val (.ref b540), .val (.ref b559), .val (.ref b572)] [])) t → Steps p.tables e below (s₁.setTop (entryFrame m #[(.int p1), (.int p2), (.int p3)] maxLocals)) t := fun t k => pre782 t (by rw [show ((p2 &&& (2147483647 : Int32)) % (3 : Int32)) = (2 : Int32) from hs783]; exact k)
      obtain ⟨cq793, kq793, q793a, q793b, q793c⟩ := isOf hZ592 e766 f773
      obtain ⟨_, _, ⟨T793, L793, k793, n793⟩, -, X793, ⟨Lc793, hQ793, l793, y793, z793⟩, st793⟩ := X766.virtualBack hx (y := (⟨"com/example/libsld/libsld/Struct", "arg", "(I)Lcom/example/libsld/libsld/Term;"⟩ : MethodName)) (z := (⟨"com/example/libsld/libsld/Struct", "arg", "(I)Lcom/example/libsld/libsld/Term;"⟩ : MethodName)) ho592 (mvT hZ592 (own_i hw 37 rfl)) (mvT hZ592 (own_i hw 38 rfl)) (notFace_of_selects (args := #[]) (mvT hZ592 (own_i hw 40 rfl))) (mvT hZ592 (own_i hw 40 rfl)) (mvT hZ592 (own_i hw 39 rfl)) (by decide) (backOf (W := 0) (rm4_2_3 l Z a0 hw [] b572 b607 x608 g0 h766 n0 f767 f776 f780 hp781) hZ592 (own_i hw 41 rfl) (own_i hw 18 rfl) (by decide) (by decide)) q793a q793c (g := (mkF m 176 #[.val (.int p1), .val (.int p2), .val (.int p3), .val (.int (3 : Int32)), .val (.int (2 : Int32)), .val (.ref b501), .val (.ref b511), .val (.ref b524), .val (.ref b540), .val (.ref b559), .val (.ref b572)] [(.int (2 : Int32)), (.ref b572)])) rfl (by rw [hml]; rfl) (Steps.refl _) (argsL := [(.int (2 : Int32))]) (rest := []) (lenOf pd_3 rfl) rfl (by show 2 * 0 + _ ≤ _; exact Nat.le_of_eq rfl) (hb hby at_176) (fun _ _ => ⟨rfl, e766, (by decide : 9 + 0 ≤ _), (by decide : 26 + 0 ≤ _)⟩)
      dsimp only [Pt.U, Pt.locs, Pt.cells, Pt.slots] at X793 l793 y793 z793 st793 hQ793
      subst l793 y793 z793
      obtain ⟨rfl, N793q, e793⟩ := hQ793
      have N793 := Fr.app N766 N793q
      obtain ⟨cl794, Ar794, q794, S794, N794z, H794, G794⟩ := (id f779)
      have hin794 : ¬ ((2 : Int32) < 0 ∨ cl794.slots.size ≤ ((2 : Int32)).toNatClampNeg) := inb_of S794 ⟨by decide, by decide⟩
      have hat794 : cl794.slots[((2 : Int32)).toNatClampNeg]? = some g0 := Has.at H794 hin794 rfl
      have pre795 : ∀ t, Steps p.tables e below (T793.setTop (mkF m 192 #[.val (.int p1), .val (.int p2), .val (.int p3), .val (.int (3 : Int32)), .val (.int (2 : Int32)), .val (.ref b501), .val (.ref b511), .val (.ref b524), .val (.ref b540), .val (.ref b559), .val (.ref b572)] [(.int (1 : Int32))])) t → Steps p.tables e below (s₁.setTop (entryFrame m #[(.int p1), (.int p2), (.int p3)] maxLocals)) t := fun t k => pre792 t (by
        show Steps p.tables e below (T766.setTop (mkF m 172 #[.val (.int p1), .val (.int p2), .val (.int p3), .val (.int (3 : Int32)), .val (.int (2 : Int32)), .val (.ref b501), .val (.ref b511), .val (.ref b524), .val (.ref b540), .val (.ref b559), .val (.ref b572)] [])) t
        refine XS.aload X766.here hx rfl (hb hby at_172) rfl rfl ?_
        show Steps p.tables e below (T766.setTop (mkF m 174 #[.val (.int p1), .val (.int p2), .val (.int p3), .val (.int (3 : Int32)), .val (.int (2 : Int32)), .val (.ref b501), .val (.ref b511), .val (.ref b524), .val (.ref b540), .val (.ref b559), .val (.ref b572)] [(.ref b572)])) t
        refine XS.iload X766.here hx rfl (hb hby at_174) rfl ?_
        show Steps p.tables e below (T766.setTop (mkF m 176 #[.val (.int p1), .val (.int p2), .val (.int p3), .val (.int (3 : Int32)), .val (.int (2 : Int32)), .val (.ref b501), .val (.ref b511), .val (.ref b524), .val (.ref b540), .val (.ref b559), .val (.ref b572)] [(.int (2 : Int32)), (.ref b572)])) t
        refine st793.trans ?_
        show Steps p.tables e below (T793.setTop (mkF m 179 #[.val (.int p1), .val (.int p2), .val (.int p3), .val (.int (3 : Int32)), .val (.int (2 : Int32)), .val (.ref b501), .val (.ref b511), .val (.ref b524), .val (.ref b540), .val (.ref b559), .val (.ref b572)] [g0])) t
        refine XS.aload X793.here hx rfl (hb hby at_179) rfl rfl ?_
        show Steps p.tables e below (T793.setTop (mkF m 181 #[.val (.int p1), .val (.int p2), .val (.int p3), .val (.int (3 : Int32)), .val (.int (2 : Int32)), .val (.ref b501), .val (.ref b511), .val (.ref b524), .val (.ref b540), .val (.ref b559), .val (.ref b572)] [(.ref b559), g0])) t
        refine XS.iload X793.here hx rfl (hb hby at_181) rfl ?_
        show Steps p.tables e below (T793.setTop (mkF m 183 #[.val (.int p1), .val (.int p2), .val (.int p3), .val (.int (3 : Int32)), .val (.int (2 : Int32)), .val (.ref b501), .val (.ref b511), .val (.ref b524), .val (.ref b540), .val (.ref b559), .val (.ref b572)] [(.int (2 : Int32)), (.ref b559), g0])) t
        refine X793.aaload hx (j := (2 : Int32)) (v := g0) (by rw [e793]; exact Ar794.1) (State.isArrayOf_alike hZ592.alike Ar794.2.1) rfl Ar794.2.2 hin794 hat794 (g := (mkF m 183 #[.val (.int p1), .val (.int p2), .val (.int p3), .val (.int (3 : Int32)), .val (.int (2 : Int32)), .val (.ref b501), .val (.ref b511), .val (.ref b524), .val (.ref b540), .val (.ref b559), .val (.ref b572)] [(.int (2 : Int32)), (.ref b559), g0])) rfl rfl (hb hby at_183) _ ?_
        show Steps p.tables e below (T793.setTop (mkF m 184 #[.val (.int p1), .val (.int p2), .val (.int p3), .val (.int (3 : Int32)), .val (.int (2 : Int32)), .val (.ref b501), .val (.ref b511), .val (.ref b524), .val (.ref b540), .val (.ref b559), .val (.ref b572)] [g0, g0])) t
        refine Jvm.RoadKit.acmp (g := (mkF m 184 #[.val (.int p1), .val (.int p2), .val (.int p3), .val (.int (3 : Int32)), .val (.int (2 : Int32)), .val (.ref b501), .val (.ref b511), .val (.ref b524), .val (.ref b540), .val (.ref b559), .val (.ref b572)] [g0, g0])) X793 hx rfl hp781 hp781 (pc0 := 184) (pc' := 187) (same := true) rfl (hb hby at_184) rfl (decide_eq_true rfl) (by decide) (by decide) ?_
        show Steps p.tables e below (T793.setTop (mkF m 187 #[.val (.int p1), .val (.int p2), .val (.int p3), .val (.int (3 : Int32)), .val (.int (2 : Int32)), .val (.ref b501), .val (.ref b511), .val (.ref b524), .val (.ref b540), .val (.ref b559), .val (.ref b572)] [])) t
        refine XS.iconst X793.here hx rfl (hb hby at_187) ?_
        show Steps p.tables e below (T793.setTop (mkF m 188 #[.val (.int p1), .val (.int p2), .val (.int p3), .val (.int (3 : Int32)), .val (.int (2 : Int32)), .val (.ref b501), .val (.ref b511), .val (.ref b524), .val (.ref b540), .val (.ref b559), .val (.ref b572)] [(.int (1 : Int32))])) t
        refine XS.goto X793.here hx rfl (pc0 := 188) (pc' := 192) rfl (hb hby at_188) (by decide) (by decide) ?_
        exact k)
      obtain ⟨fs, hr, hrun, hended, hRW⟩ := X793.leaveW hS592 (by rw [e793]; exact f774) (v := some (.int (1 : Int32))) (fun h => by rw [Bd.returns] at h; cases h)
      refine ⟨_, _, pre795 _ ?_, hrun, hended, _, _, rfl, ?_, hRW.1, hRW.2.1, hRW.2.2.1, hRW.2.2.2.mono (by decide) (by decide)⟩
      · exact retN X793 hx (t := .boolean) Bd.returns (by simp) (hb hby at_192) hr
      · show Q0 Z p1 p2 p3 h0 n0 _ T793.heap _
        rw [e793]
        exact ⟨rfl, N793⟩
  · have pre796 : ∀ t, Steps p.tables e below (s₁.setTop (mkF m 6 #[.val (.int p1), .val (.int p2), .val (.int p3), .val (.int (4 : Int32)), .unset, .unset, .unset, .unset, .unset, .unset, .unset] [])) t → Steps p.tables e below (s₁.setTop (entryFrame m #[(.int p1), (.int p2), (.int p3)] maxLocals)) t := fun t k => pre102 t (by rw [show ((1 : Int32) + (p1 &&& (3 : Int32))) = (4 : Int32) from (congrArg (fun z => (1 : Int32) + z) hs103)]; exact k)
    obtain ⟨T797, h797, X797, e797, E797, A797, D797, -, st797⟩ := newO X0 hx hZ hown (own_i hw 1 rfl) (own_i hw 2 rfl) (own_i hw 3 rfl) e0 (g := (mkF m 14 #[.val (.int p1), .val (.int p2), .val (.int p3), .val (.int (4 : Int32)), .val (.int ((p2 &&& (2147483647 : Int32)) % (4 : Int32))), .unset, .unset, .unset, .unset, .unset, .unset] [])) rfl (hb hby at_14) (by decide) (by decide)
    obtain ⟨b797, g797⟩ : ∃ z, z = h0.size := ⟨_, rfl⟩
    rw [← g797] at A797 D797 st797
    have ga798 : n0 ≤ b797 := Nat.le_trans Z0 (Nat.le_of_eq g797.symm)
    have sz799 : h0.size ≤ b797 := Nat.le_trans f101.1 (Nat.le_of_eq g797.symm)
    have f800 : Fld Z h797 b797 "com/example/libsld/libsld/Var" "number" "J" (.long (0 : Int64)) := D797 (Or.inr (own_i hw 11 rfl)) (ty := .long) (by decide)
    have f801 := Nat.le_trans Z0 E797.1
    have f802 := f101.ext E797
    obtain ⟨_, _, ⟨T803, L803, k803, n803⟩, -, X803, ⟨Lc803, hQ803, l803, y803, z803⟩, st803⟩ := X797.specialBack hx (y := (⟨"com/example/libsld/libsld/Var", "<init>", "(J)V"⟩ : MethodName)) rfl hown (mvT hZ (own_i hw 4 rfl)) (mvT hZ (own_i hw 5 rfl)) (mvT hZ (own_i hw 6 rfl)) (by decide) (backOf (W := 1) (rm1 l Z a0 hw [] b797 (0 : Int64) h797 n0 f801 f800 A797 ga798) hZ (own_i hw 6 rfl) (own_i hw 3 rfl) (by decide) (by decide)) (g := (mkF m 19 #[.val (.int p1), .val (.int p2), .val (.int p3), .val (.int (4 : Int32)), .val (.int ((p2 &&& (2147483647 : Int32)) % (4 : Int32))), .unset, .unset, .unset, .unset, .unset, .unset] [(.long (0 : Int64)), (.ref b797), (.ref b797)])) rfl (by rw [hml]; rfl) (Steps.refl _) (a := b797) (argsL := [(.long (0 : Int64))]) (rest := [(.ref b797)]) (lenOf pd_0 rfl) rfl (by show 2 * 0 + _ ≤ _; exact Nat.le_of_eq rfl) (hb hby at_19) (fun _ _ => ⟨rfl, e797, (by decide : 1 + 0 ≤ _), (by decide : 2 + 0 ≤ _)⟩)
    dsimp only [Pt.U, Pt.locs, Pt.cells, Pt.slots] at X803 l803 y803 z803 st803 hQ803
    subst l803 y803 z803
    obtain ⟨rfl, N803q, K803, f804⟩ := hQ803
    have N803 := Fr.app N0 N803q
    have f805 := Nat.le_trans f801 K803.1
    have f806 := f802.trans K803 (allS (Or.inr sz799) all0)
    obtain ⟨T807, h807, X807, e807, E807, A807, D807, -, st807⟩ := newO X803 hx hZ hown (own_i hw 1 rfl) (own_i hw 2 rfl) (own_i hw 3 rfl) rfl (g := (mkF m 24 #[.val (.int p1), .val (.int p2), .val (.int p3), .val (.int (4 : Int32)), .val (.int ((p2 &&& (2147483647 : Int32)) % (4 : Int32))), .val (.ref b797), .unset, .unset, .unset, .unset, .unset] [])) rfl (hb hby at_24) (by decide) (by decide)
    obtain ⟨b807, g807⟩ : ∃ z, z = T803.heap.size := ⟨_, rfl⟩
    rw [← g807] at A807 D807 st807
    have ne808 : b797 ≠ b807 := Nat.ne_of_lt (Nat.lt_of_lt_of_le f804.lt (Nat.le_of_eq g807.symm))
    have ga809 : n0 ≤ b807 := Nat.le_trans f805 (Nat.le_of_eq g807.symm)
    have sz810 : h0.size ≤ b807 := Nat.le_trans f806.1 (Nat.le_of_eq g807.symm)
    have f811 : Fld Z h807 b807 "com/example/libsld/libsld/Var" "number" "J" (.long (0 : Int64)) := D807 (Or.inr (own_i hw 11 rfl)) (ty := .long) (by decide)
    have f812 := Nat.le_trans f805 E807.1
    have f813 := f806.ext E807
    have f814 := f804.ext E807
    obtain ⟨_, _, ⟨T815, L815, k815, n815⟩, -, X815, ⟨Lc815, hQ815, l815, y815, z815⟩, st815⟩ := X807.specialBack hx (y := (⟨"com/example/libsld/libsld/Var", "<init>", "(J)V"⟩ : MethodName)) rfl hown (mvT hZ (own_i hw 4 rfl)) (mvT hZ (own_i hw 5 rfl)) (mvT hZ (own_i hw 6 rfl)) (by decide) (backOf (W := 1) (rm1 l Z a0 hw [] b807 (1 : Int64) h807 n0 f812 f811 A807 ga809) hZ (own_i hw 6 rfl) (own_i hw 3 rfl) (by decide) (by decide)) (g := (mkF m 29 #[.val (.int p1), .val (.int p2), .val (.int p3), .val (.int (4 : Int32)), .val (.int ((p2 &&& (2147483647 : Int32)) % (4 : Int32))), .val (.ref b797), .unset, .unset, .unset, .unset, .unset] [(.long (1 : Int64)), (.ref b807), (.ref b807)])) rfl (by rw [hml]; rfl) (Steps.refl _) (a := b807) (argsL := [(.long (1 : Int64))]) (rest := [(.ref b807)]) (lenOf pd_0 rfl) rfl (by show 2 * 0 + _ ≤ _; exact Nat.le_of_eq rfl) (hb hby at_29) (fun _ _ => ⟨rfl, e807, (by decide : 2 + 0 ≤ _), (by decide : 4 + 0 ≤ _)⟩)
    dsimp only [Pt.U, Pt.locs, Pt.cells, Pt.slots] at X815 l815 y815 z815 st815 hQ815
    subst l815 y815 z815
    obtain ⟨rfl, N815q, K815, f816⟩ := hQ815
    have N815 := Fr.app N803 N815q
    have f817 := Nat.le_trans f812 K815.1
    have f818 := f813.trans K815 (allS (Or.inr sz810) all0)
    have f819 := f814.keep K815
    obtain ⟨T820, h820, X820, e820, E820, A820, D820, -, st820⟩ := newO X815 hx hZ hown (own_i hw 1 rfl) (own_i hw 2 rfl) (own_i hw 3 rfl) rfl (g := (mkF m 34 #[.val (.int p1), .val (.int p2), .val (.int p3), .val (.int (4 : Int32)), .val (.int ((p2 &&& (2147483647 : Int32)) % (4 : Int32))), .val (.ref b797), .val (.ref b807), .unset, .unset, .unset, .unset] [])) rfl (hb hby at_34) (by decide) (by decide)
    obtain ⟨b820, g820⟩ : ∃ z, z = T815.heap.size := ⟨_, rfl⟩
    rw [← g820] at A820 D820 st820
    have ne821 : b797 ≠ b820 := Nat.ne_of_lt (Nat.lt_of_lt_of_le f819.lt (Nat.le_of_eq g820.symm))
    have ne822 : b807 ≠ b820 := Nat.ne_of_lt (Nat.lt_of_lt_of_le f816.lt (Nat.le_of_eq g820.symm))
    have ga823 : n0 ≤ b820 := Nat.le_trans f817 (Nat.le_of_eq g820.symm)
    have sz824 : h0.size ≤ b820 := Nat.le_trans f818.1 (Nat.le_of_eq g820.symm)
    have f825 : Fld Z h820 b820 "com/example/libsld/libsld/Var" "number" "J" (.long (0 : Int64)) := D820 (Or.inr (own_i hw 11 rfl)) (ty := .long) (by decide)
    have f826 := Nat.le_trans f817 E820.1
    have f827 := f818.ext E820
    have f828 := f819.ext E820
    have f829 := f816.ext E820
    obtain ⟨_, _, ⟨T830, L830, k830, n830⟩, -, X830, ⟨Lc830, hQ830, l830, y830, z830⟩, st830⟩ := X820.specialBack hx (y := (⟨"com/example/libsld/libsld/Var", "<init>", "(J)V"⟩ : MethodName)) rfl hown (mvT hZ (own_i hw 4 rfl)) (mvT hZ (own_i hw 5 rfl)) (mvT hZ (own_i hw 6 rfl)) (by decide) (backOf (W := 1) (rm1 l Z a0 hw [] b820 (2 : Int64) h820 n0 f826 f825 A820 ga823) hZ (own_i hw 6 rfl) (own_i hw 3 rfl) (by decide) (by decide)) (g := (mkF m 41 #[.val (.int p1), .val (.int p2), .val (.int p3), .val (.int (4 : Int32)), .val (.int ((p2 &&& (2147483647 : Int32)) % (4 : Int32))), .val (.ref b797), .val (.ref b807), .unset, .unset, .unset, .unset] [(.long (2 : Int64)), (.ref b820), (.ref b820)])) rfl (by rw [hml]; rfl) (Steps.refl _) (a := b820) (argsL := [(.long (2 : Int64))]) (rest := [(.ref b820)]) (lenOf pd_0 rfl) rfl (by show 2 * 0 + _ ≤ _; exact Nat.le_of_eq rfl) (hb hby at_41) (fun _ _ => ⟨rfl, e820, (by decide : 3 + 0 ≤ _), (by decide : 6 + 0 ≤ _)⟩)
    dsimp only [Pt.U, Pt.locs, Pt.cells, Pt.slots] at X830 l830 y830 z830 st830 hQ830
    subst l830 y830 z830
    obtain ⟨rfl, N830q, K830, f831⟩ := hQ830
    have N830 := Fr.app N815 N830q
    have f832 := Nat.le_trans f826 K830.1
    have f833 := f827.trans K830 (allS (Or.inr sz824) all0)
    have f834 := f828.keep K830
    have f835 := f829.keep K830
    obtain ⟨T836, h836, X836, e836, E836, A836, D836, -, st836⟩ := newO X830 hx hZ hown (own_i hw 1 rfl) (own_i hw 2 rfl) (own_i hw 3 rfl) rfl (g := (mkF m 46 #[.val (.int p1), .val (.int p2), .val (.int p3), .val (.int (4 : Int32)), .val (.int ((p2 &&& (2147483647 : Int32)) % (4 : Int32))), .val (.ref b797), .val (.ref b807), .val (.ref b820), .unset, .unset, .unset] [])) rfl (hb hby at_46) (by decide) (by decide)
    obtain ⟨b836, g836⟩ : ∃ z, z = T830.heap.size := ⟨_, rfl⟩
    rw [← g836] at A836 D836 st836
    have ne837 : b797 ≠ b836 := Nat.ne_of_lt (Nat.lt_of_lt_of_le f834.lt (Nat.le_of_eq g836.symm))
    have ne838 : b807 ≠ b836 := Nat.ne_of_lt (Nat.lt_of_lt_of_le f835.lt (Nat.le_of_eq g836.symm))
    have ne839 : b820 ≠ b836 := Nat.ne_of_lt (Nat.lt_of_lt_of_le f831.lt (Nat.le_of_eq g836.symm))
    have ga840 : n0 ≤ b836 := Nat.le_trans f832 (Nat.le_of_eq g836.symm)
    have sz841 : h0.size ≤ b836 := Nat.le_trans f833.1 (Nat.le_of_eq g836.symm)
    have f842 : Fld Z h836 b836 "com/example/libsld/libsld/Var" "number" "J" (.long (0 : Int64)) := D836 (Or.inr (own_i hw 11 rfl)) (ty := .long) (by decide)
    have f843 := Nat.le_trans f832 E836.1
    have f844 := f833.ext E836
    have f845 := f834.ext E836
    have f846 := f835.ext E836
    have f847 := f831.ext E836
    obtain ⟨_, _, ⟨T848, L848, k848, n848⟩, -, X848, ⟨Lc848, hQ848, l848, y848, z848⟩, st848⟩ := X836.specialBack hx (y := (⟨"com/example/libsld/libsld/Var", "<init>", "(J)V"⟩ : MethodName)) rfl hown (mvT hZ (own_i hw 4 rfl)) (mvT hZ (own_i hw 5 rfl)) (mvT hZ (own_i hw 6 rfl)) (by decide) (backOf (W := 1) (rm1 l Z a0 hw [] b836 (3 : Int64) h836 n0 f843 f842 A836 ga840) hZ (own_i hw 6 rfl) (own_i hw 3 rfl) (by decide) (by decide)) (g := (mkF m 53 #[.val (.int p1), .val (.int p2), .val (.int p3), .val (.int (4 : Int32)), .val (.int ((p2 &&& (2147483647 : Int32)) % (4 : Int32))), .val (.ref b797), .val (.ref b807), .val (.ref b820), .unset, .unset, .unset] [(.long (3 : Int64)), (.ref b836), (.ref b836)])) rfl (by rw [hml]; rfl) (Steps.refl _) (a := b836) (argsL := [(.long (3 : Int64))]) (rest := [(.ref b836)]) (lenOf pd_0 rfl) rfl (by show 2 * 0 + _ ≤ _; exact Nat.le_of_eq rfl) (hb hby at_53) (fun _ _ => ⟨rfl, e836, (by decide : 4 + 0 ≤ _), (by decide : 8 + 0 ≤ _)⟩)
    dsimp only [Pt.U, Pt.locs, Pt.cells, Pt.slots] at X848 l848 y848 z848 st848 hQ848
    subst l848 y848 z848
    obtain ⟨rfl, N848q, K848, f849⟩ := hQ848
    have N848 := Fr.app N830 N848q
    have f850 := Nat.le_trans f843 K848.1
    have f851 := f844.trans K848 (allS (Or.inr sz841) all0)
    have f852 := f845.keep K848
    have f853 := f846.keep K848
    have f854 := f847.keep K848
    obtain ⟨T855, h855, k855, X855, e855, E855, A855, O855, st855⟩ := newR X848 hx hZ hown (own_i hw 14 rfl) (own_i hw 15 rfl) rfl (g := (mkF m 59 #[.val (.int p1), .val (.int p2), .val (.int p3), .val (.int (4 : Int32)), .val (.int ((p2 &&& (2147483647 : Int32)) % (4 : Int32))), .val (.ref b797), .val (.ref b807), .val (.ref b820), .val (.ref b836), .unset, .unset] [(.int (4 : Int32))])) rfl (hb hby at_59) rfl (by decide) (cap := 4) (by decide) (by decide) (by decide) (by decide)
    obtain ⟨b855, g855⟩ : ∃ z, z = T848.heap.size := ⟨_, rfl⟩
    rw [← g855] at A855 st855
    have ne856 : b797 ≠ b855 := Nat.ne_of_lt (Nat.lt_of_lt_of_le f852.lt (Nat.le_of_eq g855.symm))
    have ne857 : b807 ≠ b855 := Nat.ne_of_lt (Nat.lt_of_lt_of_le f853.lt (Nat.le_of_eq g855.symm))
    have ne858 : b820 ≠ b855 := Nat.ne_of_lt (Nat.lt_of_lt_of_le f854.lt (Nat.le_of_eq g855.symm))
    have ne859 : b836 ≠ b855 := Nat.ne_of_lt (Nat.lt_of_lt_of_le f849.lt (Nat.le_of_eq g855.symm))
    have ga860 : n0 ≤ b855 := Nat.le_trans f850 (Nat.le_of_eq g855.symm)
    have sz861 : h0.size ≤ b855 := Nat.le_trans f851.1 (Nat.le_of_eq g855.symm)
    have V855 : Arv Z h855 b855 k855 (.object "com/example/libsld/libsld/Term") (4 : Int32) [.null, .null, .null, .null] .null := (Arv.new A855 (by decide)).pad (pad_rep [] .null 4)
    have f862 := Nat.le_trans f850 E855.1
    have f863 := f851.ext E855
    have f864 := f852.ext E855
    have f865 := f853.ext E855
    have f866 := f854.ext E855
    have f867 := f849.ext E855
    obtain ⟨T868, h868, X868, e868, E868, A868, D868, -, st868⟩ := newO X855 hx hZ hown (own_i hw 16 rfl) (own_i hw 17 rfl) (own_i hw 18 rfl) e855 (g := (mkF m 64 #[.val (.int p1), .val (.int p2), .val (.int p3), .val (.int (4 : Int32)), .val (.int ((p2 &&& (2147483647 : Int32)) % (4 : Int32))), .val (.ref b797), .val (.ref b807), .val (.ref b820), .val (.ref b836), .val (.ref b855), .unset] [])) rfl (hb hby at_64) (by decide) (by decide)
    obtain ⟨b868, g868⟩ : ∃ z, z = h855.size := ⟨_, rfl⟩
    rw [← g868] at A868 D868 st868
    have ne869 : b797 ≠ b868 := Nat.ne_of_lt (Nat.lt_of_lt_of_le f864.lt (Nat.le_of_eq g868.symm))
    have ne870 : b807 ≠ b868 := Nat.ne_of_lt (Nat.lt_of_lt_of_le f865.lt (Nat.le_of_eq g868.symm))
    have ne871 : b820 ≠ b868 := Nat.ne_of_lt (Nat.lt_of_lt_of_le f866.lt (Nat.le_of_eq g868.symm))
    have ne872 : b836 ≠ b868 := Nat.ne_of_lt (Nat.lt_of_lt_of_le f867.lt (Nat.le_of_eq g868.symm))
    have ne873 : b855 ≠ b868 := Nat.ne_of_lt (Nat.lt_of_lt_of_le V855.lt (Nat.le_of_eq g868.symm))
    have ga874 : n0 ≤ b868 := Nat.le_trans f862 (Nat.le_of_eq g868.symm)
    have sz875 : h0.size ≤ b868 := Nat.le_trans f863.1 (Nat.le_of_eq g868.symm)
    have f876 : Fld Z h868 b868 "com/example/libsld/libsld/Struct" "name" "Ljava/lang/String;" .null := D868 (Or.inr (own_i hw 32 rfl)) (ty := (.object "java/lang/String")) (by decide)
    have f877 : Fld Z h868 b868 "com/example/libsld/libsld/Struct" "arity" "I" (.int (0 : Int32)) := D868 (Or.inr (own_i hw 34 rfl)) (ty := .int) (by decide)
    have f878 : Fld Z h868 b868 "com/example/libsld/libsld/Struct" "rest" "[Lcom/example/libsld/libsld/Term;" .null := D868 (Or.inr (own_i hw 36 rfl)) (ty := (.array (.object "com/example/libsld/libsld/Term"))) (by decide)
    have f879 : Fld Z h868 b868 "com/example/libsld/libsld/Struct" "first" "Lcom/example/libsld/libsld/Term;" .null := D868 (Or.inl (own_i hw 43 rfl)) (ty := (.object "com/example/libsld/libsld/Term")) (by decide)
    have f880 : Fld Z h868 b868 "com/example/libsld/libsld/Struct" "second" "Lcom/example/libsld/libsld/Term;" .null := D868 (Or.inl (own_i hw 51 rfl)) (ty := (.object "com/example/libsld/libsld/Term")) (by decide)
    have f881 := Nat.le_trans f862 E868.1
    have f882 := f863.ext E868
    have f883 := f864.ext E868
    have f884 := f865.ext E868
    have f885 := f866.ext E868
    have f886 := f867.ext E868
    have f887 := V855.ext E868
    obtain ⟨a888, T888, h888, k888, X888, e888, E888, hS888, hk888, hZ888, ho888, st888⟩ := ldcS (s := s) (vm0 := s.vm) X868 hx hZ hown (own_i hw 19 rfl) hwS e868 hS0 (Nat.zero_le _) (g := (mkF m 68 #[.val (.int p1), .val (.int p2), .val (.int p3), .val (.int (4 : Int32)), .val (.int ((p2 &&& (2147483647 : Int32)) % (4 : Int32))), .val (.ref b797), .val (.ref b807), .val (.ref b820), .val (.ref b836), .val (.ref b855), .unset] [(.ref b868), (.ref b868)])) rfl (hb hby at_68) (n := 4) (by decide) (by decide) (by decide) (by decide)
    have f889 := Nat.le_trans f881 E888.1
    have f890 := f882.ext E888
    have f891 := f883.ext E888
    have f892 := f884.ext E888
    have f893 := f885.ext E888
    have f894 := f886.ext E888
    have f895 := f887.ext E888
    have f896 := A868.ext E888
    have f897 := f876.ext E888
    have f898 := f877.ext E888
    have f899 := f878.ext E888
    have f900 := f879.ext E888
    have f901 := f880.ext E888
    obtain ⟨_, _, ⟨T902, L902, k902, n902⟩, -, X902, ⟨Lc902, hQ902, l902, y902, z902⟩, st902⟩ := X888.specialBack hx (y := (⟨"com/example/libsld/libsld/Struct", "<init>", "(Ljava/lang/String;I)V"⟩ : MethodName)) rfl ho888 (mvT hZ888 (own_i hw 27 rfl)) (mvT hZ888 (own_i hw 28 rfl)) (mvT hZ888 (own_i hw 29 rfl)) (by decide) (backOf (W := 1) (rm3_4 l Z a0 hw [] b868 a888 h888 n0 f889 f900 f901 f899 f898 f897 f896 ga874) hZ888 (own_i hw 29 rfl) (own_i hw 18 rfl) (by decide) (by decide)) (g := (mkF m 71 #[.val (.int p1), .val (.int p2), .val (.int p3), .val (.int (4 : Int32)), .val (.int ((p2 &&& (2147483647 : Int32)) % (4 : Int32))), .val (.ref b797), .val (.ref b807), .val (.ref b820), .val (.ref b836), .val (.ref b855), .unset] [(.int (4 : Int32)), (.ref a888), (.ref b868), (.ref b868)])) rfl (by rw [hml]; rfl) (Steps.refl _) (a := b868) (argsL := [(.ref a888), (.int (4 : Int32))]) (rest := [(.ref b868)]) (lenOf pd_1 rfl) rfl (by show 2 * 0 + _ ≤ _; exact Nat.le_of_eq rfl) (hb hby at_71) (fun _ _ => ⟨rfl, e888, (by decide : 8 + 1 ≤ _), (by decide : 25 + 2 ≤ _)⟩)
    dsimp only [Pt.U, Pt.locs, Pt.cells, Pt.slots] at X902 l902 y902 z902 st902 hQ902
    subst l902 y902 z902
    obtain ⟨b903, x904, rfl, N902q, K902, f905, f906, f907, f908, f909, f910, f911, f912, f913, f914⟩ := hQ902
    have N902 := Fr.app N848 N902q
    have ne915 : b797 ≠ b903 := Nat.ne_of_lt (Nat.lt_of_lt_of_le f891.lt f911)
    have ne916 : b807 ≠ b903 := Nat.ne_of_lt (Nat.lt_of_lt_of_le f892.lt f911)
    have ne917 : b820 ≠ b903 := Nat.ne_of_lt (Nat.lt_of_lt_of_le f893.lt f911)
    have ne918 : b836 ≠ b903 := Nat.ne_of_lt (Nat.lt_of_lt_of_le f894.lt f911)
    have ne919 : b855 ≠ b903 := Nat.ne_of_lt (Nat.lt_of_lt_of_le f895.lt f911)
    have ne920 : b868 ≠ b903 := Nat.ne_of_lt (Nat.lt_of_lt_of_le f896.lt f911)
    have sz921 : h0.size ≤ b903 := Nat.le_trans f890.1 f911
    have f922 := Nat.le_trans f889 K902.1
    have f923 := f890.trans K902 (allS (Or.inr sz875) all0)
    have f924 := f891.keep K902
    have f925 := f892.keep K902
    have f926 := f893.keep K902
    have f927 := f894.keep K902
    have f928 := f895.keep K902 (ninS ne873 nin0)
    have f929 := Nat.le_trans hk888 K902.1
    have pre930 : ∀ t, Steps p.tables e below (T902.setTop (mkF m 76 #[.val (.int p1), .val (.int p2), .val (.int p3), .val (.int (4 : Int32)), .val (.int ((p2 &&& (2147483647 : Int32)) % (4 : Int32))), .val (.ref b797), .val (.ref b807), .val (.ref b820), .val (.ref b836), .val (.ref b855), .val (.ref b868)] [])) t → Steps p.tables e below (s₁.setTop (entryFrame m #[(.int p1), (.int p2), (.int p3)] maxLocals)) t := fun t k => pre796 t (by
      show Steps p.tables e below (s₁.setTop (mkF m 6 #[.val (.int p1), .val (.int p2), .val (.int p3), .val (.int (4 : Int32)), .unset, .unset, .unset, .unset, .unset, .unset, .unset] [])) t
      refine XS.iloadN X0.here hx rfl (hb hby at_6) rfl ?_
      show Steps p.tables e below (s₁.setTop (mkF m 7 #[.val (.int p1), .val (.int p2), .val (.int p3), .val (.int (4 : Int32)), .unset, .unset, .unset, .unset, .unset, .unset, .unset] [(.int p2)])) t
      refine X0.ldcInt hx hown (mvT hZ (own_i hw 0 rfl)) (g := (mkF m 7 #[.val (.int p1), .val (.int p2), .val (.int p3), .val (.int (4 : Int32)), .unset, .unset, .unset, .unset, .unset, .unset, .unset] [(.int p2)])) rfl (hb hby at_7) _ ?_
      show Steps p.tables e below (s₁.setTop (mkF m 9 #[.val (.int p1), .val (.int p2), .val (.int p3), .val (.int (4 : Int32)), .unset, .unset, .unset, .unset, .unset, .unset, .unset] [(.int (2147483647 : Int32)), (.int p2)])) t
      refine XS.iand X0.here hx rfl (hb hby at_9) rfl ?_
      show Steps p.tables e below (s₁.setTop (mkF m 10 #[.val (.int p1), .val (.int p2), .val (.int p3), .val (.int (4 : Int32)), .unset, .unset, .unset, .unset, .unset, .unset, .unset] [(.int (p2 &&& (2147483647 : Int32)))])) t
      refine XS.iloadN X0.here hx rfl (hb hby at_10) rfl ?_
      show Steps p.tables e below (s₁.setTop (mkF m 11 #[.val (.int p1), .val (.int p2), .val (.int p3), .val (.int (4 : Int32)), .unset, .unset, .unset, .unset, .unset, .unset, .unset] [(.int (4 : Int32)), (.int (p2 &&& (2147483647 : Int32)))])) t
      refine iremM (g := (mkF m 11 #[.val (.int p1), .val (.int p2), .val (.int p3), .val (.int (4 : Int32)), .unset, .unset, .unset, .unset, .unset, .unset, .unset] [(.int (4 : Int32)), (.int (p2 &&& (2147483647 : Int32)))])) X0 hx rfl (hb hby at_11) rfl (by decide) ?_
      show Steps p.tables e below (s₁.setTop (mkF m 12 #[.val (.int p1), .val (.int p2), .val (.int p3), .val (.int (4 : Int32)), .unset, .unset, .unset, .unset, .unset, .unset, .unset] [(.int ((p2 &&& (2147483647 : Int32)) % (4 : Int32)))])) t
      refine XS.istore X0.here hx rfl (hb hby at_12) rfl (l' := #[.val (.int p1), .val (.int p2), .val (.int p3), .val (.int (4 : Int32)), .val (.int ((p2 &&& (2147483647 : Int32)) % (4 : Int32))), .unset, .unset, .unset, .unset, .unset, .unset]) rfl ?_
      show Steps p.tables e below (s₁.setTop (mkF m 14 #[.val (.int p1), .val (.int p2), .val (.int p3), .val (.int (4 : Int32)), .val (.int ((p2 &&& (2147483647 : Int32)) % (4 : Int32))), .unset, .unset, .unset, .unset, .unset, .unset] [])) t
      refine st797 _ ?_
      show Steps p.tables e below (T797.setTop (mkF m 17 #[.val (.int p1), .val (.int p2), .val (.int p3), .val (.int (4 : Int32)), .val (.int ((p2 &&& (2147483647 : Int32)) % (4 : Int32))), .unset, .unset, .unset, .unset, .unset, .unset] [(.ref b797)])) t
      refine XS.dup X797.here hx rfl (hb hby at_17) rfl rfl ?_
      show Steps p.tables e below (T797.setTop (mkF m 18 #[.val (.int p1), .val (.int p2), .val (.int p3), .val (.int (4 : Int32)), .val (.int ((p2 &&& (2147483647 : Int32)) % (4 : Int32))), .unset, .unset, .unset, .unset, .unset, .unset] [(.ref b797), (.ref b797)])) t
      refine XS.lconst X797.here hx rfl (hb hby at_18) ?_
      show Steps p.tables e below (T797.setTop (mkF m 19 #[.val (.int p1), .val (.int p2), .val (.int p3), .val (.int (4 : Int32)), .val (.int ((p2 &&& (2147483647 : Int32)) % (4 : Int32))), .unset, .unset, .unset, .unset, .unset, .unset] [(.long (0 : Int64)), (.ref b797), (.ref b797)])) t
      refine st803.trans ?_
      show Steps p.tables e below (T803.setTop (mkF m 22 #[.val (.int p1), .val (.int p2), .val (.int p3), .val (.int (4 : Int32)), .val (.int ((p2 &&& (2147483647 : Int32)) % (4 : Int32))), .unset, .unset, .unset, .unset, .unset, .unset] [(.ref b797)])) t
      refine XS.astore X803.here hx rfl (hb hby at_22) rfl rfl (l' := #[.val (.int p1), .val (.int p2), .val (.int p3), .val (.int (4 : Int32)), .val (.int ((p2 &&& (2147483647 : Int32)) % (4 : Int32))), .val (.ref b797), .unset, .unset, .unset, .unset, .unset]) rfl ?_
      show Steps p.tables e below (T803.setTop (mkF m 24 #[.val (.int p1), .val (.int p2), .val (.int p3), .val (.int (4 : Int32)), .val (.int ((p2 &&& (2147483647 : Int32)) % (4 : Int32))), .val (.ref b797), .unset, .unset, .unset, .unset, .unset] [])) t
      refine st807 _ ?_
      show Steps p.tables e below (T807.setTop (mkF m 27 #[.val (.int p1), .val (.int p2), .val (.int p3), .val (.int (4 : Int32)), .val (.int ((p2 &&& (2147483647 : Int32)) % (4 : Int32))), .val (.ref b797), .unset, .unset, .unset, .unset, .unset] [(.ref b807)])) t
      refine XS.dup X807.here hx rfl (hb hby at_27) rfl rfl ?_
      show Steps p.tables e below (T807.setTop (mkF m 28 #[.val (.int p1), .val (.int p2), .val (.int p3), .val (.int (4 : Int32)), .val (.int ((p2 &&& (2147483647 : Int32)) % (4 : Int32))), .val (.ref b797), .unset, .unset, .unset, .unset, .unset] [(.ref b807), (.ref b807)])) t
      refine XS.lconst X807.here hx rfl (hb hby at_28) ?_
      show Steps p.tables e below (T807.setTop (mkF m 29 #[.val (.int p1), .val (.int p2), .val (.int p3), .val (.int (4 : Int32)), .val (.int ((p2 &&& (2147483647 : Int32)) % (4 : Int32))), .val (.ref b797), .unset, .unset, .unset, .unset, .unset] [(.long (1 : Int64)), (.ref b807), (.ref b807)])) t
      refine st815.trans ?_
      show Steps p.tables e below (T815.setTop (mkF m 32 #[.val (.int p1), .val (.int p2), .val (.int p3), .val (.int (4 : Int32)), .val (.int ((p2 &&& (2147483647 : Int32)) % (4 : Int32))), .val (.ref b797), .unset, .unset, .unset, .unset, .unset] [(.ref b807)])) t
      refine XS.astore X815.here hx rfl (hb hby at_32) rfl rfl (l' := #[.val (.int p1), .val (.int p2), .val (.int p3), .val (.int (4 : Int32)), .val (.int ((p2 &&& (2147483647 : Int32)) % (4 : Int32))), .val (.ref b797), .val (.ref b807), .unset, .unset, .unset, .unset]) rfl ?_
      show Steps p.tables e below (T815.setTop (mkF m 34 #[.val (.int p1), .val (.int p2), .val (.int p3), .val (.int (4 : Int32)), .val (.int ((p2 &&& (2147483647 : Int32)) % (4 : Int32))), .val (.ref b797), .val (.ref b807), .unset, .unset, .unset, .unset] [])) t
      refine st820 _ ?_
      show Steps p.tables e below (T820.setTop (mkF m 37 #[.val (.int p1), .val (.int p2), .val (.int p3), .val (.int (4 : Int32)), .val (.int ((p2 &&& (2147483647 : Int32)) % (4 : Int32))), .val (.ref b797), .val (.ref b807), .unset, .unset, .unset, .unset] [(.ref b820)])) t
      refine XS.dup X820.here hx rfl (hb hby at_37) rfl rfl ?_
      show Steps p.tables e below (T820.setTop (mkF m 38 #[.val (.int p1), .val (.int p2), .val (.int p3), .val (.int (4 : Int32)), .val (.int ((p2 &&& (2147483647 : Int32)) % (4 : Int32))), .val (.ref b797), .val (.ref b807), .unset, .unset, .unset, .unset] [(.ref b820), (.ref b820)])) t
      refine X820.ldc2Long hx hown (mvT hZ (own_i hw 12 rfl)) (g := (mkF m 38 #[.val (.int p1), .val (.int p2), .val (.int p3), .val (.int (4 : Int32)), .val (.int ((p2 &&& (2147483647 : Int32)) % (4 : Int32))), .val (.ref b797), .val (.ref b807), .unset, .unset, .unset, .unset] [(.ref b820), (.ref b820)])) rfl (hb hby at_38) _ ?_
      show Steps p.tables e below (T820.setTop (mkF m 41 #[.val (.int p1), .val (.int p2), .val (.int p3), .val (.int (4 : Int32)), .val (.int ((p2 &&& (2147483647 : Int32)) % (4 : Int32))), .val (.ref b797), .val (.ref b807), .unset, .unset, .unset, .unset] [(.long (2 : Int64)), (.ref b820), (.ref b820)])) t
      refine st830.trans ?_
      show Steps p.tables e below (T830.setTop (mkF m 44 #[.val (.int p1), .val (.int p2), .val (.int p3), .val (.int (4 : Int32)), .val (.int ((p2 &&& (2147483647 : Int32)) % (4 : Int32))), .val (.ref b797), .val (.ref b807), .unset, .unset, .unset, .unset] [(.ref b820)])) t
      refine XS.astore X830.here hx rfl (hb hby at_44) rfl rfl (l' := #[.val (.int p1), .val (.int p2), .val (.int p3), .val (.int (4 : Int32)), .val (.int ((p2 &&& (2147483647 : Int32)) % (4 : Int32))), .val (.ref b797), .val (.ref b807), .val (.ref b820), .unset, .unset, .unset]) rfl ?_
      show Steps p.tables e below (T830.setTop (mkF m 46 #[.val (.int p1), .val (.int p2), .val (.int p3), .val (.int (4 : Int32)), .val (.int ((p2 &&& (2147483647 : Int32)) % (4 : Int32))), .val (.ref b797), .val (.ref b807), .val (.ref b820), .unset, .unset, .unset] [])) t
      refine st836 _ ?_
      show Steps p.tables e below (T836.setTop (mkF m 49 #[.val (.int p1), .val (.int p2), .val (.int p3), .val (.int (4 : Int32)), .val (.int ((p2 &&& (2147483647 : Int32)) % (4 : Int32))), .val (.ref b797), .val (.ref b807), .val (.ref b820), .unset, .unset, .unset] [(.ref b836)])) t
      refine XS.dup X836.here hx rfl (hb hby at_49) rfl rfl ?_
      show Steps p.tables e below (T836.setTop (mkF m 50 #[.val (.int p1), .val (.int p2), .val (.int p3), .val (.int (4 : Int32)), .val (.int ((p2 &&& (2147483647 : Int32)) % (4 : Int32))), .val (.ref b797), .val (.ref b807), .val (.ref b820), .unset, .unset, .unset] [(.ref b836), (.ref b836)])) t
      refine X836.ldc2Long hx hown (mvT hZ (own_i hw 13 rfl)) (g := (mkF m 50 #[.val (.int p1), .val (.int p2), .val (.int p3), .val (.int (4 : Int32)), .val (.int ((p2 &&& (2147483647 : Int32)) % (4 : Int32))), .val (.ref b797), .val (.ref b807), .val (.ref b820), .unset, .unset, .unset] [(.ref b836), (.ref b836)])) rfl (hb hby at_50) _ ?_
      show Steps p.tables e below (T836.setTop (mkF m 53 #[.val (.int p1), .val (.int p2), .val (.int p3), .val (.int (4 : Int32)), .val (.int ((p2 &&& (2147483647 : Int32)) % (4 : Int32))), .val (.ref b797), .val (.ref b807), .val (.ref b820), .unset, .unset, .unset] [(.long (3 : Int64)), (.ref b836), (.ref b836)])) t
      refine st848.trans ?_
      show Steps p.tables e below (T848.setTop (mkF m 56 #[.val (.int p1), .val (.int p2), .val (.int p3), .val (.int (4 : Int32)), .val (.int ((p2 &&& (2147483647 : Int32)) % (4 : Int32))), .val (.ref b797), .val (.ref b807), .val (.ref b820), .unset, .unset, .unset] [(.ref b836)])) t
      refine XS.astore X848.here hx rfl (hb hby at_56) rfl rfl (l' := #[.val (.int p1), .val (.int p2), .val (.int p3), .val (.int (4 : Int32)), .val (.int ((p2 &&& (2147483647 : Int32)) % (4 : Int32))), .val (.ref b797), .val (.ref b807), .val (.ref b820), .val (.ref b836), .unset, .unset]) rfl ?_
      show Steps p.tables e below (T848.setTop (mkF m 58 #[.val (.int p1), .val (.int p2), .val (.int p3), .val (.int (4 : Int32)), .val (.int ((p2 &&& (2147483647 : Int32)) % (4 : Int32))), .val (.ref b797), .val (.ref b807), .val (.ref b820), .val (.ref b836), .unset, .unset] [])) t
      refine XS.iconst X848.here hx rfl (hb hby at_58) ?_
      show Steps p.tables e below (T848.setTop (mkF m 59 #[.val (.int p1), .val (.int p2), .val (.int p3), .val (.int (4 : Int32)), .val (.int ((p2 &&& (2147483647 : Int32)) % (4 : Int32))), .val (.ref b797), .val (.ref b807), .val (.ref b820), .val (.ref b836), .unset, .unset] [(.int (4 : Int32))])) t
      refine st855 _ ?_
      show Steps p.tables e below (T855.setTop (mkF m 62 #[.val (.int p1), .val (.int p2), .val (.int p3), .val (.int (4 : Int32)), .val (.int ((p2 &&& (2147483647 : Int32)) % (4 : Int32))), .val (.ref b797), .val (.ref b807), .val (.ref b820), .val (.ref b836), .unset, .unset] [(.ref b855)])) t
      refine XS.astore X855.here hx rfl (hb hby at_62) rfl rfl (l' := #[.val (.int p1), .val (.int p2), .val (.int p3), .val (.int (4 : Int32)), .val (.int ((p2 &&& (2147483647 : Int32)) % (4 : Int32))), .val (.ref b797), .val (.ref b807), .val (.ref b820), .val (.ref b836), .val (.ref b855), .unset]) rfl ?_
      show Steps p.tables e below (T855.setTop (mkF m 64 #[.val (.int p1), .val (.int p2), .val (.int p3), .val (.int (4 : Int32)), .val (.int ((p2 &&& (2147483647 : Int32)) % (4 : Int32))), .val (.ref b797), .val (.ref b807), .val (.ref b820), .val (.ref b836), .val (.ref b855), .unset] [])) t
      refine st868 _ ?_
      show Steps p.tables e below (T868.setTop (mkF m 67 #[.val (.int p1), .val (.int p2), .val (.int p3), .val (.int (4 : Int32)), .val (.int ((p2 &&& (2147483647 : Int32)) % (4 : Int32))), .val (.ref b797), .val (.ref b807), .val (.ref b820), .val (.ref b836), .val (.ref b855), .unset] [(.ref b868)])) t
      refine XS.dup X868.here hx rfl (hb hby at_67) rfl rfl ?_
      show Steps p.tables e below (T868.setTop (mkF m 68 #[.val (.int p1), .val (.int p2), .val (.int p3), .val (.int (4 : Int32)), .val (.int ((p2 &&& (2147483647 : Int32)) % (4 : Int32))), .val (.ref b797), .val (.ref b807), .val (.ref b820), .val (.ref b836), .val (.ref b855), .unset] [(.ref b868), (.ref b868)])) t
      refine st888 _ ?_
      show Steps p.tables e below (T888.setTop (mkF m 70 #[.val (.int p1), .val (.int p2), .val (.int p3), .val (.int (4 : Int32)), .val (.int ((p2 &&& (2147483647 : Int32)) % (4 : Int32))), .val (.ref b797), .val (.ref b807), .val (.ref b820), .val (.ref b836), .val (.ref b855), .unset] [(.ref a888), (.ref b868), (.ref b868)])) t
      refine XS.iloadN X888.here hx rfl (hb hby at_70) rfl ?_
      show Steps p.tables e below (T888.setTop (mkF m 71 #[.val (.int p1), .val (.int p2), .val (.int p3), .val (.int (4 : Int32)), .val (.int ((p2 &&& (2147483647 : Int32)) % (4 : Int32))), .val (.ref b797), .val (.ref b807), .val (.ref b820), .val (.ref b836), .val (.ref b855), .unset] [(.int (4 : Int32)), (.ref a888), (.ref b868), (.ref b868)])) t
      refine st902.trans ?_
      show Steps p.tables e below (T902.setTop (mkF m 74 #[.val (.int p1), .val (.int p2), .val (.int p3), .val (.int (4 : Int32)), .val (.int ((p2 &&& (2147483647 : Int32)) % (4 : Int32))), .val (.ref b797), .val (.ref b807), .val (.ref b820), .val (.ref b836), .val (.ref b855), .unset] [(.ref b868)])) t
      refine XS.astore X902.here hx rfl (hb hby at_74) rfl rfl (l' := #[.val (.int p1), .val (.int p2), .val (.int p3), .val (.int (4 : Int32)), .val (.int ((p2 &&& (2147483647 : Int32)) % (4 : Int32))), .val (.ref b797), .val (.ref b807), .val (.ref b820), .val (.ref b836), .val (.ref b855), .val (.ref b868)]) rfl ?_
      exact k)
    obtain ⟨T964, L964, h964, f0, X964, e964, N964, f965, f966, f967, f968, f969, f970, f971, f972, f973, f974, f975, f976, f977, f978, hp979, hP964, pre964⟩ : ∃ (T' : State) (L' : List Loc) (h' : Heap) (f0 : Value), Stand p l e room_1 (s.setVm T888.vm) m #[(.int p1), (.int p2), (.int p3)] below meth c T' L' 9 27 ∧ T'.heap = h' ∧ Fr n0 L' ∧ n0 ≤ h'.size ∧ Keep h0 h' [] ∧ Exa Z h' b797 "com/example/libsld/libsld/Var" ∧ Exa Z h' b807 "com/example/libsld/libsld/Var" ∧ Exa Z h' b820 "com/example/libsld/libsld/Var" ∧ Exa Z h' b836 "com/example/libsld/libsld/Var" ∧ Exa Z h' b868 "com/example/libsld/libsld/Struct" ∧ k888 ≤ h'.size ∧ Fld Z h' b868 "com/example/libsld/libsld/Struct" "second" "Lcom/example/libsld/libsld/Term;" .null ∧ Fld Z h' b868 "com/example/libsld/libsld/Struct" "arity" "I" (.int (4 : Int32)) ∧ Fld Z h' b868 "com/example/libsld/libsld/Struct" "rest" "[Lcom/example/libsld/libsld/Term;" (.ref b903) ∧ Arv Z h' b903 x904 (.object "com/example/libsld/libsld/Term") (2 : Int32) [.null, .null] .null ∧ Arv Z h' b855 k855 (.object "com/example/libsld/libsld/Term") (4 : Int32) [f0, .null, .null, .null] .null ∧ Fld Z h' b868 "com/example/libsld/libsld/Struct" "first" "Lcom/example/libsld/libsld/Term;" f0 ∧ (f0.isRef = true) ∧ (True) ∧ ∀ t, Steps p.tables e below (T'.setTop (mkF m 96 #[.val (.int p1), .val (.int p2), .val (.int p3), .val (.int (4 : Int32)), .val (.int ((p2 &&& (2147483647 : Int32)) % (4 : Int32))), .val (.ref b797), .val (.ref b807), .val (.ref b820), .val (.ref b836), .val (.ref b855), .val (.ref b868)] [])) t → Steps p.tables e below (s₁.setTop (entryFrame m #[(.int p1), (.int p2), (.int p3)] maxLocals)) t := by
      have pre932 : ∀ t, Steps p.tables e below (T902.setTop (mkF m 79 #[.val (.int p1), .val (.int p2), .val (.int p3), .val (.int (4 : Int32)), .val (.int ((p2 &&& (2147483647 : Int32)) % (4 : Int32))), .val (.ref b797), .val (.ref b807), .val (.ref b820), .val (.ref b836), .val (.ref b855), .val (.ref b868)] [(.int (p3 &&& (1 : Int32)))])) t → Steps p.tables e below (s₁.setTop (entryFrame m #[(.int p1), (.int p2), (.int p3)] maxLocals)) t := fun t k => pre930 t (by
        show Steps p.tables e below (T902.setTop (mkF m 76 #[.val (.int p1), .val (.int p2), .val (.int p3), .val (.int (4 : Int32)), .val (.int ((p2 &&& (2147483647 : Int32)) % (4 : Int32))), .val (.ref b797), .val (.ref b807), .val (.ref b820), .val (.ref b836), .val (.ref b855), .val (.ref b868)] [])) t
        refine XS.iloadN X902.here hx rfl (hb hby at_76) rfl ?_
        show Steps p.tables e below (T902.setTop (mkF m 77 #[.val (.int p1), .val (.int p2), .val (.int p3), .val (.int (4 : Int32)), .val (.int ((p2 &&& (2147483647 : Int32)) % (4 : Int32))), .val (.ref b797), .val (.ref b807), .val (.ref b820), .val (.ref b836), .val (.ref b855), .val (.ref b868)] [(.int p3)])) t
        refine XS.iconst X902.here hx rfl (hb hby at_77) ?_
        show Steps p.tables e below (T902.setTop (mkF m 78 #[.val (.int p1), .val (.int p2), .val (.int p3), .val (.int (4 : Int32)), .val (.int ((p2 &&& (2147483647 : Int32)) % (4 : Int32))), .val (.ref b797), .val (.ref b807), .val (.ref b820), .val (.ref b836), .val (.ref b855), .val (.ref b868)] [(.int (1 : Int32)), (.int p3)])) t
        refine XS.iand X902.here hx rfl (hb hby at_78) rfl ?_
        exact k)
      by_cases hc931 : (p3 &&& (1 : Int32)) = (0 : Int32)
      · have pre933 : ∀ t, Steps p.tables e below (T902.setTop (mkF m 96 #[.val (.int p1), .val (.int p2), .val (.int p3), .val (.int (4 : Int32)), .val (.int ((p2 &&& (2147483647 : Int32)) % (4 : Int32))), .val (.ref b797), .val (.ref b807), .val (.ref b820), .val (.ref b836), .val (.ref b855), .val (.ref b868)] [])) t → Steps p.tables e below (s₁.setTop (entryFrame m #[(.int p1), (.int p2), (.int p3)] maxLocals)) t := fun t k => pre932 t (by
          show Steps p.tables e below (T902.setTop (mkF m 79 #[.val (.int p1), .val (.int p2), .val (.int p3), .val (.int (4 : Int32)), .val (.int ((p2 &&& (2147483647 : Int32)) % (4 : Int32))), .val (.ref b797), .val (.ref b807), .val (.ref b820), .val (.ref b836), .val (.ref b855), .val (.ref b868)] [(.int (p3 &&& (1 : Int32)))])) t
          refine XS.ifYes X902.here hx rfl (pc0 := 79) (pc' := 96) rfl (hb hby at_79) rfl ((if0 _ _).trans (teq hc931).1) (by decide) (by decide) ?_
          exact k)
        exact ⟨_, _, T902.heap, .null, X902, rfl, N902, f922, f923, f924, f925, f926, f927, f905, f929, f907, f908, f909, f912, f928, f906, (by rfl), (by trivial), pre933⟩
      · obtain ⟨cq934, kq934, q934a, q934b, q934c⟩ := isOf hZ888 rfl f905
        obtain ⟨_, _, ⟨T934, L934, k934, n934⟩, -, X934, ⟨Lc934, hQ934, l934, y934, z934⟩, st934⟩ := X902.virtualBack hx (y := (⟨"com/example/libsld/libsld/Struct", "setArg", "(ILcom/example/libsld/libsld/Term;)V"⟩ : MethodName)) (z := (⟨"com/example/libsld/libsld/Struct", "setArg", "(ILcom/example/libsld/libsld/Term;)V"⟩ : MethodName)) ho888 (mvT hZ888 (own_i hw 44 rfl)) (mvT hZ888 (own_i hw 45 rfl)) (notFace_of_selects (args := #[]) (mvT hZ888 (own_i hw 47 rfl))) (mvT hZ888 (own_i hw 47 rfl)) (mvT hZ888 (own_i hw 46 rfl)) (by decide) (backOf (W := 0) (rm5_0 l Z a0 hw [] b868 b797 .null .null (.ref b903) (4 : Int32) T902.heap n0 f922 f906 f907 f909 f908 f905 ga874) hZ888 (own_i hw 48 rfl) (own_i hw 18 rfl) (by decide) (by decide)) q934a q934c (g := (mkF m 87 #[.val (.int p1), .val (.int p2), .val (.int p3), .val (.int (4 : Int32)), .val (.int ((p2 &&& (2147483647 : Int32)) % (4 : Int32))), .val (.ref b797), .val (.ref b807), .val (.ref b820), .val (.ref b836), .val (.ref b855), .val (.ref b868)] [(.ref b797), (.int (0 : Int32)), (.ref b868)])) rfl (by rw [hml]; rfl) (Steps.refl _) (argsL := [(.int (0 : Int32)), (.ref b797)]) (rest := []) (lenOf pd_2 rfl) rfl (by show 2 * 0 + _ ≤ _; exact Nat.le_of_eq rfl) (hb hby at_87) (fun _ _ => ⟨rfl, rfl, (by decide : 9 + 0 ≤ _), (by decide : 27 + 0 ≤ _)⟩)
        dsimp only [Pt.U, Pt.locs, Pt.cells, Pt.slots] at X934 l934 y934 z934 st934 hQ934
        subst l934 y934 z934
        obtain ⟨rfl, N934q, K934, f935, f936, f937, f938, f939⟩ := hQ934
        have N934 := Fr.app N902 N934q
        have f940 := Nat.le_trans f922 K934.1
        have f941 := f923.trans K934 (allS (Or.inr sz875) all0)
        have f942 := f924.keep K934
        have f943 := f925.keep K934
        have f944 := f926.keep K934
        have f945 := f927.keep K934
        have f946 := f928.keep K934 (ninS ne873 nin0)
        have f947 := Nat.le_trans f929 K934.1
        have f948 := f912.keep K934 (ninS (Ne.symm ne920) nin0)
        obtain ⟨cl949, Ar949, q949, S949, N949z, H949, G949⟩ := (id f946)
        have hin949 : ¬ ((0 : Int32) < 0 ∨ cl949.slots.size ≤ ((0 : Int32)).toNatClampNeg) := inb_of S949 ⟨by decide, by decide⟩
        obtain ⟨T949, h949, X949, e949, W949, st949⟩ := stR X934 hx hZ888 rfl Ar949 (j := (0 : Int32)) hin949 rfl (Sto.ofV Ar949 q949 O855 (Ins.of_exa f942 (own_i hw 49 rfl))) (g := (mkF m 95 #[.val (.int p1), .val (.int p2), .val (.int p3), .val (.int (4 : Int32)), .val (.int ((p2 &&& (2147483647 : Int32)) % (4 : Int32))), .val (.ref b797), .val (.ref b807), .val (.ref b820), .val (.ref b836), .val (.ref b855), .val (.ref b868)] [(.ref b797), (.int (0 : Int32)), (.ref b855)])) rfl rfl (hb hby at_95)
        have V949 : Arv Z h949 b855 k855 (.object "com/example/libsld/libsld/Term") (4 : Int32) [(.ref b797), .null, .null, .null] .null := Arv.set Ar949 q949 S949 N949z H949 G949 rfl W949 0 rfl (Nat.le_of_ble_eq_true rfl)
        have N949 := Fr.snoc X949 N934 ga860
        have f950 := Nat.le_trans f940 (Keep.of_wr W949).1
        have f951 := f941.wr W949 (Or.inr sz861)
        have f952 := f942.wr W949
        have f953 := f943.wr W949
        have f954 := f944.wr W949
        have f955 := f945.wr W949
        have f956 := f935.wr W949
        have f957 := Nat.le_trans f947 (Keep.of_wr W949).1
        have f958 := f948.other W949 (Ne.symm ne919)
        have f959 := f936.other W949 (Or.inl (Ne.symm ne873))
        have f960 := f937.other W949 (Or.inl (Ne.symm ne873))
        have f961 := f938.other W949 (Or.inl (Ne.symm ne873))
        have f962 := f939.other W949 (Or.inl (Ne.symm ne873))
        have pre963 : ∀ t, Steps p.tables e below (T949.setTop (mkF m 96 #[.val (.int p1), .val (.int p2), .val (.int p3), .val (.int (4 : Int32)), .val (.int ((p2 &&& (2147483647 : Int32)) % (4 : Int32))), .val (.ref b797), .val (.ref b807), .val (.ref b820), .val (.ref b836), .val (.ref b855), .val (.ref b868)] [])) t → Steps p.tables e below (s₁.setTop (entryFrame m #[(.int p1), (.int p2), (.int p3)] maxLocals)) t := fun t k => pre932 t (by
          show Steps p.tables e below (T902.setTop (mkF m 79 #[.val (.int p1), .val (.int p2), .val (.int p3), .val (.int (4 : Int32)), .val (.int ((p2 &&& (2147483647 : Int32)) % (4 : Int32))), .val (.ref b797), .val (.ref b807), .val (.ref b820), .val (.ref b836), .val (.ref b855), .val (.ref b868)] [(.int (p3 &&& (1 : Int32)))])) t
          refine XS.ifNo X902.here hx rfl (hb hby at_79) rfl ((if0 _ _).trans (feq hc931).1) ?_
          show Steps p.tables e below (T902.setTop (mkF m 82 #[.val (.int p1), .val (.int p2), .val (.int p3), .val (.int (4 : Int32)), .val (.int ((p2 &&& (2147483647 : Int32)) % (4 : Int32))), .val (.ref b797), .val (.ref b807), .val (.ref b820), .val (.ref b836), .val (.ref b855), .val (.ref b868)] [])) t
          refine XS.aload X902.here hx rfl (hb hby at_82) rfl rfl ?_
          show Steps p.tables e below (T902.setTop (mkF m 84 #[.val (.int p1), .val (.int p2), .val (.int p3), .val (.int (4 : Int32)), .val (.int ((p2 &&& (2147483647 : Int32)) % (4 : Int32))), .val (.ref b797), .val (.ref b807), .val (.ref b820), .val (.ref b836), .val (.ref b855), .val (.ref b868)] [(.ref b868)])) t
          refine XS.iconst X902.here hx rfl (hb hby at_84) ?_
          show Steps p.tables e below (T902.setTop (mkF m 85 #[.val (.int p1), .val (.int p2), .val (.int p3), .val (.int (4 : Int32)), .val (.int ((p2 &&& (2147483647 : Int32)) % (4 : Int32))), .val (.ref b797), .val (.ref b807), .val (.ref b820), .val (.ref b836), .val (.ref b855), .val (.ref b868)] [(.int (0 : Int32)), (.ref b868)])) t
          refine XS.aload X902.here hx rfl (hb hby at_85) rfl rfl ?_
          show Steps p.tables e below (T902.setTop (mkF m 87 #[.val (.int p1), .val (.int p2), .val (.int p3), .val (.int (4 : Int32)), .val (.int ((p2 &&& (2147483647 : Int32)) % (4 : Int32))), .val (.ref b797), .val (.ref b807), .val (.ref b820), .val (.ref b836), .val (.ref b855), .val (.ref b868)] [(.ref b797), (.int (0 : Int32)), (.ref b868)])) t
          refine st934.trans ?_
          show Steps p.tables e below (T934.setTop (mkF m 90 #[.val (.int p1), .val (.int p2), .val (.int p3), .val (.int (4 : Int32)), .val (.int ((p2 &&& (2147483647 : Int32)) % (4 : Int32))), .val (.ref b797), .val (.ref b807), .val (.ref b820), .val (.ref b836), .val (.ref b855), .val (.ref b868)] [])) t
          refine XS.aload X934.here hx rfl (hb hby at_90) rfl rfl ?_
          show Steps p.tables e below (T934.setTop (mkF m 92 #[.val (.int p1), .val (.int p2), .val (.int p3), .val (.int (4 : Int32)), .val (.int ((p2 &&& (2147483647 : Int32)) % (4 : Int32))), .val (.ref b797), .val (.ref b807), .val (.ref b820), .val (.ref b836), .val (.ref b855), .val (.ref b868)] [(.ref b855)])) t
          refine XS.iconst X934.here hx rfl (hb hby at_92) ?_
          show Steps p.tables e below (T934.setTop (mkF m 93 #[.val (.int p1), .val (.int p2), .val (.int p3), .val (.int (4 : Int32)), .val (.int ((p2 &&& (2147483647 : Int32)) % (4 : Int32))), .val (.ref b797), .val (.ref b807), .val (.ref b820), .val (.ref b836), .val (.ref b855), .val (.ref b868)] [(.int (0 : Int32)), (.ref b855)])) t
          refine XS.aload X934.here hx rfl (hb hby at_93) rfl rfl ?_
          show Steps p.tables e below (T934.setTop (mkF m 95 #[.val (.int p1), .val (.int p2), .val (.int p3), .val (.int (4 : Int32)), .val (.int ((p2 &&& (2147483647 : Int32)) % (4 : Int32))), .val (.ref b797), .val (.ref b807), .val (.ref b820), .val (.ref b836), .val (.ref b855), .val (.ref b868)] [(.ref b797), (.int (0 : Int32)), (.ref b855)])) t
          refine st949 _ ?_
          exact k)
        exact ⟨_, _, h949, (.ref b797), X949, e949, N949, f950, f951, f952, f953, f954, f955, f956, f957, f960, f962, f961, f958, V949, f959, (by rfl), (by trivial), pre963⟩
    obtain ⟨T1013, L1013, h1013, f1, X1013, e1013, N1013, f1014, f1015, f1016, f1017, f1018, f1019, f1020, f1021, f1022, f1023, f1024, f1025, f1026, f1027, hp1028, hP1013, pre1013⟩ : ∃ (T' : State) (L' : List Loc) (h' : Heap) (f1 : Value), Stand p l e room_1 (s.setVm T888.vm) m #[(.int p1), (.int p2), (.int p3)] below meth c T' L' 9 27 ∧ T'.heap = h' ∧ Fr n0 L' ∧ n0 ≤ h'.size ∧ Keep h0 h' [] ∧ Exa Z h' b797 "com/example/libsld/libsld/Var" ∧ Exa Z h' b807 "com/example/libsld/libsld/Var" ∧ Exa Z h' b820 "com/example/libsld/libsld/Var" ∧ Exa Z h' b836 "com/example/libsld/libsld/Var" ∧ Exa Z h' b868 "com/example/libsld/libsld/Struct" ∧ k888 ≤ h'.size ∧ Fld Z h' b868 "com/example/libsld/libsld/Struct" "arity" "I" (.int (4 : Int32)) ∧ Fld Z h' b868 "com/example/libsld/libsld/Struct" "rest" "[Lcom/example/libsld/libsld/Term;" (.ref b903) ∧ Arv Z h' b903 x904 (.object "com/example/libsld/libsld/Term") (2 : Int32) [.null, .null] .null ∧ Fld Z h' b868 "com/example/libsld/libsld/Struct" "first" "Lcom/example/libsld/libsld/Term;" f0 ∧ Arv Z h' b855 k855 (.object "com/example/libsld/libsld/Term") (4 : Int32) [f0, f1, .null, .null] .null ∧ Fld Z h' b868 "com/example/libsld/libsld/Struct" "second" "Lcom/example/libsld/libsld/Term;" f1 ∧ (f1.isRef = true) ∧ (True) ∧ ∀ t, Steps p.tables e below (T'.setTop (mkF m 121 #[.val (.int p1), .val (.int p2), .val (.int p3), .val (.int (4 : Int32)), .val (.int ((p2 &&& (2147483647 : Int32)) % (4 : Int32))), .val (.ref b797), .val (.ref b807), .val (.ref b820), .val (.ref b836), .val (.ref b855), .val (.ref b868)] [])) t → Steps p.tables e below (s₁.setTop (entryFrame m #[(.int p1), (.int p2), (.int p3)] maxLocals)) t := by
      have pre981 : ∀ t, Steps p.tables e below (T964.setTop (mkF m 104 #[.val (.int p1), .val (.int p2), .val (.int p3), .val (.int (4 : Int32)), .val (.int ((p2 &&& (2147483647 : Int32)) % (4 : Int32))), .val (.ref b797), .val (.ref b807), .val (.ref b820), .val (.ref b836), .val (.ref b855), .val (.ref b868)] [(.int (p3 &&& (2 : Int32)))])) t → Steps p.tables e below (s₁.setTop (entryFrame m #[(.int p1), (.int p2), (.int p3)] maxLocals)) t := fun t k => pre964 t (by
        show Steps p.tables e below (T964.setTop (mkF m 96 #[.val (.int p1), .val (.int p2), .val (.int p3), .val (.int (4 : Int32)), .val (.int ((p2 &&& (2147483647 : Int32)) % (4 : Int32))), .val (.ref b797), .val (.ref b807), .val (.ref b820), .val (.ref b836), .val (.ref b855), .val (.ref b868)] [])) t
        refine XS.iloadN X964.here hx rfl (hb hby at_96) rfl ?_
        show Steps p.tables e below (T964.setTop (mkF m 97 #[.val (.int p1), .val (.int p2), .val (.int p3), .val (.int (4 : Int32)), .val (.int ((p2 &&& (2147483647 : Int32)) % (4 : Int32))), .val (.ref b797), .val (.ref b807), .val (.ref b820), .val (.ref b836), .val (.ref b855), .val (.ref b868)] [(.int (4 : Int32))])) t
        refine XS.iconst X964.here hx rfl (hb hby at_97) ?_
        show Steps p.tables e below (T964.setTop (mkF m 98 #[.val (.int p1), .val (.int p2), .val (.int p3), .val (.int (4 : Int32)), .val (.int ((p2 &&& (2147483647 : Int32)) % (4 : Int32))), .val (.ref b797), .val (.ref b807), .val (.ref b820), .val (.ref b836), .val (.ref b855), .val (.ref b868)] [(.int (1 : Int32)), (.int (4 : Int32))])) t
        refine XS.icmpNo X964.here hx rfl (hb hby at_98) rfl (tlt (by decide : (1 : Int32) < (4 : Int32))).2.2.2 ?_
        show Steps p.tables e below (T964.setTop (mkF m 101 #[.val (.int p1), .val (.int p2), .val (.int p3), .val (.int (4 : Int32)), .val (.int ((p2 &&& (2147483647 : Int32)) % (4 : Int32))), .val (.ref b797), .val (.ref b807), .val (.ref b820), .val (.ref b836), .val (.ref b855), .val (.ref b868)] [])) t
        refine XS.iloadN X964.here hx rfl (hb hby at_101) rfl ?_
        show Steps p.tables e below (T964.setTop (mkF m 102 #[.val (.int p1), .val (.int p2), .val (.int p3), .val (.int (4 : Int32)), .val (.int ((p2 &&& (2147483647 : Int32)) % (4 : Int32))), .val (.ref b797), .val (.ref b807), .val (.ref b820), .val (.ref b836), .val (.ref b855), .val (.ref b868)] [(.int p3)])) t
        refine XS.iconst X964.here hx rfl (hb hby at_102) ?_
        show Steps p.tables e below (T964.setTop (mkF m 103 #[.val (.int p1), .val (.int p2), .val (.int p3), .val (.int (4 : Int32)), .val (.int ((p2 &&& (2147483647 : Int32)) % (4 : Int32))), .val (.ref b797), .val (.ref b807), .val (.ref b820), .val (.ref b836), .val (.ref b855), .val (.ref b868)] [(.int (2 : Int32)), (.int p3)])) t
        refine XS.iand X964.here hx rfl (hb hby at_103) rfl ?_
        exact k)
      by_cases hc980 : (p3 &&& (2 : Int32)) = (0 : Int32)
      · have pre982 : ∀ t, Steps p.tables e below (T964.setTop (mkF m 121 #[.val (.int p1), .val (.int p2), .val (.int p3), .val (.int (4 : Int32)), .val (.int ((p2 &&& (2147483647 : Int32)) % (4 : Int32))), .val (.ref b797), .val (.ref b807), .val (.ref b820), .val (.ref b836), .val (.ref b855), .val (.ref b868)] [])) t → Steps p.tables e below (s₁.setTop (entryFrame m #[(.int p1), (.int p2), (.int p3)] maxLocals)) t := fun t k => pre981 t (by
          show Steps p.tables e below (T964.setTop (mkF m 104 #[.val (.int p1), .val (.int p2), .val (.int p3), .val (.int (4 : Int32)), .val (.int ((p2 &&& (2147483647 : Int32)) % (4 : Int32))), .val (.ref b797), .val (.ref b807), .val (.ref b820), .val (.ref b836), .val (.ref b855), .val (.ref b868)] [(.int (p3 &&& (2 : Int32)))])) t
          refine XS.ifYes X964.here hx rfl (pc0 := 104) (pc' := 121) rfl (hb hby at_104) rfl ((if0 _ _).trans (teq hc980).1) (by decide) (by decide) ?_
          exact k)
        exact ⟨_, _, h964, .null, X964, e964, N964, f965, f966, f967, f968, f969, f970, f971, f972, f974, f975, f976, f978, f977, f973, (by rfl), (by trivial), pre982⟩
      · obtain ⟨cq983, kq983, q983a, q983b, q983c⟩ := isOf hZ888 e964 f971
        obtain ⟨_, _, ⟨T983, L983, k983, n983⟩, -, X983, ⟨Lc983, hQ983, l983, y983, z983⟩, st983⟩ := X964.virtualBack hx (y := (⟨"com/example/libsld/libsld/Struct", "setArg", "(ILcom/example/libsld/libsld/Term;)V"⟩ : MethodName)) (z := (⟨"com/example/libsld/libsld/Struct", "setArg", "(ILcom/example/libsld/libsld/Term;)V"⟩ : MethodName)) ho888 (mvT hZ888 (own_i hw 44 rfl)) (mvT hZ888 (own_i hw 45 rfl)) (notFace_of_selects (args := #[]) (mvT hZ888 (own_i hw 47 rfl))) (mvT hZ888 (own_i hw 47 rfl)) (mvT hZ888 (own_i hw 46 rfl)) (by decide) (backOf (W := 0) (rm5_1 l Z a0 hw [] b868 b807 f0 .null (.ref b903) (4 : Int32) h964 n0 f965 f978 f973 f975 f974 (by first | assumption | rfl | decide | omega | simp_all) f971 ga874) hZ888 (own_i hw 48 rfl) (own_i hw 18 rfl) (by decide) (by decide)) q983a q983c (g := (mkF m 112 #[.val (.int p1), .val (.int p2), .val (.int p3), .val (.int (4 : Int32)), .val (.int ((p2 &&& (2147483647 : Int32)) % (4 : Int32))), .val (.ref b797), .val (.ref b807), .val (.ref b820), .val (.ref b836), .val (.ref b855), .val (.ref b868)] [(.ref b807), (.int (1 : Int32)), (.ref b868)])) rfl (by rw [hml]; rfl) (Steps.refl _) (argsL := [(.int (1 : Int32)), (.ref b807)]) (rest := []) (lenOf pd_2 rfl) rfl (by show 2 * 0 + _ ≤ _; exact Nat.le_of_eq rfl) (hb hby at_112) (fun _ _ => ⟨rfl, e964, (by decide : 9 + 0 ≤ _), (by decide : 27 + 0 ≤ _)⟩)
        dsimp only [Pt.U, Pt.locs, Pt.cells, Pt.slots] at X983 l983 y983 z983 st983 hQ983
        subst l983 y983 z983
        obtain ⟨rfl, N983q, K983, f984, f985, f986, f987, f988⟩ := hQ983
        have N983 := Fr.app N964 N983q
        have f989 := Nat.le_trans f965 K983.1
        have f990 := f966.trans K983 (allS (Or.inr sz875) all0)
        have f991 := f967.keep K983
        have f992 := f968.keep K983
        have f993 := f969.keep K983
        have f994 := f970.keep K983
        have f995 := Nat.le_trans f972 K983.1
        have f996 := f976.keep K983 (ninS (Ne.symm ne920) nin0)
        have f997 := f977.keep K983 (ninS ne873 nin0)
        obtain ⟨cl998, Ar998, q998, S998, N998z, H998, G998⟩ := (id f997)
        have hin998 : ¬ ((1 : Int32) < 0 ∨ cl998.slots.size ≤ ((1 : Int32)).toNatClampNeg) := inb_of S998 ⟨by decide, by decide⟩
        obtain ⟨T998, h998, X998, e998, W998, st998⟩ := stR X983 hx hZ888 rfl Ar998 (j := (1 : Int32)) hin998 rfl (Sto.ofV Ar998 q998 O855 (Ins.of_exa f992 (own_i hw 49 rfl))) (g := (mkF m 120 #[.val (.int p1), .val (.int p2), .val (.int p3), .val (.int (4 : Int32)), .val (.int ((p2 &&& (2147483647 : Int32)) % (4 : Int32))), .val (.ref b797), .val (.ref b807), .val (.ref b820), .val (.ref b836), .val (.ref b855), .val (.ref b868)] [(.ref b807), (.int (1 : Int32)), (.ref b855)])) rfl rfl (hb hby at_120)
        have V998 : Arv Z h998 b855 k855 (.object "com/example/libsld/libsld/Term") (4 : Int32) [f0, (.ref b807), .null, .null] .null := Arv.set Ar998 q998 S998 N998z H998 G998 rfl W998 1 rfl (Nat.le_of_ble_eq_true rfl)
        have N998 := Fr.snoc X998 N983 ga860
        have f999 := Nat.le_trans f989 (Keep.of_wr W998).1
        have f1000 := f990.wr W998 (Or.inr sz861)
        have f1001 := f991.wr W998
        have f1002 := f992.wr W998
        have f1003 := f993.wr W998
        have f1004 := f994.wr W998
        have f1005 := f984.wr W998
        have f1006 := Nat.le_trans f995 (Keep.of_wr W998).1
        have f1007 := f996.other W998 (Ne.symm ne919)
        have f1008 := f985.other W998 (Or.inl (Ne.symm ne873))
        have f1009 := f986.other W998 (Or.inl (Ne.symm ne873))
        have f1010 := f987.other W998 (Or.inl (Ne.symm ne873))
        have f1011 := f988.other W998 (Or.inl (Ne.symm ne873))
        have pre1012 : ∀ t, Steps p.tables e below (T998.setTop (mkF m 121 #[.val (.int p1), .val (.int p2), .val (.int p3), .val (.int (4 : Int32)), .val (.int ((p2 &&& (2147483647 : Int32)) % (4 : Int32))), .val (.ref b797), .val (.ref b807), .val (.ref b820), .val (.ref b836), .val (.ref b855), .val (.ref b868)] [])) t → Steps p.tables e below (s₁.setTop (entryFrame m #[(.int p1), (.int p2), (.int p3)] maxLocals)) t := fun t k => pre981 t (by
          show Steps p.tables e below (T964.setTop (mkF m 104 #[.val (.int p1), .val (.int p2), .val (.int p3), .val (.int (4 : Int32)), .val (.int ((p2 &&& (2147483647 : Int32)) % (4 : Int32))), .val (.ref b797), .val (.ref b807), .val (.ref b820), .val (.ref b836), .val (.ref b855), .val (.ref b868)] [(.int (p3 &&& (2 : Int32)))])) t
          refine XS.ifNo X964.here hx rfl (hb hby at_104) rfl ((if0 _ _).trans (feq hc980).1) ?_
          show Steps p.tables e below (T964.setTop (mkF m 107 #[.val (.int p1), .val (.int p2), .val (.int p3), .val (.int (4 : Int32)), .val (.int ((p2 &&& (2147483647 : Int32)) % (4 : Int32))), .val (.ref b797), .val (.ref b807), .val (.ref b820), .val (.ref b836), .val (.ref b855), .val (.ref b868)] [])) t
          refine XS.aload X964.here hx rfl (hb hby at_107) rfl rfl ?_
          show Steps p.tables e below (T964.setTop (mkF m 109 #[.val (.int p1), .val (.int p2), .val (.int p3), .val (.int (4 : Int32)), .val (.int ((p2 &&& (2147483647 : Int32)) % (4 : Int32))), .val (.ref b797), .val (.ref b807), .val (.ref b820), .val (.ref b836), .val (.ref b855), .val (.ref b868)] [(.ref b868)])) t
          refine XS.iconst X964.here hx rfl (hb hby at_109) ?_
          show Steps p.tables e below (T964.setTop (mkF m 110 #[.val (.int p1), .val (.int p2), .val (.int p3), .val (.int (4 : Int32)), .val (.int ((p2 &&& (2147483647 : Int32)) % (4 : Int32))), .val (.ref b797), .val (.ref b807), .val (.ref b820), .val (.ref b836), .val (.ref b855), .val (.ref b868)] [(.int (1 : Int32)), (.ref b868)])) t
          refine XS.aload X964.here hx rfl (hb hby at_110) rfl rfl ?_
          show Steps p.tables e below (T964.setTop (mkF m 112 #[.val (.int p1), .val (.int p2), .val (.int p3), .val (.int (4 : Int32)), .val (.int ((p2 &&& (2147483647 : Int32)) % (4 : Int32))), .val (.ref b797), .val (.ref b807), .val (.ref b820), .val (.ref b836), .val (.ref b855), .val (.ref b868)] [(.ref b807), (.int (1 : Int32)), (.ref b868)])) t
          refine st983.trans ?_
          show Steps p.tables e below (T983.setTop (mkF m 115 #[.val (.int p1), .val (.int p2), .val (.int p3), .val (.int (4 : Int32)), .val (.int ((p2 &&& (2147483647 : Int32)) % (4 : Int32))), .val (.ref b797), .val (.ref b807), .val (.ref b820), .val (.ref b836), .val (.ref b855), .val (.ref b868)] [])) t
          refine XS.aload X983.here hx rfl (hb hby at_115) rfl rfl ?_
          show Steps p.tables e below (T983.setTop (mkF m 117 #[.val (.int p1), .val (.int p2), .val (.int p3), .val (.int (4 : Int32)), .val (.int ((p2 &&& (2147483647 : Int32)) % (4 : Int32))), .val (.ref b797), .val (.ref b807), .val (.ref b820), .val (.ref b836), .val (.ref b855), .val (.ref b868)] [(.ref b855)])) t
          refine XS.iconst X983.here hx rfl (hb hby at_117) ?_
          show Steps p.tables e below (T983.setTop (mkF m 118 #[.val (.int p1), .val (.int p2), .val (.int p3), .val (.int (4 : Int32)), .val (.int ((p2 &&& (2147483647 : Int32)) % (4 : Int32))), .val (.ref b797), .val (.ref b807), .val (.ref b820), .val (.ref b836), .val (.ref b855), .val (.ref b868)] [(.int (1 : Int32)), (.ref b855)])) t
          refine XS.aload X983.here hx rfl (hb hby at_118) rfl rfl ?_
          show Steps p.tables e below (T983.setTop (mkF m 120 #[.val (.int p1), .val (.int p2), .val (.int p3), .val (.int (4 : Int32)), .val (.int ((p2 &&& (2147483647 : Int32)) % (4 : Int32))), .val (.ref b797), .val (.ref b807), .val (.ref b820), .val (.ref b836), .val (.ref b855), .val (.ref b868)] [(.ref b807), (.int (1 : Int32)), (.ref b855)])) t
          refine st998 _ ?_
          exact k)
        exact ⟨_, _, h998, (.ref b807), X998, e998, N998, f999, f1000, f1001, f1002, f1003, f1004, f1005, f1006, f1011, f1010, f1007, f1008, V998, f1009, (by rfl), (by trivial), pre1012⟩
    obtain ⟨T1062, L1062, h1062, g0, X1062, e1062, N1062, f1063, f1064, f1065, f1066, f1067, f1068, f1069, f1070, f1071, f1072, f1073, f1074, f1075, f1076, hp1077, hP1062, pre1062⟩ : ∃ (T' : State) (L' : List Loc) (h' : Heap) (g0 : Value), Stand p l e room_1 (s.setVm T888.vm) m #[(.int p1), (.int p2), (.int p3)] below meth c T' L' 9 27 ∧ T'.heap = h' ∧ Fr n0 L' ∧ n0 ≤ h'.size ∧ Keep h0 h' [] ∧ Exa Z h' b797 "com/example/libsld/libsld/Var" ∧ Exa Z h' b807 "com/example/libsld/libsld/Var" ∧ Exa Z h' b820 "com/example/libsld/libsld/Var" ∧ Exa Z h' b836 "com/example/libsld/libsld/Var" ∧ Exa Z h' b868 "com/example/libsld/libsld/Struct" ∧ k888 ≤ h'.size ∧ Fld Z h' b868 "com/example/libsld/libsld/Struct" "arity" "I" (.int (4 : Int32)) ∧ Fld Z h' b868 "com/example/libsld/libsld/Struct" "rest" "[Lcom/example/libsld/libsld/Term;" (.ref b903) ∧ Fld Z h' b868 "com/example/libsld/libsld/Struct" "first" "Lcom/example/libsld/libsld/Term;" f0 ∧ Fld Z h' b868 "com/example/libsld/libsld/Struct" "second" "Lcom/example/libsld/libsld/Term;" f1 ∧ Arv Z h' b855 k855 (.object "com/example/libsld/libsld/Term") (4 : Int32) [f0, f1, g0, .null] .null ∧ Arv Z h' b903 x904 (.object "com/example/libsld/libsld/Term") (2 : Int32) [g0, .null] .null ∧ (g0.isRef = true) ∧ (True) ∧ ∀ t, Steps p.tables e below (T'.setTop (mkF m 146 #[.val (.int p1), .val (.int p2), .val (.int p3), .val (.int (4 : Int32)), .val (.int ((p2 &&& (2147483647 : Int32)) % (4 : Int32))), .val (.ref b797), .val (.ref b807), .val (.ref b820), .val (.ref b836), .val (.ref b855), .val (.ref b868)] [])) t → Steps p.tables e below (s₁.setTop (entryFrame m #[(.int p1), (.int p2), (.int p3)] maxLocals)) t := by
      have pre1030 : ∀ t, Steps p.tables e below (T1013.setTop (mkF m 129 #[.val (.int p1), .val (.int p2), .val (.int p3), .val (.int (4 : Int32)), .val (.int ((p2 &&& (2147483647 : Int32)) % (4 : Int32))), .val (.ref b797), .val (.ref b807), .val (.ref b820), .val (.ref b836), .val (.ref b855), .val (.ref b868)] [(.int (p3 &&& (4 : Int32)))])) t → Steps p.tables e below (s₁.setTop (entryFrame m #[(.int p1), (.int p2), (.int p3)] maxLocals)) t := fun t k => pre1013 t (by
        show Steps p.tables e below (T1013.setTop (mkF m 121 #[.val (.int p1), .val (.int p2), .val (.int p3), .val (.int (4 : Int32)), .val (.int ((p2 &&& (2147483647 : Int32)) % (4 : Int32))), .val (.ref b797), .val (.ref b807), .val (.ref b820), .val (.ref b836), .val (.ref b855), .val (.ref b868)] [])) t
        refine XS.iloadN X1013.here hx rfl (hb hby at_121) rfl ?_
        show Steps p.tables e below (T1013.setTop (mkF m 122 #[.val (.int p1), .val (.int p2), .val (.int p3), .val (.int (4 : Int32)), .val (.int ((p2 &&& (2147483647 : Int32)) % (4 : Int32))), .val (.ref b797), .val (.ref b807), .val (.ref b820), .val (.ref b836), .val (.ref b855), .val (.ref b868)] [(.int (4 : Int32))])) t
        refine XS.iconst X1013.here hx rfl (hb hby at_122) ?_
        show Steps p.tables e below (T1013.setTop (mkF m 123 #[.val (.int p1), .val (.int p2), .val (.int p3), .val (.int (4 : Int32)), .val (.int ((p2 &&& (2147483647 : Int32)) % (4 : Int32))), .val (.ref b797), .val (.ref b807), .val (.ref b820), .val (.ref b836), .val (.ref b855), .val (.ref b868)] [(.int (2 : Int32)), (.int (4 : Int32))])) t
        refine XS.icmpNo X1013.here hx rfl (hb hby at_123) rfl (tlt (by decide : (2 : Int32) < (4 : Int32))).2.2.2 ?_
        show Steps p.tables e below (T1013.setTop (mkF m 126 #[.val (.int p1), .val (.int p2), .val (.int p3), .val (.int (4 : Int32)), .val (.int ((p2 &&& (2147483647 : Int32)) % (4 : Int32))), .val (.ref b797), .val (.ref b807), .val (.ref b820), .val (.ref b836), .val (.ref b855), .val (.ref b868)] [])) t
        refine XS.iloadN X1013.here hx rfl (hb hby at_126) rfl ?_
        show Steps p.tables e below (T1013.setTop (mkF m 127 #[.val (.int p1), .val (.int p2), .val (.int p3), .val (.int (4 : Int32)), .val (.int ((p2 &&& (2147483647 : Int32)) % (4 : Int32))), .val (.ref b797), .val (.ref b807), .val (.ref b820), .val (.ref b836), .val (.ref b855), .val (.ref b868)] [(.int p3)])) t
        refine XS.iconst X1013.here hx rfl (hb hby at_127) ?_
        show Steps p.tables e below (T1013.setTop (mkF m 128 #[.val (.int p1), .val (.int p2), .val (.int p3), .val (.int (4 : Int32)), .val (.int ((p2 &&& (2147483647 : Int32)) % (4 : Int32))), .val (.ref b797), .val (.ref b807), .val (.ref b820), .val (.ref b836), .val (.ref b855), .val (.ref b868)] [(.int (4 : Int32)), (.int p3)])) t
        refine XS.iand X1013.here hx rfl (hb hby at_128) rfl ?_
        exact k)
      by_cases hc1029 : (p3 &&& (4 : Int32)) = (0 : Int32)
      · have pre1031 : ∀ t, Steps p.tables e below (T1013.setTop (mkF m 146 #[.val (.int p1), .val (.int p2), .val (.int p3), .val (.int (4 : Int32)), .val (.int ((p2 &&& (2147483647 : Int32)) % (4 : Int32))), .val (.ref b797), .val (.ref b807), .val (.ref b820), .val (.ref b836), .val (.ref b855), .val (.ref b868)] [])) t → Steps p.tables e below (s₁.setTop (entryFrame m #[(.int p1), (.int p2), (.int p3)] maxLocals)) t := fun t k => pre1030 t (by
          show Steps p.tables e below (T1013.setTop (mkF m 129 #[.val (.int p1), .val (.int p2), .val (.int p3), .val (.int (4 : Int32)), .val (.int ((p2 &&& (2147483647 : Int32)) % (4 : Int32))), .val (.ref b797), .val (.ref b807), .val (.ref b820), .val (.ref b836), .val (.ref b855), .val (.ref b868)] [(.int (p3 &&& (4 : Int32)))])) t
          refine XS.ifYes X1013.here hx rfl (pc0 := 129) (pc' := 146) rfl (hb hby at_129) rfl ((if0 _ _).trans (teq hc1029).1) (by decide) (by decide) ?_
          exact k)
        exact ⟨_, _, h1013, .null, X1013, e1013, N1013, f1014, f1015, f1016, f1017, f1018, f1019, f1020, f1021, f1022, f1023, f1025, f1027, f1026, f1024, (by rfl), (by trivial), pre1031⟩
      · obtain ⟨cq1032, kq1032, q1032a, q1032b, q1032c⟩ := isOf hZ888 e1013 f1020
        obtain ⟨_, _, ⟨T1032, L1032, k1032, n1032⟩, -, X1032, ⟨Lc1032, hQ1032, l1032, y1032, z1032⟩, st1032⟩ := X1013.virtualBack hx (y := (⟨"com/example/libsld/libsld/Struct", "setArg", "(ILcom/example/libsld/libsld/Term;)V"⟩ : MethodName)) (z := (⟨"com/example/libsld/libsld/Struct", "setArg", "(ILcom/example/libsld/libsld/Term;)V"⟩ : MethodName)) ho888 (mvT hZ888 (own_i hw 44 rfl)) (mvT hZ888 (own_i hw 45 rfl)) (notFace_of_selects (args := #[]) (mvT hZ888 (own_i hw 47 rfl))) (mvT hZ888 (own_i hw 47 rfl)) (mvT hZ888 (own_i hw 46 rfl)) (by decide) (backOf (W := 0) (rm5_2_4 l Z a0 hw [] b868 b820 b903 x904 .null .null h1013 n0 f1014 f1023 f1024 f913 f1018 f910) hZ888 (own_i hw 48 rfl) (own_i hw 18 rfl) (by decide) (by decide)) q1032a q1032c (g := (mkF m 137 #[.val (.int p1), .val (.int p2), .val (.int p3), .val (.int (4 : Int32)), .val (.int ((p2 &&& (2147483647 : Int32)) % (4 : Int32))), .val (.ref b797), .val (.ref b807), .val (.ref b820), .val (.ref b836), .val (.ref b855), .val (.ref b868)] [(.ref b820), (.int (2 : Int32)), (.ref b868)])) rfl (by rw [hml]; rfl) (Steps.refl _) (argsL := [(.int (2 : Int32)), (.ref b820)]) (rest := []) (lenOf pd_2 rfl) rfl (by show 2 * 0 + _ ≤ _; exact Nat.le_of_eq rfl) (hb hby at_137) (fun _ _ => ⟨rfl, e1013, (by decide : 9 + 0 ≤ _), (by decide : 27 + 0 ≤ _)⟩)
        dsimp only [Pt.U, Pt.locs, Pt.cells, Pt.slots] at X1032 l1032 y1032 z1032 st1032 hQ1032
        subst l1032 y1032 z1032
        obtain ⟨rfl, N1032q, K1032, f1033⟩ := hQ1032
        have N1032 := Fr.app N1013 N1032q
        have f1034 := Nat.le_trans f1014 K1032.1
        have f1035 := f1015.trans K1032 (allS (Or.inr sz921) all0)
        have f1036 := f1016.keep K1032
        have f1037 := f1017.keep K1032
        have f1038 := f1018.keep K1032
        have f1039 := f1019.keep K1032
        have f1040 := f1020.keep K1032
        have f1041 := Nat.le_trans f1021 K1032.1
        have f1042 := f1022.keep K1032 (ninS ne920 nin0)
        have f1043 := f1023.keep K1032 (ninS ne920 nin0)
        have f1044 := f1025.keep K1032 (ninS ne920 nin0)
        have f1045 := f1026.keep K1032 (ninS ne919 nin0)
        have f1046 := f1027.keep K1032 (ninS ne920 nin0)
        obtain ⟨cl1047, Ar1047, q1047, S1047, N1047z, H1047, G1047⟩ := (id f1045)
        have hin1047 : ¬ ((2 : Int32) < 0 ∨ cl1047.slots.size ≤ ((2 : Int32)).toNatClampNeg) := inb_of S1047 ⟨by decide, by decide⟩
        obtain ⟨T1047, h1047, X1047, e1047, W1047, st1047⟩ := stR X1032 hx hZ888 rfl Ar1047 (j := (2 : Int32)) hin1047 rfl (Sto.ofV Ar1047 q1047 O855 (Ins.of_exa f1038 (own_i hw 49 rfl))) (g := (mkF m 145 #[.val (.int p1), .val (.int p2), .val (.int p3), .val (.int (4 : Int32)), .val (.int ((p2 &&& (2147483647 : Int32)) % (4 : Int32))), .val (.ref b797), .val (.ref b807), .val (.ref b820), .val (.ref b836), .val (.ref b855), .val (.ref b868)] [(.ref b820), (.int (2 : Int32)), (.ref b855)])) rfl rfl (hb hby at_145)
        have V1047 : Arv Z h1047 b855 k855 (.object "com/example/libsld/libsld/Term") (4 : Int32) [f0, f1, (.ref b820), .null] .null := Arv.set Ar1047 q1047 S1047 N1047z H1047 G1047 rfl W1047 2 rfl (Nat.le_of_ble_eq_true rfl)
        have N1047 := Fr.snoc X1047 N1032 ga860
        have f1048 := Nat.le_trans f1034 (Keep.of_wr W1047).1
        have f1049 := f1035.wr W1047 (Or.inr sz861)
        have f1050 := f1036.wr W1047
        have f1051 := f1037.wr W1047
        have f1052 := f1038.wr W1047
        have f1053 := f1039.wr W1047
        have f1054 := f1040.wr W1047
        have f1055 := Nat.le_trans f1041 (Keep.of_wr W1047).1
        have f1056 := f1042.other W1047 (Or.inl (Ne.symm ne873))
        have f1057 := f1043.other W1047 (Or.inl (Ne.symm ne873))
        have f1058 := f1044.other W1047 (Or.inl (Ne.symm ne873))
        have f1059 := f1046.other W1047 (Or.inl (Ne.symm ne873))
        have f1060 := f1033.other W1047 (Ne.symm ne919)
        have pre1061 : ∀ t, Steps p.tables e below (T1047.setTop (mkF m 146 #[.val (.int p1), .val (.int p2), .val (.int p3), .val (.int (4 : Int32)), .val (.int ((p2 &&& (2147483647 : Int32)) % (4 : Int32))), .val (.ref b797), .val (.ref b807), .val (.ref b820), .val (.ref b836), .val (.ref b855), .val (.ref b868)] [])) t → Steps p.tables e below (s₁.setTop (entryFrame m #[(.int p1), (.int p2), (.int p3)] maxLocals)) t := fun t k => pre1030 t (by
          show Steps p.tables e below (T1013.setTop (mkF m 129 #[.val (.int p1), .val (.int p2), .val (.int p3), .val (.int (4 : Int32)), .val (.int ((p2 &&& (2147483647 : Int32)) % (4 : Int32))), .val (.ref b797), .val (.ref b807), .val (.ref b820), .val (.ref b836), .val (.ref b855), .val (.ref b868)] [(.int (p3 &&& (4 : Int32)))])) t
          refine XS.ifNo X1013.here hx rfl (hb hby at_129) rfl ((if0 _ _).trans (feq hc1029).1) ?_
          show Steps p.tables e below (T1013.setTop (mkF m 132 #[.val (.int p1), .val (.int p2), .val (.int p3), .val (.int (4 : Int32)), .val (.int ((p2 &&& (2147483647 : Int32)) % (4 : Int32))), .val (.ref b797), .val (.ref b807), .val (.ref b820), .val (.ref b836), .val (.ref b855), .val (.ref b868)] [])) t
          refine XS.aload X1013.here hx rfl (hb hby at_132) rfl rfl ?_
          show Steps p.tables e below (T1013.setTop (mkF m 134 #[.val (.int p1), .val (.int p2), .val (.int p3), .val (.int (4 : Int32)), .val (.int ((p2 &&& (2147483647 : Int32)) % (4 : Int32))), .val (.ref b797), .val (.ref b807), .val (.ref b820), .val (.ref b836), .val (.ref b855), .val (.ref b868)] [(.ref b868)])) t
          refine XS.iconst X1013.here hx rfl (hb hby at_134) ?_
          show Steps p.tables e below (T1013.setTop (mkF m 135 #[.val (.int p1), .val (.int p2), .val (.int p3), .val (.int (4 : Int32)), .val (.int ((p2 &&& (2147483647 : Int32)) % (4 : Int32))), .val (.ref b797), .val (.ref b807), .val (.ref b820), .val (.ref b836), .val (.ref b855), .val (.ref b868)] [(.int (2 : Int32)), (.ref b868)])) t
          refine XS.aload X1013.here hx rfl (hb hby at_135) rfl rfl ?_
          show Steps p.tables e below (T1013.setTop (mkF m 137 #[.val (.int p1), .val (.int p2), .val (.int p3), .val (.int (4 : Int32)), .val (.int ((p2 &&& (2147483647 : Int32)) % (4 : Int32))), .val (.ref b797), .val (.ref b807), .val (.ref b820), .val (.ref b836), .val (.ref b855), .val (.ref b868)] [(.ref b820), (.int (2 : Int32)), (.ref b868)])) t
          refine st1032.trans ?_
          show Steps p.tables e below (T1032.setTop (mkF m 140 #[.val (.int p1), .val (.int p2), .val (.int p3), .val (.int (4 : Int32)), .val (.int ((p2 &&& (2147483647 : Int32)) % (4 : Int32))), .val (.ref b797), .val (.ref b807), .val (.ref b820), .val (.ref b836), .val (.ref b855), .val (.ref b868)] [])) t
          refine XS.aload X1032.here hx rfl (hb hby at_140) rfl rfl ?_
          show Steps p.tables e below (T1032.setTop (mkF m 142 #[.val (.int p1), .val (.int p2), .val (.int p3), .val (.int (4 : Int32)), .val (.int ((p2 &&& (2147483647 : Int32)) % (4 : Int32))), .val (.ref b797), .val (.ref b807), .val (.ref b820), .val (.ref b836), .val (.ref b855), .val (.ref b868)] [(.ref b855)])) t
          refine XS.iconst X1032.here hx rfl (hb hby at_142) ?_
          show Steps p.tables e below (T1032.setTop (mkF m 143 #[.val (.int p1), .val (.int p2), .val (.int p3), .val (.int (4 : Int32)), .val (.int ((p2 &&& (2147483647 : Int32)) % (4 : Int32))), .val (.ref b797), .val (.ref b807), .val (.ref b820), .val (.ref b836), .val (.ref b855), .val (.ref b868)] [(.int (2 : Int32)), (.ref b855)])) t
          refine XS.aload X1032.here hx rfl (hb hby at_143) rfl rfl ?_
          show Steps p.tables e below (T1032.setTop (mkF m 145 #[.val (.int p1), .val (.int p2), .val (.int p3), .val (.int (4 : Int32)), .val (.int ((p2 &&& (2147483647 : Int32)) % (4 : Int32))), .val (.ref b797), .val (.ref b807), .val (.ref b820), .val (.ref b836), .val (.ref b855), .val (.ref b868)] [(.ref b820), (.int (2 : Int32)), (.ref b855)])) t
          refine st1047 _ ?_
          exact k)
        exact ⟨_, _, h1047, (.ref b820), X1047, e1047, N1047, f1048, f1049, f1050, f1051, f1052, f1053, f1054, f1055, f1056, f1057, f1058, f1059, V1047, f1060, (by rfl), (by trivial), pre1061⟩
    obtain ⟨T1111, L1111, h1111, g1, X1111, e1111, N1111, f1112, f1113, f1114, f1115, f1116, f1117, f1118, f1119, f1120, f1121, f1122, f1123, f1124, f1125, hp1126, hP1111, pre1111⟩ : ∃ (T' : State) (L' : List Loc) (h' : Heap) (g1 : Value), Stand p l e room_1 (s.setVm T888.vm) m #[(.int p1), (.int p2), (.int p3)] below meth c T' L' 9 27 ∧ T'.heap = h' ∧ Fr n0 L' ∧ n0 ≤ h'.size ∧ Keep h0 h' [] ∧ Exa Z h' b797 "com/example/libsld/libsld/Var" ∧ Exa Z h' b807 "com/example/libsld/libsld/Var" ∧ Exa Z h' b820 "com/example/libsld/libsld/Var" ∧ Exa Z h' b836 "com/example/libsld/libsld/Var" ∧ Exa Z h' b868 "com/example/libsld/libsld/Struct" ∧ k888 ≤ h'.size ∧ Fld Z h' b868 "com/example/libsld/libsld/Struct" "arity" "I" (.int (4 : Int32)) ∧ Fld Z h' b868 "com/example/libsld/libsld/Struct" "rest" "[Lcom/example/libsld/libsld/Term;" (.ref b903) ∧ Fld Z h' b868 "com/example/libsld/libsld/Struct" "first" "Lcom/example/libsld/libsld/Term;" f0 ∧ Fld Z h' b868 "com/example/libsld/libsld/Struct" "second" "Lcom/example/libsld/libsld/Term;" f1 ∧ Arv Z h' b855 k855 (.object "com/example/libsld/libsld/Term") (4 : Int32) [f0, f1, g0, g1] .null ∧ Arv Z h' b903 x904 (.object "com/example/libsld/libsld/Term") (2 : Int32) [g0, g1] .null ∧ (g1.isRef = true) ∧ (True) ∧ ∀ t, Steps p.tables e below (T'.setTop (mkF m 172 #[.val (.int p1), .val (.int p2), .val (.int p3), .val (.int (4 : Int32)), .val (.int ((p2 &&& (2147483647 : Int32)) % (4 : Int32))), .val (.ref b797), .val (.ref b807), .val (.ref b820), .val (.ref b836), .val (.ref b855), .val (.ref b868)] [])) t → Steps p.tables e below (s₁.setTop (entryFrame m #[(.int p1), (.int p2), (.int p3)] maxLocals)) t := by
      have pre1079 : ∀ t, Steps p.tables e below (T1062.setTop (mkF m 155 #[.val (.int p1), .val (.int p2), .val (.int p3), .val (.int (4 : Int32)), .val (.int ((p2 &&& (2147483647 : Int32)) % (4 : Int32))), .val (.ref b797), .val (.ref b807), .val (.ref b820), .val (.ref b836), .val (.ref b855), .val (.ref b868)] [(.int (p3 &&& (8 : Int32)))])) t → Steps p.tables e below (s₁.setTop (entryFrame m #[(.int p1), (.int p2), (.int p3)] maxLocals)) t := fun t k => pre1062 t (by
        show Steps p.tables e below (T1062.setTop (mkF m 146 #[.val (.int p1), .val (.int p2), .val (.int p3), .val (.int (4 : Int32)), .val (.int ((p2 &&& (2147483647 : Int32)) % (4 : Int32))), .val (.ref b797), .val (.ref b807), .val (.ref b820), .val (.ref b836), .val (.ref b855), .val (.ref b868)] [])) t
        refine XS.iloadN X1062.here hx rfl (hb hby at_146) rfl ?_
        show Steps p.tables e below (T1062.setTop (mkF m 147 #[.val (.int p1), .val (.int p2), .val (.int p3), .val (.int (4 : Int32)), .val (.int ((p2 &&& (2147483647 : Int32)) % (4 : Int32))), .val (.ref b797), .val (.ref b807), .val (.ref b820), .val (.ref b836), .val (.ref b855), .val (.ref b868)] [(.int (4 : Int32))])) t
        refine XS.iconst X1062.here hx rfl (hb hby at_147) ?_
        show Steps p.tables e below (T1062.setTop (mkF m 148 #[.val (.int p1), .val (.int p2), .val (.int p3), .val (.int (4 : Int32)), .val (.int ((p2 &&& (2147483647 : Int32)) % (4 : Int32))), .val (.ref b797), .val (.ref b807), .val (.ref b820), .val (.ref b836), .val (.ref b855), .val (.ref b868)] [(.int (3 : Int32)), (.int (4 : Int32))])) t
        refine XS.icmpNo X1062.here hx rfl (hb hby at_148) rfl (tlt (by decide : (3 : Int32) < (4 : Int32))).2.2.2 ?_
        show Steps p.tables e below (T1062.setTop (mkF m 151 #[.val (.int p1), .val (.int p2), .val (.int p3), .val (.int (4 : Int32)), .val (.int ((p2 &&& (2147483647 : Int32)) % (4 : Int32))), .val (.ref b797), .val (.ref b807), .val (.ref b820), .val (.ref b836), .val (.ref b855), .val (.ref b868)] [])) t
        refine XS.iloadN X1062.here hx rfl (hb hby at_151) rfl ?_
        show Steps p.tables e below (T1062.setTop (mkF m 152 #[.val (.int p1), .val (.int p2), .val (.int p3), .val (.int (4 : Int32)), .val (.int ((p2 &&& (2147483647 : Int32)) % (4 : Int32))), .val (.ref b797), .val (.ref b807), .val (.ref b820), .val (.ref b836), .val (.ref b855), .val (.ref b868)] [(.int p3)])) t
        refine XS.bipush X1062.here hx rfl (hb hby at_152) ?_
        show Steps p.tables e below (T1062.setTop (mkF m 154 #[.val (.int p1), .val (.int p2), .val (.int p3), .val (.int (4 : Int32)), .val (.int ((p2 &&& (2147483647 : Int32)) % (4 : Int32))), .val (.ref b797), .val (.ref b807), .val (.ref b820), .val (.ref b836), .val (.ref b855), .val (.ref b868)] [(.int (8 : Int32)), (.int p3)])) t
        refine XS.iand X1062.here hx rfl (hb hby at_154) rfl ?_
        exact k)
      by_cases hc1078 : (p3 &&& (8 : Int32)) = (0 : Int32)
      · have pre1080 : ∀ t, Steps p.tables e below (T1062.setTop (mkF m 172 #[.val (.int p1), .val (.int p2), .val (.int p3), .val (.int (4 : Int32)), .val (.int ((p2 &&& (2147483647 : Int32)) % (4 : Int32))), .val (.ref b797), .val (.ref b807), .val (.ref b820), .val (.ref b836), .val (.ref b855), .val (.ref b868)] [])) t → Steps p.tables e below (s₁.setTop (entryFrame m #[(.int p1), (.int p2), (.int p3)] maxLocals)) t := fun t k => pre1079 t (by
          show Steps p.tables e below (T1062.setTop (mkF m 155 #[.val (.int p1), .val (.int p2), .val (.int p3), .val (.int (4 : Int32)), .val (.int ((p2 &&& (2147483647 : Int32)) % (4 : Int32))), .val (.ref b797), .val (.ref b807), .val (.ref b820), .val (.ref b836), .val (.ref b855), .val (.ref b868)] [(.int (p3 &&& (8 : Int32)))])) t
          refine XS.ifYes X1062.here hx rfl (pc0 := 155) (pc' := 172) rfl (hb hby at_155) rfl ((if0 _ _).trans (teq hc1078).1) (by decide) (by decide) ?_
          exact k)
        exact ⟨_, _, h1062, .null, X1062, e1062, N1062, f1063, f1064, f1065, f1066, f1067, f1068, f1069, f1070, f1071, f1072, f1073, f1074, f1075, f1076, (by rfl), (by trivial), pre1080⟩
      · obtain ⟨cq1081, kq1081, q1081a, q1081b, q1081c⟩ := isOf hZ888 e1062 f1069
        obtain ⟨_, _, ⟨T1081, L1081, k1081, n1081⟩, -, X1081, ⟨Lc1081, hQ1081, l1081, y1081, z1081⟩, st1081⟩ := X1062.virtualBack hx (y := (⟨"com/example/libsld/libsld/Struct", "setArg", "(ILcom/example/libsld/libsld/Term;)V"⟩ : MethodName)) (z := (⟨"com/example/libsld/libsld/Struct", "setArg", "(ILcom/example/libsld/libsld/Term;)V"⟩ : MethodName)) ho888 (mvT hZ888 (own_i hw 44 rfl)) (mvT hZ888 (own_i hw 45 rfl)) (notFace_of_selects (args := #[]) (mvT hZ888 (own_i hw 47 rfl))) (mvT hZ888 (own_i hw 47 rfl)) (mvT hZ888 (own_i hw 46 rfl)) (by decide) (backOf (W := 0) (rm5_3_4 l Z a0 hw [] b868 b836 b903 x904 g0 .null h1062 n0 f1063 f1072 f1076 f913 f1068 f910) hZ888 (own_i hw 48 rfl) (own_i hw 18 rfl) (by decide) (by decide)) q1081a q1081c (g := (mkF m 163 #[.val (.int p1), .val (.int p2), .val (.int p3), .val (.int (4 : Int32)), .val (.int ((p2 &&& (2147483647 : Int32)) % (4 : Int32))), .val (.ref b797), .val (.ref b807), .val (.ref b820), .val (.ref b836), .val (.ref b855), .val (.ref b868)] [(.ref b836), (.int (3 : Int32)), (.ref b868)])) rfl (by rw [hml]; rfl) (Steps.refl _) (argsL := [(.int (3 : Int32)), (.ref b836)]) (rest := []) (lenOf pd_2 rfl) rfl (by show 2 * 0 + _ ≤ _; exact Nat.le_of_eq rfl) (hb hby at_163) (fun _ _ => ⟨rfl, e1062, (by decide : 9 + 0 ≤ _), (by decide : 27 + 0 ≤ _)⟩)
        dsimp only [Pt.U, Pt.locs, Pt.cells, Pt.slots] at X1081 l1081 y1081 z1081 st1081 hQ1081
        subst l1081 y1081 z1081
        obtain ⟨rfl, N1081q, K1081, f1082⟩ := hQ1081
        have N1081 := Fr.app N1062 N1081q
        have f1083 := Nat.le_trans f1063 K1081.1
        have f1084 := f1064.trans K1081 (allS (Or.inr sz921) all0)
        have f1085 := f1065.keep K1081
        have f1086 := f1066.keep K1081
        have f1087 := f1067.keep K1081
        have f1088 := f1068.keep K1081
        have f1089 := f1069.keep K1081
        have f1090 := Nat.le_trans f1070 K1081.1
        have f1091 := f1071.keep K1081 (ninS ne920 nin0)
        have f1092 := f1072.keep K1081 (ninS ne920 nin0)
        have f1093 := f1073.keep K1081 (ninS ne920 nin0)
        have f1094 := f1074.keep K1081 (ninS ne920 nin0)
        have f1095 := f1075.keep K1081 (ninS ne919 nin0)
        obtain ⟨cl1096, Ar1096, q1096, S1096, N1096z, H1096, G1096⟩ := (id f1095)
        have hin1096 : ¬ ((3 : Int32) < 0 ∨ cl1096.slots.size ≤ ((3 : Int32)).toNatClampNeg) := inb_of S1096 ⟨by decide, by decide⟩
        obtain ⟨T1096, h1096, X1096, e1096, W1096, st1096⟩ := stR X1081 hx hZ888 rfl Ar1096 (j := (3 : Int32)) hin1096 rfl (Sto.ofV Ar1096 q1096 O855 (Ins.of_exa f1088 (own_i hw 49 rfl))) (g := (mkF m 171 #[.val (.int p1), .val (.int p2), .val (.int p3), .val (.int (4 : Int32)), .val (.int ((p2 &&& (2147483647 : Int32)) % (4 : Int32))), .val (.ref b797), .val (.ref b807), .val (.ref b820), .val (.ref b836), .val (.ref b855), .val (.ref b868)] [(.ref b836), (.int (3 : Int32)), (.ref b855)])) rfl rfl (hb hby at_171)
        have V1096 : Arv Z h1096 b855 k855 (.object "com/example/libsld/libsld/Term") (4 : Int32) [f0, f1, g0, (.ref b836)] .null := Arv.set Ar1096 q1096 S1096 N1096z H1096 G1096 rfl W1096 3 rfl (Nat.le_of_ble_eq_true rfl)
        have N1096 := Fr.snoc X1096 N1081 ga860
        have f1097 := Nat.le_trans f1083 (Keep.of_wr W1096).1
        have f1098 := f1084.wr W1096 (Or.inr sz861)
        have f1099 := f1085.wr W1096
        have f1100 := f1086.wr W1096
        have f1101 := f1087.wr W1096
        have f1102 := f1088.wr W1096
        have f1103 := f1089.wr W1096
        have f1104 := Nat.le_trans f1090 (Keep.of_wr W1096).1
        have f1105 := f1091.other W1096 (Or.inl (Ne.symm ne873))
        have f1106 := f1092.other W1096 (Or.inl (Ne.symm ne873))
        have f1107 := f1093.other W1096 (Or.inl (Ne.symm ne873))
        have f1108 := f1094.other W1096 (Or.inl (Ne.symm ne873))
        have f1109 := f1082.other W1096 (Ne.symm ne919)
        have pre1110 : ∀ t, Steps p.tables e below (T1096.setTop (mkF m 172 #[.val (.int p1), .val (.int p2), .val (.int p3), .val (.int (4 : Int32)), .val (.int ((p2 &&& (2147483647 : Int32)) % (4 : Int32))), .val (.ref b797), .val (.ref b807), .val (.ref b820), .val (.ref b836), .val (.ref b855), .val (.ref b868)] [])) t → Steps p.tables e below (s₁.setTop (entryFrame m #[(.int p1), (.int p2), (.int p3)] maxLocals)) t := fun t k => pre1079 t (by
          show Steps p.tables e below (T1062.setTop (mkF m 155 #[.val (.int p1), .val (.int p2), .val (.int p3), .val (.int (4 : Int32)), .val (.int ((p2 &&& (2147483647 : Int32)) % (4 : Int32))), .val (.ref b797), .val (.ref b807), .val (.ref b820), .val (.ref b836), .val (.ref b855), .val (.ref b868)] [(.int (p3 &&& (8 : Int32)))])) t
          refine XS.ifNo X1062.here hx rfl (hb hby at_155) rfl ((if0 _ _).trans (feq hc1078).1) ?_
          show Steps p.tables e below (T1062.setTop (mkF m 158 #[.val (.int p1), .val (.int p2), .val (.int p3), .val (.int (4 : Int32)), .val (.int ((p2 &&& (2147483647 : Int32)) % (4 : Int32))), .val (.ref b797), .val (.ref b807), .val (.ref b820), .val (.ref b836), .val (.ref b855), .val (.ref b868)] [])) t
          refine XS.aload X1062.here hx rfl (hb hby at_158) rfl rfl ?_
          show Steps p.tables e below (T1062.setTop (mkF m 160 #[.val (.int p1), .val (.int p2), .val (.int p3), .val (.int (4 : Int32)), .val (.int ((p2 &&& (2147483647 : Int32)) % (4 : Int32))), .val (.ref b797), .val (.ref b807), .val (.ref b820), .val (.ref b836), .val (.ref b855), .val (.ref b868)] [(.ref b868)])) t
          refine XS.iconst X1062.here hx rfl (hb hby at_160) ?_
          show Steps p.tables e below (T1062.setTop (mkF m 161 #[.val (.int p1), .val (.int p2), .val (.int p3), .val (.int (4 : Int32)), .val (.int ((p2 &&& (2147483647 : Int32)) % (4 : Int32))), .val (.ref b797), .val (.ref b807), .val (.ref b820), .val (.ref b836), .val (.ref b855), .val (.ref b868)] [(.int (3 : Int32)), (.ref b868)])) t
          refine XS.aload X1062.here hx rfl (hb hby at_161) rfl rfl ?_
          show Steps p.tables e below (T1062.setTop (mkF m 163 #[.val (.int p1), .val (.int p2), .val (.int p3), .val (.int (4 : Int32)), .val (.int ((p2 &&& (2147483647 : Int32)) % (4 : Int32))), .val (.ref b797), .val (.ref b807), .val (.ref b820), .val (.ref b836), .val (.ref b855), .val (.ref b868)] [(.ref b836), (.int (3 : Int32)), (.ref b868)])) t
          refine st1081.trans ?_
          show Steps p.tables e below (T1081.setTop (mkF m 166 #[.val (.int p1), .val (.int p2), .val (.int p3), .val (.int (4 : Int32)), .val (.int ((p2 &&& (2147483647 : Int32)) % (4 : Int32))), .val (.ref b797), .val (.ref b807), .val (.ref b820), .val (.ref b836), .val (.ref b855), .val (.ref b868)] [])) t
          refine XS.aload X1081.here hx rfl (hb hby at_166) rfl rfl ?_
          show Steps p.tables e below (T1081.setTop (mkF m 168 #[.val (.int p1), .val (.int p2), .val (.int p3), .val (.int (4 : Int32)), .val (.int ((p2 &&& (2147483647 : Int32)) % (4 : Int32))), .val (.ref b797), .val (.ref b807), .val (.ref b820), .val (.ref b836), .val (.ref b855), .val (.ref b868)] [(.ref b855)])) t
          refine XS.iconst X1081.here hx rfl (hb hby at_168) ?_
          show Steps p.tables e below (T1081.setTop (mkF m 169 #[.val (.int p1), .val (.int p2), .val (.int p3), .val (.int (4 : Int32)), .val (.int ((p2 &&& (2147483647 : Int32)) % (4 : Int32))), .val (.ref b797), .val (.ref b807), .val (.ref b820), .val (.ref b836), .val (.ref b855), .val (.ref b868)] [(.int (3 : Int32)), (.ref b855)])) t
          refine XS.aload X1081.here hx rfl (hb hby at_169) rfl rfl ?_
          show Steps p.tables e below (T1081.setTop (mkF m 171 #[.val (.int p1), .val (.int p2), .val (.int p3), .val (.int (4 : Int32)), .val (.int ((p2 &&& (2147483647 : Int32)) % (4 : Int32))), .val (.ref b797), .val (.ref b807), .val (.ref b820), .val (.ref b836), .val (.ref b855), .val (.ref b868)] [(.ref b836), (.int (3 : Int32)), (.ref b855)])) t
          refine st1096 _ ?_
          exact k)
        exact ⟨_, _, h1096, (.ref b836), X1096, e1096, N1096, f1097, f1098, f1099, f1100, f1101, f1102, f1103, f1104, f1105, f1106, f1107, f1108, V1096, f1109, (by rfl), (by trivial), pre1110⟩
    rcases own_rem4 p2 with hs1127 | hs1127 | hs1127 | hs1127
    · have pre1128 : ∀ t, Steps p.tables e below (T1111.setTop (mkF m 172 #[.val (.int p1), .val (.int p2), .val (.int p3), .val (.int (4 : Int32)), .val (.int (0 : Int32)), .val (.ref b797), .val (.ref b807), .val (.ref b820), .val (.ref b836), .val (.ref b855), .val (.ref b868)] [])) t → Steps p.tables e below (s₁.setTop (entryFrame m #[(.int p1), (.int p2), (.int p3)] maxLocals)) t := fun t k => pre1111 t (by rw [show ((p2 &&& (2147483647 : Int32)) % (4 : Int32)) = (0 : Int32) from hs1127]; exact k)
      obtain ⟨cq1129, kq1129, q1129a, q1129b, q1129c⟩ := isOf hZ888 e1111 f1118
      obtain ⟨_, _, ⟨T1129, L1129, k1129, n1129⟩, -, X1129, ⟨Lc1129, hQ1129, l1129, y1129, z1129⟩, st1129⟩ := X1111.virtualBack hx (y := (⟨"com/example/libsld/libsld/Struct", "arg", "(I)Lcom/example/libsld/libsld/Term;"⟩ : MethodName)) (z := (⟨"com/example/libsld/libsld/Struct", "arg", "(I)Lcom/example/libsld/libsld/Term;"⟩ : MethodName)) ho888 (mvT hZ888 (own_i hw 37 rfl)) (mvT hZ888 (own_i hw 38 rfl)) (notFace_of_selects (args := #[]) (mvT hZ888 (own_i hw 40 rfl))) (mvT hZ888 (own_i hw 40 rfl)) (mvT hZ888 (own_i hw 39 rfl)) (by decide) (backOf (W := 0) (rm4_0 l Z a0 hw [] b868 f0 h1111 n0 f1112 f1122 hp979) hZ888 (own_i hw 41 rfl) (own_i hw 18 rfl) (by decide) (by decide)) q1129a q1129c (g := (mkF m 176 #[.val (.int p1), .val (.int p2), .val (.int p3), .val (.int (4 : Int32)), .val (.int (0 : Int32)), .val (.ref b797), .val (.ref b807), .val (.ref b820), .val (.ref b836), .val (.ref b855), .val (.ref b868)] [(.int (0 : Int32)), (.ref b868)])) rfl (by rw [hml]; rfl) (Steps.refl _) (argsL := [(.int (0 : Int32))]) (rest := []) (lenOf pd_3 rfl) rfl (by show 2 * 0 + _ ≤ _; exact Nat.le_of_eq rfl) (hb hby at_176) (fun _ _ => ⟨rfl, e1111, (by decide : 9 + 0 ≤ _), (by decide : 27 + 0 ≤ _)⟩)
      dsimp only [Pt.U, Pt.locs, Pt.cells, Pt.slots] at X1129 l1129 y1129 z1129 st1129 hQ1129
      subst l1129 y1129 z1129
      obtain ⟨rfl, N1129q, e1129⟩ := hQ1129
      have N1129 := Fr.app N1111 N1129q
      obtain ⟨cl1130, Ar1130, q1130, S1130, N1130z, H1130, G1130⟩ := (id f1124)
      have hin1130 : ¬ ((0 : Int32) < 0 ∨ cl1130.slots.size ≤ ((0 : Int32)).toNatClampNeg) := inb_of S1130 ⟨by decide, by decide⟩
      have hat1130 : cl1130.slots[((0 : Int32)).toNatClampNeg]? = some f0 := Has.at H1130 hin1130 rfl
      have pre1131 : ∀ t, Steps p.tables e below (T1129.setTop (mkF m 192 #[.val (.int p1), .val (.int p2), .val (.int p3), .val (.int (4 : Int32)), .val (.int (0 : Int32)), .val (.ref b797), .val (.ref b807), .val (.ref b820), .val (.ref b836), .val (.ref b855), .val (.ref b868)] [(.int (1 : Int32))])) t → Steps p.tables e below (s₁.setTop (entryFrame m #[(.int p1), (.int p2), (.int p3)] maxLocals)) t := fun t k => pre1128 t (by
        show Steps p.tables e below (T1111.setTop (mkF m 172 #[.val (.int p1), .val (.int p2), .val (.int p3), .val (.int (4 : Int32)), .val (.int (0 : Int32)), .val (.ref b797), .val (.ref b807), .val (.ref b820), .val (.ref b836), .val (.ref b855), .val (.ref b868)] [])) t
        refine XS.aload X1111.here hx rfl (hb hby at_172) rfl rfl ?_
        show Steps p.tables e below (T1111.setTop (mkF m 174 #[.val (.int p1), .val (.int p2), .val (.int p3), .val (.int (4 : Int32)), .val (.int (0 : Int32)), .val (.ref b797), .val (.ref b807), .val (.ref b820), .val (.ref b836), .val (.ref b855), .val (.ref b868)] [(.ref b868)])) t
        refine XS.iload X1111.here hx rfl (hb hby at_174) rfl ?_
        show Steps p.tables e below (T1111.setTop (mkF m 176 #[.val (.int p1), .val (.int p2), .val (.int p3), .val (.int (4 : Int32)), .val (.int (0 : Int32)), .val (.ref b797), .val (.ref b807), .val (.ref b820), .val (.ref b836), .val (.ref b855), .val (.ref b868)] [(.int (0 : Int32)), (.ref b868)])) t
        refine st1129.trans ?_
        show Steps p.tables e below (T1129.setTop (mkF m 179 #[.val (.int p1), .val (.int p2), .val (.int p3), .val (.int (4 : Int32)), .val (.int (0 : Int32)), .val (.ref b797), .val (.ref b807), .val (.ref b820), .val (.ref b836), .val (.ref b855), .val (.ref b868)] [f0])) t
        refine XS.aload X1129.here hx rfl (hb hby at_179) rfl rfl ?_
        show Steps p.tables e below (T1129.setTop (mkF m 181 #[.val (.int p1), .val (.int p2), .val (.int p3), .val (.int (4 : Int32)), .val (.int (0 : Int32)), .val (.ref b797), .val (.ref b807), .val (.ref b820), .val (.ref b836), .val (.ref b855), .val (.ref b868)] [(.ref b855), f0])) t
        refine XS.iload X1129.here hx rfl (hb hby at_181) rfl ?_
        show Steps p.tables e below (T1129.setTop (mkF m 183 #[.val (.int p1), .val (.int p2), .val (.int p3), .val (.int (4 : Int32)), .val (.int (0 : Int32)), .val (.ref b797), .val (.ref b807), .val (.ref b820), .val (.ref b836), .val (.ref b855), .val (.ref b868)] [(.int (0 : Int32)), (.ref b855), f0])) t
        refine X1129.aaload hx (j := (0 : Int32)) (v := f0) (by rw [e1129]; exact Ar1130.1) (State.isArrayOf_alike hZ888.alike Ar1130.2.1) rfl Ar1130.2.2 hin1130 hat1130 (g := (mkF m 183 #[.val (.int p1), .val (.int p2), .val (.int p3), .val (.int (4 : Int32)), .val (.int (0 : Int32)), .val (.ref b797), .val (.ref b807), .val (.ref b820), .val (.ref b836), .val (.ref b855), .val (.ref b868)] [(.int (0 : Int32)), (.ref b855), f0])) rfl rfl (hb hby at_183) _ ?_
        show Steps p.tables e below (T1129.setTop (mkF m 184 #[.val (.int p1), .val (.int p2), .val (.int p3), .val (.int (4 : Int32)), .val (.int (0 : Int32)), .val (.ref b797), .val (.ref b807), .val (.ref b820), .val (.ref b836), .val (.ref b855), .val (.ref b868)] [f0, f0])) t
        refine Jvm.RoadKit.acmp (g := (mkF m 184 #[.val (.int p1), .val (.int p2), .val (.int p3), .val (.int (4 : Int32)), .val (.int (0 : Int32)), .val (.ref b797), .val (.ref b807), .val (.ref b820), .val (.ref b836), .val (.ref b855), .val (.ref b868)] [f0, f0])) X1129 hx rfl hp979 hp979 (pc0 := 184) (pc' := 187) (same := true) rfl (hb hby at_184) rfl (decide_eq_true rfl) (by decide) (by decide) ?_
        show Steps p.tables e below (T1129.setTop (mkF m 187 #[.val (.int p1), .val (.int p2), .val (.int p3), .val (.int (4 : Int32)), .val (.int (0 : Int32)), .val (.ref b797), .val (.ref b807), .val (.ref b820), .val (.ref b836), .val (.ref b855), .val (.ref b868)] [])) t
        refine XS.iconst X1129.here hx rfl (hb hby at_187) ?_
        show Steps p.tables e below (T1129.setTop (mkF m 188 #[.val (.int p1), .val (.int p2), .val (.int p3), .val (.int (4 : Int32)), .val (.int (0 : Int32)), .val (.ref b797), .val (.ref b807), .val (.ref b820), .val (.ref b836), .val (.ref b855), .val (.ref b868)] [(.int (1 : Int32))])) t
        refine XS.goto X1129.here hx rfl (pc0 := 188) (pc' := 192) rfl (hb hby at_188) (by decide) (by decide) ?_
        exact k)
      obtain ⟨fs, hr, hrun, hended, hRW⟩ := X1129.leaveW hS888 (by rw [e1129]; exact f1119) (v := some (.int (1 : Int32))) (fun h => by rw [Bd.returns] at h; cases h)
      refine ⟨_, _, pre1131 _ ?_, hrun, hended, _, _, rfl, ?_, hRW.1, hRW.2.1, hRW.2.2.1, hRW.2.2.2.mono (by decide) (by decide)⟩
      · exact retN X1129 hx (t := .boolean) Bd.returns (by simp) (hb hby at_192) hr
      · show Q0 Z p1 p2 p3 h0 n0 _ T1129.heap _
        rw [e1129]
        exact ⟨rfl, N1129⟩
    · have pre1132 : ∀ t, Steps p.tables e below (T1111.setTop (mkF m 172 #[.val (.int p1), .val (.int p2), .val (.int p3), .val (.int (4 : Int32)), .val (.int (1 : Int32)), .val (.ref b797), .val (.ref b807), .val (.ref b820), .val (.ref b836), .val (.ref b855), .val (.ref b868)] [])) t → Steps p.tables e below (s₁.setTop (entryFrame m #[(.int p1), (.int p2), (.int p3)] maxLocals)) t := fun t k => pre1111 t (by rw [show ((p2 &&& (2147483647 : Int32)) % (4 : Int32)) = (1 : Int32) from hs1127]; exact k)
      obtain ⟨cq1133, kq1133, q1133a, q1133b, q1133c⟩ := isOf hZ888 e1111 f1118
      obtain ⟨_, _, ⟨T1133, L1133, k1133, n1133⟩, -, X1133, ⟨Lc1133, hQ1133, l1133, y1133, z1133⟩, st1133⟩ := X1111.virtualBack hx (y := (⟨"com/example/libsld/libsld/Struct", "arg", "(I)Lcom/example/libsld/libsld/Term;"⟩ : MethodName)) (z := (⟨"com/example/libsld/libsld/Struct", "arg", "(I)Lcom/example/libsld/libsld/Term;"⟩ : MethodName)) ho888 (mvT hZ888 (own_i hw 37 rfl)) (mvT hZ888 (own_i hw 38 rfl)) (notFace_of_selects (args := #[]) (mvT hZ888 (own_i hw 40 rfl))) (mvT hZ888 (own_i hw 40 rfl)) (mvT hZ888 (own_i hw 39 rfl)) (by decide) (backOf (W := 0) (rm4_1 l Z a0 hw [] b868 f1 (4 : Int32) h1111 n0 f1112 f1123 f1120 (by first | assumption | rfl | decide | omega | simp_all) hp1028) hZ888 (own_i hw 41 rfl) (own_i hw 18 rfl) (by decide) (by decide)) q1133a q1133c (g := (mkF m 176 #[.val (.int p1), .val (.int p2), .val (.int p3), .val (.int (4 : Int32)), .val (.int (1 : Int32)), .val (.ref b797), .val (.ref b807), .val (.ref b820), .val (.ref b836), .val (.ref b855), .val (.ref b868)] [(.int (1 : Int32)), (.ref b868)])) rfl (by rw [hml]; rfl) (Steps.refl _) (argsL := [(.int (1 : Int32))]) (rest := []) (lenOf pd_3 rfl) rfl (by show 2 * 0 + _ ≤ _; exact Nat.le_of_eq rfl) (hb hby at_176) (fun _ _ => ⟨rfl, e1111, (by decide : 9 + 0 ≤ _), (by decide : 27 + 0 ≤ _)⟩)
      dsimp only [Pt.U, Pt.locs, Pt.cells, Pt.slots] at X1133 l1133 y1133 z1133 st1133 hQ1133
      subst l1133 y1133 z1133
      obtain ⟨rfl, N1133q, e1133⟩ := hQ1133
      have N1133 := Fr.app N1111 N1133q
      obtain ⟨cl1134, Ar1134, q1134, S1134, N1134z, H1134, G1134⟩ := (id f1124)
      have hin1134 : ¬ ((1 : Int32) < 0 ∨ cl1134.slots.size ≤ ((1 : Int32)).toNatClampNeg) := inb_of S1134 ⟨by decide, by decide⟩
      have hat1134 : cl1134.slots[((1 : Int32)).toNatClampNeg]? = some f1 := Has.at H1134 hin1134 rfl
      have pre1135 : ∀ t, Steps p.tables e below (T1133.setTop (mkF m 192 #[.val (.int p1), .val (.int p2), .val (.int p3), .val (.int (4 : Int32)), .val (.int (1 : Int32)), .val (.ref b797), .val (.ref b807), .val (.ref b820), .val (.ref b836), .val (.ref b855), .val (.ref b868)] [(.int (1 : Int32))])) t → Steps p.tables e below (s₁.setTop (entryFrame m #[(.int p1), (.int p2), (.int p3)] maxLocals)) t := fun t k => pre1132 t (by
        show Steps p.tables e below (T1111.setTop (mkF m 172 #[.val (.int p1), .val (.int p2), .val (.int p3), .val (.int (4 : Int32)), .val (.int (1 : Int32)), .val (.ref b797), .val (.ref b807), .val (.ref b820), .val (.ref b836), .val (.ref b855), .val (.ref b868)] [])) t
        refine XS.aload X1111.here hx rfl (hb hby at_172) rfl rfl ?_
        show Steps p.tables e below (T1111.setTop (mkF m 174 #[.val (.int p1), .val (.int p2), .val (.int p3), .val (.int (4 : Int32)), .val (.int (1 : Int32)), .val (.ref b797), .val (.ref b807), .val (.ref b820), .val (.ref b836), .val (.ref b855), .val (.ref b868)] [(.ref b868)])) t
        refine XS.iload X1111.here hx rfl (hb hby at_174) rfl ?_
        show Steps p.tables e below (T1111.setTop (mkF m 176 #[.val (.int p1), .val (.int p2), .val (.int p3), .val (.int (4 : Int32)), .val (.int (1 : Int32)), .val (.ref b797), .val (.ref b807), .val (.ref b820), .val (.ref b836), .val (.ref b855), .val (.ref b868)] [(.int (1 : Int32)), (.ref b868)])) t
        refine st1133.trans ?_
        show Steps p.tables e below (T1133.setTop (mkF m 179 #[.val (.int p1), .val (.int p2), .val (.int p3), .val (.int (4 : Int32)), .val (.int (1 : Int32)), .val (.ref b797), .val (.ref b807), .val (.ref b820), .val (.ref b836), .val (.ref b855), .val (.ref b868)] [f1])) t
        refine XS.aload X1133.here hx rfl (hb hby at_179) rfl rfl ?_
        show Steps p.tables e below (T1133.setTop (mkF m 181 #[.val (.int p1), .val (.int p2), .val (.int p3), .val (.int (4 : Int32)), .val (.int (1 : Int32)), .val (.ref b797), .val (.ref b807), .val (.ref b820), .val (.ref b836), .val (.ref b855), .val (.ref b868)] [(.ref b855), f1])) t
        refine XS.iload X1133.here hx rfl (hb hby at_181) rfl ?_
        show Steps p.tables e below (T1133.setTop (mkF m 183 #[.val (.int p1), .val (.int p2), .val (.int p3), .val (.int (4 : Int32)), .val (.int (1 : Int32)), .val (.ref b797), .val (.ref b807), .val (.ref b820), .val (.ref b836), .val (.ref b855), .val (.ref b868)] [(.int (1 : Int32)), (.ref b855), f1])) t
        refine X1133.aaload hx (j := (1 : Int32)) (v := f1) (by rw [e1133]; exact Ar1134.1) (State.isArrayOf_alike hZ888.alike Ar1134.2.1) rfl Ar1134.2.2 hin1134 hat1134 (g := (mkF m 183 #[.val (.int p1), .val (.int p2), .val (.int p3), .val (.int (4 : Int32)), .val (.int (1 : Int32)), .val (.ref b797), .val (.ref b807), .val (.ref b820), .val (.ref b836), .val (.ref b855), .val (.ref b868)] [(.int (1 : Int32)), (.ref b855), f1])) rfl rfl (hb hby at_183) _ ?_
        show Steps p.tables e below (T1133.setTop (mkF m 184 #[.val (.int p1), .val (.int p2), .val (.int p3), .val (.int (4 : Int32)), .val (.int (1 : Int32)), .val (.ref b797), .val (.ref b807), .val (.ref b820), .val (.ref b836), .val (.ref b855), .val (.ref b868)] [f1, f1])) t
        refine Jvm.RoadKit.acmp (g := (mkF m 184 #[.val (.int p1), .val (.int p2), .val (.int p3), .val (.int (4 : Int32)), .val (.int (1 : Int32)), .val (.ref b797), .val (.ref b807), .val (.ref b820), .val (.ref b836), .val (.ref b855), .val (.ref b868)] [f1, f1])) X1133 hx rfl hp1028 hp1028 (pc0 := 184) (pc' := 187) (same := true) rfl (hb hby at_184) rfl (decide_eq_true rfl) (by decide) (by decide) ?_
        show Steps p.tables e below (T1133.setTop (mkF m 187 #[.val (.int p1), .val (.int p2), .val (.int p3), .val (.int (4 : Int32)), .val (.int (1 : Int32)), .val (.ref b797), .val (.ref b807), .val (.ref b820), .val (.ref b836), .val (.ref b855), .val (.ref b868)] [])) t
        refine XS.iconst X1133.here hx rfl (hb hby at_187) ?_
        show Steps p.tables e below (T1133.setTop (mkF m 188 #[.val (.int p1), .val (.int p2), .val (.int p3), .val (.int (4 : Int32)), .val (.int (1 : Int32)), .val (.ref b797), .val (.ref b807), .val (.ref b820), .val (.ref b836), .val (.ref b855), .val (.ref b868)] [(.int (1 : Int32))])) t
        refine XS.goto X1133.here hx rfl (pc0 := 188) (pc' := 192) rfl (hb hby at_188) (by decide) (by decide) ?_
        exact k)
      obtain ⟨fs, hr, hrun, hended, hRW⟩ := X1133.leaveW hS888 (by rw [e1133]; exact f1119) (v := some (.int (1 : Int32))) (fun h => by rw [Bd.returns] at h; cases h)
      refine ⟨_, _, pre1135 _ ?_, hrun, hended, _, _, rfl, ?_, hRW.1, hRW.2.1, hRW.2.2.1, hRW.2.2.2.mono (by decide) (by decide)⟩
      · exact retN X1133 hx (t := .boolean) Bd.returns (by simp) (hb hby at_192) hr
      · show Q0 Z p1 p2 p3 h0 n0 _ T1133.heap _
        rw [e1133]
        exact ⟨rfl, N1133⟩
    · have pre1136 : ∀ t, Steps p.tables e below (T1111.setTop (mkF m 172 #[.val (.int p1), .val (.int p2), .val (.int p3), .val (.int (4 : Int32)), .val (.int (2 : Int32)), .val (.ref b797), .val (.ref b807), .val (.ref b820), .val (.ref b836), .val (.ref b855), .val (.ref b868)] [])) t → Steps p.tables e below (s₁.setTop (entryFrame m #[(.int p1), (.int p2), (.int p3)] maxLocals)) t := fun t k => pre1111 t (by rw [show ((p2 &&& (2147483647 : Int32)) % (4 : Int32)) = (2 : Int32) from hs1127]; exact k)
      obtain ⟨cq1137, kq1137, q1137a, q1137b, q1137c⟩ := isOf hZ888 e1111 f1118
      obtain ⟨_, _, ⟨T1137, L1137, k1137, n1137⟩, -, X1137, ⟨Lc1137, hQ1137, l1137, y1137, z1137⟩, st1137⟩ := X1111.virtualBack hx (y := (⟨"com/example/libsld/libsld/Struct", "arg", "(I)Lcom/example/libsld/libsld/Term;"⟩ : MethodName)) (z := (⟨"com/example/libsld/libsld/Struct", "arg", "(I)Lcom/example/libsld/libsld/Term;"⟩ : MethodName)) ho888 (mvT hZ888 (own_i hw 37 rfl)) (mvT hZ888 (own_i hw 38 rfl)) (notFace_of_selects (args := #[]) (mvT hZ888 (own_i hw 40 rfl))) (mvT hZ888 (own_i hw 40 rfl)) (mvT hZ888 (own_i hw 39 rfl)) (by decide) (backOf (W := 0) (rm4_2_4 l Z a0 hw [] b868 b903 x904 g0 g1 h1111 n0 f1112 f1121 f1125 hp1077) hZ888 (own_i hw 41 rfl) (own_i hw 18 rfl) (by decide) (by decide)) q1137a q1137c (g := (mkF m 176 #[.val (.int p1), .val (.int p2), .val (.int p3), .val (.int (4 : Int32)), .val (.int (2 : Int32)), .val (.ref b797), .val (.ref b807), .val (.ref b820), .val (.ref b836), .val (.ref b855), .val (.ref b868)] [(.int (2 : Int32)), (.ref b868)])) rfl (by rw [hml]; rfl) (Steps.refl _) (argsL := [(.int (2 : Int32))]) (rest := []) (lenOf pd_3 rfl) rfl (by show 2 * 0 + _ ≤ _; exact Nat.le_of_eq rfl) (hb hby at_176) (fun _ _ => ⟨rfl, e1111, (by decide : 9 + 0 ≤ _), (by decide : 27 + 0 ≤ _)⟩)
      dsimp only [Pt.U, Pt.locs, Pt.cells, Pt.slots] at X1137 l1137 y1137 z1137 st1137 hQ1137
      subst l1137 y1137 z1137
      obtain ⟨rfl, N1137q, e1137⟩ := hQ1137
      have N1137 := Fr.app N1111 N1137q
      obtain ⟨cl1138, Ar1138, q1138, S1138, N1138z, H1138, G1138⟩ := (id f1124)
      have hin1138 : ¬ ((2 : Int32) < 0 ∨ cl1138.slots.size ≤ ((2 : Int32)).toNatClampNeg) := inb_of S1138 ⟨by decide, by decide⟩
      have hat1138 : cl1138.slots[((2 : Int32)).toNatClampNeg]? = some g0 := Has.at H1138 hin1138 rfl
      have pre1139 : ∀ t, Steps p.tables e below (T1137.setTop (mkF m 192 #[.val (.int p1), .val (.int p2), .val (.int p3), .val (.int (4 : Int32)), .val (.int (2 : Int32)), .val (.ref b797), .val (.ref b807), .val (.ref b820), .val (.ref b836), .val (.ref b855), .val (.ref b868)] [(.int (1 : Int32))])) t → Steps p.tables e below (s₁.setTop (entryFrame m #[(.int p1), (.int p2), (.int p3)] maxLocals)) t := fun t k => pre1136 t (by
        show Steps p.tables e below (T1111.setTop (mkF m 172 #[.val (.int p1), .val (.int p2), .val (.int p3), .val (.int (4 : Int32)), .val (.int (2 : Int32)), .val (.ref b797), .val (.ref b807), .val (.ref b820), .val (.ref b836), .val (.ref b855), .val (.ref b868)] [])) t
        refine XS.aload X1111.here hx rfl (hb hby at_172) rfl rfl ?_
        show Steps p.tables e below (T1111.setTop (mkF m 174 #[.val (.int p1), .val (.int p2), .val (.int p3), .val (.int (4 : Int32)), .val (.int (2 : Int32)), .val (.ref b797), .val (.ref b807), .val (.ref b820), .val (.ref b836), .val (.ref b855), .val (.ref b868)] [(.ref b868)])) t
        refine XS.iload X1111.here hx rfl (hb hby at_174) rfl ?_
        show Steps p.tables e below (T1111.setTop (mkF m 176 #[.val (.int p1), .val (.int p2), .val (.int p3), .val (.int (4 : Int32)), .val (.int (2 : Int32)), .val (.ref b797), .val (.ref b807), .val (.ref b820), .val (.ref b836), .val (.ref b855), .val (.ref b868)] [(.int (2 : Int32)), (.ref b868)])) t
        refine st1137.trans ?_
        show Steps p.tables e below (T1137.setTop (mkF m 179 #[.val (.int p1), .val (.int p2), .val (.int p3), .val (.int (4 : Int32)), .val (.int (2 : Int32)), .val (.ref b797), .val (.ref b807), .val (.ref b820), .val (.ref b836), .val (.ref b855), .val (.ref b868)] [g0])) t
        refine XS.aload X1137.here hx rfl (hb hby at_179) rfl rfl ?_
        show Steps p.tables e below (T1137.setTop (mkF m 181 #[.val (.int p1), .val (.int p2), .val (.int p3), .val (.int (4 : Int32)), .val (.int (2 : Int32)), .val (.ref b797), .val (.ref b807), .val (.ref b820), .val (.ref b836), .val (.ref b855), .val (.ref b868)] [(.ref b855), g0])) t
        refine XS.iload X1137.here hx rfl (hb hby at_181) rfl ?_
        show Steps p.tables e below (T1137.setTop (mkF m 183 #[.val (.int p1), .val (.int p2), .val (.int p3), .val (.int (4 : Int32)), .val (.int (2 : Int32)), .val (.ref b797), .val (.ref b807), .val (.ref b820), .val (.ref b836), .val (.ref b855), .val (.ref b868)] [(.int (2 : Int32)), (.ref b855), g0])) t
        refine X1137.aaload hx (j := (2 : Int32)) (v := g0) (by rw [e1137]; exact Ar1138.1) (State.isArrayOf_alike hZ888.alike Ar1138.2.1) rfl Ar1138.2.2 hin1138 hat1138 (g := (mkF m 183 #[.val (.int p1), .val (.int p2), .val (.int p3), .val (.int (4 : Int32)), .val (.int (2 : Int32)), .val (.ref b797), .val (.ref b807), .val (.ref b820), .val (.ref b836), .val (.ref b855), .val (.ref b868)] [(.int (2 : Int32)), (.ref b855), g0])) rfl rfl (hb hby at_183) _ ?_
        show Steps p.tables e below (T1137.setTop (mkF m 184 #[.val (.int p1), .val (.int p2), .val (.int p3), .val (.int (4 : Int32)), .val (.int (2 : Int32)), .val (.ref b797), .val (.ref b807), .val (.ref b820), .val (.ref b836), .val (.ref b855), .val (.ref b868)] [g0, g0])) t
        refine Jvm.RoadKit.acmp (g := (mkF m 184 #[.val (.int p1), .val (.int p2), .val (.int p3), .val (.int (4 : Int32)), .val (.int (2 : Int32)), .val (.ref b797), .val (.ref b807), .val (.ref b820), .val (.ref b836), .val (.ref b855), .val (.ref b868)] [g0, g0])) X1137 hx rfl hp1077 hp1077 (pc0 := 184) (pc' := 187) (same := true) rfl (hb hby at_184) rfl (decide_eq_true rfl) (by decide) (by decide) ?_
        show Steps p.tables e below (T1137.setTop (mkF m 187 #[.val (.int p1), .val (.int p2), .val (.int p3), .val (.int (4 : Int32)), .val (.int (2 : Int32)), .val (.ref b797), .val (.ref b807), .val (.ref b820), .val (.ref b836), .val (.ref b855), .val (.ref b868)] [])) t
        refine XS.iconst X1137.here hx rfl (hb hby at_187) ?_
        show Steps p.tables e below (T1137.setTop (mkF m 188 #[.val (.int p1), .val (.int p2), .val (.int p3), .val (.int (4 : Int32)), .val (.int (2 : Int32)), .val (.ref b797), .val (.ref b807), .val (.ref b820), .val (.ref b836), .val (.ref b855), .val (.ref b868)] [(.int (1 : Int32))])) t
        refine XS.goto X1137.here hx rfl (pc0 := 188) (pc' := 192) rfl (hb hby at_188) (by decide) (by decide) ?_
        exact k)
      obtain ⟨fs, hr, hrun, hended, hRW⟩ := X1137.leaveW hS888 (by rw [e1137]; exact f1119) (v := some (.int (1 : Int32))) (fun h => by rw [Bd.returns] at h; cases h)
      refine ⟨_, _, pre1139 _ ?_, hrun, hended, _, _, rfl, ?_, hRW.1, hRW.2.1, hRW.2.2.1, hRW.2.2.2.mono (by decide) (by decide)⟩
      · exact retN X1137 hx (t := .boolean) Bd.returns (by simp) (hb hby at_192) hr
      · show Q0 Z p1 p2 p3 h0 n0 _ T1137.heap _
        rw [e1137]
        exact ⟨rfl, N1137⟩
    · have pre1140 : ∀ t, Steps p.tables e below (T1111.setTop (mkF m 172 #[.val (.int p1), .val (.int p2), .val (.int p3), .val (.int (4 : Int32)), .val (.int (3 : Int32)), .val (.ref b797), .val (.ref b807), .val (.ref b820), .val (.ref b836), .val (.ref b855), .val (.ref b868)] [])) t → Steps p.tables e below (s₁.setTop (entryFrame m #[(.int p1), (.int p2), (.int p3)] maxLocals)) t := fun t k => pre1111 t (by rw [show ((p2 &&& (2147483647 : Int32)) % (4 : Int32)) = (3 : Int32) from hs1127]; exact k)
      obtain ⟨cq1141, kq1141, q1141a, q1141b, q1141c⟩ := isOf hZ888 e1111 f1118
      obtain ⟨_, _, ⟨T1141, L1141, k1141, n1141⟩, -, X1141, ⟨Lc1141, hQ1141, l1141, y1141, z1141⟩, st1141⟩ := X1111.virtualBack hx (y := (⟨"com/example/libsld/libsld/Struct", "arg", "(I)Lcom/example/libsld/libsld/Term;"⟩ : MethodName)) (z := (⟨"com/example/libsld/libsld/Struct", "arg", "(I)Lcom/example/libsld/libsld/Term;"⟩ : MethodName)) ho888 (mvT hZ888 (own_i hw 37 rfl)) (mvT hZ888 (own_i hw 38 rfl)) (notFace_of_selects (args := #[]) (mvT hZ888 (own_i hw 40 rfl))) (mvT hZ888 (own_i hw 40 rfl)) (mvT hZ888 (own_i hw 39 rfl)) (by decide) (backOf (W := 0) (rm4_3_4 l Z a0 hw [] b868 b903 x904 g0 g1 h1111 n0 f1112 f1121 f1125 hp1126) hZ888 (own_i hw 41 rfl) (own_i hw 18 rfl) (by decide) (by decide)) q1141a q1141c (g := (mkF m 176 #[.val (.int p1), .val (.int p2), .val (.int p3), .val (.int (4 : Int32)), .val (.int (3 : Int32)), .val (.ref b797), .val (.ref b807), .val (.ref b820), .val (.ref b836), .val (.ref b855), .val (.ref b868)] [(.int (3 : Int32)), (.ref b868)])) rfl (by rw [hml]; rfl) (Steps.refl _) (argsL := [(.int (3 : Int32))]) (rest := []) (lenOf pd_3 rfl) rfl (by show 2 * 0 + _ ≤ _; exact Nat.le_of_eq rfl) (hb hby at_176) (fun _ _ => ⟨rfl, e1111, (by decide : 9 + 0 ≤ _), (by decide : 27 + 0 ≤ _)⟩)
      dsimp only [Pt.U, Pt.locs, Pt.cells, Pt.slots] at X1141 l1141 y1141 z1141 st1141 hQ1141
      subst l1141 y1141 z1141
      obtain ⟨rfl, N1141q, e1141⟩ := hQ1141
      have N1141 := Fr.app N1111 N1141q
      obtain ⟨cl1142, Ar1142, q1142, S1142, N1142z, H1142, G1142⟩ := (id f1124)
      have hin1142 : ¬ ((3 : Int32) < 0 ∨ cl1142.slots.size ≤ ((3 : Int32)).toNatClampNeg) := inb_of S1142 ⟨by decide, by decide⟩
      have hat1142 : cl1142.slots[((3 : Int32)).toNatClampNeg]? = some g1 := Has.at H1142 hin1142 rfl
      have pre1143 : ∀ t, Steps p.tables e below (T1141.setTop (mkF m 192 #[.val (.int p1), .val (.int p2), .val (.int p3), .val (.int (4 : Int32)), .val (.int (3 : Int32)), .val (.ref b797), .val (.ref b807), .val (.ref b820), .val (.ref b836), .val (.ref b855), .val (.ref b868)] [(.int (1 : Int32))])) t → Steps p.tables e below (s₁.setTop (entryFrame m #[(.int p1), (.int p2), (.int p3)] maxLocals)) t := fun t k => pre1140 t (by
        show Steps p.tables e below (T1111.setTop (mkF m 172 #[.val (.int p1), .val (.int p2), .val (.int p3), .val (.int (4 : Int32)), .val (.int (3 : Int32)), .val (.ref b797), .val (.ref b807), .val (.ref b820), .val (.ref b836), .val (.ref b855), .val (.ref b868)] [])) t
        refine XS.aload X1111.here hx rfl (hb hby at_172) rfl rfl ?_
        show Steps p.tables e below (T1111.setTop (mkF m 174 #[.val (.int p1), .val (.int p2), .val (.int p3), .val (.int (4 : Int32)), .val (.int (3 : Int32)), .val (.ref b797), .val (.ref b807), .val (.ref b820), .val (.ref b836), .val (.ref b855), .val (.ref b868)] [(.ref b868)])) t
        refine XS.iload X1111.here hx rfl (hb hby at_174) rfl ?_
        show Steps p.tables e below (T1111.setTop (mkF m 176 #[.val (.int p1), .val (.int p2), .val (.int p3), .val (.int (4 : Int32)), .val (.int (3 : Int32)), .val (.ref b797), .val (.ref b807), .val (.ref b820), .val (.ref b836), .val (.ref b855), .val (.ref b868)] [(.int (3 : Int32)), (.ref b868)])) t
        refine st1141.trans ?_
        show Steps p.tables e below (T1141.setTop (mkF m 179 #[.val (.int p1), .val (.int p2), .val (.int p3), .val (.int (4 : Int32)), .val (.int (3 : Int32)), .val (.ref b797), .val (.ref b807), .val (.ref b820), .val (.ref b836), .val (.ref b855), .val (.ref b868)] [g1])) t
        refine XS.aload X1141.here hx rfl (hb hby at_179) rfl rfl ?_
        show Steps p.tables e below (T1141.setTop (mkF m 181 #[.val (.int p1), .val (.int p2), .val (.int p3), .val (.int (4 : Int32)), .val (.int (3 : Int32)), .val (.ref b797), .val (.ref b807), .val (.ref b820), .val (.ref b836), .val (.ref b855), .val (.ref b868)] [(.ref b855), g1])) t
        refine XS.iload X1141.here hx rfl (hb hby at_181) rfl ?_
        show Steps p.tables e below (T1141.setTop (mkF m 183 #[.val (.int p1), .val (.int p2), .val (.int p3), .val (.int (4 : Int32)), .val (.int (3 : Int32)), .val (.ref b797), .val (.ref b807), .val (.ref b820), .val (.ref b836), .val (.ref b855), .val (.ref b868)] [(.int (3 : Int32)), (.ref b855), g1])) t
        refine X1141.aaload hx (j := (3 : Int32)) (v := g1) (by rw [e1141]; exact Ar1142.1) (State.isArrayOf_alike hZ888.alike Ar1142.2.1) rfl Ar1142.2.2 hin1142 hat1142 (g := (mkF m 183 #[.val (.int p1), .val (.int p2), .val (.int p3), .val (.int (4 : Int32)), .val (.int (3 : Int32)), .val (.ref b797), .val (.ref b807), .val (.ref b820), .val (.ref b836), .val (.ref b855), .val (.ref b868)] [(.int (3 : Int32)), (.ref b855), g1])) rfl rfl (hb hby at_183) _ ?_
        show Steps p.tables e below (T1141.setTop (mkF m 184 #[.val (.int p1), .val (.int p2), .val (.int p3), .val (.int (4 : Int32)), .val (.int (3 : Int32)), .val (.ref b797), .val (.ref b807), .val (.ref b820), .val (.ref b836), .val (.ref b855), .val (.ref b868)] [g1, g1])) t
        refine Jvm.RoadKit.acmp (g := (mkF m 184 #[.val (.int p1), .val (.int p2), .val (.int p3), .val (.int (4 : Int32)), .val (.int (3 : Int32)), .val (.ref b797), .val (.ref b807), .val (.ref b820), .val (.ref b836), .val (.ref b855), .val (.ref b868)] [g1, g1])) X1141 hx rfl hp1126 hp1126 (pc0 := 184) (pc' := 187) (same := true) rfl (hb hby at_184) rfl (decide_eq_true rfl) (by decide) (by decide) ?_
        show Steps p.tables e below (T1141.setTop (mkF m 187 #[.val (.int p1), .val (.int p2), .val (.int p3), .val (.int (4 : Int32)), .val (.int (3 : Int32)), .val (.ref b797), .val (.ref b807), .val (.ref b820), .val (.ref b836), .val (.ref b855), .val (.ref b868)] [])) t
        refine XS.iconst X1141.here hx rfl (hb hby at_187) ?_
        show Steps p.tables e below (T1141.setTop (mkF m 188 #[.val (.int p1), .val (.int p2), .val (.int p3), .val (.int (4 : Int32)), .val (.int (3 : Int32)), .val (.ref b797), .val (.ref b807), .val (.ref b820), .val (.ref b836), .val (.ref b855), .val (.ref b868)] [(.int (1 : Int32))])) t
        refine XS.goto X1141.here hx rfl (pc0 := 188) (pc' := 192) rfl (hb hby at_188) (by decide) (by decide) ?_
        exact k)
      obtain ⟨fs, hr, hrun, hended, hRW⟩ := X1141.leaveW hS888 (by rw [e1141]; exact f1119) (v := some (.int (1 : Int32))) (fun h => by rw [Bd.returns] at h; cases h)
      refine ⟨_, _, pre1143 _ ?_, hrun, hended, _, _, rfl, ?_, hRW.1, hRW.2.1, hRW.2.2.1, hRW.2.2.2.mono (by decide) (by decide)⟩
      · exact retN X1141 hx (t := .boolean) Bd.returns (by simp) (hb hby at_192) hr
      · show Q0 Z p1 p2 p3 h0 n0 _ T1141.heap _
        rw [e1141]
        exact ⟨rfl, N1141⟩
set_option maxRecDepth 65536 in
set_option maxHeartbeats 40000000 in
theorem comes_1 {Post : Tables → Env → Array Value → State → Outcome → State → Prop} (hpost : ∀ tb e args s v u, (limb_1_1.after args s (.returned v) u = true ∧ limb_1_2.after args s (.returned v) u = true ∧ True) → ReturnedEndW s (.returned v) u (Jvm.fieldLocs frame_1_writes args s ++ Jvm.arrayLocs frame_1_arrays args s ++ Jvm.staticLocs frame_1_statics s) 24 1152 → Post tb e args s (.returned v) u) :
    ArmFor flags0 classFile x code maxLocals ret World_1 tables_1 room_1 Calls_1 rest_1 Pre_1 Post := by
  intro l hfl _ _ p e ha hc hk s m args below hf hA hF happ hP
  obtain ⟨hcalls, hrest, hpre⟩ := hP
  obtain ⟨-, -, -, hnamed, -, -, -, hat⟩ := (Spec.applies_iff hf).mp happ
  obtain ⟨hg, hn⟩ := and_e (Cond.before_iff.mp (show (Jvm.Cond.and given_1 narrow_1).before args s = true from hpre))
  obtain ⟨hga, hgb⟩ := and_e hg
  obtain ⟨hgba, hgbb⟩ := and_e hgb
  obtain ⟨hgbba, hgbbb⟩ := and_e hgbb
  obtain ⟨w0, w1, w2, rfl⟩ : ∃ w0 w1 w2 : Value, args = #[w0, w1, w2] := by
    have hs : args.size = 3 := by simpa [Cond.value, given_1] using hga
    obtain ⟨L⟩ := args
    match L, hs with
    | [w0, w1, w2], _ => exact ⟨w0, w1, w2, rfl⟩
  have hw := fun d (hd : d ∈ tables_1) => atoms_spec (ws := Jvm.Cond.code x code maxLocals ret :: tables_1) hat d (List.mem_cons_of_mem _ hd)
  have hfit : Fit s := fun {y c} hc i hi => by
    obtain ⟨ha, rfl⟩ := Array.getElem?_eq_some_iff.mp hc
    have q := List.all_eq_true.mp ((Array.all_eq_true_iff_forall_mem.mp hF) _ (Array.getElem_mem ha)) i (List.mem_range.mpr hi)
    simpa [Array.getElem?_eq_getElem hi] using q
  obtain ⟨i0, ev0⟩ := is_v hgba
  obtain rfl : w0 = (.int i0) := Option.some.inj ev0
  obtain ⟨i1, ev1⟩ := is_v hgbba
  obtain rfl : w1 = (.int i1) := Option.some.inj ev1
  obtain ⟨i2, ev2⟩ := is_v hgbbb
  obtain rfl : w2 = (.int i2) := Option.some.inj ev2
  obtain ⟨n, o, h1, h2, h3, _, L, rfl, ⟨rfl, N⟩, hq⟩ := rm0 l s _ hw tables_1 i0 i1 i2 s.heap s.heap.size (Nat.le_refl _)  p e ha hc hk s m _ below hf ((Spec.applies_iff_loose hf).mp happ).1 ⟨rfl, State.Warmed39.refl s, rfl⟩ trivial
  refine ⟨n, _, h1, h2, h3, hpost _ _ _ _ _ _ ⟨Cond.after_iff.mpr rfl, Cond.after_iff.mpr (eq_i res_at (Term.int_eval (1)) rfl), trivial⟩ ⟨hq.1, hq.2.1, hq.2.2.1, (hq.2.2.2.sift fun y hy => Or.inr (N y hy)).mono (by decide) (by decide)⟩⟩
theorem main_1_1 : Claimed_1_1 := comes_1 fun _ _ _ _ _ _ h hF => ⟨h.1, hF⟩
theorem main_1_2 : Claimed_1_2 := comes_1 fun _ _ _ _ _ _ h hF => ⟨h.2.1, hF⟩
end Jvm.Pilot.@@N@@
namespace Jvm.Pilot.@@N@@
open Jvm Jvm.ClassFile Sem Op Lib Jvm.Free Jvm.Stand Jvm.Pilot.@@N@@.Jvm.D
/-! MADE BY PROGRAM (witnessworld.py) out of the Statement's table words and the real class files: 17 classes; the members and pool entries that the words name. The judged class is class 1, her method 1. -/
namespace start1
open Jvm.ClassFile
def u (s : String) : CpInfo := .utf8 (stringToUtf16 s)
/-- a pool by its gaps: so many unusable entries, then the entry; so many at the end -/
def gap : Nat → List CpInfo → List CpInfo
  | 0, r => r
  | n + 1, r => .unusable :: gap n r
def poolList (es : List (Nat × CpInfo)) (last : Nat) : List CpInfo := es.foldr (fun e r => gap e.1 (e.2 :: r)) (gap last [])
def pool (es : List (Nat × CpInfo)) (last : Nat) : Array CpInfo := ⟨poolList es last⟩
def fileOf (pool : Array CpInfo) (this : Nat) (attrs : Array Attribute := #[]) (ms : Array MethodInfo := #[]) (fl : Nat := 33) (sup : Nat := 0) (ifs : Array Nat := #[]) (fds : Array FieldInfo := #[]) : ClassFile where
  minorVersion := 0
  majorVersion := 65
  constantPool := pool
  accessFlags := fl
  thisClass := this
  superClass := sup
  interfaces := ifs
  fields := fds
  methods := ms
  attributes := attrs
def plain (name : String) (sup : Option ClassId) : Class where
  name := name
  kind := .ordinary
  loader := none
  accessFlags := 33
  super := sup
  interfaces := #[]
  cf := none
  fields := #[]
  methods := #[]
  instanceTypes := #[]
  staticTypes := #[]
  resolved := #[]
  callSites := []
  init := .initialized
  statics := none
  mirror := none

def pool0 : Array CpInfo := pool [(5, u "<init>"), (0, u "()V"), (1, .class_ 10), (1, u "java/lang/Object")] 113

def k0c0 : Code := { maxStack := 0, maxLocals := 1, code := object_method_1_code, exceptionTable := #[], attributes := #[] }
def k0m0 : Method := { name := "<init>", desc := "()V", sig := { parameters := [], returnType := none }, accessFlags := 1, code := some k0c0 }
/-- java/lang/Object -/
def k0 : Class := { plain "java/lang/Object" none with
  accessFlags := 33
  interfaces := #[]
  cf := some (fileOf pool0 8 #[] #[{ accessFlags := 1, nameIndex := 5, descriptorIndex := 6, attributes := #[] }] 33 0 #[] #[])
  fields := #[]
  methods := #[k0m0]
  instanceTypes := #[]
  staticTypes := #[]
  resolved := Array.replicate 124 none
  statics := none }

def pool1 : Array CpInfo := pool [(2, .class_ 4), (1, u "java/lang/Object"), (0, u "<init>"), (0, u "()V"), (0, .integer 2147483647), (0, .class_ 9), (0, u "com/example/libsld/libsld/Var"), (0, .methodref 8 11), (0, .nameAndType 5 12), (0, u "(J)V"), (0, .long 2), (1, .long 3), (1, .class_ 18), (0, u "com/example/libsld/libsld/Term"), (0, .class_ 20), (0, u "com/example/libsld/libsld/Struct"), (0, .string 22), (0, u "f"), (0, .methodref 19 24), (0, .nameAndType 5 25), (0, u "(Ljava/lang/String;I)V"), (0, .methodref 19 27), (0, .nameAndType 28 29), (0, u "setArg"), (0, u "(ILcom/example/libsld/libsld/Term;)V"), (0, .methodref 19 31), (0, .nameAndType 32 33), (0, u "arg"), (0, u "(I)Lcom/example/libsld/libsld/Term;"), (0, .class_ 35), (0, u "com/example/libsld/libsld/StructArgPinLaw"), (2, u "law"), (0, u "(III)Z")] 5

def k1m0 : Method := { name := "<init>", desc := "()V", sig := { parameters := [], returnType := none }, accessFlags := 1, code := none }
def k1c1 : Code := { maxStack := 4, maxLocals := 11, code := code, exceptionTable := #[], attributes := #[] }
def k1m1 : Method := { name := "law", desc := "(III)Z", sig := { parameters := [.int, .int, .int], returnType := some .boolean }, accessFlags := 9, code := some k1c1 }
/-- com/example/libsld/libsld/StructArgPinLaw -/
def k1 : Class := { plain "com/example/libsld/libsld/StructArgPinLaw" (some 0) with
  accessFlags := 49
  interfaces := #[]
  cf := some (fileOf pool1 34 #[] #[{ accessFlags := 1, nameIndex := 5, descriptorIndex := 6, attributes := #[] }, { accessFlags := 9, nameIndex := 38, descriptorIndex := 39, attributes := #[] }] 49 2 #[] #[])
  fields := #[]
  methods := #[k1m0, k1m1]
  instanceTypes := #[]
  staticTypes := #[]
  resolved := Array.replicate 45 none
  statics := none }

def pool2 : Array CpInfo := pool [(7, .class_ 8), (0, u "com/example/libsld/libsld/Term"), (0, .class_ 10), (0, u "java/lang/Object")] 14

/-- com/example/libsld/libsld/Term -/
def k2 : Class := { plain "com/example/libsld/libsld/Term" (some 0) with
  accessFlags := 1536
  interfaces := #[]
  cf := some (fileOf pool2 7 #[] #[] 1536 9 #[] #[])
  fields := #[]
  methods := #[]
  instanceTypes := #[]
  staticTypes := #[]
  resolved := Array.replicate 25 none
  statics := none }

def pool3 : Array CpInfo := pool [(1, .methodref 2 3), (0, .class_ 4), (0, .nameAndType 5 6), (0, u "java/lang/Object"), (0, u "<init>"), (0, u "()V"), (0, .fieldref 8 9), (0, .class_ 10), (0, .nameAndType 11 12), (0, u "com/example/libsld/libsld/Var"), (0, u "number"), (0, u "J"), (2, u "value"), (0, u "Lcom/example/libsld/libsld/Term;"), (0, .class_ 18), (0, u "com/example/libsld/libsld/Term"), (0, u "FIRST_MADE"), (3, u "(J)V")] 9

def k3c0 : Code := { maxStack := 3, maxLocals := 3, code := prog_145_method_1_code, exceptionTable := #[], attributes := #[] }
def k3m0 : Method := { name := "<init>", desc := "(J)V", sig := { parameters := [.long], returnType := none }, accessFlags := 0, code := some k3c0 }
/-- com/example/libsld/libsld/Var -/
def k3 : Class := { plain "com/example/libsld/libsld/Var" (some 0) with
  accessFlags := 48
  interfaces := #[2]
  cf := some (fileOf pool3 8 #[] #[{ accessFlags := 0, nameIndex := 5, descriptorIndex := 23, attributes := #[] }] 48 2 #[17] #[{ accessFlags := 24, nameIndex := 19, descriptorIndex := 12, attributes := #[] }, { accessFlags := 18, nameIndex := 11, descriptorIndex := 12, attributes := #[] }, { accessFlags := 2, nameIndex := 15, descriptorIndex := 16, attributes := #[] }])
  fields := #[{ name := "FIRST_MADE", type := .long, accessFlags := 24, slot := 0, constantValue := 0 }, { name := "number", type := .long, accessFlags := 18, slot := 0, constantValue := 0 }, { name := "value", type := (.object "com/example/libsld/libsld/Term"), accessFlags := 2, slot := 1, constantValue := 0 }]
  methods := #[k3m0]
  instanceTypes := #[.long, (.object "com/example/libsld/libsld/Term")]
  staticTypes := #[.long]
  resolved := Array.replicate 33 none
  statics := none }

def pool4 : Array CpInfo := pool [(4, .class_ 6), (1, u "com/example/libsld/libsld/Struct"), (0, u "<init>"), (0, u "(Ljava/lang/String;I)V"), (0, .fieldref 4 10), (0, .nameAndType 11 12), (0, u "first"), (0, u "Lcom/example/libsld/libsld/Term;"), (0, .fieldref 4 14), (0, .nameAndType 15 16), (0, u "arity"), (0, u "I"), (0, .fieldref 4 18), (0, .nameAndType 19 12), (0, u "second"), (0, .fieldref 4 21), (0, .nameAndType 22 23), (0, u "rest"), (0, u "[Lcom/example/libsld/libsld/Term;"), (6, .methodref 31 32), (0, .class_ 33), (0, .nameAndType 7 34), (0, u "java/lang/Object"), (0, u "()V"), (7, .fieldref 4 43), (0, .nameAndType 44 45), (0, u "name"), (0, u "Ljava/lang/String;"), (0, .class_ 47), (0, u "com/example/libsld/libsld/Term"), (11, u "LIST_CELL"), (1, u "MAX_ARITY"), (10, u "arg"), (0, u "(I)Lcom/example/libsld/libsld/Term;"), (0, u "setArg"), (0, u "(ILcom/example/libsld/libsld/Term;)V")] 4

def k4c0 : Code := { maxStack := 3, maxLocals := 3, code := prog_116_method_2_code, exceptionTable := #[], attributes := #[] }
def k4m0 : Method := { name := "<init>", desc := "(Ljava/lang/String;I)V", sig := { parameters := [(.object "java/lang/String"), .int], returnType := none }, accessFlags := 0, code := some k4c0 }
def k4c1 : Code := { maxStack := 3, maxLocals := 2, code := prog_116_method_7_code, exceptionTable := #[], attributes := #[] }
def k4m1 : Method := { name := "arg", desc := "(I)Lcom/example/libsld/libsld/Term;", sig := { parameters := [.int], returnType := some (.object "com/example/libsld/libsld/Term") }, accessFlags := 0, code := some k4c1 }
def k4c2 : Code := { maxStack := 3, maxLocals := 3, code := prog_116_method_8_code, exceptionTable := #[], attributes := #[] }
def k4m2 : Method := { name := "setArg", desc := "(ILcom/example/libsld/libsld/Term;)V", sig := { parameters := [.int, (.object "com/example/libsld/libsld/Term")], returnType := none }, accessFlags := 0, code := some k4c2 }
/-- com/example/libsld/libsld/Struct -/
def k4 : Class := { plain "com/example/libsld/libsld/Struct" (some 0) with
  accessFlags := 48
  interfaces := #[2]
  cf := some (fileOf pool4 4 #[] #[{ accessFlags := 0, nameIndex := 7, descriptorIndex := 8, attributes := #[] }, { accessFlags := 0, nameIndex := 72, descriptorIndex := 73, attributes := #[] }, { accessFlags := 0, nameIndex := 74, descriptorIndex := 75, attributes := #[] }] 48 31 #[46] #[{ accessFlags := 24, nameIndex := 59, descriptorIndex := 45, attributes := #[] }, { accessFlags := 24, nameIndex := 61, descriptorIndex := 16, attributes := #[] }, { accessFlags := 18, nameIndex := 44, descriptorIndex := 45, attributes := #[] }, { accessFlags := 18, nameIndex := 15, descriptorIndex := 16, attributes := #[] }, { accessFlags := 2, nameIndex := 11, descriptorIndex := 12, attributes := #[] }, { accessFlags := 2, nameIndex := 19, descriptorIndex := 12, attributes := #[] }, { accessFlags := 18, nameIndex := 22, descriptorIndex := 23, attributes := #[] }])
  fields := #[{ name := "LIST_CELL", type := (.object "java/lang/String"), accessFlags := 24, slot := 0, constantValue := 0 }, { name := "MAX_ARITY", type := .int, accessFlags := 24, slot := 1, constantValue := 0 }, { name := "name", type := (.object "java/lang/String"), accessFlags := 18, slot := 0, constantValue := 0 }, { name := "arity", type := .int, accessFlags := 18, slot := 1, constantValue := 0 }, { name := "first", type := (.object "com/example/libsld/libsld/Term"), accessFlags := 2, slot := 2, constantValue := 0 }, { name := "second", type := (.object "com/example/libsld/libsld/Term"), accessFlags := 2, slot := 3, constantValue := 0 }, { name := "rest", type := (.array (.object "com/example/libsld/libsld/Term")), accessFlags := 18, slot := 4, constantValue := 0 }]
  methods := #[k4m0, k4m1, k4m2]
  instanceTypes := #[(.object "java/lang/String"), .int, (.object "com/example/libsld/libsld/Term"), (.object "com/example/libsld/libsld/Term"), (.array (.object "com/example/libsld/libsld/Term"))]
  staticTypes := #[(.object "java/lang/String"), .int]
  resolved := Array.replicate 80 none
  statics := none }

def pool5 : Array CpInfo := pool [(1, .class_ 2), (0, u "java/io/Serializable"), (0, .class_ 4), (0, u "java/lang/Object")] 2

/-- java/io/Serializable -/
def k5 : Class := { plain "java/io/Serializable" (some 0) with
  accessFlags := 1537
  interfaces := #[]
  cf := some (fileOf pool5 1 #[] #[] 1537 3 #[] #[])
  fields := #[]
  methods := #[]
  instanceTypes := #[]
  staticTypes := #[]
  resolved := Array.replicate 7 none
  statics := none }

def pool6 : Array CpInfo := pool [(1, .class_ 2), (0, u "java/lang/Comparable"), (0, .class_ 4), (0, u "java/lang/Object")] 7

/-- java/lang/Comparable -/
def k6 : Class := { plain "java/lang/Comparable" (some 0) with
  accessFlags := 1537
  interfaces := #[]
  cf := some (fileOf pool6 1 #[] #[] 1537 3 #[] #[])
  fields := #[]
  methods := #[]
  instanceTypes := #[]
  staticTypes := #[]
  resolved := Array.replicate 12 none
  statics := none }

def pool7 : Array CpInfo := pool [(2, .class_ 4), (1, u "java/lang/CharSequence"), (42, .class_ 48), (0, u "java/lang/CharSequence$1CodePointIterator"), (10, .class_ 60), (0, u "java/lang/CharSequence$1CharIterator"), (5, .class_ 67), (0, u "java/lang/Object")] 63

/-- java/lang/CharSequence -/
def k7 : Class := { plain "java/lang/CharSequence" (some 0) with
  accessFlags := 1537
  interfaces := #[]
  cf := some (fileOf pool7 2 #[.nestMembers #[47, 59]] #[] 1537 66 #[] #[])
  fields := #[]
  methods := #[]
  instanceTypes := #[]
  staticTypes := #[]
  resolved := Array.replicate 131 none
  statics := none }

def pool8 : Array CpInfo := pool [(1, .class_ 2), (0, u "java/lang/constant/Constable"), (0, .class_ 4), (0, u "java/lang/Object")] 6

/-- java/lang/constant/Constable -/
def k8 : Class := { plain "java/lang/constant/Constable" (some 0) with
  accessFlags := 1537
  interfaces := #[]
  cf := some (fileOf pool8 1 #[] #[] 1537 3 #[] #[])
  fields := #[]
  methods := #[]
  instanceTypes := #[]
  staticTypes := #[]
  resolved := Array.replicate 11 none
  statics := none }

def pool9 : Array CpInfo := pool [(1, .class_ 2), (0, u "java/lang/constant/ConstantDesc"), (0, .class_ 4), (0, u "java/lang/Object")] 32

/-- java/lang/constant/ConstantDesc -/
def k9 : Class := { plain "java/lang/constant/ConstantDesc" (some 0) with
  accessFlags := 1537
  interfaces := #[]
  cf := some (fileOf pool9 1 #[] #[] 1537 3 #[] #[])
  fields := #[]
  methods := #[]
  instanceTypes := #[]
  staticTypes := #[]
  resolved := Array.replicate 37 none
  statics := none }

def pool10 : Array CpInfo := pool [(2, .class_ 4), (1, u "java/lang/Object"), (0, u "<init>"), (0, u "()V"), (3, .class_ 12), (1, u "java/lang/String"), (0, u "value"), (0, u "[B"), (2, u "coder"), (0, u "B"), (2, u "hash"), (0, u "I"), (2, u "hashIsZero"), (0, u "Z"), (13, u "COMPACT_STRINGS"), (534, .class_ 576), (0, u "java/lang/CharSequence"), (22, u "CASE_INSENSITIVE_ORDER"), (0, u "Ljava/util/Comparator;"), (500, u "serialPersistentFields"), (0, u "[Ljava/io/ObjectStreamField;"), (0, .class_ 1104), (0, u "java/lang/String$CaseInsensitiveComparator"), (1, .class_ 1107), (0, u "java/io/Serializable"), (0, .class_ 1109), (0, u "java/lang/Comparable"), (0, .class_ 1111), (0, u "java/lang/constant/Constable"), (0, .class_ 1113), (0, u "java/lang/constant/ConstantDesc"), (2, u "serialVersionUID"), (0, u "J"), (3, u "REPL"), (0, u "C"), (2, u "LATIN1"), (1, u "UTF16")] 323

def k10m0 : Method := { name := "<init>", desc := "()V", sig := { parameters := [], returnType := none }, accessFlags := 1, code := none }
/-- java/lang/String -/
def k10 : Class := { plain "java/lang/String" (some 0) with
  accessFlags := 49
  interfaces := #[5, 6, 7, 8, 9]
  cf := some (fileOf pool10 10 #[.nestMembers #[1103]] #[{ accessFlags := 1, nameIndex := 5, descriptorIndex := 6, attributes := #[] }] 49 2 #[1106, 1108, 575, 1110, 1112] #[{ accessFlags := 18, nameIndex := 13, descriptorIndex := 14, attributes := #[] }, { accessFlags := 18, nameIndex := 17, descriptorIndex := 18, attributes := #[] }, { accessFlags := 2, nameIndex := 21, descriptorIndex := 22, attributes := #[] }, { accessFlags := 2, nameIndex := 25, descriptorIndex := 26, attributes := #[] }, { accessFlags := 26, nameIndex := 1116, descriptorIndex := 1117, attributes := #[] }, { accessFlags := 24, nameIndex := 40, descriptorIndex := 26, attributes := #[] }, { accessFlags := 26, nameIndex := 1101, descriptorIndex := 1102, attributes := #[] }, { accessFlags := 26, nameIndex := 1121, descriptorIndex := 1122, attributes := #[] }, { accessFlags := 25, nameIndex := 599, descriptorIndex := 600, attributes := #[] }, { accessFlags := 24, nameIndex := 1125, descriptorIndex := 18, attributes := #[] }, { accessFlags := 24, nameIndex := 1127, descriptorIndex := 18, attributes := #[] }])
  fields := #[{ name := "value", type := (.array .byte), accessFlags := 18, slot := 0, constantValue := 0 }, { name := "coder", type := .byte, accessFlags := 18, slot := 1, constantValue := 0 }, { name := "hash", type := .int, accessFlags := 2, slot := 2, constantValue := 0 }, { name := "hashIsZero", type := .boolean, accessFlags := 2, slot := 3, constantValue := 0 }, { name := "serialVersionUID", type := .long, accessFlags := 26, slot := 0, constantValue := 0 }, { name := "COMPACT_STRINGS", type := .boolean, accessFlags := 24, slot := 1, constantValue := 0 }, { name := "serialPersistentFields", type := (.array (.object "java/io/ObjectStreamField")), accessFlags := 26, slot := 2, constantValue := 0 }, { name := "REPL", type := .char, accessFlags := 26, slot := 3, constantValue := 0 }, { name := "CASE_INSENSITIVE_ORDER", type := (.object "java/util/Comparator"), accessFlags := 25, slot := 4, constantValue := 0 }, { name := "LATIN1", type := .byte, accessFlags := 24, slot := 5, constantValue := 0 }, { name := "UTF16", type := .byte, accessFlags := 24, slot := 6, constantValue := 0 }]
  methods := #[k10m0]
  instanceTypes := #[(.array .byte), .byte, .int, .boolean]
  staticTypes := #[.long, .boolean, (.array (.object "java/io/ObjectStreamField")), .char, (.object "java/util/Comparator"), .byte, .byte]
  resolved := Array.replicate 1451 none
  statics := none }

def pool11 : Array CpInfo := pool [(1, u "java/lang/Cloneable"), (0, .class_ 1), (0, u "java/lang/Object"), (0, .class_ 3)] 3

/-- java/lang/Cloneable -/
def k11 : Class := { plain "java/lang/Cloneable" (some 0) with
  accessFlags := 1537
  interfaces := #[]
  cf := some (fileOf pool11 2 #[] #[] 1537 4 #[] #[])
  fields := #[]
  methods := #[]
  instanceTypes := #[]
  staticTypes := #[]
  resolved := Array.replicate 8 none
  statics := none }

/-- the primitive byte -/
def k12 : Class := { plain "byte" none with kind := .primitive 'B', accessFlags := 0x411 }
/-- [B -/
def k13 : Class := { plain "[B" (some 0) with kind := .array 12 .byte, interfaces := #[11, 5], accessFlags := 1041 }

/-- the primitive int -/
def k14 : Class := { plain "int" none with kind := .primitive 'I', accessFlags := 0x411 }
/-- [I -/
def k15 : Class := { plain "[I" (some 0) with kind := .array 14 .int, interfaces := #[11, 5], accessFlags := 1041 }

/-- [Lcom/example/libsld/libsld/Term; -/
def k16 : Class := { plain "[Lcom/example/libsld/libsld/Term;" (some 0) with kind := .array 2 (.object "com/example/libsld/libsld/Term"), interfaces := #[11, 5], accessFlags := 1041 }

def heap : Heap := #[]
def classes : Array Class := #[k0, k1, k2, k3, k4, k5, k6, k7, k8, k9, k10, k11, k12, k13, k14, k15, k16]
def interned : List (Array UInt16 × Addr) := []
def slotsUsed : Nat := 0
def theMethod : MethodId := ⟨1, 1⟩
def args0 : Array Value := #[.int 5, .int 5, .int 5]
def aboutOver (below : List Frame) : State where
  vm := { classes := classes, interned := interned.toArray }
  heap := heap
  slotsUsed := slotsUsed
  threads := #[{ frames := .invoking theMethod args0 :: below }]
def below0 : List Frame := [.native { method := ⟨0, 0⟩, args := #[] }]
def about1 : State := aboutOver below0
def p0 : Program := .bare "" "" ""
def e0 : Env := launch0.env 0 0 0
theorem w_frames : about1.frames = Frame.invoking theMethod args0 :: below0 := rfl
set_option maxRecDepth 65536 in
theorem w_args : argsFit about1.vm theMethod args0 = true := by decide +kernel
set_option maxRecDepth 65536 in
theorem w_heap : heapFits about1 = true := by decide +kernel
set_option maxRecDepth 65536 in
theorem w_runnable : about1.curStatus? = some .runnable := by decide +kernel
set_option maxRecDepth 65536 in
theorem w_alone : about1.alone = true := by decide +kernel
set_option maxRecDepth 65536 in
theorem w_named : about1.methodNamed? x = some theMethod := by decide +kernel
set_option maxRecDepth 65536 in
theorem w_hears : about1.hears theMethod below0 = true := by decide +kernel
set_option maxRecDepth 65536 in
theorem w_ripe : about1.ripe theMethod args0 below0 = true := by decide +kernel
theorem w_running : about1.status = .running := rfl
set_option maxRecDepth 65536 in
theorem w_room : about1.hasRoom e0.platform room_1 = true :=
  launch0.hasRoom_least _ room_1 (by decide +kernel) (by decide +kernel) (by decide +kernel) (by decide +kernel) (by decide +kernel) (by decide +kernel)
theorem allAtoms_all (ts : List Jvm.Cond) (a : Array Jvm.Value) (st : Jvm.State) : (allAtoms ts).before a st = ts.all (fun c => c.before a st) := by
  induction ts with
  | nil => rfl
  | cons c t ih =>
    show (Jvm.Cond.and c (allAtoms t)).before a st = _
    rw [Jvm.Cond.before_and, ih, List.all_cons]
def words1 : List Jvm.Cond := Jvm.Cond.code x code maxLocals ret :: tables_1
/-- a 'code' word, met by the world's own term for the bytes: nothing is compared byte by byte -/
theorem code_word {y : MethodName} {bytes : ByteArray} {mx : Nat} {rt : Option FieldType} {a : Array Value} {s : State} {m : MethodId} {meth : Method} {c : Code} (h1 : s.methodNamed? y = some m) (h2 : s.vm.method? m = some meth) (h3 : meth.code = some c) (h4 : c.code = bytes)
    (h5 : (c.maxLocals == mx && c.exceptionTable.isEmpty && decide (c.maxStack ≤ mostOperands) && decide (meth.sig.returnType = rt) && !meth.locks && decide (parseMethodDescriptor y.desc = some meth.sig)) = true) : (Jvm.Cond.code y bytes mx rt).before a s = true := by
  simp only [Bool.and_eq_true, beq_iff_eq, Bool.not_eq_true', decide_eq_true_eq] at h5
  obtain ⟨⟨⟨⟨⟨g1, g2⟩, g3⟩, g4⟩, g5⟩, g6⟩ := h5
  simp [Cond.before, Cond.holds, Cond.value, h1, h2, h3, h4, g1, g2, g3, g4, g5, g6]
def isCode : Jvm.Cond → Bool
  | .code _ _ _ _ => true
  | _ => false
theorem all_split {L : List Jvm.Cond} {P : Jvm.Cond → Bool} (h1 : L.all (fun c => isCode c || P c) = true) (h2 : ∀ c ∈ L.filter isCode, P c = true) : L.all P = true := by
  refine List.all_eq_true.mpr fun c hc => ?_
  have h := List.all_eq_true.mp h1 c hc
  rcases Bool.eq_false_or_eq_true (isCode c) with hi | hi
  · exact h2 c (List.mem_filter.mpr ⟨hc, hi⟩)
  · simpa [hi] using h
set_option maxRecDepth 65536 in
theorem w_c0 : (Jvm.Cond.code x code maxLocals ret).before args0 about1 = true := code_word (m := ⟨1, 1⟩) (meth := k1m1) (c := k1c1) (by decide +kernel) rfl rfl rfl (by decide +kernel)
set_option maxRecDepth 65536 in
theorem w_c1 : (Jvm.Cond.code ({ cls := "com/example/libsld/libsld/Var", name := "<init>", desc := "(J)V" } : Jvm.MethodName) prog_145_method_1_code (3 : Nat) (Option.none : Option Jvm.ClassFile.FieldType)).before args0 about1 = true := code_word (m := ⟨3, 0⟩) (meth := k3m0) (c := k3c0) (by decide +kernel) rfl rfl rfl (by decide +kernel)
set_option maxRecDepth 65536 in
theorem w_c2 : (Jvm.Cond.code ({ cls := "java/lang/Object", name := "<init>", desc := "()V" } : Jvm.MethodName) object_method_1_code (1 : Nat) (Option.none : Option Jvm.ClassFile.FieldType)).before args0 about1 = true := code_word (m := ⟨0, 0⟩) (meth := k0m0) (c := k0c0) (by decide +kernel) rfl rfl rfl (by decide +kernel)
set_option maxRecDepth 65536 in
theorem w_c3 : (Jvm.Cond.code ({ cls := "com/example/libsld/libsld/Struct", name := "<init>", desc := "(Ljava/lang/String;I)V" } : Jvm.MethodName) prog_116_method_2_code (3 : Nat) (Option.none : Option Jvm.ClassFile.FieldType)).before args0 about1 = true := code_word (m := ⟨4, 0⟩) (meth := k4m0) (c := k4c0) (by decide +kernel) rfl rfl rfl (by decide +kernel)
set_option maxRecDepth 65536 in
theorem w_c4 : (Jvm.Cond.code ({ cls := "com/example/libsld/libsld/Struct", name := "arg", desc := "(I)Lcom/example/libsld/libsld/Term;" } : Jvm.MethodName) prog_116_method_7_code (2 : Nat) (Option.some (Jvm.ClassFile.FieldType.object "com/example/libsld/libsld/Term"))).before args0 about1 = true := code_word (m := ⟨4, 1⟩) (meth := k4m1) (c := k4c1) (by decide +kernel) rfl rfl rfl (by decide +kernel)
set_option maxRecDepth 65536 in
theorem w_c5 : (Jvm.Cond.code ({ cls := "com/example/libsld/libsld/Struct", name := "setArg", desc := "(ILcom/example/libsld/libsld/Term;)V" } : Jvm.MethodName) prog_116_method_8_code (3 : Nat) (Option.none : Option Jvm.ClassFile.FieldType)).before args0 about1 = true := code_word (m := ⟨4, 2⟩) (meth := k4m2) (c := k4c2) (by decide +kernel) rfl rfl rfl (by decide +kernel)
def codes1 : List Jvm.Cond := [Jvm.Cond.code x code maxLocals ret, Jvm.Cond.code ({ cls := "com/example/libsld/libsld/Var", name := "<init>", desc := "(J)V" } : Jvm.MethodName) prog_145_method_1_code (3 : Nat) (Option.none : Option Jvm.ClassFile.FieldType), Jvm.Cond.code ({ cls := "java/lang/Object", name := "<init>", desc := "()V" } : Jvm.MethodName) object_method_1_code (1 : Nat) (Option.none : Option Jvm.ClassFile.FieldType), Jvm.Cond.code ({ cls := "com/example/libsld/libsld/Struct", name := "<init>", desc := "(Ljava/lang/String;I)V" } : Jvm.MethodName) prog_116_method_2_code (3 : Nat) (Option.none : Option Jvm.ClassFile.FieldType), Jvm.Cond.code ({ cls := "com/example/libsld/libsld/Struct", name := "arg", desc := "(I)Lcom/example/libsld/libsld/Term;" } : Jvm.MethodName) prog_116_method_7_code (2 : Nat) (Option.some (Jvm.ClassFile.FieldType.object "com/example/libsld/libsld/Term")), Jvm.Cond.code ({ cls := "com/example/libsld/libsld/Struct", name := "setArg", desc := "(ILcom/example/libsld/libsld/Term;)V" } : Jvm.MethodName) prog_116_method_8_code (3 : Nat) (Option.none : Option Jvm.ClassFile.FieldType)]
set_option maxRecDepth 65536 in
theorem codes_eq : words1.filter isCode = codes1 := rfl
theorem w_codes : ∀ c ∈ words1.filter isCode, c.before args0 about1 = true := by
  rw [codes_eq]
  intro c hc
  simp only [codes1, List.mem_cons, List.not_mem_nil, or_false] at hc
  rcases hc with rfl | rfl | rfl | rfl | rfl | rfl
  · exact w_c0
  · exact w_c1
  · exact w_c2
  · exact w_c3
  · exact w_c4
  · exact w_c5
set_option maxRecDepth 65536 in
theorem w_t1 : (words1.take 24).all (fun c => isCode c || c.before args0 about1) = true := by decide +kernel
set_option maxRecDepth 65536 in
theorem w_t2 : ((words1.drop 24).take 24).all (fun c => isCode c || c.before args0 about1) = true := by decide +kernel
set_option maxRecDepth 65536 in
theorem w_t3 : ((words1.drop 24).drop 24).all (fun c => isCode c || c.before args0 about1) = true := by decide +kernel
theorem w_tables : (allAtoms (Jvm.Cond.code x code maxLocals ret :: tables_1)).before args0 about1 = true := by
  rw [allAtoms_all]
  show words1.all (fun c => c.before args0 about1) = true
  refine all_split ?_ w_codes
  rw [← List.take_append_drop 24 words1, List.all_append, w_t1, ← List.take_append_drop 24 (words1.drop 24), List.all_append, w_t2, w_t3]
  rfl
set_option maxRecDepth 65536 in
theorem w_case : (Jvm.Cond.and given_1 narrow_1).before args0 about1 = true := by decide +kernel
theorem w_applies : (headSpec (Jvm.Cond.code x code maxLocals ret :: tables_1) room_1).applies x e0.platform about1 = true :=
  (Spec.applies_iff w_frames).mpr ⟨w_running, w_runnable, w_alone, w_named, w_hears, w_ripe, w_room, w_tables⟩
theorem atStart : AtStart classFile x code maxLocals ret World_1 tables_1 room_1 Calls_1 rest_1 Pre_1 launch0 p0 e0 about1 theMethod args0 below0 :=
  ⟨lists_1, trivial, launch0.admits_env _ _ _, launch0.least_env, fairChoices_fair.cas, fairChoices_fair.clock, w_frames, w_args, w_heap, w_applies, trivial, trivial, w_case⟩
end start1
theorem witness_1 : WitnessClaimed_1 := ⟨start1.p0, start1.e0, start1.about1, start1.theMethod, start1.args0, start1.below0, start1.atStart⟩
end Jvm.Pilot.@@N@@
