import JvmDerived
import JvmDerived.Pilot.@@N@@Statement
import JvmDerived.Pilot.@@N@@Code
set_option linter.unusedVariables false
set_option linter.unusedSimpArgs false
namespace Jvm.RoadKit
open Sem ClassFile Op Lib Jvm.Stand Jvm.Free Jvm.LawKit
section New
variable {p : Program} {l : Launch} {e : Env} {R : Room} {s : State} {m : MethodId} {args : Array Value} {below : List Frame} {meth : Method} {c : Code} {T : State} {locs : List Loc} {cells slots : Nat}
theorem retI (X : Stand p l e R s m args below meth c T locs cells slots) (hx : p.tables.exec = Jvm.exec) {pc : Nat} {Ls : Array Slot} {z : Int32} {rest : List Value} (hret : meth.sig.returnType = some .int) (hd : decode c.code pc = .ok (.ireturn, 1)) {fs : List Frame}
    (hl : ∀ (f : JFrame) (acts : List Action), f.method = m → f.locked = none → f.entered = [] → (doReturn e (T.setTop f) acts (some (.int z))).1 = T.setFrames fs) : Steps p.tables e below (T.setTop (mkF m pc Ls (.int z :: rest))) (T.setFrames fs) := by
  have hm' : T.vm.method? m = some meth := X.method'
  have hn : narrow .int (.int z) = .int z := rfl
  show Steps p.tables e below (T.setTop { method := m, pc := pc, locals := Ls, stack := _ :: rest, locked := none }) _
  jvm_step X.here [X.here.top, hx, hd, hm', hret, hn]
  first | (intro acts; rw [hl _ acts rfl rfl rfl]) | rw [hl _ _ rfl rfl rfl]
  exact Steps.refl _
end New
end Jvm.RoadKit
namespace Jvm.Pilot.@@N@@
open Jvm Jvm.ClassFile Sem Op Lib Jvm.Free Jvm.Stand Jvm.LawKit Jvm.RoadKit Bundle Jvm.Pilot.@@N@@.Jvm.D
theorem own_i {L : List Jvm.Cond} {a0 : Array Value} {Z : State} (hw : ∀ d ∈ L, d.before a0 Z = true) (i : Nat) {d : Jvm.Cond} (h : L[i]? = some d) : d.before a0 Z = true := hw _ (List.mem_of_getElem? h)
theorem d1_0 : decode prog_5_method_1_code 0 = .ok (.aload_n 0, 1) := by decide +kernel
theorem d1_1 : decode prog_5_method_1_code 1 = .ok (.invokespecial 3, 3) := by decide +kernel
theorem d1_4 : decode prog_5_method_1_code 4 = .ok (.aload_n 0, 1) := by decide +kernel
theorem d1_5 : decode prog_5_method_1_code 5 = .ok (.lload_n 1, 1) := by decide +kernel
theorem d1_6 : decode prog_5_method_1_code 6 = .ok (.putfield 9, 3) := by decide +kernel
theorem d1_9 : decode prog_5_method_1_code 9 = .ok (.aload_n 0, 1) := by decide +kernel
theorem d1_10 : decode prog_5_method_1_code 10 = .ok (.lload_n 3, 1) := by decide +kernel
theorem d1_11 : decode prog_5_method_1_code 11 = .ok (.putfield 15, 3) := by decide +kernel
theorem d1_14 : decode prog_5_method_1_code 14 = .ok (.aload_n 0, 1) := by decide +kernel
theorem d1_15 : decode prog_5_method_1_code 15 = .ok (.lload 5, 2) := by decide +kernel
theorem d1_17 : decode prog_5_method_1_code 17 = .ok (.putfield 18, 3) := by decide +kernel
theorem d1_20 : decode prog_5_method_1_code 20 = .ok (.aload_n 0, 1) := by decide +kernel
theorem d1_21 : decode prog_5_method_1_code 21 = .ok (.lload 7, 2) := by decide +kernel
theorem d1_23 : decode prog_5_method_1_code 23 = .ok (.putfield 21, 3) := by decide +kernel
theorem d1_26 : decode prog_5_method_1_code 26 = .ok (.return_, 1) := by decide +kernel
theorem d3_0 : decode prog_5_method_2_code 0 = .ok (.aload_n 0, 1) := by decide +kernel
theorem d3_1 : decode prog_5_method_2_code 1 = .ok (.getfield 9, 3) := by decide +kernel
theorem d3_4 : decode prog_5_method_2_code 4 = .ok (.ldc2_w 24, 3) := by decide +kernel
theorem d3_7 : decode prog_5_method_2_code 7 = .ok (.lcmp, 1) := by decide +kernel
theorem d3_8 : decode prog_5_method_2_code 8 = .ok (.ifCond .eq 36, 3) := by decide +kernel
theorem d3_11 : decode prog_5_method_2_code 11 = .ok (.aload_n 0, 1) := by decide +kernel
theorem d3_12 : decode prog_5_method_2_code 12 = .ok (.getfield 15, 3) := by decide +kernel
theorem d3_15 : decode prog_5_method_2_code 15 = .ok (.ldc2_w 24, 3) := by decide +kernel
theorem d3_18 : decode prog_5_method_2_code 18 = .ok (.lcmp, 1) := by decide +kernel
theorem d3_19 : decode prog_5_method_2_code 19 = .ok (.ifCond .eq 25, 3) := by decide +kernel
theorem d3_22 : decode prog_5_method_2_code 22 = .ok (.aload_n 0, 1) := by decide +kernel
theorem d3_23 : decode prog_5_method_2_code 23 = .ok (.getfield 18, 3) := by decide +kernel
theorem d3_26 : decode prog_5_method_2_code 26 = .ok (.ldc2_w 24, 3) := by decide +kernel
theorem d3_29 : decode prog_5_method_2_code 29 = .ok (.lcmp, 1) := by decide +kernel
theorem d3_30 : decode prog_5_method_2_code 30 = .ok (.ifCond .eq 14, 3) := by decide +kernel
theorem d3_33 : decode prog_5_method_2_code 33 = .ok (.aload_n 0, 1) := by decide +kernel
theorem d3_34 : decode prog_5_method_2_code 34 = .ok (.getfield 21, 3) := by decide +kernel
theorem d3_37 : decode prog_5_method_2_code 37 = .ok (.ldc2_w 24, 3) := by decide +kernel
theorem d3_40 : decode prog_5_method_2_code 40 = .ok (.lcmp, 1) := by decide +kernel
theorem d3_41 : decode prog_5_method_2_code 41 = .ok (.ifCond .ne 7, 3) := by decide +kernel
theorem d3_44 : decode prog_5_method_2_code 44 = .ok (.iconst 1, 1) := by decide +kernel
theorem d3_45 : decode prog_5_method_2_code 45 = .ok (.goto 4, 3) := by decide +kernel
theorem d3_48 : decode prog_5_method_2_code 48 = .ok (.iconst 0, 1) := by decide +kernel
theorem d3_49 : decode prog_5_method_2_code 49 = .ok (.ireturn, 1) := by decide +kernel
def own_nl (a b c d : Int64) : Int32 := if a = -1 ∨ b = -1 ∨ c = -1 ∨ d = -1 then 1 else 0
theorem pn_com_example_millipede_millipede_CellRange : plainName "com/example/millipede/millipede/CellRange" = true := by first | (simp [plainName, overriddenIn]; done) | decide +kernel
theorem ef_rm1 (m : MethodId) (x0 : Addr) (x1 : Int64) (x2 : Int64) (x3 : Int64) (x4 : Int64) : entryFrame m #[(.ref x0), (.long x1), (.long x2), (.long x3), (.long x4)] 9 = mkF m 0 #[.val (.ref x0), .val (.long x1), .second, .val (.long x2), .second, .val (.long x3), .second, .val (.long x4), .second] [] := by first | (simp [entryFrame, mkF, argsToLocals, Value.category]; done) | rfl
def Q1 (Z : State) (a1 : Addr) (q2 : Int64) (q3 : Int64) (q4 : Int64) (q5 : Int64) (h0 : Heap) (n0 : Nat) (v : Option Value) (h : Heap) (L : List Loc) : Prop := v = none ∧ Fr n0 L ∧ Keep h0 h [a1] ∧ (Exa Z h a1 "com/example/millipede/millipede/CellRange") ∧ (Fld Z h a1 "com/example/millipede/millipede/CellRange" "firstRow" "J" (.long q2)) ∧ (Fld Z h a1 "com/example/millipede/millipede/CellRange" "lastRow" "J" (.long q3)) ∧ (Fld Z h a1 "com/example/millipede/millipede/CellRange" "firstColumn" "J" (.long q4)) ∧ (Fld Z h a1 "com/example/millipede/millipede/CellRange" "lastColumn" "J" (.long q5))
set_option maxRecDepth 65536 in
set_option maxHeartbeats 40000000 in
theorem rm1 (l : Launch) (Z : State) (a0 : Array Value) (hw : ∀ d ∈ tables_1, d.before a0 Z = true) (ws : List Jvm.Cond) (a1 : Addr) (q2 : Int64) (q3 : Int64) (q4 : Int64) (q5 : Int64) (h0 : Heap) (n0 : Nat) (Z0 : n0 ≤ h0.size) (F0 : Fld Z h0 a1 "com/example/millipede/millipede/CellRange" "firstRow" "J" (.long (0 : Int64))) (F1 : Fld Z h0 a1 "com/example/millipede/millipede/CellRange" "lastRow" "J" (.long (0 : Int64))) (F2 : Fld Z h0 a1 "com/example/millipede/millipede/CellRange" "firstColumn" "J" (.long (0 : Int64))) (F3 : Fld Z h0 a1 "com/example/millipede/millipede/CellRange" "lastColumn" "J" (.long (0 : Int64))) (E1 : Exa Z h0 a1 "com/example/millipede/millipede/CellRange") (g1 : n0 ≤ a1) :
    MetFree l (⟨"com/example/millipede/millipede/CellRange", "<init>", "(JJJJ)V"⟩ : MethodName) (head1 (Jvm.Cond.code (⟨"com/example/millipede/millipede/CellRange", "<init>", "(JJJJ)V"⟩ : MethodName) prog_5_method_1_code 9 none :: ws) ({ frames := 1, cells := 0, slots := 0, locals := 12 } : Room)) (fun a U => a = #[(.ref a1), (.long q2), (.long q3), (.long q4), (.long q5)] ∧ Z.Warmed39 U.vm ∧ U.heap = h0) (fun _ _ _ _ _ => True) (fun _ U o U' => ∃ v L, o = .returned v ∧ Q1 Z a1 q2 q3 q4 q5 h0 n0 v U'.heap L ∧ FrameEnd U o U' L ({ frames := 1, cells := 0, slots := 0, locals := 12 } : Room).cells ({ frames := 1, cells := 0, slots := 0, locals := 12 } : Room).slots) := by
  refine MetFree.of_bodySF (plainFor_of_name pn_com_example_millipede_millipede_CellRange) hisR ?_
  intro p e s m args below meth c s₁ Bd hml0 hP hK
  obtain ⟨rfl, hZ, hh⟩ := hP
  have hx := Bd.exec
  have hby := Bd.bytes
  have hml : c.maxLocals = 9 := hml0
  have hown : s.vm.findClass "com/example/millipede/millipede/CellRange" = some m.cls := findClass_of_methodNamed Bd.named
  have hnm := (name_of_methodNamed Bd.named Bd.method).1
  have X0 : Stand p l e ({ frames := 1, cells := 0, slots := 0, locals := 12 } : Room) s m #[(.ref a1), (.long q2), (.long q3), (.long q4), (.long q5)] below meth c s₁ [] 0 0 := Stand.of_body Bd
  have e0 : s₁.heap = h0 := by rw [← hh, Bd.state]; rfl
  have N0 := Fr.nil n0
  have pre0 : ∀ t, Steps p.tables e below (s₁.setTop (mkF m 0 #[.val (.ref a1), .val (.long q2), .second, .val (.long q3), .second, .val (.long q4), .second, .val (.long q5), .second] [])) t → Steps p.tables e below (s₁.setTop (entryFrame m #[(.ref a1), (.long q2), (.long q3), (.long q4), (.long q5)] 9)) t := fun t k => castTop (ef_rm1 m a1 q2 q3 q4 q5) k
  have f101 := Keep.refl h0 [a1]
  obtain ⟨T102, X102, e102, st102⟩ := initO X0 hx hZ hown (own_i hw 7 rfl) (own_i hw 8 rfl) (own_i hw 9 rfl) e0 (g := (mkF m 1 #[.val (.ref a1), .val (.long q2), .second, .val (.long q3), .second, .val (.long q4), .second, .val (.long q5), .second] [(.ref a1)])) rfl (by rw [hml]; rfl) rfl (hb hby d1_1) (by decide) (W := 0) (by show 2 * 0 + _ ≤ _; exact Nat.le_of_eq rfl) (by decide)
  obtain ⟨T103, h103, X103, e103, W103, st103⟩ := putF X102 hx hZ hown (host := "") (Or.inl (own_i hw 10 rfl)) Via.refl e102 F0 E1 (Or.inr ⟨(own_i hw 11 rfl), rfl, hnm⟩) (own_i hw 2 rfl) (ty := .long) (by decide) rfl rfl (g := (mkF m 6 #[.val (.ref a1), .val (.long q2), .second, .val (.long q3), .second, .val (.long q4), .second, .val (.long q5), .second] [(.long q2), (.ref a1)])) rfl rfl (hb hby d1_6)
  have Fw103 := F0.same W103
  have N103 := Fr.snoc X103 N0 g1
  have f104 := Nat.le_trans Z0 (Keep.of_wr W103).1
  have f105 := F1.other W103 (Or.inr (slot_ne (Or.inr (own_i hw 13 rfl)) (Or.inr (own_i hw 11 rfl)) (by decide) (t := .long) (t' := .long) (by decide) (by decide)))
  have f106 := F2.other W103 (Or.inr (slot_ne (Or.inr (own_i hw 15 rfl)) (Or.inr (own_i hw 11 rfl)) (by decide) (t := .long) (t' := .long) (by decide) (by decide)))
  have f107 := F3.other W103 (Or.inr (slot_ne (Or.inr (own_i hw 17 rfl)) (Or.inr (own_i hw 11 rfl)) (by decide) (t := .long) (t' := .long) (by decide) (by decide)))
  have f108 := E1.wr W103
  have f109 := f101.wr W103 (Or.inl (List.mem_of_getElem? (i := 0) rfl))
  obtain ⟨T110, h110, X110, e110, W110, st110⟩ := putF X103 hx hZ hown (host := "") (Or.inl (own_i hw 12 rfl)) Via.refl e103 f105 f108 (Or.inr ⟨(own_i hw 13 rfl), rfl, hnm⟩) (own_i hw 2 rfl) (ty := .long) (by decide) rfl rfl (g := (mkF m 11 #[.val (.ref a1), .val (.long q2), .second, .val (.long q3), .second, .val (.long q4), .second, .val (.long q5), .second] [(.long q3), (.ref a1)])) rfl rfl (hb hby d1_11)
  have Fw110 := f105.same W110
  have N110 := Fr.snoc X110 N103 g1
  have f111 := Nat.le_trans f104 (Keep.of_wr W110).1
  have f112 := f106.other W110 (Or.inr (slot_ne (Or.inr (own_i hw 15 rfl)) (Or.inr (own_i hw 13 rfl)) (by decide) (t := .long) (t' := .long) (by decide) (by decide)))
  have f113 := f107.other W110 (Or.inr (slot_ne (Or.inr (own_i hw 17 rfl)) (Or.inr (own_i hw 13 rfl)) (by decide) (t := .long) (t' := .long) (by decide) (by decide)))
  have f114 := f108.wr W110
  have f115 := f109.wr W110 (Or.inl (List.mem_of_getElem? (i := 0) rfl))
  have f116 := Fw103.other W110 (Or.inr (slot_ne (Or.inr (own_i hw 11 rfl)) (Or.inr (own_i hw 13 rfl)) (by decide) (t := .long) (t' := .long) (by decide) (by decide)))
  obtain ⟨T117, h117, X117, e117, W117, st117⟩ := putF X110 hx hZ hown (host := "") (Or.inl (own_i hw 14 rfl)) Via.refl e110 f112 f114 (Or.inr ⟨(own_i hw 15 rfl), rfl, hnm⟩) (own_i hw 2 rfl) (ty := .long) (by decide) rfl rfl (g := (mkF m 17 #[.val (.ref a1), .val (.long q2), .second, .val (.long q3), .second, .val (.long q4), .second, .val (.long q5), .second] [(.long q4), (.ref a1)])) rfl rfl (hb hby d1_17)
  have Fw117 := f112.same W117
  have N117 := Fr.snoc X117 N110 g1
  have f118 := Nat.le_trans f111 (Keep.of_wr W117).1
  have f119 := f113.other W117 (Or.inr (slot_ne (Or.inr (own_i hw 17 rfl)) (Or.inr (own_i hw 15 rfl)) (by decide) (t := .long) (t' := .long) (by decide) (by decide)))
  have f120 := f114.wr W117
  have f121 := f115.wr W117 (Or.inl (List.mem_of_getElem? (i := 0) rfl))
  have f122 := f116.other W117 (Or.inr (slot_ne (Or.inr (own_i hw 11 rfl)) (Or.inr (own_i hw 15 rfl)) (by decide) (t := .long) (t' := .long) (by decide) (by decide)))
  have f123 := Fw110.other W117 (Or.inr (slot_ne (Or.inr (own_i hw 13 rfl)) (Or.inr (own_i hw 15 rfl)) (by decide) (t := .long) (t' := .long) (by decide) (by decide)))
  obtain ⟨T124, h124, X124, e124, W124, st124⟩ := putF X117 hx hZ hown (host := "") (Or.inl (own_i hw 16 rfl)) Via.refl e117 f119 f120 (Or.inr ⟨(own_i hw 17 rfl), rfl, hnm⟩) (own_i hw 2 rfl) (ty := .long) (by decide) rfl rfl (g := (mkF m 23 #[.val (.ref a1), .val (.long q2), .second, .val (.long q3), .second, .val (.long q4), .second, .val (.long q5), .second] [(.long q5), (.ref a1)])) rfl rfl (hb hby d1_23)
  have Fw124 := f119.same W124
  have N124 := Fr.snoc X124 N117 g1
  have f125 := Nat.le_trans f118 (Keep.of_wr W124).1
  have f126 := f120.wr W124
  have f127 := f121.wr W124 (Or.inl (List.mem_of_getElem? (i := 0) rfl))
  have f128 := f122.other W124 (Or.inr (slot_ne (Or.inr (own_i hw 11 rfl)) (Or.inr (own_i hw 17 rfl)) (by decide) (t := .long) (t' := .long) (by decide) (by decide)))
  have f129 := f123.other W124 (Or.inr (slot_ne (Or.inr (own_i hw 13 rfl)) (Or.inr (own_i hw 17 rfl)) (by decide) (t := .long) (t' := .long) (by decide) (by decide)))
  have f130 := Fw117.other W124 (Or.inr (slot_ne (Or.inr (own_i hw 15 rfl)) (Or.inr (own_i hw 17 rfl)) (by decide) (t := .long) (t' := .long) (by decide) (by decide)))
  have pre131 : ∀ t, Steps p.tables e below (T124.setTop (mkF m 26 #[.val (.ref a1), .val (.long q2), .second, .val (.long q3), .second, .val (.long q4), .second, .val (.long q5), .second] [])) t → Steps p.tables e below (s₁.setTop (entryFrame m #[(.ref a1), (.long q2), (.long q3), (.long q4), (.long q5)] 9)) t := fun t k => pre0 t (by
    show Steps p.tables e below (s₁.setTop (mkF m 0 #[.val (.ref a1), .val (.long q2), .second, .val (.long q3), .second, .val (.long q4), .second, .val (.long q5), .second] [])) t
    refine XS.aloadN X0.here hx rfl (hb hby d1_0) rfl rfl ?_
    show Steps p.tables e below (s₁.setTop (mkF m 1 #[.val (.ref a1), .val (.long q2), .second, .val (.long q3), .second, .val (.long q4), .second, .val (.long q5), .second] [(.ref a1)])) t
    refine st102 _ ?_
    show Steps p.tables e below (T102.setTop (mkF m 4 #[.val (.ref a1), .val (.long q2), .second, .val (.long q3), .second, .val (.long q4), .second, .val (.long q5), .second] [])) t
    refine XS.aloadN X102.here hx rfl (hb hby d1_4) rfl rfl ?_
    show Steps p.tables e below (T102.setTop (mkF m 5 #[.val (.ref a1), .val (.long q2), .second, .val (.long q3), .second, .val (.long q4), .second, .val (.long q5), .second] [(.ref a1)])) t
    refine XS.lloadN X102.here hx rfl (hb hby d1_5) rfl ?_
    show Steps p.tables e below (T102.setTop (mkF m 6 #[.val (.ref a1), .val (.long q2), .second, .val (.long q3), .second, .val (.long q4), .second, .val (.long q5), .second] [(.long q2), (.ref a1)])) t
    refine st103 _ ?_
    show Steps p.tables e below (T103.setTop (mkF m 9 #[.val (.ref a1), .val (.long q2), .second, .val (.long q3), .second, .val (.long q4), .second, .val (.long q5), .second] [])) t
    refine XS.aloadN X103.here hx rfl (hb hby d1_9) rfl rfl ?_
    show Steps p.tables e below (T103.setTop (mkF m 10 #[.val (.ref a1), .val (.long q2), .second, .val (.long q3), .second, .val (.long q4), .second, .val (.long q5), .second] [(.ref a1)])) t
    refine XS.lloadN X103.here hx rfl (hb hby d1_10) rfl ?_
    show Steps p.tables e below (T103.setTop (mkF m 11 #[.val (.ref a1), .val (.long q2), .second, .val (.long q3), .second, .val (.long q4), .second, .val (.long q5), .second] [(.long q3), (.ref a1)])) t
    refine st110 _ ?_
    show Steps p.tables e below (T110.setTop (mkF m 14 #[.val (.ref a1), .val (.long q2), .second, .val (.long q3), .second, .val (.long q4), .second, .val (.long q5), .second] [])) t
    refine XS.aloadN X110.here hx rfl (hb hby d1_14) rfl rfl ?_
    show Steps p.tables e below (T110.setTop (mkF m 15 #[.val (.ref a1), .val (.long q2), .second, .val (.long q3), .second, .val (.long q4), .second, .val (.long q5), .second] [(.ref a1)])) t
    refine XS.lload X110.here hx rfl (hb hby d1_15) rfl ?_
    show Steps p.tables e below (T110.setTop (mkF m 17 #[.val (.ref a1), .val (.long q2), .second, .val (.long q3), .second, .val (.long q4), .second, .val (.long q5), .second] [(.long q4), (.ref a1)])) t
    refine st117 _ ?_
    show Steps p.tables e below (T117.setTop (mkF m 20 #[.val (.ref a1), .val (.long q2), .second, .val (.long q3), .second, .val (.long q4), .second, .val (.long q5), .second] [])) t
    refine XS.aloadN X117.here hx rfl (hb hby d1_20) rfl rfl ?_
    show Steps p.tables e below (T117.setTop (mkF m 21 #[.val (.ref a1), .val (.long q2), .second, .val (.long q3), .second, .val (.long q4), .second, .val (.long q5), .second] [(.ref a1)])) t
    refine XS.lload X117.here hx rfl (hb hby d1_21) rfl ?_
    show Steps p.tables e below (T117.setTop (mkF m 23 #[.val (.ref a1), .val (.long q2), .second, .val (.long q3), .second, .val (.long q4), .second, .val (.long q5), .second] [(.long q5), (.ref a1)])) t
    refine st124 _ ?_
    exact k)
  obtain ⟨fs, hr, hrun, hended, hW, hsame⟩ := X124.leave (v := none) (fun _ => rfl)
  refine ⟨_, _, pre131 _ ?_, hrun, hended, _, _, rfl, ?_, ⟨_, rfl⟩, hW, hsame.mono (by decide) (by decide)⟩
  · exact X124.returnOut hx Bd.returns (hb hby d1_26) hr
  · show Q1 Z a1 q2 q3 q4 q5 h0 n0 _ T124.heap _
    rw [e124]
    exact ⟨rfl, N124, f127, f126, f128, f129, f130, Fw124⟩
theorem ef_rm3 (m : MethodId) (x0 : Addr) : entryFrame m #[(.ref x0)] 1 = mkF m 0 #[.val (.ref x0)] [] := by first | (simp [entryFrame, mkF, argsToLocals, Value.category]; done) | rfl
def Q3 (Z : State) (a1 : Addr) (w0 : Int64) (w1 : Int64) (w2 : Int64) (w3 : Int64) (h0 : Heap) (n0 : Nat) (v : Option Value) (h : Heap) (L : List Loc) : Prop := v = some (.int (own_nl w0 w1 w2 w3)) ∧ Fr n0 L ∧ h = h0
set_option maxRecDepth 65536 in
set_option maxHeartbeats 40000000 in
theorem rm3 (l : Launch) (Z : State) (a0 : Array Value) (hw : ∀ d ∈ tables_1, d.before a0 Z = true) (ws : List Jvm.Cond) (a1 : Addr) (w0 : Int64) (w1 : Int64) (w2 : Int64) (w3 : Int64) (h0 : Heap) (n0 : Nat) (Z0 : n0 ≤ h0.size) (F0 : Fld Z h0 a1 "com/example/millipede/millipede/CellRange" "firstRow" "J" (.long w0)) (F1 : Fld Z h0 a1 "com/example/millipede/millipede/CellRange" "lastRow" "J" (.long w1)) (F2 : Fld Z h0 a1 "com/example/millipede/millipede/CellRange" "firstColumn" "J" (.long w2)) (F3 : Fld Z h0 a1 "com/example/millipede/millipede/CellRange" "lastColumn" "J" (.long w3)) :
    MetFree l (⟨"com/example/millipede/millipede/CellRange", "namesLast", "()Z"⟩ : MethodName) (head1 (Jvm.Cond.code (⟨"com/example/millipede/millipede/CellRange", "namesLast", "()Z"⟩ : MethodName) prog_5_method_2_code 1 (some .boolean) :: ws) ({ frames := 0, cells := 0, slots := 0, locals := 0 } : Room)) (fun a U => a = #[(.ref a1)] ∧ Z.Warmed39 U.vm ∧ U.heap = h0) (fun _ _ _ _ _ => True) (fun _ U o U' => ∃ v L, o = .returned v ∧ Q3 Z a1 w0 w1 w2 w3 h0 n0 v U'.heap L ∧ FrameEnd U o U' L ({ frames := 0, cells := 0, slots := 0, locals := 0 } : Room).cells ({ frames := 0, cells := 0, slots := 0, locals := 0 } : Room).slots) := by
  refine MetFree.of_bodySF (plainFor_of_name pn_com_example_millipede_millipede_CellRange) hisR ?_
  intro p e s m args below meth c s₁ Bd hml0 hP hK
  obtain ⟨rfl, hZ, hh⟩ := hP
  have hx := Bd.exec
  have hby := Bd.bytes
  have hml : c.maxLocals = 1 := hml0
  have hown : s.vm.findClass "com/example/millipede/millipede/CellRange" = some m.cls := findClass_of_methodNamed Bd.named
  have hnm := (name_of_methodNamed Bd.named Bd.method).1
  have X0 : Stand p l e ({ frames := 0, cells := 0, slots := 0, locals := 0 } : Room) s m #[(.ref a1)] below meth c s₁ [] 0 0 := Stand.of_body Bd
  have e0 : s₁.heap = h0 := by rw [← hh, Bd.state]; rfl
  have N0 := Fr.nil n0
  have pre0 : ∀ t, Steps p.tables e below (s₁.setTop (mkF m 0 #[.val (.ref a1)] [])) t → Steps p.tables e below (s₁.setTop (entryFrame m #[(.ref a1)] 1)) t := fun t k => castTop (ef_rm3 m a1) k
  obtain ⟨T101, X101, e101, st101⟩ := getF X0 hx hZ hown (host := "") (Or.inl (own_i hw 10 rfl)) Via.refl e0 F0 (g := (mkF m 1 #[.val (.ref a1)] [(.ref a1)])) rfl rfl (hb hby d3_1)
  have pre103 : ∀ t, Steps p.tables e below (T101.setTop (mkF m 8 #[.val (.ref a1)] [(.int (lcmpW w0 (-1 : Int64)))])) t → Steps p.tables e below (s₁.setTop (entryFrame m #[(.ref a1)] 1)) t := fun t k => pre0 t (by
    show Steps p.tables e below (s₁.setTop (mkF m 0 #[.val (.ref a1)] [])) t
    refine XS.aloadN X0.here hx rfl (hb hby d3_0) rfl rfl ?_
    show Steps p.tables e below (s₁.setTop (mkF m 1 #[.val (.ref a1)] [(.ref a1)])) t
    refine st101 _ ?_
    show Steps p.tables e below (T101.setTop (mkF m 4 #[.val (.ref a1)] [(.long w0)])) t
    refine X101.ldc2Long hx hown (mvT hZ (own_i hw 23 rfl)) (g := (mkF m 4 #[.val (.ref a1)] [(.long w0)])) rfl (hb hby d3_4) _ ?_
    show Steps p.tables e below (T101.setTop (mkF m 7 #[.val (.ref a1)] [(.long (-1 : Int64)), (.long w0)])) t
    refine XS.lcmp X101.here hx rfl (hb hby d3_7) rfl ?_
    exact k)
  by_cases hc102 : w0 = (-1 : Int64)
  · have pre104 : ∀ t, Steps p.tables e below (T101.setTop (mkF m 49 #[.val (.ref a1)] [(.int (1 : Int32))])) t → Steps p.tables e below (s₁.setTop (entryFrame m #[(.ref a1)] 1)) t := fun t k => pre103 t (by
      show Steps p.tables e below (T101.setTop (mkF m 8 #[.val (.ref a1)] [(.int (lcmpW w0 (-1 : Int64)))])) t
      refine XS.ifYes X101.here hx rfl (pc0 := 8) (pc' := 44) rfl (hb hby d3_8) rfl ((if0 _ _).trans (teq (show (lcmpW w0 (-1 : Int64)) = (0 : Int32) by rw [lcW]; exact (lc_eq _ _).mpr hc102)).1) (by decide) (by decide) ?_
      show Steps p.tables e below (T101.setTop (mkF m 44 #[.val (.ref a1)] [])) t
      refine XS.iconst X101.here hx rfl (hb hby d3_44) ?_
      show Steps p.tables e below (T101.setTop (mkF m 45 #[.val (.ref a1)] [(.int (1 : Int32))])) t
      refine XS.goto X101.here hx rfl (pc0 := 45) (pc' := 49) rfl (hb hby d3_45) (by decide) (by decide) ?_
      exact k)
    obtain ⟨fs, hr, hrun, hended, hW, hsame⟩ := X101.leave (v := some (.int (1 : Int32))) (fun h => by rw [Bd.returns] at h; cases h)
    refine ⟨_, _, pre104 _ ?_, hrun, hended, _, _, rfl, ?_, ⟨_, rfl⟩, hW, hsame.mono (by decide) (by decide)⟩
    · exact retN X101 hx (t := .boolean) Bd.returns (by simp) (hb hby d3_49) hr
    · show Q3 Z a1 w0 w1 w2 w3 h0 n0 _ T101.heap _
      rw [e101]
      exact ⟨(by simp [own_nl, hc102]), N0, rfl⟩
  · obtain ⟨T105, X105, e105, st105⟩ := getF X101 hx hZ hown (host := "") (Or.inl (own_i hw 12 rfl)) Via.refl e101 F1 (g := (mkF m 12 #[.val (.ref a1)] [(.ref a1)])) rfl rfl (hb hby d3_12)
    have pre107 : ∀ t, Steps p.tables e below (T105.setTop (mkF m 19 #[.val (.ref a1)] [(.int (lcmpW w1 (-1 : Int64)))])) t → Steps p.tables e below (s₁.setTop (entryFrame m #[(.ref a1)] 1)) t := fun t k => pre103 t (by
      show Steps p.tables e below (T101.setTop (mkF m 8 #[.val (.ref a1)] [(.int (lcmpW w0 (-1 : Int64)))])) t
      refine XS.ifNo X101.here hx rfl (hb hby d3_8) rfl ((if0 _ _).trans (feq (show ¬ ((lcmpW w0 (-1 : Int64)) = (0 : Int32)) by rw [lcW]; exact fun q => hc102 ((lc_eq _ _).mp q))).1) ?_
      show Steps p.tables e below (T101.setTop (mkF m 11 #[.val (.ref a1)] [])) t
      refine XS.aloadN X101.here hx rfl (hb hby d3_11) rfl rfl ?_
      show Steps p.tables e below (T101.setTop (mkF m 12 #[.val (.ref a1)] [(.ref a1)])) t
      refine st105 _ ?_
      show Steps p.tables e below (T105.setTop (mkF m 15 #[.val (.ref a1)] [(.long w1)])) t
      refine X105.ldc2Long hx hown (mvT hZ (own_i hw 23 rfl)) (g := (mkF m 15 #[.val (.ref a1)] [(.long w1)])) rfl (hb hby d3_15) _ ?_
      show Steps p.tables e below (T105.setTop (mkF m 18 #[.val (.ref a1)] [(.long (-1 : Int64)), (.long w1)])) t
      refine XS.lcmp X105.here hx rfl (hb hby d3_18) rfl ?_
      exact k)
    by_cases hc106 : w1 = (-1 : Int64)
    · have pre108 : ∀ t, Steps p.tables e below (T105.setTop (mkF m 49 #[.val (.ref a1)] [(.int (1 : Int32))])) t → Steps p.tables e below (s₁.setTop (entryFrame m #[(.ref a1)] 1)) t := fun t k => pre107 t (by
        show Steps p.tables e below (T105.setTop (mkF m 19 #[.val (.ref a1)] [(.int (lcmpW w1 (-1 : Int64)))])) t
        refine XS.ifYes X105.here hx rfl (pc0 := 19) (pc' := 44) rfl (hb hby d3_19) rfl ((if0 _ _).trans (teq (show (lcmpW w1 (-1 : Int64)) = (0 : Int32) by rw [lcW]; exact (lc_eq _ _).mpr hc106)).1) (by decide) (by decide) ?_
        show Steps p.tables e below (T105.setTop (mkF m 44 #[.val (.ref a1)] [])) t
        refine XS.iconst X105.here hx rfl (hb hby d3_44) ?_
        show Steps p.tables e below (T105.setTop (mkF m 45 #[.val (.ref a1)] [(.int (1 : Int32))])) t
        refine XS.goto X105.here hx rfl (pc0 := 45) (pc' := 49) rfl (hb hby d3_45) (by decide) (by decide) ?_
        exact k)
      obtain ⟨fs, hr, hrun, hended, hW, hsame⟩ := X105.leave (v := some (.int (1 : Int32))) (fun h => by rw [Bd.returns] at h; cases h)
      refine ⟨_, _, pre108 _ ?_, hrun, hended, _, _, rfl, ?_, ⟨_, rfl⟩, hW, hsame.mono (by decide) (by decide)⟩
      · exact retN X105 hx (t := .boolean) Bd.returns (by simp) (hb hby d3_49) hr
      · show Q3 Z a1 w0 w1 w2 w3 h0 n0 _ T105.heap _
        rw [e105]
        exact ⟨(by simp [own_nl, hc102, hc106]), N0, rfl⟩
    · obtain ⟨T109, X109, e109, st109⟩ := getF X105 hx hZ hown (host := "") (Or.inl (own_i hw 14 rfl)) Via.refl e105 F2 (g := (mkF m 23 #[.val (.ref a1)] [(.ref a1)])) rfl rfl (hb hby d3_23)
      have pre111 : ∀ t, Steps p.tables e below (T109.setTop (mkF m 30 #[.val (.ref a1)] [(.int (lcmpW w2 (-1 : Int64)))])) t → Steps p.tables e below (s₁.setTop (entryFrame m #[(.ref a1)] 1)) t := fun t k => pre107 t (by
        show Steps p.tables e below (T105.setTop (mkF m 19 #[.val (.ref a1)] [(.int (lcmpW w1 (-1 : Int64)))])) t
        refine XS.ifNo X105.here hx rfl (hb hby d3_19) rfl ((if0 _ _).trans (feq (show ¬ ((lcmpW w1 (-1 : Int64)) = (0 : Int32)) by rw [lcW]; exact fun q => hc106 ((lc_eq _ _).mp q))).1) ?_
        show Steps p.tables e below (T105.setTop (mkF m 22 #[.val (.ref a1)] [])) t
        refine XS.aloadN X105.here hx rfl (hb hby d3_22) rfl rfl ?_
        show Steps p.tables e below (T105.setTop (mkF m 23 #[.val (.ref a1)] [(.ref a1)])) t
        refine st109 _ ?_
        show Steps p.tables e below (T109.setTop (mkF m 26 #[.val (.ref a1)] [(.long w2)])) t
        refine X109.ldc2Long hx hown (mvT hZ (own_i hw 23 rfl)) (g := (mkF m 26 #[.val (.ref a1)] [(.long w2)])) rfl (hb hby d3_26) _ ?_
        show Steps p.tables e below (T109.setTop (mkF m 29 #[.val (.ref a1)] [(.long (-1 : Int64)), (.long w2)])) t
        refine XS.lcmp X109.here hx rfl (hb hby d3_29) rfl ?_
        exact k)
      by_cases hc110 : w2 = (-1 : Int64)
      · have pre112 : ∀ t, Steps p.tables e below (T109.setTop (mkF m 49 #[.val (.ref a1)] [(.int (1 : Int32))])) t → Steps p.tables e below (s₁.setTop (entryFrame m #[(.ref a1)] 1)) t := fun t k => pre111 t (by
          show Steps p.tables e below (T109.setTop (mkF m 30 #[.val (.ref a1)] [(.int (lcmpW w2 (-1 : Int64)))])) t
          refine XS.ifYes X109.here hx rfl (pc0 := 30) (pc' := 44) rfl (hb hby d3_30) rfl ((if0 _ _).trans (teq (show (lcmpW w2 (-1 : Int64)) = (0 : Int32) by rw [lcW]; exact (lc_eq _ _).mpr hc110)).1) (by decide) (by decide) ?_
          show Steps p.tables e below (T109.setTop (mkF m 44 #[.val (.ref a1)] [])) t
          refine XS.iconst X109.here hx rfl (hb hby d3_44) ?_
          show Steps p.tables e below (T109.setTop (mkF m 45 #[.val (.ref a1)] [(.int (1 : Int32))])) t
          refine XS.goto X109.here hx rfl (pc0 := 45) (pc' := 49) rfl (hb hby d3_45) (by decide) (by decide) ?_
          exact k)
        obtain ⟨fs, hr, hrun, hended, hW, hsame⟩ := X109.leave (v := some (.int (1 : Int32))) (fun h => by rw [Bd.returns] at h; cases h)
        refine ⟨_, _, pre112 _ ?_, hrun, hended, _, _, rfl, ?_, ⟨_, rfl⟩, hW, hsame.mono (by decide) (by decide)⟩
        · exact retN X109 hx (t := .boolean) Bd.returns (by simp) (hb hby d3_49) hr
        · show Q3 Z a1 w0 w1 w2 w3 h0 n0 _ T109.heap _
          rw [e109]
          exact ⟨(by simp [own_nl, hc102, hc106, hc110]), N0, rfl⟩
      · obtain ⟨T113, X113, e113, st113⟩ := getF X109 hx hZ hown (host := "") (Or.inl (own_i hw 16 rfl)) Via.refl e109 F3 (g := (mkF m 34 #[.val (.ref a1)] [(.ref a1)])) rfl rfl (hb hby d3_34)
        have pre115 : ∀ t, Steps p.tables e below (T113.setTop (mkF m 41 #[.val (.ref a1)] [(.int (lcmpW w3 (-1 : Int64)))])) t → Steps p.tables e below (s₁.setTop (entryFrame m #[(.ref a1)] 1)) t := fun t k => pre111 t (by
          show Steps p.tables e below (T109.setTop (mkF m 30 #[.val (.ref a1)] [(.int (lcmpW w2 (-1 : Int64)))])) t
          refine XS.ifNo X109.here hx rfl (hb hby d3_30) rfl ((if0 _ _).trans (feq (show ¬ ((lcmpW w2 (-1 : Int64)) = (0 : Int32)) by rw [lcW]; exact fun q => hc110 ((lc_eq _ _).mp q))).1) ?_
          show Steps p.tables e below (T109.setTop (mkF m 33 #[.val (.ref a1)] [])) t
          refine XS.aloadN X109.here hx rfl (hb hby d3_33) rfl rfl ?_
          show Steps p.tables e below (T109.setTop (mkF m 34 #[.val (.ref a1)] [(.ref a1)])) t
          refine st113 _ ?_
          show Steps p.tables e below (T113.setTop (mkF m 37 #[.val (.ref a1)] [(.long w3)])) t
          refine X113.ldc2Long hx hown (mvT hZ (own_i hw 23 rfl)) (g := (mkF m 37 #[.val (.ref a1)] [(.long w3)])) rfl (hb hby d3_37) _ ?_
          show Steps p.tables e below (T113.setTop (mkF m 40 #[.val (.ref a1)] [(.long (-1 : Int64)), (.long w3)])) t
          refine XS.lcmp X113.here hx rfl (hb hby d3_40) rfl ?_
          exact k)
        by_cases hc114 : w3 = (-1 : Int64)
        · have pre116 : ∀ t, Steps p.tables e below (T113.setTop (mkF m 49 #[.val (.ref a1)] [(.int (1 : Int32))])) t → Steps p.tables e below (s₁.setTop (entryFrame m #[(.ref a1)] 1)) t := fun t k => pre115 t (by
            show Steps p.tables e below (T113.setTop (mkF m 41 #[.val (.ref a1)] [(.int (lcmpW w3 (-1 : Int64)))])) t
            refine XS.ifNo X113.here hx rfl (hb hby d3_41) rfl ((if0 _ _).trans (teq (show (lcmpW w3 (-1 : Int64)) = (0 : Int32) by rw [lcW]; exact (lc_eq _ _).mpr hc114)).2) ?_
            show Steps p.tables e below (T113.setTop (mkF m 44 #[.val (.ref a1)] [])) t
            refine XS.iconst X113.here hx rfl (hb hby d3_44) ?_
            show Steps p.tables e below (T113.setTop (mkF m 45 #[.val (.ref a1)] [(.int (1 : Int32))])) t
            refine XS.goto X113.here hx rfl (pc0 := 45) (pc' := 49) rfl (hb hby d3_45) (by decide) (by decide) ?_
            exact k)
          obtain ⟨fs, hr, hrun, hended, hW, hsame⟩ := X113.leave (v := some (.int (1 : Int32))) (fun h => by rw [Bd.returns] at h; cases h)
          refine ⟨_, _, pre116 _ ?_, hrun, hended, _, _, rfl, ?_, ⟨_, rfl⟩, hW, hsame.mono (by decide) (by decide)⟩
          · exact retN X113 hx (t := .boolean) Bd.returns (by simp) (hb hby d3_49) hr
          · show Q3 Z a1 w0 w1 w2 w3 h0 n0 _ T113.heap _
            rw [e113]
            exact ⟨(by simp [own_nl, hc102, hc106, hc110, hc114]), N0, rfl⟩
        · have pre117 : ∀ t, Steps p.tables e below (T113.setTop (mkF m 49 #[.val (.ref a1)] [(.int (0 : Int32))])) t → Steps p.tables e below (s₁.setTop (entryFrame m #[(.ref a1)] 1)) t := fun t k => pre115 t (by
            show Steps p.tables e below (T113.setTop (mkF m 41 #[.val (.ref a1)] [(.int (lcmpW w3 (-1 : Int64)))])) t
            refine XS.ifYes X113.here hx rfl (pc0 := 41) (pc' := 48) rfl (hb hby d3_41) rfl ((if0 _ _).trans (feq (show ¬ ((lcmpW w3 (-1 : Int64)) = (0 : Int32)) by rw [lcW]; exact fun q => hc114 ((lc_eq _ _).mp q))).2) (by decide) (by decide) ?_
            show Steps p.tables e below (T113.setTop (mkF m 48 #[.val (.ref a1)] [])) t
            refine XS.iconst X113.here hx rfl (hb hby d3_48) ?_
            exact k)
          obtain ⟨fs, hr, hrun, hended, hW, hsame⟩ := X113.leave (v := some (.int (0 : Int32))) (fun h => by rw [Bd.returns] at h; cases h)
          refine ⟨_, _, pre117 _ ?_, hrun, hended, _, _, rfl, ?_, ⟨_, rfl⟩, hW, hsame.mono (by decide) (by decide)⟩
          · exact retN X113 hx (t := .boolean) Bd.returns (by simp) (hb hby d3_49) hr
          · show Q3 Z a1 w0 w1 w2 w3 h0 n0 _ T113.heap _
            rw [e113]
            exact ⟨(by simp [own_nl, hc102, hc106, hc110, hc114]), N0, rfl⟩
theorem own_law {v106 v112 v118 v124 : Int32} {q1 q2 q3 q4 v130 v136 v142 v148 : Int64} {v193 : Int32} (h0 : ((v106 = (0 : Int32)) ∧ v130 = q1) ∨ ((¬ (v106 = (0 : Int32))) ∧ v130 = (-1 : Int64))) (h1 : ((v112 = (0 : Int32)) ∧ v136 = q2) ∨ ((¬ (v112 = (0 : Int32))) ∧ v136 = (-1 : Int64))) (h2 : ((v118 = (0 : Int32)) ∧ v142 = q3) ∨ ((¬ (v118 = (0 : Int32))) ∧ v142 = (-1 : Int64))) (h3 : ((v124 = (0 : Int32)) ∧ v148 = q4) ∨ ((¬ (v124 = (0 : Int32))) ∧ v148 = (-1 : Int64))) (h4 : ((v106 = (0 : Int32)) ∧ (v112 = (0 : Int32)) ∧ (v118 = (0 : Int32)) ∧ (v124 = (0 : Int32)) ∧ (q1 = (-1 : Int64)) ∧ v193 = (1 : Int32)) ∨ ((v106 = (0 : Int32)) ∧ (v112 = (0 : Int32)) ∧ (v118 = (0 : Int32)) ∧ (v124 = (0 : Int32)) ∧ (¬ (q1 = (-1 : Int64))) ∧ (q2 = (-1 : Int64)) ∧ v193 = (1 : Int32)) ∨ ((v106 = (0 : Int32)) ∧ (v112 = (0 : Int32)) ∧ (v118 = (0 : Int32)) ∧ (v124 = (0 : Int32)) ∧ (¬ (q1 = (-1 : Int64))) ∧ (¬ (q2 = (-1 : Int64))) ∧ (q3 = (-1 : Int64)) ∧ v193 = (1 : Int32)) ∨ ((v106 = (0 : Int32)) ∧ (v112 = (0 : Int32)) ∧ (v118 = (0 : Int32)) ∧ (v124 = (0 : Int32)) ∧ (¬ (q1 = (-1 : Int64))) ∧ (¬ (q2 = (-1 : Int64))) ∧ (¬ (q3 = (-1 : Int64))) ∧ (q4 = (-1 : Int64)) ∧ v193 = (1 : Int32)) ∨ ((v106 = (0 : Int32)) ∧ (v112 = (0 : Int32)) ∧ (v118 = (0 : Int32)) ∧ (v124 = (0 : Int32)) ∧ (¬ (q1 = (-1 : Int64))) ∧ (¬ (q2 = (-1 : Int64))) ∧ (¬ (q3 = (-1 : Int64))) ∧ (¬ (q4 = (-1 : Int64))) ∧ v193 = (0 : Int32)) ∨ ((v106 = (0 : Int32)) ∧ (v112 = (0 : Int32)) ∧ (v118 = (0 : Int32)) ∧ (¬ (v124 = (0 : Int32))) ∧ v193 = (1 : Int32)) ∨ ((v106 = (0 : Int32)) ∧ (v112 = (0 : Int32)) ∧ (¬ (v118 = (0 : Int32))) ∧ v193 = (1 : Int32)) ∨ ((v106 = (0 : Int32)) ∧ (¬ (v112 = (0 : Int32))) ∧ v193 = (1 : Int32)) ∨ ((¬ (v106 = (0 : Int32))) ∧ v193 = (1 : Int32))) : own_nl v130 v136 v142 v148 = v193 := by
  unfold own_nl
  rcases h0 with h0 | h0 <;> rcases h1 with h1 | h1 <;> rcases h2 with h2 | h2 <;> rcases h3 with h3 | h3 <;> rcases h4 with h4 | h4 | h4 | h4 | h4 | h4 | h4 | h4 | h4 <;> simp_all
theorem pn_com_example_millipede_millipede_CellRangeNamesLastPinLaw : plainName "com/example/millipede/millipede/CellRangeNamesLastPinLaw" = true := by first | (simp [plainName, overriddenIn]; done) | decide +kernel
theorem pd_0 : parseMethodDescriptor "(JJJJ)V" = some ⟨[.long, .long, .long, .long], none⟩ := by decide +kernel
theorem pd_1 : parseMethodDescriptor "()Z" = some ⟨[], some .boolean⟩ := by decide +kernel
theorem ef_rm0 (m : MethodId) (x0 : Int64) (x1 : Int64) (x2 : Int64) (x3 : Int64) (x4 : Int32) : entryFrame m #[(.long x0), (.long x1), (.long x2), (.long x3), (.int x4)] maxLocals = mkF m 0 #[.val (.long x0), .second, .val (.long x1), .second, .val (.long x2), .second, .val (.long x3), .second, .val (.int x4), .unset, .unset, .unset, .unset, .unset, .unset, .unset, .unset, .unset, .unset, .unset, .unset, .unset, .unset] [] := by first | (simp [entryFrame, mkF, argsToLocals, Value.category, maxLocals]; done) | rfl
def Q0 (Z : State) (q1 : Int64) (q2 : Int64) (q3 : Int64) (q4 : Int64) (p5 : Int32) (h0 : Heap) (n0 : Nat) (v : Option Value) (h : Heap) (L : List Loc) : Prop := v = some (.int 1) ∧ Fr n0 L
set_option maxRecDepth 65536 in
set_option maxHeartbeats 40000000 in
theorem rm0 (l : Launch) (Z : State) (a0 : Array Value) (hw : ∀ d ∈ tables_1, d.before a0 Z = true) (ws : List Jvm.Cond) (q1 : Int64) (q2 : Int64) (q3 : Int64) (q4 : Int64) (p5 : Int32) (h0 : Heap) (n0 : Nat) (Z0 : n0 ≤ h0.size) :
    MetFree l x (head1 (Jvm.Cond.code x code maxLocals ret :: ws) room_1) (fun a U => a = #[(.long q1), (.long q2), (.long q3), (.long q4), (.int p5)] ∧ Z.Warmed39 U.vm ∧ U.heap = h0) (fun _ _ _ _ _ => True) (fun _ U o U' => ∃ v L, o = .returned v ∧ Q0 Z q1 q2 q3 q4 p5 h0 n0 v U'.heap L ∧ FrameEnd U o U' L 1 4) := by
  refine MetFree.of_bodySF (plainFor_of_name pn_com_example_millipede_millipede_CellRangeNamesLastPinLaw) hisR ?_
  intro p e s m args below meth c s₁ Bd hml0 hP hK
  obtain ⟨rfl, hZ, hh⟩ := hP
  have hx := Bd.exec
  have hby := Bd.bytes
  have hml : c.maxLocals = 23 := hml0
  have hown : s.vm.findClass "com/example/millipede/millipede/CellRangeNamesLastPinLaw" = some m.cls := findClass_of_methodNamed Bd.named
  have hnm := (name_of_methodNamed Bd.named Bd.method).1
  have X0 : Stand p l e room_1 s m #[(.long q1), (.long q2), (.long q3), (.long q4), (.int p5)] below meth c s₁ [] 0 0 := Stand.of_body Bd
  have e0 : s₁.heap = h0 := by rw [← hh, Bd.state]; rfl
  have N0 := Fr.nil n0
  have pre0 : ∀ t, Steps p.tables e below (s₁.setTop (mkF m 0 #[.val (.long q1), .second, .val (.long q2), .second, .val (.long q3), .second, .val (.long q4), .second, .val (.int p5), .unset, .unset, .unset, .unset, .unset, .unset, .unset, .unset, .unset, .unset, .unset, .unset, .unset, .unset] [])) t → Steps p.tables e below (s₁.setTop (entryFrame m #[(.long q1), (.long q2), (.long q3), (.long q4), (.int p5)] maxLocals)) t := fun t k => castTop (ef_rm0 m q1 q2 q3 q4 p5) k
  have f101 := Keep.refl h0 []
  obtain ⟨v106, hP107, pre107⟩ : ∃ (v106 : Int32), ((((p5 &&& (1 : Int32)) = (0 : Int32)) ∧ v106 = (0 : Int32)) ∨ ((¬ ((p5 &&& (1 : Int32)) = (0 : Int32))) ∧ v106 = (1 : Int32))) ∧ ∀ t, Steps p.tables e below (s₁.setTop (mkF m 14 #[.val (.long q1), .second, .val (.long q2), .second, .val (.long q3), .second, .val (.long q4), .second, .val (.int p5), .val (.int v106), .unset, .unset, .unset, .unset, .unset, .unset, .unset, .unset, .unset, .unset, .unset, .unset, .unset] [])) t → Steps p.tables e below (s₁.setTop (entryFrame m #[(.long q1), (.long q2), (.long q3), (.long q4), (.int p5)] maxLocals)) t := by
    have pre103 : ∀ t, Steps p.tables e below (s₁.setTop (mkF m 4 #[.val (.long q1), .second, .val (.long q2), .second, .val (.long q3), .second, .val (.long q4), .second, .val (.int p5), .unset, .unset, .unset, .unset, .unset, .unset, .unset, .unset, .unset, .unset, .unset, .unset, .unset, .unset] [(.int (p5 &&& (1 : Int32)))])) t → Steps p.tables e below (s₁.setTop (entryFrame m #[(.long q1), (.long q2), (.long q3), (.long q4), (.int p5)] maxLocals)) t := fun t k => pre0 t (by
      show Steps p.tables e below (s₁.setTop (mkF m 0 #[.val (.long q1), .second, .val (.long q2), .second, .val (.long q3), .second, .val (.long q4), .second, .val (.int p5), .unset, .unset, .unset, .unset, .unset, .unset, .unset, .unset, .unset, .unset, .unset, .unset, .unset, .unset] [])) t
      refine XS.iload X0.here hx rfl (hb hby at_0) rfl ?_
      show Steps p.tables e below (s₁.setTop (mkF m 2 #[.val (.long q1), .second, .val (.long q2), .second, .val (.long q3), .second, .val (.long q4), .second, .val (.int p5), .unset, .unset, .unset, .unset, .unset, .unset, .unset, .unset, .unset, .unset, .unset, .unset, .unset, .unset] [(.int p5)])) t
      refine XS.iconst X0.here hx rfl (hb hby at_2) ?_
      show Steps p.tables e below (s₁.setTop (mkF m 3 #[.val (.long q1), .second, .val (.long q2), .second, .val (.long q3), .second, .val (.long q4), .second, .val (.int p5), .unset, .unset, .unset, .unset, .unset, .unset, .unset, .unset, .unset, .unset, .unset, .unset, .unset, .unset] [(.int (1 : Int32)), (.int p5)])) t
      refine XS.iand X0.here hx rfl (hb hby at_3) rfl ?_
      exact k)
    by_cases hc102 : (p5 &&& (1 : Int32)) = (0 : Int32)
    · have pre104 : ∀ t, Steps p.tables e below (s₁.setTop (mkF m 14 #[.val (.long q1), .second, .val (.long q2), .second, .val (.long q3), .second, .val (.long q4), .second, .val (.int p5), .val (.int (0 : Int32)), .unset, .unset, .unset, .unset, .unset, .unset, .unset, .unset, .unset, .unset, .unset, .unset, .unset] [])) t → Steps p.tables e below (s₁.setTop (entryFrame m #[(.long q1), (.long q2), (.long q3), (.long q4), (.int p5)] maxLocals)) t := fun t k => pre103 t (by
        show Steps p.tables e below (s₁.setTop (mkF m 4 #[.val (.long q1), .second, .val (.long q2), .second, .val (.long q3), .second, .val (.long q4), .second, .val (.int p5), .unset, .unset, .unset, .unset, .unset, .unset, .unset, .unset, .unset, .unset, .unset, .unset, .unset, .unset] [(.int (p5 &&& (1 : Int32)))])) t
        refine XS.ifYes X0.here hx rfl (pc0 := 4) (pc' := 11) rfl (hb hby at_4) rfl ((if0 _ _).trans (teq hc102).1) (by decide) (by decide) ?_
        show Steps p.tables e below (s₁.setTop (mkF m 11 #[.val (.long q1), .second, .val (.long q2), .second, .val (.long q3), .second, .val (.long q4), .second, .val (.int p5), .unset, .unset, .unset, .unset, .unset, .unset, .unset, .unset, .unset, .unset, .unset, .unset, .unset, .unset] [])) t
        refine XS.iconst X0.here hx rfl (hb hby at_11) ?_
        show Steps p.tables e below (s₁.setTop (mkF m 12 #[.val (.long q1), .second, .val (.long q2), .second, .val (.long q3), .second, .val (.long q4), .second, .val (.int p5), .unset, .unset, .unset, .unset, .unset, .unset, .unset, .unset, .unset, .unset, .unset, .unset, .unset, .unset] [(.int (0 : Int32))])) t
        refine XS.istore X0.here hx rfl (hb hby at_12) rfl (l' := #[.val (.long q1), .second, .val (.long q2), .second, .val (.long q3), .second, .val (.long q4), .second, .val (.int p5), .val (.int (0 : Int32)), .unset, .unset, .unset, .unset, .unset, .unset, .unset, .unset, .unset, .unset, .unset, .unset, .unset]) rfl ?_
        exact k)
      exact ⟨(0 : Int32), (Or.inl ⟨hc102, rfl⟩), pre104⟩
    · have pre105 : ∀ t, Steps p.tables e below (s₁.setTop (mkF m 14 #[.val (.long q1), .second, .val (.long q2), .second, .val (.long q3), .second, .val (.long q4), .second, .val (.int p5), .val (.int (1 : Int32)), .unset, .unset, .unset, .unset, .unset, .unset, .unset, .unset, .unset, .unset, .unset, .unset, .unset] [])) t → Steps p.tables e below (s₁.setTop (entryFrame m #[(.long q1), (.long q2), (.long q3), (.long q4), (.int p5)] maxLocals)) t := fun t k => pre103 t (by
        show Steps p.tables e below (s₁.setTop (mkF m 4 #[.val (.long q1), .second, .val (.long q2), .second, .val (.long q3), .second, .val (.long q4), .second, .val (.int p5), .unset, .unset, .unset, .unset, .unset, .unset, .unset, .unset, .unset, .unset, .unset, .unset, .unset, .unset] [(.int (p5 &&& (1 : Int32)))])) t
        refine XS.ifNo X0.here hx rfl (hb hby at_4) rfl ((if0 _ _).trans (feq hc102).1) ?_
        show Steps p.tables e below (s₁.setTop (mkF m 7 #[.val (.long q1), .second, .val (.long q2), .second, .val (.long q3), .second, .val (.long q4), .second, .val (.int p5), .unset, .unset, .unset, .unset, .unset, .unset, .unset, .unset, .unset, .unset, .unset, .unset, .unset, .unset] [])) t
        refine XS.iconst X0.here hx rfl (hb hby at_7) ?_
        show Steps p.tables e below (s₁.setTop (mkF m 8 #[.val (.long q1), .second, .val (.long q2), .second, .val (.long q3), .second, .val (.long q4), .second, .val (.int p5), .unset, .unset, .unset, .unset, .unset, .unset, .unset, .unset, .unset, .unset, .unset, .unset, .unset, .unset] [(.int (1 : Int32))])) t
        refine XS.goto X0.here hx rfl (pc0 := 8) (pc' := 12) rfl (hb hby at_8) (by decide) (by decide) ?_
        show Steps p.tables e below (s₁.setTop (mkF m 12 #[.val (.long q1), .second, .val (.long q2), .second, .val (.long q3), .second, .val (.long q4), .second, .val (.int p5), .unset, .unset, .unset, .unset, .unset, .unset, .unset, .unset, .unset, .unset, .unset, .unset, .unset, .unset] [(.int (1 : Int32))])) t
        refine XS.istore X0.here hx rfl (hb hby at_12) rfl (l' := #[.val (.long q1), .second, .val (.long q2), .second, .val (.long q3), .second, .val (.long q4), .second, .val (.int p5), .val (.int (1 : Int32)), .unset, .unset, .unset, .unset, .unset, .unset, .unset, .unset, .unset, .unset, .unset, .unset, .unset]) rfl ?_
        exact k)
      exact ⟨(1 : Int32), (Or.inr (⟨hc102, rfl⟩)), pre105⟩
  obtain ⟨v112, hP113, pre113⟩ : ∃ (v112 : Int32), ((((p5 &&& (2 : Int32)) = (0 : Int32)) ∧ v112 = (0 : Int32)) ∨ ((¬ ((p5 &&& (2 : Int32)) = (0 : Int32))) ∧ v112 = (1 : Int32))) ∧ ∀ t, Steps p.tables e below (s₁.setTop (mkF m 28 #[.val (.long q1), .second, .val (.long q2), .second, .val (.long q3), .second, .val (.long q4), .second, .val (.int p5), .val (.int v106), .val (.int v112), .unset, .unset, .unset, .unset, .unset, .unset, .unset, .unset, .unset, .unset, .unset, .unset] [])) t → Steps p.tables e below (s₁.setTop (entryFrame m #[(.long q1), (.long q2), (.long q3), (.long q4), (.int p5)] maxLocals)) t := by
    have pre109 : ∀ t, Steps p.tables e below (s₁.setTop (mkF m 18 #[.val (.long q1), .second, .val (.long q2), .second, .val (.long q3), .second, .val (.long q4), .second, .val (.int p5), .val (.int v106), .unset, .unset, .unset, .unset, .unset, .unset, .unset, .unset, .unset, .unset, .unset, .unset, .unset] [(.int (p5 &&& (2 : Int32)))])) t → Steps p.tables e below (s₁.setTop (entryFrame m #[(.long q1), (.long q2), (.long q3), (.long q4), (.int p5)] maxLocals)) t := fun t k => pre107 t (by
      show Steps p.tables e below (s₁.setTop (mkF m 14 #[.val (.long q1), .second, .val (.long q2), .second, .val (.long q3), .second, .val (.long q4), .second, .val (.int p5), .val (.int v106), .unset, .unset, .unset, .unset, .unset, .unset, .unset, .unset, .unset, .unset, .unset, .unset, .unset] [])) t
      refine XS.iload X0.here hx rfl (hb hby at_14) rfl ?_
      show Steps p.tables e below (s₁.setTop (mkF m 16 #[.val (.long q1), .second, .val (.long q2), .second, .val (.long q3), .second, .val (.long q4), .second, .val (.int p5), .val (.int v106), .unset, .unset, .unset, .unset, .unset, .unset, .unset, .unset, .unset, .unset, .unset, .unset, .unset] [(.int p5)])) t
      refine XS.iconst X0.here hx rfl (hb hby at_16) ?_
      show Steps p.tables e below (s₁.setTop (mkF m 17 #[.val (.long q1), .second, .val (.long q2), .second, .val (.long q3), .second, .val (.long q4), .second, .val (.int p5), .val (.int v106), .unset, .unset, .unset, .unset, .unset, .unset, .unset, .unset, .unset, .unset, .unset, .unset, .unset] [(.int (2 : Int32)), (.int p5)])) t
      refine XS.iand X0.here hx rfl (hb hby at_17) rfl ?_
      exact k)
    by_cases hc108 : (p5 &&& (2 : Int32)) = (0 : Int32)
    · have pre110 : ∀ t, Steps p.tables e below (s₁.setTop (mkF m 28 #[.val (.long q1), .second, .val (.long q2), .second, .val (.long q3), .second, .val (.long q4), .second, .val (.int p5), .val (.int v106), .val (.int (0 : Int32)), .unset, .unset, .unset, .unset, .unset, .unset, .unset, .unset, .unset, .unset, .unset, .unset] [])) t → Steps p.tables e below (s₁.setTop (entryFrame m #[(.long q1), (.long q2), (.long q3), (.long q4), (.int p5)] maxLocals)) t := fun t k => pre109 t (by
        show Steps p.tables e below (s₁.setTop (mkF m 18 #[.val (.long q1), .second, .val (.long q2), .second, .val (.long q3), .second, .val (.long q4), .second, .val (.int p5), .val (.int v106), .unset, .unset, .unset, .unset, .unset, .unset, .unset, .unset, .unset, .unset, .unset, .unset, .unset] [(.int (p5 &&& (2 : Int32)))])) t
        refine XS.ifYes X0.here hx rfl (pc0 := 18) (pc' := 25) rfl (hb hby at_18) rfl ((if0 _ _).trans (teq hc108).1) (by decide) (by decide) ?_
        show Steps p.tables e below (s₁.setTop (mkF m 25 #[.val (.long q1), .second, .val (.long q2), .second, .val (.long q3), .second, .val (.long q4), .second, .val (.int p5), .val (.int v106), .unset, .unset, .unset, .unset, .unset, .unset, .unset, .unset, .unset, .unset, .unset, .unset, .unset] [])) t
        refine XS.iconst X0.here hx rfl (hb hby at_25) ?_
        show Steps p.tables e below (s₁.setTop (mkF m 26 #[.val (.long q1), .second, .val (.long q2), .second, .val (.long q3), .second, .val (.long q4), .second, .val (.int p5), .val (.int v106), .unset, .unset, .unset, .unset, .unset, .unset, .unset, .unset, .unset, .unset, .unset, .unset, .unset] [(.int (0 : Int32))])) t
        refine XS.istore X0.here hx rfl (hb hby at_26) rfl (l' := #[.val (.long q1), .second, .val (.long q2), .second, .val (.long q3), .second, .val (.long q4), .second, .val (.int p5), .val (.int v106), .val (.int (0 : Int32)), .unset, .unset, .unset, .unset, .unset, .unset, .unset, .unset, .unset, .unset, .unset, .unset]) rfl ?_
        exact k)
      exact ⟨(0 : Int32), (Or.inl ⟨hc108, rfl⟩), pre110⟩
    · have pre111 : ∀ t, Steps p.tables e below (s₁.setTop (mkF m 28 #[.val (.long q1), .second, .val (.long q2), .second, .val (.long q3), .second, .val (.long q4), .second, .val (.int p5), .val (.int v106), .val (.int (1 : Int32)), .unset, .unset, .unset, .unset, .unset, .unset, .unset, .unset, .unset, .unset, .unset, .unset] [])) t → Steps p.tables e below (s₁.setTop (entryFrame m #[(.long q1), (.long q2), (.long q3), (.long q4), (.int p5)] maxLocals)) t := fun t k => pre109 t (by
        show Steps p.tables e below (s₁.setTop (mkF m 18 #[.val (.long q1), .second, .val (.long q2), .second, .val (.long q3), .second, .val (.long q4), .second, .val (.int p5), .val (.int v106), .unset, .unset, .unset, .unset, .unset, .unset, .unset, .unset, .unset, .unset, .unset, .unset, .unset] [(.int (p5 &&& (2 : Int32)))])) t
        refine XS.ifNo X0.here hx rfl (hb hby at_18) rfl ((if0 _ _).trans (feq hc108).1) ?_
        show Steps p.tables e below (s₁.setTop (mkF m 21 #[.val (.long q1), .second, .val (.long q2), .second, .val (.long q3), .second, .val (.long q4), .second, .val (.int p5), .val (.int v106), .unset, .unset, .unset, .unset, .unset, .unset, .unset, .unset, .unset, .unset, .unset, .unset, .unset] [])) t
        refine XS.iconst X0.here hx rfl (hb hby at_21) ?_
        show Steps p.tables e below (s₁.setTop (mkF m 22 #[.val (.long q1), .second, .val (.long q2), .second, .val (.long q3), .second, .val (.long q4), .second, .val (.int p5), .val (.int v106), .unset, .unset, .unset, .unset, .unset, .unset, .unset, .unset, .unset, .unset, .unset, .unset, .unset] [(.int (1 : Int32))])) t
        refine XS.goto X0.here hx rfl (pc0 := 22) (pc' := 26) rfl (hb hby at_22) (by decide) (by decide) ?_
        show Steps p.tables e below (s₁.setTop (mkF m 26 #[.val (.long q1), .second, .val (.long q2), .second, .val (.long q3), .second, .val (.long q4), .second, .val (.int p5), .val (.int v106), .unset, .unset, .unset, .unset, .unset, .unset, .unset, .unset, .unset, .unset, .unset, .unset, .unset] [(.int (1 : Int32))])) t
        refine XS.istore X0.here hx rfl (hb hby at_26) rfl (l' := #[.val (.long q1), .second, .val (.long q2), .second, .val (.long q3), .second, .val (.long q4), .second, .val (.int p5), .val (.int v106), .val (.int (1 : Int32)), .unset, .unset, .unset, .unset, .unset, .unset, .unset, .unset, .unset, .unset, .unset, .unset]) rfl ?_
        exact k)
      exact ⟨(1 : Int32), (Or.inr (⟨hc108, rfl⟩)), pre111⟩
  obtain ⟨v118, hP119, pre119⟩ : ∃ (v118 : Int32), ((((p5 &&& (4 : Int32)) = (0 : Int32)) ∧ v118 = (0 : Int32)) ∨ ((¬ ((p5 &&& (4 : Int32)) = (0 : Int32))) ∧ v118 = (1 : Int32))) ∧ ∀ t, Steps p.tables e below (s₁.setTop (mkF m 42 #[.val (.long q1), .second, .val (.long q2), .second, .val (.long q3), .second, .val (.long q4), .second, .val (.int p5), .val (.int v106), .val (.int v112), .val (.int v118), .unset, .unset, .unset, .unset, .unset, .unset, .unset, .unset, .unset, .unset, .unset] [])) t → Steps p.tables e below (s₁.setTop (entryFrame m #[(.long q1), (.long q2), (.long q3), (.long q4), (.int p5)] maxLocals)) t := by
    have pre115 : ∀ t, Steps p.tables e below (s₁.setTop (mkF m 32 #[.val (.long q1), .second, .val (.long q2), .second, .val (.long q3), .second, .val (.long q4), .second, .val (.int p5), .val (.int v106), .val (.int v112), .unset, .unset, .unset, .unset, .unset, .unset, .unset, .unset, .unset, .unset, .unset, .unset] [(.int (p5 &&& (4 : Int32)))])) t → Steps p.tables e below (s₁.setTop (entryFrame m #[(.long q1), (.long q2), (.long q3), (.long q4), (.int p5)] maxLocals)) t := fun t k => pre113 t (by
      show Steps p.tables e below (s₁.setTop (mkF m 28 #[.val (.long q1), .second, .val (.long q2), .second, .val (.long q3), .second, .val (.long q4), .second, .val (.int p5), .val (.int v106), .val (.int v112), .unset, .unset, .unset, .unset, .unset, .unset, .unset, .unset, .unset, .unset, .unset, .unset] [])) t
      refine XS.iload X0.here hx rfl (hb hby at_28) rfl ?_
      show Steps p.tables e below (s₁.setTop (mkF m 30 #[.val (.long q1), .second, .val (.long q2), .second, .val (.long q3), .second, .val (.long q4), .second, .val (.int p5), .val (.int v106), .val (.int v112), .unset, .unset, .unset, .unset, .unset, .unset, .unset, .unset, .unset, .unset, .unset, .unset] [(.int p5)])) t
      refine XS.iconst X0.here hx rfl (hb hby at_30) ?_
      show Steps p.tables e below (s₁.setTop (mkF m 31 #[.val (.long q1), .second, .val (.long q2), .second, .val (.long q3), .second, .val (.long q4), .second, .val (.int p5), .val (.int v106), .val (.int v112), .unset, .unset, .unset, .unset, .unset, .unset, .unset, .unset, .unset, .unset, .unset, .unset] [(.int (4 : Int32)), (.int p5)])) t
      refine XS.iand X0.here hx rfl (hb hby at_31) rfl ?_
      exact k)
    by_cases hc114 : (p5 &&& (4 : Int32)) = (0 : Int32)
    · have pre116 : ∀ t, Steps p.tables e below (s₁.setTop (mkF m 42 #[.val (.long q1), .second, .val (.long q2), .second, .val (.long q3), .second, .val (.long q4), .second, .val (.int p5), .val (.int v106), .val (.int v112), .val (.int (0 : Int32)), .unset, .unset, .unset, .unset, .unset, .unset, .unset, .unset, .unset, .unset, .unset] [])) t → Steps p.tables e below (s₁.setTop (entryFrame m #[(.long q1), (.long q2), (.long q3), (.long q4), (.int p5)] maxLocals)) t := fun t k => pre115 t (by
        show Steps p.tables e below (s₁.setTop (mkF m 32 #[.val (.long q1), .second, .val (.long q2), .second, .val (.long q3), .second, .val (.long q4), .second, .val (.int p5), .val (.int v106), .val (.int v112), .unset, .unset, .unset, .unset, .unset, .unset, .unset, .unset, .unset, .unset, .unset, .unset] [(.int (p5 &&& (4 : Int32)))])) t
        refine XS.ifYes X0.here hx rfl (pc0 := 32) (pc' := 39) rfl (hb hby at_32) rfl ((if0 _ _).trans (teq hc114).1) (by decide) (by decide) ?_
        show Steps p.tables e below (s₁.setTop (mkF m 39 #[.val (.long q1), .second, .val (.long q2), .second, .val (.long q3), .second, .val (.long q4), .second, .val (.int p5), .val (.int v106), .val (.int v112), .unset, .unset, .unset, .unset, .unset, .unset, .unset, .unset, .unset, .unset, .unset, .unset] [])) t
        refine XS.iconst X0.here hx rfl (hb hby at_39) ?_
        show Steps p.tables e below (s₁.setTop (mkF m 40 #[.val (.long q1), .second, .val (.long q2), .second, .val (.long q3), .second, .val (.long q4), .second, .val (.int p5), .val (.int v106), .val (.int v112), .unset, .unset, .unset, .unset, .unset, .unset, .unset, .unset, .unset, .unset, .unset, .unset] [(.int (0 : Int32))])) t
        refine XS.istore X0.here hx rfl (hb hby at_40) rfl (l' := #[.val (.long q1), .second, .val (.long q2), .second, .val (.long q3), .second, .val (.long q4), .second, .val (.int p5), .val (.int v106), .val (.int v112), .val (.int (0 : Int32)), .unset, .unset, .unset, .unset, .unset, .unset, .unset, .unset, .unset, .unset, .unset]) rfl ?_
        exact k)
      exact ⟨(0 : Int32), (Or.inl ⟨hc114, rfl⟩), pre116⟩
    · have pre117 : ∀ t, Steps p.tables e below (s₁.setTop (mkF m 42 #[.val (.long q1), .second, .val (.long q2), .second, .val (.long q3), .second, .val (.long q4), .second, .val (.int p5), .val (.int v106), .val (.int v112), .val (.int (1 : Int32)), .unset, .unset, .unset, .unset, .unset, .unset, .unset, .unset, .unset, .unset, .unset] [])) t → Steps p.tables e below (s₁.setTop (entryFrame m #[(.long q1), (.long q2), (.long q3), (.long q4), (.int p5)] maxLocals)) t := fun t k => pre115 t (by
        show Steps p.tables e below (s₁.setTop (mkF m 32 #[.val (.long q1), .second, .val (.long q2), .second, .val (.long q3), .second, .val (.long q4), .second, .val (.int p5), .val (.int v106), .val (.int v112), .unset, .unset, .unset, .unset, .unset, .unset, .unset, .unset, .unset, .unset, .unset, .unset] [(.int (p5 &&& (4 : Int32)))])) t
        refine XS.ifNo X0.here hx rfl (hb hby at_32) rfl ((if0 _ _).trans (feq hc114).1) ?_
        show Steps p.tables e below (s₁.setTop (mkF m 35 #[.val (.long q1), .second, .val (.long q2), .second, .val (.long q3), .second, .val (.long q4), .second, .val (.int p5), .val (.int v106), .val (.int v112), .unset, .unset, .unset, .unset, .unset, .unset, .unset, .unset, .unset, .unset, .unset, .unset] [])) t
        refine XS.iconst X0.here hx rfl (hb hby at_35) ?_
        show Steps p.tables e below (s₁.setTop (mkF m 36 #[.val (.long q1), .second, .val (.long q2), .second, .val (.long q3), .second, .val (.long q4), .second, .val (.int p5), .val (.int v106), .val (.int v112), .unset, .unset, .unset, .unset, .unset, .unset, .unset, .unset, .unset, .unset, .unset, .unset] [(.int (1 : Int32))])) t
        refine XS.goto X0.here hx rfl (pc0 := 36) (pc' := 40) rfl (hb hby at_36) (by decide) (by decide) ?_
        show Steps p.tables e below (s₁.setTop (mkF m 40 #[.val (.long q1), .second, .val (.long q2), .second, .val (.long q3), .second, .val (.long q4), .second, .val (.int p5), .val (.int v106), .val (.int v112), .unset, .unset, .unset, .unset, .unset, .unset, .unset, .unset, .unset, .unset, .unset, .unset] [(.int (1 : Int32))])) t
        refine XS.istore X0.here hx rfl (hb hby at_40) rfl (l' := #[.val (.long q1), .second, .val (.long q2), .second, .val (.long q3), .second, .val (.long q4), .second, .val (.int p5), .val (.int v106), .val (.int v112), .val (.int (1 : Int32)), .unset, .unset, .unset, .unset, .unset, .unset, .unset, .unset, .unset, .unset, .unset]) rfl ?_
        exact k)
      exact ⟨(1 : Int32), (Or.inr (⟨hc114, rfl⟩)), pre117⟩
  obtain ⟨v124, hP125, pre125⟩ : ∃ (v124 : Int32), ((((p5 &&& (8 : Int32)) = (0 : Int32)) ∧ v124 = (0 : Int32)) ∨ ((¬ ((p5 &&& (8 : Int32)) = (0 : Int32))) ∧ v124 = (1 : Int32))) ∧ ∀ t, Steps p.tables e below (s₁.setTop (mkF m 57 #[.val (.long q1), .second, .val (.long q2), .second, .val (.long q3), .second, .val (.long q4), .second, .val (.int p5), .val (.int v106), .val (.int v112), .val (.int v118), .val (.int v124), .unset, .unset, .unset, .unset, .unset, .unset, .unset, .unset, .unset, .unset] [])) t → Steps p.tables e below (s₁.setTop (entryFrame m #[(.long q1), (.long q2), (.long q3), (.long q4), (.int p5)] maxLocals)) t := by
    have pre121 : ∀ t, Steps p.tables e below (s₁.setTop (mkF m 47 #[.val (.long q1), .second, .val (.long q2), .second, .val (.long q3), .second, .val (.long q4), .second, .val (.int p5), .val (.int v106), .val (.int v112), .val (.int v118), .unset, .unset, .unset, .unset, .unset, .unset, .unset, .unset, .unset, .unset, .unset] [(.int (p5 &&& (8 : Int32)))])) t → Steps p.tables e below (s₁.setTop (entryFrame m #[(.long q1), (.long q2), (.long q3), (.long q4), (.int p5)] maxLocals)) t := fun t k => pre119 t (by
      show Steps p.tables e below (s₁.setTop (mkF m 42 #[.val (.long q1), .second, .val (.long q2), .second, .val (.long q3), .second, .val (.long q4), .second, .val (.int p5), .val (.int v106), .val (.int v112), .val (.int v118), .unset, .unset, .unset, .unset, .unset, .unset, .unset, .unset, .unset, .unset, .unset] [])) t
      refine XS.iload X0.here hx rfl (hb hby at_42) rfl ?_
      show Steps p.tables e below (s₁.setTop (mkF m 44 #[.val (.long q1), .second, .val (.long q2), .second, .val (.long q3), .second, .val (.long q4), .second, .val (.int p5), .val (.int v106), .val (.int v112), .val (.int v118), .unset, .unset, .unset, .unset, .unset, .unset, .unset, .unset, .unset, .unset, .unset] [(.int p5)])) t
      refine XS.bipush X0.here hx rfl (hb hby at_44) ?_
      show Steps p.tables e below (s₁.setTop (mkF m 46 #[.val (.long q1), .second, .val (.long q2), .second, .val (.long q3), .second, .val (.long q4), .second, .val (.int p5), .val (.int v106), .val (.int v112), .val (.int v118), .unset, .unset, .unset, .unset, .unset, .unset, .unset, .unset, .unset, .unset, .unset] [(.int (8 : Int32)), (.int p5)])) t
      refine XS.iand X0.here hx rfl (hb hby at_46) rfl ?_
      exact k)
    by_cases hc120 : (p5 &&& (8 : Int32)) = (0 : Int32)
    · have pre122 : ∀ t, Steps p.tables e below (s₁.setTop (mkF m 57 #[.val (.long q1), .second, .val (.long q2), .second, .val (.long q3), .second, .val (.long q4), .second, .val (.int p5), .val (.int v106), .val (.int v112), .val (.int v118), .val (.int (0 : Int32)), .unset, .unset, .unset, .unset, .unset, .unset, .unset, .unset, .unset, .unset] [])) t → Steps p.tables e below (s₁.setTop (entryFrame m #[(.long q1), (.long q2), (.long q3), (.long q4), (.int p5)] maxLocals)) t := fun t k => pre121 t (by
        show Steps p.tables e below (s₁.setTop (mkF m 47 #[.val (.long q1), .second, .val (.long q2), .second, .val (.long q3), .second, .val (.long q4), .second, .val (.int p5), .val (.int v106), .val (.int v112), .val (.int v118), .unset, .unset, .unset, .unset, .unset, .unset, .unset, .unset, .unset, .unset, .unset] [(.int (p5 &&& (8 : Int32)))])) t
        refine XS.ifYes X0.here hx rfl (pc0 := 47) (pc' := 54) rfl (hb hby at_47) rfl ((if0 _ _).trans (teq hc120).1) (by decide) (by decide) ?_
        show Steps p.tables e below (s₁.setTop (mkF m 54 #[.val (.long q1), .second, .val (.long q2), .second, .val (.long q3), .second, .val (.long q4), .second, .val (.int p5), .val (.int v106), .val (.int v112), .val (.int v118), .unset, .unset, .unset, .unset, .unset, .unset, .unset, .unset, .unset, .unset, .unset] [])) t
        refine XS.iconst X0.here hx rfl (hb hby at_54) ?_
        show Steps p.tables e below (s₁.setTop (mkF m 55 #[.val (.long q1), .second, .val (.long q2), .second, .val (.long q3), .second, .val (.long q4), .second, .val (.int p5), .val (.int v106), .val (.int v112), .val (.int v118), .unset, .unset, .unset, .unset, .unset, .unset, .unset, .unset, .unset, .unset, .unset] [(.int (0 : Int32))])) t
        refine XS.istore X0.here hx rfl (hb hby at_55) rfl (l' := #[.val (.long q1), .second, .val (.long q2), .second, .val (.long q3), .second, .val (.long q4), .second, .val (.int p5), .val (.int v106), .val (.int v112), .val (.int v118), .val (.int (0 : Int32)), .unset, .unset, .unset, .unset, .unset, .unset, .unset, .unset, .unset, .unset]) rfl ?_
        exact k)
      exact ⟨(0 : Int32), (Or.inl ⟨hc120, rfl⟩), pre122⟩
    · have pre123 : ∀ t, Steps p.tables e below (s₁.setTop (mkF m 57 #[.val (.long q1), .second, .val (.long q2), .second, .val (.long q3), .second, .val (.long q4), .second, .val (.int p5), .val (.int v106), .val (.int v112), .val (.int v118), .val (.int (1 : Int32)), .unset, .unset, .unset, .unset, .unset, .unset, .unset, .unset, .unset, .unset] [])) t → Steps p.tables e below (s₁.setTop (entryFrame m #[(.long q1), (.long q2), (.long q3), (.long q4), (.int p5)] maxLocals)) t := fun t k => pre121 t (by
        show Steps p.tables e below (s₁.setTop (mkF m 47 #[.val (.long q1), .second, .val (.long q2), .second, .val (.long q3), .second, .val (.long q4), .second, .val (.int p5), .val (.int v106), .val (.int v112), .val (.int v118), .unset, .unset, .unset, .unset, .unset, .unset, .unset, .unset, .unset, .unset, .unset] [(.int (p5 &&& (8 : Int32)))])) t
        refine XS.ifNo X0.here hx rfl (hb hby at_47) rfl ((if0 _ _).trans (feq hc120).1) ?_
        show Steps p.tables e below (s₁.setTop (mkF m 50 #[.val (.long q1), .second, .val (.long q2), .second, .val (.long q3), .second, .val (.long q4), .second, .val (.int p5), .val (.int v106), .val (.int v112), .val (.int v118), .unset, .unset, .unset, .unset, .unset, .unset, .unset, .unset, .unset, .unset, .unset] [])) t
        refine XS.iconst X0.here hx rfl (hb hby at_50) ?_
        show Steps p.tables e below (s₁.setTop (mkF m 51 #[.val (.long q1), .second, .val (.long q2), .second, .val (.long q3), .second, .val (.long q4), .second, .val (.int p5), .val (.int v106), .val (.int v112), .val (.int v118), .unset, .unset, .unset, .unset, .unset, .unset, .unset, .unset, .unset, .unset, .unset] [(.int (1 : Int32))])) t
        refine XS.goto X0.here hx rfl (pc0 := 51) (pc' := 55) rfl (hb hby at_51) (by decide) (by decide) ?_
        show Steps p.tables e below (s₁.setTop (mkF m 55 #[.val (.long q1), .second, .val (.long q2), .second, .val (.long q3), .second, .val (.long q4), .second, .val (.int p5), .val (.int v106), .val (.int v112), .val (.int v118), .unset, .unset, .unset, .unset, .unset, .unset, .unset, .unset, .unset, .unset, .unset] [(.int (1 : Int32))])) t
        refine XS.istore X0.here hx rfl (hb hby at_55) rfl (l' := #[.val (.long q1), .second, .val (.long q2), .second, .val (.long q3), .second, .val (.long q4), .second, .val (.int p5), .val (.int v106), .val (.int v112), .val (.int v118), .val (.int (1 : Int32)), .unset, .unset, .unset, .unset, .unset, .unset, .unset, .unset, .unset, .unset]) rfl ?_
        exact k)
      exact ⟨(1 : Int32), (Or.inr (⟨hc120, rfl⟩)), pre123⟩
  obtain ⟨v130, hP131, pre131⟩ : ∃ (v130 : Int64), (((v106 = (0 : Int32)) ∧ v130 = q1) ∨ ((¬ (v106 = (0 : Int32))) ∧ v130 = (-1 : Int64))) ∧ ∀ t, Steps p.tables e below (s₁.setTop (mkF m 71 #[.val (.long q1), .second, .val (.long q2), .second, .val (.long q3), .second, .val (.long q4), .second, .val (.int p5), .val (.int v106), .val (.int v112), .val (.int v118), .val (.int v124), .val (.long v130), .second, .unset, .unset, .unset, .unset, .unset, .unset, .unset, .unset] [])) t → Steps p.tables e below (s₁.setTop (entryFrame m #[(.long q1), (.long q2), (.long q3), (.long q4), (.int p5)] maxLocals)) t := by
    have pre127 : ∀ t, Steps p.tables e below (s₁.setTop (mkF m 59 #[.val (.long q1), .second, .val (.long q2), .second, .val (.long q3), .second, .val (.long q4), .second, .val (.int p5), .val (.int v106), .val (.int v112), .val (.int v118), .val (.int v124), .unset, .unset, .unset, .unset, .unset, .unset, .unset, .unset, .unset, .unset] [(.int v106)])) t → Steps p.tables e below (s₁.setTop (entryFrame m #[(.long q1), (.long q2), (.long q3), (.long q4), (.int p5)] maxLocals)) t := fun t k => pre125 t (by
      show Steps p.tables e below (s₁.setTop (mkF m 57 #[.val (.long q1), .second, .val (.long q2), .second, .val (.long q3), .second, .val (.long q4), .second, .val (.int p5), .val (.int v106), .val (.int v112), .val (.int v118), .val (.int v124), .unset, .unset, .unset, .unset, .unset, .unset, .unset, .unset, .unset, .unset] [])) t
      refine XS.iload X0.here hx rfl (hb hby at_57) rfl ?_
      exact k)
    by_cases hc126 : v106 = (0 : Int32)
    · have pre128 : ∀ t, Steps p.tables e below (s₁.setTop (mkF m 71 #[.val (.long q1), .second, .val (.long q2), .second, .val (.long q3), .second, .val (.long q4), .second, .val (.int p5), .val (.int v106), .val (.int v112), .val (.int v118), .val (.int v124), .val (.long q1), .second, .unset, .unset, .unset, .unset, .unset, .unset, .unset, .unset] [])) t → Steps p.tables e below (s₁.setTop (entryFrame m #[(.long q1), (.long q2), (.long q3), (.long q4), (.int p5)] maxLocals)) t := fun t k => pre127 t (by
        show Steps p.tables e below (s₁.setTop (mkF m 59 #[.val (.long q1), .second, .val (.long q2), .second, .val (.long q3), .second, .val (.long q4), .second, .val (.int p5), .val (.int v106), .val (.int v112), .val (.int v118), .val (.int v124), .unset, .unset, .unset, .unset, .unset, .unset, .unset, .unset, .unset, .unset] [(.int v106)])) t
        refine XS.ifYes X0.here hx rfl (pc0 := 59) (pc' := 68) rfl (hb hby at_59) rfl ((if0 _ _).trans (teq hc126).1) (by decide) (by decide) ?_
        show Steps p.tables e below (s₁.setTop (mkF m 68 #[.val (.long q1), .second, .val (.long q2), .second, .val (.long q3), .second, .val (.long q4), .second, .val (.int p5), .val (.int v106), .val (.int v112), .val (.int v118), .val (.int v124), .unset, .unset, .unset, .unset, .unset, .unset, .unset, .unset, .unset, .unset] [])) t
        refine XS.lloadN X0.here hx rfl (hb hby at_68) rfl ?_
        show Steps p.tables e below (s₁.setTop (mkF m 69 #[.val (.long q1), .second, .val (.long q2), .second, .val (.long q3), .second, .val (.long q4), .second, .val (.int p5), .val (.int v106), .val (.int v112), .val (.int v118), .val (.int v124), .unset, .unset, .unset, .unset, .unset, .unset, .unset, .unset, .unset, .unset] [(.long q1)])) t
        refine XS.lstore X0.here hx rfl (hb hby at_69) rfl (l' := #[.val (.long q1), .second, .val (.long q2), .second, .val (.long q3), .second, .val (.long q4), .second, .val (.int p5), .val (.int v106), .val (.int v112), .val (.int v118), .val (.int v124), .val (.long q1), .second, .unset, .unset, .unset, .unset, .unset, .unset, .unset, .unset]) rfl ?_
        exact k)
      exact ⟨q1, (Or.inl ⟨hc126, rfl⟩), pre128⟩
    · have pre129 : ∀ t, Steps p.tables e below (s₁.setTop (mkF m 71 #[.val (.long q1), .second, .val (.long q2), .second, .val (.long q3), .second, .val (.long q4), .second, .val (.int p5), .val (.int v106), .val (.int v112), .val (.int v118), .val (.int v124), .val (.long (-1 : Int64)), .second, .unset, .unset, .unset, .unset, .unset, .unset, .unset, .unset] [])) t → Steps p.tables e below (s₁.setTop (entryFrame m #[(.long q1), (.long q2), (.long q3), (.long q4), (.int p5)] maxLocals)) t := fun t k => pre127 t (by
        show Steps p.tables e below (s₁.setTop (mkF m 59 #[.val (.long q1), .second, .val (.long q2), .second, .val (.long q3), .second, .val (.long q4), .second, .val (.int p5), .val (.int v106), .val (.int v112), .val (.int v118), .val (.int v124), .unset, .unset, .unset, .unset, .unset, .unset, .unset, .unset, .unset, .unset] [(.int v106)])) t
        refine XS.ifNo X0.here hx rfl (hb hby at_59) rfl ((if0 _ _).trans (feq hc126).1) ?_
        show Steps p.tables e below (s₁.setTop (mkF m 62 #[.val (.long q1), .second, .val (.long q2), .second, .val (.long q3), .second, .val (.long q4), .second, .val (.int p5), .val (.int v106), .val (.int v112), .val (.int v118), .val (.int v124), .unset, .unset, .unset, .unset, .unset, .unset, .unset, .unset, .unset, .unset] [])) t
        refine X0.ldc2Long hx hown (mvT hZ (own_i hw 0 rfl)) (g := (mkF m 62 #[.val (.long q1), .second, .val (.long q2), .second, .val (.long q3), .second, .val (.long q4), .second, .val (.int p5), .val (.int v106), .val (.int v112), .val (.int v118), .val (.int v124), .unset, .unset, .unset, .unset, .unset, .unset, .unset, .unset, .unset, .unset] [])) rfl (hb hby at_62) _ ?_
        show Steps p.tables e below (s₁.setTop (mkF m 65 #[.val (.long q1), .second, .val (.long q2), .second, .val (.long q3), .second, .val (.long q4), .second, .val (.int p5), .val (.int v106), .val (.int v112), .val (.int v118), .val (.int v124), .unset, .unset, .unset, .unset, .unset, .unset, .unset, .unset, .unset, .unset] [(.long (-1 : Int64))])) t
        refine XS.goto X0.here hx rfl (pc0 := 65) (pc' := 69) rfl (hb hby at_65) (by decide) (by decide) ?_
        show Steps p.tables e below (s₁.setTop (mkF m 69 #[.val (.long q1), .second, .val (.long q2), .second, .val (.long q3), .second, .val (.long q4), .second, .val (.int p5), .val (.int v106), .val (.int v112), .val (.int v118), .val (.int v124), .unset, .unset, .unset, .unset, .unset, .unset, .unset, .unset, .unset, .unset] [(.long (-1 : Int64))])) t
        refine XS.lstore X0.here hx rfl (hb hby at_69) rfl (l' := #[.val (.long q1), .second, .val (.long q2), .second, .val (.long q3), .second, .val (.long q4), .second, .val (.int p5), .val (.int v106), .val (.int v112), .val (.int v118), .val (.int v124), .val (.long (-1 : Int64)), .second, .unset, .unset, .unset, .unset, .unset, .unset, .unset, .unset]) rfl ?_
        exact k)
      exact ⟨(-1 : Int64), (Or.inr (⟨hc126, rfl⟩)), pre129⟩
  obtain ⟨v136, hP137, pre137⟩ : ∃ (v136 : Int64), (((v112 = (0 : Int32)) ∧ v136 = q2) ∨ ((¬ (v112 = (0 : Int32))) ∧ v136 = (-1 : Int64))) ∧ ∀ t, Steps p.tables e below (s₁.setTop (mkF m 85 #[.val (.long q1), .second, .val (.long q2), .second, .val (.long q3), .second, .val (.long q4), .second, .val (.int p5), .val (.int v106), .val (.int v112), .val (.int v118), .val (.int v124), .val (.long v130), .second, .val (.long v136), .second, .unset, .unset, .unset, .unset, .unset, .unset] [])) t → Steps p.tables e below (s₁.setTop (entryFrame m #[(.long q1), (.long q2), (.long q3), (.long q4), (.int p5)] maxLocals)) t := by
    have pre133 : ∀ t, Steps p.tables e below (s₁.setTop (mkF m 73 #[.val (.long q1), .second, .val (.long q2), .second, .val (.long q3), .second, .val (.long q4), .second, .val (.int p5), .val (.int v106), .val (.int v112), .val (.int v118), .val (.int v124), .val (.long v130), .second, .unset, .unset, .unset, .unset, .unset, .unset, .unset, .unset] [(.int v112)])) t → Steps p.tables e below (s₁.setTop (entryFrame m #[(.long q1), (.long q2), (.long q3), (.long q4), (.int p5)] maxLocals)) t := fun t k => pre131 t (by
      show Steps p.tables e below (s₁.setTop (mkF m 71 #[.val (.long q1), .second, .val (.long q2), .second, .val (.long q3), .second, .val (.long q4), .second, .val (.int p5), .val (.int v106), .val (.int v112), .val (.int v118), .val (.int v124), .val (.long v130), .second, .unset, .unset, .unset, .unset, .unset, .unset, .unset, .unset] [])) t
      refine XS.iload X0.here hx rfl (hb hby at_71) rfl ?_
      exact k)
    by_cases hc132 : v112 = (0 : Int32)
    · have pre134 : ∀ t, Steps p.tables e below (s₁.setTop (mkF m 85 #[.val (.long q1), .second, .val (.long q2), .second, .val (.long q3), .second, .val (.long q4), .second, .val (.int p5), .val (.int v106), .val (.int v112), .val (.int v118), .val (.int v124), .val (.long v130), .second, .val (.long q2), .second, .unset, .unset, .unset, .unset, .unset, .unset] [])) t → Steps p.tables e below (s₁.setTop (entryFrame m #[(.long q1), (.long q2), (.long q3), (.long q4), (.int p5)] maxLocals)) t := fun t k => pre133 t (by
        show Steps p.tables e below (s₁.setTop (mkF m 73 #[.val (.long q1), .second, .val (.long q2), .second, .val (.long q3), .second, .val (.long q4), .second, .val (.int p5), .val (.int v106), .val (.int v112), .val (.int v118), .val (.int v124), .val (.long v130), .second, .unset, .unset, .unset, .unset, .unset, .unset, .unset, .unset] [(.int v112)])) t
        refine XS.ifYes X0.here hx rfl (pc0 := 73) (pc' := 82) rfl (hb hby at_73) rfl ((if0 _ _).trans (teq hc132).1) (by decide) (by decide) ?_
        show Steps p.tables e below (s₁.setTop (mkF m 82 #[.val (.long q1), .second, .val (.long q2), .second, .val (.long q3), .second, .val (.long q4), .second, .val (.int p5), .val (.int v106), .val (.int v112), .val (.int v118), .val (.int v124), .val (.long v130), .second, .unset, .unset, .unset, .unset, .unset, .unset, .unset, .unset] [])) t
        refine XS.lloadN X0.here hx rfl (hb hby at_82) rfl ?_
        show Steps p.tables e below (s₁.setTop (mkF m 83 #[.val (.long q1), .second, .val (.long q2), .second, .val (.long q3), .second, .val (.long q4), .second, .val (.int p5), .val (.int v106), .val (.int v112), .val (.int v118), .val (.int v124), .val (.long v130), .second, .unset, .unset, .unset, .unset, .unset, .unset, .unset, .unset] [(.long q2)])) t
        refine XS.lstore X0.here hx rfl (hb hby at_83) rfl (l' := #[.val (.long q1), .second, .val (.long q2), .second, .val (.long q3), .second, .val (.long q4), .second, .val (.int p5), .val (.int v106), .val (.int v112), .val (.int v118), .val (.int v124), .val (.long v130), .second, .val (.long q2), .second, .unset, .unset, .unset, .unset, .unset, .unset]) rfl ?_
        exact k)
      exact ⟨q2, (Or.inl ⟨hc132, rfl⟩), pre134⟩
    · have pre135 : ∀ t, Steps p.tables e below (s₁.setTop (mkF m 85 #[.val (.long q1), .second, .val (.long q2), .second, .val (.long q3), .second, .val (.long q4), .second, .val (.int p5), .val (.int v106), .val (.int v112), .val (.int v118), .val (.int v124), .val (.long v130), .second, .val (.long (-1 : Int64)), .second, .unset, .unset, .unset, .unset, .unset, .unset] [])) t → Steps p.tables e below (s₁.setTop (entryFrame m #[(.long q1), (.long q2), (.long q3), (.long q4), (.int p5)] maxLocals)) t := fun t k => pre133 t (by
        show Steps p.tables e below (s₁.setTop (mkF m 73 #[.val (.long q1), .second, .val (.long q2), .second, .val (.long q3), .second, .val (.long q4), .second, .val (.int p5), .val (.int v106), .val (.int v112), .val (.int v118), .val (.int v124), .val (.long v130), .second, .unset, .unset, .unset, .unset, .unset, .unset, .unset, .unset] [(.int v112)])) t
        refine XS.ifNo X0.here hx rfl (hb hby at_73) rfl ((if0 _ _).trans (feq hc132).1) ?_
        show Steps p.tables e below (s₁.setTop (mkF m 76 #[.val (.long q1), .second, .val (.long q2), .second, .val (.long q3), .second, .val (.long q4), .second, .val (.int p5), .val (.int v106), .val (.int v112), .val (.int v118), .val (.int v124), .val (.long v130), .second, .unset, .unset, .unset, .unset, .unset, .unset, .unset, .unset] [])) t
        refine X0.ldc2Long hx hown (mvT hZ (own_i hw 0 rfl)) (g := (mkF m 76 #[.val (.long q1), .second, .val (.long q2), .second, .val (.long q3), .second, .val (.long q4), .second, .val (.int p5), .val (.int v106), .val (.int v112), .val (.int v118), .val (.int v124), .val (.long v130), .second, .unset, .unset, .unset, .unset, .unset, .unset, .unset, .unset] [])) rfl (hb hby at_76) _ ?_
        show Steps p.tables e below (s₁.setTop (mkF m 79 #[.val (.long q1), .second, .val (.long q2), .second, .val (.long q3), .second, .val (.long q4), .second, .val (.int p5), .val (.int v106), .val (.int v112), .val (.int v118), .val (.int v124), .val (.long v130), .second, .unset, .unset, .unset, .unset, .unset, .unset, .unset, .unset] [(.long (-1 : Int64))])) t
        refine XS.goto X0.here hx rfl (pc0 := 79) (pc' := 83) rfl (hb hby at_79) (by decide) (by decide) ?_
        show Steps p.tables e below (s₁.setTop (mkF m 83 #[.val (.long q1), .second, .val (.long q2), .second, .val (.long q3), .second, .val (.long q4), .second, .val (.int p5), .val (.int v106), .val (.int v112), .val (.int v118), .val (.int v124), .val (.long v130), .second, .unset, .unset, .unset, .unset, .unset, .unset, .unset, .unset] [(.long (-1 : Int64))])) t
        refine XS.lstore X0.here hx rfl (hb hby at_83) rfl (l' := #[.val (.long q1), .second, .val (.long q2), .second, .val (.long q3), .second, .val (.long q4), .second, .val (.int p5), .val (.int v106), .val (.int v112), .val (.int v118), .val (.int v124), .val (.long v130), .second, .val (.long (-1 : Int64)), .second, .unset, .unset, .unset, .unset, .unset, .unset]) rfl ?_
        exact k)
      exact ⟨(-1 : Int64), (Or.inr (⟨hc132, rfl⟩)), pre135⟩
  obtain ⟨v142, hP143, pre143⟩ : ∃ (v142 : Int64), (((v118 = (0 : Int32)) ∧ v142 = q3) ∨ ((¬ (v118 = (0 : Int32))) ∧ v142 = (-1 : Int64))) ∧ ∀ t, Steps p.tables e below (s₁.setTop (mkF m 100 #[.val (.long q1), .second, .val (.long q2), .second, .val (.long q3), .second, .val (.long q4), .second, .val (.int p5), .val (.int v106), .val (.int v112), .val (.int v118), .val (.int v124), .val (.long v130), .second, .val (.long v136), .second, .val (.long v142), .second, .unset, .unset, .unset, .unset] [])) t → Steps p.tables e below (s₁.setTop (entryFrame m #[(.long q1), (.long q2), (.long q3), (.long q4), (.int p5)] maxLocals)) t := by
    have pre139 : ∀ t, Steps p.tables e below (s₁.setTop (mkF m 87 #[.val (.long q1), .second, .val (.long q2), .second, .val (.long q3), .second, .val (.long q4), .second, .val (.int p5), .val (.int v106), .val (.int v112), .val (.int v118), .val (.int v124), .val (.long v130), .second, .val (.long v136), .second, .unset, .unset, .unset, .unset, .unset, .unset] [(.int v118)])) t → Steps p.tables e below (s₁.setTop (entryFrame m #[(.long q1), (.long q2), (.long q3), (.long q4), (.int p5)] maxLocals)) t := fun t k => pre137 t (by
      show Steps p.tables e below (s₁.setTop (mkF m 85 #[.val (.long q1), .second, .val (.long q2), .second, .val (.long q3), .second, .val (.long q4), .second, .val (.int p5), .val (.int v106), .val (.int v112), .val (.int v118), .val (.int v124), .val (.long v130), .second, .val (.long v136), .second, .unset, .unset, .unset, .unset, .unset, .unset] [])) t
      refine XS.iload X0.here hx rfl (hb hby at_85) rfl ?_
      exact k)
    by_cases hc138 : v118 = (0 : Int32)
    · have pre140 : ∀ t, Steps p.tables e below (s₁.setTop (mkF m 100 #[.val (.long q1), .second, .val (.long q2), .second, .val (.long q3), .second, .val (.long q4), .second, .val (.int p5), .val (.int v106), .val (.int v112), .val (.int v118), .val (.int v124), .val (.long v130), .second, .val (.long v136), .second, .val (.long q3), .second, .unset, .unset, .unset, .unset] [])) t → Steps p.tables e below (s₁.setTop (entryFrame m #[(.long q1), (.long q2), (.long q3), (.long q4), (.int p5)] maxLocals)) t := fun t k => pre139 t (by
        show Steps p.tables e below (s₁.setTop (mkF m 87 #[.val (.long q1), .second, .val (.long q2), .second, .val (.long q3), .second, .val (.long q4), .second, .val (.int p5), .val (.int v106), .val (.int v112), .val (.int v118), .val (.int v124), .val (.long v130), .second, .val (.long v136), .second, .unset, .unset, .unset, .unset, .unset, .unset] [(.int v118)])) t
        refine XS.ifYes X0.here hx rfl (pc0 := 87) (pc' := 96) rfl (hb hby at_87) rfl ((if0 _ _).trans (teq hc138).1) (by decide) (by decide) ?_
        show Steps p.tables e below (s₁.setTop (mkF m 96 #[.val (.long q1), .second, .val (.long q2), .second, .val (.long q3), .second, .val (.long q4), .second, .val (.int p5), .val (.int v106), .val (.int v112), .val (.int v118), .val (.int v124), .val (.long v130), .second, .val (.long v136), .second, .unset, .unset, .unset, .unset, .unset, .unset] [])) t
        refine XS.lload X0.here hx rfl (hb hby at_96) rfl ?_
        show Steps p.tables e below (s₁.setTop (mkF m 98 #[.val (.long q1), .second, .val (.long q2), .second, .val (.long q3), .second, .val (.long q4), .second, .val (.int p5), .val (.int v106), .val (.int v112), .val (.int v118), .val (.int v124), .val (.long v130), .second, .val (.long v136), .second, .unset, .unset, .unset, .unset, .unset, .unset] [(.long q3)])) t
        refine XS.lstore X0.here hx rfl (hb hby at_98) rfl (l' := #[.val (.long q1), .second, .val (.long q2), .second, .val (.long q3), .second, .val (.long q4), .second, .val (.int p5), .val (.int v106), .val (.int v112), .val (.int v118), .val (.int v124), .val (.long v130), .second, .val (.long v136), .second, .val (.long q3), .second, .unset, .unset, .unset, .unset]) rfl ?_
        exact k)
      exact ⟨q3, (Or.inl ⟨hc138, rfl⟩), pre140⟩
    · have pre141 : ∀ t, Steps p.tables e below (s₁.setTop (mkF m 100 #[.val (.long q1), .second, .val (.long q2), .second, .val (.long q3), .second, .val (.long q4), .second, .val (.int p5), .val (.int v106), .val (.int v112), .val (.int v118), .val (.int v124), .val (.long v130), .second, .val (.long v136), .second, .val (.long (-1 : Int64)), .second, .unset, .unset, .unset, .unset] [])) t → Steps p.tables e below (s₁.setTop (entryFrame m #[(.long q1), (.long q2), (.long q3), (.long q4), (.int p5)] maxLocals)) t := fun t k => pre139 t (by
        show Steps p.tables e below (s₁.setTop (mkF m 87 #[.val (.long q1), .second, .val (.long q2), .second, .val (.long q3), .second, .val (.long q4), .second, .val (.int p5), .val (.int v106), .val (.int v112), .val (.int v118), .val (.int v124), .val (.long v130), .second, .val (.long v136), .second, .unset, .unset, .unset, .unset, .unset, .unset] [(.int v118)])) t
        refine XS.ifNo X0.here hx rfl (hb hby at_87) rfl ((if0 _ _).trans (feq hc138).1) ?_
        show Steps p.tables e below (s₁.setTop (mkF m 90 #[.val (.long q1), .second, .val (.long q2), .second, .val (.long q3), .second, .val (.long q4), .second, .val (.int p5), .val (.int v106), .val (.int v112), .val (.int v118), .val (.int v124), .val (.long v130), .second, .val (.long v136), .second, .unset, .unset, .unset, .unset, .unset, .unset] [])) t
        refine X0.ldc2Long hx hown (mvT hZ (own_i hw 0 rfl)) (g := (mkF m 90 #[.val (.long q1), .second, .val (.long q2), .second, .val (.long q3), .second, .val (.long q4), .second, .val (.int p5), .val (.int v106), .val (.int v112), .val (.int v118), .val (.int v124), .val (.long v130), .second, .val (.long v136), .second, .unset, .unset, .unset, .unset, .unset, .unset] [])) rfl (hb hby at_90) _ ?_
        show Steps p.tables e below (s₁.setTop (mkF m 93 #[.val (.long q1), .second, .val (.long q2), .second, .val (.long q3), .second, .val (.long q4), .second, .val (.int p5), .val (.int v106), .val (.int v112), .val (.int v118), .val (.int v124), .val (.long v130), .second, .val (.long v136), .second, .unset, .unset, .unset, .unset, .unset, .unset] [(.long (-1 : Int64))])) t
        refine XS.goto X0.here hx rfl (pc0 := 93) (pc' := 98) rfl (hb hby at_93) (by decide) (by decide) ?_
        show Steps p.tables e below (s₁.setTop (mkF m 98 #[.val (.long q1), .second, .val (.long q2), .second, .val (.long q3), .second, .val (.long q4), .second, .val (.int p5), .val (.int v106), .val (.int v112), .val (.int v118), .val (.int v124), .val (.long v130), .second, .val (.long v136), .second, .unset, .unset, .unset, .unset, .unset, .unset] [(.long (-1 : Int64))])) t
        refine XS.lstore X0.here hx rfl (hb hby at_98) rfl (l' := #[.val (.long q1), .second, .val (.long q2), .second, .val (.long q3), .second, .val (.long q4), .second, .val (.int p5), .val (.int v106), .val (.int v112), .val (.int v118), .val (.int v124), .val (.long v130), .second, .val (.long v136), .second, .val (.long (-1 : Int64)), .second, .unset, .unset, .unset, .unset]) rfl ?_
        exact k)
      exact ⟨(-1 : Int64), (Or.inr (⟨hc138, rfl⟩)), pre141⟩
  obtain ⟨v148, hP149, pre149⟩ : ∃ (v148 : Int64), (((v124 = (0 : Int32)) ∧ v148 = q4) ∨ ((¬ (v124 = (0 : Int32))) ∧ v148 = (-1 : Int64))) ∧ ∀ t, Steps p.tables e below (s₁.setTop (mkF m 115 #[.val (.long q1), .second, .val (.long q2), .second, .val (.long q3), .second, .val (.long q4), .second, .val (.int p5), .val (.int v106), .val (.int v112), .val (.int v118), .val (.int v124), .val (.long v130), .second, .val (.long v136), .second, .val (.long v142), .second, .val (.long v148), .second, .unset, .unset] [])) t → Steps p.tables e below (s₁.setTop (entryFrame m #[(.long q1), (.long q2), (.long q3), (.long q4), (.int p5)] maxLocals)) t := by
    have pre145 : ∀ t, Steps p.tables e below (s₁.setTop (mkF m 102 #[.val (.long q1), .second, .val (.long q2), .second, .val (.long q3), .second, .val (.long q4), .second, .val (.int p5), .val (.int v106), .val (.int v112), .val (.int v118), .val (.int v124), .val (.long v130), .second, .val (.long v136), .second, .val (.long v142), .second, .unset, .unset, .unset, .unset] [(.int v124)])) t → Steps p.tables e below (s₁.setTop (entryFrame m #[(.long q1), (.long q2), (.long q3), (.long q4), (.int p5)] maxLocals)) t := fun t k => pre143 t (by
      show Steps p.tables e below (s₁.setTop (mkF m 100 #[.val (.long q1), .second, .val (.long q2), .second, .val (.long q3), .second, .val (.long q4), .second, .val (.int p5), .val (.int v106), .val (.int v112), .val (.int v118), .val (.int v124), .val (.long v130), .second, .val (.long v136), .second, .val (.long v142), .second, .unset, .unset, .unset, .unset] [])) t
      refine XS.iload X0.here hx rfl (hb hby at_100) rfl ?_
      exact k)
    by_cases hc144 : v124 = (0 : Int32)
    · have pre146 : ∀ t, Steps p.tables e below (s₁.setTop (mkF m 115 #[.val (.long q1), .second, .val (.long q2), .second, .val (.long q3), .second, .val (.long q4), .second, .val (.int p5), .val (.int v106), .val (.int v112), .val (.int v118), .val (.int v124), .val (.long v130), .second, .val (.long v136), .second, .val (.long v142), .second, .val (.long q4), .second, .unset, .unset] [])) t → Steps p.tables e below (s₁.setTop (entryFrame m #[(.long q1), (.long q2), (.long q3), (.long q4), (.int p5)] maxLocals)) t := fun t k => pre145 t (by
        show Steps p.tables e below (s₁.setTop (mkF m 102 #[.val (.long q1), .second, .val (.long q2), .second, .val (.long q3), .second, .val (.long q4), .second, .val (.int p5), .val (.int v106), .val (.int v112), .val (.int v118), .val (.int v124), .val (.long v130), .second, .val (.long v136), .second, .val (.long v142), .second, .unset, .unset, .unset, .unset] [(.int v124)])) t
        refine XS.ifYes X0.here hx rfl (pc0 := 102) (pc' := 111) rfl (hb hby at_102) rfl ((if0 _ _).trans (teq hc144).1) (by decide) (by decide) ?_
        show Steps p.tables e below (s₁.setTop (mkF m 111 #[.val (.long q1), .second, .val (.long q2), .second, .val (.long q3), .second, .val (.long q4), .second, .val (.int p5), .val (.int v106), .val (.int v112), .val (.int v118), .val (.int v124), .val (.long v130), .second, .val (.long v136), .second, .val (.long v142), .second, .unset, .unset, .unset, .unset] [])) t
        refine XS.lload X0.here hx rfl (hb hby at_111) rfl ?_
        show Steps p.tables e below (s₁.setTop (mkF m 113 #[.val (.long q1), .second, .val (.long q2), .second, .val (.long q3), .second, .val (.long q4), .second, .val (.int p5), .val (.int v106), .val (.int v112), .val (.int v118), .val (.int v124), .val (.long v130), .second, .val (.long v136), .second, .val (.long v142), .second, .unset, .unset, .unset, .unset] [(.long q4)])) t
        refine XS.lstore X0.here hx rfl (hb hby at_113) rfl (l' := #[.val (.long q1), .second, .val (.long q2), .second, .val (.long q3), .second, .val (.long q4), .second, .val (.int p5), .val (.int v106), .val (.int v112), .val (.int v118), .val (.int v124), .val (.long v130), .second, .val (.long v136), .second, .val (.long v142), .second, .val (.long q4), .second, .unset, .unset]) rfl ?_
        exact k)
      exact ⟨q4, (Or.inl ⟨hc144, rfl⟩), pre146⟩
    · have pre147 : ∀ t, Steps p.tables e below (s₁.setTop (mkF m 115 #[.val (.long q1), .second, .val (.long q2), .second, .val (.long q3), .second, .val (.long q4), .second, .val (.int p5), .val (.int v106), .val (.int v112), .val (.int v118), .val (.int v124), .val (.long v130), .second, .val (.long v136), .second, .val (.long v142), .second, .val (.long (-1 : Int64)), .second, .unset, .unset] [])) t → Steps p.tables e below (s₁.setTop (entryFrame m #[(.long q1), (.long q2), (.long q3), (.long q4), (.int p5)] maxLocals)) t := fun t k => pre145 t (by
        show Steps p.tables e below (s₁.setTop (mkF m 102 #[.val (.long q1), .second, .val (.long q2), .second, .val (.long q3), .second, .val (.long q4), .second, .val (.int p5), .val (.int v106), .val (.int v112), .val (.int v118), .val (.int v124), .val (.long v130), .second, .val (.long v136), .second, .val (.long v142), .second, .unset, .unset, .unset, .unset] [(.int v124)])) t
        refine XS.ifNo X0.here hx rfl (hb hby at_102) rfl ((if0 _ _).trans (feq hc144).1) ?_
        show Steps p.tables e below (s₁.setTop (mkF m 105 #[.val (.long q1), .second, .val (.long q2), .second, .val (.long q3), .second, .val (.long q4), .second, .val (.int p5), .val (.int v106), .val (.int v112), .val (.int v118), .val (.int v124), .val (.long v130), .second, .val (.long v136), .second, .val (.long v142), .second, .unset, .unset, .unset, .unset] [])) t
        refine X0.ldc2Long hx hown (mvT hZ (own_i hw 0 rfl)) (g := (mkF m 105 #[.val (.long q1), .second, .val (.long q2), .second, .val (.long q3), .second, .val (.long q4), .second, .val (.int p5), .val (.int v106), .val (.int v112), .val (.int v118), .val (.int v124), .val (.long v130), .second, .val (.long v136), .second, .val (.long v142), .second, .unset, .unset, .unset, .unset] [])) rfl (hb hby at_105) _ ?_
        show Steps p.tables e below (s₁.setTop (mkF m 108 #[.val (.long q1), .second, .val (.long q2), .second, .val (.long q3), .second, .val (.long q4), .second, .val (.int p5), .val (.int v106), .val (.int v112), .val (.int v118), .val (.int v124), .val (.long v130), .second, .val (.long v136), .second, .val (.long v142), .second, .unset, .unset, .unset, .unset] [(.long (-1 : Int64))])) t
        refine XS.goto X0.here hx rfl (pc0 := 108) (pc' := 113) rfl (hb hby at_108) (by decide) (by decide) ?_
        show Steps p.tables e below (s₁.setTop (mkF m 113 #[.val (.long q1), .second, .val (.long q2), .second, .val (.long q3), .second, .val (.long q4), .second, .val (.int p5), .val (.int v106), .val (.int v112), .val (.int v118), .val (.int v124), .val (.long v130), .second, .val (.long v136), .second, .val (.long v142), .second, .unset, .unset, .unset, .unset] [(.long (-1 : Int64))])) t
        refine XS.lstore X0.here hx rfl (hb hby at_113) rfl (l' := #[.val (.long q1), .second, .val (.long q2), .second, .val (.long q3), .second, .val (.long q4), .second, .val (.int p5), .val (.int v106), .val (.int v112), .val (.int v118), .val (.int v124), .val (.long v130), .second, .val (.long v136), .second, .val (.long v142), .second, .val (.long (-1 : Int64)), .second, .unset, .unset]) rfl ?_
        exact k)
      exact ⟨(-1 : Int64), (Or.inr (⟨hc144, rfl⟩)), pre147⟩
  obtain ⟨T150, h150, X150, e150, E150, A150, D150, -, st150⟩ := newO X0 hx hZ hown (own_i hw 1 rfl) (own_i hw 2 rfl) (own_i hw 3 rfl) e0 (g := (mkF m 115 #[.val (.long q1), .second, .val (.long q2), .second, .val (.long q3), .second, .val (.long q4), .second, .val (.int p5), .val (.int v106), .val (.int v112), .val (.int v118), .val (.int v124), .val (.long v130), .second, .val (.long v136), .second, .val (.long v142), .second, .val (.long v148), .second, .unset, .unset] [])) rfl (hb hby at_115) (by decide) (by decide)
  obtain ⟨b150, g150⟩ : ∃ z, z = h0.size := ⟨_, rfl⟩
  rw [← g150] at A150 D150 st150
  have ga151 : n0 ≤ b150 := Nat.le_trans Z0 (Nat.le_of_eq g150.symm)
  have sz152 : h0.size ≤ b150 := Nat.le_trans f101.1 (Nat.le_of_eq g150.symm)
  have f153 : Fld Z h150 b150 "com/example/millipede/millipede/CellRange" "firstRow" "J" (.long (0 : Int64)) := D150 (Or.inr (own_i hw 11 rfl)) (ty := .long) (by decide)
  have f154 : Fld Z h150 b150 "com/example/millipede/millipede/CellRange" "lastRow" "J" (.long (0 : Int64)) := D150 (Or.inr (own_i hw 13 rfl)) (ty := .long) (by decide)
  have f155 : Fld Z h150 b150 "com/example/millipede/millipede/CellRange" "firstColumn" "J" (.long (0 : Int64)) := D150 (Or.inr (own_i hw 15 rfl)) (ty := .long) (by decide)
  have f156 : Fld Z h150 b150 "com/example/millipede/millipede/CellRange" "lastColumn" "J" (.long (0 : Int64)) := D150 (Or.inr (own_i hw 17 rfl)) (ty := .long) (by decide)
  have f157 := Nat.le_trans Z0 E150.1
  have f158 := f101.ext E150
  obtain ⟨_, _, ⟨T159, L159, k159, n159⟩, -, X159, ⟨Lc159, hQ159, l159, y159, z159⟩, st159⟩ := X150.specialBack hx (y := (⟨"com/example/millipede/millipede/CellRange", "<init>", "(JJJJ)V"⟩ : MethodName)) rfl hown (mvT hZ (own_i hw 4 rfl)) (mvT hZ (own_i hw 5 rfl)) (mvT hZ (own_i hw 6 rfl)) (by decide) (backOf (W := 1) (rm1 l Z a0 hw [] b150 v130 v136 v142 v148 h150 n0 f157 f153 f154 f155 f156 A150 ga151) hZ (own_i hw 6 rfl) (own_i hw 3 rfl) (by decide) (by decide)) (g := (mkF m 127 #[.val (.long q1), .second, .val (.long q2), .second, .val (.long q3), .second, .val (.long q4), .second, .val (.int p5), .val (.int v106), .val (.int v112), .val (.int v118), .val (.int v124), .val (.long v130), .second, .val (.long v136), .second, .val (.long v142), .second, .val (.long v148), .second, .unset, .unset] [(.long v148), (.long v142), (.long v136), (.long v130), (.ref b150), (.ref b150)])) rfl (by rw [hml]; rfl) (Steps.refl _) (a := b150) (argsL := [(.long v130), (.long v136), (.long v142), (.long v148)]) (rest := [(.ref b150)]) (lenOf pd_0 rfl) rfl (by show 2 * 0 + _ ≤ _; exact Nat.le_of_eq rfl) (hb hby at_127) (fun _ _ => ⟨rfl, e150, (by decide : 1 + 0 ≤ _), (by decide : 4 + 0 ≤ _)⟩)
  dsimp only [Pt.U, Pt.locs, Pt.cells, Pt.slots] at X159 l159 y159 z159 st159 hQ159
  subst l159 y159 z159
  obtain ⟨rfl, N159q, K159, f160, f161, f162, f163, f164⟩ := hQ159
  have N159 := Fr.app N0 N159q
  have f165 := Nat.le_trans f157 K159.1
  have f166 := f158.trans K159 (allS (Or.inr sz152) all0)
  have pre167 : ∀ t, Steps p.tables e below (T159.setTop (mkF m 132 #[.val (.long q1), .second, .val (.long q2), .second, .val (.long q3), .second, .val (.long q4), .second, .val (.int p5), .val (.int v106), .val (.int v112), .val (.int v118), .val (.int v124), .val (.long v130), .second, .val (.long v136), .second, .val (.long v142), .second, .val (.long v148), .second, .val (.ref b150), .unset] [])) t → Steps p.tables e below (s₁.setTop (entryFrame m #[(.long q1), (.long q2), (.long q3), (.long q4), (.int p5)] maxLocals)) t := fun t k => pre149 t (by
    show Steps p.tables e below (s₁.setTop (mkF m 115 #[.val (.long q1), .second, .val (.long q2), .second, .val (.long q3), .second, .val (.long q4), .second, .val (.int p5), .val (.int v106), .val (.int v112), .val (.int v118), .val (.int v124), .val (.long v130), .second, .val (.long v136), .second, .val (.long v142), .second, .val (.long v148), .second, .unset, .unset] [])) t
    refine st150 _ ?_
    show Steps p.tables e below (T150.setTop (mkF m 118 #[.val (.long q1), .second, .val (.long q2), .second, .val (.long q3), .second, .val (.long q4), .second, .val (.int p5), .val (.int v106), .val (.int v112), .val (.int v118), .val (.int v124), .val (.long v130), .second, .val (.long v136), .second, .val (.long v142), .second, .val (.long v148), .second, .unset, .unset] [(.ref b150)])) t
    refine XS.dup X150.here hx rfl (hb hby at_118) rfl rfl ?_
    show Steps p.tables e below (T150.setTop (mkF m 119 #[.val (.long q1), .second, .val (.long q2), .second, .val (.long q3), .second, .val (.long q4), .second, .val (.int p5), .val (.int v106), .val (.int v112), .val (.int v118), .val (.int v124), .val (.long v130), .second, .val (.long v136), .second, .val (.long v142), .second, .val (.long v148), .second, .unset, .unset] [(.ref b150), (.ref b150)])) t
    refine XS.lload X150.here hx rfl (hb hby at_119) rfl ?_
    show Steps p.tables e below (T150.setTop (mkF m 121 #[.val (.long q1), .second, .val (.long q2), .second, .val (.long q3), .second, .val (.long q4), .second, .val (.int p5), .val (.int v106), .val (.int v112), .val (.int v118), .val (.int v124), .val (.long v130), .second, .val (.long v136), .second, .val (.long v142), .second, .val (.long v148), .second, .unset, .unset] [(.long v130), (.ref b150), (.ref b150)])) t
    refine XS.lload X150.here hx rfl (hb hby at_121) rfl ?_
    show Steps p.tables e below (T150.setTop (mkF m 123 #[.val (.long q1), .second, .val (.long q2), .second, .val (.long q3), .second, .val (.long q4), .second, .val (.int p5), .val (.int v106), .val (.int v112), .val (.int v118), .val (.int v124), .val (.long v130), .second, .val (.long v136), .second, .val (.long v142), .second, .val (.long v148), .second, .unset, .unset] [(.long v136), (.long v130), (.ref b150), (.ref b150)])) t
    refine XS.lload X150.here hx rfl (hb hby at_123) rfl ?_
    show Steps p.tables e below (T150.setTop (mkF m 125 #[.val (.long q1), .second, .val (.long q2), .second, .val (.long q3), .second, .val (.long q4), .second, .val (.int p5), .val (.int v106), .val (.int v112), .val (.int v118), .val (.int v124), .val (.long v130), .second, .val (.long v136), .second, .val (.long v142), .second, .val (.long v148), .second, .unset, .unset] [(.long v142), (.long v136), (.long v130), (.ref b150), (.ref b150)])) t
    refine XS.lload X150.here hx rfl (hb hby at_125) rfl ?_
    show Steps p.tables e below (T150.setTop (mkF m 127 #[.val (.long q1), .second, .val (.long q2), .second, .val (.long q3), .second, .val (.long q4), .second, .val (.int p5), .val (.int v106), .val (.int v112), .val (.int v118), .val (.int v124), .val (.long v130), .second, .val (.long v136), .second, .val (.long v142), .second, .val (.long v148), .second, .unset, .unset] [(.long v148), (.long v142), (.long v136), (.long v130), (.ref b150), (.ref b150)])) t
    refine st159.trans ?_
    show Steps p.tables e below (T159.setTop (mkF m 130 #[.val (.long q1), .second, .val (.long q2), .second, .val (.long q3), .second, .val (.long q4), .second, .val (.int p5), .val (.int v106), .val (.int v112), .val (.int v118), .val (.int v124), .val (.long v130), .second, .val (.long v136), .second, .val (.long v142), .second, .val (.long v148), .second, .unset, .unset] [(.ref b150)])) t
    refine XS.astore X159.here hx rfl (hb hby at_130) rfl rfl (l' := #[.val (.long q1), .second, .val (.long q2), .second, .val (.long q3), .second, .val (.long q4), .second, .val (.int p5), .val (.int v106), .val (.int v112), .val (.int v118), .val (.int v124), .val (.long v130), .second, .val (.long v136), .second, .val (.long v142), .second, .val (.long v148), .second, .val (.ref b150), .unset]) rfl ?_
    exact k)
  obtain ⟨v193, hP194, pre194⟩ : ∃ (v193 : Int32), (((v106 = (0 : Int32)) ∧ (v112 = (0 : Int32)) ∧ (v118 = (0 : Int32)) ∧ (v124 = (0 : Int32)) ∧ (q1 = (-1 : Int64)) ∧ v193 = (1 : Int32)) ∨ ((v106 = (0 : Int32)) ∧ (v112 = (0 : Int32)) ∧ (v118 = (0 : Int32)) ∧ (v124 = (0 : Int32)) ∧ (¬ (q1 = (-1 : Int64))) ∧ (q2 = (-1 : Int64)) ∧ v193 = (1 : Int32)) ∨ ((v106 = (0 : Int32)) ∧ (v112 = (0 : Int32)) ∧ (v118 = (0 : Int32)) ∧ (v124 = (0 : Int32)) ∧ (¬ (q1 = (-1 : Int64))) ∧ (¬ (q2 = (-1 : Int64))) ∧ (q3 = (-1 : Int64)) ∧ v193 = (1 : Int32)) ∨ ((v106 = (0 : Int32)) ∧ (v112 = (0 : Int32)) ∧ (v118 = (0 : Int32)) ∧ (v124 = (0 : Int32)) ∧ (¬ (q1 = (-1 : Int64))) ∧ (¬ (q2 = (-1 : Int64))) ∧ (¬ (q3 = (-1 : Int64))) ∧ (q4 = (-1 : Int64)) ∧ v193 = (1 : Int32)) ∨ ((v106 = (0 : Int32)) ∧ (v112 = (0 : Int32)) ∧ (v118 = (0 : Int32)) ∧ (v124 = (0 : Int32)) ∧ (¬ (q1 = (-1 : Int64))) ∧ (¬ (q2 = (-1 : Int64))) ∧ (¬ (q3 = (-1 : Int64))) ∧ (¬ (q4 = (-1 : Int64))) ∧ v193 = (0 : Int32)) ∨ ((v106 = (0 : Int32)) ∧ (v112 = (0 : Int32)) ∧ (v118 = (0 : Int32)) ∧ (¬ (v124 = (0 : Int32))) ∧ v193 = (1 : Int32)) ∨ ((v106 = (0 : Int32)) ∧ (v112 = (0 : Int32)) ∧ (¬ (v118 = (0 : Int32))) ∧ v193 = (1 : Int32)) ∨ ((v106 = (0 : Int32)) ∧ (¬ (v112 = (0 : Int32))) ∧ v193 = (1 : Int32)) ∨ ((¬ (v106 = (0 : Int32))) ∧ v193 = (1 : Int32))) ∧ ∀ t, Steps p.tables e below (T159.setTop (mkF m 213 #[.val (.long q1), .second, .val (.long q2), .second, .val (.long q3), .second, .val (.long q4), .second, .val (.int p5), .val (.int v106), .val (.int v112), .val (.int v118), .val (.int v124), .val (.long v130), .second, .val (.long v136), .second, .val (.long v142), .second, .val (.long v148), .second, .val (.ref b150), .val (.int v193)] [])) t → Steps p.tables e below (s₁.setTop (entryFrame m #[(.long q1), (.long q2), (.long q3), (.long q4), (.int p5)] maxLocals)) t := by
    have pre169 : ∀ t, Steps p.tables e below (T159.setTop (mkF m 134 #[.val (.long q1), .second, .val (.long q2), .second, .val (.long q3), .second, .val (.long q4), .second, .val (.int p5), .val (.int v106), .val (.int v112), .val (.int v118), .val (.int v124), .val (.long v130), .second, .val (.long v136), .second, .val (.long v142), .second, .val (.long v148), .second, .val (.ref b150), .unset] [(.int v106)])) t → Steps p.tables e below (s₁.setTop (entryFrame m #[(.long q1), (.long q2), (.long q3), (.long q4), (.int p5)] maxLocals)) t := fun t k => pre167 t (by
      show Steps p.tables e below (T159.setTop (mkF m 132 #[.val (.long q1), .second, .val (.long q2), .second, .val (.long q3), .second, .val (.long q4), .second, .val (.int p5), .val (.int v106), .val (.int v112), .val (.int v118), .val (.int v124), .val (.long v130), .second, .val (.long v136), .second, .val (.long v142), .second, .val (.long v148), .second, .val (.ref b150), .unset] [])) t
      refine XS.iload X159.here hx rfl (hb hby at_132) rfl ?_
      exact k)
    by_cases hc168 : v106 = (0 : Int32)
    · have pre171 : ∀ t, Steps p.tables e below (T159.setTop (mkF m 139 #[.val (.long q1), .second, .val (.long q2), .second, .val (.long q3), .second, .val (.long q4), .second, .val (.int p5), .val (.int v106), .val (.int v112), .val (.int v118), .val (.int v124), .val (.long v130), .second, .val (.long v136), .second, .val (.long v142), .second, .val (.long v148), .second, .val (.ref b150), .unset] [(.int v112)])) t → Steps p.tables e below (s₁.setTop (entryFrame m #[(.long q1), (.long q2), (.long q3), (.long q4), (.int p5)] maxLocals)) t := fun t k => pre169 t (by
        show Steps p.tables e below (T159.setTop (mkF m 134 #[.val (.long q1), .second, .val (.long q2), .second, .val (.long q3), .second, .val (.long q4), .second, .val (.int p5), .val (.int v106), .val (.int v112), .val (.int v118), .val (.int v124), .val (.long v130), .second, .val (.long v136), .second, .val (.long v142), .second, .val (.long v148), .second, .val (.ref b150), .unset] [(.int v106)])) t
        refine XS.ifNo X159.here hx rfl (hb hby at_134) rfl ((if0 _ _).trans (teq hc168).2) ?_
        show Steps p.tables e below (T159.setTop (mkF m 137 #[.val (.long q1), .second, .val (.long q2), .second, .val (.long q3), .second, .val (.long q4), .second, .val (.int p5), .val (.int v106), .val (.int v112), .val (.int v118), .val (.int v124), .val (.long v130), .second, .val (.long v136), .second, .val (.long v142), .second, .val (.long v148), .second, .val (.ref b150), .unset] [])) t
        refine XS.iload X159.here hx rfl (hb hby at_137) rfl ?_
        exact k)
      by_cases hc170 : v112 = (0 : Int32)
      · have pre173 : ∀ t, Steps p.tables e below (T159.setTop (mkF m 144 #[.val (.long q1), .second, .val (.long q2), .second, .val (.long q3), .second, .val (.long q4), .second, .val (.int p5), .val (.int v106), .val (.int v112), .val (.int v118), .val (.int v124), .val (.long v130), .second, .val (.long v136), .second, .val (.long v142), .second, .val (.long v148), .second, .val (.ref b150), .unset] [(.int v118)])) t → Steps p.tables e below (s₁.setTop (entryFrame m #[(.long q1), (.long q2), (.long q3), (.long q4), (.int p5)] maxLocals)) t := fun t k => pre171 t (by
          show Steps p.tables e below (T159.setTop (mkF m 139 #[.val (.long q1), .second, .val (.long q2), .second, .val (.long q3), .second, .val (.long q4), .second, .val (.int p5), .val (.int v106), .val (.int v112), .val (.int v118), .val (.int v124), .val (.long v130), .second, .val (.long v136), .second, .val (.long v142), .second, .val (.long v148), .second, .val (.ref b150), .unset] [(.int v112)])) t
          refine XS.ifNo X159.here hx rfl (hb hby at_139) rfl ((if0 _ _).trans (teq hc170).2) ?_
          show Steps p.tables e below (T159.setTop (mkF m 142 #[.val (.long q1), .second, .val (.long q2), .second, .val (.long q3), .second, .val (.long q4), .second, .val (.int p5), .val (.int v106), .val (.int v112), .val (.int v118), .val (.int v124), .val (.long v130), .second, .val (.long v136), .second, .val (.long v142), .second, .val (.long v148), .second, .val (.ref b150), .unset] [])) t
          refine XS.iload X159.here hx rfl (hb hby at_142) rfl ?_
          exact k)
        by_cases hc172 : v118 = (0 : Int32)
        · have pre175 : ∀ t, Steps p.tables e below (T159.setTop (mkF m 149 #[.val (.long q1), .second, .val (.long q2), .second, .val (.long q3), .second, .val (.long q4), .second, .val (.int p5), .val (.int v106), .val (.int v112), .val (.int v118), .val (.int v124), .val (.long v130), .second, .val (.long v136), .second, .val (.long v142), .second, .val (.long v148), .second, .val (.ref b150), .unset] [(.int v124)])) t → Steps p.tables e below (s₁.setTop (entryFrame m #[(.long q1), (.long q2), (.long q3), (.long q4), (.int p5)] maxLocals)) t := fun t k => pre173 t (by
            show Steps p.tables e below (T159.setTop (mkF m 144 #[.val (.long q1), .second, .val (.long q2), .second, .val (.long q3), .second, .val (.long q4), .second, .val (.int p5), .val (.int v106), .val (.int v112), .val (.int v118), .val (.int v124), .val (.long v130), .second, .val (.long v136), .second, .val (.long v142), .second, .val (.long v148), .second, .val (.ref b150), .unset] [(.int v118)])) t
            refine XS.ifNo X159.here hx rfl (hb hby at_144) rfl ((if0 _ _).trans (teq hc172).2) ?_
            show Steps p.tables e below (T159.setTop (mkF m 147 #[.val (.long q1), .second, .val (.long q2), .second, .val (.long q3), .second, .val (.long q4), .second, .val (.int p5), .val (.int v106), .val (.int v112), .val (.int v118), .val (.int v124), .val (.long v130), .second, .val (.long v136), .second, .val (.long v142), .second, .val (.long v148), .second, .val (.ref b150), .unset] [])) t
            refine XS.iload X159.here hx rfl (hb hby at_147) rfl ?_
            exact k)
          by_cases hc174 : v124 = (0 : Int32)
          · have pre177 : ∀ t, Steps p.tables e below (T159.setTop (mkF m 162 #[.val (.long q1), .second, .val (.long q2), .second, .val (.long q3), .second, .val (.long q4), .second, .val (.int p5), .val (.int v106), .val (.int v112), .val (.int v118), .val (.int v124), .val (.long v130), .second, .val (.long v136), .second, .val (.long v142), .second, .val (.long v148), .second, .val (.ref b150), .unset] [(.int (lcmpW q1 (-1 : Int64)))])) t → Steps p.tables e below (s₁.setTop (entryFrame m #[(.long q1), (.long q2), (.long q3), (.long q4), (.int p5)] maxLocals)) t := fun t k => pre175 t (by
              show Steps p.tables e below (T159.setTop (mkF m 149 #[.val (.long q1), .second, .val (.long q2), .second, .val (.long q3), .second, .val (.long q4), .second, .val (.int p5), .val (.int v106), .val (.int v112), .val (.int v118), .val (.int v124), .val (.long v130), .second, .val (.long v136), .second, .val (.long v142), .second, .val (.long v148), .second, .val (.ref b150), .unset] [(.int v124)])) t
              refine XS.ifNo X159.here hx rfl (hb hby at_149) rfl ((if0 _ _).trans (teq hc174).2) ?_
              show Steps p.tables e below (T159.setTop (mkF m 152 #[.val (.long q1), .second, .val (.long q2), .second, .val (.long q3), .second, .val (.long q4), .second, .val (.int p5), .val (.int v106), .val (.int v112), .val (.int v118), .val (.int v124), .val (.long v130), .second, .val (.long v136), .second, .val (.long v142), .second, .val (.long v148), .second, .val (.ref b150), .unset] [])) t
              refine XS.iload X159.here hx rfl (hb hby at_152) rfl ?_
              show Steps p.tables e below (T159.setTop (mkF m 154 #[.val (.long q1), .second, .val (.long q2), .second, .val (.long q3), .second, .val (.long q4), .second, .val (.int p5), .val (.int v106), .val (.int v112), .val (.int v118), .val (.int v124), .val (.long v130), .second, .val (.long v136), .second, .val (.long v142), .second, .val (.long v148), .second, .val (.ref b150), .unset] [(.int v106)])) t
              refine XS.ifNo X159.here hx rfl (hb hby at_154) rfl ((if0 _ _).trans (teq hc168).2) ?_
              show Steps p.tables e below (T159.setTop (mkF m 157 #[.val (.long q1), .second, .val (.long q2), .second, .val (.long q3), .second, .val (.long q4), .second, .val (.int p5), .val (.int v106), .val (.int v112), .val (.int v118), .val (.int v124), .val (.long v130), .second, .val (.long v136), .second, .val (.long v142), .second, .val (.long v148), .second, .val (.ref b150), .unset] [])) t
              refine XS.lloadN X159.here hx rfl (hb hby at_157) rfl ?_
              show Steps p.tables e below (T159.setTop (mkF m 158 #[.val (.long q1), .second, .val (.long q2), .second, .val (.long q3), .second, .val (.long q4), .second, .val (.int p5), .val (.int v106), .val (.int v112), .val (.int v118), .val (.int v124), .val (.long v130), .second, .val (.long v136), .second, .val (.long v142), .second, .val (.long v148), .second, .val (.ref b150), .unset] [(.long q1)])) t
              refine X159.ldc2Long hx hown (mvT hZ (own_i hw 0 rfl)) (g := (mkF m 158 #[.val (.long q1), .second, .val (.long q2), .second, .val (.long q3), .second, .val (.long q4), .second, .val (.int p5), .val (.int v106), .val (.int v112), .val (.int v118), .val (.int v124), .val (.long v130), .second, .val (.long v136), .second, .val (.long v142), .second, .val (.long v148), .second, .val (.ref b150), .unset] [(.long q1)])) rfl (hb hby at_158) _ ?_
              show Steps p.tables e below (T159.setTop (mkF m 161 #[.val (.long q1), .second, .val (.long q2), .second, .val (.long q3), .second, .val (.long q4), .second, .val (.int p5), .val (.int v106), .val (.int v112), .val (.int v118), .val (.int v124), .val (.long v130), .second, .val (.long v136), .second, .val (.long v142), .second, .val (.long v148), .second, .val (.ref b150), .unset] [(.long (-1 : Int64)), (.long q1)])) t
              refine XS.lcmp X159.here hx rfl (hb hby at_161) rfl ?_
              exact k)
            by_cases hc176 : q1 = (-1 : Int64)
            · have pre178 : ∀ t, Steps p.tables e below (T159.setTop (mkF m 213 #[.val (.long q1), .second, .val (.long q2), .second, .val (.long q3), .second, .val (.long q4), .second, .val (.int p5), .val (.int v106), .val (.int v112), .val (.int v118), .val (.int v124), .val (.long v130), .second, .val (.long v136), .second, .val (.long v142), .second, .val (.long v148), .second, .val (.ref b150), .val (.int (1 : Int32))] [])) t → Steps p.tables e below (s₁.setTop (entryFrame m #[(.long q1), (.long q2), (.long q3), (.long q4), (.int p5)] maxLocals)) t := fun t k => pre177 t (by
                show Steps p.tables e below (T159.setTop (mkF m 162 #[.val (.long q1), .second, .val (.long q2), .second, .val (.long q3), .second, .val (.long q4), .second, .val (.int p5), .val (.int v106), .val (.int v112), .val (.int v118), .val (.int v124), .val (.long v130), .second, .val (.long v136), .second, .val (.long v142), .second, .val (.long v148), .second, .val (.ref b150), .unset] [(.int (lcmpW q1 (-1 : Int64)))])) t
                refine XS.ifYes X159.here hx rfl (pc0 := 162) (pc' := 206) rfl (hb hby at_162) rfl ((if0 _ _).trans (teq (show (lcmpW q1 (-1 : Int64)) = (0 : Int32) by rw [lcW]; exact (lc_eq _ _).mpr hc176)).1) (by decide) (by decide) ?_
                show Steps p.tables e below (T159.setTop (mkF m 206 #[.val (.long q1), .second, .val (.long q2), .second, .val (.long q3), .second, .val (.long q4), .second, .val (.int p5), .val (.int v106), .val (.int v112), .val (.int v118), .val (.int v124), .val (.long v130), .second, .val (.long v136), .second, .val (.long v142), .second, .val (.long v148), .second, .val (.ref b150), .unset] [])) t
                refine XS.iconst X159.here hx rfl (hb hby at_206) ?_
                show Steps p.tables e below (T159.setTop (mkF m 207 #[.val (.long q1), .second, .val (.long q2), .second, .val (.long q3), .second, .val (.long q4), .second, .val (.int p5), .val (.int v106), .val (.int v112), .val (.int v118), .val (.int v124), .val (.long v130), .second, .val (.long v136), .second, .val (.long v142), .second, .val (.long v148), .second, .val (.ref b150), .unset] [(.int (1 : Int32))])) t
                refine XS.goto X159.here hx rfl (pc0 := 207) (pc' := 211) rfl (hb hby at_207) (by decide) (by decide) ?_
                show Steps p.tables e below (T159.setTop (mkF m 211 #[.val (.long q1), .second, .val (.long q2), .second, .val (.long q3), .second, .val (.long q4), .second, .val (.int p5), .val (.int v106), .val (.int v112), .val (.int v118), .val (.int v124), .val (.long v130), .second, .val (.long v136), .second, .val (.long v142), .second, .val (.long v148), .second, .val (.ref b150), .unset] [(.int (1 : Int32))])) t
                refine XS.istore X159.here hx rfl (hb hby at_211) rfl (l' := #[.val (.long q1), .second, .val (.long q2), .second, .val (.long q3), .second, .val (.long q4), .second, .val (.int p5), .val (.int v106), .val (.int v112), .val (.int v118), .val (.int v124), .val (.long v130), .second, .val (.long v136), .second, .val (.long v142), .second, .val (.long v148), .second, .val (.ref b150), .val (.int (1 : Int32))]) rfl ?_
                exact k)
              exact ⟨(1 : Int32), (Or.inl ⟨hc168, hc170, hc172, hc174, hc176, rfl⟩), pre178⟩
            · have pre180 : ∀ t, Steps p.tables e below (T159.setTop (mkF m 175 #[.val (.long q1), .second, .val (.long q2), .second, .val (.long q3), .second, .val (.long q4), .second, .val (.int p5), .val (.int v106), .val (.int v112), .val (.int v118), .val (.int v124), .val (.long v130), .second, .val (.long v136), .second, .val (.long v142), .second, .val (.long v148), .second, .val (.ref b150), .unset] [(.int (lcmpW q2 (-1 : Int64)))])) t → Steps p.tables e below (s₁.setTop (entryFrame m #[(.long q1), (.long q2), (.long q3), (.long q4), (.int p5)] maxLocals)) t := fun t k => pre177 t (by
                show Steps p.tables e below (T159.setTop (mkF m 162 #[.val (.long q1), .second, .val (.long q2), .second, .val (.long q3), .second, .val (.long q4), .second, .val (.int p5), .val (.int v106), .val (.int v112), .val (.int v118), .val (.int v124), .val (.long v130), .second, .val (.long v136), .second, .val (.long v142), .second, .val (.long v148), .second, .val (.ref b150), .unset] [(.int (lcmpW q1 (-1 : Int64)))])) t
                refine XS.ifNo X159.here hx rfl (hb hby at_162) rfl ((if0 _ _).trans (feq (show ¬ ((lcmpW q1 (-1 : Int64)) = (0 : Int32)) by rw [lcW]; exact fun q => hc176 ((lc_eq _ _).mp q))).1) ?_
                show Steps p.tables e below (T159.setTop (mkF m 165 #[.val (.long q1), .second, .val (.long q2), .second, .val (.long q3), .second, .val (.long q4), .second, .val (.int p5), .val (.int v106), .val (.int v112), .val (.int v118), .val (.int v124), .val (.long v130), .second, .val (.long v136), .second, .val (.long v142), .second, .val (.long v148), .second, .val (.ref b150), .unset] [])) t
                refine XS.iload X159.here hx rfl (hb hby at_165) rfl ?_
                show Steps p.tables e below (T159.setTop (mkF m 167 #[.val (.long q1), .second, .val (.long q2), .second, .val (.long q3), .second, .val (.long q4), .second, .val (.int p5), .val (.int v106), .val (.int v112), .val (.int v118), .val (.int v124), .val (.long v130), .second, .val (.long v136), .second, .val (.long v142), .second, .val (.long v148), .second, .val (.ref b150), .unset] [(.int v112)])) t
                refine XS.ifNo X159.here hx rfl (hb hby at_167) rfl ((if0 _ _).trans (teq hc170).2) ?_
                show Steps p.tables e below (T159.setTop (mkF m 170 #[.val (.long q1), .second, .val (.long q2), .second, .val (.long q3), .second, .val (.long q4), .second, .val (.int p5), .val (.int v106), .val (.int v112), .val (.int v118), .val (.int v124), .val (.long v130), .second, .val (.long v136), .second, .val (.long v142), .second, .val (.long v148), .second, .val (.ref b150), .unset] [])) t
                refine XS.lloadN X159.here hx rfl (hb hby at_170) rfl ?_
                show Steps p.tables e below (T159.setTop (mkF m 171 #[.val (.long q1), .second, .val (.long q2), .second, .val (.long q3), .second, .val (.long q4), .second, .val (.int p5), .val (.int v106), .val (.int v112), .val (.int v118), .val (.int v124), .val (.long v130), .second, .val (.long v136), .second, .val (.long v142), .second, .val (.long v148), .second, .val (.ref b150), .unset] [(.long q2)])) t
                refine X159.ldc2Long hx hown (mvT hZ (own_i hw 0 rfl)) (g := (mkF m 171 #[.val (.long q1), .second, .val (.long q2), .second, .val (.long q3), .second, .val (.long q4), .second, .val (.int p5), .val (.int v106), .val (.int v112), .val (.int v118), .val (.int v124), .val (.long v130), .second, .val (.long v136), .second, .val (.long v142), .second, .val (.long v148), .second, .val (.ref b150), .unset] [(.long q2)])) rfl (hb hby at_171) _ ?_
                show Steps p.tables e below (T159.setTop (mkF m 174 #[.val (.long q1), .second, .val (.long q2), .second, .val (.long q3), .second, .val (.long q4), .second, .val (.int p5), .val (.int v106), .val (.int v112), .val (.int v118), .val (.int v124), .val (.long v130), .second, .val (.long v136), .second, .val (.long v142), .second, .val (.long v148), .second, .val (.ref b150), .unset] [(.long (-1 : Int64)), (.long q2)])) t
                refine XS.lcmp X159.here hx rfl (hb hby at_174) rfl ?_
                exact k)
              by_cases hc179 : q2 = (-1 : Int64)
              · have pre181 : ∀ t, Steps p.tables e below (T159.setTop (mkF m 213 #[.val (.long q1), .second, .val (.long q2), .second, .val (.long q3), .second, .val (.long q4), .second, .val (.int p5), .val (.int v106), .val (.int v112), .val (.int v118), .val (.int v124), .val (.long v130), .second, .val (.long v136), .second, .val (.long v142), .second, .val (.long v148), .second, .val (.ref b150), .val (.int (1 : Int32))] [])) t → Steps p.tables e below (s₁.setTop (entryFrame m #[(.long q1), (.long q2), (.long q3), (.long q4), (.int p5)] maxLocals)) t := fun t k => pre180 t (by
                  show Steps p.tables e below (T159.setTop (mkF m 175 #[.val (.long q1), .second, .val (.long q2), .second, .val (.long q3), .second, .val (.long q4), .second, .val (.int p5), .val (.int v106), .val (.int v112), .val (.int v118), .val (.int v124), .val (.long v130), .second, .val (.long v136), .second, .val (.long v142), .second, .val (.long v148), .second, .val (.ref b150), .unset] [(.int (lcmpW q2 (-1 : Int64)))])) t
                  refine XS.ifYes X159.here hx rfl (pc0 := 175) (pc' := 206) rfl (hb hby at_175) rfl ((if0 _ _).trans (teq (show (lcmpW q2 (-1 : Int64)) = (0 : Int32) by rw [lcW]; exact (lc_eq _ _).mpr hc179)).1) (by decide) (by decide) ?_
                  show Steps p.tables e below (T159.setTop (mkF m 206 #[.val (.long q1), .second, .val (.long q2), .second, .val (.long q3), .second, .val (.long q4), .second, .val (.int p5), .val (.int v106), .val (.int v112), .val (.int v118), .val (.int v124), .val (.long v130), .second, .val (.long v136), .second, .val (.long v142), .second, .val (.long v148), .second, .val (.ref b150), .unset] [])) t
                  refine XS.iconst X159.here hx rfl (hb hby at_206) ?_
                  show Steps p.tables e below (T159.setTop (mkF m 207 #[.val (.long q1), .second, .val (.long q2), .second, .val (.long q3), .second, .val (.long q4), .second, .val (.int p5), .val (.int v106), .val (.int v112), .val (.int v118), .val (.int v124), .val (.long v130), .second, .val (.long v136), .second, .val (.long v142), .second, .val (.long v148), .second, .val (.ref b150), .unset] [(.int (1 : Int32))])) t
                  refine XS.goto X159.here hx rfl (pc0 := 207) (pc' := 211) rfl (hb hby at_207) (by decide) (by decide) ?_
                  show Steps p.tables e below (T159.setTop (mkF m 211 #[.val (.long q1), .second, .val (.long q2), .second, .val (.long q3), .second, .val (.long q4), .second, .val (.int p5), .val (.int v106), .val (.int v112), .val (.int v118), .val (.int v124), .val (.long v130), .second, .val (.long v136), .second, .val (.long v142), .second, .val (.long v148), .second, .val (.ref b150), .unset] [(.int (1 : Int32))])) t
                  refine XS.istore X159.here hx rfl (hb hby at_211) rfl (l' := #[.val (.long q1), .second, .val (.long q2), .second, .val (.long q3), .second, .val (.long q4), .second, .val (.int p5), .val (.int v106), .val (.int v112), .val (.int v118), .val (.int v124), .val (.long v130), .second, .val (.long v136), .second, .val (.long v142), .second, .val (.long v148), .second, .val (.ref b150), .val (.int (1 : Int32))]) rfl ?_
                  exact k)
                exact ⟨(1 : Int32), (Or.inr (Or.inl ⟨hc168, hc170, hc172, hc174, hc176, hc179, rfl⟩)), pre181⟩
              · have pre183 : ∀ t, Steps p.tables e below (T159.setTop (mkF m 189 #[.val (.long q1), .second, .val (.long q2), .second, .val (.long q3), .second, .val (.long q4), .second, .val (.int p5), .val (.int v106), .val (.int v112), .val (.int v118), .val (.int v124), .val (.long v130), .second, .val (.long v136), .second, .val (.long v142), .second, .val (.long v148), .second, .val (.ref b150), .unset] [(.int (lcmpW q3 (-1 : Int64)))])) t → Steps p.tables e below (s₁.setTop (entryFrame m #[(.long q1), (.long q2), (.long q3), (.long q4), (.int p5)] maxLocals)) t := fun t k => pre180 t (by
                  show Steps p.tables e below (T159.setTop (mkF m 175 #[.val (.long q1), .second, .val (.long q2), .second, .val (.long q3), .second, .val (.long q4), .second, .val (.int p5), .val (.int v106), .val (.int v112), .val (.int v118), .val (.int v124), .val (.long v130), .second, .val (.long v136), .second, .val (.long v142), .second, .val (.long v148), .second, .val (.ref b150), .unset] [(.int (lcmpW q2 (-1 : Int64)))])) t
                  refine XS.ifNo X159.here hx rfl (hb hby at_175) rfl ((if0 _ _).trans (feq (show ¬ ((lcmpW q2 (-1 : Int64)) = (0 : Int32)) by rw [lcW]; exact fun q => hc179 ((lc_eq _ _).mp q))).1) ?_
                  show Steps p.tables e below (T159.setTop (mkF m 178 #[.val (.long q1), .second, .val (.long q2), .second, .val (.long q3), .second, .val (.long q4), .second, .val (.int p5), .val (.int v106), .val (.int v112), .val (.int v118), .val (.int v124), .val (.long v130), .second, .val (.long v136), .second, .val (.long v142), .second, .val (.long v148), .second, .val (.ref b150), .unset] [])) t
                  refine XS.iload X159.here hx rfl (hb hby at_178) rfl ?_
                  show Steps p.tables e below (T159.setTop (mkF m 180 #[.val (.long q1), .second, .val (.long q2), .second, .val (.long q3), .second, .val (.long q4), .second, .val (.int p5), .val (.int v106), .val (.int v112), .val (.int v118), .val (.int v124), .val (.long v130), .second, .val (.long v136), .second, .val (.long v142), .second, .val (.long v148), .second, .val (.ref b150), .unset] [(.int v118)])) t
                  refine XS.ifNo X159.here hx rfl (hb hby at_180) rfl ((if0 _ _).trans (teq hc172).2) ?_
                  show Steps p.tables e below (T159.setTop (mkF m 183 #[.val (.long q1), .second, .val (.long q2), .second, .val (.long q3), .second, .val (.long q4), .second, .val (.int p5), .val (.int v106), .val (.int v112), .val (.int v118), .val (.int v124), .val (.long v130), .second, .val (.long v136), .second, .val (.long v142), .second, .val (.long v148), .second, .val (.ref b150), .unset] [])) t
                  refine XS.lload X159.here hx rfl (hb hby at_183) rfl ?_
                  show Steps p.tables e below (T159.setTop (mkF m 185 #[.val (.long q1), .second, .val (.long q2), .second, .val (.long q3), .second, .val (.long q4), .second, .val (.int p5), .val (.int v106), .val (.int v112), .val (.int v118), .val (.int v124), .val (.long v130), .second, .val (.long v136), .second, .val (.long v142), .second, .val (.long v148), .second, .val (.ref b150), .unset] [(.long q3)])) t
                  refine X159.ldc2Long hx hown (mvT hZ (own_i hw 0 rfl)) (g := (mkF m 185 #[.val (.long q1), .second, .val (.long q2), .second, .val (.long q3), .second, .val (.long q4), .second, .val (.int p5), .val (.int v106), .val (.int v112), .val (.int v118), .val (.int v124), .val (.long v130), .second, .val (.long v136), .second, .val (.long v142), .second, .val (.long v148), .second, .val (.ref b150), .unset] [(.long q3)])) rfl (hb hby at_185) _ ?_
                  show Steps p.tables e below (T159.setTop (mkF m 188 #[.val (.long q1), .second, .val (.long q2), .second, .val (.long q3), .second, .val (.long q4), .second, .val (.int p5), .val (.int v106), .val (.int v112), .val (.int v118), .val (.int v124), .val (.long v130), .second, .val (.long v136), .second, .val (.long v142), .second, .val (.long v148), .second, .val (.ref b150), .unset] [(.long (-1 : Int64)), (.long q3)])) t
                  refine XS.lcmp X159.here hx rfl (hb hby at_188) rfl ?_
                  exact k)
                by_cases hc182 : q3 = (-1 : Int64)
                · have pre184 : ∀ t, Steps p.tables e below (T159.setTop (mkF m 213 #[.val (.long q1), .second, .val (.long q2), .second, .val (.long q3), .second, .val (.long q4), .second, .val (.int p5), .val (.int v106), .val (.int v112), .val (.int v118), .val (.int v124), .val (.long v130), .second, .val (.long v136), .second, .val (.long v142), .second, .val (.long v148), .second, .val (.ref b150), .val (.int (1 : Int32))] [])) t → Steps p.tables e below (s₁.setTop (entryFrame m #[(.long q1), (.long q2), (.long q3), (.long q4), (.int p5)] maxLocals)) t := fun t k => pre183 t (by
                    show Steps p.tables e below (T159.setTop (mkF m 189 #[.val (.long q1), .second, .val (.long q2), .second, .val (.long q3), .second, .val (.long q4), .second, .val (.int p5), .val (.int v106), .val (.int v112), .val (.int v118), .val (.int v124), .val (.long v130), .second, .val (.long v136), .second, .val (.long v142), .second, .val (.long v148), .second, .val (.ref b150), .unset] [(.int (lcmpW q3 (-1 : Int64)))])) t
                    refine XS.ifYes X159.here hx rfl (pc0 := 189) (pc' := 206) rfl (hb hby at_189) rfl ((if0 _ _).trans (teq (show (lcmpW q3 (-1 : Int64)) = (0 : Int32) by rw [lcW]; exact (lc_eq _ _).mpr hc182)).1) (by decide) (by decide) ?_
                    show Steps p.tables e below (T159.setTop (mkF m 206 #[.val (.long q1), .second, .val (.long q2), .second, .val (.long q3), .second, .val (.long q4), .second, .val (.int p5), .val (.int v106), .val (.int v112), .val (.int v118), .val (.int v124), .val (.long v130), .second, .val (.long v136), .second, .val (.long v142), .second, .val (.long v148), .second, .val (.ref b150), .unset] [])) t
                    refine XS.iconst X159.here hx rfl (hb hby at_206) ?_
                    show Steps p.tables e below (T159.setTop (mkF m 207 #[.val (.long q1), .second, .val (.long q2), .second, .val (.long q3), .second, .val (.long q4), .second, .val (.int p5), .val (.int v106), .val (.int v112), .val (.int v118), .val (.int v124), .val (.long v130), .second, .val (.long v136), .second, .val (.long v142), .second, .val (.long v148), .second, .val (.ref b150), .unset] [(.int (1 : Int32))])) t
                    refine XS.goto X159.here hx rfl (pc0 := 207) (pc' := 211) rfl (hb hby at_207) (by decide) (by decide) ?_
                    show Steps p.tables e below (T159.setTop (mkF m 211 #[.val (.long q1), .second, .val (.long q2), .second, .val (.long q3), .second, .val (.long q4), .second, .val (.int p5), .val (.int v106), .val (.int v112), .val (.int v118), .val (.int v124), .val (.long v130), .second, .val (.long v136), .second, .val (.long v142), .second, .val (.long v148), .second, .val (.ref b150), .unset] [(.int (1 : Int32))])) t
                    refine XS.istore X159.here hx rfl (hb hby at_211) rfl (l' := #[.val (.long q1), .second, .val (.long q2), .second, .val (.long q3), .second, .val (.long q4), .second, .val (.int p5), .val (.int v106), .val (.int v112), .val (.int v118), .val (.int v124), .val (.long v130), .second, .val (.long v136), .second, .val (.long v142), .second, .val (.long v148), .second, .val (.ref b150), .val (.int (1 : Int32))]) rfl ?_
                    exact k)
                  exact ⟨(1 : Int32), (Or.inr (Or.inr (Or.inl ⟨hc168, hc170, hc172, hc174, hc176, hc179, hc182, rfl⟩))), pre184⟩
                · have pre186 : ∀ t, Steps p.tables e below (T159.setTop (mkF m 203 #[.val (.long q1), .second, .val (.long q2), .second, .val (.long q3), .second, .val (.long q4), .second, .val (.int p5), .val (.int v106), .val (.int v112), .val (.int v118), .val (.int v124), .val (.long v130), .second, .val (.long v136), .second, .val (.long v142), .second, .val (.long v148), .second, .val (.ref b150), .unset] [(.int (lcmpW q4 (-1 : Int64)))])) t → Steps p.tables e below (s₁.setTop (entryFrame m #[(.long q1), (.long q2), (.long q3), (.long q4), (.int p5)] maxLocals)) t := fun t k => pre183 t (by
                    show Steps p.tables e below (T159.setTop (mkF m 189 #[.val (.long q1), .second, .val (.long q2), .second, .val (.long q3), .second, .val (.long q4), .second, .val (.int p5), .val (.int v106), .val (.int v112), .val (.int v118), .val (.int v124), .val (.long v130), .second, .val (.long v136), .second, .val (.long v142), .second, .val (.long v148), .second, .val (.ref b150), .unset] [(.int (lcmpW q3 (-1 : Int64)))])) t
                    refine XS.ifNo X159.here hx rfl (hb hby at_189) rfl ((if0 _ _).trans (feq (show ¬ ((lcmpW q3 (-1 : Int64)) = (0 : Int32)) by rw [lcW]; exact fun q => hc182 ((lc_eq _ _).mp q))).1) ?_
                    show Steps p.tables e below (T159.setTop (mkF m 192 #[.val (.long q1), .second, .val (.long q2), .second, .val (.long q3), .second, .val (.long q4), .second, .val (.int p5), .val (.int v106), .val (.int v112), .val (.int v118), .val (.int v124), .val (.long v130), .second, .val (.long v136), .second, .val (.long v142), .second, .val (.long v148), .second, .val (.ref b150), .unset] [])) t
                    refine XS.iload X159.here hx rfl (hb hby at_192) rfl ?_
                    show Steps p.tables e below (T159.setTop (mkF m 194 #[.val (.long q1), .second, .val (.long q2), .second, .val (.long q3), .second, .val (.long q4), .second, .val (.int p5), .val (.int v106), .val (.int v112), .val (.int v118), .val (.int v124), .val (.long v130), .second, .val (.long v136), .second, .val (.long v142), .second, .val (.long v148), .second, .val (.ref b150), .unset] [(.int v124)])) t
                    refine XS.ifNo X159.here hx rfl (hb hby at_194) rfl ((if0 _ _).trans (teq hc174).2) ?_
                    show Steps p.tables e below (T159.setTop (mkF m 197 #[.val (.long q1), .second, .val (.long q2), .second, .val (.long q3), .second, .val (.long q4), .second, .val (.int p5), .val (.int v106), .val (.int v112), .val (.int v118), .val (.int v124), .val (.long v130), .second, .val (.long v136), .second, .val (.long v142), .second, .val (.long v148), .second, .val (.ref b150), .unset] [])) t
                    refine XS.lload X159.here hx rfl (hb hby at_197) rfl ?_
                    show Steps p.tables e below (T159.setTop (mkF m 199 #[.val (.long q1), .second, .val (.long q2), .second, .val (.long q3), .second, .val (.long q4), .second, .val (.int p5), .val (.int v106), .val (.int v112), .val (.int v118), .val (.int v124), .val (.long v130), .second, .val (.long v136), .second, .val (.long v142), .second, .val (.long v148), .second, .val (.ref b150), .unset] [(.long q4)])) t
                    refine X159.ldc2Long hx hown (mvT hZ (own_i hw 0 rfl)) (g := (mkF m 199 #[.val (.long q1), .second, .val (.long q2), .second, .val (.long q3), .second, .val (.long q4), .second, .val (.int p5), .val (.int v106), .val (.int v112), .val (.int v118), .val (.int v124), .val (.long v130), .second, .val (.long v136), .second, .val (.long v142), .second, .val (.long v148), .second, .val (.ref b150), .unset] [(.long q4)])) rfl (hb hby at_199) _ ?_
                    show Steps p.tables e below (T159.setTop (mkF m 202 #[.val (.long q1), .second, .val (.long q2), .second, .val (.long q3), .second, .val (.long q4), .second, .val (.int p5), .val (.int v106), .val (.int v112), .val (.int v118), .val (.int v124), .val (.long v130), .second, .val (.long v136), .second, .val (.long v142), .second, .val (.long v148), .second, .val (.ref b150), .unset] [(.long (-1 : Int64)), (.long q4)])) t
                    refine XS.lcmp X159.here hx rfl (hb hby at_202) rfl ?_
                    exact k)
                  by_cases hc185 : q4 = (-1 : Int64)
                  · have pre187 : ∀ t, Steps p.tables e below (T159.setTop (mkF m 213 #[.val (.long q1), .second, .val (.long q2), .second, .val (.long q3), .second, .val (.long q4), .second, .val (.int p5), .val (.int v106), .val (.int v112), .val (.int v118), .val (.int v124), .val (.long v130), .second, .val (.long v136), .second, .val (.long v142), .second, .val (.long v148), .second, .val (.ref b150), .val (.int (1 : Int32))] [])) t → Steps p.tables e below (s₁.setTop (entryFrame m #[(.long q1), (.long q2), (.long q3), (.long q4), (.int p5)] maxLocals)) t := fun t k => pre186 t (by
                      show Steps p.tables e below (T159.setTop (mkF m 203 #[.val (.long q1), .second, .val (.long q2), .second, .val (.long q3), .second, .val (.long q4), .second, .val (.int p5), .val (.int v106), .val (.int v112), .val (.int v118), .val (.int v124), .val (.long v130), .second, .val (.long v136), .second, .val (.long v142), .second, .val (.long v148), .second, .val (.ref b150), .unset] [(.int (lcmpW q4 (-1 : Int64)))])) t
                      refine XS.ifNo X159.here hx rfl (hb hby at_203) rfl ((if0 _ _).trans (teq (show (lcmpW q4 (-1 : Int64)) = (0 : Int32) by rw [lcW]; exact (lc_eq _ _).mpr hc185)).2) ?_
                      show Steps p.tables e below (T159.setTop (mkF m 206 #[.val (.long q1), .second, .val (.long q2), .second, .val (.long q3), .second, .val (.long q4), .second, .val (.int p5), .val (.int v106), .val (.int v112), .val (.int v118), .val (.int v124), .val (.long v130), .second, .val (.long v136), .second, .val (.long v142), .second, .val (.long v148), .second, .val (.ref b150), .unset] [])) t
                      refine XS.iconst X159.here hx rfl (hb hby at_206) ?_
                      show Steps p.tables e below (T159.setTop (mkF m 207 #[.val (.long q1), .second, .val (.long q2), .second, .val (.long q3), .second, .val (.long q4), .second, .val (.int p5), .val (.int v106), .val (.int v112), .val (.int v118), .val (.int v124), .val (.long v130), .second, .val (.long v136), .second, .val (.long v142), .second, .val (.long v148), .second, .val (.ref b150), .unset] [(.int (1 : Int32))])) t
                      refine XS.goto X159.here hx rfl (pc0 := 207) (pc' := 211) rfl (hb hby at_207) (by decide) (by decide) ?_
                      show Steps p.tables e below (T159.setTop (mkF m 211 #[.val (.long q1), .second, .val (.long q2), .second, .val (.long q3), .second, .val (.long q4), .second, .val (.int p5), .val (.int v106), .val (.int v112), .val (.int v118), .val (.int v124), .val (.long v130), .second, .val (.long v136), .second, .val (.long v142), .second, .val (.long v148), .second, .val (.ref b150), .unset] [(.int (1 : Int32))])) t
                      refine XS.istore X159.here hx rfl (hb hby at_211) rfl (l' := #[.val (.long q1), .second, .val (.long q2), .second, .val (.long q3), .second, .val (.long q4), .second, .val (.int p5), .val (.int v106), .val (.int v112), .val (.int v118), .val (.int v124), .val (.long v130), .second, .val (.long v136), .second, .val (.long v142), .second, .val (.long v148), .second, .val (.ref b150), .val (.int (1 : Int32))]) rfl ?_
                      exact k)
                    exact ⟨(1 : Int32), (Or.inr (Or.inr (Or.inr (Or.inl ⟨hc168, hc170, hc172, hc174, hc176, hc179, hc182, hc185, rfl⟩)))), pre187⟩
                  · have pre188 : ∀ t, Steps p.tables e below (T159.setTop (mkF m 213 #[.val (.long q1), .second, .val (.long q2), .second, .val (.long q3), .second, .val (.long q4), .second, .val (.int p5), .val (.int v106), .val (.int v112), .val (.int v118), .val (.int v124), .val (.long v130), .second, .val (.long v136), .second, .val (.long v142), .second, .val (.long v148), .second, .val (.ref b150), .val (.int (0 : Int32))] [])) t → Steps p.tables e below (s₁.setTop (entryFrame m #[(.long q1), (.long q2), (.long q3), (.long q4), (.int p5)] maxLocals)) t := fun t k => pre186 t (by
                      show Steps p.tables e below (T159.setTop (mkF m 203 #[.val (.long q1), .second, .val (.long q2), .second, .val (.long q3), .second, .val (.long q4), .second, .val (.int p5), .val (.int v106), .val (.int v112), .val (.int v118), .val (.int v124), .val (.long v130), .second, .val (.long v136), .second, .val (.long v142), .second, .val (.long v148), .second, .val (.ref b150), .unset] [(.int (lcmpW q4 (-1 : Int64)))])) t
                      refine XS.ifYes X159.here hx rfl (pc0 := 203) (pc' := 210) rfl (hb hby at_203) rfl ((if0 _ _).trans (feq (show ¬ ((lcmpW q4 (-1 : Int64)) = (0 : Int32)) by rw [lcW]; exact fun q => hc185 ((lc_eq _ _).mp q))).2) (by decide) (by decide) ?_
                      show Steps p.tables e below (T159.setTop (mkF m 210 #[.val (.long q1), .second, .val (.long q2), .second, .val (.long q3), .second, .val (.long q4), .second, .val (.int p5), .val (.int v106), .val (.int v112), .val (.int v118), .val (.int v124), .val (.long v130), .second, .val (.long v136), .second, .val (.long v142), .second, .val (.long v148), .second, .val (.ref b150), .unset] [])) t
                      refine XS.iconst X159.here hx rfl (hb hby at_210) ?_
                      show Steps p.tables e below (T159.setTop (mkF m 211 #[.val (.long q1), .second, .val (.long q2), .second, .val (.long q3), .second, .val (.long q4), .second, .val (.int p5), .val (.int v106), .val (.int v112), .val (.int v118), .val (.int v124), .val (.long v130), .second, .val (.long v136), .second, .val (.long v142), .second, .val (.long v148), .second, .val (.ref b150), .unset] [(.int (0 : Int32))])) t
                      refine XS.istore X159.here hx rfl (hb hby at_211) rfl (l' := #[.val (.long q1), .second, .val (.long q2), .second, .val (.long q3), .second, .val (.long q4), .second, .val (.int p5), .val (.int v106), .val (.int v112), .val (.int v118), .val (.int v124), .val (.long v130), .second, .val (.long v136), .second, .val (.long v142), .second, .val (.long v148), .second, .val (.ref b150), .val (.int (0 : Int32))]) rfl ?_
                      exact k)
                    exact ⟨(0 : Int32), (Or.inr (Or.inr (Or.inr (Or.inr (Or.inl ⟨hc168, hc170, hc172, hc174, hc176, hc179, hc182, hc185, rfl⟩))))), pre188⟩
          · have pre189 : ∀ t, Steps p.tables e below (T159.setTop (mkF m 213 #[.val (.long q1), .second, .val (.long q2), .second, .val (.long q3), .second, .val (.long q4), .second, .val (.int p5), .val (.int v106), .val (.int v112), .val (.int v118), .val (.int v124), .val (.long v130), .second, .val (.long v136), .second, .val (.long v142), .second, .val (.long v148), .second, .val (.ref b150), .val (.int (1 : Int32))] [])) t → Steps p.tables e below (s₁.setTop (entryFrame m #[(.long q1), (.long q2), (.long q3), (.long q4), (.int p5)] maxLocals)) t := fun t k => pre175 t (by
              show Steps p.tables e below (T159.setTop (mkF m 149 #[.val (.long q1), .second, .val (.long q2), .second, .val (.long q3), .second, .val (.long q4), .second, .val (.int p5), .val (.int v106), .val (.int v112), .val (.int v118), .val (.int v124), .val (.long v130), .second, .val (.long v136), .second, .val (.long v142), .second, .val (.long v148), .second, .val (.ref b150), .unset] [(.int v124)])) t
              refine XS.ifYes X159.here hx rfl (pc0 := 149) (pc' := 206) rfl (hb hby at_149) rfl ((if0 _ _).trans (feq hc174).2) (by decide) (by decide) ?_
              show Steps p.tables e below (T159.setTop (mkF m 206 #[.val (.long q1), .second, .val (.long q2), .second, .val (.long q3), .second, .val (.long q4), .second, .val (.int p5), .val (.int v106), .val (.int v112), .val (.int v118), .val (.int v124), .val (.long v130), .second, .val (.long v136), .second, .val (.long v142), .second, .val (.long v148), .second, .val (.ref b150), .unset] [])) t
              refine XS.iconst X159.here hx rfl (hb hby at_206) ?_
              show Steps p.tables e below (T159.setTop (mkF m 207 #[.val (.long q1), .second, .val (.long q2), .second, .val (.long q3), .second, .val (.long q4), .second, .val (.int p5), .val (.int v106), .val (.int v112), .val (.int v118), .val (.int v124), .val (.long v130), .second, .val (.long v136), .second, .val (.long v142), .second, .val (.long v148), .second, .val (.ref b150), .unset] [(.int (1 : Int32))])) t
              refine XS.goto X159.here hx rfl (pc0 := 207) (pc' := 211) rfl (hb hby at_207) (by decide) (by decide) ?_
              show Steps p.tables e below (T159.setTop (mkF m 211 #[.val (.long q1), .second, .val (.long q2), .second, .val (.long q3), .second, .val (.long q4), .second, .val (.int p5), .val (.int v106), .val (.int v112), .val (.int v118), .val (.int v124), .val (.long v130), .second, .val (.long v136), .second, .val (.long v142), .second, .val (.long v148), .second, .val (.ref b150), .unset] [(.int (1 : Int32))])) t
              refine XS.istore X159.here hx rfl (hb hby at_211) rfl (l' := #[.val (.long q1), .second, .val (.long q2), .second, .val (.long q3), .second, .val (.long q4), .second, .val (.int p5), .val (.int v106), .val (.int v112), .val (.int v118), .val (.int v124), .val (.long v130), .second, .val (.long v136), .second, .val (.long v142), .second, .val (.long v148), .second, .val (.ref b150), .val (.int (1 : Int32))]) rfl ?_
              exact k)
            exact ⟨(1 : Int32), (Or.inr (Or.inr (Or.inr (Or.inr (Or.inr (Or.inl ⟨hc168, hc170, hc172, hc174, rfl⟩)))))), pre189⟩
        · have pre190 : ∀ t, Steps p.tables e below (T159.setTop (mkF m 213 #[.val (.long q1), .second, .val (.long q2), .second, .val (.long q3), .second, .val (.long q4), .second, .val (.int p5), .val (.int v106), .val (.int v112), .val (.int v118), .val (.int v124), .val (.long v130), .second, .val (.long v136), .second, .val (.long v142), .second, .val (.long v148), .second, .val (.ref b150), .val (.int (1 : Int32))] [])) t → Steps p.tables e below (s₁.setTop (entryFrame m #[(.long q1), (.long q2), (.long q3), (.long q4), (.int p5)] maxLocals)) t := fun t k => pre173 t (by
            show Steps p.tables e below (T159.setTop (mkF m 144 #[.val (.long q1), .second, .val (.long q2), .second, .val (.long q3), .second, .val (.long q4), .second, .val (.int p5), .val (.int v106), .val (.int v112), .val (.int v118), .val (.int v124), .val (.long v130), .second, .val (.long v136), .second, .val (.long v142), .second, .val (.long v148), .second, .val (.ref b150), .unset] [(.int v118)])) t
            refine XS.ifYes X159.here hx rfl (pc0 := 144) (pc' := 206) rfl (hb hby at_144) rfl ((if0 _ _).trans (feq hc172).2) (by decide) (by decide) ?_
            show Steps p.tables e below (T159.setTop (mkF m 206 #[.val (.long q1), .second, .val (.long q2), .second, .val (.long q3), .second, .val (.long q4), .second, .val (.int p5), .val (.int v106), .val (.int v112), .val (.int v118), .val (.int v124), .val (.long v130), .second, .val (.long v136), .second, .val (.long v142), .second, .val (.long v148), .second, .val (.ref b150), .unset] [])) t
            refine XS.iconst X159.here hx rfl (hb hby at_206) ?_
            show Steps p.tables e below (T159.setTop (mkF m 207 #[.val (.long q1), .second, .val (.long q2), .second, .val (.long q3), .second, .val (.long q4), .second, .val (.int p5), .val (.int v106), .val (.int v112), .val (.int v118), .val (.int v124), .val (.long v130), .second, .val (.long v136), .second, .val (.long v142), .second, .val (.long v148), .second, .val (.ref b150), .unset] [(.int (1 : Int32))])) t
            refine XS.goto X159.here hx rfl (pc0 := 207) (pc' := 211) rfl (hb hby at_207) (by decide) (by decide) ?_
            show Steps p.tables e below (T159.setTop (mkF m 211 #[.val (.long q1), .second, .val (.long q2), .second, .val (.long q3), .second, .val (.long q4), .second, .val (.int p5), .val (.int v106), .val (.int v112), .val (.int v118), .val (.int v124), .val (.long v130), .second, .val (.long v136), .second, .val (.long v142), .second, .val (.long v148), .second, .val (.ref b150), .unset] [(.int (1 : Int32))])) t
            refine XS.istore X159.here hx rfl (hb hby at_211) rfl (l' := #[.val (.long q1), .second, .val (.long q2), .second, .val (.long q3), .second, .val (.long q4), .second, .val (.int p5), .val (.int v106), .val (.int v112), .val (.int v118), .val (.int v124), .val (.long v130), .second, .val (.long v136), .second, .val (.long v142), .second, .val (.long v148), .second, .val (.ref b150), .val (.int (1 : Int32))]) rfl ?_
            exact k)
          exact ⟨(1 : Int32), (Or.inr (Or.inr (Or.inr (Or.inr (Or.inr (Or.inr (Or.inl ⟨hc168, hc170, hc172, rfl⟩))))))), pre190⟩
      · have pre191 : ∀ t, Steps p.tables e below (T159.setTop (mkF m 213 #[.val (.long q1), .second, .val (.long q2), .second, .val (.long q3), .second, .val (.long q4), .second, .val (.int p5), .val (.int v106), .val (.int v112), .val (.int v118), .val (.int v124), .val (.long v130), .second, .val (.long v136), .second, .val (.long v142), .second, .val (.long v148), .second, .val (.ref b150), .val (.int (1 : Int32))] [])) t → Steps p.tables e below (s₁.setTop (entryFrame m #[(.long q1), (.long q2), (.long q3), (.long q4), (.int p5)] maxLocals)) t := fun t k => pre171 t (by
          show Steps p.tables e below (T159.setTop (mkF m 139 #[.val (.long q1), .second, .val (.long q2), .second, .val (.long q3), .second, .val (.long q4), .second, .val (.int p5), .val (.int v106), .val (.int v112), .val (.int v118), .val (.int v124), .val (.long v130), .second, .val (.long v136), .second, .val (.long v142), .second, .val (.long v148), .second, .val (.ref b150), .unset] [(.int v112)])) t
          refine XS.ifYes X159.here hx rfl (pc0 := 139) (pc' := 206) rfl (hb hby at_139) rfl ((if0 _ _).trans (feq hc170).2) (by decide) (by decide) ?_
          show Steps p.tables e below (T159.setTop (mkF m 206 #[.val (.long q1), .second, .val (.long q2), .second, .val (.long q3), .second, .val (.long q4), .second, .val (.int p5), .val (.int v106), .val (.int v112), .val (.int v118), .val (.int v124), .val (.long v130), .second, .val (.long v136), .second, .val (.long v142), .second, .val (.long v148), .second, .val (.ref b150), .unset] [])) t
          refine XS.iconst X159.here hx rfl (hb hby at_206) ?_
          show Steps p.tables e below (T159.setTop (mkF m 207 #[.val (.long q1), .second, .val (.long q2), .second, .val (.long q3), .second, .val (.long q4), .second, .val (.int p5), .val (.int v106), .val (.int v112), .val (.int v118), .val (.int v124), .val (.long v130), .second, .val (.long v136), .second, .val (.long v142), .second, .val (.long v148), .second, .val (.ref b150), .unset] [(.int (1 : Int32))])) t
          refine XS.goto X159.here hx rfl (pc0 := 207) (pc' := 211) rfl (hb hby at_207) (by decide) (by decide) ?_
          show Steps p.tables e below (T159.setTop (mkF m 211 #[.val (.long q1), .second, .val (.long q2), .second, .val (.long q3), .second, .val (.long q4), .second, .val (.int p5), .val (.int v106), .val (.int v112), .val (.int v118), .val (.int v124), .val (.long v130), .second, .val (.long v136), .second, .val (.long v142), .second, .val (.long v148), .second, .val (.ref b150), .unset] [(.int (1 : Int32))])) t
          refine XS.istore X159.here hx rfl (hb hby at_211) rfl (l' := #[.val (.long q1), .second, .val (.long q2), .second, .val (.long q3), .second, .val (.long q4), .second, .val (.int p5), .val (.int v106), .val (.int v112), .val (.int v118), .val (.int v124), .val (.long v130), .second, .val (.long v136), .second, .val (.long v142), .second, .val (.long v148), .second, .val (.ref b150), .val (.int (1 : Int32))]) rfl ?_
          exact k)
        exact ⟨(1 : Int32), (Or.inr (Or.inr (Or.inr (Or.inr (Or.inr (Or.inr (Or.inr (Or.inl ⟨hc168, hc170, rfl⟩)))))))), pre191⟩
    · have pre192 : ∀ t, Steps p.tables e below (T159.setTop (mkF m 213 #[.val (.long q1), .second, .val (.long q2), .second, .val (.long q3), .second, .val (.long q4), .second, .val (.int p5), .val (.int v106), .val (.int v112), .val (.int v118), .val (.int v124), .val (.long v130), .second, .val (.long v136), .second, .val (.long v142), .second, .val (.long v148), .second, .val (.ref b150), .val (.int (1 : Int32))] [])) t → Steps p.tables e below (s₁.setTop (entryFrame m #[(.long q1), (.long q2), (.long q3), (.long q4), (.int p5)] maxLocals)) t := fun t k => pre169 t (by
        show Steps p.tables e below (T159.setTop (mkF m 134 #[.val (.long q1), .second, .val (.long q2), .second, .val (.long q3), .second, .val (.long q4), .second, .val (.int p5), .val (.int v106), .val (.int v112), .val (.int v118), .val (.int v124), .val (.long v130), .second, .val (.long v136), .second, .val (.long v142), .second, .val (.long v148), .second, .val (.ref b150), .unset] [(.int v106)])) t
        refine XS.ifYes X159.here hx rfl (pc0 := 134) (pc' := 206) rfl (hb hby at_134) rfl ((if0 _ _).trans (feq hc168).2) (by decide) (by decide) ?_
        show Steps p.tables e below (T159.setTop (mkF m 206 #[.val (.long q1), .second, .val (.long q2), .second, .val (.long q3), .second, .val (.long q4), .second, .val (.int p5), .val (.int v106), .val (.int v112), .val (.int v118), .val (.int v124), .val (.long v130), .second, .val (.long v136), .second, .val (.long v142), .second, .val (.long v148), .second, .val (.ref b150), .unset] [])) t
        refine XS.iconst X159.here hx rfl (hb hby at_206) ?_
        show Steps p.tables e below (T159.setTop (mkF m 207 #[.val (.long q1), .second, .val (.long q2), .second, .val (.long q3), .second, .val (.long q4), .second, .val (.int p5), .val (.int v106), .val (.int v112), .val (.int v118), .val (.int v124), .val (.long v130), .second, .val (.long v136), .second, .val (.long v142), .second, .val (.long v148), .second, .val (.ref b150), .unset] [(.int (1 : Int32))])) t
        refine XS.goto X159.here hx rfl (pc0 := 207) (pc' := 211) rfl (hb hby at_207) (by decide) (by decide) ?_
        show Steps p.tables e below (T159.setTop (mkF m 211 #[.val (.long q1), .second, .val (.long q2), .second, .val (.long q3), .second, .val (.long q4), .second, .val (.int p5), .val (.int v106), .val (.int v112), .val (.int v118), .val (.int v124), .val (.long v130), .second, .val (.long v136), .second, .val (.long v142), .second, .val (.long v148), .second, .val (.ref b150), .unset] [(.int (1 : Int32))])) t
        refine XS.istore X159.here hx rfl (hb hby at_211) rfl (l' := #[.val (.long q1), .second, .val (.long q2), .second, .val (.long q3), .second, .val (.long q4), .second, .val (.int p5), .val (.int v106), .val (.int v112), .val (.int v118), .val (.int v124), .val (.long v130), .second, .val (.long v136), .second, .val (.long v142), .second, .val (.long v148), .second, .val (.ref b150), .val (.int (1 : Int32))]) rfl ?_
        exact k)
      exact ⟨(1 : Int32), (Or.inr (Or.inr (Or.inr (Or.inr (Or.inr (Or.inr (Or.inr (Or.inr (⟨hc168, rfl⟩))))))))), pre192⟩
  obtain ⟨cq195, kq195, q195a, q195b, q195c⟩ := isOf hZ rfl f160
  obtain ⟨_, _, ⟨T195, L195, k195, n195⟩, -, X195, ⟨Lc195, hQ195, l195, y195, z195⟩, st195⟩ := X159.virtualBack hx (y := (⟨"com/example/millipede/millipede/CellRange", "namesLast", "()Z"⟩ : MethodName)) (z := (⟨"com/example/millipede/millipede/CellRange", "namesLast", "()Z"⟩ : MethodName)) hown (mvT hZ (own_i hw 18 rfl)) (mvT hZ (own_i hw 19 rfl)) (notFace_of_selects (args := #[]) (mvT hZ (own_i hw 21 rfl))) (mvT hZ (own_i hw 21 rfl)) (mvT hZ (own_i hw 20 rfl)) (by decide) (backOf (W := 0) (rm3 l Z a0 hw [] b150 v130 v136 v142 v148 T159.heap n0 f165 f161 f162 f163 f164) hZ (own_i hw 22 rfl) (own_i hw 3 rfl) (by decide) (by decide)) q195a q195c (g := (mkF m 215 #[.val (.long q1), .second, .val (.long q2), .second, .val (.long q3), .second, .val (.long q4), .second, .val (.int p5), .val (.int v106), .val (.int v112), .val (.int v118), .val (.int v124), .val (.long v130), .second, .val (.long v136), .second, .val (.long v142), .second, .val (.long v148), .second, .val (.ref b150), .val (.int v193)] [(.ref b150)])) rfl (by rw [hml]; rfl) (Steps.refl _) (argsL := []) (rest := []) (lenOf pd_1 rfl) rfl (by show 2 * 0 + _ ≤ _; exact Nat.le_of_eq rfl) (hb hby at_215) (fun _ _ => ⟨rfl, rfl, (by decide : 1 + 0 ≤ _), (by decide : 4 + 0 ≤ _)⟩)
  dsimp only [Pt.U, Pt.locs, Pt.cells, Pt.slots] at X195 l195 y195 z195 st195 hQ195
  subst l195 y195 z195
  obtain ⟨rfl, N195q, e195⟩ := hQ195
  have N195 := Fr.app N159 N195q
  have hd196 : (own_nl v130 v136 v142 v148) = v193 := own_law hP131 hP137 hP143 hP149 hP194
  have pre197 : ∀ t, Steps p.tables e below (T195.setTop (mkF m 228 #[.val (.long q1), .second, .val (.long q2), .second, .val (.long q3), .second, .val (.long q4), .second, .val (.int p5), .val (.int v106), .val (.int v112), .val (.int v118), .val (.int v124), .val (.long v130), .second, .val (.long v136), .second, .val (.long v142), .second, .val (.long v148), .second, .val (.ref b150), .val (.int v193)] [(.int (1 : Int32))])) t → Steps p.tables e below (s₁.setTop (entryFrame m #[(.long q1), (.long q2), (.long q3), (.long q4), (.int p5)] maxLocals)) t := fun t k => pre194 t (by
    show Steps p.tables e below (T159.setTop (mkF m 213 #[.val (.long q1), .second, .val (.long q2), .second, .val (.long q3), .second, .val (.long q4), .second, .val (.int p5), .val (.int v106), .val (.int v112), .val (.int v118), .val (.int v124), .val (.long v130), .second, .val (.long v136), .second, .val (.long v142), .second, .val (.long v148), .second, .val (.ref b150), .val (.int v193)] [])) t
    refine XS.aload X159.here hx rfl (hb hby at_213) rfl rfl ?_
    show Steps p.tables e below (T159.setTop (mkF m 215 #[.val (.long q1), .second, .val (.long q2), .second, .val (.long q3), .second, .val (.long q4), .second, .val (.int p5), .val (.int v106), .val (.int v112), .val (.int v118), .val (.int v124), .val (.long v130), .second, .val (.long v136), .second, .val (.long v142), .second, .val (.long v148), .second, .val (.ref b150), .val (.int v193)] [(.ref b150)])) t
    refine st195.trans ?_
    show Steps p.tables e below (T195.setTop (mkF m 218 #[.val (.long q1), .second, .val (.long q2), .second, .val (.long q3), .second, .val (.long q4), .second, .val (.int p5), .val (.int v106), .val (.int v112), .val (.int v118), .val (.int v124), .val (.long v130), .second, .val (.long v136), .second, .val (.long v142), .second, .val (.long v148), .second, .val (.ref b150), .val (.int v193)] [(.int (own_nl v130 v136 v142 v148))])) t
    refine XS.iload X195.here hx rfl (hb hby at_218) rfl ?_
    show Steps p.tables e below (T195.setTop (mkF m 220 #[.val (.long q1), .second, .val (.long q2), .second, .val (.long q3), .second, .val (.long q4), .second, .val (.int p5), .val (.int v106), .val (.int v112), .val (.int v118), .val (.int v124), .val (.long v130), .second, .val (.long v136), .second, .val (.long v142), .second, .val (.long v148), .second, .val (.ref b150), .val (.int v193)] [(.int v193), (.int (own_nl v130 v136 v142 v148))])) t
    refine XS.icmpNo X195.here hx rfl (hb hby at_220) rfl (teq hd196).2 ?_
    show Steps p.tables e below (T195.setTop (mkF m 223 #[.val (.long q1), .second, .val (.long q2), .second, .val (.long q3), .second, .val (.long q4), .second, .val (.int p5), .val (.int v106), .val (.int v112), .val (.int v118), .val (.int v124), .val (.long v130), .second, .val (.long v136), .second, .val (.long v142), .second, .val (.long v148), .second, .val (.ref b150), .val (.int v193)] [])) t
    refine XS.iconst X195.here hx rfl (hb hby at_223) ?_
    show Steps p.tables e below (T195.setTop (mkF m 224 #[.val (.long q1), .second, .val (.long q2), .second, .val (.long q3), .second, .val (.long q4), .second, .val (.int p5), .val (.int v106), .val (.int v112), .val (.int v118), .val (.int v124), .val (.long v130), .second, .val (.long v136), .second, .val (.long v142), .second, .val (.long v148), .second, .val (.ref b150), .val (.int v193)] [(.int (1 : Int32))])) t
    refine XS.goto X195.here hx rfl (pc0 := 224) (pc' := 228) rfl (hb hby at_224) (by decide) (by decide) ?_
    exact k)
  obtain ⟨fs, hr, hrun, hended, hW, hsame⟩ := X195.leave (v := some (.int (1 : Int32))) (fun h => by rw [Bd.returns] at h; cases h)
  refine ⟨_, _, pre197 _ ?_, hrun, hended, _, _, rfl, ?_, ⟨_, rfl⟩, hW, hsame.mono (by decide) (by decide)⟩
  · exact retN X195 hx (t := .boolean) Bd.returns (by simp) (hb hby at_228) hr
  · show Q0 Z q1 q2 q3 q4 p5 h0 n0 _ T195.heap _
    rw [e195]
    exact ⟨rfl, N195⟩
set_option maxRecDepth 65536 in
set_option maxHeartbeats 40000000 in
theorem comes_1 {Post : Tables → Env → Array Value → State → Outcome → State → Prop} (hpost : ∀ tb e args s v u, (limb_1_1.after args s (.returned v) u = true ∧ limb_1_2.after args s (.returned v) u = true ∧ True) → FrameEnd s (.returned v) u (Jvm.fieldLocs frame_1_writes args s ++ Jvm.arrayLocs frame_1_arrays args s ++ Jvm.staticLocs frame_1_statics s) 16 128 → Post tb e args s (.returned v) u) :
    ArmFor flags0 classFile x code maxLocals ret World_1 tables_1 room_1 Calls_1 rest_1 Pre_1 Post := by
  intro l hfl _ _ p e ha hc hk s m args below hf hA hF happ hP
  obtain ⟨hcalls, hrest, hpre⟩ := hP
  obtain ⟨-, -, -, hnamed, -, -, -, hat⟩ := (Spec.applies_iff hf).mp happ
  obtain ⟨hg, hn⟩ := and_e (Cond.before_iff.mp (show (Jvm.Cond.and given_1 narrow_1).before args s = true from hpre))
  obtain ⟨hga, hgb⟩ := and_e hg
  obtain ⟨hgba, hgbb⟩ := and_e hgb
  obtain ⟨hgbba, hgbbb⟩ := and_e hgbb
  obtain ⟨hgbbba, hgbbbb⟩ := and_e hgbbb
  obtain ⟨hgbbbba, hgbbbbb⟩ := and_e hgbbbb
  obtain ⟨w0, w1, w2, w3, w4, rfl⟩ : ∃ w0 w1 w2 w3 w4 : Value, args = #[w0, w1, w2, w3, w4] := by
    have hs : args.size = 5 := by simpa [Cond.value, given_1] using hga
    obtain ⟨L⟩ := args
    match L, hs with
    | [w0, w1, w2, w3, w4], _ => exact ⟨w0, w1, w2, w3, w4, rfl⟩
  have hw := fun d (hd : d ∈ tables_1) => atoms_spec (ws := Jvm.Cond.code x code maxLocals ret :: tables_1) hat d (List.mem_cons_of_mem _ hd)
  have hfit : Fit s := fun {y c} hc i hi => by
    obtain ⟨ha, rfl⟩ := Array.getElem?_eq_some_iff.mp hc
    have q := List.all_eq_true.mp ((Array.all_eq_true_iff_forall_mem.mp hF) _ (Array.getElem_mem ha)) i (List.mem_range.mpr hi)
    simpa [Array.getElem?_eq_getElem hi] using q
  obtain ⟨i0, ev0⟩ := isL_v hgba
  obtain rfl : w0 = (.long i0) := Option.some.inj ev0
  obtain ⟨i1, ev1⟩ := isL_v hgbba
  obtain rfl : w1 = (.long i1) := Option.some.inj ev1
  obtain ⟨i2, ev2⟩ := isL_v hgbbba
  obtain rfl : w2 = (.long i2) := Option.some.inj ev2
  obtain ⟨i3, ev3⟩ := isL_v hgbbbba
  obtain rfl : w3 = (.long i3) := Option.some.inj ev3
  obtain ⟨i4, ev4⟩ := is_v hgbbbbb
  obtain rfl : w4 = (.int i4) := Option.some.inj ev4
  obtain ⟨n, o, h1, h2, h3, _, L, rfl, ⟨rfl, N⟩, hq⟩ := rm0 l s _ hw tables_1 i0 i1 i2 i3 i4 s.heap s.heap.size (Nat.le_refl _)  p e ha hc hk s m _ below hf ((Spec.applies_iff_loose hf).mp happ).1 ⟨rfl, State.Warmed39.refl s, rfl⟩ trivial
  refine ⟨n, _, h1, h2, h3, hpost _ _ _ _ _ _ ⟨Cond.after_iff.mpr rfl, Cond.after_iff.mpr (eq_i res_at (Term.int_eval (1)) rfl), trivial⟩ ⟨hq.1, hq.2.1, (hq.2.2.sift fun y hy => Or.inr (N y hy)).mono (by decide) (by decide)⟩⟩
theorem main_1_1 : Claimed_1_1 := comes_1 fun _ _ _ _ _ _ h hF => ⟨h.1, hF⟩
theorem main_1_2 : Claimed_1_2 := comes_1 fun _ _ _ _ _ _ h hF => ⟨h.2.1, hF⟩
end Jvm.Pilot.@@N@@
namespace Jvm.Pilot.@@N@@
open Jvm Jvm.ClassFile Sem Op Lib Jvm.Free Jvm.Stand Jvm.Pilot.@@N@@.Jvm.D
/-! MADE BY PROGRAM (witnessworld.py) out of the Statement's table words and the real class files: 9 classes; the members and pool entries that the words name. The judged class is class 1, her method 1. -/
namespace start1
open Jvm.ClassFile
def u (s : String) : CpInfo := .utf8 (stringToUtf16 s)
/-- a pool by its gaps: so many unusable entries, then the entry; so many at the end -/
def gap : Nat → List CpInfo → List CpInfo
  | 0, r => r
  | n + 1, r => .unusable :: gap n r
def poolList (es : List (Nat × CpInfo)) (last : Nat) : List CpInfo := es.foldr (fun e r => gap e.1 (e.2 :: r)) (gap last [])
def pool (es : List (Nat × CpInfo)) (last : Nat) : Array CpInfo := ⟨poolList es last⟩
def fileOf (pool : Array CpInfo) (this : Nat) (attrs : Array Attribute := #[]) (ms : Array MethodInfo := #[]) (fl : Nat := 33) (sup : Nat := 0) (ifs : Array Nat := #[]) (fds : Array FieldInfo := #[]) : ClassFile where
  minorVersion := 0
  majorVersion := 65
  constantPool := pool
  accessFlags := fl
  thisClass := this
  superClass := sup
  interfaces := ifs
  fields := fds
  methods := ms
  attributes := attrs
def plain (name : String) (sup : Option ClassId) : Class where
  name := name
  kind := .ordinary
  loader := none
  accessFlags := 33
  super := sup
  interfaces := #[]
  cf := none
  fields := #[]
  methods := #[]
  instanceTypes := #[]
  staticTypes := #[]
  resolved := #[]
  callSites := []
  init := .initialized
  statics := none
  mirror := none

def pool0 : Array CpInfo := pool [(5, u "<init>"), (0, u "()V"), (1, .class_ 10), (1, u "java/lang/Object")] 113

def k0c0 : Code := { maxStack := 0, maxLocals := 1, code := object_method_1_code, exceptionTable := #[], attributes := #[] }
def k0m0 : Method := { name := "<init>", desc := "()V", sig := { parameters := [], returnType := none }, accessFlags := 1, code := some k0c0 }
/-- java/lang/Object -/
def k0 : Class := { plain "java/lang/Object" none with
  accessFlags := 33
  interfaces := #[]
  cf := some (fileOf pool0 8 #[] #[{ accessFlags := 1, nameIndex := 5, descriptorIndex := 6, attributes := #[] }] 33 0 #[] #[])
  fields := #[]
  methods := #[k0m0]
  instanceTypes := #[]
  staticTypes := #[]
  resolved := Array.replicate 124 none
  statics := none }

def pool1 : Array CpInfo := pool [(2, .class_ 4), (1, u "java/lang/Object"), (0, u "<init>"), (0, u "()V"), (0, .long 18446744073709551615), (1, .class_ 10), (0, u "com/example/millipede/millipede/CellRange"), (0, .methodref 9 12), (0, .nameAndType 5 13), (0, u "(JJJJ)V"), (0, .methodref 9 15), (0, .nameAndType 16 17), (0, u "namesLast"), (0, u "()Z"), (0, .class_ 19), (0, u "com/example/millipede/millipede/CellRangeNamesLastPinLaw"), (2, u "law"), (0, u "(JJJJI)Z")] 3

def k1m0 : Method := { name := "<init>", desc := "()V", sig := { parameters := [], returnType := none }, accessFlags := 1, code := none }
def k1c1 : Code := { maxStack := 10, maxLocals := 23, code := code, exceptionTable := #[], attributes := #[] }
def k1m1 : Method := { name := "law", desc := "(JJJJI)Z", sig := { parameters := [.long, .long, .long, .long, .int], returnType := some .boolean }, accessFlags := 9, code := some k1c1 }
/-- com/example/millipede/millipede/CellRangeNamesLastPinLaw -/
def k1 : Class := { plain "com/example/millipede/millipede/CellRangeNamesLastPinLaw" (some 0) with
  accessFlags := 49
  interfaces := #[]
  cf := some (fileOf pool1 18 #[] #[{ accessFlags := 1, nameIndex := 5, descriptorIndex := 6, attributes := #[] }, { accessFlags := 9, nameIndex := 22, descriptorIndex := 23, attributes := #[] }] 49 2 #[] #[])
  fields := #[]
  methods := #[k1m0, k1m1]
  instanceTypes := #[]
  staticTypes := #[]
  resolved := Array.replicate 27 none
  statics := none }

def pool2 : Array CpInfo := pool [(3, .methodref 4 5), (0, .class_ 6), (0, .nameAndType 7 8), (0, u "java/lang/Object"), (0, u "<init>"), (0, u "()V"), (0, .fieldref 10 11), (0, .class_ 12), (0, .nameAndType 13 14), (0, u "com/example/millipede/millipede/CellRange"), (0, u "firstRow"), (0, u "J"), (0, .fieldref 10 16), (0, .nameAndType 17 14), (0, u "lastRow"), (0, .fieldref 10 19), (0, .nameAndType 20 14), (0, u "firstColumn"), (0, .fieldref 10 22), (0, .nameAndType 23 14), (0, u "lastColumn"), (0, .long 18446744073709551615), (7, u "(JJJJ)V"), (10, u "LAST"), (1, u "UNBOUNDED"), (4, u "namesLast"), (0, u "()Z")] 8

def k2c0 : Code := { maxStack := 3, maxLocals := 9, code := prog_5_method_1_code, exceptionTable := #[], attributes := #[] }
def k2m0 : Method := { name := "<init>", desc := "(JJJJ)V", sig := { parameters := [.long, .long, .long, .long], returnType := none }, accessFlags := 0, code := some k2c0 }
def k2c1 : Code := { maxStack := 4, maxLocals := 1, code := prog_5_method_2_code, exceptionTable := #[], attributes := #[] }
def k2m1 : Method := { name := "namesLast", desc := "()Z", sig := { parameters := [], returnType := some .boolean }, accessFlags := 0, code := some k2c1 }
/-- com/example/millipede/millipede/CellRange -/
def k2 : Class := { plain "com/example/millipede/millipede/CellRange" (some 0) with
  accessFlags := 48
  interfaces := #[]
  cf := some (fileOf pool2 10 #[] #[{ accessFlags := 0, nameIndex := 7, descriptorIndex := 32, attributes := #[] }, { accessFlags := 0, nameIndex := 50, descriptorIndex := 51, attributes := #[] }] 48 4 #[] #[{ accessFlags := 24, nameIndex := 43, descriptorIndex := 14, attributes := #[] }, { accessFlags := 24, nameIndex := 45, descriptorIndex := 14, attributes := #[] }, { accessFlags := 18, nameIndex := 13, descriptorIndex := 14, attributes := #[] }, { accessFlags := 18, nameIndex := 17, descriptorIndex := 14, attributes := #[] }, { accessFlags := 18, nameIndex := 20, descriptorIndex := 14, attributes := #[] }, { accessFlags := 18, nameIndex := 23, descriptorIndex := 14, attributes := #[] }])
  fields := #[{ name := "LAST", type := .long, accessFlags := 24, slot := 0, constantValue := 0 }, { name := "UNBOUNDED", type := .long, accessFlags := 24, slot := 1, constantValue := 0 }, { name := "firstRow", type := .long, accessFlags := 18, slot := 0, constantValue := 0 }, { name := "lastRow", type := .long, accessFlags := 18, slot := 1, constantValue := 0 }, { name := "firstColumn", type := .long, accessFlags := 18, slot := 2, constantValue := 0 }, { name := "lastColumn", type := .long, accessFlags := 18, slot := 3, constantValue := 0 }]
  methods := #[k2m0, k2m1]
  instanceTypes := #[.long, .long, .long, .long]
  staticTypes := #[.long, .long]
  resolved := Array.replicate 60 none
  statics := none }

def pool3 : Array CpInfo := pool [(1, u "java/lang/Cloneable"), (0, .class_ 1), (0, u "java/lang/Object"), (0, .class_ 3)] 3

/-- java/lang/Cloneable -/
def k3 : Class := { plain "java/lang/Cloneable" (some 0) with
  accessFlags := 1537
  interfaces := #[]
  cf := some (fileOf pool3 2 #[] #[] 1537 4 #[] #[])
  fields := #[]
  methods := #[]
  instanceTypes := #[]
  staticTypes := #[]
  resolved := Array.replicate 8 none
  statics := none }

def pool4 : Array CpInfo := pool [(1, u "java/io/Serializable"), (0, .class_ 1), (0, u "java/lang/Object"), (0, .class_ 3)] 3

/-- java/io/Serializable -/
def k4 : Class := { plain "java/io/Serializable" (some 0) with
  accessFlags := 1537
  interfaces := #[]
  cf := some (fileOf pool4 2 #[] #[] 1537 4 #[] #[])
  fields := #[]
  methods := #[]
  instanceTypes := #[]
  staticTypes := #[]
  resolved := Array.replicate 8 none
  statics := none }

/-- the primitive byte -/
def k5 : Class := { plain "byte" none with kind := .primitive 'B', accessFlags := 0x411 }
/-- [B -/
def k6 : Class := { plain "[B" (some 0) with kind := .array 5 .byte, interfaces := #[3, 4], accessFlags := 1041 }

/-- the primitive int -/
def k7 : Class := { plain "int" none with kind := .primitive 'I', accessFlags := 0x411 }
/-- [I -/
def k8 : Class := { plain "[I" (some 0) with kind := .array 7 .int, interfaces := #[3, 4], accessFlags := 1041 }

def heap : Heap := #[]
def classes : Array Class := #[k0, k1, k2, k3, k4, k5, k6, k7, k8]
def interned : List (Array UInt16 × Addr) := []
def slotsUsed : Nat := 0
def theMethod : MethodId := ⟨1, 1⟩
def args0 : Array Value := #[.long 5, .long 5, .long 5, .long 5, .int 5]
def aboutOver (below : List Frame) : State where
  vm := { classes := classes, interned := interned.toArray }
  heap := heap
  slotsUsed := slotsUsed
  threads := #[{ frames := .invoking theMethod args0 :: below }]
def below0 : List Frame := [.native { method := ⟨0, 0⟩, args := #[] }]
def about1 : State := aboutOver below0
def p0 : Program := .bare "" "" ""
def e0 : Env := launch0.env 0 0 0
theorem w_frames : about1.frames = Frame.invoking theMethod args0 :: below0 := rfl
set_option maxRecDepth 65536 in
theorem w_args : argsFit about1.vm theMethod args0 = true := by decide +kernel
set_option maxRecDepth 65536 in
theorem w_heap : heapFits about1 = true := by decide +kernel
set_option maxRecDepth 65536 in
theorem w_runnable : about1.curStatus? = some .runnable := by decide +kernel
set_option maxRecDepth 65536 in
theorem w_alone : about1.alone = true := by decide +kernel
set_option maxRecDepth 65536 in
theorem w_named : about1.methodNamed? x = some theMethod := by decide +kernel
set_option maxRecDepth 65536 in
theorem w_hears : about1.hears theMethod below0 = true := by decide +kernel
set_option maxRecDepth 65536 in
theorem w_ripe : about1.ripe theMethod args0 below0 = true := by decide +kernel
theorem w_running : about1.status = .running := rfl
set_option maxRecDepth 65536 in
theorem w_room : about1.hasRoom e0.platform room_1 = true :=
  launch0.hasRoom_least _ room_1 (by decide +kernel) (by decide +kernel) (by decide +kernel) (by decide +kernel) (by decide +kernel) (by decide +kernel)
theorem allAtoms_all (ts : List Jvm.Cond) (a : Array Jvm.Value) (st : Jvm.State) : (allAtoms ts).before a st = ts.all (fun c => c.before a st) := by
  induction ts with
  | nil => rfl
  | cons c t ih =>
    show (Jvm.Cond.and c (allAtoms t)).before a st = _
    rw [Jvm.Cond.before_and, ih, List.all_cons]
def words1 : List Jvm.Cond := Jvm.Cond.code x code maxLocals ret :: tables_1
/-- a 'code' word, met by the world's own term for the bytes: nothing is compared byte by byte -/
theorem code_word {y : MethodName} {bytes : ByteArray} {mx : Nat} {rt : Option FieldType} {a : Array Value} {s : State} {m : MethodId} {meth : Method} {c : Code} (h1 : s.methodNamed? y = some m) (h2 : s.vm.method? m = some meth) (h3 : meth.code = some c) (h4 : c.code = bytes)
    (h5 : (c.maxLocals == mx && c.exceptionTable.isEmpty && decide (c.maxStack ≤ mostOperands) && decide (meth.sig.returnType = rt) && !meth.locks && decide (parseMethodDescriptor y.desc = some meth.sig)) = true) : (Jvm.Cond.code y bytes mx rt).before a s = true := by
  simp only [Bool.and_eq_true, beq_iff_eq, Bool.not_eq_true', decide_eq_true_eq] at h5
  obtain ⟨⟨⟨⟨⟨g1, g2⟩, g3⟩, g4⟩, g5⟩, g6⟩ := h5
  simp [Cond.before, Cond.holds, Cond.value, h1, h2, h3, h4, g1, g2, g3, g4, g5, g6]
def isCode : Jvm.Cond → Bool
  | .code _ _ _ _ => true
  | _ => false
theorem all_split {L : List Jvm.Cond} {P : Jvm.Cond → Bool} (h1 : L.all (fun c => isCode c || P c) = true) (h2 : ∀ c ∈ L.filter isCode, P c = true) : L.all P = true := by
  refine List.all_eq_true.mpr fun c hc => ?_
  have h := List.all_eq_true.mp h1 c hc
  rcases Bool.eq_false_or_eq_true (isCode c) with hi | hi
  · exact h2 c (List.mem_filter.mpr ⟨hc, hi⟩)
  · simpa [hi] using h
set_option maxRecDepth 65536 in
theorem w_c0 : (Jvm.Cond.code x code maxLocals ret).before args0 about1 = true := code_word (m := ⟨1, 1⟩) (meth := k1m1) (c := k1c1) (by decide +kernel) rfl rfl rfl (by decide +kernel)
set_option maxRecDepth 65536 in
theorem w_c1 : (Jvm.Cond.code ({ cls := "com/example/millipede/millipede/CellRange", name := "<init>", desc := "(JJJJ)V" } : Jvm.MethodName) prog_5_method_1_code (9 : Nat) (Option.none : Option Jvm.ClassFile.FieldType)).before args0 about1 = true := code_word (m := ⟨2, 0⟩) (meth := k2m0) (c := k2c0) (by decide +kernel) rfl rfl rfl (by decide +kernel)
set_option maxRecDepth 65536 in
theorem w_c2 : (Jvm.Cond.code ({ cls := "java/lang/Object", name := "<init>", desc := "()V" } : Jvm.MethodName) object_method_1_code (1 : Nat) (Option.none : Option Jvm.ClassFile.FieldType)).before args0 about1 = true := code_word (m := ⟨0, 0⟩) (meth := k0m0) (c := k0c0) (by decide +kernel) rfl rfl rfl (by decide +kernel)
set_option maxRecDepth 65536 in
theorem w_c3 : (Jvm.Cond.code ({ cls := "com/example/millipede/millipede/CellRange", name := "namesLast", desc := "()Z" } : Jvm.MethodName) prog_5_method_2_code (1 : Nat) (Option.some Jvm.ClassFile.FieldType.boolean)).before args0 about1 = true := code_word (m := ⟨2, 1⟩) (meth := k2m1) (c := k2c1) (by decide +kernel) rfl rfl rfl (by decide +kernel)
def codes1 : List Jvm.Cond := [Jvm.Cond.code x code maxLocals ret, Jvm.Cond.code ({ cls := "com/example/millipede/millipede/CellRange", name := "<init>", desc := "(JJJJ)V" } : Jvm.MethodName) prog_5_method_1_code (9 : Nat) (Option.none : Option Jvm.ClassFile.FieldType), Jvm.Cond.code ({ cls := "java/lang/Object", name := "<init>", desc := "()V" } : Jvm.MethodName) object_method_1_code (1 : Nat) (Option.none : Option Jvm.ClassFile.FieldType), Jvm.Cond.code ({ cls := "com/example/millipede/millipede/CellRange", name := "namesLast", desc := "()Z" } : Jvm.MethodName) prog_5_method_2_code (1 : Nat) (Option.some Jvm.ClassFile.FieldType.boolean)]
set_option maxRecDepth 65536 in
theorem codes_eq : words1.filter isCode = codes1 := rfl
theorem w_codes : ∀ c ∈ words1.filter isCode, c.before args0 about1 = true := by
  rw [codes_eq]
  intro c hc
  simp only [codes1, List.mem_cons, List.not_mem_nil, or_false] at hc
  rcases hc with rfl | rfl | rfl | rfl
  · exact w_c0
  · exact w_c1
  · exact w_c2
  · exact w_c3
set_option maxRecDepth 65536 in
theorem w_t1 : (words1.take 24).all (fun c => isCode c || c.before args0 about1) = true := by decide +kernel
set_option maxRecDepth 65536 in
theorem w_t2 : (words1.drop 24).all (fun c => isCode c || c.before args0 about1) = true := by decide +kernel
theorem w_tables : (allAtoms (Jvm.Cond.code x code maxLocals ret :: tables_1)).before args0 about1 = true := by
  rw [allAtoms_all]
  show words1.all (fun c => c.before args0 about1) = true
  refine all_split ?_ w_codes
  rw [← List.take_append_drop 24 words1, List.all_append, w_t1, w_t2]
  rfl
set_option maxRecDepth 65536 in
theorem w_case : (Jvm.Cond.and given_1 narrow_1).before args0 about1 = true := by decide +kernel
theorem w_applies : (headSpec (Jvm.Cond.code x code maxLocals ret :: tables_1) room_1).applies x e0.platform about1 = true :=
  (Spec.applies_iff w_frames).mpr ⟨w_running, w_runnable, w_alone, w_named, w_hears, w_ripe, w_room, w_tables⟩
theorem atStart : AtStart classFile x code maxLocals ret World_1 tables_1 room_1 Calls_1 rest_1 Pre_1 launch0 p0 e0 about1 theMethod args0 below0 :=
  ⟨lists_1, trivial, launch0.admits_env _ _ _, launch0.least_env, fairChoices_fair.cas, fairChoices_fair.clock, w_frames, w_args, w_heap, w_applies, trivial, trivial, w_case⟩
end start1
theorem witness_1 : WitnessClaimed_1 := ⟨start1.p0, start1.e0, start1.about1, start1.theMethod, start1.args0, start1.below0, start1.atStart⟩
end Jvm.Pilot.@@N@@
