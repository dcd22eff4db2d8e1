import JvmDerived
import JvmDerived.Pilot.@@N@@Statement
import JvmDerived.Pilot.@@N@@Code
set_option linter.unusedVariables false
set_option linter.unusedSimpArgs false
@@BLOCK:NumsL.lean.txt@@
namespace Jvm.RoadKit
open Sem ClassFile Op Lib Jvm.Stand Jvm.Free Jvm.LawKit
section New
variable {p : Program} {l : Launch} {e : Env} {R : Room} {s : State} {m : MethodId} {args : Array Value} {below : List Frame} {meth : Method} {c : Code} {T : State} {locs : List Loc} {cells slots : Nat}
theorem retI (X : Stand p l e R s m args below meth c T locs cells slots) (hx : p.tables.exec = Jvm.exec) {pc : Nat} {Ls : Array Slot} {z : Int32} {rest : List Value} (hret : meth.sig.returnType = some .int) (hd : decode c.code pc = .ok (.ireturn, 1)) {fs : List Frame}
    (hl : ∀ (f : JFrame) (acts : List Action), f.method = m → f.locked = none → f.entered = [] → (doReturn e (T.setTop f) acts (some (.int z))).1 = T.setFrames fs) : Steps p.tables e below (T.setTop (mkF m pc Ls (.int z :: rest))) (T.setFrames fs) := by
  have hm' : T.vm.method? m = some meth := X.method'
  have hn : narrow .int (.int z) = .int z := rfl
  show Steps p.tables e below (T.setTop { method := m, pc := pc, locals := Ls, stack := _ :: rest, locked := none }) _
  jvm_step X.here [X.here.top, hx, hd, hm', hret, hn]
  first | (intro acts; rw [hl _ acts rfl rfl rfl]) | rw [hl _ _ rfl rfl rfl]
  exact Steps.refl _
end New
end Jvm.RoadKit
namespace Jvm.Pilot.@@N@@
open Jvm Jvm.ClassFile Sem Op Lib Jvm.Free Jvm.Stand Jvm.LawKit Jvm.RoadKit Bundle Jvm.Pilot.@@N@@.Jvm.D
theorem own_nr {n : String} {w : Value} (h : w.isRef = true) : narrow (.object n) w = w := by rcases ref_cases h with rfl | ⟨_, rfl⟩ <;> rfl
theorem own_i {L : List Jvm.Cond} {a0 : Array Value} {Z : State} (hw : ∀ d ∈ L, d.before a0 Z = true) (i : Nat) {d : Jvm.Cond} (h : L[i]? = some d) : d.before a0 Z = true := hw _ (List.mem_of_getElem? h)
theorem d1_0 : decode method_3_code 0 = .ok (.iload_n 0, 1) := by decide +kernel
theorem d1_1 : decode method_3_code 1 = .ok (.ifCond .ne 7, 3) := by decide +kernel
theorem d1_4 : decode method_3_code 4 = .ok (.getstatic 19, 3) := by decide +kernel
theorem d1_7 : decode method_3_code 7 = .ok (.areturn, 1) := by decide +kernel
theorem d1_8 : decode method_3_code 8 = .ok (.iload_n 0, 1) := by decide +kernel
theorem d1_9 : decode method_3_code 9 = .ok (.iconst 1, 1) := by decide +kernel
theorem d1_10 : decode method_3_code 10 = .ok (.if_icmp .ne 7, 3) := by decide +kernel
theorem d1_13 : decode method_3_code 13 = .ok (.getstatic 23, 3) := by decide +kernel
theorem d1_16 : decode method_3_code 16 = .ok (.areturn, 1) := by decide +kernel
theorem d1_17 : decode method_3_code 17 = .ok (.iload_n 0, 1) := by decide +kernel
theorem d1_18 : decode method_3_code 18 = .ok (.iconst 2, 1) := by decide +kernel
theorem d1_19 : decode method_3_code 19 = .ok (.if_icmp .ne 7, 3) := by decide +kernel
theorem d1_22 : decode method_3_code 22 = .ok (.getstatic 26, 3) := by decide +kernel
theorem d1_25 : decode method_3_code 25 = .ok (.areturn, 1) := by decide +kernel
theorem d1_26 : decode method_3_code 26 = .ok (.getstatic 29, 3) := by decide +kernel
theorem d1_29 : decode method_3_code 29 = .ok (.areturn, 1) := by decide +kernel
theorem d2_0 : decode prog_25_method_5_code 0 = .ok (.aload_n 0, 1) := by decide +kernel
theorem d2_1 : decode prog_25_method_5_code 1 = .ok (.aload_n 1, 1) := by decide +kernel
theorem d2_2 : decode prog_25_method_5_code 2 = .ok (.if_acmp .eq 31, 3) := by decide +kernel
theorem d2_5 : decode prog_25_method_5_code 5 = .ok (.aload_n 0, 1) := by decide +kernel
theorem d2_6 : decode prog_25_method_5_code 6 = .ok (.getstatic 13, 3) := by decide +kernel
theorem d2_9 : decode prog_25_method_5_code 9 = .ok (.if_acmp .ne 10, 3) := by decide +kernel
theorem d2_12 : decode prog_25_method_5_code 12 = .ok (.aload_n 1, 1) := by decide +kernel
theorem d2_13 : decode prog_25_method_5_code 13 = .ok (.getstatic 10, 3) := by decide +kernel
theorem d2_16 : decode prog_25_method_5_code 16 = .ok (.if_acmp .eq 17, 3) := by decide +kernel
theorem d2_19 : decode prog_25_method_5_code 19 = .ok (.aload_n 0, 1) := by decide +kernel
theorem d2_20 : decode prog_25_method_5_code 20 = .ok (.getstatic 7, 3) := by decide +kernel
theorem d2_23 : decode prog_25_method_5_code 23 = .ok (.if_acmp .ne 14, 3) := by decide +kernel
theorem d2_26 : decode prog_25_method_5_code 26 = .ok (.aload_n 1, 1) := by decide +kernel
theorem d2_27 : decode prog_25_method_5_code 27 = .ok (.getstatic 3, 3) := by decide +kernel
theorem d2_30 : decode prog_25_method_5_code 30 = .ok (.if_acmp .ne 7, 3) := by decide +kernel
theorem d2_33 : decode prog_25_method_5_code 33 = .ok (.iconst 1, 1) := by decide +kernel
theorem d2_34 : decode prog_25_method_5_code 34 = .ok (.goto 4, 3) := by decide +kernel
theorem d2_37 : decode prog_25_method_5_code 37 = .ok (.iconst 0, 1) := by decide +kernel
theorem d2_38 : decode prog_25_method_5_code 38 = .ok (.ireturn, 1) := by decide +kernel
theorem own_static {args : Array Value} {s : State} {C n d K : String} (h : (Jvm.Cond.exactly (Jvm.Term.static C n d) K).value args s none s [] = some true) (hi : (Jvm.Cond.initialized C).before args s = true) (hl : (Jvm.Cond.laysStatic C n d).before args s = true) : ∃ a, (Jvm.Term.static C n d).eval args s none [] s = some (.ref a) ∧ Sta s s.heap C n d (.ref a) ∧ Exa s s.heap a K := by
  obtain ⟨a, ev⟩ := exa_v h
  exact ⟨a, ev, Sta.start ev (Or.inr ⟨hi, hl⟩), Exa.start ev h⟩
theorem own_fieldI {args : Array Value} {s : State} {t : Jvm.Term} {C n d : String} {a : Addr} {k : Int32} (ht : t.eval args s none [] s = some (.ref a)) (h : (Jvm.Cond.eq (Jvm.Term.field t C n d) (Jvm.Term.int k)).value args s none s [] = some true) : Fld s s.heap a C n d (.int k) := by
  obtain ⟨x, y, ex, ey, -, ky⟩ := cmp_v (Or.inl h)
  have ey' : some (Value.int k) = some y := ey
  cases ey'
  obtain ⟨z, rfl⟩ := ky
  have hz : z = k := gotT (Cond.eq_ints ex (Term.int_eval k)) h
  subst hz
  exact Fld.start ((fld_at ht).symm.trans ex)
def own_mode (k : Int32) (a b c d : Addr) : Addr := if k = 0 then a else if k = 1 then b else if k = 2 then c else d
def own_cov (m o a b c d : Addr) : Int32 := if m = o ∨ (m = d ∧ o = c) ∨ (m = b ∧ o = a) then 1 else 0
theorem own_exa {Z : State} {h : Heap} {k : Int32} {a b c d : Addr} {K : String} (e1 : Exa Z h a K) (e2 : Exa Z h b K) (e3 : Exa Z h c K) (e4 : Exa Z h d K) : Exa Z h (own_mode k a b c d) K := by
  unfold own_mode
  split
  · exact e1
  · split
    · exact e2
    · split
      · exact e3
      · exact e4
theorem pn_com_example_gapkey_gapkey_core_LockModeCoversPinLaw : plainName "com/example/gapkey/gapkey/core/LockModeCoversPinLaw" = true := by first | (simp [plainName, overriddenIn]; done) | decide +kernel
theorem ef_rm1 (m : MethodId) (x0 : Int32) : entryFrame m #[(.int x0)] 1 = mkF m 0 #[.val (.int x0)] [] := by first | (simp [entryFrame, mkF, argsToLocals, Value.category]; done) | rfl
def Q1 (Z : State) (p1 : Int32) (wIS : Addr) (wIX : Addr) (wS : Addr) (wX : Addr) (h0 : Heap) (n0 : Nat) (v : Option Value) (h : Heap) (L : List Loc) : Prop := v = some (.ref (own_mode p1 wIS wIX wS wX)) ∧ Fr n0 L ∧ h = h0
set_option maxRecDepth 65536 in
set_option maxHeartbeats 40000000 in
theorem rm1 (l : Launch) (Z : State) (a0 : Array Value) (hw : ∀ d ∈ tables_1, d.before a0 Z = true) (ws : List Jvm.Cond) (p1 : Int32) (wIS : Addr) (wIX : Addr) (wS : Addr) (wX : Addr) (h0 : Heap) (n0 : Nat) (Z0 : n0 ≤ h0.size) (S_IS : Sta Z h0 "com/example/gapkey/gapkey/core/LockMode" "IS" "Lcom/example/gapkey/gapkey/core/LockMode;" (.ref wIS)) (S_IX : Sta Z h0 "com/example/gapkey/gapkey/core/LockMode" "IX" "Lcom/example/gapkey/gapkey/core/LockMode;" (.ref wIX)) (S_S : Sta Z h0 "com/example/gapkey/gapkey/core/LockMode" "S" "Lcom/example/gapkey/gapkey/core/LockMode;" (.ref wS)) (S_X : Sta Z h0 "com/example/gapkey/gapkey/core/LockMode" "X" "Lcom/example/gapkey/gapkey/core/LockMode;" (.ref wX)) :
    MetFree l (⟨"com/example/gapkey/gapkey/core/LockModeCoversPinLaw", "mode", "(I)Lcom/example/gapkey/gapkey/core/LockMode;"⟩ : MethodName) (head1 (Jvm.Cond.code (⟨"com/example/gapkey/gapkey/core/LockModeCoversPinLaw", "mode", "(I)Lcom/example/gapkey/gapkey/core/LockMode;"⟩ : MethodName) method_3_code 1 (some (.object "com/example/gapkey/gapkey/core/LockMode")) :: ws) ({ frames := 0, cells := 0, slots := 0, locals := 0 } : Room)) (fun a U => a = #[(.int p1)] ∧ Z.Warmed39 U.vm ∧ U.heap = h0) (fun _ _ _ _ _ => True) (fun _ U o U' => ∃ v L, o = .returned v ∧ Q1 Z p1 wIS wIX wS wX h0 n0 v U'.heap L ∧ FrameEnd U o U' L ({ frames := 0, cells := 0, slots := 0, locals := 0 } : Room).cells ({ frames := 0, cells := 0, slots := 0, locals := 0 } : Room).slots) := by
  refine MetFree.of_bodySF (plainFor_of_name pn_com_example_gapkey_gapkey_core_LockModeCoversPinLaw) hisR ?_
  intro p e s m args below meth c s₁ Bd hml0 hP hK
  obtain ⟨rfl, hZ, hh⟩ := hP
  have hx := Bd.exec
  have hby := Bd.bytes
  have hml : c.maxLocals = 1 := hml0
  have hown : s.vm.findClass "com/example/gapkey/gapkey/core/LockModeCoversPinLaw" = some m.cls := findClass_of_methodNamed Bd.named
  have hnm := (name_of_methodNamed Bd.named Bd.method).1
  have X0 : Stand p l e ({ frames := 0, cells := 0, slots := 0, locals := 0 } : Room) s m #[(.int p1)] below meth c s₁ [] 0 0 := Stand.of_body Bd
  have e0 : s₁.heap = h0 := by rw [← hh, Bd.state]; rfl
  have N0 := Fr.nil n0
  have pre0 : ∀ t, Steps p.tables e below (s₁.setTop (mkF m 0 #[.val (.int p1)] [])) t → Steps p.tables e below (s₁.setTop (entryFrame m #[(.int p1)] 1)) t := fun t k => castTop (ef_rm1 m p1) k
  have pre102 : ∀ t, Steps p.tables e below (s₁.setTop (mkF m 1 #[.val (.int p1)] [(.int p1)])) t → Steps p.tables e below (s₁.setTop (entryFrame m #[(.int p1)] 1)) t := fun t k => pre0 t (by
    show Steps p.tables e below (s₁.setTop (mkF m 0 #[.val (.int p1)] [])) t
    refine XS.iloadN X0.here hx rfl (hb hby d1_0) rfl ?_
    exact k)
  by_cases hc101 : p1 = (0 : Int32)
  · obtain ⟨T103, X103, e103, st103⟩ := getS2 X0 hx hZ hown (host := "") (Or.inl (own_i hw 4 rfl)) Via.refl e0 S_IS (g := (mkF m 4 #[.val (.int p1)] [])) rfl (hb hby d1_4)
    have pre104 : ∀ t, Steps p.tables e below (T103.setTop (mkF m 7 #[.val (.int p1)] [(.ref wIS)])) t → Steps p.tables e below (s₁.setTop (entryFrame m #[(.int p1)] 1)) t := fun t k => pre102 t (by
      show Steps p.tables e below (s₁.setTop (mkF m 1 #[.val (.int p1)] [(.int p1)])) t
      refine XS.ifNo X0.here hx rfl (hb hby d1_1) rfl ((if0 _ _).trans (teq hc101).2) ?_
      show Steps p.tables e below (s₁.setTop (mkF m 4 #[.val (.int p1)] [])) t
      refine st103 _ ?_
      exact k)
    obtain ⟨fs, hr, hrun, hended, hW, hsame⟩ := X103.leave (v := some (.ref wIS)) (fun h => by rw [Bd.returns] at h; cases h)
    refine ⟨_, _, pre104 _ ?_, hrun, hended, _, _, rfl, ?_, ⟨_, rfl⟩, hW, hsame.mono (by decide) (by decide)⟩
    · exact retOut X103 hx Bd.returns rfl (Or.inr (Or.inr (Or.inr (Or.inr ⟨rfl, rfl, rfl⟩)))) (hb hby d1_7) hr
    · show Q1 Z p1 wIS wIX wS wX h0 n0 _ T103.heap _
      rw [e103]
      exact ⟨(by simp [own_mode, hc101]), N0, rfl⟩
  · have pre106 : ∀ t, Steps p.tables e below (s₁.setTop (mkF m 10 #[.val (.int p1)] [(.int (1 : Int32)), (.int p1)])) t → Steps p.tables e below (s₁.setTop (entryFrame m #[(.int p1)] 1)) t := fun t k => pre102 t (by
      show Steps p.tables e below (s₁.setTop (mkF m 1 #[.val (.int p1)] [(.int p1)])) t
      refine XS.ifYes X0.here hx rfl (pc0 := 1) (pc' := 8) rfl (hb hby d1_1) rfl ((if0 _ _).trans (feq hc101).2) (by decide) (by decide) ?_
      show Steps p.tables e below (s₁.setTop (mkF m 8 #[.val (.int p1)] [])) t
      refine XS.iloadN X0.here hx rfl (hb hby d1_8) rfl ?_
      show Steps p.tables e below (s₁.setTop (mkF m 9 #[.val (.int p1)] [(.int p1)])) t
      refine XS.iconst X0.here hx rfl (hb hby d1_9) ?_
      exact k)
    by_cases hc105 : p1 = (1 : Int32)
    · obtain ⟨T107, X107, e107, st107⟩ := getS2 X0 hx hZ hown (host := "") (Or.inl (own_i hw 19 rfl)) Via.refl e0 S_IX (g := (mkF m 13 #[.val (.int p1)] [])) rfl (hb hby d1_13)
      have pre108 : ∀ t, Steps p.tables e below (T107.setTop (mkF m 16 #[.val (.int p1)] [(.ref wIX)])) t → Steps p.tables e below (s₁.setTop (entryFrame m #[(.int p1)] 1)) t := fun t k => pre106 t (by
        show Steps p.tables e below (s₁.setTop (mkF m 10 #[.val (.int p1)] [(.int (1 : Int32)), (.int p1)])) t
        refine XS.icmpNo X0.here hx rfl (hb hby d1_10) rfl (teq hc105).2 ?_
        show Steps p.tables e below (s₁.setTop (mkF m 13 #[.val (.int p1)] [])) t
        refine st107 _ ?_
        exact k)
      obtain ⟨fs, hr, hrun, hended, hW, hsame⟩ := X107.leave (v := some (.ref wIX)) (fun h => by rw [Bd.returns] at h; cases h)
      refine ⟨_, _, pre108 _ ?_, hrun, hended, _, _, rfl, ?_, ⟨_, rfl⟩, hW, hsame.mono (by decide) (by decide)⟩
      · exact retOut X107 hx Bd.returns rfl (Or.inr (Or.inr (Or.inr (Or.inr ⟨rfl, rfl, rfl⟩)))) (hb hby d1_16) hr
      · show Q1 Z p1 wIS wIX wS wX h0 n0 _ T107.heap _
        rw [e107]
        exact ⟨(by simp [own_mode, hc101, hc105]), N0, rfl⟩
    · have pre110 : ∀ t, Steps p.tables e below (s₁.setTop (mkF m 19 #[.val (.int p1)] [(.int (2 : Int32)), (.int p1)])) t → Steps p.tables e below (s₁.setTop (entryFrame m #[(.int p1)] 1)) t := fun t k => pre106 t (by
        show Steps p.tables e below (s₁.setTop (mkF m 10 #[.val (.int p1)] [(.int (1 : Int32)), (.int p1)])) t
        refine XS.icmpYes X0.here hx rfl (pc0 := 10) (pc' := 17) rfl (hb hby d1_10) rfl (feq hc105).2 (by decide) (by decide) ?_
        show Steps p.tables e below (s₁.setTop (mkF m 17 #[.val (.int p1)] [])) t
        refine XS.iloadN X0.here hx rfl (hb hby d1_17) rfl ?_
        show Steps p.tables e below (s₁.setTop (mkF m 18 #[.val (.int p1)] [(.int p1)])) t
        refine XS.iconst X0.here hx rfl (hb hby d1_18) ?_
        exact k)
      by_cases hc109 : p1 = (2 : Int32)
      · obtain ⟨T111, X111, e111, st111⟩ := getS2 X0 hx hZ hown (host := "") (Or.inl (own_i hw 17 rfl)) Via.refl e0 S_S (g := (mkF m 22 #[.val (.int p1)] [])) rfl (hb hby d1_22)
        have pre112 : ∀ t, Steps p.tables e below (T111.setTop (mkF m 25 #[.val (.int p1)] [(.ref wS)])) t → Steps p.tables e below (s₁.setTop (entryFrame m #[(.int p1)] 1)) t := fun t k => pre110 t (by
          show Steps p.tables e below (s₁.setTop (mkF m 19 #[.val (.int p1)] [(.int (2 : Int32)), (.int p1)])) t
          refine XS.icmpNo X0.here hx rfl (hb hby d1_19) rfl (teq hc109).2 ?_
          show Steps p.tables e below (s₁.setTop (mkF m 22 #[.val (.int p1)] [])) t
          refine st111 _ ?_
          exact k)
        obtain ⟨fs, hr, hrun, hended, hW, hsame⟩ := X111.leave (v := some (.ref wS)) (fun h => by rw [Bd.returns] at h; cases h)
        refine ⟨_, _, pre112 _ ?_, hrun, hended, _, _, rfl, ?_, ⟨_, rfl⟩, hW, hsame.mono (by decide) (by decide)⟩
        · exact retOut X111 hx Bd.returns rfl (Or.inr (Or.inr (Or.inr (Or.inr ⟨rfl, rfl, rfl⟩)))) (hb hby d1_25) hr
        · show Q1 Z p1 wIS wIX wS wX h0 n0 _ T111.heap _
          rw [e111]
          exact ⟨(by simp [own_mode, hc101, hc105, hc109]), N0, rfl⟩
      · obtain ⟨T113, X113, e113, st113⟩ := getS2 X0 hx hZ hown (host := "") (Or.inl (own_i hw 7 rfl)) Via.refl e0 S_X (g := (mkF m 26 #[.val (.int p1)] [])) rfl (hb hby d1_26)
        have pre114 : ∀ t, Steps p.tables e below (T113.setTop (mkF m 29 #[.val (.int p1)] [(.ref wX)])) t → Steps p.tables e below (s₁.setTop (entryFrame m #[(.int p1)] 1)) t := fun t k => pre110 t (by
          show Steps p.tables e below (s₁.setTop (mkF m 19 #[.val (.int p1)] [(.int (2 : Int32)), (.int p1)])) t
          refine XS.icmpYes X0.here hx rfl (pc0 := 19) (pc' := 26) rfl (hb hby d1_19) rfl (feq hc109).2 (by decide) (by decide) ?_
          show Steps p.tables e below (s₁.setTop (mkF m 26 #[.val (.int p1)] [])) t
          refine st113 _ ?_
          exact k)
        obtain ⟨fs, hr, hrun, hended, hW, hsame⟩ := X113.leave (v := some (.ref wX)) (fun h => by rw [Bd.returns] at h; cases h)
        refine ⟨_, _, pre114 _ ?_, hrun, hended, _, _, rfl, ?_, ⟨_, rfl⟩, hW, hsame.mono (by decide) (by decide)⟩
        · exact retOut X113 hx Bd.returns rfl (Or.inr (Or.inr (Or.inr (Or.inr ⟨rfl, rfl, rfl⟩)))) (hb hby d1_29) hr
        · show Q1 Z p1 wIS wIX wS wX h0 n0 _ T113.heap _
          rw [e113]
          exact ⟨(by simp [own_mode, hc101, hc105, hc109]), N0, rfl⟩
theorem pn_com_example_gapkey_gapkey_core_LockMode : plainName "com/example/gapkey/gapkey/core/LockMode" = true := by first | (simp [plainName, overriddenIn]; done) | decide +kernel
theorem ef_rm2 (m : MethodId) (x0 : Addr) (x1 : Addr) : entryFrame m #[(.ref x0), (.ref x1)] 2 = mkF m 0 #[.val (.ref x0), .val (.ref x1)] [] := by first | (simp [entryFrame, mkF, argsToLocals, Value.category]; done) | rfl
def Q2 (Z : State) (a1 : Addr) (a2 : Addr) (wIS : Addr) (wIX : Addr) (wS : Addr) (wX : Addr) (h0 : Heap) (n0 : Nat) (v : Option Value) (h : Heap) (L : List Loc) : Prop := v = some (.int (own_cov a1 a2 wIS wIX wS wX)) ∧ Fr n0 L ∧ h = h0
set_option maxRecDepth 65536 in
set_option maxHeartbeats 40000000 in
theorem rm2 (l : Launch) (Z : State) (a0 : Array Value) (hw : ∀ d ∈ tables_1, d.before a0 Z = true) (ws : List Jvm.Cond) (a1 : Addr) (a2 : Addr) (wIS : Addr) (wIX : Addr) (wS : Addr) (wX : Addr) (h0 : Heap) (n0 : Nat) (Z0 : n0 ≤ h0.size) (S_IS : Sta Z h0 "com/example/gapkey/gapkey/core/LockMode" "IS" "Lcom/example/gapkey/gapkey/core/LockMode;" (.ref wIS)) (S_IX : Sta Z h0 "com/example/gapkey/gapkey/core/LockMode" "IX" "Lcom/example/gapkey/gapkey/core/LockMode;" (.ref wIX)) (S_S : Sta Z h0 "com/example/gapkey/gapkey/core/LockMode" "S" "Lcom/example/gapkey/gapkey/core/LockMode;" (.ref wS)) (S_X : Sta Z h0 "com/example/gapkey/gapkey/core/LockMode" "X" "Lcom/example/gapkey/gapkey/core/LockMode;" (.ref wX)) :
    MetFree l (⟨"com/example/gapkey/gapkey/core/LockMode", "covers", "(Lcom/example/gapkey/gapkey/core/LockMode;)Z"⟩ : MethodName) (head1 (Jvm.Cond.code (⟨"com/example/gapkey/gapkey/core/LockMode", "covers", "(Lcom/example/gapkey/gapkey/core/LockMode;)Z"⟩ : MethodName) prog_25_method_5_code 2 (some .boolean) :: ws) ({ frames := 0, cells := 0, slots := 0, locals := 0 } : Room)) (fun a U => a = #[(.ref a1), (.ref a2)] ∧ Z.Warmed39 U.vm ∧ U.heap = h0) (fun _ _ _ _ _ => True) (fun _ U o U' => ∃ v L, o = .returned v ∧ Q2 Z a1 a2 wIS wIX wS wX h0 n0 v U'.heap L ∧ FrameEnd U o U' L ({ frames := 0, cells := 0, slots := 0, locals := 0 } : Room).cells ({ frames := 0, cells := 0, slots := 0, locals := 0 } : Room).slots) := by
  refine MetFree.of_bodySF (plainFor_of_name pn_com_example_gapkey_gapkey_core_LockMode) hisR ?_
  intro p e s m args below meth c s₁ Bd hml0 hP hK
  obtain ⟨rfl, hZ, hh⟩ := hP
  have hx := Bd.exec
  have hby := Bd.bytes
  have hml : c.maxLocals = 2 := hml0
  have hown : s.vm.findClass "com/example/gapkey/gapkey/core/LockMode" = some m.cls := findClass_of_methodNamed Bd.named
  have hnm := (name_of_methodNamed Bd.named Bd.method).1
  have X0 : Stand p l e ({ frames := 0, cells := 0, slots := 0, locals := 0 } : Room) s m #[(.ref a1), (.ref a2)] below meth c s₁ [] 0 0 := Stand.of_body Bd
  have e0 : s₁.heap = h0 := by rw [← hh, Bd.state]; rfl
  have N0 := Fr.nil n0
  have pre0 : ∀ t, Steps p.tables e below (s₁.setTop (mkF m 0 #[.val (.ref a1), .val (.ref a2)] [])) t → Steps p.tables e below (s₁.setTop (entryFrame m #[(.ref a1), (.ref a2)] 2)) t := fun t k => castTop (ef_rm2 m a1 a2) k
  have pre102 : ∀ t, Steps p.tables e below (s₁.setTop (mkF m 2 #[.val (.ref a1), .val (.ref a2)] [(.ref a2), (.ref a1)])) t → Steps p.tables e below (s₁.setTop (entryFrame m #[(.ref a1), (.ref a2)] 2)) t := fun t k => pre0 t (by
    show Steps p.tables e below (s₁.setTop (mkF m 0 #[.val (.ref a1), .val (.ref a2)] [])) t
    refine XS.aloadN X0.here hx rfl (hb hby d2_0) rfl rfl ?_
    show Steps p.tables e below (s₁.setTop (mkF m 1 #[.val (.ref a1), .val (.ref a2)] [(.ref a1)])) t
    refine XS.aloadN X0.here hx rfl (hb hby d2_1) rfl rfl ?_
    exact k)
  by_cases hc101 : a1 = a2
  · have pre103 : ∀ t, Steps p.tables e below (s₁.setTop (mkF m 38 #[.val (.ref a1), .val (.ref a2)] [(.int (1 : Int32))])) t → Steps p.tables e below (s₁.setTop (entryFrame m #[(.ref a1), (.ref a2)] 2)) t := fun t k => pre102 t (by
      show Steps p.tables e below (s₁.setTop (mkF m 2 #[.val (.ref a1), .val (.ref a2)] [(.ref a2), (.ref a1)])) t
      refine Jvm.RoadKit.acmp (g := (mkF m 2 #[.val (.ref a1), .val (.ref a2)] [(.ref a2), (.ref a1)])) X0 hx rfl rfl rfl (pc0 := 2) (pc' := 33) (same := true) rfl (hb hby d2_2) rfl (decide_eq_true (congrArg Value.ref hc101)) (by decide) (by decide) ?_
      show Steps p.tables e below (s₁.setTop (mkF m 33 #[.val (.ref a1), .val (.ref a2)] [])) t
      refine XS.iconst X0.here hx rfl (hb hby d2_33) ?_
      show Steps p.tables e below (s₁.setTop (mkF m 34 #[.val (.ref a1), .val (.ref a2)] [(.int (1 : Int32))])) t
      refine XS.goto X0.here hx rfl (pc0 := 34) (pc' := 38) rfl (hb hby d2_34) (by decide) (by decide) ?_
      exact k)
    obtain ⟨fs, hr, hrun, hended, hW, hsame⟩ := X0.leave (v := some (.int (1 : Int32))) (fun h => by rw [Bd.returns] at h; cases h)
    refine ⟨_, _, pre103 _ ?_, hrun, hended, _, _, rfl, ?_, ⟨_, rfl⟩, hW, hsame.mono (by decide) (by decide)⟩
    · exact retN X0 hx (t := .boolean) Bd.returns (by simp) (hb hby d2_38) hr
    · show Q2 Z a1 a2 wIS wIX wS wX h0 n0 _ s₁.heap _
      rw [e0]
      exact ⟨(by have hq : (a1 = a2 ∨ (a1 = wX ∧ a2 = wS) ∨ (a1 = wIX ∧ a2 = wIS)) := (by first | exact Or.inl (by assumption) | exact Or.inr (Or.inl ⟨by assumption, by assumption⟩) | exact Or.inr (Or.inr ⟨by assumption, by assumption⟩)); rw [own_cov, if_pos hq]), N0, rfl⟩
  · obtain ⟨T104, X104, e104, st104⟩ := getS2 X0 hx hZ hown (host := "") (Or.inl (own_i hw 14 rfl)) Via.refl e0 S_X (g := (mkF m 6 #[.val (.ref a1), .val (.ref a2)] [(.ref a1)])) rfl (hb hby d2_6)
    have pre106 : ∀ t, Steps p.tables e below (T104.setTop (mkF m 9 #[.val (.ref a1), .val (.ref a2)] [(.ref wX), (.ref a1)])) t → Steps p.tables e below (s₁.setTop (entryFrame m #[(.ref a1), (.ref a2)] 2)) t := fun t k => pre102 t (by
      show Steps p.tables e below (s₁.setTop (mkF m 2 #[.val (.ref a1), .val (.ref a2)] [(.ref a2), (.ref a1)])) t
      refine Jvm.RoadKit.acmp (g := (mkF m 2 #[.val (.ref a1), .val (.ref a2)] [(.ref a2), (.ref a1)])) X0 hx rfl rfl rfl (pc0 := 2) (pc' := 5) (same := false) rfl (hb hby d2_2) rfl (decide_eq_false fun q => hc101 (Value.ref.inj q)) (by decide) (by decide) ?_
      show Steps p.tables e below (s₁.setTop (mkF m 5 #[.val (.ref a1), .val (.ref a2)] [])) t
      refine XS.aloadN X0.here hx rfl (hb hby d2_5) rfl rfl ?_
      show Steps p.tables e below (s₁.setTop (mkF m 6 #[.val (.ref a1), .val (.ref a2)] [(.ref a1)])) t
      refine st104 _ ?_
      exact k)
    by_cases hc105 : a1 = wX
    · obtain ⟨T107, X107, e107, st107⟩ := getS2 X104 hx hZ hown (host := "") (Or.inl (own_i hw 20 rfl)) Via.refl e104 S_S (g := (mkF m 13 #[.val (.ref a1), .val (.ref a2)] [(.ref a2)])) rfl (hb hby d2_13)
      have pre109 : ∀ t, Steps p.tables e below (T107.setTop (mkF m 16 #[.val (.ref a1), .val (.ref a2)] [(.ref wS), (.ref a2)])) t → Steps p.tables e below (s₁.setTop (entryFrame m #[(.ref a1), (.ref a2)] 2)) t := fun t k => pre106 t (by
        show Steps p.tables e below (T104.setTop (mkF m 9 #[.val (.ref a1), .val (.ref a2)] [(.ref wX), (.ref a1)])) t
        refine Jvm.RoadKit.acmp (g := (mkF m 9 #[.val (.ref a1), .val (.ref a2)] [(.ref wX), (.ref a1)])) X104 hx rfl rfl rfl (pc0 := 9) (pc' := 12) (same := true) rfl (hb hby d2_9) rfl (decide_eq_true (congrArg Value.ref hc105)) (by decide) (by decide) ?_
        show Steps p.tables e below (T104.setTop (mkF m 12 #[.val (.ref a1), .val (.ref a2)] [])) t
        refine XS.aloadN X104.here hx rfl (hb hby d2_12) rfl rfl ?_
        show Steps p.tables e below (T104.setTop (mkF m 13 #[.val (.ref a1), .val (.ref a2)] [(.ref a2)])) t
        refine st107 _ ?_
        exact k)
      by_cases hc108 : a2 = wS
      · have pre110 : ∀ t, Steps p.tables e below (T107.setTop (mkF m 38 #[.val (.ref a1), .val (.ref a2)] [(.int (1 : Int32))])) t → Steps p.tables e below (s₁.setTop (entryFrame m #[(.ref a1), (.ref a2)] 2)) t := fun t k => pre109 t (by
          show Steps p.tables e below (T107.setTop (mkF m 16 #[.val (.ref a1), .val (.ref a2)] [(.ref wS), (.ref a2)])) t
          refine Jvm.RoadKit.acmp (g := (mkF m 16 #[.val (.ref a1), .val (.ref a2)] [(.ref wS), (.ref a2)])) X107 hx rfl rfl rfl (pc0 := 16) (pc' := 33) (same := true) rfl (hb hby d2_16) rfl (decide_eq_true (congrArg Value.ref hc108)) (by decide) (by decide) ?_
          show Steps p.tables e below (T107.setTop (mkF m 33 #[.val (.ref a1), .val (.ref a2)] [])) t
          refine XS.iconst X107.here hx rfl (hb hby d2_33) ?_
          show Steps p.tables e below (T107.setTop (mkF m 34 #[.val (.ref a1), .val (.ref a2)] [(.int (1 : Int32))])) t
          refine XS.goto X107.here hx rfl (pc0 := 34) (pc' := 38) rfl (hb hby d2_34) (by decide) (by decide) ?_
          exact k)
        obtain ⟨fs, hr, hrun, hended, hW, hsame⟩ := X107.leave (v := some (.int (1 : Int32))) (fun h => by rw [Bd.returns] at h; cases h)
        refine ⟨_, _, pre110 _ ?_, hrun, hended, _, _, rfl, ?_, ⟨_, rfl⟩, hW, hsame.mono (by decide) (by decide)⟩
        · exact retN X107 hx (t := .boolean) Bd.returns (by simp) (hb hby d2_38) hr
        · show Q2 Z a1 a2 wIS wIX wS wX h0 n0 _ T107.heap _
          rw [e107]
          exact ⟨(by have hq : (a1 = a2 ∨ (a1 = wX ∧ a2 = wS) ∨ (a1 = wIX ∧ a2 = wIS)) := (by first | exact Or.inl (by assumption) | exact Or.inr (Or.inl ⟨by assumption, by assumption⟩) | exact Or.inr (Or.inr ⟨by assumption, by assumption⟩)); rw [own_cov, if_pos hq]), N0, rfl⟩
      · obtain ⟨T111, X111, e111, st111⟩ := getS2 X107 hx hZ hown (host := "") (Or.inl (own_i hw 15 rfl)) Via.refl e107 S_IX (g := (mkF m 20 #[.val (.ref a1), .val (.ref a2)] [(.ref a1)])) rfl (hb hby d2_20)
        have pre113 : ∀ t, Steps p.tables e below (T111.setTop (mkF m 23 #[.val (.ref a1), .val (.ref a2)] [(.ref wIX), (.ref a1)])) t → Steps p.tables e below (s₁.setTop (entryFrame m #[(.ref a1), (.ref a2)] 2)) t := fun t k => pre109 t (by
          show Steps p.tables e below (T107.setTop (mkF m 16 #[.val (.ref a1), .val (.ref a2)] [(.ref wS), (.ref a2)])) t
          refine Jvm.RoadKit.acmp (g := (mkF m 16 #[.val (.ref a1), .val (.ref a2)] [(.ref wS), (.ref a2)])) X107 hx rfl rfl rfl (pc0 := 16) (pc' := 19) (same := false) rfl (hb hby d2_16) rfl (decide_eq_false fun q => hc108 (Value.ref.inj q)) (by decide) (by decide) ?_
          show Steps p.tables e below (T107.setTop (mkF m 19 #[.val (.ref a1), .val (.ref a2)] [])) t
          refine XS.aloadN X107.here hx rfl (hb hby d2_19) rfl rfl ?_
          show Steps p.tables e below (T107.setTop (mkF m 20 #[.val (.ref a1), .val (.ref a2)] [(.ref a1)])) t
          refine st111 _ ?_
          exact k)
        by_cases hc112 : a1 = wIX
        · obtain ⟨T114, X114, e114, st114⟩ := getS2 X111 hx hZ hown (host := "") (Or.inl (own_i hw 21 rfl)) Via.refl e111 S_IS (g := (mkF m 27 #[.val (.ref a1), .val (.ref a2)] [(.ref a2)])) rfl (hb hby d2_27)
          have pre116 : ∀ t, Steps p.tables e below (T114.setTop (mkF m 30 #[.val (.ref a1), .val (.ref a2)] [(.ref wIS), (.ref a2)])) t → Steps p.tables e below (s₁.setTop (entryFrame m #[(.ref a1), (.ref a2)] 2)) t := fun t k => pre113 t (by
            show Steps p.tables e below (T111.setTop (mkF m 23 #[.val (.ref a1), .val (.ref a2)] [(.ref wIX), (.ref a1)])) t
            refine Jvm.RoadKit.acmp (g := (mkF m 23 #[.val (.ref a1), .val (.ref a2)] [(.ref wIX), (.ref a1)])) X111 hx rfl rfl rfl (pc0 := 23) (pc' := 26) (same := true) rfl (hb hby d2_23) rfl (decide_eq_true (congrArg Value.ref hc112)) (by decide) (by decide) ?_
            show Steps p.tables e below (T111.setTop (mkF m 26 #[.val (.ref a1), .val (.ref a2)] [])) t
            refine XS.aloadN X111.here hx rfl (hb hby d2_26) rfl rfl ?_
            show Steps p.tables e below (T111.setTop (mkF m 27 #[.val (.ref a1), .val (.ref a2)] [(.ref a2)])) t
            refine st114 _ ?_
            exact k)
          by_cases hc115 : a2 = wIS
          · have pre117 : ∀ t, Steps p.tables e below (T114.setTop (mkF m 38 #[.val (.ref a1), .val (.ref a2)] [(.int (1 : Int32))])) t → Steps p.tables e below (s₁.setTop (entryFrame m #[(.ref a1), (.ref a2)] 2)) t := fun t k => pre116 t (by
              show Steps p.tables e below (T114.setTop (mkF m 30 #[.val (.ref a1), .val (.ref a2)] [(.ref wIS), (.ref a2)])) t
              refine Jvm.RoadKit.acmp (g := (mkF m 30 #[.val (.ref a1), .val (.ref a2)] [(.ref wIS), (.ref a2)])) X114 hx rfl rfl rfl (pc0 := 30) (pc' := 33) (same := true) rfl (hb hby d2_30) rfl (decide_eq_true (congrArg Value.ref hc115)) (by decide) (by decide) ?_
              show Steps p.tables e below (T114.setTop (mkF m 33 #[.val (.ref a1), .val (.ref a2)] [])) t
              refine XS.iconst X114.here hx rfl (hb hby d2_33) ?_
              show Steps p.tables e below (T114.setTop (mkF m 34 #[.val (.ref a1), .val (.ref a2)] [(.int (1 : Int32))])) t
              refine XS.goto X114.here hx rfl (pc0 := 34) (pc' := 38) rfl (hb hby d2_34) (by decide) (by decide) ?_
              exact k)
            obtain ⟨fs, hr, hrun, hended, hW, hsame⟩ := X114.leave (v := some (.int (1 : Int32))) (fun h => by rw [Bd.returns] at h; cases h)
            refine ⟨_, _, pre117 _ ?_, hrun, hended, _, _, rfl, ?_, ⟨_, rfl⟩, hW, hsame.mono (by decide) (by decide)⟩
            · exact retN X114 hx (t := .boolean) Bd.returns (by simp) (hb hby d2_38) hr
            · show Q2 Z a1 a2 wIS wIX wS wX h0 n0 _ T114.heap _
              rw [e114]
              exact ⟨(by have hq : (a1 = a2 ∨ (a1 = wX ∧ a2 = wS) ∨ (a1 = wIX ∧ a2 = wIS)) := (by first | exact Or.inl (by assumption) | exact Or.inr (Or.inl ⟨by assumption, by assumption⟩) | exact Or.inr (Or.inr ⟨by assumption, by assumption⟩)); rw [own_cov, if_pos hq]), N0, rfl⟩
          · have pre118 : ∀ t, Steps p.tables e below (T114.setTop (mkF m 38 #[.val (.ref a1), .val (.ref a2)] [(.int (0 : Int32))])) t → Steps p.tables e below (s₁.setTop (entryFrame m #[(.ref a1), (.ref a2)] 2)) t := fun t k => pre116 t (by
              show Steps p.tables e below (T114.setTop (mkF m 30 #[.val (.ref a1), .val (.ref a2)] [(.ref wIS), (.ref a2)])) t
              refine Jvm.RoadKit.acmp (g := (mkF m 30 #[.val (.ref a1), .val (.ref a2)] [(.ref wIS), (.ref a2)])) X114 hx rfl rfl rfl (pc0 := 30) (pc' := 37) (same := false) rfl (hb hby d2_30) rfl (decide_eq_false fun q => hc115 (Value.ref.inj q)) (by decide) (by decide) ?_
              show Steps p.tables e below (T114.setTop (mkF m 37 #[.val (.ref a1), .val (.ref a2)] [])) t
              refine XS.iconst X114.here hx rfl (hb hby d2_37) ?_
              exact k)
            obtain ⟨fs, hr, hrun, hended, hW, hsame⟩ := X114.leave (v := some (.int (0 : Int32))) (fun h => by rw [Bd.returns] at h; cases h)
            refine ⟨_, _, pre118 _ ?_, hrun, hended, _, _, rfl, ?_, ⟨_, rfl⟩, hW, hsame.mono (by decide) (by decide)⟩
            · exact retN X114 hx (t := .boolean) Bd.returns (by simp) (hb hby d2_38) hr
            · show Q2 Z a1 a2 wIS wIX wS wX h0 n0 _ T114.heap _
              rw [e114]
              exact ⟨(by have hq : ¬ (a1 = a2 ∨ (a1 = wX ∧ a2 = wS) ∨ (a1 = wIX ∧ a2 = wIS)) := (by rintro (q | ⟨q, r⟩ | ⟨q, r⟩) <;> contradiction); rw [own_cov, if_neg hq]), N0, rfl⟩
        · have pre119 : ∀ t, Steps p.tables e below (T111.setTop (mkF m 38 #[.val (.ref a1), .val (.ref a2)] [(.int (0 : Int32))])) t → Steps p.tables e below (s₁.setTop (entryFrame m #[(.ref a1), (.ref a2)] 2)) t := fun t k => pre113 t (by
            show Steps p.tables e below (T111.setTop (mkF m 23 #[.val (.ref a1), .val (.ref a2)] [(.ref wIX), (.ref a1)])) t
            refine Jvm.RoadKit.acmp (g := (mkF m 23 #[.val (.ref a1), .val (.ref a2)] [(.ref wIX), (.ref a1)])) X111 hx rfl rfl rfl (pc0 := 23) (pc' := 37) (same := false) rfl (hb hby d2_23) rfl (decide_eq_false fun q => hc112 (Value.ref.inj q)) (by decide) (by decide) ?_
            show Steps p.tables e below (T111.setTop (mkF m 37 #[.val (.ref a1), .val (.ref a2)] [])) t
            refine XS.iconst X111.here hx rfl (hb hby d2_37) ?_
            exact k)
          obtain ⟨fs, hr, hrun, hended, hW, hsame⟩ := X111.leave (v := some (.int (0 : Int32))) (fun h => by rw [Bd.returns] at h; cases h)
          refine ⟨_, _, pre119 _ ?_, hrun, hended, _, _, rfl, ?_, ⟨_, rfl⟩, hW, hsame.mono (by decide) (by decide)⟩
          · exact retN X111 hx (t := .boolean) Bd.returns (by simp) (hb hby d2_38) hr
          · show Q2 Z a1 a2 wIS wIX wS wX h0 n0 _ T111.heap _
            rw [e111]
            exact ⟨(by have hq : ¬ (a1 = a2 ∨ (a1 = wX ∧ a2 = wS) ∨ (a1 = wIX ∧ a2 = wIS)) := (by rintro (q | ⟨q, r⟩ | ⟨q, r⟩) <;> contradiction); rw [own_cov, if_neg hq]), N0, rfl⟩
    · obtain ⟨T120, X120, e120, st120⟩ := getS2 X104 hx hZ hown (host := "") (Or.inl (own_i hw 15 rfl)) Via.refl e104 S_IX (g := (mkF m 20 #[.val (.ref a1), .val (.ref a2)] [(.ref a1)])) rfl (hb hby d2_20)
      have pre122 : ∀ t, Steps p.tables e below (T120.setTop (mkF m 23 #[.val (.ref a1), .val (.ref a2)] [(.ref wIX), (.ref a1)])) t → Steps p.tables e below (s₁.setTop (entryFrame m #[(.ref a1), (.ref a2)] 2)) t := fun t k => pre106 t (by
        show Steps p.tables e below (T104.setTop (mkF m 9 #[.val (.ref a1), .val (.ref a2)] [(.ref wX), (.ref a1)])) t
        refine Jvm.RoadKit.acmp (g := (mkF m 9 #[.val (.ref a1), .val (.ref a2)] [(.ref wX), (.ref a1)])) X104 hx rfl rfl rfl (pc0 := 9) (pc' := 19) (same := false) rfl (hb hby d2_9) rfl (decide_eq_false fun q => hc105 (Value.ref.inj q)) (by decide) (by decide) ?_
        show Steps p.tables e below (T104.setTop (mkF m 19 #[.val (.ref a1), .val (.ref a2)] [])) t
        refine XS.aloadN X104.here hx rfl (hb hby d2_19) rfl rfl ?_
        show Steps p.tables e below (T104.setTop (mkF m 20 #[.val (.ref a1), .val (.ref a2)] [(.ref a1)])) t
        refine st120 _ ?_
        exact k)
      by_cases hc121 : a1 = wIX
      · obtain ⟨T123, X123, e123, st123⟩ := getS2 X120 hx hZ hown (host := "") (Or.inl (own_i hw 21 rfl)) Via.refl e120 S_IS (g := (mkF m 27 #[.val (.ref a1), .val (.ref a2)] [(.ref a2)])) rfl (hb hby d2_27)
        have pre125 : ∀ t, Steps p.tables e below (T123.setTop (mkF m 30 #[.val (.ref a1), .val (.ref a2)] [(.ref wIS), (.ref a2)])) t → Steps p.tables e below (s₁.setTop (entryFrame m #[(.ref a1), (.ref a2)] 2)) t := fun t k => pre122 t (by
          show Steps p.tables e below (T120.setTop (mkF m 23 #[.val (.ref a1), .val (.ref a2)] [(.ref wIX), (.ref a1)])) t
          refine Jvm.RoadKit.acmp (g := (mkF m 23 #[.val (.ref a1), .val (.ref a2)] [(.ref wIX), (.ref a1)])) X120 hx rfl rfl rfl (pc0 := 23) (pc' := 26) (same := true) rfl (hb hby d2_23) rfl (decide_eq_true (congrArg Value.ref hc121)) (by decide) (by decide) ?_
          show Steps p.tables e below (T120.setTop (mkF m 26 #[.val (.ref a1), .val (.ref a2)] [])) t
          refine XS.aloadN X120.here hx rfl (hb hby d2_26) rfl rfl ?_
          show Steps p.tables e below (T120.setTop (mkF m 27 #[.val (.ref a1), .val (.ref a2)] [(.ref a2)])) t
          refine st123 _ ?_
          exact k)
        by_cases hc124 : a2 = wIS
        · have pre126 : ∀ t, Steps p.tables e below (T123.setTop (mkF m 38 #[.val (.ref a1), .val (.ref a2)] [(.int (1 : Int32))])) t → Steps p.tables e below (s₁.setTop (entryFrame m #[(.ref a1), (.ref a2)] 2)) t := fun t k => pre125 t (by
            show Steps p.tables e below (T123.setTop (mkF m 30 #[.val (.ref a1), .val (.ref a2)] [(.ref wIS), (.ref a2)])) t
            refine Jvm.RoadKit.acmp (g := (mkF m 30 #[.val (.ref a1), .val (.ref a2)] [(.ref wIS), (.ref a2)])) X123 hx rfl rfl rfl (pc0 := 30) (pc' := 33) (same := true) rfl (hb hby d2_30) rfl (decide_eq_true (congrArg Value.ref hc124)) (by decide) (by decide) ?_
            show Steps p.tables e below (T123.setTop (mkF m 33 #[.val (.ref a1), .val (.ref a2)] [])) t
            refine XS.iconst X123.here hx rfl (hb hby d2_33) ?_
            show Steps p.tables e below (T123.setTop (mkF m 34 #[.val (.ref a1), .val (.ref a2)] [(.int (1 : Int32))])) t
            refine XS.goto X123.here hx rfl (pc0 := 34) (pc' := 38) rfl (hb hby d2_34) (by decide) (by decide) ?_
            exact k)
          obtain ⟨fs, hr, hrun, hended, hW, hsame⟩ := X123.leave (v := some (.int (1 : Int32))) (fun h => by rw [Bd.returns] at h; cases h)
          refine ⟨_, _, pre126 _ ?_, hrun, hended, _, _, rfl, ?_, ⟨_, rfl⟩, hW, hsame.mono (by decide) (by decide)⟩
          · exact retN X123 hx (t := .boolean) Bd.returns (by simp) (hb hby d2_38) hr
          · show Q2 Z a1 a2 wIS wIX wS wX h0 n0 _ T123.heap _
            rw [e123]
            exact ⟨(by have hq : (a1 = a2 ∨ (a1 = wX ∧ a2 = wS) ∨ (a1 = wIX ∧ a2 = wIS)) := (by first | exact Or.inl (by assumption) | exact Or.inr (Or.inl ⟨by assumption, by assumption⟩) | exact Or.inr (Or.inr ⟨by assumption, by assumption⟩)); rw [own_cov, if_pos hq]), N0, rfl⟩
        · have pre127 : ∀ t, Steps p.tables e below (T123.setTop (mkF m 38 #[.val (.ref a1), .val (.ref a2)] [(.int (0 : Int32))])) t → Steps p.tables e below (s₁.setTop (entryFrame m #[(.ref a1), (.ref a2)] 2)) t := fun t k => pre125 t (by
            show Steps p.tables e below (T123.setTop (mkF m 30 #[.val (.ref a1), .val (.ref a2)] [(.ref wIS), (.ref a2)])) t
            refine Jvm.RoadKit.acmp (g := (mkF m 30 #[.val (.ref a1), .val (.ref a2)] [(.ref wIS), (.ref a2)])) X123 hx rfl rfl rfl (pc0 := 30) (pc' := 37) (same := false) rfl (hb hby d2_30) rfl (decide_eq_false fun q => hc124 (Value.ref.inj q)) (by decide) (by decide) ?_
            show Steps p.tables e below (T123.setTop (mkF m 37 #[.val (.ref a1), .val (.ref a2)] [])) t
            refine XS.iconst X123.here hx rfl (hb hby d2_37) ?_
            exact k)
          obtain ⟨fs, hr, hrun, hended, hW, hsame⟩ := X123.leave (v := some (.int (0 : Int32))) (fun h => by rw [Bd.returns] at h; cases h)
          refine ⟨_, _, pre127 _ ?_, hrun, hended, _, _, rfl, ?_, ⟨_, rfl⟩, hW, hsame.mono (by decide) (by decide)⟩
          · exact retN X123 hx (t := .boolean) Bd.returns (by simp) (hb hby d2_38) hr
          · show Q2 Z a1 a2 wIS wIX wS wX h0 n0 _ T123.heap _
            rw [e123]
            exact ⟨(by have hq : ¬ (a1 = a2 ∨ (a1 = wX ∧ a2 = wS) ∨ (a1 = wIX ∧ a2 = wIS)) := (by rintro (q | ⟨q, r⟩ | ⟨q, r⟩) <;> contradiction); rw [own_cov, if_neg hq]), N0, rfl⟩
      · have pre128 : ∀ t, Steps p.tables e below (T120.setTop (mkF m 38 #[.val (.ref a1), .val (.ref a2)] [(.int (0 : Int32))])) t → Steps p.tables e below (s₁.setTop (entryFrame m #[(.ref a1), (.ref a2)] 2)) t := fun t k => pre122 t (by
          show Steps p.tables e below (T120.setTop (mkF m 23 #[.val (.ref a1), .val (.ref a2)] [(.ref wIX), (.ref a1)])) t
          refine Jvm.RoadKit.acmp (g := (mkF m 23 #[.val (.ref a1), .val (.ref a2)] [(.ref wIX), (.ref a1)])) X120 hx rfl rfl rfl (pc0 := 23) (pc' := 37) (same := false) rfl (hb hby d2_23) rfl (decide_eq_false fun q => hc121 (Value.ref.inj q)) (by decide) (by decide) ?_
          show Steps p.tables e below (T120.setTop (mkF m 37 #[.val (.ref a1), .val (.ref a2)] [])) t
          refine XS.iconst X120.here hx rfl (hb hby d2_37) ?_
          exact k)
        obtain ⟨fs, hr, hrun, hended, hW, hsame⟩ := X120.leave (v := some (.int (0 : Int32))) (fun h => by rw [Bd.returns] at h; cases h)
        refine ⟨_, _, pre128 _ ?_, hrun, hended, _, _, rfl, ?_, ⟨_, rfl⟩, hW, hsame.mono (by decide) (by decide)⟩
        · exact retN X120 hx (t := .boolean) Bd.returns (by simp) (hb hby d2_38) hr
        · show Q2 Z a1 a2 wIS wIX wS wX h0 n0 _ T120.heap _
          rw [e120]
          exact ⟨(by have hq : ¬ (a1 = a2 ∨ (a1 = wX ∧ a2 = wS) ∨ (a1 = wIX ∧ a2 = wIS)) := (by rintro (q | ⟨q, r⟩ | ⟨q, r⟩) <;> contradiction); rw [own_cov, if_neg hq]), N0, rfl⟩
theorem own_and3 (x : Int32) : x &&& 3 = 0 ∨ x &&& 3 = 1 ∨ x &&& 3 = 2 ∨ x &&& 3 = 3 := by
  have h : (x &&& 3).toInt = 0 ∨ (x &&& 3).toInt = 1 ∨ (x &&& 3).toInt = 2 ∨ (x &&& 3).toInt = 3 := by
    have e : (x &&& 3).toInt = x.toInt % 2 ^ 2 := Jvm.Kit.i32_mask x 3 (k := 2) (by decide) (by decide)
    omega
  have q : ∀ k : Int32, (x &&& 3).toInt = k.toInt → x &&& 3 = k := fun k hk => Int32.toInt_inj.mp hk
  rcases h with h | h | h | h
  · exact Or.inl (q 0 h)
  · exact Or.inr (Or.inl (q 1 h))
  · exact Or.inr (Or.inr (Or.inl (q 2 h)))
  · exact Or.inr (Or.inr (Or.inr (q 3 h)))
theorem own_law (p1 p2 : Int32) {v111 v117 v126 : Int32} {wIS wX wIX wS : Addr} (h0 : ((((p1 &&& (3 : Int32)) >>> ((1 : Int32) &&& 31)) = ((p2 &&& (3 : Int32)) >>> ((1 : Int32) &&& 31))) ∧ v111 = (1 : Int32)) ∨ ((¬ (((p1 &&& (3 : Int32)) >>> ((1 : Int32) &&& 31)) = ((p2 &&& (3 : Int32)) >>> ((1 : Int32) &&& 31)))) ∧ v111 = (0 : Int32))) (h1 : ((((p1 &&& (3 : Int32)) &&& (1 : Int32)) < ((p2 &&& (3 : Int32)) &&& (1 : Int32))) ∧ v117 = (0 : Int32)) ∨ ((¬ (((p1 &&& (3 : Int32)) &&& (1 : Int32)) < ((p2 &&& (3 : Int32)) &&& (1 : Int32)))) ∧ v117 = (1 : Int32))) (h2 : ((v111 = (0 : Int32)) ∧ v126 = (0 : Int32)) ∨ ((¬ (v111 = (0 : Int32))) ∧ (v117 = (0 : Int32)) ∧ v126 = (0 : Int32)) ∨ ((¬ (v111 = (0 : Int32))) ∧ (¬ (v117 = (0 : Int32))) ∧ v126 = (1 : Int32))) (ne_IS_X : wIS ≠ wX) (ne_IS_IX : wIS ≠ wIX) (ne_IS_S : wIS ≠ wS) (ne_X_IX : wX ≠ wIX) (ne_X_S : wX ≠ wS) (ne_IX_S : wIX ≠ wS) : own_cov (own_mode (p1 &&& (3 : Int32)) wIS wIX wS wX) (own_mode (p2 &&& (3 : Int32)) wIS wIX wS wX) wIS wIX wS wX = v126 := by
  have sy : wX ≠ wIS ∧ wIX ≠ wIS ∧ wS ≠ wIS ∧ wIX ≠ wX ∧ wS ≠ wX ∧ wS ≠ wIX := ⟨Ne.symm ne_IS_X, Ne.symm ne_IS_IX, Ne.symm ne_IS_S, Ne.symm ne_X_IX, Ne.symm ne_X_S, Ne.symm ne_IX_S⟩
  obtain ⟨sy0, sy1, sy2, sy3, sy4, sy5⟩ := sy
  rcases own_and3 p1 with i | i | i | i <;> rcases own_and3 p2 with j | j | j | j <;> rw [i, j] at h0 h1 ⊢ <;> simp +decide [own_mode, own_cov] at h0 h1 h2 ⊢ <;> simp_all
theorem pd_0 : parseMethodDescriptor "(I)Lcom/example/gapkey/gapkey/core/LockMode;" = some ⟨[.int], some (.object "com/example/gapkey/gapkey/core/LockMode")⟩ := by decide +kernel
theorem pd_1 : parseMethodDescriptor "(Lcom/example/gapkey/gapkey/core/LockMode;)Z" = some ⟨[(.object "com/example/gapkey/gapkey/core/LockMode")], some .boolean⟩ := by decide +kernel
theorem ef_rm0 (m : MethodId) (x0 : Int32) (x1 : Int32) : entryFrame m #[(.int x0), (.int x1)] maxLocals = mkF m 0 #[.val (.int x0), .val (.int x1), .unset, .unset, .unset, .unset, .unset, .unset, .unset] [] := by first | (simp [entryFrame, mkF, argsToLocals, Value.category, maxLocals]; done) | rfl
def Q0 (Z : State) (p1 : Int32) (p2 : Int32) (wIS : Addr) (wX : Addr) (wIX : Addr) (wS : Addr) (h0 : Heap) (n0 : Nat) (v : Option Value) (h : Heap) (L : List Loc) : Prop := v = some (.int 1) ∧ Fr n0 L
set_option maxRecDepth 65536 in
set_option maxHeartbeats 40000000 in
theorem rm0 (l : Launch) (Z : State) (a0 : Array Value) (hw : ∀ d ∈ tables_1, d.before a0 Z = true) (ws : List Jvm.Cond) (p1 : Int32) (p2 : Int32) (wIS : Addr) (wX : Addr) (wIX : Addr) (wS : Addr) (h0 : Heap) (n0 : Nat) (Z0 : n0 ≤ h0.size) (S_IS : Sta Z h0 "com/example/gapkey/gapkey/core/LockMode" "IS" "Lcom/example/gapkey/gapkey/core/LockMode;" (.ref wIS)) (E_IS : Exa Z h0 wIS "com/example/gapkey/gapkey/core/LockMode") (S_X : Sta Z h0 "com/example/gapkey/gapkey/core/LockMode" "X" "Lcom/example/gapkey/gapkey/core/LockMode;" (.ref wX)) (E_X : Exa Z h0 wX "com/example/gapkey/gapkey/core/LockMode") (S_IX : Sta Z h0 "com/example/gapkey/gapkey/core/LockMode" "IX" "Lcom/example/gapkey/gapkey/core/LockMode;" (.ref wIX)) (E_IX : Exa Z h0 wIX "com/example/gapkey/gapkey/core/LockMode") (S_S : Sta Z h0 "com/example/gapkey/gapkey/core/LockMode" "S" "Lcom/example/gapkey/gapkey/core/LockMode;" (.ref wS)) (E_S : Exa Z h0 wS "com/example/gapkey/gapkey/core/LockMode") (O0_IS : Fld Z h0 wIS "java/lang/Enum" "ordinal" "I" (.int (0 : Int32))) (O1_X : Fld Z h0 wX "java/lang/Enum" "ordinal" "I" (.int (3 : Int32))) (O2_IX : Fld Z h0 wIX "java/lang/Enum" "ordinal" "I" (.int (1 : Int32))) (O3_S : Fld Z h0 wS "java/lang/Enum" "ordinal" "I" (.int (2 : Int32))) (ne_IS_X : wIS ≠ wX) (ne_IS_IX : wIS ≠ wIX) (ne_IS_S : wIS ≠ wS) (ne_X_IX : wX ≠ wIX) (ne_X_S : wX ≠ wS) (ne_IX_S : wIX ≠ wS) :
    MetFree l x (head1 (Jvm.Cond.code x code maxLocals ret :: ws) room_1) (fun a U => a = #[(.int p1), (.int p2)] ∧ Z.Warmed39 U.vm ∧ U.heap = h0) (fun _ _ _ _ _ => True) (fun _ U o U' => ∃ v L, o = .returned v ∧ Q0 Z p1 p2 wIS wX wIX wS h0 n0 v U'.heap L ∧ FrameEnd U o U' L 0 0) := by
  refine MetFree.of_bodySF (plainFor_of_name pn_com_example_gapkey_gapkey_core_LockModeCoversPinLaw) hisR ?_
  intro p e s m args below meth c s₁ Bd hml0 hP hK
  obtain ⟨rfl, hZ, hh⟩ := hP
  have hx := Bd.exec
  have hby := Bd.bytes
  have hml : c.maxLocals = 9 := hml0
  have hown : s.vm.findClass "com/example/gapkey/gapkey/core/LockModeCoversPinLaw" = some m.cls := findClass_of_methodNamed Bd.named
  have hnm := (name_of_methodNamed Bd.named Bd.method).1
  have X0 : Stand p l e room_1 s m #[(.int p1), (.int p2)] below meth c s₁ [] 0 0 := Stand.of_body Bd
  have e0 : s₁.heap = h0 := by rw [← hh, Bd.state]; rfl
  have N0 := Fr.nil n0
  have pre0 : ∀ t, Steps p.tables e below (s₁.setTop (mkF m 0 #[.val (.int p1), .val (.int p2), .unset, .unset, .unset, .unset, .unset, .unset, .unset] [])) t → Steps p.tables e below (s₁.setTop (entryFrame m #[(.int p1), (.int p2)] maxLocals)) t := fun t k => castTop (ef_rm0 m p1 p2) k
  have f101 := Keep.refl h0 []
  obtain ⟨_, _, ⟨T102, L102, k102, n102⟩, -, X102, ⟨Lc102, hQ102, l102, y102, z102⟩, st102⟩ := Jvm.LawKit.callS X0 hx (y := (⟨"com/example/gapkey/gapkey/core/LockModeCoversPinLaw", "mode", "(I)Lcom/example/gapkey/gapkey/core/LockMode;"⟩ : MethodName)) hown (mvT hZ (own_i hw 0 rfl)) (mvT hZ (own_i hw 1 rfl)) (mvT hZ (own_i hw 2 rfl)) (mvT hZ (own_i hw 3 rfl)) (by decide) (backOf (W := 0) (rm1 l Z a0 hw [] (p1 &&& (3 : Int32)) wIS wIX wS wX h0 n0 Z0 S_IS S_IX S_S S_X) hZ (own_i hw 3 rfl) (own_i hw 2 rfl) (by decide) (by decide)) (g := (mkF m 9 #[.val (.int p1), .val (.int p2), .val (.int (p1 &&& (3 : Int32))), .val (.int (p2 &&& (3 : Int32))), .unset, .unset, .unset, .unset, .unset] [(.int (p1 &&& (3 : Int32)))])) rfl (by rw [hml]; rfl) (argsL := [(.int (p1 &&& (3 : Int32)))]) (rest := []) (lenOf pd_0 rfl) rfl (by show 2 * 0 + _ ≤ _; exact Nat.le_of_eq rfl) (hb hby at_9) (fun _ _ => ⟨rfl, e0, (by decide : 0 + 0 ≤ _), (by decide : 0 + 0 ≤ _)⟩)
  dsimp only [Pt.U, Pt.locs, Pt.cells, Pt.slots] at X102 l102 y102 z102 st102 hQ102
  subst l102 y102 z102
  obtain ⟨rfl, N102q, e102⟩ := hQ102
  have N102 := Fr.app N0 N102q
  have f103 : Exa Z h0 (own_mode (p1 &&& (3 : Int32)) wIS wIX wS wX) "com/example/gapkey/gapkey/core/LockMode" := own_exa E_IS E_IX E_S E_X
  obtain ⟨_, _, ⟨T104, L104, k104, n104⟩, -, X104, ⟨Lc104, hQ104, l104, y104, z104⟩, st104⟩ := Jvm.LawKit.callS X102 hx (y := (⟨"com/example/gapkey/gapkey/core/LockModeCoversPinLaw", "mode", "(I)Lcom/example/gapkey/gapkey/core/LockMode;"⟩ : MethodName)) hown (mvT hZ (own_i hw 0 rfl)) (mvT hZ (own_i hw 1 rfl)) (mvT hZ (own_i hw 2 rfl)) (mvT hZ (own_i hw 3 rfl)) (by decide) (backOf (W := 0) (rm1 l Z a0 hw [] (p2 &&& (3 : Int32)) wIS wIX wS wX h0 n0 Z0 S_IS S_IX S_S S_X) hZ (own_i hw 3 rfl) (own_i hw 2 rfl) (by decide) (by decide)) (g := (mkF m 15 #[.val (.int p1), .val (.int p2), .val (.int (p1 &&& (3 : Int32))), .val (.int (p2 &&& (3 : Int32))), .val (.ref (own_mode (p1 &&& (3 : Int32)) wIS wIX wS wX)), .unset, .unset, .unset, .unset] [(.int (p2 &&& (3 : Int32)))])) rfl (by rw [hml]; rfl) (argsL := [(.int (p2 &&& (3 : Int32)))]) (rest := []) (lenOf pd_0 rfl) rfl (by show 2 * 0 + _ ≤ _; exact Nat.le_of_eq rfl) (hb hby at_15) (fun _ _ => ⟨rfl, e102, (by decide : 0 + 0 ≤ _), (by decide : 0 + 0 ≤ _)⟩)
  dsimp only [Pt.U, Pt.locs, Pt.cells, Pt.slots] at X104 l104 y104 z104 st104 hQ104
  subst l104 y104 z104
  obtain ⟨rfl, N104q, e104⟩ := hQ104
  have N104 := Fr.app N102 N104q
  have f105 : Exa Z h0 (own_mode (p2 &&& (3 : Int32)) wIS wIX wS wX) "com/example/gapkey/gapkey/core/LockMode" := own_exa E_IS E_IX E_S E_X
  have pre106 : ∀ t, Steps p.tables e below (T104.setTop (mkF m 20 #[.val (.int p1), .val (.int p2), .val (.int (p1 &&& (3 : Int32))), .val (.int (p2 &&& (3 : Int32))), .val (.ref (own_mode (p1 &&& (3 : Int32)) wIS wIX wS wX)), .val (.ref (own_mode (p2 &&& (3 : Int32)) wIS wIX wS wX)), .unset, .unset, .unset] [])) t → Steps p.tables e below (s₁.setTop (entryFrame m #[(.int p1), (.int p2)] maxLocals)) t := fun t k => pre0 t (by
    show Steps p.tables e below (s₁.setTop (mkF m 0 #[.val (.int p1), .val (.int p2), .unset, .unset, .unset, .unset, .unset, .unset, .unset] [])) t
    refine XS.iloadN X0.here hx rfl (hb hby at_0) rfl ?_
    show Steps p.tables e below (s₁.setTop (mkF m 1 #[.val (.int p1), .val (.int p2), .unset, .unset, .unset, .unset, .unset, .unset, .unset] [(.int p1)])) t
    refine XS.iconst X0.here hx rfl (hb hby at_1) ?_
    show Steps p.tables e below (s₁.setTop (mkF m 2 #[.val (.int p1), .val (.int p2), .unset, .unset, .unset, .unset, .unset, .unset, .unset] [(.int (3 : Int32)), (.int p1)])) t
    refine XS.iand X0.here hx rfl (hb hby at_2) rfl ?_
    show Steps p.tables e below (s₁.setTop (mkF m 3 #[.val (.int p1), .val (.int p2), .unset, .unset, .unset, .unset, .unset, .unset, .unset] [(.int (p1 &&& (3 : Int32)))])) t
    refine XS.istoreN X0.here hx rfl (hb hby at_3) rfl (l' := #[.val (.int p1), .val (.int p2), .val (.int (p1 &&& (3 : Int32))), .unset, .unset, .unset, .unset, .unset, .unset]) rfl ?_
    show Steps p.tables e below (s₁.setTop (mkF m 4 #[.val (.int p1), .val (.int p2), .val (.int (p1 &&& (3 : Int32))), .unset, .unset, .unset, .unset, .unset, .unset] [])) t
    refine XS.iloadN X0.here hx rfl (hb hby at_4) rfl ?_
    show Steps p.tables e below (s₁.setTop (mkF m 5 #[.val (.int p1), .val (.int p2), .val (.int (p1 &&& (3 : Int32))), .unset, .unset, .unset, .unset, .unset, .unset] [(.int p2)])) t
    refine XS.iconst X0.here hx rfl (hb hby at_5) ?_
    show Steps p.tables e below (s₁.setTop (mkF m 6 #[.val (.int p1), .val (.int p2), .val (.int (p1 &&& (3 : Int32))), .unset, .unset, .unset, .unset, .unset, .unset] [(.int (3 : Int32)), (.int p2)])) t
    refine XS.iand X0.here hx rfl (hb hby at_6) rfl ?_
    show Steps p.tables e below (s₁.setTop (mkF m 7 #[.val (.int p1), .val (.int p2), .val (.int (p1 &&& (3 : Int32))), .unset, .unset, .unset, .unset, .unset, .unset] [(.int (p2 &&& (3 : Int32)))])) t
    refine XS.istoreN X0.here hx rfl (hb hby at_7) rfl (l' := #[.val (.int p1), .val (.int p2), .val (.int (p1 &&& (3 : Int32))), .val (.int (p2 &&& (3 : Int32))), .unset, .unset, .unset, .unset, .unset]) rfl ?_
    show Steps p.tables e below (s₁.setTop (mkF m 8 #[.val (.int p1), .val (.int p2), .val (.int (p1 &&& (3 : Int32))), .val (.int (p2 &&& (3 : Int32))), .unset, .unset, .unset, .unset, .unset] [])) t
    refine XS.iloadN X0.here hx rfl (hb hby at_8) rfl ?_
    show Steps p.tables e below (s₁.setTop (mkF m 9 #[.val (.int p1), .val (.int p2), .val (.int (p1 &&& (3 : Int32))), .val (.int (p2 &&& (3 : Int32))), .unset, .unset, .unset, .unset, .unset] [(.int (p1 &&& (3 : Int32)))])) t
    refine st102 _ ?_
    show Steps p.tables e below (T102.setTop (mkF m 12 #[.val (.int p1), .val (.int p2), .val (.int (p1 &&& (3 : Int32))), .val (.int (p2 &&& (3 : Int32))), .unset, .unset, .unset, .unset, .unset] [(.ref (own_mode (p1 &&& (3 : Int32)) wIS wIX wS wX))])) t
    refine XS.astore X102.here hx rfl (hb hby at_12) rfl rfl (l' := #[.val (.int p1), .val (.int p2), .val (.int (p1 &&& (3 : Int32))), .val (.int (p2 &&& (3 : Int32))), .val (.ref (own_mode (p1 &&& (3 : Int32)) wIS wIX wS wX)), .unset, .unset, .unset, .unset]) rfl ?_
    show Steps p.tables e below (T102.setTop (mkF m 14 #[.val (.int p1), .val (.int p2), .val (.int (p1 &&& (3 : Int32))), .val (.int (p2 &&& (3 : Int32))), .val (.ref (own_mode (p1 &&& (3 : Int32)) wIS wIX wS wX)), .unset, .unset, .unset, .unset] [])) t
    refine XS.iloadN X102.here hx rfl (hb hby at_14) rfl ?_
    show Steps p.tables e below (T102.setTop (mkF m 15 #[.val (.int p1), .val (.int p2), .val (.int (p1 &&& (3 : Int32))), .val (.int (p2 &&& (3 : Int32))), .val (.ref (own_mode (p1 &&& (3 : Int32)) wIS wIX wS wX)), .unset, .unset, .unset, .unset] [(.int (p2 &&& (3 : Int32)))])) t
    refine st104 _ ?_
    show Steps p.tables e below (T104.setTop (mkF m 18 #[.val (.int p1), .val (.int p2), .val (.int (p1 &&& (3 : Int32))), .val (.int (p2 &&& (3 : Int32))), .val (.ref (own_mode (p1 &&& (3 : Int32)) wIS wIX wS wX)), .unset, .unset, .unset, .unset] [(.ref (own_mode (p2 &&& (3 : Int32)) wIS wIX wS wX))])) t
    refine XS.astore X104.here hx rfl (hb hby at_18) rfl rfl (l' := #[.val (.int p1), .val (.int p2), .val (.int (p1 &&& (3 : Int32))), .val (.int (p2 &&& (3 : Int32))), .val (.ref (own_mode (p1 &&& (3 : Int32)) wIS wIX wS wX)), .val (.ref (own_mode (p2 &&& (3 : Int32)) wIS wIX wS wX)), .unset, .unset, .unset]) rfl ?_
    exact k)
  obtain ⟨v111, hP112, pre112⟩ : ∃ (v111 : Int32), (((((p1 &&& (3 : Int32)) >>> ((1 : Int32) &&& 31)) = ((p2 &&& (3 : Int32)) >>> ((1 : Int32) &&& 31))) ∧ v111 = (1 : Int32)) ∨ ((¬ (((p1 &&& (3 : Int32)) >>> ((1 : Int32) &&& 31)) = ((p2 &&& (3 : Int32)) >>> ((1 : Int32) &&& 31)))) ∧ v111 = (0 : Int32))) ∧ ∀ t, Steps p.tables e below (T104.setTop (mkF m 36 #[.val (.int p1), .val (.int p2), .val (.int (p1 &&& (3 : Int32))), .val (.int (p2 &&& (3 : Int32))), .val (.ref (own_mode (p1 &&& (3 : Int32)) wIS wIX wS wX)), .val (.ref (own_mode (p2 &&& (3 : Int32)) wIS wIX wS wX)), .val (.int v111), .unset, .unset] [])) t → Steps p.tables e below (s₁.setTop (entryFrame m #[(.int p1), (.int p2)] maxLocals)) t := by
    have pre108 : ∀ t, Steps p.tables e below (T104.setTop (mkF m 26 #[.val (.int p1), .val (.int p2), .val (.int (p1 &&& (3 : Int32))), .val (.int (p2 &&& (3 : Int32))), .val (.ref (own_mode (p1 &&& (3 : Int32)) wIS wIX wS wX)), .val (.ref (own_mode (p2 &&& (3 : Int32)) wIS wIX wS wX)), .unset, .unset, .unset] [(.int ((p2 &&& (3 : Int32)) >>> ((1 : Int32) &&& 31))), (.int ((p1 &&& (3 : Int32)) >>> ((1 : Int32) &&& 31)))])) t → Steps p.tables e below (s₁.setTop (entryFrame m #[(.int p1), (.int p2)] maxLocals)) t := fun t k => pre106 t (by
      show Steps p.tables e below (T104.setTop (mkF m 20 #[.val (.int p1), .val (.int p2), .val (.int (p1 &&& (3 : Int32))), .val (.int (p2 &&& (3 : Int32))), .val (.ref (own_mode (p1 &&& (3 : Int32)) wIS wIX wS wX)), .val (.ref (own_mode (p2 &&& (3 : Int32)) wIS wIX wS wX)), .unset, .unset, .unset] [])) t
      refine XS.iloadN X104.here hx rfl (hb hby at_20) rfl ?_
      show Steps p.tables e below (T104.setTop (mkF m 21 #[.val (.int p1), .val (.int p2), .val (.int (p1 &&& (3 : Int32))), .val (.int (p2 &&& (3 : Int32))), .val (.ref (own_mode (p1 &&& (3 : Int32)) wIS wIX wS wX)), .val (.ref (own_mode (p2 &&& (3 : Int32)) wIS wIX wS wX)), .unset, .unset, .unset] [(.int (p1 &&& (3 : Int32)))])) t
      refine XS.iconst X104.here hx rfl (hb hby at_21) ?_
      show Steps p.tables e below (T104.setTop (mkF m 22 #[.val (.int p1), .val (.int p2), .val (.int (p1 &&& (3 : Int32))), .val (.int (p2 &&& (3 : Int32))), .val (.ref (own_mode (p1 &&& (3 : Int32)) wIS wIX wS wX)), .val (.ref (own_mode (p2 &&& (3 : Int32)) wIS wIX wS wX)), .unset, .unset, .unset] [(.int (1 : Int32)), (.int (p1 &&& (3 : Int32)))])) t
      refine XS.ishr X104.here hx rfl (hb hby at_22) rfl ?_
      show Steps p.tables e below (T104.setTop (mkF m 23 #[.val (.int p1), .val (.int p2), .val (.int (p1 &&& (3 : Int32))), .val (.int (p2 &&& (3 : Int32))), .val (.ref (own_mode (p1 &&& (3 : Int32)) wIS wIX wS wX)), .val (.ref (own_mode (p2 &&& (3 : Int32)) wIS wIX wS wX)), .unset, .unset, .unset] [(.int ((p1 &&& (3 : Int32)) >>> ((1 : Int32) &&& 31)))])) t
      refine XS.iloadN X104.here hx rfl (hb hby at_23) rfl ?_
      show Steps p.tables e below (T104.setTop (mkF m 24 #[.val (.int p1), .val (.int p2), .val (.int (p1 &&& (3 : Int32))), .val (.int (p2 &&& (3 : Int32))), .val (.ref (own_mode (p1 &&& (3 : Int32)) wIS wIX wS wX)), .val (.ref (own_mode (p2 &&& (3 : Int32)) wIS wIX wS wX)), .unset, .unset, .unset] [(.int (p2 &&& (3 : Int32))), (.int ((p1 &&& (3 : Int32)) >>> ((1 : Int32) &&& 31)))])) t
      refine XS.iconst X104.here hx rfl (hb hby at_24) ?_
      show Steps p.tables e below (T104.setTop (mkF m 25 #[.val (.int p1), .val (.int p2), .val (.int (p1 &&& (3 : Int32))), .val (.int (p2 &&& (3 : Int32))), .val (.ref (own_mode (p1 &&& (3 : Int32)) wIS wIX wS wX)), .val (.ref (own_mode (p2 &&& (3 : Int32)) wIS wIX wS wX)), .unset, .unset, .unset] [(.int (1 : Int32)), (.int (p2 &&& (3 : Int32))), (.int ((p1 &&& (3 : Int32)) >>> ((1 : Int32) &&& 31)))])) t
      refine XS.ishr X104.here hx rfl (hb hby at_25) rfl ?_
      exact k)
    by_cases hc107 : ((p1 &&& (3 : Int32)) >>> ((1 : Int32) &&& 31)) = ((p2 &&& (3 : Int32)) >>> ((1 : Int32) &&& 31))
    · have pre109 : ∀ t, Steps p.tables e below (T104.setTop (mkF m 36 #[.val (.int p1), .val (.int p2), .val (.int (p1 &&& (3 : Int32))), .val (.int (p2 &&& (3 : Int32))), .val (.ref (own_mode (p1 &&& (3 : Int32)) wIS wIX wS wX)), .val (.ref (own_mode (p2 &&& (3 : Int32)) wIS wIX wS wX)), .val (.int (1 : Int32)), .unset, .unset] [])) t → Steps p.tables e below (s₁.setTop (entryFrame m #[(.int p1), (.int p2)] maxLocals)) t := fun t k => pre108 t (by
        show Steps p.tables e below (T104.setTop (mkF m 26 #[.val (.int p1), .val (.int p2), .val (.int (p1 &&& (3 : Int32))), .val (.int (p2 &&& (3 : Int32))), .val (.ref (own_mode (p1 &&& (3 : Int32)) wIS wIX wS wX)), .val (.ref (own_mode (p2 &&& (3 : Int32)) wIS wIX wS wX)), .unset, .unset, .unset] [(.int ((p2 &&& (3 : Int32)) >>> ((1 : Int32) &&& 31))), (.int ((p1 &&& (3 : Int32)) >>> ((1 : Int32) &&& 31)))])) t
        refine XS.icmpNo X104.here hx rfl (hb hby at_26) rfl (teq hc107).2 ?_
        show Steps p.tables e below (T104.setTop (mkF m 29 #[.val (.int p1), .val (.int p2), .val (.int (p1 &&& (3 : Int32))), .val (.int (p2 &&& (3 : Int32))), .val (.ref (own_mode (p1 &&& (3 : Int32)) wIS wIX wS wX)), .val (.ref (own_mode (p2 &&& (3 : Int32)) wIS wIX wS wX)), .unset, .unset, .unset] [])) t
        refine XS.iconst X104.here hx rfl (hb hby at_29) ?_
        show Steps p.tables e below (T104.setTop (mkF m 30 #[.val (.int p1), .val (.int p2), .val (.int (p1 &&& (3 : Int32))), .val (.int (p2 &&& (3 : Int32))), .val (.ref (own_mode (p1 &&& (3 : Int32)) wIS wIX wS wX)), .val (.ref (own_mode (p2 &&& (3 : Int32)) wIS wIX wS wX)), .unset, .unset, .unset] [(.int (1 : Int32))])) t
        refine XS.goto X104.here hx rfl (pc0 := 30) (pc' := 34) rfl (hb hby at_30) (by decide) (by decide) ?_
        show Steps p.tables e below (T104.setTop (mkF m 34 #[.val (.int p1), .val (.int p2), .val (.int (p1 &&& (3 : Int32))), .val (.int (p2 &&& (3 : Int32))), .val (.ref (own_mode (p1 &&& (3 : Int32)) wIS wIX wS wX)), .val (.ref (own_mode (p2 &&& (3 : Int32)) wIS wIX wS wX)), .unset, .unset, .unset] [(.int (1 : Int32))])) t
        refine XS.istore X104.here hx rfl (hb hby at_34) rfl (l' := #[.val (.int p1), .val (.int p2), .val (.int (p1 &&& (3 : Int32))), .val (.int (p2 &&& (3 : Int32))), .val (.ref (own_mode (p1 &&& (3 : Int32)) wIS wIX wS wX)), .val (.ref (own_mode (p2 &&& (3 : Int32)) wIS wIX wS wX)), .val (.int (1 : Int32)), .unset, .unset]) rfl ?_
        exact k)
      exact ⟨(1 : Int32), (Or.inl ⟨hc107, rfl⟩), pre109⟩
    · have pre110 : ∀ t, Steps p.tables e below (T104.setTop (mkF m 36 #[.val (.int p1), .val (.int p2), .val (.int (p1 &&& (3 : Int32))), .val (.int (p2 &&& (3 : Int32))), .val (.ref (own_mode (p1 &&& (3 : Int32)) wIS wIX wS wX)), .val (.ref (own_mode (p2 &&& (3 : Int32)) wIS wIX wS wX)), .val (.int (0 : Int32)), .unset, .unset] [])) t → Steps p.tables e below (s₁.setTop (entryFrame m #[(.int p1), (.int p2)] maxLocals)) t := fun t k => pre108 t (by
        show Steps p.tables e below (T104.setTop (mkF m 26 #[.val (.int p1), .val (.int p2), .val (.int (p1 &&& (3 : Int32))), .val (.int (p2 &&& (3 : Int32))), .val (.ref (own_mode (p1 &&& (3 : Int32)) wIS wIX wS wX)), .val (.ref (own_mode (p2 &&& (3 : Int32)) wIS wIX wS wX)), .unset, .unset, .unset] [(.int ((p2 &&& (3 : Int32)) >>> ((1 : Int32) &&& 31))), (.int ((p1 &&& (3 : Int32)) >>> ((1 : Int32) &&& 31)))])) t
        refine XS.icmpYes X104.here hx rfl (pc0 := 26) (pc' := 33) rfl (hb hby at_26) rfl (feq hc107).2 (by decide) (by decide) ?_
        show Steps p.tables e below (T104.setTop (mkF m 33 #[.val (.int p1), .val (.int p2), .val (.int (p1 &&& (3 : Int32))), .val (.int (p2 &&& (3 : Int32))), .val (.ref (own_mode (p1 &&& (3 : Int32)) wIS wIX wS wX)), .val (.ref (own_mode (p2 &&& (3 : Int32)) wIS wIX wS wX)), .unset, .unset, .unset] [])) t
        refine XS.iconst X104.here hx rfl (hb hby at_33) ?_
        show Steps p.tables e below (T104.setTop (mkF m 34 #[.val (.int p1), .val (.int p2), .val (.int (p1 &&& (3 : Int32))), .val (.int (p2 &&& (3 : Int32))), .val (.ref (own_mode (p1 &&& (3 : Int32)) wIS wIX wS wX)), .val (.ref (own_mode (p2 &&& (3 : Int32)) wIS wIX wS wX)), .unset, .unset, .unset] [(.int (0 : Int32))])) t
        refine XS.istore X104.here hx rfl (hb hby at_34) rfl (l' := #[.val (.int p1), .val (.int p2), .val (.int (p1 &&& (3 : Int32))), .val (.int (p2 &&& (3 : Int32))), .val (.ref (own_mode (p1 &&& (3 : Int32)) wIS wIX wS wX)), .val (.ref (own_mode (p2 &&& (3 : Int32)) wIS wIX wS wX)), .val (.int (0 : Int32)), .unset, .unset]) rfl ?_
        exact k)
      exact ⟨(0 : Int32), (Or.inr (⟨hc107, rfl⟩)), pre110⟩
  obtain ⟨v117, hP118, pre118⟩ : ∃ (v117 : Int32), (((((p1 &&& (3 : Int32)) &&& (1 : Int32)) < ((p2 &&& (3 : Int32)) &&& (1 : Int32))) ∧ v117 = (0 : Int32)) ∨ ((¬ (((p1 &&& (3 : Int32)) &&& (1 : Int32)) < ((p2 &&& (3 : Int32)) &&& (1 : Int32)))) ∧ v117 = (1 : Int32))) ∧ ∀ t, Steps p.tables e below (T104.setTop (mkF m 52 #[.val (.int p1), .val (.int p2), .val (.int (p1 &&& (3 : Int32))), .val (.int (p2 &&& (3 : Int32))), .val (.ref (own_mode (p1 &&& (3 : Int32)) wIS wIX wS wX)), .val (.ref (own_mode (p2 &&& (3 : Int32)) wIS wIX wS wX)), .val (.int v111), .val (.int v117), .unset] [])) t → Steps p.tables e below (s₁.setTop (entryFrame m #[(.int p1), (.int p2)] maxLocals)) t := by
    have pre114 : ∀ t, Steps p.tables e below (T104.setTop (mkF m 42 #[.val (.int p1), .val (.int p2), .val (.int (p1 &&& (3 : Int32))), .val (.int (p2 &&& (3 : Int32))), .val (.ref (own_mode (p1 &&& (3 : Int32)) wIS wIX wS wX)), .val (.ref (own_mode (p2 &&& (3 : Int32)) wIS wIX wS wX)), .val (.int v111), .unset, .unset] [(.int ((p2 &&& (3 : Int32)) &&& (1 : Int32))), (.int ((p1 &&& (3 : Int32)) &&& (1 : Int32)))])) t → Steps p.tables e below (s₁.setTop (entryFrame m #[(.int p1), (.int p2)] maxLocals)) t := fun t k => pre112 t (by
      show Steps p.tables e below (T104.setTop (mkF m 36 #[.val (.int p1), .val (.int p2), .val (.int (p1 &&& (3 : Int32))), .val (.int (p2 &&& (3 : Int32))), .val (.ref (own_mode (p1 &&& (3 : Int32)) wIS wIX wS wX)), .val (.ref (own_mode (p2 &&& (3 : Int32)) wIS wIX wS wX)), .val (.int v111), .unset, .unset] [])) t
      refine XS.iloadN X104.here hx rfl (hb hby at_36) rfl ?_
      show Steps p.tables e below (T104.setTop (mkF m 37 #[.val (.int p1), .val (.int p2), .val (.int (p1 &&& (3 : Int32))), .val (.int (p2 &&& (3 : Int32))), .val (.ref (own_mode (p1 &&& (3 : Int32)) wIS wIX wS wX)), .val (.ref (own_mode (p2 &&& (3 : Int32)) wIS wIX wS wX)), .val (.int v111), .unset, .unset] [(.int (p1 &&& (3 : Int32)))])) t
      refine XS.iconst X104.here hx rfl (hb hby at_37) ?_
      show Steps p.tables e below (T104.setTop (mkF m 38 #[.val (.int p1), .val (.int p2), .val (.int (p1 &&& (3 : Int32))), .val (.int (p2 &&& (3 : Int32))), .val (.ref (own_mode (p1 &&& (3 : Int32)) wIS wIX wS wX)), .val (.ref (own_mode (p2 &&& (3 : Int32)) wIS wIX wS wX)), .val (.int v111), .unset, .unset] [(.int (1 : Int32)), (.int (p1 &&& (3 : Int32)))])) t
      refine XS.iand X104.here hx rfl (hb hby at_38) rfl ?_
      show Steps p.tables e below (T104.setTop (mkF m 39 #[.val (.int p1), .val (.int p2), .val (.int (p1 &&& (3 : Int32))), .val (.int (p2 &&& (3 : Int32))), .val (.ref (own_mode (p1 &&& (3 : Int32)) wIS wIX wS wX)), .val (.ref (own_mode (p2 &&& (3 : Int32)) wIS wIX wS wX)), .val (.int v111), .unset, .unset] [(.int ((p1 &&& (3 : Int32)) &&& (1 : Int32)))])) t
      refine XS.iloadN X104.here hx rfl (hb hby at_39) rfl ?_
      show Steps p.tables e below (T104.setTop (mkF m 40 #[.val (.int p1), .val (.int p2), .val (.int (p1 &&& (3 : Int32))), .val (.int (p2 &&& (3 : Int32))), .val (.ref (own_mode (p1 &&& (3 : Int32)) wIS wIX wS wX)), .val (.ref (own_mode (p2 &&& (3 : Int32)) wIS wIX wS wX)), .val (.int v111), .unset, .unset] [(.int (p2 &&& (3 : Int32))), (.int ((p1 &&& (3 : Int32)) &&& (1 : Int32)))])) t
      refine XS.iconst X104.here hx rfl (hb hby at_40) ?_
      show Steps p.tables e below (T104.setTop (mkF m 41 #[.val (.int p1), .val (.int p2), .val (.int (p1 &&& (3 : Int32))), .val (.int (p2 &&& (3 : Int32))), .val (.ref (own_mode (p1 &&& (3 : Int32)) wIS wIX wS wX)), .val (.ref (own_mode (p2 &&& (3 : Int32)) wIS wIX wS wX)), .val (.int v111), .unset, .unset] [(.int (1 : Int32)), (.int (p2 &&& (3 : Int32))), (.int ((p1 &&& (3 : Int32)) &&& (1 : Int32)))])) t
      refine XS.iand X104.here hx rfl (hb hby at_41) rfl ?_
      exact k)
    by_cases hc113 : ((p1 &&& (3 : Int32)) &&& (1 : Int32)) < ((p2 &&& (3 : Int32)) &&& (1 : Int32))
    · have pre115 : ∀ t, Steps p.tables e below (T104.setTop (mkF m 52 #[.val (.int p1), .val (.int p2), .val (.int (p1 &&& (3 : Int32))), .val (.int (p2 &&& (3 : Int32))), .val (.ref (own_mode (p1 &&& (3 : Int32)) wIS wIX wS wX)), .val (.ref (own_mode (p2 &&& (3 : Int32)) wIS wIX wS wX)), .val (.int v111), .val (.int (0 : Int32)), .unset] [])) t → Steps p.tables e below (s₁.setTop (entryFrame m #[(.int p1), (.int p2)] maxLocals)) t := fun t k => pre114 t (by
        show Steps p.tables e below (T104.setTop (mkF m 42 #[.val (.int p1), .val (.int p2), .val (.int (p1 &&& (3 : Int32))), .val (.int (p2 &&& (3 : Int32))), .val (.ref (own_mode (p1 &&& (3 : Int32)) wIS wIX wS wX)), .val (.ref (own_mode (p2 &&& (3 : Int32)) wIS wIX wS wX)), .val (.int v111), .unset, .unset] [(.int ((p2 &&& (3 : Int32)) &&& (1 : Int32))), (.int ((p1 &&& (3 : Int32)) &&& (1 : Int32)))])) t
        refine XS.icmpYes X104.here hx rfl (pc0 := 42) (pc' := 49) rfl (hb hby at_42) rfl (tlt hc113).1 (by decide) (by decide) ?_
        show Steps p.tables e below (T104.setTop (mkF m 49 #[.val (.int p1), .val (.int p2), .val (.int (p1 &&& (3 : Int32))), .val (.int (p2 &&& (3 : Int32))), .val (.ref (own_mode (p1 &&& (3 : Int32)) wIS wIX wS wX)), .val (.ref (own_mode (p2 &&& (3 : Int32)) wIS wIX wS wX)), .val (.int v111), .unset, .unset] [])) t
        refine XS.iconst X104.here hx rfl (hb hby at_49) ?_
        show Steps p.tables e below (T104.setTop (mkF m 50 #[.val (.int p1), .val (.int p2), .val (.int (p1 &&& (3 : Int32))), .val (.int (p2 &&& (3 : Int32))), .val (.ref (own_mode (p1 &&& (3 : Int32)) wIS wIX wS wX)), .val (.ref (own_mode (p2 &&& (3 : Int32)) wIS wIX wS wX)), .val (.int v111), .unset, .unset] [(.int (0 : Int32))])) t
        refine XS.istore X104.here hx rfl (hb hby at_50) rfl (l' := #[.val (.int p1), .val (.int p2), .val (.int (p1 &&& (3 : Int32))), .val (.int (p2 &&& (3 : Int32))), .val (.ref (own_mode (p1 &&& (3 : Int32)) wIS wIX wS wX)), .val (.ref (own_mode (p2 &&& (3 : Int32)) wIS wIX wS wX)), .val (.int v111), .val (.int (0 : Int32)), .unset]) rfl ?_
        exact k)
      exact ⟨(0 : Int32), (Or.inl ⟨hc113, rfl⟩), pre115⟩
    · have pre116 : ∀ t, Steps p.tables e below (T104.setTop (mkF m 52 #[.val (.int p1), .val (.int p2), .val (.int (p1 &&& (3 : Int32))), .val (.int (p2 &&& (3 : Int32))), .val (.ref (own_mode (p1 &&& (3 : Int32)) wIS wIX wS wX)), .val (.ref (own_mode (p2 &&& (3 : Int32)) wIS wIX wS wX)), .val (.int v111), .val (.int (1 : Int32)), .unset] [])) t → Steps p.tables e below (s₁.setTop (entryFrame m #[(.int p1), (.int p2)] maxLocals)) t := fun t k => pre114 t (by
        show Steps p.tables e below (T104.setTop (mkF m 42 #[.val (.int p1), .val (.int p2), .val (.int (p1 &&& (3 : Int32))), .val (.int (p2 &&& (3 : Int32))), .val (.ref (own_mode (p1 &&& (3 : Int32)) wIS wIX wS wX)), .val (.ref (own_mode (p2 &&& (3 : Int32)) wIS wIX wS wX)), .val (.int v111), .unset, .unset] [(.int ((p2 &&& (3 : Int32)) &&& (1 : Int32))), (.int ((p1 &&& (3 : Int32)) &&& (1 : Int32)))])) t
        refine XS.icmpNo X104.here hx rfl (hb hby at_42) rfl (flt hc113).1 ?_
        show Steps p.tables e below (T104.setTop (mkF m 45 #[.val (.int p1), .val (.int p2), .val (.int (p1 &&& (3 : Int32))), .val (.int (p2 &&& (3 : Int32))), .val (.ref (own_mode (p1 &&& (3 : Int32)) wIS wIX wS wX)), .val (.ref (own_mode (p2 &&& (3 : Int32)) wIS wIX wS wX)), .val (.int v111), .unset, .unset] [])) t
        refine XS.iconst X104.here hx rfl (hb hby at_45) ?_
        show Steps p.tables e below (T104.setTop (mkF m 46 #[.val (.int p1), .val (.int p2), .val (.int (p1 &&& (3 : Int32))), .val (.int (p2 &&& (3 : Int32))), .val (.ref (own_mode (p1 &&& (3 : Int32)) wIS wIX wS wX)), .val (.ref (own_mode (p2 &&& (3 : Int32)) wIS wIX wS wX)), .val (.int v111), .unset, .unset] [(.int (1 : Int32))])) t
        refine XS.goto X104.here hx rfl (pc0 := 46) (pc' := 50) rfl (hb hby at_46) (by decide) (by decide) ?_
        show Steps p.tables e below (T104.setTop (mkF m 50 #[.val (.int p1), .val (.int p2), .val (.int (p1 &&& (3 : Int32))), .val (.int (p2 &&& (3 : Int32))), .val (.ref (own_mode (p1 &&& (3 : Int32)) wIS wIX wS wX)), .val (.ref (own_mode (p2 &&& (3 : Int32)) wIS wIX wS wX)), .val (.int v111), .unset, .unset] [(.int (1 : Int32))])) t
        refine XS.istore X104.here hx rfl (hb hby at_50) rfl (l' := #[.val (.int p1), .val (.int p2), .val (.int (p1 &&& (3 : Int32))), .val (.int (p2 &&& (3 : Int32))), .val (.ref (own_mode (p1 &&& (3 : Int32)) wIS wIX wS wX)), .val (.ref (own_mode (p2 &&& (3 : Int32)) wIS wIX wS wX)), .val (.int v111), .val (.int (1 : Int32)), .unset]) rfl ?_
        exact k)
      exact ⟨(1 : Int32), (Or.inr (⟨hc113, rfl⟩)), pre116⟩
  obtain ⟨v126, hP127, pre127⟩ : ∃ (v126 : Int32), (((v111 = (0 : Int32)) ∧ v126 = (0 : Int32)) ∨ ((¬ (v111 = (0 : Int32))) ∧ (v117 = (0 : Int32)) ∧ v126 = (0 : Int32)) ∨ ((¬ (v111 = (0 : Int32))) ∧ (¬ (v117 = (0 : Int32))) ∧ v126 = (1 : Int32))) ∧ ∀ t, Steps p.tables e below (T104.setTop (mkF m 69 #[.val (.int p1), .val (.int p2), .val (.int (p1 &&& (3 : Int32))), .val (.int (p2 &&& (3 : Int32))), .val (.ref (own_mode (p1 &&& (3 : Int32)) wIS wIX wS wX)), .val (.ref (own_mode (p2 &&& (3 : Int32)) wIS wIX wS wX)), .val (.int v111), .val (.int v117), .val (.int v126)] [])) t → Steps p.tables e below (s₁.setTop (entryFrame m #[(.int p1), (.int p2)] maxLocals)) t := by
    have pre120 : ∀ t, Steps p.tables e below (T104.setTop (mkF m 54 #[.val (.int p1), .val (.int p2), .val (.int (p1 &&& (3 : Int32))), .val (.int (p2 &&& (3 : Int32))), .val (.ref (own_mode (p1 &&& (3 : Int32)) wIS wIX wS wX)), .val (.ref (own_mode (p2 &&& (3 : Int32)) wIS wIX wS wX)), .val (.int v111), .val (.int v117), .unset] [(.int v111)])) t → Steps p.tables e below (s₁.setTop (entryFrame m #[(.int p1), (.int p2)] maxLocals)) t := fun t k => pre118 t (by
      show Steps p.tables e below (T104.setTop (mkF m 52 #[.val (.int p1), .val (.int p2), .val (.int (p1 &&& (3 : Int32))), .val (.int (p2 &&& (3 : Int32))), .val (.ref (own_mode (p1 &&& (3 : Int32)) wIS wIX wS wX)), .val (.ref (own_mode (p2 &&& (3 : Int32)) wIS wIX wS wX)), .val (.int v111), .val (.int v117), .unset] [])) t
      refine XS.iload X104.here hx rfl (hb hby at_52) rfl ?_
      exact k)
    by_cases hc119 : v111 = (0 : Int32)
    · have pre121 : ∀ t, Steps p.tables e below (T104.setTop (mkF m 69 #[.val (.int p1), .val (.int p2), .val (.int (p1 &&& (3 : Int32))), .val (.int (p2 &&& (3 : Int32))), .val (.ref (own_mode (p1 &&& (3 : Int32)) wIS wIX wS wX)), .val (.ref (own_mode (p2 &&& (3 : Int32)) wIS wIX wS wX)), .val (.int v111), .val (.int v117), .val (.int (0 : Int32))] [])) t → Steps p.tables e below (s₁.setTop (entryFrame m #[(.int p1), (.int p2)] maxLocals)) t := fun t k => pre120 t (by
        show Steps p.tables e below (T104.setTop (mkF m 54 #[.val (.int p1), .val (.int p2), .val (.int (p1 &&& (3 : Int32))), .val (.int (p2 &&& (3 : Int32))), .val (.ref (own_mode (p1 &&& (3 : Int32)) wIS wIX wS wX)), .val (.ref (own_mode (p2 &&& (3 : Int32)) wIS wIX wS wX)), .val (.int v111), .val (.int v117), .unset] [(.int v111)])) t
        refine XS.ifYes X104.here hx rfl (pc0 := 54) (pc' := 66) rfl (hb hby at_54) rfl ((if0 _ _).trans (teq hc119).1) (by decide) (by decide) ?_
        show Steps p.tables e below (T104.setTop (mkF m 66 #[.val (.int p1), .val (.int p2), .val (.int (p1 &&& (3 : Int32))), .val (.int (p2 &&& (3 : Int32))), .val (.ref (own_mode (p1 &&& (3 : Int32)) wIS wIX wS wX)), .val (.ref (own_mode (p2 &&& (3 : Int32)) wIS wIX wS wX)), .val (.int v111), .val (.int v117), .unset] [])) t
        refine XS.iconst X104.here hx rfl (hb hby at_66) ?_
        show Steps p.tables e below (T104.setTop (mkF m 67 #[.val (.int p1), .val (.int p2), .val (.int (p1 &&& (3 : Int32))), .val (.int (p2 &&& (3 : Int32))), .val (.ref (own_mode (p1 &&& (3 : Int32)) wIS wIX wS wX)), .val (.ref (own_mode (p2 &&& (3 : Int32)) wIS wIX wS wX)), .val (.int v111), .val (.int v117), .unset] [(.int (0 : Int32))])) t
        refine XS.istore X104.here hx rfl (hb hby at_67) rfl (l' := #[.val (.int p1), .val (.int p2), .val (.int (p1 &&& (3 : Int32))), .val (.int (p2 &&& (3 : Int32))), .val (.ref (own_mode (p1 &&& (3 : Int32)) wIS wIX wS wX)), .val (.ref (own_mode (p2 &&& (3 : Int32)) wIS wIX wS wX)), .val (.int v111), .val (.int v117), .val (.int (0 : Int32))]) rfl ?_
        exact k)
      exact ⟨(0 : Int32), (Or.inl ⟨hc119, rfl⟩), pre121⟩
    · have pre123 : ∀ t, Steps p.tables e below (T104.setTop (mkF m 59 #[.val (.int p1), .val (.int p2), .val (.int (p1 &&& (3 : Int32))), .val (.int (p2 &&& (3 : Int32))), .val (.ref (own_mode (p1 &&& (3 : Int32)) wIS wIX wS wX)), .val (.ref (own_mode (p2 &&& (3 : Int32)) wIS wIX wS wX)), .val (.int v111), .val (.int v117), .unset] [(.int v117)])) t → Steps p.tables e below (s₁.setTop (entryFrame m #[(.int p1), (.int p2)] maxLocals)) t := fun t k => pre120 t (by
        show Steps p.tables e below (T104.setTop (mkF m 54 #[.val (.int p1), .val (.int p2), .val (.int (p1 &&& (3 : Int32))), .val (.int (p2 &&& (3 : Int32))), .val (.ref (own_mode (p1 &&& (3 : Int32)) wIS wIX wS wX)), .val (.ref (own_mode (p2 &&& (3 : Int32)) wIS wIX wS wX)), .val (.int v111), .val (.int v117), .unset] [(.int v111)])) t
        refine XS.ifNo X104.here hx rfl (hb hby at_54) rfl ((if0 _ _).trans (feq hc119).1) ?_
        show Steps p.tables e below (T104.setTop (mkF m 57 #[.val (.int p1), .val (.int p2), .val (.int (p1 &&& (3 : Int32))), .val (.int (p2 &&& (3 : Int32))), .val (.ref (own_mode (p1 &&& (3 : Int32)) wIS wIX wS wX)), .val (.ref (own_mode (p2 &&& (3 : Int32)) wIS wIX wS wX)), .val (.int v111), .val (.int v117), .unset] [])) t
        refine XS.iload X104.here hx rfl (hb hby at_57) rfl ?_
        exact k)
      by_cases hc122 : v117 = (0 : Int32)
      · have pre124 : ∀ t, Steps p.tables e below (T104.setTop (mkF m 69 #[.val (.int p1), .val (.int p2), .val (.int (p1 &&& (3 : Int32))), .val (.int (p2 &&& (3 : Int32))), .val (.ref (own_mode (p1 &&& (3 : Int32)) wIS wIX wS wX)), .val (.ref (own_mode (p2 &&& (3 : Int32)) wIS wIX wS wX)), .val (.int v111), .val (.int v117), .val (.int (0 : Int32))] [])) t → Steps p.tables e below (s₁.setTop (entryFrame m #[(.int p1), (.int p2)] maxLocals)) t := fun t k => pre123 t (by
          show Steps p.tables e below (T104.setTop (mkF m 59 #[.val (.int p1), .val (.int p2), .val (.int (p1 &&& (3 : Int32))), .val (.int (p2 &&& (3 : Int32))), .val (.ref (own_mode (p1 &&& (3 : Int32)) wIS wIX wS wX)), .val (.ref (own_mode (p2 &&& (3 : Int32)) wIS wIX wS wX)), .val (.int v111), .val (.int v117), .unset] [(.int v117)])) t
          refine XS.ifYes X104.here hx rfl (pc0 := 59) (pc' := 66) rfl (hb hby at_59) rfl ((if0 _ _).trans (teq hc122).1) (by decide) (by decide) ?_
          show Steps p.tables e below (T104.setTop (mkF m 66 #[.val (.int p1), .val (.int p2), .val (.int (p1 &&& (3 : Int32))), .val (.int (p2 &&& (3 : Int32))), .val (.ref (own_mode (p1 &&& (3 : Int32)) wIS wIX wS wX)), .val (.ref (own_mode (p2 &&& (3 : Int32)) wIS wIX wS wX)), .val (.int v111), .val (.int v117), .unset] [])) t
          refine XS.iconst X104.here hx rfl (hb hby at_66) ?_
          show Steps p.tables e below (T104.setTop (mkF m 67 #[.val (.int p1), .val (.int p2), .val (.int (p1 &&& (3 : Int32))), .val (.int (p2 &&& (3 : Int32))), .val (.ref (own_mode (p1 &&& (3 : Int32)) wIS wIX wS wX)), .val (.ref (own_mode (p2 &&& (3 : Int32)) wIS wIX wS wX)), .val (.int v111), .val (.int v117), .unset] [(.int (0 : Int32))])) t
          refine XS.istore X104.here hx rfl (hb hby at_67) rfl (l' := #[.val (.int p1), .val (.int p2), .val (.int (p1 &&& (3 : Int32))), .val (.int (p2 &&& (3 : Int32))), .val (.ref (own_mode (p1 &&& (3 : Int32)) wIS wIX wS wX)), .val (.ref (own_mode (p2 &&& (3 : Int32)) wIS wIX wS wX)), .val (.int v111), .val (.int v117), .val (.int (0 : Int32))]) rfl ?_
          exact k)
        exact ⟨(0 : Int32), (Or.inr (Or.inl ⟨hc119, hc122, rfl⟩)), pre124⟩
      · have pre125 : ∀ t, Steps p.tables e below (T104.setTop (mkF m 69 #[.val (.int p1), .val (.int p2), .val (.int (p1 &&& (3 : Int32))), .val (.int (p2 &&& (3 : Int32))), .val (.ref (own_mode (p1 &&& (3 : Int32)) wIS wIX wS wX)), .val (.ref (own_mode (p2 &&& (3 : Int32)) wIS wIX wS wX)), .val (.int v111), .val (.int v117), .val (.int (1 : Int32))] [])) t → Steps p.tables e below (s₁.setTop (entryFrame m #[(.int p1), (.int p2)] maxLocals)) t := fun t k => pre123 t (by
          show Steps p.tables e below (T104.setTop (mkF m 59 #[.val (.int p1), .val (.int p2), .val (.int (p1 &&& (3 : Int32))), .val (.int (p2 &&& (3 : Int32))), .val (.ref (own_mode (p1 &&& (3 : Int32)) wIS wIX wS wX)), .val (.ref (own_mode (p2 &&& (3 : Int32)) wIS wIX wS wX)), .val (.int v111), .val (.int v117), .unset] [(.int v117)])) t
          refine XS.ifNo X104.here hx rfl (hb hby at_59) rfl ((if0 _ _).trans (feq hc122).1) ?_
          show Steps p.tables e below (T104.setTop (mkF m 62 #[.val (.int p1), .val (.int p2), .val (.int (p1 &&& (3 : Int32))), .val (.int (p2 &&& (3 : Int32))), .val (.ref (own_mode (p1 &&& (3 : Int32)) wIS wIX wS wX)), .val (.ref (own_mode (p2 &&& (3 : Int32)) wIS wIX wS wX)), .val (.int v111), .val (.int v117), .unset] [])) t
          refine XS.iconst X104.here hx rfl (hb hby at_62) ?_
          show Steps p.tables e below (T104.setTop (mkF m 63 #[.val (.int p1), .val (.int p2), .val (.int (p1 &&& (3 : Int32))), .val (.int (p2 &&& (3 : Int32))), .val (.ref (own_mode (p1 &&& (3 : Int32)) wIS wIX wS wX)), .val (.ref (own_mode (p2 &&& (3 : Int32)) wIS wIX wS wX)), .val (.int v111), .val (.int v117), .unset] [(.int (1 : Int32))])) t
          refine XS.goto X104.here hx rfl (pc0 := 63) (pc' := 67) rfl (hb hby at_63) (by decide) (by decide) ?_
          show Steps p.tables e below (T104.setTop (mkF m 67 #[.val (.int p1), .val (.int p2), .val (.int (p1 &&& (3 : Int32))), .val (.int (p2 &&& (3 : Int32))), .val (.ref (own_mode (p1 &&& (3 : Int32)) wIS wIX wS wX)), .val (.ref (own_mode (p2 &&& (3 : Int32)) wIS wIX wS wX)), .val (.int v111), .val (.int v117), .unset] [(.int (1 : Int32))])) t
          refine XS.istore X104.here hx rfl (hb hby at_67) rfl (l' := #[.val (.int p1), .val (.int p2), .val (.int (p1 &&& (3 : Int32))), .val (.int (p2 &&& (3 : Int32))), .val (.ref (own_mode (p1 &&& (3 : Int32)) wIS wIX wS wX)), .val (.ref (own_mode (p2 &&& (3 : Int32)) wIS wIX wS wX)), .val (.int v111), .val (.int v117), .val (.int (1 : Int32))]) rfl ?_
          exact k)
        exact ⟨(1 : Int32), (Or.inr (Or.inr (⟨hc119, hc122, rfl⟩))), pre125⟩
  obtain ⟨cq128, kq128, q128a, q128b, q128c⟩ := isOf hZ e104 f103
  obtain ⟨_, _, ⟨T128, L128, k128, n128⟩, -, X128, ⟨Lc128, hQ128, l128, y128, z128⟩, st128⟩ := X104.virtualBack hx (y := (⟨"com/example/gapkey/gapkey/core/LockMode", "covers", "(Lcom/example/gapkey/gapkey/core/LockMode;)Z"⟩ : MethodName)) (z := (⟨"com/example/gapkey/gapkey/core/LockMode", "covers", "(Lcom/example/gapkey/gapkey/core/LockMode;)Z"⟩ : MethodName)) hown (mvT hZ (own_i hw 9 rfl)) (mvT hZ (own_i hw 10 rfl)) (notFace_of_selects (args := #[]) (mvT hZ (own_i hw 12 rfl))) (mvT hZ (own_i hw 12 rfl)) (mvT hZ (own_i hw 11 rfl)) (by decide) (backOf (W := 0) (rm2 l Z a0 hw [] (own_mode (p1 &&& (3 : Int32)) wIS wIX wS wX) (own_mode (p2 &&& (3 : Int32)) wIS wIX wS wX) wIS wIX wS wX h0 n0 Z0 S_IS S_IX S_S S_X) hZ (own_i hw 13 rfl) (own_i hw 5 rfl) (by decide) (by decide)) q128a q128c (g := (mkF m 73 #[.val (.int p1), .val (.int p2), .val (.int (p1 &&& (3 : Int32))), .val (.int (p2 &&& (3 : Int32))), .val (.ref (own_mode (p1 &&& (3 : Int32)) wIS wIX wS wX)), .val (.ref (own_mode (p2 &&& (3 : Int32)) wIS wIX wS wX)), .val (.int v111), .val (.int v117), .val (.int v126)] [(.ref (own_mode (p2 &&& (3 : Int32)) wIS wIX wS wX)), (.ref (own_mode (p1 &&& (3 : Int32)) wIS wIX wS wX))])) rfl (by rw [hml]; rfl) (Steps.refl _) (argsL := [(.ref (own_mode (p2 &&& (3 : Int32)) wIS wIX wS wX))]) (rest := []) (lenOf pd_1 rfl) rfl (by show 2 * 0 + _ ≤ _; exact Nat.le_of_eq rfl) (hb hby at_73) (fun _ _ => ⟨rfl, e104, (by decide : 0 + 0 ≤ _), (by decide : 0 + 0 ≤ _)⟩)
  dsimp only [Pt.U, Pt.locs, Pt.cells, Pt.slots] at X128 l128 y128 z128 st128 hQ128
  subst l128 y128 z128
  obtain ⟨rfl, N128q, e128⟩ := hQ128
  have N128 := Fr.app N104 N128q
  have hd129 : (own_cov (own_mode (p1 &&& (3 : Int32)) wIS wIX wS wX) (own_mode (p2 &&& (3 : Int32)) wIS wIX wS wX) wIS wIX wS wX) = v126 := own_law (p1) (p2) hP112 hP118 hP127 ne_IS_X ne_IS_IX ne_IS_S ne_X_IX ne_X_S ne_IX_S
  have pre130 : ∀ t, Steps p.tables e below (T128.setTop (mkF m 86 #[.val (.int p1), .val (.int p2), .val (.int (p1 &&& (3 : Int32))), .val (.int (p2 &&& (3 : Int32))), .val (.ref (own_mode (p1 &&& (3 : Int32)) wIS wIX wS wX)), .val (.ref (own_mode (p2 &&& (3 : Int32)) wIS wIX wS wX)), .val (.int v111), .val (.int v117), .val (.int v126)] [(.int (1 : Int32))])) t → Steps p.tables e below (s₁.setTop (entryFrame m #[(.int p1), (.int p2)] maxLocals)) t := fun t k => pre127 t (by
    show Steps p.tables e below (T104.setTop (mkF m 69 #[.val (.int p1), .val (.int p2), .val (.int (p1 &&& (3 : Int32))), .val (.int (p2 &&& (3 : Int32))), .val (.ref (own_mode (p1 &&& (3 : Int32)) wIS wIX wS wX)), .val (.ref (own_mode (p2 &&& (3 : Int32)) wIS wIX wS wX)), .val (.int v111), .val (.int v117), .val (.int v126)] [])) t
    refine XS.aload X104.here hx rfl (hb hby at_69) rfl rfl ?_
    show Steps p.tables e below (T104.setTop (mkF m 71 #[.val (.int p1), .val (.int p2), .val (.int (p1 &&& (3 : Int32))), .val (.int (p2 &&& (3 : Int32))), .val (.ref (own_mode (p1 &&& (3 : Int32)) wIS wIX wS wX)), .val (.ref (own_mode (p2 &&& (3 : Int32)) wIS wIX wS wX)), .val (.int v111), .val (.int v117), .val (.int v126)] [(.ref (own_mode (p1 &&& (3 : Int32)) wIS wIX wS wX))])) t
    refine XS.aload X104.here hx rfl (hb hby at_71) rfl rfl ?_
    show Steps p.tables e below (T104.setTop (mkF m 73 #[.val (.int p1), .val (.int p2), .val (.int (p1 &&& (3 : Int32))), .val (.int (p2 &&& (3 : Int32))), .val (.ref (own_mode (p1 &&& (3 : Int32)) wIS wIX wS wX)), .val (.ref (own_mode (p2 &&& (3 : Int32)) wIS wIX wS wX)), .val (.int v111), .val (.int v117), .val (.int v126)] [(.ref (own_mode (p2 &&& (3 : Int32)) wIS wIX wS wX)), (.ref (own_mode (p1 &&& (3 : Int32)) wIS wIX wS wX))])) t
    refine st128.trans ?_
    show Steps p.tables e below (T128.setTop (mkF m 76 #[.val (.int p1), .val (.int p2), .val (.int (p1 &&& (3 : Int32))), .val (.int (p2 &&& (3 : Int32))), .val (.ref (own_mode (p1 &&& (3 : Int32)) wIS wIX wS wX)), .val (.ref (own_mode (p2 &&& (3 : Int32)) wIS wIX wS wX)), .val (.int v111), .val (.int v117), .val (.int v126)] [(.int (own_cov (own_mode (p1 &&& (3 : Int32)) wIS wIX wS wX) (own_mode (p2 &&& (3 : Int32)) wIS wIX wS wX) wIS wIX wS wX))])) t
    refine XS.iload X128.here hx rfl (hb hby at_76) rfl ?_
    show Steps p.tables e below (T128.setTop (mkF m 78 #[.val (.int p1), .val (.int p2), .val (.int (p1 &&& (3 : Int32))), .val (.int (p2 &&& (3 : Int32))), .val (.ref (own_mode (p1 &&& (3 : Int32)) wIS wIX wS wX)), .val (.ref (own_mode (p2 &&& (3 : Int32)) wIS wIX wS wX)), .val (.int v111), .val (.int v117), .val (.int v126)] [(.int v126), (.int (own_cov (own_mode (p1 &&& (3 : Int32)) wIS wIX wS wX) (own_mode (p2 &&& (3 : Int32)) wIS wIX wS wX) wIS wIX wS wX))])) t
    refine XS.icmpNo X128.here hx rfl (hb hby at_78) rfl (teq hd129).2 ?_
    show Steps p.tables e below (T128.setTop (mkF m 81 #[.val (.int p1), .val (.int p2), .val (.int (p1 &&& (3 : Int32))), .val (.int (p2 &&& (3 : Int32))), .val (.ref (own_mode (p1 &&& (3 : Int32)) wIS wIX wS wX)), .val (.ref (own_mode (p2 &&& (3 : Int32)) wIS wIX wS wX)), .val (.int v111), .val (.int v117), .val (.int v126)] [])) t
    refine XS.iconst X128.here hx rfl (hb hby at_81) ?_
    show Steps p.tables e below (T128.setTop (mkF m 82 #[.val (.int p1), .val (.int p2), .val (.int (p1 &&& (3 : Int32))), .val (.int (p2 &&& (3 : Int32))), .val (.ref (own_mode (p1 &&& (3 : Int32)) wIS wIX wS wX)), .val (.ref (own_mode (p2 &&& (3 : Int32)) wIS wIX wS wX)), .val (.int v111), .val (.int v117), .val (.int v126)] [(.int (1 : Int32))])) t
    refine XS.goto X128.here hx rfl (pc0 := 82) (pc' := 86) rfl (hb hby at_82) (by decide) (by decide) ?_
    exact k)
  obtain ⟨fs, hr, hrun, hended, hW, hsame⟩ := X128.leave (v := some (.int (1 : Int32))) (fun h => by rw [Bd.returns] at h; cases h)
  refine ⟨_, _, pre130 _ ?_, hrun, hended, _, _, rfl, ?_, ⟨_, rfl⟩, hW, hsame.mono (by decide) (by decide)⟩
  · exact retN X128 hx (t := .boolean) Bd.returns (by simp) (hb hby at_86) hr
  · show Q0 Z p1 p2 wIS wX wIX wS h0 n0 _ T128.heap _
    rw [e128]
    exact ⟨rfl, N128⟩
set_option maxRecDepth 65536 in
set_option maxHeartbeats 40000000 in
theorem comes_1 {Post : Tables → Env → Array Value → State → Outcome → State → Prop} (hpost : ∀ tb e args s v u, (limb_1_1.after args s (.returned v) u = true ∧ limb_1_2.after args s (.returned v) u = true ∧ True) → FrameEnd s (.returned v) u (Jvm.fieldLocs frame_1_writes args s ++ Jvm.arrayLocs frame_1_arrays args s ++ Jvm.staticLocs frame_1_statics s) 0 0 → Post tb e args s (.returned v) u) :
    ArmFor flags0 classFile x code maxLocals ret World_1 tables_1 room_1 Calls_1 rest_1 Pre_1 Post := by
  intro l hfl _ _ p e ha hc hk s m args below hf hA hF happ hP
  obtain ⟨hcalls, hrest, hpre⟩ := hP
  obtain ⟨-, -, -, hnamed, -, -, -, hat⟩ := (Spec.applies_iff hf).mp happ
  obtain ⟨hg, hn⟩ := and_e (Cond.before_iff.mp (show (Jvm.Cond.and given_1 narrow_1).before args s = true from hpre))
  obtain ⟨hga, hgb⟩ := and_e hg
  obtain ⟨hgba, hgbb⟩ := and_e hgb
  obtain ⟨w0, w1, rfl⟩ : ∃ w0 w1 : Value, args = #[w0, w1] := by
    have hs : args.size = 2 := by simpa [Cond.value, given_1] using hga
    obtain ⟨L⟩ := args
    match L, hs with
    | [w0, w1], _ => exact ⟨w0, w1, rfl⟩
  have hw := fun d (hd : d ∈ tables_1) => atoms_spec (ws := Jvm.Cond.code x code maxLocals ret :: tables_1) hat d (List.mem_cons_of_mem _ hd)
  have hfit : Fit s := fun {y c} hc i hi => by
    obtain ⟨ha, rfl⟩ := Array.getElem?_eq_some_iff.mp hc
    have q := List.all_eq_true.mp ((Array.all_eq_true_iff_forall_mem.mp hF) _ (Array.getElem_mem ha)) i (List.mem_range.mpr hi)
    simpa [Array.getElem?_eq_getElem hi] using q
  obtain ⟨i0, ev0⟩ := is_v hgba
  obtain rfl : w0 = (.int i0) := Option.some.inj ev0
  obtain ⟨i1, ev1⟩ := is_v hgbb
  obtain rfl : w1 = (.int i1) := Option.some.inj ev1
  obtain ⟨hna, hnb⟩ := and_e hn
  obtain ⟨hnba, hnbb⟩ := and_e hnb
  obtain ⟨hnbba, hnbbb⟩ := and_e hnbb
  obtain ⟨hnbbba, hnbbbb⟩ := and_e hnbbb
  obtain ⟨hnbbbba, hnbbbbb⟩ := and_e hnbbbb
  obtain ⟨hnbbbbba, hnbbbbbb⟩ := and_e hnbbbbb
  obtain ⟨hnbbbbbba, hnbbbbbbb⟩ := and_e hnbbbbbb
  obtain ⟨wIS, ev_IS, S_IS, E_IS⟩ := own_static hna (own_i hw 5 rfl) (own_i hw 6 rfl)
  obtain ⟨wX, ev_X, S_X, E_X⟩ := own_static hnba (own_i hw 5 rfl) (own_i hw 8 rfl)
  obtain ⟨wIX, ev_IX, S_IX, E_IX⟩ := own_static hnbbbba (own_i hw 5 rfl) (own_i hw 16 rfl)
  obtain ⟨wS, ev_S, S_S, E_S⟩ := own_static hnbbbbbba (own_i hw 5 rfl) (own_i hw 18 rfl)
  have O0_IS := own_fieldI ev_IS hnbba
  have O1_X := own_fieldI ev_X hnbbba
  have O2_IX := own_fieldI ev_IX hnbbbbba
  have O3_S := own_fieldI ev_S hnbbbbbbb
  have ne_IS_X : wIS ≠ wX := Fld.ne O0_IS O1_X (by decide)
  have ne_IS_IX : wIS ≠ wIX := Fld.ne O0_IS O2_IX (by decide)
  have ne_IS_S : wIS ≠ wS := Fld.ne O0_IS O3_S (by decide)
  have ne_X_IX : wX ≠ wIX := Fld.ne O1_X O2_IX (by decide)
  have ne_X_S : wX ≠ wS := Fld.ne O1_X O3_S (by decide)
  have ne_IX_S : wIX ≠ wS := Fld.ne O2_IX O3_S (by decide)
  obtain ⟨n, o, h1, h2, h3, _, L, rfl, ⟨rfl, N⟩, hq⟩ := rm0 l s _ hw tables_1 i0 i1 wIS wX wIX wS s.heap s.heap.size (Nat.le_refl _) S_IS E_IS S_X E_X S_IX E_IX S_S E_S O0_IS O1_X O2_IX O3_S ne_IS_X ne_IS_IX ne_IS_S ne_X_IX ne_X_S ne_IX_S p e ha hc hk s m _ below hf ((Spec.applies_iff_loose hf).mp happ).1 ⟨rfl, State.Warmed39.refl s, rfl⟩ trivial
  refine ⟨n, _, h1, h2, h3, hpost _ _ _ _ _ _ ⟨Cond.after_iff.mpr rfl, Cond.after_iff.mpr (eq_i res_at (Term.int_eval (1)) rfl), trivial⟩ ⟨hq.1, hq.2.1, (hq.2.2.sift fun y hy => Or.inr (N y hy)).mono (by decide) (by decide)⟩⟩
theorem main_1_1 : Claimed_1_1 := comes_1 fun _ _ _ _ _ _ h hF => ⟨h.1, hF⟩
theorem main_1_2 : Claimed_1_2 := comes_1 fun _ _ _ _ _ _ h hF => ⟨h.2.1, hF⟩
end Jvm.Pilot.@@N@@
namespace Jvm.Pilot.@@N@@
open Jvm Jvm.ClassFile Sem Op Lib Jvm.Free Jvm.Stand Jvm.Pilot.@@N@@.Jvm.D
/-! MADE BY PROGRAM (witnessworld.py) out of the Statement's table words and the real class files: 12 classes; the members and pool entries that the words name. The judged class is class 1, her method 1. -/
namespace start1
open Jvm.ClassFile
def u (s : String) : CpInfo := .utf8 (stringToUtf16 s)
/-- a pool by its gaps: so many unusable entries, then the entry; so many at the end -/
def gap : Nat → List CpInfo → List CpInfo
  | 0, r => r
  | n + 1, r => .unusable :: gap n r
def poolList (es : List (Nat × CpInfo)) (last : Nat) : List CpInfo := es.foldr (fun e r => gap e.1 (e.2 :: r)) (gap last [])
def pool (es : List (Nat × CpInfo)) (last : Nat) : Array CpInfo := ⟨poolList es last⟩
def fileOf (pool : Array CpInfo) (this : Nat) (attrs : Array Attribute := #[]) (ms : Array MethodInfo := #[]) (fl : Nat := 33) (sup : Nat := 0) (ifs : Array Nat := #[]) (fds : Array FieldInfo := #[]) : ClassFile where
  minorVersion := 0
  majorVersion := 65
  constantPool := pool
  accessFlags := fl
  thisClass := this
  superClass := sup
  interfaces := ifs
  fields := fds
  methods := ms
  attributes := attrs
def plain (name : String) (sup : Option ClassId) : Class where
  name := name
  kind := .ordinary
  loader := none
  accessFlags := 33
  super := sup
  interfaces := #[]
  cf := none
  fields := #[]
  methods := #[]
  instanceTypes := #[]
  staticTypes := #[]
  resolved := #[]
  callSites := []
  init := .initialized
  statics := none
  mirror := none

def pool0 : Array CpInfo := pool [(5, u "<init>"), (0, u "()V"), (1, .class_ 10), (1, u "java/lang/Object")] 113

def k0m0 : Method := { name := "<init>", desc := "()V", sig := { parameters := [], returnType := none }, accessFlags := 1, code := none }
/-- java/lang/Object -/
def k0 : Class := { plain "java/lang/Object" none with
  accessFlags := 33
  interfaces := #[]
  cf := some (fileOf pool0 8 #[] #[{ accessFlags := 1, nameIndex := 5, descriptorIndex := 6, attributes := #[] }] 33 0 #[] #[])
  fields := #[]
  methods := #[k0m0]
  instanceTypes := #[]
  staticTypes := #[]
  resolved := Array.replicate 124 none
  statics := none }

def pool1 : Array CpInfo := pool [(2, .class_ 4), (1, u "java/lang/Object"), (0, u "<init>"), (0, u "()V"), (0, .methodref 8 9), (0, .class_ 10), (0, .nameAndType 11 12), (0, u "com/example/gapkey/gapkey/core/LockModeCoversPinLaw"), (0, u "mode"), (0, u "(I)Lcom/example/gapkey/gapkey/core/LockMode;"), (0, .methodref 14 15), (0, .class_ 16), (0, .nameAndType 17 18), (0, u "com/example/gapkey/gapkey/core/LockMode"), (0, u "covers"), (0, u "(Lcom/example/gapkey/gapkey/core/LockMode;)Z"), (0, .fieldref 14 20), (0, .nameAndType 21 22), (0, u "IS"), (0, u "Lcom/example/gapkey/gapkey/core/LockMode;"), (0, .fieldref 14 24), (0, .nameAndType 25 22), (0, u "IX"), (0, .fieldref 14 27), (0, .nameAndType 28 22), (0, u "S"), (0, .fieldref 14 30), (0, .nameAndType 31 22), (0, u "X"), (2, u "law"), (0, u "(II)Z")] 3

def k1m0 : Method := { name := "<init>", desc := "()V", sig := { parameters := [], returnType := none }, accessFlags := 1, code := none }
def k1c1 : Code := { maxStack := 3, maxLocals := 9, code := code, exceptionTable := #[], attributes := #[] }
def k1m1 : Method := { name := "law", desc := "(II)Z", sig := { parameters := [.int, .int], returnType := some .boolean }, accessFlags := 9, code := some k1c1 }
def k1c2 : Code := { maxStack := 2, maxLocals := 1, code := method_3_code, exceptionTable := #[], attributes := #[] }
def k1m2 : Method := { name := "mode", desc := "(I)Lcom/example/gapkey/gapkey/core/LockMode;", sig := { parameters := [.int], returnType := some (.object "com/example/gapkey/gapkey/core/LockMode") }, accessFlags := 10, code := some k1c2 }
/-- com/example/gapkey/gapkey/core/LockModeCoversPinLaw -/
def k1 : Class := { plain "com/example/gapkey/gapkey/core/LockModeCoversPinLaw" (some 0) with
  accessFlags := 49
  interfaces := #[]
  cf := some (fileOf pool1 8 #[] #[{ accessFlags := 1, nameIndex := 5, descriptorIndex := 6, attributes := #[] }, { accessFlags := 9, nameIndex := 34, descriptorIndex := 35, attributes := #[] }, { accessFlags := 10, nameIndex := 11, descriptorIndex := 12, attributes := #[] }] 49 2 #[] #[])
  fields := #[]
  methods := #[k1m0, k1m1, k1m2]
  instanceTypes := #[]
  staticTypes := #[]
  resolved := Array.replicate 39 none
  statics := none }

def pool2 : Array CpInfo := pool [(1, .class_ 2), (0, u "java/lang/constant/Constable"), (0, .class_ 4), (0, u "java/lang/Object")] 6

/-- java/lang/constant/Constable -/
def k2 : Class := { plain "java/lang/constant/Constable" (some 0) with
  accessFlags := 1537
  interfaces := #[]
  cf := some (fileOf pool2 1 #[] #[] 1537 3 #[] #[])
  fields := #[]
  methods := #[]
  instanceTypes := #[]
  staticTypes := #[]
  resolved := Array.replicate 11 none
  statics := none }

def pool3 : Array CpInfo := pool [(1, .class_ 2), (0, u "java/lang/Comparable"), (0, .class_ 4), (0, u "java/lang/Object")] 7

/-- java/lang/Comparable -/
def k3 : Class := { plain "java/lang/Comparable" (some 0) with
  accessFlags := 1537
  interfaces := #[]
  cf := some (fileOf pool3 1 #[] #[] 1537 3 #[] #[])
  fields := #[]
  methods := #[]
  instanceTypes := #[]
  staticTypes := #[]
  resolved := Array.replicate 12 none
  statics := none }

def pool4 : Array CpInfo := pool [(1, .class_ 2), (0, u "java/io/Serializable"), (0, .class_ 4), (0, u "java/lang/Object")] 2

/-- java/io/Serializable -/
def k4 : Class := { plain "java/io/Serializable" (some 0) with
  accessFlags := 1537
  interfaces := #[]
  cf := some (fileOf pool4 1 #[] #[] 1537 3 #[] #[])
  fields := #[]
  methods := #[]
  instanceTypes := #[]
  staticTypes := #[]
  resolved := Array.replicate 7 none
  statics := none }

def pool5 : Array CpInfo := pool [(2, .class_ 4), (1, u "java/lang/Enum"), (0, u "name"), (0, u "Ljava/lang/String;"), (2, u "ordinal"), (0, u "I"), (1, .class_ 14), (1, u "java/lang/Object"), (4, u "hash"), (86, .class_ 108), (1, u "java/lang/Enum$EnumDesc"), (2, .class_ 112), (0, u "java/lang/constant/Constable"), (0, .class_ 114), (0, u "java/lang/Comparable"), (0, .class_ 116), (0, u "java/io/Serializable")] 87

/-- java/lang/Enum -/
def k5 : Class := { plain "java/lang/Enum" (some 0) with
  accessFlags := 1057
  interfaces := #[2, 3, 4]
  cf := some (fileOf pool5 2 #[.nestMembers #[106]] #[] 1057 12 #[111, 113, 115] #[{ accessFlags := 18, nameIndex := 5, descriptorIndex := 6, attributes := #[] }, { accessFlags := 18, nameIndex := 9, descriptorIndex := 10, attributes := #[] }, { accessFlags := 2, nameIndex := 19, descriptorIndex := 10, attributes := #[] }])
  fields := #[{ name := "name", type := (.object "java/lang/String"), accessFlags := 18, slot := 0, constantValue := 0 }, { name := "ordinal", type := .int, accessFlags := 18, slot := 1, constantValue := 0 }, { name := "hash", type := .int, accessFlags := 2, slot := 2, constantValue := 0 }]
  methods := #[]
  instanceTypes := #[(.object "java/lang/String"), .int, .int]
  staticTypes := #[]
  resolved := Array.replicate 204 none
  statics := none }

def pool6 : Array CpInfo := pool [(1, .class_ 2), (0, u "com/example/gapkey/gapkey/core/LockMode"), (0, .fieldref 1 4), (0, .nameAndType 5 6), (0, u "IS"), (0, u "Lcom/example/gapkey/gapkey/core/LockMode;"), (0, .fieldref 1 8), (0, .nameAndType 9 6), (0, u "IX"), (0, .fieldref 1 11), (0, .nameAndType 12 6), (0, u "S"), (0, .fieldref 1 14), (0, .nameAndType 15 6), (0, u "X"), (2, u "$VALUES"), (0, u "[Lcom/example/gapkey/gapkey/core/LockMode;"), (6, .class_ 28), (1, u "java/lang/Enum"), (25, u "covers"), (0, u "(Lcom/example/gapkey/gapkey/core/LockMode;)Z")] 4

def k6c0 : Code := { maxStack := 2, maxLocals := 2, code := prog_25_method_5_code, exceptionTable := #[], attributes := #[] }
def k6m0 : Method := { name := "covers", desc := "(Lcom/example/gapkey/gapkey/core/LockMode;)Z", sig := { parameters := [(.object "com/example/gapkey/gapkey/core/LockMode")], returnType := some .boolean }, accessFlags := 0, code := some k6c0 }
/-- com/example/gapkey/gapkey/core/LockMode -/
def k6 : Class := { plain "com/example/gapkey/gapkey/core/LockMode" (some 5) with
  accessFlags := 16433
  interfaces := #[]
  cf := some (fileOf pool6 1 #[] #[{ accessFlags := 0, nameIndex := 54, descriptorIndex := 55, attributes := #[] }] 16433 26 #[] #[{ accessFlags := 16409, nameIndex := 5, descriptorIndex := 6, attributes := #[] }, { accessFlags := 16409, nameIndex := 9, descriptorIndex := 6, attributes := #[] }, { accessFlags := 16409, nameIndex := 12, descriptorIndex := 6, attributes := #[] }, { accessFlags := 16409, nameIndex := 15, descriptorIndex := 6, attributes := #[] }, { accessFlags := 4122, nameIndex := 18, descriptorIndex := 19, attributes := #[] }])
  fields := #[{ name := "IS", type := (.object "com/example/gapkey/gapkey/core/LockMode"), accessFlags := 16409, slot := 0, constantValue := 0 }, { name := "IX", type := (.object "com/example/gapkey/gapkey/core/LockMode"), accessFlags := 16409, slot := 1, constantValue := 0 }, { name := "S", type := (.object "com/example/gapkey/gapkey/core/LockMode"), accessFlags := 16409, slot := 2, constantValue := 0 }, { name := "X", type := (.object "com/example/gapkey/gapkey/core/LockMode"), accessFlags := 16409, slot := 3, constantValue := 0 }, { name := "$VALUES", type := (.array (.object "com/example/gapkey/gapkey/core/LockMode")), accessFlags := 4122, slot := 4, constantValue := 0 }]
  methods := #[k6m0]
  instanceTypes := #[(.object "java/lang/String"), .int, .int]
  staticTypes := #[(.object "com/example/gapkey/gapkey/core/LockMode"), (.object "com/example/gapkey/gapkey/core/LockMode"), (.object "com/example/gapkey/gapkey/core/LockMode"), (.object "com/example/gapkey/gapkey/core/LockMode"), (.array (.object "com/example/gapkey/gapkey/core/LockMode"))]
  resolved := Array.replicate 60 none
  statics := some 0 }

def pool7 : Array CpInfo := pool [(1, u "java/lang/Cloneable"), (0, .class_ 1), (0, u "java/lang/Object"), (0, .class_ 3)] 3

/-- java/lang/Cloneable -/
def k7 : Class := { plain "java/lang/Cloneable" (some 0) with
  accessFlags := 1537
  interfaces := #[]
  cf := some (fileOf pool7 2 #[] #[] 1537 4 #[] #[])
  fields := #[]
  methods := #[]
  instanceTypes := #[]
  staticTypes := #[]
  resolved := Array.replicate 8 none
  statics := none }

/-- the primitive byte -/
def k8 : Class := { plain "byte" none with kind := .primitive 'B', accessFlags := 0x411 }
/-- [B -/
def k9 : Class := { plain "[B" (some 0) with kind := .array 8 .byte, interfaces := #[7, 4], accessFlags := 1041 }

/-- the primitive int -/
def k10 : Class := { plain "int" none with kind := .primitive 'I', accessFlags := 0x411 }
/-- [I -/
def k11 : Class := { plain "[I" (some 0) with kind := .array 10 .int, interfaces := #[7, 4], accessFlags := 1041 }

def heap : Heap := #[{ cls := 6, slots := #[.ref 1, .ref 2, .ref 3, .ref 4, .null], vm := .statics 6 },
  { cls := 6, slots := #[.null, .int 0, .int 0], vm := .none },
  { cls := 6, slots := #[.null, .int 1, .int 0], vm := .none },
  { cls := 6, slots := #[.null, .int 2, .int 0], vm := .none },
  { cls := 6, slots := #[.null, .int 3, .int 0], vm := .none }]
def classes : Array Class := #[k0, k1, k2, k3, k4, k5, k6, k7, k8, k9, k10, k11]
def interned : List (Array UInt16 × Addr) := []
def slotsUsed : Nat := 17
def theMethod : MethodId := ⟨1, 1⟩
def args0 : Array Value := #[.int 5, .int 5]
def aboutOver (below : List Frame) : State where
  vm := { classes := classes, interned := interned.toArray }
  heap := heap
  slotsUsed := slotsUsed
  threads := #[{ frames := .invoking theMethod args0 :: below }]
def below0 : List Frame := [.native { method := ⟨0, 0⟩, args := #[] }]
def about1 : State := aboutOver below0
def p0 : Program := .bare "" "" ""
def e0 : Env := launch0.env 0 0 0
theorem w_frames : about1.frames = Frame.invoking theMethod args0 :: below0 := rfl
set_option maxRecDepth 65536 in
theorem w_args : argsFit about1.vm theMethod args0 = true := by decide +kernel
set_option maxRecDepth 65536 in
theorem w_heap : heapFits about1 = true := by decide +kernel
set_option maxRecDepth 65536 in
theorem w_runnable : about1.curStatus? = some .runnable := by decide +kernel
set_option maxRecDepth 65536 in
theorem w_alone : about1.alone = true := by decide +kernel
set_option maxRecDepth 65536 in
theorem w_named : about1.methodNamed? x = some theMethod := by decide +kernel
set_option maxRecDepth 65536 in
theorem w_hears : about1.hears theMethod below0 = true := by decide +kernel
set_option maxRecDepth 65536 in
theorem w_ripe : about1.ripe theMethod args0 below0 = true := by decide +kernel
theorem w_running : about1.status = .running := rfl
set_option maxRecDepth 65536 in
theorem w_room : about1.hasRoom e0.platform room_1 = true :=
  launch0.hasRoom_least _ room_1 (by decide +kernel) (by decide +kernel) (by decide +kernel) (by decide +kernel) (by decide +kernel) (by decide +kernel)
theorem allAtoms_all (ts : List Jvm.Cond) (a : Array Jvm.Value) (st : Jvm.State) : (allAtoms ts).before a st = ts.all (fun c => c.before a st) := by
  induction ts with
  | nil => rfl
  | cons c t ih =>
    show (Jvm.Cond.and c (allAtoms t)).before a st = _
    rw [Jvm.Cond.before_and, ih, List.all_cons]
def words1 : List Jvm.Cond := Jvm.Cond.code x code maxLocals ret :: tables_1
/-- a 'code' word, met by the world's own term for the bytes: nothing is compared byte by byte -/
theorem code_word {y : MethodName} {bytes : ByteArray} {mx : Nat} {rt : Option FieldType} {a : Array Value} {s : State} {m : MethodId} {meth : Method} {c : Code} (h1 : s.methodNamed? y = some m) (h2 : s.vm.method? m = some meth) (h3 : meth.code = some c) (h4 : c.code = bytes)
    (h5 : (c.maxLocals == mx && c.exceptionTable.isEmpty && decide (c.maxStack ≤ mostOperands) && decide (meth.sig.returnType = rt) && !meth.locks && decide (parseMethodDescriptor y.desc = some meth.sig)) = true) : (Jvm.Cond.code y bytes mx rt).before a s = true := by
  simp only [Bool.and_eq_true, beq_iff_eq, Bool.not_eq_true', decide_eq_true_eq] at h5
  obtain ⟨⟨⟨⟨⟨g1, g2⟩, g3⟩, g4⟩, g5⟩, g6⟩ := h5
  simp [Cond.before, Cond.holds, Cond.value, h1, h2, h3, h4, g1, g2, g3, g4, g5, g6]
def isCode : Jvm.Cond → Bool
  | .code _ _ _ _ => true
  | _ => false
theorem all_split {L : List Jvm.Cond} {P : Jvm.Cond → Bool} (h1 : L.all (fun c => isCode c || P c) = true) (h2 : ∀ c ∈ L.filter isCode, P c = true) : L.all P = true := by
  refine List.all_eq_true.mpr fun c hc => ?_
  have h := List.all_eq_true.mp h1 c hc
  rcases Bool.eq_false_or_eq_true (isCode c) with hi | hi
  · exact h2 c (List.mem_filter.mpr ⟨hc, hi⟩)
  · simpa [hi] using h
set_option maxRecDepth 65536 in
theorem w_c0 : (Jvm.Cond.code x code maxLocals ret).before args0 about1 = true := code_word (m := ⟨1, 1⟩) (meth := k1m1) (c := k1c1) (by decide +kernel) rfl rfl rfl (by decide +kernel)
set_option maxRecDepth 65536 in
theorem w_c1 : (Jvm.Cond.code ({ cls := "com/example/gapkey/gapkey/core/LockModeCoversPinLaw", name := "mode", desc := "(I)Lcom/example/gapkey/gapkey/core/LockMode;" } : Jvm.MethodName) method_3_code (1 : Nat) (Option.some (Jvm.ClassFile.FieldType.object "com/example/gapkey/gapkey/core/LockMode"))).before args0 about1 = true := code_word (m := ⟨1, 2⟩) (meth := k1m2) (c := k1c2) (by decide +kernel) rfl rfl rfl (by decide +kernel)
set_option maxRecDepth 65536 in
theorem w_c2 : (Jvm.Cond.code ({ cls := "com/example/gapkey/gapkey/core/LockMode", name := "covers", desc := "(Lcom/example/gapkey/gapkey/core/LockMode;)Z" } : Jvm.MethodName) prog_25_method_5_code (2 : Nat) (Option.some Jvm.ClassFile.FieldType.boolean)).before args0 about1 = true := code_word (m := ⟨6, 0⟩) (meth := k6m0) (c := k6c0) (by decide +kernel) rfl rfl rfl (by decide +kernel)
def codes1 : List Jvm.Cond := [Jvm.Cond.code x code maxLocals ret, Jvm.Cond.code ({ cls := "com/example/gapkey/gapkey/core/LockModeCoversPinLaw", name := "mode", desc := "(I)Lcom/example/gapkey/gapkey/core/LockMode;" } : Jvm.MethodName) method_3_code (1 : Nat) (Option.some (Jvm.ClassFile.FieldType.object "com/example/gapkey/gapkey/core/LockMode")), Jvm.Cond.code ({ cls := "com/example/gapkey/gapkey/core/LockMode", name := "covers", desc := "(Lcom/example/gapkey/gapkey/core/LockMode;)Z" } : Jvm.MethodName) prog_25_method_5_code (2 : Nat) (Option.some Jvm.ClassFile.FieldType.boolean)]
set_option maxRecDepth 65536 in
theorem codes_eq : words1.filter isCode = codes1 := rfl
theorem w_codes : ∀ c ∈ words1.filter isCode, c.before args0 about1 = true := by
  rw [codes_eq]
  intro c hc
  simp only [codes1, List.mem_cons, List.not_mem_nil, or_false] at hc
  rcases hc with rfl | rfl | rfl
  · exact w_c0
  · exact w_c1
  · exact w_c2
set_option maxRecDepth 65536 in
theorem w_t1 : words1.all (fun c => isCode c || c.before args0 about1) = true := by decide +kernel
theorem w_tables : (allAtoms (Jvm.Cond.code x code maxLocals ret :: tables_1)).before args0 about1 = true := by
  rw [allAtoms_all]
  show words1.all (fun c => c.before args0 about1) = true
  refine all_split ?_ w_codes
  rw [w_t1]
set_option maxRecDepth 65536 in
theorem w_case : (Jvm.Cond.and given_1 narrow_1).before args0 about1 = true := by decide +kernel
theorem w_applies : (headSpec (Jvm.Cond.code x code maxLocals ret :: tables_1) room_1).applies x e0.platform about1 = true :=
  (Spec.applies_iff w_frames).mpr ⟨w_running, w_runnable, w_alone, w_named, w_hears, w_ripe, w_room, w_tables⟩
theorem atStart : AtStart classFile x code maxLocals ret World_1 tables_1 room_1 Calls_1 rest_1 Pre_1 launch0 p0 e0 about1 theMethod args0 below0 :=
  ⟨lists_1, trivial, launch0.admits_env _ _ _, launch0.least_env, fairChoices_fair.cas, fairChoices_fair.clock, w_frames, w_args, w_heap, w_applies, trivial, trivial, w_case⟩
end start1
theorem witness_1 : WitnessClaimed_1 := ⟨start1.p0, start1.e0, start1.about1, start1.theMethod, start1.args0, start1.below0, start1.atStart⟩
end Jvm.Pilot.@@N@@
