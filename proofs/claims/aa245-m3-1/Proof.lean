import JvmDerived
import JvmDerived.Pilot.@@N@@Statement
import JvmDerived.Pilot.@@N@@Code
set_option linter.unusedVariables false
set_option linter.unusedSimpArgs false
namespace Jvm.RoadKit
open Sem ClassFile Op Lib Jvm.Stand Jvm.Free Jvm.LawKit
section New
variable {p : Program} {l : Launch} {e : Env} {R : Room} {s : State} {m : MethodId} {args : Array Value} {below : List Frame} {meth : Method} {c : Code} {T : State} {locs : List Loc} {cells slots : Nat}
theorem retI (X : Stand p l e R s m args below meth c T locs cells slots) (hx : p.tables.exec = Jvm.exec) {pc : Nat} {Ls : Array Slot} {z : Int32} {rest : List Value} (hret : meth.sig.returnType = some .int) (hd : decode c.code pc = .ok (.ireturn, 1)) {fs : List Frame}
    (hl : ∀ (f : JFrame) (acts : List Action), f.method = m → f.locked = none → f.entered = [] → (doReturn e (T.setTop f) acts (some (.int z))).1 = T.setFrames fs) : Steps p.tables e below (T.setTop (mkF m pc Ls (.int z :: rest))) (T.setFrames fs) := by
  have hm' : T.vm.method? m = some meth := X.method'
  have hn : narrow .int (.int z) = .int z := rfl
  show Steps p.tables e below (T.setTop { method := m, pc := pc, locals := Ls, stack := _ :: rest, locked := none }) _
  jvm_step X.here [X.here.top, hx, hd, hm', hret, hn]
  first | (intro acts; rw [hl _ acts rfl rfl rfl]) | rw [hl _ _ rfl rfl rfl]
  exact Steps.refl _
end New
end Jvm.RoadKit
namespace Jvm.Pilot.@@N@@
open Jvm Jvm.ClassFile Sem Op Lib Jvm.Free Jvm.Stand Jvm.LawKit Jvm.RoadKit Bundle Jvm.Pilot.@@N@@.Jvm.D
theorem own_i {L : List Jvm.Cond} {a0 : Array Value} {Z : State} (hw : ∀ d ∈ L, d.before a0 Z = true) (i : Nat) {d : Jvm.Cond} (h : L[i]? = some d) : d.before a0 Z = true := hw _ (List.mem_of_getElem? h)
theorem d1_0 : decode prog_84_method_4_code 0 = .ok (.aload_n 0, 1) := by decide +kernel
theorem d1_1 : decode prog_84_method_4_code 1 = .ok (.getstatic 13, 3) := by decide +kernel
theorem d1_4 : decode prog_84_method_4_code 4 = .ok (.if_acmp .eq 10, 3) := by decide +kernel
theorem d1_7 : decode prog_84_method_4_code 7 = .ok (.aload_n 0, 1) := by decide +kernel
theorem d1_8 : decode prog_84_method_4_code 8 = .ok (.getstatic 16, 3) := by decide +kernel
theorem d1_11 : decode prog_84_method_4_code 11 = .ok (.if_acmp .ne 7, 3) := by decide +kernel
theorem d1_14 : decode prog_84_method_4_code 14 = .ok (.iconst 1, 1) := by decide +kernel
theorem d1_15 : decode prog_84_method_4_code 15 = .ok (.goto 4, 3) := by decide +kernel
theorem d1_18 : decode prog_84_method_4_code 18 = .ok (.iconst 0, 1) := by decide +kernel
theorem d1_19 : decode prog_84_method_4_code 19 = .ok (.ireturn, 1) := by decide +kernel
theorem own_static {args : Array Value} {s : State} {C n d K : String} (h : (Jvm.Cond.exactly (Jvm.Term.static C n d) K).value args s none s [] = some true) (hi : (Jvm.Cond.initialized C).before args s = true) (hl : (Jvm.Cond.laysStatic C n d).before args s = true) : ∃ a, (Jvm.Term.static C n d).eval args s none [] s = some (.ref a) ∧ Sta s s.heap C n d (.ref a) ∧ Exa s s.heap a K := by
  obtain ⟨a, ev⟩ := exa_v h
  exact ⟨a, ev, Sta.start ev (Or.inr ⟨hi, hl⟩), Exa.start ev h⟩
theorem own_fieldI {args : Array Value} {s : State} {t : Jvm.Term} {C n d : String} {a : Addr} {k : Int32} (ht : t.eval args s none [] s = some (.ref a)) (h : (Jvm.Cond.eq (Jvm.Term.field t C n d) (Jvm.Term.int k)).value args s none s [] = some true) : Fld s s.heap a C n d (.int k) := by
  obtain ⟨x, y, ex, ey, -, ky⟩ := cmp_v (Or.inl h)
  have ey' : some (Value.int k) = some y := ey
  cases ey'
  obtain ⟨z, rfl⟩ := ky
  have hz : z = k := gotT (Cond.eq_ints ex (Term.int_eval k)) h
  subst hz
  exact Fld.start ((fld_at ht).symm.trans ex)
def own_pref (a x y : Addr) : Int32 := if a = x ∨ a = y then 1 else 0
theorem pn_com_example_libsld_libsld_Operators_Type : plainName "com/example/libsld/libsld/Operators$Type" = true := by first | (simp [plainName, overriddenIn]; done) | decide +kernel
theorem ef_rm1 (m : MethodId) (x0 : Addr) : entryFrame m #[(.ref x0)] 1 = mkF m 0 #[.val (.ref x0)] [] := by first | (simp [entryFrame, mkF, argsToLocals, Value.category]; done) | rfl
def Q1 (Z : State) (a1 : Addr) (wFY : Addr) (wFX : Addr) (h0 : Heap) (n0 : Nat) (v : Option Value) (h : Heap) (L : List Loc) : Prop := v = some (.int (own_pref a1 wFY wFX)) ∧ Fr n0 L ∧ h = h0
set_option maxRecDepth 65536 in
set_option maxHeartbeats 40000000 in
theorem rm1 (l : Launch) (Z : State) (a0 : Array Value) (hw : ∀ d ∈ tables_1, d.before a0 Z = true) (ws : List Jvm.Cond) (a1 : Addr) (wFY : Addr) (wFX : Addr) (h0 : Heap) (n0 : Nat) (Z0 : n0 ≤ h0.size) (S1 : Sta Z h0 "com/example/libsld/libsld/Operators$Type" "FY" "Lcom/example/libsld/libsld/Operators$Type;" (.ref wFY)) (S2 : Sta Z h0 "com/example/libsld/libsld/Operators$Type" "FX" "Lcom/example/libsld/libsld/Operators$Type;" (.ref wFX)) :
    MetFree l (⟨"com/example/libsld/libsld/Operators$Type", "isPrefix", "()Z"⟩ : MethodName) (head1 (Jvm.Cond.code (⟨"com/example/libsld/libsld/Operators$Type", "isPrefix", "()Z"⟩ : MethodName) prog_84_method_4_code 1 (some .boolean) :: ws) ({ frames := 0, cells := 0, slots := 0, locals := 0 } : Room)) (fun a U => a = #[(.ref a1)] ∧ Z.Warmed39 U.vm ∧ U.heap = h0) (fun _ _ _ _ _ => True) (fun _ U o U' => ∃ v L, o = .returned v ∧ Q1 Z a1 wFY wFX h0 n0 v U'.heap L ∧ FrameEnd U o U' L ({ frames := 0, cells := 0, slots := 0, locals := 0 } : Room).cells ({ frames := 0, cells := 0, slots := 0, locals := 0 } : Room).slots) := by
  refine MetFree.of_bodySF (plainFor_of_name pn_com_example_libsld_libsld_Operators_Type) hisR ?_
  intro p e s m args below meth c s₁ Bd hml0 hP hK
  obtain ⟨rfl, hZ, hh⟩ := hP
  have hx := Bd.exec
  have hby := Bd.bytes
  have hml : c.maxLocals = 1 := hml0
  have hown : s.vm.findClass "com/example/libsld/libsld/Operators$Type" = some m.cls := findClass_of_methodNamed Bd.named
  have hnm := (name_of_methodNamed Bd.named Bd.method).1
  have X0 : Stand p l e ({ frames := 0, cells := 0, slots := 0, locals := 0 } : Room) s m #[(.ref a1)] below meth c s₁ [] 0 0 := Stand.of_body Bd
  have e0 : s₁.heap = h0 := by rw [← hh, Bd.state]; rfl
  have N0 := Fr.nil n0
  have pre0 : ∀ t, Steps p.tables e below (s₁.setTop (mkF m 0 #[.val (.ref a1)] [])) t → Steps p.tables e below (s₁.setTop (entryFrame m #[(.ref a1)] 1)) t := fun t k => castTop (ef_rm1 m a1) k
  obtain ⟨T101, X101, e101, st101⟩ := getS2 X0 hx hZ hown (host := "") (Or.inl (own_i hw 9 rfl)) Via.refl e0 S1 (g := (mkF m 1 #[.val (.ref a1)] [(.ref a1)])) rfl (hb hby d1_1)
  have pre103 : ∀ t, Steps p.tables e below (T101.setTop (mkF m 4 #[.val (.ref a1)] [(.ref wFY), (.ref a1)])) t → Steps p.tables e below (s₁.setTop (entryFrame m #[(.ref a1)] 1)) t := fun t k => pre0 t (by
    show Steps p.tables e below (s₁.setTop (mkF m 0 #[.val (.ref a1)] [])) t
    refine XS.aloadN X0.here hx rfl (hb hby d1_0) rfl rfl ?_
    show Steps p.tables e below (s₁.setTop (mkF m 1 #[.val (.ref a1)] [(.ref a1)])) t
    refine st101 _ ?_
    exact k)
  by_cases hc102 : a1 = wFY
  · have pre104 : ∀ t, Steps p.tables e below (T101.setTop (mkF m 19 #[.val (.ref a1)] [(.int (1 : Int32))])) t → Steps p.tables e below (s₁.setTop (entryFrame m #[(.ref a1)] 1)) t := fun t k => pre103 t (by
      show Steps p.tables e below (T101.setTop (mkF m 4 #[.val (.ref a1)] [(.ref wFY), (.ref a1)])) t
      refine Jvm.RoadKit.acmp (g := (mkF m 4 #[.val (.ref a1)] [(.ref wFY), (.ref a1)])) X101 hx rfl rfl rfl (pc0 := 4) (pc' := 14) (same := true) rfl (hb hby d1_4) rfl (decide_eq_true (congrArg Value.ref hc102)) (by decide) (by decide) ?_
      show Steps p.tables e below (T101.setTop (mkF m 14 #[.val (.ref a1)] [])) t
      refine XS.iconst X101.here hx rfl (hb hby d1_14) ?_
      show Steps p.tables e below (T101.setTop (mkF m 15 #[.val (.ref a1)] [(.int (1 : Int32))])) t
      refine XS.goto X101.here hx rfl (pc0 := 15) (pc' := 19) rfl (hb hby d1_15) (by decide) (by decide) ?_
      exact k)
    obtain ⟨fs, hr, hrun, hended, hW, hsame⟩ := X101.leave (v := some (.int (1 : Int32))) (fun h => by rw [Bd.returns] at h; cases h)
    refine ⟨_, _, pre104 _ ?_, hrun, hended, _, _, rfl, ?_, ⟨_, rfl⟩, hW, hsame.mono (by decide) (by decide)⟩
    · exact retN X101 hx (t := .boolean) Bd.returns (by simp) (hb hby d1_19) hr
    · show Q1 Z a1 wFY wFX h0 n0 _ T101.heap _
      rw [e101]
      exact ⟨(by simp [own_pref, hc102]), N0, rfl⟩
  · obtain ⟨T105, X105, e105, st105⟩ := getS2 X101 hx hZ hown (host := "") (Or.inl (own_i hw 11 rfl)) Via.refl e101 S2 (g := (mkF m 8 #[.val (.ref a1)] [(.ref a1)])) rfl (hb hby d1_8)
    have pre107 : ∀ t, Steps p.tables e below (T105.setTop (mkF m 11 #[.val (.ref a1)] [(.ref wFX), (.ref a1)])) t → Steps p.tables e below (s₁.setTop (entryFrame m #[(.ref a1)] 1)) t := fun t k => pre103 t (by
      show Steps p.tables e below (T101.setTop (mkF m 4 #[.val (.ref a1)] [(.ref wFY), (.ref a1)])) t
      refine Jvm.RoadKit.acmp (g := (mkF m 4 #[.val (.ref a1)] [(.ref wFY), (.ref a1)])) X101 hx rfl rfl rfl (pc0 := 4) (pc' := 7) (same := false) rfl (hb hby d1_4) rfl (decide_eq_false fun q => hc102 (Value.ref.inj q)) (by decide) (by decide) ?_
      show Steps p.tables e below (T101.setTop (mkF m 7 #[.val (.ref a1)] [])) t
      refine XS.aloadN X101.here hx rfl (hb hby d1_7) rfl rfl ?_
      show Steps p.tables e below (T101.setTop (mkF m 8 #[.val (.ref a1)] [(.ref a1)])) t
      refine st105 _ ?_
      exact k)
    by_cases hc106 : a1 = wFX
    · have pre108 : ∀ t, Steps p.tables e below (T105.setTop (mkF m 19 #[.val (.ref a1)] [(.int (1 : Int32))])) t → Steps p.tables e below (s₁.setTop (entryFrame m #[(.ref a1)] 1)) t := fun t k => pre107 t (by
        show Steps p.tables e below (T105.setTop (mkF m 11 #[.val (.ref a1)] [(.ref wFX), (.ref a1)])) t
        refine Jvm.RoadKit.acmp (g := (mkF m 11 #[.val (.ref a1)] [(.ref wFX), (.ref a1)])) X105 hx rfl rfl rfl (pc0 := 11) (pc' := 14) (same := true) rfl (hb hby d1_11) rfl (decide_eq_true (congrArg Value.ref hc106)) (by decide) (by decide) ?_
        show Steps p.tables e below (T105.setTop (mkF m 14 #[.val (.ref a1)] [])) t
        refine XS.iconst X105.here hx rfl (hb hby d1_14) ?_
        show Steps p.tables e below (T105.setTop (mkF m 15 #[.val (.ref a1)] [(.int (1 : Int32))])) t
        refine XS.goto X105.here hx rfl (pc0 := 15) (pc' := 19) rfl (hb hby d1_15) (by decide) (by decide) ?_
        exact k)
      obtain ⟨fs, hr, hrun, hended, hW, hsame⟩ := X105.leave (v := some (.int (1 : Int32))) (fun h => by rw [Bd.returns] at h; cases h)
      refine ⟨_, _, pre108 _ ?_, hrun, hended, _, _, rfl, ?_, ⟨_, rfl⟩, hW, hsame.mono (by decide) (by decide)⟩
      · exact retN X105 hx (t := .boolean) Bd.returns (by simp) (hb hby d1_19) hr
      · show Q1 Z a1 wFY wFX h0 n0 _ T105.heap _
        rw [e105]
        exact ⟨(by simp [own_pref, hc102, hc106]), N0, rfl⟩
    · have pre109 : ∀ t, Steps p.tables e below (T105.setTop (mkF m 19 #[.val (.ref a1)] [(.int (0 : Int32))])) t → Steps p.tables e below (s₁.setTop (entryFrame m #[(.ref a1)] 1)) t := fun t k => pre107 t (by
        show Steps p.tables e below (T105.setTop (mkF m 11 #[.val (.ref a1)] [(.ref wFX), (.ref a1)])) t
        refine Jvm.RoadKit.acmp (g := (mkF m 11 #[.val (.ref a1)] [(.ref wFX), (.ref a1)])) X105 hx rfl rfl rfl (pc0 := 11) (pc' := 18) (same := false) rfl (hb hby d1_11) rfl (decide_eq_false fun q => hc106 (Value.ref.inj q)) (by decide) (by decide) ?_
        show Steps p.tables e below (T105.setTop (mkF m 18 #[.val (.ref a1)] [])) t
        refine XS.iconst X105.here hx rfl (hb hby d1_18) ?_
        exact k)
      obtain ⟨fs, hr, hrun, hended, hW, hsame⟩ := X105.leave (v := some (.int (0 : Int32))) (fun h => by rw [Bd.returns] at h; cases h)
      refine ⟨_, _, pre109 _ ?_, hrun, hended, _, _, rfl, ?_, ⟨_, rfl⟩, hW, hsame.mono (by decide) (by decide)⟩
      · exact retN X105 hx (t := .boolean) Bd.returns (by simp) (hb hby d1_19) hr
      · show Q1 Z a1 wFY wFX h0 n0 _ T105.heap _
        rw [e105]
        exact ⟨(by simp [own_pref, hc102, hc106]), N0, rfl⟩
theorem pn_com_example_libsld_libsld_TypeIsPrefixPinLaw : plainName "com/example/libsld/libsld/TypeIsPrefixPinLaw" = true := by first | (simp [plainName, overriddenIn]; done) | decide +kernel
theorem pd_0 : parseMethodDescriptor "()Z" = some ⟨[], some .boolean⟩ := by decide +kernel
theorem ef_rm0 (m : MethodId) (x0 : Int32) : entryFrame m #[(.int x0)] maxLocals = mkF m 0 #[.val (.int x0), .unset, .unset, .unset] [] := by first | (simp [entryFrame, mkF, argsToLocals, Value.category, maxLocals]; done) | rfl
def Q0 (Z : State) (p1 : Int32) (wXFX : Addr) (wFY : Addr) (wFX : Addr) (wXFY : Addr) (wYFX : Addr) (h0 : Heap) (n0 : Nat) (v : Option Value) (h : Heap) (L : List Loc) : Prop := v = some (.int 1) ∧ Fr n0 L
set_option maxRecDepth 65536 in
set_option maxHeartbeats 40000000 in
theorem rm0 (l : Launch) (Z : State) (a0 : Array Value) (hw : ∀ d ∈ tables_1, d.before a0 Z = true) (ws : List Jvm.Cond) (p1 : Int32) (wXFX : Addr) (wFY : Addr) (wFX : Addr) (wXFY : Addr) (wYFX : Addr) (h0 : Heap) (n0 : Nat) (Z0 : n0 ≤ h0.size) (S_XFX : Sta Z h0 "com/example/libsld/libsld/Operators$Type" "XFX" "Lcom/example/libsld/libsld/Operators$Type;" (.ref wXFX)) (E_XFX : Exa Z h0 wXFX "com/example/libsld/libsld/Operators$Type") (S_FY : Sta Z h0 "com/example/libsld/libsld/Operators$Type" "FY" "Lcom/example/libsld/libsld/Operators$Type;" (.ref wFY)) (E_FY : Exa Z h0 wFY "com/example/libsld/libsld/Operators$Type") (S_FX : Sta Z h0 "com/example/libsld/libsld/Operators$Type" "FX" "Lcom/example/libsld/libsld/Operators$Type;" (.ref wFX)) (E_FX : Exa Z h0 wFX "com/example/libsld/libsld/Operators$Type") (S_XFY : Sta Z h0 "com/example/libsld/libsld/Operators$Type" "XFY" "Lcom/example/libsld/libsld/Operators$Type;" (.ref wXFY)) (E_XFY : Exa Z h0 wXFY "com/example/libsld/libsld/Operators$Type") (S_YFX : Sta Z h0 "com/example/libsld/libsld/Operators$Type" "YFX" "Lcom/example/libsld/libsld/Operators$Type;" (.ref wYFX)) (E_YFX : Exa Z h0 wYFX "com/example/libsld/libsld/Operators$Type") (O0_XFX : Fld Z h0 wXFX "java/lang/Enum" "ordinal" "I" (.int (0 : Int32))) (O1_FY : Fld Z h0 wFY "java/lang/Enum" "ordinal" "I" (.int (3 : Int32))) (O2_FX : Fld Z h0 wFX "java/lang/Enum" "ordinal" "I" (.int (4 : Int32))) (O3_XFY : Fld Z h0 wXFY "java/lang/Enum" "ordinal" "I" (.int (1 : Int32))) (O4_YFX : Fld Z h0 wYFX "java/lang/Enum" "ordinal" "I" (.int (2 : Int32))) (ne_XFX_FY : wXFX ≠ wFY) (ne_XFX_FX : wXFX ≠ wFX) (ne_XFX_XFY : wXFX ≠ wXFY) (ne_XFX_YFX : wXFX ≠ wYFX) (ne_FY_FX : wFY ≠ wFX) (ne_FY_XFY : wFY ≠ wXFY) (ne_FY_YFX : wFY ≠ wYFX) (ne_FX_XFY : wFX ≠ wXFY) (ne_FX_YFX : wFX ≠ wYFX) (ne_XFY_YFX : wXFY ≠ wYFX) :
    MetFree l x (head1 (Jvm.Cond.code x code maxLocals ret :: ws) room_1) (fun a U => a = #[(.int p1)] ∧ Z.Warmed39 U.vm ∧ U.heap = h0) (fun _ _ _ _ _ => True) (fun _ U o U' => ∃ v L, o = .returned v ∧ Q0 Z p1 wXFX wFY wFX wXFY wYFX h0 n0 v U'.heap L ∧ FrameEnd U o U' L 0 0) := by
  refine MetFree.of_bodySF (plainFor_of_name pn_com_example_libsld_libsld_TypeIsPrefixPinLaw) hisR ?_
  intro p e s m args below meth c s₁ Bd hml0 hP hK
  obtain ⟨rfl, hZ, hh⟩ := hP
  have hx := Bd.exec
  have hby := Bd.bytes
  have hml : c.maxLocals = 4 := hml0
  have hown : s.vm.findClass "com/example/libsld/libsld/TypeIsPrefixPinLaw" = some m.cls := findClass_of_methodNamed Bd.named
  have hnm := (name_of_methodNamed Bd.named Bd.method).1
  have X0 : Stand p l e room_1 s m #[(.int p1)] below meth c s₁ [] 0 0 := Stand.of_body Bd
  have e0 : s₁.heap = h0 := by rw [← hh, Bd.state]; rfl
  have N0 := Fr.nil n0
  have pre0 : ∀ t, Steps p.tables e below (s₁.setTop (mkF m 0 #[.val (.int p1), .unset, .unset, .unset] [])) t → Steps p.tables e below (s₁.setTop (entryFrame m #[(.int p1)] maxLocals)) t := fun t k => castTop (ef_rm0 m p1) k
  have f101 := Keep.refl h0 []
  have pre103 : ∀ t, Steps p.tables e below (s₁.setTop (mkF m 8 #[.val (.int p1), .val (.int ((p1 &&& (2147483647 : Int32)) % (5 : Int32))), .unset, .unset] [(.int ((p1 &&& (2147483647 : Int32)) % (5 : Int32)))])) t → Steps p.tables e below (s₁.setTop (entryFrame m #[(.int p1)] maxLocals)) t := fun t k => pre0 t (by
    show Steps p.tables e below (s₁.setTop (mkF m 0 #[.val (.int p1), .unset, .unset, .unset] [])) t
    refine XS.iloadN X0.here hx rfl (hb hby at_0) rfl ?_
    show Steps p.tables e below (s₁.setTop (mkF m 1 #[.val (.int p1), .unset, .unset, .unset] [(.int p1)])) t
    refine X0.ldcInt hx hown (mvT hZ (own_i hw 0 rfl)) (g := (mkF m 1 #[.val (.int p1), .unset, .unset, .unset] [(.int p1)])) rfl (hb hby at_1) _ ?_
    show Steps p.tables e below (s₁.setTop (mkF m 3 #[.val (.int p1), .unset, .unset, .unset] [(.int (2147483647 : Int32)), (.int p1)])) t
    refine XS.iand X0.here hx rfl (hb hby at_3) rfl ?_
    show Steps p.tables e below (s₁.setTop (mkF m 4 #[.val (.int p1), .unset, .unset, .unset] [(.int (p1 &&& (2147483647 : Int32)))])) t
    refine XS.iconst X0.here hx rfl (hb hby at_4) ?_
    show Steps p.tables e below (s₁.setTop (mkF m 5 #[.val (.int p1), .unset, .unset, .unset] [(.int (5 : Int32)), (.int (p1 &&& (2147483647 : Int32)))])) t
    refine iremM (g := (mkF m 5 #[.val (.int p1), .unset, .unset, .unset] [(.int (5 : Int32)), (.int (p1 &&& (2147483647 : Int32)))])) X0 hx rfl (hb hby at_5) rfl (by decide) ?_
    show Steps p.tables e below (s₁.setTop (mkF m 6 #[.val (.int p1), .unset, .unset, .unset] [(.int ((p1 &&& (2147483647 : Int32)) % (5 : Int32)))])) t
    refine XS.istoreN X0.here hx rfl (hb hby at_6) rfl (l' := #[.val (.int p1), .val (.int ((p1 &&& (2147483647 : Int32)) % (5 : Int32))), .unset, .unset]) rfl ?_
    show Steps p.tables e below (s₁.setTop (mkF m 7 #[.val (.int p1), .val (.int ((p1 &&& (2147483647 : Int32)) % (5 : Int32))), .unset, .unset] [])) t
    refine XS.iloadN X0.here hx rfl (hb hby at_7) rfl ?_
    exact k)
  by_cases hc102 : ((p1 &&& (2147483647 : Int32)) % (5 : Int32)) = (0 : Int32)
  · obtain ⟨T104, X104, e104, st104⟩ := getS2 X0 hx hZ hown (host := "") (Or.inl (own_i hw 1 rfl)) Via.refl e0 S_XFX (g := (mkF m 11 #[.val (.int p1), .val (.int ((p1 &&& (2147483647 : Int32)) % (5 : Int32))), .unset, .unset] [])) rfl (hb hby at_11)
    obtain ⟨cq105, kq105, q105a, q105b, q105c⟩ := isOf hZ e104 E_XFX
    obtain ⟨_, _, ⟨T105, L105, k105, n105⟩, -, X105, ⟨Lc105, hQ105, l105, y105, z105⟩, st105⟩ := X104.virtualBack hx (y := (⟨"com/example/libsld/libsld/Operators$Type", "isPrefix", "()Z"⟩ : MethodName)) (z := (⟨"com/example/libsld/libsld/Operators$Type", "isPrefix", "()Z"⟩ : MethodName)) hown (mvT hZ (own_i hw 4 rfl)) (mvT hZ (own_i hw 5 rfl)) (notFace_of_selects (args := #[]) (mvT hZ (own_i hw 7 rfl))) (mvT hZ (own_i hw 7 rfl)) (mvT hZ (own_i hw 6 rfl)) (by decide) (backOf (W := 0) (rm1 l Z a0 hw [] wXFX wFY wFX h0 n0 Z0 S_FY S_FX) hZ (own_i hw 8 rfl) (own_i hw 2 rfl) (by decide) (by decide)) q105a q105c (g := (mkF m 69 #[.val (.int p1), .val (.int ((p1 &&& (2147483647 : Int32)) % (5 : Int32))), .val (.ref wXFX), .val (.int (0 : Int32))] [(.ref wXFX)])) rfl (by rw [hml]; rfl) (Steps.refl _) (argsL := []) (rest := []) (lenOf pd_0 rfl) rfl (by show 2 * 0 + _ ≤ _; exact Nat.le_of_eq rfl) (hb hby at_69) (fun _ _ => ⟨rfl, e104, (by decide : 0 + 0 ≤ _), (by decide : 0 + 0 ≤ _)⟩)
    dsimp only [Pt.U, Pt.locs, Pt.cells, Pt.slots] at X105 l105 y105 z105 st105 hQ105
    subst l105 y105 z105
    obtain ⟨rfl, N105q, e105⟩ := hQ105
    have N105 := Fr.app N0 N105q
    have hd106 : (own_pref wXFX wFY wFX) = (0 : Int32) := by simp [own_pref, ne_XFX_FY, ne_XFX_FX, ne_XFX_XFY, ne_XFX_YFX, ne_FY_FX, ne_FY_XFY, ne_FY_YFX, ne_FX_XFY, ne_FX_YFX, ne_XFY_YFX, Ne.symm ne_XFX_FY, Ne.symm ne_XFX_FX, Ne.symm ne_XFX_XFY, Ne.symm ne_XFX_YFX, Ne.symm ne_FY_FX, Ne.symm ne_FY_XFY, Ne.symm ne_FY_YFX, Ne.symm ne_FX_XFY, Ne.symm ne_FX_YFX, Ne.symm ne_XFY_YFX]
    have pre107 : ∀ t, Steps p.tables e below (T105.setTop (mkF m 81 #[.val (.int p1), .val (.int ((p1 &&& (2147483647 : Int32)) % (5 : Int32))), .val (.ref wXFX), .val (.int (0 : Int32))] [(.int (1 : Int32))])) t → Steps p.tables e below (s₁.setTop (entryFrame m #[(.int p1)] maxLocals)) t := fun t k => pre103 t (by
      show Steps p.tables e below (s₁.setTop (mkF m 8 #[.val (.int p1), .val (.int ((p1 &&& (2147483647 : Int32)) % (5 : Int32))), .unset, .unset] [(.int ((p1 &&& (2147483647 : Int32)) % (5 : Int32)))])) t
      refine XS.ifNo X0.here hx rfl (hb hby at_8) rfl ((if0 _ _).trans (teq hc102).2) ?_
      show Steps p.tables e below (s₁.setTop (mkF m 11 #[.val (.int p1), .val (.int ((p1 &&& (2147483647 : Int32)) % (5 : Int32))), .unset, .unset] [])) t
      refine st104 _ ?_
      show Steps p.tables e below (T104.setTop (mkF m 14 #[.val (.int p1), .val (.int ((p1 &&& (2147483647 : Int32)) % (5 : Int32))), .unset, .unset] [(.ref wXFX)])) t
      refine XS.astoreN X104.here hx rfl (hb hby at_14) rfl rfl (l' := #[.val (.int p1), .val (.int ((p1 &&& (2147483647 : Int32)) % (5 : Int32))), .val (.ref wXFX), .unset]) rfl ?_
      show Steps p.tables e below (T104.setTop (mkF m 15 #[.val (.int p1), .val (.int ((p1 &&& (2147483647 : Int32)) % (5 : Int32))), .val (.ref wXFX), .unset] [])) t
      refine XS.iconst X104.here hx rfl (hb hby at_15) ?_
      show Steps p.tables e below (T104.setTop (mkF m 16 #[.val (.int p1), .val (.int ((p1 &&& (2147483647 : Int32)) % (5 : Int32))), .val (.ref wXFX), .unset] [(.int (0 : Int32))])) t
      refine XS.istoreN X104.here hx rfl (hb hby at_16) rfl (l' := #[.val (.int p1), .val (.int ((p1 &&& (2147483647 : Int32)) % (5 : Int32))), .val (.ref wXFX), .val (.int (0 : Int32))]) rfl ?_
      show Steps p.tables e below (T104.setTop (mkF m 17 #[.val (.int p1), .val (.int ((p1 &&& (2147483647 : Int32)) % (5 : Int32))), .val (.ref wXFX), .val (.int (0 : Int32))] [])) t
      refine XS.goto X104.here hx rfl (pc0 := 17) (pc' := 68) rfl (hb hby at_17) (by decide) (by decide) ?_
      show Steps p.tables e below (T104.setTop (mkF m 68 #[.val (.int p1), .val (.int ((p1 &&& (2147483647 : Int32)) % (5 : Int32))), .val (.ref wXFX), .val (.int (0 : Int32))] [])) t
      refine XS.aloadN X104.here hx rfl (hb hby at_68) rfl rfl ?_
      show Steps p.tables e below (T104.setTop (mkF m 69 #[.val (.int p1), .val (.int ((p1 &&& (2147483647 : Int32)) % (5 : Int32))), .val (.ref wXFX), .val (.int (0 : Int32))] [(.ref wXFX)])) t
      refine st105.trans ?_
      show Steps p.tables e below (T105.setTop (mkF m 72 #[.val (.int p1), .val (.int ((p1 &&& (2147483647 : Int32)) % (5 : Int32))), .val (.ref wXFX), .val (.int (0 : Int32))] [(.int (own_pref wXFX wFY wFX))])) t
      refine XS.iloadN X105.here hx rfl (hb hby at_72) rfl ?_
      show Steps p.tables e below (T105.setTop (mkF m 73 #[.val (.int p1), .val (.int ((p1 &&& (2147483647 : Int32)) % (5 : Int32))), .val (.ref wXFX), .val (.int (0 : Int32))] [(.int (0 : Int32)), (.int (own_pref wXFX wFY wFX))])) t
      refine XS.icmpNo X105.here hx rfl (hb hby at_73) rfl (teq hd106).2 ?_
      show Steps p.tables e below (T105.setTop (mkF m 76 #[.val (.int p1), .val (.int ((p1 &&& (2147483647 : Int32)) % (5 : Int32))), .val (.ref wXFX), .val (.int (0 : Int32))] [])) t
      refine XS.iconst X105.here hx rfl (hb hby at_76) ?_
      show Steps p.tables e below (T105.setTop (mkF m 77 #[.val (.int p1), .val (.int ((p1 &&& (2147483647 : Int32)) % (5 : Int32))), .val (.ref wXFX), .val (.int (0 : Int32))] [(.int (1 : Int32))])) t
      refine XS.goto X105.here hx rfl (pc0 := 77) (pc' := 81) rfl (hb hby at_77) (by decide) (by decide) ?_
      exact k)
    obtain ⟨fs, hr, hrun, hended, hW, hsame⟩ := X105.leave (v := some (.int (1 : Int32))) (fun h => by rw [Bd.returns] at h; cases h)
    refine ⟨_, _, pre107 _ ?_, hrun, hended, _, _, rfl, ?_, ⟨_, rfl⟩, hW, hsame.mono (by decide) (by decide)⟩
    · exact retN X105 hx (t := .boolean) Bd.returns (by simp) (hb hby at_81) hr
    · show Q0 Z p1 wXFX wFY wFX wXFY wYFX h0 n0 _ T105.heap _
      rw [e105]
      exact ⟨rfl, N105⟩
  · have pre109 : ∀ t, Steps p.tables e below (s₁.setTop (mkF m 22 #[.val (.int p1), .val (.int ((p1 &&& (2147483647 : Int32)) % (5 : Int32))), .unset, .unset] [(.int (1 : Int32)), (.int ((p1 &&& (2147483647 : Int32)) % (5 : Int32)))])) t → Steps p.tables e below (s₁.setTop (entryFrame m #[(.int p1)] maxLocals)) t := fun t k => pre103 t (by
      show Steps p.tables e below (s₁.setTop (mkF m 8 #[.val (.int p1), .val (.int ((p1 &&& (2147483647 : Int32)) % (5 : Int32))), .unset, .unset] [(.int ((p1 &&& (2147483647 : Int32)) % (5 : Int32)))])) t
      refine XS.ifYes X0.here hx rfl (pc0 := 8) (pc' := 20) rfl (hb hby at_8) rfl ((if0 _ _).trans (feq hc102).2) (by decide) (by decide) ?_
      show Steps p.tables e below (s₁.setTop (mkF m 20 #[.val (.int p1), .val (.int ((p1 &&& (2147483647 : Int32)) % (5 : Int32))), .unset, .unset] [])) t
      refine XS.iloadN X0.here hx rfl (hb hby at_20) rfl ?_
      show Steps p.tables e below (s₁.setTop (mkF m 21 #[.val (.int p1), .val (.int ((p1 &&& (2147483647 : Int32)) % (5 : Int32))), .unset, .unset] [(.int ((p1 &&& (2147483647 : Int32)) % (5 : Int32)))])) t
      refine XS.iconst X0.here hx rfl (hb hby at_21) ?_
      exact k)
    by_cases hc108 : ((p1 &&& (2147483647 : Int32)) % (5 : Int32)) = (1 : Int32)
    · obtain ⟨T110, X110, e110, st110⟩ := getS2 X0 hx hZ hown (host := "") (Or.inl (own_i hw 14 rfl)) Via.refl e0 S_XFY (g := (mkF m 25 #[.val (.int p1), .val (.int ((p1 &&& (2147483647 : Int32)) % (5 : Int32))), .unset, .unset] [])) rfl (hb hby at_25)
      obtain ⟨cq111, kq111, q111a, q111b, q111c⟩ := isOf hZ e110 E_XFY
      obtain ⟨_, _, ⟨T111, L111, k111, n111⟩, -, X111, ⟨Lc111, hQ111, l111, y111, z111⟩, st111⟩ := X110.virtualBack hx (y := (⟨"com/example/libsld/libsld/Operators$Type", "isPrefix", "()Z"⟩ : MethodName)) (z := (⟨"com/example/libsld/libsld/Operators$Type", "isPrefix", "()Z"⟩ : MethodName)) hown (mvT hZ (own_i hw 4 rfl)) (mvT hZ (own_i hw 5 rfl)) (notFace_of_selects (args := #[]) (mvT hZ (own_i hw 7 rfl))) (mvT hZ (own_i hw 7 rfl)) (mvT hZ (own_i hw 6 rfl)) (by decide) (backOf (W := 0) (rm1 l Z a0 hw [] wXFY wFY wFX h0 n0 Z0 S_FY S_FX) hZ (own_i hw 8 rfl) (own_i hw 2 rfl) (by decide) (by decide)) q111a q111c (g := (mkF m 69 #[.val (.int p1), .val (.int ((p1 &&& (2147483647 : Int32)) % (5 : Int32))), .val (.ref wXFY), .val (.int (0 : Int32))] [(.ref wXFY)])) rfl (by rw [hml]; rfl) (Steps.refl _) (argsL := []) (rest := []) (lenOf pd_0 rfl) rfl (by show 2 * 0 + _ ≤ _; exact Nat.le_of_eq rfl) (hb hby at_69) (fun _ _ => ⟨rfl, e110, (by decide : 0 + 0 ≤ _), (by decide : 0 + 0 ≤ _)⟩)
      dsimp only [Pt.U, Pt.locs, Pt.cells, Pt.slots] at X111 l111 y111 z111 st111 hQ111
      subst l111 y111 z111
      obtain ⟨rfl, N111q, e111⟩ := hQ111
      have N111 := Fr.app N0 N111q
      have hd112 : (own_pref wXFY wFY wFX) = (0 : Int32) := by simp [own_pref, ne_XFX_FY, ne_XFX_FX, ne_XFX_XFY, ne_XFX_YFX, ne_FY_FX, ne_FY_XFY, ne_FY_YFX, ne_FX_XFY, ne_FX_YFX, ne_XFY_YFX, Ne.symm ne_XFX_FY, Ne.symm ne_XFX_FX, Ne.symm ne_XFX_XFY, Ne.symm ne_XFX_YFX, Ne.symm ne_FY_FX, Ne.symm ne_FY_XFY, Ne.symm ne_FY_YFX, Ne.symm ne_FX_XFY, Ne.symm ne_FX_YFX, Ne.symm ne_XFY_YFX]
      have pre113 : ∀ t, Steps p.tables e below (T111.setTop (mkF m 81 #[.val (.int p1), .val (.int ((p1 &&& (2147483647 : Int32)) % (5 : Int32))), .val (.ref wXFY), .val (.int (0 : Int32))] [(.int (1 : Int32))])) t → Steps p.tables e below (s₁.setTop (entryFrame m #[(.int p1)] maxLocals)) t := fun t k => pre109 t (by
        show Steps p.tables e below (s₁.setTop (mkF m 22 #[.val (.int p1), .val (.int ((p1 &&& (2147483647 : Int32)) % (5 : Int32))), .unset, .unset] [(.int (1 : Int32)), (.int ((p1 &&& (2147483647 : Int32)) % (5 : Int32)))])) t
        refine XS.icmpNo X0.here hx rfl (hb hby at_22) rfl (teq hc108).2 ?_
        show Steps p.tables e below (s₁.setTop (mkF m 25 #[.val (.int p1), .val (.int ((p1 &&& (2147483647 : Int32)) % (5 : Int32))), .unset, .unset] [])) t
        refine st110 _ ?_
        show Steps p.tables e below (T110.setTop (mkF m 28 #[.val (.int p1), .val (.int ((p1 &&& (2147483647 : Int32)) % (5 : Int32))), .unset, .unset] [(.ref wXFY)])) t
        refine XS.astoreN X110.here hx rfl (hb hby at_28) rfl rfl (l' := #[.val (.int p1), .val (.int ((p1 &&& (2147483647 : Int32)) % (5 : Int32))), .val (.ref wXFY), .unset]) rfl ?_
        show Steps p.tables e below (T110.setTop (mkF m 29 #[.val (.int p1), .val (.int ((p1 &&& (2147483647 : Int32)) % (5 : Int32))), .val (.ref wXFY), .unset] [])) t
        refine XS.iconst X110.here hx rfl (hb hby at_29) ?_
        show Steps p.tables e below (T110.setTop (mkF m 30 #[.val (.int p1), .val (.int ((p1 &&& (2147483647 : Int32)) % (5 : Int32))), .val (.ref wXFY), .unset] [(.int (0 : Int32))])) t
        refine XS.istoreN X110.here hx rfl (hb hby at_30) rfl (l' := #[.val (.int p1), .val (.int ((p1 &&& (2147483647 : Int32)) % (5 : Int32))), .val (.ref wXFY), .val (.int (0 : Int32))]) rfl ?_
        show Steps p.tables e below (T110.setTop (mkF m 31 #[.val (.int p1), .val (.int ((p1 &&& (2147483647 : Int32)) % (5 : Int32))), .val (.ref wXFY), .val (.int (0 : Int32))] [])) t
        refine XS.goto X110.here hx rfl (pc0 := 31) (pc' := 68) rfl (hb hby at_31) (by decide) (by decide) ?_
        show Steps p.tables e below (T110.setTop (mkF m 68 #[.val (.int p1), .val (.int ((p1 &&& (2147483647 : Int32)) % (5 : Int32))), .val (.ref wXFY), .val (.int (0 : Int32))] [])) t
        refine XS.aloadN X110.here hx rfl (hb hby at_68) rfl rfl ?_
        show Steps p.tables e below (T110.setTop (mkF m 69 #[.val (.int p1), .val (.int ((p1 &&& (2147483647 : Int32)) % (5 : Int32))), .val (.ref wXFY), .val (.int (0 : Int32))] [(.ref wXFY)])) t
        refine st111.trans ?_
        show Steps p.tables e below (T111.setTop (mkF m 72 #[.val (.int p1), .val (.int ((p1 &&& (2147483647 : Int32)) % (5 : Int32))), .val (.ref wXFY), .val (.int (0 : Int32))] [(.int (own_pref wXFY wFY wFX))])) t
        refine XS.iloadN X111.here hx rfl (hb hby at_72) rfl ?_
        show Steps p.tables e below (T111.setTop (mkF m 73 #[.val (.int p1), .val (.int ((p1 &&& (2147483647 : Int32)) % (5 : Int32))), .val (.ref wXFY), .val (.int (0 : Int32))] [(.int (0 : Int32)), (.int (own_pref wXFY wFY wFX))])) t
        refine XS.icmpNo X111.here hx rfl (hb hby at_73) rfl (teq hd112).2 ?_
        show Steps p.tables e below (T111.setTop (mkF m 76 #[.val (.int p1), .val (.int ((p1 &&& (2147483647 : Int32)) % (5 : Int32))), .val (.ref wXFY), .val (.int (0 : Int32))] [])) t
        refine XS.iconst X111.here hx rfl (hb hby at_76) ?_
        show Steps p.tables e below (T111.setTop (mkF m 77 #[.val (.int p1), .val (.int ((p1 &&& (2147483647 : Int32)) % (5 : Int32))), .val (.ref wXFY), .val (.int (0 : Int32))] [(.int (1 : Int32))])) t
        refine XS.goto X111.here hx rfl (pc0 := 77) (pc' := 81) rfl (hb hby at_77) (by decide) (by decide) ?_
        exact k)
      obtain ⟨fs, hr, hrun, hended, hW, hsame⟩ := X111.leave (v := some (.int (1 : Int32))) (fun h => by rw [Bd.returns] at h; cases h)
      refine ⟨_, _, pre113 _ ?_, hrun, hended, _, _, rfl, ?_, ⟨_, rfl⟩, hW, hsame.mono (by decide) (by decide)⟩
      · exact retN X111 hx (t := .boolean) Bd.returns (by simp) (hb hby at_81) hr
      · show Q0 Z p1 wXFX wFY wFX wXFY wYFX h0 n0 _ T111.heap _
        rw [e111]
        exact ⟨rfl, N111⟩
    · have pre115 : ∀ t, Steps p.tables e below (s₁.setTop (mkF m 36 #[.val (.int p1), .val (.int ((p1 &&& (2147483647 : Int32)) % (5 : Int32))), .unset, .unset] [(.int (2 : Int32)), (.int ((p1 &&& (2147483647 : Int32)) % (5 : Int32)))])) t → Steps p.tables e below (s₁.setTop (entryFrame m #[(.int p1)] maxLocals)) t := fun t k => pre109 t (by
        show Steps p.tables e below (s₁.setTop (mkF m 22 #[.val (.int p1), .val (.int ((p1 &&& (2147483647 : Int32)) % (5 : Int32))), .unset, .unset] [(.int (1 : Int32)), (.int ((p1 &&& (2147483647 : Int32)) % (5 : Int32)))])) t
        refine XS.icmpYes X0.here hx rfl (pc0 := 22) (pc' := 34) rfl (hb hby at_22) rfl (feq hc108).2 (by decide) (by decide) ?_
        show Steps p.tables e below (s₁.setTop (mkF m 34 #[.val (.int p1), .val (.int ((p1 &&& (2147483647 : Int32)) % (5 : Int32))), .unset, .unset] [])) t
        refine XS.iloadN X0.here hx rfl (hb hby at_34) rfl ?_
        show Steps p.tables e below (s₁.setTop (mkF m 35 #[.val (.int p1), .val (.int ((p1 &&& (2147483647 : Int32)) % (5 : Int32))), .unset, .unset] [(.int ((p1 &&& (2147483647 : Int32)) % (5 : Int32)))])) t
        refine XS.iconst X0.here hx rfl (hb hby at_35) ?_
        exact k)
      by_cases hc114 : ((p1 &&& (2147483647 : Int32)) % (5 : Int32)) = (2 : Int32)
      · obtain ⟨T116, X116, e116, st116⟩ := getS2 X0 hx hZ hown (host := "") (Or.inl (own_i hw 17 rfl)) Via.refl e0 S_YFX (g := (mkF m 39 #[.val (.int p1), .val (.int ((p1 &&& (2147483647 : Int32)) % (5 : Int32))), .unset, .unset] [])) rfl (hb hby at_39)
        obtain ⟨cq117, kq117, q117a, q117b, q117c⟩ := isOf hZ e116 E_YFX
        obtain ⟨_, _, ⟨T117, L117, k117, n117⟩, -, X117, ⟨Lc117, hQ117, l117, y117, z117⟩, st117⟩ := X116.virtualBack hx (y := (⟨"com/example/libsld/libsld/Operators$Type", "isPrefix", "()Z"⟩ : MethodName)) (z := (⟨"com/example/libsld/libsld/Operators$Type", "isPrefix", "()Z"⟩ : MethodName)) hown (mvT hZ (own_i hw 4 rfl)) (mvT hZ (own_i hw 5 rfl)) (notFace_of_selects (args := #[]) (mvT hZ (own_i hw 7 rfl))) (mvT hZ (own_i hw 7 rfl)) (mvT hZ (own_i hw 6 rfl)) (by decide) (backOf (W := 0) (rm1 l Z a0 hw [] wYFX wFY wFX h0 n0 Z0 S_FY S_FX) hZ (own_i hw 8 rfl) (own_i hw 2 rfl) (by decide) (by decide)) q117a q117c (g := (mkF m 69 #[.val (.int p1), .val (.int ((p1 &&& (2147483647 : Int32)) % (5 : Int32))), .val (.ref wYFX), .val (.int (0 : Int32))] [(.ref wYFX)])) rfl (by rw [hml]; rfl) (Steps.refl _) (argsL := []) (rest := []) (lenOf pd_0 rfl) rfl (by show 2 * 0 + _ ≤ _; exact Nat.le_of_eq rfl) (hb hby at_69) (fun _ _ => ⟨rfl, e116, (by decide : 0 + 0 ≤ _), (by decide : 0 + 0 ≤ _)⟩)
        dsimp only [Pt.U, Pt.locs, Pt.cells, Pt.slots] at X117 l117 y117 z117 st117 hQ117
        subst l117 y117 z117
        obtain ⟨rfl, N117q, e117⟩ := hQ117
        have N117 := Fr.app N0 N117q
        have hd118 : (own_pref wYFX wFY wFX) = (0 : Int32) := by simp [own_pref, ne_XFX_FY, ne_XFX_FX, ne_XFX_XFY, ne_XFX_YFX, ne_FY_FX, ne_FY_XFY, ne_FY_YFX, ne_FX_XFY, ne_FX_YFX, ne_XFY_YFX, Ne.symm ne_XFX_FY, Ne.symm ne_XFX_FX, Ne.symm ne_XFX_XFY, Ne.symm ne_XFX_YFX, Ne.symm ne_FY_FX, Ne.symm ne_FY_XFY, Ne.symm ne_FY_YFX, Ne.symm ne_FX_XFY, Ne.symm ne_FX_YFX, Ne.symm ne_XFY_YFX]
        have pre119 : ∀ t, Steps p.tables e below (T117.setTop (mkF m 81 #[.val (.int p1), .val (.int ((p1 &&& (2147483647 : Int32)) % (5 : Int32))), .val (.ref wYFX), .val (.int (0 : Int32))] [(.int (1 : Int32))])) t → Steps p.tables e below (s₁.setTop (entryFrame m #[(.int p1)] maxLocals)) t := fun t k => pre115 t (by
          show Steps p.tables e below (s₁.setTop (mkF m 36 #[.val (.int p1), .val (.int ((p1 &&& (2147483647 : Int32)) % (5 : Int32))), .unset, .unset] [(.int (2 : Int32)), (.int ((p1 &&& (2147483647 : Int32)) % (5 : Int32)))])) t
          refine XS.icmpNo X0.here hx rfl (hb hby at_36) rfl (teq hc114).2 ?_
          show Steps p.tables e below (s₁.setTop (mkF m 39 #[.val (.int p1), .val (.int ((p1 &&& (2147483647 : Int32)) % (5 : Int32))), .unset, .unset] [])) t
          refine st116 _ ?_
          show Steps p.tables e below (T116.setTop (mkF m 42 #[.val (.int p1), .val (.int ((p1 &&& (2147483647 : Int32)) % (5 : Int32))), .unset, .unset] [(.ref wYFX)])) t
          refine XS.astoreN X116.here hx rfl (hb hby at_42) rfl rfl (l' := #[.val (.int p1), .val (.int ((p1 &&& (2147483647 : Int32)) % (5 : Int32))), .val (.ref wYFX), .unset]) rfl ?_
          show Steps p.tables e below (T116.setTop (mkF m 43 #[.val (.int p1), .val (.int ((p1 &&& (2147483647 : Int32)) % (5 : Int32))), .val (.ref wYFX), .unset] [])) t
          refine XS.iconst X116.here hx rfl (hb hby at_43) ?_
          show Steps p.tables e below (T116.setTop (mkF m 44 #[.val (.int p1), .val (.int ((p1 &&& (2147483647 : Int32)) % (5 : Int32))), .val (.ref wYFX), .unset] [(.int (0 : Int32))])) t
          refine XS.istoreN X116.here hx rfl (hb hby at_44) rfl (l' := #[.val (.int p1), .val (.int ((p1 &&& (2147483647 : Int32)) % (5 : Int32))), .val (.ref wYFX), .val (.int (0 : Int32))]) rfl ?_
          show Steps p.tables e below (T116.setTop (mkF m 45 #[.val (.int p1), .val (.int ((p1 &&& (2147483647 : Int32)) % (5 : Int32))), .val (.ref wYFX), .val (.int (0 : Int32))] [])) t
          refine XS.goto X116.here hx rfl (pc0 := 45) (pc' := 68) rfl (hb hby at_45) (by decide) (by decide) ?_
          show Steps p.tables e below (T116.setTop (mkF m 68 #[.val (.int p1), .val (.int ((p1 &&& (2147483647 : Int32)) % (5 : Int32))), .val (.ref wYFX), .val (.int (0 : Int32))] [])) t
          refine XS.aloadN X116.here hx rfl (hb hby at_68) rfl rfl ?_
          show Steps p.tables e below (T116.setTop (mkF m 69 #[.val (.int p1), .val (.int ((p1 &&& (2147483647 : Int32)) % (5 : Int32))), .val (.ref wYFX), .val (.int (0 : Int32))] [(.ref wYFX)])) t
          refine st117.trans ?_
          show Steps p.tables e below (T117.setTop (mkF m 72 #[.val (.int p1), .val (.int ((p1 &&& (2147483647 : Int32)) % (5 : Int32))), .val (.ref wYFX), .val (.int (0 : Int32))] [(.int (own_pref wYFX wFY wFX))])) t
          refine XS.iloadN X117.here hx rfl (hb hby at_72) rfl ?_
          show Steps p.tables e below (T117.setTop (mkF m 73 #[.val (.int p1), .val (.int ((p1 &&& (2147483647 : Int32)) % (5 : Int32))), .val (.ref wYFX), .val (.int (0 : Int32))] [(.int (0 : Int32)), (.int (own_pref wYFX wFY wFX))])) t
          refine XS.icmpNo X117.here hx rfl (hb hby at_73) rfl (teq hd118).2 ?_
          show Steps p.tables e below (T117.setTop (mkF m 76 #[.val (.int p1), .val (.int ((p1 &&& (2147483647 : Int32)) % (5 : Int32))), .val (.ref wYFX), .val (.int (0 : Int32))] [])) t
          refine XS.iconst X117.here hx rfl (hb hby at_76) ?_
          show Steps p.tables e below (T117.setTop (mkF m 77 #[.val (.int p1), .val (.int ((p1 &&& (2147483647 : Int32)) % (5 : Int32))), .val (.ref wYFX), .val (.int (0 : Int32))] [(.int (1 : Int32))])) t
          refine XS.goto X117.here hx rfl (pc0 := 77) (pc' := 81) rfl (hb hby at_77) (by decide) (by decide) ?_
          exact k)
        obtain ⟨fs, hr, hrun, hended, hW, hsame⟩ := X117.leave (v := some (.int (1 : Int32))) (fun h => by rw [Bd.returns] at h; cases h)
        refine ⟨_, _, pre119 _ ?_, hrun, hended, _, _, rfl, ?_, ⟨_, rfl⟩, hW, hsame.mono (by decide) (by decide)⟩
        · exact retN X117 hx (t := .boolean) Bd.returns (by simp) (hb hby at_81) hr
        · show Q0 Z p1 wXFX wFY wFX wXFY wYFX h0 n0 _ T117.heap _
          rw [e117]
          exact ⟨rfl, N117⟩
      · have pre121 : ∀ t, Steps p.tables e below (s₁.setTop (mkF m 50 #[.val (.int p1), .val (.int ((p1 &&& (2147483647 : Int32)) % (5 : Int32))), .unset, .unset] [(.int (3 : Int32)), (.int ((p1 &&& (2147483647 : Int32)) % (5 : Int32)))])) t → Steps p.tables e below (s₁.setTop (entryFrame m #[(.int p1)] maxLocals)) t := fun t k => pre115 t (by
          show Steps p.tables e below (s₁.setTop (mkF m 36 #[.val (.int p1), .val (.int ((p1 &&& (2147483647 : Int32)) % (5 : Int32))), .unset, .unset] [(.int (2 : Int32)), (.int ((p1 &&& (2147483647 : Int32)) % (5 : Int32)))])) t
          refine XS.icmpYes X0.here hx rfl (pc0 := 36) (pc' := 48) rfl (hb hby at_36) rfl (feq hc114).2 (by decide) (by decide) ?_
          show Steps p.tables e below (s₁.setTop (mkF m 48 #[.val (.int p1), .val (.int ((p1 &&& (2147483647 : Int32)) % (5 : Int32))), .unset, .unset] [])) t
          refine XS.iloadN X0.here hx rfl (hb hby at_48) rfl ?_
          show Steps p.tables e below (s₁.setTop (mkF m 49 #[.val (.int p1), .val (.int ((p1 &&& (2147483647 : Int32)) % (5 : Int32))), .unset, .unset] [(.int ((p1 &&& (2147483647 : Int32)) % (5 : Int32)))])) t
          refine XS.iconst X0.here hx rfl (hb hby at_49) ?_
          exact k)
        by_cases hc120 : ((p1 &&& (2147483647 : Int32)) % (5 : Int32)) = (3 : Int32)
        · obtain ⟨T122, X122, e122, st122⟩ := getS2 X0 hx hZ hown (host := "") (Or.inl (own_i hw 13 rfl)) Via.refl e0 S_FY (g := (mkF m 53 #[.val (.int p1), .val (.int ((p1 &&& (2147483647 : Int32)) % (5 : Int32))), .unset, .unset] [])) rfl (hb hby at_53)
          obtain ⟨cq123, kq123, q123a, q123b, q123c⟩ := isOf hZ e122 E_FY
          obtain ⟨_, _, ⟨T123, L123, k123, n123⟩, -, X123, ⟨Lc123, hQ123, l123, y123, z123⟩, st123⟩ := X122.virtualBack hx (y := (⟨"com/example/libsld/libsld/Operators$Type", "isPrefix", "()Z"⟩ : MethodName)) (z := (⟨"com/example/libsld/libsld/Operators$Type", "isPrefix", "()Z"⟩ : MethodName)) hown (mvT hZ (own_i hw 4 rfl)) (mvT hZ (own_i hw 5 rfl)) (notFace_of_selects (args := #[]) (mvT hZ (own_i hw 7 rfl))) (mvT hZ (own_i hw 7 rfl)) (mvT hZ (own_i hw 6 rfl)) (by decide) (backOf (W := 0) (rm1 l Z a0 hw [] wFY wFY wFX h0 n0 Z0 S_FY S_FX) hZ (own_i hw 8 rfl) (own_i hw 2 rfl) (by decide) (by decide)) q123a q123c (g := (mkF m 69 #[.val (.int p1), .val (.int ((p1 &&& (2147483647 : Int32)) % (5 : Int32))), .val (.ref wFY), .val (.int (1 : Int32))] [(.ref wFY)])) rfl (by rw [hml]; rfl) (Steps.refl _) (argsL := []) (rest := []) (lenOf pd_0 rfl) rfl (by show 2 * 0 + _ ≤ _; exact Nat.le_of_eq rfl) (hb hby at_69) (fun _ _ => ⟨rfl, e122, (by decide : 0 + 0 ≤ _), (by decide : 0 + 0 ≤ _)⟩)
          dsimp only [Pt.U, Pt.locs, Pt.cells, Pt.slots] at X123 l123 y123 z123 st123 hQ123
          subst l123 y123 z123
          obtain ⟨rfl, N123q, e123⟩ := hQ123
          have N123 := Fr.app N0 N123q
          have hd124 : (own_pref wFY wFY wFX) = (1 : Int32) := by simp [own_pref, ne_XFX_FY, ne_XFX_FX, ne_XFX_XFY, ne_XFX_YFX, ne_FY_FX, ne_FY_XFY, ne_FY_YFX, ne_FX_XFY, ne_FX_YFX, ne_XFY_YFX, Ne.symm ne_XFX_FY, Ne.symm ne_XFX_FX, Ne.symm ne_XFX_XFY, Ne.symm ne_XFX_YFX, Ne.symm ne_FY_FX, Ne.symm ne_FY_XFY, Ne.symm ne_FY_YFX, Ne.symm ne_FX_XFY, Ne.symm ne_FX_YFX, Ne.symm ne_XFY_YFX]
          have pre125 : ∀ t, Steps p.tables e below (T123.setTop (mkF m 81 #[.val (.int p1), .val (.int ((p1 &&& (2147483647 : Int32)) % (5 : Int32))), .val (.ref wFY), .val (.int (1 : Int32))] [(.int (1 : Int32))])) t → Steps p.tables e below (s₁.setTop (entryFrame m #[(.int p1)] maxLocals)) t := fun t k => pre121 t (by
            show Steps p.tables e below (s₁.setTop (mkF m 50 #[.val (.int p1), .val (.int ((p1 &&& (2147483647 : Int32)) % (5 : Int32))), .unset, .unset] [(.int (3 : Int32)), (.int ((p1 &&& (2147483647 : Int32)) % (5 : Int32)))])) t
            refine XS.icmpNo X0.here hx rfl (hb hby at_50) rfl (teq hc120).2 ?_
            show Steps p.tables e below (s₁.setTop (mkF m 53 #[.val (.int p1), .val (.int ((p1 &&& (2147483647 : Int32)) % (5 : Int32))), .unset, .unset] [])) t
            refine st122 _ ?_
            show Steps p.tables e below (T122.setTop (mkF m 56 #[.val (.int p1), .val (.int ((p1 &&& (2147483647 : Int32)) % (5 : Int32))), .unset, .unset] [(.ref wFY)])) t
            refine XS.astoreN X122.here hx rfl (hb hby at_56) rfl rfl (l' := #[.val (.int p1), .val (.int ((p1 &&& (2147483647 : Int32)) % (5 : Int32))), .val (.ref wFY), .unset]) rfl ?_
            show Steps p.tables e below (T122.setTop (mkF m 57 #[.val (.int p1), .val (.int ((p1 &&& (2147483647 : Int32)) % (5 : Int32))), .val (.ref wFY), .unset] [])) t
            refine XS.iconst X122.here hx rfl (hb hby at_57) ?_
            show Steps p.tables e below (T122.setTop (mkF m 58 #[.val (.int p1), .val (.int ((p1 &&& (2147483647 : Int32)) % (5 : Int32))), .val (.ref wFY), .unset] [(.int (1 : Int32))])) t
            refine XS.istoreN X122.here hx rfl (hb hby at_58) rfl (l' := #[.val (.int p1), .val (.int ((p1 &&& (2147483647 : Int32)) % (5 : Int32))), .val (.ref wFY), .val (.int (1 : Int32))]) rfl ?_
            show Steps p.tables e below (T122.setTop (mkF m 59 #[.val (.int p1), .val (.int ((p1 &&& (2147483647 : Int32)) % (5 : Int32))), .val (.ref wFY), .val (.int (1 : Int32))] [])) t
            refine XS.goto X122.here hx rfl (pc0 := 59) (pc' := 68) rfl (hb hby at_59) (by decide) (by decide) ?_
            show Steps p.tables e below (T122.setTop (mkF m 68 #[.val (.int p1), .val (.int ((p1 &&& (2147483647 : Int32)) % (5 : Int32))), .val (.ref wFY), .val (.int (1 : Int32))] [])) t
            refine XS.aloadN X122.here hx rfl (hb hby at_68) rfl rfl ?_
            show Steps p.tables e below (T122.setTop (mkF m 69 #[.val (.int p1), .val (.int ((p1 &&& (2147483647 : Int32)) % (5 : Int32))), .val (.ref wFY), .val (.int (1 : Int32))] [(.ref wFY)])) t
            refine st123.trans ?_
            show Steps p.tables e below (T123.setTop (mkF m 72 #[.val (.int p1), .val (.int ((p1 &&& (2147483647 : Int32)) % (5 : Int32))), .val (.ref wFY), .val (.int (1 : Int32))] [(.int (own_pref wFY wFY wFX))])) t
            refine XS.iloadN X123.here hx rfl (hb hby at_72) rfl ?_
            show Steps p.tables e below (T123.setTop (mkF m 73 #[.val (.int p1), .val (.int ((p1 &&& (2147483647 : Int32)) % (5 : Int32))), .val (.ref wFY), .val (.int (1 : Int32))] [(.int (1 : Int32)), (.int (own_pref wFY wFY wFX))])) t
            refine XS.icmpNo X123.here hx rfl (hb hby at_73) rfl (teq hd124).2 ?_
            show Steps p.tables e below (T123.setTop (mkF m 76 #[.val (.int p1), .val (.int ((p1 &&& (2147483647 : Int32)) % (5 : Int32))), .val (.ref wFY), .val (.int (1 : Int32))] [])) t
            refine XS.iconst X123.here hx rfl (hb hby at_76) ?_
            show Steps p.tables e below (T123.setTop (mkF m 77 #[.val (.int p1), .val (.int ((p1 &&& (2147483647 : Int32)) % (5 : Int32))), .val (.ref wFY), .val (.int (1 : Int32))] [(.int (1 : Int32))])) t
            refine XS.goto X123.here hx rfl (pc0 := 77) (pc' := 81) rfl (hb hby at_77) (by decide) (by decide) ?_
            exact k)
          obtain ⟨fs, hr, hrun, hended, hW, hsame⟩ := X123.leave (v := some (.int (1 : Int32))) (fun h => by rw [Bd.returns] at h; cases h)
          refine ⟨_, _, pre125 _ ?_, hrun, hended, _, _, rfl, ?_, ⟨_, rfl⟩, hW, hsame.mono (by decide) (by decide)⟩
          · exact retN X123 hx (t := .boolean) Bd.returns (by simp) (hb hby at_81) hr
          · show Q0 Z p1 wXFX wFY wFX wXFY wYFX h0 n0 _ T123.heap _
            rw [e123]
            exact ⟨rfl, N123⟩
        · obtain ⟨T126, X126, e126, st126⟩ := getS2 X0 hx hZ hown (host := "") (Or.inl (own_i hw 16 rfl)) Via.refl e0 S_FX (g := (mkF m 62 #[.val (.int p1), .val (.int ((p1 &&& (2147483647 : Int32)) % (5 : Int32))), .unset, .unset] [])) rfl (hb hby at_62)
          obtain ⟨cq127, kq127, q127a, q127b, q127c⟩ := isOf hZ e126 E_FX
          obtain ⟨_, _, ⟨T127, L127, k127, n127⟩, -, X127, ⟨Lc127, hQ127, l127, y127, z127⟩, st127⟩ := X126.virtualBack hx (y := (⟨"com/example/libsld/libsld/Operators$Type", "isPrefix", "()Z"⟩ : MethodName)) (z := (⟨"com/example/libsld/libsld/Operators$Type", "isPrefix", "()Z"⟩ : MethodName)) hown (mvT hZ (own_i hw 4 rfl)) (mvT hZ (own_i hw 5 rfl)) (notFace_of_selects (args := #[]) (mvT hZ (own_i hw 7 rfl))) (mvT hZ (own_i hw 7 rfl)) (mvT hZ (own_i hw 6 rfl)) (by decide) (backOf (W := 0) (rm1 l Z a0 hw [] wFX wFY wFX h0 n0 Z0 S_FY S_FX) hZ (own_i hw 8 rfl) (own_i hw 2 rfl) (by decide) (by decide)) q127a q127c (g := (mkF m 69 #[.val (.int p1), .val (.int ((p1 &&& (2147483647 : Int32)) % (5 : Int32))), .val (.ref wFX), .val (.int (1 : Int32))] [(.ref wFX)])) rfl (by rw [hml]; rfl) (Steps.refl _) (argsL := []) (rest := []) (lenOf pd_0 rfl) rfl (by show 2 * 0 + _ ≤ _; exact Nat.le_of_eq rfl) (hb hby at_69) (fun _ _ => ⟨rfl, e126, (by decide : 0 + 0 ≤ _), (by decide : 0 + 0 ≤ _)⟩)
          dsimp only [Pt.U, Pt.locs, Pt.cells, Pt.slots] at X127 l127 y127 z127 st127 hQ127
          subst l127 y127 z127
          obtain ⟨rfl, N127q, e127⟩ := hQ127
          have N127 := Fr.app N0 N127q
          have hd128 : (own_pref wFX wFY wFX) = (1 : Int32) := by simp [own_pref, ne_XFX_FY, ne_XFX_FX, ne_XFX_XFY, ne_XFX_YFX, ne_FY_FX, ne_FY_XFY, ne_FY_YFX, ne_FX_XFY, ne_FX_YFX, ne_XFY_YFX, Ne.symm ne_XFX_FY, Ne.symm ne_XFX_FX, Ne.symm ne_XFX_XFY, Ne.symm ne_XFX_YFX, Ne.symm ne_FY_FX, Ne.symm ne_FY_XFY, Ne.symm ne_FY_YFX, Ne.symm ne_FX_XFY, Ne.symm ne_FX_YFX, Ne.symm ne_XFY_YFX]
          have pre129 : ∀ t, Steps p.tables e below (T127.setTop (mkF m 81 #[.val (.int p1), .val (.int ((p1 &&& (2147483647 : Int32)) % (5 : Int32))), .val (.ref wFX), .val (.int (1 : Int32))] [(.int (1 : Int32))])) t → Steps p.tables e below (s₁.setTop (entryFrame m #[(.int p1)] maxLocals)) t := fun t k => pre121 t (by
            show Steps p.tables e below (s₁.setTop (mkF m 50 #[.val (.int p1), .val (.int ((p1 &&& (2147483647 : Int32)) % (5 : Int32))), .unset, .unset] [(.int (3 : Int32)), (.int ((p1 &&& (2147483647 : Int32)) % (5 : Int32)))])) t
            refine XS.icmpYes X0.here hx rfl (pc0 := 50) (pc' := 62) rfl (hb hby at_50) rfl (feq hc120).2 (by decide) (by decide) ?_
            show Steps p.tables e below (s₁.setTop (mkF m 62 #[.val (.int p1), .val (.int ((p1 &&& (2147483647 : Int32)) % (5 : Int32))), .unset, .unset] [])) t
            refine st126 _ ?_
            show Steps p.tables e below (T126.setTop (mkF m 65 #[.val (.int p1), .val (.int ((p1 &&& (2147483647 : Int32)) % (5 : Int32))), .unset, .unset] [(.ref wFX)])) t
            refine XS.astoreN X126.here hx rfl (hb hby at_65) rfl rfl (l' := #[.val (.int p1), .val (.int ((p1 &&& (2147483647 : Int32)) % (5 : Int32))), .val (.ref wFX), .unset]) rfl ?_
            show Steps p.tables e below (T126.setTop (mkF m 66 #[.val (.int p1), .val (.int ((p1 &&& (2147483647 : Int32)) % (5 : Int32))), .val (.ref wFX), .unset] [])) t
            refine XS.iconst X126.here hx rfl (hb hby at_66) ?_
            show Steps p.tables e below (T126.setTop (mkF m 67 #[.val (.int p1), .val (.int ((p1 &&& (2147483647 : Int32)) % (5 : Int32))), .val (.ref wFX), .unset] [(.int (1 : Int32))])) t
            refine XS.istoreN X126.here hx rfl (hb hby at_67) rfl (l' := #[.val (.int p1), .val (.int ((p1 &&& (2147483647 : Int32)) % (5 : Int32))), .val (.ref wFX), .val (.int (1 : Int32))]) rfl ?_
            show Steps p.tables e below (T126.setTop (mkF m 68 #[.val (.int p1), .val (.int ((p1 &&& (2147483647 : Int32)) % (5 : Int32))), .val (.ref wFX), .val (.int (1 : Int32))] [])) t
            refine XS.aloadN X126.here hx rfl (hb hby at_68) rfl rfl ?_
            show Steps p.tables e below (T126.setTop (mkF m 69 #[.val (.int p1), .val (.int ((p1 &&& (2147483647 : Int32)) % (5 : Int32))), .val (.ref wFX), .val (.int (1 : Int32))] [(.ref wFX)])) t
            refine st127.trans ?_
            show Steps p.tables e below (T127.setTop (mkF m 72 #[.val (.int p1), .val (.int ((p1 &&& (2147483647 : Int32)) % (5 : Int32))), .val (.ref wFX), .val (.int (1 : Int32))] [(.int (own_pref wFX wFY wFX))])) t
            refine XS.iloadN X127.here hx rfl (hb hby at_72) rfl ?_
            show Steps p.tables e below (T127.setTop (mkF m 73 #[.val (.int p1), .val (.int ((p1 &&& (2147483647 : Int32)) % (5 : Int32))), .val (.ref wFX), .val (.int (1 : Int32))] [(.int (1 : Int32)), (.int (own_pref wFX wFY wFX))])) t
            refine XS.icmpNo X127.here hx rfl (hb hby at_73) rfl (teq hd128).2 ?_
            show Steps p.tables e below (T127.setTop (mkF m 76 #[.val (.int p1), .val (.int ((p1 &&& (2147483647 : Int32)) % (5 : Int32))), .val (.ref wFX), .val (.int (1 : Int32))] [])) t
            refine XS.iconst X127.here hx rfl (hb hby at_76) ?_
            show Steps p.tables e below (T127.setTop (mkF m 77 #[.val (.int p1), .val (.int ((p1 &&& (2147483647 : Int32)) % (5 : Int32))), .val (.ref wFX), .val (.int (1 : Int32))] [(.int (1 : Int32))])) t
            refine XS.goto X127.here hx rfl (pc0 := 77) (pc' := 81) rfl (hb hby at_77) (by decide) (by decide) ?_
            exact k)
          obtain ⟨fs, hr, hrun, hended, hW, hsame⟩ := X127.leave (v := some (.int (1 : Int32))) (fun h => by rw [Bd.returns] at h; cases h)
          refine ⟨_, _, pre129 _ ?_, hrun, hended, _, _, rfl, ?_, ⟨_, rfl⟩, hW, hsame.mono (by decide) (by decide)⟩
          · exact retN X127 hx (t := .boolean) Bd.returns (by simp) (hb hby at_81) hr
          · show Q0 Z p1 wXFX wFY wFX wXFY wYFX h0 n0 _ T127.heap _
            rw [e127]
            exact ⟨rfl, N127⟩
set_option maxRecDepth 65536 in
set_option maxHeartbeats 40000000 in
theorem comes_1 {Post : Tables → Env → Array Value → State → Outcome → State → Prop} (hpost : ∀ tb e args s v u, (limb_1_1.after args s (.returned v) u = true ∧ limb_1_2.after args s (.returned v) u = true ∧ True) → FrameEnd s (.returned v) u (Jvm.fieldLocs frame_1_writes args s ++ Jvm.arrayLocs frame_1_arrays args s ++ Jvm.staticLocs frame_1_statics s) 0 0 → Post tb e args s (.returned v) u) :
    ArmFor flags0 classFile x code maxLocals ret World_1 tables_1 room_1 Calls_1 rest_1 Pre_1 Post := by
  intro l hfl _ _ p e ha hc hk s m args below hf hA hF happ hP
  obtain ⟨hcalls, hrest, hpre⟩ := hP
  obtain ⟨-, -, -, hnamed, -, -, -, hat⟩ := (Spec.applies_iff hf).mp happ
  obtain ⟨hg, hn⟩ := and_e (Cond.before_iff.mp (show (Jvm.Cond.and given_1 narrow_1).before args s = true from hpre))
  obtain ⟨hga, hgb⟩ := and_e hg
  obtain ⟨w0, rfl⟩ : ∃ w0 : Value, args = #[w0] := by
    have hs : args.size = 1 := by simpa [Cond.value, given_1] using hga
    obtain ⟨L⟩ := args
    match L, hs with
    | [w0], _ => exact ⟨w0, rfl⟩
  have hw := fun d (hd : d ∈ tables_1) => atoms_spec (ws := Jvm.Cond.code x code maxLocals ret :: tables_1) hat d (List.mem_cons_of_mem _ hd)
  have hfit : Fit s := fun {y c} hc i hi => by
    obtain ⟨ha, rfl⟩ := Array.getElem?_eq_some_iff.mp hc
    have q := List.all_eq_true.mp ((Array.all_eq_true_iff_forall_mem.mp hF) _ (Array.getElem_mem ha)) i (List.mem_range.mpr hi)
    simpa [Array.getElem?_eq_getElem hi] using q
  obtain ⟨i0, ev0⟩ := is_v hgb
  obtain rfl : w0 = (.int i0) := Option.some.inj ev0
  obtain ⟨hna, hnb⟩ := and_e hn
  obtain ⟨hnba, hnbb⟩ := and_e hnb
  obtain ⟨hnbba, hnbbb⟩ := and_e hnbb
  obtain ⟨hnbbba, hnbbbb⟩ := and_e hnbbb
  obtain ⟨hnbbbba, hnbbbbb⟩ := and_e hnbbbb
  obtain ⟨hnbbbbba, hnbbbbbb⟩ := and_e hnbbbbb
  obtain ⟨hnbbbbbba, hnbbbbbbb⟩ := and_e hnbbbbbb
  obtain ⟨hnbbbbbbba, hnbbbbbbbb⟩ := and_e hnbbbbbbb
  obtain ⟨hnbbbbbbbba, hnbbbbbbbbb⟩ := and_e hnbbbbbbbb
  obtain ⟨wXFX, ev_XFX, S_XFX, E_XFX⟩ := own_static hna (own_i hw 2 rfl) (own_i hw 3 rfl)
  obtain ⟨wFY, ev_FY, S_FY, E_FY⟩ := own_static hnba (own_i hw 2 rfl) (own_i hw 10 rfl)
  obtain ⟨wFX, ev_FX, S_FX, E_FX⟩ := own_static hnbbbba (own_i hw 2 rfl) (own_i hw 12 rfl)
  obtain ⟨wXFY, ev_XFY, S_XFY, E_XFY⟩ := own_static hnbbbbbba (own_i hw 2 rfl) (own_i hw 15 rfl)
  obtain ⟨wYFX, ev_YFX, S_YFX, E_YFX⟩ := own_static hnbbbbbbbba (own_i hw 2 rfl) (own_i hw 18 rfl)
  have O0_XFX := own_fieldI ev_XFX hnbba
  have O1_FY := own_fieldI ev_FY hnbbba
  have O2_FX := own_fieldI ev_FX hnbbbbba
  have O3_XFY := own_fieldI ev_XFY hnbbbbbbba
  have O4_YFX := own_fieldI ev_YFX hnbbbbbbbbb
  have ne_XFX_FY : wXFX ≠ wFY := Fld.ne O0_XFX O1_FY (by decide)
  have ne_XFX_FX : wXFX ≠ wFX := Fld.ne O0_XFX O2_FX (by decide)
  have ne_XFX_XFY : wXFX ≠ wXFY := Fld.ne O0_XFX O3_XFY (by decide)
  have ne_XFX_YFX : wXFX ≠ wYFX := Fld.ne O0_XFX O4_YFX (by decide)
  have ne_FY_FX : wFY ≠ wFX := Fld.ne O1_FY O2_FX (by decide)
  have ne_FY_XFY : wFY ≠ wXFY := Fld.ne O1_FY O3_XFY (by decide)
  have ne_FY_YFX : wFY ≠ wYFX := Fld.ne O1_FY O4_YFX (by decide)
  have ne_FX_XFY : wFX ≠ wXFY := Fld.ne O2_FX O3_XFY (by decide)
  have ne_FX_YFX : wFX ≠ wYFX := Fld.ne O2_FX O4_YFX (by decide)
  have ne_XFY_YFX : wXFY ≠ wYFX := Fld.ne O3_XFY O4_YFX (by decide)
  obtain ⟨n, o, h1, h2, h3, _, L, rfl, ⟨rfl, N⟩, hq⟩ := rm0 l s _ hw tables_1 i0 wXFX wFY wFX wXFY wYFX s.heap s.heap.size (Nat.le_refl _) S_XFX E_XFX S_FY E_FY S_FX E_FX S_XFY E_XFY S_YFX E_YFX O0_XFX O1_FY O2_FX O3_XFY O4_YFX ne_XFX_FY ne_XFX_FX ne_XFX_XFY ne_XFX_YFX ne_FY_FX ne_FY_XFY ne_FY_YFX ne_FX_XFY ne_FX_YFX ne_XFY_YFX p e ha hc hk s m _ below hf ((Spec.applies_iff_loose hf).mp happ).1 ⟨rfl, State.Warmed39.refl s, rfl⟩ trivial
  refine ⟨n, _, h1, h2, h3, hpost _ _ _ _ _ _ ⟨Cond.after_iff.mpr rfl, Cond.after_iff.mpr (eq_i res_at (Term.int_eval (1)) rfl), trivial⟩ ⟨hq.1, hq.2.1, (hq.2.2.sift fun y hy => Or.inr (N y hy)).mono (by decide) (by decide)⟩⟩
theorem main_1_1 : Claimed_1_1 := comes_1 fun _ _ _ _ _ _ h hF => ⟨h.1, hF⟩
theorem main_1_2 : Claimed_1_2 := comes_1 fun _ _ _ _ _ _ h hF => ⟨h.2.1, hF⟩
end Jvm.Pilot.@@N@@
namespace Jvm.Pilot.@@N@@
open Jvm Jvm.ClassFile Sem Op Lib Jvm.Free Jvm.Stand Jvm.Pilot.@@N@@.Jvm.D
/-! MADE BY PROGRAM (witnessworld.py) out of the Statement's table words and the real class files: 12 classes; the members and pool entries that the words name. The judged class is class 1, her method 1. -/
namespace start1
open Jvm.ClassFile
def u (s : String) : CpInfo := .utf8 (stringToUtf16 s)
/-- a pool by its gaps: so many unusable entries, then the entry; so many at the end -/
def gap : Nat → List CpInfo → List CpInfo
  | 0, r => r
  | n + 1, r => .unusable :: gap n r
def poolList (es : List (Nat × CpInfo)) (last : Nat) : List CpInfo := es.foldr (fun e r => gap e.1 (e.2 :: r)) (gap last [])
def pool (es : List (Nat × CpInfo)) (last : Nat) : Array CpInfo := ⟨poolList es last⟩
def fileOf (pool : Array CpInfo) (this : Nat) (attrs : Array Attribute := #[]) (ms : Array MethodInfo := #[]) (fl : Nat := 33) (sup : Nat := 0) (ifs : Array Nat := #[]) (fds : Array FieldInfo := #[]) : ClassFile where
  minorVersion := 0
  majorVersion := 65
  constantPool := pool
  accessFlags := fl
  thisClass := this
  superClass := sup
  interfaces := ifs
  fields := fds
  methods := ms
  attributes := attrs
def plain (name : String) (sup : Option ClassId) : Class where
  name := name
  kind := .ordinary
  loader := none
  accessFlags := 33
  super := sup
  interfaces := #[]
  cf := none
  fields := #[]
  methods := #[]
  instanceTypes := #[]
  staticTypes := #[]
  resolved := #[]
  callSites := []
  init := .initialized
  statics := none
  mirror := none

def pool0 : Array CpInfo := pool [(5, u "<init>"), (0, u "()V"), (1, .class_ 10), (1, u "java/lang/Object")] 113

def k0m0 : Method := { name := "<init>", desc := "()V", sig := { parameters := [], returnType := none }, accessFlags := 1, code := none }
/-- java/lang/Object -/
def k0 : Class := { plain "java/lang/Object" none with
  accessFlags := 33
  interfaces := #[]
  cf := some (fileOf pool0 8 #[] #[{ accessFlags := 1, nameIndex := 5, descriptorIndex := 6, attributes := #[] }] 33 0 #[] #[])
  fields := #[]
  methods := #[k0m0]
  instanceTypes := #[]
  staticTypes := #[]
  resolved := Array.replicate 124 none
  statics := none }

def pool1 : Array CpInfo := pool [(2, .class_ 4), (1, u "java/lang/Object"), (0, u "<init>"), (0, u "()V"), (0, .integer 2147483647), (0, .fieldref 9 10), (0, .class_ 11), (0, .nameAndType 12 13), (0, u "com/example/libsld/libsld/Operators$Type"), (0, u "XFX"), (0, u "Lcom/example/libsld/libsld/Operators$Type;"), (0, .fieldref 9 15), (0, .nameAndType 16 13), (0, u "XFY"), (0, .fieldref 9 18), (0, .nameAndType 19 13), (0, u "YFX"), (0, .fieldref 9 21), (0, .nameAndType 22 13), (0, u "FY"), (0, .fieldref 9 24), (0, .nameAndType 25 13), (0, u "FX"), (0, .methodref 9 27), (0, .nameAndType 28 29), (0, u "isPrefix"), (0, u "()Z"), (0, .class_ 31), (0, u "com/example/libsld/libsld/TypeIsPrefixPinLaw"), (2, u "law"), (0, u "(I)Z")] 7

def k1m0 : Method := { name := "<init>", desc := "()V", sig := { parameters := [], returnType := none }, accessFlags := 2, code := none }
def k1c1 : Code := { maxStack := 2, maxLocals := 4, code := code, exceptionTable := #[], attributes := #[] }
def k1m1 : Method := { name := "law", desc := "(I)Z", sig := { parameters := [.int], returnType := some .boolean }, accessFlags := 9, code := some k1c1 }
/-- com/example/libsld/libsld/TypeIsPrefixPinLaw -/
def k1 : Class := { plain "com/example/libsld/libsld/TypeIsPrefixPinLaw" (some 0) with
  accessFlags := 49
  interfaces := #[]
  cf := some (fileOf pool1 30 #[] #[{ accessFlags := 2, nameIndex := 5, descriptorIndex := 6, attributes := #[] }, { accessFlags := 9, nameIndex := 34, descriptorIndex := 35, attributes := #[] }] 49 2 #[] #[])
  fields := #[]
  methods := #[k1m0, k1m1]
  instanceTypes := #[]
  staticTypes := #[]
  resolved := Array.replicate 43 none
  statics := none }

def pool2 : Array CpInfo := pool [(1, .class_ 2), (0, u "java/lang/constant/Constable"), (0, .class_ 4), (0, u "java/lang/Object")] 6

/-- java/lang/constant/Constable -/
def k2 : Class := { plain "java/lang/constant/Constable" (some 0) with
  accessFlags := 1537
  interfaces := #[]
  cf := some (fileOf pool2 1 #[] #[] 1537 3 #[] #[])
  fields := #[]
  methods := #[]
  instanceTypes := #[]
  staticTypes := #[]
  resolved := Array.replicate 11 none
  statics := none }

def pool3 : Array CpInfo := pool [(1, .class_ 2), (0, u "java/lang/Comparable"), (0, .class_ 4), (0, u "java/lang/Object")] 7

/-- java/lang/Comparable -/
def k3 : Class := { plain "java/lang/Comparable" (some 0) with
  accessFlags := 1537
  interfaces := #[]
  cf := some (fileOf pool3 1 #[] #[] 1537 3 #[] #[])
  fields := #[]
  methods := #[]
  instanceTypes := #[]
  staticTypes := #[]
  resolved := Array.replicate 12 none
  statics := none }

def pool4 : Array CpInfo := pool [(1, .class_ 2), (0, u "java/io/Serializable"), (0, .class_ 4), (0, u "java/lang/Object")] 2

/-- java/io/Serializable -/
def k4 : Class := { plain "java/io/Serializable" (some 0) with
  accessFlags := 1537
  interfaces := #[]
  cf := some (fileOf pool4 1 #[] #[] 1537 3 #[] #[])
  fields := #[]
  methods := #[]
  instanceTypes := #[]
  staticTypes := #[]
  resolved := Array.replicate 7 none
  statics := none }

def pool5 : Array CpInfo := pool [(2, .class_ 4), (1, u "java/lang/Enum"), (0, u "name"), (0, u "Ljava/lang/String;"), (2, u "ordinal"), (0, u "I"), (1, .class_ 14), (1, u "java/lang/Object"), (4, u "hash"), (86, .class_ 108), (1, u "java/lang/Enum$EnumDesc"), (2, .class_ 112), (0, u "java/lang/constant/Constable"), (0, .class_ 114), (0, u "java/lang/Comparable"), (0, .class_ 116), (0, u "java/io/Serializable")] 87

/-- java/lang/Enum -/
def k5 : Class := { plain "java/lang/Enum" (some 0) with
  accessFlags := 1057
  interfaces := #[2, 3, 4]
  cf := some (fileOf pool5 2 #[.nestMembers #[106]] #[] 1057 12 #[111, 113, 115] #[{ accessFlags := 18, nameIndex := 5, descriptorIndex := 6, attributes := #[] }, { accessFlags := 18, nameIndex := 9, descriptorIndex := 10, attributes := #[] }, { accessFlags := 2, nameIndex := 19, descriptorIndex := 10, attributes := #[] }])
  fields := #[{ name := "name", type := (.object "java/lang/String"), accessFlags := 18, slot := 0, constantValue := 0 }, { name := "ordinal", type := .int, accessFlags := 18, slot := 1, constantValue := 0 }, { name := "hash", type := .int, accessFlags := 2, slot := 2, constantValue := 0 }]
  methods := #[]
  instanceTypes := #[(.object "java/lang/String"), .int, .int]
  staticTypes := #[]
  resolved := Array.replicate 204 none
  statics := none }

def pool6 : Array CpInfo := pool [(1, .class_ 2), (0, u "com/example/libsld/libsld/Operators$Type"), (2, u "XFX"), (0, u "Lcom/example/libsld/libsld/Operators$Type;"), (2, u "XFY"), (2, u "YFX"), (0, .fieldref 1 14), (0, .nameAndType 15 6), (0, u "FY"), (0, .fieldref 1 17), (0, .nameAndType 18 6), (0, u "FX"), (2, u "$VALUES"), (0, u "[Lcom/example/libsld/libsld/Operators$Type;"), (6, .class_ 31), (1, u "java/lang/Enum"), (23, u "isPrefix"), (0, u "()Z"), (6, .class_ 64), (0, u "com/example/libsld/libsld/Operators")] 2

def k6c0 : Code := { maxStack := 2, maxLocals := 1, code := prog_84_method_4_code, exceptionTable := #[], attributes := #[] }
def k6m0 : Method := { name := "isPrefix", desc := "()Z", sig := { parameters := [], returnType := some .boolean }, accessFlags := 0, code := some k6c0 }
/-- com/example/libsld/libsld/Operators$Type -/
def k6 : Class := { plain "com/example/libsld/libsld/Operators$Type" (some 5) with
  accessFlags := 16432
  interfaces := #[]
  cf := some (fileOf pool6 1 #[.nestHost 63] #[{ accessFlags := 0, nameIndex := 55, descriptorIndex := 56, attributes := #[] }] 16432 29 #[] #[{ accessFlags := 16409, nameIndex := 5, descriptorIndex := 6, attributes := #[] }, { accessFlags := 16409, nameIndex := 9, descriptorIndex := 6, attributes := #[] }, { accessFlags := 16409, nameIndex := 12, descriptorIndex := 6, attributes := #[] }, { accessFlags := 16409, nameIndex := 15, descriptorIndex := 6, attributes := #[] }, { accessFlags := 16409, nameIndex := 18, descriptorIndex := 6, attributes := #[] }, { accessFlags := 4122, nameIndex := 21, descriptorIndex := 22, attributes := #[] }])
  fields := #[{ name := "XFX", type := (.object "com/example/libsld/libsld/Operators$Type"), accessFlags := 16409, slot := 0, constantValue := 0 }, { name := "XFY", type := (.object "com/example/libsld/libsld/Operators$Type"), accessFlags := 16409, slot := 1, constantValue := 0 }, { name := "YFX", type := (.object "com/example/libsld/libsld/Operators$Type"), accessFlags := 16409, slot := 2, constantValue := 0 }, { name := "FY", type := (.object "com/example/libsld/libsld/Operators$Type"), accessFlags := 16409, slot := 3, constantValue := 0 }, { name := "FX", type := (.object "com/example/libsld/libsld/Operators$Type"), accessFlags := 16409, slot := 4, constantValue := 0 }, { name := "$VALUES", type := (.array (.object "com/example/libsld/libsld/Operators$Type")), accessFlags := 4122, slot := 5, constantValue := 0 }]
  methods := #[k6m0]
  instanceTypes := #[(.object "java/lang/String"), .int, .int]
  staticTypes := #[(.object "com/example/libsld/libsld/Operators$Type"), (.object "com/example/libsld/libsld/Operators$Type"), (.object "com/example/libsld/libsld/Operators$Type"), (.object "com/example/libsld/libsld/Operators$Type"), (.object "com/example/libsld/libsld/Operators$Type"), (.array (.object "com/example/libsld/libsld/Operators$Type"))]
  resolved := Array.replicate 67 none
  statics := some 0 }

def pool7 : Array CpInfo := pool [(1, u "java/lang/Cloneable"), (0, .class_ 1), (0, u "java/lang/Object"), (0, .class_ 3)] 3

/-- java/lang/Cloneable -/
def k7 : Class := { plain "java/lang/Cloneable" (some 0) with
  accessFlags := 1537
  interfaces := #[]
  cf := some (fileOf pool7 2 #[] #[] 1537 4 #[] #[])
  fields := #[]
  methods := #[]
  instanceTypes := #[]
  staticTypes := #[]
  resolved := Array.replicate 8 none
  statics := none }

/-- the primitive byte -/
def k8 : Class := { plain "byte" none with kind := .primitive 'B', accessFlags := 0x411 }
/-- [B -/
def k9 : Class := { plain "[B" (some 0) with kind := .array 8 .byte, interfaces := #[7, 4], accessFlags := 1041 }

/-- the primitive int -/
def k10 : Class := { plain "int" none with kind := .primitive 'I', accessFlags := 0x411 }
/-- [I -/
def k11 : Class := { plain "[I" (some 0) with kind := .array 10 .int, interfaces := #[7, 4], accessFlags := 1041 }

def heap : Heap := #[{ cls := 6, slots := #[.ref 1, .ref 2, .ref 3, .ref 4, .ref 5, .null], vm := .statics 6 },
  { cls := 6, slots := #[.null, .int 0, .int 0], vm := .none },
  { cls := 6, slots := #[.null, .int 1, .int 0], vm := .none },
  { cls := 6, slots := #[.null, .int 2, .int 0], vm := .none },
  { cls := 6, slots := #[.null, .int 3, .int 0], vm := .none },
  { cls := 6, slots := #[.null, .int 4, .int 0], vm := .none }]
def classes : Array Class := #[k0, k1, k2, k3, k4, k5, k6, k7, k8, k9, k10, k11]
def interned : List (Array UInt16 × Addr) := []
def slotsUsed : Nat := 21
def theMethod : MethodId := ⟨1, 1⟩
def args0 : Array Value := #[.int 5]
def aboutOver (below : List Frame) : State where
  vm := { classes := classes, interned := interned.toArray }
  heap := heap
  slotsUsed := slotsUsed
  threads := #[{ frames := .invoking theMethod args0 :: below }]
def below0 : List Frame := [.native { method := ⟨0, 0⟩, args := #[] }]
def about1 : State := aboutOver below0
def p0 : Program := .bare "" "" ""
def e0 : Env := launch0.env 0 0 0
theorem w_frames : about1.frames = Frame.invoking theMethod args0 :: below0 := rfl
set_option maxRecDepth 65536 in
theorem w_args : argsFit about1.vm theMethod args0 = true := by decide +kernel
set_option maxRecDepth 65536 in
theorem w_heap : heapFits about1 = true := by decide +kernel
set_option maxRecDepth 65536 in
theorem w_runnable : about1.curStatus? = some .runnable := by decide +kernel
set_option maxRecDepth 65536 in
theorem w_alone : about1.alone = true := by decide +kernel
set_option maxRecDepth 65536 in
theorem w_named : about1.methodNamed? x = some theMethod := by decide +kernel
set_option maxRecDepth 65536 in
theorem w_hears : about1.hears theMethod below0 = true := by decide +kernel
set_option maxRecDepth 65536 in
theorem w_ripe : about1.ripe theMethod args0 below0 = true := by decide +kernel
theorem w_running : about1.status = .running := rfl
set_option maxRecDepth 65536 in
theorem w_room : about1.hasRoom e0.platform room_1 = true :=
  launch0.hasRoom_least _ room_1 (by decide +kernel) (by decide +kernel) (by decide +kernel) (by decide +kernel) (by decide +kernel) (by decide +kernel)
theorem allAtoms_all (ts : List Jvm.Cond) (a : Array Jvm.Value) (st : Jvm.State) : (allAtoms ts).before a st = ts.all (fun c => c.before a st) := by
  induction ts with
  | nil => rfl
  | cons c t ih =>
    show (Jvm.Cond.and c (allAtoms t)).before a st = _
    rw [Jvm.Cond.before_and, ih, List.all_cons]
def words1 : List Jvm.Cond := Jvm.Cond.code x code maxLocals ret :: tables_1
/-- a 'code' word, met by the world's own term for the bytes: nothing is compared byte by byte -/
theorem code_word {y : MethodName} {bytes : ByteArray} {mx : Nat} {rt : Option FieldType} {a : Array Value} {s : State} {m : MethodId} {meth : Method} {c : Code} (h1 : s.methodNamed? y = some m) (h2 : s.vm.method? m = some meth) (h3 : meth.code = some c) (h4 : c.code = bytes)
    (h5 : (c.maxLocals == mx && c.exceptionTable.isEmpty && decide (c.maxStack ≤ mostOperands) && decide (meth.sig.returnType = rt) && !meth.locks && decide (parseMethodDescriptor y.desc = some meth.sig)) = true) : (Jvm.Cond.code y bytes mx rt).before a s = true := by
  simp only [Bool.and_eq_true, beq_iff_eq, Bool.not_eq_true', decide_eq_true_eq] at h5
  obtain ⟨⟨⟨⟨⟨g1, g2⟩, g3⟩, g4⟩, g5⟩, g6⟩ := h5
  simp [Cond.before, Cond.holds, Cond.value, h1, h2, h3, h4, g1, g2, g3, g4, g5, g6]
def isCode : Jvm.Cond → Bool
  | .code _ _ _ _ => true
  | _ => false
theorem all_split {L : List Jvm.Cond} {P : Jvm.Cond → Bool} (h1 : L.all (fun c => isCode c || P c) = true) (h2 : ∀ c ∈ L.filter isCode, P c = true) : L.all P = true := by
  refine List.all_eq_true.mpr fun c hc => ?_
  have h := List.all_eq_true.mp h1 c hc
  rcases Bool.eq_false_or_eq_true (isCode c) with hi | hi
  · exact h2 c (List.mem_filter.mpr ⟨hc, hi⟩)
  · simpa [hi] using h
set_option maxRecDepth 65536 in
theorem w_c0 : (Jvm.Cond.code x code maxLocals ret).before args0 about1 = true := code_word (m := ⟨1, 1⟩) (meth := k1m1) (c := k1c1) (by decide +kernel) rfl rfl rfl (by decide +kernel)
set_option maxRecDepth 65536 in
theorem w_c1 : (Jvm.Cond.code ({ cls := "com/example/libsld/libsld/Operators$Type", name := "isPrefix", desc := "()Z" } : Jvm.MethodName) prog_84_method_4_code (1 : Nat) (Option.some Jvm.ClassFile.FieldType.boolean)).before args0 about1 = true := code_word (m := ⟨6, 0⟩) (meth := k6m0) (c := k6c0) (by decide +kernel) rfl rfl rfl (by decide +kernel)
def codes1 : List Jvm.Cond := [Jvm.Cond.code x code maxLocals ret, Jvm.Cond.code ({ cls := "com/example/libsld/libsld/Operators$Type", name := "isPrefix", desc := "()Z" } : Jvm.MethodName) prog_84_method_4_code (1 : Nat) (Option.some Jvm.ClassFile.FieldType.boolean)]
set_option maxRecDepth 65536 in
theorem codes_eq : words1.filter isCode = codes1 := rfl
theorem w_codes : ∀ c ∈ words1.filter isCode, c.before args0 about1 = true := by
  rw [codes_eq]
  intro c hc
  simp only [codes1, List.mem_cons, List.not_mem_nil, or_false] at hc
  rcases hc with rfl | rfl
  · exact w_c0
  · exact w_c1
set_option maxRecDepth 65536 in
theorem w_t1 : words1.all (fun c => isCode c || c.before args0 about1) = true := by decide +kernel
theorem w_tables : (allAtoms (Jvm.Cond.code x code maxLocals ret :: tables_1)).before args0 about1 = true := by
  rw [allAtoms_all]
  show words1.all (fun c => c.before args0 about1) = true
  refine all_split ?_ w_codes
  rw [w_t1]
set_option maxRecDepth 65536 in
theorem w_case : (Jvm.Cond.and given_1 narrow_1).before args0 about1 = true := by decide +kernel
theorem w_applies : (headSpec (Jvm.Cond.code x code maxLocals ret :: tables_1) room_1).applies x e0.platform about1 = true :=
  (Spec.applies_iff w_frames).mpr ⟨w_running, w_runnable, w_alone, w_named, w_hears, w_ripe, w_room, w_tables⟩
theorem atStart : AtStart classFile x code maxLocals ret World_1 tables_1 room_1 Calls_1 rest_1 Pre_1 launch0 p0 e0 about1 theMethod args0 below0 :=
  ⟨lists_1, trivial, launch0.admits_env _ _ _, launch0.least_env, fairChoices_fair.cas, fairChoices_fair.clock, w_frames, w_args, w_heap, w_applies, trivial, trivial, w_case⟩
end start1
theorem witness_1 : WitnessClaimed_1 := ⟨start1.p0, start1.e0, start1.about1, start1.theMethod, start1.args0, start1.below0, start1.atStart⟩
end Jvm.Pilot.@@N@@
