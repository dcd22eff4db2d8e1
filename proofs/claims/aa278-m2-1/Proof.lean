import JvmDerived
import JvmDerived.Pilot.@@N@@Statement
import JvmDerived.Pilot.@@N@@Code
set_option linter.unusedVariables false
set_option linter.unusedSimpArgs false
namespace Jvm.RoadKit
open Sem ClassFile Op Lib Jvm.Stand Jvm.Free Jvm.LawKit
section New
variable {p : Program} {l : Launch} {e : Env} {R : Room} {s : State} {m : MethodId} {args : Array Value} {below : List Frame} {meth : Method} {c : Code} {T : State} {locs : List Loc} {cells slots : Nat}
theorem retI (X : Stand p l e R s m args below meth c T locs cells slots) (hx : p.tables.exec = Jvm.exec) {pc : Nat} {Ls : Array Slot} {z : Int32} {rest : List Value} (hret : meth.sig.returnType = some .int) (hd : decode c.code pc = .ok (.ireturn, 1)) {fs : List Frame}
    (hl : ∀ (f : JFrame) (acts : List Action), f.method = m → f.locked = none → f.entered = [] → (doReturn e (T.setTop f) acts (some (.int z))).1 = T.setFrames fs) : Steps p.tables e below (T.setTop (mkF m pc Ls (.int z :: rest))) (T.setFrames fs) := by
  have hm' : T.vm.method? m = some meth := X.method'
  have hn : narrow .int (.int z) = .int z := rfl
  show Steps p.tables e below (T.setTop { method := m, pc := pc, locals := Ls, stack := _ :: rest, locked := none }) _
  jvm_step X.here [X.here.top, hx, hd, hm', hret, hn]
  first | (intro acts; rw [hl _ acts rfl rfl rfl]) | rw [hl _ _ rfl rfl rfl]
  exact Steps.refl _
end New
end Jvm.RoadKit
namespace Jvm.Pilot.@@N@@
open Jvm Jvm.ClassFile Sem Op Lib Jvm.Free Jvm.Stand Jvm.LawKit Jvm.RoadKit Bundle Jvm.Pilot.@@N@@.Jvm.D
theorem own_i {L : List Jvm.Cond} {a0 : Array Value} {Z : State} (hw : ∀ d ∈ L, d.before a0 Z = true) (i : Nat) {d : Jvm.Cond} (h : L[i]? = some d) : d.before a0 Z = true := hw _ (List.mem_of_getElem? h)
theorem d1_0 : decode prog_28_method_8_code 0 = .ok (.aload_n 0, 1) := by decide +kernel
theorem d1_1 : decode prog_28_method_8_code 1 = .ok (.getfield 39, 3) := by decide +kernel
theorem d1_4 : decode prog_28_method_8_code 4 = .ok (.ifCond .ne 14, 3) := by decide +kernel
theorem d1_7 : decode prog_28_method_8_code 7 = .ok (.aload_n 0, 1) := by decide +kernel
theorem d1_8 : decode prog_28_method_8_code 8 = .ok (.getfield 43, 3) := by decide +kernel
theorem d1_11 : decode prog_28_method_8_code 11 = .ok (.ifCond .ne 7, 3) := by decide +kernel
theorem d1_14 : decode prog_28_method_8_code 14 = .ok (.iconst 1, 1) := by decide +kernel
theorem d1_15 : decode prog_28_method_8_code 15 = .ok (.goto 4, 3) := by decide +kernel
theorem d1_18 : decode prog_28_method_8_code 18 = .ok (.iconst 0, 1) := by decide +kernel
theorem d1_19 : decode prog_28_method_8_code 19 = .ok (.ireturn, 1) := by decide +kernel
theorem own_static {args : Array Value} {s : State} {C n d K : String} (h : (Jvm.Cond.exactly (Jvm.Term.static C n d) K).value args s none s [] = some true) (hi : (Jvm.Cond.initialized C).before args s = true) (hl : (Jvm.Cond.laysStatic C n d).before args s = true) : ∃ a, (Jvm.Term.static C n d).eval args s none [] s = some (.ref a) ∧ Sta s s.heap C n d (.ref a) ∧ Exa s s.heap a K := by
  obtain ⟨a, ev⟩ := exa_v h
  exact ⟨a, ev, Sta.start ev (Or.inr ⟨hi, hl⟩), Exa.start ev h⟩
theorem own_fieldI {args : Array Value} {s : State} {t : Jvm.Term} {C n d : String} {a : Addr} {k : Int32} (ht : t.eval args s none [] s = some (.ref a)) (h : (Jvm.Cond.eq (Jvm.Term.field t C n d) (Jvm.Term.int k)).value args s none s [] = some true) : Fld s s.heap a C n d (.int k) := by
  obtain ⟨x, y, ex, ey, -, ky⟩ := cmp_v (Or.inl h)
  have ey' : some (Value.int k) = some y := ey
  cases ey'
  obtain ⟨z, rfl⟩ := ky
  have hz : z = k := gotT (Cond.eq_ints ex (Term.int_eval k)) h
  subst hz
  exact Fld.start ((fld_at ht).symm.trans ex)
def own_prot (a b : Int32) : Int32 := if a = 0 ∧ b = 0 then 1 else 0
theorem pn_com_example_lumenward_lumenward_model_RequestType : plainName "com/example/lumenward/lumenward/model/RequestType" = true := by first | (simp [plainName, overriddenIn]; done) | decide +kernel
theorem ef_rm1 (m : MethodId) (x0 : Addr) : entryFrame m #[(.ref x0)] 1 = mkF m 0 #[.val (.ref x0)] [] := by first | (simp [entryFrame, mkF, argsToLocals, Value.category]; done) | rfl
def Q1 (Z : State) (a1 : Addr) (en : Int32) (lv : Int32) (h0 : Heap) (n0 : Nat) (v : Option Value) (h : Heap) (L : List Loc) : Prop := v = some (.int (own_prot en lv)) ∧ Fr n0 L ∧ h = h0
set_option maxRecDepth 65536 in
set_option maxHeartbeats 40000000 in
theorem rm1 (l : Launch) (Z : State) (a0 : Array Value) (hw : ∀ d ∈ tables_1, d.before a0 Z = true) (ws : List Jvm.Cond) (a1 : Addr) (en : Int32) (lv : Int32) (h0 : Heap) (n0 : Nat) (Z0 : n0 ≤ h0.size) (F1 : Fld Z h0 a1 "com/example/lumenward/lumenward/model/RequestType" "enters" "Z" (.int en)) (F2 : Fld Z h0 a1 "com/example/lumenward/lumenward/model/RequestType" "leaves" "Z" (.int lv)) :
    MetFree l (⟨"com/example/lumenward/lumenward/model/RequestType", "isProtected", "()Z"⟩ : MethodName) (head1 (Jvm.Cond.code (⟨"com/example/lumenward/lumenward/model/RequestType", "isProtected", "()Z"⟩ : MethodName) prog_28_method_8_code 1 (some .boolean) :: ws) ({ frames := 0, cells := 0, slots := 0, locals := 0 } : Room)) (fun a U => a = #[(.ref a1)] ∧ Z.Warmed39 U.vm ∧ U.heap = h0) (fun _ _ _ _ _ => True) (fun _ U o U' => ∃ v L, o = .returned v ∧ Q1 Z a1 en lv h0 n0 v U'.heap L ∧ FrameEnd U o U' L ({ frames := 0, cells := 0, slots := 0, locals := 0 } : Room).cells ({ frames := 0, cells := 0, slots := 0, locals := 0 } : Room).slots) := by
  refine MetFree.of_bodySF (plainFor_of_name pn_com_example_lumenward_lumenward_model_RequestType) hisR ?_
  intro p e s m args below meth c s₁ Bd hml0 hP hK
  obtain ⟨rfl, hZ, hh⟩ := hP
  have hx := Bd.exec
  have hby := Bd.bytes
  have hml : c.maxLocals = 1 := hml0
  have hown : s.vm.findClass "com/example/lumenward/lumenward/model/RequestType" = some m.cls := findClass_of_methodNamed Bd.named
  have hnm := (name_of_methodNamed Bd.named Bd.method).1
  have X0 : Stand p l e ({ frames := 0, cells := 0, slots := 0, locals := 0 } : Room) s m #[(.ref a1)] below meth c s₁ [] 0 0 := Stand.of_body Bd
  have e0 : s₁.heap = h0 := by rw [← hh, Bd.state]; rfl
  have N0 := Fr.nil n0
  have pre0 : ∀ t, Steps p.tables e below (s₁.setTop (mkF m 0 #[.val (.ref a1)] [])) t → Steps p.tables e below (s₁.setTop (entryFrame m #[(.ref a1)] 1)) t := fun t k => castTop (ef_rm1 m a1) k
  obtain ⟨T101, X101, e101, st101⟩ := getF X0 hx hZ hown (host := "") (Or.inl (own_i hw 8 rfl)) Via.refl e0 F1 (g := (mkF m 1 #[.val (.ref a1)] [(.ref a1)])) rfl rfl (hb hby d1_1)
  have pre103 : ∀ t, Steps p.tables e below (T101.setTop (mkF m 4 #[.val (.ref a1)] [(.int en)])) t → Steps p.tables e below (s₁.setTop (entryFrame m #[(.ref a1)] 1)) t := fun t k => pre0 t (by
    show Steps p.tables e below (s₁.setTop (mkF m 0 #[.val (.ref a1)] [])) t
    refine XS.aloadN X0.here hx rfl (hb hby d1_0) rfl rfl ?_
    show Steps p.tables e below (s₁.setTop (mkF m 1 #[.val (.ref a1)] [(.ref a1)])) t
    refine st101 _ ?_
    exact k)
  by_cases hc102 : en = (0 : Int32)
  · obtain ⟨T104, X104, e104, st104⟩ := getF X101 hx hZ hown (host := "") (Or.inl (own_i hw 10 rfl)) Via.refl e101 F2 (g := (mkF m 8 #[.val (.ref a1)] [(.ref a1)])) rfl rfl (hb hby d1_8)
    have pre106 : ∀ t, Steps p.tables e below (T104.setTop (mkF m 11 #[.val (.ref a1)] [(.int lv)])) t → Steps p.tables e below (s₁.setTop (entryFrame m #[(.ref a1)] 1)) t := fun t k => pre103 t (by
      show Steps p.tables e below (T101.setTop (mkF m 4 #[.val (.ref a1)] [(.int en)])) t
      refine XS.ifNo X101.here hx rfl (hb hby d1_4) rfl ((if0 _ _).trans (teq hc102).2) ?_
      show Steps p.tables e below (T101.setTop (mkF m 7 #[.val (.ref a1)] [])) t
      refine XS.aloadN X101.here hx rfl (hb hby d1_7) rfl rfl ?_
      show Steps p.tables e below (T101.setTop (mkF m 8 #[.val (.ref a1)] [(.ref a1)])) t
      refine st104 _ ?_
      exact k)
    by_cases hc105 : lv = (0 : Int32)
    · have pre107 : ∀ t, Steps p.tables e below (T104.setTop (mkF m 19 #[.val (.ref a1)] [(.int (1 : Int32))])) t → Steps p.tables e below (s₁.setTop (entryFrame m #[(.ref a1)] 1)) t := fun t k => pre106 t (by
        show Steps p.tables e below (T104.setTop (mkF m 11 #[.val (.ref a1)] [(.int lv)])) t
        refine XS.ifNo X104.here hx rfl (hb hby d1_11) rfl ((if0 _ _).trans (teq hc105).2) ?_
        show Steps p.tables e below (T104.setTop (mkF m 14 #[.val (.ref a1)] [])) t
        refine XS.iconst X104.here hx rfl (hb hby d1_14) ?_
        show Steps p.tables e below (T104.setTop (mkF m 15 #[.val (.ref a1)] [(.int (1 : Int32))])) t
        refine XS.goto X104.here hx rfl (pc0 := 15) (pc' := 19) rfl (hb hby d1_15) (by decide) (by decide) ?_
        exact k)
      obtain ⟨fs, hr, hrun, hended, hW, hsame⟩ := X104.leave (v := some (.int (1 : Int32))) (fun h => by rw [Bd.returns] at h; cases h)
      refine ⟨_, _, pre107 _ ?_, hrun, hended, _, _, rfl, ?_, ⟨_, rfl⟩, hW, hsame.mono (by decide) (by decide)⟩
      · exact retN X104 hx (t := .boolean) Bd.returns (by simp) (hb hby d1_19) hr
      · show Q1 Z a1 en lv h0 n0 _ T104.heap _
        rw [e104]
        exact ⟨(by simp [own_prot, hc102, hc105]), N0, rfl⟩
    · have pre108 : ∀ t, Steps p.tables e below (T104.setTop (mkF m 19 #[.val (.ref a1)] [(.int (0 : Int32))])) t → Steps p.tables e below (s₁.setTop (entryFrame m #[(.ref a1)] 1)) t := fun t k => pre106 t (by
        show Steps p.tables e below (T104.setTop (mkF m 11 #[.val (.ref a1)] [(.int lv)])) t
        refine XS.ifYes X104.here hx rfl (pc0 := 11) (pc' := 18) rfl (hb hby d1_11) rfl ((if0 _ _).trans (feq hc105).2) (by decide) (by decide) ?_
        show Steps p.tables e below (T104.setTop (mkF m 18 #[.val (.ref a1)] [])) t
        refine XS.iconst X104.here hx rfl (hb hby d1_18) ?_
        exact k)
      obtain ⟨fs, hr, hrun, hended, hW, hsame⟩ := X104.leave (v := some (.int (0 : Int32))) (fun h => by rw [Bd.returns] at h; cases h)
      refine ⟨_, _, pre108 _ ?_, hrun, hended, _, _, rfl, ?_, ⟨_, rfl⟩, hW, hsame.mono (by decide) (by decide)⟩
      · exact retN X104 hx (t := .boolean) Bd.returns (by simp) (hb hby d1_19) hr
      · show Q1 Z a1 en lv h0 n0 _ T104.heap _
        rw [e104]
        exact ⟨(by simp [own_prot, hc102, hc105]), N0, rfl⟩
  · have pre109 : ∀ t, Steps p.tables e below (T101.setTop (mkF m 19 #[.val (.ref a1)] [(.int (0 : Int32))])) t → Steps p.tables e below (s₁.setTop (entryFrame m #[(.ref a1)] 1)) t := fun t k => pre103 t (by
      show Steps p.tables e below (T101.setTop (mkF m 4 #[.val (.ref a1)] [(.int en)])) t
      refine XS.ifYes X101.here hx rfl (pc0 := 4) (pc' := 18) rfl (hb hby d1_4) rfl ((if0 _ _).trans (feq hc102).2) (by decide) (by decide) ?_
      show Steps p.tables e below (T101.setTop (mkF m 18 #[.val (.ref a1)] [])) t
      refine XS.iconst X101.here hx rfl (hb hby d1_18) ?_
      exact k)
    obtain ⟨fs, hr, hrun, hended, hW, hsame⟩ := X101.leave (v := some (.int (0 : Int32))) (fun h => by rw [Bd.returns] at h; cases h)
    refine ⟨_, _, pre109 _ ?_, hrun, hended, _, _, rfl, ?_, ⟨_, rfl⟩, hW, hsame.mono (by decide) (by decide)⟩
    · exact retN X101 hx (t := .boolean) Bd.returns (by simp) (hb hby d1_19) hr
    · show Q1 Z a1 en lv h0 n0 _ T101.heap _
      rw [e101]
      exact ⟨(by simp [own_prot, hc102]), N0, rfl⟩
theorem pn_com_example_lumenward_lumenward_model_RequestTypeIsProtectedPinLaw : plainName "com/example/lumenward/lumenward/model/RequestTypeIsProtectedPinLaw" = true := by first | (simp [plainName, overriddenIn]; done) | decide +kernel
theorem pd_0 : parseMethodDescriptor "()Z" = some ⟨[], some .boolean⟩ := by decide +kernel
theorem ef_rm0 (m : MethodId) (x0 : Int32) : entryFrame m #[(.int x0)] maxLocals = mkF m 0 #[.val (.int x0), .unset, .unset, .unset] [] := by first | (simp [entryFrame, mkF, argsToLocals, Value.category, maxLocals]; done) | rfl
def Q0 (Z : State) (p1 : Int32) (wIN : Addr) (wPS : Addr) (wER : Addr) (wLV : Addr) (h0 : Heap) (n0 : Nat) (v : Option Value) (h : Heap) (L : List Loc) : Prop := v = some (.int 1) ∧ Fr n0 L
set_option maxRecDepth 65536 in
set_option maxHeartbeats 40000000 in
theorem rm0 (l : Launch) (Z : State) (a0 : Array Value) (hw : ∀ d ∈ tables_1, d.before a0 Z = true) (ws : List Jvm.Cond) (p1 : Int32) (wIN : Addr) (wPS : Addr) (wER : Addr) (wLV : Addr) (h0 : Heap) (n0 : Nat) (Z0 : n0 ≤ h0.size) (S_IN : Sta Z h0 "com/example/lumenward/lumenward/model/RequestType" "IN" "Lcom/example/lumenward/lumenward/model/RequestType;" (.ref wIN)) (E_IN : Exa Z h0 wIN "com/example/lumenward/lumenward/model/RequestType") (S_PS : Sta Z h0 "com/example/lumenward/lumenward/model/RequestType" "PS" "Lcom/example/lumenward/lumenward/model/RequestType;" (.ref wPS)) (E_PS : Exa Z h0 wPS "com/example/lumenward/lumenward/model/RequestType") (S_ER : Sta Z h0 "com/example/lumenward/lumenward/model/RequestType" "ER" "Lcom/example/lumenward/lumenward/model/RequestType;" (.ref wER)) (E_ER : Exa Z h0 wER "com/example/lumenward/lumenward/model/RequestType") (S_LV : Sta Z h0 "com/example/lumenward/lumenward/model/RequestType" "LV" "Lcom/example/lumenward/lumenward/model/RequestType;" (.ref wLV)) (E_LV : Exa Z h0 wLV "com/example/lumenward/lumenward/model/RequestType") (O0_IN : Fld Z h0 wIN "com/example/lumenward/lumenward/model/RequestType" "enters" "Z" (.int (0 : Int32))) (O1_IN : Fld Z h0 wIN "com/example/lumenward/lumenward/model/RequestType" "leaves" "Z" (.int (0 : Int32))) (O2_PS : Fld Z h0 wPS "com/example/lumenward/lumenward/model/RequestType" "enters" "Z" (.int (1 : Int32))) (O3_ER : Fld Z h0 wER "com/example/lumenward/lumenward/model/RequestType" "enters" "Z" (.int (1 : Int32))) (O4_LV : Fld Z h0 wLV "com/example/lumenward/lumenward/model/RequestType" "enters" "Z" (.int (0 : Int32))) (O5_LV : Fld Z h0 wLV "com/example/lumenward/lumenward/model/RequestType" "leaves" "Z" (.int (1 : Int32))) (O6_PS : Fld Z h0 wPS "com/example/lumenward/lumenward/model/RequestType" "leaves" "Z" (.int (1 : Int32))) (O7_ER : Fld Z h0 wER "com/example/lumenward/lumenward/model/RequestType" "leaves" "Z" (.int (0 : Int32))) :
    MetFree l x (head1 (Jvm.Cond.code x code maxLocals ret :: ws) room_1) (fun a U => a = #[(.int p1)] ∧ Z.Warmed39 U.vm ∧ U.heap = h0) (fun _ _ _ _ _ => True) (fun _ U o U' => ∃ v L, o = .returned v ∧ Q0 Z p1 wIN wPS wER wLV h0 n0 v U'.heap L ∧ FrameEnd U o U' L 0 0) := by
  refine MetFree.of_bodySF (plainFor_of_name pn_com_example_lumenward_lumenward_model_RequestTypeIsProtectedPinLaw) hisR ?_
  intro p e s m args below meth c s₁ Bd hml0 hP hK
  obtain ⟨rfl, hZ, hh⟩ := hP
  have hx := Bd.exec
  have hby := Bd.bytes
  have hml : c.maxLocals = 4 := hml0
  have hown : s.vm.findClass "com/example/lumenward/lumenward/model/RequestTypeIsProtectedPinLaw" = some m.cls := findClass_of_methodNamed Bd.named
  have hnm := (name_of_methodNamed Bd.named Bd.method).1
  have X0 : Stand p l e room_1 s m #[(.int p1)] below meth c s₁ [] 0 0 := Stand.of_body Bd
  have e0 : s₁.heap = h0 := by rw [← hh, Bd.state]; rfl
  have N0 := Fr.nil n0
  have pre0 : ∀ t, Steps p.tables e below (s₁.setTop (mkF m 0 #[.val (.int p1), .unset, .unset, .unset] [])) t → Steps p.tables e below (s₁.setTop (entryFrame m #[(.int p1)] maxLocals)) t := fun t k => castTop (ef_rm0 m p1) k
  have f101 := Keep.refl h0 []
  have pre103 : ∀ t, Steps p.tables e below (s₁.setTop (mkF m 5 #[.val (.int p1), .val (.int (p1 &&& (3 : Int32))), .unset, .unset] [(.int (p1 &&& (3 : Int32)))])) t → Steps p.tables e below (s₁.setTop (entryFrame m #[(.int p1)] maxLocals)) t := fun t k => pre0 t (by
    show Steps p.tables e below (s₁.setTop (mkF m 0 #[.val (.int p1), .unset, .unset, .unset] [])) t
    refine XS.iloadN X0.here hx rfl (hb hby at_0) rfl ?_
    show Steps p.tables e below (s₁.setTop (mkF m 1 #[.val (.int p1), .unset, .unset, .unset] [(.int p1)])) t
    refine XS.iconst X0.here hx rfl (hb hby at_1) ?_
    show Steps p.tables e below (s₁.setTop (mkF m 2 #[.val (.int p1), .unset, .unset, .unset] [(.int (3 : Int32)), (.int p1)])) t
    refine XS.iand X0.here hx rfl (hb hby at_2) rfl ?_
    show Steps p.tables e below (s₁.setTop (mkF m 3 #[.val (.int p1), .unset, .unset, .unset] [(.int (p1 &&& (3 : Int32)))])) t
    refine XS.istoreN X0.here hx rfl (hb hby at_3) rfl (l' := #[.val (.int p1), .val (.int (p1 &&& (3 : Int32))), .unset, .unset]) rfl ?_
    show Steps p.tables e below (s₁.setTop (mkF m 4 #[.val (.int p1), .val (.int (p1 &&& (3 : Int32))), .unset, .unset] [])) t
    refine XS.iloadN X0.here hx rfl (hb hby at_4) rfl ?_
    exact k)
  by_cases hc102 : (p1 &&& (3 : Int32)) = (0 : Int32)
  · obtain ⟨T104, X104, e104, st104⟩ := getS2 X0 hx hZ hown (host := "") (Or.inl (own_i hw 0 rfl)) Via.refl e0 S_IN (g := (mkF m 8 #[.val (.int p1), .val (.int (p1 &&& (3 : Int32))), .unset, .unset] [])) rfl (hb hby at_8)
    obtain ⟨cq105, kq105, q105a, q105b, q105c⟩ := isOf hZ e104 E_IN
    obtain ⟨_, _, ⟨T105, L105, k105, n105⟩, -, X105, ⟨Lc105, hQ105, l105, y105, z105⟩, st105⟩ := X104.virtualBack hx (y := (⟨"com/example/lumenward/lumenward/model/RequestType", "isProtected", "()Z"⟩ : MethodName)) (z := (⟨"com/example/lumenward/lumenward/model/RequestType", "isProtected", "()Z"⟩ : MethodName)) hown (mvT hZ (own_i hw 3 rfl)) (mvT hZ (own_i hw 4 rfl)) (notFace_of_selects (args := #[]) (mvT hZ (own_i hw 6 rfl))) (mvT hZ (own_i hw 6 rfl)) (mvT hZ (own_i hw 5 rfl)) (by decide) (backOf (W := 0) (rm1 l Z a0 hw [] wIN (0 : Int32) (0 : Int32) h0 n0 Z0 O0_IN O1_IN) hZ (own_i hw 7 rfl) (own_i hw 1 rfl) (by decide) (by decide)) q105a q105c (g := (mkF m 54 #[.val (.int p1), .val (.int (p1 &&& (3 : Int32))), .val (.ref wIN), .val (.int (1 : Int32))] [(.ref wIN)])) rfl (by rw [hml]; rfl) (Steps.refl _) (argsL := []) (rest := []) (lenOf pd_0 rfl) rfl (by show 2 * 0 + _ ≤ _; exact Nat.le_of_eq rfl) (hb hby at_54) (fun _ _ => ⟨rfl, e104, (by decide : 0 + 0 ≤ _), (by decide : 0 + 0 ≤ _)⟩)
    dsimp only [Pt.U, Pt.locs, Pt.cells, Pt.slots] at X105 l105 y105 z105 st105 hQ105
    subst l105 y105 z105
    obtain ⟨rfl, N105q, e105⟩ := hQ105
    have N105 := Fr.app N0 N105q
    have hd106 : (own_prot (0 : Int32) (0 : Int32)) = (1 : Int32) := by decide
    have pre107 : ∀ t, Steps p.tables e below (T105.setTop (mkF m 66 #[.val (.int p1), .val (.int (p1 &&& (3 : Int32))), .val (.ref wIN), .val (.int (1 : Int32))] [(.int (1 : Int32))])) t → Steps p.tables e below (s₁.setTop (entryFrame m #[(.int p1)] maxLocals)) t := fun t k => pre103 t (by
      show Steps p.tables e below (s₁.setTop (mkF m 5 #[.val (.int p1), .val (.int (p1 &&& (3 : Int32))), .unset, .unset] [(.int (p1 &&& (3 : Int32)))])) t
      refine XS.ifNo X0.here hx rfl (hb hby at_5) rfl ((if0 _ _).trans (teq hc102).2) ?_
      show Steps p.tables e below (s₁.setTop (mkF m 8 #[.val (.int p1), .val (.int (p1 &&& (3 : Int32))), .unset, .unset] [])) t
      refine st104 _ ?_
      show Steps p.tables e below (T104.setTop (mkF m 11 #[.val (.int p1), .val (.int (p1 &&& (3 : Int32))), .unset, .unset] [(.ref wIN)])) t
      refine XS.astoreN X104.here hx rfl (hb hby at_11) rfl rfl (l' := #[.val (.int p1), .val (.int (p1 &&& (3 : Int32))), .val (.ref wIN), .unset]) rfl ?_
      show Steps p.tables e below (T104.setTop (mkF m 12 #[.val (.int p1), .val (.int (p1 &&& (3 : Int32))), .val (.ref wIN), .unset] [])) t
      refine XS.goto X104.here hx rfl (pc0 := 12) (pc' := 43) rfl (hb hby at_12) (by decide) (by decide) ?_
      show Steps p.tables e below (T104.setTop (mkF m 43 #[.val (.int p1), .val (.int (p1 &&& (3 : Int32))), .val (.ref wIN), .unset] [])) t
      refine XS.iloadN X104.here hx rfl (hb hby at_43) rfl ?_
      show Steps p.tables e below (T104.setTop (mkF m 44 #[.val (.int p1), .val (.int (p1 &&& (3 : Int32))), .val (.ref wIN), .unset] [(.int (p1 &&& (3 : Int32)))])) t
      refine XS.ifNo X104.here hx rfl (hb hby at_44) rfl ((if0 _ _).trans (teq hc102).2) ?_
      show Steps p.tables e below (T104.setTop (mkF m 47 #[.val (.int p1), .val (.int (p1 &&& (3 : Int32))), .val (.ref wIN), .unset] [])) t
      refine XS.iconst X104.here hx rfl (hb hby at_47) ?_
      show Steps p.tables e below (T104.setTop (mkF m 48 #[.val (.int p1), .val (.int (p1 &&& (3 : Int32))), .val (.ref wIN), .unset] [(.int (1 : Int32))])) t
      refine XS.goto X104.here hx rfl (pc0 := 48) (pc' := 52) rfl (hb hby at_48) (by decide) (by decide) ?_
      show Steps p.tables e below (T104.setTop (mkF m 52 #[.val (.int p1), .val (.int (p1 &&& (3 : Int32))), .val (.ref wIN), .unset] [(.int (1 : Int32))])) t
      refine XS.istoreN X104.here hx rfl (hb hby at_52) rfl (l' := #[.val (.int p1), .val (.int (p1 &&& (3 : Int32))), .val (.ref wIN), .val (.int (1 : Int32))]) rfl ?_
      show Steps p.tables e below (T104.setTop (mkF m 53 #[.val (.int p1), .val (.int (p1 &&& (3 : Int32))), .val (.ref wIN), .val (.int (1 : Int32))] [])) t
      refine XS.aloadN X104.here hx rfl (hb hby at_53) rfl rfl ?_
      show Steps p.tables e below (T104.setTop (mkF m 54 #[.val (.int p1), .val (.int (p1 &&& (3 : Int32))), .val (.ref wIN), .val (.int (1 : Int32))] [(.ref wIN)])) t
      refine st105.trans ?_
      show Steps p.tables e below (T105.setTop (mkF m 57 #[.val (.int p1), .val (.int (p1 &&& (3 : Int32))), .val (.ref wIN), .val (.int (1 : Int32))] [(.int (own_prot (0 : Int32) (0 : Int32)))])) t
      refine XS.iloadN X105.here hx rfl (hb hby at_57) rfl ?_
      show Steps p.tables e below (T105.setTop (mkF m 58 #[.val (.int p1), .val (.int (p1 &&& (3 : Int32))), .val (.ref wIN), .val (.int (1 : Int32))] [(.int (1 : Int32)), (.int (own_prot (0 : Int32) (0 : Int32)))])) t
      refine XS.icmpNo X105.here hx rfl (hb hby at_58) rfl (teq hd106).2 ?_
      show Steps p.tables e below (T105.setTop (mkF m 61 #[.val (.int p1), .val (.int (p1 &&& (3 : Int32))), .val (.ref wIN), .val (.int (1 : Int32))] [])) t
      refine XS.iconst X105.here hx rfl (hb hby at_61) ?_
      show Steps p.tables e below (T105.setTop (mkF m 62 #[.val (.int p1), .val (.int (p1 &&& (3 : Int32))), .val (.ref wIN), .val (.int (1 : Int32))] [(.int (1 : Int32))])) t
      refine XS.goto X105.here hx rfl (pc0 := 62) (pc' := 66) rfl (hb hby at_62) (by decide) (by decide) ?_
      exact k)
    obtain ⟨fs, hr, hrun, hended, hW, hsame⟩ := X105.leave (v := some (.int (1 : Int32))) (fun h => by rw [Bd.returns] at h; cases h)
    refine ⟨_, _, pre107 _ ?_, hrun, hended, _, _, rfl, ?_, ⟨_, rfl⟩, hW, hsame.mono (by decide) (by decide)⟩
    · exact retN X105 hx (t := .boolean) Bd.returns (by simp) (hb hby at_66) hr
    · show Q0 Z p1 wIN wPS wER wLV h0 n0 _ T105.heap _
      rw [e105]
      exact ⟨rfl, N105⟩
  · have pre109 : ∀ t, Steps p.tables e below (s₁.setTop (mkF m 17 #[.val (.int p1), .val (.int (p1 &&& (3 : Int32))), .unset, .unset] [(.int (1 : Int32)), (.int (p1 &&& (3 : Int32)))])) t → Steps p.tables e below (s₁.setTop (entryFrame m #[(.int p1)] maxLocals)) t := fun t k => pre103 t (by
      show Steps p.tables e below (s₁.setTop (mkF m 5 #[.val (.int p1), .val (.int (p1 &&& (3 : Int32))), .unset, .unset] [(.int (p1 &&& (3 : Int32)))])) t
      refine XS.ifYes X0.here hx rfl (pc0 := 5) (pc' := 15) rfl (hb hby at_5) rfl ((if0 _ _).trans (feq hc102).2) (by decide) (by decide) ?_
      show Steps p.tables e below (s₁.setTop (mkF m 15 #[.val (.int p1), .val (.int (p1 &&& (3 : Int32))), .unset, .unset] [])) t
      refine XS.iloadN X0.here hx rfl (hb hby at_15) rfl ?_
      show Steps p.tables e below (s₁.setTop (mkF m 16 #[.val (.int p1), .val (.int (p1 &&& (3 : Int32))), .unset, .unset] [(.int (p1 &&& (3 : Int32)))])) t
      refine XS.iconst X0.here hx rfl (hb hby at_16) ?_
      exact k)
    by_cases hc108 : (p1 &&& (3 : Int32)) = (1 : Int32)
    · obtain ⟨T110, X110, e110, st110⟩ := getS2 X0 hx hZ hown (host := "") (Or.inl (own_i hw 16 rfl)) Via.refl e0 S_LV (g := (mkF m 20 #[.val (.int p1), .val (.int (p1 &&& (3 : Int32))), .unset, .unset] [])) rfl (hb hby at_20)
      obtain ⟨cq111, kq111, q111a, q111b, q111c⟩ := isOf hZ e110 E_LV
      obtain ⟨_, _, ⟨T111, L111, k111, n111⟩, -, X111, ⟨Lc111, hQ111, l111, y111, z111⟩, st111⟩ := X110.virtualBack hx (y := (⟨"com/example/lumenward/lumenward/model/RequestType", "isProtected", "()Z"⟩ : MethodName)) (z := (⟨"com/example/lumenward/lumenward/model/RequestType", "isProtected", "()Z"⟩ : MethodName)) hown (mvT hZ (own_i hw 3 rfl)) (mvT hZ (own_i hw 4 rfl)) (notFace_of_selects (args := #[]) (mvT hZ (own_i hw 6 rfl))) (mvT hZ (own_i hw 6 rfl)) (mvT hZ (own_i hw 5 rfl)) (by decide) (backOf (W := 0) (rm1 l Z a0 hw [] wLV (0 : Int32) (1 : Int32) h0 n0 Z0 O4_LV O5_LV) hZ (own_i hw 7 rfl) (own_i hw 1 rfl) (by decide) (by decide)) q111a q111c (g := (mkF m 54 #[.val (.int p1), .val (.int (p1 &&& (3 : Int32))), .val (.ref wLV), .val (.int (0 : Int32))] [(.ref wLV)])) rfl (by rw [hml]; rfl) (Steps.refl _) (argsL := []) (rest := []) (lenOf pd_0 rfl) rfl (by show 2 * 0 + _ ≤ _; exact Nat.le_of_eq rfl) (hb hby at_54) (fun _ _ => ⟨rfl, e110, (by decide : 0 + 0 ≤ _), (by decide : 0 + 0 ≤ _)⟩)
      dsimp only [Pt.U, Pt.locs, Pt.cells, Pt.slots] at X111 l111 y111 z111 st111 hQ111
      subst l111 y111 z111
      obtain ⟨rfl, N111q, e111⟩ := hQ111
      have N111 := Fr.app N0 N111q
      have hd112 : (own_prot (0 : Int32) (1 : Int32)) = (0 : Int32) := by decide
      have pre113 : ∀ t, Steps p.tables e below (T111.setTop (mkF m 66 #[.val (.int p1), .val (.int (p1 &&& (3 : Int32))), .val (.ref wLV), .val (.int (0 : Int32))] [(.int (1 : Int32))])) t → Steps p.tables e below (s₁.setTop (entryFrame m #[(.int p1)] maxLocals)) t := fun t k => pre109 t (by
        show Steps p.tables e below (s₁.setTop (mkF m 17 #[.val (.int p1), .val (.int (p1 &&& (3 : Int32))), .unset, .unset] [(.int (1 : Int32)), (.int (p1 &&& (3 : Int32)))])) t
        refine XS.icmpNo X0.here hx rfl (hb hby at_17) rfl (teq hc108).2 ?_
        show Steps p.tables e below (s₁.setTop (mkF m 20 #[.val (.int p1), .val (.int (p1 &&& (3 : Int32))), .unset, .unset] [])) t
        refine st110 _ ?_
        show Steps p.tables e below (T110.setTop (mkF m 23 #[.val (.int p1), .val (.int (p1 &&& (3 : Int32))), .unset, .unset] [(.ref wLV)])) t
        refine XS.astoreN X110.here hx rfl (hb hby at_23) rfl rfl (l' := #[.val (.int p1), .val (.int (p1 &&& (3 : Int32))), .val (.ref wLV), .unset]) rfl ?_
        show Steps p.tables e below (T110.setTop (mkF m 24 #[.val (.int p1), .val (.int (p1 &&& (3 : Int32))), .val (.ref wLV), .unset] [])) t
        refine XS.goto X110.here hx rfl (pc0 := 24) (pc' := 43) rfl (hb hby at_24) (by decide) (by decide) ?_
        show Steps p.tables e below (T110.setTop (mkF m 43 #[.val (.int p1), .val (.int (p1 &&& (3 : Int32))), .val (.ref wLV), .unset] [])) t
        refine XS.iloadN X110.here hx rfl (hb hby at_43) rfl ?_
        show Steps p.tables e below (T110.setTop (mkF m 44 #[.val (.int p1), .val (.int (p1 &&& (3 : Int32))), .val (.ref wLV), .unset] [(.int (p1 &&& (3 : Int32)))])) t
        refine XS.ifYes X110.here hx rfl (pc0 := 44) (pc' := 51) rfl (hb hby at_44) rfl ((if0 _ _).trans (feq hc102).2) (by decide) (by decide) ?_
        show Steps p.tables e below (T110.setTop (mkF m 51 #[.val (.int p1), .val (.int (p1 &&& (3 : Int32))), .val (.ref wLV), .unset] [])) t
        refine XS.iconst X110.here hx rfl (hb hby at_51) ?_
        show Steps p.tables e below (T110.setTop (mkF m 52 #[.val (.int p1), .val (.int (p1 &&& (3 : Int32))), .val (.ref wLV), .unset] [(.int (0 : Int32))])) t
        refine XS.istoreN X110.here hx rfl (hb hby at_52) rfl (l' := #[.val (.int p1), .val (.int (p1 &&& (3 : Int32))), .val (.ref wLV), .val (.int (0 : Int32))]) rfl ?_
        show Steps p.tables e below (T110.setTop (mkF m 53 #[.val (.int p1), .val (.int (p1 &&& (3 : Int32))), .val (.ref wLV), .val (.int (0 : Int32))] [])) t
        refine XS.aloadN X110.here hx rfl (hb hby at_53) rfl rfl ?_
        show Steps p.tables e below (T110.setTop (mkF m 54 #[.val (.int p1), .val (.int (p1 &&& (3 : Int32))), .val (.ref wLV), .val (.int (0 : Int32))] [(.ref wLV)])) t
        refine st111.trans ?_
        show Steps p.tables e below (T111.setTop (mkF m 57 #[.val (.int p1), .val (.int (p1 &&& (3 : Int32))), .val (.ref wLV), .val (.int (0 : Int32))] [(.int (own_prot (0 : Int32) (1 : Int32)))])) t
        refine XS.iloadN X111.here hx rfl (hb hby at_57) rfl ?_
        show Steps p.tables e below (T111.setTop (mkF m 58 #[.val (.int p1), .val (.int (p1 &&& (3 : Int32))), .val (.ref wLV), .val (.int (0 : Int32))] [(.int (0 : Int32)), (.int (own_prot (0 : Int32) (1 : Int32)))])) t
        refine XS.icmpNo X111.here hx rfl (hb hby at_58) rfl (teq hd112).2 ?_
        show Steps p.tables e below (T111.setTop (mkF m 61 #[.val (.int p1), .val (.int (p1 &&& (3 : Int32))), .val (.ref wLV), .val (.int (0 : Int32))] [])) t
        refine XS.iconst X111.here hx rfl (hb hby at_61) ?_
        show Steps p.tables e below (T111.setTop (mkF m 62 #[.val (.int p1), .val (.int (p1 &&& (3 : Int32))), .val (.ref wLV), .val (.int (0 : Int32))] [(.int (1 : Int32))])) t
        refine XS.goto X111.here hx rfl (pc0 := 62) (pc' := 66) rfl (hb hby at_62) (by decide) (by decide) ?_
        exact k)
      obtain ⟨fs, hr, hrun, hended, hW, hsame⟩ := X111.leave (v := some (.int (1 : Int32))) (fun h => by rw [Bd.returns] at h; cases h)
      refine ⟨_, _, pre113 _ ?_, hrun, hended, _, _, rfl, ?_, ⟨_, rfl⟩, hW, hsame.mono (by decide) (by decide)⟩
      · exact retN X111 hx (t := .boolean) Bd.returns (by simp) (hb hby at_66) hr
      · show Q0 Z p1 wIN wPS wER wLV h0 n0 _ T111.heap _
        rw [e111]
        exact ⟨rfl, N111⟩
    · have pre115 : ∀ t, Steps p.tables e below (s₁.setTop (mkF m 29 #[.val (.int p1), .val (.int (p1 &&& (3 : Int32))), .unset, .unset] [(.int (2 : Int32)), (.int (p1 &&& (3 : Int32)))])) t → Steps p.tables e below (s₁.setTop (entryFrame m #[(.int p1)] maxLocals)) t := fun t k => pre109 t (by
        show Steps p.tables e below (s₁.setTop (mkF m 17 #[.val (.int p1), .val (.int (p1 &&& (3 : Int32))), .unset, .unset] [(.int (1 : Int32)), (.int (p1 &&& (3 : Int32)))])) t
        refine XS.icmpYes X0.here hx rfl (pc0 := 17) (pc' := 27) rfl (hb hby at_17) rfl (feq hc108).2 (by decide) (by decide) ?_
        show Steps p.tables e below (s₁.setTop (mkF m 27 #[.val (.int p1), .val (.int (p1 &&& (3 : Int32))), .unset, .unset] [])) t
        refine XS.iloadN X0.here hx rfl (hb hby at_27) rfl ?_
        show Steps p.tables e below (s₁.setTop (mkF m 28 #[.val (.int p1), .val (.int (p1 &&& (3 : Int32))), .unset, .unset] [(.int (p1 &&& (3 : Int32)))])) t
        refine XS.iconst X0.here hx rfl (hb hby at_28) ?_
        exact k)
      by_cases hc114 : (p1 &&& (3 : Int32)) = (2 : Int32)
      · obtain ⟨T116, X116, e116, st116⟩ := getS2 X0 hx hZ hown (host := "") (Or.inl (own_i hw 14 rfl)) Via.refl e0 S_ER (g := (mkF m 32 #[.val (.int p1), .val (.int (p1 &&& (3 : Int32))), .unset, .unset] [])) rfl (hb hby at_32)
        obtain ⟨cq117, kq117, q117a, q117b, q117c⟩ := isOf hZ e116 E_ER
        obtain ⟨_, _, ⟨T117, L117, k117, n117⟩, -, X117, ⟨Lc117, hQ117, l117, y117, z117⟩, st117⟩ := X116.virtualBack hx (y := (⟨"com/example/lumenward/lumenward/model/RequestType", "isProtected", "()Z"⟩ : MethodName)) (z := (⟨"com/example/lumenward/lumenward/model/RequestType", "isProtected", "()Z"⟩ : MethodName)) hown (mvT hZ (own_i hw 3 rfl)) (mvT hZ (own_i hw 4 rfl)) (notFace_of_selects (args := #[]) (mvT hZ (own_i hw 6 rfl))) (mvT hZ (own_i hw 6 rfl)) (mvT hZ (own_i hw 5 rfl)) (by decide) (backOf (W := 0) (rm1 l Z a0 hw [] wER (1 : Int32) (0 : Int32) h0 n0 Z0 O3_ER O7_ER) hZ (own_i hw 7 rfl) (own_i hw 1 rfl) (by decide) (by decide)) q117a q117c (g := (mkF m 54 #[.val (.int p1), .val (.int (p1 &&& (3 : Int32))), .val (.ref wER), .val (.int (0 : Int32))] [(.ref wER)])) rfl (by rw [hml]; rfl) (Steps.refl _) (argsL := []) (rest := []) (lenOf pd_0 rfl) rfl (by show 2 * 0 + _ ≤ _; exact Nat.le_of_eq rfl) (hb hby at_54) (fun _ _ => ⟨rfl, e116, (by decide : 0 + 0 ≤ _), (by decide : 0 + 0 ≤ _)⟩)
        dsimp only [Pt.U, Pt.locs, Pt.cells, Pt.slots] at X117 l117 y117 z117 st117 hQ117
        subst l117 y117 z117
        obtain ⟨rfl, N117q, e117⟩ := hQ117
        have N117 := Fr.app N0 N117q
        have hd118 : (own_prot (1 : Int32) (0 : Int32)) = (0 : Int32) := by decide
        have pre119 : ∀ t, Steps p.tables e below (T117.setTop (mkF m 66 #[.val (.int p1), .val (.int (p1 &&& (3 : Int32))), .val (.ref wER), .val (.int (0 : Int32))] [(.int (1 : Int32))])) t → Steps p.tables e below (s₁.setTop (entryFrame m #[(.int p1)] maxLocals)) t := fun t k => pre115 t (by
          show Steps p.tables e below (s₁.setTop (mkF m 29 #[.val (.int p1), .val (.int (p1 &&& (3 : Int32))), .unset, .unset] [(.int (2 : Int32)), (.int (p1 &&& (3 : Int32)))])) t
          refine XS.icmpNo X0.here hx rfl (hb hby at_29) rfl (teq hc114).2 ?_
          show Steps p.tables e below (s₁.setTop (mkF m 32 #[.val (.int p1), .val (.int (p1 &&& (3 : Int32))), .unset, .unset] [])) t
          refine st116 _ ?_
          show Steps p.tables e below (T116.setTop (mkF m 35 #[.val (.int p1), .val (.int (p1 &&& (3 : Int32))), .unset, .unset] [(.ref wER)])) t
          refine XS.astoreN X116.here hx rfl (hb hby at_35) rfl rfl (l' := #[.val (.int p1), .val (.int (p1 &&& (3 : Int32))), .val (.ref wER), .unset]) rfl ?_
          show Steps p.tables e below (T116.setTop (mkF m 36 #[.val (.int p1), .val (.int (p1 &&& (3 : Int32))), .val (.ref wER), .unset] [])) t
          refine XS.goto X116.here hx rfl (pc0 := 36) (pc' := 43) rfl (hb hby at_36) (by decide) (by decide) ?_
          show Steps p.tables e below (T116.setTop (mkF m 43 #[.val (.int p1), .val (.int (p1 &&& (3 : Int32))), .val (.ref wER), .unset] [])) t
          refine XS.iloadN X116.here hx rfl (hb hby at_43) rfl ?_
          show Steps p.tables e below (T116.setTop (mkF m 44 #[.val (.int p1), .val (.int (p1 &&& (3 : Int32))), .val (.ref wER), .unset] [(.int (p1 &&& (3 : Int32)))])) t
          refine XS.ifYes X116.here hx rfl (pc0 := 44) (pc' := 51) rfl (hb hby at_44) rfl ((if0 _ _).trans (feq hc102).2) (by decide) (by decide) ?_
          show Steps p.tables e below (T116.setTop (mkF m 51 #[.val (.int p1), .val (.int (p1 &&& (3 : Int32))), .val (.ref wER), .unset] [])) t
          refine XS.iconst X116.here hx rfl (hb hby at_51) ?_
          show Steps p.tables e below (T116.setTop (mkF m 52 #[.val (.int p1), .val (.int (p1 &&& (3 : Int32))), .val (.ref wER), .unset] [(.int (0 : Int32))])) t
          refine XS.istoreN X116.here hx rfl (hb hby at_52) rfl (l' := #[.val (.int p1), .val (.int (p1 &&& (3 : Int32))), .val (.ref wER), .val (.int (0 : Int32))]) rfl ?_
          show Steps p.tables e below (T116.setTop (mkF m 53 #[.val (.int p1), .val (.int (p1 &&& (3 : Int32))), .val (.ref wER), .val (.int (0 : Int32))] [])) t
          refine XS.aloadN X116.here hx rfl (hb hby at_53) rfl rfl ?_
          show Steps p.tables e below (T116.setTop (mkF m 54 #[.val (.int p1), .val (.int (p1 &&& (3 : Int32))), .val (.ref wER), .val (.int (0 : Int32))] [(.ref wER)])) t
          refine st117.trans ?_
          show Steps p.tables e below (T117.setTop (mkF m 57 #[.val (.int p1), .val (.int (p1 &&& (3 : Int32))), .val (.ref wER), .val (.int (0 : Int32))] [(.int (own_prot (1 : Int32) (0 : Int32)))])) t
          refine XS.iloadN X117.here hx rfl (hb hby at_57) rfl ?_
          show Steps p.tables e below (T117.setTop (mkF m 58 #[.val (.int p1), .val (.int (p1 &&& (3 : Int32))), .val (.ref wER), .val (.int (0 : Int32))] [(.int (0 : Int32)), (.int (own_prot (1 : Int32) (0 : Int32)))])) t
          refine XS.icmpNo X117.here hx rfl (hb hby at_58) rfl (teq hd118).2 ?_
          show Steps p.tables e below (T117.setTop (mkF m 61 #[.val (.int p1), .val (.int (p1 &&& (3 : Int32))), .val (.ref wER), .val (.int (0 : Int32))] [])) t
          refine XS.iconst X117.here hx rfl (hb hby at_61) ?_
          show Steps p.tables e below (T117.setTop (mkF m 62 #[.val (.int p1), .val (.int (p1 &&& (3 : Int32))), .val (.ref wER), .val (.int (0 : Int32))] [(.int (1 : Int32))])) t
          refine XS.goto X117.here hx rfl (pc0 := 62) (pc' := 66) rfl (hb hby at_62) (by decide) (by decide) ?_
          exact k)
        obtain ⟨fs, hr, hrun, hended, hW, hsame⟩ := X117.leave (v := some (.int (1 : Int32))) (fun h => by rw [Bd.returns] at h; cases h)
        refine ⟨_, _, pre119 _ ?_, hrun, hended, _, _, rfl, ?_, ⟨_, rfl⟩, hW, hsame.mono (by decide) (by decide)⟩
        · exact retN X117 hx (t := .boolean) Bd.returns (by simp) (hb hby at_66) hr
        · show Q0 Z p1 wIN wPS wER wLV h0 n0 _ T117.heap _
          rw [e117]
          exact ⟨rfl, N117⟩
      · obtain ⟨T120, X120, e120, st120⟩ := getS2 X0 hx hZ hown (host := "") (Or.inl (own_i hw 12 rfl)) Via.refl e0 S_PS (g := (mkF m 39 #[.val (.int p1), .val (.int (p1 &&& (3 : Int32))), .unset, .unset] [])) rfl (hb hby at_39)
        obtain ⟨cq121, kq121, q121a, q121b, q121c⟩ := isOf hZ e120 E_PS
        obtain ⟨_, _, ⟨T121, L121, k121, n121⟩, -, X121, ⟨Lc121, hQ121, l121, y121, z121⟩, st121⟩ := X120.virtualBack hx (y := (⟨"com/example/lumenward/lumenward/model/RequestType", "isProtected", "()Z"⟩ : MethodName)) (z := (⟨"com/example/lumenward/lumenward/model/RequestType", "isProtected", "()Z"⟩ : MethodName)) hown (mvT hZ (own_i hw 3 rfl)) (mvT hZ (own_i hw 4 rfl)) (notFace_of_selects (args := #[]) (mvT hZ (own_i hw 6 rfl))) (mvT hZ (own_i hw 6 rfl)) (mvT hZ (own_i hw 5 rfl)) (by decide) (backOf (W := 0) (rm1 l Z a0 hw [] wPS (1 : Int32) (1 : Int32) h0 n0 Z0 O2_PS O6_PS) hZ (own_i hw 7 rfl) (own_i hw 1 rfl) (by decide) (by decide)) q121a q121c (g := (mkF m 54 #[.val (.int p1), .val (.int (p1 &&& (3 : Int32))), .val (.ref wPS), .val (.int (0 : Int32))] [(.ref wPS)])) rfl (by rw [hml]; rfl) (Steps.refl _) (argsL := []) (rest := []) (lenOf pd_0 rfl) rfl (by show 2 * 0 + _ ≤ _; exact Nat.le_of_eq rfl) (hb hby at_54) (fun _ _ => ⟨rfl, e120, (by decide : 0 + 0 ≤ _), (by decide : 0 + 0 ≤ _)⟩)
        dsimp only [Pt.U, Pt.locs, Pt.cells, Pt.slots] at X121 l121 y121 z121 st121 hQ121
        subst l121 y121 z121
        obtain ⟨rfl, N121q, e121⟩ := hQ121
        have N121 := Fr.app N0 N121q
        have hd122 : (own_prot (1 : Int32) (1 : Int32)) = (0 : Int32) := by decide
        have pre123 : ∀ t, Steps p.tables e below (T121.setTop (mkF m 66 #[.val (.int p1), .val (.int (p1 &&& (3 : Int32))), .val (.ref wPS), .val (.int (0 : Int32))] [(.int (1 : Int32))])) t → Steps p.tables e below (s₁.setTop (entryFrame m #[(.int p1)] maxLocals)) t := fun t k => pre115 t (by
          show Steps p.tables e below (s₁.setTop (mkF m 29 #[.val (.int p1), .val (.int (p1 &&& (3 : Int32))), .unset, .unset] [(.int (2 : Int32)), (.int (p1 &&& (3 : Int32)))])) t
          refine XS.icmpYes X0.here hx rfl (pc0 := 29) (pc' := 39) rfl (hb hby at_29) rfl (feq hc114).2 (by decide) (by decide) ?_
          show Steps p.tables e below (s₁.setTop (mkF m 39 #[.val (.int p1), .val (.int (p1 &&& (3 : Int32))), .unset, .unset] [])) t
          refine st120 _ ?_
          show Steps p.tables e below (T120.setTop (mkF m 42 #[.val (.int p1), .val (.int (p1 &&& (3 : Int32))), .unset, .unset] [(.ref wPS)])) t
          refine XS.astoreN X120.here hx rfl (hb hby at_42) rfl rfl (l' := #[.val (.int p1), .val (.int (p1 &&& (3 : Int32))), .val (.ref wPS), .unset]) rfl ?_
          show Steps p.tables e below (T120.setTop (mkF m 43 #[.val (.int p1), .val (.int (p1 &&& (3 : Int32))), .val (.ref wPS), .unset] [])) t
          refine XS.iloadN X120.here hx rfl (hb hby at_43) rfl ?_
          show Steps p.tables e below (T120.setTop (mkF m 44 #[.val (.int p1), .val (.int (p1 &&& (3 : Int32))), .val (.ref wPS), .unset] [(.int (p1 &&& (3 : Int32)))])) t
          refine XS.ifYes X120.here hx rfl (pc0 := 44) (pc' := 51) rfl (hb hby at_44) rfl ((if0 _ _).trans (feq hc102).2) (by decide) (by decide) ?_
          show Steps p.tables e below (T120.setTop (mkF m 51 #[.val (.int p1), .val (.int (p1 &&& (3 : Int32))), .val (.ref wPS), .unset] [])) t
          refine XS.iconst X120.here hx rfl (hb hby at_51) ?_
          show Steps p.tables e below (T120.setTop (mkF m 52 #[.val (.int p1), .val (.int (p1 &&& (3 : Int32))), .val (.ref wPS), .unset] [(.int (0 : Int32))])) t
          refine XS.istoreN X120.here hx rfl (hb hby at_52) rfl (l' := #[.val (.int p1), .val (.int (p1 &&& (3 : Int32))), .val (.ref wPS), .val (.int (0 : Int32))]) rfl ?_
          show Steps p.tables e below (T120.setTop (mkF m 53 #[.val (.int p1), .val (.int (p1 &&& (3 : Int32))), .val (.ref wPS), .val (.int (0 : Int32))] [])) t
          refine XS.aloadN X120.here hx rfl (hb hby at_53) rfl rfl ?_
          show Steps p.tables e below (T120.setTop (mkF m 54 #[.val (.int p1), .val (.int (p1 &&& (3 : Int32))), .val (.ref wPS), .val (.int (0 : Int32))] [(.ref wPS)])) t
          refine st121.trans ?_
          show Steps p.tables e below (T121.setTop (mkF m 57 #[.val (.int p1), .val (.int (p1 &&& (3 : Int32))), .val (.ref wPS), .val (.int (0 : Int32))] [(.int (own_prot (1 : Int32) (1 : Int32)))])) t
          refine XS.iloadN X121.here hx rfl (hb hby at_57) rfl ?_
          show Steps p.tables e below (T121.setTop (mkF m 58 #[.val (.int p1), .val (.int (p1 &&& (3 : Int32))), .val (.ref wPS), .val (.int (0 : Int32))] [(.int (0 : Int32)), (.int (own_prot (1 : Int32) (1 : Int32)))])) t
          refine XS.icmpNo X121.here hx rfl (hb hby at_58) rfl (teq hd122).2 ?_
          show Steps p.tables e below (T121.setTop (mkF m 61 #[.val (.int p1), .val (.int (p1 &&& (3 : Int32))), .val (.ref wPS), .val (.int (0 : Int32))] [])) t
          refine XS.iconst X121.here hx rfl (hb hby at_61) ?_
          show Steps p.tables e below (T121.setTop (mkF m 62 #[.val (.int p1), .val (.int (p1 &&& (3 : Int32))), .val (.ref wPS), .val (.int (0 : Int32))] [(.int (1 : Int32))])) t
          refine XS.goto X121.here hx rfl (pc0 := 62) (pc' := 66) rfl (hb hby at_62) (by decide) (by decide) ?_
          exact k)
        obtain ⟨fs, hr, hrun, hended, hW, hsame⟩ := X121.leave (v := some (.int (1 : Int32))) (fun h => by rw [Bd.returns] at h; cases h)
        refine ⟨_, _, pre123 _ ?_, hrun, hended, _, _, rfl, ?_, ⟨_, rfl⟩, hW, hsame.mono (by decide) (by decide)⟩
        · exact retN X121 hx (t := .boolean) Bd.returns (by simp) (hb hby at_66) hr
        · show Q0 Z p1 wIN wPS wER wLV h0 n0 _ T121.heap _
          rw [e121]
          exact ⟨rfl, N121⟩
set_option maxRecDepth 65536 in
set_option maxHeartbeats 40000000 in
theorem comes_1 {Post : Tables → Env → Array Value → State → Outcome → State → Prop} (hpost : ∀ tb e args s v u, (limb_1_1.after args s (.returned v) u = true ∧ limb_1_2.after args s (.returned v) u = true ∧ True) → FrameEnd s (.returned v) u (Jvm.fieldLocs frame_1_writes args s ++ Jvm.arrayLocs frame_1_arrays args s ++ Jvm.staticLocs frame_1_statics s) 0 0 → Post tb e args s (.returned v) u) :
    ArmFor flags0 classFile x code maxLocals ret World_1 tables_1 room_1 Calls_1 rest_1 Pre_1 Post := by
  intro l hfl _ _ p e ha hc hk s m args below hf hA hF happ hP
  obtain ⟨hcalls, hrest, hpre⟩ := hP
  obtain ⟨-, -, -, hnamed, -, -, -, hat⟩ := (Spec.applies_iff hf).mp happ
  obtain ⟨hg, hn⟩ := and_e (Cond.before_iff.mp (show (Jvm.Cond.and given_1 narrow_1).before args s = true from hpre))
  obtain ⟨hga, hgb⟩ := and_e hg
  obtain ⟨w0, rfl⟩ : ∃ w0 : Value, args = #[w0] := by
    have hs : args.size = 1 := by simpa [Cond.value, given_1] using hga
    obtain ⟨L⟩ := args
    match L, hs with
    | [w0], _ => exact ⟨w0, rfl⟩
  have hw := fun d (hd : d ∈ tables_1) => atoms_spec (ws := Jvm.Cond.code x code maxLocals ret :: tables_1) hat d (List.mem_cons_of_mem _ hd)
  have hfit : Fit s := fun {y c} hc i hi => by
    obtain ⟨ha, rfl⟩ := Array.getElem?_eq_some_iff.mp hc
    have q := List.all_eq_true.mp ((Array.all_eq_true_iff_forall_mem.mp hF) _ (Array.getElem_mem ha)) i (List.mem_range.mpr hi)
    simpa [Array.getElem?_eq_getElem hi] using q
  obtain ⟨i0, ev0⟩ := is_v hgb
  obtain rfl : w0 = (.int i0) := Option.some.inj ev0
  obtain ⟨hna, hnb⟩ := and_e hn
  obtain ⟨hnba, hnbb⟩ := and_e hnb
  obtain ⟨hnbba, hnbbb⟩ := and_e hnbb
  obtain ⟨hnbbba, hnbbbb⟩ := and_e hnbbb
  obtain ⟨hnbbbba, hnbbbbb⟩ := and_e hnbbbb
  obtain ⟨hnbbbbba, hnbbbbbb⟩ := and_e hnbbbbb
  obtain ⟨hnbbbbbba, hnbbbbbbb⟩ := and_e hnbbbbbb
  obtain ⟨hnbbbbbbba, hnbbbbbbbb⟩ := and_e hnbbbbbbb
  obtain ⟨hnbbbbbbbba, hnbbbbbbbbb⟩ := and_e hnbbbbbbbb
  obtain ⟨hnbbbbbbbbba, hnbbbbbbbbbb⟩ := and_e hnbbbbbbbbb
  obtain ⟨hnbbbbbbbbbba, hnbbbbbbbbbbb⟩ := and_e hnbbbbbbbbbb
  obtain ⟨wIN, ev_IN, S_IN, E_IN⟩ := own_static hna (own_i hw 1 rfl) (own_i hw 2 rfl)
  obtain ⟨wPS, ev_PS, S_PS, E_PS⟩ := own_static hnbbba (own_i hw 1 rfl) (own_i hw 13 rfl)
  obtain ⟨wER, ev_ER, S_ER, E_ER⟩ := own_static hnbbbbba (own_i hw 1 rfl) (own_i hw 15 rfl)
  obtain ⟨wLV, ev_LV, S_LV, E_LV⟩ := own_static hnbbbbbbba (own_i hw 1 rfl) (own_i hw 17 rfl)
  have O0_IN := own_fieldI ev_IN hnba
  have O1_IN := own_fieldI ev_IN hnbba
  have O2_PS := own_fieldI ev_PS hnbbbba
  have O3_ER := own_fieldI ev_ER hnbbbbbba
  have O4_LV := own_fieldI ev_LV hnbbbbbbbba
  have O5_LV := own_fieldI ev_LV hnbbbbbbbbba
  have O6_PS := own_fieldI ev_PS hnbbbbbbbbbba
  have O7_ER := own_fieldI ev_ER hnbbbbbbbbbbb
  obtain ⟨n, o, h1, h2, h3, _, L, rfl, ⟨rfl, N⟩, hq⟩ := rm0 l s _ hw tables_1 i0 wIN wPS wER wLV s.heap s.heap.size (Nat.le_refl _) S_IN E_IN S_PS E_PS S_ER E_ER S_LV E_LV O0_IN O1_IN O2_PS O3_ER O4_LV O5_LV O6_PS O7_ER p e ha hc hk s m _ below hf ((Spec.applies_iff_loose hf).mp happ).1 ⟨rfl, State.Warmed39.refl s, rfl⟩ trivial
  refine ⟨n, _, h1, h2, h3, hpost _ _ _ _ _ _ ⟨Cond.after_iff.mpr rfl, Cond.after_iff.mpr (eq_i res_at (Term.int_eval (1)) rfl), trivial⟩ ⟨hq.1, hq.2.1, (hq.2.2.sift fun y hy => Or.inr (N y hy)).mono (by decide) (by decide)⟩⟩
theorem main_1_1 : Claimed_1_1 := comes_1 fun _ _ _ _ _ _ h hF => ⟨h.1, hF⟩
theorem main_1_2 : Claimed_1_2 := comes_1 fun _ _ _ _ _ _ h hF => ⟨h.2.1, hF⟩
end Jvm.Pilot.@@N@@
namespace Jvm.Pilot.@@N@@
open Jvm Jvm.ClassFile Sem Op Lib Jvm.Free Jvm.Stand Jvm.Pilot.@@N@@.Jvm.D
/-! MADE BY PROGRAM (witnessworld.py) out of the Statement's table words and the real class files: 12 classes; the members and pool entries that the words name. The judged class is class 1, her method 1. -/
namespace start1
open Jvm.ClassFile
def u (s : String) : CpInfo := .utf8 (stringToUtf16 s)
/-- a pool by its gaps: so many unusable entries, then the entry; so many at the end -/
def gap : Nat → List CpInfo → List CpInfo
  | 0, r => r
  | n + 1, r => .unusable :: gap n r
def poolList (es : List (Nat × CpInfo)) (last : Nat) : List CpInfo := es.foldr (fun e r => gap e.1 (e.2 :: r)) (gap last [])
def pool (es : List (Nat × CpInfo)) (last : Nat) : Array CpInfo := ⟨poolList es last⟩
def fileOf (pool : Array CpInfo) (this : Nat) (attrs : Array Attribute := #[]) (ms : Array MethodInfo := #[]) (fl : Nat := 33) (sup : Nat := 0) (ifs : Array Nat := #[]) (fds : Array FieldInfo := #[]) : ClassFile where
  minorVersion := 0
  majorVersion := 65
  constantPool := pool
  accessFlags := fl
  thisClass := this
  superClass := sup
  interfaces := ifs
  fields := fds
  methods := ms
  attributes := attrs
def plain (name : String) (sup : Option ClassId) : Class where
  name := name
  kind := .ordinary
  loader := none
  accessFlags := 33
  super := sup
  interfaces := #[]
  cf := none
  fields := #[]
  methods := #[]
  instanceTypes := #[]
  staticTypes := #[]
  resolved := #[]
  callSites := []
  init := .initialized
  statics := none
  mirror := none

def pool0 : Array CpInfo := pool [(5, u "<init>"), (0, u "()V"), (1, .class_ 10), (1, u "java/lang/Object")] 113

def k0m0 : Method := { name := "<init>", desc := "()V", sig := { parameters := [], returnType := none }, accessFlags := 1, code := none }
/-- java/lang/Object -/
def k0 : Class := { plain "java/lang/Object" none with
  accessFlags := 33
  interfaces := #[]
  cf := some (fileOf pool0 8 #[] #[{ accessFlags := 1, nameIndex := 5, descriptorIndex := 6, attributes := #[] }] 33 0 #[] #[])
  fields := #[]
  methods := #[k0m0]
  instanceTypes := #[]
  staticTypes := #[]
  resolved := Array.replicate 124 none
  statics := none }

def pool1 : Array CpInfo := pool [(2, .class_ 4), (1, u "java/lang/Object"), (0, u "<init>"), (0, u "()V"), (0, .fieldref 8 9), (0, .class_ 10), (0, .nameAndType 11 12), (0, u "com/example/lumenward/lumenward/model/RequestType"), (0, u "IN"), (0, u "Lcom/example/lumenward/lumenward/model/RequestType;"), (0, .fieldref 8 14), (0, .nameAndType 15 12), (0, u "LV"), (0, .fieldref 8 17), (0, .nameAndType 18 12), (0, u "ER"), (0, .fieldref 8 20), (0, .nameAndType 21 12), (0, u "PS"), (0, .methodref 8 23), (0, .nameAndType 24 25), (0, u "isProtected"), (0, u "()Z"), (0, .class_ 27), (0, u "com/example/lumenward/lumenward/model/RequestTypeIsProtectedPinLaw"), (2, u "law"), (0, u "(I)Z")] 3

def k1m0 : Method := { name := "<init>", desc := "()V", sig := { parameters := [], returnType := none }, accessFlags := 2, code := none }
def k1c1 : Code := { maxStack := 2, maxLocals := 4, code := code, exceptionTable := #[], attributes := #[] }
def k1m1 : Method := { name := "law", desc := "(I)Z", sig := { parameters := [.int], returnType := some .boolean }, accessFlags := 9, code := some k1c1 }
/-- com/example/lumenward/lumenward/model/RequestTypeIsProtectedPinLaw -/
def k1 : Class := { plain "com/example/lumenward/lumenward/model/RequestTypeIsProtectedPinLaw" (some 0) with
  accessFlags := 49
  interfaces := #[]
  cf := some (fileOf pool1 26 #[] #[{ accessFlags := 2, nameIndex := 5, descriptorIndex := 6, attributes := #[] }, { accessFlags := 9, nameIndex := 30, descriptorIndex := 31, attributes := #[] }] 49 2 #[] #[])
  fields := #[]
  methods := #[k1m0, k1m1]
  instanceTypes := #[]
  staticTypes := #[]
  resolved := Array.replicate 35 none
  statics := none }

def pool2 : Array CpInfo := pool [(1, .class_ 2), (0, u "java/lang/constant/Constable"), (0, .class_ 4), (0, u "java/lang/Object")] 6

/-- java/lang/constant/Constable -/
def k2 : Class := { plain "java/lang/constant/Constable" (some 0) with
  accessFlags := 1537
  interfaces := #[]
  cf := some (fileOf pool2 1 #[] #[] 1537 3 #[] #[])
  fields := #[]
  methods := #[]
  instanceTypes := #[]
  staticTypes := #[]
  resolved := Array.replicate 11 none
  statics := none }

def pool3 : Array CpInfo := pool [(1, .class_ 2), (0, u "java/lang/Comparable"), (0, .class_ 4), (0, u "java/lang/Object")] 7

/-- java/lang/Comparable -/
def k3 : Class := { plain "java/lang/Comparable" (some 0) with
  accessFlags := 1537
  interfaces := #[]
  cf := some (fileOf pool3 1 #[] #[] 1537 3 #[] #[])
  fields := #[]
  methods := #[]
  instanceTypes := #[]
  staticTypes := #[]
  resolved := Array.replicate 12 none
  statics := none }

def pool4 : Array CpInfo := pool [(1, .class_ 2), (0, u "java/io/Serializable"), (0, .class_ 4), (0, u "java/lang/Object")] 2

/-- java/io/Serializable -/
def k4 : Class := { plain "java/io/Serializable" (some 0) with
  accessFlags := 1537
  interfaces := #[]
  cf := some (fileOf pool4 1 #[] #[] 1537 3 #[] #[])
  fields := #[]
  methods := #[]
  instanceTypes := #[]
  staticTypes := #[]
  resolved := Array.replicate 7 none
  statics := none }

def pool5 : Array CpInfo := pool [(2, .class_ 4), (1, u "java/lang/Enum"), (0, u "name"), (0, u "Ljava/lang/String;"), (2, u "ordinal"), (0, u "I"), (1, .class_ 14), (1, u "java/lang/Object"), (4, u "hash"), (86, .class_ 108), (1, u "java/lang/Enum$EnumDesc"), (2, .class_ 112), (0, u "java/lang/constant/Constable"), (0, .class_ 114), (0, u "java/lang/Comparable"), (0, .class_ 116), (0, u "java/io/Serializable")] 87

/-- java/lang/Enum -/
def k5 : Class := { plain "java/lang/Enum" (some 0) with
  accessFlags := 1057
  interfaces := #[2, 3, 4]
  cf := some (fileOf pool5 2 #[.nestMembers #[106]] #[] 1057 12 #[111, 113, 115] #[{ accessFlags := 18, nameIndex := 5, descriptorIndex := 6, attributes := #[] }, { accessFlags := 18, nameIndex := 9, descriptorIndex := 10, attributes := #[] }, { accessFlags := 2, nameIndex := 19, descriptorIndex := 10, attributes := #[] }])
  fields := #[{ name := "name", type := (.object "java/lang/String"), accessFlags := 18, slot := 0, constantValue := 0 }, { name := "ordinal", type := .int, accessFlags := 18, slot := 1, constantValue := 0 }, { name := "hash", type := .int, accessFlags := 2, slot := 2, constantValue := 0 }]
  methods := #[]
  instanceTypes := #[(.object "java/lang/String"), .int, .int]
  staticTypes := #[]
  resolved := Array.replicate 204 none
  statics := none }

def pool6 : Array CpInfo := pool [(1, .class_ 2), (0, u "com/example/lumenward/lumenward/model/RequestType"), (2, u "IN"), (0, u "Lcom/example/lumenward/lumenward/model/RequestType;"), (2, u "LV"), (2, u "ER"), (2, u "PS"), (2, u "$VALUES"), (0, u "[Lcom/example/lumenward/lumenward/model/RequestType;"), (6, .class_ 28), (1, u "java/lang/Enum"), (8, u "label"), (0, u "Ljava/lang/String;"), (0, .fieldref 1 40), (0, .nameAndType 41 42), (0, u "enters"), (0, u "Z"), (0, .fieldref 1 44), (0, .nameAndType 45 42), (0, u "leaves"), (48, u "isProtected"), (0, u "()Z")] 75

def k6c0 : Code := { maxStack := 1, maxLocals := 1, code := prog_28_method_8_code, exceptionTable := #[], attributes := #[] }
def k6m0 : Method := { name := "isProtected", desc := "()Z", sig := { parameters := [], returnType := some .boolean }, accessFlags := 1, code := some k6c0 }
/-- com/example/lumenward/lumenward/model/RequestType -/
def k6 : Class := { plain "com/example/lumenward/lumenward/model/RequestType" (some 5) with
  accessFlags := 16433
  interfaces := #[]
  cf := some (fileOf pool6 1 #[] #[{ accessFlags := 1, nameIndex := 94, descriptorIndex := 95, attributes := #[] }] 16433 26 #[] #[{ accessFlags := 16409, nameIndex := 5, descriptorIndex := 6, attributes := #[] }, { accessFlags := 16409, nameIndex := 9, descriptorIndex := 6, attributes := #[] }, { accessFlags := 16409, nameIndex := 12, descriptorIndex := 6, attributes := #[] }, { accessFlags := 16409, nameIndex := 15, descriptorIndex := 6, attributes := #[] }, { accessFlags := 18, nameIndex := 37, descriptorIndex := 38, attributes := #[] }, { accessFlags := 18, nameIndex := 41, descriptorIndex := 42, attributes := #[] }, { accessFlags := 18, nameIndex := 45, descriptorIndex := 42, attributes := #[] }, { accessFlags := 4122, nameIndex := 18, descriptorIndex := 19, attributes := #[] }])
  fields := #[{ name := "IN", type := (.object "com/example/lumenward/lumenward/model/RequestType"), accessFlags := 16409, slot := 0, constantValue := 0 }, { name := "LV", type := (.object "com/example/lumenward/lumenward/model/RequestType"), accessFlags := 16409, slot := 1, constantValue := 0 }, { name := "ER", type := (.object "com/example/lumenward/lumenward/model/RequestType"), accessFlags := 16409, slot := 2, constantValue := 0 }, { name := "PS", type := (.object "com/example/lumenward/lumenward/model/RequestType"), accessFlags := 16409, slot := 3, constantValue := 0 }, { name := "label", type := (.object "java/lang/String"), accessFlags := 18, slot := 3, constantValue := 0 }, { name := "enters", type := .boolean, accessFlags := 18, slot := 4, constantValue := 0 }, { name := "leaves", type := .boolean, accessFlags := 18, slot := 5, constantValue := 0 }, { name := "$VALUES", type := (.array (.object "com/example/lumenward/lumenward/model/RequestType")), accessFlags := 4122, slot := 4, constantValue := 0 }]
  methods := #[k6m0]
  instanceTypes := #[(.object "java/lang/String"), .int, .int, (.object "java/lang/String"), .boolean, .boolean]
  staticTypes := #[(.object "com/example/lumenward/lumenward/model/RequestType"), (.object "com/example/lumenward/lumenward/model/RequestType"), (.object "com/example/lumenward/lumenward/model/RequestType"), (.object "com/example/lumenward/lumenward/model/RequestType"), (.array (.object "com/example/lumenward/lumenward/model/RequestType"))]
  resolved := Array.replicate 171 none
  statics := some 0 }

def pool7 : Array CpInfo := pool [(1, u "java/lang/Cloneable"), (0, .class_ 1), (0, u "java/lang/Object"), (0, .class_ 3)] 3

/-- java/lang/Cloneable -/
def k7 : Class := { plain "java/lang/Cloneable" (some 0) with
  accessFlags := 1537
  interfaces := #[]
  cf := some (fileOf pool7 2 #[] #[] 1537 4 #[] #[])
  fields := #[]
  methods := #[]
  instanceTypes := #[]
  staticTypes := #[]
  resolved := Array.replicate 8 none
  statics := none }

/-- the primitive byte -/
def k8 : Class := { plain "byte" none with kind := .primitive 'B', accessFlags := 0x411 }
/-- [B -/
def k9 : Class := { plain "[B" (some 0) with kind := .array 8 .byte, interfaces := #[7, 4], accessFlags := 1041 }

/-- the primitive int -/
def k10 : Class := { plain "int" none with kind := .primitive 'I', accessFlags := 0x411 }
/-- [I -/
def k11 : Class := { plain "[I" (some 0) with kind := .array 10 .int, interfaces := #[7, 4], accessFlags := 1041 }

def heap : Heap := #[{ cls := 6, slots := #[.ref 1, .ref 2, .ref 3, .ref 4, .null], vm := .statics 6 },
  { cls := 6, slots := #[.null, .int 0, .int 0, .null, .int 0, .int 0], vm := .none },
  { cls := 6, slots := #[.null, .int 1, .int 0, .null, .int 0, .int 1], vm := .none },
  { cls := 6, slots := #[.null, .int 2, .int 0, .null, .int 1, .int 0], vm := .none },
  { cls := 6, slots := #[.null, .int 3, .int 0, .null, .int 1, .int 1], vm := .none }]
def classes : Array Class := #[k0, k1, k2, k3, k4, k5, k6, k7, k8, k9, k10, k11]
def interned : List (Array UInt16 × Addr) := []
def slotsUsed : Nat := 29
def theMethod : MethodId := ⟨1, 1⟩
def args0 : Array Value := #[.int 5]
def aboutOver (below : List Frame) : State where
  vm := { classes := classes, interned := interned.toArray }
  heap := heap
  slotsUsed := slotsUsed
  threads := #[{ frames := .invoking theMethod args0 :: below }]
def below0 : List Frame := [.native { method := ⟨0, 0⟩, args := #[] }]
def about1 : State := aboutOver below0
def p0 : Program := .bare "" "" ""
def e0 : Env := launch0.env 0 0 0
theorem w_frames : about1.frames = Frame.invoking theMethod args0 :: below0 := rfl
set_option maxRecDepth 65536 in
theorem w_args : argsFit about1.vm theMethod args0 = true := by decide +kernel
set_option maxRecDepth 65536 in
theorem w_heap : heapFits about1 = true := by decide +kernel
set_option maxRecDepth 65536 in
theorem w_runnable : about1.curStatus? = some .runnable := by decide +kernel
set_option maxRecDepth 65536 in
theorem w_alone : about1.alone = true := by decide +kernel
set_option maxRecDepth 65536 in
theorem w_named : about1.methodNamed? x = some theMethod := by decide +kernel
set_option maxRecDepth 65536 in
theorem w_hears : about1.hears theMethod below0 = true := by decide +kernel
set_option maxRecDepth 65536 in
theorem w_ripe : about1.ripe theMethod args0 below0 = true := by decide +kernel
theorem w_running : about1.status = .running := rfl
set_option maxRecDepth 65536 in
theorem w_room : about1.hasRoom e0.platform room_1 = true :=
  launch0.hasRoom_least _ room_1 (by decide +kernel) (by decide +kernel) (by decide +kernel) (by decide +kernel) (by decide +kernel) (by decide +kernel)
theorem allAtoms_all (ts : List Jvm.Cond) (a : Array Jvm.Value) (st : Jvm.State) : (allAtoms ts).before a st = ts.all (fun c => c.before a st) := by
  induction ts with
  | nil => rfl
  | cons c t ih =>
    show (Jvm.Cond.and c (allAtoms t)).before a st = _
    rw [Jvm.Cond.before_and, ih, List.all_cons]
def words1 : List Jvm.Cond := Jvm.Cond.code x code maxLocals ret :: tables_1
/-- a 'code' word, met by the world's own term for the bytes: nothing is compared byte by byte -/
theorem code_word {y : MethodName} {bytes : ByteArray} {mx : Nat} {rt : Option FieldType} {a : Array Value} {s : State} {m : MethodId} {meth : Method} {c : Code} (h1 : s.methodNamed? y = some m) (h2 : s.vm.method? m = some meth) (h3 : meth.code = some c) (h4 : c.code = bytes)
    (h5 : (c.maxLocals == mx && c.exceptionTable.isEmpty && decide (c.maxStack ≤ mostOperands) && decide (meth.sig.returnType = rt) && !meth.locks && decide (parseMethodDescriptor y.desc = some meth.sig)) = true) : (Jvm.Cond.code y bytes mx rt).before a s = true := by
  simp only [Bool.and_eq_true, beq_iff_eq, Bool.not_eq_true', decide_eq_true_eq] at h5
  obtain ⟨⟨⟨⟨⟨g1, g2⟩, g3⟩, g4⟩, g5⟩, g6⟩ := h5
  simp [Cond.before, Cond.holds, Cond.value, h1, h2, h3, h4, g1, g2, g3, g4, g5, g6]
def isCode : Jvm.Cond → Bool
  | .code _ _ _ _ => true
  | _ => false
theorem all_split {L : List Jvm.Cond} {P : Jvm.Cond → Bool} (h1 : L.all (fun c => isCode c || P c) = true) (h2 : ∀ c ∈ L.filter isCode, P c = true) : L.all P = true := by
  refine List.all_eq_true.mpr fun c hc => ?_
  have h := List.all_eq_true.mp h1 c hc
  rcases Bool.eq_false_or_eq_true (isCode c) with hi | hi
  · exact h2 c (List.mem_filter.mpr ⟨hc, hi⟩)
  · simpa [hi] using h
set_option maxRecDepth 65536 in
theorem w_c0 : (Jvm.Cond.code x code maxLocals ret).before args0 about1 = true := code_word (m := ⟨1, 1⟩) (meth := k1m1) (c := k1c1) (by decide +kernel) rfl rfl rfl (by decide +kernel)
set_option maxRecDepth 65536 in
theorem w_c1 : (Jvm.Cond.code ({ cls := "com/example/lumenward/lumenward/model/RequestType", name := "isProtected", desc := "()Z" } : Jvm.MethodName) prog_28_method_8_code (1 : Nat) (Option.some Jvm.ClassFile.FieldType.boolean)).before args0 about1 = true := code_word (m := ⟨6, 0⟩) (meth := k6m0) (c := k6c0) (by decide +kernel) rfl rfl rfl (by decide +kernel)
def codes1 : List Jvm.Cond := [Jvm.Cond.code x code maxLocals ret, Jvm.Cond.code ({ cls := "com/example/lumenward/lumenward/model/RequestType", name := "isProtected", desc := "()Z" } : Jvm.MethodName) prog_28_method_8_code (1 : Nat) (Option.some Jvm.ClassFile.FieldType.boolean)]
set_option maxRecDepth 65536 in
theorem codes_eq : words1.filter isCode = codes1 := rfl
theorem w_codes : ∀ c ∈ words1.filter isCode, c.before args0 about1 = true := by
  rw [codes_eq]
  intro c hc
  simp only [codes1, List.mem_cons, List.not_mem_nil, or_false] at hc
  rcases hc with rfl | rfl
  · exact w_c0
  · exact w_c1
set_option maxRecDepth 65536 in
theorem w_t1 : words1.all (fun c => isCode c || c.before args0 about1) = true := by decide +kernel
theorem w_tables : (allAtoms (Jvm.Cond.code x code maxLocals ret :: tables_1)).before args0 about1 = true := by
  rw [allAtoms_all]
  show words1.all (fun c => c.before args0 about1) = true
  refine all_split ?_ w_codes
  rw [w_t1]
set_option maxRecDepth 65536 in
theorem w_case : (Jvm.Cond.and given_1 narrow_1).before args0 about1 = true := by decide +kernel
theorem w_applies : (headSpec (Jvm.Cond.code x code maxLocals ret :: tables_1) room_1).applies x e0.platform about1 = true :=
  (Spec.applies_iff w_frames).mpr ⟨w_running, w_runnable, w_alone, w_named, w_hears, w_ripe, w_room, w_tables⟩
theorem atStart : AtStart classFile x code maxLocals ret World_1 tables_1 room_1 Calls_1 rest_1 Pre_1 launch0 p0 e0 about1 theMethod args0 below0 :=
  ⟨lists_1, trivial, launch0.admits_env _ _ _, launch0.least_env, fairChoices_fair.cas, fairChoices_fair.clock, w_frames, w_args, w_heap, w_applies, trivial, trivial, w_case⟩
end start1
theorem witness_1 : WitnessClaimed_1 := ⟨start1.p0, start1.e0, start1.about1, start1.theMethod, start1.args0, start1.below0, start1.atStart⟩
end Jvm.Pilot.@@N@@
