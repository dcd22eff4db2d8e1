import JvmDerived
import JvmDerived.Pilot.@@N@@Statement
import JvmDerived.Pilot.@@N@@Code
set_option linter.unusedVariables false
set_option linter.unusedSimpArgs false
namespace Jvm.RoadKit
open Sem ClassFile Op Lib Jvm.Stand Jvm.Free Jvm.LawKit
section New
variable {p : Program} {l : Launch} {e : Env} {R : Room} {s : State} {m : MethodId} {args : Array Value} {below : List Frame} {meth : Method} {c : Code} {T : State} {locs : List Loc} {cells slots : Nat}
theorem retI (X : Stand p l e R s m args below meth c T locs cells slots) (hx : p.tables.exec = Jvm.exec) {pc : Nat} {Ls : Array Slot} {z : Int32} {rest : List Value} (hret : meth.sig.returnType = some .int) (hd : decode c.code pc = .ok (.ireturn, 1)) {fs : List Frame}
    (hl : ∀ (f : JFrame) (acts : List Action), f.method = m → f.locked = none → f.entered = [] → (doReturn e (T.setTop f) acts (some (.int z))).1 = T.setFrames fs) : Steps p.tables e below (T.setTop (mkF m pc Ls (.int z :: rest))) (T.setFrames fs) := by
  have hm' : T.vm.method? m = some meth := X.method'
  have hn : narrow .int (.int z) = .int z := rfl
  show Steps p.tables e below (T.setTop { method := m, pc := pc, locals := Ls, stack := _ :: rest, locked := none }) _
  jvm_step X.here [X.here.top, hx, hd, hm', hret, hn]
  first | (intro acts; rw [hl _ acts rfl rfl rfl]) | rw [hl _ _ rfl rfl rfl]
  exact Steps.refl _
end New
end Jvm.RoadKit
namespace Jvm.Pilot.@@N@@
open Jvm Jvm.ClassFile Sem Op Lib Jvm.Free Jvm.Stand Jvm.LawKit Jvm.RoadKit Bundle Jvm.Pilot.@@N@@.Jvm.D
theorem own_i {L : List Jvm.Cond} {a0 : Array Value} {Z : State} (hw : ∀ d ∈ L, d.before a0 Z = true) (i : Nat) {d : Jvm.Cond} (h : L[i]? = some d) : d.before a0 Z = true := hw _ (List.mem_of_getElem? h)
theorem d1_0 : decode prog_24_method_5_code 0 = .ok (.invokestatic 33, 3) := by decide +kernel
theorem d1_3 : decode prog_24_method_5_code 3 = .ok (.astore_n 1, 1) := by decide +kernel
theorem d1_4 : decode prog_24_method_5_code 4 = .ok (.aload_n 1, 1) := by decide +kernel
theorem d1_5 : decode prog_24_method_5_code 5 = .ok (.arraylength, 1) := by decide +kernel
theorem d1_6 : decode prog_24_method_5_code 6 = .ok (.istore_n 2, 1) := by decide +kernel
theorem d1_7 : decode prog_24_method_5_code 7 = .ok (.iconst 0, 1) := by decide +kernel
theorem d1_8 : decode prog_24_method_5_code 8 = .ok (.istore_n 3, 1) := by decide +kernel
theorem d1_9 : decode prog_24_method_5_code 9 = .ok (.iload_n 3, 1) := by decide +kernel
theorem d1_10 : decode prog_24_method_5_code 10 = .ok (.iload_n 2, 1) := by decide +kernel
theorem d1_11 : decode prog_24_method_5_code 11 = .ok (.if_icmp .ge 26, 3) := by decide +kernel
theorem d1_14 : decode prog_24_method_5_code 14 = .ok (.aload_n 1, 1) := by decide +kernel
theorem d1_15 : decode prog_24_method_5_code 15 = .ok (.iload_n 3, 1) := by decide +kernel
theorem d1_16 : decode prog_24_method_5_code 16 = .ok (.aaload, 1) := by decide +kernel
theorem d1_17 : decode prog_24_method_5_code 17 = .ok (.astore 4, 2) := by decide +kernel
theorem d1_19 : decode prog_24_method_5_code 19 = .ok (.aload 4, 2) := by decide +kernel
theorem d1_21 : decode prog_24_method_5_code 21 = .ok (.getfield 29, 3) := by decide +kernel
theorem d1_24 : decode prog_24_method_5_code 24 = .ok (.iload_n 0, 1) := by decide +kernel
theorem d1_25 : decode prog_24_method_5_code 25 = .ok (.if_icmp .ne 6, 3) := by decide +kernel
theorem d1_28 : decode prog_24_method_5_code 28 = .ok (.aload 4, 2) := by decide +kernel
theorem d1_30 : decode prog_24_method_5_code 30 = .ok (.areturn, 1) := by decide +kernel
theorem d1_31 : decode prog_24_method_5_code 31 = .ok (.iinc 3 1, 3) := by decide +kernel
theorem d1_34 : decode prog_24_method_5_code 34 = .ok (.goto (-25), 3) := by decide +kernel
theorem d2_0 : decode prog_24_method_1_code 0 = .ok (.getstatic 10, 3) := by decide +kernel
theorem d2_3 : decode prog_24_method_1_code 3 = .ok (.invokevirtual 14, 3) := by decide +kernel
theorem d2_6 : decode prog_24_method_1_code 6 = .ok (.checkcast 15, 3) := by decide +kernel
theorem d2_9 : decode prog_24_method_1_code 9 = .ok (.areturn, 1) := by decide +kernel
theorem d3_0 : decode prog_24_method_4_code 0 = .ok (.aload_n 0, 1) := by decide +kernel
theorem d3_1 : decode prog_24_method_4_code 1 = .ok (.getfield 29, 3) := by decide +kernel
theorem d3_4 : decode prog_24_method_4_code 4 = .ok (.ireturn, 1) := by decide +kernel
theorem own_static {args : Array Value} {s : State} {C n d K : String} (h : (Jvm.Cond.exactly (Jvm.Term.static C n d) K).value args s none s [] = some true) (hi : (Jvm.Cond.initialized C).before args s = true) (hl : (Jvm.Cond.laysStatic C n d).before args s = true) : ∃ a, (Jvm.Term.static C n d).eval args s none [] s = some (.ref a) ∧ Sta s s.heap C n d (.ref a) ∧ Exa s s.heap a K := by
  obtain ⟨a, ev⟩ := exa_v h
  exact ⟨a, ev, Sta.start ev (Or.inr ⟨hi, hl⟩), Exa.start ev h⟩
theorem own_fieldI {args : Array Value} {s : State} {t : Jvm.Term} {C n d : String} {a : Addr} {k : Int32} (ht : t.eval args s none [] s = some (.ref a)) (h : (Jvm.Cond.eq (Jvm.Term.field t C n d) (Jvm.Term.int k)).value args s none s [] = some true) : Fld s s.heap a C n d (.int k) := by
  obtain ⟨x, y, ex, ey, -, ky⟩ := cmp_v (Or.inl h)
  have ey' : some (Value.int k) = some y := ey
  cases ey'
  obtain ⟨z, rfl⟩ := ky
  have hz : z = k := gotT (Cond.eq_ints ex (Term.int_eval k)) h
  subst hz
  exact Fld.start ((fld_at ht).symm.trans ex)
theorem pn_com_example_bookish_search_bookishsearch_feedback_Mark : plainName "com/example/bookish_search/bookishsearch/feedback/Mark" = true := by first | (simp [plainName, overriddenIn]; done) | decide +kernel
theorem ef_rm2 (m : MethodId)  : entryFrame m #[] 0 = mkF m 0 #[] [] := by first | (simp [entryFrame, mkF, argsToLocals, Value.category]; done) | rfl
def Q2 (Z : State) (wR : Addr) (wN : Addr) (wV : Addr) (kV : ClassId) (h0 : Heap) (n0 : Nat) (v : Option Value) (h : Heap) (L : List Loc) : Prop := ∃ (b : Addr), v = some (.ref b) ∧ Fr n0 L ∧ Keep h0 h [] ∧ (n0 ≤ b) ∧ (Exa Z h b "[Lcom/example/bookish_search/bookishsearch/feedback/Mark;") ∧ (Arv Z h b kV (.object "com/example/bookish_search/bookishsearch/feedback/Mark") (2 : Int32) [(.ref wR), (.ref wN)] .null)
set_option maxRecDepth 65536 in
set_option maxHeartbeats 40000000 in
theorem rm2 (l : Launch) (Z : State) (a0 : Array Value) (hw : ∀ d ∈ tables_1, d.before a0 Z = true) (ws : List Jvm.Cond) (wR : Addr) (wN : Addr) (wV : Addr) (kV : ClassId) (h0 : Heap) (n0 : Nat) (Z0 : n0 ≤ h0.size) (SV : Sta Z h0 "com/example/bookish_search/bookishsearch/feedback/Mark" "$VALUES" "[Lcom/example/bookish_search/bookishsearch/feedback/Mark;" (.ref wV)) (AV : Arv Z h0 wV kV (.object "com/example/bookish_search/bookishsearch/feedback/Mark") (2 : Int32) [(.ref wR), (.ref wN)] .null) (EV : Exa Z h0 wV "[Lcom/example/bookish_search/bookishsearch/feedback/Mark;") :
    MetFree l (⟨"com/example/bookish_search/bookishsearch/feedback/Mark", "values", "()[Lcom/example/bookish_search/bookishsearch/feedback/Mark;"⟩ : MethodName) (head1 (Jvm.Cond.code (⟨"com/example/bookish_search/bookishsearch/feedback/Mark", "values", "()[Lcom/example/bookish_search/bookishsearch/feedback/Mark;"⟩ : MethodName) prog_24_method_1_code 0 (some (.array (.object "com/example/bookish_search/bookishsearch/feedback/Mark"))) :: ws) ({ frames := 1, cells := 1, slots := 2, locals := 14 } : Room)) (fun a U => a = #[] ∧ Z.Warmed39 U.vm ∧ U.heap = h0) (fun _ _ _ _ _ => True) (fun _ U o U' => ∃ v L, o = .returned v ∧ Q2 Z wR wN wV kV h0 n0 v U'.heap L ∧ FrameEnd U o U' L ({ frames := 1, cells := 1, slots := 2, locals := 14 } : Room).cells ({ frames := 1, cells := 1, slots := 2, locals := 14 } : Room).slots) := by
  refine MetFree.of_bodySF (plainFor_of_name pn_com_example_bookish_search_bookishsearch_feedback_Mark) hisR ?_
  intro p e s m args below meth c s₁ Bd hml0 hP hK
  obtain ⟨rfl, hZ, hh⟩ := hP
  have hx := Bd.exec
  have hby := Bd.bytes
  have hml : c.maxLocals = 0 := hml0
  have hown : s.vm.findClass "com/example/bookish_search/bookishsearch/feedback/Mark" = some m.cls := findClass_of_methodNamed Bd.named
  have hnm := (name_of_methodNamed Bd.named Bd.method).1
  have X0 : Stand p l e ({ frames := 1, cells := 1, slots := 2, locals := 14 } : Room) s m #[] below meth c s₁ [] 0 0 := Stand.of_body Bd
  have e0 : s₁.heap = h0 := by rw [← hh, Bd.state]; rfl
  have N0 := Fr.nil n0
  have pre0 : ∀ t, Steps p.tables e below (s₁.setTop (mkF m 0 #[] [])) t → Steps p.tables e below (s₁.setTop (entryFrame m #[] 0)) t := fun t k => castTop (ef_rm2 m ) k
  have f101 := Keep.refl h0 []
  obtain ⟨T102, X102, e102, st102⟩ := getS2 X0 hx hZ hown (host := "") (Or.inl (own_i hw 7 rfl)) Via.refl e0 SV (g := (mkF m 0 #[] [])) rfl (hb hby d2_0)
  obtain ⟨T103, h103, X103, e103, E103, V103, A103, st103⟩ := cloneH X102 hx hZ hown (own_i hw 9 rfl) (own_i hw 10 rfl) (own_i hw 14 rfl) (own_i hw 12 rfl) (own_i hw 13 rfl) (own_i hw 15 rfl) e102 AV.arh EV (g := (mkF m 3 #[] [(.ref wV)])) rfl (by rw [hml]; rfl) rfl (hb hby d2_3) (by decide) (W := 0) (cap := 2) (by show 2 * 0 + _ ≤ _; exact Nat.le_of_eq rfl) (by decide) (by decide) (by decide) (by decide)
  obtain ⟨b103, g103⟩ : ∃ z, z = h0.size := ⟨_, rfl⟩
  rw [← g103] at A103 V103 st103
  have ne104 : wV ≠ b103 := Nat.ne_of_lt (Nat.lt_of_lt_of_le AV.lt (Nat.le_of_eq g103.symm))
  have ga105 : n0 ≤ b103 := Nat.le_trans Z0 (Nat.le_of_eq g103.symm)
  have sz106 : h0.size ≤ b103 := Nat.le_trans f101.1 (Nat.le_of_eq g103.symm)
  have f107 := Nat.le_trans Z0 E103.1
  have f108 := SV.ext E103
  have f109 := AV.ext E103
  have f110 := EV.ext E103
  have f111 := f101.ext E103
  obtain ⟨T112, X112, e112, st112⟩ := castY X103 hx hZ hown (own_i hw 19 rfl) e103 (Ins.self A103) (g := (mkF m 6 #[] [(.ref b103)])) rfl rfl (hb hby d2_6)
  have pre113 : ∀ t, Steps p.tables e below (T112.setTop (mkF m 9 #[] [(.ref b103)])) t → Steps p.tables e below (s₁.setTop (entryFrame m #[] 0)) t := fun t k => pre0 t (by
    show Steps p.tables e below (s₁.setTop (mkF m 0 #[] [])) t
    refine st102 _ ?_
    show Steps p.tables e below (T102.setTop (mkF m 3 #[] [(.ref wV)])) t
    refine st103 _ ?_
    show Steps p.tables e below (T103.setTop (mkF m 6 #[] [(.ref b103)])) t
    refine st112 _ ?_
    exact k)
  obtain ⟨fs, hr, hrun, hended, hW, hsame⟩ := X112.leave (v := some (.ref b103)) (fun h => by rw [Bd.returns] at h; cases h)
  refine ⟨_, _, pre113 _ ?_, hrun, hended, _, _, rfl, ?_, ⟨_, rfl⟩, hW, hsame.mono (by decide) (by decide)⟩
  · exact retOut X112 hx Bd.returns rfl (Or.inr (Or.inr (Or.inr (Or.inr ⟨rfl, rfl, rfl⟩)))) (hb hby d2_9) hr
  · show Q2 Z wR wN wV kV h0 n0 _ T112.heap _
    rw [e112]
    exact ⟨b103, rfl, N0, f111, ga105, A103, V103⟩
theorem pd_0 : parseMethodDescriptor "()[Lcom/example/bookish_search/bookishsearch/feedback/Mark;" = some ⟨[], some (.array (.object "com/example/bookish_search/bookishsearch/feedback/Mark"))⟩ := by decide +kernel
theorem ef_rm1p (m : MethodId)  : entryFrame m #[(.int (43 : Int32))] 5 = mkF m 0 #[.val (.int (43 : Int32)), .unset, .unset, .unset, .unset] [] := by first | (simp [entryFrame, mkF, argsToLocals, Value.category]; done) | rfl
def Q1p (Z : State) (wR : Addr) (wN : Addr) (wV : Addr) (kV : ClassId) (h0 : Heap) (n0 : Nat) (v : Option Value) (h : Heap) (L : List Loc) : Prop := v = some (.ref wR) ∧ Fr n0 L ∧ Keep h0 h []
set_option maxRecDepth 65536 in
set_option maxHeartbeats 40000000 in
theorem rm1p (l : Launch) (Z : State) (a0 : Array Value) (hw : ∀ d ∈ tables_1, d.before a0 Z = true) (ws : List Jvm.Cond) (wR : Addr) (wN : Addr) (wV : Addr) (kV : ClassId) (h0 : Heap) (n0 : Nat) (Z0 : n0 ≤ h0.size) (SV : Sta Z h0 "com/example/bookish_search/bookishsearch/feedback/Mark" "$VALUES" "[Lcom/example/bookish_search/bookishsearch/feedback/Mark;" (.ref wV)) (AV : Arv Z h0 wV kV (.object "com/example/bookish_search/bookishsearch/feedback/Mark") (2 : Int32) [(.ref wR), (.ref wN)] .null) (EV : Exa Z h0 wV "[Lcom/example/bookish_search/bookishsearch/feedback/Mark;") (ER : Exa Z h0 wR "com/example/bookish_search/bookishsearch/feedback/Mark") (EN : Exa Z h0 wN "com/example/bookish_search/bookishsearch/feedback/Mark") (FR : Fld Z h0 wR "com/example/bookish_search/bookishsearch/feedback/Mark" "symbol" "C" (.int (43 : Int32))) (FN : Fld Z h0 wN "com/example/bookish_search/bookishsearch/feedback/Mark" "symbol" "C" (.int (45 : Int32))) :
    MetFree l (⟨"com/example/bookish_search/bookishsearch/feedback/Mark", "forSymbol", "(C)Lcom/example/bookish_search/bookishsearch/feedback/Mark;"⟩ : MethodName) (head1 (Jvm.Cond.code (⟨"com/example/bookish_search/bookishsearch/feedback/Mark", "forSymbol", "(C)Lcom/example/bookish_search/bookishsearch/feedback/Mark;"⟩ : MethodName) prog_24_method_5_code 5 (some (.object "com/example/bookish_search/bookishsearch/feedback/Mark")) :: ws) ({ frames := 2, cells := 1, slots := 2, locals := 25 } : Room)) (fun a U => a = #[(.int (43 : Int32))] ∧ Z.Warmed39 U.vm ∧ U.heap = h0) (fun _ _ _ _ _ => True) (fun _ U o U' => ∃ v L, o = .returned v ∧ Q1p Z wR wN wV kV h0 n0 v U'.heap L ∧ FrameEnd U o U' L ({ frames := 2, cells := 1, slots := 2, locals := 25 } : Room).cells ({ frames := 2, cells := 1, slots := 2, locals := 25 } : Room).slots) := by
  refine MetFree.of_bodySF (plainFor_of_name pn_com_example_bookish_search_bookishsearch_feedback_Mark) hisR ?_
  intro p e s m args below meth c s₁ Bd hml0 hP hK
  obtain ⟨rfl, hZ, hh⟩ := hP
  have hx := Bd.exec
  have hby := Bd.bytes
  have hml : c.maxLocals = 5 := hml0
  have hown : s.vm.findClass "com/example/bookish_search/bookishsearch/feedback/Mark" = some m.cls := findClass_of_methodNamed Bd.named
  have hnm := (name_of_methodNamed Bd.named Bd.method).1
  have X0 : Stand p l e ({ frames := 2, cells := 1, slots := 2, locals := 25 } : Room) s m #[(.int (43 : Int32))] below meth c s₁ [] 0 0 := Stand.of_body Bd
  have e0 : s₁.heap = h0 := by rw [← hh, Bd.state]; rfl
  have N0 := Fr.nil n0
  have pre0 : ∀ t, Steps p.tables e below (s₁.setTop (mkF m 0 #[.val (.int (43 : Int32)), .unset, .unset, .unset, .unset] [])) t → Steps p.tables e below (s₁.setTop (entryFrame m #[(.int (43 : Int32))] 5)) t := fun t k => castTop (ef_rm1p m ) k
  have f101 := Keep.refl h0 []
  obtain ⟨_, _, ⟨T102, L102, k102, n102⟩, -, X102, ⟨Lc102, hQ102, l102, y102, z102⟩, st102⟩ := Jvm.LawKit.callS X0 hx (y := (⟨"com/example/bookish_search/bookishsearch/feedback/Mark", "values", "()[Lcom/example/bookish_search/bookishsearch/feedback/Mark;"⟩ : MethodName)) hown (mvT hZ (own_i hw 4 rfl)) (mvT hZ (own_i hw 5 rfl)) (mvT hZ (own_i hw 2 rfl)) (mvT hZ (own_i hw 6 rfl)) (by decide) (backOf (W := 0) (rm2 l Z a0 hw [] wR wN wV kV h0 n0 Z0 SV AV EV) hZ (own_i hw 6 rfl) (own_i hw 2 rfl) (by decide) (by decide)) (g := (mkF m 0 #[.val (.int (43 : Int32)), .unset, .unset, .unset, .unset] [])) rfl (by rw [hml]; rfl) (argsL := []) (rest := []) (lenOf pd_0 rfl) rfl (by show 2 * 0 + _ ≤ _; exact Nat.le_of_eq rfl) (hb hby d1_0) (fun _ _ => ⟨rfl, e0, (by decide : 0 + 1 ≤ _), (by decide : 0 + 2 ≤ _)⟩)
  dsimp only [Pt.U, Pt.locs, Pt.cells, Pt.slots] at X102 l102 y102 z102 st102 hQ102
  subst l102 y102 z102
  obtain ⟨b103, rfl, N102q, K102, f104, f105, f106⟩ := hQ102
  have N102 := Fr.app N0 N102q
  have f107 := Nat.le_trans Z0 K102.1
  have f108 := AV.keep K102 nin0
  have f109 := EV.keep K102
  have f110 := ER.keep K102
  have f111 := EN.keep K102
  have f112 := FR.keep K102 nin0
  have f113 := FN.keep K102 nin0
  have f114 := f101.trans K102 all0
  obtain ⟨cl115, Ar115, q115, S115, N115z, H115, G115⟩ := (id f106)
  obtain ⟨cl116, Ar116, q116, S116, N116z, H116, G116⟩ := (id f106)
  have hin116 : ¬ ((0 : Int32) < 0 ∨ cl116.slots.size ≤ ((0 : Int32)).toNatClampNeg) := inb_of S116 ⟨by decide, by decide⟩
  have hat116 : cl116.slots[((0 : Int32)).toNatClampNeg]? = some (.ref wR) := Has.at H116 hin116 rfl
  obtain ⟨T117, X117, e117, st117⟩ := getF X102 hx hZ hown (host := "") (Or.inl (own_i hw 21 rfl)) Via.refl rfl f112 (g := (mkF m 21 #[.val (.int (43 : Int32)), .val (.ref b103), .val (.int (2 : Int32)), .val (.int (0 : Int32)), .val (.ref wR)] [(.ref wR)])) rfl rfl (hb hby d1_21)
  have pre118 : ∀ t, Steps p.tables e below (T117.setTop (mkF m 30 #[.val (.int (43 : Int32)), .val (.ref b103), .val (.int (2 : Int32)), .val (.int (0 : Int32)), .val (.ref wR)] [(.ref wR)])) t → Steps p.tables e below (s₁.setTop (entryFrame m #[(.int (43 : Int32))] 5)) t := fun t k => pre0 t (by
    show Steps p.tables e below (s₁.setTop (mkF m 0 #[.val (.int (43 : Int32)), .unset, .unset, .unset, .unset] [])) t
    refine st102 _ ?_
    show Steps p.tables e below (T102.setTop (mkF m 3 #[.val (.int (43 : Int32)), .unset, .unset, .unset, .unset] [(.ref b103)])) t
    refine XS.astoreN X102.here hx rfl (hb hby d1_3) rfl rfl (l' := #[.val (.int (43 : Int32)), .val (.ref b103), .unset, .unset, .unset]) rfl ?_
    show Steps p.tables e below (T102.setTop (mkF m 4 #[.val (.int (43 : Int32)), .val (.ref b103), .unset, .unset, .unset] [])) t
    refine XS.aloadN X102.here hx rfl (hb hby d1_4) rfl rfl ?_
    show Steps p.tables e below (T102.setTop (mkF m 5 #[.val (.int (43 : Int32)), .val (.ref b103), .unset, .unset, .unset] [(.ref b103)])) t
    refine X102.arraylength hx Ar115.1 (State.isArrayOf_alike hZ.alike Ar115.2.1) (g := (mkF m 5 #[.val (.int (43 : Int32)), .val (.ref b103), .unset, .unset, .unset] [(.ref b103)])) rfl rfl (hb hby d1_5) _ ?_
    rw [len_of S115 N115z]
    show Steps p.tables e below (T102.setTop (mkF m 6 #[.val (.int (43 : Int32)), .val (.ref b103), .unset, .unset, .unset] [(.int (2 : Int32))])) t
    refine XS.istoreN X102.here hx rfl (hb hby d1_6) rfl (l' := #[.val (.int (43 : Int32)), .val (.ref b103), .val (.int (2 : Int32)), .unset, .unset]) rfl ?_
    show Steps p.tables e below (T102.setTop (mkF m 7 #[.val (.int (43 : Int32)), .val (.ref b103), .val (.int (2 : Int32)), .unset, .unset] [])) t
    refine XS.iconst X102.here hx rfl (hb hby d1_7) ?_
    show Steps p.tables e below (T102.setTop (mkF m 8 #[.val (.int (43 : Int32)), .val (.ref b103), .val (.int (2 : Int32)), .unset, .unset] [(.int (0 : Int32))])) t
    refine XS.istoreN X102.here hx rfl (hb hby d1_8) rfl (l' := #[.val (.int (43 : Int32)), .val (.ref b103), .val (.int (2 : Int32)), .val (.int (0 : Int32)), .unset]) rfl ?_
    show Steps p.tables e below (T102.setTop (mkF m 9 #[.val (.int (43 : Int32)), .val (.ref b103), .val (.int (2 : Int32)), .val (.int (0 : Int32)), .unset] [])) t
    refine XS.iloadN X102.here hx rfl (hb hby d1_9) rfl ?_
    show Steps p.tables e below (T102.setTop (mkF m 10 #[.val (.int (43 : Int32)), .val (.ref b103), .val (.int (2 : Int32)), .val (.int (0 : Int32)), .unset] [(.int (0 : Int32))])) t
    refine XS.iloadN X102.here hx rfl (hb hby d1_10) rfl ?_
    show Steps p.tables e below (T102.setTop (mkF m 11 #[.val (.int (43 : Int32)), .val (.ref b103), .val (.int (2 : Int32)), .val (.int (0 : Int32)), .unset] [(.int (2 : Int32)), (.int (0 : Int32))])) t
    refine XS.icmpNo X102.here hx rfl (hb hby d1_11) rfl (tlt (by decide : (0 : Int32) < (2 : Int32))).2.1 ?_
    show Steps p.tables e below (T102.setTop (mkF m 14 #[.val (.int (43 : Int32)), .val (.ref b103), .val (.int (2 : Int32)), .val (.int (0 : Int32)), .unset] [])) t
    refine XS.aloadN X102.here hx rfl (hb hby d1_14) rfl rfl ?_
    show Steps p.tables e below (T102.setTop (mkF m 15 #[.val (.int (43 : Int32)), .val (.ref b103), .val (.int (2 : Int32)), .val (.int (0 : Int32)), .unset] [(.ref b103)])) t
    refine XS.iloadN X102.here hx rfl (hb hby d1_15) rfl ?_
    show Steps p.tables e below (T102.setTop (mkF m 16 #[.val (.int (43 : Int32)), .val (.ref b103), .val (.int (2 : Int32)), .val (.int (0 : Int32)), .unset] [(.int (0 : Int32)), (.ref b103)])) t
    refine X102.aaload hx (j := (0 : Int32)) (v := (.ref wR)) Ar116.1 (State.isArrayOf_alike hZ.alike Ar116.2.1) rfl Ar116.2.2 hin116 hat116 (g := (mkF m 16 #[.val (.int (43 : Int32)), .val (.ref b103), .val (.int (2 : Int32)), .val (.int (0 : Int32)), .unset] [(.int (0 : Int32)), (.ref b103)])) rfl rfl (hb hby d1_16) _ ?_
    show Steps p.tables e below (T102.setTop (mkF m 17 #[.val (.int (43 : Int32)), .val (.ref b103), .val (.int (2 : Int32)), .val (.int (0 : Int32)), .unset] [(.ref wR)])) t
    refine XS.astore X102.here hx rfl (hb hby d1_17) rfl rfl (l' := #[.val (.int (43 : Int32)), .val (.ref b103), .val (.int (2 : Int32)), .val (.int (0 : Int32)), .val (.ref wR)]) rfl ?_
    show Steps p.tables e below (T102.setTop (mkF m 19 #[.val (.int (43 : Int32)), .val (.ref b103), .val (.int (2 : Int32)), .val (.int (0 : Int32)), .val (.ref wR)] [])) t
    refine XS.aload X102.here hx rfl (hb hby d1_19) rfl rfl ?_
    show Steps p.tables e below (T102.setTop (mkF m 21 #[.val (.int (43 : Int32)), .val (.ref b103), .val (.int (2 : Int32)), .val (.int (0 : Int32)), .val (.ref wR)] [(.ref wR)])) t
    refine st117 _ ?_
    show Steps p.tables e below (T117.setTop (mkF m 24 #[.val (.int (43 : Int32)), .val (.ref b103), .val (.int (2 : Int32)), .val (.int (0 : Int32)), .val (.ref wR)] [(.int (43 : Int32))])) t
    refine XS.iloadN X117.here hx rfl (hb hby d1_24) rfl ?_
    show Steps p.tables e below (T117.setTop (mkF m 25 #[.val (.int (43 : Int32)), .val (.ref b103), .val (.int (2 : Int32)), .val (.int (0 : Int32)), .val (.ref wR)] [(.int (43 : Int32)), (.int (43 : Int32))])) t
    refine XS.icmpNo X117.here hx rfl (hb hby d1_25) rfl (teq (by decide : (43 : Int32) = (43 : Int32))).2 ?_
    show Steps p.tables e below (T117.setTop (mkF m 28 #[.val (.int (43 : Int32)), .val (.ref b103), .val (.int (2 : Int32)), .val (.int (0 : Int32)), .val (.ref wR)] [])) t
    refine XS.aload X117.here hx rfl (hb hby d1_28) rfl rfl ?_
    exact k)
  obtain ⟨fs, hr, hrun, hended, hW, hsame⟩ := X117.leave (v := some (.ref wR)) (fun h => by rw [Bd.returns] at h; cases h)
  refine ⟨_, _, pre118 _ ?_, hrun, hended, _, _, rfl, ?_, ⟨_, rfl⟩, hW, hsame.mono (by decide) (by decide)⟩
  · exact retOut X117 hx Bd.returns rfl (Or.inr (Or.inr (Or.inr (Or.inr ⟨rfl, rfl, rfl⟩)))) (hb hby d1_30) hr
  · show Q1p Z wR wN wV kV h0 n0 _ T117.heap _
    rw [e117]
    exact ⟨rfl, N102, f114⟩
theorem ef_rm1m (m : MethodId)  : entryFrame m #[(.int (45 : Int32))] 5 = mkF m 0 #[.val (.int (45 : Int32)), .unset, .unset, .unset, .unset] [] := by first | (simp [entryFrame, mkF, argsToLocals, Value.category]; done) | rfl
def Q1m (Z : State) (wR : Addr) (wN : Addr) (wV : Addr) (kV : ClassId) (h0 : Heap) (n0 : Nat) (v : Option Value) (h : Heap) (L : List Loc) : Prop := v = some (.ref wN) ∧ Fr n0 L ∧ Keep h0 h []
set_option maxRecDepth 65536 in
set_option maxHeartbeats 40000000 in
theorem rm1m (l : Launch) (Z : State) (a0 : Array Value) (hw : ∀ d ∈ tables_1, d.before a0 Z = true) (ws : List Jvm.Cond) (wR : Addr) (wN : Addr) (wV : Addr) (kV : ClassId) (h0 : Heap) (n0 : Nat) (Z0 : n0 ≤ h0.size) (SV : Sta Z h0 "com/example/bookish_search/bookishsearch/feedback/Mark" "$VALUES" "[Lcom/example/bookish_search/bookishsearch/feedback/Mark;" (.ref wV)) (AV : Arv Z h0 wV kV (.object "com/example/bookish_search/bookishsearch/feedback/Mark") (2 : Int32) [(.ref wR), (.ref wN)] .null) (EV : Exa Z h0 wV "[Lcom/example/bookish_search/bookishsearch/feedback/Mark;") (ER : Exa Z h0 wR "com/example/bookish_search/bookishsearch/feedback/Mark") (EN : Exa Z h0 wN "com/example/bookish_search/bookishsearch/feedback/Mark") (FR : Fld Z h0 wR "com/example/bookish_search/bookishsearch/feedback/Mark" "symbol" "C" (.int (43 : Int32))) (FN : Fld Z h0 wN "com/example/bookish_search/bookishsearch/feedback/Mark" "symbol" "C" (.int (45 : Int32))) :
    MetFree l (⟨"com/example/bookish_search/bookishsearch/feedback/Mark", "forSymbol", "(C)Lcom/example/bookish_search/bookishsearch/feedback/Mark;"⟩ : MethodName) (head1 (Jvm.Cond.code (⟨"com/example/bookish_search/bookishsearch/feedback/Mark", "forSymbol", "(C)Lcom/example/bookish_search/bookishsearch/feedback/Mark;"⟩ : MethodName) prog_24_method_5_code 5 (some (.object "com/example/bookish_search/bookishsearch/feedback/Mark")) :: ws) ({ frames := 2, cells := 1, slots := 2, locals := 25 } : Room)) (fun a U => a = #[(.int (45 : Int32))] ∧ Z.Warmed39 U.vm ∧ U.heap = h0) (fun _ _ _ _ _ => True) (fun _ U o U' => ∃ v L, o = .returned v ∧ Q1m Z wR wN wV kV h0 n0 v U'.heap L ∧ FrameEnd U o U' L ({ frames := 2, cells := 1, slots := 2, locals := 25 } : Room).cells ({ frames := 2, cells := 1, slots := 2, locals := 25 } : Room).slots) := by
  refine MetFree.of_bodySF (plainFor_of_name pn_com_example_bookish_search_bookishsearch_feedback_Mark) hisR ?_
  intro p e s m args below meth c s₁ Bd hml0 hP hK
  obtain ⟨rfl, hZ, hh⟩ := hP
  have hx := Bd.exec
  have hby := Bd.bytes
  have hml : c.maxLocals = 5 := hml0
  have hown : s.vm.findClass "com/example/bookish_search/bookishsearch/feedback/Mark" = some m.cls := findClass_of_methodNamed Bd.named
  have hnm := (name_of_methodNamed Bd.named Bd.method).1
  have X0 : Stand p l e ({ frames := 2, cells := 1, slots := 2, locals := 25 } : Room) s m #[(.int (45 : Int32))] below meth c s₁ [] 0 0 := Stand.of_body Bd
  have e0 : s₁.heap = h0 := by rw [← hh, Bd.state]; rfl
  have N0 := Fr.nil n0
  have pre0 : ∀ t, Steps p.tables e below (s₁.setTop (mkF m 0 #[.val (.int (45 : Int32)), .unset, .unset, .unset, .unset] [])) t → Steps p.tables e below (s₁.setTop (entryFrame m #[(.int (45 : Int32))] 5)) t := fun t k => castTop (ef_rm1m m ) k
  have f101 := Keep.refl h0 []
  obtain ⟨_, _, ⟨T102, L102, k102, n102⟩, -, X102, ⟨Lc102, hQ102, l102, y102, z102⟩, st102⟩ := Jvm.LawKit.callS X0 hx (y := (⟨"com/example/bookish_search/bookishsearch/feedback/Mark", "values", "()[Lcom/example/bookish_search/bookishsearch/feedback/Mark;"⟩ : MethodName)) hown (mvT hZ (own_i hw 4 rfl)) (mvT hZ (own_i hw 5 rfl)) (mvT hZ (own_i hw 2 rfl)) (mvT hZ (own_i hw 6 rfl)) (by decide) (backOf (W := 0) (rm2 l Z a0 hw [] wR wN wV kV h0 n0 Z0 SV AV EV) hZ (own_i hw 6 rfl) (own_i hw 2 rfl) (by decide) (by decide)) (g := (mkF m 0 #[.val (.int (45 : Int32)), .unset, .unset, .unset, .unset] [])) rfl (by rw [hml]; rfl) (argsL := []) (rest := []) (lenOf pd_0 rfl) rfl (by show 2 * 0 + _ ≤ _; exact Nat.le_of_eq rfl) (hb hby d1_0) (fun _ _ => ⟨rfl, e0, (by decide : 0 + 1 ≤ _), (by decide : 0 + 2 ≤ _)⟩)
  dsimp only [Pt.U, Pt.locs, Pt.cells, Pt.slots] at X102 l102 y102 z102 st102 hQ102
  subst l102 y102 z102
  obtain ⟨b103, rfl, N102q, K102, f104, f105, f106⟩ := hQ102
  have N102 := Fr.app N0 N102q
  have f107 := Nat.le_trans Z0 K102.1
  have f108 := AV.keep K102 nin0
  have f109 := EV.keep K102
  have f110 := ER.keep K102
  have f111 := EN.keep K102
  have f112 := FR.keep K102 nin0
  have f113 := FN.keep K102 nin0
  have f114 := f101.trans K102 all0
  obtain ⟨cl115, Ar115, q115, S115, N115z, H115, G115⟩ := (id f106)
  obtain ⟨cl116, Ar116, q116, S116, N116z, H116, G116⟩ := (id f106)
  have hin116 : ¬ ((0 : Int32) < 0 ∨ cl116.slots.size ≤ ((0 : Int32)).toNatClampNeg) := inb_of S116 ⟨by decide, by decide⟩
  have hat116 : cl116.slots[((0 : Int32)).toNatClampNeg]? = some (.ref wR) := Has.at H116 hin116 rfl
  obtain ⟨T117, X117, e117, st117⟩ := getF X102 hx hZ hown (host := "") (Or.inl (own_i hw 21 rfl)) Via.refl rfl f112 (g := (mkF m 21 #[.val (.int (45 : Int32)), .val (.ref b103), .val (.int (2 : Int32)), .val (.int (0 : Int32)), .val (.ref wR)] [(.ref wR)])) rfl rfl (hb hby d1_21)
  obtain ⟨cl118, Ar118, q118, S118, N118z, H118, G118⟩ := (id f106)
  have hin118 : ¬ ((1 : Int32) < 0 ∨ cl118.slots.size ≤ ((1 : Int32)).toNatClampNeg) := inb_of S118 ⟨by decide, by decide⟩
  have hat118 : cl118.slots[((1 : Int32)).toNatClampNeg]? = some (.ref wN) := Has.at H118 hin118 rfl
  obtain ⟨T119, X119, e119, st119⟩ := getF X117 hx hZ hown (host := "") (Or.inl (own_i hw 21 rfl)) Via.refl e117 f113 (g := (mkF m 21 #[.val (.int (45 : Int32)), .val (.ref b103), .val (.int (2 : Int32)), .val (.int (1 : Int32)), .val (.ref wN)] [(.ref wN)])) rfl rfl (hb hby d1_21)
  have pre120 : ∀ t, Steps p.tables e below (T119.setTop (mkF m 30 #[.val (.int (45 : Int32)), .val (.ref b103), .val (.int (2 : Int32)), .val (.int (1 : Int32)), .val (.ref wN)] [(.ref wN)])) t → Steps p.tables e below (s₁.setTop (entryFrame m #[(.int (45 : Int32))] 5)) t := fun t k => pre0 t (by
    show Steps p.tables e below (s₁.setTop (mkF m 0 #[.val (.int (45 : Int32)), .unset, .unset, .unset, .unset] [])) t
    refine st102 _ ?_
    show Steps p.tables e below (T102.setTop (mkF m 3 #[.val (.int (45 : Int32)), .unset, .unset, .unset, .unset] [(.ref b103)])) t
    refine XS.astoreN X102.here hx rfl (hb hby d1_3) rfl rfl (l' := #[.val (.int (45 : Int32)), .val (.ref b103), .unset, .unset, .unset]) rfl ?_
    show Steps p.tables e below (T102.setTop (mkF m 4 #[.val (.int (45 : Int32)), .val (.ref b103), .unset, .unset, .unset] [])) t
    refine XS.aloadN X102.here hx rfl (hb hby d1_4) rfl rfl ?_
    show Steps p.tables e below (T102.setTop (mkF m 5 #[.val (.int (45 : Int32)), .val (.ref b103), .unset, .unset, .unset] [(.ref b103)])) t
    refine X102.arraylength hx Ar115.1 (State.isArrayOf_alike hZ.alike Ar115.2.1) (g := (mkF m 5 #[.val (.int (45 : Int32)), .val (.ref b103), .unset, .unset, .unset] [(.ref b103)])) rfl rfl (hb hby d1_5) _ ?_
    rw [len_of S115 N115z]
    show Steps p.tables e below (T102.setTop (mkF m 6 #[.val (.int (45 : Int32)), .val (.ref b103), .unset, .unset, .unset] [(.int (2 : Int32))])) t
    refine XS.istoreN X102.here hx rfl (hb hby d1_6) rfl (l' := #[.val (.int (45 : Int32)), .val (.ref b103), .val (.int (2 : Int32)), .unset, .unset]) rfl ?_
    show Steps p.tables e below (T102.setTop (mkF m 7 #[.val (.int (45 : Int32)), .val (.ref b103), .val (.int (2 : Int32)), .unset, .unset] [])) t
    refine XS.iconst X102.here hx rfl (hb hby d1_7) ?_
    show Steps p.tables e below (T102.setTop (mkF m 8 #[.val (.int (45 : Int32)), .val (.ref b103), .val (.int (2 : Int32)), .unset, .unset] [(.int (0 : Int32))])) t
    refine XS.istoreN X102.here hx rfl (hb hby d1_8) rfl (l' := #[.val (.int (45 : Int32)), .val (.ref b103), .val (.int (2 : Int32)), .val (.int (0 : Int32)), .unset]) rfl ?_
    show Steps p.tables e below (T102.setTop (mkF m 9 #[.val (.int (45 : Int32)), .val (.ref b103), .val (.int (2 : Int32)), .val (.int (0 : Int32)), .unset] [])) t
    refine XS.iloadN X102.here hx rfl (hb hby d1_9) rfl ?_
    show Steps p.tables e below (T102.setTop (mkF m 10 #[.val (.int (45 : Int32)), .val (.ref b103), .val (.int (2 : Int32)), .val (.int (0 : Int32)), .unset] [(.int (0 : Int32))])) t
    refine XS.iloadN X102.here hx rfl (hb hby d1_10) rfl ?_
    show Steps p.tables e below (T102.setTop (mkF m 11 #[.val (.int (45 : Int32)), .val (.ref b103), .val (.int (2 : Int32)), .val (.int (0 : Int32)), .unset] [(.int (2 : Int32)), (.int (0 : Int32))])) t
    refine XS.icmpNo X102.here hx rfl (hb hby d1_11) rfl (tlt (by decide : (0 : Int32) < (2 : Int32))).2.1 ?_
    show Steps p.tables e below (T102.setTop (mkF m 14 #[.val (.int (45 : Int32)), .val (.ref b103), .val (.int (2 : Int32)), .val (.int (0 : Int32)), .unset] [])) t
    refine XS.aloadN X102.here hx rfl (hb hby d1_14) rfl rfl ?_
    show Steps p.tables e below (T102.setTop (mkF m 15 #[.val (.int (45 : Int32)), .val (.ref b103), .val (.int (2 : Int32)), .val (.int (0 : Int32)), .unset] [(.ref b103)])) t
    refine XS.iloadN X102.here hx rfl (hb hby d1_15) rfl ?_
    show Steps p.tables e below (T102.setTop (mkF m 16 #[.val (.int (45 : Int32)), .val (.ref b103), .val (.int (2 : Int32)), .val (.int (0 : Int32)), .unset] [(.int (0 : Int32)), (.ref b103)])) t
    refine X102.aaload hx (j := (0 : Int32)) (v := (.ref wR)) Ar116.1 (State.isArrayOf_alike hZ.alike Ar116.2.1) rfl Ar116.2.2 hin116 hat116 (g := (mkF m 16 #[.val (.int (45 : Int32)), .val (.ref b103), .val (.int (2 : Int32)), .val (.int (0 : Int32)), .unset] [(.int (0 : Int32)), (.ref b103)])) rfl rfl (hb hby d1_16) _ ?_
    show Steps p.tables e below (T102.setTop (mkF m 17 #[.val (.int (45 : Int32)), .val (.ref b103), .val (.int (2 : Int32)), .val (.int (0 : Int32)), .unset] [(.ref wR)])) t
    refine XS.astore X102.here hx rfl (hb hby d1_17) rfl rfl (l' := #[.val (.int (45 : Int32)), .val (.ref b103), .val (.int (2 : Int32)), .val (.int (0 : Int32)), .val (.ref wR)]) rfl ?_
    show Steps p.tables e below (T102.setTop (mkF m 19 #[.val (.int (45 : Int32)), .val (.ref b103), .val (.int (2 : Int32)), .val (.int (0 : Int32)), .val (.ref wR)] [])) t
    refine XS.aload X102.here hx rfl (hb hby d1_19) rfl rfl ?_
    show Steps p.tables e below (T102.setTop (mkF m 21 #[.val (.int (45 : Int32)), .val (.ref b103), .val (.int (2 : Int32)), .val (.int (0 : Int32)), .val (.ref wR)] [(.ref wR)])) t
    refine st117 _ ?_
    show Steps p.tables e below (T117.setTop (mkF m 24 #[.val (.int (45 : Int32)), .val (.ref b103), .val (.int (2 : Int32)), .val (.int (0 : Int32)), .val (.ref wR)] [(.int (43 : Int32))])) t
    refine XS.iloadN X117.here hx rfl (hb hby d1_24) rfl ?_
    show Steps p.tables e below (T117.setTop (mkF m 25 #[.val (.int (45 : Int32)), .val (.ref b103), .val (.int (2 : Int32)), .val (.int (0 : Int32)), .val (.ref wR)] [(.int (45 : Int32)), (.int (43 : Int32))])) t
    refine XS.icmpYes X117.here hx rfl (pc0 := 25) (pc' := 31) rfl (hb hby d1_25) rfl (feq (by decide : ¬ ((43 : Int32) = (45 : Int32)))).2 (by decide) (by decide) ?_
    show Steps p.tables e below (T117.setTop (mkF m 31 #[.val (.int (45 : Int32)), .val (.ref b103), .val (.int (2 : Int32)), .val (.int (0 : Int32)), .val (.ref wR)] [])) t
    refine XS.iinc X117.here hx rfl (hb hby d1_31) rfl (l' := #[.val (.int (45 : Int32)), .val (.ref b103), .val (.int (2 : Int32)), .val (.int (1 : Int32)), .val (.ref wR)]) rfl ?_
    show Steps p.tables e below (T117.setTop (mkF m 34 #[.val (.int (45 : Int32)), .val (.ref b103), .val (.int (2 : Int32)), .val (.int (1 : Int32)), .val (.ref wR)] [])) t
    refine XS.goto X117.here hx rfl (pc0 := 34) (pc' := 9) rfl (hb hby d1_34) (by decide) (by decide) ?_
    show Steps p.tables e below (T117.setTop (mkF m 9 #[.val (.int (45 : Int32)), .val (.ref b103), .val (.int (2 : Int32)), .val (.int (1 : Int32)), .val (.ref wR)] [])) t
    refine XS.iloadN X117.here hx rfl (hb hby d1_9) rfl ?_
    show Steps p.tables e below (T117.setTop (mkF m 10 #[.val (.int (45 : Int32)), .val (.ref b103), .val (.int (2 : Int32)), .val (.int (1 : Int32)), .val (.ref wR)] [(.int (1 : Int32))])) t
    refine XS.iloadN X117.here hx rfl (hb hby d1_10) rfl ?_
    show Steps p.tables e below (T117.setTop (mkF m 11 #[.val (.int (45 : Int32)), .val (.ref b103), .val (.int (2 : Int32)), .val (.int (1 : Int32)), .val (.ref wR)] [(.int (2 : Int32)), (.int (1 : Int32))])) t
    refine XS.icmpNo X117.here hx rfl (hb hby d1_11) rfl (tlt (by decide : (1 : Int32) < (2 : Int32))).2.1 ?_
    show Steps p.tables e below (T117.setTop (mkF m 14 #[.val (.int (45 : Int32)), .val (.ref b103), .val (.int (2 : Int32)), .val (.int (1 : Int32)), .val (.ref wR)] [])) t
    refine XS.aloadN X117.here hx rfl (hb hby d1_14) rfl rfl ?_
    show Steps p.tables e below (T117.setTop (mkF m 15 #[.val (.int (45 : Int32)), .val (.ref b103), .val (.int (2 : Int32)), .val (.int (1 : Int32)), .val (.ref wR)] [(.ref b103)])) t
    refine XS.iloadN X117.here hx rfl (hb hby d1_15) rfl ?_
    show Steps p.tables e below (T117.setTop (mkF m 16 #[.val (.int (45 : Int32)), .val (.ref b103), .val (.int (2 : Int32)), .val (.int (1 : Int32)), .val (.ref wR)] [(.int (1 : Int32)), (.ref b103)])) t
    refine X117.aaload hx (j := (1 : Int32)) (v := (.ref wN)) (by rw [e117]; exact Ar118.1) (State.isArrayOf_alike hZ.alike Ar118.2.1) rfl Ar118.2.2 hin118 hat118 (g := (mkF m 16 #[.val (.int (45 : Int32)), .val (.ref b103), .val (.int (2 : Int32)), .val (.int (1 : Int32)), .val (.ref wR)] [(.int (1 : Int32)), (.ref b103)])) rfl rfl (hb hby d1_16) _ ?_
    show Steps p.tables e below (T117.setTop (mkF m 17 #[.val (.int (45 : Int32)), .val (.ref b103), .val (.int (2 : Int32)), .val (.int (1 : Int32)), .val (.ref wR)] [(.ref wN)])) t
    refine XS.astore X117.here hx rfl (hb hby d1_17) rfl rfl (l' := #[.val (.int (45 : Int32)), .val (.ref b103), .val (.int (2 : Int32)), .val (.int (1 : Int32)), .val (.ref wN)]) rfl ?_
    show Steps p.tables e below (T117.setTop (mkF m 19 #[.val (.int (45 : Int32)), .val (.ref b103), .val (.int (2 : Int32)), .val (.int (1 : Int32)), .val (.ref wN)] [])) t
    refine XS.aload X117.here hx rfl (hb hby d1_19) rfl rfl ?_
    show Steps p.tables e below (T117.setTop (mkF m 21 #[.val (.int (45 : Int32)), .val (.ref b103), .val (.int (2 : Int32)), .val (.int (1 : Int32)), .val (.ref wN)] [(.ref wN)])) t
    refine st119 _ ?_
    show Steps p.tables e below (T119.setTop (mkF m 24 #[.val (.int (45 : Int32)), .val (.ref b103), .val (.int (2 : Int32)), .val (.int (1 : Int32)), .val (.ref wN)] [(.int (45 : Int32))])) t
    refine XS.iloadN X119.here hx rfl (hb hby d1_24) rfl ?_
    show Steps p.tables e below (T119.setTop (mkF m 25 #[.val (.int (45 : Int32)), .val (.ref b103), .val (.int (2 : Int32)), .val (.int (1 : Int32)), .val (.ref wN)] [(.int (45 : Int32)), (.int (45 : Int32))])) t
    refine XS.icmpNo X119.here hx rfl (hb hby d1_25) rfl (teq (by decide : (45 : Int32) = (45 : Int32))).2 ?_
    show Steps p.tables e below (T119.setTop (mkF m 28 #[.val (.int (45 : Int32)), .val (.ref b103), .val (.int (2 : Int32)), .val (.int (1 : Int32)), .val (.ref wN)] [])) t
    refine XS.aload X119.here hx rfl (hb hby d1_28) rfl rfl ?_
    exact k)
  obtain ⟨fs, hr, hrun, hended, hW, hsame⟩ := X119.leave (v := some (.ref wN)) (fun h => by rw [Bd.returns] at h; cases h)
  refine ⟨_, _, pre120 _ ?_, hrun, hended, _, _, rfl, ?_, ⟨_, rfl⟩, hW, hsame.mono (by decide) (by decide)⟩
  · exact retOut X119 hx Bd.returns rfl (Or.inr (Or.inr (Or.inr (Or.inr ⟨rfl, rfl, rfl⟩)))) (hb hby d1_30) hr
  · show Q1m Z wR wN wV kV h0 n0 _ T119.heap _
    rw [e119]
    exact ⟨rfl, N102, f114⟩
theorem ef_rm3 (m : MethodId) (x0 : Addr) : entryFrame m #[(.ref x0)] 1 = mkF m 0 #[.val (.ref x0)] [] := by first | (simp [entryFrame, mkF, argsToLocals, Value.category]; done) | rfl
def Q3 (Z : State) (a1 : Addr) (w : Int32) (h0 : Heap) (n0 : Nat) (v : Option Value) (h : Heap) (L : List Loc) : Prop := v = some (.int (nar .char w)) ∧ Fr n0 L ∧ h = h0
set_option maxRecDepth 65536 in
set_option maxHeartbeats 40000000 in
theorem rm3 (l : Launch) (Z : State) (a0 : Array Value) (hw : ∀ d ∈ tables_1, d.before a0 Z = true) (ws : List Jvm.Cond) (a1 : Addr) (w : Int32) (h0 : Heap) (n0 : Nat) (Z0 : n0 ≤ h0.size) (F1 : Fld Z h0 a1 "com/example/bookish_search/bookishsearch/feedback/Mark" "symbol" "C" (.int w)) :
    MetFree l (⟨"com/example/bookish_search/bookishsearch/feedback/Mark", "symbol", "()C"⟩ : MethodName) (head1 (Jvm.Cond.code (⟨"com/example/bookish_search/bookishsearch/feedback/Mark", "symbol", "()C"⟩ : MethodName) prog_24_method_4_code 1 (some .char) :: ws) ({ frames := 0, cells := 0, slots := 0, locals := 0 } : Room)) (fun a U => a = #[(.ref a1)] ∧ Z.Warmed39 U.vm ∧ U.heap = h0) (fun _ _ _ _ _ => True) (fun _ U o U' => ∃ v L, o = .returned v ∧ Q3 Z a1 w h0 n0 v U'.heap L ∧ FrameEnd U o U' L ({ frames := 0, cells := 0, slots := 0, locals := 0 } : Room).cells ({ frames := 0, cells := 0, slots := 0, locals := 0 } : Room).slots) := by
  refine MetFree.of_bodySF (plainFor_of_name pn_com_example_bookish_search_bookishsearch_feedback_Mark) hisR ?_
  intro p e s m args below meth c s₁ Bd hml0 hP hK
  obtain ⟨rfl, hZ, hh⟩ := hP
  have hx := Bd.exec
  have hby := Bd.bytes
  have hml : c.maxLocals = 1 := hml0
  have hown : s.vm.findClass "com/example/bookish_search/bookishsearch/feedback/Mark" = some m.cls := findClass_of_methodNamed Bd.named
  have hnm := (name_of_methodNamed Bd.named Bd.method).1
  have X0 : Stand p l e ({ frames := 0, cells := 0, slots := 0, locals := 0 } : Room) s m #[(.ref a1)] below meth c s₁ [] 0 0 := Stand.of_body Bd
  have e0 : s₁.heap = h0 := by rw [← hh, Bd.state]; rfl
  have N0 := Fr.nil n0
  have pre0 : ∀ t, Steps p.tables e below (s₁.setTop (mkF m 0 #[.val (.ref a1)] [])) t → Steps p.tables e below (s₁.setTop (entryFrame m #[(.ref a1)] 1)) t := fun t k => castTop (ef_rm3 m a1) k
  obtain ⟨T101, X101, e101, st101⟩ := getF X0 hx hZ hown (host := "") (Or.inl (own_i hw 21 rfl)) Via.refl e0 F1 (g := (mkF m 1 #[.val (.ref a1)] [(.ref a1)])) rfl rfl (hb hby d3_1)
  have pre102 : ∀ t, Steps p.tables e below (T101.setTop (mkF m 4 #[.val (.ref a1)] [(.int w)])) t → Steps p.tables e below (s₁.setTop (entryFrame m #[(.ref a1)] 1)) t := fun t k => pre0 t (by
    show Steps p.tables e below (s₁.setTop (mkF m 0 #[.val (.ref a1)] [])) t
    refine XS.aloadN X0.here hx rfl (hb hby d3_0) rfl rfl ?_
    show Steps p.tables e below (s₁.setTop (mkF m 1 #[.val (.ref a1)] [(.ref a1)])) t
    refine st101 _ ?_
    exact k)
  obtain ⟨fs, hr, hrun, hended, hW, hsame⟩ := X101.leave (v := some (.int (nar .char w))) (fun h => by rw [Bd.returns] at h; cases h)
  refine ⟨_, _, pre102 _ ?_, hrun, hended, _, _, rfl, ?_, ⟨_, rfl⟩, hW, hsame.mono (by decide) (by decide)⟩
  · exact retN X101 hx (t := .char) Bd.returns (by simp) (hb hby d3_4) hr
  · show Q3 Z a1 w h0 n0 _ T101.heap _
    rw [e101]
    exact ⟨rfl, N0, rfl⟩
theorem pn_com_example_bookish_search_bookishsearch_feedback_MarkForSymbolPinLaw : plainName "com/example/bookish_search/bookishsearch/feedback/MarkForSymbolPinLaw" = true := by first | (simp [plainName, overriddenIn]; done) | decide +kernel
theorem pd_1 : parseMethodDescriptor "(C)Lcom/example/bookish_search/bookishsearch/feedback/Mark;" = some ⟨[.char], some (.object "com/example/bookish_search/bookishsearch/feedback/Mark")⟩ := by decide +kernel
theorem pd_2 : parseMethodDescriptor "()C" = some ⟨[], some .char⟩ := by decide +kernel
theorem ef_rm0 (m : MethodId) (x0 : Int32) : entryFrame m #[(.int x0)] maxLocals = mkF m 0 #[.val (.int x0), .unset, .unset, .unset, .unset] [] := by first | (simp [entryFrame, mkF, argsToLocals, Value.category, maxLocals]; done) | rfl
def Q0 (Z : State) (p1 : Int32) (wR : Addr) (wN : Addr) (wV : Addr) (kV : ClassId) (h0 : Heap) (n0 : Nat) (v : Option Value) (h : Heap) (L : List Loc) : Prop := v = some (.int 1) ∧ Fr n0 L
set_option maxRecDepth 65536 in
set_option maxHeartbeats 40000000 in
theorem rm0 (l : Launch) (Z : State) (a0 : Array Value) (hw : ∀ d ∈ tables_1, d.before a0 Z = true) (ws : List Jvm.Cond) (p1 : Int32) (wR : Addr) (wN : Addr) (wV : Addr) (kV : ClassId) (h0 : Heap) (n0 : Nat) (Z0 : n0 ≤ h0.size) (SR : Sta Z Z.heap "com/example/bookish_search/bookishsearch/feedback/Mark" "RELEVANT" "Lcom/example/bookish_search/bookishsearch/feedback/Mark;" (.ref wR)) (SN : Sta Z Z.heap "com/example/bookish_search/bookishsearch/feedback/Mark" "NOT_RELEVANT" "Lcom/example/bookish_search/bookishsearch/feedback/Mark;" (.ref wN)) (SV : Sta Z Z.heap "com/example/bookish_search/bookishsearch/feedback/Mark" "$VALUES" "[Lcom/example/bookish_search/bookishsearch/feedback/Mark;" (.ref wV)) (AV : Arv Z Z.heap wV kV (.object "com/example/bookish_search/bookishsearch/feedback/Mark") (2 : Int32) [(.ref wR), (.ref wN)] .null) (EV : Exa Z Z.heap wV "[Lcom/example/bookish_search/bookishsearch/feedback/Mark;") (ER : Exa Z Z.heap wR "com/example/bookish_search/bookishsearch/feedback/Mark") (EN : Exa Z Z.heap wN "com/example/bookish_search/bookishsearch/feedback/Mark") (FR : Fld Z Z.heap wR "com/example/bookish_search/bookishsearch/feedback/Mark" "symbol" "C" (.int (43 : Int32))) (FN : Fld Z Z.heap wN "com/example/bookish_search/bookishsearch/feedback/Mark" "symbol" "C" (.int (45 : Int32))) (O0 : Old Z n0 h0) :
    MetFree l x (head1 (Jvm.Cond.code x code maxLocals ret :: ws) room_1) (fun a U => a = #[(.int p1)] ∧ Z.Warmed39 U.vm ∧ U.heap = h0) (fun _ _ _ _ _ => True) (fun _ U o U' => ∃ v L, o = .returned v ∧ Q0 Z p1 wR wN wV kV h0 n0 v U'.heap L ∧ FrameEnd U o U' L 1 2) := by
  refine MetFree.of_bodySF (plainFor_of_name pn_com_example_bookish_search_bookishsearch_feedback_MarkForSymbolPinLaw) hisR ?_
  intro p e s m args below meth c s₁ Bd hml0 hP hK
  obtain ⟨rfl, hZ, hh⟩ := hP
  have hx := Bd.exec
  have hby := Bd.bytes
  have hml : c.maxLocals = 5 := hml0
  have hown : s.vm.findClass "com/example/bookish_search/bookishsearch/feedback/MarkForSymbolPinLaw" = some m.cls := findClass_of_methodNamed Bd.named
  have hnm := (name_of_methodNamed Bd.named Bd.method).1
  have X0 : Stand p l e room_1 s m #[(.int p1)] below meth c s₁ [] 0 0 := Stand.of_body Bd
  have e0 : s₁.heap = h0 := by rw [← hh, Bd.state]; rfl
  have N0 := Fr.nil n0
  have pre0 : ∀ t, Steps p.tables e below (s₁.setTop (mkF m 0 #[.val (.int p1), .unset, .unset, .unset, .unset] [])) t → Steps p.tables e below (s₁.setTop (entryFrame m #[(.int p1)] maxLocals)) t := fun t k => castTop (ef_rm0 m p1) k
  have f101 := Keep.refl h0 []
  have pre103 : ∀ t, Steps p.tables e below (s₁.setTop (mkF m 3 #[.val (.int p1), .unset, .unset, .unset, .unset] [(.int (p1 &&& (1 : Int32)))])) t → Steps p.tables e below (s₁.setTop (entryFrame m #[(.int p1)] maxLocals)) t := fun t k => pre0 t (by
    show Steps p.tables e below (s₁.setTop (mkF m 0 #[.val (.int p1), .unset, .unset, .unset, .unset] [])) t
    refine XS.iloadN X0.here hx rfl (hb hby at_0) rfl ?_
    show Steps p.tables e below (s₁.setTop (mkF m 1 #[.val (.int p1), .unset, .unset, .unset, .unset] [(.int p1)])) t
    refine XS.iconst X0.here hx rfl (hb hby at_1) ?_
    show Steps p.tables e below (s₁.setTop (mkF m 2 #[.val (.int p1), .unset, .unset, .unset, .unset] [(.int (1 : Int32)), (.int p1)])) t
    refine XS.iand X0.here hx rfl (hb hby at_2) rfl ?_
    exact k)
  by_cases hc102 : (p1 &&& (1 : Int32)) = (0 : Int32)
  · obtain ⟨_, _, ⟨T104, L104, k104, n104⟩, -, X104, ⟨Lc104, hQ104, l104, y104, z104⟩, st104⟩ := Jvm.LawKit.callS X0 hx (y := (⟨"com/example/bookish_search/bookishsearch/feedback/Mark", "forSymbol", "(C)Lcom/example/bookish_search/bookishsearch/feedback/Mark;"⟩ : MethodName)) hown (mvT hZ (own_i hw 0 rfl)) (mvT hZ (own_i hw 1 rfl)) (mvT hZ (own_i hw 2 rfl)) (mvT hZ (own_i hw 3 rfl)) (by decide) (backOf (W := 0) (rm1m l Z a0 hw [] wR wN wV kV h0 n0 Z0 (SV.ext O0.2) (AV.ext O0.2) (EV.ext O0.2) (ER.ext O0.2) (EN.ext O0.2) (FR.ext O0.2) (FN.ext O0.2)) hZ (own_i hw 3 rfl) (own_i hw 2 rfl) (by decide) (by decide)) (g := (mkF m 25 #[.val (.int p1), .val (.int (0 : Int32)), .val (.int (45 : Int32)), .unset, .unset] [(.int (45 : Int32))])) rfl (by rw [hml]; rfl) (argsL := [(.int (45 : Int32))]) (rest := []) (lenOf pd_1 rfl) rfl (by show 2 * 0 + _ ≤ _; exact Nat.le_of_eq rfl) (hb hby at_25) (fun _ _ => ⟨rfl, e0, (by decide : 0 + 1 ≤ _), (by decide : 0 + 2 ≤ _)⟩)
    dsimp only [Pt.U, Pt.locs, Pt.cells, Pt.slots] at X104 l104 y104 z104 st104 hQ104
    subst l104 y104 z104
    obtain ⟨rfl, N104q, K104⟩ := hQ104
    have N104 := Fr.app N0 N104q
    have f105 := Nat.le_trans Z0 K104.1
    have f106 := O0.keep K104 all0
    have f107 := f101.trans K104 all0
    obtain ⟨T108, X108, e108, st108⟩ := getS2 X104 hx hZ hown (host := "") (Or.inl (own_i hw 23 rfl)) Via.refl rfl (SN.ext f106.2) (g := (mkF m 39 #[.val (.int p1), .val (.int (0 : Int32)), .val (.int (45 : Int32)), .val (.ref wN), .unset] [])) rfl (hb hby at_39)
    obtain ⟨cq109, kq109, q109a, q109b, q109c⟩ := isOf hZ e108 (EN.ext f106.2)
    obtain ⟨_, _, ⟨T109, L109, k109, n109⟩, -, X109, ⟨Lc109, hQ109, l109, y109, z109⟩, st109⟩ := X108.virtualBack hx (y := (⟨"com/example/bookish_search/bookishsearch/feedback/Mark", "symbol", "()C"⟩ : MethodName)) (z := (⟨"com/example/bookish_search/bookishsearch/feedback/Mark", "symbol", "()C"⟩ : MethodName)) hown (mvT hZ (own_i hw 24 rfl)) (mvT hZ (own_i hw 25 rfl)) (notFace_of_selects (args := #[]) (mvT hZ (own_i hw 27 rfl))) (mvT hZ (own_i hw 27 rfl)) (mvT hZ (own_i hw 26 rfl)) (by decide) (backOf (W := 0) (rm3 l Z a0 hw [] wN (45 : Int32) T104.heap n0 f105 (FN.ext f106.2)) hZ (own_i hw 28 rfl) (own_i hw 2 rfl) (by decide) (by decide)) q109a q109c (g := (mkF m 51 #[.val (.int p1), .val (.int (0 : Int32)), .val (.int (45 : Int32)), .val (.ref wN), .val (.ref wN)] [(.ref wN)])) rfl (by rw [hml]; rfl) (Steps.refl _) (argsL := []) (rest := []) (lenOf pd_2 rfl) rfl (by show 2 * 0 + _ ≤ _; exact Nat.le_of_eq rfl) (hb hby at_51) (fun _ _ => ⟨rfl, e108, (by decide : 1 + 0 ≤ _), (by decide : 2 + 0 ≤ _)⟩)
    dsimp only [Pt.U, Pt.locs, Pt.cells, Pt.slots] at X109 l109 y109 z109 st109 hQ109
    subst l109 y109 z109
    obtain ⟨rfl, N109q, e109⟩ := hQ109
    have N109 := Fr.app N104 N109q
    have hd110 : (nar .char (45 : Int32)) = (45 : Int32) := by decide
    have pre111 : ∀ t, Steps p.tables e below (T109.setTop (mkF m 63 #[.val (.int p1), .val (.int (0 : Int32)), .val (.int (45 : Int32)), .val (.ref wN), .val (.ref wN)] [(.int (1 : Int32))])) t → Steps p.tables e below (s₁.setTop (entryFrame m #[(.int p1)] maxLocals)) t := fun t k => pre103 t (by
      show Steps p.tables e below (s₁.setTop (mkF m 3 #[.val (.int p1), .unset, .unset, .unset, .unset] [(.int (p1 &&& (1 : Int32)))])) t
      refine XS.ifYes X0.here hx rfl (pc0 := 3) (pc' := 10) rfl (hb hby at_3) rfl ((if0 _ _).trans (teq hc102).1) (by decide) (by decide) ?_
      show Steps p.tables e below (s₁.setTop (mkF m 10 #[.val (.int p1), .unset, .unset, .unset, .unset] [])) t
      refine XS.iconst X0.here hx rfl (hb hby at_10) ?_
      show Steps p.tables e below (s₁.setTop (mkF m 11 #[.val (.int p1), .unset, .unset, .unset, .unset] [(.int (0 : Int32))])) t
      refine XS.istoreN X0.here hx rfl (hb hby at_11) rfl (l' := #[.val (.int p1), .val (.int (0 : Int32)), .unset, .unset, .unset]) rfl ?_
      show Steps p.tables e below (s₁.setTop (mkF m 12 #[.val (.int p1), .val (.int (0 : Int32)), .unset, .unset, .unset] [])) t
      refine XS.iloadN X0.here hx rfl (hb hby at_12) rfl ?_
      show Steps p.tables e below (s₁.setTop (mkF m 13 #[.val (.int p1), .val (.int (0 : Int32)), .unset, .unset, .unset] [(.int (0 : Int32))])) t
      refine XS.ifYes X0.here hx rfl (pc0 := 13) (pc' := 21) rfl (hb hby at_13) rfl ((if0 _ _).trans (teq (by decide : (0 : Int32) = (0 : Int32))).1) (by decide) (by decide) ?_
      show Steps p.tables e below (s₁.setTop (mkF m 21 #[.val (.int p1), .val (.int (0 : Int32)), .unset, .unset, .unset] [])) t
      refine XS.bipush X0.here hx rfl (hb hby at_21) ?_
      show Steps p.tables e below (s₁.setTop (mkF m 23 #[.val (.int p1), .val (.int (0 : Int32)), .unset, .unset, .unset] [(.int (45 : Int32))])) t
      refine XS.istoreN X0.here hx rfl (hb hby at_23) rfl (l' := #[.val (.int p1), .val (.int (0 : Int32)), .val (.int (45 : Int32)), .unset, .unset]) rfl ?_
      show Steps p.tables e below (s₁.setTop (mkF m 24 #[.val (.int p1), .val (.int (0 : Int32)), .val (.int (45 : Int32)), .unset, .unset] [])) t
      refine XS.iloadN X0.here hx rfl (hb hby at_24) rfl ?_
      show Steps p.tables e below (s₁.setTop (mkF m 25 #[.val (.int p1), .val (.int (0 : Int32)), .val (.int (45 : Int32)), .unset, .unset] [(.int (45 : Int32))])) t
      refine st104 _ ?_
      show Steps p.tables e below (T104.setTop (mkF m 28 #[.val (.int p1), .val (.int (0 : Int32)), .val (.int (45 : Int32)), .unset, .unset] [(.ref wN)])) t
      refine XS.astoreN X104.here hx rfl (hb hby at_28) rfl rfl (l' := #[.val (.int p1), .val (.int (0 : Int32)), .val (.int (45 : Int32)), .val (.ref wN), .unset]) rfl ?_
      show Steps p.tables e below (T104.setTop (mkF m 29 #[.val (.int p1), .val (.int (0 : Int32)), .val (.int (45 : Int32)), .val (.ref wN), .unset] [])) t
      refine XS.iloadN X104.here hx rfl (hb hby at_29) rfl ?_
      show Steps p.tables e below (T104.setTop (mkF m 30 #[.val (.int p1), .val (.int (0 : Int32)), .val (.int (45 : Int32)), .val (.ref wN), .unset] [(.int (0 : Int32))])) t
      refine XS.ifYes X104.here hx rfl (pc0 := 30) (pc' := 39) rfl (hb hby at_30) rfl ((if0 _ _).trans (teq (by decide : (0 : Int32) = (0 : Int32))).1) (by decide) (by decide) ?_
      show Steps p.tables e below (T104.setTop (mkF m 39 #[.val (.int p1), .val (.int (0 : Int32)), .val (.int (45 : Int32)), .val (.ref wN), .unset] [])) t
      refine st108 _ ?_
      show Steps p.tables e below (T108.setTop (mkF m 42 #[.val (.int p1), .val (.int (0 : Int32)), .val (.int (45 : Int32)), .val (.ref wN), .unset] [(.ref wN)])) t
      refine XS.astore X108.here hx rfl (hb hby at_42) rfl rfl (l' := #[.val (.int p1), .val (.int (0 : Int32)), .val (.int (45 : Int32)), .val (.ref wN), .val (.ref wN)]) rfl ?_
      show Steps p.tables e below (T108.setTop (mkF m 44 #[.val (.int p1), .val (.int (0 : Int32)), .val (.int (45 : Int32)), .val (.ref wN), .val (.ref wN)] [])) t
      refine XS.aloadN X108.here hx rfl (hb hby at_44) rfl rfl ?_
      show Steps p.tables e below (T108.setTop (mkF m 45 #[.val (.int p1), .val (.int (0 : Int32)), .val (.int (45 : Int32)), .val (.ref wN), .val (.ref wN)] [(.ref wN)])) t
      refine XS.aload X108.here hx rfl (hb hby at_45) rfl rfl ?_
      show Steps p.tables e below (T108.setTop (mkF m 47 #[.val (.int p1), .val (.int (0 : Int32)), .val (.int (45 : Int32)), .val (.ref wN), .val (.ref wN)] [(.ref wN), (.ref wN)])) t
      refine Jvm.RoadKit.acmp (g := (mkF m 47 #[.val (.int p1), .val (.int (0 : Int32)), .val (.int (45 : Int32)), .val (.ref wN), .val (.ref wN)] [(.ref wN), (.ref wN)])) X108 hx rfl rfl rfl (pc0 := 47) (pc' := 50) (same := true) rfl (hb hby at_47) rfl (decide_eq_true rfl) (by decide) (by decide) ?_
      show Steps p.tables e below (T108.setTop (mkF m 50 #[.val (.int p1), .val (.int (0 : Int32)), .val (.int (45 : Int32)), .val (.ref wN), .val (.ref wN)] [])) t
      refine XS.aloadN X108.here hx rfl (hb hby at_50) rfl rfl ?_
      show Steps p.tables e below (T108.setTop (mkF m 51 #[.val (.int p1), .val (.int (0 : Int32)), .val (.int (45 : Int32)), .val (.ref wN), .val (.ref wN)] [(.ref wN)])) t
      refine st109.trans ?_
      show Steps p.tables e below (T109.setTop (mkF m 54 #[.val (.int p1), .val (.int (0 : Int32)), .val (.int (45 : Int32)), .val (.ref wN), .val (.ref wN)] [(.int (nar .char (45 : Int32)))])) t
      refine XS.iloadN X109.here hx rfl (hb hby at_54) rfl ?_
      show Steps p.tables e below (T109.setTop (mkF m 55 #[.val (.int p1), .val (.int (0 : Int32)), .val (.int (45 : Int32)), .val (.ref wN), .val (.ref wN)] [(.int (45 : Int32)), (.int (nar .char (45 : Int32)))])) t
      refine XS.icmpNo X109.here hx rfl (hb hby at_55) rfl (teq hd110).2 ?_
      show Steps p.tables e below (T109.setTop (mkF m 58 #[.val (.int p1), .val (.int (0 : Int32)), .val (.int (45 : Int32)), .val (.ref wN), .val (.ref wN)] [])) t
      refine XS.iconst X109.here hx rfl (hb hby at_58) ?_
      show Steps p.tables e below (T109.setTop (mkF m 59 #[.val (.int p1), .val (.int (0 : Int32)), .val (.int (45 : Int32)), .val (.ref wN), .val (.ref wN)] [(.int (1 : Int32))])) t
      refine XS.goto X109.here hx rfl (pc0 := 59) (pc' := 63) rfl (hb hby at_59) (by decide) (by decide) ?_
      exact k)
    obtain ⟨fs, hr, hrun, hended, hW, hsame⟩ := X109.leave (v := some (.int (1 : Int32))) (fun h => by rw [Bd.returns] at h; cases h)
    refine ⟨_, _, pre111 _ ?_, hrun, hended, _, _, rfl, ?_, ⟨_, rfl⟩, hW, hsame.mono (by decide) (by decide)⟩
    · exact retN X109 hx (t := .boolean) Bd.returns (by simp) (hb hby at_63) hr
    · show Q0 Z p1 wR wN wV kV h0 n0 _ T109.heap _
      rw [e109]
      exact ⟨rfl, N109⟩
  · obtain ⟨_, _, ⟨T112, L112, k112, n112⟩, -, X112, ⟨Lc112, hQ112, l112, y112, z112⟩, st112⟩ := Jvm.LawKit.callS X0 hx (y := (⟨"com/example/bookish_search/bookishsearch/feedback/Mark", "forSymbol", "(C)Lcom/example/bookish_search/bookishsearch/feedback/Mark;"⟩ : MethodName)) hown (mvT hZ (own_i hw 0 rfl)) (mvT hZ (own_i hw 1 rfl)) (mvT hZ (own_i hw 2 rfl)) (mvT hZ (own_i hw 3 rfl)) (by decide) (backOf (W := 0) (rm1p l Z a0 hw [] wR wN wV kV h0 n0 Z0 (SV.ext O0.2) (AV.ext O0.2) (EV.ext O0.2) (ER.ext O0.2) (EN.ext O0.2) (FR.ext O0.2) (FN.ext O0.2)) hZ (own_i hw 3 rfl) (own_i hw 2 rfl) (by decide) (by decide)) (g := (mkF m 25 #[.val (.int p1), .val (.int (1 : Int32)), .val (.int (43 : Int32)), .unset, .unset] [(.int (43 : Int32))])) rfl (by rw [hml]; rfl) (argsL := [(.int (43 : Int32))]) (rest := []) (lenOf pd_1 rfl) rfl (by show 2 * 0 + _ ≤ _; exact Nat.le_of_eq rfl) (hb hby at_25) (fun _ _ => ⟨rfl, e0, (by decide : 0 + 1 ≤ _), (by decide : 0 + 2 ≤ _)⟩)
    dsimp only [Pt.U, Pt.locs, Pt.cells, Pt.slots] at X112 l112 y112 z112 st112 hQ112
    subst l112 y112 z112
    obtain ⟨rfl, N112q, K112⟩ := hQ112
    have N112 := Fr.app N0 N112q
    have f113 := Nat.le_trans Z0 K112.1
    have f114 := O0.keep K112 all0
    have f115 := f101.trans K112 all0
    obtain ⟨T116, X116, e116, st116⟩ := getS2 X112 hx hZ hown (host := "") (Or.inl (own_i hw 29 rfl)) Via.refl rfl (SR.ext f114.2) (g := (mkF m 33 #[.val (.int p1), .val (.int (1 : Int32)), .val (.int (43 : Int32)), .val (.ref wR), .unset] [])) rfl (hb hby at_33)
    obtain ⟨cq117, kq117, q117a, q117b, q117c⟩ := isOf hZ e116 (ER.ext f114.2)
    obtain ⟨_, _, ⟨T117, L117, k117, n117⟩, -, X117, ⟨Lc117, hQ117, l117, y117, z117⟩, st117⟩ := X116.virtualBack hx (y := (⟨"com/example/bookish_search/bookishsearch/feedback/Mark", "symbol", "()C"⟩ : MethodName)) (z := (⟨"com/example/bookish_search/bookishsearch/feedback/Mark", "symbol", "()C"⟩ : MethodName)) hown (mvT hZ (own_i hw 24 rfl)) (mvT hZ (own_i hw 25 rfl)) (notFace_of_selects (args := #[]) (mvT hZ (own_i hw 27 rfl))) (mvT hZ (own_i hw 27 rfl)) (mvT hZ (own_i hw 26 rfl)) (by decide) (backOf (W := 0) (rm3 l Z a0 hw [] wR (43 : Int32) T112.heap n0 f113 (FR.ext f114.2)) hZ (own_i hw 28 rfl) (own_i hw 2 rfl) (by decide) (by decide)) q117a q117c (g := (mkF m 51 #[.val (.int p1), .val (.int (1 : Int32)), .val (.int (43 : Int32)), .val (.ref wR), .val (.ref wR)] [(.ref wR)])) rfl (by rw [hml]; rfl) (Steps.refl _) (argsL := []) (rest := []) (lenOf pd_2 rfl) rfl (by show 2 * 0 + _ ≤ _; exact Nat.le_of_eq rfl) (hb hby at_51) (fun _ _ => ⟨rfl, e116, (by decide : 1 + 0 ≤ _), (by decide : 2 + 0 ≤ _)⟩)
    dsimp only [Pt.U, Pt.locs, Pt.cells, Pt.slots] at X117 l117 y117 z117 st117 hQ117
    subst l117 y117 z117
    obtain ⟨rfl, N117q, e117⟩ := hQ117
    have N117 := Fr.app N112 N117q
    have hd118 : (nar .char (43 : Int32)) = (43 : Int32) := by decide
    have pre119 : ∀ t, Steps p.tables e below (T117.setTop (mkF m 63 #[.val (.int p1), .val (.int (1 : Int32)), .val (.int (43 : Int32)), .val (.ref wR), .val (.ref wR)] [(.int (1 : Int32))])) t → Steps p.tables e below (s₁.setTop (entryFrame m #[(.int p1)] maxLocals)) t := fun t k => pre103 t (by
      show Steps p.tables e below (s₁.setTop (mkF m 3 #[.val (.int p1), .unset, .unset, .unset, .unset] [(.int (p1 &&& (1 : Int32)))])) t
      refine XS.ifNo X0.here hx rfl (hb hby at_3) rfl ((if0 _ _).trans (feq hc102).1) ?_
      show Steps p.tables e below (s₁.setTop (mkF m 6 #[.val (.int p1), .unset, .unset, .unset, .unset] [])) t
      refine XS.iconst X0.here hx rfl (hb hby at_6) ?_
      show Steps p.tables e below (s₁.setTop (mkF m 7 #[.val (.int p1), .unset, .unset, .unset, .unset] [(.int (1 : Int32))])) t
      refine XS.goto X0.here hx rfl (pc0 := 7) (pc' := 11) rfl (hb hby at_7) (by decide) (by decide) ?_
      show Steps p.tables e below (s₁.setTop (mkF m 11 #[.val (.int p1), .unset, .unset, .unset, .unset] [(.int (1 : Int32))])) t
      refine XS.istoreN X0.here hx rfl (hb hby at_11) rfl (l' := #[.val (.int p1), .val (.int (1 : Int32)), .unset, .unset, .unset]) rfl ?_
      show Steps p.tables e below (s₁.setTop (mkF m 12 #[.val (.int p1), .val (.int (1 : Int32)), .unset, .unset, .unset] [])) t
      refine XS.iloadN X0.here hx rfl (hb hby at_12) rfl ?_
      show Steps p.tables e below (s₁.setTop (mkF m 13 #[.val (.int p1), .val (.int (1 : Int32)), .unset, .unset, .unset] [(.int (1 : Int32))])) t
      refine XS.ifNo X0.here hx rfl (hb hby at_13) rfl ((if0 _ _).trans (feq (by decide : ¬ ((1 : Int32) = (0 : Int32)))).1) ?_
      show Steps p.tables e below (s₁.setTop (mkF m 16 #[.val (.int p1), .val (.int (1 : Int32)), .unset, .unset, .unset] [])) t
      refine XS.bipush X0.here hx rfl (hb hby at_16) ?_
      show Steps p.tables e below (s₁.setTop (mkF m 18 #[.val (.int p1), .val (.int (1 : Int32)), .unset, .unset, .unset] [(.int (43 : Int32))])) t
      refine XS.goto X0.here hx rfl (pc0 := 18) (pc' := 23) rfl (hb hby at_18) (by decide) (by decide) ?_
      show Steps p.tables e below (s₁.setTop (mkF m 23 #[.val (.int p1), .val (.int (1 : Int32)), .unset, .unset, .unset] [(.int (43 : Int32))])) t
      refine XS.istoreN X0.here hx rfl (hb hby at_23) rfl (l' := #[.val (.int p1), .val (.int (1 : Int32)), .val (.int (43 : Int32)), .unset, .unset]) rfl ?_
      show Steps p.tables e below (s₁.setTop (mkF m 24 #[.val (.int p1), .val (.int (1 : Int32)), .val (.int (43 : Int32)), .unset, .unset] [])) t
      refine XS.iloadN X0.here hx rfl (hb hby at_24) rfl ?_
      show Steps p.tables e below (s₁.setTop (mkF m 25 #[.val (.int p1), .val (.int (1 : Int32)), .val (.int (43 : Int32)), .unset, .unset] [(.int (43 : Int32))])) t
      refine st112 _ ?_
      show Steps p.tables e below (T112.setTop (mkF m 28 #[.val (.int p1), .val (.int (1 : Int32)), .val (.int (43 : Int32)), .unset, .unset] [(.ref wR)])) t
      refine XS.astoreN X112.here hx rfl (hb hby at_28) rfl rfl (l' := #[.val (.int p1), .val (.int (1 : Int32)), .val (.int (43 : Int32)), .val (.ref wR), .unset]) rfl ?_
      show Steps p.tables e below (T112.setTop (mkF m 29 #[.val (.int p1), .val (.int (1 : Int32)), .val (.int (43 : Int32)), .val (.ref wR), .unset] [])) t
      refine XS.iloadN X112.here hx rfl (hb hby at_29) rfl ?_
      show Steps p.tables e below (T112.setTop (mkF m 30 #[.val (.int p1), .val (.int (1 : Int32)), .val (.int (43 : Int32)), .val (.ref wR), .unset] [(.int (1 : Int32))])) t
      refine XS.ifNo X112.here hx rfl (hb hby at_30) rfl ((if0 _ _).trans (feq (by decide : ¬ ((1 : Int32) = (0 : Int32)))).1) ?_
      show Steps p.tables e below (T112.setTop (mkF m 33 #[.val (.int p1), .val (.int (1 : Int32)), .val (.int (43 : Int32)), .val (.ref wR), .unset] [])) t
      refine st116 _ ?_
      show Steps p.tables e below (T116.setTop (mkF m 36 #[.val (.int p1), .val (.int (1 : Int32)), .val (.int (43 : Int32)), .val (.ref wR), .unset] [(.ref wR)])) t
      refine XS.goto X116.here hx rfl (pc0 := 36) (pc' := 42) rfl (hb hby at_36) (by decide) (by decide) ?_
      show Steps p.tables e below (T116.setTop (mkF m 42 #[.val (.int p1), .val (.int (1 : Int32)), .val (.int (43 : Int32)), .val (.ref wR), .unset] [(.ref wR)])) t
      refine XS.astore X116.here hx rfl (hb hby at_42) rfl rfl (l' := #[.val (.int p1), .val (.int (1 : Int32)), .val (.int (43 : Int32)), .val (.ref wR), .val (.ref wR)]) rfl ?_
      show Steps p.tables e below (T116.setTop (mkF m 44 #[.val (.int p1), .val (.int (1 : Int32)), .val (.int (43 : Int32)), .val (.ref wR), .val (.ref wR)] [])) t
      refine XS.aloadN X116.here hx rfl (hb hby at_44) rfl rfl ?_
      show Steps p.tables e below (T116.setTop (mkF m 45 #[.val (.int p1), .val (.int (1 : Int32)), .val (.int (43 : Int32)), .val (.ref wR), .val (.ref wR)] [(.ref wR)])) t
      refine XS.aload X116.here hx rfl (hb hby at_45) rfl rfl ?_
      show Steps p.tables e below (T116.setTop (mkF m 47 #[.val (.int p1), .val (.int (1 : Int32)), .val (.int (43 : Int32)), .val (.ref wR), .val (.ref wR)] [(.ref wR), (.ref wR)])) t
      refine Jvm.RoadKit.acmp (g := (mkF m 47 #[.val (.int p1), .val (.int (1 : Int32)), .val (.int (43 : Int32)), .val (.ref wR), .val (.ref wR)] [(.ref wR), (.ref wR)])) X116 hx rfl rfl rfl (pc0 := 47) (pc' := 50) (same := true) rfl (hb hby at_47) rfl (decide_eq_true rfl) (by decide) (by decide) ?_
      show Steps p.tables e below (T116.setTop (mkF m 50 #[.val (.int p1), .val (.int (1 : Int32)), .val (.int (43 : Int32)), .val (.ref wR), .val (.ref wR)] [])) t
      refine XS.aloadN X116.here hx rfl (hb hby at_50) rfl rfl ?_
      show Steps p.tables e below (T116.setTop (mkF m 51 #[.val (.int p1), .val (.int (1 : Int32)), .val (.int (43 : Int32)), .val (.ref wR), .val (.ref wR)] [(.ref wR)])) t
      refine st117.trans ?_
      show Steps p.tables e below (T117.setTop (mkF m 54 #[.val (.int p1), .val (.int (1 : Int32)), .val (.int (43 : Int32)), .val (.ref wR), .val (.ref wR)] [(.int (nar .char (43 : Int32)))])) t
      refine XS.iloadN X117.here hx rfl (hb hby at_54) rfl ?_
      show Steps p.tables e below (T117.setTop (mkF m 55 #[.val (.int p1), .val (.int (1 : Int32)), .val (.int (43 : Int32)), .val (.ref wR), .val (.ref wR)] [(.int (43 : Int32)), (.int (nar .char (43 : Int32)))])) t
      refine XS.icmpNo X117.here hx rfl (hb hby at_55) rfl (teq hd118).2 ?_
      show Steps p.tables e below (T117.setTop (mkF m 58 #[.val (.int p1), .val (.int (1 : Int32)), .val (.int (43 : Int32)), .val (.ref wR), .val (.ref wR)] [])) t
      refine XS.iconst X117.here hx rfl (hb hby at_58) ?_
      show Steps p.tables e below (T117.setTop (mkF m 59 #[.val (.int p1), .val (.int (1 : Int32)), .val (.int (43 : Int32)), .val (.ref wR), .val (.ref wR)] [(.int (1 : Int32))])) t
      refine XS.goto X117.here hx rfl (pc0 := 59) (pc' := 63) rfl (hb hby at_59) (by decide) (by decide) ?_
      exact k)
    obtain ⟨fs, hr, hrun, hended, hW, hsame⟩ := X117.leave (v := some (.int (1 : Int32))) (fun h => by rw [Bd.returns] at h; cases h)
    refine ⟨_, _, pre119 _ ?_, hrun, hended, _, _, rfl, ?_, ⟨_, rfl⟩, hW, hsame.mono (by decide) (by decide)⟩
    · exact retN X117 hx (t := .boolean) Bd.returns (by simp) (hb hby at_63) hr
    · show Q0 Z p1 wR wN wV kV h0 n0 _ T117.heap _
      rw [e117]
      exact ⟨rfl, N117⟩
theorem own_arr2 {args : Array Value} {s : State} {t u0 u1 : Jvm.Term} {K : String} {w w0 w1 : Addr} (hf : Fit s) (ht : t.eval args s none [] s = some (.ref w)) (h1 : (Jvm.Cond.arrayOf t (.object K)).value args s none s [] = some true) (h2 : (Jvm.Cond.eq (Jvm.Term.length t) (Jvm.Term.int (2 : Int32))).value args s none s [] = some true)
    (e0 : u0.eval args s none [] s = some (.ref w0)) (e1 : u1.eval args s none [] s = some (.ref w1)) (q0 : (Jvm.Cond.eq (Jvm.Term.elem t (Jvm.Term.int (0 : Int32))) u0).value args s none s [] = some true) (q1 : (Jvm.Cond.eq (Jvm.Term.elem t (Jvm.Term.int (1 : Int32))) u1).value args s none s [] = some true) : ∃ k, Arv s s.heap w k (.object K) (2 : Int32) [(.ref w0), (.ref w1)] .null := by
  obtain ⟨c, A⟩ := Arr.start ht h1
  have fa := A.fin (Vm.Alike.refl _)
  have e := eqv_i (Term.int_eval (2)) h2
  have hl : c.slots.size < 2 ^ 31 := by
    by_cases q : c.slots.size < 2 ^ 31
    · exact q
    · simp [Term.eval, ht, fa, q] at e
  have e2 := (len_f ht fa hl).symm.trans e
  have e3 : c.slots.size.toInt32 = 2 := by injection e2 with e2; injection e2
  have at_ : ∀ (j : Int32) (u : Jvm.Term) (y : Addr), ¬ j < 0 → u.eval args s none [] s = some (.ref y) → (Jvm.Cond.eq (Jvm.Term.elem t (Jvm.Term.int j)) u).value args s none s [] = some true → c.slots[j.toNatClampNeg]? = some (.ref y) := by
    intro j u y hj hu hq
    obtain ⟨x, y', ex, ey, kx, ky⟩ := cmp_v (Or.inl hq)
    cases hu.symm.trans ey
    have g := (elem_f ht (Term.int_eval j) fa hj).symm.trans ex
    rw [g]
    have hr : x.isRef = true := by
      have k2 : (Value.ref y).isRef = true ∧ x.isRef = true := ky
      exact k2.2
    exact congrArg some (gotT (eq_R ex ey hr rfl) hq)
  exact ⟨c.cls, Arv.start hf A hl e3 (by decide) rfl ⟨at_ 0 u0 w0 (by decide) e0 q0, at_ 1 u1 w1 (by decide) e1 q1, trivial⟩⟩
set_option maxRecDepth 65536 in
set_option maxHeartbeats 40000000 in
theorem comes_1 {Post : Tables → Env → Array Value → State → Outcome → State → Prop} (hpost : ∀ tb e args s v u, (limb_1_1.after args s (.returned v) u = true ∧ limb_1_2.after args s (.returned v) u = true ∧ True) → FrameEnd s (.returned v) u (Jvm.fieldLocs frame_1_writes args s ++ Jvm.arrayLocs frame_1_arrays args s ++ Jvm.staticLocs frame_1_statics s) 16 128 → Post tb e args s (.returned v) u) :
    ArmFor flags0 classFile x code maxLocals ret World_1 tables_1 room_1 Calls_1 rest_1 Pre_1 Post := by
  intro l hfl _ _ p e ha hc hk s m args below hf hA hF happ hP
  obtain ⟨hcalls, hrest, hpre⟩ := hP
  obtain ⟨-, -, -, hnamed, -, -, -, hat⟩ := (Spec.applies_iff hf).mp happ
  obtain ⟨hg, hn⟩ := and_e (Cond.before_iff.mp (show (Jvm.Cond.and given_1 narrow_1).before args s = true from hpre))
  obtain ⟨hga, hgb⟩ := and_e hg
  obtain ⟨w0, rfl⟩ : ∃ w0 : Value, args = #[w0] := by
    have hs : args.size = 1 := by simpa [Cond.value, given_1] using hga
    obtain ⟨L⟩ := args
    match L, hs with
    | [w0], _ => exact ⟨w0, rfl⟩
  have hw := fun d (hd : d ∈ tables_1) => atoms_spec (ws := Jvm.Cond.code x code maxLocals ret :: tables_1) hat d (List.mem_cons_of_mem _ hd)
  have hfit : Fit s := fun {y c} hc i hi => by
    obtain ⟨ha, rfl⟩ := Array.getElem?_eq_some_iff.mp hc
    have q := List.all_eq_true.mp ((Array.all_eq_true_iff_forall_mem.mp hF) _ (Array.getElem_mem ha)) i (List.mem_range.mpr hi)
    simpa [Array.getElem?_eq_getElem hi] using q
  obtain ⟨i0, ev0⟩ := is_v hgb
  obtain rfl : w0 = (.int i0) := Option.some.inj ev0
  obtain ⟨hna, hnb⟩ := and_e hn
  obtain ⟨hnba, hnbb⟩ := and_e hnb
  obtain ⟨hnbba, hnbbb⟩ := and_e hnbb
  obtain ⟨hnbbba, hnbbbb⟩ := and_e hnbbb
  obtain ⟨hnbbbba, hnbbbbb⟩ := and_e hnbbbb
  obtain ⟨hnbbbbba, hnbbbbbb⟩ := and_e hnbbbbb
  obtain ⟨hnbbbbbba, hnbbbbbbb⟩ := and_e hnbbbbbb
  obtain ⟨hnbbbbbbba, hnbbbbbbbb⟩ := and_e hnbbbbbbb
  obtain ⟨wV, evV, SV, EV⟩ := own_static hnba (own_i hw 2 rfl) (own_i hw 8 rfl)
  obtain ⟨wR, evR, SR, ER⟩ := own_static hnbbba (own_i hw 2 rfl) (own_i hw 16 rfl)
  obtain ⟨wN, evN, SN, EN⟩ := own_static hnbbbbba (own_i hw 2 rfl) (own_i hw 17 rfl)
  have FR := own_fieldI evR hnbbbbbbba
  have FN := own_fieldI evN hnbbbbbbbb
  obtain ⟨kV, AV⟩ := own_arr2 hfit evV hna hnbba evR evN hnbbbba hnbbbbbba
  obtain ⟨n, o, h1, h2, h3, _, L, rfl, ⟨rfl, N⟩, hq⟩ := rm0 l s _ hw tables_1 i0 wR wN wV kV s.heap s.heap.size (Nat.le_refl _) SR SN SV AV EV ER EN FR FN (Old.start s) p e ha hc hk s m _ below hf ((Spec.applies_iff_loose hf).mp happ).1 ⟨rfl, State.Warmed39.refl s, rfl⟩ trivial
  refine ⟨n, _, h1, h2, h3, hpost _ _ _ _ _ _ ⟨Cond.after_iff.mpr rfl, Cond.after_iff.mpr (eq_i res_at (Term.int_eval (1)) rfl), trivial⟩ ⟨hq.1, hq.2.1, (hq.2.2.sift fun y hy => Or.inr (N y hy)).mono (by decide) (by decide)⟩⟩
theorem main_1_1 : Claimed_1_1 := comes_1 fun _ _ _ _ _ _ h hF => ⟨h.1, hF⟩
theorem main_1_2 : Claimed_1_2 := comes_1 fun _ _ _ _ _ _ h hF => ⟨h.2.1, hF⟩
end Jvm.Pilot.@@N@@
namespace Jvm.Pilot.@@N@@
open Jvm Jvm.ClassFile Sem Op Lib Jvm.Free Jvm.Stand Jvm.Pilot.@@N@@.Jvm.D
/-! MADE BY PROGRAM (witnessworld.py) out of the Statement's table words and the real class files: 13 classes; the members and pool entries that the words name. The judged class is class 1, her method 1. -/
namespace start1
open Jvm.ClassFile
def u (s : String) : CpInfo := .utf8 (stringToUtf16 s)
/-- a pool by its gaps: so many unusable entries, then the entry; so many at the end -/
def gap : Nat → List CpInfo → List CpInfo
  | 0, r => r
  | n + 1, r => .unusable :: gap n r
def poolList (es : List (Nat × CpInfo)) (last : Nat) : List CpInfo := es.foldr (fun e r => gap e.1 (e.2 :: r)) (gap last [])
def pool (es : List (Nat × CpInfo)) (last : Nat) : Array CpInfo := ⟨poolList es last⟩
def fileOf (pool : Array CpInfo) (this : Nat) (attrs : Array Attribute := #[]) (ms : Array MethodInfo := #[]) (fl : Nat := 33) (sup : Nat := 0) (ifs : Array Nat := #[]) (fds : Array FieldInfo := #[]) : ClassFile where
  minorVersion := 0
  majorVersion := 65
  constantPool := pool
  accessFlags := fl
  thisClass := this
  superClass := sup
  interfaces := ifs
  fields := fds
  methods := ms
  attributes := attrs
def plain (name : String) (sup : Option ClassId) : Class where
  name := name
  kind := .ordinary
  loader := none
  accessFlags := 33
  super := sup
  interfaces := #[]
  cf := none
  fields := #[]
  methods := #[]
  instanceTypes := #[]
  staticTypes := #[]
  resolved := #[]
  callSites := []
  init := .initialized
  statics := none
  mirror := none

def pool0 : Array CpInfo := pool [(5, u "<init>"), (0, u "()V"), (1, .class_ 10), (1, u "java/lang/Object"), (85, u "clone"), (0, u "()Ljava/lang/Object;")] 26

def k0m0 : Method := { name := "<init>", desc := "()V", sig := { parameters := [], returnType := none }, accessFlags := 1, code := none }
def k0m1 : Method := { name := "clone", desc := "()Ljava/lang/Object;", sig := { parameters := [], returnType := some (.object "java/lang/Object") }, accessFlags := 260, code := none }
/-- java/lang/Object -/
def k0 : Class := { plain "java/lang/Object" none with
  accessFlags := 33
  interfaces := #[]
  cf := some (fileOf pool0 8 #[] #[{ accessFlags := 1, nameIndex := 5, descriptorIndex := 6, attributes := #[] }, { accessFlags := 260, nameIndex := 96, descriptorIndex := 97, attributes := #[] }] 33 0 #[] #[])
  fields := #[]
  methods := #[k0m0, k0m1]
  instanceTypes := #[]
  staticTypes := #[]
  resolved := Array.replicate 124 none
  statics := none }

def pool1 : Array CpInfo := pool [(2, .class_ 4), (1, u "java/lang/Object"), (0, u "<init>"), (0, u "()V"), (0, .methodref 8 9), (0, .class_ 10), (0, .nameAndType 11 12), (0, u "com/example/bookish_search/bookishsearch/feedback/Mark"), (0, u "forSymbol"), (0, u "(C)Lcom/example/bookish_search/bookishsearch/feedback/Mark;"), (0, .fieldref 8 14), (0, .nameAndType 15 16), (0, u "RELEVANT"), (0, u "Lcom/example/bookish_search/bookishsearch/feedback/Mark;"), (0, .fieldref 8 18), (0, .nameAndType 19 16), (0, u "NOT_RELEVANT"), (0, .methodref 8 21), (0, .nameAndType 22 23), (0, u "symbol"), (0, u "()C"), (0, .class_ 25), (0, u "com/example/bookish_search/bookishsearch/feedback/MarkForSymbolPinLaw"), (2, u "law"), (0, u "(I)Z")] 3

def k1m0 : Method := { name := "<init>", desc := "()V", sig := { parameters := [], returnType := none }, accessFlags := 1, code := none }
def k1c1 : Code := { maxStack := 2, maxLocals := 5, code := code, exceptionTable := #[], attributes := #[] }
def k1m1 : Method := { name := "law", desc := "(I)Z", sig := { parameters := [.int], returnType := some .boolean }, accessFlags := 9, code := some k1c1 }
/-- com/example/bookish_search/bookishsearch/feedback/MarkForSymbolPinLaw -/
def k1 : Class := { plain "com/example/bookish_search/bookishsearch/feedback/MarkForSymbolPinLaw" (some 0) with
  accessFlags := 49
  interfaces := #[]
  cf := some (fileOf pool1 24 #[] #[{ accessFlags := 1, nameIndex := 5, descriptorIndex := 6, attributes := #[] }, { accessFlags := 9, nameIndex := 28, descriptorIndex := 29, attributes := #[] }] 49 2 #[] #[])
  fields := #[]
  methods := #[k1m0, k1m1]
  instanceTypes := #[]
  staticTypes := #[]
  resolved := Array.replicate 33 none
  statics := none }

def pool2 : Array CpInfo := pool [(1, .class_ 2), (0, u "java/lang/constant/Constable"), (0, .class_ 4), (0, u "java/lang/Object")] 6

/-- java/lang/constant/Constable -/
def k2 : Class := { plain "java/lang/constant/Constable" (some 0) with
  accessFlags := 1537
  interfaces := #[]
  cf := some (fileOf pool2 1 #[] #[] 1537 3 #[] #[])
  fields := #[]
  methods := #[]
  instanceTypes := #[]
  staticTypes := #[]
  resolved := Array.replicate 11 none
  statics := none }

def pool3 : Array CpInfo := pool [(1, .class_ 2), (0, u "java/lang/Comparable"), (0, .class_ 4), (0, u "java/lang/Object")] 7

/-- java/lang/Comparable -/
def k3 : Class := { plain "java/lang/Comparable" (some 0) with
  accessFlags := 1537
  interfaces := #[]
  cf := some (fileOf pool3 1 #[] #[] 1537 3 #[] #[])
  fields := #[]
  methods := #[]
  instanceTypes := #[]
  staticTypes := #[]
  resolved := Array.replicate 12 none
  statics := none }

def pool4 : Array CpInfo := pool [(1, .class_ 2), (0, u "java/io/Serializable"), (0, .class_ 4), (0, u "java/lang/Object")] 2

/-- java/io/Serializable -/
def k4 : Class := { plain "java/io/Serializable" (some 0) with
  accessFlags := 1537
  interfaces := #[]
  cf := some (fileOf pool4 1 #[] #[] 1537 3 #[] #[])
  fields := #[]
  methods := #[]
  instanceTypes := #[]
  staticTypes := #[]
  resolved := Array.replicate 7 none
  statics := none }

def pool5 : Array CpInfo := pool [(2, .class_ 4), (1, u "java/lang/Enum"), (0, u "name"), (0, u "Ljava/lang/String;"), (2, u "ordinal"), (0, u "I"), (1, .class_ 14), (1, u "java/lang/Object"), (4, u "hash"), (86, .class_ 108), (1, u "java/lang/Enum$EnumDesc"), (2, .class_ 112), (0, u "java/lang/constant/Constable"), (0, .class_ 114), (0, u "java/lang/Comparable"), (0, .class_ 116), (0, u "java/io/Serializable")] 87

/-- java/lang/Enum -/
def k5 : Class := { plain "java/lang/Enum" (some 0) with
  accessFlags := 1057
  interfaces := #[2, 3, 4]
  cf := some (fileOf pool5 2 #[.nestMembers #[106]] #[] 1057 12 #[111, 113, 115] #[{ accessFlags := 18, nameIndex := 5, descriptorIndex := 6, attributes := #[] }, { accessFlags := 18, nameIndex := 9, descriptorIndex := 10, attributes := #[] }, { accessFlags := 2, nameIndex := 19, descriptorIndex := 10, attributes := #[] }])
  fields := #[{ name := "name", type := (.object "java/lang/String"), accessFlags := 18, slot := 0, constantValue := 0 }, { name := "ordinal", type := .int, accessFlags := 18, slot := 1, constantValue := 0 }, { name := "hash", type := .int, accessFlags := 2, slot := 2, constantValue := 0 }]
  methods := #[]
  instanceTypes := #[(.object "java/lang/String"), .int, .int]
  staticTypes := #[]
  resolved := Array.replicate 204 none
  statics := none }

def pool6 : Array CpInfo := pool [(1, .class_ 2), (0, u "com/example/bookish_search/bookishsearch/feedback/Mark"), (2, u "RELEVANT"), (0, u "Lcom/example/bookish_search/bookishsearch/feedback/Mark;"), (2, u "NOT_RELEVANT"), (0, .fieldref 1 11), (0, .nameAndType 12 13), (0, u "$VALUES"), (0, u "[Lcom/example/bookish_search/bookishsearch/feedback/Mark;"), (0, .methodref 15 16), (0, .class_ 13), (0, .nameAndType 17 18), (0, u "clone"), (0, u "()Ljava/lang/Object;"), (1, .class_ 22), (1, u "java/lang/Enum"), (6, .fieldref 1 30), (0, .nameAndType 31 32), (0, u "symbol"), (0, u "C"), (0, .methodref 1 34), (0, .nameAndType 35 36), (0, u "values"), (0, u "()[Lcom/example/bookish_search/bookishsearch/feedback/Mark;"), (23, u "()C"), (0, u "forSymbol"), (0, u "(C)Lcom/example/bookish_search/bookishsearch/feedback/Mark;")] 21

def k6c0 : Code := { maxStack := 1, maxLocals := 0, code := prog_24_method_1_code, exceptionTable := #[], attributes := #[] }
def k6m0 : Method := { name := "values", desc := "()[Lcom/example/bookish_search/bookishsearch/feedback/Mark;", sig := { parameters := [], returnType := some (.array (.object "com/example/bookish_search/bookishsearch/feedback/Mark")) }, accessFlags := 9, code := some k6c0 }
def k6c1 : Code := { maxStack := 1, maxLocals := 1, code := prog_24_method_4_code, exceptionTable := #[], attributes := #[] }
def k6m1 : Method := { name := "symbol", desc := "()C", sig := { parameters := [], returnType := some .char }, accessFlags := 1, code := some k6c1 }
def k6c2 : Code := { maxStack := 3, maxLocals := 5, code := prog_24_method_5_code, exceptionTable := #[], attributes := #[] }
def k6m2 : Method := { name := "forSymbol", desc := "(C)Lcom/example/bookish_search/bookishsearch/feedback/Mark;", sig := { parameters := [.char], returnType := some (.object "com/example/bookish_search/bookishsearch/feedback/Mark") }, accessFlags := 9, code := some k6c2 }
/-- com/example/bookish_search/bookishsearch/feedback/Mark -/
def k6 : Class := { plain "com/example/bookish_search/bookishsearch/feedback/Mark" (some 5) with
  accessFlags := 16433
  interfaces := #[]
  cf := some (fileOf pool6 1 #[] #[{ accessFlags := 9, nameIndex := 35, descriptorIndex := 36, attributes := #[] }, { accessFlags := 1, nameIndex := 31, descriptorIndex := 60, attributes := #[] }, { accessFlags := 9, nameIndex := 61, descriptorIndex := 62, attributes := #[] }] 16433 20 #[] #[{ accessFlags := 16409, nameIndex := 5, descriptorIndex := 6, attributes := #[] }, { accessFlags := 16409, nameIndex := 9, descriptorIndex := 6, attributes := #[] }, { accessFlags := 18, nameIndex := 31, descriptorIndex := 32, attributes := #[] }, { accessFlags := 4122, nameIndex := 12, descriptorIndex := 13, attributes := #[] }])
  fields := #[{ name := "RELEVANT", type := (.object "com/example/bookish_search/bookishsearch/feedback/Mark"), accessFlags := 16409, slot := 0, constantValue := 0 }, { name := "NOT_RELEVANT", type := (.object "com/example/bookish_search/bookishsearch/feedback/Mark"), accessFlags := 16409, slot := 1, constantValue := 0 }, { name := "symbol", type := .char, accessFlags := 18, slot := 3, constantValue := 0 }, { name := "$VALUES", type := (.array (.object "com/example/bookish_search/bookishsearch/feedback/Mark")), accessFlags := 4122, slot := 2, constantValue := 0 }]
  methods := #[k6m0, k6m1, k6m2]
  instanceTypes := #[(.object "java/lang/String"), .int, .int, .char]
  staticTypes := #[(.object "com/example/bookish_search/bookishsearch/feedback/Mark"), (.object "com/example/bookish_search/bookishsearch/feedback/Mark"), (.array (.object "com/example/bookish_search/bookishsearch/feedback/Mark"))]
  resolved := Array.replicate 84 none
  statics := some 0 }

def pool7 : Array CpInfo := pool [(1, .class_ 2), (0, u "java/lang/Cloneable"), (0, .class_ 4), (0, u "java/lang/Object")] 2

/-- java/lang/Cloneable -/
def k7 : Class := { plain "java/lang/Cloneable" (some 0) with
  accessFlags := 1537
  interfaces := #[]
  cf := some (fileOf pool7 1 #[] #[] 1537 3 #[] #[])
  fields := #[]
  methods := #[]
  instanceTypes := #[]
  staticTypes := #[]
  resolved := Array.replicate 7 none
  statics := none }

/-- the primitive byte -/
def k8 : Class := { plain "byte" none with kind := .primitive 'B', accessFlags := 0x411 }
/-- [B -/
def k9 : Class := { plain "[B" (some 0) with kind := .array 8 .byte, interfaces := #[7, 4], accessFlags := 1041 }

/-- the primitive int -/
def k10 : Class := { plain "int" none with kind := .primitive 'I', accessFlags := 0x411 }
/-- [I -/
def k11 : Class := { plain "[I" (some 0) with kind := .array 10 .int, interfaces := #[7, 4], accessFlags := 1041 }

/-- [Lcom/example/bookish_search/bookishsearch/feedback/Mark; -/
def k12 : Class := { plain "[Lcom/example/bookish_search/bookishsearch/feedback/Mark;" (some 0) with kind := .array 6 (.object "com/example/bookish_search/bookishsearch/feedback/Mark"), interfaces := #[7, 4], accessFlags := 1041 }

def heap : Heap := #[{ cls := 6, slots := #[.ref 2, .ref 3, .ref 1], vm := .statics 6 },
  { cls := 12, slots := #[.ref 2, .ref 3], vm := .none },
  { cls := 6, slots := #[.null, .int 0, .int 0, .int 43], vm := .none },
  { cls := 6, slots := #[.null, .int 1, .int 0, .int 45], vm := .none }]
def classes : Array Class := #[k0, k1, k2, k3, k4, k5, k6, k7, k8, k9, k10, k11, k12]
def interned : List (Array UInt16 × Addr) := []
def slotsUsed : Nat := 13
def theMethod : MethodId := ⟨1, 1⟩
def args0 : Array Value := #[.int 5]
def aboutOver (below : List Frame) : State where
  vm := { classes := classes, interned := interned.toArray }
  heap := heap
  slotsUsed := slotsUsed
  threads := #[{ frames := .invoking theMethod args0 :: below }]
def below0 : List Frame := [.native { method := ⟨0, 0⟩, args := #[] }]
def about1 : State := aboutOver below0
def p0 : Program := .bare "" "" ""
def e0 : Env := launch0.env 0 0 0
theorem w_frames : about1.frames = Frame.invoking theMethod args0 :: below0 := rfl
set_option maxRecDepth 65536 in
theorem w_args : argsFit about1.vm theMethod args0 = true := by decide +kernel
set_option maxRecDepth 65536 in
theorem w_heap : heapFits about1 = true := by decide +kernel
set_option maxRecDepth 65536 in
theorem w_runnable : about1.curStatus? = some .runnable := by decide +kernel
set_option maxRecDepth 65536 in
theorem w_alone : about1.alone = true := by decide +kernel
set_option maxRecDepth 65536 in
theorem w_named : about1.methodNamed? x = some theMethod := by decide +kernel
set_option maxRecDepth 65536 in
theorem w_hears : about1.hears theMethod below0 = true := by decide +kernel
set_option maxRecDepth 65536 in
theorem w_ripe : about1.ripe theMethod args0 below0 = true := by decide +kernel
theorem w_running : about1.status = .running := rfl
set_option maxRecDepth 65536 in
theorem w_room : about1.hasRoom e0.platform room_1 = true :=
  launch0.hasRoom_least _ room_1 (by decide +kernel) (by decide +kernel) (by decide +kernel) (by decide +kernel) (by decide +kernel) (by decide +kernel)
theorem allAtoms_all (ts : List Jvm.Cond) (a : Array Jvm.Value) (st : Jvm.State) : (allAtoms ts).before a st = ts.all (fun c => c.before a st) := by
  induction ts with
  | nil => rfl
  | cons c t ih =>
    show (Jvm.Cond.and c (allAtoms t)).before a st = _
    rw [Jvm.Cond.before_and, ih, List.all_cons]
def words1 : List Jvm.Cond := Jvm.Cond.code x code maxLocals ret :: tables_1
/-- a 'code' word, met by the world's own term for the bytes: nothing is compared byte by byte -/
theorem code_word {y : MethodName} {bytes : ByteArray} {mx : Nat} {rt : Option FieldType} {a : Array Value} {s : State} {m : MethodId} {meth : Method} {c : Code} (h1 : s.methodNamed? y = some m) (h2 : s.vm.method? m = some meth) (h3 : meth.code = some c) (h4 : c.code = bytes)
    (h5 : (c.maxLocals == mx && c.exceptionTable.isEmpty && decide (c.maxStack ≤ mostOperands) && decide (meth.sig.returnType = rt) && !meth.locks && decide (parseMethodDescriptor y.desc = some meth.sig)) = true) : (Jvm.Cond.code y bytes mx rt).before a s = true := by
  simp only [Bool.and_eq_true, beq_iff_eq, Bool.not_eq_true', decide_eq_true_eq] at h5
  obtain ⟨⟨⟨⟨⟨g1, g2⟩, g3⟩, g4⟩, g5⟩, g6⟩ := h5
  simp [Cond.before, Cond.holds, Cond.value, h1, h2, h3, h4, g1, g2, g3, g4, g5, g6]
def isCode : Jvm.Cond → Bool
  | .code _ _ _ _ => true
  | _ => false
theorem all_split {L : List Jvm.Cond} {P : Jvm.Cond → Bool} (h1 : L.all (fun c => isCode c || P c) = true) (h2 : ∀ c ∈ L.filter isCode, P c = true) : L.all P = true := by
  refine List.all_eq_true.mpr fun c hc => ?_
  have h := List.all_eq_true.mp h1 c hc
  rcases Bool.eq_false_or_eq_true (isCode c) with hi | hi
  · exact h2 c (List.mem_filter.mpr ⟨hc, hi⟩)
  · simpa [hi] using h
set_option maxRecDepth 65536 in
theorem w_c0 : (Jvm.Cond.code x code maxLocals ret).before args0 about1 = true := code_word (m := ⟨1, 1⟩) (meth := k1m1) (c := k1c1) (by decide +kernel) rfl rfl rfl (by decide +kernel)
set_option maxRecDepth 65536 in
theorem w_c1 : (Jvm.Cond.code ({ cls := "com/example/bookish_search/bookishsearch/feedback/Mark", name := "forSymbol", desc := "(C)Lcom/example/bookish_search/bookishsearch/feedback/Mark;" } : Jvm.MethodName) prog_24_method_5_code (5 : Nat) (Option.some (Jvm.ClassFile.FieldType.object "com/example/bookish_search/bookishsearch/feedback/Mark"))).before args0 about1 = true := code_word (m := ⟨6, 2⟩) (meth := k6m2) (c := k6c2) (by decide +kernel) rfl rfl rfl (by decide +kernel)
set_option maxRecDepth 65536 in
theorem w_c2 : (Jvm.Cond.code ({ cls := "com/example/bookish_search/bookishsearch/feedback/Mark", name := "values", desc := "()[Lcom/example/bookish_search/bookishsearch/feedback/Mark;" } : Jvm.MethodName) prog_24_method_1_code (0 : Nat) (Option.some (Jvm.ClassFile.FieldType.array (Jvm.ClassFile.FieldType.object "com/example/bookish_search/bookishsearch/feedback/Mark")))).before args0 about1 = true := code_word (m := ⟨6, 0⟩) (meth := k6m0) (c := k6c0) (by decide +kernel) rfl rfl rfl (by decide +kernel)
set_option maxRecDepth 65536 in
theorem w_c3 : (Jvm.Cond.code ({ cls := "com/example/bookish_search/bookishsearch/feedback/Mark", name := "symbol", desc := "()C" } : Jvm.MethodName) prog_24_method_4_code (1 : Nat) (Option.some Jvm.ClassFile.FieldType.char)).before args0 about1 = true := code_word (m := ⟨6, 1⟩) (meth := k6m1) (c := k6c1) (by decide +kernel) rfl rfl rfl (by decide +kernel)
def codes1 : List Jvm.Cond := [Jvm.Cond.code x code maxLocals ret, Jvm.Cond.code ({ cls := "com/example/bookish_search/bookishsearch/feedback/Mark", name := "forSymbol", desc := "(C)Lcom/example/bookish_search/bookishsearch/feedback/Mark;" } : Jvm.MethodName) prog_24_method_5_code (5 : Nat) (Option.some (Jvm.ClassFile.FieldType.object "com/example/bookish_search/bookishsearch/feedback/Mark")), Jvm.Cond.code ({ cls := "com/example/bookish_search/bookishsearch/feedback/Mark", name := "values", desc := "()[Lcom/example/bookish_search/bookishsearch/feedback/Mark;" } : Jvm.MethodName) prog_24_method_1_code (0 : Nat) (Option.some (Jvm.ClassFile.FieldType.array (Jvm.ClassFile.FieldType.object "com/example/bookish_search/bookishsearch/feedback/Mark"))), Jvm.Cond.code ({ cls := "com/example/bookish_search/bookishsearch/feedback/Mark", name := "symbol", desc := "()C" } : Jvm.MethodName) prog_24_method_4_code (1 : Nat) (Option.some Jvm.ClassFile.FieldType.char)]
set_option maxRecDepth 65536 in
theorem codes_eq : words1.filter isCode = codes1 := rfl
theorem w_codes : ∀ c ∈ words1.filter isCode, c.before args0 about1 = true := by
  rw [codes_eq]
  intro c hc
  simp only [codes1, List.mem_cons, List.not_mem_nil, or_false] at hc
  rcases hc with rfl | rfl | rfl | rfl
  · exact w_c0
  · exact w_c1
  · exact w_c2
  · exact w_c3
set_option maxRecDepth 65536 in
theorem w_t1 : (words1.take 24).all (fun c => isCode c || c.before args0 about1) = true := by decide +kernel
set_option maxRecDepth 65536 in
theorem w_t2 : (words1.drop 24).all (fun c => isCode c || c.before args0 about1) = true := by decide +kernel
theorem w_tables : (allAtoms (Jvm.Cond.code x code maxLocals ret :: tables_1)).before args0 about1 = true := by
  rw [allAtoms_all]
  show words1.all (fun c => c.before args0 about1) = true
  refine all_split ?_ w_codes
  rw [← List.take_append_drop 24 words1, List.all_append, w_t1, w_t2]
  rfl
set_option maxRecDepth 65536 in
theorem w_case : (Jvm.Cond.and given_1 narrow_1).before args0 about1 = true := by decide +kernel
theorem w_applies : (headSpec (Jvm.Cond.code x code maxLocals ret :: tables_1) room_1).applies x e0.platform about1 = true :=
  (Spec.applies_iff w_frames).mpr ⟨w_running, w_runnable, w_alone, w_named, w_hears, w_ripe, w_room, w_tables⟩
theorem atStart : AtStart classFile x code maxLocals ret World_1 tables_1 room_1 Calls_1 rest_1 Pre_1 launch0 p0 e0 about1 theMethod args0 below0 :=
  ⟨lists_1, trivial, launch0.admits_env _ _ _, launch0.least_env, fairChoices_fair.cas, fairChoices_fair.clock, w_frames, w_args, w_heap, w_applies, trivial, trivial, w_case⟩
end start1
theorem witness_1 : WitnessClaimed_1 := ⟨start1.p0, start1.e0, start1.about1, start1.theMethod, start1.args0, start1.below0, start1.atStart⟩
end Jvm.Pilot.@@N@@
