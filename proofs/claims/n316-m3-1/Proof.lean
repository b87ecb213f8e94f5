import JvmDerived
import JvmDerived.Pilot.@@N@@Statement
import JvmDerived.Pilot.@@N@@Code
set_option linter.unusedVariables false
set_option linter.unusedSimpArgs false
namespace Jvm.Pilot.@@N@@
open Jvm Jvm.ClassFile Sem Op Lib Jvm.Free Jvm.Stand Jvm.LawKit Jvm.RoadKit Bundle Jvm.Pilot.@@N@@.Jvm.D
def own_Fin (p : Program) (e : Env) (below : List Frame) (P : State → Outcome → Prop) (a : State) : Prop := ∃ t o, Steps p.tables e below a t ∧ t.status = .running ∧ Ended t below o ∧ P t o
theorem own_fin {p : Program} {e : Env} {below : List Frame} {P : State → Outcome → Prop} {a b : State} (k : ∀ t, Steps p.tables e below b t → Steps p.tables e below a t) (h : own_Fin p e below P b) : own_Fin p e below P a := by
  obtain ⟨t, o, s, r⟩ := h
  exact ⟨t, o, k t s, r⟩
theorem own_StaKeep {Z : State} {h : Heap} {C n d : String} {v : Value} {n0 : Nat} (O : Old Z n0 h) (F : Sta Z Z.heap C n d v) : Sta Z h C n d v := F.ext O.2

theorem own_h (a : Int64) : 0 ≤ (a &&& (9223372036854775807 : Int64)).toInt := by
  have := c_maskL a (9223372036854775807 : Int64) 63 (by decide) (by decide)
  rw [this]; omega
theorem own_s (b sv : Int64) (e : sv = if (b &&& (9223372036854775807 : Int64)) = (0 : Int64) then (1 : Int64) else (b &&& (9223372036854775807 : Int64))) : 1 ≤ sv.toInt := by
  have h := own_h b
  by_cases q : (b &&& (9223372036854775807 : Int64)) = (0 : Int64)
  · rw [if_pos q] at e; subst e; decide
  · rw [if_neg q] at e; subst e
    have : (b &&& (9223372036854775807 : Int64)).toInt ≠ 0 := fun z => q (Int64.toInt_inj.mp (by rw [z]; rfl))
    omega
theorem own_div (h s : Int64) (h0 : 0 ≤ h.toInt) (s1 : 1 ≤ s.toInt) : (h / s).toInt = h.toInt / s.toInt := by
  have hs : s ≠ -1 := by intro e; subst e; revert s1; decide
  rw [Int64.toInt_div_of_ne_right h s hs, Int.tdiv_eq_ediv_of_nonneg h0]
theorem own_ge {h : Int64} (h0 : 0 ≤ h.toInt) : ¬ (h < (0 : Int64)) := by rw [Int64.lt_iff_toInt_lt]; simpa using h0
theorem own_ge1 {s : Int64} (s1 : 1 ≤ s.toInt) : ¬ (s < (1 : Int64)) := by rw [Int64.lt_iff_toInt_lt]; simpa using s1
theorem own_nz {s : Int64} (s1 : 1 ≤ s.toInt) : ¬ (s = (0 : Int64)) := by rintro rfl; revert s1; decide
theorem own_p1 {h s : Int64} (h0 : 0 ≤ h.toInt) (s1 : 1 ≤ s.toInt) : 0 ≤ (h / s).toInt := by
  rw [own_div h s h0 s1]; exact Int.ediv_nonneg h0 (by omega)
theorem own_p2 {h s : Int64} (h0 : 0 ≤ h.toInt) (s1 : 1 ≤ s.toInt) (q : h / s = (0 : Int64)) : h < s := by
  have e := own_div h s h0 s1
  rw [q] at e
  rw [Int64.lt_iff_toInt_lt]
  have e' : h.toInt / s.toInt = 0 := e.symm
  have := Int.lt_ediv_add_one_mul_self h.toInt (by omega : 0 < s.toInt)
  rw [e'] at this; omega
theorem own_q1 {h s : Int64} (h0 : 0 ≤ h.toInt) (s1 : 1 ≤ s.toInt) (q : ¬ (h / s = (0 : Int64))) : 1 ≤ (h / s).toInt := by
  have := own_p1 h0 s1
  have : (h / s).toInt ≠ 0 := fun z => q (Int64.toInt_inj.mp (by rw [z]; rfl))
  omega
theorem own_p3 {h s : Int64} (h0 : 0 ≤ h.toInt) (s1 : 1 ≤ s.toInt) (q : ¬ (h / s = (0 : Int64))) : ¬ (h / (h / s) < s) := by
  have q1 := own_q1 h0 s1 q
  rw [Int64.lt_iff_toInt_lt, own_div h _ h0 q1]
  have e := own_div h s h0 s1
  have e2 : s.toInt * (h / s).toInt ≤ h.toInt := by rw [e]; exact Int.mul_ediv_self_le (by omega)
  have := (Int.le_ediv_iff_mul_le (by omega : 0 < (h / s).toInt)).mpr e2
  omega
theorem own_p4 {h s : Int64} (h0 : 0 ≤ h.toInt) (s1 : 1 ≤ s.toInt) : (h - (h / s) * s) < s := by
  have e := own_div h s h0 s1
  have e2 : s.toInt * (h.toInt / s.toInt) ≤ h.toInt := Int.mul_ediv_self_le (by omega)
  have e3 := Int.lt_ediv_add_one_mul_self h.toInt (by omega : 0 < s.toInt)
  have hq0 := own_p1 h0 s1
  have r := rng64 h
  have rs := rng64 s
  have m := c_lmul (h / s) s
  have u := c_lsub h ((h / s) * s)
  have rm := rng64 ((h / s) * s)
  have ru := rng64 (h - (h / s) * s)
  rw [Int64.lt_iff_toInt_lt]
  rw [e] at m hq0
  have e4 : 0 ≤ h.toInt / s.toInt * s.toInt := Int.mul_nonneg hq0 (by omega)
  rw [Int.mul_comm] at e2
  rw [Int.add_mul, Int.one_mul] at e3
  generalize h.toInt / s.toInt * s.toInt = w at *
  omega
theorem own_d1_0 : decode prog_27_method_2_code 0 = .ok (.lload_n 0, 1) := by decide +kernel
theorem own_d1_1 : decode prog_27_method_2_code 1 = .ok (.lconst 0, 1) := by decide +kernel
theorem own_d1_2 : decode prog_27_method_2_code 2 = .ok (.lcmp, 1) := by decide +kernel
theorem own_d1_3 : decode prog_27_method_2_code 3 = .ok (.ifCond .ge 17, 3) := by decide +kernel
theorem own_d1_20 : decode prog_27_method_2_code 20 = .ok (.lload_n 2, 1) := by decide +kernel
theorem own_d1_21 : decode prog_27_method_2_code 21 = .ok (.lconst 1, 1) := by decide +kernel
theorem own_d1_22 : decode prog_27_method_2_code 22 = .ok (.lcmp, 1) := by decide +kernel
theorem own_d1_23 : decode prog_27_method_2_code 23 = .ok (.ifCond .ge 17, 3) := by decide +kernel
theorem own_d1_40 : decode prog_27_method_2_code 40 = .ok (.lload_n 0, 1) := by decide +kernel
theorem own_d1_41 : decode prog_27_method_2_code 41 = .ok (.lload_n 2, 1) := by decide +kernel
theorem own_d1_42 : decode prog_27_method_2_code 42 = .ok (.ldiv, 1) := by decide +kernel
theorem own_d1_43 : decode prog_27_method_2_code 43 = .ok (.lreturn, 1) := by decide +kernel
theorem own_pn_com_example_waldrapp_waldrapp_Ranking : plainName "com/example/waldrapp/waldrapp/Ranking" = true := by first | (simp [plainName, overriddenIn]; done) | decide +kernel
theorem own_ef_rm1 (mM : MethodId) (x0 : Int64) (x1 : Int64) : entryFrame mM #[(.long x0), (.long x1)] 4 = mkF mM 0 #[.val (.long x0), .second, .val (.long x1), .second] [] := by first | (simp [entryFrame, mkF, argsToLocals, Value.category]; done) | rfl
def Q_rm1 (Z : State) (q1 : Int64) (q2 : Int64) (h0 : Heap) (n0 : Nat) (vV : Option Value) (hH : Heap) (lA : List Loc) : Prop := vV = some (.long (q1 / q2)) ∧ Fr n0 lA ∧ (hH = h0)
set_option maxRecDepth 65536 in
set_option maxHeartbeats 40000000 in
theorem rm1 (lL : Launch) (Z : State) (a0 : Array Value) (hw : ∀ d ∈ tables_1, d.before a0 Z = true) (ws : List Jvm.Cond) (q1 : Int64) (q2 : Int64) (h0 : Heap) (n0 : Nat) (Z0 : n0 ≤ h0.size) (hc1 : ¬ (q1 < (0 : Int64))) (hc2 : ¬ (q2 < (1 : Int64))) (hc3 : ¬ (q2 = (0 : Int64))) :
    MetFree lL (⟨"com/example/waldrapp/waldrapp/Ranking", "rangeOf", "(JJ)J"⟩ : MethodName) (head1 (Jvm.Cond.code (⟨"com/example/waldrapp/waldrapp/Ranking", "rangeOf", "(JJ)J"⟩ : MethodName) prog_27_method_2_code 4 (some .long) :: ws) ({ frames := 0, cells := 0, slots := 0, locals := 0 } : Room)) (fun aA uU => aA = #[(.long q1), (.long q2)] ∧ Z.Warmed39 uU.vm ∧ uU.heap = h0) (fun _ _ _ _ _ => True) (fun _ uU oO uU' => ∃ vV lA, oO = .returned vV ∧ Q_rm1 Z q1 q2 h0 n0 vV uU'.heap lA ∧ FrameEnd uU oO uU' lA ({ frames := 0, cells := 0, slots := 0, locals := 0 } : Room).cells ({ frames := 0, cells := 0, slots := 0, locals := 0 } : Room).slots) := by
  refine MetFree.of_bodySF (plainFor_of_name own_pn_com_example_waldrapp_waldrapp_Ranking) hisR ?_
  intro pP eE sS mM args below meth cC s₁ Bd hml0 hP hK
  obtain ⟨rfl, hZ, hh⟩ := hP
  have hx := Bd.exec
  have hby := Bd.bytes
  have hml : cC.maxLocals = 4 := hml0
  have hown : sS.vm.findClass "com/example/waldrapp/waldrapp/Ranking" = some mM.cls := findClass_of_methodNamed Bd.named
  have hnm := (name_of_methodNamed Bd.named Bd.method).1
  have X0 : Stand pP lL eE ({ frames := 0, cells := 0, slots := 0, locals := 0 } : Room) sS mM #[(.long q1), (.long q2)] below meth cC s₁ [] 0 0 := Stand.of_body Bd
  have e0 : s₁.heap = h0 := by rw [← hh, Bd.state]; rfl
  have N0 := Fr.nil n0
  have K0 := Keep.refl h0 ([] : List Addr)
  show own_Fin pP eE below (fun tT oO => ∃ vV lA, oO = .returned vV ∧ Q_rm1 Z q1 q2 h0 n0 vV tT.heap lA ∧ FrameEnd sS oO tT lA ({ frames := 0, cells := 0, slots := 0, locals := 0 } : Room).cells ({ frames := 0, cells := 0, slots := 0, locals := 0 } : Room).slots) (s₁.setTop (entryFrame mM #[(.long q1), (.long q2)] 4))
  refine own_fin (b := s₁.setTop (mkF mM 0 #[.val (.long q1), .second, .val (.long q2), .second] [])) (fun tT kK => castTop (own_ef_rm1 mM q1 q2) kK) ?_
  refine own_fin (b := s₁.setTop (mkF mM 43 #[.val (.long q1), .second, .val (.long q2), .second] [(.long (q1 / q2))])) (fun tT kK => ?_) ?_
  · show Steps pP.tables eE below (s₁.setTop (mkF mM 0 #[.val (.long q1), .second, .val (.long q2), .second] [])) tT
    refine XS.lloadN X0.here hx rfl (Jvm.hb hby own_d1_0) rfl ?_
    show Steps pP.tables eE below (s₁.setTop (mkF mM 1 #[.val (.long q1), .second, .val (.long q2), .second] [(.long q1)])) tT
    refine XS.lconst X0.here hx rfl (Jvm.hb hby own_d1_1) ?_
    show Steps pP.tables eE below (s₁.setTop (mkF mM 2 #[.val (.long q1), .second, .val (.long q2), .second] [(.long (0 : Int64)), (.long q1)])) tT
    refine XS.lcmp X0.here hx rfl (Jvm.hb hby own_d1_2) rfl ?_
    show Steps pP.tables eE below (s₁.setTop (mkF mM 3 #[.val (.long q1), .second, .val (.long q2), .second] [(.int (lcmpW q1 (0 : Int64)))])) tT
    refine XS.ifYes X0.here hx rfl (pc0 := 3) (pc' := 20) rfl (Jvm.hb hby own_d1_3) rfl ((if0 _ _).trans (flt (mt (lw_lt q1 (0 : Int64)).mp (hc1 : ¬ (q1 < (0 : Int64))))).2.1) (by decide) (by decide) ?_
    show Steps pP.tables eE below (s₁.setTop (mkF mM 20 #[.val (.long q1), .second, .val (.long q2), .second] [])) tT
    refine XS.lloadN X0.here hx rfl (Jvm.hb hby own_d1_20) rfl ?_
    show Steps pP.tables eE below (s₁.setTop (mkF mM 21 #[.val (.long q1), .second, .val (.long q2), .second] [(.long q2)])) tT
    refine XS.lconst X0.here hx rfl (Jvm.hb hby own_d1_21) ?_
    show Steps pP.tables eE below (s₁.setTop (mkF mM 22 #[.val (.long q1), .second, .val (.long q2), .second] [(.long (1 : Int64)), (.long q2)])) tT
    refine XS.lcmp X0.here hx rfl (Jvm.hb hby own_d1_22) rfl ?_
    show Steps pP.tables eE below (s₁.setTop (mkF mM 23 #[.val (.long q1), .second, .val (.long q2), .second] [(.int (lcmpW q2 (1 : Int64)))])) tT
    refine XS.ifYes X0.here hx rfl (pc0 := 23) (pc' := 40) rfl (Jvm.hb hby own_d1_23) rfl ((if0 _ _).trans (flt (mt (lw_lt q2 (1 : Int64)).mp (hc2 : ¬ (q2 < (1 : Int64))))).2.1) (by decide) (by decide) ?_
    show Steps pP.tables eE below (s₁.setTop (mkF mM 40 #[.val (.long q1), .second, .val (.long q2), .second] [])) tT
    refine XS.lloadN X0.here hx rfl (Jvm.hb hby own_d1_40) rfl ?_
    show Steps pP.tables eE below (s₁.setTop (mkF mM 41 #[.val (.long q1), .second, .val (.long q2), .second] [(.long q1)])) tT
    refine XS.lloadN X0.here hx rfl (Jvm.hb hby own_d1_41) rfl ?_
    show Steps pP.tables eE below (s₁.setTop (mkF mM 42 #[.val (.long q1), .second, .val (.long q2), .second] [(.long q2), (.long q1)])) tT
    refine XS.ldiv X0.here hx rfl (Jvm.hb hby own_d1_42) rfl hc3 ?_
    show Steps pP.tables eE below (s₁.setTop (mkF mM 43 #[.val (.long q1), .second, .val (.long q2), .second] [(.long (q1 / q2))])) tT
    exact kK
  obtain ⟨fs, hr, hrun, hended, hW, hsame⟩ := X0.leave (v := some (.long (q1 / q2))) (fun h => by rw [Bd.returns] at h; cases h)
  refine ⟨_, _, ?_, hrun, hended, _, _, rfl, ?_, ⟨_, rfl⟩, hW, hsame.mono (by decide) (by decide)⟩
  · show Steps pP.tables eE below (s₁.setTop (mkF mM 43 #[.val (.long q1), .second, .val (.long q2), .second] [(.long (q1 / q2))])) _
    exact retOut X0 hx Bd.returns rfl (Or.inr (Or.inl ⟨rfl, rfl, _, rfl⟩)) (Jvm.hb hby own_d1_43) hr
  · show Q_rm1 Z q1 q2 h0 n0 _ s₁.heap _
    rw [e0]
    exact ⟨rfl, N0, rfl⟩
theorem own_pd0 : parseMethodDescriptor "(JJ)J" = some ⟨[.long, .long], some .long⟩ := by decide +kernel
theorem own_pn_com_example_waldrapp_waldrapp_RankingRangeOfPinLaw : plainName "com/example/waldrapp/waldrapp/RankingRangeOfPinLaw" = true := by first | (simp [plainName, overriddenIn]; done) | decide +kernel
theorem own_ef_rm0 (mM : MethodId) (x0 : Int64) (x1 : Int64) : entryFrame mM #[(.long x0), (.long x1)] maxLocals = mkF mM 0 #[.val (.long x0), .second, .val (.long x1), .second, .unset, .unset, .unset, .unset, .unset, .unset] [] := by first | (simp [entryFrame, mkF, argsToLocals, Value.category, maxLocals]; done) | rfl
def Q_rm0 (Z : State) (q1 : Int64) (q2 : Int64) (h0 : Heap) (n0 : Nat) (vV : Option Value) (hH : Heap) (lA : List Loc) : Prop := vV = some (.int (1 : Int32)) ∧ Fr n0 lA
set_option maxRecDepth 65536 in
set_option maxHeartbeats 40000000 in
theorem rm0 (lL : Launch) (Z : State) (a0 : Array Value) (hw : ∀ d ∈ tables_1, d.before a0 Z = true) (ws : List Jvm.Cond) (q1 : Int64) (q2 : Int64) (h0 : Heap) (n0 : Nat) (Z0 : n0 ≤ h0.size) :
    MetFree lL x (head1 (Jvm.Cond.code x code maxLocals ret :: ws) room_1) (fun aA uU => aA = #[(.long q1), (.long q2)] ∧ Z.Warmed39 uU.vm ∧ uU.heap = h0) (fun _ _ _ _ _ => True) (fun _ uU oO uU' => ∃ vV lA, oO = .returned vV ∧ Q_rm0 Z q1 q2 h0 n0 vV uU'.heap lA ∧ FrameEnd uU oO uU' lA room_1.cells room_1.slots) := by
  refine MetFree.of_bodySF (plainFor_of_name own_pn_com_example_waldrapp_waldrapp_RankingRangeOfPinLaw) hisR ?_
  intro pP eE sS mM args below meth cC s₁ Bd hml0 hP hK
  obtain ⟨rfl, hZ, hh⟩ := hP
  have hx := Bd.exec
  have hby := Bd.bytes
  have hml : cC.maxLocals = 10 := hml0
  have hown : sS.vm.findClass "com/example/waldrapp/waldrapp/RankingRangeOfPinLaw" = some mM.cls := findClass_of_methodNamed Bd.named
  have hnm := (name_of_methodNamed Bd.named Bd.method).1
  have X0 : Stand pP lL eE room_1 sS mM #[(.long q1), (.long q2)] below meth cC s₁ [] 0 0 := Stand.of_body Bd
  have e0 : s₁.heap = h0 := by rw [← hh, Bd.state]; rfl
  have N0 := Fr.nil n0
  have K0 := Keep.refl h0 ([] : List Addr)
  show own_Fin pP eE below (fun tT oO => ∃ vV lA, oO = .returned vV ∧ Q_rm0 Z q1 q2 h0 n0 vV tT.heap lA ∧ FrameEnd sS oO tT lA room_1.cells room_1.slots) (s₁.setTop (entryFrame mM #[(.long q1), (.long q2)] maxLocals))
  refine own_fin (b := s₁.setTop (mkF mM 0 #[.val (.long q1), .second, .val (.long q2), .second, .unset, .unset, .unset, .unset, .unset, .unset] [])) (fun tT kK => castTop (own_ef_rm0 mM q1 q2) kK) ?_
  refine own_fin (b := s₁.setTop (mkF mM 14 #[.val (.long q1), .second, .val (.long q2), .second, .val (.long (q1 &&& (9223372036854775807 : Int64))), .second, .val (.long (q2 &&& (9223372036854775807 : Int64))), .second, .unset, .unset] [])) (fun tT kK => ?_) ?_
  · show Steps pP.tables eE below (s₁.setTop (mkF mM 0 #[.val (.long q1), .second, .val (.long q2), .second, .unset, .unset, .unset, .unset, .unset, .unset] [])) tT
    refine XS.lloadN X0.here hx rfl (Jvm.hb hby at_0) rfl ?_
    show Steps pP.tables eE below (s₁.setTop (mkF mM 1 #[.val (.long q1), .second, .val (.long q2), .second, .unset, .unset, .unset, .unset, .unset, .unset] [(.long q1)])) tT
    refine X0.ldc2Long hx hown (mvT hZ (hw _ (List.mem_of_getElem? (i := 0) rfl))) (g := (mkF mM 1 #[.val (.long q1), .second, .val (.long q2), .second, .unset, .unset, .unset, .unset, .unset, .unset] [(.long q1)])) rfl (Jvm.hb hby at_1) _ ?_
    show Steps pP.tables eE below (s₁.setTop (mkF mM 4 #[.val (.long q1), .second, .val (.long q2), .second, .unset, .unset, .unset, .unset, .unset, .unset] [(.long (9223372036854775807 : Int64)), (.long q1)])) tT
    refine XS.land X0.here hx rfl (Jvm.hb hby at_4) rfl ?_
    show Steps pP.tables eE below (s₁.setTop (mkF mM 5 #[.val (.long q1), .second, .val (.long q2), .second, .unset, .unset, .unset, .unset, .unset, .unset] [(.long (q1 &&& (9223372036854775807 : Int64)))])) tT
    refine XS.lstore X0.here hx rfl (Jvm.hb hby at_5) rfl (l' := #[.val (.long q1), .second, .val (.long q2), .second, .val (.long (q1 &&& (9223372036854775807 : Int64))), .second, .unset, .unset, .unset, .unset]) rfl ?_
    show Steps pP.tables eE below (s₁.setTop (mkF mM 7 #[.val (.long q1), .second, .val (.long q2), .second, .val (.long (q1 &&& (9223372036854775807 : Int64))), .second, .unset, .unset, .unset, .unset] [])) tT
    refine XS.lloadN X0.here hx rfl (Jvm.hb hby at_7) rfl ?_
    show Steps pP.tables eE below (s₁.setTop (mkF mM 8 #[.val (.long q1), .second, .val (.long q2), .second, .val (.long (q1 &&& (9223372036854775807 : Int64))), .second, .unset, .unset, .unset, .unset] [(.long q2)])) tT
    refine X0.ldc2Long hx hown (mvT hZ (hw _ (List.mem_of_getElem? (i := 0) rfl))) (g := (mkF mM 8 #[.val (.long q1), .second, .val (.long q2), .second, .val (.long (q1 &&& (9223372036854775807 : Int64))), .second, .unset, .unset, .unset, .unset] [(.long q2)])) rfl (Jvm.hb hby at_8) _ ?_
    show Steps pP.tables eE below (s₁.setTop (mkF mM 11 #[.val (.long q1), .second, .val (.long q2), .second, .val (.long (q1 &&& (9223372036854775807 : Int64))), .second, .unset, .unset, .unset, .unset] [(.long (9223372036854775807 : Int64)), (.long q2)])) tT
    refine XS.land X0.here hx rfl (Jvm.hb hby at_11) rfl ?_
    show Steps pP.tables eE below (s₁.setTop (mkF mM 12 #[.val (.long q1), .second, .val (.long q2), .second, .val (.long (q1 &&& (9223372036854775807 : Int64))), .second, .unset, .unset, .unset, .unset] [(.long (q2 &&& (9223372036854775807 : Int64)))])) tT
    refine XS.lstore X0.here hx rfl (Jvm.hb hby at_12) rfl (l' := #[.val (.long q1), .second, .val (.long q2), .second, .val (.long (q1 &&& (9223372036854775807 : Int64))), .second, .val (.long (q2 &&& (9223372036854775807 : Int64))), .second, .unset, .unset]) rfl ?_
    show Steps pP.tables eE below (s₁.setTop (mkF mM 14 #[.val (.long q1), .second, .val (.long q2), .second, .val (.long (q1 &&& (9223372036854775807 : Int64))), .second, .val (.long (q2 &&& (9223372036854775807 : Int64))), .second, .unset, .unset] [])) tT
    exact kK
  obtain ⟨sv, hsv, st1_⟩ : ∃ sv : Int64, (sv = (if (q2 &&& (9223372036854775807 : Int64)) = (0 : Int64) then (1 : Int64) else (q2 &&& (9223372036854775807 : Int64)))) ∧ ∀ tT, Steps pP.tables eE below (s₁.setTop (mkF mM 24 #[.val (.long q1), .second, .val (.long q2), .second, .val (.long (q1 &&& (9223372036854775807 : Int64))), .second, .val (.long sv), .second, .unset, .unset] [])) tT → Steps pP.tables eE below (s₁.setTop (mkF mM 14 #[.val (.long q1), .second, .val (.long q2), .second, .val (.long (q1 &&& (9223372036854775807 : Int64))), .second, .val (.long (q2 &&& (9223372036854775807 : Int64))), .second, .unset, .unset] [])) tT := by
    by_cases hm1 : (q2 &&& (9223372036854775807 : Int64)) = (0 : Int64)
    · refine ⟨(1 : Int64), by rw [if_pos hm1], fun tT kK => ?_⟩
      refine XS.lload X0.here hx rfl (Jvm.hb hby at_14) rfl ?_
      show Steps pP.tables eE below (s₁.setTop (mkF mM 16 #[.val (.long q1), .second, .val (.long q2), .second, .val (.long (q1 &&& (9223372036854775807 : Int64))), .second, .val (.long (q2 &&& (9223372036854775807 : Int64))), .second, .unset, .unset] [(.long (q2 &&& (9223372036854775807 : Int64)))])) tT
      refine XS.lconst X0.here hx rfl (Jvm.hb hby at_16) ?_
      show Steps pP.tables eE below (s₁.setTop (mkF mM 17 #[.val (.long q1), .second, .val (.long q2), .second, .val (.long (q1 &&& (9223372036854775807 : Int64))), .second, .val (.long (q2 &&& (9223372036854775807 : Int64))), .second, .unset, .unset] [(.long (0 : Int64)), (.long (q2 &&& (9223372036854775807 : Int64)))])) tT
      refine XS.lcmp X0.here hx rfl (Jvm.hb hby at_17) rfl ?_
      show Steps pP.tables eE below (s₁.setTop (mkF mM 18 #[.val (.long q1), .second, .val (.long q2), .second, .val (.long (q1 &&& (9223372036854775807 : Int64))), .second, .val (.long (q2 &&& (9223372036854775807 : Int64))), .second, .unset, .unset] [(.int (lcmpW (q2 &&& (9223372036854775807 : Int64)) (0 : Int64)))])) tT
      refine XS.ifNo X0.here hx rfl (Jvm.hb hby at_18) rfl ((if0 _ _).trans (teq ((lw_eq (q2 &&& (9223372036854775807 : Int64)) (0 : Int64)).mpr (hm1 : (q2 &&& (9223372036854775807 : Int64)) = (0 : Int64)))).2) ?_
      show Steps pP.tables eE below (s₁.setTop (mkF mM 21 #[.val (.long q1), .second, .val (.long q2), .second, .val (.long (q1 &&& (9223372036854775807 : Int64))), .second, .val (.long (q2 &&& (9223372036854775807 : Int64))), .second, .unset, .unset] [])) tT
      refine XS.lconst X0.here hx rfl (Jvm.hb hby at_21) ?_
      show Steps pP.tables eE below (s₁.setTop (mkF mM 22 #[.val (.long q1), .second, .val (.long q2), .second, .val (.long (q1 &&& (9223372036854775807 : Int64))), .second, .val (.long (q2 &&& (9223372036854775807 : Int64))), .second, .unset, .unset] [(.long (1 : Int64))])) tT
      refine XS.lstore X0.here hx rfl (Jvm.hb hby at_22) rfl (l' := #[.val (.long q1), .second, .val (.long q2), .second, .val (.long (q1 &&& (9223372036854775807 : Int64))), .second, .val (.long (1 : Int64)), .second, .unset, .unset]) rfl ?_
      show Steps pP.tables eE below (s₁.setTop (mkF mM 24 #[.val (.long q1), .second, .val (.long q2), .second, .val (.long (q1 &&& (9223372036854775807 : Int64))), .second, .val (.long (1 : Int64)), .second, .unset, .unset] [])) tT
      exact kK
    · refine ⟨(q2 &&& (9223372036854775807 : Int64)), by rw [if_neg hm1], fun tT kK => ?_⟩
      refine XS.lload X0.here hx rfl (Jvm.hb hby at_14) rfl ?_
      show Steps pP.tables eE below (s₁.setTop (mkF mM 16 #[.val (.long q1), .second, .val (.long q2), .second, .val (.long (q1 &&& (9223372036854775807 : Int64))), .second, .val (.long (q2 &&& (9223372036854775807 : Int64))), .second, .unset, .unset] [(.long (q2 &&& (9223372036854775807 : Int64)))])) tT
      refine XS.lconst X0.here hx rfl (Jvm.hb hby at_16) ?_
      show Steps pP.tables eE below (s₁.setTop (mkF mM 17 #[.val (.long q1), .second, .val (.long q2), .second, .val (.long (q1 &&& (9223372036854775807 : Int64))), .second, .val (.long (q2 &&& (9223372036854775807 : Int64))), .second, .unset, .unset] [(.long (0 : Int64)), (.long (q2 &&& (9223372036854775807 : Int64)))])) tT
      refine XS.lcmp X0.here hx rfl (Jvm.hb hby at_17) rfl ?_
      show Steps pP.tables eE below (s₁.setTop (mkF mM 18 #[.val (.long q1), .second, .val (.long q2), .second, .val (.long (q1 &&& (9223372036854775807 : Int64))), .second, .val (.long (q2 &&& (9223372036854775807 : Int64))), .second, .unset, .unset] [(.int (lcmpW (q2 &&& (9223372036854775807 : Int64)) (0 : Int64)))])) tT
      refine XS.ifYes X0.here hx rfl (pc0 := 18) (pc' := 24) rfl (Jvm.hb hby at_18) rfl ((if0 _ _).trans (feq (mt (lw_eq (q2 &&& (9223372036854775807 : Int64)) (0 : Int64)).mp (hm1 : ¬ ((q2 &&& (9223372036854775807 : Int64)) = (0 : Int64))))).2) (by decide) (by decide) ?_
      show Steps pP.tables eE below (s₁.setTop (mkF mM 24 #[.val (.long q1), .second, .val (.long q2), .second, .val (.long (q1 &&& (9223372036854775807 : Int64))), .second, .val (.long (q2 &&& (9223372036854775807 : Int64))), .second, .unset, .unset] [])) tT
      exact kK
  refine own_fin st1_ ?_
  show own_Fin pP eE below _ (s₁.setTop (mkF mM 24 #[.val (.long q1), .second, .val (.long q2), .second, .val (.long (q1 &&& (9223372036854775807 : Int64))), .second, .val (.long sv), .second, .unset, .unset] []))
  have hs := own_s q2 sv hsv
  clear hsv
  show own_Fin pP eE below _ (s₁.setTop (mkF mM 24 #[.val (.long q1), .second, .val (.long q2), .second, .val (.long (q1 &&& (9223372036854775807 : Int64))), .second, .val (.long sv), .second, .unset, .unset] []))
  generalize hhv : (q1 &&& (9223372036854775807 : Int64)) = hv
  show own_Fin pP eE below _ (s₁.setTop (mkF mM 24 #[.val (.long q1), .second, .val (.long q2), .second, .val (.long hv), .second, .val (.long sv), .second, .unset, .unset] []))
  have hh : 0 ≤ hv.toInt := by rw [← hhv]; exact own_h q1
  clear hhv
  refine own_fin (b := s₁.setTop (mkF mM 28 #[.val (.long q1), .second, .val (.long q2), .second, .val (.long hv), .second, .val (.long sv), .second, .unset, .unset] [(.long sv), (.long hv)])) (fun tT kK => ?_) ?_
  · show Steps pP.tables eE below (s₁.setTop (mkF mM 24 #[.val (.long q1), .second, .val (.long q2), .second, .val (.long hv), .second, .val (.long sv), .second, .unset, .unset] [])) tT
    refine XS.lload X0.here hx rfl (Jvm.hb hby at_24) rfl ?_
    show Steps pP.tables eE below (s₁.setTop (mkF mM 26 #[.val (.long q1), .second, .val (.long q2), .second, .val (.long hv), .second, .val (.long sv), .second, .unset, .unset] [(.long hv)])) tT
    refine XS.lload X0.here hx rfl (Jvm.hb hby at_26) rfl ?_
    show Steps pP.tables eE below (s₁.setTop (mkF mM 28 #[.val (.long q1), .second, .val (.long q2), .second, .val (.long hv), .second, .val (.long sv), .second, .unset, .unset] [(.long sv), (.long hv)])) tT
    exact kK
  obtain ⟨_, _, ⟨T2_, L2_, k2_, n2_⟩, -, X2_, ⟨Lc2_, hQ2_, l2_, y2_, z2_⟩, st2_⟩ := Jvm.LawKit.callS X0 hx (y := (⟨"com/example/waldrapp/waldrapp/Ranking", "rangeOf", "(JJ)J"⟩ : MethodName)) hown (mvT hZ (hw _ (List.mem_of_getElem? (i := 1) rfl))) (mvT hZ (hw _ (List.mem_of_getElem? (i := 2) rfl))) (mvT hZ (hw _ (List.mem_of_getElem? (i := 3) rfl))) (mvT hZ (hw _ (List.mem_of_getElem? (i := 4) rfl))) (by decide) (backOf (W := 0) (rm1 lL Z a0 hw [] hv sv h0 n0 (Nat.le_trans Z0 K0.1) (own_ge hh) (own_ge1 hs) (own_nz hs)) hZ (hw _ (List.mem_of_getElem? (i := 4) rfl)) (hw _ (List.mem_of_getElem? (i := 3) rfl)) (by decide) (by decide)) (g := (mkF mM 28 #[.val (.long q1), .second, .val (.long q2), .second, .val (.long hv), .second, .val (.long sv), .second, .unset, .unset] [(.long sv), (.long hv)])) rfl (by rw [hml]; rfl) (argsL := [(.long hv), (.long sv)]) (rest := []) (lenOf own_pd0 rfl) rfl (by show 2 * 0 + _ ≤ _; exact Nat.le_of_eq rfl) (Jvm.hb hby at_28) (fun _ _ => ⟨rfl, e0, (by decide : 0 + 0 ≤ _), (by decide : 0 + 0 ≤ _)⟩)
  dsimp only [Pt.U, Pt.locs, Pt.cells, Pt.slots] at X2_ l2_ y2_ z2_ st2_ hQ2_
  subst l2_ y2_ z2_
  obtain ⟨rfl, N2_q, p2__0⟩ := hQ2_
  have N2_ := Fr.app N0 N2_q
  refine own_fin (fun tT kK => st2_ tT kK) ?_
  show own_Fin pP eE below _ (T2_.setTop (mkF mM 31 #[.val (.long q1), .second, .val (.long q2), .second, .val (.long hv), .second, .val (.long sv), .second, .unset, .unset] [(.long (hv / sv))]))
  refine own_fin (b := T2_.setTop (mkF mM 46 #[.val (.long q1), .second, .val (.long q2), .second, .val (.long hv), .second, .val (.long sv), .second, .val (.long (hv / sv)), .second] [(.int (lcmpW (hv / sv) (0 : Int64)))])) (fun tT kK => ?_) ?_
  · show Steps pP.tables eE below (T2_.setTop (mkF mM 31 #[.val (.long q1), .second, .val (.long q2), .second, .val (.long hv), .second, .val (.long sv), .second, .unset, .unset] [(.long (hv / sv))])) tT
    refine XS.lstore X2_.here hx rfl (Jvm.hb hby at_31) rfl (l' := #[.val (.long q1), .second, .val (.long q2), .second, .val (.long hv), .second, .val (.long sv), .second, .val (.long (hv / sv)), .second]) rfl ?_
    show Steps pP.tables eE below (T2_.setTop (mkF mM 33 #[.val (.long q1), .second, .val (.long q2), .second, .val (.long hv), .second, .val (.long sv), .second, .val (.long (hv / sv)), .second] [])) tT
    refine XS.lload X2_.here hx rfl (Jvm.hb hby at_33) rfl ?_
    show Steps pP.tables eE below (T2_.setTop (mkF mM 35 #[.val (.long q1), .second, .val (.long q2), .second, .val (.long hv), .second, .val (.long sv), .second, .val (.long (hv / sv)), .second] [(.long (hv / sv))])) tT
    refine XS.lconst X2_.here hx rfl (Jvm.hb hby at_35) ?_
    show Steps pP.tables eE below (T2_.setTop (mkF mM 36 #[.val (.long q1), .second, .val (.long q2), .second, .val (.long hv), .second, .val (.long sv), .second, .val (.long (hv / sv)), .second] [(.long (0 : Int64)), (.long (hv / sv))])) tT
    refine XS.lcmp X2_.here hx rfl (Jvm.hb hby at_36) rfl ?_
    show Steps pP.tables eE below (T2_.setTop (mkF mM 37 #[.val (.long q1), .second, .val (.long q2), .second, .val (.long hv), .second, .val (.long sv), .second, .val (.long (hv / sv)), .second] [(.int (lcmpW (hv / sv) (0 : Int64)))])) tT
    refine XS.ifYes X2_.here hx rfl (pc0 := 37) (pc' := 42) rfl (Jvm.hb hby at_37) rfl ((if0 _ _).trans (flt (mt (lw_lt (hv / sv) (0 : Int64)).mp (own_ge (own_p1 hh hs) : ¬ ((hv / sv) < (0 : Int64))))).2.1) (by decide) (by decide) ?_
    show Steps pP.tables eE below (T2_.setTop (mkF mM 42 #[.val (.long q1), .second, .val (.long q2), .second, .val (.long hv), .second, .val (.long sv), .second, .val (.long (hv / sv)), .second] [])) tT
    refine XS.lload X2_.here hx rfl (Jvm.hb hby at_42) rfl ?_
    show Steps pP.tables eE below (T2_.setTop (mkF mM 44 #[.val (.long q1), .second, .val (.long q2), .second, .val (.long hv), .second, .val (.long sv), .second, .val (.long (hv / sv)), .second] [(.long (hv / sv))])) tT
    refine XS.lconst X2_.here hx rfl (Jvm.hb hby at_44) ?_
    show Steps pP.tables eE below (T2_.setTop (mkF mM 45 #[.val (.long q1), .second, .val (.long q2), .second, .val (.long hv), .second, .val (.long sv), .second, .val (.long (hv / sv)), .second] [(.long (0 : Int64)), (.long (hv / sv))])) tT
    refine XS.lcmp X2_.here hx rfl (Jvm.hb hby at_45) rfl ?_
    show Steps pP.tables eE below (T2_.setTop (mkF mM 46 #[.val (.long q1), .second, .val (.long q2), .second, .val (.long hv), .second, .val (.long sv), .second, .val (.long (hv / sv)), .second] [(.int (lcmpW (hv / sv) (0 : Int64)))])) tT
    exact kK
  by_cases hc46_3_ : (hv / sv) = (0 : Int64)
  · refine own_fin (b := T2_.setTop (mkF mM 62 #[.val (.long q1), .second, .val (.long q2), .second, .val (.long hv), .second, .val (.long sv), .second, .val (.long (hv / sv)), .second] [(.int (1 : Int32))])) (fun tT kK => ?_) ?_
    · show Steps pP.tables eE below (T2_.setTop (mkF mM 46 #[.val (.long q1), .second, .val (.long q2), .second, .val (.long hv), .second, .val (.long sv), .second, .val (.long (hv / sv)), .second] [(.int (lcmpW (hv / sv) (0 : Int64)))])) tT
      refine XS.ifNo X2_.here hx rfl (Jvm.hb hby at_46) rfl ((if0 _ _).trans (teq ((lw_eq (hv / sv) (0 : Int64)).mpr (hc46_3_ : (hv / sv) = (0 : Int64)))).2) ?_
      show Steps pP.tables eE below (T2_.setTop (mkF mM 49 #[.val (.long q1), .second, .val (.long q2), .second, .val (.long hv), .second, .val (.long sv), .second, .val (.long (hv / sv)), .second] [])) tT
      refine XS.lload X2_.here hx rfl (Jvm.hb hby at_49) rfl ?_
      show Steps pP.tables eE below (T2_.setTop (mkF mM 51 #[.val (.long q1), .second, .val (.long q2), .second, .val (.long hv), .second, .val (.long sv), .second, .val (.long (hv / sv)), .second] [(.long hv)])) tT
      refine XS.lload X2_.here hx rfl (Jvm.hb hby at_51) rfl ?_
      show Steps pP.tables eE below (T2_.setTop (mkF mM 53 #[.val (.long q1), .second, .val (.long q2), .second, .val (.long hv), .second, .val (.long sv), .second, .val (.long (hv / sv)), .second] [(.long sv), (.long hv)])) tT
      refine XS.lcmp X2_.here hx rfl (Jvm.hb hby at_53) rfl ?_
      show Steps pP.tables eE below (T2_.setTop (mkF mM 54 #[.val (.long q1), .second, .val (.long q2), .second, .val (.long hv), .second, .val (.long sv), .second, .val (.long (hv / sv)), .second] [(.int (lcmpW hv sv))])) tT
      refine XS.ifNo X2_.here hx rfl (Jvm.hb hby at_54) rfl ((if0 _ _).trans (tlt ((lw_lt hv sv).mpr (own_p2 hh hs hc46_3_ : hv < sv))).2.1) ?_
      show Steps pP.tables eE below (T2_.setTop (mkF mM 57 #[.val (.long q1), .second, .val (.long q2), .second, .val (.long hv), .second, .val (.long sv), .second, .val (.long (hv / sv)), .second] [])) tT
      refine XS.iconst X2_.here hx rfl (Jvm.hb hby at_57) ?_
      show Steps pP.tables eE below (T2_.setTop (mkF mM 58 #[.val (.long q1), .second, .val (.long q2), .second, .val (.long hv), .second, .val (.long sv), .second, .val (.long (hv / sv)), .second] [(.int (1 : Int32))])) tT
      refine XS.goto X2_.here hx rfl (pc0 := 58) (pc' := 62) rfl (Jvm.hb hby at_58) (by decide) (by decide) ?_
      show Steps pP.tables eE below (T2_.setTop (mkF mM 62 #[.val (.long q1), .second, .val (.long q2), .second, .val (.long hv), .second, .val (.long sv), .second, .val (.long (hv / sv)), .second] [(.int (1 : Int32))])) tT
      exact kK
    obtain ⟨fs, hr, hrun, hended, hW, hsame⟩ := X2_.leave (v := some (.int (1 : Int32))) (fun h => by rw [Bd.returns] at h; cases h)
    refine ⟨_, _, ?_, hrun, hended, _, _, rfl, ?_, ⟨_, rfl⟩, hW, hsame.mono (by decide) (by decide)⟩
    · show Steps pP.tables eE below (T2_.setTop (mkF mM 62 #[.val (.long q1), .second, .val (.long q2), .second, .val (.long hv), .second, .val (.long sv), .second, .val (.long (hv / sv)), .second] [(.int (1 : Int32))])) _
      exact retN X2_ hx (t := .boolean) Bd.returns (by simp) (Jvm.hb hby at_62) hr
    · show Q_rm0 Z q1 q2 h0 n0 _ T2_.heap _
      rw [p2__0]
      exact ⟨rfl, N2_⟩
  · refine own_fin (b := T2_.setTop (mkF mM 95 #[.val (.long q1), .second, .val (.long q2), .second, .val (.long hv), .second, .val (.long sv), .second, .val (.long (hv / sv)), .second] [(.int (1 : Int32))])) (fun tT kK => ?_) ?_
    · show Steps pP.tables eE below (T2_.setTop (mkF mM 46 #[.val (.long q1), .second, .val (.long q2), .second, .val (.long hv), .second, .val (.long sv), .second, .val (.long (hv / sv)), .second] [(.int (lcmpW (hv / sv) (0 : Int64)))])) tT
      refine XS.ifYes X2_.here hx rfl (pc0 := 46) (pc' := 63) rfl (Jvm.hb hby at_46) rfl ((if0 _ _).trans (feq (mt (lw_eq (hv / sv) (0 : Int64)).mp (hc46_3_ : ¬ ((hv / sv) = (0 : Int64))))).2) (by decide) (by decide) ?_
      show Steps pP.tables eE below (T2_.setTop (mkF mM 63 #[.val (.long q1), .second, .val (.long q2), .second, .val (.long hv), .second, .val (.long sv), .second, .val (.long (hv / sv)), .second] [])) tT
      refine XS.lload X2_.here hx rfl (Jvm.hb hby at_63) rfl ?_
      show Steps pP.tables eE below (T2_.setTop (mkF mM 65 #[.val (.long q1), .second, .val (.long q2), .second, .val (.long hv), .second, .val (.long sv), .second, .val (.long (hv / sv)), .second] [(.long sv)])) tT
      refine XS.lload X2_.here hx rfl (Jvm.hb hby at_65) rfl ?_
      show Steps pP.tables eE below (T2_.setTop (mkF mM 67 #[.val (.long q1), .second, .val (.long q2), .second, .val (.long hv), .second, .val (.long sv), .second, .val (.long (hv / sv)), .second] [(.long hv), (.long sv)])) tT
      refine XS.lload X2_.here hx rfl (Jvm.hb hby at_67) rfl ?_
      show Steps pP.tables eE below (T2_.setTop (mkF mM 69 #[.val (.long q1), .second, .val (.long q2), .second, .val (.long hv), .second, .val (.long sv), .second, .val (.long (hv / sv)), .second] [(.long (hv / sv)), (.long hv), (.long sv)])) tT
      refine XS.ldiv X2_.here hx rfl (Jvm.hb hby at_69) rfl hc46_3_ ?_
      show Steps pP.tables eE below (T2_.setTop (mkF mM 70 #[.val (.long q1), .second, .val (.long q2), .second, .val (.long hv), .second, .val (.long sv), .second, .val (.long (hv / sv)), .second] [(.long (hv / (hv / sv))), (.long sv)])) tT
      refine XS.lcmp X2_.here hx rfl (Jvm.hb hby at_70) rfl ?_
      show Steps pP.tables eE below (T2_.setTop (mkF mM 71 #[.val (.long q1), .second, .val (.long q2), .second, .val (.long hv), .second, .val (.long sv), .second, .val (.long (hv / sv)), .second] [(.int (lcmpW sv (hv / (hv / sv))))])) tT
      refine XS.ifYes X2_.here hx rfl (pc0 := 71) (pc' := 76) rfl (Jvm.hb hby at_71) rfl ((if0 _ _).trans (flt (mt (lw_gt sv (hv / (hv / sv))).mp (own_p3 hh hs hc46_3_ : ¬ ((hv / (hv / sv)) < sv)))).2.2.2) (by decide) (by decide) ?_
      show Steps pP.tables eE below (T2_.setTop (mkF mM 76 #[.val (.long q1), .second, .val (.long q2), .second, .val (.long hv), .second, .val (.long sv), .second, .val (.long (hv / sv)), .second] [])) tT
      refine XS.lload X2_.here hx rfl (Jvm.hb hby at_76) rfl ?_
      show Steps pP.tables eE below (T2_.setTop (mkF mM 78 #[.val (.long q1), .second, .val (.long q2), .second, .val (.long hv), .second, .val (.long sv), .second, .val (.long (hv / sv)), .second] [(.long hv)])) tT
      refine XS.lload X2_.here hx rfl (Jvm.hb hby at_78) rfl ?_
      show Steps pP.tables eE below (T2_.setTop (mkF mM 80 #[.val (.long q1), .second, .val (.long q2), .second, .val (.long hv), .second, .val (.long sv), .second, .val (.long (hv / sv)), .second] [(.long (hv / sv)), (.long hv)])) tT
      refine XS.lload X2_.here hx rfl (Jvm.hb hby at_80) rfl ?_
      show Steps pP.tables eE below (T2_.setTop (mkF mM 82 #[.val (.long q1), .second, .val (.long q2), .second, .val (.long hv), .second, .val (.long sv), .second, .val (.long (hv / sv)), .second] [(.long sv), (.long (hv / sv)), (.long hv)])) tT
      refine XS.lmul X2_.here hx rfl (Jvm.hb hby at_82) rfl ?_
      show Steps pP.tables eE below (T2_.setTop (mkF mM 83 #[.val (.long q1), .second, .val (.long q2), .second, .val (.long hv), .second, .val (.long sv), .second, .val (.long (hv / sv)), .second] [(.long ((hv / sv) * sv)), (.long hv)])) tT
      refine XS.lsub X2_.here hx rfl (Jvm.hb hby at_83) rfl ?_
      show Steps pP.tables eE below (T2_.setTop (mkF mM 84 #[.val (.long q1), .second, .val (.long q2), .second, .val (.long hv), .second, .val (.long sv), .second, .val (.long (hv / sv)), .second] [(.long (hv - ((hv / sv) * sv)))])) tT
      refine XS.lload X2_.here hx rfl (Jvm.hb hby at_84) rfl ?_
      show Steps pP.tables eE below (T2_.setTop (mkF mM 86 #[.val (.long q1), .second, .val (.long q2), .second, .val (.long hv), .second, .val (.long sv), .second, .val (.long (hv / sv)), .second] [(.long sv), (.long (hv - ((hv / sv) * sv)))])) tT
      refine XS.lcmp X2_.here hx rfl (Jvm.hb hby at_86) rfl ?_
      show Steps pP.tables eE below (T2_.setTop (mkF mM 87 #[.val (.long q1), .second, .val (.long q2), .second, .val (.long hv), .second, .val (.long sv), .second, .val (.long (hv / sv)), .second] [(.int (lcmpW (hv - ((hv / sv) * sv)) sv))])) tT
      refine XS.ifNo X2_.here hx rfl (Jvm.hb hby at_87) rfl ((if0 _ _).trans (tlt ((lw_lt (hv - ((hv / sv) * sv)) sv).mpr (own_p4 hh hs : (hv - ((hv / sv) * sv)) < sv))).2.1) ?_
      show Steps pP.tables eE below (T2_.setTop (mkF mM 90 #[.val (.long q1), .second, .val (.long q2), .second, .val (.long hv), .second, .val (.long sv), .second, .val (.long (hv / sv)), .second] [])) tT
      refine XS.iconst X2_.here hx rfl (Jvm.hb hby at_90) ?_
      show Steps pP.tables eE below (T2_.setTop (mkF mM 91 #[.val (.long q1), .second, .val (.long q2), .second, .val (.long hv), .second, .val (.long sv), .second, .val (.long (hv / sv)), .second] [(.int (1 : Int32))])) tT
      refine XS.goto X2_.here hx rfl (pc0 := 91) (pc' := 95) rfl (Jvm.hb hby at_91) (by decide) (by decide) ?_
      show Steps pP.tables eE below (T2_.setTop (mkF mM 95 #[.val (.long q1), .second, .val (.long q2), .second, .val (.long hv), .second, .val (.long sv), .second, .val (.long (hv / sv)), .second] [(.int (1 : Int32))])) tT
      exact kK
    obtain ⟨fs, hr, hrun, hended, hW, hsame⟩ := X2_.leave (v := some (.int (1 : Int32))) (fun h => by rw [Bd.returns] at h; cases h)
    refine ⟨_, _, ?_, hrun, hended, _, _, rfl, ?_, ⟨_, rfl⟩, hW, hsame.mono (by decide) (by decide)⟩
    · show Steps pP.tables eE below (T2_.setTop (mkF mM 95 #[.val (.long q1), .second, .val (.long q2), .second, .val (.long hv), .second, .val (.long sv), .second, .val (.long (hv / sv)), .second] [(.int (1 : Int32))])) _
      exact retN X2_ hx (t := .boolean) Bd.returns (by simp) (Jvm.hb hby at_95) hr
    · show Q_rm0 Z q1 q2 h0 n0 _ T2_.heap _
      rw [p2__0]
      exact ⟨rfl, N2_⟩
set_option maxRecDepth 65536 in
set_option maxHeartbeats 40000000 in
theorem comes_1 {Post : Tables → Env → Array Value → State → Outcome → State → Prop} (hpost : ∀ tb e args s v u, (limb_1_1.after args s (.returned v) u = true ∧ limb_1_2.after args s (.returned v) u = true ∧ True) → FrameEnd s (.returned v) u (Jvm.fieldLocs frame_1_writes args s ++ Jvm.arrayLocs frame_1_arrays args s ++ Jvm.staticLocs frame_1_statics s) 0 0 → Post tb e args s (.returned v) u) :
    ArmFor flags0 classFile x code maxLocals ret World_1 tables_1 room_1 Calls_1 rest_1 Pre_1 Post := by
  intro l hfl _ _ p e ha hc hk s m args below hf hA hF happ hP
  obtain ⟨hcalls, hrest, hpre⟩ := hP
  obtain ⟨-, -, -, hnamed, -, -, -, hat⟩ := (Spec.applies_iff hf).mp happ
  obtain ⟨hg, hn⟩ := and_e (Cond.before_iff.mp (show (Jvm.Cond.and given_1 narrow_1).before args s = true from hpre))
  obtain ⟨gg1, gg2⟩ := and_e hg
  obtain ⟨gg3, gg4⟩ := and_e gg2
  obtain ⟨w0, w1, rfl⟩ : ∃ w0 w1 : Value, args = #[w0, w1] := by
    have hs : args.size = 2 := by simpa [Cond.value, given_1] using gg1
    obtain ⟨L⟩ := args
    match L, hs with
    | [w0, w1], _ => exact ⟨w0, w1, rfl⟩
  have hw := fun d (hd : d ∈ tables_1) => atoms_spec (ws := Jvm.Cond.code x code maxLocals ret :: tables_1) hat d (List.mem_cons_of_mem _ hd)
  have hfit : Fit s := fun {y c} hc i hi => by
    obtain ⟨ha, rfl⟩ := Array.getElem?_eq_some_iff.mp hc
    have q := List.all_eq_true.mp ((Array.all_eq_true_iff_forall_mem.mp hF) _ (Array.getElem_mem ha)) i (List.mem_range.mpr hi)
    simpa [Array.getElem?_eq_getElem hi] using q
  obtain ⟨i0, ei0⟩ := isL_v gg3
  obtain rfl : w0 = (.long i0) := Option.some.inj ei0
  obtain ⟨i1, ei1⟩ := isL_v gg4
  obtain rfl : w1 = (.long i1) := Option.some.inj ei1
  obtain ⟨n, o, h1, h2, h3, _, L, rfl, ⟨rfl, N⟩, hq⟩ := rm0 l s _ hw tables_1 i0 i1 s.heap s.heap.size (Nat.le_refl _)  p e ha hc hk s m _ below hf ((Spec.applies_iff_loose hf).mp happ).1 ⟨rfl, State.Warmed39.refl s, rfl⟩ trivial
  refine ⟨n, _, h1, h2, h3, hpost _ _ _ _ _ _ ⟨Cond.after_iff.mpr rfl, Cond.after_iff.mpr (eq_i res_at (Term.int_eval (1)) rfl), trivial⟩ ⟨hq.1, hq.2.1, (hq.2.2.sift fun y hy => Or.inr (N y hy)).mono (by decide) (by decide)⟩⟩
theorem main_1_1 : Claimed_1_1 := comes_1 fun _ _ _ _ _ _ h hF => ⟨h.1, hF⟩
theorem main_1_2 : Claimed_1_2 := comes_1 fun _ _ _ _ _ _ h hF => ⟨h.2.1, hF⟩
end Jvm.Pilot.@@N@@
namespace Jvm.Pilot.@@N@@
open Jvm Jvm.ClassFile Sem Op Lib Jvm.Free Jvm.Stand Jvm.Pilot.@@N@@.Jvm.D
/-! MADE BY PROGRAM (witnessworld.py) out of the Statement's table words and the real class files: 9 classes; the members and pool entries that the words name. The judged class is class 1, her method 1. -/
namespace start1
open Jvm.ClassFile
def u (s : String) : CpInfo := .utf8 (stringToUtf16 s)
/-- a pool by its gaps: so many unusable entries, then the entry; so many at the end -/
def gap : Nat → List CpInfo → List CpInfo
  | 0, r => r
  | n + 1, r => .unusable :: gap n r
def poolList (es : List (Nat × CpInfo)) (last : Nat) : List CpInfo := es.foldr (fun e r => gap e.1 (e.2 :: r)) (gap last [])
def pool (es : List (Nat × CpInfo)) (last : Nat) : Array CpInfo := ⟨poolList es last⟩
def fileOf (pool : Array CpInfo) (this : Nat) (attrs : Array Attribute := #[]) (ms : Array MethodInfo := #[]) (fl : Nat := 33) (sup : Nat := 0) (ifs : Array Nat := #[]) (fds : Array FieldInfo := #[]) : ClassFile where
  minorVersion := 0
  majorVersion := 65
  constantPool := pool
  accessFlags := fl
  thisClass := this
  superClass := sup
  interfaces := ifs
  fields := fds
  methods := ms
  attributes := attrs
def plain (name : String) (sup : Option ClassId) : Class where
  name := name
  kind := .ordinary
  loader := none
  accessFlags := 33
  super := sup
  interfaces := #[]
  cf := none
  fields := #[]
  methods := #[]
  instanceTypes := #[]
  staticTypes := #[]
  resolved := #[]
  callSites := []
  init := .initialized
  statics := none
  mirror := none

def pool0 : Array CpInfo := pool [(5, u "<init>"), (0, u "()V"), (1, .class_ 10), (1, u "java/lang/Object")] 113

def k0m0 : Method := { name := "<init>", desc := "()V", sig := { parameters := [], returnType := none }, accessFlags := 1, code := none }
/-- java/lang/Object -/
def k0 : Class := { plain "java/lang/Object" none with
  accessFlags := 33
  interfaces := #[]
  cf := some (fileOf pool0 8 #[] #[{ accessFlags := 1, nameIndex := 5, descriptorIndex := 6, attributes := #[] }] 33 0 #[] #[])
  fields := #[]
  methods := #[k0m0]
  instanceTypes := #[]
  staticTypes := #[]
  resolved := Array.replicate 124 none
  statics := none }

def pool1 : Array CpInfo := pool [(2, .class_ 4), (1, u "java/lang/Object"), (0, u "<init>"), (0, u "()V"), (2, .long 9223372036854775807), (1, .methodref 12 13), (0, .class_ 14), (0, .nameAndType 15 16), (0, u "com/example/waldrapp/waldrapp/Ranking"), (0, u "rangeOf"), (0, u "(JJ)J"), (0, .class_ 18), (0, u "com/example/waldrapp/waldrapp/RankingRangeOfPinLaw"), (2, u "law"), (0, u "(JJ)Z")] 3

def k1m0 : Method := { name := "<init>", desc := "()V", sig := { parameters := [], returnType := none }, accessFlags := 2, code := none }
def k1c1 : Code := { maxStack := 6, maxLocals := 10, code := code, exceptionTable := #[], attributes := #[] }
def k1m1 : Method := { name := "law", desc := "(JJ)Z", sig := { parameters := [.long, .long], returnType := some .boolean }, accessFlags := 9, code := some k1c1 }
/-- com/example/waldrapp/waldrapp/RankingRangeOfPinLaw -/
def k1 : Class := { plain "com/example/waldrapp/waldrapp/RankingRangeOfPinLaw" (some 0) with
  accessFlags := 49
  interfaces := #[]
  cf := some (fileOf pool1 17 #[] #[{ accessFlags := 2, nameIndex := 5, descriptorIndex := 6, attributes := #[] }, { accessFlags := 9, nameIndex := 21, descriptorIndex := 22, attributes := #[] }] 49 2 #[] #[])
  fields := #[]
  methods := #[k1m0, k1m1]
  instanceTypes := #[]
  staticTypes := #[]
  resolved := Array.replicate 26 none
  statics := none }

def pool2 : Array CpInfo := pool [(2, .class_ 4), (1, u "java/lang/Object"), (0, u "<init>"), (0, u "()V"), (95, .class_ 104), (1, u "com/example/waldrapp/waldrapp/Ranking"), (43, u "rangeOf"), (0, u "(JJ)J")] 49

def k2m0 : Method := { name := "<init>", desc := "()V", sig := { parameters := [], returnType := none }, accessFlags := 2, code := none }
def k2c1 : Code := { maxStack := 4, maxLocals := 4, code := prog_27_method_2_code, exceptionTable := #[], attributes := #[] }
def k2m1 : Method := { name := "rangeOf", desc := "(JJ)J", sig := { parameters := [.long, .long], returnType := some .long }, accessFlags := 8, code := some k2c1 }
/-- com/example/waldrapp/waldrapp/Ranking -/
def k2 : Class := { plain "com/example/waldrapp/waldrapp/Ranking" (some 0) with
  accessFlags := 32
  interfaces := #[]
  cf := some (fileOf pool2 102 #[] #[{ accessFlags := 2, nameIndex := 5, descriptorIndex := 6, attributes := #[] }, { accessFlags := 8, nameIndex := 148, descriptorIndex := 149, attributes := #[] }] 32 2 #[] #[])
  fields := #[]
  methods := #[k2m0, k2m1]
  instanceTypes := #[]
  staticTypes := #[]
  resolved := Array.replicate 199 none
  statics := none }

def pool3 : Array CpInfo := pool [(1, u "java/lang/Cloneable"), (0, .class_ 1), (0, u "java/lang/Object"), (0, .class_ 3)] 3

/-- java/lang/Cloneable -/
def k3 : Class := { plain "java/lang/Cloneable" (some 0) with
  accessFlags := 1537
  interfaces := #[]
  cf := some (fileOf pool3 2 #[] #[] 1537 4 #[] #[])
  fields := #[]
  methods := #[]
  instanceTypes := #[]
  staticTypes := #[]
  resolved := Array.replicate 8 none
  statics := none }

def pool4 : Array CpInfo := pool [(1, u "java/io/Serializable"), (0, .class_ 1), (0, u "java/lang/Object"), (0, .class_ 3)] 3

/-- java/io/Serializable -/
def k4 : Class := { plain "java/io/Serializable" (some 0) with
  accessFlags := 1537
  interfaces := #[]
  cf := some (fileOf pool4 2 #[] #[] 1537 4 #[] #[])
  fields := #[]
  methods := #[]
  instanceTypes := #[]
  staticTypes := #[]
  resolved := Array.replicate 8 none
  statics := none }

/-- the primitive byte -/
def k5 : Class := { plain "byte" none with kind := .primitive 'B', accessFlags := 0x411 }
/-- [B -/
def k6 : Class := { plain "[B" (some 0) with kind := .array 5 .byte, interfaces := #[3, 4], accessFlags := 1041 }

/-- the primitive int -/
def k7 : Class := { plain "int" none with kind := .primitive 'I', accessFlags := 0x411 }
/-- [I -/
def k8 : Class := { plain "[I" (some 0) with kind := .array 7 .int, interfaces := #[3, 4], accessFlags := 1041 }

def heap : Heap := #[]
def classes : Array Class := #[k0, k1, k2, k3, k4, k5, k6, k7, k8]
def interned : List (Array UInt16 × Addr) := []
def slotsUsed : Nat := 0
def theMethod : MethodId := ⟨1, 1⟩
def args0 : Array Value := #[.long 5, .long 3]
def aboutOver (below : List Frame) : State where
  vm := { classes := classes, interned := interned.toArray }
  heap := heap
  slotsUsed := slotsUsed
  threads := #[{ frames := .invoking theMethod args0 :: below }]
def below0 : List Frame := [.native { method := ⟨0, 0⟩, args := #[] }]
def about1 : State := aboutOver below0
def p0 : Program := .bare "" "" ""
def e0 : Env := launch0.env 0 0 0
theorem w_frames : about1.frames = Frame.invoking theMethod args0 :: below0 := rfl
set_option maxRecDepth 65536 in
theorem w_args : argsFit about1.vm theMethod args0 = true := by decide +kernel
set_option maxRecDepth 65536 in
theorem w_heap : heapFits about1 = true := by decide +kernel
set_option maxRecDepth 65536 in
theorem w_runnable : about1.curStatus? = some .runnable := by decide +kernel
set_option maxRecDepth 65536 in
theorem w_alone : about1.alone = true := by decide +kernel
set_option maxRecDepth 65536 in
theorem w_named : about1.methodNamed? x = some theMethod := by decide +kernel
set_option maxRecDepth 65536 in
theorem w_hears : about1.hears theMethod below0 = true := by decide +kernel
set_option maxRecDepth 65536 in
theorem w_ripe : about1.ripe theMethod args0 below0 = true := by decide +kernel
theorem w_running : about1.status = .running := rfl
set_option maxRecDepth 65536 in
theorem w_room : about1.hasRoom e0.platform room_1 = true :=
  launch0.hasRoom_least _ room_1 (by decide +kernel) (by decide +kernel) (by decide +kernel) (by decide +kernel) (by decide +kernel) (by decide +kernel)
theorem allAtoms_all (ts : List Jvm.Cond) (a : Array Jvm.Value) (st : Jvm.State) : (allAtoms ts).before a st = ts.all (fun c => c.before a st) := by
  induction ts with
  | nil => rfl
  | cons c t ih =>
    show (Jvm.Cond.and c (allAtoms t)).before a st = _
    rw [Jvm.Cond.before_and, ih, List.all_cons]
def words1 : List Jvm.Cond := Jvm.Cond.code x code maxLocals ret :: tables_1
/-- a 'code' word, met by the world's own term for the bytes: nothing is compared byte by byte -/
theorem code_word {y : MethodName} {bytes : ByteArray} {mx : Nat} {rt : Option FieldType} {a : Array Value} {s : State} {m : MethodId} {meth : Method} {c : Code} (h1 : s.methodNamed? y = some m) (h2 : s.vm.method? m = some meth) (h3 : meth.code = some c) (h4 : c.code = bytes)
    (h5 : (c.maxLocals == mx && c.exceptionTable.isEmpty && decide (c.maxStack ≤ mostOperands) && decide (meth.sig.returnType = rt) && !meth.locks && decide (parseMethodDescriptor y.desc = some meth.sig)) = true) : (Jvm.Cond.code y bytes mx rt).before a s = true := by
  simp only [Bool.and_eq_true, beq_iff_eq, Bool.not_eq_true', decide_eq_true_eq] at h5
  obtain ⟨⟨⟨⟨⟨g1, g2⟩, g3⟩, g4⟩, g5⟩, g6⟩ := h5
  simp [Cond.before, Cond.holds, Cond.value, h1, h2, h3, h4, g1, g2, g3, g4, g5, g6]
def isCode : Jvm.Cond → Bool
  | .code _ _ _ _ => true
  | _ => false
theorem all_split {L : List Jvm.Cond} {P : Jvm.Cond → Bool} (h1 : L.all (fun c => isCode c || P c) = true) (h2 : ∀ c ∈ L.filter isCode, P c = true) : L.all P = true := by
  refine List.all_eq_true.mpr fun c hc => ?_
  have h := List.all_eq_true.mp h1 c hc
  rcases Bool.eq_false_or_eq_true (isCode c) with hi | hi
  · exact h2 c (List.mem_filter.mpr ⟨hc, hi⟩)
  · simpa [hi] using h
set_option maxRecDepth 65536 in
theorem w_c0 : (Jvm.Cond.code x code maxLocals ret).before args0 about1 = true := code_word (m := ⟨1, 1⟩) (meth := k1m1) (c := k1c1) (by decide +kernel) rfl rfl rfl (by decide +kernel)
set_option maxRecDepth 65536 in
theorem w_c1 : (Jvm.Cond.code ({ cls := "com/example/waldrapp/waldrapp/Ranking", name := "rangeOf", desc := "(JJ)J" } : Jvm.MethodName) prog_27_method_2_code (4 : Nat) (Option.some Jvm.ClassFile.FieldType.long)).before args0 about1 = true := code_word (m := ⟨2, 1⟩) (meth := k2m1) (c := k2c1) (by decide +kernel) rfl rfl rfl (by decide +kernel)
def codes1 : List Jvm.Cond := [Jvm.Cond.code x code maxLocals ret, Jvm.Cond.code ({ cls := "com/example/waldrapp/waldrapp/Ranking", name := "rangeOf", desc := "(JJ)J" } : Jvm.MethodName) prog_27_method_2_code (4 : Nat) (Option.some Jvm.ClassFile.FieldType.long)]
set_option maxRecDepth 65536 in
theorem codes_eq : words1.filter isCode = codes1 := rfl
theorem w_codes : ∀ c ∈ words1.filter isCode, c.before args0 about1 = true := by
  rw [codes_eq]
  intro c hc
  simp only [codes1, List.mem_cons, List.not_mem_nil, or_false] at hc
  rcases hc with rfl | rfl
  · exact w_c0
  · exact w_c1
set_option maxRecDepth 65536 in
theorem w_t1 : words1.all (fun c => isCode c || c.before args0 about1) = true := by decide +kernel
theorem w_tables : (allAtoms (Jvm.Cond.code x code maxLocals ret :: tables_1)).before args0 about1 = true := by
  rw [allAtoms_all]
  show words1.all (fun c => c.before args0 about1) = true
  refine all_split ?_ w_codes
  rw [w_t1]
set_option maxRecDepth 65536 in
theorem w_case : (Jvm.Cond.and given_1 narrow_1).before args0 about1 = true := by decide +kernel
theorem w_applies : (headSpec (Jvm.Cond.code x code maxLocals ret :: tables_1) room_1).applies x e0.platform about1 = true :=
  (Spec.applies_iff w_frames).mpr ⟨w_running, w_runnable, w_alone, w_named, w_hears, w_ripe, w_room, w_tables⟩
theorem atStart : AtStart classFile x code maxLocals ret World_1 tables_1 room_1 Calls_1 rest_1 Pre_1 launch0 p0 e0 about1 theMethod args0 below0 :=
  ⟨lists_1, trivial, launch0.admits_env _ _ _, launch0.least_env, fairChoices_fair.cas, fairChoices_fair.clock, w_frames, w_args, w_heap, w_applies, trivial, trivial, w_case⟩
end start1
theorem witness_1 : WitnessClaimed_1 := ⟨start1.p0, start1.e0, start1.about1, start1.theMethod, start1.args0, start1.below0, start1.atStart⟩
end Jvm.Pilot.@@N@@
